import JvmDerived
import JvmDerived.Pilot.@@N@@Statement
import JvmDerived.Pilot.@@N@@Code
set_option linter.unusedVariables false
set_option linter.unusedSimpArgs false
@@BLOCK:NumsL.lean.txt@@
namespace Jvm.Pilot.@@N@@
open Jvm Jvm.ClassFile Sem Op Lib Jvm.Free Jvm.Stand Jvm.LawKit Jvm.RoadKit Bundle Jvm.Pilot.@@N@@.Jvm.D
/-! from the frame g at T the run ends in a return: Q of what is returned, the heap and the written places -/
def own_Fin (p : Program) (e : Env) (below : List Frame) (s T : State) (g : JFrame) (Q : Option Value → Heap → List Loc → Prop) (C S : Nat) : Prop :=
  ∃ s₂ o, Steps p.tables e below (T.setTop g) s₂ ∧ s₂.status = .running ∧ Ended s₂ below o ∧ ∃ v L, o = .returned v ∧ Q v s₂.heap L ∧ FrameEnd s o s₂ L C S
section Own
variable {p : Program} {l : Launch} {e : Env} {R : Room} {s : State} {m : MethodId} {args : Array Value} {below : List Frame} {meth : Method} {c : Code} {T T' : State} {g g' : JFrame} {locs : List Loc} {cells slots C S : Nat} {Q : Option Value → Heap → List Loc → Prop}
theorem own_go (h : ∀ t, Steps p.tables e below (T'.setTop g') t → Steps p.tables e below (T.setTop g) t) (k : own_Fin p e below s T' g' Q C S) : own_Fin p e below s T g Q C S := by
  obtain ⟨s2, o, h1, r⟩ := k
  exact ⟨s2, o, h _ h1, r⟩
theorem own_gt (h : Steps p.tables e below (T.setTop g) (T'.setTop g')) (k : own_Fin p e below s T' g' Q C S) : own_Fin p e below s T g Q C S := by
  obtain ⟨s2, o, h1, r⟩ := k
  exact ⟨s2, o, h.trans h1, r⟩
theorem own_end (X : Stand p l e R s m args below meth c T locs cells slots) (hnl : meth.locks = false) {v : Option Value} (hv : meth.sig.returnType = none → v = none)
    (st : ∀ fs, (∀ (f : JFrame) (acts : List Action), f.method = m → f.locked = none → f.entered = [] → (doReturn e (T.setTop f) acts v).1 = T.setFrames fs) → Steps p.tables e below (T.setTop g) (T.setFrames fs)) (hc : cells ≤ C) (hs : slots ≤ S) (hQ : Q v T.heap locs) : own_Fin p e below s T g Q C S := by
  obtain ⟨fs, hr, hrun, hended, hW, hsame⟩ := X.leave (v := v) hv hnl
  exact ⟨_, _, st fs hr, hrun, hended, _, _, rfl, hQ, ⟨_, rfl⟩, hW, hsame.mono hc hs⟩
theorem own_retZ (X : Stand p l e R s m args below meth c T locs cells slots) (hx : p.tables.exec = Jvm.exec) (hnl : meth.locks = false) {pc : Nat} {Ls : Array Slot} {z : Int32} {t : FieldType} {rest : List Value} (hret : meth.sig.returnType = some t) (ht : t = .boolean ∨ t = .byte ∨ t = .char ∨ t = .short)
    (hd : decode c.code pc = .ok (.ireturn, 1)) (hc : cells ≤ C) (hs : slots ≤ S) (hQ : Q (some (.int (nar t z))) T.heap locs) : own_Fin p e below s T (mkF m pc Ls (.int z :: rest)) Q C S :=
  own_end X hnl (fun h => by rw [hret] at h; cases h) (fun fs hr => retN X hx hret ht hd hr) hc hs hQ
theorem own_retI (X : Stand p l e R s m args below meth c T locs cells slots) (hx : p.tables.exec = Jvm.exec) (hnl : meth.locks = false) {pc : Nat} {Ls : Array Slot} {z : Int32} {rest : List Value} (hret : meth.sig.returnType = some .int)
    (hd : decode c.code pc = .ok (.ireturn, 1)) (hc : cells ≤ C) (hs : slots ≤ S) (hQ : Q (some (.int z)) T.heap locs) : own_Fin p e below s T (mkF m pc Ls (.int z :: rest)) Q C S :=
  own_end X hnl (fun h => by rw [hret] at h; cases h) (fun fs hr => by
    have hm' : T.vm.method? m = some meth := X.method'
    have hn : narrow .int (.int z) = .int z := rfl
    show Steps p.tables e below (T.setTop { method := m, pc := pc, locals := Ls, stack := _ :: rest, locked := none }) _
    jvm_step X.here [X.here.top, hx, hd, hm', hret, hn]
    first | (intro acts; rw [hr _ acts rfl rfl rfl]) | rw [hr _ _ rfl rfl rfl]
    exact Steps.refl _) hc hs hQ
theorem own_retJ (X : Stand p l e R s m args below meth c T locs cells slots) (hx : p.tables.exec = Jvm.exec) (hnl : meth.locks = false) {pc : Nat} {Ls : Array Slot} {z : Int64} (hret : meth.sig.returnType = some .long)
    (hd : decode c.code pc = .ok (.lreturn, 1)) (hc : cells ≤ C) (hs : slots ≤ S) (hQ : Q (some (.long z)) T.heap locs) : own_Fin p e below s T (mkF m pc Ls [.long z]) Q C S :=
  own_end X hnl (fun h => by rw [hret] at h; cases h) (fun fs hr => X.lreturnOut hx hret hd hr) hc hs hQ
theorem own_retV (X : Stand p l e R s m args below meth c T locs cells slots) (hx : p.tables.exec = Jvm.exec) (hnl : meth.locks = false) {pc : Nat} {Ls : Array Slot} (hret : meth.sig.returnType = none)
    (hd : decode c.code pc = .ok (.return_, 1)) (hc : cells ≤ C) (hs : slots ≤ S) (hQ : Q none T.heap locs) : own_Fin p e below s T (mkF m pc Ls []) Q C S :=
  own_end X hnl (fun _ => rfl) (fun fs hr => X.returnOut hx hret hd hr) hc hs hQ
end Own
theorem d2_0 : decode jdk_30_method_1_code 0 = .ok (.aload_n 0, 1) := by decide +kernel
theorem d2_1 : decode jdk_30_method_1_code 1 = .ok (.invokespecial 1, 3) := by decide +kernel
theorem d2_4 : decode jdk_30_method_1_code 4 = .ok (.return_, 1) := by decide +kernel
theorem pn_2 : plainName "java/lang/Record" = true := by first | (simp [plainName, overriddenIn]; done) | decide +kernel
theorem ef_2 (m : MethodId) (x0 : Addr) : entryFrame m #[(.ref x0)] 1 = mkF m 0 #[.val (.ref x0)] [] := by first | (simp [entryFrame, mkF, argsToLocals, Value.category]; done) | rfl
def Q2 (Z : State) (x0 : Addr) (h0 : Heap) (n0 : Nat) (v : Option Value) (h : Heap) (L : List Loc) : Prop := v = none ∧ Fr n0 L ∧ h = h0
set_option maxRecDepth 65536 in
set_option maxHeartbeats 40000000 in
theorem rm2 (l : Launch) (Z : State) (a0 : Array Value) (hw : ∀ d ∈ tables_1, d.before a0 Z = true) (ws : List Jvm.Cond) (x0 : Addr) (h0 : Heap) (n0 : Nat) (Z0 : n0 ≤ h0.size) :
    MetFree l (⟨"java/lang/Record", "<init>", "()V"⟩ : MethodName) (head1 (Jvm.Cond.code (⟨"java/lang/Record", "<init>", "()V"⟩ : MethodName) jdk_30_method_1_code 1 none :: ws) ({ frames := 1, cells := 0, slots := 0, locals := 12 } : Room)) (fun a U => a = #[(.ref x0)] ∧ Z.Warmed39 U.vm ∧ U.heap = h0) (fun _ _ _ _ _ => True) (fun _ U o U' => ∃ v L, o = .returned v ∧ Q2 Z x0 h0 n0 v U'.heap L ∧ FrameEnd U o U' L ({ frames := 1, cells := 0, slots := 0, locals := 12 } : Room).cells ({ frames := 1, cells := 0, slots := 0, locals := 12 } : Room).slots) := by
  refine MetFree.of_bodySF (plainFor_of_name pn_2) hisR ?_
  intro p e s m args below meth c s₁ Bd hml0 hP hK
  obtain ⟨rfl, hZ, hh⟩ := hP
  have hx := Bd.exec
  have hby := Bd.bytes
  have hret := Bd.returns
  have hnl : meth.locks = false := Bd.notSynchronized
  have hml : c.maxLocals = 1 := hml0
  have hown : s.vm.findClass "java/lang/Record" = some m.cls := findClass_of_methodNamed Bd.named
  have hnm := (name_of_methodNamed Bd.named Bd.method).1
  have X0 : Stand p l e ({ frames := 1, cells := 0, slots := 0, locals := 12 } : Room) s m #[(.ref x0)] below meth c s₁ [] 0 0 := Stand.of_body Bd
  have e0 : s₁.heap = h0 := by rw [← hh, Bd.state]; rfl
  have N0 := Fr.nil n0
  suffices key : own_Fin p e below s s₁ (mkF m 0 #[.val (.ref x0)] []) (Q2 Z x0 h0 n0) ({ frames := 1, cells := 0, slots := 0, locals := 12 } : Room).cells ({ frames := 1, cells := 0, slots := 0, locals := 12 } : Room).slots by
    obtain ⟨s2, o, h1, h2⟩ := key
    exact ⟨s2, o, castTop (ef_2 m x0) h1, h2⟩
  refine own_go (fun _ => XS.aloadN X0.here hx rfl (hb hby d2_0) rfl rfl) ?_
  show own_Fin _ _ _ _ s₁ (mkF m 1 #[.val (.ref x0)] [(.ref x0)]) _ _ _
  obtain ⟨T1, X1, e1, st1⟩ := initO X0 hx hZ hown (hw _ (List.mem_of_getElem? (i := 11) rfl)) (hw _ (List.mem_of_getElem? (i := 12) rfl)) (hw _ (List.mem_of_getElem? (i := 13) rfl)) e0 (g := (mkF m 1 #[.val (.ref x0)] [(.ref x0)])) rfl (by rw [hml]; rfl) rfl (hb hby d2_1) (by decide) (W := 0) (by show 2 * 0 + _ ≤ _; exact Nat.le_of_eq rfl) (by decide)
  refine own_go st1 ?_
  show own_Fin _ _ _ _ T1 (mkF m 4 #[.val (.ref x0)] []) _ _ _
  exact own_retV X1 hx hnl hret (hb hby d2_4) (by decide) (by decide) ⟨rfl, N0, e1⟩

theorem d1_0 : decode prog_19_method_1_code 0 = .ok (.aload_n 0, 1) := by decide +kernel
theorem d1_1 : decode prog_19_method_1_code 1 = .ok (.invokespecial 1, 3) := by decide +kernel
theorem d1_4 : decode prog_19_method_1_code 4 = .ok (.aload_n 0, 1) := by decide +kernel
theorem d1_5 : decode prog_19_method_1_code 5 = .ok (.lload_n 1, 1) := by decide +kernel
theorem d1_6 : decode prog_19_method_1_code 6 = .ok (.putfield 7, 3) := by decide +kernel
theorem d1_9 : decode prog_19_method_1_code 9 = .ok (.aload_n 0, 1) := by decide +kernel
theorem d1_10 : decode prog_19_method_1_code 10 = .ok (.iload_n 3, 1) := by decide +kernel
theorem d1_11 : decode prog_19_method_1_code 11 = .ok (.putfield 13, 3) := by decide +kernel
theorem d1_14 : decode prog_19_method_1_code 14 = .ok (.return_, 1) := by decide +kernel
theorem pd_0 : parseMethodDescriptor "()V" = some ⟨[], none⟩ := by decide +kernel
theorem pn_1 : plainName "com/example/olefin_desk/olefindesk/OpenInterestLevel" = true := by first | (simp [plainName, overriddenIn]; done) | decide +kernel
theorem ef_1 (m : MethodId) (x0 : Addr) (x1 : Int64) (x2 : Int32) : entryFrame m #[(.ref x0), (.long x1), (.int x2)] 4 = mkF m 0 #[.val (.ref x0), .val (.long x1), .second, .val (.int x2)] [] := by first | (simp [entryFrame, mkF, argsToLocals, Value.category]; done) | rfl
def Q1 (Z : State) (x0 : Addr) (x1 : Int64) (x2 : Int32) (u0 : Value) (u1 : Value) (h0 : Heap) (n0 : Nat) (v : Option Value) (h : Heap) (L : List Loc) : Prop := v = none ∧ Fr n0 L ∧ Keep h0 h [x0] ∧ Exa Z h x0 "com/example/olefin_desk/olefindesk/OpenInterestLevel" ∧ Fld Z h x0 "com/example/olefin_desk/olefindesk/OpenInterestLevel" "lots" "J" (.long x1) ∧ Fld Z h x0 "com/example/olefin_desk/olefindesk/OpenInterestLevel" "orMore" "Z" (.int (nar .boolean x2))
set_option maxRecDepth 65536 in
set_option maxHeartbeats 40000000 in
theorem rm1 (l : Launch) (Z : State) (a0 : Array Value) (hw : ∀ d ∈ tables_1, d.before a0 Z = true) (ws : List Jvm.Cond) (x0 : Addr) (x1 : Int64) (x2 : Int32) (u0 : Value) (u1 : Value) (h0 : Heap) (n0 : Nat) (Z0 : n0 ≤ h0.size) (E_x0 : Exa Z h0 x0 "com/example/olefin_desk/olefindesk/OpenInterestLevel") (g_x0 : n0 ≤ x0) (F0 : Fld Z h0 x0 "com/example/olefin_desk/olefindesk/OpenInterestLevel" "lots" "J" u0) (F1 : Fld Z h0 x0 "com/example/olefin_desk/olefindesk/OpenInterestLevel" "orMore" "Z" u1) :
    MetFree l (⟨"com/example/olefin_desk/olefindesk/OpenInterestLevel", "<init>", "(JZ)V"⟩ : MethodName) (head1 (Jvm.Cond.code (⟨"com/example/olefin_desk/olefindesk/OpenInterestLevel", "<init>", "(JZ)V"⟩ : MethodName) prog_19_method_1_code 4 none :: ws) ({ frames := 2, cells := 0, slots := 0, locals := 24 } : Room)) (fun a U => a = #[(.ref x0), (.long x1), (.int x2)] ∧ Z.Warmed39 U.vm ∧ U.heap = h0) (fun _ _ _ _ _ => True) (fun _ U o U' => ∃ v L, o = .returned v ∧ Q1 Z x0 x1 x2 u0 u1 h0 n0 v U'.heap L ∧ FrameEnd U o U' L ({ frames := 2, cells := 0, slots := 0, locals := 24 } : Room).cells ({ frames := 2, cells := 0, slots := 0, locals := 24 } : Room).slots) := by
  refine MetFree.of_bodySF (plainFor_of_name pn_1) hisR ?_
  intro p e s m args below meth c s₁ Bd hml0 hP hK
  obtain ⟨rfl, hZ, hh⟩ := hP
  have hx := Bd.exec
  have hby := Bd.bytes
  have hret := Bd.returns
  have hnl : meth.locks = false := Bd.notSynchronized
  have hml : c.maxLocals = 4 := hml0
  have hown : s.vm.findClass "com/example/olefin_desk/olefindesk/OpenInterestLevel" = some m.cls := findClass_of_methodNamed Bd.named
  have hnm := (name_of_methodNamed Bd.named Bd.method).1
  have X0 : Stand p l e ({ frames := 2, cells := 0, slots := 0, locals := 24 } : Room) s m #[(.ref x0), (.long x1), (.int x2)] below meth c s₁ [] 0 0 := Stand.of_body Bd
  have e0 : s₁.heap = h0 := by rw [← hh, Bd.state]; rfl
  have N0 := Fr.nil n0
  suffices key : own_Fin p e below s s₁ (mkF m 0 #[.val (.ref x0), .val (.long x1), .second, .val (.int x2)] []) (Q1 Z x0 x1 x2 u0 u1 h0 n0) ({ frames := 2, cells := 0, slots := 0, locals := 24 } : Room).cells ({ frames := 2, cells := 0, slots := 0, locals := 24 } : Room).slots by
    obtain ⟨s2, o, h1, h2⟩ := key
    exact ⟨s2, o, castTop (ef_1 m x0 x1 x2) h1, h2⟩
  refine own_go (fun _ => XS.aloadN X0.here hx rfl (hb hby d1_0) rfl rfl) ?_
  show own_Fin _ _ _ _ s₁ (mkF m 1 #[.val (.ref x0), .val (.long x1), .second, .val (.int x2)] [(.ref x0)]) _ _ _
  obtain ⟨_, _, ⟨T1, L1, k1, n1⟩, -, X1, ⟨Lc1, hQ1, l1, y1, z1⟩, st1⟩ := X0.specialBack hx (y := (⟨"java/lang/Record", "<init>", "()V"⟩ : MethodName)) rfl hown (mvT hZ (hw _ (List.mem_of_getElem? (i := 6) rfl))) (mvT hZ (hw _ (List.mem_of_getElem? (i := 7) rfl))) (mvT hZ (hw _ (List.mem_of_getElem? (i := 10) rfl))) (by decide) (backOf (W := 0) (rm2 l Z a0 hw [] x0  h0 n0 Z0 ) hZ (hw _ (List.mem_of_getElem? (i := 10) rfl)) (hw _ (List.mem_of_getElem? (i := 9) rfl)) (by decide) (by decide)) (g := (mkF m 1 #[.val (.ref x0), .val (.long x1), .second, .val (.int x2)] [(.ref x0)])) rfl (by rw [hml]; rfl) (Steps.refl _) (a := x0) (argsL := []) (rest := []) (lenOf pd_0 rfl) rfl (by show 2 * 0 + _ ≤ _; exact Nat.le_of_eq rfl) (hb hby d1_1) (fun _ _ => ⟨rfl, e0, (by decide : 0 + 0 ≤ _), (by decide : 0 + 0 ≤ _)⟩)
  dsimp only [Pt.U, Pt.locs, Pt.cells, Pt.slots] at X1 l1 y1 z1 st1 hQ1
  subst l1 y1 z1
  obtain ⟨rfl, N1q, e1⟩ := hQ1
  have N1 := Fr.app N0 N1q
  refine own_gt st1 ?_
  show own_Fin _ _ _ _ T1 (mkF m 4 #[.val (.ref x0), .val (.long x1), .second, .val (.int x2)] []) _ _ _
  refine own_go (fun _ => XS.aloadN X1.here hx rfl (hb hby d1_4) rfl rfl) ?_
  show own_Fin _ _ _ _ T1 (mkF m 5 #[.val (.ref x0), .val (.long x1), .second, .val (.int x2)] [(.ref x0)]) _ _ _
  refine own_go (fun _ => XS.lloadN X1.here hx rfl (hb hby d1_5) rfl) ?_
  show own_Fin _ _ _ _ T1 (mkF m 6 #[.val (.ref x0), .val (.long x1), .second, .val (.int x2)] [(.long x1), (.ref x0)]) _ _ _
  obtain ⟨T2, h2, X2, e2, W2, st2⟩ := putF X1 hx hZ hown (host := "") (Or.inl (hw _ (List.mem_of_getElem? (i := 14) rfl))) Via.refl e1 F0 E_x0 (Or.inr ⟨(hw _ (List.mem_of_getElem? (i := 15) rfl)), rfl, hnm⟩) (hw _ (List.mem_of_getElem? (i := 1) rfl)) (ty := .long) (by decide) rfl rfl (g := (mkF m 6 #[.val (.ref x0), .val (.long x1), .second, .val (.int x2)] [(.long x1), (.ref x0)])) rfl rfl (hb hby d1_6)
  have F2_x0_lots := (F0).same W2
  have F2_x0_orMore := (F1).other W2 (Or.inr (slot_ne (Or.inr (hw _ (List.mem_of_getElem? (i := 17) rfl))) (Or.inr (hw _ (List.mem_of_getElem? (i := 15) rfl))) (by decide) (t := .boolean) (t' := .long) (by decide) (by decide)))
  have E2_x0 := (E_x0).wr W2
  have K2 : Keep h0 h2 [x0] := ((Keep.refl h0 [x0])).wr W2 (Or.inl (List.mem_of_getElem? (i := 0) rfl))
  have N2 := Fr.snoc X2 N1 g_x0
  have Z2 : n0 ≤ h2.size := Nat.le_trans Z0 (Keep.of_wr W2).1
  refine own_go st2 ?_
  show own_Fin _ _ _ _ T2 (mkF m 9 #[.val (.ref x0), .val (.long x1), .second, .val (.int x2)] []) _ _ _
  refine own_go (fun _ => XS.aloadN X2.here hx rfl (hb hby d1_9) rfl rfl) ?_
  show own_Fin _ _ _ _ T2 (mkF m 10 #[.val (.ref x0), .val (.long x1), .second, .val (.int x2)] [(.ref x0)]) _ _ _
  refine own_go (fun _ => XS.iloadN X2.here hx rfl (hb hby d1_10) rfl) ?_
  show own_Fin _ _ _ _ T2 (mkF m 11 #[.val (.ref x0), .val (.long x1), .second, .val (.int x2)] [(.int x2), (.ref x0)]) _ _ _
  obtain ⟨T3, h3, X3, e3, W3, st3⟩ := putFN X2 hx hZ hown (hw _ (List.mem_of_getElem? (i := 16) rfl)) Via.refl e2 F2_x0_orMore E2_x0 (Or.inr ⟨(hw _ (List.mem_of_getElem? (i := 17) rfl)), rfl, hnm⟩) (hw _ (List.mem_of_getElem? (i := 1) rfl)) (ty := .boolean) (v' := .int (nar .boolean x2)) (by decide) rfl (fits_nar_bool _) (g := (mkF m 11 #[.val (.ref x0), .val (.long x1), .second, .val (.int x2)] [(.int x2), (.ref x0)])) rfl rfl (hb hby d1_11)
  have F3_x0_lots := (F2_x0_lots).other W3 (Or.inr (slot_ne (Or.inr (hw _ (List.mem_of_getElem? (i := 15) rfl))) (Or.inr (hw _ (List.mem_of_getElem? (i := 17) rfl))) (by decide) (t := .long) (t' := .boolean) (by decide) (by decide)))
  have F3_x0_orMore := (F2_x0_orMore).same W3
  have E3_x0 := (E2_x0).wr W3
  have K3 : Keep h0 h3 [x0] := (K2).wr W3 (Or.inl (List.mem_of_getElem? (i := 0) rfl))
  have N3 := Fr.snoc X3 N2 g_x0
  have Z3 : n0 ≤ h3.size := Nat.le_trans Z2 (Keep.of_wr W3).1
  refine own_go st3 ?_
  show own_Fin _ _ _ _ T3 (mkF m 14 #[.val (.ref x0), .val (.long x1), .second, .val (.int x2)] []) _ _ _
  exact own_retV X3 hx hnl hret (hb hby d1_14) (by decide) (by decide) ⟨rfl, N3, by rw [e3]; exact K3, by rw [e3]; exact E3_x0, by rw [e3]; exact F3_x0_lots, by rw [e3]; exact F3_x0_orMore⟩

def own_reach (o : Int32) (lots x : Int64) : Int32 := if o = 0 then (if lots < x then 1 else 0) else (if x < lots then 0 else 1)
theorem d4_0 : decode prog_19_method_4_code 0 = .ok (.aload_n 0, 1) := by decide +kernel
theorem d4_1 : decode prog_19_method_4_code 1 = .ok (.getfield 13, 3) := by decide +kernel
theorem d4_4 : decode prog_19_method_4_code 4 = .ok (.ifCond .eq 20, 3) := by decide +kernel
theorem d4_7 : decode prog_19_method_4_code 7 = .ok (.lload_n 1, 1) := by decide +kernel
theorem d4_8 : decode prog_19_method_4_code 8 = .ok (.aload_n 0, 1) := by decide +kernel
theorem d4_9 : decode prog_19_method_4_code 9 = .ok (.getfield 7, 3) := by decide +kernel
theorem d4_12 : decode prog_19_method_4_code 12 = .ok (.lcmp, 1) := by decide +kernel
theorem d4_13 : decode prog_19_method_4_code 13 = .ok (.ifCond .lt 7, 3) := by decide +kernel
theorem d4_16 : decode prog_19_method_4_code 16 = .ok (.iconst 1, 1) := by decide +kernel
theorem d4_17 : decode prog_19_method_4_code 17 = .ok (.goto 21, 3) := by decide +kernel
theorem d4_20 : decode prog_19_method_4_code 20 = .ok (.iconst 0, 1) := by decide +kernel
theorem d4_21 : decode prog_19_method_4_code 21 = .ok (.goto 17, 3) := by decide +kernel
theorem d4_24 : decode prog_19_method_4_code 24 = .ok (.lload_n 1, 1) := by decide +kernel
theorem d4_25 : decode prog_19_method_4_code 25 = .ok (.aload_n 0, 1) := by decide +kernel
theorem d4_26 : decode prog_19_method_4_code 26 = .ok (.getfield 7, 3) := by decide +kernel
theorem d4_29 : decode prog_19_method_4_code 29 = .ok (.lcmp, 1) := by decide +kernel
theorem d4_30 : decode prog_19_method_4_code 30 = .ok (.ifCond .le 7, 3) := by decide +kernel
theorem d4_33 : decode prog_19_method_4_code 33 = .ok (.iconst 1, 1) := by decide +kernel
theorem d4_34 : decode prog_19_method_4_code 34 = .ok (.goto 4, 3) := by decide +kernel
theorem d4_37 : decode prog_19_method_4_code 37 = .ok (.iconst 0, 1) := by decide +kernel
theorem d4_38 : decode prog_19_method_4_code 38 = .ok (.ireturn, 1) := by decide +kernel
theorem pn_4 : plainName "com/example/olefin_desk/olefindesk/OpenInterestLevel" = true := by first | (simp [plainName, overriddenIn]; done) | decide +kernel
theorem ef_4 (m : MethodId) (x0 : Addr) (x1 : Int64) : entryFrame m #[(.ref x0), (.long x1)] 3 = mkF m 0 #[.val (.ref x0), .val (.long x1), .second] [] := by first | (simp [entryFrame, mkF, argsToLocals, Value.category]; done) | rfl
def Q4 (Z : State) (x0 : Addr) (x1 : Int64) (o1 : Int32) (l1 : Int64) (h0 : Heap) (n0 : Nat) (v : Option Value) (h : Heap) (L : List Loc) : Prop := v = some (.int (own_reach o1 l1 x1)) ∧ Fr n0 L ∧ h = h0
set_option maxRecDepth 65536 in
set_option maxHeartbeats 40000000 in
theorem rm4 (l : Launch) (Z : State) (a0 : Array Value) (hw : ∀ d ∈ tables_1, d.before a0 Z = true) (ws : List Jvm.Cond) (x0 : Addr) (x1 : Int64) (o1 : Int32) (l1 : Int64) (h0 : Heap) (n0 : Nat) (Z0 : n0 ≤ h0.size) (F0 : Fld Z h0 x0 "com/example/olefin_desk/olefindesk/OpenInterestLevel" "lots" "J" (.long l1)) (F1 : Fld Z h0 x0 "com/example/olefin_desk/olefindesk/OpenInterestLevel" "orMore" "Z" (.int o1)) :
    MetFree l (⟨"com/example/olefin_desk/olefindesk/OpenInterestLevel", "isReachedBy", "(J)Z"⟩ : MethodName) (head1 (Jvm.Cond.code (⟨"com/example/olefin_desk/olefindesk/OpenInterestLevel", "isReachedBy", "(J)Z"⟩ : MethodName) prog_19_method_4_code 3 (some .boolean) :: ws) ({ frames := 0, cells := 0, slots := 0, locals := 0 } : Room)) (fun a U => a = #[(.ref x0), (.long x1)] ∧ Z.Warmed39 U.vm ∧ U.heap = h0) (fun _ _ _ _ _ => True) (fun _ U o U' => ∃ v L, o = .returned v ∧ Q4 Z x0 x1 o1 l1 h0 n0 v U'.heap L ∧ FrameEnd U o U' L ({ frames := 0, cells := 0, slots := 0, locals := 0 } : Room).cells ({ frames := 0, cells := 0, slots := 0, locals := 0 } : Room).slots) := by
  refine MetFree.of_bodySF (plainFor_of_name pn_4) hisR ?_
  intro p e s m args below meth c s₁ Bd hml0 hP hK
  obtain ⟨rfl, hZ, hh⟩ := hP
  have hx := Bd.exec
  have hby := Bd.bytes
  have hret := Bd.returns
  have hnl : meth.locks = false := Bd.notSynchronized
  have hml : c.maxLocals = 3 := hml0
  have hown : s.vm.findClass "com/example/olefin_desk/olefindesk/OpenInterestLevel" = some m.cls := findClass_of_methodNamed Bd.named
  have hnm := (name_of_methodNamed Bd.named Bd.method).1
  have X0 : Stand p l e ({ frames := 0, cells := 0, slots := 0, locals := 0 } : Room) s m #[(.ref x0), (.long x1)] below meth c s₁ [] 0 0 := Stand.of_body Bd
  have e0 : s₁.heap = h0 := by rw [← hh, Bd.state]; rfl
  have N0 := Fr.nil n0
  suffices key : own_Fin p e below s s₁ (mkF m 0 #[.val (.ref x0), .val (.long x1), .second] []) (Q4 Z x0 x1 o1 l1 h0 n0) ({ frames := 0, cells := 0, slots := 0, locals := 0 } : Room).cells ({ frames := 0, cells := 0, slots := 0, locals := 0 } : Room).slots by
    obtain ⟨s2, o, h1, h2⟩ := key
    exact ⟨s2, o, castTop (ef_4 m x0 x1) h1, h2⟩
  refine own_go (fun _ => XS.aloadN X0.here hx rfl (hb hby d4_0) rfl rfl) ?_
  show own_Fin _ _ _ _ s₁ (mkF m 1 #[.val (.ref x0), .val (.long x1), .second] [(.ref x0)]) _ _ _
  obtain ⟨T1, X1, e1, st1⟩ := getF X0 hx hZ hown (host := "") (Or.inl (hw _ (List.mem_of_getElem? (i := 16) rfl))) Via.refl e0 F1 (g := (mkF m 1 #[.val (.ref x0), .val (.long x1), .second] [(.ref x0)])) rfl rfl (hb hby d4_1)
  refine own_go st1 ?_
  show own_Fin _ _ _ _ T1 (mkF m 4 #[.val (.ref x0), .val (.long x1), .second] [(.int o1)]) _ _ _
  by_cases h4 : o1 = (0 : Int32)
  · refine own_go (fun _ => XS.ifYes X1.here hx rfl (pc0 := 4) (pc' := 24) rfl (hb hby d4_4) rfl ((if0 _ _).trans (teq h4).1) (by decide) (by decide)) ?_
    show own_Fin _ _ _ _ T1 (mkF m 24 #[.val (.ref x0), .val (.long x1), .second] []) _ _ _
    refine own_go (fun _ => XS.lloadN X1.here hx rfl (hb hby d4_24) rfl) ?_
    show own_Fin _ _ _ _ T1 (mkF m 25 #[.val (.ref x0), .val (.long x1), .second] [(.long x1)]) _ _ _
    refine own_go (fun _ => XS.aloadN X1.here hx rfl (hb hby d4_25) rfl rfl) ?_
    show own_Fin _ _ _ _ T1 (mkF m 26 #[.val (.ref x0), .val (.long x1), .second] [(.ref x0), (.long x1)]) _ _ _
    obtain ⟨T2, X2, e2, st2⟩ := getF X1 hx hZ hown (host := "") (Or.inl (hw _ (List.mem_of_getElem? (i := 14) rfl))) Via.refl e1 F0 (g := (mkF m 26 #[.val (.ref x0), .val (.long x1), .second] [(.ref x0), (.long x1)])) rfl rfl (hb hby d4_26)
    refine own_go st2 ?_
    show own_Fin _ _ _ _ T2 (mkF m 29 #[.val (.ref x0), .val (.long x1), .second] [(.long l1), (.long x1)]) _ _ _
    refine own_go (fun _ => XS.lcmp X2.here hx rfl (hb hby d4_29) rfl) ?_
    show own_Fin _ _ _ _ T2 (mkF m 30 #[.val (.ref x0), .val (.long x1), .second] [(.int (lcmpW x1 l1))]) _ _ _
    by_cases h30 : l1 < x1
    · refine own_go (fun _ => XS.ifNo X2.here hx rfl (hb hby d4_30) rfl ((if0 _ _).trans (tlt ((lw_gt _ _).mpr h30)).2.2.2)) ?_
      show own_Fin _ _ _ _ T2 (mkF m 33 #[.val (.ref x0), .val (.long x1), .second] []) _ _ _
      refine own_go (fun _ => XS.iconst X2.here hx rfl (hb hby d4_33)) ?_
      show own_Fin _ _ _ _ T2 (mkF m 34 #[.val (.ref x0), .val (.long x1), .second] [(.int (1 : Int32))]) _ _ _
      refine own_go (fun _ => XS.goto X2.here hx rfl (pc0 := 34) (pc' := 38) rfl (hb hby d4_34) (by decide) (by decide)) ?_
      show own_Fin _ _ _ _ T2 (mkF m 38 #[.val (.ref x0), .val (.long x1), .second] [(.int (1 : Int32))]) _ _ _
      exact own_retZ X2 hx hnl (t := .boolean) hret (by simp) (hb hby d4_38) (by decide) (by decide) ⟨congrArg (fun z => some (Value.int z)) (show ((1 : Int32) : Int32) = own_reach o1 l1 x1 from by simp [own_reach, h4, h30]), N0, e2⟩
    · refine own_go (fun _ => XS.ifYes X2.here hx rfl (pc0 := 30) (pc' := 37) rfl (hb hby d4_30) rfl ((if0 _ _).trans (flt (mt (lw_gt _ _).mp h30)).2.2.2) (by decide) (by decide)) ?_
      show own_Fin _ _ _ _ T2 (mkF m 37 #[.val (.ref x0), .val (.long x1), .second] []) _ _ _
      refine own_go (fun _ => XS.iconst X2.here hx rfl (hb hby d4_37)) ?_
      show own_Fin _ _ _ _ T2 (mkF m 38 #[.val (.ref x0), .val (.long x1), .second] [(.int (0 : Int32))]) _ _ _
      exact own_retZ X2 hx hnl (t := .boolean) hret (by simp) (hb hby d4_38) (by decide) (by decide) ⟨congrArg (fun z => some (Value.int z)) (show ((0 : Int32) : Int32) = own_reach o1 l1 x1 from by simp [own_reach, h4, h30]), N0, e2⟩
  · refine own_go (fun _ => XS.ifNo X1.here hx rfl (hb hby d4_4) rfl ((if0 _ _).trans (feq h4).1)) ?_
    show own_Fin _ _ _ _ T1 (mkF m 7 #[.val (.ref x0), .val (.long x1), .second] []) _ _ _
    refine own_go (fun _ => XS.lloadN X1.here hx rfl (hb hby d4_7) rfl) ?_
    show own_Fin _ _ _ _ T1 (mkF m 8 #[.val (.ref x0), .val (.long x1), .second] [(.long x1)]) _ _ _
    refine own_go (fun _ => XS.aloadN X1.here hx rfl (hb hby d4_8) rfl rfl) ?_
    show own_Fin _ _ _ _ T1 (mkF m 9 #[.val (.ref x0), .val (.long x1), .second] [(.ref x0), (.long x1)]) _ _ _
    obtain ⟨T3, X3, e3, st3⟩ := getF X1 hx hZ hown (host := "") (Or.inl (hw _ (List.mem_of_getElem? (i := 14) rfl))) Via.refl e1 F0 (g := (mkF m 9 #[.val (.ref x0), .val (.long x1), .second] [(.ref x0), (.long x1)])) rfl rfl (hb hby d4_9)
    refine own_go st3 ?_
    show own_Fin _ _ _ _ T3 (mkF m 12 #[.val (.ref x0), .val (.long x1), .second] [(.long l1), (.long x1)]) _ _ _
    refine own_go (fun _ => XS.lcmp X3.here hx rfl (hb hby d4_12) rfl) ?_
    show own_Fin _ _ _ _ T3 (mkF m 13 #[.val (.ref x0), .val (.long x1), .second] [(.int (lcmpW x1 l1))]) _ _ _
    by_cases h13 : x1 < l1
    · refine own_go (fun _ => XS.ifYes X3.here hx rfl (pc0 := 13) (pc' := 20) rfl (hb hby d4_13) rfl ((if0 _ _).trans (tlt ((lw_lt _ _).mpr h13)).1) (by decide) (by decide)) ?_
      show own_Fin _ _ _ _ T3 (mkF m 20 #[.val (.ref x0), .val (.long x1), .second] []) _ _ _
      refine own_go (fun _ => XS.iconst X3.here hx rfl (hb hby d4_20)) ?_
      show own_Fin _ _ _ _ T3 (mkF m 21 #[.val (.ref x0), .val (.long x1), .second] [(.int (0 : Int32))]) _ _ _
      refine own_go (fun _ => XS.goto X3.here hx rfl (pc0 := 21) (pc' := 38) rfl (hb hby d4_21) (by decide) (by decide)) ?_
      show own_Fin _ _ _ _ T3 (mkF m 38 #[.val (.ref x0), .val (.long x1), .second] [(.int (0 : Int32))]) _ _ _
      exact own_retZ X3 hx hnl (t := .boolean) hret (by simp) (hb hby d4_38) (by decide) (by decide) ⟨congrArg (fun z => some (Value.int z)) (show ((0 : Int32) : Int32) = own_reach o1 l1 x1 from by simp [own_reach, h4, h13]), N0, e3⟩
    · refine own_go (fun _ => XS.ifNo X3.here hx rfl (hb hby d4_13) rfl ((if0 _ _).trans (flt (mt (lw_lt _ _).mp h13)).1)) ?_
      show own_Fin _ _ _ _ T3 (mkF m 16 #[.val (.ref x0), .val (.long x1), .second] []) _ _ _
      refine own_go (fun _ => XS.iconst X3.here hx rfl (hb hby d4_16)) ?_
      show own_Fin _ _ _ _ T3 (mkF m 17 #[.val (.ref x0), .val (.long x1), .second] [(.int (1 : Int32))]) _ _ _
      refine own_go (fun _ => XS.goto X3.here hx rfl (pc0 := 17) (pc' := 38) rfl (hb hby d4_17) (by decide) (by decide)) ?_
      show own_Fin _ _ _ _ T3 (mkF m 38 #[.val (.ref x0), .val (.long x1), .second] [(.int (1 : Int32))]) _ _ _
      exact own_retZ X3 hx hnl (t := .boolean) hret (by simp) (hb hby d4_38) (by decide) (by decide) ⟨congrArg (fun z => some (Value.int z)) (show ((1 : Int32) : Int32) = own_reach o1 l1 x1 from by simp [own_reach, h4, h13]), N0, e3⟩

theorem own_lt {x y : Int32} : x < y ↔ x.toInt < y.toInt := Int32.lt_iff_toInt_lt
theorem own_ltJ {x y : Int64} : x < y ↔ x.toInt < y.toInt := Int64.lt_iff_toInt_lt
theorem own_eq {x y : Int32} : x = y ↔ x.toInt = y.toInt := Int32.toInt_inj.symm
theorem own_eqJ {x y : Int64} : x = y ↔ x.toInt = y.toInt := Int64.toInt_inj.symm
theorem own_rng (x : Int32) : -2147483648 ≤ x.toInt ∧ x.toInt < 2147483648 := ⟨by have := Int32.le_toInt x; omega, by have := Int32.toInt_lt x; omega⟩
theorem own_rngJ (x : Int64) : -9223372036854775808 ≤ x.toInt ∧ x.toInt < 9223372036854775808 := ⟨by have := Int64.le_toInt x; omega, by have := Int64.toInt_lt x; omega⟩
theorem own_at {z : Int32} {a x : Int64} (hz : z = 0 ∨ z = 1) (h : x = a) : own_reach (nar .boolean z) a x = z := by
  subst h
  have h1 : ¬ x < x := by rw [own_ltJ]; omega
  rcases hz with rfl | rfl
  · show own_reach 0 x x = 0
    simp [own_reach, h1]
  · show own_reach 1 x x = 1
    simp [own_reach, h1]
theorem own_up {z : Int32} {a x : Int64} (h : a < x) : own_reach z a x = 1 := by
  have h1 : ¬ x < a := by rw [own_ltJ] at h ⊢; omega
  simp [own_reach, h, h1]
theorem own_down {z : Int32} {a x : Int64} (h : ¬ x = a) (h2 : ¬ a < x) : own_reach z a x = 0 := by
  have h1 : x < a := by rw [own_eqJ] at h; rw [own_ltJ] at h2 ⊢; omega
  simp [own_reach, h1, h2]

theorem pd_1 : parseMethodDescriptor "(JZ)V" = some ⟨[.long, .boolean], none⟩ := by decide +kernel
theorem pd_2 : parseMethodDescriptor "(J)Z" = some ⟨[.long], some .boolean⟩ := by decide +kernel
theorem pn_0 : plainName "com/example/olefin_desk/olefindesk/OpenInterestLevelIsReachedByPinLaw" = true := by first | (simp [plainName, overriddenIn]; done) | decide +kernel
theorem ef_0 (m : MethodId) (x0 : Int64) (x1 : Int64) (x2 : Int32) (x3 : Int32) : entryFrame m #[(.long x0), (.long x1), (.int x2), (.int x3)] maxLocals = mkF m 0 #[.val (.long x0), .second, .val (.long x1), .second, .val (.int x2), .val (.int x3), .unset, .unset, .unset, .unset, .unset, .unset, .unset] [] := by first | (simp [entryFrame, mkF, argsToLocals, Value.category, maxLocals]; done) | rfl
def Q0 (Z : State) (x0 : Int64) (x1 : Int64) (x2 : Int32) (x3 : Int32) (h0 : Heap) (n0 : Nat) (v : Option Value) (h : Heap) (L : List Loc) : Prop := v = some (.int 1) ∧ Fr n0 L
set_option maxRecDepth 65536 in
set_option maxHeartbeats 40000000 in
theorem rm0 (l : Launch) (Z : State) (a0 : Array Value) (hw : ∀ d ∈ tables_1, d.before a0 Z = true) (ws : List Jvm.Cond) (x0 : Int64) (x1 : Int64) (x2 : Int32) (x3 : Int32) (h0 : Heap) (n0 : Nat) (Z0 : n0 ≤ h0.size) :
    MetFree l x (head1 (Jvm.Cond.code x code maxLocals ret :: ws) room_1) (fun a U => a = #[(.long x0), (.long x1), (.int x2), (.int x3)] ∧ Z.Warmed39 U.vm ∧ U.heap = h0) (fun _ _ _ _ _ => True) (fun _ U o U' => ∃ v L, o = .returned v ∧ Q0 Z x0 x1 x2 x3 h0 n0 v U'.heap L ∧ FrameEnd U o U' L room_1.cells room_1.slots) := by
  refine MetFree.of_bodySF (plainFor_of_name pn_0) hisR ?_
  intro p e s m args below meth c s₁ Bd hml0 hP hK
  obtain ⟨rfl, hZ, hh⟩ := hP
  have hx := Bd.exec
  have hby := Bd.bytes
  have hret := Bd.returns
  have hnl : meth.locks = false := Bd.notSynchronized
  have hml : c.maxLocals = 13 := hml0
  have hown : s.vm.findClass "com/example/olefin_desk/olefindesk/OpenInterestLevelIsReachedByPinLaw" = some m.cls := findClass_of_methodNamed Bd.named
  have hnm := (name_of_methodNamed Bd.named Bd.method).1
  have X0 : Stand p l e room_1 s m #[(.long x0), (.long x1), (.int x2), (.int x3)] below meth c s₁ [] 0 0 := Stand.of_body Bd
  have e0 : s₁.heap = h0 := by rw [← hh, Bd.state]; rfl
  have N0 := Fr.nil n0
  suffices key : own_Fin p e below s s₁ (mkF m 0 #[.val (.long x0), .second, .val (.long x1), .second, .val (.int x2), .val (.int x3), .unset, .unset, .unset, .unset, .unset, .unset, .unset] []) (Q0 Z x0 x1 x2 x3 h0 n0) room_1.cells room_1.slots by
    obtain ⟨s2, o, h1, h2⟩ := key
    exact ⟨s2, o, castTop (ef_0 m x0 x1 x2 x3) h1, h2⟩
  have J12 : ∀ (z : Int32), (z = 0 ∨ z = 1) → own_Fin p e below s s₁ (mkF m 12 #[.val (.long x0), .second, .val (.long x1), .second, .val (.int x2), .val (.int x3), .unset, .unset, .unset, .unset, .unset, .unset, .unset] [(.int z)]) (Q0 Z x0 x1 x2 x3 h0 n0) room_1.cells room_1.slots := by
    intro z hp_J12
    have J62 : ∀ (y : Int64), own_Fin p e below s s₁ (mkF m 62 #[.val (.long x0), .second, .val (.long x1), .second, .val (.int x2), .val (.int x3), .val (.int z), .val (.int (x3 &&& (3 : Int32))), .val (.long y), .second, .unset, .unset, .unset] []) (Q0 Z x0 x1 x2 x3 h0 n0) room_1.cells room_1.slots := by
      intro y
      obtain ⟨T1, h1, X1, e1, E1, A1, D1, -, st1⟩ := newO X0 hx hZ hown (hw _ (List.mem_of_getElem? (i := 0) rfl)) (hw _ (List.mem_of_getElem? (i := 1) rfl)) (hw _ (List.mem_of_getElem? (i := 2) rfl)) e0 (g := (mkF m 62 #[.val (.long x0), .second, .val (.long x1), .second, .val (.int x2), .val (.int x3), .val (.int z), .val (.int (x3 &&& (3 : Int32))), .val (.long y), .second, .unset, .unset, .unset] [])) rfl (hb hby at_62) (by decide) (by decide)
      obtain ⟨b1, g1⟩ : ∃ z, z = h0.size := ⟨_, rfl⟩
      rw [← g1] at A1 D1 st1
      have F_lots_b1 : Fld Z h1 b1 "com/example/olefin_desk/olefindesk/OpenInterestLevel" "lots" "J" (.long (0 : Int64)) := D1 (Or.inr (hw _ (List.mem_of_getElem? (i := 15) rfl))) (ty := .long) (by decide)
      have F_orMore_b1 : Fld Z h1 b1 "com/example/olefin_desk/olefindesk/OpenInterestLevel" "orMore" "Z" (.int (0 : Int32)) := D1 (Or.inr (hw _ (List.mem_of_getElem? (i := 17) rfl))) (ty := .boolean) (by decide)
      have g_b1 : n0 ≤ b1 := Nat.le_trans Z0 (Nat.le_of_eq g1.symm)
      have Z1 : n0 ≤ h1.size := Nat.le_trans Z0 E1.1
      have sz_b1 : h0.size ≤ b1 := Nat.le_trans ((Keep.refl h0 [])).1 (Nat.le_of_eq g1.symm)
      have K1 : Keep h0 h1 [] := ((Keep.refl h0 [])).ext E1
      refine own_go st1 ?_
      show own_Fin _ _ _ _ T1 (mkF m 65 #[.val (.long x0), .second, .val (.long x1), .second, .val (.int x2), .val (.int x3), .val (.int z), .val (.int (x3 &&& (3 : Int32))), .val (.long y), .second, .unset, .unset, .unset] [(.ref b1)]) _ _ _
      refine own_go (fun _ => XS.dup X1.here hx rfl (hb hby at_65) rfl rfl) ?_
      show own_Fin _ _ _ _ T1 (mkF m 66 #[.val (.long x0), .second, .val (.long x1), .second, .val (.int x2), .val (.int x3), .val (.int z), .val (.int (x3 &&& (3 : Int32))), .val (.long y), .second, .unset, .unset, .unset] [(.ref b1), (.ref b1)]) _ _ _
      refine own_go (fun _ => XS.lloadN X1.here hx rfl (hb hby at_66) rfl) ?_
      show own_Fin _ _ _ _ T1 (mkF m 67 #[.val (.long x0), .second, .val (.long x1), .second, .val (.int x2), .val (.int x3), .val (.int z), .val (.int (x3 &&& (3 : Int32))), .val (.long y), .second, .unset, .unset, .unset] [(.long x0), (.ref b1), (.ref b1)]) _ _ _
      refine own_go (fun _ => XS.iload X1.here hx rfl (hb hby at_67) rfl) ?_
      show own_Fin _ _ _ _ T1 (mkF m 69 #[.val (.long x0), .second, .val (.long x1), .second, .val (.int x2), .val (.int x3), .val (.int z), .val (.int (x3 &&& (3 : Int32))), .val (.long y), .second, .unset, .unset, .unset] [(.int z), (.long x0), (.ref b1), (.ref b1)]) _ _ _
      obtain ⟨_, _, ⟨T2, L2, k2, n2⟩, -, X2, ⟨Lc2, hQ2, l2, y2, z2⟩, st2⟩ := X1.specialBack hx (y := (⟨"com/example/olefin_desk/olefindesk/OpenInterestLevel", "<init>", "(JZ)V"⟩ : MethodName)) rfl hown (mvT hZ (hw _ (List.mem_of_getElem? (i := 3) rfl))) (mvT hZ (hw _ (List.mem_of_getElem? (i := 4) rfl))) (mvT hZ (hw _ (List.mem_of_getElem? (i := 5) rfl))) (by decide) (backOf (W := 1) (rm1 l Z a0 hw [] b1 x0 z (.long (0 : Int64)) (.int (0 : Int32)) h1 n0 Z1 A1 g_b1 F_lots_b1 F_orMore_b1) hZ (hw _ (List.mem_of_getElem? (i := 5) rfl)) (hw _ (List.mem_of_getElem? (i := 2) rfl)) (by decide) (by decide)) (g := (mkF m 69 #[.val (.long x0), .second, .val (.long x1), .second, .val (.int x2), .val (.int x3), .val (.int z), .val (.int (x3 &&& (3 : Int32))), .val (.long y), .second, .unset, .unset, .unset] [(.int z), (.long x0), (.ref b1), (.ref b1)])) rfl (by rw [hml]; rfl) (Steps.refl _) (a := b1) (argsL := [(.long x0), (.int z)]) (rest := [(.ref b1)]) (lenOf pd_1 rfl) rfl (by show 2 * 0 + _ ≤ _; exact Nat.le_of_eq rfl) (hb hby at_69) (fun _ _ => ⟨rfl, e1, (by decide : 1 + 0 ≤ _), (by decide : 2 + 0 ≤ _)⟩)
      dsimp only [Pt.U, Pt.locs, Pt.cells, Pt.slots] at X2 l2 y2 z2 st2 hQ2
      subst l2 y2 z2
      obtain ⟨rfl, N2q, K2q, Ex2, Fx2_0, Fx2_1⟩ := hQ2
      have N2 := Fr.app N0 N2q
      have E2_b1 := (A1).keep K2q
      have Kc2 : Keep h0 T2.heap [] := (K1).trans K2q (fun x hx => by cases List.mem_singleton.mp hx; exact (Or.inr sz_b1))
      have Zc2 : n0 ≤ T2.heap.size := Nat.le_trans Z1 (K2q).1
      refine own_gt st2 ?_
      show own_Fin _ _ _ _ T2 (mkF m 72 #[.val (.long x0), .second, .val (.long x1), .second, .val (.int x2), .val (.int x3), .val (.int z), .val (.int (x3 &&& (3 : Int32))), .val (.long y), .second, .unset, .unset, .unset] [(.ref b1)]) _ _ _
      refine own_go (fun _ => XS.astore X2.here hx rfl (hb hby at_72) rfl rfl (l' := #[.val (.long x0), .second, .val (.long x1), .second, .val (.int x2), .val (.int x3), .val (.int z), .val (.int (x3 &&& (3 : Int32))), .val (.long y), .second, .val (.ref b1), .unset, .unset]) rfl) ?_
      show own_Fin _ _ _ _ T2 (mkF m 74 #[.val (.long x0), .second, .val (.long x1), .second, .val (.int x2), .val (.int x3), .val (.int z), .val (.int (x3 &&& (3 : Int32))), .val (.long y), .second, .val (.ref b1), .unset, .unset] []) _ _ _
      refine own_go (fun _ => XS.aload X2.here hx rfl (hb hby at_74) rfl rfl) ?_
      show own_Fin _ _ _ _ T2 (mkF m 76 #[.val (.long x0), .second, .val (.long x1), .second, .val (.int x2), .val (.int x3), .val (.int z), .val (.int (x3 &&& (3 : Int32))), .val (.long y), .second, .val (.ref b1), .unset, .unset] [(.ref b1)]) _ _ _
      refine own_go (fun _ => XS.lload X2.here hx rfl (hb hby at_76) rfl) ?_
      show own_Fin _ _ _ _ T2 (mkF m 78 #[.val (.long x0), .second, .val (.long x1), .second, .val (.int x2), .val (.int x3), .val (.int z), .val (.int (x3 &&& (3 : Int32))), .val (.long y), .second, .val (.ref b1), .unset, .unset] [(.long y), (.ref b1)]) _ _ _
      obtain ⟨cq3, kq3, q3a, q3b, q3c⟩ := isOf hZ rfl Ex2
      obtain ⟨_, _, ⟨T3, L3, k3, n3⟩, -, X3, ⟨Lc3, hQ3, l3, y3, z3⟩, st3⟩ := X2.virtualBack hx (y := (⟨"com/example/olefin_desk/olefindesk/OpenInterestLevel", "isReachedBy", "(J)Z"⟩ : MethodName)) (z := (⟨"com/example/olefin_desk/olefindesk/OpenInterestLevel", "isReachedBy", "(J)Z"⟩ : MethodName)) hown (mvT hZ (hw _ (List.mem_of_getElem? (i := 18) rfl))) (mvT hZ (hw _ (List.mem_of_getElem? (i := 19) rfl))) (notFace_of_selects (args := #[]) (mvT hZ (hw _ (List.mem_of_getElem? (i := 21) rfl)))) (mvT hZ (hw _ (List.mem_of_getElem? (i := 21) rfl))) (mvT hZ (hw _ (List.mem_of_getElem? (i := 20) rfl))) (by decide) (backOf (W := 0) (rm4 l Z a0 hw [] b1 y (nar .boolean z) x0 T2.heap n0 Zc2 Fx2_0 Fx2_1) hZ (hw _ (List.mem_of_getElem? (i := 22) rfl)) (hw _ (List.mem_of_getElem? (i := 2) rfl)) (by decide) (by decide)) q3a q3c (g := (mkF m 78 #[.val (.long x0), .second, .val (.long x1), .second, .val (.int x2), .val (.int x3), .val (.int z), .val (.int (x3 &&& (3 : Int32))), .val (.long y), .second, .val (.ref b1), .unset, .unset] [(.long y), (.ref b1)])) rfl (by rw [hml]; rfl) (Steps.refl _) (argsL := [(.long y)]) (rest := []) (lenOf pd_2 rfl) rfl (by show 2 * 0 + _ ≤ _; exact Nat.le_of_eq rfl) (hb hby at_78) (fun _ _ => ⟨rfl, rfl, (by decide : 1 + 0 ≤ _), (by decide : 2 + 0 ≤ _)⟩)
      dsimp only [Pt.U, Pt.locs, Pt.cells, Pt.slots] at X3 l3 y3 z3 st3 hQ3
      subst l3 y3 z3
      obtain ⟨rfl, N3q, e3⟩ := hQ3
      have N3 := Fr.app N2 N3q
      refine own_gt st3 ?_
      show own_Fin _ _ _ _ T3 (mkF m 81 #[.val (.long x0), .second, .val (.long x1), .second, .val (.int x2), .val (.int x3), .val (.int z), .val (.int (x3 &&& (3 : Int32))), .val (.long y), .second, .val (.ref b1), .unset, .unset] [(.int (own_reach (nar .boolean z) x0 y))]) _ _ _
      refine own_go (fun _ => XS.istore X3.here hx rfl (hb hby at_81) rfl (l' := #[.val (.long x0), .second, .val (.long x1), .second, .val (.int x2), .val (.int x3), .val (.int z), .val (.int (x3 &&& (3 : Int32))), .val (.long y), .second, .val (.ref b1), .val (.int (own_reach (nar .boolean z) x0 y)), .unset]) rfl) ?_
      show own_Fin _ _ _ _ T3 (mkF m 83 #[.val (.long x0), .second, .val (.long x1), .second, .val (.int x2), .val (.int x3), .val (.int z), .val (.int (x3 &&& (3 : Int32))), .val (.long y), .second, .val (.ref b1), .val (.int (own_reach (nar .boolean z) x0 y)), .unset] []) _ _ _
      refine own_go (fun _ => XS.lload X3.here hx rfl (hb hby at_83) rfl) ?_
      show own_Fin _ _ _ _ T3 (mkF m 85 #[.val (.long x0), .second, .val (.long x1), .second, .val (.int x2), .val (.int x3), .val (.int z), .val (.int (x3 &&& (3 : Int32))), .val (.long y), .second, .val (.ref b1), .val (.int (own_reach (nar .boolean z) x0 y)), .unset] [(.long y)]) _ _ _
      refine own_go (fun _ => XS.lloadN X3.here hx rfl (hb hby at_85) rfl) ?_
      show own_Fin _ _ _ _ T3 (mkF m 86 #[.val (.long x0), .second, .val (.long x1), .second, .val (.int x2), .val (.int x3), .val (.int z), .val (.int (x3 &&& (3 : Int32))), .val (.long y), .second, .val (.ref b1), .val (.int (own_reach (nar .boolean z) x0 y)), .unset] [(.long x0), (.long y)]) _ _ _
      refine own_go (fun _ => XS.lcmp X3.here hx rfl (hb hby at_86) rfl) ?_
      show own_Fin _ _ _ _ T3 (mkF m 87 #[.val (.long x0), .second, .val (.long x1), .second, .val (.int x2), .val (.int x3), .val (.int z), .val (.int (x3 &&& (3 : Int32))), .val (.long y), .second, .val (.ref b1), .val (.int (own_reach (nar .boolean z) x0 y)), .unset] [(.int (lcmpW y x0))]) _ _ _
      by_cases h87 : y = x0
      · refine own_go (fun _ => XS.ifNo X3.here hx rfl (hb hby at_87) rfl ((if0 _ _).trans (teq ((lw_eq _ _).mpr h87)).2)) ?_
        show own_Fin _ _ _ _ T3 (mkF m 90 #[.val (.long x0), .second, .val (.long x1), .second, .val (.int x2), .val (.int x3), .val (.int z), .val (.int (x3 &&& (3 : Int32))), .val (.long y), .second, .val (.ref b1), .val (.int (own_reach (nar .boolean z) x0 y)), .unset] []) _ _ _
        refine own_go (fun _ => XS.iload X3.here hx rfl (hb hby at_90) rfl) ?_
        show own_Fin _ _ _ _ T3 (mkF m 92 #[.val (.long x0), .second, .val (.long x1), .second, .val (.int x2), .val (.int x3), .val (.int z), .val (.int (x3 &&& (3 : Int32))), .val (.long y), .second, .val (.ref b1), .val (.int (own_reach (nar .boolean z) x0 y)), .unset] [(.int z)]) _ _ _
        refine own_go (fun _ => XS.istore X3.here hx rfl (hb hby at_92) rfl (l' := #[.val (.long x0), .second, .val (.long x1), .second, .val (.int x2), .val (.int x3), .val (.int z), .val (.int (x3 &&& (3 : Int32))), .val (.long y), .second, .val (.ref b1), .val (.int (own_reach (nar .boolean z) x0 y)), .val (.int z)]) rfl) ?_
        show own_Fin _ _ _ _ T3 (mkF m 94 #[.val (.long x0), .second, .val (.long x1), .second, .val (.int x2), .val (.int x3), .val (.int z), .val (.int (x3 &&& (3 : Int32))), .val (.long y), .second, .val (.ref b1), .val (.int (own_reach (nar .boolean z) x0 y)), .val (.int z)] []) _ _ _
        refine own_go (fun _ => XS.goto X3.here hx rfl (pc0 := 94) (pc' := 111) rfl (hb hby at_94) (by decide) (by decide)) ?_
        show own_Fin _ _ _ _ T3 (mkF m 111 #[.val (.long x0), .second, .val (.long x1), .second, .val (.int x2), .val (.int x3), .val (.int z), .val (.int (x3 &&& (3 : Int32))), .val (.long y), .second, .val (.ref b1), .val (.int (own_reach (nar .boolean z) x0 y)), .val (.int z)] []) _ _ _
        refine own_go (fun _ => XS.iload X3.here hx rfl (hb hby at_111) rfl) ?_
        show own_Fin _ _ _ _ T3 (mkF m 113 #[.val (.long x0), .second, .val (.long x1), .second, .val (.int x2), .val (.int x3), .val (.int z), .val (.int (x3 &&& (3 : Int32))), .val (.long y), .second, .val (.ref b1), .val (.int (own_reach (nar .boolean z) x0 y)), .val (.int z)] [(.int (own_reach (nar .boolean z) x0 y))]) _ _ _
        refine own_go (fun _ => XS.iload X3.here hx rfl (hb hby at_113) rfl) ?_
        show own_Fin _ _ _ _ T3 (mkF m 115 #[.val (.long x0), .second, .val (.long x1), .second, .val (.int x2), .val (.int x3), .val (.int z), .val (.int (x3 &&& (3 : Int32))), .val (.long y), .second, .val (.ref b1), .val (.int (own_reach (nar .boolean z) x0 y)), .val (.int z)] [(.int z), (.int (own_reach (nar .boolean z) x0 y))]) _ _ _
        refine own_go (fun _ => XS.icmpNo X3.here hx rfl (hb hby at_115) rfl (teq (show (own_reach (nar .boolean z) x0 y) = z from own_at hp_J12 h87)).2) ?_
        show own_Fin _ _ _ _ T3 (mkF m 118 #[.val (.long x0), .second, .val (.long x1), .second, .val (.int x2), .val (.int x3), .val (.int z), .val (.int (x3 &&& (3 : Int32))), .val (.long y), .second, .val (.ref b1), .val (.int (own_reach (nar .boolean z) x0 y)), .val (.int z)] []) _ _ _
        refine own_go (fun _ => XS.iconst X3.here hx rfl (hb hby at_118)) ?_
        show own_Fin _ _ _ _ T3 (mkF m 119 #[.val (.long x0), .second, .val (.long x1), .second, .val (.int x2), .val (.int x3), .val (.int z), .val (.int (x3 &&& (3 : Int32))), .val (.long y), .second, .val (.ref b1), .val (.int (own_reach (nar .boolean z) x0 y)), .val (.int z)] [(.int (1 : Int32))]) _ _ _
        refine own_go (fun _ => XS.goto X3.here hx rfl (pc0 := 119) (pc' := 123) rfl (hb hby at_119) (by decide) (by decide)) ?_
        show own_Fin _ _ _ _ T3 (mkF m 123 #[.val (.long x0), .second, .val (.long x1), .second, .val (.int x2), .val (.int x3), .val (.int z), .val (.int (x3 &&& (3 : Int32))), .val (.long y), .second, .val (.ref b1), .val (.int (own_reach (nar .boolean z) x0 y)), .val (.int z)] [(.int (1 : Int32))]) _ _ _
        exact own_retZ X3 hx hnl (t := .boolean) hret (by simp) (hb hby at_123) (by decide) (by decide) ⟨rfl, N3⟩
      · refine own_go (fun _ => XS.ifYes X3.here hx rfl (pc0 := 87) (pc' := 97) rfl (hb hby at_87) rfl ((if0 _ _).trans (feq (mt (lw_eq _ _).mp h87)).2) (by decide) (by decide)) ?_
        show own_Fin _ _ _ _ T3 (mkF m 97 #[.val (.long x0), .second, .val (.long x1), .second, .val (.int x2), .val (.int x3), .val (.int z), .val (.int (x3 &&& (3 : Int32))), .val (.long y), .second, .val (.ref b1), .val (.int (own_reach (nar .boolean z) x0 y)), .unset] []) _ _ _
        refine own_go (fun _ => XS.lload X3.here hx rfl (hb hby at_97) rfl) ?_
        show own_Fin _ _ _ _ T3 (mkF m 99 #[.val (.long x0), .second, .val (.long x1), .second, .val (.int x2), .val (.int x3), .val (.int z), .val (.int (x3 &&& (3 : Int32))), .val (.long y), .second, .val (.ref b1), .val (.int (own_reach (nar .boolean z) x0 y)), .unset] [(.long y)]) _ _ _
        refine own_go (fun _ => XS.lloadN X3.here hx rfl (hb hby at_99) rfl) ?_
        show own_Fin _ _ _ _ T3 (mkF m 100 #[.val (.long x0), .second, .val (.long x1), .second, .val (.int x2), .val (.int x3), .val (.int z), .val (.int (x3 &&& (3 : Int32))), .val (.long y), .second, .val (.ref b1), .val (.int (own_reach (nar .boolean z) x0 y)), .unset] [(.long x0), (.long y)]) _ _ _
        refine own_go (fun _ => XS.lcmp X3.here hx rfl (hb hby at_100) rfl) ?_
        show own_Fin _ _ _ _ T3 (mkF m 101 #[.val (.long x0), .second, .val (.long x1), .second, .val (.int x2), .val (.int x3), .val (.int z), .val (.int (x3 &&& (3 : Int32))), .val (.long y), .second, .val (.ref b1), .val (.int (own_reach (nar .boolean z) x0 y)), .unset] [(.int (lcmpW y x0))]) _ _ _
        by_cases h101 : x0 < y
        · refine own_go (fun _ => XS.ifNo X3.here hx rfl (hb hby at_101) rfl ((if0 _ _).trans (tlt ((lw_gt _ _).mpr h101)).2.2.2)) ?_
          show own_Fin _ _ _ _ T3 (mkF m 104 #[.val (.long x0), .second, .val (.long x1), .second, .val (.int x2), .val (.int x3), .val (.int z), .val (.int (x3 &&& (3 : Int32))), .val (.long y), .second, .val (.ref b1), .val (.int (own_reach (nar .boolean z) x0 y)), .unset] []) _ _ _
          refine own_go (fun _ => XS.iconst X3.here hx rfl (hb hby at_104)) ?_
          show own_Fin _ _ _ _ T3 (mkF m 105 #[.val (.long x0), .second, .val (.long x1), .second, .val (.int x2), .val (.int x3), .val (.int z), .val (.int (x3 &&& (3 : Int32))), .val (.long y), .second, .val (.ref b1), .val (.int (own_reach (nar .boolean z) x0 y)), .unset] [(.int (1 : Int32))]) _ _ _
          refine own_go (fun _ => XS.goto X3.here hx rfl (pc0 := 105) (pc' := 109) rfl (hb hby at_105) (by decide) (by decide)) ?_
          show own_Fin _ _ _ _ T3 (mkF m 109 #[.val (.long x0), .second, .val (.long x1), .second, .val (.int x2), .val (.int x3), .val (.int z), .val (.int (x3 &&& (3 : Int32))), .val (.long y), .second, .val (.ref b1), .val (.int (own_reach (nar .boolean z) x0 y)), .unset] [(.int (1 : Int32))]) _ _ _
          refine own_go (fun _ => XS.istore X3.here hx rfl (hb hby at_109) rfl (l' := #[.val (.long x0), .second, .val (.long x1), .second, .val (.int x2), .val (.int x3), .val (.int z), .val (.int (x3 &&& (3 : Int32))), .val (.long y), .second, .val (.ref b1), .val (.int (own_reach (nar .boolean z) x0 y)), .val (.int (1 : Int32))]) rfl) ?_
          show own_Fin _ _ _ _ T3 (mkF m 111 #[.val (.long x0), .second, .val (.long x1), .second, .val (.int x2), .val (.int x3), .val (.int z), .val (.int (x3 &&& (3 : Int32))), .val (.long y), .second, .val (.ref b1), .val (.int (own_reach (nar .boolean z) x0 y)), .val (.int (1 : Int32))] []) _ _ _
          refine own_go (fun _ => XS.iload X3.here hx rfl (hb hby at_111) rfl) ?_
          show own_Fin _ _ _ _ T3 (mkF m 113 #[.val (.long x0), .second, .val (.long x1), .second, .val (.int x2), .val (.int x3), .val (.int z), .val (.int (x3 &&& (3 : Int32))), .val (.long y), .second, .val (.ref b1), .val (.int (own_reach (nar .boolean z) x0 y)), .val (.int (1 : Int32))] [(.int (own_reach (nar .boolean z) x0 y))]) _ _ _
          refine own_go (fun _ => XS.iload X3.here hx rfl (hb hby at_113) rfl) ?_
          show own_Fin _ _ _ _ T3 (mkF m 115 #[.val (.long x0), .second, .val (.long x1), .second, .val (.int x2), .val (.int x3), .val (.int z), .val (.int (x3 &&& (3 : Int32))), .val (.long y), .second, .val (.ref b1), .val (.int (own_reach (nar .boolean z) x0 y)), .val (.int (1 : Int32))] [(.int (1 : Int32)), (.int (own_reach (nar .boolean z) x0 y))]) _ _ _
          refine own_go (fun _ => XS.icmpNo X3.here hx rfl (hb hby at_115) rfl (teq (show (own_reach (nar .boolean z) x0 y) = (1 : Int32) from own_up h101)).2) ?_
          show own_Fin _ _ _ _ T3 (mkF m 118 #[.val (.long x0), .second, .val (.long x1), .second, .val (.int x2), .val (.int x3), .val (.int z), .val (.int (x3 &&& (3 : Int32))), .val (.long y), .second, .val (.ref b1), .val (.int (own_reach (nar .boolean z) x0 y)), .val (.int (1 : Int32))] []) _ _ _
          refine own_go (fun _ => XS.iconst X3.here hx rfl (hb hby at_118)) ?_
          show own_Fin _ _ _ _ T3 (mkF m 119 #[.val (.long x0), .second, .val (.long x1), .second, .val (.int x2), .val (.int x3), .val (.int z), .val (.int (x3 &&& (3 : Int32))), .val (.long y), .second, .val (.ref b1), .val (.int (own_reach (nar .boolean z) x0 y)), .val (.int (1 : Int32))] [(.int (1 : Int32))]) _ _ _
          refine own_go (fun _ => XS.goto X3.here hx rfl (pc0 := 119) (pc' := 123) rfl (hb hby at_119) (by decide) (by decide)) ?_
          show own_Fin _ _ _ _ T3 (mkF m 123 #[.val (.long x0), .second, .val (.long x1), .second, .val (.int x2), .val (.int x3), .val (.int z), .val (.int (x3 &&& (3 : Int32))), .val (.long y), .second, .val (.ref b1), .val (.int (own_reach (nar .boolean z) x0 y)), .val (.int (1 : Int32))] [(.int (1 : Int32))]) _ _ _
          exact own_retZ X3 hx hnl (t := .boolean) hret (by simp) (hb hby at_123) (by decide) (by decide) ⟨rfl, N3⟩
        · refine own_go (fun _ => XS.ifYes X3.here hx rfl (pc0 := 101) (pc' := 108) rfl (hb hby at_101) rfl ((if0 _ _).trans (flt (mt (lw_gt _ _).mp h101)).2.2.2) (by decide) (by decide)) ?_
          show own_Fin _ _ _ _ T3 (mkF m 108 #[.val (.long x0), .second, .val (.long x1), .second, .val (.int x2), .val (.int x3), .val (.int z), .val (.int (x3 &&& (3 : Int32))), .val (.long y), .second, .val (.ref b1), .val (.int (own_reach (nar .boolean z) x0 y)), .unset] []) _ _ _
          refine own_go (fun _ => XS.iconst X3.here hx rfl (hb hby at_108)) ?_
          show own_Fin _ _ _ _ T3 (mkF m 109 #[.val (.long x0), .second, .val (.long x1), .second, .val (.int x2), .val (.int x3), .val (.int z), .val (.int (x3 &&& (3 : Int32))), .val (.long y), .second, .val (.ref b1), .val (.int (own_reach (nar .boolean z) x0 y)), .unset] [(.int (0 : Int32))]) _ _ _
          refine own_go (fun _ => XS.istore X3.here hx rfl (hb hby at_109) rfl (l' := #[.val (.long x0), .second, .val (.long x1), .second, .val (.int x2), .val (.int x3), .val (.int z), .val (.int (x3 &&& (3 : Int32))), .val (.long y), .second, .val (.ref b1), .val (.int (own_reach (nar .boolean z) x0 y)), .val (.int (0 : Int32))]) rfl) ?_
          show own_Fin _ _ _ _ T3 (mkF m 111 #[.val (.long x0), .second, .val (.long x1), .second, .val (.int x2), .val (.int x3), .val (.int z), .val (.int (x3 &&& (3 : Int32))), .val (.long y), .second, .val (.ref b1), .val (.int (own_reach (nar .boolean z) x0 y)), .val (.int (0 : Int32))] []) _ _ _
          refine own_go (fun _ => XS.iload X3.here hx rfl (hb hby at_111) rfl) ?_
          show own_Fin _ _ _ _ T3 (mkF m 113 #[.val (.long x0), .second, .val (.long x1), .second, .val (.int x2), .val (.int x3), .val (.int z), .val (.int (x3 &&& (3 : Int32))), .val (.long y), .second, .val (.ref b1), .val (.int (own_reach (nar .boolean z) x0 y)), .val (.int (0 : Int32))] [(.int (own_reach (nar .boolean z) x0 y))]) _ _ _
          refine own_go (fun _ => XS.iload X3.here hx rfl (hb hby at_113) rfl) ?_
          show own_Fin _ _ _ _ T3 (mkF m 115 #[.val (.long x0), .second, .val (.long x1), .second, .val (.int x2), .val (.int x3), .val (.int z), .val (.int (x3 &&& (3 : Int32))), .val (.long y), .second, .val (.ref b1), .val (.int (own_reach (nar .boolean z) x0 y)), .val (.int (0 : Int32))] [(.int (0 : Int32)), (.int (own_reach (nar .boolean z) x0 y))]) _ _ _
          refine own_go (fun _ => XS.icmpNo X3.here hx rfl (hb hby at_115) rfl (teq (show (own_reach (nar .boolean z) x0 y) = (0 : Int32) from own_down h87 h101)).2) ?_
          show own_Fin _ _ _ _ T3 (mkF m 118 #[.val (.long x0), .second, .val (.long x1), .second, .val (.int x2), .val (.int x3), .val (.int z), .val (.int (x3 &&& (3 : Int32))), .val (.long y), .second, .val (.ref b1), .val (.int (own_reach (nar .boolean z) x0 y)), .val (.int (0 : Int32))] []) _ _ _
          refine own_go (fun _ => XS.iconst X3.here hx rfl (hb hby at_118)) ?_
          show own_Fin _ _ _ _ T3 (mkF m 119 #[.val (.long x0), .second, .val (.long x1), .second, .val (.int x2), .val (.int x3), .val (.int z), .val (.int (x3 &&& (3 : Int32))), .val (.long y), .second, .val (.ref b1), .val (.int (own_reach (nar .boolean z) x0 y)), .val (.int (0 : Int32))] [(.int (1 : Int32))]) _ _ _
          refine own_go (fun _ => XS.goto X3.here hx rfl (pc0 := 119) (pc' := 123) rfl (hb hby at_119) (by decide) (by decide)) ?_
          show own_Fin _ _ _ _ T3 (mkF m 123 #[.val (.long x0), .second, .val (.long x1), .second, .val (.int x2), .val (.int x3), .val (.int z), .val (.int (x3 &&& (3 : Int32))), .val (.long y), .second, .val (.ref b1), .val (.int (own_reach (nar .boolean z) x0 y)), .val (.int (0 : Int32))] [(.int (1 : Int32))]) _ _ _
          exact own_retZ X3 hx hnl (t := .boolean) hret (by simp) (hb hby at_123) (by decide) (by decide) ⟨rfl, N3⟩
    refine own_go (fun _ => XS.istore X0.here hx rfl (hb hby at_12) rfl (l' := #[.val (.long x0), .second, .val (.long x1), .second, .val (.int x2), .val (.int x3), .val (.int z), .unset, .unset, .unset, .unset, .unset, .unset]) rfl) ?_
    show own_Fin _ _ _ _ s₁ (mkF m 14 #[.val (.long x0), .second, .val (.long x1), .second, .val (.int x2), .val (.int x3), .val (.int z), .unset, .unset, .unset, .unset, .unset, .unset] []) _ _ _
    refine own_go (fun _ => XS.iload X0.here hx rfl (hb hby at_14) rfl) ?_
    show own_Fin _ _ _ _ s₁ (mkF m 16 #[.val (.long x0), .second, .val (.long x1), .second, .val (.int x2), .val (.int x3), .val (.int z), .unset, .unset, .unset, .unset, .unset, .unset] [(.int x3)]) _ _ _
    refine own_go (fun _ => XS.iconst X0.here hx rfl (hb hby at_16)) ?_
    show own_Fin _ _ _ _ s₁ (mkF m 17 #[.val (.long x0), .second, .val (.long x1), .second, .val (.int x2), .val (.int x3), .val (.int z), .unset, .unset, .unset, .unset, .unset, .unset] [(.int (3 : Int32)), (.int x3)]) _ _ _
    refine own_go (fun _ => XS.iand X0.here hx rfl (hb hby at_17) rfl) ?_
    show own_Fin _ _ _ _ s₁ (mkF m 18 #[.val (.long x0), .second, .val (.long x1), .second, .val (.int x2), .val (.int x3), .val (.int z), .unset, .unset, .unset, .unset, .unset, .unset] [(.int (x3 &&& (3 : Int32)))]) _ _ _
    refine own_go (fun _ => XS.istore X0.here hx rfl (hb hby at_18) rfl (l' := #[.val (.long x0), .second, .val (.long x1), .second, .val (.int x2), .val (.int x3), .val (.int z), .val (.int (x3 &&& (3 : Int32))), .unset, .unset, .unset, .unset, .unset]) rfl) ?_
    show own_Fin _ _ _ _ s₁ (mkF m 20 #[.val (.long x0), .second, .val (.long x1), .second, .val (.int x2), .val (.int x3), .val (.int z), .val (.int (x3 &&& (3 : Int32))), .unset, .unset, .unset, .unset, .unset] []) _ _ _
    refine own_go (fun _ => XS.iload X0.here hx rfl (hb hby at_20) rfl) ?_
    show own_Fin _ _ _ _ s₁ (mkF m 22 #[.val (.long x0), .second, .val (.long x1), .second, .val (.int x2), .val (.int x3), .val (.int z), .val (.int (x3 &&& (3 : Int32))), .unset, .unset, .unset, .unset, .unset] [(.int (x3 &&& (3 : Int32)))]) _ _ _
    by_cases h22 : (x3 &&& (3 : Int32)) = (0 : Int32)
    · refine own_go (fun _ => XS.ifNo X0.here hx rfl (hb hby at_22) rfl ((if0 _ _).trans (teq h22).2)) ?_
      show own_Fin _ _ _ _ s₁ (mkF m 25 #[.val (.long x0), .second, .val (.long x1), .second, .val (.int x2), .val (.int x3), .val (.int z), .val (.int (x3 &&& (3 : Int32))), .unset, .unset, .unset, .unset, .unset] []) _ _ _
      refine own_go (fun _ => XS.lloadN X0.here hx rfl (hb hby at_25) rfl) ?_
      show own_Fin _ _ _ _ s₁ (mkF m 26 #[.val (.long x0), .second, .val (.long x1), .second, .val (.int x2), .val (.int x3), .val (.int z), .val (.int (x3 &&& (3 : Int32))), .unset, .unset, .unset, .unset, .unset] [(.long x0)]) _ _ _
      refine own_go (fun _ => XS.lstore X0.here hx rfl (hb hby at_26) rfl (l' := #[.val (.long x0), .second, .val (.long x1), .second, .val (.int x2), .val (.int x3), .val (.int z), .val (.int (x3 &&& (3 : Int32))), .val (.long x0), .second, .unset, .unset, .unset]) rfl) ?_
      show own_Fin _ _ _ _ s₁ (mkF m 28 #[.val (.long x0), .second, .val (.long x1), .second, .val (.int x2), .val (.int x3), .val (.int z), .val (.int (x3 &&& (3 : Int32))), .val (.long x0), .second, .unset, .unset, .unset] []) _ _ _
      refine own_go (fun _ => XS.goto X0.here hx rfl (pc0 := 28) (pc' := 62) rfl (hb hby at_28) (by decide) (by decide)) ?_
      show own_Fin _ _ _ _ s₁ (mkF m 62 #[.val (.long x0), .second, .val (.long x1), .second, .val (.int x2), .val (.int x3), .val (.int z), .val (.int (x3 &&& (3 : Int32))), .val (.long x0), .second, .unset, .unset, .unset] []) _ _ _
      exact J62 x0
    · refine own_go (fun _ => XS.ifYes X0.here hx rfl (pc0 := 22) (pc' := 31) rfl (hb hby at_22) rfl ((if0 _ _).trans (feq h22).2) (by decide) (by decide)) ?_
      show own_Fin _ _ _ _ s₁ (mkF m 31 #[.val (.long x0), .second, .val (.long x1), .second, .val (.int x2), .val (.int x3), .val (.int z), .val (.int (x3 &&& (3 : Int32))), .unset, .unset, .unset, .unset, .unset] []) _ _ _
      refine own_go (fun _ => XS.iload X0.here hx rfl (hb hby at_31) rfl) ?_
      show own_Fin _ _ _ _ s₁ (mkF m 33 #[.val (.long x0), .second, .val (.long x1), .second, .val (.int x2), .val (.int x3), .val (.int z), .val (.int (x3 &&& (3 : Int32))), .unset, .unset, .unset, .unset, .unset] [(.int (x3 &&& (3 : Int32)))]) _ _ _
      refine own_go (fun _ => XS.iconst X0.here hx rfl (hb hby at_33)) ?_
      show own_Fin _ _ _ _ s₁ (mkF m 34 #[.val (.long x0), .second, .val (.long x1), .second, .val (.int x2), .val (.int x3), .val (.int z), .val (.int (x3 &&& (3 : Int32))), .unset, .unset, .unset, .unset, .unset] [(.int (1 : Int32)), (.int (x3 &&& (3 : Int32)))]) _ _ _
      by_cases h34 : (x3 &&& (3 : Int32)) = (1 : Int32)
      · refine own_go (fun _ => XS.icmpNo X0.here hx rfl (hb hby at_34) rfl (teq h34).2) ?_
        show own_Fin _ _ _ _ s₁ (mkF m 37 #[.val (.long x0), .second, .val (.long x1), .second, .val (.int x2), .val (.int x3), .val (.int z), .val (.int (x3 &&& (3 : Int32))), .unset, .unset, .unset, .unset, .unset] []) _ _ _
        refine own_go (fun _ => XS.lloadN X0.here hx rfl (hb hby at_37) rfl) ?_
        show own_Fin _ _ _ _ s₁ (mkF m 38 #[.val (.long x0), .second, .val (.long x1), .second, .val (.int x2), .val (.int x3), .val (.int z), .val (.int (x3 &&& (3 : Int32))), .unset, .unset, .unset, .unset, .unset] [(.long x0)]) _ _ _
        refine own_go (fun _ => XS.lconst X0.here hx rfl (hb hby at_38)) ?_
        show own_Fin _ _ _ _ s₁ (mkF m 39 #[.val (.long x0), .second, .val (.long x1), .second, .val (.int x2), .val (.int x3), .val (.int z), .val (.int (x3 &&& (3 : Int32))), .unset, .unset, .unset, .unset, .unset] [(.long (1 : Int64)), (.long x0)]) _ _ _
        refine own_go (fun _ => XS.ladd X0.here hx rfl (hb hby at_39) rfl) ?_
        show own_Fin _ _ _ _ s₁ (mkF m 40 #[.val (.long x0), .second, .val (.long x1), .second, .val (.int x2), .val (.int x3), .val (.int z), .val (.int (x3 &&& (3 : Int32))), .unset, .unset, .unset, .unset, .unset] [(.long (x0 + (1 : Int64)))]) _ _ _
        refine own_go (fun _ => XS.lstore X0.here hx rfl (hb hby at_40) rfl (l' := #[.val (.long x0), .second, .val (.long x1), .second, .val (.int x2), .val (.int x3), .val (.int z), .val (.int (x3 &&& (3 : Int32))), .val (.long (x0 + (1 : Int64))), .second, .unset, .unset, .unset]) rfl) ?_
        show own_Fin _ _ _ _ s₁ (mkF m 42 #[.val (.long x0), .second, .val (.long x1), .second, .val (.int x2), .val (.int x3), .val (.int z), .val (.int (x3 &&& (3 : Int32))), .val (.long (x0 + (1 : Int64))), .second, .unset, .unset, .unset] []) _ _ _
        refine own_go (fun _ => XS.goto X0.here hx rfl (pc0 := 42) (pc' := 62) rfl (hb hby at_42) (by decide) (by decide)) ?_
        show own_Fin _ _ _ _ s₁ (mkF m 62 #[.val (.long x0), .second, .val (.long x1), .second, .val (.int x2), .val (.int x3), .val (.int z), .val (.int (x3 &&& (3 : Int32))), .val (.long (x0 + (1 : Int64))), .second, .unset, .unset, .unset] []) _ _ _
        exact J62 (x0 + (1 : Int64))
      · refine own_go (fun _ => XS.icmpYes X0.here hx rfl (pc0 := 34) (pc' := 45) rfl (hb hby at_34) rfl (feq h34).2 (by decide) (by decide)) ?_
        show own_Fin _ _ _ _ s₁ (mkF m 45 #[.val (.long x0), .second, .val (.long x1), .second, .val (.int x2), .val (.int x3), .val (.int z), .val (.int (x3 &&& (3 : Int32))), .unset, .unset, .unset, .unset, .unset] []) _ _ _
        refine own_go (fun _ => XS.iload X0.here hx rfl (hb hby at_45) rfl) ?_
        show own_Fin _ _ _ _ s₁ (mkF m 47 #[.val (.long x0), .second, .val (.long x1), .second, .val (.int x2), .val (.int x3), .val (.int z), .val (.int (x3 &&& (3 : Int32))), .unset, .unset, .unset, .unset, .unset] [(.int (x3 &&& (3 : Int32)))]) _ _ _
        refine own_go (fun _ => XS.iconst X0.here hx rfl (hb hby at_47)) ?_
        show own_Fin _ _ _ _ s₁ (mkF m 48 #[.val (.long x0), .second, .val (.long x1), .second, .val (.int x2), .val (.int x3), .val (.int z), .val (.int (x3 &&& (3 : Int32))), .unset, .unset, .unset, .unset, .unset] [(.int (2 : Int32)), (.int (x3 &&& (3 : Int32)))]) _ _ _
        by_cases h48 : (x3 &&& (3 : Int32)) = (2 : Int32)
        · refine own_go (fun _ => XS.icmpNo X0.here hx rfl (hb hby at_48) rfl (teq h48).2) ?_
          show own_Fin _ _ _ _ s₁ (mkF m 51 #[.val (.long x0), .second, .val (.long x1), .second, .val (.int x2), .val (.int x3), .val (.int z), .val (.int (x3 &&& (3 : Int32))), .unset, .unset, .unset, .unset, .unset] []) _ _ _
          refine own_go (fun _ => XS.lloadN X0.here hx rfl (hb hby at_51) rfl) ?_
          show own_Fin _ _ _ _ s₁ (mkF m 52 #[.val (.long x0), .second, .val (.long x1), .second, .val (.int x2), .val (.int x3), .val (.int z), .val (.int (x3 &&& (3 : Int32))), .unset, .unset, .unset, .unset, .unset] [(.long x0)]) _ _ _
          refine own_go (fun _ => XS.lconst X0.here hx rfl (hb hby at_52)) ?_
          show own_Fin _ _ _ _ s₁ (mkF m 53 #[.val (.long x0), .second, .val (.long x1), .second, .val (.int x2), .val (.int x3), .val (.int z), .val (.int (x3 &&& (3 : Int32))), .unset, .unset, .unset, .unset, .unset] [(.long (1 : Int64)), (.long x0)]) _ _ _
          refine own_go (fun _ => XS.lsub X0.here hx rfl (hb hby at_53) rfl) ?_
          show own_Fin _ _ _ _ s₁ (mkF m 54 #[.val (.long x0), .second, .val (.long x1), .second, .val (.int x2), .val (.int x3), .val (.int z), .val (.int (x3 &&& (3 : Int32))), .unset, .unset, .unset, .unset, .unset] [(.long (x0 - (1 : Int64)))]) _ _ _
          refine own_go (fun _ => XS.lstore X0.here hx rfl (hb hby at_54) rfl (l' := #[.val (.long x0), .second, .val (.long x1), .second, .val (.int x2), .val (.int x3), .val (.int z), .val (.int (x3 &&& (3 : Int32))), .val (.long (x0 - (1 : Int64))), .second, .unset, .unset, .unset]) rfl) ?_
          show own_Fin _ _ _ _ s₁ (mkF m 56 #[.val (.long x0), .second, .val (.long x1), .second, .val (.int x2), .val (.int x3), .val (.int z), .val (.int (x3 &&& (3 : Int32))), .val (.long (x0 - (1 : Int64))), .second, .unset, .unset, .unset] []) _ _ _
          refine own_go (fun _ => XS.goto X0.here hx rfl (pc0 := 56) (pc' := 62) rfl (hb hby at_56) (by decide) (by decide)) ?_
          show own_Fin _ _ _ _ s₁ (mkF m 62 #[.val (.long x0), .second, .val (.long x1), .second, .val (.int x2), .val (.int x3), .val (.int z), .val (.int (x3 &&& (3 : Int32))), .val (.long (x0 - (1 : Int64))), .second, .unset, .unset, .unset] []) _ _ _
          exact J62 (x0 - (1 : Int64))
        · refine own_go (fun _ => XS.icmpYes X0.here hx rfl (pc0 := 48) (pc' := 59) rfl (hb hby at_48) rfl (feq h48).2 (by decide) (by decide)) ?_
          show own_Fin _ _ _ _ s₁ (mkF m 59 #[.val (.long x0), .second, .val (.long x1), .second, .val (.int x2), .val (.int x3), .val (.int z), .val (.int (x3 &&& (3 : Int32))), .unset, .unset, .unset, .unset, .unset] []) _ _ _
          refine own_go (fun _ => XS.lloadN X0.here hx rfl (hb hby at_59) rfl) ?_
          show own_Fin _ _ _ _ s₁ (mkF m 60 #[.val (.long x0), .second, .val (.long x1), .second, .val (.int x2), .val (.int x3), .val (.int z), .val (.int (x3 &&& (3 : Int32))), .unset, .unset, .unset, .unset, .unset] [(.long x1)]) _ _ _
          refine own_go (fun _ => XS.lstore X0.here hx rfl (hb hby at_60) rfl (l' := #[.val (.long x0), .second, .val (.long x1), .second, .val (.int x2), .val (.int x3), .val (.int z), .val (.int (x3 &&& (3 : Int32))), .val (.long x1), .second, .unset, .unset, .unset]) rfl) ?_
          show own_Fin _ _ _ _ s₁ (mkF m 62 #[.val (.long x0), .second, .val (.long x1), .second, .val (.int x2), .val (.int x3), .val (.int z), .val (.int (x3 &&& (3 : Int32))), .val (.long x1), .second, .unset, .unset, .unset] []) _ _ _
          exact J62 x1
  refine own_go (fun _ => XS.iload X0.here hx rfl (hb hby at_0) rfl) ?_
  show own_Fin _ _ _ _ s₁ (mkF m 2 #[.val (.long x0), .second, .val (.long x1), .second, .val (.int x2), .val (.int x3), .unset, .unset, .unset, .unset, .unset, .unset, .unset] [(.int x2)]) _ _ _
  refine own_go (fun _ => XS.iconst X0.here hx rfl (hb hby at_2)) ?_
  show own_Fin _ _ _ _ s₁ (mkF m 3 #[.val (.long x0), .second, .val (.long x1), .second, .val (.int x2), .val (.int x3), .unset, .unset, .unset, .unset, .unset, .unset, .unset] [(.int (1 : Int32)), (.int x2)]) _ _ _
  refine own_go (fun _ => XS.iand X0.here hx rfl (hb hby at_3) rfl) ?_
  show own_Fin _ _ _ _ s₁ (mkF m 4 #[.val (.long x0), .second, .val (.long x1), .second, .val (.int x2), .val (.int x3), .unset, .unset, .unset, .unset, .unset, .unset, .unset] [(.int (x2 &&& (1 : Int32)))]) _ _ _
  by_cases h4 : (x2 &&& (1 : Int32)) = (0 : Int32)
  · refine own_go (fun _ => XS.ifYes X0.here hx rfl (pc0 := 4) (pc' := 11) rfl (hb hby at_4) rfl ((if0 _ _).trans (teq h4).1) (by decide) (by decide)) ?_
    show own_Fin _ _ _ _ s₁ (mkF m 11 #[.val (.long x0), .second, .val (.long x1), .second, .val (.int x2), .val (.int x3), .unset, .unset, .unset, .unset, .unset, .unset, .unset] []) _ _ _
    refine own_go (fun _ => XS.iconst X0.here hx rfl (hb hby at_11)) ?_
    show own_Fin _ _ _ _ s₁ (mkF m 12 #[.val (.long x0), .second, .val (.long x1), .second, .val (.int x2), .val (.int x3), .unset, .unset, .unset, .unset, .unset, .unset, .unset] [(.int (0 : Int32))]) _ _ _
    exact J12 (0 : Int32) (by decide)
  · refine own_go (fun _ => XS.ifNo X0.here hx rfl (hb hby at_4) rfl ((if0 _ _).trans (feq h4).1)) ?_
    show own_Fin _ _ _ _ s₁ (mkF m 7 #[.val (.long x0), .second, .val (.long x1), .second, .val (.int x2), .val (.int x3), .unset, .unset, .unset, .unset, .unset, .unset, .unset] []) _ _ _
    refine own_go (fun _ => XS.iconst X0.here hx rfl (hb hby at_7)) ?_
    show own_Fin _ _ _ _ s₁ (mkF m 8 #[.val (.long x0), .second, .val (.long x1), .second, .val (.int x2), .val (.int x3), .unset, .unset, .unset, .unset, .unset, .unset, .unset] [(.int (1 : Int32))]) _ _ _
    refine own_go (fun _ => XS.goto X0.here hx rfl (pc0 := 8) (pc' := 12) rfl (hb hby at_8) (by decide) (by decide)) ?_
    show own_Fin _ _ _ _ s₁ (mkF m 12 #[.val (.long x0), .second, .val (.long x1), .second, .val (.int x2), .val (.int x3), .unset, .unset, .unset, .unset, .unset, .unset, .unset] [(.int (1 : Int32))]) _ _ _
    exact J12 (1 : Int32) (by decide)

set_option maxRecDepth 65536 in
set_option maxHeartbeats 40000000 in
theorem comes_1 {Post : Tables → Env → Array Value → State → Outcome → State → Prop} (hpost : ∀ tb e args s v u, (limb_1_1.after args s (.returned v) u = true ∧ limb_1_2.after args s (.returned v) u = true) → FrameEnd s (.returned v) u (Jvm.fieldLocs frame_1_writes args s ++ Jvm.arrayLocs frame_1_arrays args s ++ Jvm.staticLocs frame_1_statics s) 16 128 → Post tb e args s (.returned v) u) :
    ArmFor flags0 classFile x code maxLocals ret World_1 tables_1 room_1 Calls_1 rest_1 Pre_1 Post := by
  intro l hfl _ _ p e ha hc hk s m args below hf hA hF happ hP
  obtain ⟨hcalls, hrest, hpre⟩ := hP
  obtain ⟨-, -, -, hnamed, -, -, -, hat⟩ := (Spec.applies_iff hf).mp happ
  obtain ⟨hg, hn⟩ := and_e (Cond.before_iff.mp (show (Jvm.Cond.and given_1 narrow_1).before args s = true from hpre))
  obtain ⟨gg1, gg2⟩ := and_e hg
  obtain ⟨gg3, gg4⟩ := and_e gg2
  obtain ⟨gg5, gg6⟩ := and_e gg4
  obtain ⟨gg7, gg8⟩ := and_e gg6
  obtain ⟨w0, w1, w2, w3, rfl⟩ : ∃ w0 w1 w2 w3 : Value, args = #[w0, w1, w2, w3] := by
    have hs : args.size = 4 := by simpa [Cond.value, given_1] using gg1
    obtain ⟨L⟩ := args
    match L, hs with
    | [w0, w1, w2, w3], _ => exact ⟨w0, w1, w2, w3, rfl⟩
  have hw := fun d (hd : d ∈ tables_1) => atoms_spec (ws := Jvm.Cond.code x code maxLocals ret :: tables_1) hat d (List.mem_cons_of_mem _ hd)
  obtain ⟨i0, ei0⟩ := isL_v gg3
  obtain rfl : w0 = (.long i0) := Option.some.inj ei0
  obtain ⟨i1, ei1⟩ := isL_v gg5
  obtain rfl : w1 = (.long i1) := Option.some.inj ei1
  obtain ⟨i2, ei2⟩ := is_v gg7
  obtain rfl : w2 = (.int i2) := Option.some.inj ei2
  obtain ⟨i3, ei3⟩ := is_v gg8
  obtain rfl : w3 = (.int i3) := Option.some.inj ei3
  obtain ⟨n, o, h1, h2, h3, _, L, rfl, ⟨rfl, N⟩, hq⟩ := rm0 l s _ hw tables_1 i0 i1 i2 i3 s.heap s.heap.size (Nat.le_refl _) p e ha hc hk s m _ below hf ((Spec.applies_iff_loose hf).mp happ).1 ⟨rfl, State.Warmed39.refl s, rfl⟩ trivial
  refine ⟨n, _, h1, h2, h3, hpost _ _ _ _ _ _ ⟨Cond.after_iff.mpr rfl, Cond.after_iff.mpr (eq_i res_at (Term.int_eval (1)) rfl)⟩ ⟨hq.1, hq.2.1, (hq.2.2.sift fun y hy => Or.inr (N y hy)).mono (by decide) (by decide)⟩⟩
theorem main_1_1 : Claimed_1_1 := comes_1 fun _ _ _ _ _ _ h hF => ⟨h.1, hF⟩
theorem main_1_2 : Claimed_1_2 := comes_1 fun _ _ _ _ _ _ h hF => ⟨h.2, hF⟩
end Jvm.Pilot.@@N@@
namespace Jvm.Pilot.@@N@@
open Jvm Jvm.ClassFile Sem Op Lib Jvm.Free Jvm.Stand Jvm.Pilot.@@N@@.Jvm.D
/-! MADE BY PROGRAM (witnessworld.py) out of the Statement's table words and the real class files: 10 classes; the members and pool entries that the words name. The judged class is class 1, her method 1. -/
namespace start1
open Jvm.ClassFile
def u (s : String) : CpInfo := .utf8 (stringToUtf16 s)
/-- a pool by its gaps: so many unusable entries, then the entry; so many at the end -/
def gap : Nat → List CpInfo → List CpInfo
  | 0, r => r
  | n + 1, r => .unusable :: gap n r
def poolList (es : List (Nat × CpInfo)) (last : Nat) : List CpInfo := es.foldr (fun e r => gap e.1 (e.2 :: r)) (gap last [])
def pool (es : List (Nat × CpInfo)) (last : Nat) : Array CpInfo := ⟨poolList es last⟩
def fileOf (pool : Array CpInfo) (this : Nat) (attrs : Array Attribute := #[]) (ms : Array MethodInfo := #[]) (fl : Nat := 33) (sup : Nat := 0) (ifs : Array Nat := #[]) (fds : Array FieldInfo := #[]) : ClassFile where
  minorVersion := 0
  majorVersion := 65
  constantPool := pool
  accessFlags := fl
  thisClass := this
  superClass := sup
  interfaces := ifs
  fields := fds
  methods := ms
  attributes := attrs
def plain (name : String) (sup : Option ClassId) : Class where
  name := name
  kind := .ordinary
  loader := none
  accessFlags := 33
  super := sup
  interfaces := #[]
  cf := none
  fields := #[]
  methods := #[]
  instanceTypes := #[]
  staticTypes := #[]
  resolved := #[]
  callSites := []
  init := .initialized
  statics := none
  mirror := none

def pool0 : Array CpInfo := pool [(5, u "<init>"), (0, u "()V"), (1, .class_ 10), (1, u "java/lang/Object")] 113

def k0c0 : Code := { maxStack := 0, maxLocals := 1, code := object_method_1_code, exceptionTable := #[], attributes := #[] }
def k0m0 : Method := { name := "<init>", desc := "()V", sig := { parameters := [], returnType := none }, accessFlags := 1, code := some k0c0 }
/-- java/lang/Object -/
def k0 : Class := { plain "java/lang/Object" none with
  accessFlags := 33
  interfaces := #[]
  cf := some (fileOf pool0 8 #[] #[{ accessFlags := 1, nameIndex := 5, descriptorIndex := 6, attributes := #[] }] 33 0 #[] #[])
  fields := #[]
  methods := #[k0m0]
  instanceTypes := #[]
  staticTypes := #[]
  resolved := Array.replicate 124 none
  statics := none }

def pool1 : Array CpInfo := pool [(2, .class_ 4), (1, u "java/lang/Object"), (0, u "<init>"), (0, u "()V"), (0, .class_ 8), (0, u "com/example/olefin_desk/olefindesk/OpenInterestLevel"), (0, .methodref 7 10), (0, .nameAndType 5 11), (0, u "(JZ)V"), (0, .methodref 7 13), (0, .nameAndType 14 15), (0, u "isReachedBy"), (0, u "(J)Z"), (0, .class_ 17), (0, u "com/example/olefin_desk/olefindesk/OpenInterestLevelIsReachedByPinLaw"), (2, u "law"), (0, u "(JJII)Z")] 3

def k1m0 : Method := { name := "<init>", desc := "()V", sig := { parameters := [], returnType := none }, accessFlags := 1, code := none }
def k1c1 : Code := { maxStack := 5, maxLocals := 13, code := code, exceptionTable := #[], attributes := #[] }
def k1m1 : Method := { name := "law", desc := "(JJII)Z", sig := { parameters := [.long, .long, .int, .int], returnType := some .boolean }, accessFlags := 9, code := some k1c1 }
/-- com/example/olefin_desk/olefindesk/OpenInterestLevelIsReachedByPinLaw -/
def k1 : Class := { plain "com/example/olefin_desk/olefindesk/OpenInterestLevelIsReachedByPinLaw" (some 0) with
  accessFlags := 49
  interfaces := #[]
  cf := some (fileOf pool1 16 #[] #[{ accessFlags := 1, nameIndex := 5, descriptorIndex := 6, attributes := #[] }, { accessFlags := 9, nameIndex := 20, descriptorIndex := 21, attributes := #[] }] 49 2 #[] #[])
  fields := #[]
  methods := #[k1m0, k1m1]
  instanceTypes := #[]
  staticTypes := #[]
  resolved := Array.replicate 25 none
  statics := none }

def pool2 : Array CpInfo := pool [(1, .methodref 2 3), (0, .class_ 4), (0, .nameAndType 5 6), (0, u "java/lang/Object"), (0, u "<init>"), (0, u "()V"), (0, .class_ 8), (0, u "java/lang/Record")] 13

def k2c0 : Code := { maxStack := 1, maxLocals := 1, code := jdk_30_method_1_code, exceptionTable := #[], attributes := #[] }
def k2m0 : Method := { name := "<init>", desc := "()V", sig := { parameters := [], returnType := none }, accessFlags := 4, code := some k2c0 }
/-- java/lang/Record -/
def k2 : Class := { plain "java/lang/Record" (some 0) with
  accessFlags := 1057
  interfaces := #[]
  cf := some (fileOf pool2 7 #[] #[{ accessFlags := 4, nameIndex := 5, descriptorIndex := 6, attributes := #[] }] 1057 2 #[] #[])
  fields := #[]
  methods := #[k2m0]
  instanceTypes := #[]
  staticTypes := #[]
  resolved := Array.replicate 22 none
  statics := none }

def pool3 : Array CpInfo := pool [(1, .methodref 2 3), (0, .class_ 4), (0, .nameAndType 5 6), (0, u "java/lang/Record"), (0, u "<init>"), (0, u "()V"), (0, .fieldref 8 9), (0, .class_ 10), (0, .nameAndType 11 12), (0, u "com/example/olefin_desk/olefindesk/OpenInterestLevel"), (0, u "lots"), (0, u "J"), (0, .fieldref 8 14), (0, .nameAndType 15 16), (0, u "orMore"), (0, u "Z"), (2, u "(JZ)V"), (17, u "isReachedBy"), (0, u "(J)Z")] 27

def k3c0 : Code := { maxStack := 3, maxLocals := 4, code := prog_19_method_1_code, exceptionTable := #[], attributes := #[] }
def k3m0 : Method := { name := "<init>", desc := "(JZ)V", sig := { parameters := [.long, .boolean], returnType := none }, accessFlags := 1, code := some k3c0 }
def k3c1 : Code := { maxStack := 4, maxLocals := 3, code := prog_19_method_4_code, exceptionTable := #[], attributes := #[] }
def k3m1 : Method := { name := "isReachedBy", desc := "(J)Z", sig := { parameters := [.long], returnType := some .boolean }, accessFlags := 1, code := some k3c1 }
/-- com/example/olefin_desk/olefindesk/OpenInterestLevel -/
def k3 : Class := { plain "com/example/olefin_desk/olefindesk/OpenInterestLevel" (some 2) with
  accessFlags := 49
  interfaces := #[]
  cf := some (fileOf pool3 8 #[] #[{ accessFlags := 1, nameIndex := 5, descriptorIndex := 19, attributes := #[] }, { accessFlags := 1, nameIndex := 37, descriptorIndex := 38, attributes := #[] }] 49 2 #[] #[{ accessFlags := 18, nameIndex := 11, descriptorIndex := 12, attributes := #[] }, { accessFlags := 18, nameIndex := 15, descriptorIndex := 16, attributes := #[] }])
  fields := #[{ name := "lots", type := .long, accessFlags := 18, slot := 0, constantValue := 0 }, { name := "orMore", type := .boolean, accessFlags := 18, slot := 1, constantValue := 0 }]
  methods := #[k3m0, k3m1]
  instanceTypes := #[.long, .boolean]
  staticTypes := #[]
  resolved := Array.replicate 66 none
  statics := none }

def pool4 : Array CpInfo := pool [(1, u "java/lang/Cloneable"), (0, .class_ 1), (0, u "java/lang/Object"), (0, .class_ 3)] 3

/-- java/lang/Cloneable -/
def k4 : Class := { plain "java/lang/Cloneable" (some 0) with
  accessFlags := 1537
  interfaces := #[]
  cf := some (fileOf pool4 2 #[] #[] 1537 4 #[] #[])
  fields := #[]
  methods := #[]
  instanceTypes := #[]
  staticTypes := #[]
  resolved := Array.replicate 8 none
  statics := none }

def pool5 : Array CpInfo := pool [(1, u "java/io/Serializable"), (0, .class_ 1), (0, u "java/lang/Object"), (0, .class_ 3)] 3

/-- java/io/Serializable -/
def k5 : Class := { plain "java/io/Serializable" (some 0) with
  accessFlags := 1537
  interfaces := #[]
  cf := some (fileOf pool5 2 #[] #[] 1537 4 #[] #[])
  fields := #[]
  methods := #[]
  instanceTypes := #[]
  staticTypes := #[]
  resolved := Array.replicate 8 none
  statics := none }

/-- the primitive byte -/
def k6 : Class := { plain "byte" none with kind := .primitive 'B', accessFlags := 0x411 }
/-- [B -/
def k7 : Class := { plain "[B" (some 0) with kind := .array 6 .byte, interfaces := #[4, 5], accessFlags := 1041 }

/-- the primitive int -/
def k8 : Class := { plain "int" none with kind := .primitive 'I', accessFlags := 0x411 }
/-- [I -/
def k9 : Class := { plain "[I" (some 0) with kind := .array 8 .int, interfaces := #[4, 5], accessFlags := 1041 }

def heap : Heap := #[]
def classes : Array Class := #[k0, k1, k2, k3, k4, k5, k6, k7, k8, k9]
def interned : List (Array UInt16 × Addr) := []
def slotsUsed : Nat := 0
def theMethod : MethodId := ⟨1, 1⟩
def args0 : Array Value := #[.long 5, .long 7, .int 1, .int 2]
def aboutOver (below : List Frame) : State where
  vm := { classes := classes, interned := interned.toArray }
  heap := heap
  slotsUsed := slotsUsed
  threads := #[{ frames := .invoking theMethod args0 :: below }]
def below0 : List Frame := [.native { method := ⟨0, 0⟩, args := #[] }]
def about1 : State := aboutOver below0
def p0 : Program := .bare "" "" ""
def e0 : Env := launch0.env 0 0 0
theorem w_frames : about1.frames = Frame.invoking theMethod args0 :: below0 := rfl
set_option maxRecDepth 65536 in
theorem w_args : argsFit about1.vm theMethod args0 = true := by decide +kernel
set_option maxRecDepth 65536 in
theorem w_heap : heapFits about1 = true := by decide +kernel
set_option maxRecDepth 65536 in
theorem w_runnable : about1.curStatus? = some .runnable := by decide +kernel
set_option maxRecDepth 65536 in
theorem w_alone : about1.alone = true := by decide +kernel
set_option maxRecDepth 65536 in
theorem w_named : about1.methodNamed? x = some theMethod := by decide +kernel
set_option maxRecDepth 65536 in
theorem w_hears : about1.hears theMethod below0 = true := by decide +kernel
set_option maxRecDepth 65536 in
theorem w_ripe : about1.ripe theMethod args0 below0 = true := by decide +kernel
theorem w_running : about1.status = .running := rfl
set_option maxRecDepth 65536 in
theorem w_room : about1.hasRoom e0.platform room_1 = true :=
  launch0.hasRoom_least _ room_1 (by decide +kernel) (by decide +kernel) (by decide +kernel) (by decide +kernel) (by decide +kernel) (by decide +kernel)
theorem allAtoms_all (ts : List Jvm.Cond) (a : Array Jvm.Value) (st : Jvm.State) : (allAtoms ts).before a st = ts.all (fun c => c.before a st) := by
  induction ts with
  | nil => rfl
  | cons c t ih =>
    show (Jvm.Cond.and c (allAtoms t)).before a st = _
    rw [Jvm.Cond.before_and, ih, List.all_cons]
def words1 : List Jvm.Cond := Jvm.Cond.code x code maxLocals ret :: tables_1
/-- a 'code' word, met by the world's own term for the bytes: nothing is compared byte by byte -/
theorem code_word {y : MethodName} {bytes : ByteArray} {mx : Nat} {rt : Option FieldType} {a : Array Value} {s : State} {m : MethodId} {meth : Method} {c : Code} (h1 : s.methodNamed? y = some m) (h2 : s.vm.method? m = some meth) (h3 : meth.code = some c) (h4 : c.code = bytes)
    (h5 : (c.maxLocals == mx && c.exceptionTable.isEmpty && decide (c.maxStack ≤ mostOperands) && decide (meth.sig.returnType = rt) && !meth.locks && decide (parseMethodDescriptor y.desc = some meth.sig)) = true) : (Jvm.Cond.code y bytes mx rt).before a s = true := by
  simp only [Bool.and_eq_true, beq_iff_eq, Bool.not_eq_true', decide_eq_true_eq] at h5
  obtain ⟨⟨⟨⟨⟨g1, g2⟩, g3⟩, g4⟩, g5⟩, g6⟩ := h5
  simp [Cond.before, Cond.holds, Cond.value, h1, h2, h3, h4, g1, g2, g3, g4, g5, g6]
def isCode : Jvm.Cond → Bool
  | .code _ _ _ _ => true
  | _ => false
theorem all_split {L : List Jvm.Cond} {P : Jvm.Cond → Bool} (h1 : L.all (fun c => isCode c || P c) = true) (h2 : ∀ c ∈ L.filter isCode, P c = true) : L.all P = true := by
  refine List.all_eq_true.mpr fun c hc => ?_
  have h := List.all_eq_true.mp h1 c hc
  rcases Bool.eq_false_or_eq_true (isCode c) with hi | hi
  · exact h2 c (List.mem_filter.mpr ⟨hc, hi⟩)
  · simpa [hi] using h
set_option maxRecDepth 65536 in
theorem w_c0 : (Jvm.Cond.code x code maxLocals ret).before args0 about1 = true := code_word (m := ⟨1, 1⟩) (meth := k1m1) (c := k1c1) (by decide +kernel) rfl rfl rfl (by decide +kernel)
set_option maxRecDepth 65536 in
theorem w_c1 : (Jvm.Cond.code ({ cls := "com/example/olefin_desk/olefindesk/OpenInterestLevel", name := "<init>", desc := "(JZ)V" } : Jvm.MethodName) prog_19_method_1_code (4 : Nat) (Option.none : Option Jvm.ClassFile.FieldType)).before args0 about1 = true := code_word (m := ⟨3, 0⟩) (meth := k3m0) (c := k3c0) (by decide +kernel) rfl rfl rfl (by decide +kernel)
set_option maxRecDepth 65536 in
theorem w_c2 : (Jvm.Cond.code ({ cls := "java/lang/Record", name := "<init>", desc := "()V" } : Jvm.MethodName) jdk_30_method_1_code (1 : Nat) (Option.none : Option Jvm.ClassFile.FieldType)).before args0 about1 = true := code_word (m := ⟨2, 0⟩) (meth := k2m0) (c := k2c0) (by decide +kernel) rfl rfl rfl (by decide +kernel)
set_option maxRecDepth 65536 in
theorem w_c3 : (Jvm.Cond.code ({ cls := "java/lang/Object", name := "<init>", desc := "()V" } : Jvm.MethodName) object_method_1_code (1 : Nat) (Option.none : Option Jvm.ClassFile.FieldType)).before args0 about1 = true := code_word (m := ⟨0, 0⟩) (meth := k0m0) (c := k0c0) (by decide +kernel) rfl rfl rfl (by decide +kernel)
set_option maxRecDepth 65536 in
theorem w_c4 : (Jvm.Cond.code ({ cls := "com/example/olefin_desk/olefindesk/OpenInterestLevel", name := "isReachedBy", desc := "(J)Z" } : Jvm.MethodName) prog_19_method_4_code (3 : Nat) (Option.some Jvm.ClassFile.FieldType.boolean)).before args0 about1 = true := code_word (m := ⟨3, 1⟩) (meth := k3m1) (c := k3c1) (by decide +kernel) rfl rfl rfl (by decide +kernel)
def codes1 : List Jvm.Cond := [Jvm.Cond.code x code maxLocals ret, Jvm.Cond.code ({ cls := "com/example/olefin_desk/olefindesk/OpenInterestLevel", name := "<init>", desc := "(JZ)V" } : Jvm.MethodName) prog_19_method_1_code (4 : Nat) (Option.none : Option Jvm.ClassFile.FieldType), Jvm.Cond.code ({ cls := "java/lang/Record", name := "<init>", desc := "()V" } : Jvm.MethodName) jdk_30_method_1_code (1 : Nat) (Option.none : Option Jvm.ClassFile.FieldType), Jvm.Cond.code ({ cls := "java/lang/Object", name := "<init>", desc := "()V" } : Jvm.MethodName) object_method_1_code (1 : Nat) (Option.none : Option Jvm.ClassFile.FieldType), Jvm.Cond.code ({ cls := "com/example/olefin_desk/olefindesk/OpenInterestLevel", name := "isReachedBy", desc := "(J)Z" } : Jvm.MethodName) prog_19_method_4_code (3 : Nat) (Option.some Jvm.ClassFile.FieldType.boolean)]
set_option maxRecDepth 65536 in
theorem codes_eq : words1.filter isCode = codes1 := rfl
theorem w_codes : ∀ c ∈ words1.filter isCode, c.before args0 about1 = true := by
  rw [codes_eq]
  intro c hc
  simp only [codes1, List.mem_cons, List.not_mem_nil, or_false] at hc
  rcases hc with rfl | rfl | rfl | rfl | rfl
  · exact w_c0
  · exact w_c1
  · exact w_c2
  · exact w_c3
  · exact w_c4
set_option maxRecDepth 65536 in
theorem w_t1 : words1.all (fun c => isCode c || c.before args0 about1) = true := by decide +kernel
theorem w_tables : (allAtoms (Jvm.Cond.code x code maxLocals ret :: tables_1)).before args0 about1 = true := by
  rw [allAtoms_all]
  show words1.all (fun c => c.before args0 about1) = true
  refine all_split ?_ w_codes
  rw [w_t1]
set_option maxRecDepth 65536 in
theorem w_case : (Jvm.Cond.and given_1 narrow_1).before args0 about1 = true := by decide +kernel
theorem w_applies : (headSpec (Jvm.Cond.code x code maxLocals ret :: tables_1) room_1).applies x e0.platform about1 = true :=
  (Spec.applies_iff w_frames).mpr ⟨w_running, w_runnable, w_alone, w_named, w_hears, w_ripe, w_room, w_tables⟩
theorem atStart : AtStart classFile x code maxLocals ret World_1 tables_1 room_1 Calls_1 rest_1 Pre_1 launch0 p0 e0 about1 theMethod args0 below0 :=
  ⟨lists_1, trivial, launch0.admits_env _ _ _, launch0.least_env, fairChoices_fair.cas, fairChoices_fair.clock, w_frames, w_args, w_heap, w_applies, trivial, trivial, w_case⟩
end start1
theorem witness_1 : WitnessClaimed_1 := ⟨start1.p0, start1.e0, start1.about1, start1.theMethod, start1.args0, start1.below0, start1.atStart⟩
end Jvm.Pilot.@@N@@
