import JvmDerived
import JvmDerived.Pilot.@@N@@Statement
import JvmDerived.Pilot.@@N@@Code
set_option linter.unusedVariables false
set_option linter.unusedSimpArgs false
@@BLOCK:NumsL.lean.txt@@
namespace Jvm.Pilot.@@N@@
open Jvm Jvm.ClassFile Sem Op Lib Jvm.Free Jvm.Stand Jvm.LawKit Jvm.RoadKit Bundle Jvm.Pilot.@@N@@.Jvm.D
/-! from the frame g at T the run ends in a return: Q of what is returned, the heap and the written places -/
def own_Fin (p : Program) (e : Env) (below : List Frame) (s T : State) (g : JFrame) (Q : Option Value → Heap → List Loc → Prop) (C S : Nat) : Prop :=
  ∃ s₂ o, Steps p.tables e below (T.setTop g) s₂ ∧ s₂.status = .running ∧ Ended s₂ below o ∧ ∃ v L, o = .returned v ∧ Q v s₂.heap L ∧ FrameEnd s o s₂ L C S
section Own
variable {p : Program} {l : Launch} {e : Env} {R : Room} {s : State} {m : MethodId} {args : Array Value} {below : List Frame} {meth : Method} {c : Code} {T T' : State} {g g' : JFrame} {locs : List Loc} {cells slots C S : Nat} {Q : Option Value → Heap → List Loc → Prop}
theorem own_go (h : ∀ t, Steps p.tables e below (T'.setTop g') t → Steps p.tables e below (T.setTop g) t) (k : own_Fin p e below s T' g' Q C S) : own_Fin p e below s T g Q C S := by
  obtain ⟨s2, o, h1, r⟩ := k
  exact ⟨s2, o, h _ h1, r⟩
theorem own_gt (h : Steps p.tables e below (T.setTop g) (T'.setTop g')) (k : own_Fin p e below s T' g' Q C S) : own_Fin p e below s T g Q C S := by
  obtain ⟨s2, o, h1, r⟩ := k
  exact ⟨s2, o, h.trans h1, r⟩
theorem own_end (X : Stand p l e R s m args below meth c T locs cells slots) (hnl : meth.locks = false) {v : Option Value} (hv : meth.sig.returnType = none → v = none)
    (st : ∀ fs, (∀ (f : JFrame) (acts : List Action), f.method = m → f.locked = none → f.entered = [] → (doReturn e (T.setTop f) acts v).1 = T.setFrames fs) → Steps p.tables e below (T.setTop g) (T.setFrames fs)) (hc : cells ≤ C) (hs : slots ≤ S) (hQ : Q v T.heap locs) : own_Fin p e below s T g Q C S := by
  obtain ⟨fs, hr, hrun, hended, hW, hsame⟩ := X.leave (v := v) hv hnl
  exact ⟨_, _, st fs hr, hrun, hended, _, _, rfl, hQ, ⟨_, rfl⟩, hW, hsame.mono hc hs⟩
theorem own_retZ (X : Stand p l e R s m args below meth c T locs cells slots) (hx : p.tables.exec = Jvm.exec) (hnl : meth.locks = false) {pc : Nat} {Ls : Array Slot} {z : Int32} {t : FieldType} {rest : List Value} (hret : meth.sig.returnType = some t) (ht : t = .boolean ∨ t = .byte ∨ t = .char ∨ t = .short)
    (hd : decode c.code pc = .ok (.ireturn, 1)) (hc : cells ≤ C) (hs : slots ≤ S) (hQ : Q (some (.int (nar t z))) T.heap locs) : own_Fin p e below s T (mkF m pc Ls (.int z :: rest)) Q C S :=
  own_end X hnl (fun h => by rw [hret] at h; cases h) (fun fs hr => retN X hx hret ht hd hr) hc hs hQ
theorem own_retI (X : Stand p l e R s m args below meth c T locs cells slots) (hx : p.tables.exec = Jvm.exec) (hnl : meth.locks = false) {pc : Nat} {Ls : Array Slot} {z : Int32} {rest : List Value} (hret : meth.sig.returnType = some .int)
    (hd : decode c.code pc = .ok (.ireturn, 1)) (hc : cells ≤ C) (hs : slots ≤ S) (hQ : Q (some (.int z)) T.heap locs) : own_Fin p e below s T (mkF m pc Ls (.int z :: rest)) Q C S :=
  own_end X hnl (fun h => by rw [hret] at h; cases h) (fun fs hr => by
    have hm' : T.vm.method? m = some meth := X.method'
    have hn : narrow .int (.int z) = .int z := rfl
    show Steps p.tables e below (T.setTop { method := m, pc := pc, locals := Ls, stack := _ :: rest, locked := none }) _
    jvm_step X.here [X.here.top, hx, hd, hm', hret, hn]
    first | (intro acts; rw [hr _ acts rfl rfl rfl]) | rw [hr _ _ rfl rfl rfl]
    exact Steps.refl _) hc hs hQ
theorem own_retJ (X : Stand p l e R s m args below meth c T locs cells slots) (hx : p.tables.exec = Jvm.exec) (hnl : meth.locks = false) {pc : Nat} {Ls : Array Slot} {z : Int64} (hret : meth.sig.returnType = some .long)
    (hd : decode c.code pc = .ok (.lreturn, 1)) (hc : cells ≤ C) (hs : slots ≤ S) (hQ : Q (some (.long z)) T.heap locs) : own_Fin p e below s T (mkF m pc Ls [.long z]) Q C S :=
  own_end X hnl (fun h => by rw [hret] at h; cases h) (fun fs hr => X.lreturnOut hx hret hd hr) hc hs hQ
theorem own_retV (X : Stand p l e R s m args below meth c T locs cells slots) (hx : p.tables.exec = Jvm.exec) (hnl : meth.locks = false) {pc : Nat} {Ls : Array Slot} (hret : meth.sig.returnType = none)
    (hd : decode c.code pc = .ok (.return_, 1)) (hc : cells ≤ C) (hs : slots ≤ S) (hQ : Q none T.heap locs) : own_Fin p e below s T (mkF m pc Ls []) Q C S :=
  own_end X hnl (fun _ => rfl) (fun fs hr => X.returnOut hx hret hd hr) hc hs hQ
end Own
theorem d2_0 : decode jdk_30_method_1_code 0 = .ok (.aload_n 0, 1) := by decide +kernel
theorem d2_1 : decode jdk_30_method_1_code 1 = .ok (.invokespecial 1, 3) := by decide +kernel
theorem d2_4 : decode jdk_30_method_1_code 4 = .ok (.return_, 1) := by decide +kernel
theorem pn_2 : plainName "java/lang/Record" = true := by first | (simp [plainName, overriddenIn]; done) | decide +kernel
theorem ef_2 (m : MethodId) (x0 : Addr) : entryFrame m #[(.ref x0)] 1 = mkF m 0 #[.val (.ref x0)] [] := by first | (simp [entryFrame, mkF, argsToLocals, Value.category]; done) | rfl
def Q2 (Z : State) (x0 : Addr) (h0 : Heap) (n0 : Nat) (v : Option Value) (h : Heap) (L : List Loc) : Prop := v = none ∧ Fr n0 L ∧ h = h0
set_option maxRecDepth 65536 in
set_option maxHeartbeats 40000000 in
theorem rm2 (l : Launch) (Z : State) (a0 : Array Value) (hw : ∀ d ∈ tables_1, d.before a0 Z = true) (ws : List Jvm.Cond) (x0 : Addr) (h0 : Heap) (n0 : Nat) (Z0 : n0 ≤ h0.size) :
    MetFree l (⟨"java/lang/Record", "<init>", "()V"⟩ : MethodName) (head1 (Jvm.Cond.code (⟨"java/lang/Record", "<init>", "()V"⟩ : MethodName) jdk_30_method_1_code 1 none :: ws) ({ frames := 1, cells := 0, slots := 0, locals := 12 } : Room)) (fun a U => a = #[(.ref x0)] ∧ Z.Warmed39 U.vm ∧ U.heap = h0) (fun _ _ _ _ _ => True) (fun _ U o U' => ∃ v L, o = .returned v ∧ Q2 Z x0 h0 n0 v U'.heap L ∧ FrameEnd U o U' L ({ frames := 1, cells := 0, slots := 0, locals := 12 } : Room).cells ({ frames := 1, cells := 0, slots := 0, locals := 12 } : Room).slots) := by
  refine MetFree.of_bodySF (plainFor_of_name pn_2) hisR ?_
  intro p e s m args below meth c s₁ Bd hml0 hP hK
  obtain ⟨rfl, hZ, hh⟩ := hP
  have hx := Bd.exec
  have hby := Bd.bytes
  have hret := Bd.returns
  have hnl : meth.locks = false := Bd.notSynchronized
  have hml : c.maxLocals = 1 := hml0
  have hown : s.vm.findClass "java/lang/Record" = some m.cls := findClass_of_methodNamed Bd.named
  have hnm := (name_of_methodNamed Bd.named Bd.method).1
  have X0 : Stand p l e ({ frames := 1, cells := 0, slots := 0, locals := 12 } : Room) s m #[(.ref x0)] below meth c s₁ [] 0 0 := Stand.of_body Bd
  have e0 : s₁.heap = h0 := by rw [← hh, Bd.state]; rfl
  have N0 := Fr.nil n0
  suffices key : own_Fin p e below s s₁ (mkF m 0 #[.val (.ref x0)] []) (Q2 Z x0 h0 n0) ({ frames := 1, cells := 0, slots := 0, locals := 12 } : Room).cells ({ frames := 1, cells := 0, slots := 0, locals := 12 } : Room).slots by
    obtain ⟨s2, o, h1, h2⟩ := key
    exact ⟨s2, o, castTop (ef_2 m x0) h1, h2⟩
  refine own_go (fun _ => XS.aloadN X0.here hx rfl (hb hby d2_0) rfl rfl) ?_
  show own_Fin _ _ _ _ s₁ (mkF m 1 #[.val (.ref x0)] [(.ref x0)]) _ _ _
  obtain ⟨T1, X1, e1, st1⟩ := initO X0 hx hZ hown (hw _ (List.mem_of_getElem? (i := 11) rfl)) (hw _ (List.mem_of_getElem? (i := 12) rfl)) (hw _ (List.mem_of_getElem? (i := 13) rfl)) e0 (g := (mkF m 1 #[.val (.ref x0)] [(.ref x0)])) rfl (by rw [hml]; rfl) rfl (hb hby d2_1) (by decide) (W := 0) (by show 2 * 0 + _ ≤ _; exact Nat.le_of_eq rfl) (by decide)
  refine own_go st1 ?_
  show own_Fin _ _ _ _ T1 (mkF m 4 #[.val (.ref x0)] []) _ _ _
  exact own_retV X1 hx hnl hret (hb hby d2_4) (by decide) (by decide) ⟨rfl, N0, e1⟩

theorem d1_0 : decode prog_31_method_1_code 0 = .ok (.aload_n 0, 1) := by decide +kernel
theorem d1_1 : decode prog_31_method_1_code 1 = .ok (.invokespecial 1, 3) := by decide +kernel
theorem d1_4 : decode prog_31_method_1_code 4 = .ok (.aload_n 0, 1) := by decide +kernel
theorem d1_5 : decode prog_31_method_1_code 5 = .ok (.iload_n 1, 1) := by decide +kernel
theorem d1_6 : decode prog_31_method_1_code 6 = .ok (.putfield 7, 3) := by decide +kernel
theorem d1_9 : decode prog_31_method_1_code 9 = .ok (.aload_n 0, 1) := by decide +kernel
theorem d1_10 : decode prog_31_method_1_code 10 = .ok (.iload_n 2, 1) := by decide +kernel
theorem d1_11 : decode prog_31_method_1_code 11 = .ok (.putfield 13, 3) := by decide +kernel
theorem d1_14 : decode prog_31_method_1_code 14 = .ok (.return_, 1) := by decide +kernel
theorem pd_0 : parseMethodDescriptor "()V" = some ⟨[], none⟩ := by decide +kernel
theorem pn_1 : plainName "com/example/olefin_desk/olefindesk/TradingDayOfMonth" = true := by first | (simp [plainName, overriddenIn]; done) | decide +kernel
theorem ef_1 (m : MethodId) (x0 : Addr) (x1 : Int32) (x2 : Int32) : entryFrame m #[(.ref x0), (.int x1), (.int x2)] 3 = mkF m 0 #[.val (.ref x0), .val (.int x1), .val (.int x2)] [] := by first | (simp [entryFrame, mkF, argsToLocals, Value.category]; done) | rfl
def Q1 (Z : State) (x0 : Addr) (x1 : Int32) (x2 : Int32) (u0 : Value) (u1 : Value) (h0 : Heap) (n0 : Nat) (v : Option Value) (h : Heap) (L : List Loc) : Prop := v = none ∧ Fr n0 L ∧ Keep h0 h [x0] ∧ Exa Z h x0 "com/example/olefin_desk/olefindesk/TradingDayOfMonth" ∧ Fld Z h x0 "com/example/olefin_desk/olefindesk/TradingDayOfMonth" "n" "I" (.int x1) ∧ Fld Z h x0 "com/example/olefin_desk/olefindesk/TradingDayOfMonth" "fromEnd" "Z" (.int (nar .boolean x2))
set_option maxRecDepth 65536 in
set_option maxHeartbeats 40000000 in
theorem rm1 (l : Launch) (Z : State) (a0 : Array Value) (hw : ∀ d ∈ tables_1, d.before a0 Z = true) (ws : List Jvm.Cond) (x0 : Addr) (x1 : Int32) (x2 : Int32) (u0 : Value) (u1 : Value) (h0 : Heap) (n0 : Nat) (Z0 : n0 ≤ h0.size) (E_x0 : Exa Z h0 x0 "com/example/olefin_desk/olefindesk/TradingDayOfMonth") (g_x0 : n0 ≤ x0) (F0 : Fld Z h0 x0 "com/example/olefin_desk/olefindesk/TradingDayOfMonth" "n" "I" u0) (F1 : Fld Z h0 x0 "com/example/olefin_desk/olefindesk/TradingDayOfMonth" "fromEnd" "Z" u1) :
    MetFree l (⟨"com/example/olefin_desk/olefindesk/TradingDayOfMonth", "<init>", "(IZ)V"⟩ : MethodName) (head1 (Jvm.Cond.code (⟨"com/example/olefin_desk/olefindesk/TradingDayOfMonth", "<init>", "(IZ)V"⟩ : MethodName) prog_31_method_1_code 3 none :: ws) ({ frames := 2, cells := 0, slots := 0, locals := 24 } : Room)) (fun a U => a = #[(.ref x0), (.int x1), (.int x2)] ∧ Z.Warmed39 U.vm ∧ U.heap = h0) (fun _ _ _ _ _ => True) (fun _ U o U' => ∃ v L, o = .returned v ∧ Q1 Z x0 x1 x2 u0 u1 h0 n0 v U'.heap L ∧ FrameEnd U o U' L ({ frames := 2, cells := 0, slots := 0, locals := 24 } : Room).cells ({ frames := 2, cells := 0, slots := 0, locals := 24 } : Room).slots) := by
  refine MetFree.of_bodySF (plainFor_of_name pn_1) hisR ?_
  intro p e s m args below meth c s₁ Bd hml0 hP hK
  obtain ⟨rfl, hZ, hh⟩ := hP
  have hx := Bd.exec
  have hby := Bd.bytes
  have hret := Bd.returns
  have hnl : meth.locks = false := Bd.notSynchronized
  have hml : c.maxLocals = 3 := hml0
  have hown : s.vm.findClass "com/example/olefin_desk/olefindesk/TradingDayOfMonth" = some m.cls := findClass_of_methodNamed Bd.named
  have hnm := (name_of_methodNamed Bd.named Bd.method).1
  have X0 : Stand p l e ({ frames := 2, cells := 0, slots := 0, locals := 24 } : Room) s m #[(.ref x0), (.int x1), (.int x2)] below meth c s₁ [] 0 0 := Stand.of_body Bd
  have e0 : s₁.heap = h0 := by rw [← hh, Bd.state]; rfl
  have N0 := Fr.nil n0
  suffices key : own_Fin p e below s s₁ (mkF m 0 #[.val (.ref x0), .val (.int x1), .val (.int x2)] []) (Q1 Z x0 x1 x2 u0 u1 h0 n0) ({ frames := 2, cells := 0, slots := 0, locals := 24 } : Room).cells ({ frames := 2, cells := 0, slots := 0, locals := 24 } : Room).slots by
    obtain ⟨s2, o, h1, h2⟩ := key
    exact ⟨s2, o, castTop (ef_1 m x0 x1 x2) h1, h2⟩
  refine own_go (fun _ => XS.aloadN X0.here hx rfl (hb hby d1_0) rfl rfl) ?_
  show own_Fin _ _ _ _ s₁ (mkF m 1 #[.val (.ref x0), .val (.int x1), .val (.int x2)] [(.ref x0)]) _ _ _
  obtain ⟨_, _, ⟨T1, L1, k1, n1⟩, -, X1, ⟨Lc1, hQ1, l1, y1, z1⟩, st1⟩ := X0.specialBack hx (y := (⟨"java/lang/Record", "<init>", "()V"⟩ : MethodName)) rfl hown (mvT hZ (hw _ (List.mem_of_getElem? (i := 6) rfl))) (mvT hZ (hw _ (List.mem_of_getElem? (i := 7) rfl))) (mvT hZ (hw _ (List.mem_of_getElem? (i := 10) rfl))) (by decide) (backOf (W := 0) (rm2 l Z a0 hw [] x0  h0 n0 Z0 ) hZ (hw _ (List.mem_of_getElem? (i := 10) rfl)) (hw _ (List.mem_of_getElem? (i := 9) rfl)) (by decide) (by decide)) (g := (mkF m 1 #[.val (.ref x0), .val (.int x1), .val (.int x2)] [(.ref x0)])) rfl (by rw [hml]; rfl) (Steps.refl _) (a := x0) (argsL := []) (rest := []) (lenOf pd_0 rfl) rfl (by show 2 * 0 + _ ≤ _; exact Nat.le_of_eq rfl) (hb hby d1_1) (fun _ _ => ⟨rfl, e0, (by decide : 0 + 0 ≤ _), (by decide : 0 + 0 ≤ _)⟩)
  dsimp only [Pt.U, Pt.locs, Pt.cells, Pt.slots] at X1 l1 y1 z1 st1 hQ1
  subst l1 y1 z1
  obtain ⟨rfl, N1q, e1⟩ := hQ1
  have N1 := Fr.app N0 N1q
  refine own_gt st1 ?_
  show own_Fin _ _ _ _ T1 (mkF m 4 #[.val (.ref x0), .val (.int x1), .val (.int x2)] []) _ _ _
  refine own_go (fun _ => XS.aloadN X1.here hx rfl (hb hby d1_4) rfl rfl) ?_
  show own_Fin _ _ _ _ T1 (mkF m 5 #[.val (.ref x0), .val (.int x1), .val (.int x2)] [(.ref x0)]) _ _ _
  refine own_go (fun _ => XS.iloadN X1.here hx rfl (hb hby d1_5) rfl) ?_
  show own_Fin _ _ _ _ T1 (mkF m 6 #[.val (.ref x0), .val (.int x1), .val (.int x2)] [(.int x1), (.ref x0)]) _ _ _
  obtain ⟨T2, h2, X2, e2, W2, st2⟩ := putF X1 hx hZ hown (host := "") (Or.inl (hw _ (List.mem_of_getElem? (i := 14) rfl))) Via.refl e1 F0 E_x0 (Or.inr ⟨(hw _ (List.mem_of_getElem? (i := 15) rfl)), rfl, hnm⟩) (hw _ (List.mem_of_getElem? (i := 1) rfl)) (ty := .int) (by decide) rfl rfl (g := (mkF m 6 #[.val (.ref x0), .val (.int x1), .val (.int x2)] [(.int x1), (.ref x0)])) rfl rfl (hb hby d1_6)
  have F2_x0_n := (F0).same W2
  have F2_x0_fromEnd := (F1).other W2 (Or.inr (slot_ne (Or.inr (hw _ (List.mem_of_getElem? (i := 17) rfl))) (Or.inr (hw _ (List.mem_of_getElem? (i := 15) rfl))) (by decide) (t := .boolean) (t' := .int) (by decide) (by decide)))
  have E2_x0 := (E_x0).wr W2
  have K2 : Keep h0 h2 [x0] := ((Keep.refl h0 [x0])).wr W2 (Or.inl (List.mem_of_getElem? (i := 0) rfl))
  have N2 := Fr.snoc X2 N1 g_x0
  have Z2 : n0 ≤ h2.size := Nat.le_trans Z0 (Keep.of_wr W2).1
  refine own_go st2 ?_
  show own_Fin _ _ _ _ T2 (mkF m 9 #[.val (.ref x0), .val (.int x1), .val (.int x2)] []) _ _ _
  refine own_go (fun _ => XS.aloadN X2.here hx rfl (hb hby d1_9) rfl rfl) ?_
  show own_Fin _ _ _ _ T2 (mkF m 10 #[.val (.ref x0), .val (.int x1), .val (.int x2)] [(.ref x0)]) _ _ _
  refine own_go (fun _ => XS.iloadN X2.here hx rfl (hb hby d1_10) rfl) ?_
  show own_Fin _ _ _ _ T2 (mkF m 11 #[.val (.ref x0), .val (.int x1), .val (.int x2)] [(.int x2), (.ref x0)]) _ _ _
  obtain ⟨T3, h3, X3, e3, W3, st3⟩ := putFN X2 hx hZ hown (hw _ (List.mem_of_getElem? (i := 16) rfl)) Via.refl e2 F2_x0_fromEnd E2_x0 (Or.inr ⟨(hw _ (List.mem_of_getElem? (i := 17) rfl)), rfl, hnm⟩) (hw _ (List.mem_of_getElem? (i := 1) rfl)) (ty := .boolean) (v' := .int (nar .boolean x2)) (by decide) rfl (fits_nar_bool _) (g := (mkF m 11 #[.val (.ref x0), .val (.int x1), .val (.int x2)] [(.int x2), (.ref x0)])) rfl rfl (hb hby d1_11)
  have F3_x0_n := (F2_x0_n).other W3 (Or.inr (slot_ne (Or.inr (hw _ (List.mem_of_getElem? (i := 15) rfl))) (Or.inr (hw _ (List.mem_of_getElem? (i := 17) rfl))) (by decide) (t := .int) (t' := .boolean) (by decide) (by decide)))
  have F3_x0_fromEnd := (F2_x0_fromEnd).same W3
  have E3_x0 := (E2_x0).wr W3
  have K3 : Keep h0 h3 [x0] := (K2).wr W3 (Or.inl (List.mem_of_getElem? (i := 0) rfl))
  have N3 := Fr.snoc X3 N2 g_x0
  have Z3 : n0 ≤ h3.size := Nat.le_trans Z2 (Keep.of_wr W3).1
  refine own_go st3 ?_
  show own_Fin _ _ _ _ T3 (mkF m 14 #[.val (.ref x0), .val (.int x1), .val (.int x2)] []) _ _ _
  exact own_retV X3 hx hnl hret (hb hby d1_14) (by decide) (by decide) ⟨rfl, N3, by rw [e3]; exact K3, by rw [e3]; exact E3_x0, by rw [e3]; exact F3_x0_n, by rw [e3]; exact F3_x0_fromEnd⟩

def own_prec (e1 e2 n1 n2 : Int32) : Int32 := if e1 = e2 then (if e1 = 0 then (if n1 < n2 then 1 else 0) else (if n2 < n1 then 1 else 0)) else 0
theorem d4_0 : decode prog_31_method_5_code 0 = .ok (.aload_n 0, 1) := by decide +kernel
theorem d4_1 : decode prog_31_method_5_code 1 = .ok (.getfield 13, 3) := by decide +kernel
theorem d4_4 : decode prog_31_method_5_code 4 = .ok (.aload_n 1, 1) := by decide +kernel
theorem d4_5 : decode prog_31_method_5_code 5 = .ok (.getfield 13, 3) := by decide +kernel
theorem d4_8 : decode prog_31_method_5_code 8 = .ok (.if_icmp .eq 8, 3) := by decide +kernel
theorem d4_11 : decode prog_31_method_5_code 11 = .ok (.iconst 0, 1) := by decide +kernel
theorem d4_12 : decode prog_31_method_5_code 12 = .ok (.istore_n 2, 1) := by decide +kernel
theorem d4_13 : decode prog_31_method_5_code 13 = .ok (.goto 47, 3) := by decide +kernel
theorem d4_16 : decode prog_31_method_5_code 16 = .ok (.aload_n 0, 1) := by decide +kernel
theorem d4_17 : decode prog_31_method_5_code 17 = .ok (.getfield 13, 3) := by decide +kernel
theorem d4_20 : decode prog_31_method_5_code 20 = .ok (.ifCond .eq 23, 3) := by decide +kernel
theorem d4_23 : decode prog_31_method_5_code 23 = .ok (.aload_n 0, 1) := by decide +kernel
theorem d4_24 : decode prog_31_method_5_code 24 = .ok (.getfield 7, 3) := by decide +kernel
theorem d4_27 : decode prog_31_method_5_code 27 = .ok (.aload_n 1, 1) := by decide +kernel
theorem d4_28 : decode prog_31_method_5_code 28 = .ok (.getfield 7, 3) := by decide +kernel
theorem d4_31 : decode prog_31_method_5_code 31 = .ok (.if_icmp .le 7, 3) := by decide +kernel
theorem d4_34 : decode prog_31_method_5_code 34 = .ok (.iconst 1, 1) := by decide +kernel
theorem d4_35 : decode prog_31_method_5_code 35 = .ok (.goto 4, 3) := by decide +kernel
theorem d4_38 : decode prog_31_method_5_code 38 = .ok (.iconst 0, 1) := by decide +kernel
theorem d4_39 : decode prog_31_method_5_code 39 = .ok (.istore_n 2, 1) := by decide +kernel
theorem d4_40 : decode prog_31_method_5_code 40 = .ok (.goto 20, 3) := by decide +kernel
theorem d4_43 : decode prog_31_method_5_code 43 = .ok (.aload_n 0, 1) := by decide +kernel
theorem d4_44 : decode prog_31_method_5_code 44 = .ok (.getfield 7, 3) := by decide +kernel
theorem d4_47 : decode prog_31_method_5_code 47 = .ok (.aload_n 1, 1) := by decide +kernel
theorem d4_48 : decode prog_31_method_5_code 48 = .ok (.getfield 7, 3) := by decide +kernel
theorem d4_51 : decode prog_31_method_5_code 51 = .ok (.if_icmp .ge 7, 3) := by decide +kernel
theorem d4_54 : decode prog_31_method_5_code 54 = .ok (.iconst 1, 1) := by decide +kernel
theorem d4_55 : decode prog_31_method_5_code 55 = .ok (.goto 4, 3) := by decide +kernel
theorem d4_58 : decode prog_31_method_5_code 58 = .ok (.iconst 0, 1) := by decide +kernel
theorem d4_59 : decode prog_31_method_5_code 59 = .ok (.istore_n 2, 1) := by decide +kernel
theorem d4_60 : decode prog_31_method_5_code 60 = .ok (.iload_n 2, 1) := by decide +kernel
theorem d4_61 : decode prog_31_method_5_code 61 = .ok (.ireturn, 1) := by decide +kernel
theorem pn_4 : plainName "com/example/olefin_desk/olefindesk/TradingDayOfMonth" = true := by first | (simp [plainName, overriddenIn]; done) | decide +kernel
theorem ef_4 (m : MethodId) (x0 : Addr) (x1 : Addr) : entryFrame m #[(.ref x0), (.ref x1)] 3 = mkF m 0 #[.val (.ref x0), .val (.ref x1), .unset] [] := by first | (simp [entryFrame, mkF, argsToLocals, Value.category]; done) | rfl
def Q4 (Z : State) (x0 : Addr) (x1 : Addr) (fe1 : Int32) (fe2 : Int32) (nn1 : Int32) (nn2 : Int32) (h0 : Heap) (n0 : Nat) (v : Option Value) (h : Heap) (L : List Loc) : Prop := v = some (.int (own_prec fe1 fe2 nn1 nn2)) ∧ Fr n0 L ∧ h = h0
set_option maxRecDepth 65536 in
set_option maxHeartbeats 40000000 in
theorem rm4 (l : Launch) (Z : State) (a0 : Array Value) (hw : ∀ d ∈ tables_1, d.before a0 Z = true) (ws : List Jvm.Cond) (x0 : Addr) (x1 : Addr) (fe1 : Int32) (fe2 : Int32) (nn1 : Int32) (nn2 : Int32) (h0 : Heap) (n0 : Nat) (Z0 : n0 ≤ h0.size) (F0 : Fld Z h0 x0 "com/example/olefin_desk/olefindesk/TradingDayOfMonth" "n" "I" (.int nn1)) (F1 : Fld Z h0 x0 "com/example/olefin_desk/olefindesk/TradingDayOfMonth" "fromEnd" "Z" (.int fe1)) (F2 : Fld Z h0 x1 "com/example/olefin_desk/olefindesk/TradingDayOfMonth" "n" "I" (.int nn2)) (F3 : Fld Z h0 x1 "com/example/olefin_desk/olefindesk/TradingDayOfMonth" "fromEnd" "Z" (.int fe2)) :
    MetFree l (⟨"com/example/olefin_desk/olefindesk/TradingDayOfMonth", "precedes", "(Lcom/example/olefin_desk/olefindesk/TradingDayOfMonth;)Z"⟩ : MethodName) (head1 (Jvm.Cond.code (⟨"com/example/olefin_desk/olefindesk/TradingDayOfMonth", "precedes", "(Lcom/example/olefin_desk/olefindesk/TradingDayOfMonth;)Z"⟩ : MethodName) prog_31_method_5_code 3 (some .boolean) :: ws) ({ frames := 0, cells := 0, slots := 0, locals := 0 } : Room)) (fun a U => a = #[(.ref x0), (.ref x1)] ∧ Z.Warmed39 U.vm ∧ U.heap = h0) (fun _ _ _ _ _ => True) (fun _ U o U' => ∃ v L, o = .returned v ∧ Q4 Z x0 x1 fe1 fe2 nn1 nn2 h0 n0 v U'.heap L ∧ FrameEnd U o U' L ({ frames := 0, cells := 0, slots := 0, locals := 0 } : Room).cells ({ frames := 0, cells := 0, slots := 0, locals := 0 } : Room).slots) := by
  refine MetFree.of_bodySF (plainFor_of_name pn_4) hisR ?_
  intro p e s m args below meth c s₁ Bd hml0 hP hK
  obtain ⟨rfl, hZ, hh⟩ := hP
  have hx := Bd.exec
  have hby := Bd.bytes
  have hret := Bd.returns
  have hnl : meth.locks = false := Bd.notSynchronized
  have hml : c.maxLocals = 3 := hml0
  have hown : s.vm.findClass "com/example/olefin_desk/olefindesk/TradingDayOfMonth" = some m.cls := findClass_of_methodNamed Bd.named
  have hnm := (name_of_methodNamed Bd.named Bd.method).1
  have X0 : Stand p l e ({ frames := 0, cells := 0, slots := 0, locals := 0 } : Room) s m #[(.ref x0), (.ref x1)] below meth c s₁ [] 0 0 := Stand.of_body Bd
  have e0 : s₁.heap = h0 := by rw [← hh, Bd.state]; rfl
  have N0 := Fr.nil n0
  suffices key : own_Fin p e below s s₁ (mkF m 0 #[.val (.ref x0), .val (.ref x1), .unset] []) (Q4 Z x0 x1 fe1 fe2 nn1 nn2 h0 n0) ({ frames := 0, cells := 0, slots := 0, locals := 0 } : Room).cells ({ frames := 0, cells := 0, slots := 0, locals := 0 } : Room).slots by
    obtain ⟨s2, o, h1, h2⟩ := key
    exact ⟨s2, o, castTop (ef_4 m x0 x1) h1, h2⟩
  refine own_go (fun _ => XS.aloadN X0.here hx rfl (hb hby d4_0) rfl rfl) ?_
  show own_Fin _ _ _ _ s₁ (mkF m 1 #[.val (.ref x0), .val (.ref x1), .unset] [(.ref x0)]) _ _ _
  obtain ⟨T1, X1, e1, st1⟩ := getF X0 hx hZ hown (host := "") (Or.inl (hw _ (List.mem_of_getElem? (i := 16) rfl))) Via.refl e0 F1 (g := (mkF m 1 #[.val (.ref x0), .val (.ref x1), .unset] [(.ref x0)])) rfl rfl (hb hby d4_1)
  refine own_go st1 ?_
  show own_Fin _ _ _ _ T1 (mkF m 4 #[.val (.ref x0), .val (.ref x1), .unset] [(.int fe1)]) _ _ _
  refine own_go (fun _ => XS.aloadN X1.here hx rfl (hb hby d4_4) rfl rfl) ?_
  show own_Fin _ _ _ _ T1 (mkF m 5 #[.val (.ref x0), .val (.ref x1), .unset] [(.ref x1), (.int fe1)]) _ _ _
  obtain ⟨T2, X2, e2, st2⟩ := getF X1 hx hZ hown (host := "") (Or.inl (hw _ (List.mem_of_getElem? (i := 16) rfl))) Via.refl e1 F3 (g := (mkF m 5 #[.val (.ref x0), .val (.ref x1), .unset] [(.ref x1), (.int fe1)])) rfl rfl (hb hby d4_5)
  refine own_go st2 ?_
  show own_Fin _ _ _ _ T2 (mkF m 8 #[.val (.ref x0), .val (.ref x1), .unset] [(.int fe2), (.int fe1)]) _ _ _
  by_cases h8 : fe1 = fe2
  · refine own_go (fun _ => XS.icmpYes X2.here hx rfl (pc0 := 8) (pc' := 16) rfl (hb hby d4_8) rfl (teq h8).1 (by decide) (by decide)) ?_
    show own_Fin _ _ _ _ T2 (mkF m 16 #[.val (.ref x0), .val (.ref x1), .unset] []) _ _ _
    refine own_go (fun _ => XS.aloadN X2.here hx rfl (hb hby d4_16) rfl rfl) ?_
    show own_Fin _ _ _ _ T2 (mkF m 17 #[.val (.ref x0), .val (.ref x1), .unset] [(.ref x0)]) _ _ _
    obtain ⟨T3, X3, e3, st3⟩ := getF X2 hx hZ hown (host := "") (Or.inl (hw _ (List.mem_of_getElem? (i := 16) rfl))) Via.refl e2 F1 (g := (mkF m 17 #[.val (.ref x0), .val (.ref x1), .unset] [(.ref x0)])) rfl rfl (hb hby d4_17)
    refine own_go st3 ?_
    show own_Fin _ _ _ _ T3 (mkF m 20 #[.val (.ref x0), .val (.ref x1), .unset] [(.int fe1)]) _ _ _
    by_cases h20 : fe1 = (0 : Int32)
    · refine own_go (fun _ => XS.ifYes X3.here hx rfl (pc0 := 20) (pc' := 43) rfl (hb hby d4_20) rfl ((if0 _ _).trans (teq h20).1) (by decide) (by decide)) ?_
      show own_Fin _ _ _ _ T3 (mkF m 43 #[.val (.ref x0), .val (.ref x1), .unset] []) _ _ _
      refine own_go (fun _ => XS.aloadN X3.here hx rfl (hb hby d4_43) rfl rfl) ?_
      show own_Fin _ _ _ _ T3 (mkF m 44 #[.val (.ref x0), .val (.ref x1), .unset] [(.ref x0)]) _ _ _
      obtain ⟨T4, X4, e4, st4⟩ := getF X3 hx hZ hown (host := "") (Or.inl (hw _ (List.mem_of_getElem? (i := 14) rfl))) Via.refl e3 F0 (g := (mkF m 44 #[.val (.ref x0), .val (.ref x1), .unset] [(.ref x0)])) rfl rfl (hb hby d4_44)
      refine own_go st4 ?_
      show own_Fin _ _ _ _ T4 (mkF m 47 #[.val (.ref x0), .val (.ref x1), .unset] [(.int nn1)]) _ _ _
      refine own_go (fun _ => XS.aloadN X4.here hx rfl (hb hby d4_47) rfl rfl) ?_
      show own_Fin _ _ _ _ T4 (mkF m 48 #[.val (.ref x0), .val (.ref x1), .unset] [(.ref x1), (.int nn1)]) _ _ _
      obtain ⟨T5, X5, e5, st5⟩ := getF X4 hx hZ hown (host := "") (Or.inl (hw _ (List.mem_of_getElem? (i := 14) rfl))) Via.refl e4 F2 (g := (mkF m 48 #[.val (.ref x0), .val (.ref x1), .unset] [(.ref x1), (.int nn1)])) rfl rfl (hb hby d4_48)
      refine own_go st5 ?_
      show own_Fin _ _ _ _ T5 (mkF m 51 #[.val (.ref x0), .val (.ref x1), .unset] [(.int nn2), (.int nn1)]) _ _ _
      by_cases h51 : nn1 < nn2
      · refine own_go (fun _ => XS.icmpNo X5.here hx rfl (hb hby d4_51) rfl (tlt h51).2.1) ?_
        show own_Fin _ _ _ _ T5 (mkF m 54 #[.val (.ref x0), .val (.ref x1), .unset] []) _ _ _
        refine own_go (fun _ => XS.iconst X5.here hx rfl (hb hby d4_54)) ?_
        show own_Fin _ _ _ _ T5 (mkF m 55 #[.val (.ref x0), .val (.ref x1), .unset] [(.int (1 : Int32))]) _ _ _
        refine own_go (fun _ => XS.goto X5.here hx rfl (pc0 := 55) (pc' := 59) rfl (hb hby d4_55) (by decide) (by decide)) ?_
        show own_Fin _ _ _ _ T5 (mkF m 59 #[.val (.ref x0), .val (.ref x1), .unset] [(.int (1 : Int32))]) _ _ _
        refine own_go (fun _ => XS.istoreN X5.here hx rfl (hb hby d4_59) rfl (l' := #[.val (.ref x0), .val (.ref x1), .val (.int (1 : Int32))]) rfl) ?_
        show own_Fin _ _ _ _ T5 (mkF m 60 #[.val (.ref x0), .val (.ref x1), .val (.int (1 : Int32))] []) _ _ _
        refine own_go (fun _ => XS.iloadN X5.here hx rfl (hb hby d4_60) rfl) ?_
        show own_Fin _ _ _ _ T5 (mkF m 61 #[.val (.ref x0), .val (.ref x1), .val (.int (1 : Int32))] [(.int (1 : Int32))]) _ _ _
        exact own_retZ X5 hx hnl (t := .boolean) hret (by simp) (hb hby d4_61) (by decide) (by decide) ⟨congrArg (fun z => some (Value.int z)) (show ((1 : Int32) : Int32) = own_prec fe1 fe2 nn1 nn2 from by simp only [own_prec, if_pos h8, if_pos h20, if_pos h51]), N0, e5⟩
      · refine own_go (fun _ => XS.icmpYes X5.here hx rfl (pc0 := 51) (pc' := 58) rfl (hb hby d4_51) rfl (flt h51).2.1 (by decide) (by decide)) ?_
        show own_Fin _ _ _ _ T5 (mkF m 58 #[.val (.ref x0), .val (.ref x1), .unset] []) _ _ _
        refine own_go (fun _ => XS.iconst X5.here hx rfl (hb hby d4_58)) ?_
        show own_Fin _ _ _ _ T5 (mkF m 59 #[.val (.ref x0), .val (.ref x1), .unset] [(.int (0 : Int32))]) _ _ _
        refine own_go (fun _ => XS.istoreN X5.here hx rfl (hb hby d4_59) rfl (l' := #[.val (.ref x0), .val (.ref x1), .val (.int (0 : Int32))]) rfl) ?_
        show own_Fin _ _ _ _ T5 (mkF m 60 #[.val (.ref x0), .val (.ref x1), .val (.int (0 : Int32))] []) _ _ _
        refine own_go (fun _ => XS.iloadN X5.here hx rfl (hb hby d4_60) rfl) ?_
        show own_Fin _ _ _ _ T5 (mkF m 61 #[.val (.ref x0), .val (.ref x1), .val (.int (0 : Int32))] [(.int (0 : Int32))]) _ _ _
        exact own_retZ X5 hx hnl (t := .boolean) hret (by simp) (hb hby d4_61) (by decide) (by decide) ⟨congrArg (fun z => some (Value.int z)) (show ((0 : Int32) : Int32) = own_prec fe1 fe2 nn1 nn2 from by simp only [own_prec, if_pos h8, if_pos h20, if_neg h51]), N0, e5⟩
    · refine own_go (fun _ => XS.ifNo X3.here hx rfl (hb hby d4_20) rfl ((if0 _ _).trans (feq h20).1)) ?_
      show own_Fin _ _ _ _ T3 (mkF m 23 #[.val (.ref x0), .val (.ref x1), .unset] []) _ _ _
      refine own_go (fun _ => XS.aloadN X3.here hx rfl (hb hby d4_23) rfl rfl) ?_
      show own_Fin _ _ _ _ T3 (mkF m 24 #[.val (.ref x0), .val (.ref x1), .unset] [(.ref x0)]) _ _ _
      obtain ⟨T6, X6, e6, st6⟩ := getF X3 hx hZ hown (host := "") (Or.inl (hw _ (List.mem_of_getElem? (i := 14) rfl))) Via.refl e3 F0 (g := (mkF m 24 #[.val (.ref x0), .val (.ref x1), .unset] [(.ref x0)])) rfl rfl (hb hby d4_24)
      refine own_go st6 ?_
      show own_Fin _ _ _ _ T6 (mkF m 27 #[.val (.ref x0), .val (.ref x1), .unset] [(.int nn1)]) _ _ _
      refine own_go (fun _ => XS.aloadN X6.here hx rfl (hb hby d4_27) rfl rfl) ?_
      show own_Fin _ _ _ _ T6 (mkF m 28 #[.val (.ref x0), .val (.ref x1), .unset] [(.ref x1), (.int nn1)]) _ _ _
      obtain ⟨T7, X7, e7, st7⟩ := getF X6 hx hZ hown (host := "") (Or.inl (hw _ (List.mem_of_getElem? (i := 14) rfl))) Via.refl e6 F2 (g := (mkF m 28 #[.val (.ref x0), .val (.ref x1), .unset] [(.ref x1), (.int nn1)])) rfl rfl (hb hby d4_28)
      refine own_go st7 ?_
      show own_Fin _ _ _ _ T7 (mkF m 31 #[.val (.ref x0), .val (.ref x1), .unset] [(.int nn2), (.int nn1)]) _ _ _
      by_cases h31 : nn2 < nn1
      · refine own_go (fun _ => XS.icmpNo X7.here hx rfl (hb hby d4_31) rfl (tlt h31).2.2.2) ?_
        show own_Fin _ _ _ _ T7 (mkF m 34 #[.val (.ref x0), .val (.ref x1), .unset] []) _ _ _
        refine own_go (fun _ => XS.iconst X7.here hx rfl (hb hby d4_34)) ?_
        show own_Fin _ _ _ _ T7 (mkF m 35 #[.val (.ref x0), .val (.ref x1), .unset] [(.int (1 : Int32))]) _ _ _
        refine own_go (fun _ => XS.goto X7.here hx rfl (pc0 := 35) (pc' := 39) rfl (hb hby d4_35) (by decide) (by decide)) ?_
        show own_Fin _ _ _ _ T7 (mkF m 39 #[.val (.ref x0), .val (.ref x1), .unset] [(.int (1 : Int32))]) _ _ _
        refine own_go (fun _ => XS.istoreN X7.here hx rfl (hb hby d4_39) rfl (l' := #[.val (.ref x0), .val (.ref x1), .val (.int (1 : Int32))]) rfl) ?_
        show own_Fin _ _ _ _ T7 (mkF m 40 #[.val (.ref x0), .val (.ref x1), .val (.int (1 : Int32))] []) _ _ _
        refine own_go (fun _ => XS.goto X7.here hx rfl (pc0 := 40) (pc' := 60) rfl (hb hby d4_40) (by decide) (by decide)) ?_
        show own_Fin _ _ _ _ T7 (mkF m 60 #[.val (.ref x0), .val (.ref x1), .val (.int (1 : Int32))] []) _ _ _
        refine own_go (fun _ => XS.iloadN X7.here hx rfl (hb hby d4_60) rfl) ?_
        show own_Fin _ _ _ _ T7 (mkF m 61 #[.val (.ref x0), .val (.ref x1), .val (.int (1 : Int32))] [(.int (1 : Int32))]) _ _ _
        exact own_retZ X7 hx hnl (t := .boolean) hret (by simp) (hb hby d4_61) (by decide) (by decide) ⟨congrArg (fun z => some (Value.int z)) (show ((1 : Int32) : Int32) = own_prec fe1 fe2 nn1 nn2 from by simp only [own_prec, if_pos h8, if_neg h20, if_pos h31]), N0, e7⟩
      · refine own_go (fun _ => XS.icmpYes X7.here hx rfl (pc0 := 31) (pc' := 38) rfl (hb hby d4_31) rfl (flt h31).2.2.2 (by decide) (by decide)) ?_
        show own_Fin _ _ _ _ T7 (mkF m 38 #[.val (.ref x0), .val (.ref x1), .unset] []) _ _ _
        refine own_go (fun _ => XS.iconst X7.here hx rfl (hb hby d4_38)) ?_
        show own_Fin _ _ _ _ T7 (mkF m 39 #[.val (.ref x0), .val (.ref x1), .unset] [(.int (0 : Int32))]) _ _ _
        refine own_go (fun _ => XS.istoreN X7.here hx rfl (hb hby d4_39) rfl (l' := #[.val (.ref x0), .val (.ref x1), .val (.int (0 : Int32))]) rfl) ?_
        show own_Fin _ _ _ _ T7 (mkF m 40 #[.val (.ref x0), .val (.ref x1), .val (.int (0 : Int32))] []) _ _ _
        refine own_go (fun _ => XS.goto X7.here hx rfl (pc0 := 40) (pc' := 60) rfl (hb hby d4_40) (by decide) (by decide)) ?_
        show own_Fin _ _ _ _ T7 (mkF m 60 #[.val (.ref x0), .val (.ref x1), .val (.int (0 : Int32))] []) _ _ _
        refine own_go (fun _ => XS.iloadN X7.here hx rfl (hb hby d4_60) rfl) ?_
        show own_Fin _ _ _ _ T7 (mkF m 61 #[.val (.ref x0), .val (.ref x1), .val (.int (0 : Int32))] [(.int (0 : Int32))]) _ _ _
        exact own_retZ X7 hx hnl (t := .boolean) hret (by simp) (hb hby d4_61) (by decide) (by decide) ⟨congrArg (fun z => some (Value.int z)) (show ((0 : Int32) : Int32) = own_prec fe1 fe2 nn1 nn2 from by simp only [own_prec, if_pos h8, if_neg h20, if_neg h31]), N0, e7⟩
  · refine own_go (fun _ => XS.icmpNo X2.here hx rfl (hb hby d4_8) rfl (feq h8).1) ?_
    show own_Fin _ _ _ _ T2 (mkF m 11 #[.val (.ref x0), .val (.ref x1), .unset] []) _ _ _
    refine own_go (fun _ => XS.iconst X2.here hx rfl (hb hby d4_11)) ?_
    show own_Fin _ _ _ _ T2 (mkF m 12 #[.val (.ref x0), .val (.ref x1), .unset] [(.int (0 : Int32))]) _ _ _
    refine own_go (fun _ => XS.istoreN X2.here hx rfl (hb hby d4_12) rfl (l' := #[.val (.ref x0), .val (.ref x1), .val (.int (0 : Int32))]) rfl) ?_
    show own_Fin _ _ _ _ T2 (mkF m 13 #[.val (.ref x0), .val (.ref x1), .val (.int (0 : Int32))] []) _ _ _
    refine own_go (fun _ => XS.goto X2.here hx rfl (pc0 := 13) (pc' := 60) rfl (hb hby d4_13) (by decide) (by decide)) ?_
    show own_Fin _ _ _ _ T2 (mkF m 60 #[.val (.ref x0), .val (.ref x1), .val (.int (0 : Int32))] []) _ _ _
    refine own_go (fun _ => XS.iloadN X2.here hx rfl (hb hby d4_60) rfl) ?_
    show own_Fin _ _ _ _ T2 (mkF m 61 #[.val (.ref x0), .val (.ref x1), .val (.int (0 : Int32))] [(.int (0 : Int32))]) _ _ _
    exact own_retZ X2 hx hnl (t := .boolean) hret (by simp) (hb hby d4_61) (by decide) (by decide) ⟨congrArg (fun z => some (Value.int z)) (show ((0 : Int32) : Int32) = own_prec fe1 fe2 nn1 nn2 from by simp only [own_prec, if_neg h8]), N0, e2⟩

def own_pos (n z : Int32) : Int64 := if z = 0 then n.toInt64 else 8589934593 - n.toInt64
theorem d5_0 : decode method_2_code 0 = .ok (.iload_n 1, 1) := by decide +kernel
theorem d5_1 : decode method_2_code 1 = .ok (.ifCond .eq 10, 3) := by decide +kernel
theorem d5_4 : decode method_2_code 4 = .ok (.ldc2_w 9, 3) := by decide +kernel
theorem d5_7 : decode method_2_code 7 = .ok (.iload_n 0, 1) := by decide +kernel
theorem d5_8 : decode method_2_code 8 = .ok (.i2l, 1) := by decide +kernel
theorem d5_9 : decode method_2_code 9 = .ok (.lsub, 1) := by decide +kernel
theorem d5_10 : decode method_2_code 10 = .ok (.lreturn, 1) := by decide +kernel
theorem d5_11 : decode method_2_code 11 = .ok (.iload_n 0, 1) := by decide +kernel
theorem d5_12 : decode method_2_code 12 = .ok (.i2l, 1) := by decide +kernel
theorem d5_13 : decode method_2_code 13 = .ok (.lreturn, 1) := by decide +kernel
theorem pn_5 : plainName "com/example/olefin_desk/olefindesk/TradingDayOfMonthPrecedesPinLaw" = true := by first | (simp [plainName, overriddenIn]; done) | decide +kernel
theorem ef_5 (m : MethodId) (x0 : Int32) (x1 : Int32) : entryFrame m #[(.int x0), (.int x1)] 2 = mkF m 0 #[.val (.int x0), .val (.int x1)] [] := by first | (simp [entryFrame, mkF, argsToLocals, Value.category]; done) | rfl
def Q5 (Z : State) (x0 : Int32) (x1 : Int32) (h0 : Heap) (n0 : Nat) (v : Option Value) (h : Heap) (L : List Loc) : Prop := v = some (.long (own_pos x0 x1)) ∧ Fr n0 L ∧ h = h0
set_option maxRecDepth 65536 in
set_option maxHeartbeats 40000000 in
theorem rm5 (l : Launch) (Z : State) (a0 : Array Value) (hw : ∀ d ∈ tables_1, d.before a0 Z = true) (ws : List Jvm.Cond) (x0 : Int32) (x1 : Int32) (h0 : Heap) (n0 : Nat) (Z0 : n0 ≤ h0.size) :
    MetFree l (⟨"com/example/olefin_desk/olefindesk/TradingDayOfMonthPrecedesPinLaw", "position", "(IZ)J"⟩ : MethodName) (head1 (Jvm.Cond.code (⟨"com/example/olefin_desk/olefindesk/TradingDayOfMonthPrecedesPinLaw", "position", "(IZ)J"⟩ : MethodName) method_2_code 2 (some .long) :: ws) ({ frames := 0, cells := 0, slots := 0, locals := 0 } : Room)) (fun a U => a = #[(.int x0), (.int x1)] ∧ Z.Warmed39 U.vm ∧ U.heap = h0) (fun _ _ _ _ _ => True) (fun _ U o U' => ∃ v L, o = .returned v ∧ Q5 Z x0 x1 h0 n0 v U'.heap L ∧ FrameEnd U o U' L ({ frames := 0, cells := 0, slots := 0, locals := 0 } : Room).cells ({ frames := 0, cells := 0, slots := 0, locals := 0 } : Room).slots) := by
  refine MetFree.of_bodySF (plainFor_of_name pn_5) hisR ?_
  intro p e s m args below meth c s₁ Bd hml0 hP hK
  obtain ⟨rfl, hZ, hh⟩ := hP
  have hx := Bd.exec
  have hby := Bd.bytes
  have hret := Bd.returns
  have hnl : meth.locks = false := Bd.notSynchronized
  have hml : c.maxLocals = 2 := hml0
  have hown : s.vm.findClass "com/example/olefin_desk/olefindesk/TradingDayOfMonthPrecedesPinLaw" = some m.cls := findClass_of_methodNamed Bd.named
  have hnm := (name_of_methodNamed Bd.named Bd.method).1
  have X0 : Stand p l e ({ frames := 0, cells := 0, slots := 0, locals := 0 } : Room) s m #[(.int x0), (.int x1)] below meth c s₁ [] 0 0 := Stand.of_body Bd
  have e0 : s₁.heap = h0 := by rw [← hh, Bd.state]; rfl
  have N0 := Fr.nil n0
  suffices key : own_Fin p e below s s₁ (mkF m 0 #[.val (.int x0), .val (.int x1)] []) (Q5 Z x0 x1 h0 n0) ({ frames := 0, cells := 0, slots := 0, locals := 0 } : Room).cells ({ frames := 0, cells := 0, slots := 0, locals := 0 } : Room).slots by
    obtain ⟨s2, o, h1, h2⟩ := key
    exact ⟨s2, o, castTop (ef_5 m x0 x1) h1, h2⟩
  refine own_go (fun _ => XS.iloadN X0.here hx rfl (hb hby d5_0) rfl) ?_
  show own_Fin _ _ _ _ s₁ (mkF m 1 #[.val (.int x0), .val (.int x1)] [(.int x1)]) _ _ _
  by_cases h1 : x1 = (0 : Int32)
  · refine own_go (fun _ => XS.ifYes X0.here hx rfl (pc0 := 1) (pc' := 11) rfl (hb hby d5_1) rfl ((if0 _ _).trans (teq h1).1) (by decide) (by decide)) ?_
    show own_Fin _ _ _ _ s₁ (mkF m 11 #[.val (.int x0), .val (.int x1)] []) _ _ _
    refine own_go (fun _ => XS.iloadN X0.here hx rfl (hb hby d5_11) rfl) ?_
    show own_Fin _ _ _ _ s₁ (mkF m 12 #[.val (.int x0), .val (.int x1)] [(.int x0)]) _ _ _
    refine own_go (fun _ => XS.i2l X0.here hx rfl (hb hby d5_12) rfl) ?_
    show own_Fin _ _ _ _ s₁ (mkF m 13 #[.val (.int x0), .val (.int x1)] [(.long (x0.toInt64))]) _ _ _
    exact own_retJ X0 hx hnl hret (hb hby d5_13) (by decide) (by decide) ⟨congrArg (fun z => some (Value.long z)) (show ((x0.toInt64) : Int64) = own_pos x0 x1 from by simp only [own_pos, if_pos h1]), N0, e0⟩
  · refine own_go (fun _ => XS.ifNo X0.here hx rfl (hb hby d5_1) rfl ((if0 _ _).trans (feq h1).1)) ?_
    show own_Fin _ _ _ _ s₁ (mkF m 4 #[.val (.int x0), .val (.int x1)] []) _ _ _
    refine own_go (fun _ => X0.ldc2J hx hown (mvT hZ (hw _ (List.mem_of_getElem? (i := 27) rfl))) rfl (hb hby d5_4)) ?_
    show own_Fin _ _ _ _ s₁ (mkF m 7 #[.val (.int x0), .val (.int x1)] [(.long (8589934593 : Int64))]) _ _ _
    refine own_go (fun _ => XS.iloadN X0.here hx rfl (hb hby d5_7) rfl) ?_
    show own_Fin _ _ _ _ s₁ (mkF m 8 #[.val (.int x0), .val (.int x1)] [(.int x0), (.long (8589934593 : Int64))]) _ _ _
    refine own_go (fun _ => XS.i2l X0.here hx rfl (hb hby d5_8) rfl) ?_
    show own_Fin _ _ _ _ s₁ (mkF m 9 #[.val (.int x0), .val (.int x1)] [(.long (x0.toInt64)), (.long (8589934593 : Int64))]) _ _ _
    refine own_go (fun _ => XS.lsub X0.here hx rfl (hb hby d5_9) rfl) ?_
    show own_Fin _ _ _ _ s₁ (mkF m 10 #[.val (.int x0), .val (.int x1)] [(.long ((8589934593 : Int64) - (x0.toInt64)))]) _ _ _
    exact own_retJ X0 hx hnl hret (hb hby d5_10) (by decide) (by decide) ⟨congrArg (fun z => some (Value.long z)) (show (((8589934593 : Int64) - (x0.toInt64)) : Int64) = own_pos x0 x1 from by simp only [own_pos, if_neg h1]), N0, e0⟩

theorem own_lt {x y : Int32} : x < y ↔ x.toInt < y.toInt := Int32.lt_iff_toInt_lt
theorem own_ltJ {x y : Int64} : x < y ↔ x.toInt < y.toInt := Int64.lt_iff_toInt_lt
theorem own_eq {x y : Int32} : x = y ↔ x.toInt = y.toInt := Int32.toInt_inj.symm
theorem own_eqJ {x y : Int64} : x = y ↔ x.toInt = y.toInt := Int64.toInt_inj.symm
theorem own_rng (x : Int32) : -2147483648 ≤ x.toInt ∧ x.toInt < 2147483648 := ⟨by have := Int32.le_toInt x; omega, by have := Int32.toInt_lt x; omega⟩
theorem own_rngJ (x : Int64) : -9223372036854775808 ≤ x.toInt ∧ x.toInt < 9223372036854775808 := ⟨by have := Int64.le_toInt x; omega, by have := Int64.toInt_lt x; omega⟩
theorem own_nar {z : Int32} (hz : z = 0 ∨ z = 1) : nar .boolean z = z := by rcases hz with rfl | rfl <;> rfl
theorem own_apart {z1 z2 a b : Int32} (h1 : z1 = 0 ∨ z1 = 1) (h2 : z2 = 0 ∨ z2 = 1) (h : ¬ z1 = z2) : own_prec (nar .boolean z1) (nar .boolean z2) a b = 0 := by
  rw [own_nar h1, own_nar h2]; simp [own_prec, h]
theorem own_pos_lt {z a b : Int32} : own_pos a z < own_pos b z ↔ (if z = 0 then a < b else b < a) := by
  have ha := own_rng a
  have hb' := own_rng b
  have e : (8589934593 : Int64).toInt = 8589934593 := by decide
  have f : ∀ n : Int32, ((8589934593 : Int64) - n.toInt64).toInt = 8589934593 - n.toInt := fun n => by
    have hn := own_rng n
    rw [Jvm.Kit.i64_sub (by rw [e, c_i2l]; omega) (by rw [e, c_i2l]; omega), e, c_i2l]
  by_cases h : z = 0
  · simp only [own_pos, h, if_true, own_ltJ, own_lt, c_i2l]
  · simp only [own_pos, h, if_false, own_ltJ, own_lt, f]
    omega
theorem own_same1 {z1 z2 a b : Int32} (h1 : z1 = 0 ∨ z1 = 1) (h2 : z2 = 0 ∨ z2 = 1) (h : z1 = z2) (q : own_pos a z1 < own_pos b z2) : own_prec (nar .boolean z1) (nar .boolean z2) a b = 1 := by
  subst h
  rw [own_nar h1]; rw [own_pos_lt] at q
  by_cases hz : z1 = 0 <;> simp_all [own_prec]
theorem own_same0 {z1 z2 a b : Int32} (h1 : z1 = 0 ∨ z1 = 1) (h2 : z2 = 0 ∨ z2 = 1) (h : z1 = z2) (q : ¬ own_pos a z1 < own_pos b z2) : own_prec (nar .boolean z1) (nar .boolean z2) a b = 0 := by
  subst h
  rw [own_nar h1]; rw [own_pos_lt] at q
  by_cases hz : z1 = 0 <;> simp_all [own_prec]

theorem pd_2 : parseMethodDescriptor "(IZ)J" = some ⟨[.int, .boolean], some .long⟩ := by decide +kernel
theorem pd_1 : parseMethodDescriptor "(IZ)V" = some ⟨[.int, .boolean], none⟩ := by decide +kernel
theorem pd_3 : parseMethodDescriptor "(Lcom/example/olefin_desk/olefindesk/TradingDayOfMonth;)Z" = some ⟨[(.object "com/example/olefin_desk/olefindesk/TradingDayOfMonth")], some .boolean⟩ := by decide +kernel
theorem pn_0 : plainName "com/example/olefin_desk/olefindesk/TradingDayOfMonthPrecedesPinLaw" = true := by first | (simp [plainName, overriddenIn]; done) | decide +kernel
theorem ef_0 (m : MethodId) (x0 : Int32) (x1 : Int32) (x2 : Int32) : entryFrame m #[(.int x0), (.int x1), (.int x2)] maxLocals = mkF m 0 #[.val (.int x0), .val (.int x1), .val (.int x2), .unset, .unset, .unset, .unset, .unset] [] := by first | (simp [entryFrame, mkF, argsToLocals, Value.category, maxLocals]; done) | rfl
def Q0 (Z : State) (x0 : Int32) (x1 : Int32) (x2 : Int32) (h0 : Heap) (n0 : Nat) (v : Option Value) (h : Heap) (L : List Loc) : Prop := v = some (.int 1) ∧ Fr n0 L
set_option maxRecDepth 65536 in
set_option maxHeartbeats 40000000 in
theorem rm0 (l : Launch) (Z : State) (a0 : Array Value) (hw : ∀ d ∈ tables_1, d.before a0 Z = true) (ws : List Jvm.Cond) (x0 : Int32) (x1 : Int32) (x2 : Int32) (h0 : Heap) (n0 : Nat) (Z0 : n0 ≤ h0.size) :
    MetFree l x (head1 (Jvm.Cond.code x code maxLocals ret :: ws) room_1) (fun a U => a = #[(.int x0), (.int x1), (.int x2)] ∧ Z.Warmed39 U.vm ∧ U.heap = h0) (fun _ _ _ _ _ => True) (fun _ U o U' => ∃ v L, o = .returned v ∧ Q0 Z x0 x1 x2 h0 n0 v U'.heap L ∧ FrameEnd U o U' L room_1.cells room_1.slots) := by
  refine MetFree.of_bodySF (plainFor_of_name pn_0) hisR ?_
  intro p e s m args below meth c s₁ Bd hml0 hP hK
  obtain ⟨rfl, hZ, hh⟩ := hP
  have hx := Bd.exec
  have hby := Bd.bytes
  have hret := Bd.returns
  have hnl : meth.locks = false := Bd.notSynchronized
  have hml : c.maxLocals = 8 := hml0
  have hown : s.vm.findClass "com/example/olefin_desk/olefindesk/TradingDayOfMonthPrecedesPinLaw" = some m.cls := findClass_of_methodNamed Bd.named
  have hnm := (name_of_methodNamed Bd.named Bd.method).1
  have X0 : Stand p l e room_1 s m #[(.int x0), (.int x1), (.int x2)] below meth c s₁ [] 0 0 := Stand.of_body Bd
  have e0 : s₁.heap = h0 := by rw [← hh, Bd.state]; rfl
  have N0 := Fr.nil n0
  suffices key : own_Fin p e below s s₁ (mkF m 0 #[.val (.int x0), .val (.int x1), .val (.int x2), .unset, .unset, .unset, .unset, .unset] []) (Q0 Z x0 x1 x2 h0 n0) room_1.cells room_1.slots by
    obtain ⟨s2, o, h1, h2⟩ := key
    exact ⟨s2, o, castTop (ef_0 m x0 x1 x2) h1, h2⟩
  have J11 : ∀ (z : Int32), (z = 0 ∨ z = 1) → own_Fin p e below s s₁ (mkF m 11 #[.val (.int x0), .val (.int x1), .val (.int x2), .unset, .unset, .unset, .unset, .unset] [(.int z)]) (Q0 Z x0 x1 x2 h0 n0) room_1.cells room_1.slots := by
    intro z hp_J11
    have J23 : ∀ (y : Int32), (y = 0 ∨ y = 1) → own_Fin p e below s s₁ (mkF m 23 #[.val (.int x0), .val (.int x1), .val (.int x2), .val (.int z), .unset, .unset, .unset, .unset] [(.int y)]) (Q0 Z x0 x1 x2 h0 n0) room_1.cells room_1.slots := by
      intro y hp_J23
      refine own_go (fun _ => XS.istore X0.here hx rfl (hb hby at_23) rfl (l' := #[.val (.int x0), .val (.int x1), .val (.int x2), .val (.int z), .val (.int y), .unset, .unset, .unset]) rfl) ?_
      show own_Fin _ _ _ _ s₁ (mkF m 25 #[.val (.int x0), .val (.int x1), .val (.int x2), .val (.int z), .val (.int y), .unset, .unset, .unset] []) _ _ _
      obtain ⟨T1, h1, X1, e1, E1, A1, D1, -, st1⟩ := newO X0 hx hZ hown (hw _ (List.mem_of_getElem? (i := 0) rfl)) (hw _ (List.mem_of_getElem? (i := 1) rfl)) (hw _ (List.mem_of_getElem? (i := 2) rfl)) e0 (g := (mkF m 25 #[.val (.int x0), .val (.int x1), .val (.int x2), .val (.int z), .val (.int y), .unset, .unset, .unset] [])) rfl (hb hby at_25) (by decide) (by decide)
      obtain ⟨b1, g1⟩ : ∃ z, z = h0.size := ⟨_, rfl⟩
      rw [← g1] at A1 D1 st1
      have F_n_b1 : Fld Z h1 b1 "com/example/olefin_desk/olefindesk/TradingDayOfMonth" "n" "I" (.int (0 : Int32)) := D1 (Or.inr (hw _ (List.mem_of_getElem? (i := 15) rfl))) (ty := .int) (by decide)
      have F_fromEnd_b1 : Fld Z h1 b1 "com/example/olefin_desk/olefindesk/TradingDayOfMonth" "fromEnd" "Z" (.int (0 : Int32)) := D1 (Or.inr (hw _ (List.mem_of_getElem? (i := 17) rfl))) (ty := .boolean) (by decide)
      have g_b1 : n0 ≤ b1 := Nat.le_trans Z0 (Nat.le_of_eq g1.symm)
      have Z1 : n0 ≤ h1.size := Nat.le_trans Z0 E1.1
      have sz_b1 : h0.size ≤ b1 := Nat.le_trans ((Keep.refl h0 [])).1 (Nat.le_of_eq g1.symm)
      have K1 : Keep h0 h1 [] := ((Keep.refl h0 [])).ext E1
      refine own_go st1 ?_
      show own_Fin _ _ _ _ T1 (mkF m 28 #[.val (.int x0), .val (.int x1), .val (.int x2), .val (.int z), .val (.int y), .unset, .unset, .unset] [(.ref b1)]) _ _ _
      refine own_go (fun _ => XS.dup X1.here hx rfl (hb hby at_28) rfl rfl) ?_
      show own_Fin _ _ _ _ T1 (mkF m 29 #[.val (.int x0), .val (.int x1), .val (.int x2), .val (.int z), .val (.int y), .unset, .unset, .unset] [(.ref b1), (.ref b1)]) _ _ _
      refine own_go (fun _ => XS.iloadN X1.here hx rfl (hb hby at_29) rfl) ?_
      show own_Fin _ _ _ _ T1 (mkF m 30 #[.val (.int x0), .val (.int x1), .val (.int x2), .val (.int z), .val (.int y), .unset, .unset, .unset] [(.int x0), (.ref b1), (.ref b1)]) _ _ _
      refine own_go (fun _ => XS.iloadN X1.here hx rfl (hb hby at_30) rfl) ?_
      show own_Fin _ _ _ _ T1 (mkF m 31 #[.val (.int x0), .val (.int x1), .val (.int x2), .val (.int z), .val (.int y), .unset, .unset, .unset] [(.int z), (.int x0), (.ref b1), (.ref b1)]) _ _ _
      obtain ⟨_, _, ⟨T2, L2, k2, n2⟩, -, X2, ⟨Lc2, hQ2, l2, y2, z2⟩, st2⟩ := X1.specialBack hx (y := (⟨"com/example/olefin_desk/olefindesk/TradingDayOfMonth", "<init>", "(IZ)V"⟩ : MethodName)) rfl hown (mvT hZ (hw _ (List.mem_of_getElem? (i := 3) rfl))) (mvT hZ (hw _ (List.mem_of_getElem? (i := 4) rfl))) (mvT hZ (hw _ (List.mem_of_getElem? (i := 5) rfl))) (by decide) (backOf (W := 1) (rm1 l Z a0 hw [] b1 x0 z (.int (0 : Int32)) (.int (0 : Int32)) h1 n0 Z1 A1 g_b1 F_n_b1 F_fromEnd_b1) hZ (hw _ (List.mem_of_getElem? (i := 5) rfl)) (hw _ (List.mem_of_getElem? (i := 2) rfl)) (by decide) (by decide)) (g := (mkF m 31 #[.val (.int x0), .val (.int x1), .val (.int x2), .val (.int z), .val (.int y), .unset, .unset, .unset] [(.int z), (.int x0), (.ref b1), (.ref b1)])) rfl (by rw [hml]; rfl) (Steps.refl _) (a := b1) (argsL := [(.int x0), (.int z)]) (rest := [(.ref b1)]) (lenOf pd_1 rfl) rfl (by show 2 * 0 + _ ≤ _; exact Nat.le_of_eq rfl) (hb hby at_31) (fun _ _ => ⟨rfl, e1, (by decide : 1 + 0 ≤ _), (by decide : 2 + 0 ≤ _)⟩)
      dsimp only [Pt.U, Pt.locs, Pt.cells, Pt.slots] at X2 l2 y2 z2 st2 hQ2
      subst l2 y2 z2
      obtain ⟨rfl, N2q, K2q, Ex2, Fx2_0, Fx2_1⟩ := hQ2
      have N2 := Fr.app N0 N2q
      have E2_b1 := (A1).keep K2q
      have Kc2 : Keep h0 T2.heap [] := (K1).trans K2q (fun x hx => by cases List.mem_singleton.mp hx; exact (Or.inr sz_b1))
      have Zc2 : n0 ≤ T2.heap.size := Nat.le_trans Z1 (K2q).1
      refine own_gt st2 ?_
      show own_Fin _ _ _ _ T2 (mkF m 34 #[.val (.int x0), .val (.int x1), .val (.int x2), .val (.int z), .val (.int y), .unset, .unset, .unset] [(.ref b1)]) _ _ _
      refine own_go (fun _ => XS.astore X2.here hx rfl (hb hby at_34) rfl rfl (l' := #[.val (.int x0), .val (.int x1), .val (.int x2), .val (.int z), .val (.int y), .val (.ref b1), .unset, .unset]) rfl) ?_
      show own_Fin _ _ _ _ T2 (mkF m 36 #[.val (.int x0), .val (.int x1), .val (.int x2), .val (.int z), .val (.int y), .val (.ref b1), .unset, .unset] []) _ _ _
      obtain ⟨T3, h3, X3, e3, E3, A3, D3, -, st3⟩ := newO X2 hx hZ hown (hw _ (List.mem_of_getElem? (i := 0) rfl)) (hw _ (List.mem_of_getElem? (i := 1) rfl)) (hw _ (List.mem_of_getElem? (i := 2) rfl)) rfl (g := (mkF m 36 #[.val (.int x0), .val (.int x1), .val (.int x2), .val (.int z), .val (.int y), .val (.ref b1), .unset, .unset] [])) rfl (hb hby at_36) (by decide) (by decide)
      obtain ⟨b3, g3⟩ : ∃ z, z = T2.heap.size := ⟨_, rfl⟩
      rw [← g3] at A3 D3 st3
      have F_n_b3 : Fld Z h3 b3 "com/example/olefin_desk/olefindesk/TradingDayOfMonth" "n" "I" (.int (0 : Int32)) := D3 (Or.inr (hw _ (List.mem_of_getElem? (i := 15) rfl))) (ty := .int) (by decide)
      have F_fromEnd_b3 : Fld Z h3 b3 "com/example/olefin_desk/olefindesk/TradingDayOfMonth" "fromEnd" "Z" (.int (0 : Int32)) := D3 (Or.inr (hw _ (List.mem_of_getElem? (i := 17) rfl))) (ty := .boolean) (by decide)
      have g_b3 : n0 ≤ b3 := Nat.le_trans Zc2 (Nat.le_of_eq g3.symm)
      have Z3 : n0 ≤ h3.size := Nat.le_trans Zc2 E3.1
      have ne_b1_b3 : b1 ≠ b3 := Nat.ne_of_lt (Nat.lt_of_lt_of_le (Ex2).lt (Nat.le_of_eq g3.symm))
      have sz_b3 : h0.size ≤ b3 := Nat.le_trans (Kc2).1 (Nat.le_of_eq g3.symm)
      have K3 : Keep h0 h3 [] := (Kc2).ext E3
      have F3_b1_n := (Fx2_0).ext E3
      have F3_b1_fromEnd := (Fx2_1).ext E3
      have E3_b1 := (Ex2).ext E3
      refine own_go st3 ?_
      show own_Fin _ _ _ _ T3 (mkF m 39 #[.val (.int x0), .val (.int x1), .val (.int x2), .val (.int z), .val (.int y), .val (.ref b1), .unset, .unset] [(.ref b3)]) _ _ _
      refine own_go (fun _ => XS.dup X3.here hx rfl (hb hby at_39) rfl rfl) ?_
      show own_Fin _ _ _ _ T3 (mkF m 40 #[.val (.int x0), .val (.int x1), .val (.int x2), .val (.int z), .val (.int y), .val (.ref b1), .unset, .unset] [(.ref b3), (.ref b3)]) _ _ _
      refine own_go (fun _ => XS.iloadN X3.here hx rfl (hb hby at_40) rfl) ?_
      show own_Fin _ _ _ _ T3 (mkF m 41 #[.val (.int x0), .val (.int x1), .val (.int x2), .val (.int z), .val (.int y), .val (.ref b1), .unset, .unset] [(.int x1), (.ref b3), (.ref b3)]) _ _ _
      refine own_go (fun _ => XS.iload X3.here hx rfl (hb hby at_41) rfl) ?_
      show own_Fin _ _ _ _ T3 (mkF m 43 #[.val (.int x0), .val (.int x1), .val (.int x2), .val (.int z), .val (.int y), .val (.ref b1), .unset, .unset] [(.int y), (.int x1), (.ref b3), (.ref b3)]) _ _ _
      obtain ⟨_, _, ⟨T4, L4, k4, n4⟩, -, X4, ⟨Lc4, hQ4, l4, y4, z4⟩, st4⟩ := X3.specialBack hx (y := (⟨"com/example/olefin_desk/olefindesk/TradingDayOfMonth", "<init>", "(IZ)V"⟩ : MethodName)) rfl hown (mvT hZ (hw _ (List.mem_of_getElem? (i := 3) rfl))) (mvT hZ (hw _ (List.mem_of_getElem? (i := 4) rfl))) (mvT hZ (hw _ (List.mem_of_getElem? (i := 5) rfl))) (by decide) (backOf (W := 1) (rm1 l Z a0 hw [] b3 x1 y (.int (0 : Int32)) (.int (0 : Int32)) h3 n0 Z3 A3 g_b3 F_n_b3 F_fromEnd_b3) hZ (hw _ (List.mem_of_getElem? (i := 5) rfl)) (hw _ (List.mem_of_getElem? (i := 2) rfl)) (by decide) (by decide)) (g := (mkF m 43 #[.val (.int x0), .val (.int x1), .val (.int x2), .val (.int z), .val (.int y), .val (.ref b1), .unset, .unset] [(.int y), (.int x1), (.ref b3), (.ref b3)])) rfl (by rw [hml]; rfl) (Steps.refl _) (a := b3) (argsL := [(.int x1), (.int y)]) (rest := [(.ref b3)]) (lenOf pd_1 rfl) rfl (by show 2 * 0 + _ ≤ _; exact Nat.le_of_eq rfl) (hb hby at_43) (fun _ _ => ⟨rfl, e3, (by decide : 2 + 0 ≤ _), (by decide : 4 + 0 ≤ _)⟩)
      dsimp only [Pt.U, Pt.locs, Pt.cells, Pt.slots] at X4 l4 y4 z4 st4 hQ4
      subst l4 y4 z4
      obtain ⟨rfl, N4q, K4q, Ex4, Fx4_0, Fx4_1⟩ := hQ4
      have N4 := Fr.app N2 N4q
      have F4_b1_n := (F3_b1_n).keep K4q (by simp [ne_b1_b3])
      have F4_b1_fromEnd := (F3_b1_fromEnd).keep K4q (by simp [ne_b1_b3])
      have E4_b1 := (E3_b1).keep K4q
      have E4_b3 := (A3).keep K4q
      have Kc4 : Keep h0 T4.heap [] := (K3).trans K4q (fun x hx => by cases List.mem_singleton.mp hx; exact (Or.inr sz_b3))
      have Zc4 : n0 ≤ T4.heap.size := Nat.le_trans Z3 (K4q).1
      refine own_gt st4 ?_
      show own_Fin _ _ _ _ T4 (mkF m 46 #[.val (.int x0), .val (.int x1), .val (.int x2), .val (.int z), .val (.int y), .val (.ref b1), .unset, .unset] [(.ref b3)]) _ _ _
      refine own_go (fun _ => XS.astore X4.here hx rfl (hb hby at_46) rfl rfl (l' := #[.val (.int x0), .val (.int x1), .val (.int x2), .val (.int z), .val (.int y), .val (.ref b1), .val (.ref b3), .unset]) rfl) ?_
      show own_Fin _ _ _ _ T4 (mkF m 48 #[.val (.int x0), .val (.int x1), .val (.int x2), .val (.int z), .val (.int y), .val (.ref b1), .val (.ref b3), .unset] []) _ _ _
      refine own_go (fun _ => XS.iloadN X4.here hx rfl (hb hby at_48) rfl) ?_
      show own_Fin _ _ _ _ T4 (mkF m 49 #[.val (.int x0), .val (.int x1), .val (.int x2), .val (.int z), .val (.int y), .val (.ref b1), .val (.ref b3), .unset] [(.int z)]) _ _ _
      refine own_go (fun _ => XS.iload X4.here hx rfl (hb hby at_49) rfl) ?_
      show own_Fin _ _ _ _ T4 (mkF m 51 #[.val (.int x0), .val (.int x1), .val (.int x2), .val (.int z), .val (.int y), .val (.ref b1), .val (.ref b3), .unset] [(.int y), (.int z)]) _ _ _
      by_cases h51 : z = y
      · refine own_go (fun _ => XS.icmpYes X4.here hx rfl (pc0 := 51) (pc' := 60) rfl (hb hby at_51) rfl (teq h51).1 (by decide) (by decide)) ?_
        show own_Fin _ _ _ _ T4 (mkF m 60 #[.val (.int x0), .val (.int x1), .val (.int x2), .val (.int z), .val (.int y), .val (.ref b1), .val (.ref b3), .unset] []) _ _ _
        refine own_go (fun _ => XS.iloadN X4.here hx rfl (hb hby at_60) rfl) ?_
        show own_Fin _ _ _ _ T4 (mkF m 61 #[.val (.int x0), .val (.int x1), .val (.int x2), .val (.int z), .val (.int y), .val (.ref b1), .val (.ref b3), .unset] [(.int x0)]) _ _ _
        refine own_go (fun _ => XS.iloadN X4.here hx rfl (hb hby at_61) rfl) ?_
        show own_Fin _ _ _ _ T4 (mkF m 62 #[.val (.int x0), .val (.int x1), .val (.int x2), .val (.int z), .val (.int y), .val (.ref b1), .val (.ref b3), .unset] [(.int z), (.int x0)]) _ _ _
        obtain ⟨_, _, ⟨T5, L5, k5, n5⟩, -, X5, ⟨Lc5, hQ5, l5, y5, z5⟩, st5⟩ := Jvm.LawKit.callS X4 hx (y := (⟨"com/example/olefin_desk/olefindesk/TradingDayOfMonthPrecedesPinLaw", "position", "(IZ)J"⟩ : MethodName)) hown (mvT hZ (hw _ (List.mem_of_getElem? (i := 23) rfl))) (mvT hZ (hw _ (List.mem_of_getElem? (i := 24) rfl))) (mvT hZ (hw _ (List.mem_of_getElem? (i := 25) rfl))) (mvT hZ (hw _ (List.mem_of_getElem? (i := 26) rfl))) (by decide) (backOf (W := 0) (rm5 l Z a0 hw [] x0 z  T4.heap n0 Zc4 ) hZ (hw _ (List.mem_of_getElem? (i := 26) rfl)) (hw _ (List.mem_of_getElem? (i := 25) rfl)) (by decide) (by decide)) (g := (mkF m 62 #[.val (.int x0), .val (.int x1), .val (.int x2), .val (.int z), .val (.int y), .val (.ref b1), .val (.ref b3), .unset] [(.int z), (.int x0)])) rfl (by rw [hml]; rfl) (argsL := [(.int x0), (.int z)]) (rest := []) (lenOf pd_2 rfl) rfl (by show 2 * 0 + _ ≤ _; exact Nat.le_of_eq rfl) (hb hby at_62) (fun _ _ => ⟨rfl, rfl, (by decide : 2 + 0 ≤ _), (by decide : 4 + 0 ≤ _)⟩)
        dsimp only [Pt.U, Pt.locs, Pt.cells, Pt.slots] at X5 l5 y5 z5 st5 hQ5
        subst l5 y5 z5
        obtain ⟨rfl, N5q, e5⟩ := hQ5
        have N5 := Fr.app N4 N5q
        refine own_go st5 ?_
        show own_Fin _ _ _ _ T5 (mkF m 65 #[.val (.int x0), .val (.int x1), .val (.int x2), .val (.int z), .val (.int y), .val (.ref b1), .val (.ref b3), .unset] [(.long (own_pos x0 z))]) _ _ _
        refine own_go (fun _ => XS.iloadN X5.here hx rfl (hb hby at_65) rfl) ?_
        show own_Fin _ _ _ _ T5 (mkF m 66 #[.val (.int x0), .val (.int x1), .val (.int x2), .val (.int z), .val (.int y), .val (.ref b1), .val (.ref b3), .unset] [(.int x1), (.long (own_pos x0 z))]) _ _ _
        refine own_go (fun _ => XS.iload X5.here hx rfl (hb hby at_66) rfl) ?_
        show own_Fin _ _ _ _ T5 (mkF m 68 #[.val (.int x0), .val (.int x1), .val (.int x2), .val (.int z), .val (.int y), .val (.ref b1), .val (.ref b3), .unset] [(.int y), (.int x1), (.long (own_pos x0 z))]) _ _ _
        obtain ⟨_, _, ⟨T6, L6, k6, n6⟩, -, X6, ⟨Lc6, hQ6, l6, y6, z6⟩, st6⟩ := Jvm.LawKit.callS X5 hx (y := (⟨"com/example/olefin_desk/olefindesk/TradingDayOfMonthPrecedesPinLaw", "position", "(IZ)J"⟩ : MethodName)) hown (mvT hZ (hw _ (List.mem_of_getElem? (i := 23) rfl))) (mvT hZ (hw _ (List.mem_of_getElem? (i := 24) rfl))) (mvT hZ (hw _ (List.mem_of_getElem? (i := 25) rfl))) (mvT hZ (hw _ (List.mem_of_getElem? (i := 26) rfl))) (by decide) (backOf (W := 2) (rm5 l Z a0 hw [] x1 y  T4.heap n0 Zc4 ) hZ (hw _ (List.mem_of_getElem? (i := 26) rfl)) (hw _ (List.mem_of_getElem? (i := 25) rfl)) (by decide) (by decide)) (g := (mkF m 68 #[.val (.int x0), .val (.int x1), .val (.int x2), .val (.int z), .val (.int y), .val (.ref b1), .val (.ref b3), .unset] [(.int y), (.int x1), (.long (own_pos x0 z))])) rfl (by rw [hml]; rfl) (argsL := [(.int x1), (.int y)]) (rest := [(.long (own_pos x0 z))]) (lenOf pd_2 rfl) rfl (by show 2 * 0 + _ ≤ _; exact Nat.le_of_eq rfl) (hb hby at_68) (fun _ _ => ⟨rfl, e5, (by decide : 2 + 0 ≤ _), (by decide : 4 + 0 ≤ _)⟩)
        dsimp only [Pt.U, Pt.locs, Pt.cells, Pt.slots] at X6 l6 y6 z6 st6 hQ6
        subst l6 y6 z6
        obtain ⟨rfl, N6q, e6⟩ := hQ6
        have N6 := Fr.app N5 N6q
        refine own_go st6 ?_
        show own_Fin _ _ _ _ T6 (mkF m 71 #[.val (.int x0), .val (.int x1), .val (.int x2), .val (.int z), .val (.int y), .val (.ref b1), .val (.ref b3), .unset] [(.long (own_pos x1 y)), (.long (own_pos x0 z))]) _ _ _
        refine own_go (fun _ => XS.lcmp X6.here hx rfl (hb hby at_71) rfl) ?_
        show own_Fin _ _ _ _ T6 (mkF m 72 #[.val (.int x0), .val (.int x1), .val (.int x2), .val (.int z), .val (.int y), .val (.ref b1), .val (.ref b3), .unset] [(.int (lcmpW (own_pos x0 z) (own_pos x1 y)))]) _ _ _
        by_cases h72 : (own_pos x0 z) < (own_pos x1 y)
        · refine own_go (fun _ => XS.ifNo X6.here hx rfl (hb hby at_72) rfl ((if0 _ _).trans (tlt ((lw_lt _ _).mpr h72)).2.1)) ?_
          show own_Fin _ _ _ _ T6 (mkF m 75 #[.val (.int x0), .val (.int x1), .val (.int x2), .val (.int z), .val (.int y), .val (.ref b1), .val (.ref b3), .unset] []) _ _ _
          refine own_go (fun _ => XS.iconst X6.here hx rfl (hb hby at_75)) ?_
          show own_Fin _ _ _ _ T6 (mkF m 76 #[.val (.int x0), .val (.int x1), .val (.int x2), .val (.int z), .val (.int y), .val (.ref b1), .val (.ref b3), .unset] [(.int (1 : Int32))]) _ _ _
          refine own_go (fun _ => XS.goto X6.here hx rfl (pc0 := 76) (pc' := 80) rfl (hb hby at_76) (by decide) (by decide)) ?_
          show own_Fin _ _ _ _ T6 (mkF m 80 #[.val (.int x0), .val (.int x1), .val (.int x2), .val (.int z), .val (.int y), .val (.ref b1), .val (.ref b3), .unset] [(.int (1 : Int32))]) _ _ _
          refine own_go (fun _ => XS.istore X6.here hx rfl (hb hby at_80) rfl (l' := #[.val (.int x0), .val (.int x1), .val (.int x2), .val (.int z), .val (.int y), .val (.ref b1), .val (.ref b3), .val (.int (1 : Int32))]) rfl) ?_
          show own_Fin _ _ _ _ T6 (mkF m 82 #[.val (.int x0), .val (.int x1), .val (.int x2), .val (.int z), .val (.int y), .val (.ref b1), .val (.ref b3), .val (.int (1 : Int32))] []) _ _ _
          refine own_go (fun _ => XS.aload X6.here hx rfl (hb hby at_82) rfl rfl) ?_
          show own_Fin _ _ _ _ T6 (mkF m 84 #[.val (.int x0), .val (.int x1), .val (.int x2), .val (.int z), .val (.int y), .val (.ref b1), .val (.ref b3), .val (.int (1 : Int32))] [(.ref b1)]) _ _ _
          refine own_go (fun _ => XS.aload X6.here hx rfl (hb hby at_84) rfl rfl) ?_
          show own_Fin _ _ _ _ T6 (mkF m 86 #[.val (.int x0), .val (.int x1), .val (.int x2), .val (.int z), .val (.int y), .val (.ref b1), .val (.ref b3), .val (.int (1 : Int32))] [(.ref b3), (.ref b1)]) _ _ _
          obtain ⟨cq7, kq7, q7a, q7b, q7c⟩ := isOf hZ e6 E4_b1
          obtain ⟨_, _, ⟨T7, L7, k7, n7⟩, -, X7, ⟨Lc7, hQ7, l7, y7, z7⟩, st7⟩ := X6.virtualBack hx (y := (⟨"com/example/olefin_desk/olefindesk/TradingDayOfMonth", "precedes", "(Lcom/example/olefin_desk/olefindesk/TradingDayOfMonth;)Z"⟩ : MethodName)) (z := (⟨"com/example/olefin_desk/olefindesk/TradingDayOfMonth", "precedes", "(Lcom/example/olefin_desk/olefindesk/TradingDayOfMonth;)Z"⟩ : MethodName)) hown (mvT hZ (hw _ (List.mem_of_getElem? (i := 18) rfl))) (mvT hZ (hw _ (List.mem_of_getElem? (i := 19) rfl))) (notFace_of_selects (args := #[]) (mvT hZ (hw _ (List.mem_of_getElem? (i := 21) rfl)))) (mvT hZ (hw _ (List.mem_of_getElem? (i := 21) rfl))) (mvT hZ (hw _ (List.mem_of_getElem? (i := 20) rfl))) (by decide) (backOf (W := 0) (rm4 l Z a0 hw [] b1 b3 (nar .boolean z) (nar .boolean y) x0 x1 T4.heap n0 Zc4 F4_b1_n F4_b1_fromEnd Fx4_0 Fx4_1) hZ (hw _ (List.mem_of_getElem? (i := 22) rfl)) (hw _ (List.mem_of_getElem? (i := 2) rfl)) (by decide) (by decide)) q7a q7c (g := (mkF m 86 #[.val (.int x0), .val (.int x1), .val (.int x2), .val (.int z), .val (.int y), .val (.ref b1), .val (.ref b3), .val (.int (1 : Int32))] [(.ref b3), (.ref b1)])) rfl (by rw [hml]; rfl) (Steps.refl _) (argsL := [(.ref b3)]) (rest := []) (lenOf pd_3 rfl) rfl (by show 2 * 0 + _ ≤ _; exact Nat.le_of_eq rfl) (hb hby at_86) (fun _ _ => ⟨rfl, e6, (by decide : 2 + 0 ≤ _), (by decide : 4 + 0 ≤ _)⟩)
          dsimp only [Pt.U, Pt.locs, Pt.cells, Pt.slots] at X7 l7 y7 z7 st7 hQ7
          subst l7 y7 z7
          obtain ⟨rfl, N7q, e7⟩ := hQ7
          have N7 := Fr.app N6 N7q
          refine own_gt st7 ?_
          show own_Fin _ _ _ _ T7 (mkF m 89 #[.val (.int x0), .val (.int x1), .val (.int x2), .val (.int z), .val (.int y), .val (.ref b1), .val (.ref b3), .val (.int (1 : Int32))] [(.int (own_prec (nar .boolean z) (nar .boolean y) x0 x1))]) _ _ _
          refine own_go (fun _ => XS.iload X7.here hx rfl (hb hby at_89) rfl) ?_
          show own_Fin _ _ _ _ T7 (mkF m 91 #[.val (.int x0), .val (.int x1), .val (.int x2), .val (.int z), .val (.int y), .val (.ref b1), .val (.ref b3), .val (.int (1 : Int32))] [(.int (1 : Int32)), (.int (own_prec (nar .boolean z) (nar .boolean y) x0 x1))]) _ _ _
          refine own_go (fun _ => XS.icmpNo X7.here hx rfl (hb hby at_91) rfl (teq (show (own_prec (nar .boolean z) (nar .boolean y) x0 x1) = (1 : Int32) from own_same1 hp_J11 hp_J23 h51 h72)).2) ?_
          show own_Fin _ _ _ _ T7 (mkF m 94 #[.val (.int x0), .val (.int x1), .val (.int x2), .val (.int z), .val (.int y), .val (.ref b1), .val (.ref b3), .val (.int (1 : Int32))] []) _ _ _
          refine own_go (fun _ => XS.iconst X7.here hx rfl (hb hby at_94)) ?_
          show own_Fin _ _ _ _ T7 (mkF m 95 #[.val (.int x0), .val (.int x1), .val (.int x2), .val (.int z), .val (.int y), .val (.ref b1), .val (.ref b3), .val (.int (1 : Int32))] [(.int (1 : Int32))]) _ _ _
          refine own_go (fun _ => XS.goto X7.here hx rfl (pc0 := 95) (pc' := 99) rfl (hb hby at_95) (by decide) (by decide)) ?_
          show own_Fin _ _ _ _ T7 (mkF m 99 #[.val (.int x0), .val (.int x1), .val (.int x2), .val (.int z), .val (.int y), .val (.ref b1), .val (.ref b3), .val (.int (1 : Int32))] [(.int (1 : Int32))]) _ _ _
          exact own_retZ X7 hx hnl (t := .boolean) hret (by simp) (hb hby at_99) (by decide) (by decide) ⟨rfl, N7⟩
        · refine own_go (fun _ => XS.ifYes X6.here hx rfl (pc0 := 72) (pc' := 79) rfl (hb hby at_72) rfl ((if0 _ _).trans (flt (mt (lw_lt _ _).mp h72)).2.1) (by decide) (by decide)) ?_
          show own_Fin _ _ _ _ T6 (mkF m 79 #[.val (.int x0), .val (.int x1), .val (.int x2), .val (.int z), .val (.int y), .val (.ref b1), .val (.ref b3), .unset] []) _ _ _
          refine own_go (fun _ => XS.iconst X6.here hx rfl (hb hby at_79)) ?_
          show own_Fin _ _ _ _ T6 (mkF m 80 #[.val (.int x0), .val (.int x1), .val (.int x2), .val (.int z), .val (.int y), .val (.ref b1), .val (.ref b3), .unset] [(.int (0 : Int32))]) _ _ _
          refine own_go (fun _ => XS.istore X6.here hx rfl (hb hby at_80) rfl (l' := #[.val (.int x0), .val (.int x1), .val (.int x2), .val (.int z), .val (.int y), .val (.ref b1), .val (.ref b3), .val (.int (0 : Int32))]) rfl) ?_
          show own_Fin _ _ _ _ T6 (mkF m 82 #[.val (.int x0), .val (.int x1), .val (.int x2), .val (.int z), .val (.int y), .val (.ref b1), .val (.ref b3), .val (.int (0 : Int32))] []) _ _ _
          refine own_go (fun _ => XS.aload X6.here hx rfl (hb hby at_82) rfl rfl) ?_
          show own_Fin _ _ _ _ T6 (mkF m 84 #[.val (.int x0), .val (.int x1), .val (.int x2), .val (.int z), .val (.int y), .val (.ref b1), .val (.ref b3), .val (.int (0 : Int32))] [(.ref b1)]) _ _ _
          refine own_go (fun _ => XS.aload X6.here hx rfl (hb hby at_84) rfl rfl) ?_
          show own_Fin _ _ _ _ T6 (mkF m 86 #[.val (.int x0), .val (.int x1), .val (.int x2), .val (.int z), .val (.int y), .val (.ref b1), .val (.ref b3), .val (.int (0 : Int32))] [(.ref b3), (.ref b1)]) _ _ _
          obtain ⟨cq8, kq8, q8a, q8b, q8c⟩ := isOf hZ e6 E4_b1
          obtain ⟨_, _, ⟨T8, L8, k8, n8⟩, -, X8, ⟨Lc8, hQ8, l8, y8, z8⟩, st8⟩ := X6.virtualBack hx (y := (⟨"com/example/olefin_desk/olefindesk/TradingDayOfMonth", "precedes", "(Lcom/example/olefin_desk/olefindesk/TradingDayOfMonth;)Z"⟩ : MethodName)) (z := (⟨"com/example/olefin_desk/olefindesk/TradingDayOfMonth", "precedes", "(Lcom/example/olefin_desk/olefindesk/TradingDayOfMonth;)Z"⟩ : MethodName)) hown (mvT hZ (hw _ (List.mem_of_getElem? (i := 18) rfl))) (mvT hZ (hw _ (List.mem_of_getElem? (i := 19) rfl))) (notFace_of_selects (args := #[]) (mvT hZ (hw _ (List.mem_of_getElem? (i := 21) rfl)))) (mvT hZ (hw _ (List.mem_of_getElem? (i := 21) rfl))) (mvT hZ (hw _ (List.mem_of_getElem? (i := 20) rfl))) (by decide) (backOf (W := 0) (rm4 l Z a0 hw [] b1 b3 (nar .boolean z) (nar .boolean y) x0 x1 T4.heap n0 Zc4 F4_b1_n F4_b1_fromEnd Fx4_0 Fx4_1) hZ (hw _ (List.mem_of_getElem? (i := 22) rfl)) (hw _ (List.mem_of_getElem? (i := 2) rfl)) (by decide) (by decide)) q8a q8c (g := (mkF m 86 #[.val (.int x0), .val (.int x1), .val (.int x2), .val (.int z), .val (.int y), .val (.ref b1), .val (.ref b3), .val (.int (0 : Int32))] [(.ref b3), (.ref b1)])) rfl (by rw [hml]; rfl) (Steps.refl _) (argsL := [(.ref b3)]) (rest := []) (lenOf pd_3 rfl) rfl (by show 2 * 0 + _ ≤ _; exact Nat.le_of_eq rfl) (hb hby at_86) (fun _ _ => ⟨rfl, e6, (by decide : 2 + 0 ≤ _), (by decide : 4 + 0 ≤ _)⟩)
          dsimp only [Pt.U, Pt.locs, Pt.cells, Pt.slots] at X8 l8 y8 z8 st8 hQ8
          subst l8 y8 z8
          obtain ⟨rfl, N8q, e8⟩ := hQ8
          have N8 := Fr.app N6 N8q
          refine own_gt st8 ?_
          show own_Fin _ _ _ _ T8 (mkF m 89 #[.val (.int x0), .val (.int x1), .val (.int x2), .val (.int z), .val (.int y), .val (.ref b1), .val (.ref b3), .val (.int (0 : Int32))] [(.int (own_prec (nar .boolean z) (nar .boolean y) x0 x1))]) _ _ _
          refine own_go (fun _ => XS.iload X8.here hx rfl (hb hby at_89) rfl) ?_
          show own_Fin _ _ _ _ T8 (mkF m 91 #[.val (.int x0), .val (.int x1), .val (.int x2), .val (.int z), .val (.int y), .val (.ref b1), .val (.ref b3), .val (.int (0 : Int32))] [(.int (0 : Int32)), (.int (own_prec (nar .boolean z) (nar .boolean y) x0 x1))]) _ _ _
          refine own_go (fun _ => XS.icmpNo X8.here hx rfl (hb hby at_91) rfl (teq (show (own_prec (nar .boolean z) (nar .boolean y) x0 x1) = (0 : Int32) from own_same0 hp_J11 hp_J23 h51 h72)).2) ?_
          show own_Fin _ _ _ _ T8 (mkF m 94 #[.val (.int x0), .val (.int x1), .val (.int x2), .val (.int z), .val (.int y), .val (.ref b1), .val (.ref b3), .val (.int (0 : Int32))] []) _ _ _
          refine own_go (fun _ => XS.iconst X8.here hx rfl (hb hby at_94)) ?_
          show own_Fin _ _ _ _ T8 (mkF m 95 #[.val (.int x0), .val (.int x1), .val (.int x2), .val (.int z), .val (.int y), .val (.ref b1), .val (.ref b3), .val (.int (0 : Int32))] [(.int (1 : Int32))]) _ _ _
          refine own_go (fun _ => XS.goto X8.here hx rfl (pc0 := 95) (pc' := 99) rfl (hb hby at_95) (by decide) (by decide)) ?_
          show own_Fin _ _ _ _ T8 (mkF m 99 #[.val (.int x0), .val (.int x1), .val (.int x2), .val (.int z), .val (.int y), .val (.ref b1), .val (.ref b3), .val (.int (0 : Int32))] [(.int (1 : Int32))]) _ _ _
          exact own_retZ X8 hx hnl (t := .boolean) hret (by simp) (hb hby at_99) (by decide) (by decide) ⟨rfl, N8⟩
      · refine own_go (fun _ => XS.icmpNo X4.here hx rfl (hb hby at_51) rfl (feq h51).1) ?_
        show own_Fin _ _ _ _ T4 (mkF m 54 #[.val (.int x0), .val (.int x1), .val (.int x2), .val (.int z), .val (.int y), .val (.ref b1), .val (.ref b3), .unset] []) _ _ _
        refine own_go (fun _ => XS.iconst X4.here hx rfl (hb hby at_54)) ?_
        show own_Fin _ _ _ _ T4 (mkF m 55 #[.val (.int x0), .val (.int x1), .val (.int x2), .val (.int z), .val (.int y), .val (.ref b1), .val (.ref b3), .unset] [(.int (0 : Int32))]) _ _ _
        refine own_go (fun _ => XS.istore X4.here hx rfl (hb hby at_55) rfl (l' := #[.val (.int x0), .val (.int x1), .val (.int x2), .val (.int z), .val (.int y), .val (.ref b1), .val (.ref b3), .val (.int (0 : Int32))]) rfl) ?_
        show own_Fin _ _ _ _ T4 (mkF m 57 #[.val (.int x0), .val (.int x1), .val (.int x2), .val (.int z), .val (.int y), .val (.ref b1), .val (.ref b3), .val (.int (0 : Int32))] []) _ _ _
        refine own_go (fun _ => XS.goto X4.here hx rfl (pc0 := 57) (pc' := 82) rfl (hb hby at_57) (by decide) (by decide)) ?_
        show own_Fin _ _ _ _ T4 (mkF m 82 #[.val (.int x0), .val (.int x1), .val (.int x2), .val (.int z), .val (.int y), .val (.ref b1), .val (.ref b3), .val (.int (0 : Int32))] []) _ _ _
        refine own_go (fun _ => XS.aload X4.here hx rfl (hb hby at_82) rfl rfl) ?_
        show own_Fin _ _ _ _ T4 (mkF m 84 #[.val (.int x0), .val (.int x1), .val (.int x2), .val (.int z), .val (.int y), .val (.ref b1), .val (.ref b3), .val (.int (0 : Int32))] [(.ref b1)]) _ _ _
        refine own_go (fun _ => XS.aload X4.here hx rfl (hb hby at_84) rfl rfl) ?_
        show own_Fin _ _ _ _ T4 (mkF m 86 #[.val (.int x0), .val (.int x1), .val (.int x2), .val (.int z), .val (.int y), .val (.ref b1), .val (.ref b3), .val (.int (0 : Int32))] [(.ref b3), (.ref b1)]) _ _ _
        obtain ⟨cq9, kq9, q9a, q9b, q9c⟩ := isOf hZ rfl E4_b1
        obtain ⟨_, _, ⟨T9, L9, k9, n9⟩, -, X9, ⟨Lc9, hQ9, l9, y9, z9⟩, st9⟩ := X4.virtualBack hx (y := (⟨"com/example/olefin_desk/olefindesk/TradingDayOfMonth", "precedes", "(Lcom/example/olefin_desk/olefindesk/TradingDayOfMonth;)Z"⟩ : MethodName)) (z := (⟨"com/example/olefin_desk/olefindesk/TradingDayOfMonth", "precedes", "(Lcom/example/olefin_desk/olefindesk/TradingDayOfMonth;)Z"⟩ : MethodName)) hown (mvT hZ (hw _ (List.mem_of_getElem? (i := 18) rfl))) (mvT hZ (hw _ (List.mem_of_getElem? (i := 19) rfl))) (notFace_of_selects (args := #[]) (mvT hZ (hw _ (List.mem_of_getElem? (i := 21) rfl)))) (mvT hZ (hw _ (List.mem_of_getElem? (i := 21) rfl))) (mvT hZ (hw _ (List.mem_of_getElem? (i := 20) rfl))) (by decide) (backOf (W := 0) (rm4 l Z a0 hw [] b1 b3 (nar .boolean z) (nar .boolean y) x0 x1 T4.heap n0 Zc4 F4_b1_n F4_b1_fromEnd Fx4_0 Fx4_1) hZ (hw _ (List.mem_of_getElem? (i := 22) rfl)) (hw _ (List.mem_of_getElem? (i := 2) rfl)) (by decide) (by decide)) q9a q9c (g := (mkF m 86 #[.val (.int x0), .val (.int x1), .val (.int x2), .val (.int z), .val (.int y), .val (.ref b1), .val (.ref b3), .val (.int (0 : Int32))] [(.ref b3), (.ref b1)])) rfl (by rw [hml]; rfl) (Steps.refl _) (argsL := [(.ref b3)]) (rest := []) (lenOf pd_3 rfl) rfl (by show 2 * 0 + _ ≤ _; exact Nat.le_of_eq rfl) (hb hby at_86) (fun _ _ => ⟨rfl, rfl, (by decide : 2 + 0 ≤ _), (by decide : 4 + 0 ≤ _)⟩)
        dsimp only [Pt.U, Pt.locs, Pt.cells, Pt.slots] at X9 l9 y9 z9 st9 hQ9
        subst l9 y9 z9
        obtain ⟨rfl, N9q, e9⟩ := hQ9
        have N9 := Fr.app N4 N9q
        refine own_gt st9 ?_
        show own_Fin _ _ _ _ T9 (mkF m 89 #[.val (.int x0), .val (.int x1), .val (.int x2), .val (.int z), .val (.int y), .val (.ref b1), .val (.ref b3), .val (.int (0 : Int32))] [(.int (own_prec (nar .boolean z) (nar .boolean y) x0 x1))]) _ _ _
        refine own_go (fun _ => XS.iload X9.here hx rfl (hb hby at_89) rfl) ?_
        show own_Fin _ _ _ _ T9 (mkF m 91 #[.val (.int x0), .val (.int x1), .val (.int x2), .val (.int z), .val (.int y), .val (.ref b1), .val (.ref b3), .val (.int (0 : Int32))] [(.int (0 : Int32)), (.int (own_prec (nar .boolean z) (nar .boolean y) x0 x1))]) _ _ _
        refine own_go (fun _ => XS.icmpNo X9.here hx rfl (hb hby at_91) rfl (teq (show (own_prec (nar .boolean z) (nar .boolean y) x0 x1) = (0 : Int32) from own_apart hp_J11 hp_J23 h51)).2) ?_
        show own_Fin _ _ _ _ T9 (mkF m 94 #[.val (.int x0), .val (.int x1), .val (.int x2), .val (.int z), .val (.int y), .val (.ref b1), .val (.ref b3), .val (.int (0 : Int32))] []) _ _ _
        refine own_go (fun _ => XS.iconst X9.here hx rfl (hb hby at_94)) ?_
        show own_Fin _ _ _ _ T9 (mkF m 95 #[.val (.int x0), .val (.int x1), .val (.int x2), .val (.int z), .val (.int y), .val (.ref b1), .val (.ref b3), .val (.int (0 : Int32))] [(.int (1 : Int32))]) _ _ _
        refine own_go (fun _ => XS.goto X9.here hx rfl (pc0 := 95) (pc' := 99) rfl (hb hby at_95) (by decide) (by decide)) ?_
        show own_Fin _ _ _ _ T9 (mkF m 99 #[.val (.int x0), .val (.int x1), .val (.int x2), .val (.int z), .val (.int y), .val (.ref b1), .val (.ref b3), .val (.int (0 : Int32))] [(.int (1 : Int32))]) _ _ _
        exact own_retZ X9 hx hnl (t := .boolean) hret (by simp) (hb hby at_99) (by decide) (by decide) ⟨rfl, N9⟩
    refine own_go (fun _ => XS.istoreN X0.here hx rfl (hb hby at_11) rfl (l' := #[.val (.int x0), .val (.int x1), .val (.int x2), .val (.int z), .unset, .unset, .unset, .unset]) rfl) ?_
    show own_Fin _ _ _ _ s₁ (mkF m 12 #[.val (.int x0), .val (.int x1), .val (.int x2), .val (.int z), .unset, .unset, .unset, .unset] []) _ _ _
    refine own_go (fun _ => XS.iloadN X0.here hx rfl (hb hby at_12) rfl) ?_
    show own_Fin _ _ _ _ s₁ (mkF m 13 #[.val (.int x0), .val (.int x1), .val (.int x2), .val (.int z), .unset, .unset, .unset, .unset] [(.int x2)]) _ _ _
    refine own_go (fun _ => XS.iconst X0.here hx rfl (hb hby at_13)) ?_
    show own_Fin _ _ _ _ s₁ (mkF m 14 #[.val (.int x0), .val (.int x1), .val (.int x2), .val (.int z), .unset, .unset, .unset, .unset] [(.int (2 : Int32)), (.int x2)]) _ _ _
    refine own_go (fun _ => XS.iand X0.here hx rfl (hb hby at_14) rfl) ?_
    show own_Fin _ _ _ _ s₁ (mkF m 15 #[.val (.int x0), .val (.int x1), .val (.int x2), .val (.int z), .unset, .unset, .unset, .unset] [(.int (x2 &&& (2 : Int32)))]) _ _ _
    by_cases h15 : (x2 &&& (2 : Int32)) = (0 : Int32)
    · refine own_go (fun _ => XS.ifYes X0.here hx rfl (pc0 := 15) (pc' := 22) rfl (hb hby at_15) rfl ((if0 _ _).trans (teq h15).1) (by decide) (by decide)) ?_
      show own_Fin _ _ _ _ s₁ (mkF m 22 #[.val (.int x0), .val (.int x1), .val (.int x2), .val (.int z), .unset, .unset, .unset, .unset] []) _ _ _
      refine own_go (fun _ => XS.iconst X0.here hx rfl (hb hby at_22)) ?_
      show own_Fin _ _ _ _ s₁ (mkF m 23 #[.val (.int x0), .val (.int x1), .val (.int x2), .val (.int z), .unset, .unset, .unset, .unset] [(.int (0 : Int32))]) _ _ _
      exact J23 (0 : Int32) (by decide)
    · refine own_go (fun _ => XS.ifNo X0.here hx rfl (hb hby at_15) rfl ((if0 _ _).trans (feq h15).1)) ?_
      show own_Fin _ _ _ _ s₁ (mkF m 18 #[.val (.int x0), .val (.int x1), .val (.int x2), .val (.int z), .unset, .unset, .unset, .unset] []) _ _ _
      refine own_go (fun _ => XS.iconst X0.here hx rfl (hb hby at_18)) ?_
      show own_Fin _ _ _ _ s₁ (mkF m 19 #[.val (.int x0), .val (.int x1), .val (.int x2), .val (.int z), .unset, .unset, .unset, .unset] [(.int (1 : Int32))]) _ _ _
      refine own_go (fun _ => XS.goto X0.here hx rfl (pc0 := 19) (pc' := 23) rfl (hb hby at_19) (by decide) (by decide)) ?_
      show own_Fin _ _ _ _ s₁ (mkF m 23 #[.val (.int x0), .val (.int x1), .val (.int x2), .val (.int z), .unset, .unset, .unset, .unset] [(.int (1 : Int32))]) _ _ _
      exact J23 (1 : Int32) (by decide)
  refine own_go (fun _ => XS.iloadN X0.here hx rfl (hb hby at_0) rfl) ?_
  show own_Fin _ _ _ _ s₁ (mkF m 1 #[.val (.int x0), .val (.int x1), .val (.int x2), .unset, .unset, .unset, .unset, .unset] [(.int x2)]) _ _ _
  refine own_go (fun _ => XS.iconst X0.here hx rfl (hb hby at_1)) ?_
  show own_Fin _ _ _ _ s₁ (mkF m 2 #[.val (.int x0), .val (.int x1), .val (.int x2), .unset, .unset, .unset, .unset, .unset] [(.int (1 : Int32)), (.int x2)]) _ _ _
  refine own_go (fun _ => XS.iand X0.here hx rfl (hb hby at_2) rfl) ?_
  show own_Fin _ _ _ _ s₁ (mkF m 3 #[.val (.int x0), .val (.int x1), .val (.int x2), .unset, .unset, .unset, .unset, .unset] [(.int (x2 &&& (1 : Int32)))]) _ _ _
  by_cases h3 : (x2 &&& (1 : Int32)) = (0 : Int32)
  · refine own_go (fun _ => XS.ifYes X0.here hx rfl (pc0 := 3) (pc' := 10) rfl (hb hby at_3) rfl ((if0 _ _).trans (teq h3).1) (by decide) (by decide)) ?_
    show own_Fin _ _ _ _ s₁ (mkF m 10 #[.val (.int x0), .val (.int x1), .val (.int x2), .unset, .unset, .unset, .unset, .unset] []) _ _ _
    refine own_go (fun _ => XS.iconst X0.here hx rfl (hb hby at_10)) ?_
    show own_Fin _ _ _ _ s₁ (mkF m 11 #[.val (.int x0), .val (.int x1), .val (.int x2), .unset, .unset, .unset, .unset, .unset] [(.int (0 : Int32))]) _ _ _
    exact J11 (0 : Int32) (by decide)
  · refine own_go (fun _ => XS.ifNo X0.here hx rfl (hb hby at_3) rfl ((if0 _ _).trans (feq h3).1)) ?_
    show own_Fin _ _ _ _ s₁ (mkF m 6 #[.val (.int x0), .val (.int x1), .val (.int x2), .unset, .unset, .unset, .unset, .unset] []) _ _ _
    refine own_go (fun _ => XS.iconst X0.here hx rfl (hb hby at_6)) ?_
    show own_Fin _ _ _ _ s₁ (mkF m 7 #[.val (.int x0), .val (.int x1), .val (.int x2), .unset, .unset, .unset, .unset, .unset] [(.int (1 : Int32))]) _ _ _
    refine own_go (fun _ => XS.goto X0.here hx rfl (pc0 := 7) (pc' := 11) rfl (hb hby at_7) (by decide) (by decide)) ?_
    show own_Fin _ _ _ _ s₁ (mkF m 11 #[.val (.int x0), .val (.int x1), .val (.int x2), .unset, .unset, .unset, .unset, .unset] [(.int (1 : Int32))]) _ _ _
    exact J11 (1 : Int32) (by decide)

set_option maxRecDepth 65536 in
set_option maxHeartbeats 40000000 in
theorem comes_1 {Post : Tables → Env → Array Value → State → Outcome → State → Prop} (hpost : ∀ tb e args s v u, (limb_1_1.after args s (.returned v) u = true ∧ limb_1_2.after args s (.returned v) u = true) → FrameEnd s (.returned v) u (Jvm.fieldLocs frame_1_writes args s ++ Jvm.arrayLocs frame_1_arrays args s ++ Jvm.staticLocs frame_1_statics s) 16 128 → Post tb e args s (.returned v) u) :
    ArmFor flags0 classFile x code maxLocals ret World_1 tables_1 room_1 Calls_1 rest_1 Pre_1 Post := by
  intro l hfl _ _ p e ha hc hk s m args below hf hA hF happ hP
  obtain ⟨hcalls, hrest, hpre⟩ := hP
  obtain ⟨-, -, -, hnamed, -, -, -, hat⟩ := (Spec.applies_iff hf).mp happ
  obtain ⟨hg, hn⟩ := and_e (Cond.before_iff.mp (show (Jvm.Cond.and given_1 narrow_1).before args s = true from hpre))
  obtain ⟨gg1, gg2⟩ := and_e hg
  obtain ⟨gg3, gg4⟩ := and_e gg2
  obtain ⟨gg5, gg6⟩ := and_e gg4
  obtain ⟨w0, w1, w2, rfl⟩ : ∃ w0 w1 w2 : Value, args = #[w0, w1, w2] := by
    have hs : args.size = 3 := by simpa [Cond.value, given_1] using gg1
    obtain ⟨L⟩ := args
    match L, hs with
    | [w0, w1, w2], _ => exact ⟨w0, w1, w2, rfl⟩
  have hw := fun d (hd : d ∈ tables_1) => atoms_spec (ws := Jvm.Cond.code x code maxLocals ret :: tables_1) hat d (List.mem_cons_of_mem _ hd)
  obtain ⟨i0, ei0⟩ := is_v gg3
  obtain rfl : w0 = (.int i0) := Option.some.inj ei0
  obtain ⟨i1, ei1⟩ := is_v gg5
  obtain rfl : w1 = (.int i1) := Option.some.inj ei1
  obtain ⟨i2, ei2⟩ := is_v gg6
  obtain rfl : w2 = (.int i2) := Option.some.inj ei2
  obtain ⟨n, o, h1, h2, h3, _, L, rfl, ⟨rfl, N⟩, hq⟩ := rm0 l s _ hw tables_1 i0 i1 i2 s.heap s.heap.size (Nat.le_refl _) p e ha hc hk s m _ below hf ((Spec.applies_iff_loose hf).mp happ).1 ⟨rfl, State.Warmed39.refl s, rfl⟩ trivial
  refine ⟨n, _, h1, h2, h3, hpost _ _ _ _ _ _ ⟨Cond.after_iff.mpr rfl, Cond.after_iff.mpr (eq_i res_at (Term.int_eval (1)) rfl)⟩ ⟨hq.1, hq.2.1, (hq.2.2.sift fun y hy => Or.inr (N y hy)).mono (by decide) (by decide)⟩⟩
theorem main_1_1 : Claimed_1_1 := comes_1 fun _ _ _ _ _ _ h hF => ⟨h.1, hF⟩
theorem main_1_2 : Claimed_1_2 := comes_1 fun _ _ _ _ _ _ h hF => ⟨h.2, hF⟩
end Jvm.Pilot.@@N@@
namespace Jvm.Pilot.@@N@@
open Jvm Jvm.ClassFile Sem Op Lib Jvm.Free Jvm.Stand Jvm.Pilot.@@N@@.Jvm.D
/-! MADE BY PROGRAM (witnessworld.py) out of the Statement's table words and the real class files: 10 classes; the members and pool entries that the words name. The judged class is class 1, her method 2. -/
namespace start1
open Jvm.ClassFile
def u (s : String) : CpInfo := .utf8 (stringToUtf16 s)
/-- a pool by its gaps: so many unusable entries, then the entry; so many at the end -/
def gap : Nat → List CpInfo → List CpInfo
  | 0, r => r
  | n + 1, r => .unusable :: gap n r
def poolList (es : List (Nat × CpInfo)) (last : Nat) : List CpInfo := es.foldr (fun e r => gap e.1 (e.2 :: r)) (gap last [])
def pool (es : List (Nat × CpInfo)) (last : Nat) : Array CpInfo := ⟨poolList es last⟩
def fileOf (pool : Array CpInfo) (this : Nat) (attrs : Array Attribute := #[]) (ms : Array MethodInfo := #[]) (fl : Nat := 33) (sup : Nat := 0) (ifs : Array Nat := #[]) (fds : Array FieldInfo := #[]) : ClassFile where
  minorVersion := 0
  majorVersion := 65
  constantPool := pool
  accessFlags := fl
  thisClass := this
  superClass := sup
  interfaces := ifs
  fields := fds
  methods := ms
  attributes := attrs
def plain (name : String) (sup : Option ClassId) : Class where
  name := name
  kind := .ordinary
  loader := none
  accessFlags := 33
  super := sup
  interfaces := #[]
  cf := none
  fields := #[]
  methods := #[]
  instanceTypes := #[]
  staticTypes := #[]
  resolved := #[]
  callSites := []
  init := .initialized
  statics := none
  mirror := none

def pool0 : Array CpInfo := pool [(5, u "<init>"), (0, u "()V"), (1, .class_ 10), (1, u "java/lang/Object")] 113

def k0c0 : Code := { maxStack := 0, maxLocals := 1, code := object_method_1_code, exceptionTable := #[], attributes := #[] }
def k0m0 : Method := { name := "<init>", desc := "()V", sig := { parameters := [], returnType := none }, accessFlags := 1, code := some k0c0 }
/-- java/lang/Object -/
def k0 : Class := { plain "java/lang/Object" none with
  accessFlags := 33
  interfaces := #[]
  cf := some (fileOf pool0 8 #[] #[{ accessFlags := 1, nameIndex := 5, descriptorIndex := 6, attributes := #[] }] 33 0 #[] #[])
  fields := #[]
  methods := #[k0m0]
  instanceTypes := #[]
  staticTypes := #[]
  resolved := Array.replicate 124 none
  statics := none }

def pool1 : Array CpInfo := pool [(2, .class_ 4), (1, u "java/lang/Object"), (0, u "<init>"), (0, u "()V"), (0, .class_ 8), (0, u "com/example/olefin_desk/olefindesk/TradingDayOfMonthPrecedesPinLaw"), (0, .long 8589934593), (1, .class_ 12), (0, u "com/example/olefin_desk/olefindesk/TradingDayOfMonth"), (0, .methodref 11 14), (0, .nameAndType 5 15), (0, u "(IZ)V"), (0, .methodref 7 17), (0, .nameAndType 18 19), (0, u "position"), (0, u "(IZ)J"), (0, .methodref 11 21), (0, .nameAndType 22 23), (0, u "precedes"), (0, u "(Lcom/example/olefin_desk/olefindesk/TradingDayOfMonth;)Z"), (0, u "BIG_MONTH"), (0, u "J"), (6, u "law"), (0, u "(III)Z")] 2

def k1m0 : Method := { name := "<init>", desc := "()V", sig := { parameters := [], returnType := none }, accessFlags := 1, code := none }
def k1c1 : Code := { maxStack := 4, maxLocals := 2, code := method_2_code, exceptionTable := #[], attributes := #[] }
def k1m1 : Method := { name := "position", desc := "(IZ)J", sig := { parameters := [.int, .boolean], returnType := some .long }, accessFlags := 10, code := some k1c1 }
def k1c2 : Code := { maxStack := 4, maxLocals := 8, code := code, exceptionTable := #[], attributes := #[] }
def k1m2 : Method := { name := "law", desc := "(III)Z", sig := { parameters := [.int, .int, .int], returnType := some .boolean }, accessFlags := 9, code := some k1c2 }
/-- com/example/olefin_desk/olefindesk/TradingDayOfMonthPrecedesPinLaw -/
def k1 : Class := { plain "com/example/olefin_desk/olefindesk/TradingDayOfMonthPrecedesPinLaw" (some 0) with
  accessFlags := 49
  interfaces := #[]
  cf := some (fileOf pool1 7 #[] #[{ accessFlags := 1, nameIndex := 5, descriptorIndex := 6, attributes := #[] }, { accessFlags := 10, nameIndex := 18, descriptorIndex := 19, attributes := #[] }, { accessFlags := 9, nameIndex := 32, descriptorIndex := 33, attributes := #[] }] 49 2 #[] #[{ accessFlags := 26, nameIndex := 24, descriptorIndex := 25, attributes := #[] }])
  fields := #[{ name := "BIG_MONTH", type := .long, accessFlags := 26, slot := 0, constantValue := 0 }]
  methods := #[k1m0, k1m1, k1m2]
  instanceTypes := #[]
  staticTypes := #[.long]
  resolved := Array.replicate 36 none
  statics := none }

def pool2 : Array CpInfo := pool [(1, .methodref 2 3), (0, .class_ 4), (0, .nameAndType 5 6), (0, u "java/lang/Object"), (0, u "<init>"), (0, u "()V"), (0, .class_ 8), (0, u "java/lang/Record")] 13

def k2c0 : Code := { maxStack := 1, maxLocals := 1, code := jdk_30_method_1_code, exceptionTable := #[], attributes := #[] }
def k2m0 : Method := { name := "<init>", desc := "()V", sig := { parameters := [], returnType := none }, accessFlags := 4, code := some k2c0 }
/-- java/lang/Record -/
def k2 : Class := { plain "java/lang/Record" (some 0) with
  accessFlags := 1057
  interfaces := #[]
  cf := some (fileOf pool2 7 #[] #[{ accessFlags := 4, nameIndex := 5, descriptorIndex := 6, attributes := #[] }] 1057 2 #[] #[])
  fields := #[]
  methods := #[k2m0]
  instanceTypes := #[]
  staticTypes := #[]
  resolved := Array.replicate 22 none
  statics := none }

def pool3 : Array CpInfo := pool [(1, .methodref 2 3), (0, .class_ 4), (0, .nameAndType 5 6), (0, u "java/lang/Record"), (0, u "<init>"), (0, u "()V"), (0, .fieldref 8 9), (0, .class_ 10), (0, .nameAndType 11 12), (0, u "com/example/olefin_desk/olefindesk/TradingDayOfMonth"), (0, u "n"), (0, u "I"), (0, .fieldref 8 14), (0, .nameAndType 15 16), (0, u "fromEnd"), (0, u "Z"), (2, u "(IZ)V"), (32, u "precedes"), (0, u "(Lcom/example/olefin_desk/olefindesk/TradingDayOfMonth;)Z")] 25

def k3c0 : Code := { maxStack := 2, maxLocals := 3, code := prog_31_method_1_code, exceptionTable := #[], attributes := #[] }
def k3m0 : Method := { name := "<init>", desc := "(IZ)V", sig := { parameters := [.int, .boolean], returnType := none }, accessFlags := 1, code := some k3c0 }
def k3c1 : Code := { maxStack := 2, maxLocals := 3, code := prog_31_method_5_code, exceptionTable := #[], attributes := #[] }
def k3m1 : Method := { name := "precedes", desc := "(Lcom/example/olefin_desk/olefindesk/TradingDayOfMonth;)Z", sig := { parameters := [(.object "com/example/olefin_desk/olefindesk/TradingDayOfMonth")], returnType := some .boolean }, accessFlags := 1, code := some k3c1 }
/-- com/example/olefin_desk/olefindesk/TradingDayOfMonth -/
def k3 : Class := { plain "com/example/olefin_desk/olefindesk/TradingDayOfMonth" (some 2) with
  accessFlags := 49
  interfaces := #[]
  cf := some (fileOf pool3 8 #[] #[{ accessFlags := 1, nameIndex := 5, descriptorIndex := 19, attributes := #[] }, { accessFlags := 1, nameIndex := 52, descriptorIndex := 53, attributes := #[] }] 49 2 #[] #[{ accessFlags := 18, nameIndex := 11, descriptorIndex := 12, attributes := #[] }, { accessFlags := 18, nameIndex := 15, descriptorIndex := 16, attributes := #[] }])
  fields := #[{ name := "n", type := .int, accessFlags := 18, slot := 0, constantValue := 0 }, { name := "fromEnd", type := .boolean, accessFlags := 18, slot := 1, constantValue := 0 }]
  methods := #[k3m0, k3m1]
  instanceTypes := #[.int, .boolean]
  staticTypes := #[]
  resolved := Array.replicate 79 none
  statics := none }

def pool4 : Array CpInfo := pool [(1, u "java/lang/Cloneable"), (0, .class_ 1), (0, u "java/lang/Object"), (0, .class_ 3)] 3

/-- java/lang/Cloneable -/
def k4 : Class := { plain "java/lang/Cloneable" (some 0) with
  accessFlags := 1537
  interfaces := #[]
  cf := some (fileOf pool4 2 #[] #[] 1537 4 #[] #[])
  fields := #[]
  methods := #[]
  instanceTypes := #[]
  staticTypes := #[]
  resolved := Array.replicate 8 none
  statics := none }

def pool5 : Array CpInfo := pool [(1, u "java/io/Serializable"), (0, .class_ 1), (0, u "java/lang/Object"), (0, .class_ 3)] 3

/-- java/io/Serializable -/
def k5 : Class := { plain "java/io/Serializable" (some 0) with
  accessFlags := 1537
  interfaces := #[]
  cf := some (fileOf pool5 2 #[] #[] 1537 4 #[] #[])
  fields := #[]
  methods := #[]
  instanceTypes := #[]
  staticTypes := #[]
  resolved := Array.replicate 8 none
  statics := none }

/-- the primitive byte -/
def k6 : Class := { plain "byte" none with kind := .primitive 'B', accessFlags := 0x411 }
/-- [B -/
def k7 : Class := { plain "[B" (some 0) with kind := .array 6 .byte, interfaces := #[4, 5], accessFlags := 1041 }

/-- the primitive int -/
def k8 : Class := { plain "int" none with kind := .primitive 'I', accessFlags := 0x411 }
/-- [I -/
def k9 : Class := { plain "[I" (some 0) with kind := .array 8 .int, interfaces := #[4, 5], accessFlags := 1041 }

def heap : Heap := #[]
def classes : Array Class := #[k0, k1, k2, k3, k4, k5, k6, k7, k8, k9]
def interned : List (Array UInt16 × Addr) := []
def slotsUsed : Nat := 0
def theMethod : MethodId := ⟨1, 2⟩
def args0 : Array Value := #[.int 5, .int 7, .int 1]
def aboutOver (below : List Frame) : State where
  vm := { classes := classes, interned := interned.toArray }
  heap := heap
  slotsUsed := slotsUsed
  threads := #[{ frames := .invoking theMethod args0 :: below }]
def below0 : List Frame := [.native { method := ⟨0, 0⟩, args := #[] }]
def about1 : State := aboutOver below0
def p0 : Program := .bare "" "" ""
def e0 : Env := launch0.env 0 0 0
theorem w_frames : about1.frames = Frame.invoking theMethod args0 :: below0 := rfl
set_option maxRecDepth 65536 in
theorem w_args : argsFit about1.vm theMethod args0 = true := by decide +kernel
set_option maxRecDepth 65536 in
theorem w_heap : heapFits about1 = true := by decide +kernel
set_option maxRecDepth 65536 in
theorem w_runnable : about1.curStatus? = some .runnable := by decide +kernel
set_option maxRecDepth 65536 in
theorem w_alone : about1.alone = true := by decide +kernel
set_option maxRecDepth 65536 in
theorem w_named : about1.methodNamed? x = some theMethod := by decide +kernel
set_option maxRecDepth 65536 in
theorem w_hears : about1.hears theMethod below0 = true := by decide +kernel
set_option maxRecDepth 65536 in
theorem w_ripe : about1.ripe theMethod args0 below0 = true := by decide +kernel
theorem w_running : about1.status = .running := rfl
set_option maxRecDepth 65536 in
theorem w_room : about1.hasRoom e0.platform room_1 = true :=
  launch0.hasRoom_least _ room_1 (by decide +kernel) (by decide +kernel) (by decide +kernel) (by decide +kernel) (by decide +kernel) (by decide +kernel)
theorem allAtoms_all (ts : List Jvm.Cond) (a : Array Jvm.Value) (st : Jvm.State) : (allAtoms ts).before a st = ts.all (fun c => c.before a st) := by
  induction ts with
  | nil => rfl
  | cons c t ih =>
    show (Jvm.Cond.and c (allAtoms t)).before a st = _
    rw [Jvm.Cond.before_and, ih, List.all_cons]
def words1 : List Jvm.Cond := Jvm.Cond.code x code maxLocals ret :: tables_1
/-- a 'code' word, met by the world's own term for the bytes: nothing is compared byte by byte -/
theorem code_word {y : MethodName} {bytes : ByteArray} {mx : Nat} {rt : Option FieldType} {a : Array Value} {s : State} {m : MethodId} {meth : Method} {c : Code} (h1 : s.methodNamed? y = some m) (h2 : s.vm.method? m = some meth) (h3 : meth.code = some c) (h4 : c.code = bytes)
    (h5 : (c.maxLocals == mx && c.exceptionTable.isEmpty && decide (c.maxStack ≤ mostOperands) && decide (meth.sig.returnType = rt) && !meth.locks && decide (parseMethodDescriptor y.desc = some meth.sig)) = true) : (Jvm.Cond.code y bytes mx rt).before a s = true := by
  simp only [Bool.and_eq_true, beq_iff_eq, Bool.not_eq_true', decide_eq_true_eq] at h5
  obtain ⟨⟨⟨⟨⟨g1, g2⟩, g3⟩, g4⟩, g5⟩, g6⟩ := h5
  simp [Cond.before, Cond.holds, Cond.value, h1, h2, h3, h4, g1, g2, g3, g4, g5, g6]
def isCode : Jvm.Cond → Bool
  | .code _ _ _ _ => true
  | _ => false
theorem all_split {L : List Jvm.Cond} {P : Jvm.Cond → Bool} (h1 : L.all (fun c => isCode c || P c) = true) (h2 : ∀ c ∈ L.filter isCode, P c = true) : L.all P = true := by
  refine List.all_eq_true.mpr fun c hc => ?_
  have h := List.all_eq_true.mp h1 c hc
  rcases Bool.eq_false_or_eq_true (isCode c) with hi | hi
  · exact h2 c (List.mem_filter.mpr ⟨hc, hi⟩)
  · simpa [hi] using h
set_option maxRecDepth 65536 in
theorem w_c0 : (Jvm.Cond.code x code maxLocals ret).before args0 about1 = true := code_word (m := ⟨1, 2⟩) (meth := k1m2) (c := k1c2) (by decide +kernel) rfl rfl rfl (by decide +kernel)
set_option maxRecDepth 65536 in
theorem w_c1 : (Jvm.Cond.code ({ cls := "com/example/olefin_desk/olefindesk/TradingDayOfMonth", name := "<init>", desc := "(IZ)V" } : Jvm.MethodName) prog_31_method_1_code (3 : Nat) (Option.none : Option Jvm.ClassFile.FieldType)).before args0 about1 = true := code_word (m := ⟨3, 0⟩) (meth := k3m0) (c := k3c0) (by decide +kernel) rfl rfl rfl (by decide +kernel)
set_option maxRecDepth 65536 in
theorem w_c2 : (Jvm.Cond.code ({ cls := "java/lang/Record", name := "<init>", desc := "()V" } : Jvm.MethodName) jdk_30_method_1_code (1 : Nat) (Option.none : Option Jvm.ClassFile.FieldType)).before args0 about1 = true := code_word (m := ⟨2, 0⟩) (meth := k2m0) (c := k2c0) (by decide +kernel) rfl rfl rfl (by decide +kernel)
set_option maxRecDepth 65536 in
theorem w_c3 : (Jvm.Cond.code ({ cls := "java/lang/Object", name := "<init>", desc := "()V" } : Jvm.MethodName) object_method_1_code (1 : Nat) (Option.none : Option Jvm.ClassFile.FieldType)).before args0 about1 = true := code_word (m := ⟨0, 0⟩) (meth := k0m0) (c := k0c0) (by decide +kernel) rfl rfl rfl (by decide +kernel)
set_option maxRecDepth 65536 in
theorem w_c4 : (Jvm.Cond.code ({ cls := "com/example/olefin_desk/olefindesk/TradingDayOfMonth", name := "precedes", desc := "(Lcom/example/olefin_desk/olefindesk/TradingDayOfMonth;)Z" } : Jvm.MethodName) prog_31_method_5_code (3 : Nat) (Option.some Jvm.ClassFile.FieldType.boolean)).before args0 about1 = true := code_word (m := ⟨3, 1⟩) (meth := k3m1) (c := k3c1) (by decide +kernel) rfl rfl rfl (by decide +kernel)
set_option maxRecDepth 65536 in
theorem w_c5 : (Jvm.Cond.code ({ cls := "com/example/olefin_desk/olefindesk/TradingDayOfMonthPrecedesPinLaw", name := "position", desc := "(IZ)J" } : Jvm.MethodName) method_2_code (2 : Nat) (Option.some Jvm.ClassFile.FieldType.long)).before args0 about1 = true := code_word (m := ⟨1, 1⟩) (meth := k1m1) (c := k1c1) (by decide +kernel) rfl rfl rfl (by decide +kernel)
def codes1 : List Jvm.Cond := [Jvm.Cond.code x code maxLocals ret, Jvm.Cond.code ({ cls := "com/example/olefin_desk/olefindesk/TradingDayOfMonth", name := "<init>", desc := "(IZ)V" } : Jvm.MethodName) prog_31_method_1_code (3 : Nat) (Option.none : Option Jvm.ClassFile.FieldType), Jvm.Cond.code ({ cls := "java/lang/Record", name := "<init>", desc := "()V" } : Jvm.MethodName) jdk_30_method_1_code (1 : Nat) (Option.none : Option Jvm.ClassFile.FieldType), Jvm.Cond.code ({ cls := "java/lang/Object", name := "<init>", desc := "()V" } : Jvm.MethodName) object_method_1_code (1 : Nat) (Option.none : Option Jvm.ClassFile.FieldType), Jvm.Cond.code ({ cls := "com/example/olefin_desk/olefindesk/TradingDayOfMonth", name := "precedes", desc := "(Lcom/example/olefin_desk/olefindesk/TradingDayOfMonth;)Z" } : Jvm.MethodName) prog_31_method_5_code (3 : Nat) (Option.some Jvm.ClassFile.FieldType.boolean), Jvm.Cond.code ({ cls := "com/example/olefin_desk/olefindesk/TradingDayOfMonthPrecedesPinLaw", name := "position", desc := "(IZ)J" } : Jvm.MethodName) method_2_code (2 : Nat) (Option.some Jvm.ClassFile.FieldType.long)]
set_option maxRecDepth 65536 in
theorem codes_eq : words1.filter isCode = codes1 := rfl
theorem w_codes : ∀ c ∈ words1.filter isCode, c.before args0 about1 = true := by
  rw [codes_eq]
  intro c hc
  simp only [codes1, List.mem_cons, List.not_mem_nil, or_false] at hc
  rcases hc with rfl | rfl | rfl | rfl | rfl | rfl
  · exact w_c0
  · exact w_c1
  · exact w_c2
  · exact w_c3
  · exact w_c4
  · exact w_c5
set_option maxRecDepth 65536 in
theorem w_t1 : (words1.take 24).all (fun c => isCode c || c.before args0 about1) = true := by decide +kernel
set_option maxRecDepth 65536 in
theorem w_t2 : (words1.drop 24).all (fun c => isCode c || c.before args0 about1) = true := by decide +kernel
theorem w_tables : (allAtoms (Jvm.Cond.code x code maxLocals ret :: tables_1)).before args0 about1 = true := by
  rw [allAtoms_all]
  show words1.all (fun c => c.before args0 about1) = true
  refine all_split ?_ w_codes
  rw [← List.take_append_drop 24 words1, List.all_append, w_t1, w_t2]
  rfl
set_option maxRecDepth 65536 in
theorem w_case : (Jvm.Cond.and given_1 narrow_1).before args0 about1 = true := by decide +kernel
theorem w_applies : (headSpec (Jvm.Cond.code x code maxLocals ret :: tables_1) room_1).applies x e0.platform about1 = true :=
  (Spec.applies_iff w_frames).mpr ⟨w_running, w_runnable, w_alone, w_named, w_hears, w_ripe, w_room, w_tables⟩
theorem atStart : AtStart classFile x code maxLocals ret World_1 tables_1 room_1 Calls_1 rest_1 Pre_1 launch0 p0 e0 about1 theMethod args0 below0 :=
  ⟨lists_1, trivial, launch0.admits_env _ _ _, launch0.least_env, fairChoices_fair.cas, fairChoices_fair.clock, w_frames, w_args, w_heap, w_applies, trivial, trivial, w_case⟩
end start1
theorem witness_1 : WitnessClaimed_1 := ⟨start1.p0, start1.e0, start1.about1, start1.theMethod, start1.args0, start1.below0, start1.atStart⟩
end Jvm.Pilot.@@N@@
