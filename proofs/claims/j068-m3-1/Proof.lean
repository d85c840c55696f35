import JvmDerived
import JvmDerived.Pilot.@@N@@Statement
import JvmDerived.Pilot.@@N@@Code
set_option linter.unusedVariables false
set_option linter.unusedSimpArgs false
@@BLOCK:NumsL.lean.txt@@
namespace Jvm.Pilot.@@N@@
open Jvm Jvm.ClassFile Sem Op Lib Jvm.Free Jvm.Stand Jvm.LawKit Jvm.RoadKit Bundle Jvm.Pilot.@@N@@.Jvm.D
/-! from the frame g at T the run ends in a return: Q of what is returned, the heap and the written places -/
def own_Fin (p : Program) (e : Env) (below : List Frame) (s T : State) (g : JFrame) (Q : Option Value → Heap → List Loc → Prop) (C S : Nat) : Prop :=
  ∃ s₂ o, Steps p.tables e below (T.setTop g) s₂ ∧ s₂.status = .running ∧ Ended s₂ below o ∧ ∃ v L, o = .returned v ∧ Q v s₂.heap L ∧ FrameEnd s o s₂ L C S
section Own
variable {p : Program} {l : Launch} {e : Env} {R : Room} {s : State} {m : MethodId} {args : Array Value} {below : List Frame} {meth : Method} {c : Code} {T T' : State} {g g' : JFrame} {locs : List Loc} {cells slots C S : Nat} {Q : Option Value → Heap → List Loc → Prop}
theorem own_go (h : ∀ t, Steps p.tables e below (T'.setTop g') t → Steps p.tables e below (T.setTop g) t) (k : own_Fin p e below s T' g' Q C S) : own_Fin p e below s T g Q C S := by
  obtain ⟨s2, o, h1, r⟩ := k
  exact ⟨s2, o, h _ h1, r⟩
theorem own_gt (h : Steps p.tables e below (T.setTop g) (T'.setTop g')) (k : own_Fin p e below s T' g' Q C S) : own_Fin p e below s T g Q C S := by
  obtain ⟨s2, o, h1, r⟩ := k
  exact ⟨s2, o, h.trans h1, r⟩
theorem own_end (X : Stand p l e R s m args below meth c T locs cells slots) (hnl : meth.locks = false) {v : Option Value} (hv : meth.sig.returnType = none → v = none)
    (st : ∀ fs, (∀ (f : JFrame) (acts : List Action), f.method = m → f.locked = none → f.entered = [] → (doReturn e (T.setTop f) acts v).1 = T.setFrames fs) → Steps p.tables e below (T.setTop g) (T.setFrames fs)) (hc : cells ≤ C) (hs : slots ≤ S) (hQ : Q v T.heap locs) : own_Fin p e below s T g Q C S := by
  obtain ⟨fs, hr, hrun, hended, hW, hsame⟩ := X.leave (v := v) hv hnl
  exact ⟨_, _, st fs hr, hrun, hended, _, _, rfl, hQ, ⟨_, rfl⟩, hW, hsame.mono hc hs⟩
theorem own_retZ (X : Stand p l e R s m args below meth c T locs cells slots) (hx : p.tables.exec = Jvm.exec) (hnl : meth.locks = false) {pc : Nat} {Ls : Array Slot} {z : Int32} {t : FieldType} {rest : List Value} (hret : meth.sig.returnType = some t) (ht : t = .boolean ∨ t = .byte ∨ t = .char ∨ t = .short)
    (hd : decode c.code pc = .ok (.ireturn, 1)) (hc : cells ≤ C) (hs : slots ≤ S) (hQ : Q (some (.int (nar t z))) T.heap locs) : own_Fin p e below s T (mkF m pc Ls (.int z :: rest)) Q C S :=
  own_end X hnl (fun h => by rw [hret] at h; cases h) (fun fs hr => retN X hx hret ht hd hr) hc hs hQ
theorem own_retI (X : Stand p l e R s m args below meth c T locs cells slots) (hx : p.tables.exec = Jvm.exec) (hnl : meth.locks = false) {pc : Nat} {Ls : Array Slot} {z : Int32} {rest : List Value} (hret : meth.sig.returnType = some .int)
    (hd : decode c.code pc = .ok (.ireturn, 1)) (hc : cells ≤ C) (hs : slots ≤ S) (hQ : Q (some (.int z)) T.heap locs) : own_Fin p e below s T (mkF m pc Ls (.int z :: rest)) Q C S :=
  own_end X hnl (fun h => by rw [hret] at h; cases h) (fun fs hr => by
    have hm' : T.vm.method? m = some meth := X.method'
    have hn : narrow .int (.int z) = .int z := rfl
    show Steps p.tables e below (T.setTop { method := m, pc := pc, locals := Ls, stack := _ :: rest, locked := none }) _
    jvm_step X.here [X.here.top, hx, hd, hm', hret, hn]
    first | (intro acts; rw [hr _ acts rfl rfl rfl]) | rw [hr _ _ rfl rfl rfl]
    exact Steps.refl _) hc hs hQ
theorem own_retJ (X : Stand p l e R s m args below meth c T locs cells slots) (hx : p.tables.exec = Jvm.exec) (hnl : meth.locks = false) {pc : Nat} {Ls : Array Slot} {z : Int64} (hret : meth.sig.returnType = some .long)
    (hd : decode c.code pc = .ok (.lreturn, 1)) (hc : cells ≤ C) (hs : slots ≤ S) (hQ : Q (some (.long z)) T.heap locs) : own_Fin p e below s T (mkF m pc Ls [.long z]) Q C S :=
  own_end X hnl (fun h => by rw [hret] at h; cases h) (fun fs hr => X.lreturnOut hx hret hd hr) hc hs hQ
theorem own_retV (X : Stand p l e R s m args below meth c T locs cells slots) (hx : p.tables.exec = Jvm.exec) (hnl : meth.locks = false) {pc : Nat} {Ls : Array Slot} (hret : meth.sig.returnType = none)
    (hd : decode c.code pc = .ok (.return_, 1)) (hc : cells ≤ C) (hs : slots ≤ S) (hQ : Q none T.heap locs) : own_Fin p e below s T (mkF m pc Ls []) Q C S :=
  own_end X hnl (fun _ => rfl) (fun fs hr => X.returnOut hx hret hd hr) hc hs hQ
end Own
theorem own_lt {x y : Int32} : x < y ↔ x.toInt < y.toInt := Int32.lt_iff_toInt_lt
theorem own_ltJ {x y : Int64} : x < y ↔ x.toInt < y.toInt := Int64.lt_iff_toInt_lt
theorem own_eq {x y : Int32} : x = y ↔ x.toInt = y.toInt := Int32.toInt_inj.symm
theorem own_eqJ {x y : Int64} : x = y ↔ x.toInt = y.toInt := Int64.toInt_inj.symm
theorem own_rng (x : Int32) : -2147483648 ≤ x.toInt ∧ x.toInt < 2147483648 := ⟨by have := Int32.le_toInt x; omega, by have := Int32.toInt_lt x; omega⟩
theorem own_rngJ (x : Int64) : -9223372036854775808 ≤ x.toInt ∧ x.toInt < 9223372036854775808 := ⟨by have := Int64.le_toInt x; omega, by have := Int64.toInt_lt x; omega⟩

theorem d3_0 : decode jdk_30_method_1_code 0 = .ok (.aload_n 0, 1) := by decide +kernel
theorem d3_1 : decode jdk_30_method_1_code 1 = .ok (.invokespecial 1, 3) := by decide +kernel
theorem d3_4 : decode jdk_30_method_1_code 4 = .ok (.return_, 1) := by decide +kernel
theorem pn_3 : plainName "java/lang/Record" = true := by first | (simp [plainName, overriddenIn]; done) | decide +kernel
theorem ef_3 (m : MethodId) (x0 : Addr) : entryFrame m #[(.ref x0)] 1 = mkF m 0 #[.val (.ref x0)] [] := by first | (simp [entryFrame, mkF, argsToLocals, Value.category]; done) | rfl
def Q3 (Z : State) (x0 : Addr) (h0 : Heap) (n0 : Nat) (v : Option Value) (h : Heap) (L : List Loc) : Prop := v = none ∧ Fr n0 L ∧ h = h0
set_option maxRecDepth 65536 in
set_option maxHeartbeats 40000000 in
theorem rm3 (l : Launch) (Z : State) (a0 : Array Value) (hw : ∀ d ∈ tables_1, d.before a0 Z = true) (ws : List Jvm.Cond) (x0 : Addr) (h0 : Heap) (n0 : Nat) (Z0 : n0 ≤ h0.size) :
    MetFree l (⟨"java/lang/Record", "<init>", "()V"⟩ : MethodName) (head1 (Jvm.Cond.code (⟨"java/lang/Record", "<init>", "()V"⟩ : MethodName) jdk_30_method_1_code 1 none :: ws) ({ frames := 1, cells := 0, slots := 0, locals := 12 } : Room)) (fun a U => a = #[(.ref x0)] ∧ Z.Warmed39 U.vm ∧ U.heap = h0) (fun _ _ _ _ _ => True) (fun _ U o U' => ∃ v L, o = .returned v ∧ Q3 Z x0 h0 n0 v U'.heap L ∧ FrameEnd U o U' L ({ frames := 1, cells := 0, slots := 0, locals := 12 } : Room).cells ({ frames := 1, cells := 0, slots := 0, locals := 12 } : Room).slots) := by
  refine MetFree.of_bodySF (plainFor_of_name pn_3) hisR ?_
  intro p e s m args below meth c s₁ Bd hml0 hP hK
  obtain ⟨rfl, hZ, hh⟩ := hP
  have hx := Bd.exec
  have hby := Bd.bytes
  have hret := Bd.returns
  have hnl : meth.locks = false := Bd.notSynchronized
  have hml : c.maxLocals = 1 := hml0
  have hown : s.vm.findClass "java/lang/Record" = some m.cls := findClass_of_methodNamed Bd.named
  have hnm := (name_of_methodNamed Bd.named Bd.method).1
  have X0 : Stand p l e ({ frames := 1, cells := 0, slots := 0, locals := 12 } : Room) s m #[(.ref x0)] below meth c s₁ [] 0 0 := Stand.of_body Bd
  have e0 : s₁.heap = h0 := by rw [← hh, Bd.state]; rfl
  have N0 := Fr.nil n0
  suffices key : own_Fin p e below s s₁ (mkF m 0 #[.val (.ref x0)] []) (Q3 Z x0 h0 n0) ({ frames := 1, cells := 0, slots := 0, locals := 12 } : Room).cells ({ frames := 1, cells := 0, slots := 0, locals := 12 } : Room).slots by
    obtain ⟨s2, o, h1, h2⟩ := key
    exact ⟨s2, o, castTop (ef_3 m x0) h1, h2⟩
  refine own_go (fun _ => XS.aloadN X0.here hx rfl (hb hby d3_0) rfl rfl) ?_
  show own_Fin _ _ _ _ s₁ (mkF m 1 #[.val (.ref x0)] [(.ref x0)]) _ _ _
  obtain ⟨T1, X1, e1, st1⟩ := initO X0 hx hZ hown (hw _ (List.mem_of_getElem? (i := 18) rfl)) (hw _ (List.mem_of_getElem? (i := 19) rfl)) (hw _ (List.mem_of_getElem? (i := 20) rfl)) e0 (g := (mkF m 1 #[.val (.ref x0)] [(.ref x0)])) rfl (by rw [hml]; rfl) rfl (hb hby d3_1) (by decide) (W := 0) (by show 2 * 0 + _ ≤ _; exact Nat.le_of_eq rfl) (by decide)
  refine own_go st1 ?_
  show own_Fin _ _ _ _ T1 (mkF m 4 #[.val (.ref x0)] []) _ _ _
  exact own_retV X1 hx hnl hret (hb hby d3_4) (by decide) (by decide) ⟨rfl, N0, e1⟩

theorem d2_0 : decode prog_32_method_1_code 0 = .ok (.aload_n 0, 1) := by decide +kernel
theorem d2_1 : decode prog_32_method_1_code 1 = .ok (.invokespecial 1, 3) := by decide +kernel
theorem d2_4 : decode prog_32_method_1_code 4 = .ok (.aload_n 0, 1) := by decide +kernel
theorem d2_5 : decode prog_32_method_1_code 5 = .ok (.iload_n 1, 1) := by decide +kernel
theorem d2_6 : decode prog_32_method_1_code 6 = .ok (.putfield 7, 3) := by decide +kernel
theorem d2_9 : decode prog_32_method_1_code 9 = .ok (.aload_n 0, 1) := by decide +kernel
theorem d2_10 : decode prog_32_method_1_code 10 = .ok (.iload_n 2, 1) := by decide +kernel
theorem d2_11 : decode prog_32_method_1_code 11 = .ok (.putfield 13, 3) := by decide +kernel
theorem d2_14 : decode prog_32_method_1_code 14 = .ok (.return_, 1) := by decide +kernel
theorem pd_0 : parseMethodDescriptor "()V" = some ⟨[], none⟩ := by decide +kernel
theorem pn_2 : plainName "com/example/olefin_desk/olefindesk/TradingDayOfMonth" = true := by first | (simp [plainName, overriddenIn]; done) | decide +kernel
theorem ef_2 (m : MethodId) (x0 : Addr) (x1 : Int32) (x2 : Int32) : entryFrame m #[(.ref x0), (.int x1), (.int x2)] 3 = mkF m 0 #[.val (.ref x0), .val (.int x1), .val (.int x2)] [] := by first | (simp [entryFrame, mkF, argsToLocals, Value.category]; done) | rfl
def Q2 (Z : State) (x0 : Addr) (x1 : Int32) (x2 : Int32) (u0 : Value) (u1 : Value) (h0 : Heap) (n0 : Nat) (v : Option Value) (h : Heap) (L : List Loc) : Prop := v = none ∧ Fr n0 L ∧ Keep h0 h [x0] ∧ Exa Z h x0 "com/example/olefin_desk/olefindesk/TradingDayOfMonth" ∧ Fld Z h x0 "com/example/olefin_desk/olefindesk/TradingDayOfMonth" "n" "I" (.int x1) ∧ Fld Z h x0 "com/example/olefin_desk/olefindesk/TradingDayOfMonth" "fromEnd" "Z" (.int (nar .boolean x2))
set_option maxRecDepth 65536 in
set_option maxHeartbeats 40000000 in
theorem rm2 (l : Launch) (Z : State) (a0 : Array Value) (hw : ∀ d ∈ tables_1, d.before a0 Z = true) (ws : List Jvm.Cond) (x0 : Addr) (x1 : Int32) (x2 : Int32) (u0 : Value) (u1 : Value) (h0 : Heap) (n0 : Nat) (Z0 : n0 ≤ h0.size) (E_x0 : Exa Z h0 x0 "com/example/olefin_desk/olefindesk/TradingDayOfMonth") (g_x0 : n0 ≤ x0) (F0 : Fld Z h0 x0 "com/example/olefin_desk/olefindesk/TradingDayOfMonth" "n" "I" u0) (F1 : Fld Z h0 x0 "com/example/olefin_desk/olefindesk/TradingDayOfMonth" "fromEnd" "Z" u1) :
    MetFree l (⟨"com/example/olefin_desk/olefindesk/TradingDayOfMonth", "<init>", "(IZ)V"⟩ : MethodName) (head1 (Jvm.Cond.code (⟨"com/example/olefin_desk/olefindesk/TradingDayOfMonth", "<init>", "(IZ)V"⟩ : MethodName) prog_32_method_1_code 3 none :: ws) ({ frames := 2, cells := 0, slots := 0, locals := 24 } : Room)) (fun a U => a = #[(.ref x0), (.int x1), (.int x2)] ∧ Z.Warmed39 U.vm ∧ U.heap = h0) (fun _ _ _ _ _ => True) (fun _ U o U' => ∃ v L, o = .returned v ∧ Q2 Z x0 x1 x2 u0 u1 h0 n0 v U'.heap L ∧ FrameEnd U o U' L ({ frames := 2, cells := 0, slots := 0, locals := 24 } : Room).cells ({ frames := 2, cells := 0, slots := 0, locals := 24 } : Room).slots) := by
  refine MetFree.of_bodySF (plainFor_of_name pn_2) hisR ?_
  intro p e s m args below meth c s₁ Bd hml0 hP hK
  obtain ⟨rfl, hZ, hh⟩ := hP
  have hx := Bd.exec
  have hby := Bd.bytes
  have hret := Bd.returns
  have hnl : meth.locks = false := Bd.notSynchronized
  have hml : c.maxLocals = 3 := hml0
  have hown : s.vm.findClass "com/example/olefin_desk/olefindesk/TradingDayOfMonth" = some m.cls := findClass_of_methodNamed Bd.named
  have hnm := (name_of_methodNamed Bd.named Bd.method).1
  have X0 : Stand p l e ({ frames := 2, cells := 0, slots := 0, locals := 24 } : Room) s m #[(.ref x0), (.int x1), (.int x2)] below meth c s₁ [] 0 0 := Stand.of_body Bd
  have e0 : s₁.heap = h0 := by rw [← hh, Bd.state]; rfl
  have N0 := Fr.nil n0
  suffices key : own_Fin p e below s s₁ (mkF m 0 #[.val (.ref x0), .val (.int x1), .val (.int x2)] []) (Q2 Z x0 x1 x2 u0 u1 h0 n0) ({ frames := 2, cells := 0, slots := 0, locals := 24 } : Room).cells ({ frames := 2, cells := 0, slots := 0, locals := 24 } : Room).slots by
    obtain ⟨s2, o, h1, h2⟩ := key
    exact ⟨s2, o, castTop (ef_2 m x0 x1 x2) h1, h2⟩
  refine own_go (fun _ => XS.aloadN X0.here hx rfl (hb hby d2_0) rfl rfl) ?_
  show own_Fin _ _ _ _ s₁ (mkF m 1 #[.val (.ref x0), .val (.int x1), .val (.int x2)] [(.ref x0)]) _ _ _
  obtain ⟨_, _, ⟨T1, L1, k1, n1⟩, -, X1, ⟨Lc1, hQ1, l1, y1, z1⟩, st1⟩ := X0.specialBack hx (y := (⟨"java/lang/Record", "<init>", "()V"⟩ : MethodName)) rfl hown (mvT hZ (hw _ (List.mem_of_getElem? (i := 13) rfl))) (mvT hZ (hw _ (List.mem_of_getElem? (i := 14) rfl))) (mvT hZ (hw _ (List.mem_of_getElem? (i := 17) rfl))) (by decide) (backOf (W := 0) (rm3 l Z a0 hw [] x0  h0 n0 Z0 ) hZ (hw _ (List.mem_of_getElem? (i := 17) rfl)) (hw _ (List.mem_of_getElem? (i := 16) rfl)) (by decide) (by decide)) (g := (mkF m 1 #[.val (.ref x0), .val (.int x1), .val (.int x2)] [(.ref x0)])) rfl (by rw [hml]; rfl) (Steps.refl _) (a := x0) (argsL := []) (rest := []) (lenOf pd_0 rfl) rfl (by show 2 * 0 + _ ≤ _; exact Nat.le_of_eq rfl) (hb hby d2_1) (fun _ _ => ⟨rfl, e0, (by decide : 0 + 0 ≤ _), (by decide : 0 + 0 ≤ _)⟩)
  dsimp only [Pt.U, Pt.locs, Pt.cells, Pt.slots] at X1 l1 y1 z1 st1 hQ1
  subst l1 y1 z1
  obtain ⟨rfl, N1q, e1⟩ := hQ1
  have N1 := Fr.app N0 N1q
  refine own_gt st1 ?_
  show own_Fin _ _ _ _ T1 (mkF m 4 #[.val (.ref x0), .val (.int x1), .val (.int x2)] []) _ _ _
  refine own_go (fun _ => XS.aloadN X1.here hx rfl (hb hby d2_4) rfl rfl) ?_
  show own_Fin _ _ _ _ T1 (mkF m 5 #[.val (.ref x0), .val (.int x1), .val (.int x2)] [(.ref x0)]) _ _ _
  refine own_go (fun _ => XS.iloadN X1.here hx rfl (hb hby d2_5) rfl) ?_
  show own_Fin _ _ _ _ T1 (mkF m 6 #[.val (.ref x0), .val (.int x1), .val (.int x2)] [(.int x1), (.ref x0)]) _ _ _
  obtain ⟨T2, h2, X2, e2, W2, st2⟩ := putF X1 hx hZ hown (host := "") (Or.inl (hw _ (List.mem_of_getElem? (i := 21) rfl))) Via.refl e1 F0 E_x0 (Or.inr ⟨(hw _ (List.mem_of_getElem? (i := 22) rfl)), rfl, hnm⟩) (hw _ (List.mem_of_getElem? (i := 8) rfl)) (ty := .int) (by decide) rfl rfl (g := (mkF m 6 #[.val (.ref x0), .val (.int x1), .val (.int x2)] [(.int x1), (.ref x0)])) rfl rfl (hb hby d2_6)
  have F2_x0_n := (F0).same W2
  have F2_x0_fromEnd := (F1).other W2 (Or.inr (slot_ne (Or.inr (hw _ (List.mem_of_getElem? (i := 24) rfl))) (Or.inr (hw _ (List.mem_of_getElem? (i := 22) rfl))) (by decide) (t := .boolean) (t' := .int) (by decide) (by decide)))
  have E2_x0 := (E_x0).wr W2
  have K2 : Keep h0 h2 [x0] := ((Keep.refl h0 [x0])).wr W2 (Or.inl (List.mem_of_getElem? (i := 0) rfl))
  have N2 := Fr.snoc X2 N1 g_x0
  have Z2 : n0 ≤ h2.size := Nat.le_trans Z0 (Keep.of_wr W2).1
  refine own_go st2 ?_
  show own_Fin _ _ _ _ T2 (mkF m 9 #[.val (.ref x0), .val (.int x1), .val (.int x2)] []) _ _ _
  refine own_go (fun _ => XS.aloadN X2.here hx rfl (hb hby d2_9) rfl rfl) ?_
  show own_Fin _ _ _ _ T2 (mkF m 10 #[.val (.ref x0), .val (.int x1), .val (.int x2)] [(.ref x0)]) _ _ _
  refine own_go (fun _ => XS.iloadN X2.here hx rfl (hb hby d2_10) rfl) ?_
  show own_Fin _ _ _ _ T2 (mkF m 11 #[.val (.ref x0), .val (.int x1), .val (.int x2)] [(.int x2), (.ref x0)]) _ _ _
  obtain ⟨T3, h3, X3, e3, W3, st3⟩ := putFN X2 hx hZ hown (hw _ (List.mem_of_getElem? (i := 23) rfl)) Via.refl e2 F2_x0_fromEnd E2_x0 (Or.inr ⟨(hw _ (List.mem_of_getElem? (i := 24) rfl)), rfl, hnm⟩) (hw _ (List.mem_of_getElem? (i := 8) rfl)) (ty := .boolean) (v' := .int (nar .boolean x2)) (by decide) rfl (fits_nar_bool _) (g := (mkF m 11 #[.val (.ref x0), .val (.int x1), .val (.int x2)] [(.int x2), (.ref x0)])) rfl rfl (hb hby d2_11)
  have F3_x0_n := (F2_x0_n).other W3 (Or.inr (slot_ne (Or.inr (hw _ (List.mem_of_getElem? (i := 22) rfl))) (Or.inr (hw _ (List.mem_of_getElem? (i := 24) rfl))) (by decide) (t := .int) (t' := .boolean) (by decide) (by decide)))
  have F3_x0_fromEnd := (F2_x0_fromEnd).same W3
  have E3_x0 := (E2_x0).wr W3
  have K3 : Keep h0 h3 [x0] := (K2).wr W3 (Or.inl (List.mem_of_getElem? (i := 0) rfl))
  have N3 := Fr.snoc X3 N2 g_x0
  have Z3 : n0 ≤ h3.size := Nat.le_trans Z2 (Keep.of_wr W3).1
  refine own_go st3 ?_
  show own_Fin _ _ _ _ T3 (mkF m 14 #[.val (.ref x0), .val (.int x1), .val (.int x2)] []) _ _ _
  exact own_retV X3 hx hnl hret (hb hby d2_14) (by decide) (by decide) ⟨rfl, N3, by rw [e3]; exact K3, by rw [e3]; exact E3_x0, by rw [e3]; exact F3_x0_n, by rw [e3]; exact F3_x0_fromEnd⟩

theorem d5_0 : decode prog_3_method_1_code 0 = .ok (.aload_n 0, 1) := by decide +kernel
theorem d5_1 : decode prog_3_method_1_code 1 = .ok (.invokespecial 1, 3) := by decide +kernel
theorem d5_4 : decode prog_3_method_1_code 4 = .ok (.aload_n 0, 1) := by decide +kernel
theorem d5_5 : decode prog_3_method_1_code 5 = .ok (.iload_n 1, 1) := by decide +kernel
theorem d5_6 : decode prog_3_method_1_code 6 = .ok (.putfield 7, 3) := by decide +kernel
theorem d5_9 : decode prog_3_method_1_code 9 = .ok (.aload_n 0, 1) := by decide +kernel
theorem d5_10 : decode prog_3_method_1_code 10 = .ok (.aload_n 2, 1) := by decide +kernel
theorem d5_11 : decode prog_3_method_1_code 11 = .ok (.putfield 13, 3) := by decide +kernel
theorem d5_14 : decode prog_3_method_1_code 14 = .ok (.return_, 1) := by decide +kernel
theorem pn_5 : plainName "com/example/olefin_desk/olefindesk/ContractDay" = true := by first | (simp [plainName, overriddenIn]; done) | decide +kernel
theorem ef_5 (m : MethodId) (x0 : Addr) (x1 : Int32) (x2 : Addr) : entryFrame m #[(.ref x0), (.int x1), (.ref x2)] 3 = mkF m 0 #[.val (.ref x0), .val (.int x1), .val (.ref x2)] [] := by first | (simp [entryFrame, mkF, argsToLocals, Value.category]; done) | rfl
def Q5 (Z : State) (x0 : Addr) (x1 : Int32) (x2 : Addr) (u0 : Value) (u1 : Value) (h0 : Heap) (n0 : Nat) (v : Option Value) (h : Heap) (L : List Loc) : Prop := v = none ∧ Fr n0 L ∧ Keep h0 h [x0] ∧ Exa Z h x0 "com/example/olefin_desk/olefindesk/ContractDay" ∧ Fld Z h x0 "com/example/olefin_desk/olefindesk/ContractDay" "monthsBeforeDelivery" "I" (.int x1) ∧ Fld Z h x0 "com/example/olefin_desk/olefindesk/ContractDay" "day" "Lcom/example/olefin_desk/olefindesk/TradingDayOfMonth;" (.ref x2)
set_option maxRecDepth 65536 in
set_option maxHeartbeats 40000000 in
theorem rm5 (l : Launch) (Z : State) (a0 : Array Value) (hw : ∀ d ∈ tables_1, d.before a0 Z = true) (ws : List Jvm.Cond) (x0 : Addr) (x1 : Int32) (x2 : Addr) (u0 : Value) (u1 : Value) (h0 : Heap) (n0 : Nat) (Z0 : n0 ≤ h0.size) (E_x0 : Exa Z h0 x0 "com/example/olefin_desk/olefindesk/ContractDay") (g_x0 : n0 ≤ x0) (F0 : Fld Z h0 x0 "com/example/olefin_desk/olefindesk/ContractDay" "monthsBeforeDelivery" "I" u0) (F1 : Fld Z h0 x0 "com/example/olefin_desk/olefindesk/ContractDay" "day" "Lcom/example/olefin_desk/olefindesk/TradingDayOfMonth;" u1) :
    MetFree l (⟨"com/example/olefin_desk/olefindesk/ContractDay", "<init>", "(ILcom/example/olefin_desk/olefindesk/TradingDayOfMonth;)V"⟩ : MethodName) (head1 (Jvm.Cond.code (⟨"com/example/olefin_desk/olefindesk/ContractDay", "<init>", "(ILcom/example/olefin_desk/olefindesk/TradingDayOfMonth;)V"⟩ : MethodName) prog_3_method_1_code 3 none :: ws) ({ frames := 2, cells := 0, slots := 0, locals := 24 } : Room)) (fun a U => a = #[(.ref x0), (.int x1), (.ref x2)] ∧ Z.Warmed39 U.vm ∧ U.heap = h0) (fun _ _ _ _ _ => True) (fun _ U o U' => ∃ v L, o = .returned v ∧ Q5 Z x0 x1 x2 u0 u1 h0 n0 v U'.heap L ∧ FrameEnd U o U' L ({ frames := 2, cells := 0, slots := 0, locals := 24 } : Room).cells ({ frames := 2, cells := 0, slots := 0, locals := 24 } : Room).slots) := by
  refine MetFree.of_bodySF (plainFor_of_name pn_5) hisR ?_
  intro p e s m args below meth c s₁ Bd hml0 hP hK
  obtain ⟨rfl, hZ, hh⟩ := hP
  have hx := Bd.exec
  have hby := Bd.bytes
  have hret := Bd.returns
  have hnl : meth.locks = false := Bd.notSynchronized
  have hml : c.maxLocals = 3 := hml0
  have hown : s.vm.findClass "com/example/olefin_desk/olefindesk/ContractDay" = some m.cls := findClass_of_methodNamed Bd.named
  have hnm := (name_of_methodNamed Bd.named Bd.method).1
  have X0 : Stand p l e ({ frames := 2, cells := 0, slots := 0, locals := 24 } : Room) s m #[(.ref x0), (.int x1), (.ref x2)] below meth c s₁ [] 0 0 := Stand.of_body Bd
  have e0 : s₁.heap = h0 := by rw [← hh, Bd.state]; rfl
  have N0 := Fr.nil n0
  suffices key : own_Fin p e below s s₁ (mkF m 0 #[.val (.ref x0), .val (.int x1), .val (.ref x2)] []) (Q5 Z x0 x1 x2 u0 u1 h0 n0) ({ frames := 2, cells := 0, slots := 0, locals := 24 } : Room).cells ({ frames := 2, cells := 0, slots := 0, locals := 24 } : Room).slots by
    obtain ⟨s2, o, h1, h2⟩ := key
    exact ⟨s2, o, castTop (ef_5 m x0 x1 x2) h1, h2⟩
  refine own_go (fun _ => XS.aloadN X0.here hx rfl (hb hby d5_0) rfl rfl) ?_
  show own_Fin _ _ _ _ s₁ (mkF m 1 #[.val (.ref x0), .val (.int x1), .val (.ref x2)] [(.ref x0)]) _ _ _
  obtain ⟨_, _, ⟨T1, L1, k1, n1⟩, -, X1, ⟨Lc1, hQ1, l1, y1, z1⟩, st1⟩ := X0.specialBack hx (y := (⟨"java/lang/Record", "<init>", "()V"⟩ : MethodName)) rfl hown (mvT hZ (hw _ (List.mem_of_getElem? (i := 28) rfl))) (mvT hZ (hw _ (List.mem_of_getElem? (i := 14) rfl))) (mvT hZ (hw _ (List.mem_of_getElem? (i := 17) rfl))) (by decide) (backOf (W := 0) (rm3 l Z a0 hw [] x0  h0 n0 Z0 ) hZ (hw _ (List.mem_of_getElem? (i := 17) rfl)) (hw _ (List.mem_of_getElem? (i := 16) rfl)) (by decide) (by decide)) (g := (mkF m 1 #[.val (.ref x0), .val (.int x1), .val (.ref x2)] [(.ref x0)])) rfl (by rw [hml]; rfl) (Steps.refl _) (a := x0) (argsL := []) (rest := []) (lenOf pd_0 rfl) rfl (by show 2 * 0 + _ ≤ _; exact Nat.le_of_eq rfl) (hb hby d5_1) (fun _ _ => ⟨rfl, e0, (by decide : 0 + 0 ≤ _), (by decide : 0 + 0 ≤ _)⟩)
  dsimp only [Pt.U, Pt.locs, Pt.cells, Pt.slots] at X1 l1 y1 z1 st1 hQ1
  subst l1 y1 z1
  obtain ⟨rfl, N1q, e1⟩ := hQ1
  have N1 := Fr.app N0 N1q
  refine own_gt st1 ?_
  show own_Fin _ _ _ _ T1 (mkF m 4 #[.val (.ref x0), .val (.int x1), .val (.ref x2)] []) _ _ _
  refine own_go (fun _ => XS.aloadN X1.here hx rfl (hb hby d5_4) rfl rfl) ?_
  show own_Fin _ _ _ _ T1 (mkF m 5 #[.val (.ref x0), .val (.int x1), .val (.ref x2)] [(.ref x0)]) _ _ _
  refine own_go (fun _ => XS.iloadN X1.here hx rfl (hb hby d5_5) rfl) ?_
  show own_Fin _ _ _ _ T1 (mkF m 6 #[.val (.ref x0), .val (.int x1), .val (.ref x2)] [(.int x1), (.ref x0)]) _ _ _
  obtain ⟨T2, h2, X2, e2, W2, st2⟩ := putF X1 hx hZ hown (host := "") (Or.inl (hw _ (List.mem_of_getElem? (i := 29) rfl))) Via.refl e1 F0 E_x0 (Or.inr ⟨(hw _ (List.mem_of_getElem? (i := 30) rfl)), rfl, hnm⟩) (hw _ (List.mem_of_getElem? (i := 5) rfl)) (ty := .int) (by decide) rfl rfl (g := (mkF m 6 #[.val (.ref x0), .val (.int x1), .val (.ref x2)] [(.int x1), (.ref x0)])) rfl rfl (hb hby d5_6)
  have F2_x0_monthsBeforeDelivery := (F0).same W2
  have F2_x0_day := (F1).other W2 (Or.inr (slot_ne (Or.inr (hw _ (List.mem_of_getElem? (i := 32) rfl))) (Or.inr (hw _ (List.mem_of_getElem? (i := 30) rfl))) (by decide) (t := (.object "com/example/olefin_desk/olefindesk/TradingDayOfMonth")) (t' := .int) (by decide) (by decide)))
  have E2_x0 := (E_x0).wr W2
  have K2 : Keep h0 h2 [x0] := ((Keep.refl h0 [x0])).wr W2 (Or.inl (List.mem_of_getElem? (i := 0) rfl))
  have N2 := Fr.snoc X2 N1 g_x0
  have Z2 : n0 ≤ h2.size := Nat.le_trans Z0 (Keep.of_wr W2).1
  refine own_go st2 ?_
  show own_Fin _ _ _ _ T2 (mkF m 9 #[.val (.ref x0), .val (.int x1), .val (.ref x2)] []) _ _ _
  refine own_go (fun _ => XS.aloadN X2.here hx rfl (hb hby d5_9) rfl rfl) ?_
  show own_Fin _ _ _ _ T2 (mkF m 10 #[.val (.ref x0), .val (.int x1), .val (.ref x2)] [(.ref x0)]) _ _ _
  refine own_go (fun _ => XS.aloadN X2.here hx rfl (hb hby d5_10) rfl rfl) ?_
  show own_Fin _ _ _ _ T2 (mkF m 11 #[.val (.ref x0), .val (.int x1), .val (.ref x2)] [(.ref x2), (.ref x0)]) _ _ _
  obtain ⟨T3, h3, X3, e3, W3, st3⟩ := putF X2 hx hZ hown (host := "") (Or.inl (hw _ (List.mem_of_getElem? (i := 31) rfl))) Via.refl e2 F2_x0_day E2_x0 (Or.inr ⟨(hw _ (List.mem_of_getElem? (i := 32) rfl)), rfl, hnm⟩) (hw _ (List.mem_of_getElem? (i := 5) rfl)) (ty := (.object "com/example/olefin_desk/olefindesk/TradingDayOfMonth")) (by decide) rfl rfl (g := (mkF m 11 #[.val (.ref x0), .val (.int x1), .val (.ref x2)] [(.ref x2), (.ref x0)])) rfl rfl (hb hby d5_11)
  have F3_x0_monthsBeforeDelivery := (F2_x0_monthsBeforeDelivery).other W3 (Or.inr (slot_ne (Or.inr (hw _ (List.mem_of_getElem? (i := 30) rfl))) (Or.inr (hw _ (List.mem_of_getElem? (i := 32) rfl))) (by decide) (t := .int) (t' := (.object "com/example/olefin_desk/olefindesk/TradingDayOfMonth")) (by decide) (by decide)))
  have F3_x0_day := (F2_x0_day).same W3
  have E3_x0 := (E2_x0).wr W3
  have K3 : Keep h0 h3 [x0] := (K2).wr W3 (Or.inl (List.mem_of_getElem? (i := 0) rfl))
  have N3 := Fr.snoc X3 N2 g_x0
  have Z3 : n0 ≤ h3.size := Nat.le_trans Z2 (Keep.of_wr W3).1
  refine own_go st3 ?_
  show own_Fin _ _ _ _ T3 (mkF m 14 #[.val (.ref x0), .val (.int x1), .val (.ref x2)] []) _ _ _
  exact own_retV X3 hx hnl hret (hb hby d5_14) (by decide) (by decide) ⟨rfl, N3, by rw [e3]; exact K3, by rw [e3]; exact E3_x0, by rw [e3]; exact F3_x0_monthsBeforeDelivery, by rw [e3]; exact F3_x0_day⟩

def own_prec (e1 e2 n1 n2 : Int32) : Int32 := if e1 = e2 then (if e1 = 0 then (if n1 < n2 then 1 else 0) else (if n2 < n1 then 1 else 0)) else 0
theorem d8_0 : decode prog_32_method_5_code 0 = .ok (.aload_n 0, 1) := by decide +kernel
theorem d8_1 : decode prog_32_method_5_code 1 = .ok (.getfield 13, 3) := by decide +kernel
theorem d8_4 : decode prog_32_method_5_code 4 = .ok (.aload_n 1, 1) := by decide +kernel
theorem d8_5 : decode prog_32_method_5_code 5 = .ok (.getfield 13, 3) := by decide +kernel
theorem d8_8 : decode prog_32_method_5_code 8 = .ok (.if_icmp .eq 8, 3) := by decide +kernel
theorem d8_11 : decode prog_32_method_5_code 11 = .ok (.iconst 0, 1) := by decide +kernel
theorem d8_12 : decode prog_32_method_5_code 12 = .ok (.istore_n 2, 1) := by decide +kernel
theorem d8_13 : decode prog_32_method_5_code 13 = .ok (.goto 47, 3) := by decide +kernel
theorem d8_16 : decode prog_32_method_5_code 16 = .ok (.aload_n 0, 1) := by decide +kernel
theorem d8_17 : decode prog_32_method_5_code 17 = .ok (.getfield 13, 3) := by decide +kernel
theorem d8_20 : decode prog_32_method_5_code 20 = .ok (.ifCond .eq 23, 3) := by decide +kernel
theorem d8_23 : decode prog_32_method_5_code 23 = .ok (.aload_n 0, 1) := by decide +kernel
theorem d8_24 : decode prog_32_method_5_code 24 = .ok (.getfield 7, 3) := by decide +kernel
theorem d8_27 : decode prog_32_method_5_code 27 = .ok (.aload_n 1, 1) := by decide +kernel
theorem d8_28 : decode prog_32_method_5_code 28 = .ok (.getfield 7, 3) := by decide +kernel
theorem d8_31 : decode prog_32_method_5_code 31 = .ok (.if_icmp .le 7, 3) := by decide +kernel
theorem d8_34 : decode prog_32_method_5_code 34 = .ok (.iconst 1, 1) := by decide +kernel
theorem d8_35 : decode prog_32_method_5_code 35 = .ok (.goto 4, 3) := by decide +kernel
theorem d8_38 : decode prog_32_method_5_code 38 = .ok (.iconst 0, 1) := by decide +kernel
theorem d8_39 : decode prog_32_method_5_code 39 = .ok (.istore_n 2, 1) := by decide +kernel
theorem d8_40 : decode prog_32_method_5_code 40 = .ok (.goto 20, 3) := by decide +kernel
theorem d8_43 : decode prog_32_method_5_code 43 = .ok (.aload_n 0, 1) := by decide +kernel
theorem d8_44 : decode prog_32_method_5_code 44 = .ok (.getfield 7, 3) := by decide +kernel
theorem d8_47 : decode prog_32_method_5_code 47 = .ok (.aload_n 1, 1) := by decide +kernel
theorem d8_48 : decode prog_32_method_5_code 48 = .ok (.getfield 7, 3) := by decide +kernel
theorem d8_51 : decode prog_32_method_5_code 51 = .ok (.if_icmp .ge 7, 3) := by decide +kernel
theorem d8_54 : decode prog_32_method_5_code 54 = .ok (.iconst 1, 1) := by decide +kernel
theorem d8_55 : decode prog_32_method_5_code 55 = .ok (.goto 4, 3) := by decide +kernel
theorem d8_58 : decode prog_32_method_5_code 58 = .ok (.iconst 0, 1) := by decide +kernel
theorem d8_59 : decode prog_32_method_5_code 59 = .ok (.istore_n 2, 1) := by decide +kernel
theorem d8_60 : decode prog_32_method_5_code 60 = .ok (.iload_n 2, 1) := by decide +kernel
theorem d8_61 : decode prog_32_method_5_code 61 = .ok (.ireturn, 1) := by decide +kernel
theorem pn_8 : plainName "com/example/olefin_desk/olefindesk/TradingDayOfMonth" = true := by first | (simp [plainName, overriddenIn]; done) | decide +kernel
theorem ef_8 (m : MethodId) (x0 : Addr) (x1 : Addr) : entryFrame m #[(.ref x0), (.ref x1)] 3 = mkF m 0 #[.val (.ref x0), .val (.ref x1), .unset] [] := by first | (simp [entryFrame, mkF, argsToLocals, Value.category]; done) | rfl
def Q8 (Z : State) (x0 : Addr) (x1 : Addr) (fe1 : Int32) (fe2 : Int32) (nn1 : Int32) (nn2 : Int32) (h0 : Heap) (n0 : Nat) (v : Option Value) (h : Heap) (L : List Loc) : Prop := v = some (.int (own_prec fe1 fe2 nn1 nn2)) ∧ Fr n0 L ∧ h = h0
set_option maxRecDepth 65536 in
set_option maxHeartbeats 40000000 in
theorem rm8 (l : Launch) (Z : State) (a0 : Array Value) (hw : ∀ d ∈ tables_1, d.before a0 Z = true) (ws : List Jvm.Cond) (x0 : Addr) (x1 : Addr) (fe1 : Int32) (fe2 : Int32) (nn1 : Int32) (nn2 : Int32) (h0 : Heap) (n0 : Nat) (Z0 : n0 ≤ h0.size) (F0 : Fld Z h0 x0 "com/example/olefin_desk/olefindesk/TradingDayOfMonth" "n" "I" (.int nn1)) (F1 : Fld Z h0 x0 "com/example/olefin_desk/olefindesk/TradingDayOfMonth" "fromEnd" "Z" (.int fe1)) (F2 : Fld Z h0 x1 "com/example/olefin_desk/olefindesk/TradingDayOfMonth" "n" "I" (.int nn2)) (F3 : Fld Z h0 x1 "com/example/olefin_desk/olefindesk/TradingDayOfMonth" "fromEnd" "Z" (.int fe2)) :
    MetFree l (⟨"com/example/olefin_desk/olefindesk/TradingDayOfMonth", "precedes", "(Lcom/example/olefin_desk/olefindesk/TradingDayOfMonth;)Z"⟩ : MethodName) (head1 (Jvm.Cond.code (⟨"com/example/olefin_desk/olefindesk/TradingDayOfMonth", "precedes", "(Lcom/example/olefin_desk/olefindesk/TradingDayOfMonth;)Z"⟩ : MethodName) prog_32_method_5_code 3 (some .boolean) :: ws) ({ frames := 0, cells := 0, slots := 0, locals := 0 } : Room)) (fun a U => a = #[(.ref x0), (.ref x1)] ∧ Z.Warmed39 U.vm ∧ U.heap = h0) (fun _ _ _ _ _ => True) (fun _ U o U' => ∃ v L, o = .returned v ∧ Q8 Z x0 x1 fe1 fe2 nn1 nn2 h0 n0 v U'.heap L ∧ FrameEnd U o U' L ({ frames := 0, cells := 0, slots := 0, locals := 0 } : Room).cells ({ frames := 0, cells := 0, slots := 0, locals := 0 } : Room).slots) := by
  refine MetFree.of_bodySF (plainFor_of_name pn_8) hisR ?_
  intro p e s m args below meth c s₁ Bd hml0 hP hK
  obtain ⟨rfl, hZ, hh⟩ := hP
  have hx := Bd.exec
  have hby := Bd.bytes
  have hret := Bd.returns
  have hnl : meth.locks = false := Bd.notSynchronized
  have hml : c.maxLocals = 3 := hml0
  have hown : s.vm.findClass "com/example/olefin_desk/olefindesk/TradingDayOfMonth" = some m.cls := findClass_of_methodNamed Bd.named
  have hnm := (name_of_methodNamed Bd.named Bd.method).1
  have X0 : Stand p l e ({ frames := 0, cells := 0, slots := 0, locals := 0 } : Room) s m #[(.ref x0), (.ref x1)] below meth c s₁ [] 0 0 := Stand.of_body Bd
  have e0 : s₁.heap = h0 := by rw [← hh, Bd.state]; rfl
  have N0 := Fr.nil n0
  suffices key : own_Fin p e below s s₁ (mkF m 0 #[.val (.ref x0), .val (.ref x1), .unset] []) (Q8 Z x0 x1 fe1 fe2 nn1 nn2 h0 n0) ({ frames := 0, cells := 0, slots := 0, locals := 0 } : Room).cells ({ frames := 0, cells := 0, slots := 0, locals := 0 } : Room).slots by
    obtain ⟨s2, o, h1, h2⟩ := key
    exact ⟨s2, o, castTop (ef_8 m x0 x1) h1, h2⟩
  refine own_go (fun _ => XS.aloadN X0.here hx rfl (hb hby d8_0) rfl rfl) ?_
  show own_Fin _ _ _ _ s₁ (mkF m 1 #[.val (.ref x0), .val (.ref x1), .unset] [(.ref x0)]) _ _ _
  obtain ⟨T1, X1, e1, st1⟩ := getF X0 hx hZ hown (host := "") (Or.inl (hw _ (List.mem_of_getElem? (i := 23) rfl))) Via.refl e0 F1 (g := (mkF m 1 #[.val (.ref x0), .val (.ref x1), .unset] [(.ref x0)])) rfl rfl (hb hby d8_1)
  refine own_go st1 ?_
  show own_Fin _ _ _ _ T1 (mkF m 4 #[.val (.ref x0), .val (.ref x1), .unset] [(.int fe1)]) _ _ _
  refine own_go (fun _ => XS.aloadN X1.here hx rfl (hb hby d8_4) rfl rfl) ?_
  show own_Fin _ _ _ _ T1 (mkF m 5 #[.val (.ref x0), .val (.ref x1), .unset] [(.ref x1), (.int fe1)]) _ _ _
  obtain ⟨T2, X2, e2, st2⟩ := getF X1 hx hZ hown (host := "") (Or.inl (hw _ (List.mem_of_getElem? (i := 23) rfl))) Via.refl e1 F3 (g := (mkF m 5 #[.val (.ref x0), .val (.ref x1), .unset] [(.ref x1), (.int fe1)])) rfl rfl (hb hby d8_5)
  refine own_go st2 ?_
  show own_Fin _ _ _ _ T2 (mkF m 8 #[.val (.ref x0), .val (.ref x1), .unset] [(.int fe2), (.int fe1)]) _ _ _
  by_cases h8 : fe1 = fe2
  · refine own_go (fun _ => XS.icmpYes X2.here hx rfl (pc0 := 8) (pc' := 16) rfl (hb hby d8_8) rfl (teq h8).1 (by decide) (by decide)) ?_
    show own_Fin _ _ _ _ T2 (mkF m 16 #[.val (.ref x0), .val (.ref x1), .unset] []) _ _ _
    refine own_go (fun _ => XS.aloadN X2.here hx rfl (hb hby d8_16) rfl rfl) ?_
    show own_Fin _ _ _ _ T2 (mkF m 17 #[.val (.ref x0), .val (.ref x1), .unset] [(.ref x0)]) _ _ _
    obtain ⟨T3, X3, e3, st3⟩ := getF X2 hx hZ hown (host := "") (Or.inl (hw _ (List.mem_of_getElem? (i := 23) rfl))) Via.refl e2 F1 (g := (mkF m 17 #[.val (.ref x0), .val (.ref x1), .unset] [(.ref x0)])) rfl rfl (hb hby d8_17)
    refine own_go st3 ?_
    show own_Fin _ _ _ _ T3 (mkF m 20 #[.val (.ref x0), .val (.ref x1), .unset] [(.int fe1)]) _ _ _
    by_cases h20 : fe1 = (0 : Int32)
    · refine own_go (fun _ => XS.ifYes X3.here hx rfl (pc0 := 20) (pc' := 43) rfl (hb hby d8_20) rfl ((if0 _ _).trans (teq h20).1) (by decide) (by decide)) ?_
      show own_Fin _ _ _ _ T3 (mkF m 43 #[.val (.ref x0), .val (.ref x1), .unset] []) _ _ _
      refine own_go (fun _ => XS.aloadN X3.here hx rfl (hb hby d8_43) rfl rfl) ?_
      show own_Fin _ _ _ _ T3 (mkF m 44 #[.val (.ref x0), .val (.ref x1), .unset] [(.ref x0)]) _ _ _
      obtain ⟨T4, X4, e4, st4⟩ := getF X3 hx hZ hown (host := "") (Or.inl (hw _ (List.mem_of_getElem? (i := 21) rfl))) Via.refl e3 F0 (g := (mkF m 44 #[.val (.ref x0), .val (.ref x1), .unset] [(.ref x0)])) rfl rfl (hb hby d8_44)
      refine own_go st4 ?_
      show own_Fin _ _ _ _ T4 (mkF m 47 #[.val (.ref x0), .val (.ref x1), .unset] [(.int nn1)]) _ _ _
      refine own_go (fun _ => XS.aloadN X4.here hx rfl (hb hby d8_47) rfl rfl) ?_
      show own_Fin _ _ _ _ T4 (mkF m 48 #[.val (.ref x0), .val (.ref x1), .unset] [(.ref x1), (.int nn1)]) _ _ _
      obtain ⟨T5, X5, e5, st5⟩ := getF X4 hx hZ hown (host := "") (Or.inl (hw _ (List.mem_of_getElem? (i := 21) rfl))) Via.refl e4 F2 (g := (mkF m 48 #[.val (.ref x0), .val (.ref x1), .unset] [(.ref x1), (.int nn1)])) rfl rfl (hb hby d8_48)
      refine own_go st5 ?_
      show own_Fin _ _ _ _ T5 (mkF m 51 #[.val (.ref x0), .val (.ref x1), .unset] [(.int nn2), (.int nn1)]) _ _ _
      by_cases h51 : nn1 < nn2
      · refine own_go (fun _ => XS.icmpNo X5.here hx rfl (hb hby d8_51) rfl (tlt h51).2.1) ?_
        show own_Fin _ _ _ _ T5 (mkF m 54 #[.val (.ref x0), .val (.ref x1), .unset] []) _ _ _
        refine own_go (fun _ => XS.iconst X5.here hx rfl (hb hby d8_54)) ?_
        show own_Fin _ _ _ _ T5 (mkF m 55 #[.val (.ref x0), .val (.ref x1), .unset] [(.int (1 : Int32))]) _ _ _
        refine own_go (fun _ => XS.goto X5.here hx rfl (pc0 := 55) (pc' := 59) rfl (hb hby d8_55) (by decide) (by decide)) ?_
        show own_Fin _ _ _ _ T5 (mkF m 59 #[.val (.ref x0), .val (.ref x1), .unset] [(.int (1 : Int32))]) _ _ _
        refine own_go (fun _ => XS.istoreN X5.here hx rfl (hb hby d8_59) rfl (l' := #[.val (.ref x0), .val (.ref x1), .val (.int (1 : Int32))]) rfl) ?_
        show own_Fin _ _ _ _ T5 (mkF m 60 #[.val (.ref x0), .val (.ref x1), .val (.int (1 : Int32))] []) _ _ _
        refine own_go (fun _ => XS.iloadN X5.here hx rfl (hb hby d8_60) rfl) ?_
        show own_Fin _ _ _ _ T5 (mkF m 61 #[.val (.ref x0), .val (.ref x1), .val (.int (1 : Int32))] [(.int (1 : Int32))]) _ _ _
        exact own_retZ X5 hx hnl (t := .boolean) hret (by simp) (hb hby d8_61) (by decide) (by decide) ⟨congrArg (fun z => some (Value.int z)) (show ((1 : Int32) : Int32) = own_prec fe1 fe2 nn1 nn2 from by simp only [own_prec, if_pos h8, if_pos h20, if_pos h51]), N0, e5⟩
      · refine own_go (fun _ => XS.icmpYes X5.here hx rfl (pc0 := 51) (pc' := 58) rfl (hb hby d8_51) rfl (flt h51).2.1 (by decide) (by decide)) ?_
        show own_Fin _ _ _ _ T5 (mkF m 58 #[.val (.ref x0), .val (.ref x1), .unset] []) _ _ _
        refine own_go (fun _ => XS.iconst X5.here hx rfl (hb hby d8_58)) ?_
        show own_Fin _ _ _ _ T5 (mkF m 59 #[.val (.ref x0), .val (.ref x1), .unset] [(.int (0 : Int32))]) _ _ _
        refine own_go (fun _ => XS.istoreN X5.here hx rfl (hb hby d8_59) rfl (l' := #[.val (.ref x0), .val (.ref x1), .val (.int (0 : Int32))]) rfl) ?_
        show own_Fin _ _ _ _ T5 (mkF m 60 #[.val (.ref x0), .val (.ref x1), .val (.int (0 : Int32))] []) _ _ _
        refine own_go (fun _ => XS.iloadN X5.here hx rfl (hb hby d8_60) rfl) ?_
        show own_Fin _ _ _ _ T5 (mkF m 61 #[.val (.ref x0), .val (.ref x1), .val (.int (0 : Int32))] [(.int (0 : Int32))]) _ _ _
        exact own_retZ X5 hx hnl (t := .boolean) hret (by simp) (hb hby d8_61) (by decide) (by decide) ⟨congrArg (fun z => some (Value.int z)) (show ((0 : Int32) : Int32) = own_prec fe1 fe2 nn1 nn2 from by simp only [own_prec, if_pos h8, if_pos h20, if_neg h51]), N0, e5⟩
    · refine own_go (fun _ => XS.ifNo X3.here hx rfl (hb hby d8_20) rfl ((if0 _ _).trans (feq h20).1)) ?_
      show own_Fin _ _ _ _ T3 (mkF m 23 #[.val (.ref x0), .val (.ref x1), .unset] []) _ _ _
      refine own_go (fun _ => XS.aloadN X3.here hx rfl (hb hby d8_23) rfl rfl) ?_
      show own_Fin _ _ _ _ T3 (mkF m 24 #[.val (.ref x0), .val (.ref x1), .unset] [(.ref x0)]) _ _ _
      obtain ⟨T6, X6, e6, st6⟩ := getF X3 hx hZ hown (host := "") (Or.inl (hw _ (List.mem_of_getElem? (i := 21) rfl))) Via.refl e3 F0 (g := (mkF m 24 #[.val (.ref x0), .val (.ref x1), .unset] [(.ref x0)])) rfl rfl (hb hby d8_24)
      refine own_go st6 ?_
      show own_Fin _ _ _ _ T6 (mkF m 27 #[.val (.ref x0), .val (.ref x1), .unset] [(.int nn1)]) _ _ _
      refine own_go (fun _ => XS.aloadN X6.here hx rfl (hb hby d8_27) rfl rfl) ?_
      show own_Fin _ _ _ _ T6 (mkF m 28 #[.val (.ref x0), .val (.ref x1), .unset] [(.ref x1), (.int nn1)]) _ _ _
      obtain ⟨T7, X7, e7, st7⟩ := getF X6 hx hZ hown (host := "") (Or.inl (hw _ (List.mem_of_getElem? (i := 21) rfl))) Via.refl e6 F2 (g := (mkF m 28 #[.val (.ref x0), .val (.ref x1), .unset] [(.ref x1), (.int nn1)])) rfl rfl (hb hby d8_28)
      refine own_go st7 ?_
      show own_Fin _ _ _ _ T7 (mkF m 31 #[.val (.ref x0), .val (.ref x1), .unset] [(.int nn2), (.int nn1)]) _ _ _
      by_cases h31 : nn2 < nn1
      · refine own_go (fun _ => XS.icmpNo X7.here hx rfl (hb hby d8_31) rfl (tlt h31).2.2.2) ?_
        show own_Fin _ _ _ _ T7 (mkF m 34 #[.val (.ref x0), .val (.ref x1), .unset] []) _ _ _
        refine own_go (fun _ => XS.iconst X7.here hx rfl (hb hby d8_34)) ?_
        show own_Fin _ _ _ _ T7 (mkF m 35 #[.val (.ref x0), .val (.ref x1), .unset] [(.int (1 : Int32))]) _ _ _
        refine own_go (fun _ => XS.goto X7.here hx rfl (pc0 := 35) (pc' := 39) rfl (hb hby d8_35) (by decide) (by decide)) ?_
        show own_Fin _ _ _ _ T7 (mkF m 39 #[.val (.ref x0), .val (.ref x1), .unset] [(.int (1 : Int32))]) _ _ _
        refine own_go (fun _ => XS.istoreN X7.here hx rfl (hb hby d8_39) rfl (l' := #[.val (.ref x0), .val (.ref x1), .val (.int (1 : Int32))]) rfl) ?_
        show own_Fin _ _ _ _ T7 (mkF m 40 #[.val (.ref x0), .val (.ref x1), .val (.int (1 : Int32))] []) _ _ _
        refine own_go (fun _ => XS.goto X7.here hx rfl (pc0 := 40) (pc' := 60) rfl (hb hby d8_40) (by decide) (by decide)) ?_
        show own_Fin _ _ _ _ T7 (mkF m 60 #[.val (.ref x0), .val (.ref x1), .val (.int (1 : Int32))] []) _ _ _
        refine own_go (fun _ => XS.iloadN X7.here hx rfl (hb hby d8_60) rfl) ?_
        show own_Fin _ _ _ _ T7 (mkF m 61 #[.val (.ref x0), .val (.ref x1), .val (.int (1 : Int32))] [(.int (1 : Int32))]) _ _ _
        exact own_retZ X7 hx hnl (t := .boolean) hret (by simp) (hb hby d8_61) (by decide) (by decide) ⟨congrArg (fun z => some (Value.int z)) (show ((1 : Int32) : Int32) = own_prec fe1 fe2 nn1 nn2 from by simp only [own_prec, if_pos h8, if_neg h20, if_pos h31]), N0, e7⟩
      · refine own_go (fun _ => XS.icmpYes X7.here hx rfl (pc0 := 31) (pc' := 38) rfl (hb hby d8_31) rfl (flt h31).2.2.2 (by decide) (by decide)) ?_
        show own_Fin _ _ _ _ T7 (mkF m 38 #[.val (.ref x0), .val (.ref x1), .unset] []) _ _ _
        refine own_go (fun _ => XS.iconst X7.here hx rfl (hb hby d8_38)) ?_
        show own_Fin _ _ _ _ T7 (mkF m 39 #[.val (.ref x0), .val (.ref x1), .unset] [(.int (0 : Int32))]) _ _ _
        refine own_go (fun _ => XS.istoreN X7.here hx rfl (hb hby d8_39) rfl (l' := #[.val (.ref x0), .val (.ref x1), .val (.int (0 : Int32))]) rfl) ?_
        show own_Fin _ _ _ _ T7 (mkF m 40 #[.val (.ref x0), .val (.ref x1), .val (.int (0 : Int32))] []) _ _ _
        refine own_go (fun _ => XS.goto X7.here hx rfl (pc0 := 40) (pc' := 60) rfl (hb hby d8_40) (by decide) (by decide)) ?_
        show own_Fin _ _ _ _ T7 (mkF m 60 #[.val (.ref x0), .val (.ref x1), .val (.int (0 : Int32))] []) _ _ _
        refine own_go (fun _ => XS.iloadN X7.here hx rfl (hb hby d8_60) rfl) ?_
        show own_Fin _ _ _ _ T7 (mkF m 61 #[.val (.ref x0), .val (.ref x1), .val (.int (0 : Int32))] [(.int (0 : Int32))]) _ _ _
        exact own_retZ X7 hx hnl (t := .boolean) hret (by simp) (hb hby d8_61) (by decide) (by decide) ⟨congrArg (fun z => some (Value.int z)) (show ((0 : Int32) : Int32) = own_prec fe1 fe2 nn1 nn2 from by simp only [own_prec, if_pos h8, if_neg h20, if_neg h31]), N0, e7⟩
  · refine own_go (fun _ => XS.icmpNo X2.here hx rfl (hb hby d8_8) rfl (feq h8).1) ?_
    show own_Fin _ _ _ _ T2 (mkF m 11 #[.val (.ref x0), .val (.ref x1), .unset] []) _ _ _
    refine own_go (fun _ => XS.iconst X2.here hx rfl (hb hby d8_11)) ?_
    show own_Fin _ _ _ _ T2 (mkF m 12 #[.val (.ref x0), .val (.ref x1), .unset] [(.int (0 : Int32))]) _ _ _
    refine own_go (fun _ => XS.istoreN X2.here hx rfl (hb hby d8_12) rfl (l' := #[.val (.ref x0), .val (.ref x1), .val (.int (0 : Int32))]) rfl) ?_
    show own_Fin _ _ _ _ T2 (mkF m 13 #[.val (.ref x0), .val (.ref x1), .val (.int (0 : Int32))] []) _ _ _
    refine own_go (fun _ => XS.goto X2.here hx rfl (pc0 := 13) (pc' := 60) rfl (hb hby d8_13) (by decide) (by decide)) ?_
    show own_Fin _ _ _ _ T2 (mkF m 60 #[.val (.ref x0), .val (.ref x1), .val (.int (0 : Int32))] []) _ _ _
    refine own_go (fun _ => XS.iloadN X2.here hx rfl (hb hby d8_60) rfl) ?_
    show own_Fin _ _ _ _ T2 (mkF m 61 #[.val (.ref x0), .val (.ref x1), .val (.int (0 : Int32))] [(.int (0 : Int32))]) _ _ _
    exact own_retZ X2 hx hnl (t := .boolean) hret (by simp) (hb hby d8_61) (by decide) (by decide) ⟨congrArg (fun z => some (Value.int z)) (show ((0 : Int32) : Int32) = own_prec fe1 fe2 nn1 nn2 from by simp only [own_prec, if_neg h8]), N0, e2⟩

def own_par (b f k : Int32) : Int32 := if k = 1 then b else if k = 2 then b + 1 else if k = 3 then b - 1 else f
theorem d1_0 : decode method_2_code 0 = .ok (.iload_n 2, 1) := by decide +kernel
theorem d1_1 : decode method_2_code 1 = .ok (.iconst 1, 1) := by decide +kernel
theorem d1_2 : decode method_2_code 2 = .ok (.if_icmp .ne 5, 3) := by decide +kernel
theorem d1_5 : decode method_2_code 5 = .ok (.iload_n 0, 1) := by decide +kernel
theorem d1_6 : decode method_2_code 6 = .ok (.ireturn, 1) := by decide +kernel
theorem d1_7 : decode method_2_code 7 = .ok (.iload_n 2, 1) := by decide +kernel
theorem d1_8 : decode method_2_code 8 = .ok (.iconst 2, 1) := by decide +kernel
theorem d1_9 : decode method_2_code 9 = .ok (.if_icmp .ne 7, 3) := by decide +kernel
theorem d1_12 : decode method_2_code 12 = .ok (.iload_n 0, 1) := by decide +kernel
theorem d1_13 : decode method_2_code 13 = .ok (.iconst 1, 1) := by decide +kernel
theorem d1_14 : decode method_2_code 14 = .ok (.iadd, 1) := by decide +kernel
theorem d1_15 : decode method_2_code 15 = .ok (.ireturn, 1) := by decide +kernel
theorem d1_16 : decode method_2_code 16 = .ok (.iload_n 2, 1) := by decide +kernel
theorem d1_17 : decode method_2_code 17 = .ok (.iconst 3, 1) := by decide +kernel
theorem d1_18 : decode method_2_code 18 = .ok (.if_icmp .ne 7, 3) := by decide +kernel
theorem d1_21 : decode method_2_code 21 = .ok (.iload_n 0, 1) := by decide +kernel
theorem d1_22 : decode method_2_code 22 = .ok (.iconst 1, 1) := by decide +kernel
theorem d1_23 : decode method_2_code 23 = .ok (.isub, 1) := by decide +kernel
theorem d1_24 : decode method_2_code 24 = .ok (.ireturn, 1) := by decide +kernel
theorem d1_25 : decode method_2_code 25 = .ok (.iload_n 1, 1) := by decide +kernel
theorem d1_26 : decode method_2_code 26 = .ok (.ireturn, 1) := by decide +kernel
theorem pn_1 : plainName "com/example/olefin_desk/olefindesk/ContractDayPrecedesPinLaw" = true := by first | (simp [plainName, overriddenIn]; done) | decide +kernel
theorem ef_1 (m : MethodId) (x0 : Int32) (x1 : Int32) (x2 : Int32) : entryFrame m #[(.int x0), (.int x1), (.int x2)] 3 = mkF m 0 #[.val (.int x0), .val (.int x1), .val (.int x2)] [] := by first | (simp [entryFrame, mkF, argsToLocals, Value.category]; done) | rfl
def Q1 (Z : State) (x0 : Int32) (x1 : Int32) (x2 : Int32) (h0 : Heap) (n0 : Nat) (v : Option Value) (h : Heap) (L : List Loc) : Prop := v = some (.int (own_par x0 x1 x2)) ∧ Fr n0 L ∧ h = h0
set_option maxRecDepth 65536 in
set_option maxHeartbeats 40000000 in
theorem rm1 (l : Launch) (Z : State) (a0 : Array Value) (hw : ∀ d ∈ tables_1, d.before a0 Z = true) (ws : List Jvm.Cond) (x0 : Int32) (x1 : Int32) (x2 : Int32) (h0 : Heap) (n0 : Nat) (Z0 : n0 ≤ h0.size) :
    MetFree l (⟨"com/example/olefin_desk/olefindesk/ContractDayPrecedesPinLaw", "partner", "(III)I"⟩ : MethodName) (head1 (Jvm.Cond.code (⟨"com/example/olefin_desk/olefindesk/ContractDayPrecedesPinLaw", "partner", "(III)I"⟩ : MethodName) method_2_code 3 (some .int) :: ws) ({ frames := 0, cells := 0, slots := 0, locals := 0 } : Room)) (fun a U => a = #[(.int x0), (.int x1), (.int x2)] ∧ Z.Warmed39 U.vm ∧ U.heap = h0) (fun _ _ _ _ _ => True) (fun _ U o U' => ∃ v L, o = .returned v ∧ Q1 Z x0 x1 x2 h0 n0 v U'.heap L ∧ FrameEnd U o U' L ({ frames := 0, cells := 0, slots := 0, locals := 0 } : Room).cells ({ frames := 0, cells := 0, slots := 0, locals := 0 } : Room).slots) := by
  refine MetFree.of_bodySF (plainFor_of_name pn_1) hisR ?_
  intro p e s m args below meth c s₁ Bd hml0 hP hK
  obtain ⟨rfl, hZ, hh⟩ := hP
  have hx := Bd.exec
  have hby := Bd.bytes
  have hret := Bd.returns
  have hnl : meth.locks = false := Bd.notSynchronized
  have hml : c.maxLocals = 3 := hml0
  have hown : s.vm.findClass "com/example/olefin_desk/olefindesk/ContractDayPrecedesPinLaw" = some m.cls := findClass_of_methodNamed Bd.named
  have hnm := (name_of_methodNamed Bd.named Bd.method).1
  have X0 : Stand p l e ({ frames := 0, cells := 0, slots := 0, locals := 0 } : Room) s m #[(.int x0), (.int x1), (.int x2)] below meth c s₁ [] 0 0 := Stand.of_body Bd
  have e0 : s₁.heap = h0 := by rw [← hh, Bd.state]; rfl
  have N0 := Fr.nil n0
  suffices key : own_Fin p e below s s₁ (mkF m 0 #[.val (.int x0), .val (.int x1), .val (.int x2)] []) (Q1 Z x0 x1 x2 h0 n0) ({ frames := 0, cells := 0, slots := 0, locals := 0 } : Room).cells ({ frames := 0, cells := 0, slots := 0, locals := 0 } : Room).slots by
    obtain ⟨s2, o, h1, h2⟩ := key
    exact ⟨s2, o, castTop (ef_1 m x0 x1 x2) h1, h2⟩
  refine own_go (fun _ => XS.iloadN X0.here hx rfl (hb hby d1_0) rfl) ?_
  show own_Fin _ _ _ _ s₁ (mkF m 1 #[.val (.int x0), .val (.int x1), .val (.int x2)] [(.int x2)]) _ _ _
  refine own_go (fun _ => XS.iconst X0.here hx rfl (hb hby d1_1)) ?_
  show own_Fin _ _ _ _ s₁ (mkF m 2 #[.val (.int x0), .val (.int x1), .val (.int x2)] [(.int (1 : Int32)), (.int x2)]) _ _ _
  by_cases h2 : x2 = (1 : Int32)
  · refine own_go (fun _ => XS.icmpNo X0.here hx rfl (hb hby d1_2) rfl (teq h2).2) ?_
    show own_Fin _ _ _ _ s₁ (mkF m 5 #[.val (.int x0), .val (.int x1), .val (.int x2)] []) _ _ _
    refine own_go (fun _ => XS.iloadN X0.here hx rfl (hb hby d1_5) rfl) ?_
    show own_Fin _ _ _ _ s₁ (mkF m 6 #[.val (.int x0), .val (.int x1), .val (.int x2)] [(.int x0)]) _ _ _
    exact own_retI X0 hx hnl hret (hb hby d1_6) (by decide) (by decide) ⟨congrArg (fun z => some (Value.int z)) (show (x0 : Int32) = own_par x0 x1 x2 from by simp only [own_par, if_pos h2]), N0, e0⟩
  · refine own_go (fun _ => XS.icmpYes X0.here hx rfl (pc0 := 2) (pc' := 7) rfl (hb hby d1_2) rfl (feq h2).2 (by decide) (by decide)) ?_
    show own_Fin _ _ _ _ s₁ (mkF m 7 #[.val (.int x0), .val (.int x1), .val (.int x2)] []) _ _ _
    refine own_go (fun _ => XS.iloadN X0.here hx rfl (hb hby d1_7) rfl) ?_
    show own_Fin _ _ _ _ s₁ (mkF m 8 #[.val (.int x0), .val (.int x1), .val (.int x2)] [(.int x2)]) _ _ _
    refine own_go (fun _ => XS.iconst X0.here hx rfl (hb hby d1_8)) ?_
    show own_Fin _ _ _ _ s₁ (mkF m 9 #[.val (.int x0), .val (.int x1), .val (.int x2)] [(.int (2 : Int32)), (.int x2)]) _ _ _
    by_cases h9 : x2 = (2 : Int32)
    · refine own_go (fun _ => XS.icmpNo X0.here hx rfl (hb hby d1_9) rfl (teq h9).2) ?_
      show own_Fin _ _ _ _ s₁ (mkF m 12 #[.val (.int x0), .val (.int x1), .val (.int x2)] []) _ _ _
      refine own_go (fun _ => XS.iloadN X0.here hx rfl (hb hby d1_12) rfl) ?_
      show own_Fin _ _ _ _ s₁ (mkF m 13 #[.val (.int x0), .val (.int x1), .val (.int x2)] [(.int x0)]) _ _ _
      refine own_go (fun _ => XS.iconst X0.here hx rfl (hb hby d1_13)) ?_
      show own_Fin _ _ _ _ s₁ (mkF m 14 #[.val (.int x0), .val (.int x1), .val (.int x2)] [(.int (1 : Int32)), (.int x0)]) _ _ _
      refine own_go (fun _ => XS.iadd X0.here hx rfl (hb hby d1_14) rfl) ?_
      show own_Fin _ _ _ _ s₁ (mkF m 15 #[.val (.int x0), .val (.int x1), .val (.int x2)] [(.int (x0 + (1 : Int32)))]) _ _ _
      exact own_retI X0 hx hnl hret (hb hby d1_15) (by decide) (by decide) ⟨congrArg (fun z => some (Value.int z)) (show ((x0 + (1 : Int32)) : Int32) = own_par x0 x1 x2 from by simp only [own_par, if_neg h2, if_pos h9]), N0, e0⟩
    · refine own_go (fun _ => XS.icmpYes X0.here hx rfl (pc0 := 9) (pc' := 16) rfl (hb hby d1_9) rfl (feq h9).2 (by decide) (by decide)) ?_
      show own_Fin _ _ _ _ s₁ (mkF m 16 #[.val (.int x0), .val (.int x1), .val (.int x2)] []) _ _ _
      refine own_go (fun _ => XS.iloadN X0.here hx rfl (hb hby d1_16) rfl) ?_
      show own_Fin _ _ _ _ s₁ (mkF m 17 #[.val (.int x0), .val (.int x1), .val (.int x2)] [(.int x2)]) _ _ _
      refine own_go (fun _ => XS.iconst X0.here hx rfl (hb hby d1_17)) ?_
      show own_Fin _ _ _ _ s₁ (mkF m 18 #[.val (.int x0), .val (.int x1), .val (.int x2)] [(.int (3 : Int32)), (.int x2)]) _ _ _
      by_cases h18 : x2 = (3 : Int32)
      · refine own_go (fun _ => XS.icmpNo X0.here hx rfl (hb hby d1_18) rfl (teq h18).2) ?_
        show own_Fin _ _ _ _ s₁ (mkF m 21 #[.val (.int x0), .val (.int x1), .val (.int x2)] []) _ _ _
        refine own_go (fun _ => XS.iloadN X0.here hx rfl (hb hby d1_21) rfl) ?_
        show own_Fin _ _ _ _ s₁ (mkF m 22 #[.val (.int x0), .val (.int x1), .val (.int x2)] [(.int x0)]) _ _ _
        refine own_go (fun _ => XS.iconst X0.here hx rfl (hb hby d1_22)) ?_
        show own_Fin _ _ _ _ s₁ (mkF m 23 #[.val (.int x0), .val (.int x1), .val (.int x2)] [(.int (1 : Int32)), (.int x0)]) _ _ _
        refine own_go (fun _ => XS.isub X0.here hx rfl (hb hby d1_23) rfl) ?_
        show own_Fin _ _ _ _ s₁ (mkF m 24 #[.val (.int x0), .val (.int x1), .val (.int x2)] [(.int (x0 - (1 : Int32)))]) _ _ _
        exact own_retI X0 hx hnl hret (hb hby d1_24) (by decide) (by decide) ⟨congrArg (fun z => some (Value.int z)) (show ((x0 - (1 : Int32)) : Int32) = own_par x0 x1 x2 from by simp only [own_par, if_neg h2, if_neg h9, if_pos h18]), N0, e0⟩
      · refine own_go (fun _ => XS.icmpYes X0.here hx rfl (pc0 := 18) (pc' := 25) rfl (hb hby d1_18) rfl (feq h18).2 (by decide) (by decide)) ?_
        show own_Fin _ _ _ _ s₁ (mkF m 25 #[.val (.int x0), .val (.int x1), .val (.int x2)] []) _ _ _
        refine own_go (fun _ => XS.iloadN X0.here hx rfl (hb hby d1_25) rfl) ?_
        show own_Fin _ _ _ _ s₁ (mkF m 26 #[.val (.int x0), .val (.int x1), .val (.int x2)] [(.int x1)]) _ _ _
        exact own_retI X0 hx hnl hret (hb hby d1_26) (by decide) (by decide) ⟨congrArg (fun z => some (Value.int z)) (show (x1 : Int32) = own_par x0 x1 x2 from by simp only [own_par, if_neg h2, if_neg h9, if_neg h18]), N0, e0⟩

def own_pos (n z : Int32) : Int64 := if z = 0 then n.toInt64 else -n.toInt64
theorem d9_0 : decode method_3_code 0 = .ok (.iload_n 1, 1) := by decide +kernel
theorem d9_1 : decode method_3_code 1 = .ok (.ifCond .eq 9, 3) := by decide +kernel
theorem d9_4 : decode method_3_code 4 = .ok (.iload_n 0, 1) := by decide +kernel
theorem d9_5 : decode method_3_code 5 = .ok (.i2l, 1) := by decide +kernel
theorem d9_6 : decode method_3_code 6 = .ok (.lneg, 1) := by decide +kernel
theorem d9_7 : decode method_3_code 7 = .ok (.goto 5, 3) := by decide +kernel
theorem d9_10 : decode method_3_code 10 = .ok (.iload_n 0, 1) := by decide +kernel
theorem d9_11 : decode method_3_code 11 = .ok (.i2l, 1) := by decide +kernel
theorem d9_12 : decode method_3_code 12 = .ok (.lreturn, 1) := by decide +kernel
theorem pn_9 : plainName "com/example/olefin_desk/olefindesk/ContractDayPrecedesPinLaw" = true := by first | (simp [plainName, overriddenIn]; done) | decide +kernel
theorem ef_9 (m : MethodId) (x0 : Int32) (x1 : Int32) : entryFrame m #[(.int x0), (.int x1)] 2 = mkF m 0 #[.val (.int x0), .val (.int x1)] [] := by first | (simp [entryFrame, mkF, argsToLocals, Value.category]; done) | rfl
def Q9 (Z : State) (x0 : Int32) (x1 : Int32) (h0 : Heap) (n0 : Nat) (v : Option Value) (h : Heap) (L : List Loc) : Prop := v = some (.long (own_pos x0 x1)) ∧ Fr n0 L ∧ h = h0
set_option maxRecDepth 65536 in
set_option maxHeartbeats 40000000 in
theorem rm9 (l : Launch) (Z : State) (a0 : Array Value) (hw : ∀ d ∈ tables_1, d.before a0 Z = true) (ws : List Jvm.Cond) (x0 : Int32) (x1 : Int32) (h0 : Heap) (n0 : Nat) (Z0 : n0 ≤ h0.size) :
    MetFree l (⟨"com/example/olefin_desk/olefindesk/ContractDayPrecedesPinLaw", "position", "(IZ)J"⟩ : MethodName) (head1 (Jvm.Cond.code (⟨"com/example/olefin_desk/olefindesk/ContractDayPrecedesPinLaw", "position", "(IZ)J"⟩ : MethodName) method_3_code 2 (some .long) :: ws) ({ frames := 0, cells := 0, slots := 0, locals := 0 } : Room)) (fun a U => a = #[(.int x0), (.int x1)] ∧ Z.Warmed39 U.vm ∧ U.heap = h0) (fun _ _ _ _ _ => True) (fun _ U o U' => ∃ v L, o = .returned v ∧ Q9 Z x0 x1 h0 n0 v U'.heap L ∧ FrameEnd U o U' L ({ frames := 0, cells := 0, slots := 0, locals := 0 } : Room).cells ({ frames := 0, cells := 0, slots := 0, locals := 0 } : Room).slots) := by
  refine MetFree.of_bodySF (plainFor_of_name pn_9) hisR ?_
  intro p e s m args below meth c s₁ Bd hml0 hP hK
  obtain ⟨rfl, hZ, hh⟩ := hP
  have hx := Bd.exec
  have hby := Bd.bytes
  have hret := Bd.returns
  have hnl : meth.locks = false := Bd.notSynchronized
  have hml : c.maxLocals = 2 := hml0
  have hown : s.vm.findClass "com/example/olefin_desk/olefindesk/ContractDayPrecedesPinLaw" = some m.cls := findClass_of_methodNamed Bd.named
  have hnm := (name_of_methodNamed Bd.named Bd.method).1
  have X0 : Stand p l e ({ frames := 0, cells := 0, slots := 0, locals := 0 } : Room) s m #[(.int x0), (.int x1)] below meth c s₁ [] 0 0 := Stand.of_body Bd
  have e0 : s₁.heap = h0 := by rw [← hh, Bd.state]; rfl
  have N0 := Fr.nil n0
  suffices key : own_Fin p e below s s₁ (mkF m 0 #[.val (.int x0), .val (.int x1)] []) (Q9 Z x0 x1 h0 n0) ({ frames := 0, cells := 0, slots := 0, locals := 0 } : Room).cells ({ frames := 0, cells := 0, slots := 0, locals := 0 } : Room).slots by
    obtain ⟨s2, o, h1, h2⟩ := key
    exact ⟨s2, o, castTop (ef_9 m x0 x1) h1, h2⟩
  refine own_go (fun _ => XS.iloadN X0.here hx rfl (hb hby d9_0) rfl) ?_
  show own_Fin _ _ _ _ s₁ (mkF m 1 #[.val (.int x0), .val (.int x1)] [(.int x1)]) _ _ _
  by_cases h1 : x1 = (0 : Int32)
  · refine own_go (fun _ => XS.ifYes X0.here hx rfl (pc0 := 1) (pc' := 10) rfl (hb hby d9_1) rfl ((if0 _ _).trans (teq h1).1) (by decide) (by decide)) ?_
    show own_Fin _ _ _ _ s₁ (mkF m 10 #[.val (.int x0), .val (.int x1)] []) _ _ _
    refine own_go (fun _ => XS.iloadN X0.here hx rfl (hb hby d9_10) rfl) ?_
    show own_Fin _ _ _ _ s₁ (mkF m 11 #[.val (.int x0), .val (.int x1)] [(.int x0)]) _ _ _
    refine own_go (fun _ => XS.i2l X0.here hx rfl (hb hby d9_11) rfl) ?_
    show own_Fin _ _ _ _ s₁ (mkF m 12 #[.val (.int x0), .val (.int x1)] [(.long (x0.toInt64))]) _ _ _
    exact own_retJ X0 hx hnl hret (hb hby d9_12) (by decide) (by decide) ⟨congrArg (fun z => some (Value.long z)) (show ((x0.toInt64) : Int64) = own_pos x0 x1 from by simp only [own_pos, if_pos h1]), N0, e0⟩
  · refine own_go (fun _ => XS.ifNo X0.here hx rfl (hb hby d9_1) rfl ((if0 _ _).trans (feq h1).1)) ?_
    show own_Fin _ _ _ _ s₁ (mkF m 4 #[.val (.int x0), .val (.int x1)] []) _ _ _
    refine own_go (fun _ => XS.iloadN X0.here hx rfl (hb hby d9_4) rfl) ?_
    show own_Fin _ _ _ _ s₁ (mkF m 5 #[.val (.int x0), .val (.int x1)] [(.int x0)]) _ _ _
    refine own_go (fun _ => XS.i2l X0.here hx rfl (hb hby d9_5) rfl) ?_
    show own_Fin _ _ _ _ s₁ (mkF m 6 #[.val (.int x0), .val (.int x1)] [(.long (x0.toInt64))]) _ _ _
    refine own_go (fun _ => XS.lneg X0.here hx rfl (hb hby d9_6) rfl) ?_
    show own_Fin _ _ _ _ s₁ (mkF m 7 #[.val (.int x0), .val (.int x1)] [(.long (-(x0.toInt64)))]) _ _ _
    refine own_go (fun _ => XS.goto X0.here hx rfl (pc0 := 7) (pc' := 12) rfl (hb hby d9_7) (by decide) (by decide)) ?_
    show own_Fin _ _ _ _ s₁ (mkF m 12 #[.val (.int x0), .val (.int x1)] [(.long (-(x0.toInt64)))]) _ _ _
    exact own_retJ X0 hx hnl hret (hb hby d9_12) (by decide) (by decide) ⟨congrArg (fun z => some (Value.long z)) (show ((-(x0.toInt64)) : Int64) = own_pos x0 x1 from by simp only [own_pos, if_neg h1]), N0, e0⟩

theorem own_nar {z : Int32} (hz : z = 0 ∨ z = 1) : nar .boolean z = z := by rcases hz with rfl | rfl <;> rfl
theorem own_prec01 (e1 e2 n1 n2 : Int32) : own_prec e1 e2 n1 n2 = 0 ∨ own_prec e1 e2 n1 n2 = 1 := by
  simp only [own_prec]
  repeat (first | exact Or.inl rfl | exact Or.inr rfl | split)
def own_cprec (m1 m2 e1 e2 n1 n2 : Int32) : Int32 := if m1 = m2 then own_prec e1 e2 n1 n2 else if m2 < m1 then 1 else 0

theorem d6_0 : decode prog_3_method_8_code 0 = .ok (.aload_n 0, 1) := by decide +kernel
theorem d6_1 : decode prog_3_method_8_code 1 = .ok (.getfield 7, 3) := by decide +kernel
theorem d6_4 : decode prog_3_method_8_code 4 = .ok (.aload_n 1, 1) := by decide +kernel
theorem d6_5 : decode prog_3_method_8_code 5 = .ok (.getfield 7, 3) := by decide +kernel
theorem d6_8 : decode prog_3_method_8_code 8 = .ok (.if_icmp .ne 17, 3) := by decide +kernel
theorem d6_11 : decode prog_3_method_8_code 11 = .ok (.aload_n 0, 1) := by decide +kernel
theorem d6_12 : decode prog_3_method_8_code 12 = .ok (.getfield 13, 3) := by decide +kernel
theorem d6_15 : decode prog_3_method_8_code 15 = .ok (.aload_n 1, 1) := by decide +kernel
theorem d6_16 : decode prog_3_method_8_code 16 = .ok (.getfield 13, 3) := by decide +kernel
theorem d6_19 : decode prog_3_method_8_code 19 = .ok (.invokevirtual 83, 3) := by decide +kernel
theorem d6_22 : decode prog_3_method_8_code 22 = .ok (.goto 19, 3) := by decide +kernel
theorem d6_25 : decode prog_3_method_8_code 25 = .ok (.aload_n 0, 1) := by decide +kernel
theorem d6_26 : decode prog_3_method_8_code 26 = .ok (.getfield 7, 3) := by decide +kernel
theorem d6_29 : decode prog_3_method_8_code 29 = .ok (.aload_n 1, 1) := by decide +kernel
theorem d6_30 : decode prog_3_method_8_code 30 = .ok (.getfield 7, 3) := by decide +kernel
theorem d6_33 : decode prog_3_method_8_code 33 = .ok (.if_icmp .le 7, 3) := by decide +kernel
theorem d6_36 : decode prog_3_method_8_code 36 = .ok (.iconst 1, 1) := by decide +kernel
theorem d6_37 : decode prog_3_method_8_code 37 = .ok (.goto 4, 3) := by decide +kernel
theorem d6_40 : decode prog_3_method_8_code 40 = .ok (.iconst 0, 1) := by decide +kernel
theorem d6_41 : decode prog_3_method_8_code 41 = .ok (.ireturn, 1) := by decide +kernel
theorem pd_1 : parseMethodDescriptor "(Lcom/example/olefin_desk/olefindesk/TradingDayOfMonth;)Z" = some ⟨[(.object "com/example/olefin_desk/olefindesk/TradingDayOfMonth")], some .boolean⟩ := by decide +kernel
theorem pn_6 : plainName "com/example/olefin_desk/olefindesk/ContractDay" = true := by first | (simp [plainName, overriddenIn]; done) | decide +kernel
theorem ef_6 (m : MethodId) (x0 : Addr) (x1 : Addr) : entryFrame m #[(.ref x0), (.ref x1)] 2 = mkF m 0 #[.val (.ref x0), .val (.ref x1)] [] := by first | (simp [entryFrame, mkF, argsToLocals, Value.category]; done) | rfl
def Q6 (Z : State) (x0 : Addr) (x1 : Addr) (mo1 : Int32) (mo2 : Int32) (fe1 : Int32) (fe2 : Int32) (nn1 : Int32) (nn2 : Int32) (da1 : Addr) (da2 : Addr) (h0 : Heap) (n0 : Nat) (v : Option Value) (h : Heap) (L : List Loc) : Prop := v = some (.int (own_cprec mo1 mo2 fe1 fe2 nn1 nn2)) ∧ Fr n0 L ∧ h = h0
set_option maxRecDepth 65536 in
set_option maxHeartbeats 40000000 in
theorem rm6 (l : Launch) (Z : State) (a0 : Array Value) (hw : ∀ d ∈ tables_1, d.before a0 Z = true) (ws : List Jvm.Cond) (x0 : Addr) (x1 : Addr) (mo1 : Int32) (mo2 : Int32) (fe1 : Int32) (fe2 : Int32) (nn1 : Int32) (nn2 : Int32) (da1 : Addr) (da2 : Addr) (h0 : Heap) (n0 : Nat) (Z0 : n0 ≤ h0.size) (F0 : Fld Z h0 x0 "com/example/olefin_desk/olefindesk/ContractDay" "monthsBeforeDelivery" "I" (.int mo1)) (F1 : Fld Z h0 x0 "com/example/olefin_desk/olefindesk/ContractDay" "day" "Lcom/example/olefin_desk/olefindesk/TradingDayOfMonth;" (.ref da1)) (F2 : Fld Z h0 x1 "com/example/olefin_desk/olefindesk/ContractDay" "monthsBeforeDelivery" "I" (.int mo2)) (F3 : Fld Z h0 x1 "com/example/olefin_desk/olefindesk/ContractDay" "day" "Lcom/example/olefin_desk/olefindesk/TradingDayOfMonth;" (.ref da2)) (F4 : Fld Z h0 da1 "com/example/olefin_desk/olefindesk/TradingDayOfMonth" "n" "I" (.int nn1)) (F5 : Fld Z h0 da1 "com/example/olefin_desk/olefindesk/TradingDayOfMonth" "fromEnd" "Z" (.int fe1)) (F6 : Fld Z h0 da2 "com/example/olefin_desk/olefindesk/TradingDayOfMonth" "n" "I" (.int nn2)) (F7 : Fld Z h0 da2 "com/example/olefin_desk/olefindesk/TradingDayOfMonth" "fromEnd" "Z" (.int fe2)) (E_da1 : Exa Z h0 da1 "com/example/olefin_desk/olefindesk/TradingDayOfMonth") :
    MetFree l (⟨"com/example/olefin_desk/olefindesk/ContractDay", "precedes", "(Lcom/example/olefin_desk/olefindesk/ContractDay;)Z"⟩ : MethodName) (head1 (Jvm.Cond.code (⟨"com/example/olefin_desk/olefindesk/ContractDay", "precedes", "(Lcom/example/olefin_desk/olefindesk/ContractDay;)Z"⟩ : MethodName) prog_3_method_8_code 2 (some .boolean) :: ws) ({ frames := 1, cells := 0, slots := 0, locals := 14 } : Room)) (fun a U => a = #[(.ref x0), (.ref x1)] ∧ Z.Warmed39 U.vm ∧ U.heap = h0) (fun _ _ _ _ _ => True) (fun _ U o U' => ∃ v L, o = .returned v ∧ Q6 Z x0 x1 mo1 mo2 fe1 fe2 nn1 nn2 da1 da2 h0 n0 v U'.heap L ∧ FrameEnd U o U' L ({ frames := 1, cells := 0, slots := 0, locals := 14 } : Room).cells ({ frames := 1, cells := 0, slots := 0, locals := 14 } : Room).slots) := by
  refine MetFree.of_bodySF (plainFor_of_name pn_6) hisR ?_
  intro p e s m args below meth c s₁ Bd hml0 hP hK
  obtain ⟨rfl, hZ, hh⟩ := hP
  have hx := Bd.exec
  have hby := Bd.bytes
  have hret := Bd.returns
  have hnl : meth.locks = false := Bd.notSynchronized
  have hml : c.maxLocals = 2 := hml0
  have hown : s.vm.findClass "com/example/olefin_desk/olefindesk/ContractDay" = some m.cls := findClass_of_methodNamed Bd.named
  have hnm := (name_of_methodNamed Bd.named Bd.method).1
  have X0 : Stand p l e ({ frames := 1, cells := 0, slots := 0, locals := 14 } : Room) s m #[(.ref x0), (.ref x1)] below meth c s₁ [] 0 0 := Stand.of_body Bd
  have e0 : s₁.heap = h0 := by rw [← hh, Bd.state]; rfl
  have N0 := Fr.nil n0
  suffices key : own_Fin p e below s s₁ (mkF m 0 #[.val (.ref x0), .val (.ref x1)] []) (Q6 Z x0 x1 mo1 mo2 fe1 fe2 nn1 nn2 da1 da2 h0 n0) ({ frames := 1, cells := 0, slots := 0, locals := 14 } : Room).cells ({ frames := 1, cells := 0, slots := 0, locals := 14 } : Room).slots by
    obtain ⟨s2, o, h1, h2⟩ := key
    exact ⟨s2, o, castTop (ef_6 m x0 x1) h1, h2⟩
  refine own_go (fun _ => XS.aloadN X0.here hx rfl (hb hby d6_0) rfl rfl) ?_
  show own_Fin _ _ _ _ s₁ (mkF m 1 #[.val (.ref x0), .val (.ref x1)] [(.ref x0)]) _ _ _
  obtain ⟨T1, X1, e1, st1⟩ := getF X0 hx hZ hown (host := "") (Or.inl (hw _ (List.mem_of_getElem? (i := 29) rfl))) Via.refl e0 F0 (g := (mkF m 1 #[.val (.ref x0), .val (.ref x1)] [(.ref x0)])) rfl rfl (hb hby d6_1)
  refine own_go st1 ?_
  show own_Fin _ _ _ _ T1 (mkF m 4 #[.val (.ref x0), .val (.ref x1)] [(.int mo1)]) _ _ _
  refine own_go (fun _ => XS.aloadN X1.here hx rfl (hb hby d6_4) rfl rfl) ?_
  show own_Fin _ _ _ _ T1 (mkF m 5 #[.val (.ref x0), .val (.ref x1)] [(.ref x1), (.int mo1)]) _ _ _
  obtain ⟨T2, X2, e2, st2⟩ := getF X1 hx hZ hown (host := "") (Or.inl (hw _ (List.mem_of_getElem? (i := 29) rfl))) Via.refl e1 F2 (g := (mkF m 5 #[.val (.ref x0), .val (.ref x1)] [(.ref x1), (.int mo1)])) rfl rfl (hb hby d6_5)
  refine own_go st2 ?_
  show own_Fin _ _ _ _ T2 (mkF m 8 #[.val (.ref x0), .val (.ref x1)] [(.int mo2), (.int mo1)]) _ _ _
  by_cases h8 : mo1 = mo2
  · refine own_go (fun _ => XS.icmpNo X2.here hx rfl (hb hby d6_8) rfl (teq h8).2) ?_
    show own_Fin _ _ _ _ T2 (mkF m 11 #[.val (.ref x0), .val (.ref x1)] []) _ _ _
    refine own_go (fun _ => XS.aloadN X2.here hx rfl (hb hby d6_11) rfl rfl) ?_
    show own_Fin _ _ _ _ T2 (mkF m 12 #[.val (.ref x0), .val (.ref x1)] [(.ref x0)]) _ _ _
    obtain ⟨T3, X3, e3, st3⟩ := getF X2 hx hZ hown (host := "") (Or.inl (hw _ (List.mem_of_getElem? (i := 31) rfl))) Via.refl e2 F1 (g := (mkF m 12 #[.val (.ref x0), .val (.ref x1)] [(.ref x0)])) rfl rfl (hb hby d6_12)
    refine own_go st3 ?_
    show own_Fin _ _ _ _ T3 (mkF m 15 #[.val (.ref x0), .val (.ref x1)] [(.ref da1)]) _ _ _
    refine own_go (fun _ => XS.aloadN X3.here hx rfl (hb hby d6_15) rfl rfl) ?_
    show own_Fin _ _ _ _ T3 (mkF m 16 #[.val (.ref x0), .val (.ref x1)] [(.ref x1), (.ref da1)]) _ _ _
    obtain ⟨T4, X4, e4, st4⟩ := getF X3 hx hZ hown (host := "") (Or.inl (hw _ (List.mem_of_getElem? (i := 31) rfl))) Via.refl e3 F3 (g := (mkF m 16 #[.val (.ref x0), .val (.ref x1)] [(.ref x1), (.ref da1)])) rfl rfl (hb hby d6_16)
    refine own_go st4 ?_
    show own_Fin _ _ _ _ T4 (mkF m 19 #[.val (.ref x0), .val (.ref x1)] [(.ref da2), (.ref da1)]) _ _ _
    obtain ⟨cq5, kq5, q5a, q5b, q5c⟩ := isOf hZ e4 E_da1
    obtain ⟨_, _, ⟨T5, L5, k5, n5⟩, -, X5, ⟨Lc5, hQ5, l5, y5, z5⟩, st5⟩ := X4.virtualBack hx (y := (⟨"com/example/olefin_desk/olefindesk/TradingDayOfMonth", "precedes", "(Lcom/example/olefin_desk/olefindesk/TradingDayOfMonth;)Z"⟩ : MethodName)) (z := (⟨"com/example/olefin_desk/olefindesk/TradingDayOfMonth", "precedes", "(Lcom/example/olefin_desk/olefindesk/TradingDayOfMonth;)Z"⟩ : MethodName)) hown (mvT hZ (hw _ (List.mem_of_getElem? (i := 41) rfl))) (mvT hZ (hw _ (List.mem_of_getElem? (i := 42) rfl))) (notFace_of_selects (args := #[]) (mvT hZ (hw _ (List.mem_of_getElem? (i := 44) rfl)))) (mvT hZ (hw _ (List.mem_of_getElem? (i := 44) rfl))) (mvT hZ (hw _ (List.mem_of_getElem? (i := 43) rfl))) (by decide) (backOf (W := 0) (rm8 l Z a0 hw [] da1 da2 fe1 fe2 nn1 nn2 h0 n0 Z0 F4 F5 F6 F7) hZ (hw _ (List.mem_of_getElem? (i := 45) rfl)) (hw _ (List.mem_of_getElem? (i := 9) rfl)) (by decide) (by decide)) q5a q5c (g := (mkF m 19 #[.val (.ref x0), .val (.ref x1)] [(.ref da2), (.ref da1)])) rfl (by rw [hml]; rfl) (Steps.refl _) (argsL := [(.ref da2)]) (rest := []) (lenOf pd_1 rfl) rfl (by show 2 * 0 + _ ≤ _; exact Nat.le_of_eq rfl) (hb hby d6_19) (fun _ _ => ⟨rfl, e4, (by decide : 0 + 0 ≤ _), (by decide : 0 + 0 ≤ _)⟩)
    dsimp only [Pt.U, Pt.locs, Pt.cells, Pt.slots] at X5 l5 y5 z5 st5 hQ5
    subst l5 y5 z5
    obtain ⟨rfl, N5q, e5⟩ := hQ5
    have N5 := Fr.app N0 N5q
    refine own_gt st5 ?_
    show own_Fin _ _ _ _ T5 (mkF m 22 #[.val (.ref x0), .val (.ref x1)] [(.int (own_prec fe1 fe2 nn1 nn2))]) _ _ _
    refine own_go (fun _ => XS.goto X5.here hx rfl (pc0 := 22) (pc' := 41) rfl (hb hby d6_22) (by decide) (by decide)) ?_
    show own_Fin _ _ _ _ T5 (mkF m 41 #[.val (.ref x0), .val (.ref x1)] [(.int (own_prec fe1 fe2 nn1 nn2))]) _ _ _
    exact own_retZ X5 hx hnl (t := .boolean) hret (by simp) (hb hby d6_41) (by decide) (by decide) ⟨congrArg (fun z => some (Value.int z)) (show nar .boolean (own_prec fe1 fe2 nn1 nn2) = own_cprec mo1 mo2 fe1 fe2 nn1 nn2 from by rw [own_nar (own_prec01 _ _ _ _)]; simp [own_cprec, h8]), N5, e5⟩
  · refine own_go (fun _ => XS.icmpYes X2.here hx rfl (pc0 := 8) (pc' := 25) rfl (hb hby d6_8) rfl (feq h8).2 (by decide) (by decide)) ?_
    show own_Fin _ _ _ _ T2 (mkF m 25 #[.val (.ref x0), .val (.ref x1)] []) _ _ _
    refine own_go (fun _ => XS.aloadN X2.here hx rfl (hb hby d6_25) rfl rfl) ?_
    show own_Fin _ _ _ _ T2 (mkF m 26 #[.val (.ref x0), .val (.ref x1)] [(.ref x0)]) _ _ _
    obtain ⟨T6, X6, e6, st6⟩ := getF X2 hx hZ hown (host := "") (Or.inl (hw _ (List.mem_of_getElem? (i := 29) rfl))) Via.refl e2 F0 (g := (mkF m 26 #[.val (.ref x0), .val (.ref x1)] [(.ref x0)])) rfl rfl (hb hby d6_26)
    refine own_go st6 ?_
    show own_Fin _ _ _ _ T6 (mkF m 29 #[.val (.ref x0), .val (.ref x1)] [(.int mo1)]) _ _ _
    refine own_go (fun _ => XS.aloadN X6.here hx rfl (hb hby d6_29) rfl rfl) ?_
    show own_Fin _ _ _ _ T6 (mkF m 30 #[.val (.ref x0), .val (.ref x1)] [(.ref x1), (.int mo1)]) _ _ _
    obtain ⟨T7, X7, e7, st7⟩ := getF X6 hx hZ hown (host := "") (Or.inl (hw _ (List.mem_of_getElem? (i := 29) rfl))) Via.refl e6 F2 (g := (mkF m 30 #[.val (.ref x0), .val (.ref x1)] [(.ref x1), (.int mo1)])) rfl rfl (hb hby d6_30)
    refine own_go st7 ?_
    show own_Fin _ _ _ _ T7 (mkF m 33 #[.val (.ref x0), .val (.ref x1)] [(.int mo2), (.int mo1)]) _ _ _
    by_cases h33 : mo2 < mo1
    · refine own_go (fun _ => XS.icmpNo X7.here hx rfl (hb hby d6_33) rfl (tlt h33).2.2.2) ?_
      show own_Fin _ _ _ _ T7 (mkF m 36 #[.val (.ref x0), .val (.ref x1)] []) _ _ _
      refine own_go (fun _ => XS.iconst X7.here hx rfl (hb hby d6_36)) ?_
      show own_Fin _ _ _ _ T7 (mkF m 37 #[.val (.ref x0), .val (.ref x1)] [(.int (1 : Int32))]) _ _ _
      refine own_go (fun _ => XS.goto X7.here hx rfl (pc0 := 37) (pc' := 41) rfl (hb hby d6_37) (by decide) (by decide)) ?_
      show own_Fin _ _ _ _ T7 (mkF m 41 #[.val (.ref x0), .val (.ref x1)] [(.int (1 : Int32))]) _ _ _
      exact own_retZ X7 hx hnl (t := .boolean) hret (by simp) (hb hby d6_41) (by decide) (by decide) ⟨congrArg (fun z => some (Value.int z)) (show ((1 : Int32) : Int32) = own_cprec mo1 mo2 fe1 fe2 nn1 nn2 from by simp only [own_cprec, if_neg h8, if_pos h33]), N0, e7⟩
    · refine own_go (fun _ => XS.icmpYes X7.here hx rfl (pc0 := 33) (pc' := 40) rfl (hb hby d6_33) rfl (flt h33).2.2.2 (by decide) (by decide)) ?_
      show own_Fin _ _ _ _ T7 (mkF m 40 #[.val (.ref x0), .val (.ref x1)] []) _ _ _
      refine own_go (fun _ => XS.iconst X7.here hx rfl (hb hby d6_40)) ?_
      show own_Fin _ _ _ _ T7 (mkF m 41 #[.val (.ref x0), .val (.ref x1)] [(.int (0 : Int32))]) _ _ _
      exact own_retZ X7 hx hnl (t := .boolean) hret (by simp) (hb hby d6_41) (by decide) (by decide) ⟨congrArg (fun z => some (Value.int z)) (show ((0 : Int32) : Int32) = own_cprec mo1 mo2 fe1 fe2 nn1 nn2 from by simp only [own_cprec, if_neg h8, if_neg h33]), N0, e7⟩

def own_exp (ma na ea mb nb eb : Int32) : Int32 := if ma = mb then (if ea = eb then (if own_pos na ea < own_pos nb eb then 1 else 0) else 0) else (if mb < ma then 1 else 0)
theorem d7_0 : decode method_4_code 0 = .ok (.iload_n 0, 1) := by decide +kernel
theorem d7_1 : decode method_4_code 1 = .ok (.iload_n 3, 1) := by decide +kernel
theorem d7_2 : decode method_4_code 2 = .ok (.if_icmp .eq 14, 3) := by decide +kernel
theorem d7_5 : decode method_4_code 5 = .ok (.iload_n 0, 1) := by decide +kernel
theorem d7_6 : decode method_4_code 6 = .ok (.iload_n 3, 1) := by decide +kernel
theorem d7_7 : decode method_4_code 7 = .ok (.if_icmp .le 7, 3) := by decide +kernel
theorem d7_10 : decode method_4_code 10 = .ok (.iconst 1, 1) := by decide +kernel
theorem d7_11 : decode method_4_code 11 = .ok (.goto 4, 3) := by decide +kernel
theorem d7_14 : decode method_4_code 14 = .ok (.iconst 0, 1) := by decide +kernel
theorem d7_15 : decode method_4_code 15 = .ok (.ireturn, 1) := by decide +kernel
theorem d7_16 : decode method_4_code 16 = .ok (.iload_n 2, 1) := by decide +kernel
theorem d7_17 : decode method_4_code 17 = .ok (.iload 5, 2) := by decide +kernel
theorem d7_19 : decode method_4_code 19 = .ok (.if_icmp .eq 5, 3) := by decide +kernel
theorem d7_22 : decode method_4_code 22 = .ok (.iconst 0, 1) := by decide +kernel
theorem d7_23 : decode method_4_code 23 = .ok (.ireturn, 1) := by decide +kernel
theorem d7_24 : decode method_4_code 24 = .ok (.iload_n 1, 1) := by decide +kernel
theorem d7_25 : decode method_4_code 25 = .ok (.iload_n 2, 1) := by decide +kernel
theorem d7_26 : decode method_4_code 26 = .ok (.invokestatic 7, 3) := by decide +kernel
theorem d7_29 : decode method_4_code 29 = .ok (.iload 4, 2) := by decide +kernel
theorem d7_31 : decode method_4_code 31 = .ok (.iload 5, 2) := by decide +kernel
theorem d7_33 : decode method_4_code 33 = .ok (.invokestatic 7, 3) := by decide +kernel
theorem d7_36 : decode method_4_code 36 = .ok (.lcmp, 1) := by decide +kernel
theorem d7_37 : decode method_4_code 37 = .ok (.ifCond .ge 7, 3) := by decide +kernel
theorem d7_40 : decode method_4_code 40 = .ok (.iconst 1, 1) := by decide +kernel
theorem d7_41 : decode method_4_code 41 = .ok (.goto 4, 3) := by decide +kernel
theorem d7_44 : decode method_4_code 44 = .ok (.iconst 0, 1) := by decide +kernel
theorem d7_45 : decode method_4_code 45 = .ok (.ireturn, 1) := by decide +kernel
theorem pd_2 : parseMethodDescriptor "(IZ)J" = some ⟨[.int, .boolean], some .long⟩ := by decide +kernel
theorem pn_7 : plainName "com/example/olefin_desk/olefindesk/ContractDayPrecedesPinLaw" = true := by first | (simp [plainName, overriddenIn]; done) | decide +kernel
theorem ef_7 (m : MethodId) (x0 : Int32) (x1 : Int32) (x2 : Int32) (x3 : Int32) (x4 : Int32) (x5 : Int32) : entryFrame m #[(.int x0), (.int x1), (.int x2), (.int x3), (.int x4), (.int x5)] 6 = mkF m 0 #[.val (.int x0), .val (.int x1), .val (.int x2), .val (.int x3), .val (.int x4), .val (.int x5)] [] := by first | (simp [entryFrame, mkF, argsToLocals, Value.category]; done) | rfl
def Q7 (Z : State) (x0 : Int32) (x1 : Int32) (x2 : Int32) (x3 : Int32) (x4 : Int32) (x5 : Int32) (h0 : Heap) (n0 : Nat) (v : Option Value) (h : Heap) (L : List Loc) : Prop := v = some (.int (own_exp x0 x1 x2 x3 x4 x5)) ∧ Fr n0 L ∧ h = h0
set_option maxRecDepth 65536 in
set_option maxHeartbeats 40000000 in
theorem rm7 (l : Launch) (Z : State) (a0 : Array Value) (hw : ∀ d ∈ tables_1, d.before a0 Z = true) (ws : List Jvm.Cond) (x0 : Int32) (x1 : Int32) (x2 : Int32) (x3 : Int32) (x4 : Int32) (x5 : Int32) (h0 : Heap) (n0 : Nat) (Z0 : n0 ≤ h0.size) :
    MetFree l (⟨"com/example/olefin_desk/olefindesk/ContractDayPrecedesPinLaw", "expected", "(IIZIIZ)Z"⟩ : MethodName) (head1 (Jvm.Cond.code (⟨"com/example/olefin_desk/olefindesk/ContractDayPrecedesPinLaw", "expected", "(IIZIIZ)Z"⟩ : MethodName) method_4_code 6 (some .boolean) :: ws) ({ frames := 1, cells := 0, slots := 0, locals := 15 } : Room)) (fun a U => a = #[(.int x0), (.int x1), (.int x2), (.int x3), (.int x4), (.int x5)] ∧ Z.Warmed39 U.vm ∧ U.heap = h0) (fun _ _ _ _ _ => True) (fun _ U o U' => ∃ v L, o = .returned v ∧ Q7 Z x0 x1 x2 x3 x4 x5 h0 n0 v U'.heap L ∧ FrameEnd U o U' L ({ frames := 1, cells := 0, slots := 0, locals := 15 } : Room).cells ({ frames := 1, cells := 0, slots := 0, locals := 15 } : Room).slots) := by
  refine MetFree.of_bodySF (plainFor_of_name pn_7) hisR ?_
  intro p e s m args below meth c s₁ Bd hml0 hP hK
  obtain ⟨rfl, hZ, hh⟩ := hP
  have hx := Bd.exec
  have hby := Bd.bytes
  have hret := Bd.returns
  have hnl : meth.locks = false := Bd.notSynchronized
  have hml : c.maxLocals = 6 := hml0
  have hown : s.vm.findClass "com/example/olefin_desk/olefindesk/ContractDayPrecedesPinLaw" = some m.cls := findClass_of_methodNamed Bd.named
  have hnm := (name_of_methodNamed Bd.named Bd.method).1
  have X0 : Stand p l e ({ frames := 1, cells := 0, slots := 0, locals := 15 } : Room) s m #[(.int x0), (.int x1), (.int x2), (.int x3), (.int x4), (.int x5)] below meth c s₁ [] 0 0 := Stand.of_body Bd
  have e0 : s₁.heap = h0 := by rw [← hh, Bd.state]; rfl
  have N0 := Fr.nil n0
  suffices key : own_Fin p e below s s₁ (mkF m 0 #[.val (.int x0), .val (.int x1), .val (.int x2), .val (.int x3), .val (.int x4), .val (.int x5)] []) (Q7 Z x0 x1 x2 x3 x4 x5 h0 n0) ({ frames := 1, cells := 0, slots := 0, locals := 15 } : Room).cells ({ frames := 1, cells := 0, slots := 0, locals := 15 } : Room).slots by
    obtain ⟨s2, o, h1, h2⟩ := key
    exact ⟨s2, o, castTop (ef_7 m x0 x1 x2 x3 x4 x5) h1, h2⟩
  refine own_go (fun _ => XS.iloadN X0.here hx rfl (hb hby d7_0) rfl) ?_
  show own_Fin _ _ _ _ s₁ (mkF m 1 #[.val (.int x0), .val (.int x1), .val (.int x2), .val (.int x3), .val (.int x4), .val (.int x5)] [(.int x0)]) _ _ _
  refine own_go (fun _ => XS.iloadN X0.here hx rfl (hb hby d7_1) rfl) ?_
  show own_Fin _ _ _ _ s₁ (mkF m 2 #[.val (.int x0), .val (.int x1), .val (.int x2), .val (.int x3), .val (.int x4), .val (.int x5)] [(.int x3), (.int x0)]) _ _ _
  by_cases h2 : x0 = x3
  · refine own_go (fun _ => XS.icmpYes X0.here hx rfl (pc0 := 2) (pc' := 16) rfl (hb hby d7_2) rfl (teq h2).1 (by decide) (by decide)) ?_
    show own_Fin _ _ _ _ s₁ (mkF m 16 #[.val (.int x0), .val (.int x1), .val (.int x2), .val (.int x3), .val (.int x4), .val (.int x5)] []) _ _ _
    refine own_go (fun _ => XS.iloadN X0.here hx rfl (hb hby d7_16) rfl) ?_
    show own_Fin _ _ _ _ s₁ (mkF m 17 #[.val (.int x0), .val (.int x1), .val (.int x2), .val (.int x3), .val (.int x4), .val (.int x5)] [(.int x2)]) _ _ _
    refine own_go (fun _ => XS.iload X0.here hx rfl (hb hby d7_17) rfl) ?_
    show own_Fin _ _ _ _ s₁ (mkF m 19 #[.val (.int x0), .val (.int x1), .val (.int x2), .val (.int x3), .val (.int x4), .val (.int x5)] [(.int x5), (.int x2)]) _ _ _
    by_cases h19 : x2 = x5
    · refine own_go (fun _ => XS.icmpYes X0.here hx rfl (pc0 := 19) (pc' := 24) rfl (hb hby d7_19) rfl (teq h19).1 (by decide) (by decide)) ?_
      show own_Fin _ _ _ _ s₁ (mkF m 24 #[.val (.int x0), .val (.int x1), .val (.int x2), .val (.int x3), .val (.int x4), .val (.int x5)] []) _ _ _
      refine own_go (fun _ => XS.iloadN X0.here hx rfl (hb hby d7_24) rfl) ?_
      show own_Fin _ _ _ _ s₁ (mkF m 25 #[.val (.int x0), .val (.int x1), .val (.int x2), .val (.int x3), .val (.int x4), .val (.int x5)] [(.int x1)]) _ _ _
      refine own_go (fun _ => XS.iloadN X0.here hx rfl (hb hby d7_25) rfl) ?_
      show own_Fin _ _ _ _ s₁ (mkF m 26 #[.val (.int x0), .val (.int x1), .val (.int x2), .val (.int x3), .val (.int x4), .val (.int x5)] [(.int x2), (.int x1)]) _ _ _
      obtain ⟨_, _, ⟨T1, L1, k1, n1⟩, -, X1, ⟨Lc1, hQ1, l1, y1, z1⟩, st1⟩ := Jvm.LawKit.callS X0 hx (y := (⟨"com/example/olefin_desk/olefindesk/ContractDayPrecedesPinLaw", "position", "(IZ)J"⟩ : MethodName)) hown (mvT hZ (hw _ (List.mem_of_getElem? (i := 46) rfl))) (mvT hZ (hw _ (List.mem_of_getElem? (i := 47) rfl))) (mvT hZ (hw _ (List.mem_of_getElem? (i := 2) rfl))) (mvT hZ (hw _ (List.mem_of_getElem? (i := 48) rfl))) (by decide) (backOf (W := 0) (rm9 l Z a0 hw [] x1 x2  h0 n0 Z0 ) hZ (hw _ (List.mem_of_getElem? (i := 48) rfl)) (hw _ (List.mem_of_getElem? (i := 2) rfl)) (by decide) (by decide)) (g := (mkF m 26 #[.val (.int x0), .val (.int x1), .val (.int x2), .val (.int x3), .val (.int x4), .val (.int x5)] [(.int x2), (.int x1)])) rfl (by rw [hml]; rfl) (argsL := [(.int x1), (.int x2)]) (rest := []) (lenOf pd_2 rfl) rfl (by show 2 * 0 + _ ≤ _; exact Nat.le_of_eq rfl) (hb hby d7_26) (fun _ _ => ⟨rfl, e0, (by decide : 0 + 0 ≤ _), (by decide : 0 + 0 ≤ _)⟩)
      dsimp only [Pt.U, Pt.locs, Pt.cells, Pt.slots] at X1 l1 y1 z1 st1 hQ1
      subst l1 y1 z1
      obtain ⟨rfl, N1q, e1⟩ := hQ1
      have N1 := Fr.app N0 N1q
      refine own_go st1 ?_
      show own_Fin _ _ _ _ T1 (mkF m 29 #[.val (.int x0), .val (.int x1), .val (.int x2), .val (.int x3), .val (.int x4), .val (.int x5)] [(.long (own_pos x1 x2))]) _ _ _
      refine own_go (fun _ => XS.iload X1.here hx rfl (hb hby d7_29) rfl) ?_
      show own_Fin _ _ _ _ T1 (mkF m 31 #[.val (.int x0), .val (.int x1), .val (.int x2), .val (.int x3), .val (.int x4), .val (.int x5)] [(.int x4), (.long (own_pos x1 x2))]) _ _ _
      refine own_go (fun _ => XS.iload X1.here hx rfl (hb hby d7_31) rfl) ?_
      show own_Fin _ _ _ _ T1 (mkF m 33 #[.val (.int x0), .val (.int x1), .val (.int x2), .val (.int x3), .val (.int x4), .val (.int x5)] [(.int x5), (.int x4), (.long (own_pos x1 x2))]) _ _ _
      obtain ⟨_, _, ⟨T2, L2, k2, n2⟩, -, X2, ⟨Lc2, hQ2, l2, y2, z2⟩, st2⟩ := Jvm.LawKit.callS X1 hx (y := (⟨"com/example/olefin_desk/olefindesk/ContractDayPrecedesPinLaw", "position", "(IZ)J"⟩ : MethodName)) hown (mvT hZ (hw _ (List.mem_of_getElem? (i := 46) rfl))) (mvT hZ (hw _ (List.mem_of_getElem? (i := 47) rfl))) (mvT hZ (hw _ (List.mem_of_getElem? (i := 2) rfl))) (mvT hZ (hw _ (List.mem_of_getElem? (i := 48) rfl))) (by decide) (backOf (W := 2) (rm9 l Z a0 hw [] x4 x5  h0 n0 Z0 ) hZ (hw _ (List.mem_of_getElem? (i := 48) rfl)) (hw _ (List.mem_of_getElem? (i := 2) rfl)) (by decide) (by decide)) (g := (mkF m 33 #[.val (.int x0), .val (.int x1), .val (.int x2), .val (.int x3), .val (.int x4), .val (.int x5)] [(.int x5), (.int x4), (.long (own_pos x1 x2))])) rfl (by rw [hml]; rfl) (argsL := [(.int x4), (.int x5)]) (rest := [(.long (own_pos x1 x2))]) (lenOf pd_2 rfl) rfl (by show 2 * 0 + _ ≤ _; exact Nat.le_of_eq rfl) (hb hby d7_33) (fun _ _ => ⟨rfl, e1, (by decide : 0 + 0 ≤ _), (by decide : 0 + 0 ≤ _)⟩)
      dsimp only [Pt.U, Pt.locs, Pt.cells, Pt.slots] at X2 l2 y2 z2 st2 hQ2
      subst l2 y2 z2
      obtain ⟨rfl, N2q, e2⟩ := hQ2
      have N2 := Fr.app N1 N2q
      refine own_go st2 ?_
      show own_Fin _ _ _ _ T2 (mkF m 36 #[.val (.int x0), .val (.int x1), .val (.int x2), .val (.int x3), .val (.int x4), .val (.int x5)] [(.long (own_pos x4 x5)), (.long (own_pos x1 x2))]) _ _ _
      refine own_go (fun _ => XS.lcmp X2.here hx rfl (hb hby d7_36) rfl) ?_
      show own_Fin _ _ _ _ T2 (mkF m 37 #[.val (.int x0), .val (.int x1), .val (.int x2), .val (.int x3), .val (.int x4), .val (.int x5)] [(.int (lcmpW (own_pos x1 x2) (own_pos x4 x5)))]) _ _ _
      by_cases h37 : (own_pos x1 x2) < (own_pos x4 x5)
      · refine own_go (fun _ => XS.ifNo X2.here hx rfl (hb hby d7_37) rfl ((if0 _ _).trans (tlt ((lw_lt _ _).mpr h37)).2.1)) ?_
        show own_Fin _ _ _ _ T2 (mkF m 40 #[.val (.int x0), .val (.int x1), .val (.int x2), .val (.int x3), .val (.int x4), .val (.int x5)] []) _ _ _
        refine own_go (fun _ => XS.iconst X2.here hx rfl (hb hby d7_40)) ?_
        show own_Fin _ _ _ _ T2 (mkF m 41 #[.val (.int x0), .val (.int x1), .val (.int x2), .val (.int x3), .val (.int x4), .val (.int x5)] [(.int (1 : Int32))]) _ _ _
        refine own_go (fun _ => XS.goto X2.here hx rfl (pc0 := 41) (pc' := 45) rfl (hb hby d7_41) (by decide) (by decide)) ?_
        show own_Fin _ _ _ _ T2 (mkF m 45 #[.val (.int x0), .val (.int x1), .val (.int x2), .val (.int x3), .val (.int x4), .val (.int x5)] [(.int (1 : Int32))]) _ _ _
        exact own_retZ X2 hx hnl (t := .boolean) hret (by simp) (hb hby d7_45) (by decide) (by decide) ⟨congrArg (fun z => some (Value.int z)) (show ((1 : Int32) : Int32) = own_exp x0 x1 x2 x3 x4 x5 from by simp only [own_exp, if_pos h2, if_pos h19, if_pos h37]), N2, e2⟩
      · refine own_go (fun _ => XS.ifYes X2.here hx rfl (pc0 := 37) (pc' := 44) rfl (hb hby d7_37) rfl ((if0 _ _).trans (flt (mt (lw_lt _ _).mp h37)).2.1) (by decide) (by decide)) ?_
        show own_Fin _ _ _ _ T2 (mkF m 44 #[.val (.int x0), .val (.int x1), .val (.int x2), .val (.int x3), .val (.int x4), .val (.int x5)] []) _ _ _
        refine own_go (fun _ => XS.iconst X2.here hx rfl (hb hby d7_44)) ?_
        show own_Fin _ _ _ _ T2 (mkF m 45 #[.val (.int x0), .val (.int x1), .val (.int x2), .val (.int x3), .val (.int x4), .val (.int x5)] [(.int (0 : Int32))]) _ _ _
        exact own_retZ X2 hx hnl (t := .boolean) hret (by simp) (hb hby d7_45) (by decide) (by decide) ⟨congrArg (fun z => some (Value.int z)) (show ((0 : Int32) : Int32) = own_exp x0 x1 x2 x3 x4 x5 from by simp only [own_exp, if_pos h2, if_pos h19, if_neg h37]), N2, e2⟩
    · refine own_go (fun _ => XS.icmpNo X0.here hx rfl (hb hby d7_19) rfl (feq h19).1) ?_
      show own_Fin _ _ _ _ s₁ (mkF m 22 #[.val (.int x0), .val (.int x1), .val (.int x2), .val (.int x3), .val (.int x4), .val (.int x5)] []) _ _ _
      refine own_go (fun _ => XS.iconst X0.here hx rfl (hb hby d7_22)) ?_
      show own_Fin _ _ _ _ s₁ (mkF m 23 #[.val (.int x0), .val (.int x1), .val (.int x2), .val (.int x3), .val (.int x4), .val (.int x5)] [(.int (0 : Int32))]) _ _ _
      exact own_retZ X0 hx hnl (t := .boolean) hret (by simp) (hb hby d7_23) (by decide) (by decide) ⟨congrArg (fun z => some (Value.int z)) (show ((0 : Int32) : Int32) = own_exp x0 x1 x2 x3 x4 x5 from by simp only [own_exp, if_pos h2, if_neg h19]), N0, e0⟩
  · refine own_go (fun _ => XS.icmpNo X0.here hx rfl (hb hby d7_2) rfl (feq h2).1) ?_
    show own_Fin _ _ _ _ s₁ (mkF m 5 #[.val (.int x0), .val (.int x1), .val (.int x2), .val (.int x3), .val (.int x4), .val (.int x5)] []) _ _ _
    refine own_go (fun _ => XS.iloadN X0.here hx rfl (hb hby d7_5) rfl) ?_
    show own_Fin _ _ _ _ s₁ (mkF m 6 #[.val (.int x0), .val (.int x1), .val (.int x2), .val (.int x3), .val (.int x4), .val (.int x5)] [(.int x0)]) _ _ _
    refine own_go (fun _ => XS.iloadN X0.here hx rfl (hb hby d7_6) rfl) ?_
    show own_Fin _ _ _ _ s₁ (mkF m 7 #[.val (.int x0), .val (.int x1), .val (.int x2), .val (.int x3), .val (.int x4), .val (.int x5)] [(.int x3), (.int x0)]) _ _ _
    by_cases h7 : x3 < x0
    · refine own_go (fun _ => XS.icmpNo X0.here hx rfl (hb hby d7_7) rfl (tlt h7).2.2.2) ?_
      show own_Fin _ _ _ _ s₁ (mkF m 10 #[.val (.int x0), .val (.int x1), .val (.int x2), .val (.int x3), .val (.int x4), .val (.int x5)] []) _ _ _
      refine own_go (fun _ => XS.iconst X0.here hx rfl (hb hby d7_10)) ?_
      show own_Fin _ _ _ _ s₁ (mkF m 11 #[.val (.int x0), .val (.int x1), .val (.int x2), .val (.int x3), .val (.int x4), .val (.int x5)] [(.int (1 : Int32))]) _ _ _
      refine own_go (fun _ => XS.goto X0.here hx rfl (pc0 := 11) (pc' := 15) rfl (hb hby d7_11) (by decide) (by decide)) ?_
      show own_Fin _ _ _ _ s₁ (mkF m 15 #[.val (.int x0), .val (.int x1), .val (.int x2), .val (.int x3), .val (.int x4), .val (.int x5)] [(.int (1 : Int32))]) _ _ _
      exact own_retZ X0 hx hnl (t := .boolean) hret (by simp) (hb hby d7_15) (by decide) (by decide) ⟨congrArg (fun z => some (Value.int z)) (show ((1 : Int32) : Int32) = own_exp x0 x1 x2 x3 x4 x5 from by simp only [own_exp, if_neg h2, if_pos h7]), N0, e0⟩
    · refine own_go (fun _ => XS.icmpYes X0.here hx rfl (pc0 := 7) (pc' := 14) rfl (hb hby d7_7) rfl (flt h7).2.2.2 (by decide) (by decide)) ?_
      show own_Fin _ _ _ _ s₁ (mkF m 14 #[.val (.int x0), .val (.int x1), .val (.int x2), .val (.int x3), .val (.int x4), .val (.int x5)] []) _ _ _
      refine own_go (fun _ => XS.iconst X0.here hx rfl (hb hby d7_14)) ?_
      show own_Fin _ _ _ _ s₁ (mkF m 15 #[.val (.int x0), .val (.int x1), .val (.int x2), .val (.int x3), .val (.int x4), .val (.int x5)] [(.int (0 : Int32))]) _ _ _
      exact own_retZ X0 hx hnl (t := .boolean) hret (by simp) (hb hby d7_15) (by decide) (by decide) ⟨congrArg (fun z => some (Value.int z)) (show ((0 : Int32) : Int32) = own_exp x0 x1 x2 x3 x4 x5 from by simp only [own_exp, if_neg h2, if_neg h7]), N0, e0⟩

theorem own_pos_lt {z a b : Int32} : own_pos a z < own_pos b z ↔ (if z = 0 then a < b else b < a) := by
  have f : ∀ n : Int32, (-n.toInt64).toInt = -n.toInt := fun n => by
    have hn := own_rng n
    rw [Jvm.Kit.i64_neg (by rw [c_i2l]; omega), c_i2l]
  by_cases h : z = 0
  · simp only [own_pos, h, if_true, own_ltJ, own_lt, c_i2l]
  · simp only [own_pos, h, if_false, own_ltJ, own_lt, f]
    omega
theorem own_law {m k e m' k' e' : Int32} (h : e = 0 ∨ e = 1) (h' : e' = 0 ∨ e' = 1) : own_cprec m m' (nar .boolean e) (nar .boolean e') k k' = own_exp m k e m' k' e' := by
  rw [own_nar h, own_nar h']
  simp only [own_cprec, own_exp, own_prec]
  by_cases q : m = m'
  · simp only [q, if_true]
    by_cases r : e = e'
    · subst r
      simp only [if_true, own_pos_lt]
      by_cases z : e = 0 <;> simp [z]
    · simp only [r, if_false]
  · simp only [q, if_false]

theorem pd_3 : parseMethodDescriptor "(III)I" = some ⟨[.int, .int, .int], some .int⟩ := by decide +kernel
theorem pd_7 : parseMethodDescriptor "(IIZIIZ)Z" = some ⟨[.int, .int, .boolean, .int, .int, .boolean], some .boolean⟩ := by decide +kernel
theorem pd_5 : parseMethodDescriptor "(ILcom/example/olefin_desk/olefindesk/TradingDayOfMonth;)V" = some ⟨[.int, (.object "com/example/olefin_desk/olefindesk/TradingDayOfMonth")], none⟩ := by decide +kernel
theorem pd_4 : parseMethodDescriptor "(IZ)V" = some ⟨[.int, .boolean], none⟩ := by decide +kernel
theorem pd_6 : parseMethodDescriptor "(Lcom/example/olefin_desk/olefindesk/ContractDay;)Z" = some ⟨[(.object "com/example/olefin_desk/olefindesk/ContractDay")], some .boolean⟩ := by decide +kernel
theorem pn_0 : plainName "com/example/olefin_desk/olefindesk/ContractDayPrecedesPinLaw" = true := by first | (simp [plainName, overriddenIn]; done) | decide +kernel
theorem ef_0 (m : MethodId) (x0 : Int32) (x1 : Int32) (x2 : Int32) (x3 : Int32) (x4 : Int32) : entryFrame m #[(.int x0), (.int x1), (.int x2), (.int x3), (.int x4)] maxLocals = mkF m 0 #[.val (.int x0), .val (.int x1), .val (.int x2), .val (.int x3), .val (.int x4), .unset, .unset, .unset, .unset, .unset, .unset, .unset, .unset] [] := by first | (simp [entryFrame, mkF, argsToLocals, Value.category, maxLocals]; done) | rfl
def Q0 (Z : State) (x0 : Int32) (x1 : Int32) (x2 : Int32) (x3 : Int32) (x4 : Int32) (h0 : Heap) (n0 : Nat) (v : Option Value) (h : Heap) (L : List Loc) : Prop := v = some (.int 1) ∧ Fr n0 L
set_option maxRecDepth 65536 in
set_option maxHeartbeats 40000000 in
theorem rm0 (l : Launch) (Z : State) (a0 : Array Value) (hw : ∀ d ∈ tables_1, d.before a0 Z = true) (ws : List Jvm.Cond) (x0 : Int32) (x1 : Int32) (x2 : Int32) (x3 : Int32) (x4 : Int32) (h0 : Heap) (n0 : Nat) (Z0 : n0 ≤ h0.size) :
    MetFree l x (head1 (Jvm.Cond.code x code maxLocals ret :: ws) room_1) (fun a U => a = #[(.int x0), (.int x1), (.int x2), (.int x3), (.int x4)] ∧ Z.Warmed39 U.vm ∧ U.heap = h0) (fun _ _ _ _ _ => True) (fun _ U o U' => ∃ v L, o = .returned v ∧ Q0 Z x0 x1 x2 x3 x4 h0 n0 v U'.heap L ∧ FrameEnd U o U' L room_1.cells room_1.slots) := by
  refine MetFree.of_bodySF (plainFor_of_name pn_0) hisR ?_
  intro p e s m args below meth c s₁ Bd hml0 hP hK
  obtain ⟨rfl, hZ, hh⟩ := hP
  have hx := Bd.exec
  have hby := Bd.bytes
  have hret := Bd.returns
  have hnl : meth.locks = false := Bd.notSynchronized
  have hml : c.maxLocals = 13 := hml0
  have hown : s.vm.findClass "com/example/olefin_desk/olefindesk/ContractDayPrecedesPinLaw" = some m.cls := findClass_of_methodNamed Bd.named
  have hnm := (name_of_methodNamed Bd.named Bd.method).1
  have X0 : Stand p l e room_1 s m #[(.int x0), (.int x1), (.int x2), (.int x3), (.int x4)] below meth c s₁ [] 0 0 := Stand.of_body Bd
  have e0 : s₁.heap = h0 := by rw [← hh, Bd.state]; rfl
  have N0 := Fr.nil n0
  suffices key : own_Fin p e below s s₁ (mkF m 0 #[.val (.int x0), .val (.int x1), .val (.int x2), .val (.int x3), .val (.int x4), .unset, .unset, .unset, .unset, .unset, .unset, .unset, .unset] []) (Q0 Z x0 x1 x2 x3 x4 h0 n0) room_1.cells room_1.slots by
    obtain ⟨s2, o, h1, h2⟩ := key
    exact ⟨s2, o, castTop (ef_0 m x0 x1 x2 x3 x4) h1, h2⟩
  have J12 : ∀ (z : Int32), (z = 0 ∨ z = 1) → own_Fin p e below s s₁ (mkF m 12 #[.val (.int x0), .val (.int x1), .val (.int x2), .val (.int x3), .val (.int x4), .unset, .unset, .unset, .unset, .unset, .unset, .unset, .unset] [(.int z)]) (Q0 Z x0 x1 x2 x3 x4 h0 n0) room_1.cells room_1.slots := by
    intro z hp_J12
    have J26 : ∀ (y : Int32), (y = 0 ∨ y = 1) → own_Fin p e below s s₁ (mkF m 26 #[.val (.int x0), .val (.int x1), .val (.int x2), .val (.int x3), .val (.int x4), .val (.int z), .unset, .unset, .unset, .unset, .unset, .unset, .unset] [(.int y)]) (Q0 Z x0 x1 x2 x3 x4 h0 n0) room_1.cells room_1.slots := by
      intro y hp_J26
      refine own_go (fun _ => XS.istore X0.here hx rfl (hb hby at_26) rfl (l' := #[.val (.int x0), .val (.int x1), .val (.int x2), .val (.int x3), .val (.int x4), .val (.int z), .val (.int y), .unset, .unset, .unset, .unset, .unset, .unset]) rfl) ?_
      show own_Fin _ _ _ _ s₁ (mkF m 28 #[.val (.int x0), .val (.int x1), .val (.int x2), .val (.int x3), .val (.int x4), .val (.int z), .val (.int y), .unset, .unset, .unset, .unset, .unset, .unset] []) _ _ _
      refine own_go (fun _ => XS.iloadN X0.here hx rfl (hb hby at_28) rfl) ?_
      show own_Fin _ _ _ _ s₁ (mkF m 29 #[.val (.int x0), .val (.int x1), .val (.int x2), .val (.int x3), .val (.int x4), .val (.int z), .val (.int y), .unset, .unset, .unset, .unset, .unset, .unset] [(.int x0)]) _ _ _
      refine own_go (fun _ => XS.iloadN X0.here hx rfl (hb hby at_29) rfl) ?_
      show own_Fin _ _ _ _ s₁ (mkF m 30 #[.val (.int x0), .val (.int x1), .val (.int x2), .val (.int x3), .val (.int x4), .val (.int z), .val (.int y), .unset, .unset, .unset, .unset, .unset, .unset] [(.int x1), (.int x0)]) _ _ _
      refine own_go (fun _ => XS.iload X0.here hx rfl (hb hby at_30) rfl) ?_
      show own_Fin _ _ _ _ s₁ (mkF m 32 #[.val (.int x0), .val (.int x1), .val (.int x2), .val (.int x3), .val (.int x4), .val (.int z), .val (.int y), .unset, .unset, .unset, .unset, .unset, .unset] [(.int x4), (.int x1), (.int x0)]) _ _ _
      refine own_go (fun _ => XS.iconst X0.here hx rfl (hb hby at_32)) ?_
      show own_Fin _ _ _ _ s₁ (mkF m 33 #[.val (.int x0), .val (.int x1), .val (.int x2), .val (.int x3), .val (.int x4), .val (.int z), .val (.int y), .unset, .unset, .unset, .unset, .unset, .unset] [(.int (2 : Int32)), (.int x4), (.int x1), (.int x0)]) _ _ _
      refine own_go (fun _ => XS.ishr X0.here hx rfl (hb hby at_33) rfl) ?_
      show own_Fin _ _ _ _ s₁ (mkF m 34 #[.val (.int x0), .val (.int x1), .val (.int x2), .val (.int x3), .val (.int x4), .val (.int z), .val (.int y), .unset, .unset, .unset, .unset, .unset, .unset] [(.int (x4 >>> ((2 : Int32) &&& 31))), (.int x1), (.int x0)]) _ _ _
      refine own_go (fun _ => XS.iconst X0.here hx rfl (hb hby at_34)) ?_
      show own_Fin _ _ _ _ s₁ (mkF m 35 #[.val (.int x0), .val (.int x1), .val (.int x2), .val (.int x3), .val (.int x4), .val (.int z), .val (.int y), .unset, .unset, .unset, .unset, .unset, .unset] [(.int (3 : Int32)), (.int (x4 >>> ((2 : Int32) &&& 31))), (.int x1), (.int x0)]) _ _ _
      refine own_go (fun _ => XS.iand X0.here hx rfl (hb hby at_35) rfl) ?_
      show own_Fin _ _ _ _ s₁ (mkF m 36 #[.val (.int x0), .val (.int x1), .val (.int x2), .val (.int x3), .val (.int x4), .val (.int z), .val (.int y), .unset, .unset, .unset, .unset, .unset, .unset] [(.int ((x4 >>> ((2 : Int32) &&& 31)) &&& (3 : Int32))), (.int x1), (.int x0)]) _ _ _
      obtain ⟨_, _, ⟨T1, L1, k1, n1⟩, -, X1, ⟨Lc1, hQ1, l1, y1, z1⟩, st1⟩ := Jvm.LawKit.callS X0 hx (y := (⟨"com/example/olefin_desk/olefindesk/ContractDayPrecedesPinLaw", "partner", "(III)I"⟩ : MethodName)) hown (mvT hZ (hw _ (List.mem_of_getElem? (i := 0) rfl))) (mvT hZ (hw _ (List.mem_of_getElem? (i := 1) rfl))) (mvT hZ (hw _ (List.mem_of_getElem? (i := 2) rfl))) (mvT hZ (hw _ (List.mem_of_getElem? (i := 3) rfl))) (by decide) (backOf (W := 0) (rm1 l Z a0 hw [] x0 x1 ((x4 >>> ((2 : Int32) &&& 31)) &&& (3 : Int32))  h0 n0 Z0 ) hZ (hw _ (List.mem_of_getElem? (i := 3) rfl)) (hw _ (List.mem_of_getElem? (i := 2) rfl)) (by decide) (by decide)) (g := (mkF m 36 #[.val (.int x0), .val (.int x1), .val (.int x2), .val (.int x3), .val (.int x4), .val (.int z), .val (.int y), .unset, .unset, .unset, .unset, .unset, .unset] [(.int ((x4 >>> ((2 : Int32) &&& 31)) &&& (3 : Int32))), (.int x1), (.int x0)])) rfl (by rw [hml]; rfl) (argsL := [(.int x0), (.int x1), (.int ((x4 >>> ((2 : Int32) &&& 31)) &&& (3 : Int32)))]) (rest := []) (lenOf pd_3 rfl) rfl (by show 2 * 0 + _ ≤ _; exact Nat.le_of_eq rfl) (hb hby at_36) (fun _ _ => ⟨rfl, e0, (by decide : 0 + 0 ≤ _), (by decide : 0 + 0 ≤ _)⟩)
      dsimp only [Pt.U, Pt.locs, Pt.cells, Pt.slots] at X1 l1 y1 z1 st1 hQ1
      subst l1 y1 z1
      obtain ⟨rfl, N1q, e1⟩ := hQ1
      have N1 := Fr.app N0 N1q
      refine own_go st1 ?_
      show own_Fin _ _ _ _ T1 (mkF m 39 #[.val (.int x0), .val (.int x1), .val (.int x2), .val (.int x3), .val (.int x4), .val (.int z), .val (.int y), .unset, .unset, .unset, .unset, .unset, .unset] [(.int (own_par x0 x1 ((x4 >>> ((2 : Int32) &&& 31)) &&& (3 : Int32))))]) _ _ _
      refine own_go (fun _ => XS.istore X1.here hx rfl (hb hby at_39) rfl (l' := #[.val (.int x0), .val (.int x1), .val (.int x2), .val (.int x3), .val (.int x4), .val (.int z), .val (.int y), .val (.int (own_par x0 x1 ((x4 >>> ((2 : Int32) &&& 31)) &&& (3 : Int32)))), .unset, .unset, .unset, .unset, .unset]) rfl) ?_
      show own_Fin _ _ _ _ T1 (mkF m 41 #[.val (.int x0), .val (.int x1), .val (.int x2), .val (.int x3), .val (.int x4), .val (.int z), .val (.int y), .val (.int (own_par x0 x1 ((x4 >>> ((2 : Int32) &&& 31)) &&& (3 : Int32)))), .unset, .unset, .unset, .unset, .unset] []) _ _ _
      refine own_go (fun _ => XS.iloadN X1.here hx rfl (hb hby at_41) rfl) ?_
      show own_Fin _ _ _ _ T1 (mkF m 42 #[.val (.int x0), .val (.int x1), .val (.int x2), .val (.int x3), .val (.int x4), .val (.int z), .val (.int y), .val (.int (own_par x0 x1 ((x4 >>> ((2 : Int32) &&& 31)) &&& (3 : Int32)))), .unset, .unset, .unset, .unset, .unset] [(.int x2)]) _ _ _
      refine own_go (fun _ => XS.iloadN X1.here hx rfl (hb hby at_42) rfl) ?_
      show own_Fin _ _ _ _ T1 (mkF m 43 #[.val (.int x0), .val (.int x1), .val (.int x2), .val (.int x3), .val (.int x4), .val (.int z), .val (.int y), .val (.int (own_par x0 x1 ((x4 >>> ((2 : Int32) &&& 31)) &&& (3 : Int32)))), .unset, .unset, .unset, .unset, .unset] [(.int x3), (.int x2)]) _ _ _
      refine own_go (fun _ => XS.iload X1.here hx rfl (hb hby at_43) rfl) ?_
      show own_Fin _ _ _ _ T1 (mkF m 45 #[.val (.int x0), .val (.int x1), .val (.int x2), .val (.int x3), .val (.int x4), .val (.int z), .val (.int y), .val (.int (own_par x0 x1 ((x4 >>> ((2 : Int32) &&& 31)) &&& (3 : Int32)))), .unset, .unset, .unset, .unset, .unset] [(.int x4), (.int x3), (.int x2)]) _ _ _
      refine own_go (fun _ => XS.iconst X1.here hx rfl (hb hby at_45)) ?_
      show own_Fin _ _ _ _ T1 (mkF m 46 #[.val (.int x0), .val (.int x1), .val (.int x2), .val (.int x3), .val (.int x4), .val (.int z), .val (.int y), .val (.int (own_par x0 x1 ((x4 >>> ((2 : Int32) &&& 31)) &&& (3 : Int32)))), .unset, .unset, .unset, .unset, .unset] [(.int (4 : Int32)), (.int x4), (.int x3), (.int x2)]) _ _ _
      refine own_go (fun _ => XS.ishr X1.here hx rfl (hb hby at_46) rfl) ?_
      show own_Fin _ _ _ _ T1 (mkF m 47 #[.val (.int x0), .val (.int x1), .val (.int x2), .val (.int x3), .val (.int x4), .val (.int z), .val (.int y), .val (.int (own_par x0 x1 ((x4 >>> ((2 : Int32) &&& 31)) &&& (3 : Int32)))), .unset, .unset, .unset, .unset, .unset] [(.int (x4 >>> ((4 : Int32) &&& 31))), (.int x3), (.int x2)]) _ _ _
      refine own_go (fun _ => XS.iconst X1.here hx rfl (hb hby at_47)) ?_
      show own_Fin _ _ _ _ T1 (mkF m 48 #[.val (.int x0), .val (.int x1), .val (.int x2), .val (.int x3), .val (.int x4), .val (.int z), .val (.int y), .val (.int (own_par x0 x1 ((x4 >>> ((2 : Int32) &&& 31)) &&& (3 : Int32)))), .unset, .unset, .unset, .unset, .unset] [(.int (3 : Int32)), (.int (x4 >>> ((4 : Int32) &&& 31))), (.int x3), (.int x2)]) _ _ _
      refine own_go (fun _ => XS.iand X1.here hx rfl (hb hby at_48) rfl) ?_
      show own_Fin _ _ _ _ T1 (mkF m 49 #[.val (.int x0), .val (.int x1), .val (.int x2), .val (.int x3), .val (.int x4), .val (.int z), .val (.int y), .val (.int (own_par x0 x1 ((x4 >>> ((2 : Int32) &&& 31)) &&& (3 : Int32)))), .unset, .unset, .unset, .unset, .unset] [(.int ((x4 >>> ((4 : Int32) &&& 31)) &&& (3 : Int32))), (.int x3), (.int x2)]) _ _ _
      obtain ⟨_, _, ⟨T2, L2, k2, n2⟩, -, X2, ⟨Lc2, hQ2, l2, y2, z2⟩, st2⟩ := Jvm.LawKit.callS X1 hx (y := (⟨"com/example/olefin_desk/olefindesk/ContractDayPrecedesPinLaw", "partner", "(III)I"⟩ : MethodName)) hown (mvT hZ (hw _ (List.mem_of_getElem? (i := 0) rfl))) (mvT hZ (hw _ (List.mem_of_getElem? (i := 1) rfl))) (mvT hZ (hw _ (List.mem_of_getElem? (i := 2) rfl))) (mvT hZ (hw _ (List.mem_of_getElem? (i := 3) rfl))) (by decide) (backOf (W := 0) (rm1 l Z a0 hw [] x2 x3 ((x4 >>> ((4 : Int32) &&& 31)) &&& (3 : Int32))  h0 n0 Z0 ) hZ (hw _ (List.mem_of_getElem? (i := 3) rfl)) (hw _ (List.mem_of_getElem? (i := 2) rfl)) (by decide) (by decide)) (g := (mkF m 49 #[.val (.int x0), .val (.int x1), .val (.int x2), .val (.int x3), .val (.int x4), .val (.int z), .val (.int y), .val (.int (own_par x0 x1 ((x4 >>> ((2 : Int32) &&& 31)) &&& (3 : Int32)))), .unset, .unset, .unset, .unset, .unset] [(.int ((x4 >>> ((4 : Int32) &&& 31)) &&& (3 : Int32))), (.int x3), (.int x2)])) rfl (by rw [hml]; rfl) (argsL := [(.int x2), (.int x3), (.int ((x4 >>> ((4 : Int32) &&& 31)) &&& (3 : Int32)))]) (rest := []) (lenOf pd_3 rfl) rfl (by show 2 * 0 + _ ≤ _; exact Nat.le_of_eq rfl) (hb hby at_49) (fun _ _ => ⟨rfl, e1, (by decide : 0 + 0 ≤ _), (by decide : 0 + 0 ≤ _)⟩)
      dsimp only [Pt.U, Pt.locs, Pt.cells, Pt.slots] at X2 l2 y2 z2 st2 hQ2
      subst l2 y2 z2
      obtain ⟨rfl, N2q, e2⟩ := hQ2
      have N2 := Fr.app N1 N2q
      refine own_go st2 ?_
      show own_Fin _ _ _ _ T2 (mkF m 52 #[.val (.int x0), .val (.int x1), .val (.int x2), .val (.int x3), .val (.int x4), .val (.int z), .val (.int y), .val (.int (own_par x0 x1 ((x4 >>> ((2 : Int32) &&& 31)) &&& (3 : Int32)))), .unset, .unset, .unset, .unset, .unset] [(.int (own_par x2 x3 ((x4 >>> ((4 : Int32) &&& 31)) &&& (3 : Int32))))]) _ _ _
      refine own_go (fun _ => XS.istore X2.here hx rfl (hb hby at_52) rfl (l' := #[.val (.int x0), .val (.int x1), .val (.int x2), .val (.int x3), .val (.int x4), .val (.int z), .val (.int y), .val (.int (own_par x0 x1 ((x4 >>> ((2 : Int32) &&& 31)) &&& (3 : Int32)))), .val (.int (own_par x2 x3 ((x4 >>> ((4 : Int32) &&& 31)) &&& (3 : Int32)))), .unset, .unset, .unset, .unset]) rfl) ?_
      show own_Fin _ _ _ _ T2 (mkF m 54 #[.val (.int x0), .val (.int x1), .val (.int x2), .val (.int x3), .val (.int x4), .val (.int z), .val (.int y), .val (.int (own_par x0 x1 ((x4 >>> ((2 : Int32) &&& 31)) &&& (3 : Int32)))), .val (.int (own_par x2 x3 ((x4 >>> ((4 : Int32) &&& 31)) &&& (3 : Int32)))), .unset, .unset, .unset, .unset] []) _ _ _
      obtain ⟨T3, h3, X3, e3, E3, A3, D3, -, st3⟩ := newO X2 hx hZ hown (hw _ (List.mem_of_getElem? (i := 4) rfl)) (hw _ (List.mem_of_getElem? (i := 5) rfl)) (hw _ (List.mem_of_getElem? (i := 6) rfl)) e2 (g := (mkF m 54 #[.val (.int x0), .val (.int x1), .val (.int x2), .val (.int x3), .val (.int x4), .val (.int z), .val (.int y), .val (.int (own_par x0 x1 ((x4 >>> ((2 : Int32) &&& 31)) &&& (3 : Int32)))), .val (.int (own_par x2 x3 ((x4 >>> ((4 : Int32) &&& 31)) &&& (3 : Int32)))), .unset, .unset, .unset, .unset] [])) rfl (hb hby at_54) (by decide) (by decide)
      obtain ⟨b3, g3⟩ : ∃ z, z = h0.size := ⟨_, rfl⟩
      rw [← g3] at A3 D3 st3
      have F_monthsBeforeDelivery_b3 : Fld Z h3 b3 "com/example/olefin_desk/olefindesk/ContractDay" "monthsBeforeDelivery" "I" (.int (0 : Int32)) := D3 (Or.inr (hw _ (List.mem_of_getElem? (i := 30) rfl))) (ty := .int) (by decide)
      have F_day_b3 : Fld Z h3 b3 "com/example/olefin_desk/olefindesk/ContractDay" "day" "Lcom/example/olefin_desk/olefindesk/TradingDayOfMonth;" .null := D3 (Or.inr (hw _ (List.mem_of_getElem? (i := 32) rfl))) (ty := (.object "com/example/olefin_desk/olefindesk/TradingDayOfMonth")) (by decide)
      have g_b3 : n0 ≤ b3 := Nat.le_trans Z0 (Nat.le_of_eq g3.symm)
      have Z3 : n0 ≤ h3.size := Nat.le_trans Z0 E3.1
      have sz_b3 : h0.size ≤ b3 := Nat.le_trans ((Keep.refl h0 [])).1 (Nat.le_of_eq g3.symm)
      have K3 : Keep h0 h3 [] := ((Keep.refl h0 [])).ext E3
      refine own_go st3 ?_
      show own_Fin _ _ _ _ T3 (mkF m 57 #[.val (.int x0), .val (.int x1), .val (.int x2), .val (.int x3), .val (.int x4), .val (.int z), .val (.int y), .val (.int (own_par x0 x1 ((x4 >>> ((2 : Int32) &&& 31)) &&& (3 : Int32)))), .val (.int (own_par x2 x3 ((x4 >>> ((4 : Int32) &&& 31)) &&& (3 : Int32)))), .unset, .unset, .unset, .unset] [(.ref b3)]) _ _ _
      refine own_go (fun _ => XS.dup X3.here hx rfl (hb hby at_57) rfl rfl) ?_
      show own_Fin _ _ _ _ T3 (mkF m 58 #[.val (.int x0), .val (.int x1), .val (.int x2), .val (.int x3), .val (.int x4), .val (.int z), .val (.int y), .val (.int (own_par x0 x1 ((x4 >>> ((2 : Int32) &&& 31)) &&& (3 : Int32)))), .val (.int (own_par x2 x3 ((x4 >>> ((4 : Int32) &&& 31)) &&& (3 : Int32)))), .unset, .unset, .unset, .unset] [(.ref b3), (.ref b3)]) _ _ _
      refine own_go (fun _ => XS.iloadN X3.here hx rfl (hb hby at_58) rfl) ?_
      show own_Fin _ _ _ _ T3 (mkF m 59 #[.val (.int x0), .val (.int x1), .val (.int x2), .val (.int x3), .val (.int x4), .val (.int z), .val (.int y), .val (.int (own_par x0 x1 ((x4 >>> ((2 : Int32) &&& 31)) &&& (3 : Int32)))), .val (.int (own_par x2 x3 ((x4 >>> ((4 : Int32) &&& 31)) &&& (3 : Int32)))), .unset, .unset, .unset, .unset] [(.int x0), (.ref b3), (.ref b3)]) _ _ _
      obtain ⟨T4, h4, X4, e4, E4, A4, D4, -, st4⟩ := newO X3 hx hZ hown (hw _ (List.mem_of_getElem? (i := 7) rfl)) (hw _ (List.mem_of_getElem? (i := 8) rfl)) (hw _ (List.mem_of_getElem? (i := 9) rfl)) e3 (g := (mkF m 59 #[.val (.int x0), .val (.int x1), .val (.int x2), .val (.int x3), .val (.int x4), .val (.int z), .val (.int y), .val (.int (own_par x0 x1 ((x4 >>> ((2 : Int32) &&& 31)) &&& (3 : Int32)))), .val (.int (own_par x2 x3 ((x4 >>> ((4 : Int32) &&& 31)) &&& (3 : Int32)))), .unset, .unset, .unset, .unset] [(.int x0), (.ref b3), (.ref b3)])) rfl (hb hby at_59) (by decide) (by decide)
      obtain ⟨b4, g4⟩ : ∃ z, z = h3.size := ⟨_, rfl⟩
      rw [← g4] at A4 D4 st4
      have F_n_b4 : Fld Z h4 b4 "com/example/olefin_desk/olefindesk/TradingDayOfMonth" "n" "I" (.int (0 : Int32)) := D4 (Or.inr (hw _ (List.mem_of_getElem? (i := 22) rfl))) (ty := .int) (by decide)
      have F_fromEnd_b4 : Fld Z h4 b4 "com/example/olefin_desk/olefindesk/TradingDayOfMonth" "fromEnd" "Z" (.int (0 : Int32)) := D4 (Or.inr (hw _ (List.mem_of_getElem? (i := 24) rfl))) (ty := .boolean) (by decide)
      have g_b4 : n0 ≤ b4 := Nat.le_trans Z3 (Nat.le_of_eq g4.symm)
      have Z4 : n0 ≤ h4.size := Nat.le_trans Z3 E4.1
      have ne_b3_b4 : b3 ≠ b4 := Nat.ne_of_lt (Nat.lt_of_lt_of_le (A3).lt (Nat.le_of_eq g4.symm))
      have sz_b4 : h0.size ≤ b4 := Nat.le_trans (K3).1 (Nat.le_of_eq g4.symm)
      have K4 : Keep h0 h4 [] := (K3).ext E4
      have F4_b3_monthsBeforeDelivery := (F_monthsBeforeDelivery_b3).ext E4
      have F4_b3_day := (F_day_b3).ext E4
      have E4_b3 := (A3).ext E4
      refine own_go st4 ?_
      show own_Fin _ _ _ _ T4 (mkF m 62 #[.val (.int x0), .val (.int x1), .val (.int x2), .val (.int x3), .val (.int x4), .val (.int z), .val (.int y), .val (.int (own_par x0 x1 ((x4 >>> ((2 : Int32) &&& 31)) &&& (3 : Int32)))), .val (.int (own_par x2 x3 ((x4 >>> ((4 : Int32) &&& 31)) &&& (3 : Int32)))), .unset, .unset, .unset, .unset] [(.ref b4), (.int x0), (.ref b3), (.ref b3)]) _ _ _
      refine own_go (fun _ => XS.dup X4.here hx rfl (hb hby at_62) rfl rfl) ?_
      show own_Fin _ _ _ _ T4 (mkF m 63 #[.val (.int x0), .val (.int x1), .val (.int x2), .val (.int x3), .val (.int x4), .val (.int z), .val (.int y), .val (.int (own_par x0 x1 ((x4 >>> ((2 : Int32) &&& 31)) &&& (3 : Int32)))), .val (.int (own_par x2 x3 ((x4 >>> ((4 : Int32) &&& 31)) &&& (3 : Int32)))), .unset, .unset, .unset, .unset] [(.ref b4), (.ref b4), (.int x0), (.ref b3), (.ref b3)]) _ _ _
      refine own_go (fun _ => XS.iloadN X4.here hx rfl (hb hby at_63) rfl) ?_
      show own_Fin _ _ _ _ T4 (mkF m 64 #[.val (.int x0), .val (.int x1), .val (.int x2), .val (.int x3), .val (.int x4), .val (.int z), .val (.int y), .val (.int (own_par x0 x1 ((x4 >>> ((2 : Int32) &&& 31)) &&& (3 : Int32)))), .val (.int (own_par x2 x3 ((x4 >>> ((4 : Int32) &&& 31)) &&& (3 : Int32)))), .unset, .unset, .unset, .unset] [(.int x2), (.ref b4), (.ref b4), (.int x0), (.ref b3), (.ref b3)]) _ _ _
      refine own_go (fun _ => XS.iload X4.here hx rfl (hb hby at_64) rfl) ?_
      show own_Fin _ _ _ _ T4 (mkF m 66 #[.val (.int x0), .val (.int x1), .val (.int x2), .val (.int x3), .val (.int x4), .val (.int z), .val (.int y), .val (.int (own_par x0 x1 ((x4 >>> ((2 : Int32) &&& 31)) &&& (3 : Int32)))), .val (.int (own_par x2 x3 ((x4 >>> ((4 : Int32) &&& 31)) &&& (3 : Int32)))), .unset, .unset, .unset, .unset] [(.int z), (.int x2), (.ref b4), (.ref b4), (.int x0), (.ref b3), (.ref b3)]) _ _ _
      obtain ⟨_, _, ⟨T5, L5, k5, n5⟩, -, X5, ⟨Lc5, hQ5, l5, y5, z5⟩, st5⟩ := X4.specialBack hx (y := (⟨"com/example/olefin_desk/olefindesk/TradingDayOfMonth", "<init>", "(IZ)V"⟩ : MethodName)) rfl hown (mvT hZ (hw _ (List.mem_of_getElem? (i := 10) rfl))) (mvT hZ (hw _ (List.mem_of_getElem? (i := 11) rfl))) (mvT hZ (hw _ (List.mem_of_getElem? (i := 12) rfl))) (by decide) (backOf (W := 4) (rm2 l Z a0 hw [] b4 x2 z (.int (0 : Int32)) (.int (0 : Int32)) h4 n0 Z4 A4 g_b4 F_n_b4 F_fromEnd_b4) hZ (hw _ (List.mem_of_getElem? (i := 12) rfl)) (hw _ (List.mem_of_getElem? (i := 9) rfl)) (by decide) (by decide)) (g := (mkF m 66 #[.val (.int x0), .val (.int x1), .val (.int x2), .val (.int x3), .val (.int x4), .val (.int z), .val (.int y), .val (.int (own_par x0 x1 ((x4 >>> ((2 : Int32) &&& 31)) &&& (3 : Int32)))), .val (.int (own_par x2 x3 ((x4 >>> ((4 : Int32) &&& 31)) &&& (3 : Int32)))), .unset, .unset, .unset, .unset] [(.int z), (.int x2), (.ref b4), (.ref b4), (.int x0), (.ref b3), (.ref b3)])) rfl (by rw [hml]; rfl) (Steps.refl _) (a := b4) (argsL := [(.int x2), (.int z)]) (rest := [(.ref b4), (.int x0), (.ref b3), (.ref b3)]) (lenOf pd_4 rfl) rfl (by show 2 * 0 + _ ≤ _; exact Nat.le_of_eq rfl) (hb hby at_66) (fun _ _ => ⟨rfl, e4, (by decide : 2 + 0 ≤ _), (by decide : 4 + 0 ≤ _)⟩)
      dsimp only [Pt.U, Pt.locs, Pt.cells, Pt.slots] at X5 l5 y5 z5 st5 hQ5
      subst l5 y5 z5
      obtain ⟨rfl, N5q, K5q, Ex5, Fx5_0, Fx5_1⟩ := hQ5
      have N5 := Fr.app N2 N5q
      have F5_b3_monthsBeforeDelivery := (F4_b3_monthsBeforeDelivery).keep K5q (by simp [ne_b3_b4])
      have F5_b3_day := (F4_b3_day).keep K5q (by simp [ne_b3_b4])
      have E5_b3 := (E4_b3).keep K5q
      have E5_b4 := (A4).keep K5q
      have Kc5 : Keep h0 T5.heap [] := (K4).trans K5q (fun x hx => by cases List.mem_singleton.mp hx; exact (Or.inr sz_b4))
      have Zc5 : n0 ≤ T5.heap.size := Nat.le_trans Z4 (K5q).1
      refine own_gt st5 ?_
      show own_Fin _ _ _ _ T5 (mkF m 69 #[.val (.int x0), .val (.int x1), .val (.int x2), .val (.int x3), .val (.int x4), .val (.int z), .val (.int y), .val (.int (own_par x0 x1 ((x4 >>> ((2 : Int32) &&& 31)) &&& (3 : Int32)))), .val (.int (own_par x2 x3 ((x4 >>> ((4 : Int32) &&& 31)) &&& (3 : Int32)))), .unset, .unset, .unset, .unset] [(.ref b4), (.int x0), (.ref b3), (.ref b3)]) _ _ _
      obtain ⟨_, _, ⟨T6, L6, k6, n6⟩, -, X6, ⟨Lc6, hQ6, l6, y6, z6⟩, st6⟩ := X5.specialBack hx (y := (⟨"com/example/olefin_desk/olefindesk/ContractDay", "<init>", "(ILcom/example/olefin_desk/olefindesk/TradingDayOfMonth;)V"⟩ : MethodName)) rfl hown (mvT hZ (hw _ (List.mem_of_getElem? (i := 25) rfl))) (mvT hZ (hw _ (List.mem_of_getElem? (i := 26) rfl))) (mvT hZ (hw _ (List.mem_of_getElem? (i := 27) rfl))) (by decide) (backOf (W := 1) (rm5 l Z a0 hw [] b3 x0 b4 (.int (0 : Int32)) .null T5.heap n0 Zc5 E5_b3 g_b3 F5_b3_monthsBeforeDelivery F5_b3_day) hZ (hw _ (List.mem_of_getElem? (i := 27) rfl)) (hw _ (List.mem_of_getElem? (i := 6) rfl)) (by decide) (by decide)) (g := (mkF m 69 #[.val (.int x0), .val (.int x1), .val (.int x2), .val (.int x3), .val (.int x4), .val (.int z), .val (.int y), .val (.int (own_par x0 x1 ((x4 >>> ((2 : Int32) &&& 31)) &&& (3 : Int32)))), .val (.int (own_par x2 x3 ((x4 >>> ((4 : Int32) &&& 31)) &&& (3 : Int32)))), .unset, .unset, .unset, .unset] [(.ref b4), (.int x0), (.ref b3), (.ref b3)])) rfl (by rw [hml]; rfl) (Steps.refl _) (a := b3) (argsL := [(.int x0), (.ref b4)]) (rest := [(.ref b3)]) (lenOf pd_5 rfl) rfl (by show 2 * 0 + _ ≤ _; exact Nat.le_of_eq rfl) (hb hby at_69) (fun _ _ => ⟨rfl, rfl, (by decide : 2 + 0 ≤ _), (by decide : 4 + 0 ≤ _)⟩)
      dsimp only [Pt.U, Pt.locs, Pt.cells, Pt.slots] at X6 l6 y6 z6 st6 hQ6
      subst l6 y6 z6
      obtain ⟨rfl, N6q, K6q, Ex6, Fx6_0, Fx6_1⟩ := hQ6
      have N6 := Fr.app N5 N6q
      have F6_b4_n := (Fx5_0).keep K6q (by simp [(Ne.symm ne_b3_b4)])
      have F6_b4_fromEnd := (Fx5_1).keep K6q (by simp [(Ne.symm ne_b3_b4)])
      have E6_b3 := (E5_b3).keep K6q
      have E6_b4 := (Ex5).keep K6q
      have Kc6 : Keep h0 T6.heap [] := (Kc5).trans K6q (fun x hx => by cases List.mem_singleton.mp hx; exact (Or.inr sz_b3))
      have Zc6 : n0 ≤ T6.heap.size := Nat.le_trans Zc5 (K6q).1
      refine own_gt st6 ?_
      show own_Fin _ _ _ _ T6 (mkF m 72 #[.val (.int x0), .val (.int x1), .val (.int x2), .val (.int x3), .val (.int x4), .val (.int z), .val (.int y), .val (.int (own_par x0 x1 ((x4 >>> ((2 : Int32) &&& 31)) &&& (3 : Int32)))), .val (.int (own_par x2 x3 ((x4 >>> ((4 : Int32) &&& 31)) &&& (3 : Int32)))), .unset, .unset, .unset, .unset] [(.ref b3)]) _ _ _
      refine own_go (fun _ => XS.astore X6.here hx rfl (hb hby at_72) rfl rfl (l' := #[.val (.int x0), .val (.int x1), .val (.int x2), .val (.int x3), .val (.int x4), .val (.int z), .val (.int y), .val (.int (own_par x0 x1 ((x4 >>> ((2 : Int32) &&& 31)) &&& (3 : Int32)))), .val (.int (own_par x2 x3 ((x4 >>> ((4 : Int32) &&& 31)) &&& (3 : Int32)))), .val (.ref b3), .unset, .unset, .unset]) rfl) ?_
      show own_Fin _ _ _ _ T6 (mkF m 74 #[.val (.int x0), .val (.int x1), .val (.int x2), .val (.int x3), .val (.int x4), .val (.int z), .val (.int y), .val (.int (own_par x0 x1 ((x4 >>> ((2 : Int32) &&& 31)) &&& (3 : Int32)))), .val (.int (own_par x2 x3 ((x4 >>> ((4 : Int32) &&& 31)) &&& (3 : Int32)))), .val (.ref b3), .unset, .unset, .unset] []) _ _ _
      obtain ⟨T7, h7, X7, e7, E7, A7, D7, -, st7⟩ := newO X6 hx hZ hown (hw _ (List.mem_of_getElem? (i := 4) rfl)) (hw _ (List.mem_of_getElem? (i := 5) rfl)) (hw _ (List.mem_of_getElem? (i := 6) rfl)) rfl (g := (mkF m 74 #[.val (.int x0), .val (.int x1), .val (.int x2), .val (.int x3), .val (.int x4), .val (.int z), .val (.int y), .val (.int (own_par x0 x1 ((x4 >>> ((2 : Int32) &&& 31)) &&& (3 : Int32)))), .val (.int (own_par x2 x3 ((x4 >>> ((4 : Int32) &&& 31)) &&& (3 : Int32)))), .val (.ref b3), .unset, .unset, .unset] [])) rfl (hb hby at_74) (by decide) (by decide)
      obtain ⟨b7, g7⟩ : ∃ z, z = T6.heap.size := ⟨_, rfl⟩
      rw [← g7] at A7 D7 st7
      have F_monthsBeforeDelivery_b7 : Fld Z h7 b7 "com/example/olefin_desk/olefindesk/ContractDay" "monthsBeforeDelivery" "I" (.int (0 : Int32)) := D7 (Or.inr (hw _ (List.mem_of_getElem? (i := 30) rfl))) (ty := .int) (by decide)
      have F_day_b7 : Fld Z h7 b7 "com/example/olefin_desk/olefindesk/ContractDay" "day" "Lcom/example/olefin_desk/olefindesk/TradingDayOfMonth;" .null := D7 (Or.inr (hw _ (List.mem_of_getElem? (i := 32) rfl))) (ty := (.object "com/example/olefin_desk/olefindesk/TradingDayOfMonth")) (by decide)
      have g_b7 : n0 ≤ b7 := Nat.le_trans Zc6 (Nat.le_of_eq g7.symm)
      have Z7 : n0 ≤ h7.size := Nat.le_trans Zc6 E7.1
      have ne_b3_b7 : b3 ≠ b7 := Nat.ne_of_lt (Nat.lt_of_lt_of_le (Ex6).lt (Nat.le_of_eq g7.symm))
      have ne_b4_b7 : b4 ≠ b7 := Nat.ne_of_lt (Nat.lt_of_lt_of_le (E6_b4).lt (Nat.le_of_eq g7.symm))
      have sz_b7 : h0.size ≤ b7 := Nat.le_trans (Kc6).1 (Nat.le_of_eq g7.symm)
      have K7 : Keep h0 h7 [] := (Kc6).ext E7
      have F7_b4_n := (F6_b4_n).ext E7
      have F7_b4_fromEnd := (F6_b4_fromEnd).ext E7
      have F7_b3_monthsBeforeDelivery := (Fx6_0).ext E7
      have F7_b3_day := (Fx6_1).ext E7
      have E7_b3 := (Ex6).ext E7
      have E7_b4 := (E6_b4).ext E7
      refine own_go st7 ?_
      show own_Fin _ _ _ _ T7 (mkF m 77 #[.val (.int x0), .val (.int x1), .val (.int x2), .val (.int x3), .val (.int x4), .val (.int z), .val (.int y), .val (.int (own_par x0 x1 ((x4 >>> ((2 : Int32) &&& 31)) &&& (3 : Int32)))), .val (.int (own_par x2 x3 ((x4 >>> ((4 : Int32) &&& 31)) &&& (3 : Int32)))), .val (.ref b3), .unset, .unset, .unset] [(.ref b7)]) _ _ _
      refine own_go (fun _ => XS.dup X7.here hx rfl (hb hby at_77) rfl rfl) ?_
      show own_Fin _ _ _ _ T7 (mkF m 78 #[.val (.int x0), .val (.int x1), .val (.int x2), .val (.int x3), .val (.int x4), .val (.int z), .val (.int y), .val (.int (own_par x0 x1 ((x4 >>> ((2 : Int32) &&& 31)) &&& (3 : Int32)))), .val (.int (own_par x2 x3 ((x4 >>> ((4 : Int32) &&& 31)) &&& (3 : Int32)))), .val (.ref b3), .unset, .unset, .unset] [(.ref b7), (.ref b7)]) _ _ _
      refine own_go (fun _ => XS.iload X7.here hx rfl (hb hby at_78) rfl) ?_
      show own_Fin _ _ _ _ T7 (mkF m 80 #[.val (.int x0), .val (.int x1), .val (.int x2), .val (.int x3), .val (.int x4), .val (.int z), .val (.int y), .val (.int (own_par x0 x1 ((x4 >>> ((2 : Int32) &&& 31)) &&& (3 : Int32)))), .val (.int (own_par x2 x3 ((x4 >>> ((4 : Int32) &&& 31)) &&& (3 : Int32)))), .val (.ref b3), .unset, .unset, .unset] [(.int (own_par x0 x1 ((x4 >>> ((2 : Int32) &&& 31)) &&& (3 : Int32)))), (.ref b7), (.ref b7)]) _ _ _
      obtain ⟨T8, h8, X8, e8, E8, A8, D8, -, st8⟩ := newO X7 hx hZ hown (hw _ (List.mem_of_getElem? (i := 7) rfl)) (hw _ (List.mem_of_getElem? (i := 8) rfl)) (hw _ (List.mem_of_getElem? (i := 9) rfl)) e7 (g := (mkF m 80 #[.val (.int x0), .val (.int x1), .val (.int x2), .val (.int x3), .val (.int x4), .val (.int z), .val (.int y), .val (.int (own_par x0 x1 ((x4 >>> ((2 : Int32) &&& 31)) &&& (3 : Int32)))), .val (.int (own_par x2 x3 ((x4 >>> ((4 : Int32) &&& 31)) &&& (3 : Int32)))), .val (.ref b3), .unset, .unset, .unset] [(.int (own_par x0 x1 ((x4 >>> ((2 : Int32) &&& 31)) &&& (3 : Int32)))), (.ref b7), (.ref b7)])) rfl (hb hby at_80) (by decide) (by decide)
      obtain ⟨b8, g8⟩ : ∃ z, z = h7.size := ⟨_, rfl⟩
      rw [← g8] at A8 D8 st8
      have F_n_b8 : Fld Z h8 b8 "com/example/olefin_desk/olefindesk/TradingDayOfMonth" "n" "I" (.int (0 : Int32)) := D8 (Or.inr (hw _ (List.mem_of_getElem? (i := 22) rfl))) (ty := .int) (by decide)
      have F_fromEnd_b8 : Fld Z h8 b8 "com/example/olefin_desk/olefindesk/TradingDayOfMonth" "fromEnd" "Z" (.int (0 : Int32)) := D8 (Or.inr (hw _ (List.mem_of_getElem? (i := 24) rfl))) (ty := .boolean) (by decide)
      have g_b8 : n0 ≤ b8 := Nat.le_trans Z7 (Nat.le_of_eq g8.symm)
      have Z8 : n0 ≤ h8.size := Nat.le_trans Z7 E8.1
      have ne_b3_b8 : b3 ≠ b8 := Nat.ne_of_lt (Nat.lt_of_lt_of_le (E7_b3).lt (Nat.le_of_eq g8.symm))
      have ne_b4_b8 : b4 ≠ b8 := Nat.ne_of_lt (Nat.lt_of_lt_of_le (E7_b4).lt (Nat.le_of_eq g8.symm))
      have ne_b7_b8 : b7 ≠ b8 := Nat.ne_of_lt (Nat.lt_of_lt_of_le (A7).lt (Nat.le_of_eq g8.symm))
      have sz_b8 : h0.size ≤ b8 := Nat.le_trans (K7).1 (Nat.le_of_eq g8.symm)
      have K8 : Keep h0 h8 [] := (K7).ext E8
      have F8_b4_n := (F7_b4_n).ext E8
      have F8_b4_fromEnd := (F7_b4_fromEnd).ext E8
      have F8_b3_monthsBeforeDelivery := (F7_b3_monthsBeforeDelivery).ext E8
      have F8_b3_day := (F7_b3_day).ext E8
      have F8_b7_monthsBeforeDelivery := (F_monthsBeforeDelivery_b7).ext E8
      have F8_b7_day := (F_day_b7).ext E8
      have E8_b3 := (E7_b3).ext E8
      have E8_b4 := (E7_b4).ext E8
      have E8_b7 := (A7).ext E8
      refine own_go st8 ?_
      show own_Fin _ _ _ _ T8 (mkF m 83 #[.val (.int x0), .val (.int x1), .val (.int x2), .val (.int x3), .val (.int x4), .val (.int z), .val (.int y), .val (.int (own_par x0 x1 ((x4 >>> ((2 : Int32) &&& 31)) &&& (3 : Int32)))), .val (.int (own_par x2 x3 ((x4 >>> ((4 : Int32) &&& 31)) &&& (3 : Int32)))), .val (.ref b3), .unset, .unset, .unset] [(.ref b8), (.int (own_par x0 x1 ((x4 >>> ((2 : Int32) &&& 31)) &&& (3 : Int32)))), (.ref b7), (.ref b7)]) _ _ _
      refine own_go (fun _ => XS.dup X8.here hx rfl (hb hby at_83) rfl rfl) ?_
      show own_Fin _ _ _ _ T8 (mkF m 84 #[.val (.int x0), .val (.int x1), .val (.int x2), .val (.int x3), .val (.int x4), .val (.int z), .val (.int y), .val (.int (own_par x0 x1 ((x4 >>> ((2 : Int32) &&& 31)) &&& (3 : Int32)))), .val (.int (own_par x2 x3 ((x4 >>> ((4 : Int32) &&& 31)) &&& (3 : Int32)))), .val (.ref b3), .unset, .unset, .unset] [(.ref b8), (.ref b8), (.int (own_par x0 x1 ((x4 >>> ((2 : Int32) &&& 31)) &&& (3 : Int32)))), (.ref b7), (.ref b7)]) _ _ _
      refine own_go (fun _ => XS.iload X8.here hx rfl (hb hby at_84) rfl) ?_
      show own_Fin _ _ _ _ T8 (mkF m 86 #[.val (.int x0), .val (.int x1), .val (.int x2), .val (.int x3), .val (.int x4), .val (.int z), .val (.int y), .val (.int (own_par x0 x1 ((x4 >>> ((2 : Int32) &&& 31)) &&& (3 : Int32)))), .val (.int (own_par x2 x3 ((x4 >>> ((4 : Int32) &&& 31)) &&& (3 : Int32)))), .val (.ref b3), .unset, .unset, .unset] [(.int (own_par x2 x3 ((x4 >>> ((4 : Int32) &&& 31)) &&& (3 : Int32)))), (.ref b8), (.ref b8), (.int (own_par x0 x1 ((x4 >>> ((2 : Int32) &&& 31)) &&& (3 : Int32)))), (.ref b7), (.ref b7)]) _ _ _
      refine own_go (fun _ => XS.iload X8.here hx rfl (hb hby at_86) rfl) ?_
      show own_Fin _ _ _ _ T8 (mkF m 88 #[.val (.int x0), .val (.int x1), .val (.int x2), .val (.int x3), .val (.int x4), .val (.int z), .val (.int y), .val (.int (own_par x0 x1 ((x4 >>> ((2 : Int32) &&& 31)) &&& (3 : Int32)))), .val (.int (own_par x2 x3 ((x4 >>> ((4 : Int32) &&& 31)) &&& (3 : Int32)))), .val (.ref b3), .unset, .unset, .unset] [(.int y), (.int (own_par x2 x3 ((x4 >>> ((4 : Int32) &&& 31)) &&& (3 : Int32)))), (.ref b8), (.ref b8), (.int (own_par x0 x1 ((x4 >>> ((2 : Int32) &&& 31)) &&& (3 : Int32)))), (.ref b7), (.ref b7)]) _ _ _
      obtain ⟨_, _, ⟨T9, L9, k9, n9⟩, -, X9, ⟨Lc9, hQ9, l9, y9, z9⟩, st9⟩ := X8.specialBack hx (y := (⟨"com/example/olefin_desk/olefindesk/TradingDayOfMonth", "<init>", "(IZ)V"⟩ : MethodName)) rfl hown (mvT hZ (hw _ (List.mem_of_getElem? (i := 10) rfl))) (mvT hZ (hw _ (List.mem_of_getElem? (i := 11) rfl))) (mvT hZ (hw _ (List.mem_of_getElem? (i := 12) rfl))) (by decide) (backOf (W := 4) (rm2 l Z a0 hw [] b8 (own_par x2 x3 ((x4 >>> ((4 : Int32) &&& 31)) &&& (3 : Int32))) y (.int (0 : Int32)) (.int (0 : Int32)) h8 n0 Z8 A8 g_b8 F_n_b8 F_fromEnd_b8) hZ (hw _ (List.mem_of_getElem? (i := 12) rfl)) (hw _ (List.mem_of_getElem? (i := 9) rfl)) (by decide) (by decide)) (g := (mkF m 88 #[.val (.int x0), .val (.int x1), .val (.int x2), .val (.int x3), .val (.int x4), .val (.int z), .val (.int y), .val (.int (own_par x0 x1 ((x4 >>> ((2 : Int32) &&& 31)) &&& (3 : Int32)))), .val (.int (own_par x2 x3 ((x4 >>> ((4 : Int32) &&& 31)) &&& (3 : Int32)))), .val (.ref b3), .unset, .unset, .unset] [(.int y), (.int (own_par x2 x3 ((x4 >>> ((4 : Int32) &&& 31)) &&& (3 : Int32)))), (.ref b8), (.ref b8), (.int (own_par x0 x1 ((x4 >>> ((2 : Int32) &&& 31)) &&& (3 : Int32)))), (.ref b7), (.ref b7)])) rfl (by rw [hml]; rfl) (Steps.refl _) (a := b8) (argsL := [(.int (own_par x2 x3 ((x4 >>> ((4 : Int32) &&& 31)) &&& (3 : Int32)))), (.int y)]) (rest := [(.ref b8), (.int (own_par x0 x1 ((x4 >>> ((2 : Int32) &&& 31)) &&& (3 : Int32)))), (.ref b7), (.ref b7)]) (lenOf pd_4 rfl) rfl (by show 2 * 0 + _ ≤ _; exact Nat.le_of_eq rfl) (hb hby at_88) (fun _ _ => ⟨rfl, e8, (by decide : 4 + 0 ≤ _), (by decide : 8 + 0 ≤ _)⟩)
      dsimp only [Pt.U, Pt.locs, Pt.cells, Pt.slots] at X9 l9 y9 z9 st9 hQ9
      subst l9 y9 z9
      obtain ⟨rfl, N9q, K9q, Ex9, Fx9_0, Fx9_1⟩ := hQ9
      have N9 := Fr.app N6 N9q
      have F9_b4_n := (F8_b4_n).keep K9q (by simp [ne_b4_b8])
      have F9_b4_fromEnd := (F8_b4_fromEnd).keep K9q (by simp [ne_b4_b8])
      have F9_b3_monthsBeforeDelivery := (F8_b3_monthsBeforeDelivery).keep K9q (by simp [ne_b3_b8])
      have F9_b3_day := (F8_b3_day).keep K9q (by simp [ne_b3_b8])
      have F9_b7_monthsBeforeDelivery := (F8_b7_monthsBeforeDelivery).keep K9q (by simp [ne_b7_b8])
      have F9_b7_day := (F8_b7_day).keep K9q (by simp [ne_b7_b8])
      have E9_b3 := (E8_b3).keep K9q
      have E9_b4 := (E8_b4).keep K9q
      have E9_b7 := (E8_b7).keep K9q
      have E9_b8 := (A8).keep K9q
      have Kc9 : Keep h0 T9.heap [] := (K8).trans K9q (fun x hx => by cases List.mem_singleton.mp hx; exact (Or.inr sz_b8))
      have Zc9 : n0 ≤ T9.heap.size := Nat.le_trans Z8 (K9q).1
      refine own_gt st9 ?_
      show own_Fin _ _ _ _ T9 (mkF m 91 #[.val (.int x0), .val (.int x1), .val (.int x2), .val (.int x3), .val (.int x4), .val (.int z), .val (.int y), .val (.int (own_par x0 x1 ((x4 >>> ((2 : Int32) &&& 31)) &&& (3 : Int32)))), .val (.int (own_par x2 x3 ((x4 >>> ((4 : Int32) &&& 31)) &&& (3 : Int32)))), .val (.ref b3), .unset, .unset, .unset] [(.ref b8), (.int (own_par x0 x1 ((x4 >>> ((2 : Int32) &&& 31)) &&& (3 : Int32)))), (.ref b7), (.ref b7)]) _ _ _
      obtain ⟨_, _, ⟨T10, L10, k10, n10⟩, -, X10, ⟨Lc10, hQ10, l10, y10, z10⟩, st10⟩ := X9.specialBack hx (y := (⟨"com/example/olefin_desk/olefindesk/ContractDay", "<init>", "(ILcom/example/olefin_desk/olefindesk/TradingDayOfMonth;)V"⟩ : MethodName)) rfl hown (mvT hZ (hw _ (List.mem_of_getElem? (i := 25) rfl))) (mvT hZ (hw _ (List.mem_of_getElem? (i := 26) rfl))) (mvT hZ (hw _ (List.mem_of_getElem? (i := 27) rfl))) (by decide) (backOf (W := 1) (rm5 l Z a0 hw [] b7 (own_par x0 x1 ((x4 >>> ((2 : Int32) &&& 31)) &&& (3 : Int32))) b8 (.int (0 : Int32)) .null T9.heap n0 Zc9 E9_b7 g_b7 F9_b7_monthsBeforeDelivery F9_b7_day) hZ (hw _ (List.mem_of_getElem? (i := 27) rfl)) (hw _ (List.mem_of_getElem? (i := 6) rfl)) (by decide) (by decide)) (g := (mkF m 91 #[.val (.int x0), .val (.int x1), .val (.int x2), .val (.int x3), .val (.int x4), .val (.int z), .val (.int y), .val (.int (own_par x0 x1 ((x4 >>> ((2 : Int32) &&& 31)) &&& (3 : Int32)))), .val (.int (own_par x2 x3 ((x4 >>> ((4 : Int32) &&& 31)) &&& (3 : Int32)))), .val (.ref b3), .unset, .unset, .unset] [(.ref b8), (.int (own_par x0 x1 ((x4 >>> ((2 : Int32) &&& 31)) &&& (3 : Int32)))), (.ref b7), (.ref b7)])) rfl (by rw [hml]; rfl) (Steps.refl _) (a := b7) (argsL := [(.int (own_par x0 x1 ((x4 >>> ((2 : Int32) &&& 31)) &&& (3 : Int32)))), (.ref b8)]) (rest := [(.ref b7)]) (lenOf pd_5 rfl) rfl (by show 2 * 0 + _ ≤ _; exact Nat.le_of_eq rfl) (hb hby at_91) (fun _ _ => ⟨rfl, rfl, (by decide : 4 + 0 ≤ _), (by decide : 8 + 0 ≤ _)⟩)
      dsimp only [Pt.U, Pt.locs, Pt.cells, Pt.slots] at X10 l10 y10 z10 st10 hQ10
      subst l10 y10 z10
      obtain ⟨rfl, N10q, K10q, Ex10, Fx10_0, Fx10_1⟩ := hQ10
      have N10 := Fr.app N9 N10q
      have F10_b4_n := (F9_b4_n).keep K10q (by simp [ne_b4_b7])
      have F10_b4_fromEnd := (F9_b4_fromEnd).keep K10q (by simp [ne_b4_b7])
      have F10_b3_monthsBeforeDelivery := (F9_b3_monthsBeforeDelivery).keep K10q (by simp [ne_b3_b7])
      have F10_b3_day := (F9_b3_day).keep K10q (by simp [ne_b3_b7])
      have F10_b8_n := (Fx9_0).keep K10q (by simp [(Ne.symm ne_b7_b8)])
      have F10_b8_fromEnd := (Fx9_1).keep K10q (by simp [(Ne.symm ne_b7_b8)])
      have E10_b3 := (E9_b3).keep K10q
      have E10_b4 := (E9_b4).keep K10q
      have E10_b7 := (E9_b7).keep K10q
      have E10_b8 := (Ex9).keep K10q
      have Kc10 : Keep h0 T10.heap [] := (Kc9).trans K10q (fun x hx => by cases List.mem_singleton.mp hx; exact (Or.inr sz_b7))
      have Zc10 : n0 ≤ T10.heap.size := Nat.le_trans Zc9 (K10q).1
      refine own_gt st10 ?_
      show own_Fin _ _ _ _ T10 (mkF m 94 #[.val (.int x0), .val (.int x1), .val (.int x2), .val (.int x3), .val (.int x4), .val (.int z), .val (.int y), .val (.int (own_par x0 x1 ((x4 >>> ((2 : Int32) &&& 31)) &&& (3 : Int32)))), .val (.int (own_par x2 x3 ((x4 >>> ((4 : Int32) &&& 31)) &&& (3 : Int32)))), .val (.ref b3), .unset, .unset, .unset] [(.ref b7)]) _ _ _
      refine own_go (fun _ => XS.astore X10.here hx rfl (hb hby at_94) rfl rfl (l' := #[.val (.int x0), .val (.int x1), .val (.int x2), .val (.int x3), .val (.int x4), .val (.int z), .val (.int y), .val (.int (own_par x0 x1 ((x4 >>> ((2 : Int32) &&& 31)) &&& (3 : Int32)))), .val (.int (own_par x2 x3 ((x4 >>> ((4 : Int32) &&& 31)) &&& (3 : Int32)))), .val (.ref b3), .val (.ref b7), .unset, .unset]) rfl) ?_
      show own_Fin _ _ _ _ T10 (mkF m 96 #[.val (.int x0), .val (.int x1), .val (.int x2), .val (.int x3), .val (.int x4), .val (.int z), .val (.int y), .val (.int (own_par x0 x1 ((x4 >>> ((2 : Int32) &&& 31)) &&& (3 : Int32)))), .val (.int (own_par x2 x3 ((x4 >>> ((4 : Int32) &&& 31)) &&& (3 : Int32)))), .val (.ref b3), .val (.ref b7), .unset, .unset] []) _ _ _
      refine own_go (fun _ => XS.aload X10.here hx rfl (hb hby at_96) rfl rfl) ?_
      show own_Fin _ _ _ _ T10 (mkF m 98 #[.val (.int x0), .val (.int x1), .val (.int x2), .val (.int x3), .val (.int x4), .val (.int z), .val (.int y), .val (.int (own_par x0 x1 ((x4 >>> ((2 : Int32) &&& 31)) &&& (3 : Int32)))), .val (.int (own_par x2 x3 ((x4 >>> ((4 : Int32) &&& 31)) &&& (3 : Int32)))), .val (.ref b3), .val (.ref b7), .unset, .unset] [(.ref b3)]) _ _ _
      refine own_go (fun _ => XS.aload X10.here hx rfl (hb hby at_98) rfl rfl) ?_
      show own_Fin _ _ _ _ T10 (mkF m 100 #[.val (.int x0), .val (.int x1), .val (.int x2), .val (.int x3), .val (.int x4), .val (.int z), .val (.int y), .val (.int (own_par x0 x1 ((x4 >>> ((2 : Int32) &&& 31)) &&& (3 : Int32)))), .val (.int (own_par x2 x3 ((x4 >>> ((4 : Int32) &&& 31)) &&& (3 : Int32)))), .val (.ref b3), .val (.ref b7), .unset, .unset] [(.ref b7), (.ref b3)]) _ _ _
      obtain ⟨cq11, kq11, q11a, q11b, q11c⟩ := isOf hZ rfl E10_b3
      obtain ⟨_, _, ⟨T11, L11, k11, n11⟩, -, X11, ⟨Lc11, hQ11, l11, y11, z11⟩, st11⟩ := X10.virtualBack hx (y := (⟨"com/example/olefin_desk/olefindesk/ContractDay", "precedes", "(Lcom/example/olefin_desk/olefindesk/ContractDay;)Z"⟩ : MethodName)) (z := (⟨"com/example/olefin_desk/olefindesk/ContractDay", "precedes", "(Lcom/example/olefin_desk/olefindesk/ContractDay;)Z"⟩ : MethodName)) hown (mvT hZ (hw _ (List.mem_of_getElem? (i := 33) rfl))) (mvT hZ (hw _ (List.mem_of_getElem? (i := 34) rfl))) (notFace_of_selects (args := #[]) (mvT hZ (hw _ (List.mem_of_getElem? (i := 36) rfl)))) (mvT hZ (hw _ (List.mem_of_getElem? (i := 36) rfl))) (mvT hZ (hw _ (List.mem_of_getElem? (i := 35) rfl))) (by decide) (backOf (W := 0) (rm6 l Z a0 hw [] b3 b7 x0 (own_par x0 x1 ((x4 >>> ((2 : Int32) &&& 31)) &&& (3 : Int32))) (nar .boolean z) (nar .boolean y) x2 (own_par x2 x3 ((x4 >>> ((4 : Int32) &&& 31)) &&& (3 : Int32))) b4 b8 T10.heap n0 Zc10 F10_b3_monthsBeforeDelivery F10_b3_day Fx10_0 Fx10_1 F10_b4_n F10_b4_fromEnd F10_b8_n F10_b8_fromEnd E10_b4) hZ (hw _ (List.mem_of_getElem? (i := 37) rfl)) (hw _ (List.mem_of_getElem? (i := 6) rfl)) (by decide) (by decide)) q11a q11c (g := (mkF m 100 #[.val (.int x0), .val (.int x1), .val (.int x2), .val (.int x3), .val (.int x4), .val (.int z), .val (.int y), .val (.int (own_par x0 x1 ((x4 >>> ((2 : Int32) &&& 31)) &&& (3 : Int32)))), .val (.int (own_par x2 x3 ((x4 >>> ((4 : Int32) &&& 31)) &&& (3 : Int32)))), .val (.ref b3), .val (.ref b7), .unset, .unset] [(.ref b7), (.ref b3)])) rfl (by rw [hml]; rfl) (Steps.refl _) (argsL := [(.ref b7)]) (rest := []) (lenOf pd_6 rfl) rfl (by show 2 * 0 + _ ≤ _; exact Nat.le_of_eq rfl) (hb hby at_100) (fun _ _ => ⟨rfl, rfl, (by decide : 4 + 0 ≤ _), (by decide : 8 + 0 ≤ _)⟩)
      dsimp only [Pt.U, Pt.locs, Pt.cells, Pt.slots] at X11 l11 y11 z11 st11 hQ11
      subst l11 y11 z11
      obtain ⟨rfl, N11q, e11⟩ := hQ11
      have N11 := Fr.app N10 N11q
      refine own_gt st11 ?_
      show own_Fin _ _ _ _ T11 (mkF m 103 #[.val (.int x0), .val (.int x1), .val (.int x2), .val (.int x3), .val (.int x4), .val (.int z), .val (.int y), .val (.int (own_par x0 x1 ((x4 >>> ((2 : Int32) &&& 31)) &&& (3 : Int32)))), .val (.int (own_par x2 x3 ((x4 >>> ((4 : Int32) &&& 31)) &&& (3 : Int32)))), .val (.ref b3), .val (.ref b7), .unset, .unset] [(.int (own_cprec x0 (own_par x0 x1 ((x4 >>> ((2 : Int32) &&& 31)) &&& (3 : Int32))) (nar .boolean z) (nar .boolean y) x2 (own_par x2 x3 ((x4 >>> ((4 : Int32) &&& 31)) &&& (3 : Int32)))))]) _ _ _
      refine own_go (fun _ => XS.istore X11.here hx rfl (hb hby at_103) rfl (l' := #[.val (.int x0), .val (.int x1), .val (.int x2), .val (.int x3), .val (.int x4), .val (.int z), .val (.int y), .val (.int (own_par x0 x1 ((x4 >>> ((2 : Int32) &&& 31)) &&& (3 : Int32)))), .val (.int (own_par x2 x3 ((x4 >>> ((4 : Int32) &&& 31)) &&& (3 : Int32)))), .val (.ref b3), .val (.ref b7), .val (.int (own_cprec x0 (own_par x0 x1 ((x4 >>> ((2 : Int32) &&& 31)) &&& (3 : Int32))) (nar .boolean z) (nar .boolean y) x2 (own_par x2 x3 ((x4 >>> ((4 : Int32) &&& 31)) &&& (3 : Int32))))), .unset]) rfl) ?_
      show own_Fin _ _ _ _ T11 (mkF m 105 #[.val (.int x0), .val (.int x1), .val (.int x2), .val (.int x3), .val (.int x4), .val (.int z), .val (.int y), .val (.int (own_par x0 x1 ((x4 >>> ((2 : Int32) &&& 31)) &&& (3 : Int32)))), .val (.int (own_par x2 x3 ((x4 >>> ((4 : Int32) &&& 31)) &&& (3 : Int32)))), .val (.ref b3), .val (.ref b7), .val (.int (own_cprec x0 (own_par x0 x1 ((x4 >>> ((2 : Int32) &&& 31)) &&& (3 : Int32))) (nar .boolean z) (nar .boolean y) x2 (own_par x2 x3 ((x4 >>> ((4 : Int32) &&& 31)) &&& (3 : Int32))))), .unset] []) _ _ _
      refine own_go (fun _ => XS.aload X11.here hx rfl (hb hby at_105) rfl rfl) ?_
      show own_Fin _ _ _ _ T11 (mkF m 107 #[.val (.int x0), .val (.int x1), .val (.int x2), .val (.int x3), .val (.int x4), .val (.int z), .val (.int y), .val (.int (own_par x0 x1 ((x4 >>> ((2 : Int32) &&& 31)) &&& (3 : Int32)))), .val (.int (own_par x2 x3 ((x4 >>> ((4 : Int32) &&& 31)) &&& (3 : Int32)))), .val (.ref b3), .val (.ref b7), .val (.int (own_cprec x0 (own_par x0 x1 ((x4 >>> ((2 : Int32) &&& 31)) &&& (3 : Int32))) (nar .boolean z) (nar .boolean y) x2 (own_par x2 x3 ((x4 >>> ((4 : Int32) &&& 31)) &&& (3 : Int32))))), .unset] [(.ref b7)]) _ _ _
      refine own_go (fun _ => XS.aload X11.here hx rfl (hb hby at_107) rfl rfl) ?_
      show own_Fin _ _ _ _ T11 (mkF m 109 #[.val (.int x0), .val (.int x1), .val (.int x2), .val (.int x3), .val (.int x4), .val (.int z), .val (.int y), .val (.int (own_par x0 x1 ((x4 >>> ((2 : Int32) &&& 31)) &&& (3 : Int32)))), .val (.int (own_par x2 x3 ((x4 >>> ((4 : Int32) &&& 31)) &&& (3 : Int32)))), .val (.ref b3), .val (.ref b7), .val (.int (own_cprec x0 (own_par x0 x1 ((x4 >>> ((2 : Int32) &&& 31)) &&& (3 : Int32))) (nar .boolean z) (nar .boolean y) x2 (own_par x2 x3 ((x4 >>> ((4 : Int32) &&& 31)) &&& (3 : Int32))))), .unset] [(.ref b3), (.ref b7)]) _ _ _
      obtain ⟨cq12, kq12, q12a, q12b, q12c⟩ := isOf hZ e11 Ex10
      obtain ⟨_, _, ⟨T12, L12, k12, n12⟩, -, X12, ⟨Lc12, hQ12, l12, y12, z12⟩, st12⟩ := X11.virtualBack hx (y := (⟨"com/example/olefin_desk/olefindesk/ContractDay", "precedes", "(Lcom/example/olefin_desk/olefindesk/ContractDay;)Z"⟩ : MethodName)) (z := (⟨"com/example/olefin_desk/olefindesk/ContractDay", "precedes", "(Lcom/example/olefin_desk/olefindesk/ContractDay;)Z"⟩ : MethodName)) hown (mvT hZ (hw _ (List.mem_of_getElem? (i := 33) rfl))) (mvT hZ (hw _ (List.mem_of_getElem? (i := 34) rfl))) (notFace_of_selects (args := #[]) (mvT hZ (hw _ (List.mem_of_getElem? (i := 36) rfl)))) (mvT hZ (hw _ (List.mem_of_getElem? (i := 36) rfl))) (mvT hZ (hw _ (List.mem_of_getElem? (i := 35) rfl))) (by decide) (backOf (W := 0) (rm6 l Z a0 hw [] b7 b3 (own_par x0 x1 ((x4 >>> ((2 : Int32) &&& 31)) &&& (3 : Int32))) x0 (nar .boolean y) (nar .boolean z) (own_par x2 x3 ((x4 >>> ((4 : Int32) &&& 31)) &&& (3 : Int32))) x2 b8 b4 T10.heap n0 Zc10 Fx10_0 Fx10_1 F10_b3_monthsBeforeDelivery F10_b3_day F10_b8_n F10_b8_fromEnd F10_b4_n F10_b4_fromEnd E10_b8) hZ (hw _ (List.mem_of_getElem? (i := 37) rfl)) (hw _ (List.mem_of_getElem? (i := 6) rfl)) (by decide) (by decide)) q12a q12c (g := (mkF m 109 #[.val (.int x0), .val (.int x1), .val (.int x2), .val (.int x3), .val (.int x4), .val (.int z), .val (.int y), .val (.int (own_par x0 x1 ((x4 >>> ((2 : Int32) &&& 31)) &&& (3 : Int32)))), .val (.int (own_par x2 x3 ((x4 >>> ((4 : Int32) &&& 31)) &&& (3 : Int32)))), .val (.ref b3), .val (.ref b7), .val (.int (own_cprec x0 (own_par x0 x1 ((x4 >>> ((2 : Int32) &&& 31)) &&& (3 : Int32))) (nar .boolean z) (nar .boolean y) x2 (own_par x2 x3 ((x4 >>> ((4 : Int32) &&& 31)) &&& (3 : Int32))))), .unset] [(.ref b3), (.ref b7)])) rfl (by rw [hml]; rfl) (Steps.refl _) (argsL := [(.ref b3)]) (rest := []) (lenOf pd_6 rfl) rfl (by show 2 * 0 + _ ≤ _; exact Nat.le_of_eq rfl) (hb hby at_109) (fun _ _ => ⟨rfl, e11, (by decide : 4 + 0 ≤ _), (by decide : 8 + 0 ≤ _)⟩)
      dsimp only [Pt.U, Pt.locs, Pt.cells, Pt.slots] at X12 l12 y12 z12 st12 hQ12
      subst l12 y12 z12
      obtain ⟨rfl, N12q, e12⟩ := hQ12
      have N12 := Fr.app N11 N12q
      refine own_gt st12 ?_
      show own_Fin _ _ _ _ T12 (mkF m 112 #[.val (.int x0), .val (.int x1), .val (.int x2), .val (.int x3), .val (.int x4), .val (.int z), .val (.int y), .val (.int (own_par x0 x1 ((x4 >>> ((2 : Int32) &&& 31)) &&& (3 : Int32)))), .val (.int (own_par x2 x3 ((x4 >>> ((4 : Int32) &&& 31)) &&& (3 : Int32)))), .val (.ref b3), .val (.ref b7), .val (.int (own_cprec x0 (own_par x0 x1 ((x4 >>> ((2 : Int32) &&& 31)) &&& (3 : Int32))) (nar .boolean z) (nar .boolean y) x2 (own_par x2 x3 ((x4 >>> ((4 : Int32) &&& 31)) &&& (3 : Int32))))), .unset] [(.int (own_cprec (own_par x0 x1 ((x4 >>> ((2 : Int32) &&& 31)) &&& (3 : Int32))) x0 (nar .boolean y) (nar .boolean z) (own_par x2 x3 ((x4 >>> ((4 : Int32) &&& 31)) &&& (3 : Int32))) x2))]) _ _ _
      refine own_go (fun _ => XS.istore X12.here hx rfl (hb hby at_112) rfl (l' := #[.val (.int x0), .val (.int x1), .val (.int x2), .val (.int x3), .val (.int x4), .val (.int z), .val (.int y), .val (.int (own_par x0 x1 ((x4 >>> ((2 : Int32) &&& 31)) &&& (3 : Int32)))), .val (.int (own_par x2 x3 ((x4 >>> ((4 : Int32) &&& 31)) &&& (3 : Int32)))), .val (.ref b3), .val (.ref b7), .val (.int (own_cprec x0 (own_par x0 x1 ((x4 >>> ((2 : Int32) &&& 31)) &&& (3 : Int32))) (nar .boolean z) (nar .boolean y) x2 (own_par x2 x3 ((x4 >>> ((4 : Int32) &&& 31)) &&& (3 : Int32))))), .val (.int (own_cprec (own_par x0 x1 ((x4 >>> ((2 : Int32) &&& 31)) &&& (3 : Int32))) x0 (nar .boolean y) (nar .boolean z) (own_par x2 x3 ((x4 >>> ((4 : Int32) &&& 31)) &&& (3 : Int32))) x2))]) rfl) ?_
      show own_Fin _ _ _ _ T12 (mkF m 114 #[.val (.int x0), .val (.int x1), .val (.int x2), .val (.int x3), .val (.int x4), .val (.int z), .val (.int y), .val (.int (own_par x0 x1 ((x4 >>> ((2 : Int32) &&& 31)) &&& (3 : Int32)))), .val (.int (own_par x2 x3 ((x4 >>> ((4 : Int32) &&& 31)) &&& (3 : Int32)))), .val (.ref b3), .val (.ref b7), .val (.int (own_cprec x0 (own_par x0 x1 ((x4 >>> ((2 : Int32) &&& 31)) &&& (3 : Int32))) (nar .boolean z) (nar .boolean y) x2 (own_par x2 x3 ((x4 >>> ((4 : Int32) &&& 31)) &&& (3 : Int32))))), .val (.int (own_cprec (own_par x0 x1 ((x4 >>> ((2 : Int32) &&& 31)) &&& (3 : Int32))) x0 (nar .boolean y) (nar .boolean z) (own_par x2 x3 ((x4 >>> ((4 : Int32) &&& 31)) &&& (3 : Int32))) x2))] []) _ _ _
      refine own_go (fun _ => XS.iload X12.here hx rfl (hb hby at_114) rfl) ?_
      show own_Fin _ _ _ _ T12 (mkF m 116 #[.val (.int x0), .val (.int x1), .val (.int x2), .val (.int x3), .val (.int x4), .val (.int z), .val (.int y), .val (.int (own_par x0 x1 ((x4 >>> ((2 : Int32) &&& 31)) &&& (3 : Int32)))), .val (.int (own_par x2 x3 ((x4 >>> ((4 : Int32) &&& 31)) &&& (3 : Int32)))), .val (.ref b3), .val (.ref b7), .val (.int (own_cprec x0 (own_par x0 x1 ((x4 >>> ((2 : Int32) &&& 31)) &&& (3 : Int32))) (nar .boolean z) (nar .boolean y) x2 (own_par x2 x3 ((x4 >>> ((4 : Int32) &&& 31)) &&& (3 : Int32))))), .val (.int (own_cprec (own_par x0 x1 ((x4 >>> ((2 : Int32) &&& 31)) &&& (3 : Int32))) x0 (nar .boolean y) (nar .boolean z) (own_par x2 x3 ((x4 >>> ((4 : Int32) &&& 31)) &&& (3 : Int32))) x2))] [(.int (own_cprec x0 (own_par x0 x1 ((x4 >>> ((2 : Int32) &&& 31)) &&& (3 : Int32))) (nar .boolean z) (nar .boolean y) x2 (own_par x2 x3 ((x4 >>> ((4 : Int32) &&& 31)) &&& (3 : Int32)))))]) _ _ _
      refine own_go (fun _ => XS.iloadN X12.here hx rfl (hb hby at_116) rfl) ?_
      show own_Fin _ _ _ _ T12 (mkF m 117 #[.val (.int x0), .val (.int x1), .val (.int x2), .val (.int x3), .val (.int x4), .val (.int z), .val (.int y), .val (.int (own_par x0 x1 ((x4 >>> ((2 : Int32) &&& 31)) &&& (3 : Int32)))), .val (.int (own_par x2 x3 ((x4 >>> ((4 : Int32) &&& 31)) &&& (3 : Int32)))), .val (.ref b3), .val (.ref b7), .val (.int (own_cprec x0 (own_par x0 x1 ((x4 >>> ((2 : Int32) &&& 31)) &&& (3 : Int32))) (nar .boolean z) (nar .boolean y) x2 (own_par x2 x3 ((x4 >>> ((4 : Int32) &&& 31)) &&& (3 : Int32))))), .val (.int (own_cprec (own_par x0 x1 ((x4 >>> ((2 : Int32) &&& 31)) &&& (3 : Int32))) x0 (nar .boolean y) (nar .boolean z) (own_par x2 x3 ((x4 >>> ((4 : Int32) &&& 31)) &&& (3 : Int32))) x2))] [(.int x0), (.int (own_cprec x0 (own_par x0 x1 ((x4 >>> ((2 : Int32) &&& 31)) &&& (3 : Int32))) (nar .boolean z) (nar .boolean y) x2 (own_par x2 x3 ((x4 >>> ((4 : Int32) &&& 31)) &&& (3 : Int32)))))]) _ _ _
      refine own_go (fun _ => XS.iloadN X12.here hx rfl (hb hby at_117) rfl) ?_
      show own_Fin _ _ _ _ T12 (mkF m 118 #[.val (.int x0), .val (.int x1), .val (.int x2), .val (.int x3), .val (.int x4), .val (.int z), .val (.int y), .val (.int (own_par x0 x1 ((x4 >>> ((2 : Int32) &&& 31)) &&& (3 : Int32)))), .val (.int (own_par x2 x3 ((x4 >>> ((4 : Int32) &&& 31)) &&& (3 : Int32)))), .val (.ref b3), .val (.ref b7), .val (.int (own_cprec x0 (own_par x0 x1 ((x4 >>> ((2 : Int32) &&& 31)) &&& (3 : Int32))) (nar .boolean z) (nar .boolean y) x2 (own_par x2 x3 ((x4 >>> ((4 : Int32) &&& 31)) &&& (3 : Int32))))), .val (.int (own_cprec (own_par x0 x1 ((x4 >>> ((2 : Int32) &&& 31)) &&& (3 : Int32))) x0 (nar .boolean y) (nar .boolean z) (own_par x2 x3 ((x4 >>> ((4 : Int32) &&& 31)) &&& (3 : Int32))) x2))] [(.int x2), (.int x0), (.int (own_cprec x0 (own_par x0 x1 ((x4 >>> ((2 : Int32) &&& 31)) &&& (3 : Int32))) (nar .boolean z) (nar .boolean y) x2 (own_par x2 x3 ((x4 >>> ((4 : Int32) &&& 31)) &&& (3 : Int32)))))]) _ _ _
      refine own_go (fun _ => XS.iload X12.here hx rfl (hb hby at_118) rfl) ?_
      show own_Fin _ _ _ _ T12 (mkF m 120 #[.val (.int x0), .val (.int x1), .val (.int x2), .val (.int x3), .val (.int x4), .val (.int z), .val (.int y), .val (.int (own_par x0 x1 ((x4 >>> ((2 : Int32) &&& 31)) &&& (3 : Int32)))), .val (.int (own_par x2 x3 ((x4 >>> ((4 : Int32) &&& 31)) &&& (3 : Int32)))), .val (.ref b3), .val (.ref b7), .val (.int (own_cprec x0 (own_par x0 x1 ((x4 >>> ((2 : Int32) &&& 31)) &&& (3 : Int32))) (nar .boolean z) (nar .boolean y) x2 (own_par x2 x3 ((x4 >>> ((4 : Int32) &&& 31)) &&& (3 : Int32))))), .val (.int (own_cprec (own_par x0 x1 ((x4 >>> ((2 : Int32) &&& 31)) &&& (3 : Int32))) x0 (nar .boolean y) (nar .boolean z) (own_par x2 x3 ((x4 >>> ((4 : Int32) &&& 31)) &&& (3 : Int32))) x2))] [(.int z), (.int x2), (.int x0), (.int (own_cprec x0 (own_par x0 x1 ((x4 >>> ((2 : Int32) &&& 31)) &&& (3 : Int32))) (nar .boolean z) (nar .boolean y) x2 (own_par x2 x3 ((x4 >>> ((4 : Int32) &&& 31)) &&& (3 : Int32)))))]) _ _ _
      refine own_go (fun _ => XS.iload X12.here hx rfl (hb hby at_120) rfl) ?_
      show own_Fin _ _ _ _ T12 (mkF m 122 #[.val (.int x0), .val (.int x1), .val (.int x2), .val (.int x3), .val (.int x4), .val (.int z), .val (.int y), .val (.int (own_par x0 x1 ((x4 >>> ((2 : Int32) &&& 31)) &&& (3 : Int32)))), .val (.int (own_par x2 x3 ((x4 >>> ((4 : Int32) &&& 31)) &&& (3 : Int32)))), .val (.ref b3), .val (.ref b7), .val (.int (own_cprec x0 (own_par x0 x1 ((x4 >>> ((2 : Int32) &&& 31)) &&& (3 : Int32))) (nar .boolean z) (nar .boolean y) x2 (own_par x2 x3 ((x4 >>> ((4 : Int32) &&& 31)) &&& (3 : Int32))))), .val (.int (own_cprec (own_par x0 x1 ((x4 >>> ((2 : Int32) &&& 31)) &&& (3 : Int32))) x0 (nar .boolean y) (nar .boolean z) (own_par x2 x3 ((x4 >>> ((4 : Int32) &&& 31)) &&& (3 : Int32))) x2))] [(.int (own_par x0 x1 ((x4 >>> ((2 : Int32) &&& 31)) &&& (3 : Int32)))), (.int z), (.int x2), (.int x0), (.int (own_cprec x0 (own_par x0 x1 ((x4 >>> ((2 : Int32) &&& 31)) &&& (3 : Int32))) (nar .boolean z) (nar .boolean y) x2 (own_par x2 x3 ((x4 >>> ((4 : Int32) &&& 31)) &&& (3 : Int32)))))]) _ _ _
      refine own_go (fun _ => XS.iload X12.here hx rfl (hb hby at_122) rfl) ?_
      show own_Fin _ _ _ _ T12 (mkF m 124 #[.val (.int x0), .val (.int x1), .val (.int x2), .val (.int x3), .val (.int x4), .val (.int z), .val (.int y), .val (.int (own_par x0 x1 ((x4 >>> ((2 : Int32) &&& 31)) &&& (3 : Int32)))), .val (.int (own_par x2 x3 ((x4 >>> ((4 : Int32) &&& 31)) &&& (3 : Int32)))), .val (.ref b3), .val (.ref b7), .val (.int (own_cprec x0 (own_par x0 x1 ((x4 >>> ((2 : Int32) &&& 31)) &&& (3 : Int32))) (nar .boolean z) (nar .boolean y) x2 (own_par x2 x3 ((x4 >>> ((4 : Int32) &&& 31)) &&& (3 : Int32))))), .val (.int (own_cprec (own_par x0 x1 ((x4 >>> ((2 : Int32) &&& 31)) &&& (3 : Int32))) x0 (nar .boolean y) (nar .boolean z) (own_par x2 x3 ((x4 >>> ((4 : Int32) &&& 31)) &&& (3 : Int32))) x2))] [(.int (own_par x2 x3 ((x4 >>> ((4 : Int32) &&& 31)) &&& (3 : Int32)))), (.int (own_par x0 x1 ((x4 >>> ((2 : Int32) &&& 31)) &&& (3 : Int32)))), (.int z), (.int x2), (.int x0), (.int (own_cprec x0 (own_par x0 x1 ((x4 >>> ((2 : Int32) &&& 31)) &&& (3 : Int32))) (nar .boolean z) (nar .boolean y) x2 (own_par x2 x3 ((x4 >>> ((4 : Int32) &&& 31)) &&& (3 : Int32)))))]) _ _ _
      refine own_go (fun _ => XS.iload X12.here hx rfl (hb hby at_124) rfl) ?_
      show own_Fin _ _ _ _ T12 (mkF m 126 #[.val (.int x0), .val (.int x1), .val (.int x2), .val (.int x3), .val (.int x4), .val (.int z), .val (.int y), .val (.int (own_par x0 x1 ((x4 >>> ((2 : Int32) &&& 31)) &&& (3 : Int32)))), .val (.int (own_par x2 x3 ((x4 >>> ((4 : Int32) &&& 31)) &&& (3 : Int32)))), .val (.ref b3), .val (.ref b7), .val (.int (own_cprec x0 (own_par x0 x1 ((x4 >>> ((2 : Int32) &&& 31)) &&& (3 : Int32))) (nar .boolean z) (nar .boolean y) x2 (own_par x2 x3 ((x4 >>> ((4 : Int32) &&& 31)) &&& (3 : Int32))))), .val (.int (own_cprec (own_par x0 x1 ((x4 >>> ((2 : Int32) &&& 31)) &&& (3 : Int32))) x0 (nar .boolean y) (nar .boolean z) (own_par x2 x3 ((x4 >>> ((4 : Int32) &&& 31)) &&& (3 : Int32))) x2))] [(.int y), (.int (own_par x2 x3 ((x4 >>> ((4 : Int32) &&& 31)) &&& (3 : Int32)))), (.int (own_par x0 x1 ((x4 >>> ((2 : Int32) &&& 31)) &&& (3 : Int32)))), (.int z), (.int x2), (.int x0), (.int (own_cprec x0 (own_par x0 x1 ((x4 >>> ((2 : Int32) &&& 31)) &&& (3 : Int32))) (nar .boolean z) (nar .boolean y) x2 (own_par x2 x3 ((x4 >>> ((4 : Int32) &&& 31)) &&& (3 : Int32)))))]) _ _ _
      obtain ⟨_, _, ⟨T13, L13, k13, n13⟩, -, X13, ⟨Lc13, hQ13, l13, y13, z13⟩, st13⟩ := Jvm.LawKit.callS X12 hx (y := (⟨"com/example/olefin_desk/olefindesk/ContractDayPrecedesPinLaw", "expected", "(IIZIIZ)Z"⟩ : MethodName)) hown (mvT hZ (hw _ (List.mem_of_getElem? (i := 38) rfl))) (mvT hZ (hw _ (List.mem_of_getElem? (i := 39) rfl))) (mvT hZ (hw _ (List.mem_of_getElem? (i := 2) rfl))) (mvT hZ (hw _ (List.mem_of_getElem? (i := 40) rfl))) (by decide) (backOf (W := 1) (rm7 l Z a0 hw [] x0 x2 z (own_par x0 x1 ((x4 >>> ((2 : Int32) &&& 31)) &&& (3 : Int32))) (own_par x2 x3 ((x4 >>> ((4 : Int32) &&& 31)) &&& (3 : Int32))) y  T10.heap n0 Zc10 ) hZ (hw _ (List.mem_of_getElem? (i := 40) rfl)) (hw _ (List.mem_of_getElem? (i := 2) rfl)) (by decide) (by decide)) (g := (mkF m 126 #[.val (.int x0), .val (.int x1), .val (.int x2), .val (.int x3), .val (.int x4), .val (.int z), .val (.int y), .val (.int (own_par x0 x1 ((x4 >>> ((2 : Int32) &&& 31)) &&& (3 : Int32)))), .val (.int (own_par x2 x3 ((x4 >>> ((4 : Int32) &&& 31)) &&& (3 : Int32)))), .val (.ref b3), .val (.ref b7), .val (.int (own_cprec x0 (own_par x0 x1 ((x4 >>> ((2 : Int32) &&& 31)) &&& (3 : Int32))) (nar .boolean z) (nar .boolean y) x2 (own_par x2 x3 ((x4 >>> ((4 : Int32) &&& 31)) &&& (3 : Int32))))), .val (.int (own_cprec (own_par x0 x1 ((x4 >>> ((2 : Int32) &&& 31)) &&& (3 : Int32))) x0 (nar .boolean y) (nar .boolean z) (own_par x2 x3 ((x4 >>> ((4 : Int32) &&& 31)) &&& (3 : Int32))) x2))] [(.int y), (.int (own_par x2 x3 ((x4 >>> ((4 : Int32) &&& 31)) &&& (3 : Int32)))), (.int (own_par x0 x1 ((x4 >>> ((2 : Int32) &&& 31)) &&& (3 : Int32)))), (.int z), (.int x2), (.int x0), (.int (own_cprec x0 (own_par x0 x1 ((x4 >>> ((2 : Int32) &&& 31)) &&& (3 : Int32))) (nar .boolean z) (nar .boolean y) x2 (own_par x2 x3 ((x4 >>> ((4 : Int32) &&& 31)) &&& (3 : Int32)))))])) rfl (by rw [hml]; rfl) (argsL := [(.int x0), (.int x2), (.int z), (.int (own_par x0 x1 ((x4 >>> ((2 : Int32) &&& 31)) &&& (3 : Int32)))), (.int (own_par x2 x3 ((x4 >>> ((4 : Int32) &&& 31)) &&& (3 : Int32)))), (.int y)]) (rest := [(.int (own_cprec x0 (own_par x0 x1 ((x4 >>> ((2 : Int32) &&& 31)) &&& (3 : Int32))) (nar .boolean z) (nar .boolean y) x2 (own_par x2 x3 ((x4 >>> ((4 : Int32) &&& 31)) &&& (3 : Int32)))))]) (lenOf pd_7 rfl) rfl (by show 2 * 0 + _ ≤ _; exact Nat.le_of_eq rfl) (hb hby at_126) (fun _ _ => ⟨rfl, e12, (by decide : 4 + 0 ≤ _), (by decide : 8 + 0 ≤ _)⟩)
      dsimp only [Pt.U, Pt.locs, Pt.cells, Pt.slots] at X13 l13 y13 z13 st13 hQ13
      subst l13 y13 z13
      obtain ⟨rfl, N13q, e13⟩ := hQ13
      have N13 := Fr.app N12 N13q
      refine own_go st13 ?_
      show own_Fin _ _ _ _ T13 (mkF m 129 #[.val (.int x0), .val (.int x1), .val (.int x2), .val (.int x3), .val (.int x4), .val (.int z), .val (.int y), .val (.int (own_par x0 x1 ((x4 >>> ((2 : Int32) &&& 31)) &&& (3 : Int32)))), .val (.int (own_par x2 x3 ((x4 >>> ((4 : Int32) &&& 31)) &&& (3 : Int32)))), .val (.ref b3), .val (.ref b7), .val (.int (own_cprec x0 (own_par x0 x1 ((x4 >>> ((2 : Int32) &&& 31)) &&& (3 : Int32))) (nar .boolean z) (nar .boolean y) x2 (own_par x2 x3 ((x4 >>> ((4 : Int32) &&& 31)) &&& (3 : Int32))))), .val (.int (own_cprec (own_par x0 x1 ((x4 >>> ((2 : Int32) &&& 31)) &&& (3 : Int32))) x0 (nar .boolean y) (nar .boolean z) (own_par x2 x3 ((x4 >>> ((4 : Int32) &&& 31)) &&& (3 : Int32))) x2))] [(.int (own_exp x0 x2 z (own_par x0 x1 ((x4 >>> ((2 : Int32) &&& 31)) &&& (3 : Int32))) (own_par x2 x3 ((x4 >>> ((4 : Int32) &&& 31)) &&& (3 : Int32))) y)), (.int (own_cprec x0 (own_par x0 x1 ((x4 >>> ((2 : Int32) &&& 31)) &&& (3 : Int32))) (nar .boolean z) (nar .boolean y) x2 (own_par x2 x3 ((x4 >>> ((4 : Int32) &&& 31)) &&& (3 : Int32)))))]) _ _ _
      refine own_go (fun _ => XS.icmpNo X13.here hx rfl (hb hby at_129) rfl (teq (show (own_cprec x0 (own_par x0 x1 ((x4 >>> ((2 : Int32) &&& 31)) &&& (3 : Int32))) (nar .boolean z) (nar .boolean y) x2 (own_par x2 x3 ((x4 >>> ((4 : Int32) &&& 31)) &&& (3 : Int32)))) = (own_exp x0 x2 z (own_par x0 x1 ((x4 >>> ((2 : Int32) &&& 31)) &&& (3 : Int32))) (own_par x2 x3 ((x4 >>> ((4 : Int32) &&& 31)) &&& (3 : Int32))) y) from own_law hp_J12 hp_J26)).2) ?_
      show own_Fin _ _ _ _ T13 (mkF m 132 #[.val (.int x0), .val (.int x1), .val (.int x2), .val (.int x3), .val (.int x4), .val (.int z), .val (.int y), .val (.int (own_par x0 x1 ((x4 >>> ((2 : Int32) &&& 31)) &&& (3 : Int32)))), .val (.int (own_par x2 x3 ((x4 >>> ((4 : Int32) &&& 31)) &&& (3 : Int32)))), .val (.ref b3), .val (.ref b7), .val (.int (own_cprec x0 (own_par x0 x1 ((x4 >>> ((2 : Int32) &&& 31)) &&& (3 : Int32))) (nar .boolean z) (nar .boolean y) x2 (own_par x2 x3 ((x4 >>> ((4 : Int32) &&& 31)) &&& (3 : Int32))))), .val (.int (own_cprec (own_par x0 x1 ((x4 >>> ((2 : Int32) &&& 31)) &&& (3 : Int32))) x0 (nar .boolean y) (nar .boolean z) (own_par x2 x3 ((x4 >>> ((4 : Int32) &&& 31)) &&& (3 : Int32))) x2))] []) _ _ _
      refine own_go (fun _ => XS.iload X13.here hx rfl (hb hby at_132) rfl) ?_
      show own_Fin _ _ _ _ T13 (mkF m 134 #[.val (.int x0), .val (.int x1), .val (.int x2), .val (.int x3), .val (.int x4), .val (.int z), .val (.int y), .val (.int (own_par x0 x1 ((x4 >>> ((2 : Int32) &&& 31)) &&& (3 : Int32)))), .val (.int (own_par x2 x3 ((x4 >>> ((4 : Int32) &&& 31)) &&& (3 : Int32)))), .val (.ref b3), .val (.ref b7), .val (.int (own_cprec x0 (own_par x0 x1 ((x4 >>> ((2 : Int32) &&& 31)) &&& (3 : Int32))) (nar .boolean z) (nar .boolean y) x2 (own_par x2 x3 ((x4 >>> ((4 : Int32) &&& 31)) &&& (3 : Int32))))), .val (.int (own_cprec (own_par x0 x1 ((x4 >>> ((2 : Int32) &&& 31)) &&& (3 : Int32))) x0 (nar .boolean y) (nar .boolean z) (own_par x2 x3 ((x4 >>> ((4 : Int32) &&& 31)) &&& (3 : Int32))) x2))] [(.int (own_cprec (own_par x0 x1 ((x4 >>> ((2 : Int32) &&& 31)) &&& (3 : Int32))) x0 (nar .boolean y) (nar .boolean z) (own_par x2 x3 ((x4 >>> ((4 : Int32) &&& 31)) &&& (3 : Int32))) x2))]) _ _ _
      refine own_go (fun _ => XS.iload X13.here hx rfl (hb hby at_134) rfl) ?_
      show own_Fin _ _ _ _ T13 (mkF m 136 #[.val (.int x0), .val (.int x1), .val (.int x2), .val (.int x3), .val (.int x4), .val (.int z), .val (.int y), .val (.int (own_par x0 x1 ((x4 >>> ((2 : Int32) &&& 31)) &&& (3 : Int32)))), .val (.int (own_par x2 x3 ((x4 >>> ((4 : Int32) &&& 31)) &&& (3 : Int32)))), .val (.ref b3), .val (.ref b7), .val (.int (own_cprec x0 (own_par x0 x1 ((x4 >>> ((2 : Int32) &&& 31)) &&& (3 : Int32))) (nar .boolean z) (nar .boolean y) x2 (own_par x2 x3 ((x4 >>> ((4 : Int32) &&& 31)) &&& (3 : Int32))))), .val (.int (own_cprec (own_par x0 x1 ((x4 >>> ((2 : Int32) &&& 31)) &&& (3 : Int32))) x0 (nar .boolean y) (nar .boolean z) (own_par x2 x3 ((x4 >>> ((4 : Int32) &&& 31)) &&& (3 : Int32))) x2))] [(.int (own_par x0 x1 ((x4 >>> ((2 : Int32) &&& 31)) &&& (3 : Int32)))), (.int (own_cprec (own_par x0 x1 ((x4 >>> ((2 : Int32) &&& 31)) &&& (3 : Int32))) x0 (nar .boolean y) (nar .boolean z) (own_par x2 x3 ((x4 >>> ((4 : Int32) &&& 31)) &&& (3 : Int32))) x2))]) _ _ _
      refine own_go (fun _ => XS.iload X13.here hx rfl (hb hby at_136) rfl) ?_
      show own_Fin _ _ _ _ T13 (mkF m 138 #[.val (.int x0), .val (.int x1), .val (.int x2), .val (.int x3), .val (.int x4), .val (.int z), .val (.int y), .val (.int (own_par x0 x1 ((x4 >>> ((2 : Int32) &&& 31)) &&& (3 : Int32)))), .val (.int (own_par x2 x3 ((x4 >>> ((4 : Int32) &&& 31)) &&& (3 : Int32)))), .val (.ref b3), .val (.ref b7), .val (.int (own_cprec x0 (own_par x0 x1 ((x4 >>> ((2 : Int32) &&& 31)) &&& (3 : Int32))) (nar .boolean z) (nar .boolean y) x2 (own_par x2 x3 ((x4 >>> ((4 : Int32) &&& 31)) &&& (3 : Int32))))), .val (.int (own_cprec (own_par x0 x1 ((x4 >>> ((2 : Int32) &&& 31)) &&& (3 : Int32))) x0 (nar .boolean y) (nar .boolean z) (own_par x2 x3 ((x4 >>> ((4 : Int32) &&& 31)) &&& (3 : Int32))) x2))] [(.int (own_par x2 x3 ((x4 >>> ((4 : Int32) &&& 31)) &&& (3 : Int32)))), (.int (own_par x0 x1 ((x4 >>> ((2 : Int32) &&& 31)) &&& (3 : Int32)))), (.int (own_cprec (own_par x0 x1 ((x4 >>> ((2 : Int32) &&& 31)) &&& (3 : Int32))) x0 (nar .boolean y) (nar .boolean z) (own_par x2 x3 ((x4 >>> ((4 : Int32) &&& 31)) &&& (3 : Int32))) x2))]) _ _ _
      refine own_go (fun _ => XS.iload X13.here hx rfl (hb hby at_138) rfl) ?_
      show own_Fin _ _ _ _ T13 (mkF m 140 #[.val (.int x0), .val (.int x1), .val (.int x2), .val (.int x3), .val (.int x4), .val (.int z), .val (.int y), .val (.int (own_par x0 x1 ((x4 >>> ((2 : Int32) &&& 31)) &&& (3 : Int32)))), .val (.int (own_par x2 x3 ((x4 >>> ((4 : Int32) &&& 31)) &&& (3 : Int32)))), .val (.ref b3), .val (.ref b7), .val (.int (own_cprec x0 (own_par x0 x1 ((x4 >>> ((2 : Int32) &&& 31)) &&& (3 : Int32))) (nar .boolean z) (nar .boolean y) x2 (own_par x2 x3 ((x4 >>> ((4 : Int32) &&& 31)) &&& (3 : Int32))))), .val (.int (own_cprec (own_par x0 x1 ((x4 >>> ((2 : Int32) &&& 31)) &&& (3 : Int32))) x0 (nar .boolean y) (nar .boolean z) (own_par x2 x3 ((x4 >>> ((4 : Int32) &&& 31)) &&& (3 : Int32))) x2))] [(.int y), (.int (own_par x2 x3 ((x4 >>> ((4 : Int32) &&& 31)) &&& (3 : Int32)))), (.int (own_par x0 x1 ((x4 >>> ((2 : Int32) &&& 31)) &&& (3 : Int32)))), (.int (own_cprec (own_par x0 x1 ((x4 >>> ((2 : Int32) &&& 31)) &&& (3 : Int32))) x0 (nar .boolean y) (nar .boolean z) (own_par x2 x3 ((x4 >>> ((4 : Int32) &&& 31)) &&& (3 : Int32))) x2))]) _ _ _
      refine own_go (fun _ => XS.iloadN X13.here hx rfl (hb hby at_140) rfl) ?_
      show own_Fin _ _ _ _ T13 (mkF m 141 #[.val (.int x0), .val (.int x1), .val (.int x2), .val (.int x3), .val (.int x4), .val (.int z), .val (.int y), .val (.int (own_par x0 x1 ((x4 >>> ((2 : Int32) &&& 31)) &&& (3 : Int32)))), .val (.int (own_par x2 x3 ((x4 >>> ((4 : Int32) &&& 31)) &&& (3 : Int32)))), .val (.ref b3), .val (.ref b7), .val (.int (own_cprec x0 (own_par x0 x1 ((x4 >>> ((2 : Int32) &&& 31)) &&& (3 : Int32))) (nar .boolean z) (nar .boolean y) x2 (own_par x2 x3 ((x4 >>> ((4 : Int32) &&& 31)) &&& (3 : Int32))))), .val (.int (own_cprec (own_par x0 x1 ((x4 >>> ((2 : Int32) &&& 31)) &&& (3 : Int32))) x0 (nar .boolean y) (nar .boolean z) (own_par x2 x3 ((x4 >>> ((4 : Int32) &&& 31)) &&& (3 : Int32))) x2))] [(.int x0), (.int y), (.int (own_par x2 x3 ((x4 >>> ((4 : Int32) &&& 31)) &&& (3 : Int32)))), (.int (own_par x0 x1 ((x4 >>> ((2 : Int32) &&& 31)) &&& (3 : Int32)))), (.int (own_cprec (own_par x0 x1 ((x4 >>> ((2 : Int32) &&& 31)) &&& (3 : Int32))) x0 (nar .boolean y) (nar .boolean z) (own_par x2 x3 ((x4 >>> ((4 : Int32) &&& 31)) &&& (3 : Int32))) x2))]) _ _ _
      refine own_go (fun _ => XS.iloadN X13.here hx rfl (hb hby at_141) rfl) ?_
      show own_Fin _ _ _ _ T13 (mkF m 142 #[.val (.int x0), .val (.int x1), .val (.int x2), .val (.int x3), .val (.int x4), .val (.int z), .val (.int y), .val (.int (own_par x0 x1 ((x4 >>> ((2 : Int32) &&& 31)) &&& (3 : Int32)))), .val (.int (own_par x2 x3 ((x4 >>> ((4 : Int32) &&& 31)) &&& (3 : Int32)))), .val (.ref b3), .val (.ref b7), .val (.int (own_cprec x0 (own_par x0 x1 ((x4 >>> ((2 : Int32) &&& 31)) &&& (3 : Int32))) (nar .boolean z) (nar .boolean y) x2 (own_par x2 x3 ((x4 >>> ((4 : Int32) &&& 31)) &&& (3 : Int32))))), .val (.int (own_cprec (own_par x0 x1 ((x4 >>> ((2 : Int32) &&& 31)) &&& (3 : Int32))) x0 (nar .boolean y) (nar .boolean z) (own_par x2 x3 ((x4 >>> ((4 : Int32) &&& 31)) &&& (3 : Int32))) x2))] [(.int x2), (.int x0), (.int y), (.int (own_par x2 x3 ((x4 >>> ((4 : Int32) &&& 31)) &&& (3 : Int32)))), (.int (own_par x0 x1 ((x4 >>> ((2 : Int32) &&& 31)) &&& (3 : Int32)))), (.int (own_cprec (own_par x0 x1 ((x4 >>> ((2 : Int32) &&& 31)) &&& (3 : Int32))) x0 (nar .boolean y) (nar .boolean z) (own_par x2 x3 ((x4 >>> ((4 : Int32) &&& 31)) &&& (3 : Int32))) x2))]) _ _ _
      refine own_go (fun _ => XS.iload X13.here hx rfl (hb hby at_142) rfl) ?_
      show own_Fin _ _ _ _ T13 (mkF m 144 #[.val (.int x0), .val (.int x1), .val (.int x2), .val (.int x3), .val (.int x4), .val (.int z), .val (.int y), .val (.int (own_par x0 x1 ((x4 >>> ((2 : Int32) &&& 31)) &&& (3 : Int32)))), .val (.int (own_par x2 x3 ((x4 >>> ((4 : Int32) &&& 31)) &&& (3 : Int32)))), .val (.ref b3), .val (.ref b7), .val (.int (own_cprec x0 (own_par x0 x1 ((x4 >>> ((2 : Int32) &&& 31)) &&& (3 : Int32))) (nar .boolean z) (nar .boolean y) x2 (own_par x2 x3 ((x4 >>> ((4 : Int32) &&& 31)) &&& (3 : Int32))))), .val (.int (own_cprec (own_par x0 x1 ((x4 >>> ((2 : Int32) &&& 31)) &&& (3 : Int32))) x0 (nar .boolean y) (nar .boolean z) (own_par x2 x3 ((x4 >>> ((4 : Int32) &&& 31)) &&& (3 : Int32))) x2))] [(.int z), (.int x2), (.int x0), (.int y), (.int (own_par x2 x3 ((x4 >>> ((4 : Int32) &&& 31)) &&& (3 : Int32)))), (.int (own_par x0 x1 ((x4 >>> ((2 : Int32) &&& 31)) &&& (3 : Int32)))), (.int (own_cprec (own_par x0 x1 ((x4 >>> ((2 : Int32) &&& 31)) &&& (3 : Int32))) x0 (nar .boolean y) (nar .boolean z) (own_par x2 x3 ((x4 >>> ((4 : Int32) &&& 31)) &&& (3 : Int32))) x2))]) _ _ _
      obtain ⟨_, _, ⟨T14, L14, k14, n14⟩, -, X14, ⟨Lc14, hQ14, l14, y14, z14⟩, st14⟩ := Jvm.LawKit.callS X13 hx (y := (⟨"com/example/olefin_desk/olefindesk/ContractDayPrecedesPinLaw", "expected", "(IIZIIZ)Z"⟩ : MethodName)) hown (mvT hZ (hw _ (List.mem_of_getElem? (i := 38) rfl))) (mvT hZ (hw _ (List.mem_of_getElem? (i := 39) rfl))) (mvT hZ (hw _ (List.mem_of_getElem? (i := 2) rfl))) (mvT hZ (hw _ (List.mem_of_getElem? (i := 40) rfl))) (by decide) (backOf (W := 1) (rm7 l Z a0 hw [] (own_par x0 x1 ((x4 >>> ((2 : Int32) &&& 31)) &&& (3 : Int32))) (own_par x2 x3 ((x4 >>> ((4 : Int32) &&& 31)) &&& (3 : Int32))) y x0 x2 z  T10.heap n0 Zc10 ) hZ (hw _ (List.mem_of_getElem? (i := 40) rfl)) (hw _ (List.mem_of_getElem? (i := 2) rfl)) (by decide) (by decide)) (g := (mkF m 144 #[.val (.int x0), .val (.int x1), .val (.int x2), .val (.int x3), .val (.int x4), .val (.int z), .val (.int y), .val (.int (own_par x0 x1 ((x4 >>> ((2 : Int32) &&& 31)) &&& (3 : Int32)))), .val (.int (own_par x2 x3 ((x4 >>> ((4 : Int32) &&& 31)) &&& (3 : Int32)))), .val (.ref b3), .val (.ref b7), .val (.int (own_cprec x0 (own_par x0 x1 ((x4 >>> ((2 : Int32) &&& 31)) &&& (3 : Int32))) (nar .boolean z) (nar .boolean y) x2 (own_par x2 x3 ((x4 >>> ((4 : Int32) &&& 31)) &&& (3 : Int32))))), .val (.int (own_cprec (own_par x0 x1 ((x4 >>> ((2 : Int32) &&& 31)) &&& (3 : Int32))) x0 (nar .boolean y) (nar .boolean z) (own_par x2 x3 ((x4 >>> ((4 : Int32) &&& 31)) &&& (3 : Int32))) x2))] [(.int z), (.int x2), (.int x0), (.int y), (.int (own_par x2 x3 ((x4 >>> ((4 : Int32) &&& 31)) &&& (3 : Int32)))), (.int (own_par x0 x1 ((x4 >>> ((2 : Int32) &&& 31)) &&& (3 : Int32)))), (.int (own_cprec (own_par x0 x1 ((x4 >>> ((2 : Int32) &&& 31)) &&& (3 : Int32))) x0 (nar .boolean y) (nar .boolean z) (own_par x2 x3 ((x4 >>> ((4 : Int32) &&& 31)) &&& (3 : Int32))) x2))])) rfl (by rw [hml]; rfl) (argsL := [(.int (own_par x0 x1 ((x4 >>> ((2 : Int32) &&& 31)) &&& (3 : Int32)))), (.int (own_par x2 x3 ((x4 >>> ((4 : Int32) &&& 31)) &&& (3 : Int32)))), (.int y), (.int x0), (.int x2), (.int z)]) (rest := [(.int (own_cprec (own_par x0 x1 ((x4 >>> ((2 : Int32) &&& 31)) &&& (3 : Int32))) x0 (nar .boolean y) (nar .boolean z) (own_par x2 x3 ((x4 >>> ((4 : Int32) &&& 31)) &&& (3 : Int32))) x2))]) (lenOf pd_7 rfl) rfl (by show 2 * 0 + _ ≤ _; exact Nat.le_of_eq rfl) (hb hby at_144) (fun _ _ => ⟨rfl, e13, (by decide : 4 + 0 ≤ _), (by decide : 8 + 0 ≤ _)⟩)
      dsimp only [Pt.U, Pt.locs, Pt.cells, Pt.slots] at X14 l14 y14 z14 st14 hQ14
      subst l14 y14 z14
      obtain ⟨rfl, N14q, e14⟩ := hQ14
      have N14 := Fr.app N13 N14q
      refine own_go st14 ?_
      show own_Fin _ _ _ _ T14 (mkF m 147 #[.val (.int x0), .val (.int x1), .val (.int x2), .val (.int x3), .val (.int x4), .val (.int z), .val (.int y), .val (.int (own_par x0 x1 ((x4 >>> ((2 : Int32) &&& 31)) &&& (3 : Int32)))), .val (.int (own_par x2 x3 ((x4 >>> ((4 : Int32) &&& 31)) &&& (3 : Int32)))), .val (.ref b3), .val (.ref b7), .val (.int (own_cprec x0 (own_par x0 x1 ((x4 >>> ((2 : Int32) &&& 31)) &&& (3 : Int32))) (nar .boolean z) (nar .boolean y) x2 (own_par x2 x3 ((x4 >>> ((4 : Int32) &&& 31)) &&& (3 : Int32))))), .val (.int (own_cprec (own_par x0 x1 ((x4 >>> ((2 : Int32) &&& 31)) &&& (3 : Int32))) x0 (nar .boolean y) (nar .boolean z) (own_par x2 x3 ((x4 >>> ((4 : Int32) &&& 31)) &&& (3 : Int32))) x2))] [(.int (own_exp (own_par x0 x1 ((x4 >>> ((2 : Int32) &&& 31)) &&& (3 : Int32))) (own_par x2 x3 ((x4 >>> ((4 : Int32) &&& 31)) &&& (3 : Int32))) y x0 x2 z)), (.int (own_cprec (own_par x0 x1 ((x4 >>> ((2 : Int32) &&& 31)) &&& (3 : Int32))) x0 (nar .boolean y) (nar .boolean z) (own_par x2 x3 ((x4 >>> ((4 : Int32) &&& 31)) &&& (3 : Int32))) x2))]) _ _ _
      refine own_go (fun _ => XS.icmpNo X14.here hx rfl (hb hby at_147) rfl (teq (show (own_cprec (own_par x0 x1 ((x4 >>> ((2 : Int32) &&& 31)) &&& (3 : Int32))) x0 (nar .boolean y) (nar .boolean z) (own_par x2 x3 ((x4 >>> ((4 : Int32) &&& 31)) &&& (3 : Int32))) x2) = (own_exp (own_par x0 x1 ((x4 >>> ((2 : Int32) &&& 31)) &&& (3 : Int32))) (own_par x2 x3 ((x4 >>> ((4 : Int32) &&& 31)) &&& (3 : Int32))) y x0 x2 z) from own_law hp_J26 hp_J12)).2) ?_
      show own_Fin _ _ _ _ T14 (mkF m 150 #[.val (.int x0), .val (.int x1), .val (.int x2), .val (.int x3), .val (.int x4), .val (.int z), .val (.int y), .val (.int (own_par x0 x1 ((x4 >>> ((2 : Int32) &&& 31)) &&& (3 : Int32)))), .val (.int (own_par x2 x3 ((x4 >>> ((4 : Int32) &&& 31)) &&& (3 : Int32)))), .val (.ref b3), .val (.ref b7), .val (.int (own_cprec x0 (own_par x0 x1 ((x4 >>> ((2 : Int32) &&& 31)) &&& (3 : Int32))) (nar .boolean z) (nar .boolean y) x2 (own_par x2 x3 ((x4 >>> ((4 : Int32) &&& 31)) &&& (3 : Int32))))), .val (.int (own_cprec (own_par x0 x1 ((x4 >>> ((2 : Int32) &&& 31)) &&& (3 : Int32))) x0 (nar .boolean y) (nar .boolean z) (own_par x2 x3 ((x4 >>> ((4 : Int32) &&& 31)) &&& (3 : Int32))) x2))] []) _ _ _
      refine own_go (fun _ => XS.iconst X14.here hx rfl (hb hby at_150)) ?_
      show own_Fin _ _ _ _ T14 (mkF m 151 #[.val (.int x0), .val (.int x1), .val (.int x2), .val (.int x3), .val (.int x4), .val (.int z), .val (.int y), .val (.int (own_par x0 x1 ((x4 >>> ((2 : Int32) &&& 31)) &&& (3 : Int32)))), .val (.int (own_par x2 x3 ((x4 >>> ((4 : Int32) &&& 31)) &&& (3 : Int32)))), .val (.ref b3), .val (.ref b7), .val (.int (own_cprec x0 (own_par x0 x1 ((x4 >>> ((2 : Int32) &&& 31)) &&& (3 : Int32))) (nar .boolean z) (nar .boolean y) x2 (own_par x2 x3 ((x4 >>> ((4 : Int32) &&& 31)) &&& (3 : Int32))))), .val (.int (own_cprec (own_par x0 x1 ((x4 >>> ((2 : Int32) &&& 31)) &&& (3 : Int32))) x0 (nar .boolean y) (nar .boolean z) (own_par x2 x3 ((x4 >>> ((4 : Int32) &&& 31)) &&& (3 : Int32))) x2))] [(.int (1 : Int32))]) _ _ _
      refine own_go (fun _ => XS.goto X14.here hx rfl (pc0 := 151) (pc' := 155) rfl (hb hby at_151) (by decide) (by decide)) ?_
      show own_Fin _ _ _ _ T14 (mkF m 155 #[.val (.int x0), .val (.int x1), .val (.int x2), .val (.int x3), .val (.int x4), .val (.int z), .val (.int y), .val (.int (own_par x0 x1 ((x4 >>> ((2 : Int32) &&& 31)) &&& (3 : Int32)))), .val (.int (own_par x2 x3 ((x4 >>> ((4 : Int32) &&& 31)) &&& (3 : Int32)))), .val (.ref b3), .val (.ref b7), .val (.int (own_cprec x0 (own_par x0 x1 ((x4 >>> ((2 : Int32) &&& 31)) &&& (3 : Int32))) (nar .boolean z) (nar .boolean y) x2 (own_par x2 x3 ((x4 >>> ((4 : Int32) &&& 31)) &&& (3 : Int32))))), .val (.int (own_cprec (own_par x0 x1 ((x4 >>> ((2 : Int32) &&& 31)) &&& (3 : Int32))) x0 (nar .boolean y) (nar .boolean z) (own_par x2 x3 ((x4 >>> ((4 : Int32) &&& 31)) &&& (3 : Int32))) x2))] [(.int (1 : Int32))]) _ _ _
      exact own_retZ X14 hx hnl (t := .boolean) hret (by simp) (hb hby at_155) (by decide) (by decide) ⟨rfl, N14⟩
    refine own_go (fun _ => XS.istore X0.here hx rfl (hb hby at_12) rfl (l' := #[.val (.int x0), .val (.int x1), .val (.int x2), .val (.int x3), .val (.int x4), .val (.int z), .unset, .unset, .unset, .unset, .unset, .unset, .unset]) rfl) ?_
    show own_Fin _ _ _ _ s₁ (mkF m 14 #[.val (.int x0), .val (.int x1), .val (.int x2), .val (.int x3), .val (.int x4), .val (.int z), .unset, .unset, .unset, .unset, .unset, .unset, .unset] []) _ _ _
    refine own_go (fun _ => XS.iload X0.here hx rfl (hb hby at_14) rfl) ?_
    show own_Fin _ _ _ _ s₁ (mkF m 16 #[.val (.int x0), .val (.int x1), .val (.int x2), .val (.int x3), .val (.int x4), .val (.int z), .unset, .unset, .unset, .unset, .unset, .unset, .unset] [(.int x4)]) _ _ _
    refine own_go (fun _ => XS.iconst X0.here hx rfl (hb hby at_16)) ?_
    show own_Fin _ _ _ _ s₁ (mkF m 17 #[.val (.int x0), .val (.int x1), .val (.int x2), .val (.int x3), .val (.int x4), .val (.int z), .unset, .unset, .unset, .unset, .unset, .unset, .unset] [(.int (2 : Int32)), (.int x4)]) _ _ _
    refine own_go (fun _ => XS.iand X0.here hx rfl (hb hby at_17) rfl) ?_
    show own_Fin _ _ _ _ s₁ (mkF m 18 #[.val (.int x0), .val (.int x1), .val (.int x2), .val (.int x3), .val (.int x4), .val (.int z), .unset, .unset, .unset, .unset, .unset, .unset, .unset] [(.int (x4 &&& (2 : Int32)))]) _ _ _
    by_cases h18 : (x4 &&& (2 : Int32)) = (0 : Int32)
    · refine own_go (fun _ => XS.ifYes X0.here hx rfl (pc0 := 18) (pc' := 25) rfl (hb hby at_18) rfl ((if0 _ _).trans (teq h18).1) (by decide) (by decide)) ?_
      show own_Fin _ _ _ _ s₁ (mkF m 25 #[.val (.int x0), .val (.int x1), .val (.int x2), .val (.int x3), .val (.int x4), .val (.int z), .unset, .unset, .unset, .unset, .unset, .unset, .unset] []) _ _ _
      refine own_go (fun _ => XS.iconst X0.here hx rfl (hb hby at_25)) ?_
      show own_Fin _ _ _ _ s₁ (mkF m 26 #[.val (.int x0), .val (.int x1), .val (.int x2), .val (.int x3), .val (.int x4), .val (.int z), .unset, .unset, .unset, .unset, .unset, .unset, .unset] [(.int (0 : Int32))]) _ _ _
      exact J26 (0 : Int32) (by decide)
    · refine own_go (fun _ => XS.ifNo X0.here hx rfl (hb hby at_18) rfl ((if0 _ _).trans (feq h18).1)) ?_
      show own_Fin _ _ _ _ s₁ (mkF m 21 #[.val (.int x0), .val (.int x1), .val (.int x2), .val (.int x3), .val (.int x4), .val (.int z), .unset, .unset, .unset, .unset, .unset, .unset, .unset] []) _ _ _
      refine own_go (fun _ => XS.iconst X0.here hx rfl (hb hby at_21)) ?_
      show own_Fin _ _ _ _ s₁ (mkF m 22 #[.val (.int x0), .val (.int x1), .val (.int x2), .val (.int x3), .val (.int x4), .val (.int z), .unset, .unset, .unset, .unset, .unset, .unset, .unset] [(.int (1 : Int32))]) _ _ _
      refine own_go (fun _ => XS.goto X0.here hx rfl (pc0 := 22) (pc' := 26) rfl (hb hby at_22) (by decide) (by decide)) ?_
      show own_Fin _ _ _ _ s₁ (mkF m 26 #[.val (.int x0), .val (.int x1), .val (.int x2), .val (.int x3), .val (.int x4), .val (.int z), .unset, .unset, .unset, .unset, .unset, .unset, .unset] [(.int (1 : Int32))]) _ _ _
      exact J26 (1 : Int32) (by decide)
  refine own_go (fun _ => XS.iload X0.here hx rfl (hb hby at_0) rfl) ?_
  show own_Fin _ _ _ _ s₁ (mkF m 2 #[.val (.int x0), .val (.int x1), .val (.int x2), .val (.int x3), .val (.int x4), .unset, .unset, .unset, .unset, .unset, .unset, .unset, .unset] [(.int x4)]) _ _ _
  refine own_go (fun _ => XS.iconst X0.here hx rfl (hb hby at_2)) ?_
  show own_Fin _ _ _ _ s₁ (mkF m 3 #[.val (.int x0), .val (.int x1), .val (.int x2), .val (.int x3), .val (.int x4), .unset, .unset, .unset, .unset, .unset, .unset, .unset, .unset] [(.int (1 : Int32)), (.int x4)]) _ _ _
  refine own_go (fun _ => XS.iand X0.here hx rfl (hb hby at_3) rfl) ?_
  show own_Fin _ _ _ _ s₁ (mkF m 4 #[.val (.int x0), .val (.int x1), .val (.int x2), .val (.int x3), .val (.int x4), .unset, .unset, .unset, .unset, .unset, .unset, .unset, .unset] [(.int (x4 &&& (1 : Int32)))]) _ _ _
  by_cases h4 : (x4 &&& (1 : Int32)) = (0 : Int32)
  · refine own_go (fun _ => XS.ifYes X0.here hx rfl (pc0 := 4) (pc' := 11) rfl (hb hby at_4) rfl ((if0 _ _).trans (teq h4).1) (by decide) (by decide)) ?_
    show own_Fin _ _ _ _ s₁ (mkF m 11 #[.val (.int x0), .val (.int x1), .val (.int x2), .val (.int x3), .val (.int x4), .unset, .unset, .unset, .unset, .unset, .unset, .unset, .unset] []) _ _ _
    refine own_go (fun _ => XS.iconst X0.here hx rfl (hb hby at_11)) ?_
    show own_Fin _ _ _ _ s₁ (mkF m 12 #[.val (.int x0), .val (.int x1), .val (.int x2), .val (.int x3), .val (.int x4), .unset, .unset, .unset, .unset, .unset, .unset, .unset, .unset] [(.int (0 : Int32))]) _ _ _
    exact J12 (0 : Int32) (by decide)
  · refine own_go (fun _ => XS.ifNo X0.here hx rfl (hb hby at_4) rfl ((if0 _ _).trans (feq h4).1)) ?_
    show own_Fin _ _ _ _ s₁ (mkF m 7 #[.val (.int x0), .val (.int x1), .val (.int x2), .val (.int x3), .val (.int x4), .unset, .unset, .unset, .unset, .unset, .unset, .unset, .unset] []) _ _ _
    refine own_go (fun _ => XS.iconst X0.here hx rfl (hb hby at_7)) ?_
    show own_Fin _ _ _ _ s₁ (mkF m 8 #[.val (.int x0), .val (.int x1), .val (.int x2), .val (.int x3), .val (.int x4), .unset, .unset, .unset, .unset, .unset, .unset, .unset, .unset] [(.int (1 : Int32))]) _ _ _
    refine own_go (fun _ => XS.goto X0.here hx rfl (pc0 := 8) (pc' := 12) rfl (hb hby at_8) (by decide) (by decide)) ?_
    show own_Fin _ _ _ _ s₁ (mkF m 12 #[.val (.int x0), .val (.int x1), .val (.int x2), .val (.int x3), .val (.int x4), .unset, .unset, .unset, .unset, .unset, .unset, .unset, .unset] [(.int (1 : Int32))]) _ _ _
    exact J12 (1 : Int32) (by decide)

set_option maxRecDepth 65536 in
set_option maxHeartbeats 40000000 in
theorem comes_1 {Post : Tables → Env → Array Value → State → Outcome → State → Prop} (hpost : ∀ tb e args s v u, (limb_1_1.after args s (.returned v) u = true ∧ limb_1_2.after args s (.returned v) u = true) → FrameEnd s (.returned v) u (Jvm.fieldLocs frame_1_writes args s ++ Jvm.arrayLocs frame_1_arrays args s ++ Jvm.staticLocs frame_1_statics s) 16 128 → Post tb e args s (.returned v) u) :
    ArmFor flags0 classFile x code maxLocals ret World_1 tables_1 room_1 Calls_1 rest_1 Pre_1 Post := by
  intro l hfl _ _ p e ha hc hk s m args below hf hA hF happ hP
  obtain ⟨hcalls, hrest, hpre⟩ := hP
  obtain ⟨-, -, -, hnamed, -, -, -, hat⟩ := (Spec.applies_iff hf).mp happ
  obtain ⟨hg, hn⟩ := and_e (Cond.before_iff.mp (show (Jvm.Cond.and given_1 narrow_1).before args s = true from hpre))
  obtain ⟨gg1, gg2⟩ := and_e hg
  obtain ⟨gg3, gg4⟩ := and_e gg2
  obtain ⟨gg5, gg6⟩ := and_e gg4
  obtain ⟨gg7, gg8⟩ := and_e gg6
  obtain ⟨gg9, gg10⟩ := and_e gg8
  obtain ⟨w0, w1, w2, w3, w4, rfl⟩ : ∃ w0 w1 w2 w3 w4 : Value, args = #[w0, w1, w2, w3, w4] := by
    have hs : args.size = 5 := by simpa [Cond.value, given_1] using gg1
    obtain ⟨L⟩ := args
    match L, hs with
    | [w0, w1, w2, w3, w4], _ => exact ⟨w0, w1, w2, w3, w4, rfl⟩
  have hw := fun d (hd : d ∈ tables_1) => atoms_spec (ws := Jvm.Cond.code x code maxLocals ret :: tables_1) hat d (List.mem_cons_of_mem _ hd)
  obtain ⟨i0, ei0⟩ := is_v gg3
  obtain rfl : w0 = (.int i0) := Option.some.inj ei0
  obtain ⟨i1, ei1⟩ := is_v gg5
  obtain rfl : w1 = (.int i1) := Option.some.inj ei1
  obtain ⟨i2, ei2⟩ := is_v gg7
  obtain rfl : w2 = (.int i2) := Option.some.inj ei2
  obtain ⟨i3, ei3⟩ := is_v gg9
  obtain rfl : w3 = (.int i3) := Option.some.inj ei3
  obtain ⟨i4, ei4⟩ := is_v gg10
  obtain rfl : w4 = (.int i4) := Option.some.inj ei4
  obtain ⟨n, o, h1, h2, h3, _, L, rfl, ⟨rfl, N⟩, hq⟩ := rm0 l s _ hw tables_1 i0 i1 i2 i3 i4 s.heap s.heap.size (Nat.le_refl _) p e ha hc hk s m _ below hf ((Spec.applies_iff_loose hf).mp happ).1 ⟨rfl, State.Warmed39.refl s, rfl⟩ trivial
  refine ⟨n, _, h1, h2, h3, hpost _ _ _ _ _ _ ⟨Cond.after_iff.mpr rfl, Cond.after_iff.mpr (eq_i res_at (Term.int_eval (1)) rfl)⟩ ⟨hq.1, hq.2.1, (hq.2.2.sift fun y hy => Or.inr (N y hy)).mono (by decide) (by decide)⟩⟩
theorem main_1_1 : Claimed_1_1 := comes_1 fun _ _ _ _ _ _ h hF => ⟨h.1, hF⟩
theorem main_1_2 : Claimed_1_2 := comes_1 fun _ _ _ _ _ _ h hF => ⟨h.2, hF⟩
end Jvm.Pilot.@@N@@
namespace Jvm.Pilot.@@N@@
open Jvm Jvm.ClassFile Sem Op Lib Jvm.Free Jvm.Stand Jvm.Pilot.@@N@@.Jvm.D
/-! MADE BY PROGRAM (witnessworld.py) out of the Statement's table words and the real class files: 11 classes; the members and pool entries that the words name. The judged class is class 1, her method 4. -/
namespace start1
open Jvm.ClassFile
def u (s : String) : CpInfo := .utf8 (stringToUtf16 s)
/-- a pool by its gaps: so many unusable entries, then the entry; so many at the end -/
def gap : Nat → List CpInfo → List CpInfo
  | 0, r => r
  | n + 1, r => .unusable :: gap n r
def poolList (es : List (Nat × CpInfo)) (last : Nat) : List CpInfo := es.foldr (fun e r => gap e.1 (e.2 :: r)) (gap last [])
def pool (es : List (Nat × CpInfo)) (last : Nat) : Array CpInfo := ⟨poolList es last⟩
def fileOf (pool : Array CpInfo) (this : Nat) (attrs : Array Attribute := #[]) (ms : Array MethodInfo := #[]) (fl : Nat := 33) (sup : Nat := 0) (ifs : Array Nat := #[]) (fds : Array FieldInfo := #[]) : ClassFile where
  minorVersion := 0
  majorVersion := 65
  constantPool := pool
  accessFlags := fl
  thisClass := this
  superClass := sup
  interfaces := ifs
  fields := fds
  methods := ms
  attributes := attrs
def plain (name : String) (sup : Option ClassId) : Class where
  name := name
  kind := .ordinary
  loader := none
  accessFlags := 33
  super := sup
  interfaces := #[]
  cf := none
  fields := #[]
  methods := #[]
  instanceTypes := #[]
  staticTypes := #[]
  resolved := #[]
  callSites := []
  init := .initialized
  statics := none
  mirror := none

def pool0 : Array CpInfo := pool [(5, u "<init>"), (0, u "()V"), (1, .class_ 10), (1, u "java/lang/Object")] 113

def k0c0 : Code := { maxStack := 0, maxLocals := 1, code := object_method_1_code, exceptionTable := #[], attributes := #[] }
def k0m0 : Method := { name := "<init>", desc := "()V", sig := { parameters := [], returnType := none }, accessFlags := 1, code := some k0c0 }
/-- java/lang/Object -/
def k0 : Class := { plain "java/lang/Object" none with
  accessFlags := 33
  interfaces := #[]
  cf := some (fileOf pool0 8 #[] #[{ accessFlags := 1, nameIndex := 5, descriptorIndex := 6, attributes := #[] }] 33 0 #[] #[])
  fields := #[]
  methods := #[k0m0]
  instanceTypes := #[]
  staticTypes := #[]
  resolved := Array.replicate 124 none
  statics := none }

def pool1 : Array CpInfo := pool [(2, .class_ 4), (1, u "java/lang/Object"), (0, u "<init>"), (0, u "()V"), (0, .methodref 8 9), (0, .class_ 10), (0, .nameAndType 11 12), (0, u "com/example/olefin_desk/olefindesk/ContractDayPrecedesPinLaw"), (0, u "position"), (0, u "(IZ)J"), (0, .methodref 8 14), (0, .nameAndType 15 16), (0, u "partner"), (0, u "(III)I"), (0, .class_ 18), (0, u "com/example/olefin_desk/olefindesk/ContractDay"), (0, .class_ 20), (0, u "com/example/olefin_desk/olefindesk/TradingDayOfMonth"), (0, .methodref 19 22), (0, .nameAndType 5 23), (0, u "(IZ)V"), (0, .methodref 17 25), (0, .nameAndType 5 26), (0, u "(ILcom/example/olefin_desk/olefindesk/TradingDayOfMonth;)V"), (0, .methodref 17 28), (0, .nameAndType 29 30), (0, u "precedes"), (0, u "(Lcom/example/olefin_desk/olefindesk/ContractDay;)Z"), (0, .methodref 8 32), (0, .nameAndType 33 34), (0, u "expected"), (0, u "(IIZIIZ)Z"), (3, u "law"), (0, u "(IIIII)Z")] 2

def k1m0 : Method := { name := "<init>", desc := "()V", sig := { parameters := [], returnType := none }, accessFlags := 2, code := none }
def k1c1 : Code := { maxStack := 2, maxLocals := 3, code := method_2_code, exceptionTable := #[], attributes := #[] }
def k1m1 : Method := { name := "partner", desc := "(III)I", sig := { parameters := [.int, .int, .int], returnType := some .int }, accessFlags := 10, code := some k1c1 }
def k1c2 : Code := { maxStack := 2, maxLocals := 2, code := method_3_code, exceptionTable := #[], attributes := #[] }
def k1m2 : Method := { name := "position", desc := "(IZ)J", sig := { parameters := [.int, .boolean], returnType := some .long }, accessFlags := 10, code := some k1c2 }
def k1c3 : Code := { maxStack := 4, maxLocals := 6, code := method_4_code, exceptionTable := #[], attributes := #[] }
def k1m3 : Method := { name := "expected", desc := "(IIZIIZ)Z", sig := { parameters := [.int, .int, .boolean, .int, .int, .boolean], returnType := some .boolean }, accessFlags := 10, code := some k1c3 }
def k1c4 : Code := { maxStack := 7, maxLocals := 13, code := code, exceptionTable := #[], attributes := #[] }
def k1m4 : Method := { name := "law", desc := "(IIIII)Z", sig := { parameters := [.int, .int, .int, .int, .int], returnType := some .boolean }, accessFlags := 9, code := some k1c4 }
/-- com/example/olefin_desk/olefindesk/ContractDayPrecedesPinLaw -/
def k1 : Class := { plain "com/example/olefin_desk/olefindesk/ContractDayPrecedesPinLaw" (some 0) with
  accessFlags := 49
  interfaces := #[]
  cf := some (fileOf pool1 8 #[] #[{ accessFlags := 2, nameIndex := 5, descriptorIndex := 6, attributes := #[] }, { accessFlags := 10, nameIndex := 15, descriptorIndex := 16, attributes := #[] }, { accessFlags := 10, nameIndex := 11, descriptorIndex := 12, attributes := #[] }, { accessFlags := 10, nameIndex := 33, descriptorIndex := 34, attributes := #[] }, { accessFlags := 9, nameIndex := 38, descriptorIndex := 39, attributes := #[] }] 49 2 #[] #[])
  fields := #[]
  methods := #[k1m0, k1m1, k1m2, k1m3, k1m4]
  instanceTypes := #[]
  staticTypes := #[]
  resolved := Array.replicate 42 none
  statics := none }

def pool2 : Array CpInfo := pool [(1, .methodref 2 3), (0, .class_ 4), (0, .nameAndType 5 6), (0, u "java/lang/Object"), (0, u "<init>"), (0, u "()V"), (0, .class_ 8), (0, u "java/lang/Record")] 13

def k2c0 : Code := { maxStack := 1, maxLocals := 1, code := jdk_30_method_1_code, exceptionTable := #[], attributes := #[] }
def k2m0 : Method := { name := "<init>", desc := "()V", sig := { parameters := [], returnType := none }, accessFlags := 4, code := some k2c0 }
/-- java/lang/Record -/
def k2 : Class := { plain "java/lang/Record" (some 0) with
  accessFlags := 1057
  interfaces := #[]
  cf := some (fileOf pool2 7 #[] #[{ accessFlags := 4, nameIndex := 5, descriptorIndex := 6, attributes := #[] }] 1057 2 #[] #[])
  fields := #[]
  methods := #[k2m0]
  instanceTypes := #[]
  staticTypes := #[]
  resolved := Array.replicate 22 none
  statics := none }

def pool3 : Array CpInfo := pool [(1, .methodref 2 3), (0, .class_ 4), (0, .nameAndType 5 6), (0, u "java/lang/Record"), (0, u "<init>"), (0, u "()V"), (0, .fieldref 8 9), (0, .class_ 10), (0, .nameAndType 11 12), (0, u "com/example/olefin_desk/olefindesk/ContractDay"), (0, u "monthsBeforeDelivery"), (0, u "I"), (0, .fieldref 8 14), (0, .nameAndType 15 16), (0, u "day"), (0, u "Lcom/example/olefin_desk/olefindesk/TradingDayOfMonth;"), (2, u "(ILcom/example/olefin_desk/olefindesk/TradingDayOfMonth;)V"), (27, .class_ 49), (1, u "com/example/olefin_desk/olefindesk/TradingDayOfMonth"), (33, .methodref 47 84), (0, .nameAndType 85 86), (0, u "precedes"), (0, u "(Lcom/example/olefin_desk/olefindesk/TradingDayOfMonth;)Z"), (27, u "(Lcom/example/olefin_desk/olefindesk/ContractDay;)Z")] 24

def k3c0 : Code := { maxStack := 2, maxLocals := 3, code := prog_3_method_1_code, exceptionTable := #[], attributes := #[] }
def k3m0 : Method := { name := "<init>", desc := "(ILcom/example/olefin_desk/olefindesk/TradingDayOfMonth;)V", sig := { parameters := [.int, (.object "com/example/olefin_desk/olefindesk/TradingDayOfMonth")], returnType := none }, accessFlags := 1, code := some k3c0 }
def k3c1 : Code := { maxStack := 2, maxLocals := 2, code := prog_3_method_8_code, exceptionTable := #[], attributes := #[] }
def k3m1 : Method := { name := "precedes", desc := "(Lcom/example/olefin_desk/olefindesk/ContractDay;)Z", sig := { parameters := [(.object "com/example/olefin_desk/olefindesk/ContractDay")], returnType := some .boolean }, accessFlags := 1, code := some k3c1 }
/-- com/example/olefin_desk/olefindesk/ContractDay -/
def k3 : Class := { plain "com/example/olefin_desk/olefindesk/ContractDay" (some 2) with
  accessFlags := 49
  interfaces := #[]
  cf := some (fileOf pool3 8 #[] #[{ accessFlags := 1, nameIndex := 5, descriptorIndex := 19, attributes := #[] }, { accessFlags := 1, nameIndex := 85, descriptorIndex := 114, attributes := #[] }] 49 2 #[] #[{ accessFlags := 18, nameIndex := 11, descriptorIndex := 12, attributes := #[] }, { accessFlags := 18, nameIndex := 15, descriptorIndex := 16, attributes := #[] }])
  fields := #[{ name := "monthsBeforeDelivery", type := .int, accessFlags := 18, slot := 0, constantValue := 0 }, { name := "day", type := (.object "com/example/olefin_desk/olefindesk/TradingDayOfMonth"), accessFlags := 18, slot := 1, constantValue := 0 }]
  methods := #[k3m0, k3m1]
  instanceTypes := #[.int, (.object "com/example/olefin_desk/olefindesk/TradingDayOfMonth")]
  staticTypes := #[]
  resolved := Array.replicate 139 none
  statics := none }

def pool4 : Array CpInfo := pool [(1, .methodref 2 3), (0, .class_ 4), (0, .nameAndType 5 6), (0, u "java/lang/Record"), (0, u "<init>"), (0, u "()V"), (0, .fieldref 8 9), (0, .class_ 10), (0, .nameAndType 11 12), (0, u "com/example/olefin_desk/olefindesk/TradingDayOfMonth"), (0, u "n"), (0, u "I"), (0, .fieldref 8 14), (0, .nameAndType 15 16), (0, u "fromEnd"), (0, u "Z"), (2, u "(IZ)V"), (32, u "precedes"), (0, u "(Lcom/example/olefin_desk/olefindesk/TradingDayOfMonth;)Z")] 25

def k4c0 : Code := { maxStack := 2, maxLocals := 3, code := prog_32_method_1_code, exceptionTable := #[], attributes := #[] }
def k4m0 : Method := { name := "<init>", desc := "(IZ)V", sig := { parameters := [.int, .boolean], returnType := none }, accessFlags := 1, code := some k4c0 }
def k4c1 : Code := { maxStack := 2, maxLocals := 3, code := prog_32_method_5_code, exceptionTable := #[], attributes := #[] }
def k4m1 : Method := { name := "precedes", desc := "(Lcom/example/olefin_desk/olefindesk/TradingDayOfMonth;)Z", sig := { parameters := [(.object "com/example/olefin_desk/olefindesk/TradingDayOfMonth")], returnType := some .boolean }, accessFlags := 1, code := some k4c1 }
/-- com/example/olefin_desk/olefindesk/TradingDayOfMonth -/
def k4 : Class := { plain "com/example/olefin_desk/olefindesk/TradingDayOfMonth" (some 2) with
  accessFlags := 49
  interfaces := #[]
  cf := some (fileOf pool4 8 #[] #[{ accessFlags := 1, nameIndex := 5, descriptorIndex := 19, attributes := #[] }, { accessFlags := 1, nameIndex := 52, descriptorIndex := 53, attributes := #[] }] 49 2 #[] #[{ accessFlags := 18, nameIndex := 11, descriptorIndex := 12, attributes := #[] }, { accessFlags := 18, nameIndex := 15, descriptorIndex := 16, attributes := #[] }])
  fields := #[{ name := "n", type := .int, accessFlags := 18, slot := 0, constantValue := 0 }, { name := "fromEnd", type := .boolean, accessFlags := 18, slot := 1, constantValue := 0 }]
  methods := #[k4m0, k4m1]
  instanceTypes := #[.int, .boolean]
  staticTypes := #[]
  resolved := Array.replicate 79 none
  statics := none }

def pool5 : Array CpInfo := pool [(1, u "java/lang/Cloneable"), (0, .class_ 1), (0, u "java/lang/Object"), (0, .class_ 3)] 3

/-- java/lang/Cloneable -/
def k5 : Class := { plain "java/lang/Cloneable" (some 0) with
  accessFlags := 1537
  interfaces := #[]
  cf := some (fileOf pool5 2 #[] #[] 1537 4 #[] #[])
  fields := #[]
  methods := #[]
  instanceTypes := #[]
  staticTypes := #[]
  resolved := Array.replicate 8 none
  statics := none }

def pool6 : Array CpInfo := pool [(1, u "java/io/Serializable"), (0, .class_ 1), (0, u "java/lang/Object"), (0, .class_ 3)] 3

/-- java/io/Serializable -/
def k6 : Class := { plain "java/io/Serializable" (some 0) with
  accessFlags := 1537
  interfaces := #[]
  cf := some (fileOf pool6 2 #[] #[] 1537 4 #[] #[])
  fields := #[]
  methods := #[]
  instanceTypes := #[]
  staticTypes := #[]
  resolved := Array.replicate 8 none
  statics := none }

/-- the primitive byte -/
def k7 : Class := { plain "byte" none with kind := .primitive 'B', accessFlags := 0x411 }
/-- [B -/
def k8 : Class := { plain "[B" (some 0) with kind := .array 7 .byte, interfaces := #[5, 6], accessFlags := 1041 }

/-- the primitive int -/
def k9 : Class := { plain "int" none with kind := .primitive 'I', accessFlags := 0x411 }
/-- [I -/
def k10 : Class := { plain "[I" (some 0) with kind := .array 9 .int, interfaces := #[5, 6], accessFlags := 1041 }

def heap : Heap := #[]
def classes : Array Class := #[k0, k1, k2, k3, k4, k5, k6, k7, k8, k9, k10]
def interned : List (Array UInt16 × Addr) := []
def slotsUsed : Nat := 0
def theMethod : MethodId := ⟨1, 4⟩
def args0 : Array Value := #[.int 5, .int 7, .int 1, .int 2, .int 3]
def aboutOver (below : List Frame) : State where
  vm := { classes := classes, interned := interned.toArray }
  heap := heap
  slotsUsed := slotsUsed
  threads := #[{ frames := .invoking theMethod args0 :: below }]
def below0 : List Frame := [.native { method := ⟨0, 0⟩, args := #[] }]
def about1 : State := aboutOver below0
def p0 : Program := .bare "" "" ""
def e0 : Env := launch0.env 0 0 0
theorem w_frames : about1.frames = Frame.invoking theMethod args0 :: below0 := rfl
set_option maxRecDepth 65536 in
theorem w_args : argsFit about1.vm theMethod args0 = true := by decide +kernel
set_option maxRecDepth 65536 in
theorem w_heap : heapFits about1 = true := by decide +kernel
set_option maxRecDepth 65536 in
theorem w_runnable : about1.curStatus? = some .runnable := by decide +kernel
set_option maxRecDepth 65536 in
theorem w_alone : about1.alone = true := by decide +kernel
set_option maxRecDepth 65536 in
theorem w_named : about1.methodNamed? x = some theMethod := by decide +kernel
set_option maxRecDepth 65536 in
theorem w_hears : about1.hears theMethod below0 = true := by decide +kernel
set_option maxRecDepth 65536 in
theorem w_ripe : about1.ripe theMethod args0 below0 = true := by decide +kernel
theorem w_running : about1.status = .running := rfl
set_option maxRecDepth 65536 in
theorem w_room : about1.hasRoom e0.platform room_1 = true :=
  launch0.hasRoom_least _ room_1 (by decide +kernel) (by decide +kernel) (by decide +kernel) (by decide +kernel) (by decide +kernel) (by decide +kernel)
theorem allAtoms_all (ts : List Jvm.Cond) (a : Array Jvm.Value) (st : Jvm.State) : (allAtoms ts).before a st = ts.all (fun c => c.before a st) := by
  induction ts with
  | nil => rfl
  | cons c t ih =>
    show (Jvm.Cond.and c (allAtoms t)).before a st = _
    rw [Jvm.Cond.before_and, ih, List.all_cons]
def words1 : List Jvm.Cond := Jvm.Cond.code x code maxLocals ret :: tables_1
/-- a 'code' word, met by the world's own term for the bytes: nothing is compared byte by byte -/
theorem code_word {y : MethodName} {bytes : ByteArray} {mx : Nat} {rt : Option FieldType} {a : Array Value} {s : State} {m : MethodId} {meth : Method} {c : Code} (h1 : s.methodNamed? y = some m) (h2 : s.vm.method? m = some meth) (h3 : meth.code = some c) (h4 : c.code = bytes)
    (h5 : (c.maxLocals == mx && c.exceptionTable.isEmpty && decide (c.maxStack ≤ mostOperands) && decide (meth.sig.returnType = rt) && !meth.locks && decide (parseMethodDescriptor y.desc = some meth.sig)) = true) : (Jvm.Cond.code y bytes mx rt).before a s = true := by
  simp only [Bool.and_eq_true, beq_iff_eq, Bool.not_eq_true', decide_eq_true_eq] at h5
  obtain ⟨⟨⟨⟨⟨g1, g2⟩, g3⟩, g4⟩, g5⟩, g6⟩ := h5
  simp [Cond.before, Cond.holds, Cond.value, h1, h2, h3, h4, g1, g2, g3, g4, g5, g6]
def isCode : Jvm.Cond → Bool
  | .code _ _ _ _ => true
  | _ => false
theorem all_split {L : List Jvm.Cond} {P : Jvm.Cond → Bool} (h1 : L.all (fun c => isCode c || P c) = true) (h2 : ∀ c ∈ L.filter isCode, P c = true) : L.all P = true := by
  refine List.all_eq_true.mpr fun c hc => ?_
  have h := List.all_eq_true.mp h1 c hc
  rcases Bool.eq_false_or_eq_true (isCode c) with hi | hi
  · exact h2 c (List.mem_filter.mpr ⟨hc, hi⟩)
  · simpa [hi] using h
set_option maxRecDepth 65536 in
theorem w_c0 : (Jvm.Cond.code x code maxLocals ret).before args0 about1 = true := code_word (m := ⟨1, 4⟩) (meth := k1m4) (c := k1c4) (by decide +kernel) rfl rfl rfl (by decide +kernel)
set_option maxRecDepth 65536 in
theorem w_c1 : (Jvm.Cond.code ({ cls := "com/example/olefin_desk/olefindesk/ContractDayPrecedesPinLaw", name := "partner", desc := "(III)I" } : Jvm.MethodName) method_2_code (3 : Nat) (Option.some Jvm.ClassFile.FieldType.int)).before args0 about1 = true := code_word (m := ⟨1, 1⟩) (meth := k1m1) (c := k1c1) (by decide +kernel) rfl rfl rfl (by decide +kernel)
set_option maxRecDepth 65536 in
theorem w_c2 : (Jvm.Cond.code ({ cls := "com/example/olefin_desk/olefindesk/TradingDayOfMonth", name := "<init>", desc := "(IZ)V" } : Jvm.MethodName) prog_32_method_1_code (3 : Nat) (Option.none : Option Jvm.ClassFile.FieldType)).before args0 about1 = true := code_word (m := ⟨4, 0⟩) (meth := k4m0) (c := k4c0) (by decide +kernel) rfl rfl rfl (by decide +kernel)
set_option maxRecDepth 65536 in
theorem w_c3 : (Jvm.Cond.code ({ cls := "java/lang/Record", name := "<init>", desc := "()V" } : Jvm.MethodName) jdk_30_method_1_code (1 : Nat) (Option.none : Option Jvm.ClassFile.FieldType)).before args0 about1 = true := code_word (m := ⟨2, 0⟩) (meth := k2m0) (c := k2c0) (by decide +kernel) rfl rfl rfl (by decide +kernel)
set_option maxRecDepth 65536 in
theorem w_c4 : (Jvm.Cond.code ({ cls := "java/lang/Object", name := "<init>", desc := "()V" } : Jvm.MethodName) object_method_1_code (1 : Nat) (Option.none : Option Jvm.ClassFile.FieldType)).before args0 about1 = true := code_word (m := ⟨0, 0⟩) (meth := k0m0) (c := k0c0) (by decide +kernel) rfl rfl rfl (by decide +kernel)
set_option maxRecDepth 65536 in
theorem w_c5 : (Jvm.Cond.code ({ cls := "com/example/olefin_desk/olefindesk/ContractDay", name := "<init>", desc := "(ILcom/example/olefin_desk/olefindesk/TradingDayOfMonth;)V" } : Jvm.MethodName) prog_3_method_1_code (3 : Nat) (Option.none : Option Jvm.ClassFile.FieldType)).before args0 about1 = true := code_word (m := ⟨3, 0⟩) (meth := k3m0) (c := k3c0) (by decide +kernel) rfl rfl rfl (by decide +kernel)
set_option maxRecDepth 65536 in
theorem w_c6 : (Jvm.Cond.code ({ cls := "com/example/olefin_desk/olefindesk/ContractDay", name := "precedes", desc := "(Lcom/example/olefin_desk/olefindesk/ContractDay;)Z" } : Jvm.MethodName) prog_3_method_8_code (2 : Nat) (Option.some Jvm.ClassFile.FieldType.boolean)).before args0 about1 = true := code_word (m := ⟨3, 1⟩) (meth := k3m1) (c := k3c1) (by decide +kernel) rfl rfl rfl (by decide +kernel)
set_option maxRecDepth 65536 in
theorem w_c7 : (Jvm.Cond.code ({ cls := "com/example/olefin_desk/olefindesk/ContractDayPrecedesPinLaw", name := "expected", desc := "(IIZIIZ)Z" } : Jvm.MethodName) method_4_code (6 : Nat) (Option.some Jvm.ClassFile.FieldType.boolean)).before args0 about1 = true := code_word (m := ⟨1, 3⟩) (meth := k1m3) (c := k1c3) (by decide +kernel) rfl rfl rfl (by decide +kernel)
set_option maxRecDepth 65536 in
theorem w_c8 : (Jvm.Cond.code ({ cls := "com/example/olefin_desk/olefindesk/TradingDayOfMonth", name := "precedes", desc := "(Lcom/example/olefin_desk/olefindesk/TradingDayOfMonth;)Z" } : Jvm.MethodName) prog_32_method_5_code (3 : Nat) (Option.some Jvm.ClassFile.FieldType.boolean)).before args0 about1 = true := code_word (m := ⟨4, 1⟩) (meth := k4m1) (c := k4c1) (by decide +kernel) rfl rfl rfl (by decide +kernel)
set_option maxRecDepth 65536 in
theorem w_c9 : (Jvm.Cond.code ({ cls := "com/example/olefin_desk/olefindesk/ContractDayPrecedesPinLaw", name := "position", desc := "(IZ)J" } : Jvm.MethodName) method_3_code (2 : Nat) (Option.some Jvm.ClassFile.FieldType.long)).before args0 about1 = true := code_word (m := ⟨1, 2⟩) (meth := k1m2) (c := k1c2) (by decide +kernel) rfl rfl rfl (by decide +kernel)
def codes1 : List Jvm.Cond := [Jvm.Cond.code x code maxLocals ret, Jvm.Cond.code ({ cls := "com/example/olefin_desk/olefindesk/ContractDayPrecedesPinLaw", name := "partner", desc := "(III)I" } : Jvm.MethodName) method_2_code (3 : Nat) (Option.some Jvm.ClassFile.FieldType.int), Jvm.Cond.code ({ cls := "com/example/olefin_desk/olefindesk/TradingDayOfMonth", name := "<init>", desc := "(IZ)V" } : Jvm.MethodName) prog_32_method_1_code (3 : Nat) (Option.none : Option Jvm.ClassFile.FieldType), Jvm.Cond.code ({ cls := "java/lang/Record", name := "<init>", desc := "()V" } : Jvm.MethodName) jdk_30_method_1_code (1 : Nat) (Option.none : Option Jvm.ClassFile.FieldType), Jvm.Cond.code ({ cls := "java/lang/Object", name := "<init>", desc := "()V" } : Jvm.MethodName) object_method_1_code (1 : Nat) (Option.none : Option Jvm.ClassFile.FieldType), Jvm.Cond.code ({ cls := "com/example/olefin_desk/olefindesk/ContractDay", name := "<init>", desc := "(ILcom/example/olefin_desk/olefindesk/TradingDayOfMonth;)V" } : Jvm.MethodName) prog_3_method_1_code (3 : Nat) (Option.none : Option Jvm.ClassFile.FieldType), Jvm.Cond.code ({ cls := "com/example/olefin_desk/olefindesk/ContractDay", name := "precedes", desc := "(Lcom/example/olefin_desk/olefindesk/ContractDay;)Z" } : Jvm.MethodName) prog_3_method_8_code (2 : Nat) (Option.some Jvm.ClassFile.FieldType.boolean), Jvm.Cond.code ({ cls := "com/example/olefin_desk/olefindesk/ContractDayPrecedesPinLaw", name := "expected", desc := "(IIZIIZ)Z" } : Jvm.MethodName) method_4_code (6 : Nat) (Option.some Jvm.ClassFile.FieldType.boolean), Jvm.Cond.code ({ cls := "com/example/olefin_desk/olefindesk/TradingDayOfMonth", name := "precedes", desc := "(Lcom/example/olefin_desk/olefindesk/TradingDayOfMonth;)Z" } : Jvm.MethodName) prog_32_method_5_code (3 : Nat) (Option.some Jvm.ClassFile.FieldType.boolean), Jvm.Cond.code ({ cls := "com/example/olefin_desk/olefindesk/ContractDayPrecedesPinLaw", name := "position", desc := "(IZ)J" } : Jvm.MethodName) method_3_code (2 : Nat) (Option.some Jvm.ClassFile.FieldType.long)]
set_option maxRecDepth 65536 in
theorem codes_eq : words1.filter isCode = codes1 := rfl
theorem w_codes : ∀ c ∈ words1.filter isCode, c.before args0 about1 = true := by
  rw [codes_eq]
  intro c hc
  simp only [codes1, List.mem_cons, List.not_mem_nil, or_false] at hc
  rcases hc with rfl | rfl | rfl | rfl | rfl | rfl | rfl | rfl | rfl | rfl
  · exact w_c0
  · exact w_c1
  · exact w_c2
  · exact w_c3
  · exact w_c4
  · exact w_c5
  · exact w_c6
  · exact w_c7
  · exact w_c8
  · exact w_c9
set_option maxRecDepth 65536 in
theorem w_t1 : (words1.take 24).all (fun c => isCode c || c.before args0 about1) = true := by decide +kernel
set_option maxRecDepth 65536 in
theorem w_t2 : ((words1.drop 24).take 24).all (fun c => isCode c || c.before args0 about1) = true := by decide +kernel
set_option maxRecDepth 65536 in
theorem w_t3 : ((words1.drop 24).drop 24).all (fun c => isCode c || c.before args0 about1) = true := by decide +kernel
theorem w_tables : (allAtoms (Jvm.Cond.code x code maxLocals ret :: tables_1)).before args0 about1 = true := by
  rw [allAtoms_all]
  show words1.all (fun c => c.before args0 about1) = true
  refine all_split ?_ w_codes
  rw [← List.take_append_drop 24 words1, List.all_append, w_t1, ← List.take_append_drop 24 (words1.drop 24), List.all_append, w_t2, w_t3]
  rfl
set_option maxRecDepth 65536 in
theorem w_case : (Jvm.Cond.and given_1 narrow_1).before args0 about1 = true := by decide +kernel
theorem w_applies : (headSpec (Jvm.Cond.code x code maxLocals ret :: tables_1) room_1).applies x e0.platform about1 = true :=
  (Spec.applies_iff w_frames).mpr ⟨w_running, w_runnable, w_alone, w_named, w_hears, w_ripe, w_room, w_tables⟩
theorem atStart : AtStart classFile x code maxLocals ret World_1 tables_1 room_1 Calls_1 rest_1 Pre_1 launch0 p0 e0 about1 theMethod args0 below0 :=
  ⟨lists_1, trivial, launch0.admits_env _ _ _, launch0.least_env, fairChoices_fair.cas, fairChoices_fair.clock, w_frames, w_args, w_heap, w_applies, trivial, trivial, w_case⟩
end start1
theorem witness_1 : WitnessClaimed_1 := ⟨start1.p0, start1.e0, start1.about1, start1.theMethod, start1.args0, start1.below0, start1.atStart⟩
end Jvm.Pilot.@@N@@
