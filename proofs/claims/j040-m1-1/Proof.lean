import JvmDerived
import JvmDerived.Pilot.@@N@@Statement
import JvmDerived.Pilot.@@N@@Code
set_option linter.unusedVariables false
set_option linter.unusedSimpArgs false
@@BLOCK:NumsL.lean.txt@@
namespace Jvm.Pilot.@@N@@
open Jvm Jvm.ClassFile Sem Op Lib Jvm.Free Jvm.Stand Jvm.LawKit Jvm.RoadKit Bundle Jvm.Pilot.@@N@@.Jvm.D
/-! from the frame g at T the run ends in a return: Q of what is returned, the heap and the written places -/
def own_Fin (p : Program) (e : Env) (below : List Frame) (s T : State) (g : JFrame) (Q : Option Value → Heap → List Loc → Prop) (C S : Nat) : Prop :=
  ∃ s₂ o, Steps p.tables e below (T.setTop g) s₂ ∧ s₂.status = .running ∧ Ended s₂ below o ∧ ∃ v L, o = .returned v ∧ Q v s₂.heap L ∧ FrameEnd s o s₂ L C S
section Own
variable {p : Program} {l : Launch} {e : Env} {R : Room} {s : State} {m : MethodId} {args : Array Value} {below : List Frame} {meth : Method} {c : Code} {T T' : State} {g g' : JFrame} {locs : List Loc} {cells slots C S : Nat} {Q : Option Value → Heap → List Loc → Prop}
theorem own_go (h : ∀ t, Steps p.tables e below (T'.setTop g') t → Steps p.tables e below (T.setTop g) t) (k : own_Fin p e below s T' g' Q C S) : own_Fin p e below s T g Q C S := by
  obtain ⟨s2, o, h1, r⟩ := k
  exact ⟨s2, o, h _ h1, r⟩
theorem own_gt (h : Steps p.tables e below (T.setTop g) (T'.setTop g')) (k : own_Fin p e below s T' g' Q C S) : own_Fin p e below s T g Q C S := by
  obtain ⟨s2, o, h1, r⟩ := k
  exact ⟨s2, o, h.trans h1, r⟩
theorem own_end (X : Stand p l e R s m args below meth c T locs cells slots) (hnl : meth.locks = false) {v : Option Value} (hv : meth.sig.returnType = none → v = none)
    (st : ∀ fs, (∀ (f : JFrame) (acts : List Action), f.method = m → f.locked = none → f.entered = [] → (doReturn e (T.setTop f) acts v).1 = T.setFrames fs) → Steps p.tables e below (T.setTop g) (T.setFrames fs)) (hc : cells ≤ C) (hs : slots ≤ S) (hQ : Q v T.heap locs) : own_Fin p e below s T g Q C S := by
  obtain ⟨fs, hr, hrun, hended, hW, hsame⟩ := X.leave (v := v) hv hnl
  exact ⟨_, _, st fs hr, hrun, hended, _, _, rfl, hQ, ⟨_, rfl⟩, hW, hsame.mono hc hs⟩
theorem own_retZ (X : Stand p l e R s m args below meth c T locs cells slots) (hx : p.tables.exec = Jvm.exec) (hnl : meth.locks = false) {pc : Nat} {Ls : Array Slot} {z : Int32} {t : FieldType} {rest : List Value} (hret : meth.sig.returnType = some t) (ht : t = .boolean ∨ t = .byte ∨ t = .char ∨ t = .short)
    (hd : decode c.code pc = .ok (.ireturn, 1)) (hc : cells ≤ C) (hs : slots ≤ S) (hQ : Q (some (.int (nar t z))) T.heap locs) : own_Fin p e below s T (mkF m pc Ls (.int z :: rest)) Q C S :=
  own_end X hnl (fun h => by rw [hret] at h; cases h) (fun fs hr => retN X hx hret ht hd hr) hc hs hQ
theorem own_retI (X : Stand p l e R s m args below meth c T locs cells slots) (hx : p.tables.exec = Jvm.exec) (hnl : meth.locks = false) {pc : Nat} {Ls : Array Slot} {z : Int32} {rest : List Value} (hret : meth.sig.returnType = some .int)
    (hd : decode c.code pc = .ok (.ireturn, 1)) (hc : cells ≤ C) (hs : slots ≤ S) (hQ : Q (some (.int z)) T.heap locs) : own_Fin p e below s T (mkF m pc Ls (.int z :: rest)) Q C S :=
  own_end X hnl (fun h => by rw [hret] at h; cases h) (fun fs hr => by
    have hm' : T.vm.method? m = some meth := X.method'
    have hn : narrow .int (.int z) = .int z := rfl
    show Steps p.tables e below (T.setTop { method := m, pc := pc, locals := Ls, stack := _ :: rest, locked := none }) _
    jvm_step X.here [X.here.top, hx, hd, hm', hret, hn]
    first | (intro acts; rw [hr _ acts rfl rfl rfl]) | rw [hr _ _ rfl rfl rfl]
    exact Steps.refl _) hc hs hQ
theorem own_retJ (X : Stand p l e R s m args below meth c T locs cells slots) (hx : p.tables.exec = Jvm.exec) (hnl : meth.locks = false) {pc : Nat} {Ls : Array Slot} {z : Int64} (hret : meth.sig.returnType = some .long)
    (hd : decode c.code pc = .ok (.lreturn, 1)) (hc : cells ≤ C) (hs : slots ≤ S) (hQ : Q (some (.long z)) T.heap locs) : own_Fin p e below s T (mkF m pc Ls [.long z]) Q C S :=
  own_end X hnl (fun h => by rw [hret] at h; cases h) (fun fs hr => X.lreturnOut hx hret hd hr) hc hs hQ
theorem own_retV (X : Stand p l e R s m args below meth c T locs cells slots) (hx : p.tables.exec = Jvm.exec) (hnl : meth.locks = false) {pc : Nat} {Ls : Array Slot} (hret : meth.sig.returnType = none)
    (hd : decode c.code pc = .ok (.return_, 1)) (hc : cells ≤ C) (hs : slots ≤ S) (hQ : Q none T.heap locs) : own_Fin p e below s T (mkF m pc Ls []) Q C S :=
  own_end X hnl (fun _ => rfl) (fun fs hr => X.returnOut hx hret hd hr) hc hs hQ
end Own
theorem own_lt {x y : Int32} : x < y ↔ x.toInt < y.toInt := Int32.lt_iff_toInt_lt
theorem own_ltJ {x y : Int64} : x < y ↔ x.toInt < y.toInt := Int64.lt_iff_toInt_lt
theorem own_eq {x y : Int32} : x = y ↔ x.toInt = y.toInt := Int32.toInt_inj.symm
theorem own_eqJ {x y : Int64} : x = y ↔ x.toInt = y.toInt := Int64.toInt_inj.symm
theorem own_rng (x : Int32) : -2147483648 ≤ x.toInt ∧ x.toInt < 2147483648 := ⟨by have := Int32.le_toInt x; omega, by have := Int32.toInt_lt x; omega⟩
theorem own_rngJ (x : Int64) : -9223372036854775808 ≤ x.toInt ∧ x.toInt < 9223372036854775808 := ⟨by have := Int64.le_toInt x; omega, by have := Int64.toInt_lt x; omega⟩
def own_hun (p w : Int64) : Int64 := if p < 0 then -1 else if 0 < w then (if 230584300921369 < p then -1 else if 230584300921369 < w then -1 else (p * 20000 + w) / (2 * w)) else -1
theorem own_nz {w : Int64} (h1 : 0 < w) (h2 : ¬ 230584300921369 < w) : (2 : Int64) * w ≠ 0 := by
  intro h
  have e2 : (2 : Int64).toInt = 2 := by decide
  rw [own_ltJ] at h1 h2
  have g1 : 0 < w.toInt := h1
  have g2 : ¬ 230584300921369 < w.toInt := h2
  have h3 : ((2 : Int64) * w).toInt = 2 * w.toInt := by rw [Jvm.Kit.i64_mul (by rw [e2]; omega) (by rw [e2]; omega), e2]
  rw [h] at h3
  have h4 : (0 : Int) = 2 * w.toInt := h3
  omega
theorem d1_0 : decode prog_204_method_14_code 0 = .ok (.ldc2_w 235, 3) := by decide +kernel
theorem d1_3 : decode prog_204_method_14_code 3 = .ok (.lstore 4, 2) := by decide +kernel
theorem d1_5 : decode prog_204_method_14_code 5 = .ok (.lload_n 0, 1) := by decide +kernel
theorem d1_6 : decode prog_204_method_14_code 6 = .ok (.lconst 0, 1) := by decide +kernel
theorem d1_7 : decode prog_204_method_14_code 7 = .ok (.lcmp, 1) := by decide +kernel
theorem d1_8 : decode prog_204_method_14_code 8 = .ok (.ifCond .lt 40, 3) := by decide +kernel
theorem d1_11 : decode prog_204_method_14_code 11 = .ok (.lload_n 2, 1) := by decide +kernel
theorem d1_12 : decode prog_204_method_14_code 12 = .ok (.lconst 0, 1) := by decide +kernel
theorem d1_13 : decode prog_204_method_14_code 13 = .ok (.lcmp, 1) := by decide +kernel
theorem d1_14 : decode prog_204_method_14_code 14 = .ok (.ifCond .le 34, 3) := by decide +kernel
theorem d1_17 : decode prog_204_method_14_code 17 = .ok (.lload_n 0, 1) := by decide +kernel
theorem d1_18 : decode prog_204_method_14_code 18 = .ok (.ldc2_w 237, 3) := by decide +kernel
theorem d1_21 : decode prog_204_method_14_code 21 = .ok (.lcmp, 1) := by decide +kernel
theorem d1_22 : decode prog_204_method_14_code 22 = .ok (.ifCond .gt 26, 3) := by decide +kernel
theorem d1_25 : decode prog_204_method_14_code 25 = .ok (.lload_n 2, 1) := by decide +kernel
theorem d1_26 : decode prog_204_method_14_code 26 = .ok (.ldc2_w 237, 3) := by decide +kernel
theorem d1_29 : decode prog_204_method_14_code 29 = .ok (.lcmp, 1) := by decide +kernel
theorem d1_30 : decode prog_204_method_14_code 30 = .ok (.ifCond .gt 18, 3) := by decide +kernel
theorem d1_33 : decode prog_204_method_14_code 33 = .ok (.lload_n 0, 1) := by decide +kernel
theorem d1_34 : decode prog_204_method_14_code 34 = .ok (.ldc2_w 239, 3) := by decide +kernel
theorem d1_37 : decode prog_204_method_14_code 37 = .ok (.lmul, 1) := by decide +kernel
theorem d1_38 : decode prog_204_method_14_code 38 = .ok (.lload_n 2, 1) := by decide +kernel
theorem d1_39 : decode prog_204_method_14_code 39 = .ok (.ladd, 1) := by decide +kernel
theorem d1_40 : decode prog_204_method_14_code 40 = .ok (.ldc2_w 241, 3) := by decide +kernel
theorem d1_43 : decode prog_204_method_14_code 43 = .ok (.lload_n 2, 1) := by decide +kernel
theorem d1_44 : decode prog_204_method_14_code 44 = .ok (.lmul, 1) := by decide +kernel
theorem d1_45 : decode prog_204_method_14_code 45 = .ok (.ldiv, 1) := by decide +kernel
theorem d1_46 : decode prog_204_method_14_code 46 = .ok (.lstore 4, 2) := by decide +kernel
theorem d1_48 : decode prog_204_method_14_code 48 = .ok (.lload 4, 2) := by decide +kernel
theorem d1_50 : decode prog_204_method_14_code 50 = .ok (.lreturn, 1) := by decide +kernel
theorem pn_1 : plainName "com/example/jitlens/jitlens/TextForms" = true := by first | (simp [plainName, overriddenIn]; done) | decide +kernel
theorem ef_1 (m : MethodId) (x0 : Int64) (x1 : Int64) : entryFrame m #[(.long x0), (.long x1)] 6 = mkF m 0 #[.val (.long x0), .second, .val (.long x1), .second, .unset, .unset] [] := by first | (simp [entryFrame, mkF, argsToLocals, Value.category]; done) | rfl
def Q1 (Z : State) (x0 : Int64) (x1 : Int64) (h0 : Heap) (n0 : Nat) (v : Option Value) (h : Heap) (L : List Loc) : Prop := v = some (.long (own_hun x0 x1)) ∧ Fr n0 L ∧ h = h0
set_option maxRecDepth 65536 in
set_option maxHeartbeats 40000000 in
theorem rm1 (l : Launch) (Z : State) (a0 : Array Value) (hw : ∀ d ∈ tables_1, d.before a0 Z = true) (ws : List Jvm.Cond) (x0 : Int64) (x1 : Int64) (h0 : Heap) (n0 : Nat) (Z0 : n0 ≤ h0.size) :
    MetFree l (⟨"com/example/jitlens/jitlens/TextForms", "hundredths", "(JJ)J"⟩ : MethodName) (head1 (Jvm.Cond.code (⟨"com/example/jitlens/jitlens/TextForms", "hundredths", "(JJ)J"⟩ : MethodName) prog_204_method_14_code 6 (some .long) :: ws) ({ frames := 0, cells := 0, slots := 0, locals := 0 } : Room)) (fun a U => a = #[(.long x0), (.long x1)] ∧ Z.Warmed39 U.vm ∧ U.heap = h0) (fun _ _ _ _ _ => True) (fun _ U o U' => ∃ v L, o = .returned v ∧ Q1 Z x0 x1 h0 n0 v U'.heap L ∧ FrameEnd U o U' L ({ frames := 0, cells := 0, slots := 0, locals := 0 } : Room).cells ({ frames := 0, cells := 0, slots := 0, locals := 0 } : Room).slots) := by
  refine MetFree.of_bodySF (plainFor_of_name pn_1) hisR ?_
  intro p e s m args below meth c s₁ Bd hml0 hP hK
  obtain ⟨rfl, hZ, hh⟩ := hP
  have hx := Bd.exec
  have hby := Bd.bytes
  have hret := Bd.returns
  have hnl : meth.locks = false := Bd.notSynchronized
  have hml : c.maxLocals = 6 := hml0
  have hown : s.vm.findClass "com/example/jitlens/jitlens/TextForms" = some m.cls := findClass_of_methodNamed Bd.named
  have hnm := (name_of_methodNamed Bd.named Bd.method).1
  have X0 : Stand p l e ({ frames := 0, cells := 0, slots := 0, locals := 0 } : Room) s m #[(.long x0), (.long x1)] below meth c s₁ [] 0 0 := Stand.of_body Bd
  have e0 : s₁.heap = h0 := by rw [← hh, Bd.state]; rfl
  have N0 := Fr.nil n0
  suffices key : own_Fin p e below s s₁ (mkF m 0 #[.val (.long x0), .second, .val (.long x1), .second, .unset, .unset] []) (Q1 Z x0 x1 h0 n0) ({ frames := 0, cells := 0, slots := 0, locals := 0 } : Room).cells ({ frames := 0, cells := 0, slots := 0, locals := 0 } : Room).slots by
    obtain ⟨s2, o, h1, h2⟩ := key
    exact ⟨s2, o, castTop (ef_1 m x0 x1) h1, h2⟩
  refine own_go (fun _ => X0.ldc2J hx hown (mvT hZ (hw _ (List.mem_of_getElem? (i := 5) rfl))) rfl (hb hby d1_0)) ?_
  show own_Fin _ _ _ _ s₁ (mkF m 3 #[.val (.long x0), .second, .val (.long x1), .second, .unset, .unset] [(.long (-1 : Int64))]) _ _ _
  refine own_go (fun _ => XS.lstore X0.here hx rfl (hb hby d1_3) rfl (l' := #[.val (.long x0), .second, .val (.long x1), .second, .val (.long (-1 : Int64)), .second]) rfl) ?_
  show own_Fin _ _ _ _ s₁ (mkF m 5 #[.val (.long x0), .second, .val (.long x1), .second, .val (.long (-1 : Int64)), .second] []) _ _ _
  refine own_go (fun _ => XS.lloadN X0.here hx rfl (hb hby d1_5) rfl) ?_
  show own_Fin _ _ _ _ s₁ (mkF m 6 #[.val (.long x0), .second, .val (.long x1), .second, .val (.long (-1 : Int64)), .second] [(.long x0)]) _ _ _
  refine own_go (fun _ => XS.lconst X0.here hx rfl (hb hby d1_6)) ?_
  show own_Fin _ _ _ _ s₁ (mkF m 7 #[.val (.long x0), .second, .val (.long x1), .second, .val (.long (-1 : Int64)), .second] [(.long (0 : Int64)), (.long x0)]) _ _ _
  refine own_go (fun _ => XS.lcmp X0.here hx rfl (hb hby d1_7) rfl) ?_
  show own_Fin _ _ _ _ s₁ (mkF m 8 #[.val (.long x0), .second, .val (.long x1), .second, .val (.long (-1 : Int64)), .second] [(.int (lcmpW x0 (0 : Int64)))]) _ _ _
  by_cases h8 : x0 < (0 : Int64)
  · refine own_go (fun _ => XS.ifYes X0.here hx rfl (pc0 := 8) (pc' := 48) rfl (hb hby d1_8) rfl ((if0 _ _).trans (tlt ((lw_lt _ _).mpr h8)).1) (by decide) (by decide)) ?_
    show own_Fin _ _ _ _ s₁ (mkF m 48 #[.val (.long x0), .second, .val (.long x1), .second, .val (.long (-1 : Int64)), .second] []) _ _ _
    refine own_go (fun _ => XS.lload X0.here hx rfl (hb hby d1_48) rfl) ?_
    show own_Fin _ _ _ _ s₁ (mkF m 50 #[.val (.long x0), .second, .val (.long x1), .second, .val (.long (-1 : Int64)), .second] [(.long (-1 : Int64))]) _ _ _
    exact own_retJ X0 hx hnl hret (hb hby d1_50) (by decide) (by decide) ⟨congrArg (fun z => some (Value.long z)) (show ((-1 : Int64) : Int64) = own_hun x0 x1 from by simp only [own_hun, if_pos h8]), N0, e0⟩
  · refine own_go (fun _ => XS.ifNo X0.here hx rfl (hb hby d1_8) rfl ((if0 _ _).trans (flt (mt (lw_lt _ _).mp h8)).1)) ?_
    show own_Fin _ _ _ _ s₁ (mkF m 11 #[.val (.long x0), .second, .val (.long x1), .second, .val (.long (-1 : Int64)), .second] []) _ _ _
    refine own_go (fun _ => XS.lloadN X0.here hx rfl (hb hby d1_11) rfl) ?_
    show own_Fin _ _ _ _ s₁ (mkF m 12 #[.val (.long x0), .second, .val (.long x1), .second, .val (.long (-1 : Int64)), .second] [(.long x1)]) _ _ _
    refine own_go (fun _ => XS.lconst X0.here hx rfl (hb hby d1_12)) ?_
    show own_Fin _ _ _ _ s₁ (mkF m 13 #[.val (.long x0), .second, .val (.long x1), .second, .val (.long (-1 : Int64)), .second] [(.long (0 : Int64)), (.long x1)]) _ _ _
    refine own_go (fun _ => XS.lcmp X0.here hx rfl (hb hby d1_13) rfl) ?_
    show own_Fin _ _ _ _ s₁ (mkF m 14 #[.val (.long x0), .second, .val (.long x1), .second, .val (.long (-1 : Int64)), .second] [(.int (lcmpW x1 (0 : Int64)))]) _ _ _
    by_cases h14 : (0 : Int64) < x1
    · refine own_go (fun _ => XS.ifNo X0.here hx rfl (hb hby d1_14) rfl ((if0 _ _).trans (tlt ((lw_gt _ _).mpr h14)).2.2.2)) ?_
      show own_Fin _ _ _ _ s₁ (mkF m 17 #[.val (.long x0), .second, .val (.long x1), .second, .val (.long (-1 : Int64)), .second] []) _ _ _
      refine own_go (fun _ => XS.lloadN X0.here hx rfl (hb hby d1_17) rfl) ?_
      show own_Fin _ _ _ _ s₁ (mkF m 18 #[.val (.long x0), .second, .val (.long x1), .second, .val (.long (-1 : Int64)), .second] [(.long x0)]) _ _ _
      refine own_go (fun _ => X0.ldc2J hx hown (mvT hZ (hw _ (List.mem_of_getElem? (i := 6) rfl))) rfl (hb hby d1_18)) ?_
      show own_Fin _ _ _ _ s₁ (mkF m 21 #[.val (.long x0), .second, .val (.long x1), .second, .val (.long (-1 : Int64)), .second] [(.long (230584300921369 : Int64)), (.long x0)]) _ _ _
      refine own_go (fun _ => XS.lcmp X0.here hx rfl (hb hby d1_21) rfl) ?_
      show own_Fin _ _ _ _ s₁ (mkF m 22 #[.val (.long x0), .second, .val (.long x1), .second, .val (.long (-1 : Int64)), .second] [(.int (lcmpW x0 (230584300921369 : Int64)))]) _ _ _
      by_cases h22 : (230584300921369 : Int64) < x0
      · refine own_go (fun _ => XS.ifYes X0.here hx rfl (pc0 := 22) (pc' := 48) rfl (hb hby d1_22) rfl ((if0 _ _).trans (tlt ((lw_gt _ _).mpr h22)).2.2.1) (by decide) (by decide)) ?_
        show own_Fin _ _ _ _ s₁ (mkF m 48 #[.val (.long x0), .second, .val (.long x1), .second, .val (.long (-1 : Int64)), .second] []) _ _ _
        refine own_go (fun _ => XS.lload X0.here hx rfl (hb hby d1_48) rfl) ?_
        show own_Fin _ _ _ _ s₁ (mkF m 50 #[.val (.long x0), .second, .val (.long x1), .second, .val (.long (-1 : Int64)), .second] [(.long (-1 : Int64))]) _ _ _
        exact own_retJ X0 hx hnl hret (hb hby d1_50) (by decide) (by decide) ⟨congrArg (fun z => some (Value.long z)) (show ((-1 : Int64) : Int64) = own_hun x0 x1 from by simp only [own_hun, if_neg h8, if_pos h14, if_pos h22]), N0, e0⟩
      · refine own_go (fun _ => XS.ifNo X0.here hx rfl (hb hby d1_22) rfl ((if0 _ _).trans (flt (mt (lw_gt _ _).mp h22)).2.2.1)) ?_
        show own_Fin _ _ _ _ s₁ (mkF m 25 #[.val (.long x0), .second, .val (.long x1), .second, .val (.long (-1 : Int64)), .second] []) _ _ _
        refine own_go (fun _ => XS.lloadN X0.here hx rfl (hb hby d1_25) rfl) ?_
        show own_Fin _ _ _ _ s₁ (mkF m 26 #[.val (.long x0), .second, .val (.long x1), .second, .val (.long (-1 : Int64)), .second] [(.long x1)]) _ _ _
        refine own_go (fun _ => X0.ldc2J hx hown (mvT hZ (hw _ (List.mem_of_getElem? (i := 6) rfl))) rfl (hb hby d1_26)) ?_
        show own_Fin _ _ _ _ s₁ (mkF m 29 #[.val (.long x0), .second, .val (.long x1), .second, .val (.long (-1 : Int64)), .second] [(.long (230584300921369 : Int64)), (.long x1)]) _ _ _
        refine own_go (fun _ => XS.lcmp X0.here hx rfl (hb hby d1_29) rfl) ?_
        show own_Fin _ _ _ _ s₁ (mkF m 30 #[.val (.long x0), .second, .val (.long x1), .second, .val (.long (-1 : Int64)), .second] [(.int (lcmpW x1 (230584300921369 : Int64)))]) _ _ _
        by_cases h30 : (230584300921369 : Int64) < x1
        · refine own_go (fun _ => XS.ifYes X0.here hx rfl (pc0 := 30) (pc' := 48) rfl (hb hby d1_30) rfl ((if0 _ _).trans (tlt ((lw_gt _ _).mpr h30)).2.2.1) (by decide) (by decide)) ?_
          show own_Fin _ _ _ _ s₁ (mkF m 48 #[.val (.long x0), .second, .val (.long x1), .second, .val (.long (-1 : Int64)), .second] []) _ _ _
          refine own_go (fun _ => XS.lload X0.here hx rfl (hb hby d1_48) rfl) ?_
          show own_Fin _ _ _ _ s₁ (mkF m 50 #[.val (.long x0), .second, .val (.long x1), .second, .val (.long (-1 : Int64)), .second] [(.long (-1 : Int64))]) _ _ _
          exact own_retJ X0 hx hnl hret (hb hby d1_50) (by decide) (by decide) ⟨congrArg (fun z => some (Value.long z)) (show ((-1 : Int64) : Int64) = own_hun x0 x1 from by simp only [own_hun, if_neg h8, if_pos h14, if_neg h22, if_pos h30]), N0, e0⟩
        · refine own_go (fun _ => XS.ifNo X0.here hx rfl (hb hby d1_30) rfl ((if0 _ _).trans (flt (mt (lw_gt _ _).mp h30)).2.2.1)) ?_
          show own_Fin _ _ _ _ s₁ (mkF m 33 #[.val (.long x0), .second, .val (.long x1), .second, .val (.long (-1 : Int64)), .second] []) _ _ _
          refine own_go (fun _ => XS.lloadN X0.here hx rfl (hb hby d1_33) rfl) ?_
          show own_Fin _ _ _ _ s₁ (mkF m 34 #[.val (.long x0), .second, .val (.long x1), .second, .val (.long (-1 : Int64)), .second] [(.long x0)]) _ _ _
          refine own_go (fun _ => X0.ldc2J hx hown (mvT hZ (hw _ (List.mem_of_getElem? (i := 7) rfl))) rfl (hb hby d1_34)) ?_
          show own_Fin _ _ _ _ s₁ (mkF m 37 #[.val (.long x0), .second, .val (.long x1), .second, .val (.long (-1 : Int64)), .second] [(.long (20000 : Int64)), (.long x0)]) _ _ _
          refine own_go (fun _ => XS.lmul X0.here hx rfl (hb hby d1_37) rfl) ?_
          show own_Fin _ _ _ _ s₁ (mkF m 38 #[.val (.long x0), .second, .val (.long x1), .second, .val (.long (-1 : Int64)), .second] [(.long (x0 * (20000 : Int64)))]) _ _ _
          refine own_go (fun _ => XS.lloadN X0.here hx rfl (hb hby d1_38) rfl) ?_
          show own_Fin _ _ _ _ s₁ (mkF m 39 #[.val (.long x0), .second, .val (.long x1), .second, .val (.long (-1 : Int64)), .second] [(.long x1), (.long (x0 * (20000 : Int64)))]) _ _ _
          refine own_go (fun _ => XS.ladd X0.here hx rfl (hb hby d1_39) rfl) ?_
          show own_Fin _ _ _ _ s₁ (mkF m 40 #[.val (.long x0), .second, .val (.long x1), .second, .val (.long (-1 : Int64)), .second] [(.long ((x0 * (20000 : Int64)) + x1))]) _ _ _
          refine own_go (fun _ => X0.ldc2J hx hown (mvT hZ (hw _ (List.mem_of_getElem? (i := 8) rfl))) rfl (hb hby d1_40)) ?_
          show own_Fin _ _ _ _ s₁ (mkF m 43 #[.val (.long x0), .second, .val (.long x1), .second, .val (.long (-1 : Int64)), .second] [(.long (2 : Int64)), (.long ((x0 * (20000 : Int64)) + x1))]) _ _ _
          refine own_go (fun _ => XS.lloadN X0.here hx rfl (hb hby d1_43) rfl) ?_
          show own_Fin _ _ _ _ s₁ (mkF m 44 #[.val (.long x0), .second, .val (.long x1), .second, .val (.long (-1 : Int64)), .second] [(.long x1), (.long (2 : Int64)), (.long ((x0 * (20000 : Int64)) + x1))]) _ _ _
          refine own_go (fun _ => XS.lmul X0.here hx rfl (hb hby d1_44) rfl) ?_
          show own_Fin _ _ _ _ s₁ (mkF m 45 #[.val (.long x0), .second, .val (.long x1), .second, .val (.long (-1 : Int64)), .second] [(.long ((2 : Int64) * x1)), (.long ((x0 * (20000 : Int64)) + x1))]) _ _ _
          refine own_go (fun _ => XS.ldiv X0.here hx rfl (hb hby d1_45) rfl (own_nz h14 h30)) ?_
          show own_Fin _ _ _ _ s₁ (mkF m 46 #[.val (.long x0), .second, .val (.long x1), .second, .val (.long (-1 : Int64)), .second] [(.long (((x0 * (20000 : Int64)) + x1) / ((2 : Int64) * x1)))]) _ _ _
          refine own_go (fun _ => XS.lstore X0.here hx rfl (hb hby d1_46) rfl (l' := #[.val (.long x0), .second, .val (.long x1), .second, .val (.long (((x0 * (20000 : Int64)) + x1) / ((2 : Int64) * x1))), .second]) rfl) ?_
          show own_Fin _ _ _ _ s₁ (mkF m 48 #[.val (.long x0), .second, .val (.long x1), .second, .val (.long (((x0 * (20000 : Int64)) + x1) / ((2 : Int64) * x1))), .second] []) _ _ _
          refine own_go (fun _ => XS.lload X0.here hx rfl (hb hby d1_48) rfl) ?_
          show own_Fin _ _ _ _ s₁ (mkF m 50 #[.val (.long x0), .second, .val (.long x1), .second, .val (.long (((x0 * (20000 : Int64)) + x1) / ((2 : Int64) * x1))), .second] [(.long (((x0 * (20000 : Int64)) + x1) / ((2 : Int64) * x1)))]) _ _ _
          exact own_retJ X0 hx hnl hret (hb hby d1_50) (by decide) (by decide) ⟨congrArg (fun z => some (Value.long z)) (show ((((x0 * (20000 : Int64)) + x1) / ((2 : Int64) * x1)) : Int64) = own_hun x0 x1 from by simp only [own_hun, if_neg h8, if_pos h14, if_neg h22, if_neg h30]), N0, e0⟩
    · refine own_go (fun _ => XS.ifYes X0.here hx rfl (pc0 := 14) (pc' := 48) rfl (hb hby d1_14) rfl ((if0 _ _).trans (flt (mt (lw_gt _ _).mp h14)).2.2.2) (by decide) (by decide)) ?_
      show own_Fin _ _ _ _ s₁ (mkF m 48 #[.val (.long x0), .second, .val (.long x1), .second, .val (.long (-1 : Int64)), .second] []) _ _ _
      refine own_go (fun _ => XS.lload X0.here hx rfl (hb hby d1_48) rfl) ?_
      show own_Fin _ _ _ _ s₁ (mkF m 50 #[.val (.long x0), .second, .val (.long x1), .second, .val (.long (-1 : Int64)), .second] [(.long (-1 : Int64))]) _ _ _
      exact own_retJ X0 hx hnl hret (hb hby d1_50) (by decide) (by decide) ⟨congrArg (fun z => some (Value.long z)) (show ((-1 : Int64) : Int64) = own_hun x0 x1 from by simp only [own_hun, if_neg h8, if_neg h14]), N0, e0⟩

theorem own_facts {p w : Int64} (hA : ¬ p < 0) (hB : 0 < w) (hC : ¬ 230584300921369 < p) (hD : ¬ 230584300921369 < w) :
    0 ≤ p.toInt ∧ p.toInt ≤ 230584300921369 ∧ 0 < w.toInt ∧ w.toInt ≤ 230584300921369 ∧ ∃ K : Int, K = (own_hun p w).toInt * w.toInt ∧ 0 ≤ (own_hun p w).toInt ∧ (own_hun p w).toInt ≤ 10000 * p.toInt + 1 ∧ 0 ≤ 20000 * p.toInt + w.toInt - 2 * K ∧ 20000 * p.toInt + w.toInt - 2 * K < 2 * w.toInt := by
  have e0 : (0 : Int64).toInt = 0 := by decide
  have eM : (230584300921369 : Int64).toInt = 230584300921369 := by decide
  have e2 : (2 : Int64).toInt = 2 := by decide
  have e20 : (20000 : Int64).toInt = 20000 := by decide
  have hv : own_hun p w = (p * 20000 + w) / (2 * w) := by simp [own_hun, hA, hB, hC, hD]
  rw [own_ltJ, e0] at hA hB
  rw [own_ltJ, eM] at hC hD
  have h1 : (p * 20000).toInt = p.toInt * 20000 := by rw [Jvm.Kit.i64_mul (by rw [e20]; omega) (by rw [e20]; omega), e20]
  have h2 : (p * 20000 + w).toInt = p.toInt * 20000 + w.toInt := by rw [Jvm.Kit.i64_add (by rw [h1]; omega) (by rw [h1]; omega), h1]
  have h3 : ((2 : Int64) * w).toInt = 2 * w.toInt := by rw [Jvm.Kit.i64_mul (by rw [e2]; omega) (by rw [e2]; omega), e2]
  have h4 : (own_hun p w).toInt = (p.toInt * 20000 + w.toInt) / (2 * w.toInt) := by
    rw [hv, Jvm.Kit.i64_div (by rw [h2, h3]; omega), h2, h3, Int.tdiv_eq_ediv_of_nonneg (by omega)]
  refine ⟨by omega, by omega, by omega, by omega, _, rfl, ?_⟩
  rw [h4]
  generalize p.toInt = P at *
  generalize w.toInt = W at *
  have q1 := Int.emod_add_mul_ediv (P * 20000 + W) (2 * W)
  have q2 := Int.emod_nonneg (P * 20000 + W) (show 2 * W ≠ 0 by omega)
  have q3 := Int.emod_lt_of_pos (P * 20000 + W) (show 0 < 2 * W by omega)
  have q4 : 0 ≤ (P * 20000 + W) / (2 * W) := Int.ediv_nonneg (by omega) (by omega)
  have q5 : (P * 20000 + W) / (2 * W) ≤ 10000 * P + 1 := by
    apply Int.ediv_le_of_le_mul (by omega)
    have t1 : P * 1 ≤ P * W := Int.mul_le_mul_of_nonneg_left (by omega) (by omega)
    have t2 : (10000 * P + 1) * (2 * W) = 20000 * (P * W) + 2 * W := by rw [Int.add_mul, Int.mul_assoc 10000 P, Int.mul_left_comm P 2 W]; omega
    rw [t2]; omega
  have q6 : 2 * W * ((P * 20000 + W) / (2 * W)) = 2 * ((P * 20000 + W) / (2 * W) * W) := by rw [Int.mul_assoc, Int.mul_comm W]
  rw [q6] at q1
  generalize (P * 20000 + W) / (2 * W) * W = K at *
  refine ⟨q4, q5, ?_, ?_⟩ <;> omega
theorem own_r {p w : Int64} (hA : ¬ p < 0) (hB : 0 < w) (hC : ¬ 230584300921369 < p) (hD : ¬ 230584300921369 < w) :
    ¬ own_hun p w < 0 ∧ ¬ p * 10000 + 1 < own_hun p w ∧ ¬ 2 * (p * 10000 - own_hun p w * w) < -w ∧ 2 * (p * 10000 - own_hun p w * w) < w := by
  obtain ⟨f1, f2, f3, f4, K, f5, f6, f7, f8, f9⟩ := own_facts hA hB hC hD
  have e0 : (0 : Int64).toInt = 0 := by decide
  have e1 : (1 : Int64).toInt = 1 := by decide
  have e2 : (2 : Int64).toInt = 2 := by decide
  have e10 : (10000 : Int64).toInt = 10000 := by decide
  have h1 : (p * 10000).toInt = p.toInt * 10000 := by rw [Jvm.Kit.i64_mul (by rw [e10]; omega) (by rw [e10]; omega), e10]
  have h2 : (p * 10000 + 1).toInt = p.toInt * 10000 + 1 := by rw [Jvm.Kit.i64_add (by rw [h1, e1]; omega) (by rw [h1, e1]; omega), h1, e1]
  have h3 : (own_hun p w * w).toInt = K := by rw [Jvm.Kit.i64_mul (by rw [← f5]; omega) (by rw [← f5]; omega), f5]
  have h4 : (p * 10000 - own_hun p w * w).toInt = p.toInt * 10000 - K := by rw [Jvm.Kit.i64_sub (by rw [h1, h3]; omega) (by rw [h1, h3]; omega), h1, h3]
  have h5 : (2 * (p * 10000 - own_hun p w * w)).toInt = 2 * (p.toInt * 10000 - K) := by rw [Jvm.Kit.i64_mul (by rw [e2, h4]; omega) (by rw [e2, h4]; omega), e2, h4]
  have h6 : (-w).toInt = -w.toInt := Jvm.Kit.i64_neg (by omega)
  refine ⟨?_, ?_, ?_, ?_⟩ <;> rw [own_ltJ]
  · rw [e0]; omega
  · rw [h2]; omega
  · rw [h5, h6]; omega
  · rw [h5]; omega

theorem pd_0 : parseMethodDescriptor "(JJ)J" = some ⟨[.long, .long], some .long⟩ := by decide +kernel
theorem pn_0 : plainName "com/example/jitlens/jitlens/TextFormsHundredthsPinLaw" = true := by first | (simp [plainName, overriddenIn]; done) | decide +kernel
theorem ef_0 (m : MethodId) (x0 : Int64) (x1 : Int64) (x2 : Int32) : entryFrame m #[(.long x0), (.long x1), (.int x2)] maxLocals = mkF m 0 #[.val (.long x0), .second, .val (.long x1), .second, .val (.int x2), .unset, .unset, .unset, .unset, .unset, .unset, .unset, .unset, .unset, .unset, .unset, .unset] [] := by first | (simp [entryFrame, mkF, argsToLocals, Value.category, maxLocals]; done) | rfl
def Q0 (Z : State) (x0 : Int64) (x1 : Int64) (x2 : Int32) (h0 : Heap) (n0 : Nat) (v : Option Value) (h : Heap) (L : List Loc) : Prop := v = some (.int 1) ∧ Fr n0 L
set_option maxRecDepth 65536 in
set_option maxHeartbeats 40000000 in
theorem rm0 (l : Launch) (Z : State) (a0 : Array Value) (hw : ∀ d ∈ tables_1, d.before a0 Z = true) (ws : List Jvm.Cond) (x0 : Int64) (x1 : Int64) (x2 : Int32) (h0 : Heap) (n0 : Nat) (Z0 : n0 ≤ h0.size) :
    MetFree l x (head1 (Jvm.Cond.code x code maxLocals ret :: ws) room_1) (fun a U => a = #[(.long x0), (.long x1), (.int x2)] ∧ Z.Warmed39 U.vm ∧ U.heap = h0) (fun _ _ _ _ _ => True) (fun _ U o U' => ∃ v L, o = .returned v ∧ Q0 Z x0 x1 x2 h0 n0 v U'.heap L ∧ FrameEnd U o U' L room_1.cells room_1.slots) := by
  refine MetFree.of_bodySF (plainFor_of_name pn_0) hisR ?_
  intro p e s m args below meth c s₁ Bd hml0 hP hK
  obtain ⟨rfl, hZ, hh⟩ := hP
  have hx := Bd.exec
  have hby := Bd.bytes
  have hret := Bd.returns
  have hnl : meth.locks = false := Bd.notSynchronized
  have hml : c.maxLocals = 17 := hml0
  have hown : s.vm.findClass "com/example/jitlens/jitlens/TextFormsHundredthsPinLaw" = some m.cls := findClass_of_methodNamed Bd.named
  have hnm := (name_of_methodNamed Bd.named Bd.method).1
  have X0 : Stand p l e room_1 s m #[(.long x0), (.long x1), (.int x2)] below meth c s₁ [] 0 0 := Stand.of_body Bd
  have e0 : s₁.heap = h0 := by rw [← hh, Bd.state]; rfl
  have N0 := Fr.nil n0
  suffices key : own_Fin p e below s s₁ (mkF m 0 #[.val (.long x0), .second, .val (.long x1), .second, .val (.int x2), .unset, .unset, .unset, .unset, .unset, .unset, .unset, .unset, .unset, .unset, .unset, .unset] []) (Q0 Z x0 x1 x2 h0 n0) room_1.cells room_1.slots by
    obtain ⟨s2, o, h1, h2⟩ := key
    exact ⟨s2, o, castTop (ef_0 m x0 x1 x2) h1, h2⟩
  have J105 : ∀ (u t : Int64), own_Fin p e below s s₁ (mkF m 105 #[.val (.long x0), .second, .val (.long x1), .second, .val (.int x2), .val (.long (230584300921369 : Int64)), .second, .val (.long u), .second, .val (.long t), .second, .val (.int (x2 &&& (3 : Int32))), .unset, .unset, .unset, .unset, .unset] []) (Q0 Z x0 x1 x2 h0 n0) room_1.cells room_1.slots := by
    intro u t
    refine own_go (fun _ => XS.lload X0.here hx rfl (hb hby at_105) rfl) ?_
    show own_Fin _ _ _ _ s₁ (mkF m 107 #[.val (.long x0), .second, .val (.long x1), .second, .val (.int x2), .val (.long (230584300921369 : Int64)), .second, .val (.long u), .second, .val (.long t), .second, .val (.int (x2 &&& (3 : Int32))), .unset, .unset, .unset, .unset, .unset] [(.long u)]) _ _ _
    refine own_go (fun _ => XS.lload X0.here hx rfl (hb hby at_107) rfl) ?_
    show own_Fin _ _ _ _ s₁ (mkF m 109 #[.val (.long x0), .second, .val (.long x1), .second, .val (.int x2), .val (.long (230584300921369 : Int64)), .second, .val (.long u), .second, .val (.long t), .second, .val (.int (x2 &&& (3 : Int32))), .unset, .unset, .unset, .unset, .unset] [(.long t), (.long u)]) _ _ _
    obtain ⟨_, _, ⟨T1, L1, k1, n1⟩, -, X1, ⟨Lc1, hQ1, l1, y1, z1⟩, st1⟩ := Jvm.LawKit.callS X0 hx (y := (⟨"com/example/jitlens/jitlens/TextForms", "hundredths", "(JJ)J"⟩ : MethodName)) hown (mvT hZ (hw _ (List.mem_of_getElem? (i := 1) rfl))) (mvT hZ (hw _ (List.mem_of_getElem? (i := 2) rfl))) (mvT hZ (hw _ (List.mem_of_getElem? (i := 3) rfl))) (mvT hZ (hw _ (List.mem_of_getElem? (i := 4) rfl))) (by decide) (backOf (W := 0) (rm1 l Z a0 hw [] u t  h0 n0 Z0 ) hZ (hw _ (List.mem_of_getElem? (i := 4) rfl)) (hw _ (List.mem_of_getElem? (i := 3) rfl)) (by decide) (by decide)) (g := (mkF m 109 #[.val (.long x0), .second, .val (.long x1), .second, .val (.int x2), .val (.long (230584300921369 : Int64)), .second, .val (.long u), .second, .val (.long t), .second, .val (.int (x2 &&& (3 : Int32))), .unset, .unset, .unset, .unset, .unset] [(.long t), (.long u)])) rfl (by rw [hml]; rfl) (argsL := [(.long u), (.long t)]) (rest := []) (lenOf pd_0 rfl) rfl (by show 2 * 0 + _ ≤ _; exact Nat.le_of_eq rfl) (hb hby at_109) (fun _ _ => ⟨rfl, e0, (by decide : 0 + 0 ≤ _), (by decide : 0 + 0 ≤ _)⟩)
    dsimp only [Pt.U, Pt.locs, Pt.cells, Pt.slots] at X1 l1 y1 z1 st1 hQ1
    subst l1 y1 z1
    obtain ⟨rfl, N1q, e1⟩ := hQ1
    have N1 := Fr.app N0 N1q
    refine own_go st1 ?_
    show own_Fin _ _ _ _ T1 (mkF m 112 #[.val (.long x0), .second, .val (.long x1), .second, .val (.int x2), .val (.long (230584300921369 : Int64)), .second, .val (.long u), .second, .val (.long t), .second, .val (.int (x2 &&& (3 : Int32))), .unset, .unset, .unset, .unset, .unset] [(.long (own_hun u t))]) _ _ _
    refine own_go (fun _ => XS.lstore X1.here hx rfl (hb hby at_112) rfl (l' := #[.val (.long x0), .second, .val (.long x1), .second, .val (.int x2), .val (.long (230584300921369 : Int64)), .second, .val (.long u), .second, .val (.long t), .second, .val (.int (x2 &&& (3 : Int32))), .val (.long (own_hun u t)), .second, .unset, .unset, .unset]) rfl) ?_
    show own_Fin _ _ _ _ T1 (mkF m 114 #[.val (.long x0), .second, .val (.long x1), .second, .val (.int x2), .val (.long (230584300921369 : Int64)), .second, .val (.long u), .second, .val (.long t), .second, .val (.int (x2 &&& (3 : Int32))), .val (.long (own_hun u t)), .second, .unset, .unset, .unset] []) _ _ _
    refine own_go (fun _ => XS.lload X1.here hx rfl (hb hby at_114) rfl) ?_
    show own_Fin _ _ _ _ T1 (mkF m 116 #[.val (.long x0), .second, .val (.long x1), .second, .val (.int x2), .val (.long (230584300921369 : Int64)), .second, .val (.long u), .second, .val (.long t), .second, .val (.int (x2 &&& (3 : Int32))), .val (.long (own_hun u t)), .second, .unset, .unset, .unset] [(.long u)]) _ _ _
    refine own_go (fun _ => XS.lconst X1.here hx rfl (hb hby at_116)) ?_
    show own_Fin _ _ _ _ T1 (mkF m 117 #[.val (.long x0), .second, .val (.long x1), .second, .val (.int x2), .val (.long (230584300921369 : Int64)), .second, .val (.long u), .second, .val (.long t), .second, .val (.int (x2 &&& (3 : Int32))), .val (.long (own_hun u t)), .second, .unset, .unset, .unset] [(.long (0 : Int64)), (.long u)]) _ _ _
    refine own_go (fun _ => XS.lcmp X1.here hx rfl (hb hby at_117) rfl) ?_
    show own_Fin _ _ _ _ T1 (mkF m 118 #[.val (.long x0), .second, .val (.long x1), .second, .val (.int x2), .val (.long (230584300921369 : Int64)), .second, .val (.long u), .second, .val (.long t), .second, .val (.int (x2 &&& (3 : Int32))), .val (.long (own_hun u t)), .second, .unset, .unset, .unset] [(.int (lcmpW u (0 : Int64)))]) _ _ _
    by_cases h118 : u < (0 : Int64)
    · refine own_go (fun _ => XS.ifYes X1.here hx rfl (pc0 := 118) (pc' := 148) rfl (hb hby at_118) rfl ((if0 _ _).trans (tlt ((lw_lt _ _).mpr h118)).1) (by decide) (by decide)) ?_
      show own_Fin _ _ _ _ T1 (mkF m 148 #[.val (.long x0), .second, .val (.long x1), .second, .val (.int x2), .val (.long (230584300921369 : Int64)), .second, .val (.long u), .second, .val (.long t), .second, .val (.int (x2 &&& (3 : Int32))), .val (.long (own_hun u t)), .second, .unset, .unset, .unset] []) _ _ _
      refine own_go (fun _ => XS.iconst X1.here hx rfl (hb hby at_148)) ?_
      show own_Fin _ _ _ _ T1 (mkF m 149 #[.val (.long x0), .second, .val (.long x1), .second, .val (.int x2), .val (.long (230584300921369 : Int64)), .second, .val (.long u), .second, .val (.long t), .second, .val (.int (x2 &&& (3 : Int32))), .val (.long (own_hun u t)), .second, .unset, .unset, .unset] [(.int (0 : Int32))]) _ _ _
      refine own_go (fun _ => XS.istore X1.here hx rfl (hb hby at_149) rfl (l' := #[.val (.long x0), .second, .val (.long x1), .second, .val (.int x2), .val (.long (230584300921369 : Int64)), .second, .val (.long u), .second, .val (.long t), .second, .val (.int (x2 &&& (3 : Int32))), .val (.long (own_hun u t)), .second, .val (.int (0 : Int32)), .unset, .unset]) rfl) ?_
      show own_Fin _ _ _ _ T1 (mkF m 151 #[.val (.long x0), .second, .val (.long x1), .second, .val (.int x2), .val (.long (230584300921369 : Int64)), .second, .val (.long u), .second, .val (.long t), .second, .val (.int (x2 &&& (3 : Int32))), .val (.long (own_hun u t)), .second, .val (.int (0 : Int32)), .unset, .unset] []) _ _ _
      refine own_go (fun _ => XS.iload X1.here hx rfl (hb hby at_151) rfl) ?_
      show own_Fin _ _ _ _ T1 (mkF m 153 #[.val (.long x0), .second, .val (.long x1), .second, .val (.int x2), .val (.long (230584300921369 : Int64)), .second, .val (.long u), .second, .val (.long t), .second, .val (.int (x2 &&& (3 : Int32))), .val (.long (own_hun u t)), .second, .val (.int (0 : Int32)), .unset, .unset] [(.int (0 : Int32))]) _ _ _
      refine own_go (fun _ => XS.ifNo X1.here hx rfl (hb hby at_153) rfl ((if0 _ _).trans (teq (show (0 : Int32) = (0 : Int32) from (by decide))).2)) ?_
      show own_Fin _ _ _ _ T1 (mkF m 156 #[.val (.long x0), .second, .val (.long x1), .second, .val (.int x2), .val (.long (230584300921369 : Int64)), .second, .val (.long u), .second, .val (.long t), .second, .val (.int (x2 &&& (3 : Int32))), .val (.long (own_hun u t)), .second, .val (.int (0 : Int32)), .unset, .unset] []) _ _ _
      refine own_go (fun _ => XS.lload X1.here hx rfl (hb hby at_156) rfl) ?_
      show own_Fin _ _ _ _ T1 (mkF m 158 #[.val (.long x0), .second, .val (.long x1), .second, .val (.int x2), .val (.long (230584300921369 : Int64)), .second, .val (.long u), .second, .val (.long t), .second, .val (.int (x2 &&& (3 : Int32))), .val (.long (own_hun u t)), .second, .val (.int (0 : Int32)), .unset, .unset] [(.long (own_hun u t))]) _ _ _
      refine own_go (fun _ => X1.ldc2J hx hown (mvT hZ (hw _ (List.mem_of_getElem? (i := 12) rfl))) rfl (hb hby at_158)) ?_
      show own_Fin _ _ _ _ T1 (mkF m 161 #[.val (.long x0), .second, .val (.long x1), .second, .val (.int x2), .val (.long (230584300921369 : Int64)), .second, .val (.long u), .second, .val (.long t), .second, .val (.int (x2 &&& (3 : Int32))), .val (.long (own_hun u t)), .second, .val (.int (0 : Int32)), .unset, .unset] [(.long (-1 : Int64)), (.long (own_hun u t))]) _ _ _
      refine own_go (fun _ => XS.lcmp X1.here hx rfl (hb hby at_161) rfl) ?_
      show own_Fin _ _ _ _ T1 (mkF m 162 #[.val (.long x0), .second, .val (.long x1), .second, .val (.int x2), .val (.long (230584300921369 : Int64)), .second, .val (.long u), .second, .val (.long t), .second, .val (.int (x2 &&& (3 : Int32))), .val (.long (own_hun u t)), .second, .val (.int (0 : Int32)), .unset, .unset] [(.int (lcmpW (own_hun u t) (-1 : Int64)))]) _ _ _
      refine own_go (fun _ => XS.ifNo X1.here hx rfl (hb hby at_162) rfl ((if0 _ _).trans (teq ((lw_eq _ _).mpr (show (own_hun u t) = (-1 : Int64) from by simp [own_hun, h118]))).2)) ?_
      show own_Fin _ _ _ _ T1 (mkF m 165 #[.val (.long x0), .second, .val (.long x1), .second, .val (.int x2), .val (.long (230584300921369 : Int64)), .second, .val (.long u), .second, .val (.long t), .second, .val (.int (x2 &&& (3 : Int32))), .val (.long (own_hun u t)), .second, .val (.int (0 : Int32)), .unset, .unset] []) _ _ _
      refine own_go (fun _ => XS.iconst X1.here hx rfl (hb hby at_165)) ?_
      show own_Fin _ _ _ _ T1 (mkF m 166 #[.val (.long x0), .second, .val (.long x1), .second, .val (.int x2), .val (.long (230584300921369 : Int64)), .second, .val (.long u), .second, .val (.long t), .second, .val (.int (x2 &&& (3 : Int32))), .val (.long (own_hun u t)), .second, .val (.int (0 : Int32)), .unset, .unset] [(.int (1 : Int32))]) _ _ _
      refine own_go (fun _ => XS.goto X1.here hx rfl (pc0 := 166) (pc' := 170) rfl (hb hby at_166) (by decide) (by decide)) ?_
      show own_Fin _ _ _ _ T1 (mkF m 170 #[.val (.long x0), .second, .val (.long x1), .second, .val (.int x2), .val (.long (230584300921369 : Int64)), .second, .val (.long u), .second, .val (.long t), .second, .val (.int (x2 &&& (3 : Int32))), .val (.long (own_hun u t)), .second, .val (.int (0 : Int32)), .unset, .unset] [(.int (1 : Int32))]) _ _ _
      exact own_retZ X1 hx hnl (t := .boolean) hret (by simp) (hb hby at_170) (by decide) (by decide) ⟨rfl, N1⟩
    · refine own_go (fun _ => XS.ifNo X1.here hx rfl (hb hby at_118) rfl ((if0 _ _).trans (flt (mt (lw_lt _ _).mp h118)).1)) ?_
      show own_Fin _ _ _ _ T1 (mkF m 121 #[.val (.long x0), .second, .val (.long x1), .second, .val (.int x2), .val (.long (230584300921369 : Int64)), .second, .val (.long u), .second, .val (.long t), .second, .val (.int (x2 &&& (3 : Int32))), .val (.long (own_hun u t)), .second, .unset, .unset, .unset] []) _ _ _
      refine own_go (fun _ => XS.lload X1.here hx rfl (hb hby at_121) rfl) ?_
      show own_Fin _ _ _ _ T1 (mkF m 123 #[.val (.long x0), .second, .val (.long x1), .second, .val (.int x2), .val (.long (230584300921369 : Int64)), .second, .val (.long u), .second, .val (.long t), .second, .val (.int (x2 &&& (3 : Int32))), .val (.long (own_hun u t)), .second, .unset, .unset, .unset] [(.long t)]) _ _ _
      refine own_go (fun _ => XS.lconst X1.here hx rfl (hb hby at_123)) ?_
      show own_Fin _ _ _ _ T1 (mkF m 124 #[.val (.long x0), .second, .val (.long x1), .second, .val (.int x2), .val (.long (230584300921369 : Int64)), .second, .val (.long u), .second, .val (.long t), .second, .val (.int (x2 &&& (3 : Int32))), .val (.long (own_hun u t)), .second, .unset, .unset, .unset] [(.long (0 : Int64)), (.long t)]) _ _ _
      refine own_go (fun _ => XS.lcmp X1.here hx rfl (hb hby at_124) rfl) ?_
      show own_Fin _ _ _ _ T1 (mkF m 125 #[.val (.long x0), .second, .val (.long x1), .second, .val (.int x2), .val (.long (230584300921369 : Int64)), .second, .val (.long u), .second, .val (.long t), .second, .val (.int (x2 &&& (3 : Int32))), .val (.long (own_hun u t)), .second, .unset, .unset, .unset] [(.int (lcmpW t (0 : Int64)))]) _ _ _
      by_cases h125 : (0 : Int64) < t
      · refine own_go (fun _ => XS.ifNo X1.here hx rfl (hb hby at_125) rfl ((if0 _ _).trans (tlt ((lw_gt _ _).mpr h125)).2.2.2)) ?_
        show own_Fin _ _ _ _ T1 (mkF m 128 #[.val (.long x0), .second, .val (.long x1), .second, .val (.int x2), .val (.long (230584300921369 : Int64)), .second, .val (.long u), .second, .val (.long t), .second, .val (.int (x2 &&& (3 : Int32))), .val (.long (own_hun u t)), .second, .unset, .unset, .unset] []) _ _ _
        refine own_go (fun _ => XS.lload X1.here hx rfl (hb hby at_128) rfl) ?_
        show own_Fin _ _ _ _ T1 (mkF m 130 #[.val (.long x0), .second, .val (.long x1), .second, .val (.int x2), .val (.long (230584300921369 : Int64)), .second, .val (.long u), .second, .val (.long t), .second, .val (.int (x2 &&& (3 : Int32))), .val (.long (own_hun u t)), .second, .unset, .unset, .unset] [(.long u)]) _ _ _
        refine own_go (fun _ => XS.lload X1.here hx rfl (hb hby at_130) rfl) ?_
        show own_Fin _ _ _ _ T1 (mkF m 132 #[.val (.long x0), .second, .val (.long x1), .second, .val (.int x2), .val (.long (230584300921369 : Int64)), .second, .val (.long u), .second, .val (.long t), .second, .val (.int (x2 &&& (3 : Int32))), .val (.long (own_hun u t)), .second, .unset, .unset, .unset] [(.long (230584300921369 : Int64)), (.long u)]) _ _ _
        refine own_go (fun _ => XS.lcmp X1.here hx rfl (hb hby at_132) rfl) ?_
        show own_Fin _ _ _ _ T1 (mkF m 133 #[.val (.long x0), .second, .val (.long x1), .second, .val (.int x2), .val (.long (230584300921369 : Int64)), .second, .val (.long u), .second, .val (.long t), .second, .val (.int (x2 &&& (3 : Int32))), .val (.long (own_hun u t)), .second, .unset, .unset, .unset] [(.int (lcmpW u (230584300921369 : Int64)))]) _ _ _
        by_cases h133 : (230584300921369 : Int64) < u
        · refine own_go (fun _ => XS.ifYes X1.here hx rfl (pc0 := 133) (pc' := 148) rfl (hb hby at_133) rfl ((if0 _ _).trans (tlt ((lw_gt _ _).mpr h133)).2.2.1) (by decide) (by decide)) ?_
          show own_Fin _ _ _ _ T1 (mkF m 148 #[.val (.long x0), .second, .val (.long x1), .second, .val (.int x2), .val (.long (230584300921369 : Int64)), .second, .val (.long u), .second, .val (.long t), .second, .val (.int (x2 &&& (3 : Int32))), .val (.long (own_hun u t)), .second, .unset, .unset, .unset] []) _ _ _
          refine own_go (fun _ => XS.iconst X1.here hx rfl (hb hby at_148)) ?_
          show own_Fin _ _ _ _ T1 (mkF m 149 #[.val (.long x0), .second, .val (.long x1), .second, .val (.int x2), .val (.long (230584300921369 : Int64)), .second, .val (.long u), .second, .val (.long t), .second, .val (.int (x2 &&& (3 : Int32))), .val (.long (own_hun u t)), .second, .unset, .unset, .unset] [(.int (0 : Int32))]) _ _ _
          refine own_go (fun _ => XS.istore X1.here hx rfl (hb hby at_149) rfl (l' := #[.val (.long x0), .second, .val (.long x1), .second, .val (.int x2), .val (.long (230584300921369 : Int64)), .second, .val (.long u), .second, .val (.long t), .second, .val (.int (x2 &&& (3 : Int32))), .val (.long (own_hun u t)), .second, .val (.int (0 : Int32)), .unset, .unset]) rfl) ?_
          show own_Fin _ _ _ _ T1 (mkF m 151 #[.val (.long x0), .second, .val (.long x1), .second, .val (.int x2), .val (.long (230584300921369 : Int64)), .second, .val (.long u), .second, .val (.long t), .second, .val (.int (x2 &&& (3 : Int32))), .val (.long (own_hun u t)), .second, .val (.int (0 : Int32)), .unset, .unset] []) _ _ _
          refine own_go (fun _ => XS.iload X1.here hx rfl (hb hby at_151) rfl) ?_
          show own_Fin _ _ _ _ T1 (mkF m 153 #[.val (.long x0), .second, .val (.long x1), .second, .val (.int x2), .val (.long (230584300921369 : Int64)), .second, .val (.long u), .second, .val (.long t), .second, .val (.int (x2 &&& (3 : Int32))), .val (.long (own_hun u t)), .second, .val (.int (0 : Int32)), .unset, .unset] [(.int (0 : Int32))]) _ _ _
          refine own_go (fun _ => XS.ifNo X1.here hx rfl (hb hby at_153) rfl ((if0 _ _).trans (teq (show (0 : Int32) = (0 : Int32) from (by decide))).2)) ?_
          show own_Fin _ _ _ _ T1 (mkF m 156 #[.val (.long x0), .second, .val (.long x1), .second, .val (.int x2), .val (.long (230584300921369 : Int64)), .second, .val (.long u), .second, .val (.long t), .second, .val (.int (x2 &&& (3 : Int32))), .val (.long (own_hun u t)), .second, .val (.int (0 : Int32)), .unset, .unset] []) _ _ _
          refine own_go (fun _ => XS.lload X1.here hx rfl (hb hby at_156) rfl) ?_
          show own_Fin _ _ _ _ T1 (mkF m 158 #[.val (.long x0), .second, .val (.long x1), .second, .val (.int x2), .val (.long (230584300921369 : Int64)), .second, .val (.long u), .second, .val (.long t), .second, .val (.int (x2 &&& (3 : Int32))), .val (.long (own_hun u t)), .second, .val (.int (0 : Int32)), .unset, .unset] [(.long (own_hun u t))]) _ _ _
          refine own_go (fun _ => X1.ldc2J hx hown (mvT hZ (hw _ (List.mem_of_getElem? (i := 12) rfl))) rfl (hb hby at_158)) ?_
          show own_Fin _ _ _ _ T1 (mkF m 161 #[.val (.long x0), .second, .val (.long x1), .second, .val (.int x2), .val (.long (230584300921369 : Int64)), .second, .val (.long u), .second, .val (.long t), .second, .val (.int (x2 &&& (3 : Int32))), .val (.long (own_hun u t)), .second, .val (.int (0 : Int32)), .unset, .unset] [(.long (-1 : Int64)), (.long (own_hun u t))]) _ _ _
          refine own_go (fun _ => XS.lcmp X1.here hx rfl (hb hby at_161) rfl) ?_
          show own_Fin _ _ _ _ T1 (mkF m 162 #[.val (.long x0), .second, .val (.long x1), .second, .val (.int x2), .val (.long (230584300921369 : Int64)), .second, .val (.long u), .second, .val (.long t), .second, .val (.int (x2 &&& (3 : Int32))), .val (.long (own_hun u t)), .second, .val (.int (0 : Int32)), .unset, .unset] [(.int (lcmpW (own_hun u t) (-1 : Int64)))]) _ _ _
          refine own_go (fun _ => XS.ifNo X1.here hx rfl (hb hby at_162) rfl ((if0 _ _).trans (teq ((lw_eq _ _).mpr (show (own_hun u t) = (-1 : Int64) from by simp [own_hun, h118, h125, h133]))).2)) ?_
          show own_Fin _ _ _ _ T1 (mkF m 165 #[.val (.long x0), .second, .val (.long x1), .second, .val (.int x2), .val (.long (230584300921369 : Int64)), .second, .val (.long u), .second, .val (.long t), .second, .val (.int (x2 &&& (3 : Int32))), .val (.long (own_hun u t)), .second, .val (.int (0 : Int32)), .unset, .unset] []) _ _ _
          refine own_go (fun _ => XS.iconst X1.here hx rfl (hb hby at_165)) ?_
          show own_Fin _ _ _ _ T1 (mkF m 166 #[.val (.long x0), .second, .val (.long x1), .second, .val (.int x2), .val (.long (230584300921369 : Int64)), .second, .val (.long u), .second, .val (.long t), .second, .val (.int (x2 &&& (3 : Int32))), .val (.long (own_hun u t)), .second, .val (.int (0 : Int32)), .unset, .unset] [(.int (1 : Int32))]) _ _ _
          refine own_go (fun _ => XS.goto X1.here hx rfl (pc0 := 166) (pc' := 170) rfl (hb hby at_166) (by decide) (by decide)) ?_
          show own_Fin _ _ _ _ T1 (mkF m 170 #[.val (.long x0), .second, .val (.long x1), .second, .val (.int x2), .val (.long (230584300921369 : Int64)), .second, .val (.long u), .second, .val (.long t), .second, .val (.int (x2 &&& (3 : Int32))), .val (.long (own_hun u t)), .second, .val (.int (0 : Int32)), .unset, .unset] [(.int (1 : Int32))]) _ _ _
          exact own_retZ X1 hx hnl (t := .boolean) hret (by simp) (hb hby at_170) (by decide) (by decide) ⟨rfl, N1⟩
        · refine own_go (fun _ => XS.ifNo X1.here hx rfl (hb hby at_133) rfl ((if0 _ _).trans (flt (mt (lw_gt _ _).mp h133)).2.2.1)) ?_
          show own_Fin _ _ _ _ T1 (mkF m 136 #[.val (.long x0), .second, .val (.long x1), .second, .val (.int x2), .val (.long (230584300921369 : Int64)), .second, .val (.long u), .second, .val (.long t), .second, .val (.int (x2 &&& (3 : Int32))), .val (.long (own_hun u t)), .second, .unset, .unset, .unset] []) _ _ _
          refine own_go (fun _ => XS.lload X1.here hx rfl (hb hby at_136) rfl) ?_
          show own_Fin _ _ _ _ T1 (mkF m 138 #[.val (.long x0), .second, .val (.long x1), .second, .val (.int x2), .val (.long (230584300921369 : Int64)), .second, .val (.long u), .second, .val (.long t), .second, .val (.int (x2 &&& (3 : Int32))), .val (.long (own_hun u t)), .second, .unset, .unset, .unset] [(.long t)]) _ _ _
          refine own_go (fun _ => XS.lload X1.here hx rfl (hb hby at_138) rfl) ?_
          show own_Fin _ _ _ _ T1 (mkF m 140 #[.val (.long x0), .second, .val (.long x1), .second, .val (.int x2), .val (.long (230584300921369 : Int64)), .second, .val (.long u), .second, .val (.long t), .second, .val (.int (x2 &&& (3 : Int32))), .val (.long (own_hun u t)), .second, .unset, .unset, .unset] [(.long (230584300921369 : Int64)), (.long t)]) _ _ _
          refine own_go (fun _ => XS.lcmp X1.here hx rfl (hb hby at_140) rfl) ?_
          show own_Fin _ _ _ _ T1 (mkF m 141 #[.val (.long x0), .second, .val (.long x1), .second, .val (.int x2), .val (.long (230584300921369 : Int64)), .second, .val (.long u), .second, .val (.long t), .second, .val (.int (x2 &&& (3 : Int32))), .val (.long (own_hun u t)), .second, .unset, .unset, .unset] [(.int (lcmpW t (230584300921369 : Int64)))]) _ _ _
          by_cases h141 : (230584300921369 : Int64) < t
          · refine own_go (fun _ => XS.ifYes X1.here hx rfl (pc0 := 141) (pc' := 148) rfl (hb hby at_141) rfl ((if0 _ _).trans (tlt ((lw_gt _ _).mpr h141)).2.2.1) (by decide) (by decide)) ?_
            show own_Fin _ _ _ _ T1 (mkF m 148 #[.val (.long x0), .second, .val (.long x1), .second, .val (.int x2), .val (.long (230584300921369 : Int64)), .second, .val (.long u), .second, .val (.long t), .second, .val (.int (x2 &&& (3 : Int32))), .val (.long (own_hun u t)), .second, .unset, .unset, .unset] []) _ _ _
            refine own_go (fun _ => XS.iconst X1.here hx rfl (hb hby at_148)) ?_
            show own_Fin _ _ _ _ T1 (mkF m 149 #[.val (.long x0), .second, .val (.long x1), .second, .val (.int x2), .val (.long (230584300921369 : Int64)), .second, .val (.long u), .second, .val (.long t), .second, .val (.int (x2 &&& (3 : Int32))), .val (.long (own_hun u t)), .second, .unset, .unset, .unset] [(.int (0 : Int32))]) _ _ _
            refine own_go (fun _ => XS.istore X1.here hx rfl (hb hby at_149) rfl (l' := #[.val (.long x0), .second, .val (.long x1), .second, .val (.int x2), .val (.long (230584300921369 : Int64)), .second, .val (.long u), .second, .val (.long t), .second, .val (.int (x2 &&& (3 : Int32))), .val (.long (own_hun u t)), .second, .val (.int (0 : Int32)), .unset, .unset]) rfl) ?_
            show own_Fin _ _ _ _ T1 (mkF m 151 #[.val (.long x0), .second, .val (.long x1), .second, .val (.int x2), .val (.long (230584300921369 : Int64)), .second, .val (.long u), .second, .val (.long t), .second, .val (.int (x2 &&& (3 : Int32))), .val (.long (own_hun u t)), .second, .val (.int (0 : Int32)), .unset, .unset] []) _ _ _
            refine own_go (fun _ => XS.iload X1.here hx rfl (hb hby at_151) rfl) ?_
            show own_Fin _ _ _ _ T1 (mkF m 153 #[.val (.long x0), .second, .val (.long x1), .second, .val (.int x2), .val (.long (230584300921369 : Int64)), .second, .val (.long u), .second, .val (.long t), .second, .val (.int (x2 &&& (3 : Int32))), .val (.long (own_hun u t)), .second, .val (.int (0 : Int32)), .unset, .unset] [(.int (0 : Int32))]) _ _ _
            refine own_go (fun _ => XS.ifNo X1.here hx rfl (hb hby at_153) rfl ((if0 _ _).trans (teq (show (0 : Int32) = (0 : Int32) from (by decide))).2)) ?_
            show own_Fin _ _ _ _ T1 (mkF m 156 #[.val (.long x0), .second, .val (.long x1), .second, .val (.int x2), .val (.long (230584300921369 : Int64)), .second, .val (.long u), .second, .val (.long t), .second, .val (.int (x2 &&& (3 : Int32))), .val (.long (own_hun u t)), .second, .val (.int (0 : Int32)), .unset, .unset] []) _ _ _
            refine own_go (fun _ => XS.lload X1.here hx rfl (hb hby at_156) rfl) ?_
            show own_Fin _ _ _ _ T1 (mkF m 158 #[.val (.long x0), .second, .val (.long x1), .second, .val (.int x2), .val (.long (230584300921369 : Int64)), .second, .val (.long u), .second, .val (.long t), .second, .val (.int (x2 &&& (3 : Int32))), .val (.long (own_hun u t)), .second, .val (.int (0 : Int32)), .unset, .unset] [(.long (own_hun u t))]) _ _ _
            refine own_go (fun _ => X1.ldc2J hx hown (mvT hZ (hw _ (List.mem_of_getElem? (i := 12) rfl))) rfl (hb hby at_158)) ?_
            show own_Fin _ _ _ _ T1 (mkF m 161 #[.val (.long x0), .second, .val (.long x1), .second, .val (.int x2), .val (.long (230584300921369 : Int64)), .second, .val (.long u), .second, .val (.long t), .second, .val (.int (x2 &&& (3 : Int32))), .val (.long (own_hun u t)), .second, .val (.int (0 : Int32)), .unset, .unset] [(.long (-1 : Int64)), (.long (own_hun u t))]) _ _ _
            refine own_go (fun _ => XS.lcmp X1.here hx rfl (hb hby at_161) rfl) ?_
            show own_Fin _ _ _ _ T1 (mkF m 162 #[.val (.long x0), .second, .val (.long x1), .second, .val (.int x2), .val (.long (230584300921369 : Int64)), .second, .val (.long u), .second, .val (.long t), .second, .val (.int (x2 &&& (3 : Int32))), .val (.long (own_hun u t)), .second, .val (.int (0 : Int32)), .unset, .unset] [(.int (lcmpW (own_hun u t) (-1 : Int64)))]) _ _ _
            refine own_go (fun _ => XS.ifNo X1.here hx rfl (hb hby at_162) rfl ((if0 _ _).trans (teq ((lw_eq _ _).mpr (show (own_hun u t) = (-1 : Int64) from by simp [own_hun, h118, h125, h133, h141]))).2)) ?_
            show own_Fin _ _ _ _ T1 (mkF m 165 #[.val (.long x0), .second, .val (.long x1), .second, .val (.int x2), .val (.long (230584300921369 : Int64)), .second, .val (.long u), .second, .val (.long t), .second, .val (.int (x2 &&& (3 : Int32))), .val (.long (own_hun u t)), .second, .val (.int (0 : Int32)), .unset, .unset] []) _ _ _
            refine own_go (fun _ => XS.iconst X1.here hx rfl (hb hby at_165)) ?_
            show own_Fin _ _ _ _ T1 (mkF m 166 #[.val (.long x0), .second, .val (.long x1), .second, .val (.int x2), .val (.long (230584300921369 : Int64)), .second, .val (.long u), .second, .val (.long t), .second, .val (.int (x2 &&& (3 : Int32))), .val (.long (own_hun u t)), .second, .val (.int (0 : Int32)), .unset, .unset] [(.int (1 : Int32))]) _ _ _
            refine own_go (fun _ => XS.goto X1.here hx rfl (pc0 := 166) (pc' := 170) rfl (hb hby at_166) (by decide) (by decide)) ?_
            show own_Fin _ _ _ _ T1 (mkF m 170 #[.val (.long x0), .second, .val (.long x1), .second, .val (.int x2), .val (.long (230584300921369 : Int64)), .second, .val (.long u), .second, .val (.long t), .second, .val (.int (x2 &&& (3 : Int32))), .val (.long (own_hun u t)), .second, .val (.int (0 : Int32)), .unset, .unset] [(.int (1 : Int32))]) _ _ _
            exact own_retZ X1 hx hnl (t := .boolean) hret (by simp) (hb hby at_170) (by decide) (by decide) ⟨rfl, N1⟩
          · refine own_go (fun _ => XS.ifNo X1.here hx rfl (hb hby at_141) rfl ((if0 _ _).trans (flt (mt (lw_gt _ _).mp h141)).2.2.1)) ?_
            show own_Fin _ _ _ _ T1 (mkF m 144 #[.val (.long x0), .second, .val (.long x1), .second, .val (.int x2), .val (.long (230584300921369 : Int64)), .second, .val (.long u), .second, .val (.long t), .second, .val (.int (x2 &&& (3 : Int32))), .val (.long (own_hun u t)), .second, .unset, .unset, .unset] []) _ _ _
            refine own_go (fun _ => XS.iconst X1.here hx rfl (hb hby at_144)) ?_
            show own_Fin _ _ _ _ T1 (mkF m 145 #[.val (.long x0), .second, .val (.long x1), .second, .val (.int x2), .val (.long (230584300921369 : Int64)), .second, .val (.long u), .second, .val (.long t), .second, .val (.int (x2 &&& (3 : Int32))), .val (.long (own_hun u t)), .second, .unset, .unset, .unset] [(.int (1 : Int32))]) _ _ _
            refine own_go (fun _ => XS.goto X1.here hx rfl (pc0 := 145) (pc' := 149) rfl (hb hby at_145) (by decide) (by decide)) ?_
            show own_Fin _ _ _ _ T1 (mkF m 149 #[.val (.long x0), .second, .val (.long x1), .second, .val (.int x2), .val (.long (230584300921369 : Int64)), .second, .val (.long u), .second, .val (.long t), .second, .val (.int (x2 &&& (3 : Int32))), .val (.long (own_hun u t)), .second, .unset, .unset, .unset] [(.int (1 : Int32))]) _ _ _
            refine own_go (fun _ => XS.istore X1.here hx rfl (hb hby at_149) rfl (l' := #[.val (.long x0), .second, .val (.long x1), .second, .val (.int x2), .val (.long (230584300921369 : Int64)), .second, .val (.long u), .second, .val (.long t), .second, .val (.int (x2 &&& (3 : Int32))), .val (.long (own_hun u t)), .second, .val (.int (1 : Int32)), .unset, .unset]) rfl) ?_
            show own_Fin _ _ _ _ T1 (mkF m 151 #[.val (.long x0), .second, .val (.long x1), .second, .val (.int x2), .val (.long (230584300921369 : Int64)), .second, .val (.long u), .second, .val (.long t), .second, .val (.int (x2 &&& (3 : Int32))), .val (.long (own_hun u t)), .second, .val (.int (1 : Int32)), .unset, .unset] []) _ _ _
            refine own_go (fun _ => XS.iload X1.here hx rfl (hb hby at_151) rfl) ?_
            show own_Fin _ _ _ _ T1 (mkF m 153 #[.val (.long x0), .second, .val (.long x1), .second, .val (.int x2), .val (.long (230584300921369 : Int64)), .second, .val (.long u), .second, .val (.long t), .second, .val (.int (x2 &&& (3 : Int32))), .val (.long (own_hun u t)), .second, .val (.int (1 : Int32)), .unset, .unset] [(.int (1 : Int32))]) _ _ _
            refine own_go (fun _ => XS.ifYes X1.here hx rfl (pc0 := 153) (pc' := 171) rfl (hb hby at_153) rfl ((if0 _ _).trans (feq (show ¬ ((1 : Int32) = (0 : Int32)) from (by decide))).2) (by decide) (by decide)) ?_
            show own_Fin _ _ _ _ T1 (mkF m 171 #[.val (.long x0), .second, .val (.long x1), .second, .val (.int x2), .val (.long (230584300921369 : Int64)), .second, .val (.long u), .second, .val (.long t), .second, .val (.int (x2 &&& (3 : Int32))), .val (.long (own_hun u t)), .second, .val (.int (1 : Int32)), .unset, .unset] []) _ _ _
            refine own_go (fun _ => XS.lload X1.here hx rfl (hb hby at_171) rfl) ?_
            show own_Fin _ _ _ _ T1 (mkF m 173 #[.val (.long x0), .second, .val (.long x1), .second, .val (.int x2), .val (.long (230584300921369 : Int64)), .second, .val (.long u), .second, .val (.long t), .second, .val (.int (x2 &&& (3 : Int32))), .val (.long (own_hun u t)), .second, .val (.int (1 : Int32)), .unset, .unset] [(.long (own_hun u t))]) _ _ _
            refine own_go (fun _ => XS.lconst X1.here hx rfl (hb hby at_173)) ?_
            show own_Fin _ _ _ _ T1 (mkF m 174 #[.val (.long x0), .second, .val (.long x1), .second, .val (.int x2), .val (.long (230584300921369 : Int64)), .second, .val (.long u), .second, .val (.long t), .second, .val (.int (x2 &&& (3 : Int32))), .val (.long (own_hun u t)), .second, .val (.int (1 : Int32)), .unset, .unset] [(.long (0 : Int64)), (.long (own_hun u t))]) _ _ _
            refine own_go (fun _ => XS.lcmp X1.here hx rfl (hb hby at_174) rfl) ?_
            show own_Fin _ _ _ _ T1 (mkF m 175 #[.val (.long x0), .second, .val (.long x1), .second, .val (.int x2), .val (.long (230584300921369 : Int64)), .second, .val (.long u), .second, .val (.long t), .second, .val (.int (x2 &&& (3 : Int32))), .val (.long (own_hun u t)), .second, .val (.int (1 : Int32)), .unset, .unset] [(.int (lcmpW (own_hun u t) (0 : Int64)))]) _ _ _
            refine own_go (fun _ => XS.ifNo X1.here hx rfl (hb hby at_175) rfl ((if0 _ _).trans (flt (mt (lw_lt _ _).mp (show ¬ ((own_hun u t) < (0 : Int64)) from (own_r h118 h125 h133 h141).1))).1)) ?_
            show own_Fin _ _ _ _ T1 (mkF m 178 #[.val (.long x0), .second, .val (.long x1), .second, .val (.int x2), .val (.long (230584300921369 : Int64)), .second, .val (.long u), .second, .val (.long t), .second, .val (.int (x2 &&& (3 : Int32))), .val (.long (own_hun u t)), .second, .val (.int (1 : Int32)), .unset, .unset] []) _ _ _
            refine own_go (fun _ => XS.lload X1.here hx rfl (hb hby at_178) rfl) ?_
            show own_Fin _ _ _ _ T1 (mkF m 180 #[.val (.long x0), .second, .val (.long x1), .second, .val (.int x2), .val (.long (230584300921369 : Int64)), .second, .val (.long u), .second, .val (.long t), .second, .val (.int (x2 &&& (3 : Int32))), .val (.long (own_hun u t)), .second, .val (.int (1 : Int32)), .unset, .unset] [(.long (own_hun u t))]) _ _ _
            refine own_go (fun _ => XS.lload X1.here hx rfl (hb hby at_180) rfl) ?_
            show own_Fin _ _ _ _ T1 (mkF m 182 #[.val (.long x0), .second, .val (.long x1), .second, .val (.int x2), .val (.long (230584300921369 : Int64)), .second, .val (.long u), .second, .val (.long t), .second, .val (.int (x2 &&& (3 : Int32))), .val (.long (own_hun u t)), .second, .val (.int (1 : Int32)), .unset, .unset] [(.long u), (.long (own_hun u t))]) _ _ _
            refine own_go (fun _ => X1.ldc2J hx hown (mvT hZ (hw _ (List.mem_of_getElem? (i := 9) rfl))) rfl (hb hby at_182)) ?_
            show own_Fin _ _ _ _ T1 (mkF m 185 #[.val (.long x0), .second, .val (.long x1), .second, .val (.int x2), .val (.long (230584300921369 : Int64)), .second, .val (.long u), .second, .val (.long t), .second, .val (.int (x2 &&& (3 : Int32))), .val (.long (own_hun u t)), .second, .val (.int (1 : Int32)), .unset, .unset] [(.long (10000 : Int64)), (.long u), (.long (own_hun u t))]) _ _ _
            refine own_go (fun _ => XS.lmul X1.here hx rfl (hb hby at_185) rfl) ?_
            show own_Fin _ _ _ _ T1 (mkF m 186 #[.val (.long x0), .second, .val (.long x1), .second, .val (.int x2), .val (.long (230584300921369 : Int64)), .second, .val (.long u), .second, .val (.long t), .second, .val (.int (x2 &&& (3 : Int32))), .val (.long (own_hun u t)), .second, .val (.int (1 : Int32)), .unset, .unset] [(.long (u * (10000 : Int64))), (.long (own_hun u t))]) _ _ _
            refine own_go (fun _ => XS.lconst X1.here hx rfl (hb hby at_186)) ?_
            show own_Fin _ _ _ _ T1 (mkF m 187 #[.val (.long x0), .second, .val (.long x1), .second, .val (.int x2), .val (.long (230584300921369 : Int64)), .second, .val (.long u), .second, .val (.long t), .second, .val (.int (x2 &&& (3 : Int32))), .val (.long (own_hun u t)), .second, .val (.int (1 : Int32)), .unset, .unset] [(.long (1 : Int64)), (.long (u * (10000 : Int64))), (.long (own_hun u t))]) _ _ _
            refine own_go (fun _ => XS.ladd X1.here hx rfl (hb hby at_187) rfl) ?_
            show own_Fin _ _ _ _ T1 (mkF m 188 #[.val (.long x0), .second, .val (.long x1), .second, .val (.int x2), .val (.long (230584300921369 : Int64)), .second, .val (.long u), .second, .val (.long t), .second, .val (.int (x2 &&& (3 : Int32))), .val (.long (own_hun u t)), .second, .val (.int (1 : Int32)), .unset, .unset] [(.long ((u * (10000 : Int64)) + (1 : Int64))), (.long (own_hun u t))]) _ _ _
            refine own_go (fun _ => XS.lcmp X1.here hx rfl (hb hby at_188) rfl) ?_
            show own_Fin _ _ _ _ T1 (mkF m 189 #[.val (.long x0), .second, .val (.long x1), .second, .val (.int x2), .val (.long (230584300921369 : Int64)), .second, .val (.long u), .second, .val (.long t), .second, .val (.int (x2 &&& (3 : Int32))), .val (.long (own_hun u t)), .second, .val (.int (1 : Int32)), .unset, .unset] [(.int (lcmpW (own_hun u t) ((u * (10000 : Int64)) + (1 : Int64))))]) _ _ _
            refine own_go (fun _ => XS.ifYes X1.here hx rfl (pc0 := 189) (pc' := 194) rfl (hb hby at_189) rfl ((if0 _ _).trans (flt (mt (lw_gt _ _).mp (show ¬ (((u * (10000 : Int64)) + (1 : Int64)) < (own_hun u t)) from (own_r h118 h125 h133 h141).2.1))).2.2.2) (by decide) (by decide)) ?_
            show own_Fin _ _ _ _ T1 (mkF m 194 #[.val (.long x0), .second, .val (.long x1), .second, .val (.int x2), .val (.long (230584300921369 : Int64)), .second, .val (.long u), .second, .val (.long t), .second, .val (.int (x2 &&& (3 : Int32))), .val (.long (own_hun u t)), .second, .val (.int (1 : Int32)), .unset, .unset] []) _ _ _
            refine own_go (fun _ => XS.lload X1.here hx rfl (hb hby at_194) rfl) ?_
            show own_Fin _ _ _ _ T1 (mkF m 196 #[.val (.long x0), .second, .val (.long x1), .second, .val (.int x2), .val (.long (230584300921369 : Int64)), .second, .val (.long u), .second, .val (.long t), .second, .val (.int (x2 &&& (3 : Int32))), .val (.long (own_hun u t)), .second, .val (.int (1 : Int32)), .unset, .unset] [(.long u)]) _ _ _
            refine own_go (fun _ => X1.ldc2J hx hown (mvT hZ (hw _ (List.mem_of_getElem? (i := 9) rfl))) rfl (hb hby at_196)) ?_
            show own_Fin _ _ _ _ T1 (mkF m 199 #[.val (.long x0), .second, .val (.long x1), .second, .val (.int x2), .val (.long (230584300921369 : Int64)), .second, .val (.long u), .second, .val (.long t), .second, .val (.int (x2 &&& (3 : Int32))), .val (.long (own_hun u t)), .second, .val (.int (1 : Int32)), .unset, .unset] [(.long (10000 : Int64)), (.long u)]) _ _ _
            refine own_go (fun _ => XS.lmul X1.here hx rfl (hb hby at_199) rfl) ?_
            show own_Fin _ _ _ _ T1 (mkF m 200 #[.val (.long x0), .second, .val (.long x1), .second, .val (.int x2), .val (.long (230584300921369 : Int64)), .second, .val (.long u), .second, .val (.long t), .second, .val (.int (x2 &&& (3 : Int32))), .val (.long (own_hun u t)), .second, .val (.int (1 : Int32)), .unset, .unset] [(.long (u * (10000 : Int64)))]) _ _ _
            refine own_go (fun _ => XS.lload X1.here hx rfl (hb hby at_200) rfl) ?_
            show own_Fin _ _ _ _ T1 (mkF m 202 #[.val (.long x0), .second, .val (.long x1), .second, .val (.int x2), .val (.long (230584300921369 : Int64)), .second, .val (.long u), .second, .val (.long t), .second, .val (.int (x2 &&& (3 : Int32))), .val (.long (own_hun u t)), .second, .val (.int (1 : Int32)), .unset, .unset] [(.long (own_hun u t)), (.long (u * (10000 : Int64)))]) _ _ _
            refine own_go (fun _ => XS.lload X1.here hx rfl (hb hby at_202) rfl) ?_
            show own_Fin _ _ _ _ T1 (mkF m 204 #[.val (.long x0), .second, .val (.long x1), .second, .val (.int x2), .val (.long (230584300921369 : Int64)), .second, .val (.long u), .second, .val (.long t), .second, .val (.int (x2 &&& (3 : Int32))), .val (.long (own_hun u t)), .second, .val (.int (1 : Int32)), .unset, .unset] [(.long t), (.long (own_hun u t)), (.long (u * (10000 : Int64)))]) _ _ _
            refine own_go (fun _ => XS.lmul X1.here hx rfl (hb hby at_204) rfl) ?_
            show own_Fin _ _ _ _ T1 (mkF m 205 #[.val (.long x0), .second, .val (.long x1), .second, .val (.int x2), .val (.long (230584300921369 : Int64)), .second, .val (.long u), .second, .val (.long t), .second, .val (.int (x2 &&& (3 : Int32))), .val (.long (own_hun u t)), .second, .val (.int (1 : Int32)), .unset, .unset] [(.long ((own_hun u t) * t)), (.long (u * (10000 : Int64)))]) _ _ _
            refine own_go (fun _ => XS.lsub X1.here hx rfl (hb hby at_205) rfl) ?_
            show own_Fin _ _ _ _ T1 (mkF m 206 #[.val (.long x0), .second, .val (.long x1), .second, .val (.int x2), .val (.long (230584300921369 : Int64)), .second, .val (.long u), .second, .val (.long t), .second, .val (.int (x2 &&& (3 : Int32))), .val (.long (own_hun u t)), .second, .val (.int (1 : Int32)), .unset, .unset] [(.long ((u * (10000 : Int64)) - ((own_hun u t) * t)))]) _ _ _
            refine own_go (fun _ => XS.lstore X1.here hx rfl (hb hby at_206) rfl (l' := #[.val (.long x0), .second, .val (.long x1), .second, .val (.int x2), .val (.long (230584300921369 : Int64)), .second, .val (.long u), .second, .val (.long t), .second, .val (.int (x2 &&& (3 : Int32))), .val (.long (own_hun u t)), .second, .val (.int (1 : Int32)), .val (.long ((u * (10000 : Int64)) - ((own_hun u t) * t))), .second]) rfl) ?_
            show own_Fin _ _ _ _ T1 (mkF m 208 #[.val (.long x0), .second, .val (.long x1), .second, .val (.int x2), .val (.long (230584300921369 : Int64)), .second, .val (.long u), .second, .val (.long t), .second, .val (.int (x2 &&& (3 : Int32))), .val (.long (own_hun u t)), .second, .val (.int (1 : Int32)), .val (.long ((u * (10000 : Int64)) - ((own_hun u t) * t))), .second] []) _ _ _
            refine own_go (fun _ => XS.lload X1.here hx rfl (hb hby at_208) rfl) ?_
            show own_Fin _ _ _ _ T1 (mkF m 210 #[.val (.long x0), .second, .val (.long x1), .second, .val (.int x2), .val (.long (230584300921369 : Int64)), .second, .val (.long u), .second, .val (.long t), .second, .val (.int (x2 &&& (3 : Int32))), .val (.long (own_hun u t)), .second, .val (.int (1 : Int32)), .val (.long ((u * (10000 : Int64)) - ((own_hun u t) * t))), .second] [(.long t)]) _ _ _
            refine own_go (fun _ => XS.lneg X1.here hx rfl (hb hby at_210) rfl) ?_
            show own_Fin _ _ _ _ T1 (mkF m 211 #[.val (.long x0), .second, .val (.long x1), .second, .val (.int x2), .val (.long (230584300921369 : Int64)), .second, .val (.long u), .second, .val (.long t), .second, .val (.int (x2 &&& (3 : Int32))), .val (.long (own_hun u t)), .second, .val (.int (1 : Int32)), .val (.long ((u * (10000 : Int64)) - ((own_hun u t) * t))), .second] [(.long (-t))]) _ _ _
            refine own_go (fun _ => X1.ldc2J hx hown (mvT hZ (hw _ (List.mem_of_getElem? (i := 10) rfl))) rfl (hb hby at_211)) ?_
            show own_Fin _ _ _ _ T1 (mkF m 214 #[.val (.long x0), .second, .val (.long x1), .second, .val (.int x2), .val (.long (230584300921369 : Int64)), .second, .val (.long u), .second, .val (.long t), .second, .val (.int (x2 &&& (3 : Int32))), .val (.long (own_hun u t)), .second, .val (.int (1 : Int32)), .val (.long ((u * (10000 : Int64)) - ((own_hun u t) * t))), .second] [(.long (2 : Int64)), (.long (-t))]) _ _ _
            refine own_go (fun _ => XS.lload X1.here hx rfl (hb hby at_214) rfl) ?_
            show own_Fin _ _ _ _ T1 (mkF m 216 #[.val (.long x0), .second, .val (.long x1), .second, .val (.int x2), .val (.long (230584300921369 : Int64)), .second, .val (.long u), .second, .val (.long t), .second, .val (.int (x2 &&& (3 : Int32))), .val (.long (own_hun u t)), .second, .val (.int (1 : Int32)), .val (.long ((u * (10000 : Int64)) - ((own_hun u t) * t))), .second] [(.long ((u * (10000 : Int64)) - ((own_hun u t) * t))), (.long (2 : Int64)), (.long (-t))]) _ _ _
            refine own_go (fun _ => XS.lmul X1.here hx rfl (hb hby at_216) rfl) ?_
            show own_Fin _ _ _ _ T1 (mkF m 217 #[.val (.long x0), .second, .val (.long x1), .second, .val (.int x2), .val (.long (230584300921369 : Int64)), .second, .val (.long u), .second, .val (.long t), .second, .val (.int (x2 &&& (3 : Int32))), .val (.long (own_hun u t)), .second, .val (.int (1 : Int32)), .val (.long ((u * (10000 : Int64)) - ((own_hun u t) * t))), .second] [(.long ((2 : Int64) * ((u * (10000 : Int64)) - ((own_hun u t) * t)))), (.long (-t))]) _ _ _
            refine own_go (fun _ => XS.lcmp X1.here hx rfl (hb hby at_217) rfl) ?_
            show own_Fin _ _ _ _ T1 (mkF m 218 #[.val (.long x0), .second, .val (.long x1), .second, .val (.int x2), .val (.long (230584300921369 : Int64)), .second, .val (.long u), .second, .val (.long t), .second, .val (.int (x2 &&& (3 : Int32))), .val (.long (own_hun u t)), .second, .val (.int (1 : Int32)), .val (.long ((u * (10000 : Int64)) - ((own_hun u t) * t))), .second] [(.int (lcmpW (-t) ((2 : Int64) * ((u * (10000 : Int64)) - ((own_hun u t) * t)))))]) _ _ _
            refine own_go (fun _ => XS.ifNo X1.here hx rfl (hb hby at_218) rfl ((if0 _ _).trans (flt (mt (lw_gt _ _).mp (show ¬ (((2 : Int64) * ((u * (10000 : Int64)) - ((own_hun u t) * t))) < (-t)) from (own_r h118 h125 h133 h141).2.2.1))).2.2.1)) ?_
            show own_Fin _ _ _ _ T1 (mkF m 221 #[.val (.long x0), .second, .val (.long x1), .second, .val (.int x2), .val (.long (230584300921369 : Int64)), .second, .val (.long u), .second, .val (.long t), .second, .val (.int (x2 &&& (3 : Int32))), .val (.long (own_hun u t)), .second, .val (.int (1 : Int32)), .val (.long ((u * (10000 : Int64)) - ((own_hun u t) * t))), .second] []) _ _ _
            refine own_go (fun _ => X1.ldc2J hx hown (mvT hZ (hw _ (List.mem_of_getElem? (i := 10) rfl))) rfl (hb hby at_221)) ?_
            show own_Fin _ _ _ _ T1 (mkF m 224 #[.val (.long x0), .second, .val (.long x1), .second, .val (.int x2), .val (.long (230584300921369 : Int64)), .second, .val (.long u), .second, .val (.long t), .second, .val (.int (x2 &&& (3 : Int32))), .val (.long (own_hun u t)), .second, .val (.int (1 : Int32)), .val (.long ((u * (10000 : Int64)) - ((own_hun u t) * t))), .second] [(.long (2 : Int64))]) _ _ _
            refine own_go (fun _ => XS.lload X1.here hx rfl (hb hby at_224) rfl) ?_
            show own_Fin _ _ _ _ T1 (mkF m 226 #[.val (.long x0), .second, .val (.long x1), .second, .val (.int x2), .val (.long (230584300921369 : Int64)), .second, .val (.long u), .second, .val (.long t), .second, .val (.int (x2 &&& (3 : Int32))), .val (.long (own_hun u t)), .second, .val (.int (1 : Int32)), .val (.long ((u * (10000 : Int64)) - ((own_hun u t) * t))), .second] [(.long ((u * (10000 : Int64)) - ((own_hun u t) * t))), (.long (2 : Int64))]) _ _ _
            refine own_go (fun _ => XS.lmul X1.here hx rfl (hb hby at_226) rfl) ?_
            show own_Fin _ _ _ _ T1 (mkF m 227 #[.val (.long x0), .second, .val (.long x1), .second, .val (.int x2), .val (.long (230584300921369 : Int64)), .second, .val (.long u), .second, .val (.long t), .second, .val (.int (x2 &&& (3 : Int32))), .val (.long (own_hun u t)), .second, .val (.int (1 : Int32)), .val (.long ((u * (10000 : Int64)) - ((own_hun u t) * t))), .second] [(.long ((2 : Int64) * ((u * (10000 : Int64)) - ((own_hun u t) * t))))]) _ _ _
            refine own_go (fun _ => XS.lload X1.here hx rfl (hb hby at_227) rfl) ?_
            show own_Fin _ _ _ _ T1 (mkF m 229 #[.val (.long x0), .second, .val (.long x1), .second, .val (.int x2), .val (.long (230584300921369 : Int64)), .second, .val (.long u), .second, .val (.long t), .second, .val (.int (x2 &&& (3 : Int32))), .val (.long (own_hun u t)), .second, .val (.int (1 : Int32)), .val (.long ((u * (10000 : Int64)) - ((own_hun u t) * t))), .second] [(.long t), (.long ((2 : Int64) * ((u * (10000 : Int64)) - ((own_hun u t) * t))))]) _ _ _
            refine own_go (fun _ => XS.lcmp X1.here hx rfl (hb hby at_229) rfl) ?_
            show own_Fin _ _ _ _ T1 (mkF m 230 #[.val (.long x0), .second, .val (.long x1), .second, .val (.int x2), .val (.long (230584300921369 : Int64)), .second, .val (.long u), .second, .val (.long t), .second, .val (.int (x2 &&& (3 : Int32))), .val (.long (own_hun u t)), .second, .val (.int (1 : Int32)), .val (.long ((u * (10000 : Int64)) - ((own_hun u t) * t))), .second] [(.int (lcmpW ((2 : Int64) * ((u * (10000 : Int64)) - ((own_hun u t) * t))) t))]) _ _ _
            refine own_go (fun _ => XS.ifNo X1.here hx rfl (hb hby at_230) rfl ((if0 _ _).trans (tlt ((lw_lt _ _).mpr (show ((2 : Int64) * ((u * (10000 : Int64)) - ((own_hun u t) * t))) < t from (own_r h118 h125 h133 h141).2.2.2))).2.1)) ?_
            show own_Fin _ _ _ _ T1 (mkF m 233 #[.val (.long x0), .second, .val (.long x1), .second, .val (.int x2), .val (.long (230584300921369 : Int64)), .second, .val (.long u), .second, .val (.long t), .second, .val (.int (x2 &&& (3 : Int32))), .val (.long (own_hun u t)), .second, .val (.int (1 : Int32)), .val (.long ((u * (10000 : Int64)) - ((own_hun u t) * t))), .second] []) _ _ _
            refine own_go (fun _ => XS.iconst X1.here hx rfl (hb hby at_233)) ?_
            show own_Fin _ _ _ _ T1 (mkF m 234 #[.val (.long x0), .second, .val (.long x1), .second, .val (.int x2), .val (.long (230584300921369 : Int64)), .second, .val (.long u), .second, .val (.long t), .second, .val (.int (x2 &&& (3 : Int32))), .val (.long (own_hun u t)), .second, .val (.int (1 : Int32)), .val (.long ((u * (10000 : Int64)) - ((own_hun u t) * t))), .second] [(.int (1 : Int32))]) _ _ _
            refine own_go (fun _ => XS.goto X1.here hx rfl (pc0 := 234) (pc' := 238) rfl (hb hby at_234) (by decide) (by decide)) ?_
            show own_Fin _ _ _ _ T1 (mkF m 238 #[.val (.long x0), .second, .val (.long x1), .second, .val (.int x2), .val (.long (230584300921369 : Int64)), .second, .val (.long u), .second, .val (.long t), .second, .val (.int (x2 &&& (3 : Int32))), .val (.long (own_hun u t)), .second, .val (.int (1 : Int32)), .val (.long ((u * (10000 : Int64)) - ((own_hun u t) * t))), .second] [(.int (1 : Int32))]) _ _ _
            exact own_retZ X1 hx hnl (t := .boolean) hret (by simp) (hb hby at_238) (by decide) (by decide) ⟨rfl, N1⟩
      · refine own_go (fun _ => XS.ifYes X1.here hx rfl (pc0 := 125) (pc' := 148) rfl (hb hby at_125) rfl ((if0 _ _).trans (flt (mt (lw_gt _ _).mp h125)).2.2.2) (by decide) (by decide)) ?_
        show own_Fin _ _ _ _ T1 (mkF m 148 #[.val (.long x0), .second, .val (.long x1), .second, .val (.int x2), .val (.long (230584300921369 : Int64)), .second, .val (.long u), .second, .val (.long t), .second, .val (.int (x2 &&& (3 : Int32))), .val (.long (own_hun u t)), .second, .unset, .unset, .unset] []) _ _ _
        refine own_go (fun _ => XS.iconst X1.here hx rfl (hb hby at_148)) ?_
        show own_Fin _ _ _ _ T1 (mkF m 149 #[.val (.long x0), .second, .val (.long x1), .second, .val (.int x2), .val (.long (230584300921369 : Int64)), .second, .val (.long u), .second, .val (.long t), .second, .val (.int (x2 &&& (3 : Int32))), .val (.long (own_hun u t)), .second, .unset, .unset, .unset] [(.int (0 : Int32))]) _ _ _
        refine own_go (fun _ => XS.istore X1.here hx rfl (hb hby at_149) rfl (l' := #[.val (.long x0), .second, .val (.long x1), .second, .val (.int x2), .val (.long (230584300921369 : Int64)), .second, .val (.long u), .second, .val (.long t), .second, .val (.int (x2 &&& (3 : Int32))), .val (.long (own_hun u t)), .second, .val (.int (0 : Int32)), .unset, .unset]) rfl) ?_
        show own_Fin _ _ _ _ T1 (mkF m 151 #[.val (.long x0), .second, .val (.long x1), .second, .val (.int x2), .val (.long (230584300921369 : Int64)), .second, .val (.long u), .second, .val (.long t), .second, .val (.int (x2 &&& (3 : Int32))), .val (.long (own_hun u t)), .second, .val (.int (0 : Int32)), .unset, .unset] []) _ _ _
        refine own_go (fun _ => XS.iload X1.here hx rfl (hb hby at_151) rfl) ?_
        show own_Fin _ _ _ _ T1 (mkF m 153 #[.val (.long x0), .second, .val (.long x1), .second, .val (.int x2), .val (.long (230584300921369 : Int64)), .second, .val (.long u), .second, .val (.long t), .second, .val (.int (x2 &&& (3 : Int32))), .val (.long (own_hun u t)), .second, .val (.int (0 : Int32)), .unset, .unset] [(.int (0 : Int32))]) _ _ _
        refine own_go (fun _ => XS.ifNo X1.here hx rfl (hb hby at_153) rfl ((if0 _ _).trans (teq (show (0 : Int32) = (0 : Int32) from (by decide))).2)) ?_
        show own_Fin _ _ _ _ T1 (mkF m 156 #[.val (.long x0), .second, .val (.long x1), .second, .val (.int x2), .val (.long (230584300921369 : Int64)), .second, .val (.long u), .second, .val (.long t), .second, .val (.int (x2 &&& (3 : Int32))), .val (.long (own_hun u t)), .second, .val (.int (0 : Int32)), .unset, .unset] []) _ _ _
        refine own_go (fun _ => XS.lload X1.here hx rfl (hb hby at_156) rfl) ?_
        show own_Fin _ _ _ _ T1 (mkF m 158 #[.val (.long x0), .second, .val (.long x1), .second, .val (.int x2), .val (.long (230584300921369 : Int64)), .second, .val (.long u), .second, .val (.long t), .second, .val (.int (x2 &&& (3 : Int32))), .val (.long (own_hun u t)), .second, .val (.int (0 : Int32)), .unset, .unset] [(.long (own_hun u t))]) _ _ _
        refine own_go (fun _ => X1.ldc2J hx hown (mvT hZ (hw _ (List.mem_of_getElem? (i := 12) rfl))) rfl (hb hby at_158)) ?_
        show own_Fin _ _ _ _ T1 (mkF m 161 #[.val (.long x0), .second, .val (.long x1), .second, .val (.int x2), .val (.long (230584300921369 : Int64)), .second, .val (.long u), .second, .val (.long t), .second, .val (.int (x2 &&& (3 : Int32))), .val (.long (own_hun u t)), .second, .val (.int (0 : Int32)), .unset, .unset] [(.long (-1 : Int64)), (.long (own_hun u t))]) _ _ _
        refine own_go (fun _ => XS.lcmp X1.here hx rfl (hb hby at_161) rfl) ?_
        show own_Fin _ _ _ _ T1 (mkF m 162 #[.val (.long x0), .second, .val (.long x1), .second, .val (.int x2), .val (.long (230584300921369 : Int64)), .second, .val (.long u), .second, .val (.long t), .second, .val (.int (x2 &&& (3 : Int32))), .val (.long (own_hun u t)), .second, .val (.int (0 : Int32)), .unset, .unset] [(.int (lcmpW (own_hun u t) (-1 : Int64)))]) _ _ _
        refine own_go (fun _ => XS.ifNo X1.here hx rfl (hb hby at_162) rfl ((if0 _ _).trans (teq ((lw_eq _ _).mpr (show (own_hun u t) = (-1 : Int64) from by simp [own_hun, h118, h125]))).2)) ?_
        show own_Fin _ _ _ _ T1 (mkF m 165 #[.val (.long x0), .second, .val (.long x1), .second, .val (.int x2), .val (.long (230584300921369 : Int64)), .second, .val (.long u), .second, .val (.long t), .second, .val (.int (x2 &&& (3 : Int32))), .val (.long (own_hun u t)), .second, .val (.int (0 : Int32)), .unset, .unset] []) _ _ _
        refine own_go (fun _ => XS.iconst X1.here hx rfl (hb hby at_165)) ?_
        show own_Fin _ _ _ _ T1 (mkF m 166 #[.val (.long x0), .second, .val (.long x1), .second, .val (.int x2), .val (.long (230584300921369 : Int64)), .second, .val (.long u), .second, .val (.long t), .second, .val (.int (x2 &&& (3 : Int32))), .val (.long (own_hun u t)), .second, .val (.int (0 : Int32)), .unset, .unset] [(.int (1 : Int32))]) _ _ _
        refine own_go (fun _ => XS.goto X1.here hx rfl (pc0 := 166) (pc' := 170) rfl (hb hby at_166) (by decide) (by decide)) ?_
        show own_Fin _ _ _ _ T1 (mkF m 170 #[.val (.long x0), .second, .val (.long x1), .second, .val (.int x2), .val (.long (230584300921369 : Int64)), .second, .val (.long u), .second, .val (.long t), .second, .val (.int (x2 &&& (3 : Int32))), .val (.long (own_hun u t)), .second, .val (.int (0 : Int32)), .unset, .unset] [(.int (1 : Int32))]) _ _ _
        exact own_retZ X1 hx hnl (t := .boolean) hret (by simp) (hb hby at_170) (by decide) (by decide) ⟨rfl, N1⟩
  refine own_go (fun _ => X0.ldc2J hx hown (mvT hZ (hw _ (List.mem_of_getElem? (i := 0) rfl))) rfl (hb hby at_0)) ?_
  show own_Fin _ _ _ _ s₁ (mkF m 3 #[.val (.long x0), .second, .val (.long x1), .second, .val (.int x2), .unset, .unset, .unset, .unset, .unset, .unset, .unset, .unset, .unset, .unset, .unset, .unset] [(.long (230584300921369 : Int64))]) _ _ _
  refine own_go (fun _ => XS.lstore X0.here hx rfl (hb hby at_3) rfl (l' := #[.val (.long x0), .second, .val (.long x1), .second, .val (.int x2), .val (.long (230584300921369 : Int64)), .second, .unset, .unset, .unset, .unset, .unset, .unset, .unset, .unset, .unset, .unset]) rfl) ?_
  show own_Fin _ _ _ _ s₁ (mkF m 5 #[.val (.long x0), .second, .val (.long x1), .second, .val (.int x2), .val (.long (230584300921369 : Int64)), .second, .unset, .unset, .unset, .unset, .unset, .unset, .unset, .unset, .unset, .unset] []) _ _ _
  refine own_go (fun _ => XS.iload X0.here hx rfl (hb hby at_5) rfl) ?_
  show own_Fin _ _ _ _ s₁ (mkF m 7 #[.val (.long x0), .second, .val (.long x1), .second, .val (.int x2), .val (.long (230584300921369 : Int64)), .second, .unset, .unset, .unset, .unset, .unset, .unset, .unset, .unset, .unset, .unset] [(.int x2)]) _ _ _
  refine own_go (fun _ => XS.iconst X0.here hx rfl (hb hby at_7)) ?_
  show own_Fin _ _ _ _ s₁ (mkF m 8 #[.val (.long x0), .second, .val (.long x1), .second, .val (.int x2), .val (.long (230584300921369 : Int64)), .second, .unset, .unset, .unset, .unset, .unset, .unset, .unset, .unset, .unset, .unset] [(.int (3 : Int32)), (.int x2)]) _ _ _
  refine own_go (fun _ => XS.iand X0.here hx rfl (hb hby at_8) rfl) ?_
  show own_Fin _ _ _ _ s₁ (mkF m 9 #[.val (.long x0), .second, .val (.long x1), .second, .val (.int x2), .val (.long (230584300921369 : Int64)), .second, .unset, .unset, .unset, .unset, .unset, .unset, .unset, .unset, .unset, .unset] [(.int (x2 &&& (3 : Int32)))]) _ _ _
  refine own_go (fun _ => XS.istore X0.here hx rfl (hb hby at_9) rfl (l' := #[.val (.long x0), .second, .val (.long x1), .second, .val (.int x2), .val (.long (230584300921369 : Int64)), .second, .unset, .unset, .unset, .unset, .val (.int (x2 &&& (3 : Int32))), .unset, .unset, .unset, .unset, .unset]) rfl) ?_
  show own_Fin _ _ _ _ s₁ (mkF m 11 #[.val (.long x0), .second, .val (.long x1), .second, .val (.int x2), .val (.long (230584300921369 : Int64)), .second, .unset, .unset, .unset, .unset, .val (.int (x2 &&& (3 : Int32))), .unset, .unset, .unset, .unset, .unset] []) _ _ _
  refine own_go (fun _ => XS.iload X0.here hx rfl (hb hby at_11) rfl) ?_
  show own_Fin _ _ _ _ s₁ (mkF m 13 #[.val (.long x0), .second, .val (.long x1), .second, .val (.int x2), .val (.long (230584300921369 : Int64)), .second, .unset, .unset, .unset, .unset, .val (.int (x2 &&& (3 : Int32))), .unset, .unset, .unset, .unset, .unset] [(.int (x2 &&& (3 : Int32)))]) _ _ _
  by_cases h13 : (x2 &&& (3 : Int32)) = (0 : Int32)
  · refine own_go (fun _ => XS.ifNo X0.here hx rfl (hb hby at_13) rfl ((if0 _ _).trans (teq h13).2)) ?_
    show own_Fin _ _ _ _ s₁ (mkF m 16 #[.val (.long x0), .second, .val (.long x1), .second, .val (.int x2), .val (.long (230584300921369 : Int64)), .second, .unset, .unset, .unset, .unset, .val (.int (x2 &&& (3 : Int32))), .unset, .unset, .unset, .unset, .unset] []) _ _ _
    refine own_go (fun _ => XS.lloadN X0.here hx rfl (hb hby at_16) rfl) ?_
    show own_Fin _ _ _ _ s₁ (mkF m 17 #[.val (.long x0), .second, .val (.long x1), .second, .val (.int x2), .val (.long (230584300921369 : Int64)), .second, .unset, .unset, .unset, .unset, .val (.int (x2 &&& (3 : Int32))), .unset, .unset, .unset, .unset, .unset] [(.long x0)]) _ _ _
    refine own_go (fun _ => XS.lstore X0.here hx rfl (hb hby at_17) rfl (l' := #[.val (.long x0), .second, .val (.long x1), .second, .val (.int x2), .val (.long (230584300921369 : Int64)), .second, .val (.long x0), .second, .unset, .unset, .val (.int (x2 &&& (3 : Int32))), .unset, .unset, .unset, .unset, .unset]) rfl) ?_
    show own_Fin _ _ _ _ s₁ (mkF m 19 #[.val (.long x0), .second, .val (.long x1), .second, .val (.int x2), .val (.long (230584300921369 : Int64)), .second, .val (.long x0), .second, .unset, .unset, .val (.int (x2 &&& (3 : Int32))), .unset, .unset, .unset, .unset, .unset] []) _ _ _
    refine own_go (fun _ => XS.lloadN X0.here hx rfl (hb hby at_19) rfl) ?_
    show own_Fin _ _ _ _ s₁ (mkF m 20 #[.val (.long x0), .second, .val (.long x1), .second, .val (.int x2), .val (.long (230584300921369 : Int64)), .second, .val (.long x0), .second, .unset, .unset, .val (.int (x2 &&& (3 : Int32))), .unset, .unset, .unset, .unset, .unset] [(.long x1)]) _ _ _
    refine own_go (fun _ => XS.lstore X0.here hx rfl (hb hby at_20) rfl (l' := #[.val (.long x0), .second, .val (.long x1), .second, .val (.int x2), .val (.long (230584300921369 : Int64)), .second, .val (.long x0), .second, .val (.long x1), .second, .val (.int (x2 &&& (3 : Int32))), .unset, .unset, .unset, .unset, .unset]) rfl) ?_
    show own_Fin _ _ _ _ s₁ (mkF m 22 #[.val (.long x0), .second, .val (.long x1), .second, .val (.int x2), .val (.long (230584300921369 : Int64)), .second, .val (.long x0), .second, .val (.long x1), .second, .val (.int (x2 &&& (3 : Int32))), .unset, .unset, .unset, .unset, .unset] []) _ _ _
    refine own_go (fun _ => XS.goto X0.here hx rfl (pc0 := 22) (pc' := 105) rfl (hb hby at_22) (by decide) (by decide)) ?_
    show own_Fin _ _ _ _ s₁ (mkF m 105 #[.val (.long x0), .second, .val (.long x1), .second, .val (.int x2), .val (.long (230584300921369 : Int64)), .second, .val (.long x0), .second, .val (.long x1), .second, .val (.int (x2 &&& (3 : Int32))), .unset, .unset, .unset, .unset, .unset] []) _ _ _
    exact J105 x0 x1
  · refine own_go (fun _ => XS.ifYes X0.here hx rfl (pc0 := 13) (pc' := 25) rfl (hb hby at_13) rfl ((if0 _ _).trans (feq h13).2) (by decide) (by decide)) ?_
    show own_Fin _ _ _ _ s₁ (mkF m 25 #[.val (.long x0), .second, .val (.long x1), .second, .val (.int x2), .val (.long (230584300921369 : Int64)), .second, .unset, .unset, .unset, .unset, .val (.int (x2 &&& (3 : Int32))), .unset, .unset, .unset, .unset, .unset] []) _ _ _
    refine own_go (fun _ => XS.iload X0.here hx rfl (hb hby at_25) rfl) ?_
    show own_Fin _ _ _ _ s₁ (mkF m 27 #[.val (.long x0), .second, .val (.long x1), .second, .val (.int x2), .val (.long (230584300921369 : Int64)), .second, .unset, .unset, .unset, .unset, .val (.int (x2 &&& (3 : Int32))), .unset, .unset, .unset, .unset, .unset] [(.int (x2 &&& (3 : Int32)))]) _ _ _
    refine own_go (fun _ => XS.iconst X0.here hx rfl (hb hby at_27)) ?_
    show own_Fin _ _ _ _ s₁ (mkF m 28 #[.val (.long x0), .second, .val (.long x1), .second, .val (.int x2), .val (.long (230584300921369 : Int64)), .second, .unset, .unset, .unset, .unset, .val (.int (x2 &&& (3 : Int32))), .unset, .unset, .unset, .unset, .unset] [(.int (1 : Int32)), (.int (x2 &&& (3 : Int32)))]) _ _ _
    by_cases h28 : (x2 &&& (3 : Int32)) = (1 : Int32)
    · refine own_go (fun _ => XS.icmpNo X0.here hx rfl (hb hby at_28) rfl (teq h28).2) ?_
      show own_Fin _ _ _ _ s₁ (mkF m 31 #[.val (.long x0), .second, .val (.long x1), .second, .val (.int x2), .val (.long (230584300921369 : Int64)), .second, .unset, .unset, .unset, .unset, .val (.int (x2 &&& (3 : Int32))), .unset, .unset, .unset, .unset, .unset] []) _ _ _
      refine own_go (fun _ => XS.lloadN X0.here hx rfl (hb hby at_31) rfl) ?_
      show own_Fin _ _ _ _ s₁ (mkF m 32 #[.val (.long x0), .second, .val (.long x1), .second, .val (.int x2), .val (.long (230584300921369 : Int64)), .second, .unset, .unset, .unset, .unset, .val (.int (x2 &&& (3 : Int32))), .unset, .unset, .unset, .unset, .unset] [(.long x0)]) _ _ _
      refine own_go (fun _ => X0.ldc2J hx hown (mvT hZ (hw _ (List.mem_of_getElem? (i := 13) rfl))) rfl (hb hby at_32)) ?_
      show own_Fin _ _ _ _ s₁ (mkF m 35 #[.val (.long x0), .second, .val (.long x1), .second, .val (.int x2), .val (.long (230584300921369 : Int64)), .second, .unset, .unset, .unset, .unset, .val (.int (x2 &&& (3 : Int32))), .unset, .unset, .unset, .unset, .unset] [(.long (9223372036854775807 : Int64)), (.long x0)]) _ _ _
      refine own_go (fun _ => XS.land X0.here hx rfl (hb hby at_35) rfl) ?_
      show own_Fin _ _ _ _ s₁ (mkF m 36 #[.val (.long x0), .second, .val (.long x1), .second, .val (.int x2), .val (.long (230584300921369 : Int64)), .second, .unset, .unset, .unset, .unset, .val (.int (x2 &&& (3 : Int32))), .unset, .unset, .unset, .unset, .unset] [(.long (x0 &&& (9223372036854775807 : Int64)))]) _ _ _
      refine own_go (fun _ => XS.lload X0.here hx rfl (hb hby at_36) rfl) ?_
      show own_Fin _ _ _ _ s₁ (mkF m 38 #[.val (.long x0), .second, .val (.long x1), .second, .val (.int x2), .val (.long (230584300921369 : Int64)), .second, .unset, .unset, .unset, .unset, .val (.int (x2 &&& (3 : Int32))), .unset, .unset, .unset, .unset, .unset] [(.long (230584300921369 : Int64)), (.long (x0 &&& (9223372036854775807 : Int64)))]) _ _ _
      refine own_go (fun _ => XS.lconst X0.here hx rfl (hb hby at_38)) ?_
      show own_Fin _ _ _ _ s₁ (mkF m 39 #[.val (.long x0), .second, .val (.long x1), .second, .val (.int x2), .val (.long (230584300921369 : Int64)), .second, .unset, .unset, .unset, .unset, .val (.int (x2 &&& (3 : Int32))), .unset, .unset, .unset, .unset, .unset] [(.long (1 : Int64)), (.long (230584300921369 : Int64)), (.long (x0 &&& (9223372036854775807 : Int64)))]) _ _ _
      refine own_go (fun _ => XS.ladd X0.here hx rfl (hb hby at_39) rfl) ?_
      show own_Fin _ _ _ _ s₁ (mkF m 40 #[.val (.long x0), .second, .val (.long x1), .second, .val (.int x2), .val (.long (230584300921369 : Int64)), .second, .unset, .unset, .unset, .unset, .val (.int (x2 &&& (3 : Int32))), .unset, .unset, .unset, .unset, .unset] [(.long (230584300921370 : Int64)), (.long (x0 &&& (9223372036854775807 : Int64)))]) _ _ _
      refine own_go (fun _ => XS.lrem X0.here hx rfl (hb hby at_40) rfl (by decide)) ?_
      show own_Fin _ _ _ _ s₁ (mkF m 41 #[.val (.long x0), .second, .val (.long x1), .second, .val (.int x2), .val (.long (230584300921369 : Int64)), .second, .unset, .unset, .unset, .unset, .val (.int (x2 &&& (3 : Int32))), .unset, .unset, .unset, .unset, .unset] [(.long ((x0 &&& (9223372036854775807 : Int64)) - ((x0 &&& (9223372036854775807 : Int64)) / (230584300921370 : Int64)) * (230584300921370 : Int64)))]) _ _ _
      refine own_go (fun _ => XS.lstore X0.here hx rfl (hb hby at_41) rfl (l' := #[.val (.long x0), .second, .val (.long x1), .second, .val (.int x2), .val (.long (230584300921369 : Int64)), .second, .val (.long ((x0 &&& (9223372036854775807 : Int64)) - ((x0 &&& (9223372036854775807 : Int64)) / (230584300921370 : Int64)) * (230584300921370 : Int64))), .second, .unset, .unset, .val (.int (x2 &&& (3 : Int32))), .unset, .unset, .unset, .unset, .unset]) rfl) ?_
      show own_Fin _ _ _ _ s₁ (mkF m 43 #[.val (.long x0), .second, .val (.long x1), .second, .val (.int x2), .val (.long (230584300921369 : Int64)), .second, .val (.long ((x0 &&& (9223372036854775807 : Int64)) - ((x0 &&& (9223372036854775807 : Int64)) / (230584300921370 : Int64)) * (230584300921370 : Int64))), .second, .unset, .unset, .val (.int (x2 &&& (3 : Int32))), .unset, .unset, .unset, .unset, .unset] []) _ _ _
      refine own_go (fun _ => XS.lloadN X0.here hx rfl (hb hby at_43) rfl) ?_
      show own_Fin _ _ _ _ s₁ (mkF m 44 #[.val (.long x0), .second, .val (.long x1), .second, .val (.int x2), .val (.long (230584300921369 : Int64)), .second, .val (.long ((x0 &&& (9223372036854775807 : Int64)) - ((x0 &&& (9223372036854775807 : Int64)) / (230584300921370 : Int64)) * (230584300921370 : Int64))), .second, .unset, .unset, .val (.int (x2 &&& (3 : Int32))), .unset, .unset, .unset, .unset, .unset] [(.long x1)]) _ _ _
      refine own_go (fun _ => X0.ldc2J hx hown (mvT hZ (hw _ (List.mem_of_getElem? (i := 13) rfl))) rfl (hb hby at_44)) ?_
      show own_Fin _ _ _ _ s₁ (mkF m 47 #[.val (.long x0), .second, .val (.long x1), .second, .val (.int x2), .val (.long (230584300921369 : Int64)), .second, .val (.long ((x0 &&& (9223372036854775807 : Int64)) - ((x0 &&& (9223372036854775807 : Int64)) / (230584300921370 : Int64)) * (230584300921370 : Int64))), .second, .unset, .unset, .val (.int (x2 &&& (3 : Int32))), .unset, .unset, .unset, .unset, .unset] [(.long (9223372036854775807 : Int64)), (.long x1)]) _ _ _
      refine own_go (fun _ => XS.land X0.here hx rfl (hb hby at_47) rfl) ?_
      show own_Fin _ _ _ _ s₁ (mkF m 48 #[.val (.long x0), .second, .val (.long x1), .second, .val (.int x2), .val (.long (230584300921369 : Int64)), .second, .val (.long ((x0 &&& (9223372036854775807 : Int64)) - ((x0 &&& (9223372036854775807 : Int64)) / (230584300921370 : Int64)) * (230584300921370 : Int64))), .second, .unset, .unset, .val (.int (x2 &&& (3 : Int32))), .unset, .unset, .unset, .unset, .unset] [(.long (x1 &&& (9223372036854775807 : Int64)))]) _ _ _
      refine own_go (fun _ => XS.lload X0.here hx rfl (hb hby at_48) rfl) ?_
      show own_Fin _ _ _ _ s₁ (mkF m 50 #[.val (.long x0), .second, .val (.long x1), .second, .val (.int x2), .val (.long (230584300921369 : Int64)), .second, .val (.long ((x0 &&& (9223372036854775807 : Int64)) - ((x0 &&& (9223372036854775807 : Int64)) / (230584300921370 : Int64)) * (230584300921370 : Int64))), .second, .unset, .unset, .val (.int (x2 &&& (3 : Int32))), .unset, .unset, .unset, .unset, .unset] [(.long (230584300921369 : Int64)), (.long (x1 &&& (9223372036854775807 : Int64)))]) _ _ _
      refine own_go (fun _ => XS.lconst X0.here hx rfl (hb hby at_50)) ?_
      show own_Fin _ _ _ _ s₁ (mkF m 51 #[.val (.long x0), .second, .val (.long x1), .second, .val (.int x2), .val (.long (230584300921369 : Int64)), .second, .val (.long ((x0 &&& (9223372036854775807 : Int64)) - ((x0 &&& (9223372036854775807 : Int64)) / (230584300921370 : Int64)) * (230584300921370 : Int64))), .second, .unset, .unset, .val (.int (x2 &&& (3 : Int32))), .unset, .unset, .unset, .unset, .unset] [(.long (1 : Int64)), (.long (230584300921369 : Int64)), (.long (x1 &&& (9223372036854775807 : Int64)))]) _ _ _
      refine own_go (fun _ => XS.ladd X0.here hx rfl (hb hby at_51) rfl) ?_
      show own_Fin _ _ _ _ s₁ (mkF m 52 #[.val (.long x0), .second, .val (.long x1), .second, .val (.int x2), .val (.long (230584300921369 : Int64)), .second, .val (.long ((x0 &&& (9223372036854775807 : Int64)) - ((x0 &&& (9223372036854775807 : Int64)) / (230584300921370 : Int64)) * (230584300921370 : Int64))), .second, .unset, .unset, .val (.int (x2 &&& (3 : Int32))), .unset, .unset, .unset, .unset, .unset] [(.long (230584300921370 : Int64)), (.long (x1 &&& (9223372036854775807 : Int64)))]) _ _ _
      refine own_go (fun _ => XS.lrem X0.here hx rfl (hb hby at_52) rfl (by decide)) ?_
      show own_Fin _ _ _ _ s₁ (mkF m 53 #[.val (.long x0), .second, .val (.long x1), .second, .val (.int x2), .val (.long (230584300921369 : Int64)), .second, .val (.long ((x0 &&& (9223372036854775807 : Int64)) - ((x0 &&& (9223372036854775807 : Int64)) / (230584300921370 : Int64)) * (230584300921370 : Int64))), .second, .unset, .unset, .val (.int (x2 &&& (3 : Int32))), .unset, .unset, .unset, .unset, .unset] [(.long ((x1 &&& (9223372036854775807 : Int64)) - ((x1 &&& (9223372036854775807 : Int64)) / (230584300921370 : Int64)) * (230584300921370 : Int64)))]) _ _ _
      refine own_go (fun _ => XS.lstore X0.here hx rfl (hb hby at_53) rfl (l' := #[.val (.long x0), .second, .val (.long x1), .second, .val (.int x2), .val (.long (230584300921369 : Int64)), .second, .val (.long ((x0 &&& (9223372036854775807 : Int64)) - ((x0 &&& (9223372036854775807 : Int64)) / (230584300921370 : Int64)) * (230584300921370 : Int64))), .second, .val (.long ((x1 &&& (9223372036854775807 : Int64)) - ((x1 &&& (9223372036854775807 : Int64)) / (230584300921370 : Int64)) * (230584300921370 : Int64))), .second, .val (.int (x2 &&& (3 : Int32))), .unset, .unset, .unset, .unset, .unset]) rfl) ?_
      show own_Fin _ _ _ _ s₁ (mkF m 55 #[.val (.long x0), .second, .val (.long x1), .second, .val (.int x2), .val (.long (230584300921369 : Int64)), .second, .val (.long ((x0 &&& (9223372036854775807 : Int64)) - ((x0 &&& (9223372036854775807 : Int64)) / (230584300921370 : Int64)) * (230584300921370 : Int64))), .second, .val (.long ((x1 &&& (9223372036854775807 : Int64)) - ((x1 &&& (9223372036854775807 : Int64)) / (230584300921370 : Int64)) * (230584300921370 : Int64))), .second, .val (.int (x2 &&& (3 : Int32))), .unset, .unset, .unset, .unset, .unset] []) _ _ _
      refine own_go (fun _ => XS.goto X0.here hx rfl (pc0 := 55) (pc' := 105) rfl (hb hby at_55) (by decide) (by decide)) ?_
      show own_Fin _ _ _ _ s₁ (mkF m 105 #[.val (.long x0), .second, .val (.long x1), .second, .val (.int x2), .val (.long (230584300921369 : Int64)), .second, .val (.long ((x0 &&& (9223372036854775807 : Int64)) - ((x0 &&& (9223372036854775807 : Int64)) / (230584300921370 : Int64)) * (230584300921370 : Int64))), .second, .val (.long ((x1 &&& (9223372036854775807 : Int64)) - ((x1 &&& (9223372036854775807 : Int64)) / (230584300921370 : Int64)) * (230584300921370 : Int64))), .second, .val (.int (x2 &&& (3 : Int32))), .unset, .unset, .unset, .unset, .unset] []) _ _ _
      exact J105 ((x0 &&& (9223372036854775807 : Int64)) - ((x0 &&& (9223372036854775807 : Int64)) / (230584300921370 : Int64)) * (230584300921370 : Int64)) ((x1 &&& (9223372036854775807 : Int64)) - ((x1 &&& (9223372036854775807 : Int64)) / (230584300921370 : Int64)) * (230584300921370 : Int64))
    · refine own_go (fun _ => XS.icmpYes X0.here hx rfl (pc0 := 28) (pc' := 58) rfl (hb hby at_28) rfl (feq h28).2 (by decide) (by decide)) ?_
      show own_Fin _ _ _ _ s₁ (mkF m 58 #[.val (.long x0), .second, .val (.long x1), .second, .val (.int x2), .val (.long (230584300921369 : Int64)), .second, .unset, .unset, .unset, .unset, .val (.int (x2 &&& (3 : Int32))), .unset, .unset, .unset, .unset, .unset] []) _ _ _
      refine own_go (fun _ => XS.iload X0.here hx rfl (hb hby at_58) rfl) ?_
      show own_Fin _ _ _ _ s₁ (mkF m 60 #[.val (.long x0), .second, .val (.long x1), .second, .val (.int x2), .val (.long (230584300921369 : Int64)), .second, .unset, .unset, .unset, .unset, .val (.int (x2 &&& (3 : Int32))), .unset, .unset, .unset, .unset, .unset] [(.int (x2 &&& (3 : Int32)))]) _ _ _
      refine own_go (fun _ => XS.iconst X0.here hx rfl (hb hby at_60)) ?_
      show own_Fin _ _ _ _ s₁ (mkF m 61 #[.val (.long x0), .second, .val (.long x1), .second, .val (.int x2), .val (.long (230584300921369 : Int64)), .second, .unset, .unset, .unset, .unset, .val (.int (x2 &&& (3 : Int32))), .unset, .unset, .unset, .unset, .unset] [(.int (2 : Int32)), (.int (x2 &&& (3 : Int32)))]) _ _ _
      by_cases h61 : (x2 &&& (3 : Int32)) = (2 : Int32)
      · refine own_go (fun _ => XS.icmpNo X0.here hx rfl (hb hby at_61) rfl (teq h61).2) ?_
        show own_Fin _ _ _ _ s₁ (mkF m 64 #[.val (.long x0), .second, .val (.long x1), .second, .val (.int x2), .val (.long (230584300921369 : Int64)), .second, .unset, .unset, .unset, .unset, .val (.int (x2 &&& (3 : Int32))), .unset, .unset, .unset, .unset, .unset] []) _ _ _
        refine own_go (fun _ => XS.lloadN X0.here hx rfl (hb hby at_64) rfl) ?_
        show own_Fin _ _ _ _ s₁ (mkF m 65 #[.val (.long x0), .second, .val (.long x1), .second, .val (.int x2), .val (.long (230584300921369 : Int64)), .second, .unset, .unset, .unset, .unset, .val (.int (x2 &&& (3 : Int32))), .unset, .unset, .unset, .unset, .unset] [(.long x0)]) _ _ _
        refine own_go (fun _ => X0.ldc2J hx hown (mvT hZ (hw _ (List.mem_of_getElem? (i := 14) rfl))) rfl (hb hby at_65)) ?_
        show own_Fin _ _ _ _ s₁ (mkF m 68 #[.val (.long x0), .second, .val (.long x1), .second, .val (.int x2), .val (.long (230584300921369 : Int64)), .second, .unset, .unset, .unset, .unset, .val (.int (x2 &&& (3 : Int32))), .unset, .unset, .unset, .unset, .unset] [(.long (65535 : Int64)), (.long x0)]) _ _ _
        refine own_go (fun _ => XS.land X0.here hx rfl (hb hby at_68) rfl) ?_
        show own_Fin _ _ _ _ s₁ (mkF m 69 #[.val (.long x0), .second, .val (.long x1), .second, .val (.int x2), .val (.long (230584300921369 : Int64)), .second, .unset, .unset, .unset, .unset, .val (.int (x2 &&& (3 : Int32))), .unset, .unset, .unset, .unset, .unset] [(.long (x0 &&& (65535 : Int64)))]) _ _ _
        refine own_go (fun _ => XS.lstore X0.here hx rfl (hb hby at_69) rfl (l' := #[.val (.long x0), .second, .val (.long x1), .second, .val (.int x2), .val (.long (230584300921369 : Int64)), .second, .val (.long (x0 &&& (65535 : Int64))), .second, .unset, .unset, .val (.int (x2 &&& (3 : Int32))), .unset, .unset, .unset, .unset, .unset]) rfl) ?_
        show own_Fin _ _ _ _ s₁ (mkF m 71 #[.val (.long x0), .second, .val (.long x1), .second, .val (.int x2), .val (.long (230584300921369 : Int64)), .second, .val (.long (x0 &&& (65535 : Int64))), .second, .unset, .unset, .val (.int (x2 &&& (3 : Int32))), .unset, .unset, .unset, .unset, .unset] []) _ _ _
        refine own_go (fun _ => XS.lloadN X0.here hx rfl (hb hby at_71) rfl) ?_
        show own_Fin _ _ _ _ s₁ (mkF m 72 #[.val (.long x0), .second, .val (.long x1), .second, .val (.int x2), .val (.long (230584300921369 : Int64)), .second, .val (.long (x0 &&& (65535 : Int64))), .second, .unset, .unset, .val (.int (x2 &&& (3 : Int32))), .unset, .unset, .unset, .unset, .unset] [(.long x1)]) _ _ _
        refine own_go (fun _ => X0.ldc2J hx hown (mvT hZ (hw _ (List.mem_of_getElem? (i := 14) rfl))) rfl (hb hby at_72)) ?_
        show own_Fin _ _ _ _ s₁ (mkF m 75 #[.val (.long x0), .second, .val (.long x1), .second, .val (.int x2), .val (.long (230584300921369 : Int64)), .second, .val (.long (x0 &&& (65535 : Int64))), .second, .unset, .unset, .val (.int (x2 &&& (3 : Int32))), .unset, .unset, .unset, .unset, .unset] [(.long (65535 : Int64)), (.long x1)]) _ _ _
        refine own_go (fun _ => XS.land X0.here hx rfl (hb hby at_75) rfl) ?_
        show own_Fin _ _ _ _ s₁ (mkF m 76 #[.val (.long x0), .second, .val (.long x1), .second, .val (.int x2), .val (.long (230584300921369 : Int64)), .second, .val (.long (x0 &&& (65535 : Int64))), .second, .unset, .unset, .val (.int (x2 &&& (3 : Int32))), .unset, .unset, .unset, .unset, .unset] [(.long (x1 &&& (65535 : Int64)))]) _ _ _
        refine own_go (fun _ => XS.lstore X0.here hx rfl (hb hby at_76) rfl (l' := #[.val (.long x0), .second, .val (.long x1), .second, .val (.int x2), .val (.long (230584300921369 : Int64)), .second, .val (.long (x0 &&& (65535 : Int64))), .second, .val (.long (x1 &&& (65535 : Int64))), .second, .val (.int (x2 &&& (3 : Int32))), .unset, .unset, .unset, .unset, .unset]) rfl) ?_
        show own_Fin _ _ _ _ s₁ (mkF m 78 #[.val (.long x0), .second, .val (.long x1), .second, .val (.int x2), .val (.long (230584300921369 : Int64)), .second, .val (.long (x0 &&& (65535 : Int64))), .second, .val (.long (x1 &&& (65535 : Int64))), .second, .val (.int (x2 &&& (3 : Int32))), .unset, .unset, .unset, .unset, .unset] []) _ _ _
        refine own_go (fun _ => XS.goto X0.here hx rfl (pc0 := 78) (pc' := 105) rfl (hb hby at_78) (by decide) (by decide)) ?_
        show own_Fin _ _ _ _ s₁ (mkF m 105 #[.val (.long x0), .second, .val (.long x1), .second, .val (.int x2), .val (.long (230584300921369 : Int64)), .second, .val (.long (x0 &&& (65535 : Int64))), .second, .val (.long (x1 &&& (65535 : Int64))), .second, .val (.int (x2 &&& (3 : Int32))), .unset, .unset, .unset, .unset, .unset] []) _ _ _
        exact J105 (x0 &&& (65535 : Int64)) (x1 &&& (65535 : Int64))
      · refine own_go (fun _ => XS.icmpYes X0.here hx rfl (pc0 := 61) (pc' := 81) rfl (hb hby at_61) rfl (feq h61).2 (by decide) (by decide)) ?_
        show own_Fin _ _ _ _ s₁ (mkF m 81 #[.val (.long x0), .second, .val (.long x1), .second, .val (.int x2), .val (.long (230584300921369 : Int64)), .second, .unset, .unset, .unset, .unset, .val (.int (x2 &&& (3 : Int32))), .unset, .unset, .unset, .unset, .unset] []) _ _ _
        refine own_go (fun _ => XS.lload X0.here hx rfl (hb hby at_81) rfl) ?_
        show own_Fin _ _ _ _ s₁ (mkF m 83 #[.val (.long x0), .second, .val (.long x1), .second, .val (.int x2), .val (.long (230584300921369 : Int64)), .second, .unset, .unset, .unset, .unset, .val (.int (x2 &&& (3 : Int32))), .unset, .unset, .unset, .unset, .unset] [(.long (230584300921369 : Int64))]) _ _ _
        refine own_go (fun _ => XS.lconst X0.here hx rfl (hb hby at_83)) ?_
        show own_Fin _ _ _ _ s₁ (mkF m 84 #[.val (.long x0), .second, .val (.long x1), .second, .val (.int x2), .val (.long (230584300921369 : Int64)), .second, .unset, .unset, .unset, .unset, .val (.int (x2 &&& (3 : Int32))), .unset, .unset, .unset, .unset, .unset] [(.long (1 : Int64)), (.long (230584300921369 : Int64))]) _ _ _
        refine own_go (fun _ => XS.lsub X0.here hx rfl (hb hby at_84) rfl) ?_
        show own_Fin _ _ _ _ s₁ (mkF m 85 #[.val (.long x0), .second, .val (.long x1), .second, .val (.int x2), .val (.long (230584300921369 : Int64)), .second, .unset, .unset, .unset, .unset, .val (.int (x2 &&& (3 : Int32))), .unset, .unset, .unset, .unset, .unset] [(.long (230584300921368 : Int64))]) _ _ _
        refine own_go (fun _ => XS.lloadN X0.here hx rfl (hb hby at_85) rfl) ?_
        show own_Fin _ _ _ _ s₁ (mkF m 86 #[.val (.long x0), .second, .val (.long x1), .second, .val (.int x2), .val (.long (230584300921369 : Int64)), .second, .unset, .unset, .unset, .unset, .val (.int (x2 &&& (3 : Int32))), .unset, .unset, .unset, .unset, .unset] [(.long x0), (.long (230584300921368 : Int64))]) _ _ _
        refine own_go (fun _ => X0.ldc2J hx hown (mvT hZ (hw _ (List.mem_of_getElem? (i := 11) rfl))) rfl (hb hby at_86)) ?_
        show own_Fin _ _ _ _ s₁ (mkF m 89 #[.val (.long x0), .second, .val (.long x1), .second, .val (.int x2), .val (.long (230584300921369 : Int64)), .second, .unset, .unset, .unset, .unset, .val (.int (x2 &&& (3 : Int32))), .unset, .unset, .unset, .unset, .unset] [(.long (3 : Int64)), (.long x0), (.long (230584300921368 : Int64))]) _ _ _
        refine own_go (fun _ => XS.land X0.here hx rfl (hb hby at_89) rfl) ?_
        show own_Fin _ _ _ _ s₁ (mkF m 90 #[.val (.long x0), .second, .val (.long x1), .second, .val (.int x2), .val (.long (230584300921369 : Int64)), .second, .unset, .unset, .unset, .unset, .val (.int (x2 &&& (3 : Int32))), .unset, .unset, .unset, .unset, .unset] [(.long (x0 &&& (3 : Int64))), (.long (230584300921368 : Int64))]) _ _ _
        refine own_go (fun _ => XS.ladd X0.here hx rfl (hb hby at_90) rfl) ?_
        show own_Fin _ _ _ _ s₁ (mkF m 91 #[.val (.long x0), .second, .val (.long x1), .second, .val (.int x2), .val (.long (230584300921369 : Int64)), .second, .unset, .unset, .unset, .unset, .val (.int (x2 &&& (3 : Int32))), .unset, .unset, .unset, .unset, .unset] [(.long ((230584300921368 : Int64) + (x0 &&& (3 : Int64))))]) _ _ _
        refine own_go (fun _ => XS.lstore X0.here hx rfl (hb hby at_91) rfl (l' := #[.val (.long x0), .second, .val (.long x1), .second, .val (.int x2), .val (.long (230584300921369 : Int64)), .second, .val (.long ((230584300921368 : Int64) + (x0 &&& (3 : Int64)))), .second, .unset, .unset, .val (.int (x2 &&& (3 : Int32))), .unset, .unset, .unset, .unset, .unset]) rfl) ?_
        show own_Fin _ _ _ _ s₁ (mkF m 93 #[.val (.long x0), .second, .val (.long x1), .second, .val (.int x2), .val (.long (230584300921369 : Int64)), .second, .val (.long ((230584300921368 : Int64) + (x0 &&& (3 : Int64)))), .second, .unset, .unset, .val (.int (x2 &&& (3 : Int32))), .unset, .unset, .unset, .unset, .unset] []) _ _ _
        refine own_go (fun _ => XS.lload X0.here hx rfl (hb hby at_93) rfl) ?_
        show own_Fin _ _ _ _ s₁ (mkF m 95 #[.val (.long x0), .second, .val (.long x1), .second, .val (.int x2), .val (.long (230584300921369 : Int64)), .second, .val (.long ((230584300921368 : Int64) + (x0 &&& (3 : Int64)))), .second, .unset, .unset, .val (.int (x2 &&& (3 : Int32))), .unset, .unset, .unset, .unset, .unset] [(.long (230584300921369 : Int64))]) _ _ _
        refine own_go (fun _ => XS.lconst X0.here hx rfl (hb hby at_95)) ?_
        show own_Fin _ _ _ _ s₁ (mkF m 96 #[.val (.long x0), .second, .val (.long x1), .second, .val (.int x2), .val (.long (230584300921369 : Int64)), .second, .val (.long ((230584300921368 : Int64) + (x0 &&& (3 : Int64)))), .second, .unset, .unset, .val (.int (x2 &&& (3 : Int32))), .unset, .unset, .unset, .unset, .unset] [(.long (1 : Int64)), (.long (230584300921369 : Int64))]) _ _ _
        refine own_go (fun _ => XS.lsub X0.here hx rfl (hb hby at_96) rfl) ?_
        show own_Fin _ _ _ _ s₁ (mkF m 97 #[.val (.long x0), .second, .val (.long x1), .second, .val (.int x2), .val (.long (230584300921369 : Int64)), .second, .val (.long ((230584300921368 : Int64) + (x0 &&& (3 : Int64)))), .second, .unset, .unset, .val (.int (x2 &&& (3 : Int32))), .unset, .unset, .unset, .unset, .unset] [(.long (230584300921368 : Int64))]) _ _ _
        refine own_go (fun _ => XS.lloadN X0.here hx rfl (hb hby at_97) rfl) ?_
        show own_Fin _ _ _ _ s₁ (mkF m 98 #[.val (.long x0), .second, .val (.long x1), .second, .val (.int x2), .val (.long (230584300921369 : Int64)), .second, .val (.long ((230584300921368 : Int64) + (x0 &&& (3 : Int64)))), .second, .unset, .unset, .val (.int (x2 &&& (3 : Int32))), .unset, .unset, .unset, .unset, .unset] [(.long x1), (.long (230584300921368 : Int64))]) _ _ _
        refine own_go (fun _ => X0.ldc2J hx hown (mvT hZ (hw _ (List.mem_of_getElem? (i := 11) rfl))) rfl (hb hby at_98)) ?_
        show own_Fin _ _ _ _ s₁ (mkF m 101 #[.val (.long x0), .second, .val (.long x1), .second, .val (.int x2), .val (.long (230584300921369 : Int64)), .second, .val (.long ((230584300921368 : Int64) + (x0 &&& (3 : Int64)))), .second, .unset, .unset, .val (.int (x2 &&& (3 : Int32))), .unset, .unset, .unset, .unset, .unset] [(.long (3 : Int64)), (.long x1), (.long (230584300921368 : Int64))]) _ _ _
        refine own_go (fun _ => XS.land X0.here hx rfl (hb hby at_101) rfl) ?_
        show own_Fin _ _ _ _ s₁ (mkF m 102 #[.val (.long x0), .second, .val (.long x1), .second, .val (.int x2), .val (.long (230584300921369 : Int64)), .second, .val (.long ((230584300921368 : Int64) + (x0 &&& (3 : Int64)))), .second, .unset, .unset, .val (.int (x2 &&& (3 : Int32))), .unset, .unset, .unset, .unset, .unset] [(.long (x1 &&& (3 : Int64))), (.long (230584300921368 : Int64))]) _ _ _
        refine own_go (fun _ => XS.ladd X0.here hx rfl (hb hby at_102) rfl) ?_
        show own_Fin _ _ _ _ s₁ (mkF m 103 #[.val (.long x0), .second, .val (.long x1), .second, .val (.int x2), .val (.long (230584300921369 : Int64)), .second, .val (.long ((230584300921368 : Int64) + (x0 &&& (3 : Int64)))), .second, .unset, .unset, .val (.int (x2 &&& (3 : Int32))), .unset, .unset, .unset, .unset, .unset] [(.long ((230584300921368 : Int64) + (x1 &&& (3 : Int64))))]) _ _ _
        refine own_go (fun _ => XS.lstore X0.here hx rfl (hb hby at_103) rfl (l' := #[.val (.long x0), .second, .val (.long x1), .second, .val (.int x2), .val (.long (230584300921369 : Int64)), .second, .val (.long ((230584300921368 : Int64) + (x0 &&& (3 : Int64)))), .second, .val (.long ((230584300921368 : Int64) + (x1 &&& (3 : Int64)))), .second, .val (.int (x2 &&& (3 : Int32))), .unset, .unset, .unset, .unset, .unset]) rfl) ?_
        show own_Fin _ _ _ _ s₁ (mkF m 105 #[.val (.long x0), .second, .val (.long x1), .second, .val (.int x2), .val (.long (230584300921369 : Int64)), .second, .val (.long ((230584300921368 : Int64) + (x0 &&& (3 : Int64)))), .second, .val (.long ((230584300921368 : Int64) + (x1 &&& (3 : Int64)))), .second, .val (.int (x2 &&& (3 : Int32))), .unset, .unset, .unset, .unset, .unset] []) _ _ _
        exact J105 ((230584300921368 : Int64) + (x0 &&& (3 : Int64))) ((230584300921368 : Int64) + (x1 &&& (3 : Int64)))

set_option maxRecDepth 65536 in
set_option maxHeartbeats 40000000 in
theorem comes_1 {Post : Tables → Env → Array Value → State → Outcome → State → Prop} (hpost : ∀ tb e args s v u, (limb_1_1.after args s (.returned v) u = true ∧ limb_1_2.after args s (.returned v) u = true) → FrameEnd s (.returned v) u (Jvm.fieldLocs frame_1_writes args s ++ Jvm.arrayLocs frame_1_arrays args s ++ Jvm.staticLocs frame_1_statics s) 0 0 → Post tb e args s (.returned v) u) :
    ArmFor flags0 classFile x code maxLocals ret World_1 tables_1 room_1 Calls_1 rest_1 Pre_1 Post := by
  intro l hfl _ _ p e ha hc hk s m args below hf hA hF happ hP
  obtain ⟨hcalls, hrest, hpre⟩ := hP
  obtain ⟨-, -, -, hnamed, -, -, -, hat⟩ := (Spec.applies_iff hf).mp happ
  obtain ⟨hg, hn⟩ := and_e (Cond.before_iff.mp (show (Jvm.Cond.and given_1 narrow_1).before args s = true from hpre))
  obtain ⟨gg1, gg2⟩ := and_e hg
  obtain ⟨gg3, gg4⟩ := and_e gg2
  obtain ⟨gg5, gg6⟩ := and_e gg4
  obtain ⟨w0, w1, w2, rfl⟩ : ∃ w0 w1 w2 : Value, args = #[w0, w1, w2] := by
    have hs : args.size = 3 := by simpa [Cond.value, given_1] using gg1
    obtain ⟨L⟩ := args
    match L, hs with
    | [w0, w1, w2], _ => exact ⟨w0, w1, w2, rfl⟩
  have hw := fun d (hd : d ∈ tables_1) => atoms_spec (ws := Jvm.Cond.code x code maxLocals ret :: tables_1) hat d (List.mem_cons_of_mem _ hd)
  obtain ⟨i0, ei0⟩ := isL_v gg3
  obtain rfl : w0 = (.long i0) := Option.some.inj ei0
  obtain ⟨i1, ei1⟩ := isL_v gg5
  obtain rfl : w1 = (.long i1) := Option.some.inj ei1
  obtain ⟨i2, ei2⟩ := is_v gg6
  obtain rfl : w2 = (.int i2) := Option.some.inj ei2
  obtain ⟨n, o, h1, h2, h3, _, L, rfl, ⟨rfl, N⟩, hq⟩ := rm0 l s _ hw tables_1 i0 i1 i2 s.heap s.heap.size (Nat.le_refl _) p e ha hc hk s m _ below hf ((Spec.applies_iff_loose hf).mp happ).1 ⟨rfl, State.Warmed39.refl s, rfl⟩ trivial
  refine ⟨n, _, h1, h2, h3, hpost _ _ _ _ _ _ ⟨Cond.after_iff.mpr rfl, Cond.after_iff.mpr (eq_i res_at (Term.int_eval (1)) rfl)⟩ ⟨hq.1, hq.2.1, (hq.2.2.sift fun y hy => Or.inr (N y hy)).mono (by decide) (by decide)⟩⟩
theorem main_1_1 : Claimed_1_1 := comes_1 fun _ _ _ _ _ _ h hF => ⟨h.1, hF⟩
theorem main_1_2 : Claimed_1_2 := comes_1 fun _ _ _ _ _ _ h hF => ⟨h.2, hF⟩
end Jvm.Pilot.@@N@@
namespace Jvm.Pilot.@@N@@
open Jvm Jvm.ClassFile Sem Op Lib Jvm.Free Jvm.Stand Jvm.Pilot.@@N@@.Jvm.D
/-! MADE BY PROGRAM (witnessworld.py) out of the Statement's table words and the real class files: 9 classes; the members and pool entries that the words name. The judged class is class 1, her method 1. -/
namespace start1
open Jvm.ClassFile
def u (s : String) : CpInfo := .utf8 (stringToUtf16 s)
/-- a pool by its gaps: so many unusable entries, then the entry; so many at the end -/
def gap : Nat → List CpInfo → List CpInfo
  | 0, r => r
  | n + 1, r => .unusable :: gap n r
def poolList (es : List (Nat × CpInfo)) (last : Nat) : List CpInfo := es.foldr (fun e r => gap e.1 (e.2 :: r)) (gap last [])
def pool (es : List (Nat × CpInfo)) (last : Nat) : Array CpInfo := ⟨poolList es last⟩
def fileOf (pool : Array CpInfo) (this : Nat) (attrs : Array Attribute := #[]) (ms : Array MethodInfo := #[]) (fl : Nat := 33) (sup : Nat := 0) (ifs : Array Nat := #[]) (fds : Array FieldInfo := #[]) : ClassFile where
  minorVersion := 0
  majorVersion := 65
  constantPool := pool
  accessFlags := fl
  thisClass := this
  superClass := sup
  interfaces := ifs
  fields := fds
  methods := ms
  attributes := attrs
def plain (name : String) (sup : Option ClassId) : Class where
  name := name
  kind := .ordinary
  loader := none
  accessFlags := 33
  super := sup
  interfaces := #[]
  cf := none
  fields := #[]
  methods := #[]
  instanceTypes := #[]
  staticTypes := #[]
  resolved := #[]
  callSites := []
  init := .initialized
  statics := none
  mirror := none

def pool0 : Array CpInfo := pool [(5, u "<init>"), (0, u "()V"), (1, .class_ 10), (1, u "java/lang/Object")] 113

def k0m0 : Method := { name := "<init>", desc := "()V", sig := { parameters := [], returnType := none }, accessFlags := 1, code := none }
/-- java/lang/Object -/
def k0 : Class := { plain "java/lang/Object" none with
  accessFlags := 33
  interfaces := #[]
  cf := some (fileOf pool0 8 #[] #[{ accessFlags := 1, nameIndex := 5, descriptorIndex := 6, attributes := #[] }] 33 0 #[] #[])
  fields := #[]
  methods := #[k0m0]
  instanceTypes := #[]
  staticTypes := #[]
  resolved := Array.replicate 124 none
  statics := none }

def pool1 : Array CpInfo := pool [(2, .class_ 4), (1, u "java/lang/Object"), (0, u "<init>"), (0, u "()V"), (2, .long 230584300921369), (1, .long 9223372036854775807), (1, .long 65535), (1, .long 3), (1, .methodref 18 19), (0, .class_ 20), (0, .nameAndType 21 22), (0, u "com/example/jitlens/jitlens/TextForms"), (0, u "hundredths"), (0, u "(JJ)J"), (0, .long 18446744073709551615), (1, .long 10000), (1, .long 2), (1, .class_ 30), (0, u "com/example/jitlens/jitlens/TextFormsHundredthsPinLaw"), (2, u "law"), (0, u "(JJI)Z")] 3

def k1m0 : Method := { name := "<init>", desc := "()V", sig := { parameters := [], returnType := none }, accessFlags := 2, code := none }
def k1c1 : Code := { maxStack := 6, maxLocals := 17, code := code, exceptionTable := #[], attributes := #[] }
def k1m1 : Method := { name := "law", desc := "(JJI)Z", sig := { parameters := [.long, .long, .int], returnType := some .boolean }, accessFlags := 9, code := some k1c1 }
/-- com/example/jitlens/jitlens/TextFormsHundredthsPinLaw -/
def k1 : Class := { plain "com/example/jitlens/jitlens/TextFormsHundredthsPinLaw" (some 0) with
  accessFlags := 49
  interfaces := #[]
  cf := some (fileOf pool1 29 #[] #[{ accessFlags := 2, nameIndex := 5, descriptorIndex := 6, attributes := #[] }, { accessFlags := 9, nameIndex := 33, descriptorIndex := 34, attributes := #[] }] 49 2 #[] #[])
  fields := #[]
  methods := #[k1m0, k1m1]
  instanceTypes := #[]
  staticTypes := #[]
  resolved := Array.replicate 38 none
  statics := none }

def pool2 : Array CpInfo := pool [(4, .class_ 6), (1, u "java/lang/Object"), (0, u "<init>"), (0, u "()V"), (13, .class_ 24), (1, u "com/example/jitlens/jitlens/TextForms"), (151, .class_ 178), (1, u "com/example/jitlens/jitlens/TextForms$Bci"), (34, u "hundredths"), (0, u "(JJ)J"), (20, .long 18446744073709551615), (1, .long 230584300921369), (1, .long 20000), (1, .long 2), (27, u "INDENT"), (0, u "Ljava/lang/String;"), (3, u "RECEIVER_TYPES"), (2, u "OPTIMIZATIONS"), (2, u "NO_REASON"), (0, u "MOST_IN_LONGS"), (0, u "J")] 58

def k2m0 : Method := { name := "<init>", desc := "()V", sig := { parameters := [], returnType := none }, accessFlags := 2, code := none }
def k2c1 : Code := { maxStack := 6, maxLocals := 6, code := prog_204_method_14_code, exceptionTable := #[], attributes := #[] }
def k2m1 : Method := { name := "hundredths", desc := "(JJ)J", sig := { parameters := [.long, .long], returnType := some .long }, accessFlags := 8, code := some k2c1 }
/-- com/example/jitlens/jitlens/TextForms -/
def k2 : Class := { plain "com/example/jitlens/jitlens/TextForms" (some 0) with
  accessFlags := 48
  interfaces := #[]
  cf := some (fileOf pool2 22 #[.nestMembers #[176]] #[{ accessFlags := 2, nameIndex := 7, descriptorIndex := 8, attributes := #[] }, { accessFlags := 8, nameIndex := 213, descriptorIndex := 214, attributes := #[] }] 48 4 #[] #[{ accessFlags := 24, nameIndex := 269, descriptorIndex := 270, attributes := #[] }, { accessFlags := 24, nameIndex := 274, descriptorIndex := 270, attributes := #[] }, { accessFlags := 24, nameIndex := 277, descriptorIndex := 270, attributes := #[] }, { accessFlags := 26, nameIndex := 280, descriptorIndex := 270, attributes := #[] }, { accessFlags := 26, nameIndex := 281, descriptorIndex := 282, attributes := #[] }])
  fields := #[{ name := "INDENT", type := (.object "java/lang/String"), accessFlags := 24, slot := 0, constantValue := 0 }, { name := "RECEIVER_TYPES", type := (.object "java/lang/String"), accessFlags := 24, slot := 1, constantValue := 0 }, { name := "OPTIMIZATIONS", type := (.object "java/lang/String"), accessFlags := 24, slot := 2, constantValue := 0 }, { name := "NO_REASON", type := (.object "java/lang/String"), accessFlags := 26, slot := 3, constantValue := 0 }, { name := "MOST_IN_LONGS", type := .long, accessFlags := 26, slot := 4, constantValue := 0 }]
  methods := #[k2m0, k2m1]
  instanceTypes := #[]
  staticTypes := #[(.object "java/lang/String"), (.object "java/lang/String"), (.object "java/lang/String"), (.object "java/lang/String"), .long]
  resolved := Array.replicate 341 none
  statics := none }

def pool3 : Array CpInfo := pool [(1, u "java/lang/Cloneable"), (0, .class_ 1), (0, u "java/lang/Object"), (0, .class_ 3)] 3

/-- java/lang/Cloneable -/
def k3 : Class := { plain "java/lang/Cloneable" (some 0) with
  accessFlags := 1537
  interfaces := #[]
  cf := some (fileOf pool3 2 #[] #[] 1537 4 #[] #[])
  fields := #[]
  methods := #[]
  instanceTypes := #[]
  staticTypes := #[]
  resolved := Array.replicate 8 none
  statics := none }

def pool4 : Array CpInfo := pool [(1, u "java/io/Serializable"), (0, .class_ 1), (0, u "java/lang/Object"), (0, .class_ 3)] 3

/-- java/io/Serializable -/
def k4 : Class := { plain "java/io/Serializable" (some 0) with
  accessFlags := 1537
  interfaces := #[]
  cf := some (fileOf pool4 2 #[] #[] 1537 4 #[] #[])
  fields := #[]
  methods := #[]
  instanceTypes := #[]
  staticTypes := #[]
  resolved := Array.replicate 8 none
  statics := none }

/-- the primitive byte -/
def k5 : Class := { plain "byte" none with kind := .primitive 'B', accessFlags := 0x411 }
/-- [B -/
def k6 : Class := { plain "[B" (some 0) with kind := .array 5 .byte, interfaces := #[3, 4], accessFlags := 1041 }

/-- the primitive int -/
def k7 : Class := { plain "int" none with kind := .primitive 'I', accessFlags := 0x411 }
/-- [I -/
def k8 : Class := { plain "[I" (some 0) with kind := .array 7 .int, interfaces := #[3, 4], accessFlags := 1041 }

def heap : Heap := #[]
def classes : Array Class := #[k0, k1, k2, k3, k4, k5, k6, k7, k8]
def interned : List (Array UInt16 × Addr) := []
def slotsUsed : Nat := 0
def theMethod : MethodId := ⟨1, 1⟩
def args0 : Array Value := #[.long 5, .long 7, .int 1]
def aboutOver (below : List Frame) : State where
  vm := { classes := classes, interned := interned.toArray }
  heap := heap
  slotsUsed := slotsUsed
  threads := #[{ frames := .invoking theMethod args0 :: below }]
def below0 : List Frame := [.native { method := ⟨0, 0⟩, args := #[] }]
def about1 : State := aboutOver below0
def p0 : Program := .bare "" "" ""
def e0 : Env := launch0.env 0 0 0
theorem w_frames : about1.frames = Frame.invoking theMethod args0 :: below0 := rfl
set_option maxRecDepth 65536 in
theorem w_args : argsFit about1.vm theMethod args0 = true := by decide +kernel
set_option maxRecDepth 65536 in
theorem w_heap : heapFits about1 = true := by decide +kernel
set_option maxRecDepth 65536 in
theorem w_runnable : about1.curStatus? = some .runnable := by decide +kernel
set_option maxRecDepth 65536 in
theorem w_alone : about1.alone = true := by decide +kernel
set_option maxRecDepth 65536 in
theorem w_named : about1.methodNamed? x = some theMethod := by decide +kernel
set_option maxRecDepth 65536 in
theorem w_hears : about1.hears theMethod below0 = true := by decide +kernel
set_option maxRecDepth 65536 in
theorem w_ripe : about1.ripe theMethod args0 below0 = true := by decide +kernel
theorem w_running : about1.status = .running := rfl
set_option maxRecDepth 65536 in
theorem w_room : about1.hasRoom e0.platform room_1 = true :=
  launch0.hasRoom_least _ room_1 (by decide +kernel) (by decide +kernel) (by decide +kernel) (by decide +kernel) (by decide +kernel) (by decide +kernel)
theorem allAtoms_all (ts : List Jvm.Cond) (a : Array Jvm.Value) (st : Jvm.State) : (allAtoms ts).before a st = ts.all (fun c => c.before a st) := by
  induction ts with
  | nil => rfl
  | cons c t ih =>
    show (Jvm.Cond.and c (allAtoms t)).before a st = _
    rw [Jvm.Cond.before_and, ih, List.all_cons]
def words1 : List Jvm.Cond := Jvm.Cond.code x code maxLocals ret :: tables_1
/-- a 'code' word, met by the world's own term for the bytes: nothing is compared byte by byte -/
theorem code_word {y : MethodName} {bytes : ByteArray} {mx : Nat} {rt : Option FieldType} {a : Array Value} {s : State} {m : MethodId} {meth : Method} {c : Code} (h1 : s.methodNamed? y = some m) (h2 : s.vm.method? m = some meth) (h3 : meth.code = some c) (h4 : c.code = bytes)
    (h5 : (c.maxLocals == mx && c.exceptionTable.isEmpty && decide (c.maxStack ≤ mostOperands) && decide (meth.sig.returnType = rt) && !meth.locks && decide (parseMethodDescriptor y.desc = some meth.sig)) = true) : (Jvm.Cond.code y bytes mx rt).before a s = true := by
  simp only [Bool.and_eq_true, beq_iff_eq, Bool.not_eq_true', decide_eq_true_eq] at h5
  obtain ⟨⟨⟨⟨⟨g1, g2⟩, g3⟩, g4⟩, g5⟩, g6⟩ := h5
  simp [Cond.before, Cond.holds, Cond.value, h1, h2, h3, h4, g1, g2, g3, g4, g5, g6]
def isCode : Jvm.Cond → Bool
  | .code _ _ _ _ => true
  | _ => false
theorem all_split {L : List Jvm.Cond} {P : Jvm.Cond → Bool} (h1 : L.all (fun c => isCode c || P c) = true) (h2 : ∀ c ∈ L.filter isCode, P c = true) : L.all P = true := by
  refine List.all_eq_true.mpr fun c hc => ?_
  have h := List.all_eq_true.mp h1 c hc
  rcases Bool.eq_false_or_eq_true (isCode c) with hi | hi
  · exact h2 c (List.mem_filter.mpr ⟨hc, hi⟩)
  · simpa [hi] using h
set_option maxRecDepth 65536 in
theorem w_c0 : (Jvm.Cond.code x code maxLocals ret).before args0 about1 = true := code_word (m := ⟨1, 1⟩) (meth := k1m1) (c := k1c1) (by decide +kernel) rfl rfl rfl (by decide +kernel)
set_option maxRecDepth 65536 in
theorem w_c1 : (Jvm.Cond.code ({ cls := "com/example/jitlens/jitlens/TextForms", name := "hundredths", desc := "(JJ)J" } : Jvm.MethodName) prog_204_method_14_code (6 : Nat) (Option.some Jvm.ClassFile.FieldType.long)).before args0 about1 = true := code_word (m := ⟨2, 1⟩) (meth := k2m1) (c := k2c1) (by decide +kernel) rfl rfl rfl (by decide +kernel)
def codes1 : List Jvm.Cond := [Jvm.Cond.code x code maxLocals ret, Jvm.Cond.code ({ cls := "com/example/jitlens/jitlens/TextForms", name := "hundredths", desc := "(JJ)J" } : Jvm.MethodName) prog_204_method_14_code (6 : Nat) (Option.some Jvm.ClassFile.FieldType.long)]
set_option maxRecDepth 65536 in
theorem codes_eq : words1.filter isCode = codes1 := rfl
theorem w_codes : ∀ c ∈ words1.filter isCode, c.before args0 about1 = true := by
  rw [codes_eq]
  intro c hc
  simp only [codes1, List.mem_cons, List.not_mem_nil, or_false] at hc
  rcases hc with rfl | rfl
  · exact w_c0
  · exact w_c1
set_option maxRecDepth 65536 in
theorem w_t1 : words1.all (fun c => isCode c || c.before args0 about1) = true := by decide +kernel
theorem w_tables : (allAtoms (Jvm.Cond.code x code maxLocals ret :: tables_1)).before args0 about1 = true := by
  rw [allAtoms_all]
  show words1.all (fun c => c.before args0 about1) = true
  refine all_split ?_ w_codes
  rw [w_t1]
set_option maxRecDepth 65536 in
theorem w_case : (Jvm.Cond.and given_1 narrow_1).before args0 about1 = true := by decide +kernel
theorem w_applies : (headSpec (Jvm.Cond.code x code maxLocals ret :: tables_1) room_1).applies x e0.platform about1 = true :=
  (Spec.applies_iff w_frames).mpr ⟨w_running, w_runnable, w_alone, w_named, w_hears, w_ripe, w_room, w_tables⟩
theorem atStart : AtStart classFile x code maxLocals ret World_1 tables_1 room_1 Calls_1 rest_1 Pre_1 launch0 p0 e0 about1 theMethod args0 below0 :=
  ⟨lists_1, trivial, launch0.admits_env _ _ _, launch0.least_env, fairChoices_fair.cas, fairChoices_fair.clock, w_frames, w_args, w_heap, w_applies, trivial, trivial, w_case⟩
end start1
theorem witness_1 : WitnessClaimed_1 := ⟨start1.p0, start1.e0, start1.about1, start1.theMethod, start1.args0, start1.below0, start1.atStart⟩
end Jvm.Pilot.@@N@@
