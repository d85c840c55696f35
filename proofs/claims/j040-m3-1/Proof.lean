import JvmDerived
import JvmDerived.Pilot.@@N@@Statement
import JvmDerived.Pilot.@@N@@Code
set_option linter.unusedVariables false
set_option linter.unusedSimpArgs false
@@BLOCK:NumsL.lean.txt@@
namespace Jvm.Pilot.@@N@@
open Jvm Jvm.ClassFile Sem Op Lib Jvm.Free Jvm.Stand Jvm.LawKit Jvm.RoadKit Bundle Jvm.Pilot.@@N@@.Jvm.D
/-! from the frame g at T the run ends in a return: Q of what is returned, the heap and the written places -/
def own_Fin (p : Program) (e : Env) (below : List Frame) (s T : State) (g : JFrame) (Q : Option Value → Heap → List Loc → Prop) (C S : Nat) : Prop :=
  ∃ s₂ o, Steps p.tables e below (T.setTop g) s₂ ∧ s₂.status = .running ∧ Ended s₂ below o ∧ ∃ v L, o = .returned v ∧ Q v s₂.heap L ∧ FrameEnd s o s₂ L C S
section Own
variable {p : Program} {l : Launch} {e : Env} {R : Room} {s : State} {m : MethodId} {args : Array Value} {below : List Frame} {meth : Method} {c : Code} {T T' : State} {g g' : JFrame} {locs : List Loc} {cells slots C S : Nat} {Q : Option Value → Heap → List Loc → Prop}
theorem own_go (h : ∀ t, Steps p.tables e below (T'.setTop g') t → Steps p.tables e below (T.setTop g) t) (k : own_Fin p e below s T' g' Q C S) : own_Fin p e below s T g Q C S := by
  obtain ⟨s2, o, h1, r⟩ := k
  exact ⟨s2, o, h _ h1, r⟩
theorem own_gt (h : Steps p.tables e below (T.setTop g) (T'.setTop g')) (k : own_Fin p e below s T' g' Q C S) : own_Fin p e below s T g Q C S := by
  obtain ⟨s2, o, h1, r⟩ := k
  exact ⟨s2, o, h.trans h1, r⟩
theorem own_end (X : Stand p l e R s m args below meth c T locs cells slots) (hnl : meth.locks = false) {v : Option Value} (hv : meth.sig.returnType = none → v = none)
    (st : ∀ fs, (∀ (f : JFrame) (acts : List Action), f.method = m → f.locked = none → f.entered = [] → (doReturn e (T.setTop f) acts v).1 = T.setFrames fs) → Steps p.tables e below (T.setTop g) (T.setFrames fs)) (hc : cells ≤ C) (hs : slots ≤ S) (hQ : Q v T.heap locs) : own_Fin p e below s T g Q C S := by
  obtain ⟨fs, hr, hrun, hended, hW, hsame⟩ := X.leave (v := v) hv hnl
  exact ⟨_, _, st fs hr, hrun, hended, _, _, rfl, hQ, ⟨_, rfl⟩, hW, hsame.mono hc hs⟩
theorem own_retZ (X : Stand p l e R s m args below meth c T locs cells slots) (hx : p.tables.exec = Jvm.exec) (hnl : meth.locks = false) {pc : Nat} {Ls : Array Slot} {z : Int32} {t : FieldType} {rest : List Value} (hret : meth.sig.returnType = some t) (ht : t = .boolean ∨ t = .byte ∨ t = .char ∨ t = .short)
    (hd : decode c.code pc = .ok (.ireturn, 1)) (hc : cells ≤ C) (hs : slots ≤ S) (hQ : Q (some (.int (nar t z))) T.heap locs) : own_Fin p e below s T (mkF m pc Ls (.int z :: rest)) Q C S :=
  own_end X hnl (fun h => by rw [hret] at h; cases h) (fun fs hr => retN X hx hret ht hd hr) hc hs hQ
theorem own_retI (X : Stand p l e R s m args below meth c T locs cells slots) (hx : p.tables.exec = Jvm.exec) (hnl : meth.locks = false) {pc : Nat} {Ls : Array Slot} {z : Int32} {rest : List Value} (hret : meth.sig.returnType = some .int)
    (hd : decode c.code pc = .ok (.ireturn, 1)) (hc : cells ≤ C) (hs : slots ≤ S) (hQ : Q (some (.int z)) T.heap locs) : own_Fin p e below s T (mkF m pc Ls (.int z :: rest)) Q C S :=
  own_end X hnl (fun h => by rw [hret] at h; cases h) (fun fs hr => by
    have hm' : T.vm.method? m = some meth := X.method'
    have hn : narrow .int (.int z) = .int z := rfl
    show Steps p.tables e below (T.setTop { method := m, pc := pc, locals := Ls, stack := _ :: rest, locked := none }) _
    jvm_step X.here [X.here.top, hx, hd, hm', hret, hn]
    first | (intro acts; rw [hr _ acts rfl rfl rfl]) | rw [hr _ _ rfl rfl rfl]
    exact Steps.refl _) hc hs hQ
theorem own_retJ (X : Stand p l e R s m args below meth c T locs cells slots) (hx : p.tables.exec = Jvm.exec) (hnl : meth.locks = false) {pc : Nat} {Ls : Array Slot} {z : Int64} (hret : meth.sig.returnType = some .long)
    (hd : decode c.code pc = .ok (.lreturn, 1)) (hc : cells ≤ C) (hs : slots ≤ S) (hQ : Q (some (.long z)) T.heap locs) : own_Fin p e below s T (mkF m pc Ls [.long z]) Q C S :=
  own_end X hnl (fun h => by rw [hret] at h; cases h) (fun fs hr => X.lreturnOut hx hret hd hr) hc hs hQ
theorem own_retV (X : Stand p l e R s m args below meth c T locs cells slots) (hx : p.tables.exec = Jvm.exec) (hnl : meth.locks = false) {pc : Nat} {Ls : Array Slot} (hret : meth.sig.returnType = none)
    (hd : decode c.code pc = .ok (.return_, 1)) (hc : cells ≤ C) (hs : slots ≤ S) (hQ : Q none T.heap locs) : own_Fin p e below s T (mkF m pc Ls []) Q C S :=
  own_end X hnl (fun _ => rfl) (fun fs hr => X.returnOut hx hret hd hr) hc hs hQ
end Own
def own_sp (x : Int32) : Int32 := if x = 32 then 1 else if x = 9 then 1 else if x = 10 then 1 else if x = 11 then 1 else if x = 12 then 1 else if x = 13 then 1 else 0
theorem d1_0 : decode prog_103_method_4_code 0 = .ok (.iload_n 0, 1) := by decide +kernel
theorem d1_1 : decode prog_103_method_4_code 1 = .ok (.bipush 32, 2) := by decide +kernel
theorem d1_3 : decode prog_103_method_4_code 3 = .ok (.if_icmp .eq 33, 3) := by decide +kernel
theorem d1_6 : decode prog_103_method_4_code 6 = .ok (.iload_n 0, 1) := by decide +kernel
theorem d1_7 : decode prog_103_method_4_code 7 = .ok (.bipush 9, 2) := by decide +kernel
theorem d1_9 : decode prog_103_method_4_code 9 = .ok (.if_icmp .eq 27, 3) := by decide +kernel
theorem d1_12 : decode prog_103_method_4_code 12 = .ok (.iload_n 0, 1) := by decide +kernel
theorem d1_13 : decode prog_103_method_4_code 13 = .ok (.bipush 10, 2) := by decide +kernel
theorem d1_15 : decode prog_103_method_4_code 15 = .ok (.if_icmp .eq 21, 3) := by decide +kernel
theorem d1_18 : decode prog_103_method_4_code 18 = .ok (.iload_n 0, 1) := by decide +kernel
theorem d1_19 : decode prog_103_method_4_code 19 = .ok (.bipush 11, 2) := by decide +kernel
theorem d1_21 : decode prog_103_method_4_code 21 = .ok (.if_icmp .eq 15, 3) := by decide +kernel
theorem d1_24 : decode prog_103_method_4_code 24 = .ok (.iload_n 0, 1) := by decide +kernel
theorem d1_25 : decode prog_103_method_4_code 25 = .ok (.bipush 12, 2) := by decide +kernel
theorem d1_27 : decode prog_103_method_4_code 27 = .ok (.if_icmp .eq 9, 3) := by decide +kernel
theorem d1_30 : decode prog_103_method_4_code 30 = .ok (.iload_n 0, 1) := by decide +kernel
theorem d1_31 : decode prog_103_method_4_code 31 = .ok (.bipush 13, 2) := by decide +kernel
theorem d1_33 : decode prog_103_method_4_code 33 = .ok (.if_icmp .ne 7, 3) := by decide +kernel
theorem d1_36 : decode prog_103_method_4_code 36 = .ok (.iconst 1, 1) := by decide +kernel
theorem d1_37 : decode prog_103_method_4_code 37 = .ok (.goto 4, 3) := by decide +kernel
theorem d1_40 : decode prog_103_method_4_code 40 = .ok (.iconst 0, 1) := by decide +kernel
theorem d1_41 : decode prog_103_method_4_code 41 = .ok (.ireturn, 1) := by decide +kernel
theorem pn_1 : plainName "com/example/jitlens/jitlens/LogText" = true := by first | (simp [plainName, overriddenIn]; done) | decide +kernel
theorem ef_1 (m : MethodId) (x0 : Int32) : entryFrame m #[(.int x0)] 1 = mkF m 0 #[.val (.int x0)] [] := by first | (simp [entryFrame, mkF, argsToLocals, Value.category]; done) | rfl
def Q1 (Z : State) (x0 : Int32) (h0 : Heap) (n0 : Nat) (v : Option Value) (h : Heap) (L : List Loc) : Prop := v = some (.int (own_sp x0)) ∧ Fr n0 L ∧ h = h0
set_option maxRecDepth 65536 in
set_option maxHeartbeats 40000000 in
theorem rm1 (l : Launch) (Z : State) (a0 : Array Value) (hw : ∀ d ∈ tables_1, d.before a0 Z = true) (ws : List Jvm.Cond) (x0 : Int32) (h0 : Heap) (n0 : Nat) (Z0 : n0 ≤ h0.size) :
    MetFree l (⟨"com/example/jitlens/jitlens/LogText", "isPatternSpace", "(C)Z"⟩ : MethodName) (head1 (Jvm.Cond.code (⟨"com/example/jitlens/jitlens/LogText", "isPatternSpace", "(C)Z"⟩ : MethodName) prog_103_method_4_code 1 (some .boolean) :: ws) ({ frames := 0, cells := 0, slots := 0, locals := 0 } : Room)) (fun a U => a = #[(.int x0)] ∧ Z.Warmed39 U.vm ∧ U.heap = h0) (fun _ _ _ _ _ => True) (fun _ U o U' => ∃ v L, o = .returned v ∧ Q1 Z x0 h0 n0 v U'.heap L ∧ FrameEnd U o U' L ({ frames := 0, cells := 0, slots := 0, locals := 0 } : Room).cells ({ frames := 0, cells := 0, slots := 0, locals := 0 } : Room).slots) := by
  refine MetFree.of_bodySF (plainFor_of_name pn_1) hisR ?_
  intro p e s m args below meth c s₁ Bd hml0 hP hK
  obtain ⟨rfl, hZ, hh⟩ := hP
  have hx := Bd.exec
  have hby := Bd.bytes
  have hret := Bd.returns
  have hnl : meth.locks = false := Bd.notSynchronized
  have hml : c.maxLocals = 1 := hml0
  have hown : s.vm.findClass "com/example/jitlens/jitlens/LogText" = some m.cls := findClass_of_methodNamed Bd.named
  have hnm := (name_of_methodNamed Bd.named Bd.method).1
  have X0 : Stand p l e ({ frames := 0, cells := 0, slots := 0, locals := 0 } : Room) s m #[(.int x0)] below meth c s₁ [] 0 0 := Stand.of_body Bd
  have e0 : s₁.heap = h0 := by rw [← hh, Bd.state]; rfl
  have N0 := Fr.nil n0
  suffices key : own_Fin p e below s s₁ (mkF m 0 #[.val (.int x0)] []) (Q1 Z x0 h0 n0) ({ frames := 0, cells := 0, slots := 0, locals := 0 } : Room).cells ({ frames := 0, cells := 0, slots := 0, locals := 0 } : Room).slots by
    obtain ⟨s2, o, h1, h2⟩ := key
    exact ⟨s2, o, castTop (ef_1 m x0) h1, h2⟩
  refine own_go (fun _ => XS.iloadN X0.here hx rfl (hb hby d1_0) rfl) ?_
  show own_Fin _ _ _ _ s₁ (mkF m 1 #[.val (.int x0)] [(.int x0)]) _ _ _
  refine own_go (fun _ => XS.bipush X0.here hx rfl (hb hby d1_1)) ?_
  show own_Fin _ _ _ _ s₁ (mkF m 3 #[.val (.int x0)] [(.int (32 : Int32)), (.int x0)]) _ _ _
  by_cases h3 : x0 = (32 : Int32)
  · refine own_go (fun _ => XS.icmpYes X0.here hx rfl (pc0 := 3) (pc' := 36) rfl (hb hby d1_3) rfl (teq h3).1 (by decide) (by decide)) ?_
    show own_Fin _ _ _ _ s₁ (mkF m 36 #[.val (.int x0)] []) _ _ _
    refine own_go (fun _ => XS.iconst X0.here hx rfl (hb hby d1_36)) ?_
    show own_Fin _ _ _ _ s₁ (mkF m 37 #[.val (.int x0)] [(.int (1 : Int32))]) _ _ _
    refine own_go (fun _ => XS.goto X0.here hx rfl (pc0 := 37) (pc' := 41) rfl (hb hby d1_37) (by decide) (by decide)) ?_
    show own_Fin _ _ _ _ s₁ (mkF m 41 #[.val (.int x0)] [(.int (1 : Int32))]) _ _ _
    exact own_retZ X0 hx hnl (t := .boolean) hret (by simp) (hb hby d1_41) (by decide) (by decide) ⟨congrArg (fun z => some (Value.int z)) (show ((1 : Int32) : Int32) = own_sp x0 from by simp [own_sp, h3]), N0, e0⟩
  · refine own_go (fun _ => XS.icmpNo X0.here hx rfl (hb hby d1_3) rfl (feq h3).1) ?_
    show own_Fin _ _ _ _ s₁ (mkF m 6 #[.val (.int x0)] []) _ _ _
    refine own_go (fun _ => XS.iloadN X0.here hx rfl (hb hby d1_6) rfl) ?_
    show own_Fin _ _ _ _ s₁ (mkF m 7 #[.val (.int x0)] [(.int x0)]) _ _ _
    refine own_go (fun _ => XS.bipush X0.here hx rfl (hb hby d1_7)) ?_
    show own_Fin _ _ _ _ s₁ (mkF m 9 #[.val (.int x0)] [(.int (9 : Int32)), (.int x0)]) _ _ _
    by_cases h9 : x0 = (9 : Int32)
    · refine own_go (fun _ => XS.icmpYes X0.here hx rfl (pc0 := 9) (pc' := 36) rfl (hb hby d1_9) rfl (teq h9).1 (by decide) (by decide)) ?_
      show own_Fin _ _ _ _ s₁ (mkF m 36 #[.val (.int x0)] []) _ _ _
      refine own_go (fun _ => XS.iconst X0.here hx rfl (hb hby d1_36)) ?_
      show own_Fin _ _ _ _ s₁ (mkF m 37 #[.val (.int x0)] [(.int (1 : Int32))]) _ _ _
      refine own_go (fun _ => XS.goto X0.here hx rfl (pc0 := 37) (pc' := 41) rfl (hb hby d1_37) (by decide) (by decide)) ?_
      show own_Fin _ _ _ _ s₁ (mkF m 41 #[.val (.int x0)] [(.int (1 : Int32))]) _ _ _
      exact own_retZ X0 hx hnl (t := .boolean) hret (by simp) (hb hby d1_41) (by decide) (by decide) ⟨congrArg (fun z => some (Value.int z)) (show ((1 : Int32) : Int32) = own_sp x0 from by simp [own_sp, h3, h9]), N0, e0⟩
    · refine own_go (fun _ => XS.icmpNo X0.here hx rfl (hb hby d1_9) rfl (feq h9).1) ?_
      show own_Fin _ _ _ _ s₁ (mkF m 12 #[.val (.int x0)] []) _ _ _
      refine own_go (fun _ => XS.iloadN X0.here hx rfl (hb hby d1_12) rfl) ?_
      show own_Fin _ _ _ _ s₁ (mkF m 13 #[.val (.int x0)] [(.int x0)]) _ _ _
      refine own_go (fun _ => XS.bipush X0.here hx rfl (hb hby d1_13)) ?_
      show own_Fin _ _ _ _ s₁ (mkF m 15 #[.val (.int x0)] [(.int (10 : Int32)), (.int x0)]) _ _ _
      by_cases h15 : x0 = (10 : Int32)
      · refine own_go (fun _ => XS.icmpYes X0.here hx rfl (pc0 := 15) (pc' := 36) rfl (hb hby d1_15) rfl (teq h15).1 (by decide) (by decide)) ?_
        show own_Fin _ _ _ _ s₁ (mkF m 36 #[.val (.int x0)] []) _ _ _
        refine own_go (fun _ => XS.iconst X0.here hx rfl (hb hby d1_36)) ?_
        show own_Fin _ _ _ _ s₁ (mkF m 37 #[.val (.int x0)] [(.int (1 : Int32))]) _ _ _
        refine own_go (fun _ => XS.goto X0.here hx rfl (pc0 := 37) (pc' := 41) rfl (hb hby d1_37) (by decide) (by decide)) ?_
        show own_Fin _ _ _ _ s₁ (mkF m 41 #[.val (.int x0)] [(.int (1 : Int32))]) _ _ _
        exact own_retZ X0 hx hnl (t := .boolean) hret (by simp) (hb hby d1_41) (by decide) (by decide) ⟨congrArg (fun z => some (Value.int z)) (show ((1 : Int32) : Int32) = own_sp x0 from by simp [own_sp, h3, h9, h15]), N0, e0⟩
      · refine own_go (fun _ => XS.icmpNo X0.here hx rfl (hb hby d1_15) rfl (feq h15).1) ?_
        show own_Fin _ _ _ _ s₁ (mkF m 18 #[.val (.int x0)] []) _ _ _
        refine own_go (fun _ => XS.iloadN X0.here hx rfl (hb hby d1_18) rfl) ?_
        show own_Fin _ _ _ _ s₁ (mkF m 19 #[.val (.int x0)] [(.int x0)]) _ _ _
        refine own_go (fun _ => XS.bipush X0.here hx rfl (hb hby d1_19)) ?_
        show own_Fin _ _ _ _ s₁ (mkF m 21 #[.val (.int x0)] [(.int (11 : Int32)), (.int x0)]) _ _ _
        by_cases h21 : x0 = (11 : Int32)
        · refine own_go (fun _ => XS.icmpYes X0.here hx rfl (pc0 := 21) (pc' := 36) rfl (hb hby d1_21) rfl (teq h21).1 (by decide) (by decide)) ?_
          show own_Fin _ _ _ _ s₁ (mkF m 36 #[.val (.int x0)] []) _ _ _
          refine own_go (fun _ => XS.iconst X0.here hx rfl (hb hby d1_36)) ?_
          show own_Fin _ _ _ _ s₁ (mkF m 37 #[.val (.int x0)] [(.int (1 : Int32))]) _ _ _
          refine own_go (fun _ => XS.goto X0.here hx rfl (pc0 := 37) (pc' := 41) rfl (hb hby d1_37) (by decide) (by decide)) ?_
          show own_Fin _ _ _ _ s₁ (mkF m 41 #[.val (.int x0)] [(.int (1 : Int32))]) _ _ _
          exact own_retZ X0 hx hnl (t := .boolean) hret (by simp) (hb hby d1_41) (by decide) (by decide) ⟨congrArg (fun z => some (Value.int z)) (show ((1 : Int32) : Int32) = own_sp x0 from by simp [own_sp, h3, h9, h15, h21]), N0, e0⟩
        · refine own_go (fun _ => XS.icmpNo X0.here hx rfl (hb hby d1_21) rfl (feq h21).1) ?_
          show own_Fin _ _ _ _ s₁ (mkF m 24 #[.val (.int x0)] []) _ _ _
          refine own_go (fun _ => XS.iloadN X0.here hx rfl (hb hby d1_24) rfl) ?_
          show own_Fin _ _ _ _ s₁ (mkF m 25 #[.val (.int x0)] [(.int x0)]) _ _ _
          refine own_go (fun _ => XS.bipush X0.here hx rfl (hb hby d1_25)) ?_
          show own_Fin _ _ _ _ s₁ (mkF m 27 #[.val (.int x0)] [(.int (12 : Int32)), (.int x0)]) _ _ _
          by_cases h27 : x0 = (12 : Int32)
          · refine own_go (fun _ => XS.icmpYes X0.here hx rfl (pc0 := 27) (pc' := 36) rfl (hb hby d1_27) rfl (teq h27).1 (by decide) (by decide)) ?_
            show own_Fin _ _ _ _ s₁ (mkF m 36 #[.val (.int x0)] []) _ _ _
            refine own_go (fun _ => XS.iconst X0.here hx rfl (hb hby d1_36)) ?_
            show own_Fin _ _ _ _ s₁ (mkF m 37 #[.val (.int x0)] [(.int (1 : Int32))]) _ _ _
            refine own_go (fun _ => XS.goto X0.here hx rfl (pc0 := 37) (pc' := 41) rfl (hb hby d1_37) (by decide) (by decide)) ?_
            show own_Fin _ _ _ _ s₁ (mkF m 41 #[.val (.int x0)] [(.int (1 : Int32))]) _ _ _
            exact own_retZ X0 hx hnl (t := .boolean) hret (by simp) (hb hby d1_41) (by decide) (by decide) ⟨congrArg (fun z => some (Value.int z)) (show ((1 : Int32) : Int32) = own_sp x0 from by simp [own_sp, h3, h9, h15, h21, h27]), N0, e0⟩
          · refine own_go (fun _ => XS.icmpNo X0.here hx rfl (hb hby d1_27) rfl (feq h27).1) ?_
            show own_Fin _ _ _ _ s₁ (mkF m 30 #[.val (.int x0)] []) _ _ _
            refine own_go (fun _ => XS.iloadN X0.here hx rfl (hb hby d1_30) rfl) ?_
            show own_Fin _ _ _ _ s₁ (mkF m 31 #[.val (.int x0)] [(.int x0)]) _ _ _
            refine own_go (fun _ => XS.bipush X0.here hx rfl (hb hby d1_31)) ?_
            show own_Fin _ _ _ _ s₁ (mkF m 33 #[.val (.int x0)] [(.int (13 : Int32)), (.int x0)]) _ _ _
            by_cases h33 : x0 = (13 : Int32)
            · refine own_go (fun _ => XS.icmpNo X0.here hx rfl (hb hby d1_33) rfl (teq h33).2) ?_
              show own_Fin _ _ _ _ s₁ (mkF m 36 #[.val (.int x0)] []) _ _ _
              refine own_go (fun _ => XS.iconst X0.here hx rfl (hb hby d1_36)) ?_
              show own_Fin _ _ _ _ s₁ (mkF m 37 #[.val (.int x0)] [(.int (1 : Int32))]) _ _ _
              refine own_go (fun _ => XS.goto X0.here hx rfl (pc0 := 37) (pc' := 41) rfl (hb hby d1_37) (by decide) (by decide)) ?_
              show own_Fin _ _ _ _ s₁ (mkF m 41 #[.val (.int x0)] [(.int (1 : Int32))]) _ _ _
              exact own_retZ X0 hx hnl (t := .boolean) hret (by simp) (hb hby d1_41) (by decide) (by decide) ⟨congrArg (fun z => some (Value.int z)) (show ((1 : Int32) : Int32) = own_sp x0 from by simp [own_sp, h3, h9, h15, h21, h27, h33]), N0, e0⟩
            · refine own_go (fun _ => XS.icmpYes X0.here hx rfl (pc0 := 33) (pc' := 40) rfl (hb hby d1_33) rfl (feq h33).2 (by decide) (by decide)) ?_
              show own_Fin _ _ _ _ s₁ (mkF m 40 #[.val (.int x0)] []) _ _ _
              refine own_go (fun _ => XS.iconst X0.here hx rfl (hb hby d1_40)) ?_
              show own_Fin _ _ _ _ s₁ (mkF m 41 #[.val (.int x0)] [(.int (0 : Int32))]) _ _ _
              exact own_retZ X0 hx hnl (t := .boolean) hret (by simp) (hb hby d1_41) (by decide) (by decide) ⟨congrArg (fun z => some (Value.int z)) (show ((0 : Int32) : Int32) = own_sp x0 from by simp [own_sp, h3, h9, h15, h21, h27, h33]), N0, e0⟩

theorem own_lt {x y : Int32} : x < y ↔ x.toInt < y.toInt := Int32.lt_iff_toInt_lt
theorem own_ltJ {x y : Int64} : x < y ↔ x.toInt < y.toInt := Int64.lt_iff_toInt_lt
theorem own_eq {x y : Int32} : x = y ↔ x.toInt = y.toInt := Int32.toInt_inj.symm
theorem own_eqJ {x y : Int64} : x = y ↔ x.toInt = y.toInt := Int64.toInt_inj.symm
theorem own_rng (x : Int32) : -2147483648 ≤ x.toInt ∧ x.toInt < 2147483648 := ⟨by have := Int32.le_toInt x; omega, by have := Int32.toInt_lt x; omega⟩
theorem own_rngJ (x : Int64) : -9223372036854775808 ≤ x.toInt ∧ x.toInt < 9223372036854775808 := ⟨by have := Int64.le_toInt x; omega, by have := Int64.toInt_lt x; omega⟩
def own_exp (x : Int32) : Int32 := if x < 9 then (if x = 32 then 1 else 0) else if 13 < x then (if x = 32 then 1 else 0) else 1
theorem own_sp_exp (x : Int32) : own_sp x = own_exp x := by
  have a (k : Int32) : x = k ↔ x.toInt = k.toInt := own_eq
  unfold own_sp own_exp
  simp only [a, own_lt]
  show (if x.toInt = 32 then (1 : Int32) else if x.toInt = 9 then 1 else if x.toInt = 10 then 1 else if x.toInt = 11 then 1 else if x.toInt = 12 then 1 else if x.toInt = 13 then 1 else 0) = if x.toInt < 9 then (if x.toInt = 32 then 1 else 0) else if 13 < x.toInt then (if x.toInt = 32 then 1 else 0) else 1
  generalize x.toInt = y
  repeat (first | rfl | omega | split)

theorem pd_0 : parseMethodDescriptor "(C)Z" = some ⟨[.char], some .boolean⟩ := by decide +kernel
theorem pn_0 : plainName "com/example/jitlens/jitlens/LogTextIsPatternSpacePinLaw" = true := by first | (simp [plainName, overriddenIn]; done) | decide +kernel
theorem ef_0 (m : MethodId) (x0 : Int32) : entryFrame m #[(.int x0)] maxLocals = mkF m 0 #[.val (.int x0), .unset, .unset, .unset] [] := by first | (simp [entryFrame, mkF, argsToLocals, Value.category, maxLocals]; done) | rfl
def Q0 (Z : State) (x0 : Int32) (h0 : Heap) (n0 : Nat) (v : Option Value) (h : Heap) (L : List Loc) : Prop := v = some (.int 1) ∧ Fr n0 L
set_option maxRecDepth 65536 in
set_option maxHeartbeats 40000000 in
theorem rm0 (l : Launch) (Z : State) (a0 : Array Value) (hw : ∀ d ∈ tables_1, d.before a0 Z = true) (ws : List Jvm.Cond) (x0 : Int32) (h0 : Heap) (n0 : Nat) (Z0 : n0 ≤ h0.size) :
    MetFree l x (head1 (Jvm.Cond.code x code maxLocals ret :: ws) room_1) (fun a U => a = #[(.int x0)] ∧ Z.Warmed39 U.vm ∧ U.heap = h0) (fun _ _ _ _ _ => True) (fun _ U o U' => ∃ v L, o = .returned v ∧ Q0 Z x0 h0 n0 v U'.heap L ∧ FrameEnd U o U' L room_1.cells room_1.slots) := by
  refine MetFree.of_bodySF (plainFor_of_name pn_0) hisR ?_
  intro p e s m args below meth c s₁ Bd hml0 hP hK
  obtain ⟨rfl, hZ, hh⟩ := hP
  have hx := Bd.exec
  have hby := Bd.bytes
  have hret := Bd.returns
  have hnl : meth.locks = false := Bd.notSynchronized
  have hml : c.maxLocals = 4 := hml0
  have hown : s.vm.findClass "com/example/jitlens/jitlens/LogTextIsPatternSpacePinLaw" = some m.cls := findClass_of_methodNamed Bd.named
  have hnm := (name_of_methodNamed Bd.named Bd.method).1
  have X0 : Stand p l e room_1 s m #[(.int x0)] below meth c s₁ [] 0 0 := Stand.of_body Bd
  have e0 : s₁.heap = h0 := by rw [← hh, Bd.state]; rfl
  have N0 := Fr.nil n0
  suffices key : own_Fin p e below s s₁ (mkF m 0 #[.val (.int x0), .unset, .unset, .unset] []) (Q0 Z x0 h0 n0) room_1.cells room_1.slots by
    obtain ⟨s2, o, h1, h2⟩ := key
    exact ⟨s2, o, castTop (ef_0 m x0) h1, h2⟩
  refine own_go (fun _ => XS.iloadN X0.here hx rfl (hb hby at_0) rfl) ?_
  show own_Fin _ _ _ _ s₁ (mkF m 1 #[.val (.int x0), .unset, .unset, .unset] [(.int x0)]) _ _ _
  refine own_go (fun _ => XS.i2c X0.here hx rfl (hb hby at_1) rfl) ?_
  show own_Fin _ _ _ _ s₁ (mkF m 2 #[.val (.int x0), .unset, .unset, .unset] [(.int (x0.toUInt32.toUInt16.toUInt32.toInt32))]) _ _ _
  refine own_go (fun _ => XS.istoreN X0.here hx rfl (hb hby at_2) rfl (l' := #[.val (.int x0), .val (.int (x0.toUInt32.toUInt16.toUInt32.toInt32)), .unset, .unset]) rfl) ?_
  show own_Fin _ _ _ _ s₁ (mkF m 3 #[.val (.int x0), .val (.int (x0.toUInt32.toUInt16.toUInt32.toInt32)), .unset, .unset] []) _ _ _
  refine own_go (fun _ => XS.iloadN X0.here hx rfl (hb hby at_3) rfl) ?_
  show own_Fin _ _ _ _ s₁ (mkF m 4 #[.val (.int x0), .val (.int (x0.toUInt32.toUInt16.toUInt32.toInt32)), .unset, .unset] [(.int (x0.toUInt32.toUInt16.toUInt32.toInt32))]) _ _ _
  refine own_go (fun _ => XS.istoreN X0.here hx rfl (hb hby at_4) rfl (l' := #[.val (.int x0), .val (.int (x0.toUInt32.toUInt16.toUInt32.toInt32)), .val (.int (x0.toUInt32.toUInt16.toUInt32.toInt32)), .unset]) rfl) ?_
  show own_Fin _ _ _ _ s₁ (mkF m 5 #[.val (.int x0), .val (.int (x0.toUInt32.toUInt16.toUInt32.toInt32)), .val (.int (x0.toUInt32.toUInt16.toUInt32.toInt32)), .unset] []) _ _ _
  refine own_go (fun _ => XS.iloadN X0.here hx rfl (hb hby at_5) rfl) ?_
  show own_Fin _ _ _ _ s₁ (mkF m 6 #[.val (.int x0), .val (.int (x0.toUInt32.toUInt16.toUInt32.toInt32)), .val (.int (x0.toUInt32.toUInt16.toUInt32.toInt32)), .unset] [(.int (x0.toUInt32.toUInt16.toUInt32.toInt32))]) _ _ _
  refine own_go (fun _ => XS.bipush X0.here hx rfl (hb hby at_6)) ?_
  show own_Fin _ _ _ _ s₁ (mkF m 8 #[.val (.int x0), .val (.int (x0.toUInt32.toUInt16.toUInt32.toInt32)), .val (.int (x0.toUInt32.toUInt16.toUInt32.toInt32)), .unset] [(.int (9 : Int32)), (.int (x0.toUInt32.toUInt16.toUInt32.toInt32))]) _ _ _
  by_cases h8 : (x0.toUInt32.toUInt16.toUInt32.toInt32) < (9 : Int32)
  · refine own_go (fun _ => XS.icmpYes X0.here hx rfl (pc0 := 8) (pc' := 17) rfl (hb hby at_8) rfl (tlt h8).1 (by decide) (by decide)) ?_
    show own_Fin _ _ _ _ s₁ (mkF m 17 #[.val (.int x0), .val (.int (x0.toUInt32.toUInt16.toUInt32.toInt32)), .val (.int (x0.toUInt32.toUInt16.toUInt32.toInt32)), .unset] []) _ _ _
    refine own_go (fun _ => XS.iloadN X0.here hx rfl (hb hby at_17) rfl) ?_
    show own_Fin _ _ _ _ s₁ (mkF m 18 #[.val (.int x0), .val (.int (x0.toUInt32.toUInt16.toUInt32.toInt32)), .val (.int (x0.toUInt32.toUInt16.toUInt32.toInt32)), .unset] [(.int (x0.toUInt32.toUInt16.toUInt32.toInt32))]) _ _ _
    refine own_go (fun _ => XS.bipush X0.here hx rfl (hb hby at_18)) ?_
    show own_Fin _ _ _ _ s₁ (mkF m 20 #[.val (.int x0), .val (.int (x0.toUInt32.toUInt16.toUInt32.toInt32)), .val (.int (x0.toUInt32.toUInt16.toUInt32.toInt32)), .unset] [(.int (32 : Int32)), (.int (x0.toUInt32.toUInt16.toUInt32.toInt32))]) _ _ _
    by_cases h20 : (x0.toUInt32.toUInt16.toUInt32.toInt32) = (32 : Int32)
    · refine own_go (fun _ => XS.icmpNo X0.here hx rfl (hb hby at_20) rfl (teq h20).2) ?_
      show own_Fin _ _ _ _ s₁ (mkF m 23 #[.val (.int x0), .val (.int (x0.toUInt32.toUInt16.toUInt32.toInt32)), .val (.int (x0.toUInt32.toUInt16.toUInt32.toInt32)), .unset] []) _ _ _
      refine own_go (fun _ => XS.iconst X0.here hx rfl (hb hby at_23)) ?_
      show own_Fin _ _ _ _ s₁ (mkF m 24 #[.val (.int x0), .val (.int (x0.toUInt32.toUInt16.toUInt32.toInt32)), .val (.int (x0.toUInt32.toUInt16.toUInt32.toInt32)), .unset] [(.int (1 : Int32))]) _ _ _
      refine own_go (fun _ => XS.goto X0.here hx rfl (pc0 := 24) (pc' := 28) rfl (hb hby at_24) (by decide) (by decide)) ?_
      show own_Fin _ _ _ _ s₁ (mkF m 28 #[.val (.int x0), .val (.int (x0.toUInt32.toUInt16.toUInt32.toInt32)), .val (.int (x0.toUInt32.toUInt16.toUInt32.toInt32)), .unset] [(.int (1 : Int32))]) _ _ _
      refine own_go (fun _ => XS.istoreN X0.here hx rfl (hb hby at_28) rfl (l' := #[.val (.int x0), .val (.int (x0.toUInt32.toUInt16.toUInt32.toInt32)), .val (.int (x0.toUInt32.toUInt16.toUInt32.toInt32)), .val (.int (1 : Int32))]) rfl) ?_
      show own_Fin _ _ _ _ s₁ (mkF m 29 #[.val (.int x0), .val (.int (x0.toUInt32.toUInt16.toUInt32.toInt32)), .val (.int (x0.toUInt32.toUInt16.toUInt32.toInt32)), .val (.int (1 : Int32))] []) _ _ _
      refine own_go (fun _ => XS.iloadN X0.here hx rfl (hb hby at_29) rfl) ?_
      show own_Fin _ _ _ _ s₁ (mkF m 30 #[.val (.int x0), .val (.int (x0.toUInt32.toUInt16.toUInt32.toInt32)), .val (.int (x0.toUInt32.toUInt16.toUInt32.toInt32)), .val (.int (1 : Int32))] [(.int (x0.toUInt32.toUInt16.toUInt32.toInt32))]) _ _ _
      obtain ⟨_, _, ⟨T1, L1, k1, n1⟩, -, X1, ⟨Lc1, hQ1, l1, y1, z1⟩, st1⟩ := Jvm.LawKit.callS X0 hx (y := (⟨"com/example/jitlens/jitlens/LogText", "isPatternSpace", "(C)Z"⟩ : MethodName)) hown (mvT hZ (hw _ (List.mem_of_getElem? (i := 0) rfl))) (mvT hZ (hw _ (List.mem_of_getElem? (i := 1) rfl))) (mvT hZ (hw _ (List.mem_of_getElem? (i := 2) rfl))) (mvT hZ (hw _ (List.mem_of_getElem? (i := 3) rfl))) (by decide) (backOf (W := 0) (rm1 l Z a0 hw [] (x0.toUInt32.toUInt16.toUInt32.toInt32)  h0 n0 Z0 ) hZ (hw _ (List.mem_of_getElem? (i := 3) rfl)) (hw _ (List.mem_of_getElem? (i := 2) rfl)) (by decide) (by decide)) (g := (mkF m 30 #[.val (.int x0), .val (.int (x0.toUInt32.toUInt16.toUInt32.toInt32)), .val (.int (x0.toUInt32.toUInt16.toUInt32.toInt32)), .val (.int (1 : Int32))] [(.int (x0.toUInt32.toUInt16.toUInt32.toInt32))])) rfl (by rw [hml]; rfl) (argsL := [(.int (x0.toUInt32.toUInt16.toUInt32.toInt32))]) (rest := []) (lenOf pd_0 rfl) rfl (by show 2 * 0 + _ ≤ _; exact Nat.le_of_eq rfl) (hb hby at_30) (fun _ _ => ⟨rfl, e0, (by decide : 0 + 0 ≤ _), (by decide : 0 + 0 ≤ _)⟩)
      dsimp only [Pt.U, Pt.locs, Pt.cells, Pt.slots] at X1 l1 y1 z1 st1 hQ1
      subst l1 y1 z1
      obtain ⟨rfl, N1q, e1⟩ := hQ1
      have N1 := Fr.app N0 N1q
      refine own_go st1 ?_
      show own_Fin _ _ _ _ T1 (mkF m 33 #[.val (.int x0), .val (.int (x0.toUInt32.toUInt16.toUInt32.toInt32)), .val (.int (x0.toUInt32.toUInt16.toUInt32.toInt32)), .val (.int (1 : Int32))] [(.int (own_sp (x0.toUInt32.toUInt16.toUInt32.toInt32)))]) _ _ _
      refine own_go (fun _ => XS.iloadN X1.here hx rfl (hb hby at_33) rfl) ?_
      show own_Fin _ _ _ _ T1 (mkF m 34 #[.val (.int x0), .val (.int (x0.toUInt32.toUInt16.toUInt32.toInt32)), .val (.int (x0.toUInt32.toUInt16.toUInt32.toInt32)), .val (.int (1 : Int32))] [(.int (1 : Int32)), (.int (own_sp (x0.toUInt32.toUInt16.toUInt32.toInt32)))]) _ _ _
      refine own_go (fun _ => XS.icmpNo X1.here hx rfl (hb hby at_34) rfl (teq (show (own_sp (x0.toUInt32.toUInt16.toUInt32.toInt32)) = (1 : Int32) from (own_sp_exp _).trans (by simp only [own_exp, if_pos h8, if_pos h20]))).2) ?_
      show own_Fin _ _ _ _ T1 (mkF m 37 #[.val (.int x0), .val (.int (x0.toUInt32.toUInt16.toUInt32.toInt32)), .val (.int (x0.toUInt32.toUInt16.toUInt32.toInt32)), .val (.int (1 : Int32))] []) _ _ _
      refine own_go (fun _ => XS.iconst X1.here hx rfl (hb hby at_37)) ?_
      show own_Fin _ _ _ _ T1 (mkF m 38 #[.val (.int x0), .val (.int (x0.toUInt32.toUInt16.toUInt32.toInt32)), .val (.int (x0.toUInt32.toUInt16.toUInt32.toInt32)), .val (.int (1 : Int32))] [(.int (1 : Int32))]) _ _ _
      refine own_go (fun _ => XS.goto X1.here hx rfl (pc0 := 38) (pc' := 42) rfl (hb hby at_38) (by decide) (by decide)) ?_
      show own_Fin _ _ _ _ T1 (mkF m 42 #[.val (.int x0), .val (.int (x0.toUInt32.toUInt16.toUInt32.toInt32)), .val (.int (x0.toUInt32.toUInt16.toUInt32.toInt32)), .val (.int (1 : Int32))] [(.int (1 : Int32))]) _ _ _
      exact own_retZ X1 hx hnl (t := .boolean) hret (by simp) (hb hby at_42) (by decide) (by decide) ⟨rfl, N1⟩
    · refine own_go (fun _ => XS.icmpYes X0.here hx rfl (pc0 := 20) (pc' := 27) rfl (hb hby at_20) rfl (feq h20).2 (by decide) (by decide)) ?_
      show own_Fin _ _ _ _ s₁ (mkF m 27 #[.val (.int x0), .val (.int (x0.toUInt32.toUInt16.toUInt32.toInt32)), .val (.int (x0.toUInt32.toUInt16.toUInt32.toInt32)), .unset] []) _ _ _
      refine own_go (fun _ => XS.iconst X0.here hx rfl (hb hby at_27)) ?_
      show own_Fin _ _ _ _ s₁ (mkF m 28 #[.val (.int x0), .val (.int (x0.toUInt32.toUInt16.toUInt32.toInt32)), .val (.int (x0.toUInt32.toUInt16.toUInt32.toInt32)), .unset] [(.int (0 : Int32))]) _ _ _
      refine own_go (fun _ => XS.istoreN X0.here hx rfl (hb hby at_28) rfl (l' := #[.val (.int x0), .val (.int (x0.toUInt32.toUInt16.toUInt32.toInt32)), .val (.int (x0.toUInt32.toUInt16.toUInt32.toInt32)), .val (.int (0 : Int32))]) rfl) ?_
      show own_Fin _ _ _ _ s₁ (mkF m 29 #[.val (.int x0), .val (.int (x0.toUInt32.toUInt16.toUInt32.toInt32)), .val (.int (x0.toUInt32.toUInt16.toUInt32.toInt32)), .val (.int (0 : Int32))] []) _ _ _
      refine own_go (fun _ => XS.iloadN X0.here hx rfl (hb hby at_29) rfl) ?_
      show own_Fin _ _ _ _ s₁ (mkF m 30 #[.val (.int x0), .val (.int (x0.toUInt32.toUInt16.toUInt32.toInt32)), .val (.int (x0.toUInt32.toUInt16.toUInt32.toInt32)), .val (.int (0 : Int32))] [(.int (x0.toUInt32.toUInt16.toUInt32.toInt32))]) _ _ _
      obtain ⟨_, _, ⟨T2, L2, k2, n2⟩, -, X2, ⟨Lc2, hQ2, l2, y2, z2⟩, st2⟩ := Jvm.LawKit.callS X0 hx (y := (⟨"com/example/jitlens/jitlens/LogText", "isPatternSpace", "(C)Z"⟩ : MethodName)) hown (mvT hZ (hw _ (List.mem_of_getElem? (i := 0) rfl))) (mvT hZ (hw _ (List.mem_of_getElem? (i := 1) rfl))) (mvT hZ (hw _ (List.mem_of_getElem? (i := 2) rfl))) (mvT hZ (hw _ (List.mem_of_getElem? (i := 3) rfl))) (by decide) (backOf (W := 0) (rm1 l Z a0 hw [] (x0.toUInt32.toUInt16.toUInt32.toInt32)  h0 n0 Z0 ) hZ (hw _ (List.mem_of_getElem? (i := 3) rfl)) (hw _ (List.mem_of_getElem? (i := 2) rfl)) (by decide) (by decide)) (g := (mkF m 30 #[.val (.int x0), .val (.int (x0.toUInt32.toUInt16.toUInt32.toInt32)), .val (.int (x0.toUInt32.toUInt16.toUInt32.toInt32)), .val (.int (0 : Int32))] [(.int (x0.toUInt32.toUInt16.toUInt32.toInt32))])) rfl (by rw [hml]; rfl) (argsL := [(.int (x0.toUInt32.toUInt16.toUInt32.toInt32))]) (rest := []) (lenOf pd_0 rfl) rfl (by show 2 * 0 + _ ≤ _; exact Nat.le_of_eq rfl) (hb hby at_30) (fun _ _ => ⟨rfl, e0, (by decide : 0 + 0 ≤ _), (by decide : 0 + 0 ≤ _)⟩)
      dsimp only [Pt.U, Pt.locs, Pt.cells, Pt.slots] at X2 l2 y2 z2 st2 hQ2
      subst l2 y2 z2
      obtain ⟨rfl, N2q, e2⟩ := hQ2
      have N2 := Fr.app N0 N2q
      refine own_go st2 ?_
      show own_Fin _ _ _ _ T2 (mkF m 33 #[.val (.int x0), .val (.int (x0.toUInt32.toUInt16.toUInt32.toInt32)), .val (.int (x0.toUInt32.toUInt16.toUInt32.toInt32)), .val (.int (0 : Int32))] [(.int (own_sp (x0.toUInt32.toUInt16.toUInt32.toInt32)))]) _ _ _
      refine own_go (fun _ => XS.iloadN X2.here hx rfl (hb hby at_33) rfl) ?_
      show own_Fin _ _ _ _ T2 (mkF m 34 #[.val (.int x0), .val (.int (x0.toUInt32.toUInt16.toUInt32.toInt32)), .val (.int (x0.toUInt32.toUInt16.toUInt32.toInt32)), .val (.int (0 : Int32))] [(.int (0 : Int32)), (.int (own_sp (x0.toUInt32.toUInt16.toUInt32.toInt32)))]) _ _ _
      refine own_go (fun _ => XS.icmpNo X2.here hx rfl (hb hby at_34) rfl (teq (show (own_sp (x0.toUInt32.toUInt16.toUInt32.toInt32)) = (0 : Int32) from (own_sp_exp _).trans (by simp only [own_exp, if_pos h8, if_neg h20]))).2) ?_
      show own_Fin _ _ _ _ T2 (mkF m 37 #[.val (.int x0), .val (.int (x0.toUInt32.toUInt16.toUInt32.toInt32)), .val (.int (x0.toUInt32.toUInt16.toUInt32.toInt32)), .val (.int (0 : Int32))] []) _ _ _
      refine own_go (fun _ => XS.iconst X2.here hx rfl (hb hby at_37)) ?_
      show own_Fin _ _ _ _ T2 (mkF m 38 #[.val (.int x0), .val (.int (x0.toUInt32.toUInt16.toUInt32.toInt32)), .val (.int (x0.toUInt32.toUInt16.toUInt32.toInt32)), .val (.int (0 : Int32))] [(.int (1 : Int32))]) _ _ _
      refine own_go (fun _ => XS.goto X2.here hx rfl (pc0 := 38) (pc' := 42) rfl (hb hby at_38) (by decide) (by decide)) ?_
      show own_Fin _ _ _ _ T2 (mkF m 42 #[.val (.int x0), .val (.int (x0.toUInt32.toUInt16.toUInt32.toInt32)), .val (.int (x0.toUInt32.toUInt16.toUInt32.toInt32)), .val (.int (0 : Int32))] [(.int (1 : Int32))]) _ _ _
      exact own_retZ X2 hx hnl (t := .boolean) hret (by simp) (hb hby at_42) (by decide) (by decide) ⟨rfl, N2⟩
  · refine own_go (fun _ => XS.icmpNo X0.here hx rfl (hb hby at_8) rfl (flt h8).1) ?_
    show own_Fin _ _ _ _ s₁ (mkF m 11 #[.val (.int x0), .val (.int (x0.toUInt32.toUInt16.toUInt32.toInt32)), .val (.int (x0.toUInt32.toUInt16.toUInt32.toInt32)), .unset] []) _ _ _
    refine own_go (fun _ => XS.iloadN X0.here hx rfl (hb hby at_11) rfl) ?_
    show own_Fin _ _ _ _ s₁ (mkF m 12 #[.val (.int x0), .val (.int (x0.toUInt32.toUInt16.toUInt32.toInt32)), .val (.int (x0.toUInt32.toUInt16.toUInt32.toInt32)), .unset] [(.int (x0.toUInt32.toUInt16.toUInt32.toInt32))]) _ _ _
    refine own_go (fun _ => XS.bipush X0.here hx rfl (hb hby at_12)) ?_
    show own_Fin _ _ _ _ s₁ (mkF m 14 #[.val (.int x0), .val (.int (x0.toUInt32.toUInt16.toUInt32.toInt32)), .val (.int (x0.toUInt32.toUInt16.toUInt32.toInt32)), .unset] [(.int (13 : Int32)), (.int (x0.toUInt32.toUInt16.toUInt32.toInt32))]) _ _ _
    by_cases h14 : (13 : Int32) < (x0.toUInt32.toUInt16.toUInt32.toInt32)
    · refine own_go (fun _ => XS.icmpNo X0.here hx rfl (hb hby at_14) rfl (tlt h14).2.2.2) ?_
      show own_Fin _ _ _ _ s₁ (mkF m 17 #[.val (.int x0), .val (.int (x0.toUInt32.toUInt16.toUInt32.toInt32)), .val (.int (x0.toUInt32.toUInt16.toUInt32.toInt32)), .unset] []) _ _ _
      refine own_go (fun _ => XS.iloadN X0.here hx rfl (hb hby at_17) rfl) ?_
      show own_Fin _ _ _ _ s₁ (mkF m 18 #[.val (.int x0), .val (.int (x0.toUInt32.toUInt16.toUInt32.toInt32)), .val (.int (x0.toUInt32.toUInt16.toUInt32.toInt32)), .unset] [(.int (x0.toUInt32.toUInt16.toUInt32.toInt32))]) _ _ _
      refine own_go (fun _ => XS.bipush X0.here hx rfl (hb hby at_18)) ?_
      show own_Fin _ _ _ _ s₁ (mkF m 20 #[.val (.int x0), .val (.int (x0.toUInt32.toUInt16.toUInt32.toInt32)), .val (.int (x0.toUInt32.toUInt16.toUInt32.toInt32)), .unset] [(.int (32 : Int32)), (.int (x0.toUInt32.toUInt16.toUInt32.toInt32))]) _ _ _
      by_cases h20 : (x0.toUInt32.toUInt16.toUInt32.toInt32) = (32 : Int32)
      · refine own_go (fun _ => XS.icmpNo X0.here hx rfl (hb hby at_20) rfl (teq h20).2) ?_
        show own_Fin _ _ _ _ s₁ (mkF m 23 #[.val (.int x0), .val (.int (x0.toUInt32.toUInt16.toUInt32.toInt32)), .val (.int (x0.toUInt32.toUInt16.toUInt32.toInt32)), .unset] []) _ _ _
        refine own_go (fun _ => XS.iconst X0.here hx rfl (hb hby at_23)) ?_
        show own_Fin _ _ _ _ s₁ (mkF m 24 #[.val (.int x0), .val (.int (x0.toUInt32.toUInt16.toUInt32.toInt32)), .val (.int (x0.toUInt32.toUInt16.toUInt32.toInt32)), .unset] [(.int (1 : Int32))]) _ _ _
        refine own_go (fun _ => XS.goto X0.here hx rfl (pc0 := 24) (pc' := 28) rfl (hb hby at_24) (by decide) (by decide)) ?_
        show own_Fin _ _ _ _ s₁ (mkF m 28 #[.val (.int x0), .val (.int (x0.toUInt32.toUInt16.toUInt32.toInt32)), .val (.int (x0.toUInt32.toUInt16.toUInt32.toInt32)), .unset] [(.int (1 : Int32))]) _ _ _
        refine own_go (fun _ => XS.istoreN X0.here hx rfl (hb hby at_28) rfl (l' := #[.val (.int x0), .val (.int (x0.toUInt32.toUInt16.toUInt32.toInt32)), .val (.int (x0.toUInt32.toUInt16.toUInt32.toInt32)), .val (.int (1 : Int32))]) rfl) ?_
        show own_Fin _ _ _ _ s₁ (mkF m 29 #[.val (.int x0), .val (.int (x0.toUInt32.toUInt16.toUInt32.toInt32)), .val (.int (x0.toUInt32.toUInt16.toUInt32.toInt32)), .val (.int (1 : Int32))] []) _ _ _
        refine own_go (fun _ => XS.iloadN X0.here hx rfl (hb hby at_29) rfl) ?_
        show own_Fin _ _ _ _ s₁ (mkF m 30 #[.val (.int x0), .val (.int (x0.toUInt32.toUInt16.toUInt32.toInt32)), .val (.int (x0.toUInt32.toUInt16.toUInt32.toInt32)), .val (.int (1 : Int32))] [(.int (x0.toUInt32.toUInt16.toUInt32.toInt32))]) _ _ _
        obtain ⟨_, _, ⟨T3, L3, k3, n3⟩, -, X3, ⟨Lc3, hQ3, l3, y3, z3⟩, st3⟩ := Jvm.LawKit.callS X0 hx (y := (⟨"com/example/jitlens/jitlens/LogText", "isPatternSpace", "(C)Z"⟩ : MethodName)) hown (mvT hZ (hw _ (List.mem_of_getElem? (i := 0) rfl))) (mvT hZ (hw _ (List.mem_of_getElem? (i := 1) rfl))) (mvT hZ (hw _ (List.mem_of_getElem? (i := 2) rfl))) (mvT hZ (hw _ (List.mem_of_getElem? (i := 3) rfl))) (by decide) (backOf (W := 0) (rm1 l Z a0 hw [] (x0.toUInt32.toUInt16.toUInt32.toInt32)  h0 n0 Z0 ) hZ (hw _ (List.mem_of_getElem? (i := 3) rfl)) (hw _ (List.mem_of_getElem? (i := 2) rfl)) (by decide) (by decide)) (g := (mkF m 30 #[.val (.int x0), .val (.int (x0.toUInt32.toUInt16.toUInt32.toInt32)), .val (.int (x0.toUInt32.toUInt16.toUInt32.toInt32)), .val (.int (1 : Int32))] [(.int (x0.toUInt32.toUInt16.toUInt32.toInt32))])) rfl (by rw [hml]; rfl) (argsL := [(.int (x0.toUInt32.toUInt16.toUInt32.toInt32))]) (rest := []) (lenOf pd_0 rfl) rfl (by show 2 * 0 + _ ≤ _; exact Nat.le_of_eq rfl) (hb hby at_30) (fun _ _ => ⟨rfl, e0, (by decide : 0 + 0 ≤ _), (by decide : 0 + 0 ≤ _)⟩)
        dsimp only [Pt.U, Pt.locs, Pt.cells, Pt.slots] at X3 l3 y3 z3 st3 hQ3
        subst l3 y3 z3
        obtain ⟨rfl, N3q, e3⟩ := hQ3
        have N3 := Fr.app N0 N3q
        refine own_go st3 ?_
        show own_Fin _ _ _ _ T3 (mkF m 33 #[.val (.int x0), .val (.int (x0.toUInt32.toUInt16.toUInt32.toInt32)), .val (.int (x0.toUInt32.toUInt16.toUInt32.toInt32)), .val (.int (1 : Int32))] [(.int (own_sp (x0.toUInt32.toUInt16.toUInt32.toInt32)))]) _ _ _
        refine own_go (fun _ => XS.iloadN X3.here hx rfl (hb hby at_33) rfl) ?_
        show own_Fin _ _ _ _ T3 (mkF m 34 #[.val (.int x0), .val (.int (x0.toUInt32.toUInt16.toUInt32.toInt32)), .val (.int (x0.toUInt32.toUInt16.toUInt32.toInt32)), .val (.int (1 : Int32))] [(.int (1 : Int32)), (.int (own_sp (x0.toUInt32.toUInt16.toUInt32.toInt32)))]) _ _ _
        refine own_go (fun _ => XS.icmpNo X3.here hx rfl (hb hby at_34) rfl (teq (show (own_sp (x0.toUInt32.toUInt16.toUInt32.toInt32)) = (1 : Int32) from (own_sp_exp _).trans (by simp only [own_exp, if_neg h8, if_pos h14, if_pos h20]))).2) ?_
        show own_Fin _ _ _ _ T3 (mkF m 37 #[.val (.int x0), .val (.int (x0.toUInt32.toUInt16.toUInt32.toInt32)), .val (.int (x0.toUInt32.toUInt16.toUInt32.toInt32)), .val (.int (1 : Int32))] []) _ _ _
        refine own_go (fun _ => XS.iconst X3.here hx rfl (hb hby at_37)) ?_
        show own_Fin _ _ _ _ T3 (mkF m 38 #[.val (.int x0), .val (.int (x0.toUInt32.toUInt16.toUInt32.toInt32)), .val (.int (x0.toUInt32.toUInt16.toUInt32.toInt32)), .val (.int (1 : Int32))] [(.int (1 : Int32))]) _ _ _
        refine own_go (fun _ => XS.goto X3.here hx rfl (pc0 := 38) (pc' := 42) rfl (hb hby at_38) (by decide) (by decide)) ?_
        show own_Fin _ _ _ _ T3 (mkF m 42 #[.val (.int x0), .val (.int (x0.toUInt32.toUInt16.toUInt32.toInt32)), .val (.int (x0.toUInt32.toUInt16.toUInt32.toInt32)), .val (.int (1 : Int32))] [(.int (1 : Int32))]) _ _ _
        exact own_retZ X3 hx hnl (t := .boolean) hret (by simp) (hb hby at_42) (by decide) (by decide) ⟨rfl, N3⟩
      · refine own_go (fun _ => XS.icmpYes X0.here hx rfl (pc0 := 20) (pc' := 27) rfl (hb hby at_20) rfl (feq h20).2 (by decide) (by decide)) ?_
        show own_Fin _ _ _ _ s₁ (mkF m 27 #[.val (.int x0), .val (.int (x0.toUInt32.toUInt16.toUInt32.toInt32)), .val (.int (x0.toUInt32.toUInt16.toUInt32.toInt32)), .unset] []) _ _ _
        refine own_go (fun _ => XS.iconst X0.here hx rfl (hb hby at_27)) ?_
        show own_Fin _ _ _ _ s₁ (mkF m 28 #[.val (.int x0), .val (.int (x0.toUInt32.toUInt16.toUInt32.toInt32)), .val (.int (x0.toUInt32.toUInt16.toUInt32.toInt32)), .unset] [(.int (0 : Int32))]) _ _ _
        refine own_go (fun _ => XS.istoreN X0.here hx rfl (hb hby at_28) rfl (l' := #[.val (.int x0), .val (.int (x0.toUInt32.toUInt16.toUInt32.toInt32)), .val (.int (x0.toUInt32.toUInt16.toUInt32.toInt32)), .val (.int (0 : Int32))]) rfl) ?_
        show own_Fin _ _ _ _ s₁ (mkF m 29 #[.val (.int x0), .val (.int (x0.toUInt32.toUInt16.toUInt32.toInt32)), .val (.int (x0.toUInt32.toUInt16.toUInt32.toInt32)), .val (.int (0 : Int32))] []) _ _ _
        refine own_go (fun _ => XS.iloadN X0.here hx rfl (hb hby at_29) rfl) ?_
        show own_Fin _ _ _ _ s₁ (mkF m 30 #[.val (.int x0), .val (.int (x0.toUInt32.toUInt16.toUInt32.toInt32)), .val (.int (x0.toUInt32.toUInt16.toUInt32.toInt32)), .val (.int (0 : Int32))] [(.int (x0.toUInt32.toUInt16.toUInt32.toInt32))]) _ _ _
        obtain ⟨_, _, ⟨T4, L4, k4, n4⟩, -, X4, ⟨Lc4, hQ4, l4, y4, z4⟩, st4⟩ := Jvm.LawKit.callS X0 hx (y := (⟨"com/example/jitlens/jitlens/LogText", "isPatternSpace", "(C)Z"⟩ : MethodName)) hown (mvT hZ (hw _ (List.mem_of_getElem? (i := 0) rfl))) (mvT hZ (hw _ (List.mem_of_getElem? (i := 1) rfl))) (mvT hZ (hw _ (List.mem_of_getElem? (i := 2) rfl))) (mvT hZ (hw _ (List.mem_of_getElem? (i := 3) rfl))) (by decide) (backOf (W := 0) (rm1 l Z a0 hw [] (x0.toUInt32.toUInt16.toUInt32.toInt32)  h0 n0 Z0 ) hZ (hw _ (List.mem_of_getElem? (i := 3) rfl)) (hw _ (List.mem_of_getElem? (i := 2) rfl)) (by decide) (by decide)) (g := (mkF m 30 #[.val (.int x0), .val (.int (x0.toUInt32.toUInt16.toUInt32.toInt32)), .val (.int (x0.toUInt32.toUInt16.toUInt32.toInt32)), .val (.int (0 : Int32))] [(.int (x0.toUInt32.toUInt16.toUInt32.toInt32))])) rfl (by rw [hml]; rfl) (argsL := [(.int (x0.toUInt32.toUInt16.toUInt32.toInt32))]) (rest := []) (lenOf pd_0 rfl) rfl (by show 2 * 0 + _ ≤ _; exact Nat.le_of_eq rfl) (hb hby at_30) (fun _ _ => ⟨rfl, e0, (by decide : 0 + 0 ≤ _), (by decide : 0 + 0 ≤ _)⟩)
        dsimp only [Pt.U, Pt.locs, Pt.cells, Pt.slots] at X4 l4 y4 z4 st4 hQ4
        subst l4 y4 z4
        obtain ⟨rfl, N4q, e4⟩ := hQ4
        have N4 := Fr.app N0 N4q
        refine own_go st4 ?_
        show own_Fin _ _ _ _ T4 (mkF m 33 #[.val (.int x0), .val (.int (x0.toUInt32.toUInt16.toUInt32.toInt32)), .val (.int (x0.toUInt32.toUInt16.toUInt32.toInt32)), .val (.int (0 : Int32))] [(.int (own_sp (x0.toUInt32.toUInt16.toUInt32.toInt32)))]) _ _ _
        refine own_go (fun _ => XS.iloadN X4.here hx rfl (hb hby at_33) rfl) ?_
        show own_Fin _ _ _ _ T4 (mkF m 34 #[.val (.int x0), .val (.int (x0.toUInt32.toUInt16.toUInt32.toInt32)), .val (.int (x0.toUInt32.toUInt16.toUInt32.toInt32)), .val (.int (0 : Int32))] [(.int (0 : Int32)), (.int (own_sp (x0.toUInt32.toUInt16.toUInt32.toInt32)))]) _ _ _
        refine own_go (fun _ => XS.icmpNo X4.here hx rfl (hb hby at_34) rfl (teq (show (own_sp (x0.toUInt32.toUInt16.toUInt32.toInt32)) = (0 : Int32) from (own_sp_exp _).trans (by simp only [own_exp, if_neg h8, if_pos h14, if_neg h20]))).2) ?_
        show own_Fin _ _ _ _ T4 (mkF m 37 #[.val (.int x0), .val (.int (x0.toUInt32.toUInt16.toUInt32.toInt32)), .val (.int (x0.toUInt32.toUInt16.toUInt32.toInt32)), .val (.int (0 : Int32))] []) _ _ _
        refine own_go (fun _ => XS.iconst X4.here hx rfl (hb hby at_37)) ?_
        show own_Fin _ _ _ _ T4 (mkF m 38 #[.val (.int x0), .val (.int (x0.toUInt32.toUInt16.toUInt32.toInt32)), .val (.int (x0.toUInt32.toUInt16.toUInt32.toInt32)), .val (.int (0 : Int32))] [(.int (1 : Int32))]) _ _ _
        refine own_go (fun _ => XS.goto X4.here hx rfl (pc0 := 38) (pc' := 42) rfl (hb hby at_38) (by decide) (by decide)) ?_
        show own_Fin _ _ _ _ T4 (mkF m 42 #[.val (.int x0), .val (.int (x0.toUInt32.toUInt16.toUInt32.toInt32)), .val (.int (x0.toUInt32.toUInt16.toUInt32.toInt32)), .val (.int (0 : Int32))] [(.int (1 : Int32))]) _ _ _
        exact own_retZ X4 hx hnl (t := .boolean) hret (by simp) (hb hby at_42) (by decide) (by decide) ⟨rfl, N4⟩
    · refine own_go (fun _ => XS.icmpYes X0.here hx rfl (pc0 := 14) (pc' := 23) rfl (hb hby at_14) rfl (flt h14).2.2.2 (by decide) (by decide)) ?_
      show own_Fin _ _ _ _ s₁ (mkF m 23 #[.val (.int x0), .val (.int (x0.toUInt32.toUInt16.toUInt32.toInt32)), .val (.int (x0.toUInt32.toUInt16.toUInt32.toInt32)), .unset] []) _ _ _
      refine own_go (fun _ => XS.iconst X0.here hx rfl (hb hby at_23)) ?_
      show own_Fin _ _ _ _ s₁ (mkF m 24 #[.val (.int x0), .val (.int (x0.toUInt32.toUInt16.toUInt32.toInt32)), .val (.int (x0.toUInt32.toUInt16.toUInt32.toInt32)), .unset] [(.int (1 : Int32))]) _ _ _
      refine own_go (fun _ => XS.goto X0.here hx rfl (pc0 := 24) (pc' := 28) rfl (hb hby at_24) (by decide) (by decide)) ?_
      show own_Fin _ _ _ _ s₁ (mkF m 28 #[.val (.int x0), .val (.int (x0.toUInt32.toUInt16.toUInt32.toInt32)), .val (.int (x0.toUInt32.toUInt16.toUInt32.toInt32)), .unset] [(.int (1 : Int32))]) _ _ _
      refine own_go (fun _ => XS.istoreN X0.here hx rfl (hb hby at_28) rfl (l' := #[.val (.int x0), .val (.int (x0.toUInt32.toUInt16.toUInt32.toInt32)), .val (.int (x0.toUInt32.toUInt16.toUInt32.toInt32)), .val (.int (1 : Int32))]) rfl) ?_
      show own_Fin _ _ _ _ s₁ (mkF m 29 #[.val (.int x0), .val (.int (x0.toUInt32.toUInt16.toUInt32.toInt32)), .val (.int (x0.toUInt32.toUInt16.toUInt32.toInt32)), .val (.int (1 : Int32))] []) _ _ _
      refine own_go (fun _ => XS.iloadN X0.here hx rfl (hb hby at_29) rfl) ?_
      show own_Fin _ _ _ _ s₁ (mkF m 30 #[.val (.int x0), .val (.int (x0.toUInt32.toUInt16.toUInt32.toInt32)), .val (.int (x0.toUInt32.toUInt16.toUInt32.toInt32)), .val (.int (1 : Int32))] [(.int (x0.toUInt32.toUInt16.toUInt32.toInt32))]) _ _ _
      obtain ⟨_, _, ⟨T5, L5, k5, n5⟩, -, X5, ⟨Lc5, hQ5, l5, y5, z5⟩, st5⟩ := Jvm.LawKit.callS X0 hx (y := (⟨"com/example/jitlens/jitlens/LogText", "isPatternSpace", "(C)Z"⟩ : MethodName)) hown (mvT hZ (hw _ (List.mem_of_getElem? (i := 0) rfl))) (mvT hZ (hw _ (List.mem_of_getElem? (i := 1) rfl))) (mvT hZ (hw _ (List.mem_of_getElem? (i := 2) rfl))) (mvT hZ (hw _ (List.mem_of_getElem? (i := 3) rfl))) (by decide) (backOf (W := 0) (rm1 l Z a0 hw [] (x0.toUInt32.toUInt16.toUInt32.toInt32)  h0 n0 Z0 ) hZ (hw _ (List.mem_of_getElem? (i := 3) rfl)) (hw _ (List.mem_of_getElem? (i := 2) rfl)) (by decide) (by decide)) (g := (mkF m 30 #[.val (.int x0), .val (.int (x0.toUInt32.toUInt16.toUInt32.toInt32)), .val (.int (x0.toUInt32.toUInt16.toUInt32.toInt32)), .val (.int (1 : Int32))] [(.int (x0.toUInt32.toUInt16.toUInt32.toInt32))])) rfl (by rw [hml]; rfl) (argsL := [(.int (x0.toUInt32.toUInt16.toUInt32.toInt32))]) (rest := []) (lenOf pd_0 rfl) rfl (by show 2 * 0 + _ ≤ _; exact Nat.le_of_eq rfl) (hb hby at_30) (fun _ _ => ⟨rfl, e0, (by decide : 0 + 0 ≤ _), (by decide : 0 + 0 ≤ _)⟩)
      dsimp only [Pt.U, Pt.locs, Pt.cells, Pt.slots] at X5 l5 y5 z5 st5 hQ5
      subst l5 y5 z5
      obtain ⟨rfl, N5q, e5⟩ := hQ5
      have N5 := Fr.app N0 N5q
      refine own_go st5 ?_
      show own_Fin _ _ _ _ T5 (mkF m 33 #[.val (.int x0), .val (.int (x0.toUInt32.toUInt16.toUInt32.toInt32)), .val (.int (x0.toUInt32.toUInt16.toUInt32.toInt32)), .val (.int (1 : Int32))] [(.int (own_sp (x0.toUInt32.toUInt16.toUInt32.toInt32)))]) _ _ _
      refine own_go (fun _ => XS.iloadN X5.here hx rfl (hb hby at_33) rfl) ?_
      show own_Fin _ _ _ _ T5 (mkF m 34 #[.val (.int x0), .val (.int (x0.toUInt32.toUInt16.toUInt32.toInt32)), .val (.int (x0.toUInt32.toUInt16.toUInt32.toInt32)), .val (.int (1 : Int32))] [(.int (1 : Int32)), (.int (own_sp (x0.toUInt32.toUInt16.toUInt32.toInt32)))]) _ _ _
      refine own_go (fun _ => XS.icmpNo X5.here hx rfl (hb hby at_34) rfl (teq (show (own_sp (x0.toUInt32.toUInt16.toUInt32.toInt32)) = (1 : Int32) from (own_sp_exp _).trans (by simp only [own_exp, if_neg h8, if_neg h14]))).2) ?_
      show own_Fin _ _ _ _ T5 (mkF m 37 #[.val (.int x0), .val (.int (x0.toUInt32.toUInt16.toUInt32.toInt32)), .val (.int (x0.toUInt32.toUInt16.toUInt32.toInt32)), .val (.int (1 : Int32))] []) _ _ _
      refine own_go (fun _ => XS.iconst X5.here hx rfl (hb hby at_37)) ?_
      show own_Fin _ _ _ _ T5 (mkF m 38 #[.val (.int x0), .val (.int (x0.toUInt32.toUInt16.toUInt32.toInt32)), .val (.int (x0.toUInt32.toUInt16.toUInt32.toInt32)), .val (.int (1 : Int32))] [(.int (1 : Int32))]) _ _ _
      refine own_go (fun _ => XS.goto X5.here hx rfl (pc0 := 38) (pc' := 42) rfl (hb hby at_38) (by decide) (by decide)) ?_
      show own_Fin _ _ _ _ T5 (mkF m 42 #[.val (.int x0), .val (.int (x0.toUInt32.toUInt16.toUInt32.toInt32)), .val (.int (x0.toUInt32.toUInt16.toUInt32.toInt32)), .val (.int (1 : Int32))] [(.int (1 : Int32))]) _ _ _
      exact own_retZ X5 hx hnl (t := .boolean) hret (by simp) (hb hby at_42) (by decide) (by decide) ⟨rfl, N5⟩

set_option maxRecDepth 65536 in
set_option maxHeartbeats 40000000 in
theorem comes_1 {Post : Tables → Env → Array Value → State → Outcome → State → Prop} (hpost : ∀ tb e args s v u, (limb_1_1.after args s (.returned v) u = true ∧ limb_1_2.after args s (.returned v) u = true) → FrameEnd s (.returned v) u (Jvm.fieldLocs frame_1_writes args s ++ Jvm.arrayLocs frame_1_arrays args s ++ Jvm.staticLocs frame_1_statics s) 0 0 → Post tb e args s (.returned v) u) :
    ArmFor flags0 classFile x code maxLocals ret World_1 tables_1 room_1 Calls_1 rest_1 Pre_1 Post := by
  intro l hfl _ _ p e ha hc hk s m args below hf hA hF happ hP
  obtain ⟨hcalls, hrest, hpre⟩ := hP
  obtain ⟨-, -, -, hnamed, -, -, -, hat⟩ := (Spec.applies_iff hf).mp happ
  obtain ⟨hg, hn⟩ := and_e (Cond.before_iff.mp (show (Jvm.Cond.and given_1 narrow_1).before args s = true from hpre))
  obtain ⟨gg1, gg2⟩ := and_e hg
  obtain ⟨w0, rfl⟩ : ∃ w0 : Value, args = #[w0] := by
    have hs : args.size = 1 := by simpa [Cond.value, given_1] using gg1
    obtain ⟨L⟩ := args
    match L, hs with
    | [w0], _ => exact ⟨w0, rfl⟩
  have hw := fun d (hd : d ∈ tables_1) => atoms_spec (ws := Jvm.Cond.code x code maxLocals ret :: tables_1) hat d (List.mem_cons_of_mem _ hd)
  obtain ⟨i0, ei0⟩ := is_v gg2
  obtain rfl : w0 = (.int i0) := Option.some.inj ei0
  obtain ⟨n, o, h1, h2, h3, _, L, rfl, ⟨rfl, N⟩, hq⟩ := rm0 l s _ hw tables_1 i0 s.heap s.heap.size (Nat.le_refl _) p e ha hc hk s m _ below hf ((Spec.applies_iff_loose hf).mp happ).1 ⟨rfl, State.Warmed39.refl s, rfl⟩ trivial
  refine ⟨n, _, h1, h2, h3, hpost _ _ _ _ _ _ ⟨Cond.after_iff.mpr rfl, Cond.after_iff.mpr (eq_i res_at (Term.int_eval (1)) rfl)⟩ ⟨hq.1, hq.2.1, (hq.2.2.sift fun y hy => Or.inr (N y hy)).mono (by decide) (by decide)⟩⟩
theorem main_1_1 : Claimed_1_1 := comes_1 fun _ _ _ _ _ _ h hF => ⟨h.1, hF⟩
theorem main_1_2 : Claimed_1_2 := comes_1 fun _ _ _ _ _ _ h hF => ⟨h.2, hF⟩
end Jvm.Pilot.@@N@@
namespace Jvm.Pilot.@@N@@
open Jvm Jvm.ClassFile Sem Op Lib Jvm.Free Jvm.Stand Jvm.Pilot.@@N@@.Jvm.D
/-! MADE BY PROGRAM (witnessworld.py) out of the Statement's table words and the real class files: 9 classes; the members and pool entries that the words name. The judged class is class 1, her method 1. -/
namespace start1
open Jvm.ClassFile
def u (s : String) : CpInfo := .utf8 (stringToUtf16 s)
/-- a pool by its gaps: so many unusable entries, then the entry; so many at the end -/
def gap : Nat → List CpInfo → List CpInfo
  | 0, r => r
  | n + 1, r => .unusable :: gap n r
def poolList (es : List (Nat × CpInfo)) (last : Nat) : List CpInfo := es.foldr (fun e r => gap e.1 (e.2 :: r)) (gap last [])
def pool (es : List (Nat × CpInfo)) (last : Nat) : Array CpInfo := ⟨poolList es last⟩
def fileOf (pool : Array CpInfo) (this : Nat) (attrs : Array Attribute := #[]) (ms : Array MethodInfo := #[]) (fl : Nat := 33) (sup : Nat := 0) (ifs : Array Nat := #[]) (fds : Array FieldInfo := #[]) : ClassFile where
  minorVersion := 0
  majorVersion := 65
  constantPool := pool
  accessFlags := fl
  thisClass := this
  superClass := sup
  interfaces := ifs
  fields := fds
  methods := ms
  attributes := attrs
def plain (name : String) (sup : Option ClassId) : Class where
  name := name
  kind := .ordinary
  loader := none
  accessFlags := 33
  super := sup
  interfaces := #[]
  cf := none
  fields := #[]
  methods := #[]
  instanceTypes := #[]
  staticTypes := #[]
  resolved := #[]
  callSites := []
  init := .initialized
  statics := none
  mirror := none

def pool0 : Array CpInfo := pool [(5, u "<init>"), (0, u "()V"), (1, .class_ 10), (1, u "java/lang/Object")] 113

def k0m0 : Method := { name := "<init>", desc := "()V", sig := { parameters := [], returnType := none }, accessFlags := 1, code := none }
/-- java/lang/Object -/
def k0 : Class := { plain "java/lang/Object" none with
  accessFlags := 33
  interfaces := #[]
  cf := some (fileOf pool0 8 #[] #[{ accessFlags := 1, nameIndex := 5, descriptorIndex := 6, attributes := #[] }] 33 0 #[] #[])
  fields := #[]
  methods := #[k0m0]
  instanceTypes := #[]
  staticTypes := #[]
  resolved := Array.replicate 124 none
  statics := none }

def pool1 : Array CpInfo := pool [(2, .class_ 4), (1, u "java/lang/Object"), (0, u "<init>"), (0, u "()V"), (0, .methodref 8 9), (0, .class_ 10), (0, .nameAndType 11 12), (0, u "com/example/jitlens/jitlens/LogText"), (0, u "isPatternSpace"), (0, u "(C)Z"), (0, .class_ 14), (0, u "com/example/jitlens/jitlens/LogTextIsPatternSpacePinLaw"), (2, u "law"), (0, u "(I)Z")] 3

def k1m0 : Method := { name := "<init>", desc := "()V", sig := { parameters := [], returnType := none }, accessFlags := 2, code := none }
def k1c1 : Code := { maxStack := 2, maxLocals := 4, code := code, exceptionTable := #[], attributes := #[] }
def k1m1 : Method := { name := "law", desc := "(I)Z", sig := { parameters := [.int], returnType := some .boolean }, accessFlags := 9, code := some k1c1 }
/-- com/example/jitlens/jitlens/LogTextIsPatternSpacePinLaw -/
def k1 : Class := { plain "com/example/jitlens/jitlens/LogTextIsPatternSpacePinLaw" (some 0) with
  accessFlags := 49
  interfaces := #[]
  cf := some (fileOf pool1 13 #[] #[{ accessFlags := 2, nameIndex := 5, descriptorIndex := 6, attributes := #[] }, { accessFlags := 9, nameIndex := 17, descriptorIndex := 18, attributes := #[] }] 49 2 #[] #[])
  fields := #[]
  methods := #[k1m0, k1m1]
  instanceTypes := #[]
  staticTypes := #[]
  resolved := Array.replicate 22 none
  statics := none }

def pool2 : Array CpInfo := pool [(2, .class_ 4), (1, u "java/lang/Object"), (0, u "<init>"), (0, u "()V"), (7, .class_ 16), (1, u "com/example/jitlens/jitlens/LogText"), (0, u "PATTERN_SPACES"), (0, u "[Z"), (8, u "WORDS"), (0, u "Ljava/lang/invoke/VarHandle;"), (32, u "isPatternSpace"), (0, u "(C)Z"), (24, u "CHARSET"), (0, u "Ljava/nio/charset/Charset;"), (104, u "REPLACEMENT"), (0, u "C"), (1, u "SURROGATE_BYTES"), (0, u "I"), (1, u "ONES"), (0, u "J"), (0, u "HIGH_BITS")] 36

def k2m0 : Method := { name := "<init>", desc := "()V", sig := { parameters := [], returnType := none }, accessFlags := 2, code := none }
def k2c1 : Code := { maxStack := 2, maxLocals := 1, code := prog_103_method_4_code, exceptionTable := #[], attributes := #[] }
def k2m1 : Method := { name := "isPatternSpace", desc := "(C)Z", sig := { parameters := [.char], returnType := some .boolean }, accessFlags := 8, code := some k2c1 }
/-- com/example/jitlens/jitlens/LogText -/
def k2 : Class := { plain "com/example/jitlens/jitlens/LogText" (some 0) with
  accessFlags := 48
  interfaces := #[]
  cf := some (fileOf pool2 14 #[] #[{ accessFlags := 2, nameIndex := 5, descriptorIndex := 6, attributes := #[] }, { accessFlags := 8, nameIndex := 61, descriptorIndex := 62, attributes := #[] }] 48 2 #[] #[{ accessFlags := 24, nameIndex := 87, descriptorIndex := 88, attributes := #[] }, { accessFlags := 26, nameIndex := 193, descriptorIndex := 194, attributes := #[] }, { accessFlags := 26, nameIndex := 196, descriptorIndex := 197, attributes := #[] }, { accessFlags := 26, nameIndex := 27, descriptorIndex := 28, attributes := #[] }, { accessFlags := 26, nameIndex := 199, descriptorIndex := 200, attributes := #[] }, { accessFlags := 26, nameIndex := 201, descriptorIndex := 200, attributes := #[] }, { accessFlags := 26, nameIndex := 17, descriptorIndex := 18, attributes := #[] }])
  fields := #[{ name := "CHARSET", type := (.object "java/nio/charset/Charset"), accessFlags := 24, slot := 0, constantValue := 0 }, { name := "REPLACEMENT", type := .char, accessFlags := 26, slot := 1, constantValue := 0 }, { name := "SURROGATE_BYTES", type := .int, accessFlags := 26, slot := 2, constantValue := 0 }, { name := "WORDS", type := (.object "java/lang/invoke/VarHandle"), accessFlags := 26, slot := 3, constantValue := 0 }, { name := "ONES", type := .long, accessFlags := 26, slot := 4, constantValue := 0 }, { name := "HIGH_BITS", type := .long, accessFlags := 26, slot := 5, constantValue := 0 }, { name := "PATTERN_SPACES", type := (.array .boolean), accessFlags := 26, slot := 6, constantValue := 0 }]
  methods := #[k2m0, k2m1]
  instanceTypes := #[]
  staticTypes := #[(.object "java/nio/charset/Charset"), .char, .int, (.object "java/lang/invoke/VarHandle"), .long, .long, (.array .boolean)]
  resolved := Array.replicate 238 none
  statics := none }

def pool3 : Array CpInfo := pool [(1, u "java/lang/Cloneable"), (0, .class_ 1), (0, u "java/lang/Object"), (0, .class_ 3)] 3

/-- java/lang/Cloneable -/
def k3 : Class := { plain "java/lang/Cloneable" (some 0) with
  accessFlags := 1537
  interfaces := #[]
  cf := some (fileOf pool3 2 #[] #[] 1537 4 #[] #[])
  fields := #[]
  methods := #[]
  instanceTypes := #[]
  staticTypes := #[]
  resolved := Array.replicate 8 none
  statics := none }

def pool4 : Array CpInfo := pool [(1, u "java/io/Serializable"), (0, .class_ 1), (0, u "java/lang/Object"), (0, .class_ 3)] 3

/-- java/io/Serializable -/
def k4 : Class := { plain "java/io/Serializable" (some 0) with
  accessFlags := 1537
  interfaces := #[]
  cf := some (fileOf pool4 2 #[] #[] 1537 4 #[] #[])
  fields := #[]
  methods := #[]
  instanceTypes := #[]
  staticTypes := #[]
  resolved := Array.replicate 8 none
  statics := none }

/-- the primitive byte -/
def k5 : Class := { plain "byte" none with kind := .primitive 'B', accessFlags := 0x411 }
/-- [B -/
def k6 : Class := { plain "[B" (some 0) with kind := .array 5 .byte, interfaces := #[3, 4], accessFlags := 1041 }

/-- the primitive int -/
def k7 : Class := { plain "int" none with kind := .primitive 'I', accessFlags := 0x411 }
/-- [I -/
def k8 : Class := { plain "[I" (some 0) with kind := .array 7 .int, interfaces := #[3, 4], accessFlags := 1041 }

def heap : Heap := #[]
def classes : Array Class := #[k0, k1, k2, k3, k4, k5, k6, k7, k8]
def interned : List (Array UInt16 × Addr) := []
def slotsUsed : Nat := 0
def theMethod : MethodId := ⟨1, 1⟩
def args0 : Array Value := #[.int 5]
def aboutOver (below : List Frame) : State where
  vm := { classes := classes, interned := interned.toArray }
  heap := heap
  slotsUsed := slotsUsed
  threads := #[{ frames := .invoking theMethod args0 :: below }]
def below0 : List Frame := [.native { method := ⟨0, 0⟩, args := #[] }]
def about1 : State := aboutOver below0
def p0 : Program := .bare "" "" ""
def e0 : Env := launch0.env 0 0 0
theorem w_frames : about1.frames = Frame.invoking theMethod args0 :: below0 := rfl
set_option maxRecDepth 65536 in
theorem w_args : argsFit about1.vm theMethod args0 = true := by decide +kernel
set_option maxRecDepth 65536 in
theorem w_heap : heapFits about1 = true := by decide +kernel
set_option maxRecDepth 65536 in
theorem w_runnable : about1.curStatus? = some .runnable := by decide +kernel
set_option maxRecDepth 65536 in
theorem w_alone : about1.alone = true := by decide +kernel
set_option maxRecDepth 65536 in
theorem w_named : about1.methodNamed? x = some theMethod := by decide +kernel
set_option maxRecDepth 65536 in
theorem w_hears : about1.hears theMethod below0 = true := by decide +kernel
set_option maxRecDepth 65536 in
theorem w_ripe : about1.ripe theMethod args0 below0 = true := by decide +kernel
theorem w_running : about1.status = .running := rfl
set_option maxRecDepth 65536 in
theorem w_room : about1.hasRoom e0.platform room_1 = true :=
  launch0.hasRoom_least _ room_1 (by decide +kernel) (by decide +kernel) (by decide +kernel) (by decide +kernel) (by decide +kernel) (by decide +kernel)
theorem allAtoms_all (ts : List Jvm.Cond) (a : Array Jvm.Value) (st : Jvm.State) : (allAtoms ts).before a st = ts.all (fun c => c.before a st) := by
  induction ts with
  | nil => rfl
  | cons c t ih =>
    show (Jvm.Cond.and c (allAtoms t)).before a st = _
    rw [Jvm.Cond.before_and, ih, List.all_cons]
def words1 : List Jvm.Cond := Jvm.Cond.code x code maxLocals ret :: tables_1
/-- a 'code' word, met by the world's own term for the bytes: nothing is compared byte by byte -/
theorem code_word {y : MethodName} {bytes : ByteArray} {mx : Nat} {rt : Option FieldType} {a : Array Value} {s : State} {m : MethodId} {meth : Method} {c : Code} (h1 : s.methodNamed? y = some m) (h2 : s.vm.method? m = some meth) (h3 : meth.code = some c) (h4 : c.code = bytes)
    (h5 : (c.maxLocals == mx && c.exceptionTable.isEmpty && decide (c.maxStack ≤ mostOperands) && decide (meth.sig.returnType = rt) && !meth.locks && decide (parseMethodDescriptor y.desc = some meth.sig)) = true) : (Jvm.Cond.code y bytes mx rt).before a s = true := by
  simp only [Bool.and_eq_true, beq_iff_eq, Bool.not_eq_true', decide_eq_true_eq] at h5
  obtain ⟨⟨⟨⟨⟨g1, g2⟩, g3⟩, g4⟩, g5⟩, g6⟩ := h5
  simp [Cond.before, Cond.holds, Cond.value, h1, h2, h3, h4, g1, g2, g3, g4, g5, g6]
def isCode : Jvm.Cond → Bool
  | .code _ _ _ _ => true
  | _ => false
theorem all_split {L : List Jvm.Cond} {P : Jvm.Cond → Bool} (h1 : L.all (fun c => isCode c || P c) = true) (h2 : ∀ c ∈ L.filter isCode, P c = true) : L.all P = true := by
  refine List.all_eq_true.mpr fun c hc => ?_
  have h := List.all_eq_true.mp h1 c hc
  rcases Bool.eq_false_or_eq_true (isCode c) with hi | hi
  · exact h2 c (List.mem_filter.mpr ⟨hc, hi⟩)
  · simpa [hi] using h
set_option maxRecDepth 65536 in
theorem w_c0 : (Jvm.Cond.code x code maxLocals ret).before args0 about1 = true := code_word (m := ⟨1, 1⟩) (meth := k1m1) (c := k1c1) (by decide +kernel) rfl rfl rfl (by decide +kernel)
set_option maxRecDepth 65536 in
theorem w_c1 : (Jvm.Cond.code ({ cls := "com/example/jitlens/jitlens/LogText", name := "isPatternSpace", desc := "(C)Z" } : Jvm.MethodName) prog_103_method_4_code (1 : Nat) (Option.some Jvm.ClassFile.FieldType.boolean)).before args0 about1 = true := code_word (m := ⟨2, 1⟩) (meth := k2m1) (c := k2c1) (by decide +kernel) rfl rfl rfl (by decide +kernel)
def codes1 : List Jvm.Cond := [Jvm.Cond.code x code maxLocals ret, Jvm.Cond.code ({ cls := "com/example/jitlens/jitlens/LogText", name := "isPatternSpace", desc := "(C)Z" } : Jvm.MethodName) prog_103_method_4_code (1 : Nat) (Option.some Jvm.ClassFile.FieldType.boolean)]
set_option maxRecDepth 65536 in
theorem codes_eq : words1.filter isCode = codes1 := rfl
theorem w_codes : ∀ c ∈ words1.filter isCode, c.before args0 about1 = true := by
  rw [codes_eq]
  intro c hc
  simp only [codes1, List.mem_cons, List.not_mem_nil, or_false] at hc
  rcases hc with rfl | rfl
  · exact w_c0
  · exact w_c1
set_option maxRecDepth 65536 in
theorem w_t1 : words1.all (fun c => isCode c || c.before args0 about1) = true := by decide +kernel
theorem w_tables : (allAtoms (Jvm.Cond.code x code maxLocals ret :: tables_1)).before args0 about1 = true := by
  rw [allAtoms_all]
  show words1.all (fun c => c.before args0 about1) = true
  refine all_split ?_ w_codes
  rw [w_t1]
set_option maxRecDepth 65536 in
theorem w_case : (Jvm.Cond.and given_1 narrow_1).before args0 about1 = true := by decide +kernel
theorem w_applies : (headSpec (Jvm.Cond.code x code maxLocals ret :: tables_1) room_1).applies x e0.platform about1 = true :=
  (Spec.applies_iff w_frames).mpr ⟨w_running, w_runnable, w_alone, w_named, w_hears, w_ripe, w_room, w_tables⟩
theorem atStart : AtStart classFile x code maxLocals ret World_1 tables_1 room_1 Calls_1 rest_1 Pre_1 launch0 p0 e0 about1 theMethod args0 below0 :=
  ⟨lists_1, trivial, launch0.admits_env _ _ _, launch0.least_env, fairChoices_fair.cas, fairChoices_fair.clock, w_frames, w_args, w_heap, w_applies, trivial, trivial, w_case⟩
end start1
theorem witness_1 : WitnessClaimed_1 := ⟨start1.p0, start1.e0, start1.about1, start1.theMethod, start1.args0, start1.below0, start1.atStart⟩
end Jvm.Pilot.@@N@@
