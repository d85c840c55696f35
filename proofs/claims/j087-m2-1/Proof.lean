import JvmDerived
import JvmDerived.Pilot.@@N@@Statement
import JvmDerived.Pilot.@@N@@Code
set_option linter.unusedVariables false
set_option linter.unusedSimpArgs false
@@BLOCK:NumsL.lean.txt@@
namespace Jvm.Pilot.@@N@@
open Jvm Jvm.ClassFile Sem Op Lib Jvm.Free Jvm.Stand Jvm.LawKit Jvm.RoadKit Bundle Jvm.Pilot.@@N@@.Jvm.D
/-! from the frame g at T the run ends in a return: Q of what is returned, the heap and the written places -/
def own_Fin (p : Program) (e : Env) (below : List Frame) (s T : State) (g : JFrame) (Q : Option Value → Heap → List Loc → Prop) (C S : Nat) : Prop :=
  ∃ s₂ o, Steps p.tables e below (T.setTop g) s₂ ∧ s₂.status = .running ∧ Ended s₂ below o ∧ ∃ v L, o = .returned v ∧ Q v s₂.heap L ∧ FrameEnd s o s₂ L C S
section Own
variable {p : Program} {l : Launch} {e : Env} {R : Room} {s : State} {m : MethodId} {args : Array Value} {below : List Frame} {meth : Method} {c : Code} {T T' : State} {g g' : JFrame} {locs : List Loc} {cells slots C S : Nat} {Q : Option Value → Heap → List Loc → Prop}
theorem own_go (h : ∀ t, Steps p.tables e below (T'.setTop g') t → Steps p.tables e below (T.setTop g) t) (k : own_Fin p e below s T' g' Q C S) : own_Fin p e below s T g Q C S := by
  obtain ⟨s2, o, h1, r⟩ := k
  exact ⟨s2, o, h _ h1, r⟩
theorem own_gt (h : Steps p.tables e below (T.setTop g) (T'.setTop g')) (k : own_Fin p e below s T' g' Q C S) : own_Fin p e below s T g Q C S := by
  obtain ⟨s2, o, h1, r⟩ := k
  exact ⟨s2, o, h.trans h1, r⟩
theorem own_end (X : Stand p l e R s m args below meth c T locs cells slots) (hnl : meth.locks = false) {v : Option Value} (hv : meth.sig.returnType = none → v = none)
    (st : ∀ fs, (∀ (f : JFrame) (acts : List Action), f.method = m → f.locked = none → f.entered = [] → (doReturn e (T.setTop f) acts v).1 = T.setFrames fs) → Steps p.tables e below (T.setTop g) (T.setFrames fs)) (hc : cells ≤ C) (hs : slots ≤ S) (hQ : Q v T.heap locs) : own_Fin p e below s T g Q C S := by
  obtain ⟨fs, hr, hrun, hended, hW, hsame⟩ := X.leave (v := v) hv hnl
  exact ⟨_, _, st fs hr, hrun, hended, _, _, rfl, hQ, ⟨_, rfl⟩, hW, hsame.mono hc hs⟩
theorem own_retZ (X : Stand p l e R s m args below meth c T locs cells slots) (hx : p.tables.exec = Jvm.exec) (hnl : meth.locks = false) {pc : Nat} {Ls : Array Slot} {z : Int32} {t : FieldType} {rest : List Value} (hret : meth.sig.returnType = some t) (ht : t = .boolean ∨ t = .byte ∨ t = .char ∨ t = .short)
    (hd : decode c.code pc = .ok (.ireturn, 1)) (hc : cells ≤ C) (hs : slots ≤ S) (hQ : Q (some (.int (nar t z))) T.heap locs) : own_Fin p e below s T (mkF m pc Ls (.int z :: rest)) Q C S :=
  own_end X hnl (fun h => by rw [hret] at h; cases h) (fun fs hr => retN X hx hret ht hd hr) hc hs hQ
theorem own_retI (X : Stand p l e R s m args below meth c T locs cells slots) (hx : p.tables.exec = Jvm.exec) (hnl : meth.locks = false) {pc : Nat} {Ls : Array Slot} {z : Int32} {rest : List Value} (hret : meth.sig.returnType = some .int)
    (hd : decode c.code pc = .ok (.ireturn, 1)) (hc : cells ≤ C) (hs : slots ≤ S) (hQ : Q (some (.int z)) T.heap locs) : own_Fin p e below s T (mkF m pc Ls (.int z :: rest)) Q C S :=
  own_end X hnl (fun h => by rw [hret] at h; cases h) (fun fs hr => by
    have hm' : T.vm.method? m = some meth := X.method'
    have hn : narrow .int (.int z) = .int z := rfl
    show Steps p.tables e below (T.setTop { method := m, pc := pc, locals := Ls, stack := _ :: rest, locked := none }) _
    jvm_step X.here [X.here.top, hx, hd, hm', hret, hn]
    first | (intro acts; rw [hr _ acts rfl rfl rfl]) | rw [hr _ _ rfl rfl rfl]
    exact Steps.refl _) hc hs hQ
theorem own_retJ (X : Stand p l e R s m args below meth c T locs cells slots) (hx : p.tables.exec = Jvm.exec) (hnl : meth.locks = false) {pc : Nat} {Ls : Array Slot} {z : Int64} (hret : meth.sig.returnType = some .long)
    (hd : decode c.code pc = .ok (.lreturn, 1)) (hc : cells ≤ C) (hs : slots ≤ S) (hQ : Q (some (.long z)) T.heap locs) : own_Fin p e below s T (mkF m pc Ls [.long z]) Q C S :=
  own_end X hnl (fun h => by rw [hret] at h; cases h) (fun fs hr => X.lreturnOut hx hret hd hr) hc hs hQ
theorem own_retV (X : Stand p l e R s m args below meth c T locs cells slots) (hx : p.tables.exec = Jvm.exec) (hnl : meth.locks = false) {pc : Nat} {Ls : Array Slot} (hret : meth.sig.returnType = none)
    (hd : decode c.code pc = .ok (.return_, 1)) (hc : cells ≤ C) (hs : slots ≤ S) (hQ : Q none T.heap locs) : own_Fin p e below s T (mkF m pc Ls []) Q C S :=
  own_end X hnl (fun _ => rfl) (fun fs hr => X.returnOut hx hret hd hr) hc hs hQ
end Own
def own_max (x y : Int32) : Int32 := if x < y then y else x
theorem d1_0 : decode jdk_29_method_65_code 0 = .ok (.iload_n 0, 1) := by decide +kernel
theorem d1_1 : decode jdk_29_method_65_code 1 = .ok (.iload_n 1, 1) := by decide +kernel
theorem d1_2 : decode jdk_29_method_65_code 2 = .ok (.if_icmp .lt 7, 3) := by decide +kernel
theorem d1_5 : decode jdk_29_method_65_code 5 = .ok (.iload_n 0, 1) := by decide +kernel
theorem d1_6 : decode jdk_29_method_65_code 6 = .ok (.goto 4, 3) := by decide +kernel
theorem d1_9 : decode jdk_29_method_65_code 9 = .ok (.iload_n 1, 1) := by decide +kernel
theorem d1_10 : decode jdk_29_method_65_code 10 = .ok (.ireturn, 1) := by decide +kernel
theorem ef_1 (m : MethodId) (x0 : Int32) (x1 : Int32) : entryFrame m #[(.int x0), (.int x1)] 2 = mkF m 0 #[.val (.int x0), .val (.int x1)] [] := by first | (simp [entryFrame, mkF, argsToLocals, Value.category]; done) | rfl
def Q1 (Z : State) (x0 : Int32) (x1 : Int32) (h0 : Heap) (n0 : Nat) (v : Option Value) (h : Heap) (L : List Loc) : Prop := v = some (.int (own_max x0 x1)) ∧ Fr n0 L ∧ h = h0
set_option maxRecDepth 65536 in
set_option maxHeartbeats 40000000 in
theorem rm1 (l : Launch) (Z : State) (a0 : Array Value) (hw : ∀ d ∈ tables_1, d.before a0 Z = true) (ws : List Jvm.Cond) (x0 : Int32) (x1 : Int32) (h0 : Heap) (n0 : Nat) (Z0 : n0 ≤ h0.size) :
    MetFree l (⟨"java/lang/Math", "max", "(II)I"⟩ : MethodName) (head1 (Jvm.Cond.code (⟨"java/lang/Math", "max", "(II)I"⟩ : MethodName) jdk_29_method_65_code 2 (some .int) :: ws) ({ frames := 0, cells := 0, slots := 0, locals := 0 } : Room)) (fun a U => a = #[(.int x0), (.int x1)] ∧ Z.Warmed39 U.vm ∧ U.heap = h0) (fun _ _ _ _ _ => True) (fun _ U o U' => ∃ v L, o = .returned v ∧ Q1 Z x0 x1 h0 n0 v U'.heap L ∧ FrameEnd U o U' L ({ frames := 0, cells := 0, slots := 0, locals := 0 } : Room).cells ({ frames := 0, cells := 0, slots := 0, locals := 0 } : Room).slots) := by
  refine MetFree.of_bodySF (Jvm.Free.JP.mathPlain rfl (by decide +kernel)) hisR ?_
  intro p e s m args below meth c s₁ Bd hml0 hP hK
  obtain ⟨rfl, hZ, hh⟩ := hP
  have hx := Bd.exec
  have hby := Bd.bytes
  have hret := Bd.returns
  have hnl : meth.locks = false := Bd.notSynchronized
  have hml : c.maxLocals = 2 := hml0
  have hown : s.vm.findClass "java/lang/Math" = some m.cls := findClass_of_methodNamed Bd.named
  have hnm := (name_of_methodNamed Bd.named Bd.method).1
  have X0 : Stand p l e ({ frames := 0, cells := 0, slots := 0, locals := 0 } : Room) s m #[(.int x0), (.int x1)] below meth c s₁ [] 0 0 := Stand.of_body Bd
  have e0 : s₁.heap = h0 := by rw [← hh, Bd.state]; rfl
  have N0 := Fr.nil n0
  suffices key : own_Fin p e below s s₁ (mkF m 0 #[.val (.int x0), .val (.int x1)] []) (Q1 Z x0 x1 h0 n0) ({ frames := 0, cells := 0, slots := 0, locals := 0 } : Room).cells ({ frames := 0, cells := 0, slots := 0, locals := 0 } : Room).slots by
    obtain ⟨s2, o, h1, h2⟩ := key
    exact ⟨s2, o, castTop (ef_1 m x0 x1) h1, h2⟩
  refine own_go (fun _ => XS.iloadN X0.here hx rfl (hb hby d1_0) rfl) ?_
  show own_Fin _ _ _ _ s₁ (mkF m 1 #[.val (.int x0), .val (.int x1)] [(.int x0)]) _ _ _
  refine own_go (fun _ => XS.iloadN X0.here hx rfl (hb hby d1_1) rfl) ?_
  show own_Fin _ _ _ _ s₁ (mkF m 2 #[.val (.int x0), .val (.int x1)] [(.int x1), (.int x0)]) _ _ _
  by_cases h2 : x0 < x1
  · refine own_go (fun _ => XS.icmpYes X0.here hx rfl (pc0 := 2) (pc' := 9) rfl (hb hby d1_2) rfl (tlt h2).1 (by decide) (by decide)) ?_
    show own_Fin _ _ _ _ s₁ (mkF m 9 #[.val (.int x0), .val (.int x1)] []) _ _ _
    refine own_go (fun _ => XS.iloadN X0.here hx rfl (hb hby d1_9) rfl) ?_
    show own_Fin _ _ _ _ s₁ (mkF m 10 #[.val (.int x0), .val (.int x1)] [(.int x1)]) _ _ _
    exact own_retI X0 hx hnl hret (hb hby d1_10) (by decide) (by decide) ⟨congrArg (fun z => some (Value.int z)) (show (x1 : Int32) = own_max x0 x1 from by simp [own_max, h2]), N0, e0⟩
  · refine own_go (fun _ => XS.icmpNo X0.here hx rfl (hb hby d1_2) rfl (flt h2).1) ?_
    show own_Fin _ _ _ _ s₁ (mkF m 5 #[.val (.int x0), .val (.int x1)] []) _ _ _
    refine own_go (fun _ => XS.iloadN X0.here hx rfl (hb hby d1_5) rfl) ?_
    show own_Fin _ _ _ _ s₁ (mkF m 6 #[.val (.int x0), .val (.int x1)] [(.int x0)]) _ _ _
    refine own_go (fun _ => XS.goto X0.here hx rfl (pc0 := 6) (pc' := 10) rfl (hb hby d1_6) (by decide) (by decide)) ?_
    show own_Fin _ _ _ _ s₁ (mkF m 10 #[.val (.int x0), .val (.int x1)] [(.int x0)]) _ _ _
    exact own_retI X0 hx hnl hret (hb hby d1_10) (by decide) (by decide) ⟨congrArg (fun z => some (Value.int z)) (show (x0 : Int32) = own_max x0 x1 from by simp [own_max, h2]), N0, e0⟩

def own_min (x y : Int32) : Int32 := if y < x then y else x
theorem d2_0 : decode jdk_29_method_69_code 0 = .ok (.iload_n 0, 1) := by decide +kernel
theorem d2_1 : decode jdk_29_method_69_code 1 = .ok (.iload_n 1, 1) := by decide +kernel
theorem d2_2 : decode jdk_29_method_69_code 2 = .ok (.if_icmp .gt 7, 3) := by decide +kernel
theorem d2_5 : decode jdk_29_method_69_code 5 = .ok (.iload_n 0, 1) := by decide +kernel
theorem d2_6 : decode jdk_29_method_69_code 6 = .ok (.goto 4, 3) := by decide +kernel
theorem d2_9 : decode jdk_29_method_69_code 9 = .ok (.iload_n 1, 1) := by decide +kernel
theorem d2_10 : decode jdk_29_method_69_code 10 = .ok (.ireturn, 1) := by decide +kernel
theorem ef_2 (m : MethodId) (x0 : Int32) (x1 : Int32) : entryFrame m #[(.int x0), (.int x1)] 2 = mkF m 0 #[.val (.int x0), .val (.int x1)] [] := by first | (simp [entryFrame, mkF, argsToLocals, Value.category]; done) | rfl
def Q2 (Z : State) (x0 : Int32) (x1 : Int32) (h0 : Heap) (n0 : Nat) (v : Option Value) (h : Heap) (L : List Loc) : Prop := v = some (.int (own_min x0 x1)) ∧ Fr n0 L ∧ h = h0
set_option maxRecDepth 65536 in
set_option maxHeartbeats 40000000 in
theorem rm2 (l : Launch) (Z : State) (a0 : Array Value) (hw : ∀ d ∈ tables_1, d.before a0 Z = true) (ws : List Jvm.Cond) (x0 : Int32) (x1 : Int32) (h0 : Heap) (n0 : Nat) (Z0 : n0 ≤ h0.size) :
    MetFree l (⟨"java/lang/Math", "min", "(II)I"⟩ : MethodName) (head1 (Jvm.Cond.code (⟨"java/lang/Math", "min", "(II)I"⟩ : MethodName) jdk_29_method_69_code 2 (some .int) :: ws) ({ frames := 0, cells := 0, slots := 0, locals := 0 } : Room)) (fun a U => a = #[(.int x0), (.int x1)] ∧ Z.Warmed39 U.vm ∧ U.heap = h0) (fun _ _ _ _ _ => True) (fun _ U o U' => ∃ v L, o = .returned v ∧ Q2 Z x0 x1 h0 n0 v U'.heap L ∧ FrameEnd U o U' L ({ frames := 0, cells := 0, slots := 0, locals := 0 } : Room).cells ({ frames := 0, cells := 0, slots := 0, locals := 0 } : Room).slots) := by
  refine MetFree.of_bodySF (Jvm.Free.JP.mathPlain rfl (by decide +kernel)) hisR ?_
  intro p e s m args below meth c s₁ Bd hml0 hP hK
  obtain ⟨rfl, hZ, hh⟩ := hP
  have hx := Bd.exec
  have hby := Bd.bytes
  have hret := Bd.returns
  have hnl : meth.locks = false := Bd.notSynchronized
  have hml : c.maxLocals = 2 := hml0
  have hown : s.vm.findClass "java/lang/Math" = some m.cls := findClass_of_methodNamed Bd.named
  have hnm := (name_of_methodNamed Bd.named Bd.method).1
  have X0 : Stand p l e ({ frames := 0, cells := 0, slots := 0, locals := 0 } : Room) s m #[(.int x0), (.int x1)] below meth c s₁ [] 0 0 := Stand.of_body Bd
  have e0 : s₁.heap = h0 := by rw [← hh, Bd.state]; rfl
  have N0 := Fr.nil n0
  suffices key : own_Fin p e below s s₁ (mkF m 0 #[.val (.int x0), .val (.int x1)] []) (Q2 Z x0 x1 h0 n0) ({ frames := 0, cells := 0, slots := 0, locals := 0 } : Room).cells ({ frames := 0, cells := 0, slots := 0, locals := 0 } : Room).slots by
    obtain ⟨s2, o, h1, h2⟩ := key
    exact ⟨s2, o, castTop (ef_2 m x0 x1) h1, h2⟩
  refine own_go (fun _ => XS.iloadN X0.here hx rfl (hb hby d2_0) rfl) ?_
  show own_Fin _ _ _ _ s₁ (mkF m 1 #[.val (.int x0), .val (.int x1)] [(.int x0)]) _ _ _
  refine own_go (fun _ => XS.iloadN X0.here hx rfl (hb hby d2_1) rfl) ?_
  show own_Fin _ _ _ _ s₁ (mkF m 2 #[.val (.int x0), .val (.int x1)] [(.int x1), (.int x0)]) _ _ _
  by_cases h2 : x1 < x0
  · refine own_go (fun _ => XS.icmpYes X0.here hx rfl (pc0 := 2) (pc' := 9) rfl (hb hby d2_2) rfl (tlt h2).2.2.1 (by decide) (by decide)) ?_
    show own_Fin _ _ _ _ s₁ (mkF m 9 #[.val (.int x0), .val (.int x1)] []) _ _ _
    refine own_go (fun _ => XS.iloadN X0.here hx rfl (hb hby d2_9) rfl) ?_
    show own_Fin _ _ _ _ s₁ (mkF m 10 #[.val (.int x0), .val (.int x1)] [(.int x1)]) _ _ _
    exact own_retI X0 hx hnl hret (hb hby d2_10) (by decide) (by decide) ⟨congrArg (fun z => some (Value.int z)) (show (x1 : Int32) = own_min x0 x1 from by simp [own_min, h2]), N0, e0⟩
  · refine own_go (fun _ => XS.icmpNo X0.here hx rfl (hb hby d2_2) rfl (flt h2).2.2.1) ?_
    show own_Fin _ _ _ _ s₁ (mkF m 5 #[.val (.int x0), .val (.int x1)] []) _ _ _
    refine own_go (fun _ => XS.iloadN X0.here hx rfl (hb hby d2_5) rfl) ?_
    show own_Fin _ _ _ _ s₁ (mkF m 6 #[.val (.int x0), .val (.int x1)] [(.int x0)]) _ _ _
    refine own_go (fun _ => XS.goto X0.here hx rfl (pc0 := 6) (pc' := 10) rfl (hb hby d2_6) (by decide) (by decide)) ?_
    show own_Fin _ _ _ _ s₁ (mkF m 10 #[.val (.int x0), .val (.int x1)] [(.int x0)]) _ _ _
    exact own_retI X0 hx hnl hret (hb hby d2_10) (by decide) (by decide) ⟨congrArg (fun z => some (Value.int z)) (show (x0 : Int32) = own_min x0 x1 from by simp [own_min, h2]), N0, e0⟩

def own_let (x : Int32) : Int32 := if x < 65 then 0 else if 90 < x then 0 else 1
theorem d3_0 : decode prog_6_method_3_code 0 = .ok (.iload_n 0, 1) := by decide +kernel
theorem d3_1 : decode prog_6_method_3_code 1 = .ok (.bipush 65, 2) := by decide +kernel
theorem d3_3 : decode prog_6_method_3_code 3 = .ok (.if_icmp .lt 13, 3) := by decide +kernel
theorem d3_6 : decode prog_6_method_3_code 6 = .ok (.iload_n 0, 1) := by decide +kernel
theorem d3_7 : decode prog_6_method_3_code 7 = .ok (.bipush 90, 2) := by decide +kernel
theorem d3_9 : decode prog_6_method_3_code 9 = .ok (.if_icmp .gt 7, 3) := by decide +kernel
theorem d3_12 : decode prog_6_method_3_code 12 = .ok (.iconst 1, 1) := by decide +kernel
theorem d3_13 : decode prog_6_method_3_code 13 = .ok (.goto 4, 3) := by decide +kernel
theorem d3_16 : decode prog_6_method_3_code 16 = .ok (.iconst 0, 1) := by decide +kernel
theorem d3_17 : decode prog_6_method_3_code 17 = .ok (.ireturn, 1) := by decide +kernel
theorem pn_3 : plainName "com/example/cuaderno/cuaderno/account/Characters" = true := by first | (simp [plainName, overriddenIn]; done) | decide +kernel
theorem ef_3 (m : MethodId) (x0 : Int32) : entryFrame m #[(.int x0)] 1 = mkF m 0 #[.val (.int x0)] [] := by first | (simp [entryFrame, mkF, argsToLocals, Value.category]; done) | rfl
def Q3 (Z : State) (x0 : Int32) (h0 : Heap) (n0 : Nat) (v : Option Value) (h : Heap) (L : List Loc) : Prop := v = some (.int (own_let x0)) ∧ Fr n0 L ∧ h = h0
set_option maxRecDepth 65536 in
set_option maxHeartbeats 40000000 in
theorem rm3 (l : Launch) (Z : State) (a0 : Array Value) (hw : ∀ d ∈ tables_1, d.before a0 Z = true) (ws : List Jvm.Cond) (x0 : Int32) (h0 : Heap) (n0 : Nat) (Z0 : n0 ≤ h0.size) :
    MetFree l (⟨"com/example/cuaderno/cuaderno/account/Characters", "isLetter", "(I)Z"⟩ : MethodName) (head1 (Jvm.Cond.code (⟨"com/example/cuaderno/cuaderno/account/Characters", "isLetter", "(I)Z"⟩ : MethodName) prog_6_method_3_code 1 (some .boolean) :: ws) ({ frames := 0, cells := 0, slots := 0, locals := 0 } : Room)) (fun a U => a = #[(.int x0)] ∧ Z.Warmed39 U.vm ∧ U.heap = h0) (fun _ _ _ _ _ => True) (fun _ U o U' => ∃ v L, o = .returned v ∧ Q3 Z x0 h0 n0 v U'.heap L ∧ FrameEnd U o U' L ({ frames := 0, cells := 0, slots := 0, locals := 0 } : Room).cells ({ frames := 0, cells := 0, slots := 0, locals := 0 } : Room).slots) := by
  refine MetFree.of_bodySF (plainFor_of_name pn_3) hisR ?_
  intro p e s m args below meth c s₁ Bd hml0 hP hK
  obtain ⟨rfl, hZ, hh⟩ := hP
  have hx := Bd.exec
  have hby := Bd.bytes
  have hret := Bd.returns
  have hnl : meth.locks = false := Bd.notSynchronized
  have hml : c.maxLocals = 1 := hml0
  have hown : s.vm.findClass "com/example/cuaderno/cuaderno/account/Characters" = some m.cls := findClass_of_methodNamed Bd.named
  have hnm := (name_of_methodNamed Bd.named Bd.method).1
  have X0 : Stand p l e ({ frames := 0, cells := 0, slots := 0, locals := 0 } : Room) s m #[(.int x0)] below meth c s₁ [] 0 0 := Stand.of_body Bd
  have e0 : s₁.heap = h0 := by rw [← hh, Bd.state]; rfl
  have N0 := Fr.nil n0
  suffices key : own_Fin p e below s s₁ (mkF m 0 #[.val (.int x0)] []) (Q3 Z x0 h0 n0) ({ frames := 0, cells := 0, slots := 0, locals := 0 } : Room).cells ({ frames := 0, cells := 0, slots := 0, locals := 0 } : Room).slots by
    obtain ⟨s2, o, h1, h2⟩ := key
    exact ⟨s2, o, castTop (ef_3 m x0) h1, h2⟩
  refine own_go (fun _ => XS.iloadN X0.here hx rfl (hb hby d3_0) rfl) ?_
  show own_Fin _ _ _ _ s₁ (mkF m 1 #[.val (.int x0)] [(.int x0)]) _ _ _
  refine own_go (fun _ => XS.bipush X0.here hx rfl (hb hby d3_1)) ?_
  show own_Fin _ _ _ _ s₁ (mkF m 3 #[.val (.int x0)] [(.int (65 : Int32)), (.int x0)]) _ _ _
  by_cases h3 : x0 < (65 : Int32)
  · refine own_go (fun _ => XS.icmpYes X0.here hx rfl (pc0 := 3) (pc' := 16) rfl (hb hby d3_3) rfl (tlt h3).1 (by decide) (by decide)) ?_
    show own_Fin _ _ _ _ s₁ (mkF m 16 #[.val (.int x0)] []) _ _ _
    refine own_go (fun _ => XS.iconst X0.here hx rfl (hb hby d3_16)) ?_
    show own_Fin _ _ _ _ s₁ (mkF m 17 #[.val (.int x0)] [(.int (0 : Int32))]) _ _ _
    exact own_retZ X0 hx hnl (t := .boolean) hret (by simp) (hb hby d3_17) (by decide) (by decide) ⟨congrArg (fun z => some (Value.int z)) (show ((0 : Int32) : Int32) = own_let x0 from by simp [own_let, h3]), N0, e0⟩
  · refine own_go (fun _ => XS.icmpNo X0.here hx rfl (hb hby d3_3) rfl (flt h3).1) ?_
    show own_Fin _ _ _ _ s₁ (mkF m 6 #[.val (.int x0)] []) _ _ _
    refine own_go (fun _ => XS.iloadN X0.here hx rfl (hb hby d3_6) rfl) ?_
    show own_Fin _ _ _ _ s₁ (mkF m 7 #[.val (.int x0)] [(.int x0)]) _ _ _
    refine own_go (fun _ => XS.bipush X0.here hx rfl (hb hby d3_7)) ?_
    show own_Fin _ _ _ _ s₁ (mkF m 9 #[.val (.int x0)] [(.int (90 : Int32)), (.int x0)]) _ _ _
    by_cases h9 : (90 : Int32) < x0
    · refine own_go (fun _ => XS.icmpYes X0.here hx rfl (pc0 := 9) (pc' := 16) rfl (hb hby d3_9) rfl (tlt h9).2.2.1 (by decide) (by decide)) ?_
      show own_Fin _ _ _ _ s₁ (mkF m 16 #[.val (.int x0)] []) _ _ _
      refine own_go (fun _ => XS.iconst X0.here hx rfl (hb hby d3_16)) ?_
      show own_Fin _ _ _ _ s₁ (mkF m 17 #[.val (.int x0)] [(.int (0 : Int32))]) _ _ _
      exact own_retZ X0 hx hnl (t := .boolean) hret (by simp) (hb hby d3_17) (by decide) (by decide) ⟨congrArg (fun z => some (Value.int z)) (show ((0 : Int32) : Int32) = own_let x0 from by simp [own_let, h3, h9]), N0, e0⟩
    · refine own_go (fun _ => XS.icmpNo X0.here hx rfl (hb hby d3_9) rfl (flt h9).2.2.1) ?_
      show own_Fin _ _ _ _ s₁ (mkF m 12 #[.val (.int x0)] []) _ _ _
      refine own_go (fun _ => XS.iconst X0.here hx rfl (hb hby d3_12)) ?_
      show own_Fin _ _ _ _ s₁ (mkF m 13 #[.val (.int x0)] [(.int (1 : Int32))]) _ _ _
      refine own_go (fun _ => XS.goto X0.here hx rfl (pc0 := 13) (pc' := 17) rfl (hb hby d3_13) (by decide) (by decide)) ?_
      show own_Fin _ _ _ _ s₁ (mkF m 17 #[.val (.int x0)] [(.int (1 : Int32))]) _ _ _
      exact own_retZ X0 hx hnl (t := .boolean) hret (by simp) (hb hby d3_17) (by decide) (by decide) ⟨congrArg (fun z => some (Value.int z)) (show ((1 : Int32) : Int32) = own_let x0 from by simp [own_let, h3, h9]), N0, e0⟩

theorem own_lt {x y : Int32} : x < y ↔ x.toInt < y.toInt := Int32.lt_iff_toInt_lt
theorem own_ltJ {x y : Int64} : x < y ↔ x.toInt < y.toInt := Int64.lt_iff_toInt_lt
theorem own_eq {x y : Int32} : x = y ↔ x.toInt = y.toInt := Int32.toInt_inj.symm
theorem own_eqJ {x y : Int64} : x = y ↔ x.toInt = y.toInt := Int64.toInt_inj.symm
theorem own_rng (x : Int32) : -2147483648 ≤ x.toInt ∧ x.toInt < 2147483648 := ⟨by have := Int32.le_toInt x; omega, by have := Int32.toInt_lt x; omega⟩
theorem own_rngJ (x : Int64) : -9223372036854775808 ≤ x.toInt ∧ x.toInt < 9223372036854775808 := ⟨by have := Int64.le_toInt x; omega, by have := Int64.toInt_lt x; omega⟩
theorem own_clamp (x : Int32) : own_min (own_max x 65) 90 = x ↔ own_let x = 1 := by
  simp only [own_min, own_max, own_let, own_lt]
  show (if (90 : Int) < (if x.toInt < 65 then (65 : Int32) else x).toInt then (90 : Int32) else if x.toInt < 65 then 65 else x) = x ↔ (if x.toInt < 65 then (0 : Int32) else if (90 : Int) < x.toInt then 0 else 1) = 1
  by_cases h1 : x.toInt < 65
  · have : ¬ ((90 : Int) < (65 : Int32).toInt) := by decide
    simp only [h1, if_true, this, if_false]
    constructor
    · intro h; rw [← h] at h1; exact absurd h1 (by decide)
    · intro h; exact absurd h (by decide)
  · simp only [h1, if_false]
    by_cases h2 : (90 : Int) < x.toInt
    · simp only [h2, if_true]
      constructor
      · intro h; rw [← h] at h2; exact absurd h2 (by decide)
      · intro h; exact absurd h (by decide)
    · simp only [h2, if_false]
theorem own_let01 (x : Int32) : own_let x = 0 ∨ own_let x = 1 := by
  simp only [own_let]; split
  · exact Or.inl rfl
  · split
    · exact Or.inl rfl
    · exact Or.inr rfl

theorem pd_0 : parseMethodDescriptor "(II)I" = some ⟨[.int, .int], some .int⟩ := by decide +kernel
theorem pd_1 : parseMethodDescriptor "(I)Z" = some ⟨[.int], some .boolean⟩ := by decide +kernel
theorem pn_0 : plainName "com/example/cuaderno/cuaderno/account/CharactersIsLetterPinLaw" = true := by first | (simp [plainName, overriddenIn]; done) | decide +kernel
theorem ef_0 (m : MethodId) (x0 : Int32) (x1 : Int32) : entryFrame m #[(.int x0), (.int x1)] maxLocals = mkF m 0 #[.val (.int x0), .val (.int x1), .unset, .unset] [] := by first | (simp [entryFrame, mkF, argsToLocals, Value.category, maxLocals]; done) | rfl
def Q0 (Z : State) (x0 : Int32) (x1 : Int32) (h0 : Heap) (n0 : Nat) (v : Option Value) (h : Heap) (L : List Loc) : Prop := v = some (.int 1) ∧ Fr n0 L
set_option maxRecDepth 65536 in
set_option maxHeartbeats 40000000 in
theorem rm0 (l : Launch) (Z : State) (a0 : Array Value) (hw : ∀ d ∈ tables_1, d.before a0 Z = true) (ws : List Jvm.Cond) (x0 : Int32) (x1 : Int32) (h0 : Heap) (n0 : Nat) (Z0 : n0 ≤ h0.size) :
    MetFree l x (head1 (Jvm.Cond.code x code maxLocals ret :: ws) room_1) (fun a U => a = #[(.int x0), (.int x1)] ∧ Z.Warmed39 U.vm ∧ U.heap = h0) (fun _ _ _ _ _ => True) (fun _ U o U' => ∃ v L, o = .returned v ∧ Q0 Z x0 x1 h0 n0 v U'.heap L ∧ FrameEnd U o U' L room_1.cells room_1.slots) := by
  refine MetFree.of_bodySF (plainFor_of_name pn_0) hisR ?_
  intro p e s m args below meth c s₁ Bd hml0 hP hK
  obtain ⟨rfl, hZ, hh⟩ := hP
  have hx := Bd.exec
  have hby := Bd.bytes
  have hret := Bd.returns
  have hnl : meth.locks = false := Bd.notSynchronized
  have hml : c.maxLocals = 4 := hml0
  have hown : s.vm.findClass "com/example/cuaderno/cuaderno/account/CharactersIsLetterPinLaw" = some m.cls := findClass_of_methodNamed Bd.named
  have hnm := (name_of_methodNamed Bd.named Bd.method).1
  have X0 : Stand p l e room_1 s m #[(.int x0), (.int x1)] below meth c s₁ [] 0 0 := Stand.of_body Bd
  have e0 : s₁.heap = h0 := by rw [← hh, Bd.state]; rfl
  have N0 := Fr.nil n0
  suffices key : own_Fin p e below s s₁ (mkF m 0 #[.val (.int x0), .val (.int x1), .unset, .unset] []) (Q0 Z x0 x1 h0 n0) room_1.cells room_1.slots by
    obtain ⟨s2, o, h1, h2⟩ := key
    exact ⟨s2, o, castTop (ef_0 m x0 x1) h1, h2⟩
  have J22 : ∀ (s2 : Int32), own_Fin p e below s s₁ (mkF m 22 #[.val (.int x0), .val (.int x1), .val (.int s2), .unset] []) (Q0 Z x0 x1 h0 n0) room_1.cells room_1.slots := by
    intro s2
    refine own_go (fun _ => XS.iloadN X0.here hx rfl (hb hby at_22) rfl) ?_
    show own_Fin _ _ _ _ s₁ (mkF m 23 #[.val (.int x0), .val (.int x1), .val (.int s2), .unset] [(.int s2)]) _ _ _
    refine own_go (fun _ => XS.bipush X0.here hx rfl (hb hby at_23)) ?_
    show own_Fin _ _ _ _ s₁ (mkF m 25 #[.val (.int x0), .val (.int x1), .val (.int s2), .unset] [(.int (65 : Int32)), (.int s2)]) _ _ _
    obtain ⟨_, _, ⟨T1, L1, k1, n1⟩, -, X1, ⟨Lc1, hQ1, l1, y1, z1⟩, st1⟩ := Jvm.LawKit.callS X0 hx (y := (⟨"java/lang/Math", "max", "(II)I"⟩ : MethodName)) hown (mvT hZ (hw _ (List.mem_of_getElem? (i := 0) rfl))) (mvT hZ (hw _ (List.mem_of_getElem? (i := 1) rfl))) (mvT hZ (hw _ (List.mem_of_getElem? (i := 2) rfl))) (mvT hZ (hw _ (List.mem_of_getElem? (i := 3) rfl))) (by decide) (backOf (W := 0) (rm1 l Z a0 hw [] s2 (65 : Int32)  h0 n0 Z0 ) hZ (hw _ (List.mem_of_getElem? (i := 3) rfl)) (hw _ (List.mem_of_getElem? (i := 2) rfl)) (by decide) (by decide)) (g := (mkF m 25 #[.val (.int x0), .val (.int x1), .val (.int s2), .unset] [(.int (65 : Int32)), (.int s2)])) rfl (by rw [hml]; rfl) (argsL := [(.int s2), (.int (65 : Int32))]) (rest := []) (lenOf pd_0 rfl) rfl (by show 2 * 0 + _ ≤ _; exact Nat.le_of_eq rfl) (hb hby at_25) (fun _ _ => ⟨rfl, e0, (by decide : 0 + 0 ≤ _), (by decide : 0 + 0 ≤ _)⟩)
    dsimp only [Pt.U, Pt.locs, Pt.cells, Pt.slots] at X1 l1 y1 z1 st1 hQ1
    subst l1 y1 z1
    obtain ⟨rfl, N1q, e1⟩ := hQ1
    have N1 := Fr.app N0 N1q
    refine own_go st1 ?_
    show own_Fin _ _ _ _ T1 (mkF m 28 #[.val (.int x0), .val (.int x1), .val (.int s2), .unset] [(.int (own_max s2 (65 : Int32)))]) _ _ _
    refine own_go (fun _ => XS.bipush X1.here hx rfl (hb hby at_28)) ?_
    show own_Fin _ _ _ _ T1 (mkF m 30 #[.val (.int x0), .val (.int x1), .val (.int s2), .unset] [(.int (90 : Int32)), (.int (own_max s2 (65 : Int32)))]) _ _ _
    obtain ⟨_, _, ⟨T2, L2, k2, n2⟩, -, X2, ⟨Lc2, hQ2, l2, y2, z2⟩, st2⟩ := Jvm.LawKit.callS X1 hx (y := (⟨"java/lang/Math", "min", "(II)I"⟩ : MethodName)) hown (mvT hZ (hw _ (List.mem_of_getElem? (i := 4) rfl))) (mvT hZ (hw _ (List.mem_of_getElem? (i := 5) rfl))) (mvT hZ (hw _ (List.mem_of_getElem? (i := 2) rfl))) (mvT hZ (hw _ (List.mem_of_getElem? (i := 6) rfl))) (by decide) (backOf (W := 0) (rm2 l Z a0 hw [] (own_max s2 (65 : Int32)) (90 : Int32)  h0 n0 Z0 ) hZ (hw _ (List.mem_of_getElem? (i := 6) rfl)) (hw _ (List.mem_of_getElem? (i := 2) rfl)) (by decide) (by decide)) (g := (mkF m 30 #[.val (.int x0), .val (.int x1), .val (.int s2), .unset] [(.int (90 : Int32)), (.int (own_max s2 (65 : Int32)))])) rfl (by rw [hml]; rfl) (argsL := [(.int (own_max s2 (65 : Int32))), (.int (90 : Int32))]) (rest := []) (lenOf pd_0 rfl) rfl (by show 2 * 0 + _ ≤ _; exact Nat.le_of_eq rfl) (hb hby at_30) (fun _ _ => ⟨rfl, e1, (by decide : 0 + 0 ≤ _), (by decide : 0 + 0 ≤ _)⟩)
    dsimp only [Pt.U, Pt.locs, Pt.cells, Pt.slots] at X2 l2 y2 z2 st2 hQ2
    subst l2 y2 z2
    obtain ⟨rfl, N2q, e2⟩ := hQ2
    have N2 := Fr.app N1 N2q
    refine own_go st2 ?_
    show own_Fin _ _ _ _ T2 (mkF m 33 #[.val (.int x0), .val (.int x1), .val (.int s2), .unset] [(.int (own_min (own_max s2 (65 : Int32)) (90 : Int32)))]) _ _ _
    refine own_go (fun _ => XS.iloadN X2.here hx rfl (hb hby at_33) rfl) ?_
    show own_Fin _ _ _ _ T2 (mkF m 34 #[.val (.int x0), .val (.int x1), .val (.int s2), .unset] [(.int s2), (.int (own_min (own_max s2 (65 : Int32)) (90 : Int32)))]) _ _ _
    by_cases h34 : (own_min (own_max s2 (65 : Int32)) (90 : Int32)) = s2
    · refine own_go (fun _ => XS.icmpNo X2.here hx rfl (hb hby at_34) rfl (teq h34).2) ?_
      show own_Fin _ _ _ _ T2 (mkF m 37 #[.val (.int x0), .val (.int x1), .val (.int s2), .unset] []) _ _ _
      refine own_go (fun _ => XS.iconst X2.here hx rfl (hb hby at_37)) ?_
      show own_Fin _ _ _ _ T2 (mkF m 38 #[.val (.int x0), .val (.int x1), .val (.int s2), .unset] [(.int (1 : Int32))]) _ _ _
      refine own_go (fun _ => XS.goto X2.here hx rfl (pc0 := 38) (pc' := 42) rfl (hb hby at_38) (by decide) (by decide)) ?_
      show own_Fin _ _ _ _ T2 (mkF m 42 #[.val (.int x0), .val (.int x1), .val (.int s2), .unset] [(.int (1 : Int32))]) _ _ _
      refine own_go (fun _ => XS.istoreN X2.here hx rfl (hb hby at_42) rfl (l' := #[.val (.int x0), .val (.int x1), .val (.int s2), .val (.int (1 : Int32))]) rfl) ?_
      show own_Fin _ _ _ _ T2 (mkF m 43 #[.val (.int x0), .val (.int x1), .val (.int s2), .val (.int (1 : Int32))] []) _ _ _
      refine own_go (fun _ => XS.iloadN X2.here hx rfl (hb hby at_43) rfl) ?_
      show own_Fin _ _ _ _ T2 (mkF m 44 #[.val (.int x0), .val (.int x1), .val (.int s2), .val (.int (1 : Int32))] [(.int s2)]) _ _ _
      obtain ⟨_, _, ⟨T3, L3, k3, n3⟩, -, X3, ⟨Lc3, hQ3, l3, y3, z3⟩, st3⟩ := Jvm.LawKit.callS X2 hx (y := (⟨"com/example/cuaderno/cuaderno/account/Characters", "isLetter", "(I)Z"⟩ : MethodName)) hown (mvT hZ (hw _ (List.mem_of_getElem? (i := 7) rfl))) (mvT hZ (hw _ (List.mem_of_getElem? (i := 8) rfl))) (mvT hZ (hw _ (List.mem_of_getElem? (i := 9) rfl))) (mvT hZ (hw _ (List.mem_of_getElem? (i := 10) rfl))) (by decide) (backOf (W := 0) (rm3 l Z a0 hw [] s2  h0 n0 Z0 ) hZ (hw _ (List.mem_of_getElem? (i := 10) rfl)) (hw _ (List.mem_of_getElem? (i := 9) rfl)) (by decide) (by decide)) (g := (mkF m 44 #[.val (.int x0), .val (.int x1), .val (.int s2), .val (.int (1 : Int32))] [(.int s2)])) rfl (by rw [hml]; rfl) (argsL := [(.int s2)]) (rest := []) (lenOf pd_1 rfl) rfl (by show 2 * 0 + _ ≤ _; exact Nat.le_of_eq rfl) (hb hby at_44) (fun _ _ => ⟨rfl, e2, (by decide : 0 + 0 ≤ _), (by decide : 0 + 0 ≤ _)⟩)
      dsimp only [Pt.U, Pt.locs, Pt.cells, Pt.slots] at X3 l3 y3 z3 st3 hQ3
      subst l3 y3 z3
      obtain ⟨rfl, N3q, e3⟩ := hQ3
      have N3 := Fr.app N2 N3q
      refine own_go st3 ?_
      show own_Fin _ _ _ _ T3 (mkF m 47 #[.val (.int x0), .val (.int x1), .val (.int s2), .val (.int (1 : Int32))] [(.int (own_let s2))]) _ _ _
      refine own_go (fun _ => XS.iloadN X3.here hx rfl (hb hby at_47) rfl) ?_
      show own_Fin _ _ _ _ T3 (mkF m 48 #[.val (.int x0), .val (.int x1), .val (.int s2), .val (.int (1 : Int32))] [(.int (1 : Int32)), (.int (own_let s2))]) _ _ _
      refine own_go (fun _ => XS.icmpNo X3.here hx rfl (hb hby at_48) rfl (teq (show (own_let s2) = (1 : Int32) from (own_clamp _).mp h34)).2) ?_
      show own_Fin _ _ _ _ T3 (mkF m 51 #[.val (.int x0), .val (.int x1), .val (.int s2), .val (.int (1 : Int32))] []) _ _ _
      refine own_go (fun _ => XS.iconst X3.here hx rfl (hb hby at_51)) ?_
      show own_Fin _ _ _ _ T3 (mkF m 52 #[.val (.int x0), .val (.int x1), .val (.int s2), .val (.int (1 : Int32))] [(.int (1 : Int32))]) _ _ _
      refine own_go (fun _ => XS.goto X3.here hx rfl (pc0 := 52) (pc' := 56) rfl (hb hby at_52) (by decide) (by decide)) ?_
      show own_Fin _ _ _ _ T3 (mkF m 56 #[.val (.int x0), .val (.int x1), .val (.int s2), .val (.int (1 : Int32))] [(.int (1 : Int32))]) _ _ _
      exact own_retZ X3 hx hnl (t := .boolean) hret (by simp) (hb hby at_56) (by decide) (by decide) ⟨rfl, N3⟩
    · refine own_go (fun _ => XS.icmpYes X2.here hx rfl (pc0 := 34) (pc' := 41) rfl (hb hby at_34) rfl (feq h34).2 (by decide) (by decide)) ?_
      show own_Fin _ _ _ _ T2 (mkF m 41 #[.val (.int x0), .val (.int x1), .val (.int s2), .unset] []) _ _ _
      refine own_go (fun _ => XS.iconst X2.here hx rfl (hb hby at_41)) ?_
      show own_Fin _ _ _ _ T2 (mkF m 42 #[.val (.int x0), .val (.int x1), .val (.int s2), .unset] [(.int (0 : Int32))]) _ _ _
      refine own_go (fun _ => XS.istoreN X2.here hx rfl (hb hby at_42) rfl (l' := #[.val (.int x0), .val (.int x1), .val (.int s2), .val (.int (0 : Int32))]) rfl) ?_
      show own_Fin _ _ _ _ T2 (mkF m 43 #[.val (.int x0), .val (.int x1), .val (.int s2), .val (.int (0 : Int32))] []) _ _ _
      refine own_go (fun _ => XS.iloadN X2.here hx rfl (hb hby at_43) rfl) ?_
      show own_Fin _ _ _ _ T2 (mkF m 44 #[.val (.int x0), .val (.int x1), .val (.int s2), .val (.int (0 : Int32))] [(.int s2)]) _ _ _
      obtain ⟨_, _, ⟨T4, L4, k4, n4⟩, -, X4, ⟨Lc4, hQ4, l4, y4, z4⟩, st4⟩ := Jvm.LawKit.callS X2 hx (y := (⟨"com/example/cuaderno/cuaderno/account/Characters", "isLetter", "(I)Z"⟩ : MethodName)) hown (mvT hZ (hw _ (List.mem_of_getElem? (i := 7) rfl))) (mvT hZ (hw _ (List.mem_of_getElem? (i := 8) rfl))) (mvT hZ (hw _ (List.mem_of_getElem? (i := 9) rfl))) (mvT hZ (hw _ (List.mem_of_getElem? (i := 10) rfl))) (by decide) (backOf (W := 0) (rm3 l Z a0 hw [] s2  h0 n0 Z0 ) hZ (hw _ (List.mem_of_getElem? (i := 10) rfl)) (hw _ (List.mem_of_getElem? (i := 9) rfl)) (by decide) (by decide)) (g := (mkF m 44 #[.val (.int x0), .val (.int x1), .val (.int s2), .val (.int (0 : Int32))] [(.int s2)])) rfl (by rw [hml]; rfl) (argsL := [(.int s2)]) (rest := []) (lenOf pd_1 rfl) rfl (by show 2 * 0 + _ ≤ _; exact Nat.le_of_eq rfl) (hb hby at_44) (fun _ _ => ⟨rfl, e2, (by decide : 0 + 0 ≤ _), (by decide : 0 + 0 ≤ _)⟩)
      dsimp only [Pt.U, Pt.locs, Pt.cells, Pt.slots] at X4 l4 y4 z4 st4 hQ4
      subst l4 y4 z4
      obtain ⟨rfl, N4q, e4⟩ := hQ4
      have N4 := Fr.app N2 N4q
      refine own_go st4 ?_
      show own_Fin _ _ _ _ T4 (mkF m 47 #[.val (.int x0), .val (.int x1), .val (.int s2), .val (.int (0 : Int32))] [(.int (own_let s2))]) _ _ _
      refine own_go (fun _ => XS.iloadN X4.here hx rfl (hb hby at_47) rfl) ?_
      show own_Fin _ _ _ _ T4 (mkF m 48 #[.val (.int x0), .val (.int x1), .val (.int s2), .val (.int (0 : Int32))] [(.int (0 : Int32)), (.int (own_let s2))]) _ _ _
      refine own_go (fun _ => XS.icmpNo X4.here hx rfl (hb hby at_48) rfl (teq (show (own_let s2) = (0 : Int32) from (own_let01 _).resolve_right (mt (own_clamp _).mpr h34))).2) ?_
      show own_Fin _ _ _ _ T4 (mkF m 51 #[.val (.int x0), .val (.int x1), .val (.int s2), .val (.int (0 : Int32))] []) _ _ _
      refine own_go (fun _ => XS.iconst X4.here hx rfl (hb hby at_51)) ?_
      show own_Fin _ _ _ _ T4 (mkF m 52 #[.val (.int x0), .val (.int x1), .val (.int s2), .val (.int (0 : Int32))] [(.int (1 : Int32))]) _ _ _
      refine own_go (fun _ => XS.goto X4.here hx rfl (pc0 := 52) (pc' := 56) rfl (hb hby at_52) (by decide) (by decide)) ?_
      show own_Fin _ _ _ _ T4 (mkF m 56 #[.val (.int x0), .val (.int x1), .val (.int s2), .val (.int (0 : Int32))] [(.int (1 : Int32))]) _ _ _
      exact own_retZ X4 hx hnl (t := .boolean) hret (by simp) (hb hby at_56) (by decide) (by decide) ⟨rfl, N4⟩
  refine own_go (fun _ => XS.iloadN X0.here hx rfl (hb hby at_0) rfl) ?_
  show own_Fin _ _ _ _ s₁ (mkF m 1 #[.val (.int x0), .val (.int x1), .unset, .unset] [(.int x1)]) _ _ _
  refine own_go (fun _ => XS.iconst X0.here hx rfl (hb hby at_1)) ?_
  show own_Fin _ _ _ _ s₁ (mkF m 2 #[.val (.int x0), .val (.int x1), .unset, .unset] [(.int (1 : Int32)), (.int x1)]) _ _ _
  refine own_go (fun _ => XS.iand X0.here hx rfl (hb hby at_2) rfl) ?_
  show own_Fin _ _ _ _ s₁ (mkF m 3 #[.val (.int x0), .val (.int x1), .unset, .unset] [(.int (x1 &&& (1 : Int32)))]) _ _ _
  by_cases h3 : (x1 &&& (1 : Int32)) = (0 : Int32)
  · refine own_go (fun _ => XS.ifYes X0.here hx rfl (pc0 := 3) (pc' := 11) rfl (hb hby at_3) rfl ((if0 _ _).trans (teq h3).1) (by decide) (by decide)) ?_
    show own_Fin _ _ _ _ s₁ (mkF m 11 #[.val (.int x0), .val (.int x1), .unset, .unset] []) _ _ _
    refine own_go (fun _ => XS.bipush X0.here hx rfl (hb hby at_11)) ?_
    show own_Fin _ _ _ _ s₁ (mkF m 13 #[.val (.int x0), .val (.int x1), .unset, .unset] [(.int (62 : Int32))]) _ _ _
    refine own_go (fun _ => XS.iloadN X0.here hx rfl (hb hby at_13) rfl) ?_
    show own_Fin _ _ _ _ s₁ (mkF m 14 #[.val (.int x0), .val (.int x1), .unset, .unset] [(.int x0), (.int (62 : Int32))]) _ _ _
    refine own_go (fun _ => X0.ldcI hx hown (mvT hZ (hw _ (List.mem_of_getElem? (i := 11) rfl))) rfl (hb hby at_14)) ?_
    show own_Fin _ _ _ _ s₁ (mkF m 16 #[.val (.int x0), .val (.int x1), .unset, .unset] [(.int (2147483647 : Int32)), (.int x0), (.int (62 : Int32))]) _ _ _
    refine own_go (fun _ => XS.iand X0.here hx rfl (hb hby at_16) rfl) ?_
    show own_Fin _ _ _ _ s₁ (mkF m 17 #[.val (.int x0), .val (.int x1), .unset, .unset] [(.int (x0 &&& (2147483647 : Int32))), (.int (62 : Int32))]) _ _ _
    refine own_go (fun _ => XS.bipush X0.here hx rfl (hb hby at_17)) ?_
    show own_Fin _ _ _ _ s₁ (mkF m 19 #[.val (.int x0), .val (.int x1), .unset, .unset] [(.int (32 : Int32)), (.int (x0 &&& (2147483647 : Int32))), (.int (62 : Int32))]) _ _ _
    refine own_go (fun _ => XS.irem X0.here hx rfl (hb hby at_19) rfl (by decide)) ?_
    show own_Fin _ _ _ _ s₁ (mkF m 20 #[.val (.int x0), .val (.int x1), .unset, .unset] [(.int ((x0 &&& (2147483647 : Int32)) - ((x0 &&& (2147483647 : Int32)) / (32 : Int32)) * (32 : Int32))), (.int (62 : Int32))]) _ _ _
    refine own_go (fun _ => XS.iadd X0.here hx rfl (hb hby at_20) rfl) ?_
    show own_Fin _ _ _ _ s₁ (mkF m 21 #[.val (.int x0), .val (.int x1), .unset, .unset] [(.int ((62 : Int32) + ((x0 &&& (2147483647 : Int32)) - ((x0 &&& (2147483647 : Int32)) / (32 : Int32)) * (32 : Int32))))]) _ _ _
    refine own_go (fun _ => XS.istoreN X0.here hx rfl (hb hby at_21) rfl (l' := #[.val (.int x0), .val (.int x1), .val (.int ((62 : Int32) + ((x0 &&& (2147483647 : Int32)) - ((x0 &&& (2147483647 : Int32)) / (32 : Int32)) * (32 : Int32)))), .unset]) rfl) ?_
    show own_Fin _ _ _ _ s₁ (mkF m 22 #[.val (.int x0), .val (.int x1), .val (.int ((62 : Int32) + ((x0 &&& (2147483647 : Int32)) - ((x0 &&& (2147483647 : Int32)) / (32 : Int32)) * (32 : Int32)))), .unset] []) _ _ _
    exact J22 ((62 : Int32) + ((x0 &&& (2147483647 : Int32)) - ((x0 &&& (2147483647 : Int32)) / (32 : Int32)) * (32 : Int32)))
  · refine own_go (fun _ => XS.ifNo X0.here hx rfl (hb hby at_3) rfl ((if0 _ _).trans (feq h3).1)) ?_
    show own_Fin _ _ _ _ s₁ (mkF m 6 #[.val (.int x0), .val (.int x1), .unset, .unset] []) _ _ _
    refine own_go (fun _ => XS.iloadN X0.here hx rfl (hb hby at_6) rfl) ?_
    show own_Fin _ _ _ _ s₁ (mkF m 7 #[.val (.int x0), .val (.int x1), .unset, .unset] [(.int x0)]) _ _ _
    refine own_go (fun _ => XS.istoreN X0.here hx rfl (hb hby at_7) rfl (l' := #[.val (.int x0), .val (.int x1), .val (.int x0), .unset]) rfl) ?_
    show own_Fin _ _ _ _ s₁ (mkF m 8 #[.val (.int x0), .val (.int x1), .val (.int x0), .unset] []) _ _ _
    refine own_go (fun _ => XS.goto X0.here hx rfl (pc0 := 8) (pc' := 22) rfl (hb hby at_8) (by decide) (by decide)) ?_
    show own_Fin _ _ _ _ s₁ (mkF m 22 #[.val (.int x0), .val (.int x1), .val (.int x0), .unset] []) _ _ _
    exact J22 x0

set_option maxRecDepth 65536 in
set_option maxHeartbeats 40000000 in
theorem comes_1 {Post : Tables → Env → Array Value → State → Outcome → State → Prop} (hpost : ∀ tb e args s v u, (limb_1_1.after args s (.returned v) u = true ∧ limb_1_2.after args s (.returned v) u = true) → FrameEnd s (.returned v) u (Jvm.fieldLocs frame_1_writes args s ++ Jvm.arrayLocs frame_1_arrays args s ++ Jvm.staticLocs frame_1_statics s) 0 0 → Post tb e args s (.returned v) u) :
    ArmFor flags0 classFile x code maxLocals ret World_1 tables_1 room_1 Calls_1 rest_1 Pre_1 Post := by
  intro l hfl _ _ p e ha hc hk s m args below hf hA hF happ hP
  obtain ⟨hcalls, hrest, hpre⟩ := hP
  obtain ⟨-, -, -, hnamed, -, -, -, hat⟩ := (Spec.applies_iff hf).mp happ
  obtain ⟨hg, hn⟩ := and_e (Cond.before_iff.mp (show (Jvm.Cond.and given_1 narrow_1).before args s = true from hpre))
  obtain ⟨gg1, gg2⟩ := and_e hg
  obtain ⟨gg3, gg4⟩ := and_e gg2
  obtain ⟨w0, w1, rfl⟩ : ∃ w0 w1 : Value, args = #[w0, w1] := by
    have hs : args.size = 2 := by simpa [Cond.value, given_1] using gg1
    obtain ⟨L⟩ := args
    match L, hs with
    | [w0, w1], _ => exact ⟨w0, w1, rfl⟩
  have hw := fun d (hd : d ∈ tables_1) => atoms_spec (ws := Jvm.Cond.code x code maxLocals ret :: tables_1) hat d (List.mem_cons_of_mem _ hd)
  obtain ⟨i0, ei0⟩ := is_v gg3
  obtain rfl : w0 = (.int i0) := Option.some.inj ei0
  obtain ⟨i1, ei1⟩ := is_v gg4
  obtain rfl : w1 = (.int i1) := Option.some.inj ei1
  obtain ⟨n, o, h1, h2, h3, _, L, rfl, ⟨rfl, N⟩, hq⟩ := rm0 l s _ hw tables_1 i0 i1 s.heap s.heap.size (Nat.le_refl _) p e ha hc hk s m _ below hf ((Spec.applies_iff_loose hf).mp happ).1 ⟨rfl, State.Warmed39.refl s, rfl⟩ trivial
  refine ⟨n, _, h1, h2, h3, hpost _ _ _ _ _ _ ⟨Cond.after_iff.mpr rfl, Cond.after_iff.mpr (eq_i res_at (Term.int_eval (1)) rfl)⟩ ⟨hq.1, hq.2.1, (hq.2.2.sift fun y hy => Or.inr (N y hy)).mono (by decide) (by decide)⟩⟩
theorem main_1_1 : Claimed_1_1 := comes_1 fun _ _ _ _ _ _ h hF => ⟨h.1, hF⟩
theorem main_1_2 : Claimed_1_2 := comes_1 fun _ _ _ _ _ _ h hF => ⟨h.2, hF⟩
end Jvm.Pilot.@@N@@
namespace Jvm.Pilot.@@N@@
open Jvm Jvm.ClassFile Sem Op Lib Jvm.Free Jvm.Stand Jvm.Pilot.@@N@@.Jvm.D
/-! MADE BY PROGRAM (witnessworld.py) out of the Statement's table words and the real class files: 10 classes; the members and pool entries that the words name. The judged class is class 1, her method 1. -/
namespace start1
open Jvm.ClassFile
def u (s : String) : CpInfo := .utf8 (stringToUtf16 s)
/-- a pool by its gaps: so many unusable entries, then the entry; so many at the end -/
def gap : Nat → List CpInfo → List CpInfo
  | 0, r => r
  | n + 1, r => .unusable :: gap n r
def poolList (es : List (Nat × CpInfo)) (last : Nat) : List CpInfo := es.foldr (fun e r => gap e.1 (e.2 :: r)) (gap last [])
def pool (es : List (Nat × CpInfo)) (last : Nat) : Array CpInfo := ⟨poolList es last⟩
def fileOf (pool : Array CpInfo) (this : Nat) (attrs : Array Attribute := #[]) (ms : Array MethodInfo := #[]) (fl : Nat := 33) (sup : Nat := 0) (ifs : Array Nat := #[]) (fds : Array FieldInfo := #[]) : ClassFile where
  minorVersion := 0
  majorVersion := 65
  constantPool := pool
  accessFlags := fl
  thisClass := this
  superClass := sup
  interfaces := ifs
  fields := fds
  methods := ms
  attributes := attrs
def plain (name : String) (sup : Option ClassId) : Class where
  name := name
  kind := .ordinary
  loader := none
  accessFlags := 33
  super := sup
  interfaces := #[]
  cf := none
  fields := #[]
  methods := #[]
  instanceTypes := #[]
  staticTypes := #[]
  resolved := #[]
  callSites := []
  init := .initialized
  statics := none
  mirror := none

def pool0 : Array CpInfo := pool [(5, u "<init>"), (0, u "()V"), (1, .class_ 10), (1, u "java/lang/Object")] 113

def k0m0 : Method := { name := "<init>", desc := "()V", sig := { parameters := [], returnType := none }, accessFlags := 1, code := none }
/-- java/lang/Object -/
def k0 : Class := { plain "java/lang/Object" none with
  accessFlags := 33
  interfaces := #[]
  cf := some (fileOf pool0 8 #[] #[{ accessFlags := 1, nameIndex := 5, descriptorIndex := 6, attributes := #[] }] 33 0 #[] #[])
  fields := #[]
  methods := #[k0m0]
  instanceTypes := #[]
  staticTypes := #[]
  resolved := Array.replicate 124 none
  statics := none }

def pool1 : Array CpInfo := pool [(2, .class_ 4), (1, u "java/lang/Object"), (0, u "<init>"), (0, u "()V"), (0, .integer 2147483647), (0, .methodref 9 10), (0, .class_ 11), (0, .nameAndType 12 13), (0, u "java/lang/Math"), (0, u "max"), (0, u "(II)I"), (0, .methodref 9 15), (0, .nameAndType 16 13), (0, u "min"), (0, .methodref 18 19), (0, .class_ 20), (0, .nameAndType 21 22), (0, u "com/example/cuaderno/cuaderno/account/Characters"), (0, u "isLetter"), (0, u "(I)Z"), (0, .class_ 24), (0, u "com/example/cuaderno/cuaderno/account/CharactersIsLetterPinLaw"), (2, u "law"), (0, u "(II)Z")] 3

def k1m0 : Method := { name := "<init>", desc := "()V", sig := { parameters := [], returnType := none }, accessFlags := 2, code := none }
def k1c1 : Code := { maxStack := 3, maxLocals := 4, code := code, exceptionTable := #[], attributes := #[] }
def k1m1 : Method := { name := "law", desc := "(II)Z", sig := { parameters := [.int, .int], returnType := some .boolean }, accessFlags := 9, code := some k1c1 }
/-- com/example/cuaderno/cuaderno/account/CharactersIsLetterPinLaw -/
def k1 : Class := { plain "com/example/cuaderno/cuaderno/account/CharactersIsLetterPinLaw" (some 0) with
  accessFlags := 49
  interfaces := #[]
  cf := some (fileOf pool1 23 #[] #[{ accessFlags := 2, nameIndex := 5, descriptorIndex := 6, attributes := #[] }, { accessFlags := 9, nameIndex := 27, descriptorIndex := 28, attributes := #[] }] 49 2 #[] #[])
  fields := #[]
  methods := #[k1m0, k1m1]
  instanceTypes := #[]
  staticTypes := #[]
  resolved := Array.replicate 32 none
  statics := none }

def pool2 : Array CpInfo := pool [(1, .class_ 2), (0, u "java/lang/Math"), (1, .class_ 6), (1, u "java/lang/Object"), (0, u "<init>"), (0, u "()V"), (89, .class_ 100), (1, u "java/lang/Math$RandomNumberGeneratorHolder"), (71, u "negativeZeroFloatBits"), (0, u "J"), (2, u "negativeZeroDoubleBits"), (21, u "max"), (2, u "min"), (43, u "$assertionsDisabled"), (0, u "Z"), (88, u "(II)I"), (2, u "twoToTheDoubleScaleDown"), (0, u "D"), (4, u "twoToTheDoubleScaleUp"), (9, u "E"), (3, u "PI"), (2, u "TAU"), (2, u "DEGREES_TO_RADIANS"), (0, u "RADIANS_TO_DEGREES")] 94

def k2m0 : Method := { name := "<init>", desc := "()V", sig := { parameters := [], returnType := none }, accessFlags := 2, code := none }
def k2c1 : Code := { maxStack := 2, maxLocals := 2, code := jdk_29_method_65_code, exceptionTable := #[], attributes := #[] }
def k2m1 : Method := { name := "max", desc := "(II)I", sig := { parameters := [.int, .int], returnType := some .int }, accessFlags := 9, code := some k2c1 }
def k2c2 : Code := { maxStack := 2, maxLocals := 2, code := jdk_29_method_69_code, exceptionTable := #[], attributes := #[] }
def k2m2 : Method := { name := "min", desc := "(II)I", sig := { parameters := [.int, .int], returnType := some .int }, accessFlags := 9, code := some k2c2 }
/-- java/lang/Math -/
def k2 : Class := { plain "java/lang/Math" (some 0) with
  accessFlags := 49
  interfaces := #[]
  cf := some (fileOf pool2 1 #[.nestMembers #[98]] #[{ accessFlags := 2, nameIndex := 7, descriptorIndex := 8, attributes := #[] }, { accessFlags := 9, nameIndex := 198, descriptorIndex := 335, attributes := #[] }, { accessFlags := 9, nameIndex := 201, descriptorIndex := 335, attributes := #[] }] 49 4 #[] #[{ accessFlags := 25, nameIndex := 354, descriptorIndex := 339, attributes := #[] }, { accessFlags := 25, nameIndex := 358, descriptorIndex := 339, attributes := #[] }, { accessFlags := 25, nameIndex := 361, descriptorIndex := 339, attributes := #[] }, { accessFlags := 26, nameIndex := 364, descriptorIndex := 339, attributes := #[] }, { accessFlags := 26, nameIndex := 365, descriptorIndex := 339, attributes := #[] }, { accessFlags := 26, nameIndex := 172, descriptorIndex := 173, attributes := #[] }, { accessFlags := 26, nameIndex := 176, descriptorIndex := 173, attributes := #[] }, { accessFlags := 8, nameIndex := 344, descriptorIndex := 339, attributes := #[] }, { accessFlags := 8, nameIndex := 338, descriptorIndex := 339, attributes := #[] }, { accessFlags := 4120, nameIndex := 245, descriptorIndex := 246, attributes := #[] }])
  fields := #[{ name := "E", type := .double, accessFlags := 25, slot := 0, constantValue := 0 }, { name := "PI", type := .double, accessFlags := 25, slot := 1, constantValue := 0 }, { name := "TAU", type := .double, accessFlags := 25, slot := 2, constantValue := 0 }, { name := "DEGREES_TO_RADIANS", type := .double, accessFlags := 26, slot := 3, constantValue := 0 }, { name := "RADIANS_TO_DEGREES", type := .double, accessFlags := 26, slot := 4, constantValue := 0 }, { name := "negativeZeroFloatBits", type := .long, accessFlags := 26, slot := 5, constantValue := 0 }, { name := "negativeZeroDoubleBits", type := .long, accessFlags := 26, slot := 6, constantValue := 0 }, { name := "twoToTheDoubleScaleUp", type := .double, accessFlags := 8, slot := 7, constantValue := 0 }, { name := "twoToTheDoubleScaleDown", type := .double, accessFlags := 8, slot := 8, constantValue := 0 }, { name := "$assertionsDisabled", type := .boolean, accessFlags := 4120, slot := 9, constantValue := 0 }]
  methods := #[k2m0, k2m1, k2m2]
  instanceTypes := #[]
  staticTypes := #[.double, .double, .double, .double, .double, .long, .long, .double, .double, .boolean]
  resolved := Array.replicate 460 none
  statics := none }

def pool3 : Array CpInfo := pool [(2, .class_ 4), (1, u "java/lang/Object"), (0, u "<init>"), (0, u "()V"), (1, .class_ 10), (1, u "com/example/cuaderno/cuaderno/account/Characters"), (0, u "isLetter"), (0, u "(I)Z"), (18, .class_ 33), (1, u "com/example/cuaderno/cuaderno/account/Characters$Kind")] 68

def k3m0 : Method := { name := "<init>", desc := "()V", sig := { parameters := [], returnType := none }, accessFlags := 2, code := none }
def k3c1 : Code := { maxStack := 2, maxLocals := 1, code := prog_6_method_3_code, exceptionTable := #[], attributes := #[] }
def k3m1 : Method := { name := "isLetter", desc := "(I)Z", sig := { parameters := [.int], returnType := some .boolean }, accessFlags := 8, code := some k3c1 }
/-- com/example/cuaderno/cuaderno/account/Characters -/
def k3 : Class := { plain "com/example/cuaderno/cuaderno/account/Characters" (some 0) with
  accessFlags := 48
  interfaces := #[]
  cf := some (fileOf pool3 8 #[.nestMembers #[31]] #[{ accessFlags := 2, nameIndex := 5, descriptorIndex := 6, attributes := #[] }, { accessFlags := 8, nameIndex := 11, descriptorIndex := 12, attributes := #[] }] 48 2 #[] #[])
  fields := #[]
  methods := #[k3m0, k3m1]
  instanceTypes := #[]
  staticTypes := #[]
  resolved := Array.replicate 102 none
  statics := none }

def pool4 : Array CpInfo := pool [(1, u "java/lang/Cloneable"), (0, .class_ 1), (0, u "java/lang/Object"), (0, .class_ 3)] 3

/-- java/lang/Cloneable -/
def k4 : Class := { plain "java/lang/Cloneable" (some 0) with
  accessFlags := 1537
  interfaces := #[]
  cf := some (fileOf pool4 2 #[] #[] 1537 4 #[] #[])
  fields := #[]
  methods := #[]
  instanceTypes := #[]
  staticTypes := #[]
  resolved := Array.replicate 8 none
  statics := none }

def pool5 : Array CpInfo := pool [(1, u "java/io/Serializable"), (0, .class_ 1), (0, u "java/lang/Object"), (0, .class_ 3)] 3

/-- java/io/Serializable -/
def k5 : Class := { plain "java/io/Serializable" (some 0) with
  accessFlags := 1537
  interfaces := #[]
  cf := some (fileOf pool5 2 #[] #[] 1537 4 #[] #[])
  fields := #[]
  methods := #[]
  instanceTypes := #[]
  staticTypes := #[]
  resolved := Array.replicate 8 none
  statics := none }

/-- the primitive byte -/
def k6 : Class := { plain "byte" none with kind := .primitive 'B', accessFlags := 0x411 }
/-- [B -/
def k7 : Class := { plain "[B" (some 0) with kind := .array 6 .byte, interfaces := #[4, 5], accessFlags := 1041 }

/-- the primitive int -/
def k8 : Class := { plain "int" none with kind := .primitive 'I', accessFlags := 0x411 }
/-- [I -/
def k9 : Class := { plain "[I" (some 0) with kind := .array 8 .int, interfaces := #[4, 5], accessFlags := 1041 }

def heap : Heap := #[]
def classes : Array Class := #[k0, k1, k2, k3, k4, k5, k6, k7, k8, k9]
def interned : List (Array UInt16 × Addr) := []
def slotsUsed : Nat := 0
def theMethod : MethodId := ⟨1, 1⟩
def args0 : Array Value := #[.int 5, .int 300]
def aboutOver (below : List Frame) : State where
  vm := { classes := classes, interned := interned.toArray }
  heap := heap
  slotsUsed := slotsUsed
  threads := #[{ frames := .invoking theMethod args0 :: below }]
def below0 : List Frame := [.native { method := ⟨0, 0⟩, args := #[] }]
def about1 : State := aboutOver below0
def p0 : Program := .bare "" "" ""
def e0 : Env := launch0.env 0 0 0
theorem w_frames : about1.frames = Frame.invoking theMethod args0 :: below0 := rfl
set_option maxRecDepth 65536 in
theorem w_args : argsFit about1.vm theMethod args0 = true := by decide +kernel
set_option maxRecDepth 65536 in
theorem w_heap : heapFits about1 = true := by decide +kernel
set_option maxRecDepth 65536 in
theorem w_runnable : about1.curStatus? = some .runnable := by decide +kernel
set_option maxRecDepth 65536 in
theorem w_alone : about1.alone = true := by decide +kernel
set_option maxRecDepth 65536 in
theorem w_named : about1.methodNamed? x = some theMethod := by decide +kernel
set_option maxRecDepth 65536 in
theorem w_hears : about1.hears theMethod below0 = true := by decide +kernel
set_option maxRecDepth 65536 in
theorem w_ripe : about1.ripe theMethod args0 below0 = true := by decide +kernel
theorem w_running : about1.status = .running := rfl
set_option maxRecDepth 65536 in
theorem w_room : about1.hasRoom e0.platform room_1 = true :=
  launch0.hasRoom_least _ room_1 (by decide +kernel) (by decide +kernel) (by decide +kernel) (by decide +kernel) (by decide +kernel) (by decide +kernel)
theorem allAtoms_all (ts : List Jvm.Cond) (a : Array Jvm.Value) (st : Jvm.State) : (allAtoms ts).before a st = ts.all (fun c => c.before a st) := by
  induction ts with
  | nil => rfl
  | cons c t ih =>
    show (Jvm.Cond.and c (allAtoms t)).before a st = _
    rw [Jvm.Cond.before_and, ih, List.all_cons]
def words1 : List Jvm.Cond := Jvm.Cond.code x code maxLocals ret :: tables_1
/-- a 'code' word, met by the world's own term for the bytes: nothing is compared byte by byte -/
theorem code_word {y : MethodName} {bytes : ByteArray} {mx : Nat} {rt : Option FieldType} {a : Array Value} {s : State} {m : MethodId} {meth : Method} {c : Code} (h1 : s.methodNamed? y = some m) (h2 : s.vm.method? m = some meth) (h3 : meth.code = some c) (h4 : c.code = bytes)
    (h5 : (c.maxLocals == mx && c.exceptionTable.isEmpty && decide (c.maxStack ≤ mostOperands) && decide (meth.sig.returnType = rt) && !meth.locks && decide (parseMethodDescriptor y.desc = some meth.sig)) = true) : (Jvm.Cond.code y bytes mx rt).before a s = true := by
  simp only [Bool.and_eq_true, beq_iff_eq, Bool.not_eq_true', decide_eq_true_eq] at h5
  obtain ⟨⟨⟨⟨⟨g1, g2⟩, g3⟩, g4⟩, g5⟩, g6⟩ := h5
  simp [Cond.before, Cond.holds, Cond.value, h1, h2, h3, h4, g1, g2, g3, g4, g5, g6]
def isCode : Jvm.Cond → Bool
  | .code _ _ _ _ => true
  | _ => false
theorem all_split {L : List Jvm.Cond} {P : Jvm.Cond → Bool} (h1 : L.all (fun c => isCode c || P c) = true) (h2 : ∀ c ∈ L.filter isCode, P c = true) : L.all P = true := by
  refine List.all_eq_true.mpr fun c hc => ?_
  have h := List.all_eq_true.mp h1 c hc
  rcases Bool.eq_false_or_eq_true (isCode c) with hi | hi
  · exact h2 c (List.mem_filter.mpr ⟨hc, hi⟩)
  · simpa [hi] using h
set_option maxRecDepth 65536 in
theorem w_c0 : (Jvm.Cond.code x code maxLocals ret).before args0 about1 = true := code_word (m := ⟨1, 1⟩) (meth := k1m1) (c := k1c1) (by decide +kernel) rfl rfl rfl (by decide +kernel)
set_option maxRecDepth 65536 in
theorem w_c1 : (Jvm.Cond.code ({ cls := "java/lang/Math", name := "max", desc := "(II)I" } : Jvm.MethodName) jdk_29_method_65_code (2 : Nat) (Option.some Jvm.ClassFile.FieldType.int)).before args0 about1 = true := code_word (m := ⟨2, 1⟩) (meth := k2m1) (c := k2c1) (by decide +kernel) rfl rfl rfl (by decide +kernel)
set_option maxRecDepth 65536 in
theorem w_c2 : (Jvm.Cond.code ({ cls := "java/lang/Math", name := "min", desc := "(II)I" } : Jvm.MethodName) jdk_29_method_69_code (2 : Nat) (Option.some Jvm.ClassFile.FieldType.int)).before args0 about1 = true := code_word (m := ⟨2, 2⟩) (meth := k2m2) (c := k2c2) (by decide +kernel) rfl rfl rfl (by decide +kernel)
set_option maxRecDepth 65536 in
theorem w_c3 : (Jvm.Cond.code ({ cls := "com/example/cuaderno/cuaderno/account/Characters", name := "isLetter", desc := "(I)Z" } : Jvm.MethodName) prog_6_method_3_code (1 : Nat) (Option.some Jvm.ClassFile.FieldType.boolean)).before args0 about1 = true := code_word (m := ⟨3, 1⟩) (meth := k3m1) (c := k3c1) (by decide +kernel) rfl rfl rfl (by decide +kernel)
def codes1 : List Jvm.Cond := [Jvm.Cond.code x code maxLocals ret, Jvm.Cond.code ({ cls := "java/lang/Math", name := "max", desc := "(II)I" } : Jvm.MethodName) jdk_29_method_65_code (2 : Nat) (Option.some Jvm.ClassFile.FieldType.int), Jvm.Cond.code ({ cls := "java/lang/Math", name := "min", desc := "(II)I" } : Jvm.MethodName) jdk_29_method_69_code (2 : Nat) (Option.some Jvm.ClassFile.FieldType.int), Jvm.Cond.code ({ cls := "com/example/cuaderno/cuaderno/account/Characters", name := "isLetter", desc := "(I)Z" } : Jvm.MethodName) prog_6_method_3_code (1 : Nat) (Option.some Jvm.ClassFile.FieldType.boolean)]
set_option maxRecDepth 65536 in
theorem codes_eq : words1.filter isCode = codes1 := rfl
theorem w_codes : ∀ c ∈ words1.filter isCode, c.before args0 about1 = true := by
  rw [codes_eq]
  intro c hc
  simp only [codes1, List.mem_cons, List.not_mem_nil, or_false] at hc
  rcases hc with rfl | rfl | rfl | rfl
  · exact w_c0
  · exact w_c1
  · exact w_c2
  · exact w_c3
set_option maxRecDepth 65536 in
theorem w_t1 : words1.all (fun c => isCode c || c.before args0 about1) = true := by decide +kernel
theorem w_tables : (allAtoms (Jvm.Cond.code x code maxLocals ret :: tables_1)).before args0 about1 = true := by
  rw [allAtoms_all]
  show words1.all (fun c => c.before args0 about1) = true
  refine all_split ?_ w_codes
  rw [w_t1]
set_option maxRecDepth 65536 in
theorem w_case : (Jvm.Cond.and given_1 narrow_1).before args0 about1 = true := by decide +kernel
theorem w_applies : (headSpec (Jvm.Cond.code x code maxLocals ret :: tables_1) room_1).applies x e0.platform about1 = true :=
  (Spec.applies_iff w_frames).mpr ⟨w_running, w_runnable, w_alone, w_named, w_hears, w_ripe, w_room, w_tables⟩
theorem atStart : AtStart classFile x code maxLocals ret World_1 tables_1 room_1 Calls_1 rest_1 Pre_1 launch0 p0 e0 about1 theMethod args0 below0 :=
  ⟨lists_1, trivial, launch0.admits_env _ _ _, launch0.least_env, fairChoices_fair.cas, fairChoices_fair.clock, w_frames, w_args, w_heap, w_applies, trivial, trivial, w_case⟩
end start1
theorem witness_1 : WitnessClaimed_1 := ⟨start1.p0, start1.e0, start1.about1, start1.theMethod, start1.args0, start1.below0, start1.atStart⟩
end Jvm.Pilot.@@N@@
