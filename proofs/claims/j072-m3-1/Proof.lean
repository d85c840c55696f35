import JvmDerived
import JvmDerived.Pilot.@@N@@Statement
import JvmDerived.Pilot.@@N@@Code
set_option linter.unusedVariables false
set_option linter.unusedSimpArgs false
@@BLOCK:HandJ.lean.txt@@
@@BLOCK:SymMore.lean.txt@@
@@BLOCK:NumsL.lean.txt@@
namespace Jvm.Pilot.@@N@@
open Jvm Jvm.ClassFile Sem Op Lib Jvm.Free Jvm.Stand Jvm.LawKit Jvm.RoadKit Bundle Jvm.Pilot.@@N@@.Jvm.D
/-! from the frame g at T the run ends in a return: Q of what is returned, the heap and the written places -/
def own_Fin (p : Program) (e : Env) (below : List Frame) (s T : State) (g : JFrame) (Q : Option Value → Heap → List Loc → Prop) (C S : Nat) : Prop :=
  ∃ s₂ o, Steps p.tables e below (T.setTop g) s₂ ∧ s₂.status = .running ∧ Ended s₂ below o ∧ ∃ v L, o = .returned v ∧ Q v s₂.heap L ∧ FrameEnd s o s₂ L C S
section Own
variable {p : Program} {l : Launch} {e : Env} {R : Room} {s : State} {m : MethodId} {args : Array Value} {below : List Frame} {meth : Method} {c : Code} {T T' : State} {g g' : JFrame} {locs : List Loc} {cells slots C S : Nat} {Q : Option Value → Heap → List Loc → Prop}
theorem own_go (h : ∀ t, Steps p.tables e below (T'.setTop g') t → Steps p.tables e below (T.setTop g) t) (k : own_Fin p e below s T' g' Q C S) : own_Fin p e below s T g Q C S := by
  obtain ⟨s2, o, h1, r⟩ := k
  exact ⟨s2, o, h _ h1, r⟩
theorem own_gt (h : Steps p.tables e below (T.setTop g) (T'.setTop g')) (k : own_Fin p e below s T' g' Q C S) : own_Fin p e below s T g Q C S := by
  obtain ⟨s2, o, h1, r⟩ := k
  exact ⟨s2, o, h.trans h1, r⟩
theorem own_end (X : Stand p l e R s m args below meth c T locs cells slots) (hnl : meth.locks = false) {v : Option Value} (hv : meth.sig.returnType = none → v = none)
    (st : ∀ fs, (∀ (f : JFrame) (acts : List Action), f.method = m → f.locked = none → f.entered = [] → (doReturn e (T.setTop f) acts v).1 = T.setFrames fs) → Steps p.tables e below (T.setTop g) (T.setFrames fs)) (hc : cells ≤ C) (hs : slots ≤ S) (hQ : Q v T.heap locs) : own_Fin p e below s T g Q C S := by
  obtain ⟨fs, hr, hrun, hended, hW, hsame⟩ := X.leave (v := v) hv hnl
  exact ⟨_, _, st fs hr, hrun, hended, _, _, rfl, hQ, ⟨_, rfl⟩, hW, hsame.mono hc hs⟩
theorem own_retZ (X : Stand p l e R s m args below meth c T locs cells slots) (hx : p.tables.exec = Jvm.exec) (hnl : meth.locks = false) {pc : Nat} {Ls : Array Slot} {z : Int32} {t : FieldType} {rest : List Value} (hret : meth.sig.returnType = some t) (ht : t = .boolean ∨ t = .byte ∨ t = .char ∨ t = .short)
    (hd : decode c.code pc = .ok (.ireturn, 1)) (hc : cells ≤ C) (hs : slots ≤ S) (hQ : Q (some (.int (nar t z))) T.heap locs) : own_Fin p e below s T (mkF m pc Ls (.int z :: rest)) Q C S :=
  own_end X hnl (fun h => by rw [hret] at h; cases h) (fun fs hr => retN X hx hret ht hd hr) hc hs hQ
theorem own_retI (X : Stand p l e R s m args below meth c T locs cells slots) (hx : p.tables.exec = Jvm.exec) (hnl : meth.locks = false) {pc : Nat} {Ls : Array Slot} {z : Int32} {rest : List Value} (hret : meth.sig.returnType = some .int)
    (hd : decode c.code pc = .ok (.ireturn, 1)) (hc : cells ≤ C) (hs : slots ≤ S) (hQ : Q (some (.int z)) T.heap locs) : own_Fin p e below s T (mkF m pc Ls (.int z :: rest)) Q C S :=
  own_end X hnl (fun h => by rw [hret] at h; cases h) (fun fs hr => by
    have hm' : T.vm.method? m = some meth := X.method'
    have hn : narrow .int (.int z) = .int z := rfl
    show Steps p.tables e below (T.setTop { method := m, pc := pc, locals := Ls, stack := _ :: rest, locked := none }) _
    jvm_step X.here [X.here.top, hx, hd, hm', hret, hn]
    first | (intro acts; rw [hr _ acts rfl rfl rfl]) | rw [hr _ _ rfl rfl rfl]
    exact Steps.refl _) hc hs hQ
theorem own_retJ (X : Stand p l e R s m args below meth c T locs cells slots) (hx : p.tables.exec = Jvm.exec) (hnl : meth.locks = false) {pc : Nat} {Ls : Array Slot} {z : Int64} (hret : meth.sig.returnType = some .long)
    (hd : decode c.code pc = .ok (.lreturn, 1)) (hc : cells ≤ C) (hs : slots ≤ S) (hQ : Q (some (.long z)) T.heap locs) : own_Fin p e below s T (mkF m pc Ls [.long z]) Q C S :=
  own_end X hnl (fun h => by rw [hret] at h; cases h) (fun fs hr => X.lreturnOut hx hret hd hr) hc hs hQ
theorem own_retV (X : Stand p l e R s m args below meth c T locs cells slots) (hx : p.tables.exec = Jvm.exec) (hnl : meth.locks = false) {pc : Nat} {Ls : Array Slot} (hret : meth.sig.returnType = none)
    (hd : decode c.code pc = .ok (.return_, 1)) (hc : cells ≤ C) (hs : slots ≤ S) (hQ : Q none T.heap locs) : own_Fin p e below s T (mkF m pc Ls []) Q C S :=
  own_end X hnl (fun _ => rfl) (fun fs hr => X.returnOut hx hret hd hr) hc hs hQ
end Own
def own_up (f : Nat → Int32) (k : Nat) (x : Int32) : Nat → Int32 := fun i => if i = k then x else f i
/-- a byte[] of N components; the i-th holds f i -/
def own_Ba (Z : State) (h : Heap) (a : Addr) (N : Nat) (f : Nat → Int32) : Prop := ∃ cl : Cell, Arr Z h a cl .byte ∧ cl.slots.size = N ∧ ∀ i, i < N → cl.slots[i]? = some (.int (f i))
section OwnArr
variable {p : Program} {l : Launch} {e : Env} {R : Room} {s : State} {m : MethodId} {args : Array Value} {below : List Frame} {meth : Method} {c : Code} {T : State} {locs : List Loc} {cells slots : Nat} {Z : State} {h h' : Heap} {a b : Addr} {N : Nat} {f f' : Nat → Int32} {sl : Nat} {v : Value} {ws : List Addr}
theorem own_Ba.lt (B : own_Ba Z h a N f) : a < h.size := by obtain ⟨cl, A, -⟩ := B; exact A.lt
theorem own_Ba.ext (B : own_Ba Z h a N f) (E : Ext h h') : own_Ba Z h' a N f := by obtain ⟨cl, A, r⟩ := B; exact ⟨cl, A.ext E, r⟩
theorem own_Ba.other (B : own_Ba Z h a N f) (W : Wr h h' b sl v) (q : a ≠ b) : own_Ba Z h' a N f := by obtain ⟨cl, A, r⟩ := B; exact ⟨cl, A.other W q, r⟩
theorem own_Ba.keep (B : own_Ba Z h a N f) (K : Keep h h' ws) (q : a ∉ ws) : own_Ba Z h' a N f := by obtain ⟨cl, A, r⟩ := B; exact ⟨cl, ⟨K.2.1 a cl A.1 q, A.2⟩, r⟩
theorem own_Ba.congr (B : own_Ba Z h a N f) (q : ∀ i, i < N → f' i = f i) : own_Ba Z h a N f' := by obtain ⟨cl, A, r1, r2⟩ := B; exact ⟨cl, A, r1, fun i hi => by rw [q i hi]; exact r2 i hi⟩
theorem own_Ba.new {k : ClassId} {z : Int32} (A : Arr Z h a (newA k .byte z) .byte) (hz : ¬ z < 0) : own_Ba Z h a z.toNatClampNeg (fun _ => 0) :=
  ⟨_, A, sz_new _ _ _, fun i hi => by simp [newA, hi, defaultValue]⟩
theorem own_Ba.set (B : own_Ba Z h a N f) {k : Nat} {x : Int32} (hk : sl = k) (W : Wr h h' a sl (.int x)) : own_Ba Z h' a N (own_up f k x) := by
  subst hk
  obtain ⟨cl, A, r1, r2⟩ := B
  refine ⟨_, A.same W, by rw [sz_set]; exact r1, fun i hi => ?_⟩
  by_cases u : sl = i
  · subst u
    have : sl < cl.slots.size := by rw [r1]; exact hi
    simp [Cell.setSlot, own_up, this]
  · have u' : ¬ i = sl := fun q => u q.symm
    simp only [Cell.setSlot, own_up, u', if_false]
    rw [Array.getElem?_setIfInBounds_ne u]; exact r2 i hi
theorem own_bst (X : Stand p l e R s m args below meth c T locs cells slots) (hx : p.tables.exec = Jvm.exec) (hZ : Z.Warmed39 s.vm) (eT : T.heap = h) (B : own_Ba Z h a N f) {j x : Int32} (k : Nat) (hj : ¬ j < 0) (hk : j.toNatClampNeg = k) (hl : k < N) {g : JFrame} (hg : g.method = m) {rest : List Value} (hs : g.stack = .int x :: .int j :: .ref a :: rest) (hd : decode c.code g.pc = .ok (.bastore, 1)) :
    ∃ T' h', Stand p l e R s m args below meth c T' (locs ++ [⟨a, j.toNatClampNeg⟩]) cells slots ∧ T'.heap = h' ∧ Wr h h' a j.toNatClampNeg (.int (nar .byte x)) ∧ own_Ba Z h' a N (own_up f k (nar .byte x)) ∧ ∀ target, Steps p.tables e below (T'.setTop { g with pc := g.pc + 1, stack := rest }) target → Steps p.tables e below (T.setTop g) target := by
  obtain ⟨cl, A, r1, r2⟩ := id B
  obtain ⟨T', h', X', e', W, st⟩ := stB X hx hZ eT A (j := j) (x := x) (by rw [r1, hk]; exact fun q => q.elim hj (fun q => absurd hl (Nat.not_lt.mpr q))) hg hs hd
  exact ⟨T', h', X', e', W, B.set hk W, st⟩
theorem own_bld (X : Stand p l e R s m args below meth c T locs cells slots) (hx : p.tables.exec = Jvm.exec) (hZ : Z.Warmed39 s.vm) (eT : T.heap = h) (B : own_Ba Z h a N f) {j : Int32} (k : Nat) (hj : ¬ j < 0) (hk : j.toNatClampNeg = k) (hl : k < N) {g : JFrame} (hg : g.method = m) {rest : List Value} (hs : g.stack = .int j :: .ref a :: rest) (hd : decode c.code g.pc = .ok (.baload, 1)) :
    ∀ target, Steps p.tables e below (T.setTop { g with pc := g.pc + 1, stack := .int (f k) :: rest }) target → Steps p.tables e below (T.setTop g) target := fun target hr => by
  obtain ⟨cl, A, r1, r2⟩ := B
  exact X.baloadBytes hx (j := j) (v := .int (f k)) (by rw [eT]; exact A.1) (State.isArrayOf_alike hZ.alike A.2.1) A.2.2 (by rw [r1, hk]; exact fun q => q.elim hj (fun q => absurd hl (Nat.not_lt.mpr q))) (by rw [hk]; exact r2 k hl) hg hs hd target hr
theorem own_aln (X : Stand p l e R s m args below meth c T locs cells slots) (hx : p.tables.exec = Jvm.exec) (hZ : Z.Warmed39 s.vm) (eT : T.heap = h) (B : own_Ba Z h a N f) {g : JFrame} (hg : g.method = m) {rest : List Value} (hs : g.stack = .ref a :: rest) (hd : decode c.code g.pc = .ok (.arraylength, 1)) :
    ∀ target, Steps p.tables e below (T.setTop { g with pc := g.pc + 1, stack := .int N.toInt32 :: rest }) target → Steps p.tables e below (T.setTop g) target := fun target hr => by
  obtain ⟨cl, A, r1, r2⟩ := B
  subst r1
  exact X.arraylength hx (by rw [eT]; exact A.1) (State.isArrayOf_alike hZ.alike A.2.1) hg hs hd target hr
theorem own_dup2 {tb : Tables} [Ours tb] {e : Env} {below : List Frame} {T target : State} {m : MethodId} {c : Code} {g : JFrame} (h : At T m c below) (hx : tb.exec = Jvm.exec) (hg : g.method = m) {x y : Value} {rest : List Value} (hd : decode c.code g.pc = .ok (.dup2, 1)) (hs : g.stack = x :: y :: rest) (h1 : x.category = 1) (h2 : y.category = 1)
    (hr : Steps tb e below (T.setTop { g with pc := g.pc + 1, stack := x :: y :: x :: y :: rest }) target) : Steps tb e below (T.setTop g) target := by
  subst hg
  jvm_step h [h.top, hx, hd, hs, h1, h2]
  exact hr
end OwnArr

theorem own_lt {x y : Int32} : x < y ↔ x.toInt < y.toInt := Int32.lt_iff_toInt_lt
theorem own_ltJ {x y : Int64} : x < y ↔ x.toInt < y.toInt := Int64.lt_iff_toInt_lt
theorem own_eq {x y : Int32} : x = y ↔ x.toInt = y.toInt := Int32.toInt_inj.symm
theorem own_eqJ {x y : Int64} : x = y ↔ x.toInt = y.toInt := Int64.toInt_inj.symm
theorem own_rng (x : Int32) : -2147483648 ≤ x.toInt ∧ x.toInt < 2147483648 := ⟨by have := Int32.le_toInt x; omega, by have := Int32.toInt_lt x; omega⟩
theorem own_rngJ (x : Int64) : -9223372036854775808 ≤ x.toInt ∧ x.toInt < 9223372036854775808 := ⟨by have := Int64.le_toInt x; omega, by have := Int64.toInt_lt x; omega⟩

def own_cm (x y : Int64) : Int32 := if x < y then -1 else if x = y then 0 else 1
theorem d8_0 : decode jdk_35_method_42_code 0 = .ok (.lload_n 0, 1) := by decide +kernel
theorem d8_1 : decode jdk_35_method_42_code 1 = .ok (.lload_n 2, 1) := by decide +kernel
theorem d8_2 : decode jdk_35_method_42_code 2 = .ok (.lcmp, 1) := by decide +kernel
theorem d8_3 : decode jdk_35_method_42_code 3 = .ok (.ifCond .ge 7, 3) := by decide +kernel
theorem d8_6 : decode jdk_35_method_42_code 6 = .ok (.iconst (-1), 1) := by decide +kernel
theorem d8_7 : decode jdk_35_method_42_code 7 = .ok (.goto 14, 3) := by decide +kernel
theorem d8_10 : decode jdk_35_method_42_code 10 = .ok (.lload_n 0, 1) := by decide +kernel
theorem d8_11 : decode jdk_35_method_42_code 11 = .ok (.lload_n 2, 1) := by decide +kernel
theorem d8_12 : decode jdk_35_method_42_code 12 = .ok (.lcmp, 1) := by decide +kernel
theorem d8_13 : decode jdk_35_method_42_code 13 = .ok (.ifCond .ne 7, 3) := by decide +kernel
theorem d8_16 : decode jdk_35_method_42_code 16 = .ok (.iconst 0, 1) := by decide +kernel
theorem d8_17 : decode jdk_35_method_42_code 17 = .ok (.goto 4, 3) := by decide +kernel
theorem d8_20 : decode jdk_35_method_42_code 20 = .ok (.iconst 1, 1) := by decide +kernel
theorem d8_21 : decode jdk_35_method_42_code 21 = .ok (.ireturn, 1) := by decide +kernel
theorem pn_8 : plainName "java/lang/Long" = true := by first | (simp [plainName, overriddenIn]; done) | decide +kernel
theorem ef_8 (m : MethodId) (x0 : Int64) (x1 : Int64) : entryFrame m #[(.long x0), (.long x1)] 4 = mkF m 0 #[.val (.long x0), .second, .val (.long x1), .second] [] := by first | (simp [entryFrame, mkF, argsToLocals, Value.category]; done) | rfl
def Q8 (Z : State) (x0 : Int64) (x1 : Int64) (h0 : Heap) (n0 : Nat) (v : Option Value) (h : Heap) (L : List Loc) : Prop := v = some (.int (own_cm x0 x1)) ∧ Fr n0 L ∧ h = h0
set_option maxRecDepth 65536 in
set_option maxHeartbeats 40000000 in
theorem rm8 (l : Launch) (Z : State) (a0 : Array Value) (hw : ∀ d ∈ tables_1, d.before a0 Z = true) (ws : List Jvm.Cond) (x0 : Int64) (x1 : Int64) (h0 : Heap) (n0 : Nat) (Z0 : n0 ≤ h0.size) :
    MetFree l (⟨"java/lang/Long", "compare", "(JJ)I"⟩ : MethodName) (head1 (Jvm.Cond.code (⟨"java/lang/Long", "compare", "(JJ)I"⟩ : MethodName) jdk_35_method_42_code 4 (some .int) :: ws) ({ frames := 0, cells := 0, slots := 0, locals := 0 } : Room)) (fun a U => a = #[(.long x0), (.long x1)] ∧ Z.Warmed39 U.vm ∧ U.heap = h0) (fun _ _ _ _ _ => True) (fun _ U o U' => ∃ v L, o = .returned v ∧ Q8 Z x0 x1 h0 n0 v U'.heap L ∧ FrameEnd U o U' L ({ frames := 0, cells := 0, slots := 0, locals := 0 } : Room).cells ({ frames := 0, cells := 0, slots := 0, locals := 0 } : Room).slots) := by
  refine MetFree.of_bodySF (plainFor_of_name pn_8) hisR ?_
  intro p e s m args below meth c s₁ Bd hml0 hP hK
  obtain ⟨rfl, hZ, hh⟩ := hP
  have hx := Bd.exec
  have hby := Bd.bytes
  have hret := Bd.returns
  have hnl : meth.locks = false := Bd.notSynchronized
  have hml : c.maxLocals = 4 := hml0
  have hown : s.vm.findClass "java/lang/Long" = some m.cls := findClass_of_methodNamed Bd.named
  have hnm := (name_of_methodNamed Bd.named Bd.method).1
  have X0 : Stand p l e ({ frames := 0, cells := 0, slots := 0, locals := 0 } : Room) s m #[(.long x0), (.long x1)] below meth c s₁ [] 0 0 := Stand.of_body Bd
  have e0 : s₁.heap = h0 := by rw [← hh, Bd.state]; rfl
  have N0 := Fr.nil n0
  suffices key : own_Fin p e below s s₁ (mkF m 0 #[.val (.long x0), .second, .val (.long x1), .second] []) (Q8 Z x0 x1 h0 n0) ({ frames := 0, cells := 0, slots := 0, locals := 0 } : Room).cells ({ frames := 0, cells := 0, slots := 0, locals := 0 } : Room).slots by
    obtain ⟨s2, o, h1, h2⟩ := key
    exact ⟨s2, o, castTop (ef_8 m x0 x1) h1, h2⟩
  refine own_go (fun _ => XS.lloadN X0.here hx rfl (hb hby d8_0) rfl) ?_
  show own_Fin _ _ _ _ s₁ (mkF m 1 #[.val (.long x0), .second, .val (.long x1), .second] [(.long x0)]) _ _ _
  refine own_go (fun _ => XS.lloadN X0.here hx rfl (hb hby d8_1) rfl) ?_
  show own_Fin _ _ _ _ s₁ (mkF m 2 #[.val (.long x0), .second, .val (.long x1), .second] [(.long x1), (.long x0)]) _ _ _
  refine own_go (fun _ => XS.lcmp X0.here hx rfl (hb hby d8_2) rfl) ?_
  show own_Fin _ _ _ _ s₁ (mkF m 3 #[.val (.long x0), .second, .val (.long x1), .second] [(.int (lcmpW x0 x1))]) _ _ _
  by_cases h3 : x0 < x1
  · refine own_go (fun _ => XS.ifNo X0.here hx rfl (hb hby d8_3) rfl ((if0 _ _).trans (tlt ((lw_lt _ _).mpr h3)).2.1)) ?_
    show own_Fin _ _ _ _ s₁ (mkF m 6 #[.val (.long x0), .second, .val (.long x1), .second] []) _ _ _
    refine own_go (fun _ => XS.iconst X0.here hx rfl (hb hby d8_6)) ?_
    show own_Fin _ _ _ _ s₁ (mkF m 7 #[.val (.long x0), .second, .val (.long x1), .second] [(.int (-1 : Int32))]) _ _ _
    refine own_go (fun _ => XS.goto X0.here hx rfl (pc0 := 7) (pc' := 21) rfl (hb hby d8_7) (by decide) (by decide)) ?_
    show own_Fin _ _ _ _ s₁ (mkF m 21 #[.val (.long x0), .second, .val (.long x1), .second] [(.int (-1 : Int32))]) _ _ _
    exact own_retI X0 hx hnl hret (hb hby d8_21) (by decide) (by decide) ⟨congrArg (fun z => some (Value.int z)) (show ((-1 : Int32) : Int32) = own_cm x0 x1 from by simp only [own_cm, if_pos h3]), N0, e0⟩
  · refine own_go (fun _ => XS.ifYes X0.here hx rfl (pc0 := 3) (pc' := 10) rfl (hb hby d8_3) rfl ((if0 _ _).trans (flt (mt (lw_lt _ _).mp h3)).2.1) (by decide) (by decide)) ?_
    show own_Fin _ _ _ _ s₁ (mkF m 10 #[.val (.long x0), .second, .val (.long x1), .second] []) _ _ _
    refine own_go (fun _ => XS.lloadN X0.here hx rfl (hb hby d8_10) rfl) ?_
    show own_Fin _ _ _ _ s₁ (mkF m 11 #[.val (.long x0), .second, .val (.long x1), .second] [(.long x0)]) _ _ _
    refine own_go (fun _ => XS.lloadN X0.here hx rfl (hb hby d8_11) rfl) ?_
    show own_Fin _ _ _ _ s₁ (mkF m 12 #[.val (.long x0), .second, .val (.long x1), .second] [(.long x1), (.long x0)]) _ _ _
    refine own_go (fun _ => XS.lcmp X0.here hx rfl (hb hby d8_12) rfl) ?_
    show own_Fin _ _ _ _ s₁ (mkF m 13 #[.val (.long x0), .second, .val (.long x1), .second] [(.int (lcmpW x0 x1))]) _ _ _
    by_cases h13 : x0 = x1
    · refine own_go (fun _ => XS.ifNo X0.here hx rfl (hb hby d8_13) rfl ((if0 _ _).trans (teq ((lw_eq _ _).mpr h13)).2)) ?_
      show own_Fin _ _ _ _ s₁ (mkF m 16 #[.val (.long x0), .second, .val (.long x1), .second] []) _ _ _
      refine own_go (fun _ => XS.iconst X0.here hx rfl (hb hby d8_16)) ?_
      show own_Fin _ _ _ _ s₁ (mkF m 17 #[.val (.long x0), .second, .val (.long x1), .second] [(.int (0 : Int32))]) _ _ _
      refine own_go (fun _ => XS.goto X0.here hx rfl (pc0 := 17) (pc' := 21) rfl (hb hby d8_17) (by decide) (by decide)) ?_
      show own_Fin _ _ _ _ s₁ (mkF m 21 #[.val (.long x0), .second, .val (.long x1), .second] [(.int (0 : Int32))]) _ _ _
      exact own_retI X0 hx hnl hret (hb hby d8_21) (by decide) (by decide) ⟨congrArg (fun z => some (Value.int z)) (show ((0 : Int32) : Int32) = own_cm x0 x1 from by simp only [own_cm, if_neg h3, if_pos h13]), N0, e0⟩
    · refine own_go (fun _ => XS.ifYes X0.here hx rfl (pc0 := 13) (pc' := 20) rfl (hb hby d8_13) rfl ((if0 _ _).trans (feq (mt (lw_eq _ _).mp h13)).2) (by decide) (by decide)) ?_
      show own_Fin _ _ _ _ s₁ (mkF m 20 #[.val (.long x0), .second, .val (.long x1), .second] []) _ _ _
      refine own_go (fun _ => XS.iconst X0.here hx rfl (hb hby d8_20)) ?_
      show own_Fin _ _ _ _ s₁ (mkF m 21 #[.val (.long x0), .second, .val (.long x1), .second] [(.int (1 : Int32))]) _ _ _
      exact own_retI X0 hx hnl hret (hb hby d8_21) (by decide) (by decide) ⟨congrArg (fun z => some (Value.int z)) (show ((1 : Int32) : Int32) = own_cm x0 x1 from by simp only [own_cm, if_neg h3, if_neg h13]), N0, e0⟩

def own_cu (x y : Int64) : Int32 := own_cm (x + -9223372036854775808) (y + -9223372036854775808)
theorem d7_0 : decode jdk_35_method_43_code 0 = .ok (.lload_n 0, 1) := by decide +kernel
theorem d7_1 : decode jdk_35_method_43_code 1 = .ok (.ldc2_w 168, 3) := by decide +kernel
theorem d7_4 : decode jdk_35_method_43_code 4 = .ok (.ladd, 1) := by decide +kernel
theorem d7_5 : decode jdk_35_method_43_code 5 = .ok (.lload_n 2, 1) := by decide +kernel
theorem d7_6 : decode jdk_35_method_43_code 6 = .ok (.ldc2_w 168, 3) := by decide +kernel
theorem d7_9 : decode jdk_35_method_43_code 9 = .ok (.ladd, 1) := by decide +kernel
theorem d7_10 : decode jdk_35_method_43_code 10 = .ok (.invokestatic 302, 3) := by decide +kernel
theorem d7_13 : decode jdk_35_method_43_code 13 = .ok (.ireturn, 1) := by decide +kernel
theorem pd_0 : parseMethodDescriptor "(JJ)I" = some ⟨[.long, .long], some .int⟩ := by decide +kernel
theorem pn_7 : plainName "java/lang/Long" = true := by first | (simp [plainName, overriddenIn]; done) | decide +kernel
theorem ef_7 (m : MethodId) (x0 : Int64) (x1 : Int64) : entryFrame m #[(.long x0), (.long x1)] 4 = mkF m 0 #[.val (.long x0), .second, .val (.long x1), .second] [] := by first | (simp [entryFrame, mkF, argsToLocals, Value.category]; done) | rfl
def Q7 (Z : State) (x0 : Int64) (x1 : Int64) (h0 : Heap) (n0 : Nat) (v : Option Value) (h : Heap) (L : List Loc) : Prop := v = some (.int (own_cu x0 x1)) ∧ Fr n0 L ∧ h = h0
set_option maxRecDepth 65536 in
set_option maxHeartbeats 40000000 in
theorem rm7 (l : Launch) (Z : State) (a0 : Array Value) (hw : ∀ d ∈ tables_1, d.before a0 Z = true) (ws : List Jvm.Cond) (x0 : Int64) (x1 : Int64) (h0 : Heap) (n0 : Nat) (Z0 : n0 ≤ h0.size) :
    MetFree l (⟨"java/lang/Long", "compareUnsigned", "(JJ)I"⟩ : MethodName) (head1 (Jvm.Cond.code (⟨"java/lang/Long", "compareUnsigned", "(JJ)I"⟩ : MethodName) jdk_35_method_43_code 4 (some .int) :: ws) ({ frames := 1, cells := 0, slots := 0, locals := 15 } : Room)) (fun a U => a = #[(.long x0), (.long x1)] ∧ Z.Warmed39 U.vm ∧ U.heap = h0) (fun _ _ _ _ _ => True) (fun _ U o U' => ∃ v L, o = .returned v ∧ Q7 Z x0 x1 h0 n0 v U'.heap L ∧ FrameEnd U o U' L ({ frames := 1, cells := 0, slots := 0, locals := 15 } : Room).cells ({ frames := 1, cells := 0, slots := 0, locals := 15 } : Room).slots) := by
  refine MetFree.of_bodySF (plainFor_of_name pn_7) hisR ?_
  intro p e s m args below meth c s₁ Bd hml0 hP hK
  obtain ⟨rfl, hZ, hh⟩ := hP
  have hx := Bd.exec
  have hby := Bd.bytes
  have hret := Bd.returns
  have hnl : meth.locks = false := Bd.notSynchronized
  have hml : c.maxLocals = 4 := hml0
  have hown : s.vm.findClass "java/lang/Long" = some m.cls := findClass_of_methodNamed Bd.named
  have hnm := (name_of_methodNamed Bd.named Bd.method).1
  have X0 : Stand p l e ({ frames := 1, cells := 0, slots := 0, locals := 15 } : Room) s m #[(.long x0), (.long x1)] below meth c s₁ [] 0 0 := Stand.of_body Bd
  have e0 : s₁.heap = h0 := by rw [← hh, Bd.state]; rfl
  have N0 := Fr.nil n0
  suffices key : own_Fin p e below s s₁ (mkF m 0 #[.val (.long x0), .second, .val (.long x1), .second] []) (Q7 Z x0 x1 h0 n0) ({ frames := 1, cells := 0, slots := 0, locals := 15 } : Room).cells ({ frames := 1, cells := 0, slots := 0, locals := 15 } : Room).slots by
    obtain ⟨s2, o, h1, h2⟩ := key
    exact ⟨s2, o, castTop (ef_7 m x0 x1) h1, h2⟩
  refine own_go (fun _ => XS.lloadN X0.here hx rfl (hb hby d7_0) rfl) ?_
  show own_Fin _ _ _ _ s₁ (mkF m 1 #[.val (.long x0), .second, .val (.long x1), .second] [(.long x0)]) _ _ _
  refine own_go (fun _ => X0.ldc2J hx hown (mvT hZ (hw _ (List.mem_of_getElem? (i := 40) rfl))) rfl (hb hby d7_1)) ?_
  show own_Fin _ _ _ _ s₁ (mkF m 4 #[.val (.long x0), .second, .val (.long x1), .second] [(.long (-9223372036854775808 : Int64)), (.long x0)]) _ _ _
  refine own_go (fun _ => XS.ladd X0.here hx rfl (hb hby d7_4) rfl) ?_
  show own_Fin _ _ _ _ s₁ (mkF m 5 #[.val (.long x0), .second, .val (.long x1), .second] [(.long (x0 + (-9223372036854775808 : Int64)))]) _ _ _
  refine own_go (fun _ => XS.lloadN X0.here hx rfl (hb hby d7_5) rfl) ?_
  show own_Fin _ _ _ _ s₁ (mkF m 6 #[.val (.long x0), .second, .val (.long x1), .second] [(.long x1), (.long (x0 + (-9223372036854775808 : Int64)))]) _ _ _
  refine own_go (fun _ => X0.ldc2J hx hown (mvT hZ (hw _ (List.mem_of_getElem? (i := 40) rfl))) rfl (hb hby d7_6)) ?_
  show own_Fin _ _ _ _ s₁ (mkF m 9 #[.val (.long x0), .second, .val (.long x1), .second] [(.long (-9223372036854775808 : Int64)), (.long x1), (.long (x0 + (-9223372036854775808 : Int64)))]) _ _ _
  refine own_go (fun _ => XS.ladd X0.here hx rfl (hb hby d7_9) rfl) ?_
  show own_Fin _ _ _ _ s₁ (mkF m 10 #[.val (.long x0), .second, .val (.long x1), .second] [(.long (x1 + (-9223372036854775808 : Int64))), (.long (x0 + (-9223372036854775808 : Int64)))]) _ _ _
  obtain ⟨_, _, ⟨T1, L1, k1, n1⟩, -, X1, ⟨Lc1, hQ1, l1, y1, z1⟩, st1⟩ := Jvm.LawKit.callS X0 hx (y := (⟨"java/lang/Long", "compare", "(JJ)I"⟩ : MethodName)) hown (mvT hZ (hw _ (List.mem_of_getElem? (i := 41) rfl))) (mvT hZ (hw _ (List.mem_of_getElem? (i := 42) rfl))) (mvT hZ (hw _ (List.mem_of_getElem? (i := 38) rfl))) (mvT hZ (hw _ (List.mem_of_getElem? (i := 43) rfl))) (by decide) (backOf (W := 0) (rm8 l Z a0 hw [] (x0 + (-9223372036854775808 : Int64)) (x1 + (-9223372036854775808 : Int64))  h0 n0 Z0 ) hZ (hw _ (List.mem_of_getElem? (i := 43) rfl)) (hw _ (List.mem_of_getElem? (i := 38) rfl)) (by decide) (by decide)) (g := (mkF m 10 #[.val (.long x0), .second, .val (.long x1), .second] [(.long (x1 + (-9223372036854775808 : Int64))), (.long (x0 + (-9223372036854775808 : Int64)))])) rfl (by rw [hml]; rfl) (argsL := [(.long (x0 + (-9223372036854775808 : Int64))), (.long (x1 + (-9223372036854775808 : Int64)))]) (rest := []) (lenOf pd_0 rfl) rfl (by show 2 * 0 + _ ≤ _; exact Nat.le_of_eq rfl) (hb hby d7_10) (fun _ _ => ⟨rfl, e0, (by decide : 0 + 0 ≤ _), (by decide : 0 + 0 ≤ _)⟩)
  dsimp only [Pt.U, Pt.locs, Pt.cells, Pt.slots] at X1 l1 y1 z1 st1 hQ1
  subst l1 y1 z1
  obtain ⟨rfl, N1q, e1⟩ := hQ1
  have N1 := Fr.app N0 N1q
  refine own_go st1 ?_
  show own_Fin _ _ _ _ T1 (mkF m 13 #[.val (.long x0), .second, .val (.long x1), .second] [(.int (own_cm (x0 + (-9223372036854775808 : Int64)) (x1 + (-9223372036854775808 : Int64))))]) _ _ _
  exact own_retI X1 hx hnl hret (hb hby d7_13) (by decide) (by decide) ⟨rfl, N1, e1⟩

theorem d6_0 : decode prog_5_method_3_code 0 = .ok (.lload_n 0, 1) := by decide +kernel
theorem d6_1 : decode prog_5_method_3_code 1 = .ok (.ldc2_w 27, 3) := by decide +kernel
theorem d6_4 : decode prog_5_method_3_code 4 = .ok (.invokestatic 29, 3) := by decide +kernel
theorem d6_7 : decode prog_5_method_3_code 7 = .ok (.ifCond .ge 5, 3) := by decide +kernel
theorem d6_10 : decode prog_5_method_3_code 10 = .ok (.iconst 0, 1) := by decide +kernel
theorem d6_11 : decode prog_5_method_3_code 11 = .ok (.ireturn, 1) := by decide +kernel
theorem pn_6 : plainName "com/example/hosts_to_firehose/hoststofirehose/io/Cbor" = true := by first | (simp [plainName, overriddenIn]; done) | decide +kernel
theorem ef_6 (m : MethodId) (x0 : Int64) : entryFrame m #[(.long x0)] 2 = mkF m 0 #[.val (.long x0), .second] [] := by first | (simp [entryFrame, mkF, argsToLocals, Value.category]; done) | rfl
def Q6 (Z : State) (x0 : Int64) (h0 : Heap) (n0 : Nat) (v : Option Value) (h : Heap) (L : List Loc) : Prop := v = some (.int (0)) ∧ Fr n0 L ∧ h = h0
set_option maxRecDepth 65536 in
set_option maxHeartbeats 40000000 in
theorem rm6 (l : Launch) (Z : State) (a0 : Array Value) (hw : ∀ d ∈ tables_1, d.before a0 Z = true) (ws : List Jvm.Cond) (x0 : Int64) (h0 : Heap) (n0 : Nat) (Z0 : n0 ≤ h0.size) (hx0 : x0 = 0) :
    MetFree l (⟨"com/example/hosts_to_firehose/hoststofirehose/io/Cbor", "shortestArgumentBytes", "(J)I"⟩ : MethodName) (head1 (Jvm.Cond.code (⟨"com/example/hosts_to_firehose/hoststofirehose/io/Cbor", "shortestArgumentBytes", "(J)I"⟩ : MethodName) prog_5_method_3_code 2 (some .int) :: ws) ({ frames := 2, cells := 0, slots := 0, locals := 30 } : Room)) (fun a U => a = #[(.long x0)] ∧ Z.Warmed39 U.vm ∧ U.heap = h0) (fun _ _ _ _ _ => True) (fun _ U o U' => ∃ v L, o = .returned v ∧ Q6 Z x0 h0 n0 v U'.heap L ∧ FrameEnd U o U' L ({ frames := 2, cells := 0, slots := 0, locals := 30 } : Room).cells ({ frames := 2, cells := 0, slots := 0, locals := 30 } : Room).slots) := by
  refine MetFree.of_bodySF (plainFor_of_name pn_6) hisR ?_
  intro p e s m args below meth c s₁ Bd hml0 hP hK
  obtain ⟨rfl, hZ, hh⟩ := hP
  have hx := Bd.exec
  have hby := Bd.bytes
  have hret := Bd.returns
  have hnl : meth.locks = false := Bd.notSynchronized
  have hml : c.maxLocals = 2 := hml0
  have hown : s.vm.findClass "com/example/hosts_to_firehose/hoststofirehose/io/Cbor" = some m.cls := findClass_of_methodNamed Bd.named
  have hnm := (name_of_methodNamed Bd.named Bd.method).1
  have X0 : Stand p l e ({ frames := 2, cells := 0, slots := 0, locals := 30 } : Room) s m #[(.long x0)] below meth c s₁ [] 0 0 := Stand.of_body Bd
  have e0 : s₁.heap = h0 := by rw [← hh, Bd.state]; rfl
  have N0 := Fr.nil n0
  suffices key : own_Fin p e below s s₁ (mkF m 0 #[.val (.long x0), .second] []) (Q6 Z x0 h0 n0) ({ frames := 2, cells := 0, slots := 0, locals := 30 } : Room).cells ({ frames := 2, cells := 0, slots := 0, locals := 30 } : Room).slots by
    obtain ⟨s2, o, h1, h2⟩ := key
    exact ⟨s2, o, castTop (ef_6 m x0) h1, h2⟩
  refine own_go (fun _ => XS.lloadN X0.here hx rfl (hb hby d6_0) rfl) ?_
  show own_Fin _ _ _ _ s₁ (mkF m 1 #[.val (.long x0), .second] [(.long x0)]) _ _ _
  refine own_go (fun _ => X0.ldc2J hx hown (mvT hZ (hw _ (List.mem_of_getElem? (i := 35) rfl))) rfl (hb hby d6_1)) ?_
  show own_Fin _ _ _ _ s₁ (mkF m 4 #[.val (.long x0), .second] [(.long (24 : Int64)), (.long x0)]) _ _ _
  obtain ⟨_, _, ⟨T1, L1, k1, n1⟩, -, X1, ⟨Lc1, hQ1, l1, y1, z1⟩, st1⟩ := Jvm.LawKit.callS X0 hx (y := (⟨"java/lang/Long", "compareUnsigned", "(JJ)I"⟩ : MethodName)) hown (mvT hZ (hw _ (List.mem_of_getElem? (i := 36) rfl))) (mvT hZ (hw _ (List.mem_of_getElem? (i := 37) rfl))) (mvT hZ (hw _ (List.mem_of_getElem? (i := 38) rfl))) (mvT hZ (hw _ (List.mem_of_getElem? (i := 39) rfl))) (by decide) (backOf (W := 0) (rm7 l Z a0 hw [] x0 (24 : Int64)  h0 n0 Z0 ) hZ (hw _ (List.mem_of_getElem? (i := 39) rfl)) (hw _ (List.mem_of_getElem? (i := 38) rfl)) (by decide) (by decide)) (g := (mkF m 4 #[.val (.long x0), .second] [(.long (24 : Int64)), (.long x0)])) rfl (by rw [hml]; rfl) (argsL := [(.long x0), (.long (24 : Int64))]) (rest := []) (lenOf pd_0 rfl) rfl (by show 2 * 0 + _ ≤ _; exact Nat.le_of_eq rfl) (hb hby d6_4) (fun _ _ => ⟨rfl, e0, (by decide : 0 + 0 ≤ _), (by decide : 0 + 0 ≤ _)⟩)
  dsimp only [Pt.U, Pt.locs, Pt.cells, Pt.slots] at X1 l1 y1 z1 st1 hQ1
  subst l1 y1 z1
  obtain ⟨rfl, N1q, e1⟩ := hQ1
  have N1 := Fr.app N0 N1q
  refine own_go st1 ?_
  show own_Fin _ _ _ _ T1 (mkF m 7 #[.val (.long x0), .second] [(.int (own_cu x0 (24 : Int64)))]) _ _ _
  refine own_go (fun _ => XS.ifNo X1.here hx rfl (hb hby d6_7) rfl ((if0 _ _).trans (tlt (show (own_cu x0 (24 : Int64)) < (0 : Int32) from by rw [hx0]; decide +kernel)).2.1)) ?_
  show own_Fin _ _ _ _ T1 (mkF m 10 #[.val (.long x0), .second] []) _ _ _
  refine own_go (fun _ => XS.iconst X1.here hx rfl (hb hby d6_10)) ?_
  show own_Fin _ _ _ _ T1 (mkF m 11 #[.val (.long x0), .second] [(.int (0 : Int32))]) _ _ _
  exact own_retI X1 hx hnl hret (hb hby d6_11) (by decide) (by decide) ⟨rfl, N1, e1⟩

theorem d1_0 : decode prog_6_method_2_code 0 = .ok (.aload_n 0, 1) := by decide +kernel
theorem d1_1 : decode prog_6_method_2_code 1 = .ok (.invokespecial 7, 3) := by decide +kernel
theorem d1_4 : decode prog_6_method_2_code 4 = .ok (.iload_n 2, 1) := by decide +kernel
theorem d1_5 : decode prog_6_method_2_code 5 = .ok (.ifCond .lt 9, 3) := by decide +kernel
theorem d1_8 : decode prog_6_method_2_code 8 = .ok (.iload_n 2, 1) := by decide +kernel
theorem d1_9 : decode prog_6_method_2_code 9 = .ok (.aload_n 1, 1) := by decide +kernel
theorem d1_10 : decode prog_6_method_2_code 10 = .ok (.arraylength, 1) := by decide +kernel
theorem d1_11 : decode prog_6_method_2_code 11 = .ok (.if_icmp .le 12, 3) := by decide +kernel
theorem d1_23 : decode prog_6_method_2_code 23 = .ok (.aload_n 0, 1) := by decide +kernel
theorem d1_24 : decode prog_6_method_2_code 24 = .ok (.aload_n 1, 1) := by decide +kernel
theorem d1_25 : decode prog_6_method_2_code 25 = .ok (.putfield 17, 3) := by decide +kernel
theorem d1_28 : decode prog_6_method_2_code 28 = .ok (.aload_n 0, 1) := by decide +kernel
theorem d1_29 : decode prog_6_method_2_code 29 = .ok (.iload_n 2, 1) := by decide +kernel
theorem d1_30 : decode prog_6_method_2_code 30 = .ok (.putfield 21, 3) := by decide +kernel
theorem d1_33 : decode prog_6_method_2_code 33 = .ok (.return_, 1) := by decide +kernel
theorem pn_1 : plainName "com/example/hosts_to_firehose/hoststofirehose/io/CborReader" = true := by first | (simp [plainName, overriddenIn]; done) | decide +kernel
theorem ef_1 (m : MethodId) (x0 : Addr) (x1 : Addr) (x2 : Int32) : entryFrame m #[(.ref x0), (.ref x1), (.int x2)] 3 = mkF m 0 #[.val (.ref x0), .val (.ref x1), .val (.int x2)] [] := by first | (simp [entryFrame, mkF, argsToLocals, Value.category]; done) | rfl
def Q1 (Z : State) (x0 : Addr) (x1 : Addr) (x2 : Int32) (z : Int32) (f : Nat → Int32) (u0 : Value) (u1 : Value) (u2 : Value) (u3 : Value) (h0 : Heap) (n0 : Nat) (v : Option Value) (h : Heap) (L : List Loc) : Prop := v = none ∧ Fr n0 L ∧ Keep h0 h [x0] ∧ Exa Z h x0 "com/example/hosts_to_firehose/hoststofirehose/io/CborReader" ∧ Fld Z h x0 "com/example/hosts_to_firehose/hoststofirehose/io/CborReader" "bytes" "[B" (.ref x1) ∧ Fld Z h x0 "com/example/hosts_to_firehose/hoststofirehose/io/CborReader" "position" "I" (.int x2) ∧ Fld Z h x0 "com/example/hosts_to_firehose/hoststofirehose/io/CborReader" "argument" "J" u2 ∧ Fld Z h x0 "com/example/hosts_to_firehose/hoststofirehose/io/CborReader" "headShortest" "Z" u3
set_option maxRecDepth 65536 in
set_option maxHeartbeats 40000000 in
theorem rm1 (l : Launch) (Z : State) (a0 : Array Value) (hw : ∀ d ∈ tables_1, d.before a0 Z = true) (ws : List Jvm.Cond) (x0 : Addr) (x1 : Addr) (x2 : Int32) (z : Int32) (f : Nat → Int32) (u0 : Value) (u1 : Value) (u2 : Value) (u3 : Value) (h0 : Heap) (n0 : Nat) (Z0 : n0 ≤ h0.size) (E_x0 : Exa Z h0 x0 "com/example/hosts_to_firehose/hoststofirehose/io/CborReader") (g_x0 : n0 ≤ x0) (F0 : Fld Z h0 x0 "com/example/hosts_to_firehose/hoststofirehose/io/CborReader" "bytes" "[B" u0) (F1 : Fld Z h0 x0 "com/example/hosts_to_firehose/hoststofirehose/io/CborReader" "position" "I" u1) (F2 : Fld Z h0 x0 "com/example/hosts_to_firehose/hoststofirehose/io/CborReader" "argument" "J" u2) (F3 : Fld Z h0 x0 "com/example/hosts_to_firehose/hoststofirehose/io/CborReader" "headShortest" "Z" u3) (B1 : own_Ba Z h0 x1 z.toNatClampNeg f) (hz : ¬ z < 0) (ne10 : x1 ≠ x0) (hx2 : ¬ x2 < 0) (hxz : ¬ z < x2) :
    MetFree l (⟨"com/example/hosts_to_firehose/hoststofirehose/io/CborReader", "<init>", "([BI)V"⟩ : MethodName) (head1 (Jvm.Cond.code (⟨"com/example/hosts_to_firehose/hoststofirehose/io/CborReader", "<init>", "([BI)V"⟩ : MethodName) prog_6_method_2_code 3 none :: ws) ({ frames := 1, cells := 0, slots := 0, locals := 12 } : Room)) (fun a U => a = #[(.ref x0), (.ref x1), (.int x2)] ∧ Z.Warmed39 U.vm ∧ U.heap = h0) (fun _ _ _ _ _ => True) (fun _ U o U' => ∃ v L, o = .returned v ∧ Q1 Z x0 x1 x2 z f u0 u1 u2 u3 h0 n0 v U'.heap L ∧ FrameEnd U o U' L ({ frames := 1, cells := 0, slots := 0, locals := 12 } : Room).cells ({ frames := 1, cells := 0, slots := 0, locals := 12 } : Room).slots) := by
  refine MetFree.of_bodySF (plainFor_of_name pn_1) hisR ?_
  intro p e s m args below meth c s₁ Bd hml0 hP hK
  obtain ⟨rfl, hZ, hh⟩ := hP
  have hx := Bd.exec
  have hby := Bd.bytes
  have hret := Bd.returns
  have hnl : meth.locks = false := Bd.notSynchronized
  have hml : c.maxLocals = 3 := hml0
  have hown : s.vm.findClass "com/example/hosts_to_firehose/hoststofirehose/io/CborReader" = some m.cls := findClass_of_methodNamed Bd.named
  have hnm := (name_of_methodNamed Bd.named Bd.method).1
  have X0 : Stand p l e ({ frames := 1, cells := 0, slots := 0, locals := 12 } : Room) s m #[(.ref x0), (.ref x1), (.int x2)] below meth c s₁ [] 0 0 := Stand.of_body Bd
  have e0 : s₁.heap = h0 := by rw [← hh, Bd.state]; rfl
  have N0 := Fr.nil n0
  suffices key : own_Fin p e below s s₁ (mkF m 0 #[.val (.ref x0), .val (.ref x1), .val (.int x2)] []) (Q1 Z x0 x1 x2 z f u0 u1 u2 u3 h0 n0) ({ frames := 1, cells := 0, slots := 0, locals := 12 } : Room).cells ({ frames := 1, cells := 0, slots := 0, locals := 12 } : Room).slots by
    obtain ⟨s2, o, h1, h2⟩ := key
    exact ⟨s2, o, castTop (ef_1 m x0 x1 x2) h1, h2⟩
  refine own_go (fun _ => XS.aloadN X0.here hx rfl (hb hby d1_0) rfl rfl) ?_
  show own_Fin _ _ _ _ s₁ (mkF m 1 #[.val (.ref x0), .val (.ref x1), .val (.int x2)] [(.ref x0)]) _ _ _
  obtain ⟨T1, X1, e1, st1⟩ := initO X0 hx hZ hown (hw _ (List.mem_of_getElem? (i := 8) rfl)) (hw _ (List.mem_of_getElem? (i := 9) rfl)) (hw _ (List.mem_of_getElem? (i := 10) rfl)) e0 (g := (mkF m 1 #[.val (.ref x0), .val (.ref x1), .val (.int x2)] [(.ref x0)])) rfl (by rw [hml]; rfl) rfl (hb hby d1_1) (by decide) (W := 0) (by show 2 * 0 + _ ≤ _; exact Nat.le_of_eq rfl) (by decide)
  refine own_go st1 ?_
  show own_Fin _ _ _ _ T1 (mkF m 4 #[.val (.ref x0), .val (.ref x1), .val (.int x2)] []) _ _ _
  refine own_go (fun _ => XS.iloadN X1.here hx rfl (hb hby d1_4) rfl) ?_
  show own_Fin _ _ _ _ T1 (mkF m 5 #[.val (.ref x0), .val (.ref x1), .val (.int x2)] [(.int x2)]) _ _ _
  refine own_go (fun _ => XS.ifNo X1.here hx rfl (hb hby d1_5) rfl ((if0 _ _).trans (flt (show ¬ (x2 < (0 : Int32)) from hx2)).1)) ?_
  show own_Fin _ _ _ _ T1 (mkF m 8 #[.val (.ref x0), .val (.ref x1), .val (.int x2)] []) _ _ _
  refine own_go (fun _ => XS.iloadN X1.here hx rfl (hb hby d1_8) rfl) ?_
  show own_Fin _ _ _ _ T1 (mkF m 9 #[.val (.ref x0), .val (.ref x1), .val (.int x2)] [(.int x2)]) _ _ _
  refine own_go (fun _ => XS.aloadN X1.here hx rfl (hb hby d1_9) rfl rfl) ?_
  show own_Fin _ _ _ _ T1 (mkF m 10 #[.val (.ref x0), .val (.ref x1), .val (.int x2)] [(.ref x1), (.int x2)]) _ _ _
  refine own_go (own_aln X1 hx hZ e1 B1 rfl rfl (hb hby d1_10)) ?_
  rw [(back32 hz).1]
  show own_Fin _ _ _ _ T1 (mkF m 11 #[.val (.ref x0), .val (.ref x1), .val (.int x2)] [(.int z), (.int x2)]) _ _ _
  refine own_go (fun _ => XS.icmpYes X1.here hx rfl (pc0 := 11) (pc' := 23) rfl (hb hby d1_11) rfl (flt (show ¬ (z < x2) from hxz)).2.2.2 (by decide) (by decide)) ?_
  show own_Fin _ _ _ _ T1 (mkF m 23 #[.val (.ref x0), .val (.ref x1), .val (.int x2)] []) _ _ _
  refine own_go (fun _ => XS.aloadN X1.here hx rfl (hb hby d1_23) rfl rfl) ?_
  show own_Fin _ _ _ _ T1 (mkF m 24 #[.val (.ref x0), .val (.ref x1), .val (.int x2)] [(.ref x0)]) _ _ _
  refine own_go (fun _ => XS.aloadN X1.here hx rfl (hb hby d1_24) rfl rfl) ?_
  show own_Fin _ _ _ _ T1 (mkF m 25 #[.val (.ref x0), .val (.ref x1), .val (.int x2)] [(.ref x1), (.ref x0)]) _ _ _
  obtain ⟨T2, h2, X2, e2, W2, st2⟩ := putF X1 hx hZ hown (host := "") (Or.inl (hw _ (List.mem_of_getElem? (i := 11) rfl))) Via.refl e1 F0 E_x0 (Or.inr ⟨(hw _ (List.mem_of_getElem? (i := 12) rfl)), rfl, hnm⟩) (hw _ (List.mem_of_getElem? (i := 3) rfl)) (ty := (.array .byte)) (by decide) rfl rfl (g := (mkF m 25 #[.val (.ref x0), .val (.ref x1), .val (.int x2)] [(.ref x1), (.ref x0)])) rfl rfl (hb hby d1_25)
  have F2_x0_bytes := (F0).same W2
  have F2_x0_position := (F1).other W2 (Or.inr (slot_ne (Or.inl (hw _ (List.mem_of_getElem? (i := 14) rfl))) (Or.inr (hw _ (List.mem_of_getElem? (i := 12) rfl))) (by decide) (t := .int) (t' := (.array .byte)) (by decide) (by decide)))
  have F2_x0_argument := (F2).other W2 (Or.inr (slot_ne (Or.inl (hw _ (List.mem_of_getElem? (i := 30) rfl))) (Or.inr (hw _ (List.mem_of_getElem? (i := 12) rfl))) (by decide) (t := .long) (t' := (.array .byte)) (by decide) (by decide)))
  have F2_x0_headShortest := (F3).other W2 (Or.inr (slot_ne (Or.inl (hw _ (List.mem_of_getElem? (i := 45) rfl))) (Or.inr (hw _ (List.mem_of_getElem? (i := 12) rfl))) (by decide) (t := .boolean) (t' := (.array .byte)) (by decide) (by decide)))
  have E2_x0 := (E_x0).wr W2
  have V2_x1 := (B1).other W2 ne10
  have K2 : Keep h0 h2 [x0] := ((Keep.refl h0 [x0])).wr W2 (Or.inl (List.mem_of_getElem? (i := 0) rfl))
  have N2 := Fr.snoc X2 N0 g_x0
  have Z2 : n0 ≤ h2.size := Nat.le_trans Z0 (Keep.of_wr W2).1
  refine own_go st2 ?_
  show own_Fin _ _ _ _ T2 (mkF m 28 #[.val (.ref x0), .val (.ref x1), .val (.int x2)] []) _ _ _
  refine own_go (fun _ => XS.aloadN X2.here hx rfl (hb hby d1_28) rfl rfl) ?_
  show own_Fin _ _ _ _ T2 (mkF m 29 #[.val (.ref x0), .val (.ref x1), .val (.int x2)] [(.ref x0)]) _ _ _
  refine own_go (fun _ => XS.iloadN X2.here hx rfl (hb hby d1_29) rfl) ?_
  show own_Fin _ _ _ _ T2 (mkF m 30 #[.val (.ref x0), .val (.ref x1), .val (.int x2)] [(.int x2), (.ref x0)]) _ _ _
  obtain ⟨T3, h3, X3, e3, W3, st3⟩ := putF X2 hx hZ hown (host := "") (Or.inl (hw _ (List.mem_of_getElem? (i := 13) rfl))) Via.refl e2 F2_x0_position E2_x0 (Or.inl (hw _ (List.mem_of_getElem? (i := 14) rfl))) (hw _ (List.mem_of_getElem? (i := 3) rfl)) (ty := .int) (by decide) rfl rfl (g := (mkF m 30 #[.val (.ref x0), .val (.ref x1), .val (.int x2)] [(.int x2), (.ref x0)])) rfl rfl (hb hby d1_30)
  have F3_x0_bytes := (F2_x0_bytes).other W3 (Or.inr (slot_ne (Or.inr (hw _ (List.mem_of_getElem? (i := 12) rfl))) (Or.inl (hw _ (List.mem_of_getElem? (i := 14) rfl))) (by decide) (t := (.array .byte)) (t' := .int) (by decide) (by decide)))
  have F3_x0_position := (F2_x0_position).same W3
  have F3_x0_argument := (F2_x0_argument).other W3 (Or.inr (slot_ne (Or.inl (hw _ (List.mem_of_getElem? (i := 30) rfl))) (Or.inl (hw _ (List.mem_of_getElem? (i := 14) rfl))) (by decide) (t := .long) (t' := .int) (by decide) (by decide)))
  have F3_x0_headShortest := (F2_x0_headShortest).other W3 (Or.inr (slot_ne (Or.inl (hw _ (List.mem_of_getElem? (i := 45) rfl))) (Or.inl (hw _ (List.mem_of_getElem? (i := 14) rfl))) (by decide) (t := .boolean) (t' := .int) (by decide) (by decide)))
  have E3_x0 := (E2_x0).wr W3
  have V3_x1 := (V2_x1).other W3 ne10
  have K3 : Keep h0 h3 [x0] := (K2).wr W3 (Or.inl (List.mem_of_getElem? (i := 0) rfl))
  have N3 := Fr.snoc X3 N2 g_x0
  have Z3 : n0 ≤ h3.size := Nat.le_trans Z2 (Keep.of_wr W3).1
  refine own_go st3 ?_
  show own_Fin _ _ _ _ T3 (mkF m 33 #[.val (.ref x0), .val (.ref x1), .val (.int x2)] []) _ _ _
  exact own_retV X3 hx hnl hret (hb hby d1_33) (by decide) (by decide) ⟨rfl, N3, by rw [e3]; exact K3, by rw [e3]; exact E3_x0, by rw [e3]; exact F3_x0_bytes, by rw [e3]; exact F3_x0_position, by rw [e3]; exact F3_x0_argument, by rw [e3]; exact F3_x0_headShortest⟩

def own_ae (p z : Int32) : Int32 := if p = z then 1 else 0
theorem d3_0 : decode prog_6_method_4_code 0 = .ok (.aload_n 0, 1) := by decide +kernel
theorem d3_1 : decode prog_6_method_4_code 1 = .ok (.getfield 21, 3) := by decide +kernel
theorem d3_4 : decode prog_6_method_4_code 4 = .ok (.aload_n 0, 1) := by decide +kernel
theorem d3_5 : decode prog_6_method_4_code 5 = .ok (.getfield 17, 3) := by decide +kernel
theorem d3_8 : decode prog_6_method_4_code 8 = .ok (.arraylength, 1) := by decide +kernel
theorem d3_9 : decode prog_6_method_4_code 9 = .ok (.if_icmp .ne 7, 3) := by decide +kernel
theorem d3_12 : decode prog_6_method_4_code 12 = .ok (.iconst 1, 1) := by decide +kernel
theorem d3_13 : decode prog_6_method_4_code 13 = .ok (.goto 4, 3) := by decide +kernel
theorem d3_16 : decode prog_6_method_4_code 16 = .ok (.iconst 0, 1) := by decide +kernel
theorem d3_17 : decode prog_6_method_4_code 17 = .ok (.ireturn, 1) := by decide +kernel
theorem pn_3 : plainName "com/example/hosts_to_firehose/hoststofirehose/io/CborReader" = true := by first | (simp [plainName, overriddenIn]; done) | decide +kernel
theorem ef_3 (m : MethodId) (x0 : Addr) : entryFrame m #[(.ref x0)] 1 = mkF m 0 #[.val (.ref x0)] [] := by first | (simp [entryFrame, mkF, argsToLocals, Value.category]; done) | rfl
def Q3 (Z : State) (x0 : Addr) (pp : Int32) (bb : Addr) (z : Int32) (h0 : Heap) (n0 : Nat) (v : Option Value) (h : Heap) (L : List Loc) : Prop := v = some (.int (own_ae pp z)) ∧ Fr n0 L ∧ h = h0
set_option maxRecDepth 65536 in
set_option maxHeartbeats 40000000 in
theorem rm3 (l : Launch) (Z : State) (a0 : Array Value) (hw : ∀ d ∈ tables_1, d.before a0 Z = true) (ws : List Jvm.Cond) (x0 : Addr) (pp : Int32) (bb : Addr) (z : Int32) (h0 : Heap) (n0 : Nat) (Z0 : n0 ≤ h0.size) (F0 : Fld Z h0 x0 "com/example/hosts_to_firehose/hoststofirehose/io/CborReader" "bytes" "[B" (.ref bb)) (F1 : Fld Z h0 x0 "com/example/hosts_to_firehose/hoststofirehose/io/CborReader" "position" "I" (.int pp)) (B1 : own_Ba Z h0 bb z.toNatClampNeg (fun _ => 0)) (hz : ¬ z < 0) :
    MetFree l (⟨"com/example/hosts_to_firehose/hoststofirehose/io/CborReader", "atEnd", "()Z"⟩ : MethodName) (head1 (Jvm.Cond.code (⟨"com/example/hosts_to_firehose/hoststofirehose/io/CborReader", "atEnd", "()Z"⟩ : MethodName) prog_6_method_4_code 1 (some .boolean) :: ws) ({ frames := 0, cells := 0, slots := 0, locals := 0 } : Room)) (fun a U => a = #[(.ref x0)] ∧ Z.Warmed39 U.vm ∧ U.heap = h0) (fun _ _ _ _ _ => True) (fun _ U o U' => ∃ v L, o = .returned v ∧ Q3 Z x0 pp bb z h0 n0 v U'.heap L ∧ FrameEnd U o U' L ({ frames := 0, cells := 0, slots := 0, locals := 0 } : Room).cells ({ frames := 0, cells := 0, slots := 0, locals := 0 } : Room).slots) := by
  refine MetFree.of_bodySF (plainFor_of_name pn_3) hisR ?_
  intro p e s m args below meth c s₁ Bd hml0 hP hK
  obtain ⟨rfl, hZ, hh⟩ := hP
  have hx := Bd.exec
  have hby := Bd.bytes
  have hret := Bd.returns
  have hnl : meth.locks = false := Bd.notSynchronized
  have hml : c.maxLocals = 1 := hml0
  have hown : s.vm.findClass "com/example/hosts_to_firehose/hoststofirehose/io/CborReader" = some m.cls := findClass_of_methodNamed Bd.named
  have hnm := (name_of_methodNamed Bd.named Bd.method).1
  have X0 : Stand p l e ({ frames := 0, cells := 0, slots := 0, locals := 0 } : Room) s m #[(.ref x0)] below meth c s₁ [] 0 0 := Stand.of_body Bd
  have e0 : s₁.heap = h0 := by rw [← hh, Bd.state]; rfl
  have N0 := Fr.nil n0
  suffices key : own_Fin p e below s s₁ (mkF m 0 #[.val (.ref x0)] []) (Q3 Z x0 pp bb z h0 n0) ({ frames := 0, cells := 0, slots := 0, locals := 0 } : Room).cells ({ frames := 0, cells := 0, slots := 0, locals := 0 } : Room).slots by
    obtain ⟨s2, o, h1, h2⟩ := key
    exact ⟨s2, o, castTop (ef_3 m x0) h1, h2⟩
  refine own_go (fun _ => XS.aloadN X0.here hx rfl (hb hby d3_0) rfl rfl) ?_
  show own_Fin _ _ _ _ s₁ (mkF m 1 #[.val (.ref x0)] [(.ref x0)]) _ _ _
  obtain ⟨T1, X1, e1, st1⟩ := getF X0 hx hZ hown (host := "") (Or.inl (hw _ (List.mem_of_getElem? (i := 13) rfl))) Via.refl e0 F1 (g := (mkF m 1 #[.val (.ref x0)] [(.ref x0)])) rfl rfl (hb hby d3_1)
  refine own_go st1 ?_
  show own_Fin _ _ _ _ T1 (mkF m 4 #[.val (.ref x0)] [(.int pp)]) _ _ _
  refine own_go (fun _ => XS.aloadN X1.here hx rfl (hb hby d3_4) rfl rfl) ?_
  show own_Fin _ _ _ _ T1 (mkF m 5 #[.val (.ref x0)] [(.ref x0), (.int pp)]) _ _ _
  obtain ⟨T2, X2, e2, st2⟩ := getF X1 hx hZ hown (host := "") (Or.inl (hw _ (List.mem_of_getElem? (i := 11) rfl))) Via.refl e1 F0 (g := (mkF m 5 #[.val (.ref x0)] [(.ref x0), (.int pp)])) rfl rfl (hb hby d3_5)
  refine own_go st2 ?_
  show own_Fin _ _ _ _ T2 (mkF m 8 #[.val (.ref x0)] [(.ref bb), (.int pp)]) _ _ _
  refine own_go (own_aln X2 hx hZ e2 B1 rfl rfl (hb hby d3_8)) ?_
  rw [(back32 hz).1]
  show own_Fin _ _ _ _ T2 (mkF m 9 #[.val (.ref x0)] [(.int z), (.int pp)]) _ _ _
  by_cases h9 : pp = z
  · refine own_go (fun _ => XS.icmpNo X2.here hx rfl (hb hby d3_9) rfl (teq h9).2) ?_
    show own_Fin _ _ _ _ T2 (mkF m 12 #[.val (.ref x0)] []) _ _ _
    refine own_go (fun _ => XS.iconst X2.here hx rfl (hb hby d3_12)) ?_
    show own_Fin _ _ _ _ T2 (mkF m 13 #[.val (.ref x0)] [(.int (1 : Int32))]) _ _ _
    refine own_go (fun _ => XS.goto X2.here hx rfl (pc0 := 13) (pc' := 17) rfl (hb hby d3_13) (by decide) (by decide)) ?_
    show own_Fin _ _ _ _ T2 (mkF m 17 #[.val (.ref x0)] [(.int (1 : Int32))]) _ _ _
    exact own_retZ X2 hx hnl (t := .boolean) hret (by simp) (hb hby d3_17) (by decide) (by decide) ⟨congrArg (fun z => some (Value.int z)) (show ((1 : Int32) : Int32) = own_ae pp z from by simp only [own_ae, if_pos h9]), N0, e2⟩
  · refine own_go (fun _ => XS.icmpYes X2.here hx rfl (pc0 := 9) (pc' := 16) rfl (hb hby d3_9) rfl (feq h9).2 (by decide) (by decide)) ?_
    show own_Fin _ _ _ _ T2 (mkF m 16 #[.val (.ref x0)] []) _ _ _
    refine own_go (fun _ => XS.iconst X2.here hx rfl (hb hby d3_16)) ?_
    show own_Fin _ _ _ _ T2 (mkF m 17 #[.val (.ref x0)] [(.int (0 : Int32))]) _ _ _
    exact own_retZ X2 hx hnl (t := .boolean) hret (by simp) (hb hby d3_17) (by decide) (by decide) ⟨congrArg (fun z => some (Value.int z)) (show ((0 : Int32) : Int32) = own_ae pp z from by simp only [own_ae, if_neg h9]), N0, e2⟩

theorem own_clt {p z : Int32} (h0 : ¬ p < 0) (h1 : p < z) : p.toNatClampNeg < z.toNatClampNeg := by
  rw [own_lt] at h0 h1
  have e0 : (0 : Int32).toInt = 0 := by decide
  rw [e0] at h0
  simp only [Int32.toNatClampNeg]; omega
theorem d5_0 : decode prog_6_method_12_code 0 = .ok (.aload_n 0, 1) := by decide +kernel
theorem d5_1 : decode prog_6_method_12_code 1 = .ok (.getfield 21, 3) := by decide +kernel
theorem d5_4 : decode prog_6_method_12_code 4 = .ok (.aload_n 0, 1) := by decide +kernel
theorem d5_5 : decode prog_6_method_12_code 5 = .ok (.getfield 17, 3) := by decide +kernel
theorem d5_8 : decode prog_6_method_12_code 8 = .ok (.arraylength, 1) := by decide +kernel
theorem d5_9 : decode prog_6_method_12_code 9 = .ok (.if_icmp .lt 13, 3) := by decide +kernel
theorem d5_22 : decode prog_6_method_12_code 22 = .ok (.aload_n 0, 1) := by decide +kernel
theorem d5_23 : decode prog_6_method_12_code 23 = .ok (.getfield 17, 3) := by decide +kernel
theorem d5_26 : decode prog_6_method_12_code 26 = .ok (.aload_n 0, 1) := by decide +kernel
theorem d5_27 : decode prog_6_method_12_code 27 = .ok (.dup, 1) := by decide +kernel
theorem d5_28 : decode prog_6_method_12_code 28 = .ok (.getfield 21, 3) := by decide +kernel
theorem d5_31 : decode prog_6_method_12_code 31 = .ok (.dup_x1, 1) := by decide +kernel
theorem d5_32 : decode prog_6_method_12_code 32 = .ok (.iconst 1, 1) := by decide +kernel
theorem d5_33 : decode prog_6_method_12_code 33 = .ok (.iadd, 1) := by decide +kernel
theorem d5_34 : decode prog_6_method_12_code 34 = .ok (.putfield 21, 3) := by decide +kernel
theorem d5_37 : decode prog_6_method_12_code 37 = .ok (.baload, 1) := by decide +kernel
theorem d5_38 : decode prog_6_method_12_code 38 = .ok (.sipush 255, 3) := by decide +kernel
theorem d5_41 : decode prog_6_method_12_code 41 = .ok (.iand, 1) := by decide +kernel
theorem d5_42 : decode prog_6_method_12_code 42 = .ok (.ireturn, 1) := by decide +kernel
theorem pn_5 : plainName "com/example/hosts_to_firehose/hoststofirehose/io/CborReader" = true := by first | (simp [plainName, overriddenIn]; done) | decide +kernel
theorem ef_5 (m : MethodId) (x0 : Addr) : entryFrame m #[(.ref x0)] 1 = mkF m 0 #[.val (.ref x0)] [] := by first | (simp [entryFrame, mkF, argsToLocals, Value.category]; done) | rfl
def Q5 (Z : State) (x0 : Addr) (pp : Int32) (bb : Addr) (z : Int32) (u2 : Value) (u3 : Value) (h0 : Heap) (n0 : Nat) (v : Option Value) (h : Heap) (L : List Loc) : Prop := v = some (.int 0) ∧ Fr n0 L ∧ Keep h0 h [x0] ∧ Exa Z h x0 "com/example/hosts_to_firehose/hoststofirehose/io/CborReader" ∧ Fld Z h x0 "com/example/hosts_to_firehose/hoststofirehose/io/CborReader" "bytes" "[B" (.ref bb) ∧ Fld Z h x0 "com/example/hosts_to_firehose/hoststofirehose/io/CborReader" "position" "I" (.int (pp + 1)) ∧ Fld Z h x0 "com/example/hosts_to_firehose/hoststofirehose/io/CborReader" "argument" "J" u2 ∧ Fld Z h x0 "com/example/hosts_to_firehose/hoststofirehose/io/CborReader" "headShortest" "Z" u3
set_option maxRecDepth 65536 in
set_option maxHeartbeats 40000000 in
theorem rm5 (l : Launch) (Z : State) (a0 : Array Value) (hw : ∀ d ∈ tables_1, d.before a0 Z = true) (ws : List Jvm.Cond) (x0 : Addr) (pp : Int32) (bb : Addr) (z : Int32) (u2 : Value) (u3 : Value) (h0 : Heap) (n0 : Nat) (Z0 : n0 ≤ h0.size) (F0 : Fld Z h0 x0 "com/example/hosts_to_firehose/hoststofirehose/io/CborReader" "bytes" "[B" (.ref bb)) (F1 : Fld Z h0 x0 "com/example/hosts_to_firehose/hoststofirehose/io/CborReader" "position" "I" (.int pp)) (B1 : own_Ba Z h0 bb z.toNatClampNeg (fun _ => 0)) (hz : ¬ z < 0) (E_x0 : Exa Z h0 x0 "com/example/hosts_to_firehose/hoststofirehose/io/CborReader") (g_x0 : n0 ≤ x0) (F2 : Fld Z h0 x0 "com/example/hosts_to_firehose/hoststofirehose/io/CborReader" "argument" "J" u2) (F3 : Fld Z h0 x0 "com/example/hosts_to_firehose/hoststofirehose/io/CborReader" "headShortest" "Z" u3) (neb : bb ≠ x0) (hp0 : ¬ pp < 0) (hpz : pp < z) :
    MetFree l (⟨"com/example/hosts_to_firehose/hoststofirehose/io/CborReader", "nextByte", "()I"⟩ : MethodName) (head1 (Jvm.Cond.code (⟨"com/example/hosts_to_firehose/hoststofirehose/io/CborReader", "nextByte", "()I"⟩ : MethodName) prog_6_method_12_code 1 (some .int) :: ws) ({ frames := 0, cells := 0, slots := 0, locals := 0 } : Room)) (fun a U => a = #[(.ref x0)] ∧ Z.Warmed39 U.vm ∧ U.heap = h0) (fun _ _ _ _ _ => True) (fun _ U o U' => ∃ v L, o = .returned v ∧ Q5 Z x0 pp bb z u2 u3 h0 n0 v U'.heap L ∧ FrameEnd U o U' L ({ frames := 0, cells := 0, slots := 0, locals := 0 } : Room).cells ({ frames := 0, cells := 0, slots := 0, locals := 0 } : Room).slots) := by
  refine MetFree.of_bodySF (plainFor_of_name pn_5) hisR ?_
  intro p e s m args below meth c s₁ Bd hml0 hP hK
  obtain ⟨rfl, hZ, hh⟩ := hP
  have hx := Bd.exec
  have hby := Bd.bytes
  have hret := Bd.returns
  have hnl : meth.locks = false := Bd.notSynchronized
  have hml : c.maxLocals = 1 := hml0
  have hown : s.vm.findClass "com/example/hosts_to_firehose/hoststofirehose/io/CborReader" = some m.cls := findClass_of_methodNamed Bd.named
  have hnm := (name_of_methodNamed Bd.named Bd.method).1
  have X0 : Stand p l e ({ frames := 0, cells := 0, slots := 0, locals := 0 } : Room) s m #[(.ref x0)] below meth c s₁ [] 0 0 := Stand.of_body Bd
  have e0 : s₁.heap = h0 := by rw [← hh, Bd.state]; rfl
  have N0 := Fr.nil n0
  suffices key : own_Fin p e below s s₁ (mkF m 0 #[.val (.ref x0)] []) (Q5 Z x0 pp bb z u2 u3 h0 n0) ({ frames := 0, cells := 0, slots := 0, locals := 0 } : Room).cells ({ frames := 0, cells := 0, slots := 0, locals := 0 } : Room).slots by
    obtain ⟨s2, o, h1, h2⟩ := key
    exact ⟨s2, o, castTop (ef_5 m x0) h1, h2⟩
  refine own_go (fun _ => XS.aloadN X0.here hx rfl (hb hby d5_0) rfl rfl) ?_
  show own_Fin _ _ _ _ s₁ (mkF m 1 #[.val (.ref x0)] [(.ref x0)]) _ _ _
  obtain ⟨T1, X1, e1, st1⟩ := getF X0 hx hZ hown (host := "") (Or.inl (hw _ (List.mem_of_getElem? (i := 13) rfl))) Via.refl e0 F1 (g := (mkF m 1 #[.val (.ref x0)] [(.ref x0)])) rfl rfl (hb hby d5_1)
  refine own_go st1 ?_
  show own_Fin _ _ _ _ T1 (mkF m 4 #[.val (.ref x0)] [(.int pp)]) _ _ _
  refine own_go (fun _ => XS.aloadN X1.here hx rfl (hb hby d5_4) rfl rfl) ?_
  show own_Fin _ _ _ _ T1 (mkF m 5 #[.val (.ref x0)] [(.ref x0), (.int pp)]) _ _ _
  obtain ⟨T2, X2, e2, st2⟩ := getF X1 hx hZ hown (host := "") (Or.inl (hw _ (List.mem_of_getElem? (i := 11) rfl))) Via.refl e1 F0 (g := (mkF m 5 #[.val (.ref x0)] [(.ref x0), (.int pp)])) rfl rfl (hb hby d5_5)
  refine own_go st2 ?_
  show own_Fin _ _ _ _ T2 (mkF m 8 #[.val (.ref x0)] [(.ref bb), (.int pp)]) _ _ _
  refine own_go (own_aln X2 hx hZ e2 B1 rfl rfl (hb hby d5_8)) ?_
  rw [(back32 hz).1]
  show own_Fin _ _ _ _ T2 (mkF m 9 #[.val (.ref x0)] [(.int z), (.int pp)]) _ _ _
  refine own_go (fun _ => XS.icmpYes X2.here hx rfl (pc0 := 9) (pc' := 22) rfl (hb hby d5_9) rfl (tlt (show pp < z from hpz)).1 (by decide) (by decide)) ?_
  show own_Fin _ _ _ _ T2 (mkF m 22 #[.val (.ref x0)] []) _ _ _
  refine own_go (fun _ => XS.aloadN X2.here hx rfl (hb hby d5_22) rfl rfl) ?_
  show own_Fin _ _ _ _ T2 (mkF m 23 #[.val (.ref x0)] [(.ref x0)]) _ _ _
  obtain ⟨T3, X3, e3, st3⟩ := getF X2 hx hZ hown (host := "") (Or.inl (hw _ (List.mem_of_getElem? (i := 11) rfl))) Via.refl e2 F0 (g := (mkF m 23 #[.val (.ref x0)] [(.ref x0)])) rfl rfl (hb hby d5_23)
  refine own_go st3 ?_
  show own_Fin _ _ _ _ T3 (mkF m 26 #[.val (.ref x0)] [(.ref bb)]) _ _ _
  refine own_go (fun _ => XS.aloadN X3.here hx rfl (hb hby d5_26) rfl rfl) ?_
  show own_Fin _ _ _ _ T3 (mkF m 27 #[.val (.ref x0)] [(.ref x0), (.ref bb)]) _ _ _
  refine own_go (fun _ => XS.dup X3.here hx rfl (hb hby d5_27) rfl rfl) ?_
  show own_Fin _ _ _ _ T3 (mkF m 28 #[.val (.ref x0)] [(.ref x0), (.ref x0), (.ref bb)]) _ _ _
  obtain ⟨T4, X4, e4, st4⟩ := getF X3 hx hZ hown (host := "") (Or.inl (hw _ (List.mem_of_getElem? (i := 13) rfl))) Via.refl e3 F1 (g := (mkF m 28 #[.val (.ref x0)] [(.ref x0), (.ref x0), (.ref bb)])) rfl rfl (hb hby d5_28)
  refine own_go st4 ?_
  show own_Fin _ _ _ _ T4 (mkF m 31 #[.val (.ref x0)] [(.int pp), (.ref x0), (.ref bb)]) _ _ _
  refine own_go (fun _ => XS.dupX1 X4.here hx rfl (hb hby d5_31) rfl rfl rfl) ?_
  show own_Fin _ _ _ _ T4 (mkF m 32 #[.val (.ref x0)] [(.int pp), (.ref x0), (.int pp), (.ref bb)]) _ _ _
  refine own_go (fun _ => XS.iconst X4.here hx rfl (hb hby d5_32)) ?_
  show own_Fin _ _ _ _ T4 (mkF m 33 #[.val (.ref x0)] [(.int (1 : Int32)), (.int pp), (.ref x0), (.int pp), (.ref bb)]) _ _ _
  refine own_go (fun _ => XS.iadd X4.here hx rfl (hb hby d5_33) rfl) ?_
  show own_Fin _ _ _ _ T4 (mkF m 34 #[.val (.ref x0)] [(.int (pp + (1 : Int32))), (.ref x0), (.int pp), (.ref bb)]) _ _ _
  obtain ⟨T5, h5, X5, e5, W5, st5⟩ := putF X4 hx hZ hown (host := "") (Or.inl (hw _ (List.mem_of_getElem? (i := 13) rfl))) Via.refl e4 F1 E_x0 (Or.inl (hw _ (List.mem_of_getElem? (i := 14) rfl))) (hw _ (List.mem_of_getElem? (i := 3) rfl)) (ty := .int) (by decide) rfl rfl (g := (mkF m 34 #[.val (.ref x0)] [(.int (pp + (1 : Int32))), (.ref x0), (.int pp), (.ref bb)])) rfl rfl (hb hby d5_34)
  have F5_x0_position := (F1).same W5
  have F5_x0_bytes := (F0).other W5 (Or.inr (slot_ne (Or.inr (hw _ (List.mem_of_getElem? (i := 12) rfl))) (Or.inl (hw _ (List.mem_of_getElem? (i := 14) rfl))) (by decide) (t := (.array .byte)) (t' := .int) (by decide) (by decide)))
  have F5_x0_argument := (F2).other W5 (Or.inr (slot_ne (Or.inl (hw _ (List.mem_of_getElem? (i := 30) rfl))) (Or.inl (hw _ (List.mem_of_getElem? (i := 14) rfl))) (by decide) (t := .long) (t' := .int) (by decide) (by decide)))
  have F5_x0_headShortest := (F3).other W5 (Or.inr (slot_ne (Or.inl (hw _ (List.mem_of_getElem? (i := 45) rfl))) (Or.inl (hw _ (List.mem_of_getElem? (i := 14) rfl))) (by decide) (t := .boolean) (t' := .int) (by decide) (by decide)))
  have E5_x0 := (E_x0).wr W5
  have V5_bb := (B1).other W5 neb
  have K5 : Keep h0 h5 [x0] := ((Keep.refl h0 [x0])).wr W5 (Or.inl (List.mem_of_getElem? (i := 0) rfl))
  have N5 := Fr.snoc X5 N0 g_x0
  have Z5 : n0 ≤ h5.size := Nat.le_trans Z0 (Keep.of_wr W5).1
  refine own_go st5 ?_
  show own_Fin _ _ _ _ T5 (mkF m 37 #[.val (.ref x0)] [(.int pp), (.ref bb)]) _ _ _
  refine own_go (own_bld X5 hx hZ e5 V5_bb (j := pp) pp.toNatClampNeg hp0 rfl (own_clt hp0 hpz) rfl rfl (hb hby d5_37)) ?_
  show own_Fin _ _ _ _ T5 (mkF m 38 #[.val (.ref x0)] [(.int ((fun _ => 0) pp.toNatClampNeg))]) _ _ _
  refine own_go (fun _ => XS.sipush X5.here hx rfl (hb hby d5_38)) ?_
  show own_Fin _ _ _ _ T5 (mkF m 41 #[.val (.ref x0)] [(.int (255 : Int32)), (.int ((fun _ => 0) pp.toNatClampNeg))]) _ _ _
  refine own_go (fun _ => XS.iand X5.here hx rfl (hb hby d5_41) rfl) ?_
  show own_Fin _ _ _ _ T5 (mkF m 42 #[.val (.ref x0)] [(.int (((fun _ => 0) pp.toNatClampNeg) &&& (255 : Int32)))]) _ _ _
  exact own_retI X5 hx hnl hret (hb hby d5_42) (by decide) (by decide) ⟨congrArg (fun z => some (Value.int z)) (show (0 : Int32) &&& 255 = 0 from by decide), N5, by rw [e5]; exact K5, by rw [e5]; exact E5_x0, by rw [e5]; exact F5_x0_bytes, by rw [e5]; exact F5_x0_position, by rw [e5]; exact F5_x0_argument, by rw [e5]; exact F5_x0_headShortest⟩

theorem d4_0 : decode prog_6_method_5_code 0 = .ok (.aload_n 0, 1) := by decide +kernel
theorem d4_1 : decode prog_6_method_5_code 1 = .ok (.getfield 21, 3) := by decide +kernel
theorem d4_4 : decode prog_6_method_5_code 4 = .ok (.istore_n 1, 1) := by decide +kernel
theorem d4_5 : decode prog_6_method_5_code 5 = .ok (.aload_n 0, 1) := by decide +kernel
theorem d4_6 : decode prog_6_method_5_code 6 = .ok (.invokevirtual 25, 3) := by decide +kernel
theorem d4_9 : decode prog_6_method_5_code 9 = .ok (.istore_n 2, 1) := by decide +kernel
theorem d4_10 : decode prog_6_method_5_code 10 = .ok (.iload_n 2, 1) := by decide +kernel
theorem d4_11 : decode prog_6_method_5_code 11 = .ok (.bipush 31, 2) := by decide +kernel
theorem d4_13 : decode prog_6_method_5_code 13 = .ok (.iand, 1) := by decide +kernel
theorem d4_14 : decode prog_6_method_5_code 14 = .ok (.istore_n 3, 1) := by decide +kernel
theorem d4_15 : decode prog_6_method_5_code 15 = .ok (.iload_n 3, 1) := by decide +kernel
theorem d4_16 : decode prog_6_method_5_code 16 = .ok (.bipush 28, 2) := by decide +kernel
theorem d4_18 : decode prog_6_method_5_code 18 = .ok (.if_icmp .lt 22, 3) := by decide +kernel
theorem d4_40 : decode prog_6_method_5_code 40 = .ok (.iload_n 3, 1) := by decide +kernel
theorem d4_41 : decode prog_6_method_5_code 41 = .ok (.bipush 24, 2) := by decide +kernel
theorem d4_43 : decode prog_6_method_5_code 43 = .ok (.if_icmp .ge 12, 3) := by decide +kernel
theorem d4_46 : decode prog_6_method_5_code 46 = .ok (.aload_n 0, 1) := by decide +kernel
theorem d4_47 : decode prog_6_method_5_code 47 = .ok (.iload_n 3, 1) := by decide +kernel
theorem d4_48 : decode prog_6_method_5_code 48 = .ok (.i2l, 1) := by decide +kernel
theorem d4_49 : decode prog_6_method_5_code 49 = .ok (.putfield 40, 3) := by decide +kernel
theorem d4_52 : decode prog_6_method_5_code 52 = .ok (.goto 49, 3) := by decide +kernel
theorem d4_101 : decode prog_6_method_5_code 101 = .ok (.aload_n 0, 1) := by decide +kernel
theorem d4_102 : decode prog_6_method_5_code 102 = .ok (.aload_n 0, 1) := by decide +kernel
theorem d4_103 : decode prog_6_method_5_code 103 = .ok (.getfield 21, 3) := by decide +kernel
theorem d4_106 : decode prog_6_method_5_code 106 = .ok (.iload_n 1, 1) := by decide +kernel
theorem d4_107 : decode prog_6_method_5_code 107 = .ok (.isub, 1) := by decide +kernel
theorem d4_108 : decode prog_6_method_5_code 108 = .ok (.iconst 1, 1) := by decide +kernel
theorem d4_109 : decode prog_6_method_5_code 109 = .ok (.isub, 1) := by decide +kernel
theorem d4_110 : decode prog_6_method_5_code 110 = .ok (.aload_n 0, 1) := by decide +kernel
theorem d4_111 : decode prog_6_method_5_code 111 = .ok (.getfield 40, 3) := by decide +kernel
theorem d4_114 : decode prog_6_method_5_code 114 = .ok (.invokestatic 46, 3) := by decide +kernel
theorem d4_117 : decode prog_6_method_5_code 117 = .ok (.if_icmp .ne 7, 3) := by decide +kernel
theorem d4_120 : decode prog_6_method_5_code 120 = .ok (.iconst 1, 1) := by decide +kernel
theorem d4_121 : decode prog_6_method_5_code 121 = .ok (.goto 4, 3) := by decide +kernel
theorem d4_124 : decode prog_6_method_5_code 124 = .ok (.iconst 0, 1) := by decide +kernel
theorem d4_125 : decode prog_6_method_5_code 125 = .ok (.putfield 50, 3) := by decide +kernel
theorem d4_128 : decode prog_6_method_5_code 128 = .ok (.iload_n 2, 1) := by decide +kernel
theorem d4_129 : decode prog_6_method_5_code 129 = .ok (.iconst 5, 1) := by decide +kernel
theorem d4_130 : decode prog_6_method_5_code 130 = .ok (.iushr, 1) := by decide +kernel
theorem d4_131 : decode prog_6_method_5_code 131 = .ok (.ireturn, 1) := by decide +kernel
theorem pd_2 : parseMethodDescriptor "(J)I" = some ⟨[.long], some .int⟩ := by decide +kernel
theorem pd_1 : parseMethodDescriptor "()I" = some ⟨[], some .int⟩ := by decide +kernel
theorem pn_4 : plainName "com/example/hosts_to_firehose/hoststofirehose/io/CborReader" = true := by first | (simp [plainName, overriddenIn]; done) | decide +kernel
theorem ef_4 (m : MethodId) (x0 : Addr) : entryFrame m #[(.ref x0)] 8 = mkF m 0 #[.val (.ref x0), .unset, .unset, .unset, .unset, .unset, .unset, .unset] [] := by first | (simp [entryFrame, mkF, argsToLocals, Value.category]; done) | rfl
def Q4 (Z : State) (x0 : Addr) (pp : Int32) (bb : Addr) (z : Int32) (u2 : Value) (u3 : Value) (h0 : Heap) (n0 : Nat) (v : Option Value) (h : Heap) (L : List Loc) : Prop := ∃ r : Int32, v = some (.int r) ∧ Fr n0 L ∧ Keep h0 h [x0] ∧ Exa Z h x0 "com/example/hosts_to_firehose/hoststofirehose/io/CborReader" ∧ Fld Z h x0 "com/example/hosts_to_firehose/hoststofirehose/io/CborReader" "bytes" "[B" (.ref bb) ∧ Fld Z h x0 "com/example/hosts_to_firehose/hoststofirehose/io/CborReader" "position" "I" (.int (pp + 1))
set_option maxRecDepth 65536 in
set_option maxHeartbeats 40000000 in
theorem rm4 (l : Launch) (Z : State) (a0 : Array Value) (hw : ∀ d ∈ tables_1, d.before a0 Z = true) (ws : List Jvm.Cond) (x0 : Addr) (pp : Int32) (bb : Addr) (z : Int32) (u2 : Value) (u3 : Value) (h0 : Heap) (n0 : Nat) (Z0 : n0 ≤ h0.size) (F0 : Fld Z h0 x0 "com/example/hosts_to_firehose/hoststofirehose/io/CborReader" "bytes" "[B" (.ref bb)) (F1 : Fld Z h0 x0 "com/example/hosts_to_firehose/hoststofirehose/io/CborReader" "position" "I" (.int pp)) (B1 : own_Ba Z h0 bb z.toNatClampNeg (fun _ => 0)) (hz : ¬ z < 0) (E_x0 : Exa Z h0 x0 "com/example/hosts_to_firehose/hoststofirehose/io/CborReader") (g_x0 : n0 ≤ x0) (F2 : Fld Z h0 x0 "com/example/hosts_to_firehose/hoststofirehose/io/CborReader" "argument" "J" u2) (F3 : Fld Z h0 x0 "com/example/hosts_to_firehose/hoststofirehose/io/CborReader" "headShortest" "Z" u3) (neb : bb ≠ x0) (hp0 : ¬ pp < 0) (hpz : pp < z) :
    MetFree l (⟨"com/example/hosts_to_firehose/hoststofirehose/io/CborReader", "readHead", "()I"⟩ : MethodName) (head1 (Jvm.Cond.code (⟨"com/example/hosts_to_firehose/hoststofirehose/io/CborReader", "readHead", "()I"⟩ : MethodName) prog_6_method_5_code 8 (some .int) :: ws) ({ frames := 3, cells := 0, slots := 0, locals := 46 } : Room)) (fun a U => a = #[(.ref x0)] ∧ Z.Warmed39 U.vm ∧ U.heap = h0) (fun _ _ _ _ _ => True) (fun _ U o U' => ∃ v L, o = .returned v ∧ Q4 Z x0 pp bb z u2 u3 h0 n0 v U'.heap L ∧ FrameEnd U o U' L ({ frames := 3, cells := 0, slots := 0, locals := 46 } : Room).cells ({ frames := 3, cells := 0, slots := 0, locals := 46 } : Room).slots) := by
  refine MetFree.of_bodySF (plainFor_of_name pn_4) hisR ?_
  intro p e s m args below meth c s₁ Bd hml0 hP hK
  obtain ⟨rfl, hZ, hh⟩ := hP
  have hx := Bd.exec
  have hby := Bd.bytes
  have hret := Bd.returns
  have hnl : meth.locks = false := Bd.notSynchronized
  have hml : c.maxLocals = 8 := hml0
  have hown : s.vm.findClass "com/example/hosts_to_firehose/hoststofirehose/io/CborReader" = some m.cls := findClass_of_methodNamed Bd.named
  have hnm := (name_of_methodNamed Bd.named Bd.method).1
  have X0 : Stand p l e ({ frames := 3, cells := 0, slots := 0, locals := 46 } : Room) s m #[(.ref x0)] below meth c s₁ [] 0 0 := Stand.of_body Bd
  have e0 : s₁.heap = h0 := by rw [← hh, Bd.state]; rfl
  have N0 := Fr.nil n0
  suffices key : own_Fin p e below s s₁ (mkF m 0 #[.val (.ref x0), .unset, .unset, .unset, .unset, .unset, .unset, .unset] []) (Q4 Z x0 pp bb z u2 u3 h0 n0) ({ frames := 3, cells := 0, slots := 0, locals := 46 } : Room).cells ({ frames := 3, cells := 0, slots := 0, locals := 46 } : Room).slots by
    obtain ⟨s2, o, h1, h2⟩ := key
    exact ⟨s2, o, castTop (ef_4 m x0) h1, h2⟩
  refine own_go (fun _ => XS.aloadN X0.here hx rfl (hb hby d4_0) rfl rfl) ?_
  show own_Fin _ _ _ _ s₁ (mkF m 1 #[.val (.ref x0), .unset, .unset, .unset, .unset, .unset, .unset, .unset] [(.ref x0)]) _ _ _
  obtain ⟨T1, X1, e1, st1⟩ := getF X0 hx hZ hown (host := "") (Or.inl (hw _ (List.mem_of_getElem? (i := 13) rfl))) Via.refl e0 F1 (g := (mkF m 1 #[.val (.ref x0), .unset, .unset, .unset, .unset, .unset, .unset, .unset] [(.ref x0)])) rfl rfl (hb hby d4_1)
  refine own_go st1 ?_
  show own_Fin _ _ _ _ T1 (mkF m 4 #[.val (.ref x0), .unset, .unset, .unset, .unset, .unset, .unset, .unset] [(.int pp)]) _ _ _
  refine own_go (fun _ => XS.istoreN X1.here hx rfl (hb hby d4_4) rfl (l' := #[.val (.ref x0), .val (.int pp), .unset, .unset, .unset, .unset, .unset, .unset]) rfl) ?_
  show own_Fin _ _ _ _ T1 (mkF m 5 #[.val (.ref x0), .val (.int pp), .unset, .unset, .unset, .unset, .unset, .unset] []) _ _ _
  refine own_go (fun _ => XS.aloadN X1.here hx rfl (hb hby d4_5) rfl rfl) ?_
  show own_Fin _ _ _ _ T1 (mkF m 6 #[.val (.ref x0), .val (.int pp), .unset, .unset, .unset, .unset, .unset, .unset] [(.ref x0)]) _ _ _
  obtain ⟨cq2, q2, q2'⟩ := (E_x0).cell
  obtain ⟨_, _, ⟨T2, L2, k2, n2⟩, -, X2, ⟨Lc2, hQ2, l2, y2, z2⟩, st2⟩ := X1.privateBack hx (y := (⟨"com/example/hosts_to_firehose/hoststofirehose/io/CborReader", "nextByte", "()I"⟩ : MethodName)) hown (mvT hZ (hw _ (List.mem_of_getElem? (i := 25) rfl))) (mvT hZ (hw _ (List.mem_of_getElem? (i := 26) rfl))) (Jvm.Kit.selects_private (by decide) (mvT hZ (hw _ (List.mem_of_getElem? (i := 3) rfl))) (mvP hZ (hw _ (List.mem_of_getElem? (i := 27) rfl))) (mvT hZ (hw _ (List.mem_of_getElem? (i := 26) rfl)))) (Cond.privateMethod_at (mvP hZ (hw _ (List.mem_of_getElem? (i := 27) rfl)) (args := #[]))) (mvT hZ (hw _ (List.mem_of_getElem? (i := 28) rfl))) (by decide) (backOf (W := 0) (rm5 l Z a0 hw [] x0 pp bb z u2 u3 h0 n0 Z0 F0 F1 B1 hz E_x0 g_x0 F2 F3 neb hp0 hpz) hZ (hw _ (List.mem_of_getElem? (i := 28) rfl)) (hw _ (List.mem_of_getElem? (i := 4) rfl)) (by decide) (by decide)) (g := (mkF m 6 #[.val (.ref x0), .val (.int pp), .unset, .unset, .unset, .unset, .unset, .unset] [(.ref x0)])) rfl (by rw [hml]; rfl) (Steps.refl _) (a := x0) (by rw [e1]; exact q2) q2' (argsL := []) (rest := []) (lenOf pd_1 rfl) rfl (by show 2 * 0 + _ ≤ _; exact Nat.le_of_eq rfl) (hb hby d4_6) (fun _ _ => ⟨rfl, e1, (by decide : 0 + 0 ≤ _), (by decide : 0 + 0 ≤ _)⟩)
  dsimp only [Pt.U, Pt.locs, Pt.cells, Pt.slots] at X2 l2 y2 z2 st2 hQ2
  subst l2 y2 z2
  obtain ⟨rfl, N2q, K2q, Ex2, Fx2_0, Fx2_1, Fx2_2, Fx2_3⟩ := hQ2
  have N2 := Fr.app N0 N2q
  have E2_x0 := (E_x0).keep K2q
  have V2_bb := (B1).keep K2q (by simp [neb])
  have Kc2 : Keep h0 T2.heap [x0] := ((Keep.refl h0 [x0])).trans K2q (fun x hx => by cases List.mem_singleton.mp hx; exact (Or.inl (List.mem_of_getElem? (i := 0) rfl)))
  have Zc2 : n0 ≤ T2.heap.size := Nat.le_trans Z0 (K2q).1
  refine own_gt st2 ?_
  show own_Fin _ _ _ _ T2 (mkF m 9 #[.val (.ref x0), .val (.int pp), .unset, .unset, .unset, .unset, .unset, .unset] [(.int (0 : Int32))]) _ _ _
  refine own_go (fun _ => XS.istoreN X2.here hx rfl (hb hby d4_9) rfl (l' := #[.val (.ref x0), .val (.int pp), .val (.int (0 : Int32)), .unset, .unset, .unset, .unset, .unset]) rfl) ?_
  show own_Fin _ _ _ _ T2 (mkF m 10 #[.val (.ref x0), .val (.int pp), .val (.int (0 : Int32)), .unset, .unset, .unset, .unset, .unset] []) _ _ _
  refine own_go (fun _ => XS.iloadN X2.here hx rfl (hb hby d4_10) rfl) ?_
  show own_Fin _ _ _ _ T2 (mkF m 11 #[.val (.ref x0), .val (.int pp), .val (.int (0 : Int32)), .unset, .unset, .unset, .unset, .unset] [(.int (0 : Int32))]) _ _ _
  refine own_go (fun _ => XS.bipush X2.here hx rfl (hb hby d4_11)) ?_
  show own_Fin _ _ _ _ T2 (mkF m 13 #[.val (.ref x0), .val (.int pp), .val (.int (0 : Int32)), .unset, .unset, .unset, .unset, .unset] [(.int (31 : Int32)), (.int (0 : Int32))]) _ _ _
  refine own_go (fun _ => XS.iand X2.here hx rfl (hb hby d4_13) rfl) ?_
  show own_Fin _ _ _ _ T2 (mkF m 14 #[.val (.ref x0), .val (.int pp), .val (.int (0 : Int32)), .unset, .unset, .unset, .unset, .unset] [(.int (0 : Int32))]) _ _ _
  refine own_go (fun _ => XS.istoreN X2.here hx rfl (hb hby d4_14) rfl (l' := #[.val (.ref x0), .val (.int pp), .val (.int (0 : Int32)), .val (.int (0 : Int32)), .unset, .unset, .unset, .unset]) rfl) ?_
  show own_Fin _ _ _ _ T2 (mkF m 15 #[.val (.ref x0), .val (.int pp), .val (.int (0 : Int32)), .val (.int (0 : Int32)), .unset, .unset, .unset, .unset] []) _ _ _
  refine own_go (fun _ => XS.iloadN X2.here hx rfl (hb hby d4_15) rfl) ?_
  show own_Fin _ _ _ _ T2 (mkF m 16 #[.val (.ref x0), .val (.int pp), .val (.int (0 : Int32)), .val (.int (0 : Int32)), .unset, .unset, .unset, .unset] [(.int (0 : Int32))]) _ _ _
  refine own_go (fun _ => XS.bipush X2.here hx rfl (hb hby d4_16)) ?_
  show own_Fin _ _ _ _ T2 (mkF m 18 #[.val (.ref x0), .val (.int pp), .val (.int (0 : Int32)), .val (.int (0 : Int32)), .unset, .unset, .unset, .unset] [(.int (28 : Int32)), (.int (0 : Int32))]) _ _ _
  refine own_go (fun _ => XS.icmpYes X2.here hx rfl (pc0 := 18) (pc' := 40) rfl (hb hby d4_18) rfl (tlt (show (0 : Int32) < (28 : Int32) from (by decide))).1 (by decide) (by decide)) ?_
  show own_Fin _ _ _ _ T2 (mkF m 40 #[.val (.ref x0), .val (.int pp), .val (.int (0 : Int32)), .val (.int (0 : Int32)), .unset, .unset, .unset, .unset] []) _ _ _
  refine own_go (fun _ => XS.iloadN X2.here hx rfl (hb hby d4_40) rfl) ?_
  show own_Fin _ _ _ _ T2 (mkF m 41 #[.val (.ref x0), .val (.int pp), .val (.int (0 : Int32)), .val (.int (0 : Int32)), .unset, .unset, .unset, .unset] [(.int (0 : Int32))]) _ _ _
  refine own_go (fun _ => XS.bipush X2.here hx rfl (hb hby d4_41)) ?_
  show own_Fin _ _ _ _ T2 (mkF m 43 #[.val (.ref x0), .val (.int pp), .val (.int (0 : Int32)), .val (.int (0 : Int32)), .unset, .unset, .unset, .unset] [(.int (24 : Int32)), (.int (0 : Int32))]) _ _ _
  refine own_go (fun _ => XS.icmpNo X2.here hx rfl (hb hby d4_43) rfl (tlt (show (0 : Int32) < (24 : Int32) from (by decide))).2.1) ?_
  show own_Fin _ _ _ _ T2 (mkF m 46 #[.val (.ref x0), .val (.int pp), .val (.int (0 : Int32)), .val (.int (0 : Int32)), .unset, .unset, .unset, .unset] []) _ _ _
  refine own_go (fun _ => XS.aloadN X2.here hx rfl (hb hby d4_46) rfl rfl) ?_
  show own_Fin _ _ _ _ T2 (mkF m 47 #[.val (.ref x0), .val (.int pp), .val (.int (0 : Int32)), .val (.int (0 : Int32)), .unset, .unset, .unset, .unset] [(.ref x0)]) _ _ _
  refine own_go (fun _ => XS.iloadN X2.here hx rfl (hb hby d4_47) rfl) ?_
  show own_Fin _ _ _ _ T2 (mkF m 48 #[.val (.ref x0), .val (.int pp), .val (.int (0 : Int32)), .val (.int (0 : Int32)), .unset, .unset, .unset, .unset] [(.int (0 : Int32)), (.ref x0)]) _ _ _
  refine own_go (fun _ => XS.i2l X2.here hx rfl (hb hby d4_48) rfl) ?_
  show own_Fin _ _ _ _ T2 (mkF m 49 #[.val (.ref x0), .val (.int pp), .val (.int (0 : Int32)), .val (.int (0 : Int32)), .unset, .unset, .unset, .unset] [(.long ((0 : Int32).toInt64)), (.ref x0)]) _ _ _
  obtain ⟨T3, h3, X3, e3, W3, st3⟩ := putF X2 hx hZ hown (host := "") (Or.inl (hw _ (List.mem_of_getElem? (i := 29) rfl))) Via.refl rfl Fx2_2 Ex2 (Or.inl (hw _ (List.mem_of_getElem? (i := 30) rfl))) (hw _ (List.mem_of_getElem? (i := 3) rfl)) (ty := .long) (by decide) rfl rfl (g := (mkF m 49 #[.val (.ref x0), .val (.int pp), .val (.int (0 : Int32)), .val (.int (0 : Int32)), .unset, .unset, .unset, .unset] [(.long ((0 : Int32).toInt64)), (.ref x0)])) rfl rfl (hb hby d4_49)
  have F3_x0_bytes := (Fx2_0).other W3 (Or.inr (slot_ne (Or.inr (hw _ (List.mem_of_getElem? (i := 12) rfl))) (Or.inl (hw _ (List.mem_of_getElem? (i := 30) rfl))) (by decide) (t := (.array .byte)) (t' := .long) (by decide) (by decide)))
  have F3_x0_position := (Fx2_1).other W3 (Or.inr (slot_ne (Or.inl (hw _ (List.mem_of_getElem? (i := 14) rfl))) (Or.inl (hw _ (List.mem_of_getElem? (i := 30) rfl))) (by decide) (t := .int) (t' := .long) (by decide) (by decide)))
  have F3_x0_argument := (Fx2_2).same W3
  have F3_x0_headShortest := (Fx2_3).other W3 (Or.inr (slot_ne (Or.inl (hw _ (List.mem_of_getElem? (i := 45) rfl))) (Or.inl (hw _ (List.mem_of_getElem? (i := 30) rfl))) (by decide) (t := .boolean) (t' := .long) (by decide) (by decide)))
  have E3_x0 := (Ex2).wr W3
  have V3_bb := (V2_bb).other W3 neb
  have K3 : Keep h0 h3 [x0] := (Kc2).wr W3 (Or.inl (List.mem_of_getElem? (i := 0) rfl))
  have N3 := Fr.snoc X3 N2 g_x0
  have Z3 : n0 ≤ h3.size := Nat.le_trans Zc2 (Keep.of_wr W3).1
  refine own_go st3 ?_
  show own_Fin _ _ _ _ T3 (mkF m 52 #[.val (.ref x0), .val (.int pp), .val (.int (0 : Int32)), .val (.int (0 : Int32)), .unset, .unset, .unset, .unset] []) _ _ _
  refine own_go (fun _ => XS.goto X3.here hx rfl (pc0 := 52) (pc' := 101) rfl (hb hby d4_52) (by decide) (by decide)) ?_
  show own_Fin _ _ _ _ T3 (mkF m 101 #[.val (.ref x0), .val (.int pp), .val (.int (0 : Int32)), .val (.int (0 : Int32)), .unset, .unset, .unset, .unset] []) _ _ _
  refine own_go (fun _ => XS.aloadN X3.here hx rfl (hb hby d4_101) rfl rfl) ?_
  show own_Fin _ _ _ _ T3 (mkF m 102 #[.val (.ref x0), .val (.int pp), .val (.int (0 : Int32)), .val (.int (0 : Int32)), .unset, .unset, .unset, .unset] [(.ref x0)]) _ _ _
  refine own_go (fun _ => XS.aloadN X3.here hx rfl (hb hby d4_102) rfl rfl) ?_
  show own_Fin _ _ _ _ T3 (mkF m 103 #[.val (.ref x0), .val (.int pp), .val (.int (0 : Int32)), .val (.int (0 : Int32)), .unset, .unset, .unset, .unset] [(.ref x0), (.ref x0)]) _ _ _
  obtain ⟨T4, X4, e4, st4⟩ := getF X3 hx hZ hown (host := "") (Or.inl (hw _ (List.mem_of_getElem? (i := 13) rfl))) Via.refl e3 F3_x0_position (g := (mkF m 103 #[.val (.ref x0), .val (.int pp), .val (.int (0 : Int32)), .val (.int (0 : Int32)), .unset, .unset, .unset, .unset] [(.ref x0), (.ref x0)])) rfl rfl (hb hby d4_103)
  refine own_go st4 ?_
  show own_Fin _ _ _ _ T4 (mkF m 106 #[.val (.ref x0), .val (.int pp), .val (.int (0 : Int32)), .val (.int (0 : Int32)), .unset, .unset, .unset, .unset] [(.int (pp + (1 : Int32))), (.ref x0)]) _ _ _
  refine own_go (fun _ => XS.iloadN X4.here hx rfl (hb hby d4_106) rfl) ?_
  show own_Fin _ _ _ _ T4 (mkF m 107 #[.val (.ref x0), .val (.int pp), .val (.int (0 : Int32)), .val (.int (0 : Int32)), .unset, .unset, .unset, .unset] [(.int pp), (.int (pp + (1 : Int32))), (.ref x0)]) _ _ _
  refine own_go (fun _ => XS.isub X4.here hx rfl (hb hby d4_107) rfl) ?_
  show own_Fin _ _ _ _ T4 (mkF m 108 #[.val (.ref x0), .val (.int pp), .val (.int (0 : Int32)), .val (.int (0 : Int32)), .unset, .unset, .unset, .unset] [(.int ((pp + (1 : Int32)) - pp)), (.ref x0)]) _ _ _
  refine own_go (fun _ => XS.iconst X4.here hx rfl (hb hby d4_108)) ?_
  show own_Fin _ _ _ _ T4 (mkF m 109 #[.val (.ref x0), .val (.int pp), .val (.int (0 : Int32)), .val (.int (0 : Int32)), .unset, .unset, .unset, .unset] [(.int (1 : Int32)), (.int ((pp + (1 : Int32)) - pp)), (.ref x0)]) _ _ _
  refine own_go (fun _ => XS.isub X4.here hx rfl (hb hby d4_109) rfl) ?_
  show own_Fin _ _ _ _ T4 (mkF m 110 #[.val (.ref x0), .val (.int pp), .val (.int (0 : Int32)), .val (.int (0 : Int32)), .unset, .unset, .unset, .unset] [(.int (((pp + (1 : Int32)) - pp) - (1 : Int32))), (.ref x0)]) _ _ _
  refine own_go (fun _ => XS.aloadN X4.here hx rfl (hb hby d4_110) rfl rfl) ?_
  show own_Fin _ _ _ _ T4 (mkF m 111 #[.val (.ref x0), .val (.int pp), .val (.int (0 : Int32)), .val (.int (0 : Int32)), .unset, .unset, .unset, .unset] [(.ref x0), (.int (((pp + (1 : Int32)) - pp) - (1 : Int32))), (.ref x0)]) _ _ _
  obtain ⟨T5, X5, e5, st5⟩ := getF X4 hx hZ hown (host := "") (Or.inl (hw _ (List.mem_of_getElem? (i := 29) rfl))) Via.refl e4 F3_x0_argument (g := (mkF m 111 #[.val (.ref x0), .val (.int pp), .val (.int (0 : Int32)), .val (.int (0 : Int32)), .unset, .unset, .unset, .unset] [(.ref x0), (.int (((pp + (1 : Int32)) - pp) - (1 : Int32))), (.ref x0)])) rfl rfl (hb hby d4_111)
  refine own_go st5 ?_
  show own_Fin _ _ _ _ T5 (mkF m 114 #[.val (.ref x0), .val (.int pp), .val (.int (0 : Int32)), .val (.int (0 : Int32)), .unset, .unset, .unset, .unset] [(.long ((0 : Int32).toInt64)), (.int (((pp + (1 : Int32)) - pp) - (1 : Int32))), (.ref x0)]) _ _ _
  obtain ⟨_, _, ⟨T6, L6, k6, n6⟩, -, X6, ⟨Lc6, hQ6, l6, y6, z6⟩, st6⟩ := Jvm.LawKit.callS X5 hx (y := (⟨"com/example/hosts_to_firehose/hoststofirehose/io/Cbor", "shortestArgumentBytes", "(J)I"⟩ : MethodName)) hown (mvT hZ (hw _ (List.mem_of_getElem? (i := 31) rfl))) (mvT hZ (hw _ (List.mem_of_getElem? (i := 32) rfl))) (mvT hZ (hw _ (List.mem_of_getElem? (i := 33) rfl))) (mvT hZ (hw _ (List.mem_of_getElem? (i := 34) rfl))) (by decide) (backOf (W := 2) (rm6 l Z a0 hw [] ((0 : Int32).toInt64)  h3 n0 Z3 (by decide)) hZ (hw _ (List.mem_of_getElem? (i := 34) rfl)) (hw _ (List.mem_of_getElem? (i := 33) rfl)) (by decide) (by decide)) (g := (mkF m 114 #[.val (.ref x0), .val (.int pp), .val (.int (0 : Int32)), .val (.int (0 : Int32)), .unset, .unset, .unset, .unset] [(.long ((0 : Int32).toInt64)), (.int (((pp + (1 : Int32)) - pp) - (1 : Int32))), (.ref x0)])) rfl (by rw [hml]; rfl) (argsL := [(.long ((0 : Int32).toInt64))]) (rest := [(.int (((pp + (1 : Int32)) - pp) - (1 : Int32))), (.ref x0)]) (lenOf pd_2 rfl) rfl (by show 2 * 0 + _ ≤ _; exact Nat.le_of_eq rfl) (hb hby d4_114) (fun _ _ => ⟨rfl, e5, (by decide : 0 + 0 ≤ _), (by decide : 0 + 0 ≤ _)⟩)
  dsimp only [Pt.U, Pt.locs, Pt.cells, Pt.slots] at X6 l6 y6 z6 st6 hQ6
  subst l6 y6 z6
  obtain ⟨rfl, N6q, e6⟩ := hQ6
  have N6 := Fr.app N3 N6q
  refine own_go st6 ?_
  show own_Fin _ _ _ _ T6 (mkF m 117 #[.val (.ref x0), .val (.int pp), .val (.int (0 : Int32)), .val (.int (0 : Int32)), .unset, .unset, .unset, .unset] [(.int (0 : Int32)), (.int (((pp + (1 : Int32)) - pp) - (1 : Int32))), (.ref x0)]) _ _ _
  by_cases h117 : (((pp + (1 : Int32)) - pp) - (1 : Int32)) = (0 : Int32)
  · refine own_go (fun _ => XS.icmpNo X6.here hx rfl (hb hby d4_117) rfl (teq h117).2) ?_
    show own_Fin _ _ _ _ T6 (mkF m 120 #[.val (.ref x0), .val (.int pp), .val (.int (0 : Int32)), .val (.int (0 : Int32)), .unset, .unset, .unset, .unset] [(.ref x0)]) _ _ _
    refine own_go (fun _ => XS.iconst X6.here hx rfl (hb hby d4_120)) ?_
    show own_Fin _ _ _ _ T6 (mkF m 121 #[.val (.ref x0), .val (.int pp), .val (.int (0 : Int32)), .val (.int (0 : Int32)), .unset, .unset, .unset, .unset] [(.int (1 : Int32)), (.ref x0)]) _ _ _
    refine own_go (fun _ => XS.goto X6.here hx rfl (pc0 := 121) (pc' := 125) rfl (hb hby d4_121) (by decide) (by decide)) ?_
    show own_Fin _ _ _ _ T6 (mkF m 125 #[.val (.ref x0), .val (.int pp), .val (.int (0 : Int32)), .val (.int (0 : Int32)), .unset, .unset, .unset, .unset] [(.int (1 : Int32)), (.ref x0)]) _ _ _
    obtain ⟨T7, h7, X7, e7, W7, st7⟩ := putFN X6 hx hZ hown (hw _ (List.mem_of_getElem? (i := 44) rfl)) Via.refl e6 F3_x0_headShortest E3_x0 (Or.inl (hw _ (List.mem_of_getElem? (i := 45) rfl))) (hw _ (List.mem_of_getElem? (i := 3) rfl)) (ty := .boolean) (v' := .int (nar .boolean (1 : Int32))) (by decide) rfl (fits_nar_bool _) (g := (mkF m 125 #[.val (.ref x0), .val (.int pp), .val (.int (0 : Int32)), .val (.int (0 : Int32)), .unset, .unset, .unset, .unset] [(.int (1 : Int32)), (.ref x0)])) rfl rfl (hb hby d4_125)
    have F7_x0_bytes := (F3_x0_bytes).other W7 (Or.inr (slot_ne (Or.inr (hw _ (List.mem_of_getElem? (i := 12) rfl))) (Or.inl (hw _ (List.mem_of_getElem? (i := 45) rfl))) (by decide) (t := (.array .byte)) (t' := .boolean) (by decide) (by decide)))
    have F7_x0_position := (F3_x0_position).other W7 (Or.inr (slot_ne (Or.inl (hw _ (List.mem_of_getElem? (i := 14) rfl))) (Or.inl (hw _ (List.mem_of_getElem? (i := 45) rfl))) (by decide) (t := .int) (t' := .boolean) (by decide) (by decide)))
    have F7_x0_argument := (F3_x0_argument).other W7 (Or.inr (slot_ne (Or.inl (hw _ (List.mem_of_getElem? (i := 30) rfl))) (Or.inl (hw _ (List.mem_of_getElem? (i := 45) rfl))) (by decide) (t := .long) (t' := .boolean) (by decide) (by decide)))
    have F7_x0_headShortest := (F3_x0_headShortest).same W7
    have E7_x0 := (E3_x0).wr W7
    have V7_bb := (V3_bb).other W7 neb
    have K7 : Keep h0 h7 [x0] := (K3).wr W7 (Or.inl (List.mem_of_getElem? (i := 0) rfl))
    have N7 := Fr.snoc X7 N6 g_x0
    have Z7 : n0 ≤ h7.size := Nat.le_trans Z3 (Keep.of_wr W7).1
    refine own_go st7 ?_
    show own_Fin _ _ _ _ T7 (mkF m 128 #[.val (.ref x0), .val (.int pp), .val (.int (0 : Int32)), .val (.int (0 : Int32)), .unset, .unset, .unset, .unset] []) _ _ _
    refine own_go (fun _ => XS.iloadN X7.here hx rfl (hb hby d4_128) rfl) ?_
    show own_Fin _ _ _ _ T7 (mkF m 129 #[.val (.ref x0), .val (.int pp), .val (.int (0 : Int32)), .val (.int (0 : Int32)), .unset, .unset, .unset, .unset] [(.int (0 : Int32))]) _ _ _
    refine own_go (fun _ => XS.iconst X7.here hx rfl (hb hby d4_129)) ?_
    show own_Fin _ _ _ _ T7 (mkF m 130 #[.val (.ref x0), .val (.int pp), .val (.int (0 : Int32)), .val (.int (0 : Int32)), .unset, .unset, .unset, .unset] [(.int (5 : Int32)), (.int (0 : Int32))]) _ _ _
    refine own_go (fun _ => XS.iushr X7.here hx rfl (hb hby d4_130) rfl) ?_
    show own_Fin _ _ _ _ T7 (mkF m 131 #[.val (.ref x0), .val (.int pp), .val (.int (0 : Int32)), .val (.int (0 : Int32)), .unset, .unset, .unset, .unset] [(.int (((0 : Int32).toUInt32 >>> ((5 : Int32) &&& 31).toUInt32).toInt32))]) _ _ _
    exact own_retI X7 hx hnl hret (hb hby d4_131) (by decide) (by decide) ⟨_, rfl, N7, by rw [e7]; exact K7, by rw [e7]; exact E7_x0, by rw [e7]; exact F7_x0_bytes, by rw [e7]; exact F7_x0_position⟩
  · refine own_go (fun _ => XS.icmpYes X6.here hx rfl (pc0 := 117) (pc' := 124) rfl (hb hby d4_117) rfl (feq h117).2 (by decide) (by decide)) ?_
    show own_Fin _ _ _ _ T6 (mkF m 124 #[.val (.ref x0), .val (.int pp), .val (.int (0 : Int32)), .val (.int (0 : Int32)), .unset, .unset, .unset, .unset] [(.ref x0)]) _ _ _
    refine own_go (fun _ => XS.iconst X6.here hx rfl (hb hby d4_124)) ?_
    show own_Fin _ _ _ _ T6 (mkF m 125 #[.val (.ref x0), .val (.int pp), .val (.int (0 : Int32)), .val (.int (0 : Int32)), .unset, .unset, .unset, .unset] [(.int (0 : Int32)), (.ref x0)]) _ _ _
    obtain ⟨T8, h8, X8, e8, W8, st8⟩ := putFN X6 hx hZ hown (hw _ (List.mem_of_getElem? (i := 44) rfl)) Via.refl e6 F3_x0_headShortest E3_x0 (Or.inl (hw _ (List.mem_of_getElem? (i := 45) rfl))) (hw _ (List.mem_of_getElem? (i := 3) rfl)) (ty := .boolean) (v' := .int (nar .boolean (0 : Int32))) (by decide) rfl (fits_nar_bool _) (g := (mkF m 125 #[.val (.ref x0), .val (.int pp), .val (.int (0 : Int32)), .val (.int (0 : Int32)), .unset, .unset, .unset, .unset] [(.int (0 : Int32)), (.ref x0)])) rfl rfl (hb hby d4_125)
    have F8_x0_bytes := (F3_x0_bytes).other W8 (Or.inr (slot_ne (Or.inr (hw _ (List.mem_of_getElem? (i := 12) rfl))) (Or.inl (hw _ (List.mem_of_getElem? (i := 45) rfl))) (by decide) (t := (.array .byte)) (t' := .boolean) (by decide) (by decide)))
    have F8_x0_position := (F3_x0_position).other W8 (Or.inr (slot_ne (Or.inl (hw _ (List.mem_of_getElem? (i := 14) rfl))) (Or.inl (hw _ (List.mem_of_getElem? (i := 45) rfl))) (by decide) (t := .int) (t' := .boolean) (by decide) (by decide)))
    have F8_x0_argument := (F3_x0_argument).other W8 (Or.inr (slot_ne (Or.inl (hw _ (List.mem_of_getElem? (i := 30) rfl))) (Or.inl (hw _ (List.mem_of_getElem? (i := 45) rfl))) (by decide) (t := .long) (t' := .boolean) (by decide) (by decide)))
    have F8_x0_headShortest := (F3_x0_headShortest).same W8
    have E8_x0 := (E3_x0).wr W8
    have V8_bb := (V3_bb).other W8 neb
    have K8 : Keep h0 h8 [x0] := (K3).wr W8 (Or.inl (List.mem_of_getElem? (i := 0) rfl))
    have N8 := Fr.snoc X8 N6 g_x0
    have Z8 : n0 ≤ h8.size := Nat.le_trans Z3 (Keep.of_wr W8).1
    refine own_go st8 ?_
    show own_Fin _ _ _ _ T8 (mkF m 128 #[.val (.ref x0), .val (.int pp), .val (.int (0 : Int32)), .val (.int (0 : Int32)), .unset, .unset, .unset, .unset] []) _ _ _
    refine own_go (fun _ => XS.iloadN X8.here hx rfl (hb hby d4_128) rfl) ?_
    show own_Fin _ _ _ _ T8 (mkF m 129 #[.val (.ref x0), .val (.int pp), .val (.int (0 : Int32)), .val (.int (0 : Int32)), .unset, .unset, .unset, .unset] [(.int (0 : Int32))]) _ _ _
    refine own_go (fun _ => XS.iconst X8.here hx rfl (hb hby d4_129)) ?_
    show own_Fin _ _ _ _ T8 (mkF m 130 #[.val (.ref x0), .val (.int pp), .val (.int (0 : Int32)), .val (.int (0 : Int32)), .unset, .unset, .unset, .unset] [(.int (5 : Int32)), (.int (0 : Int32))]) _ _ _
    refine own_go (fun _ => XS.iushr X8.here hx rfl (hb hby d4_130) rfl) ?_
    show own_Fin _ _ _ _ T8 (mkF m 131 #[.val (.ref x0), .val (.int pp), .val (.int (0 : Int32)), .val (.int (0 : Int32)), .unset, .unset, .unset, .unset] [(.int (((0 : Int32).toUInt32 >>> ((5 : Int32) &&& 31).toUInt32).toInt32))]) _ _ _
    exact own_retI X8 hx hnl hret (hb hby d4_131) (by decide) (by decide) ⟨_, rfl, N8, by rw [e8]; exact K8, by rw [e8]; exact E8_x0, by rw [e8]; exact F8_x0_bytes, by rw [e8]; exact F8_x0_position⟩

theorem own_n (a : Int32) : 0 ≤ (a &&& 7).toInt ∧ (a &&& 7).toInt ≤ 7 := by
  have h1 : (a &&& 7).toInt = a.toInt % 2 ^ 3 := Jvm.Kit.i32_mask a 7 (k := 3) (by decide) (by decide)
  omega
theorem own_n1 {z : Int32} (h : 0 ≤ z.toInt ∧ z.toInt ≤ 7) : (z + 1).toInt = z.toInt + 1 := by
  have e1 : (1 : Int32).toInt = 1 := by decide
  rw [Jvm.Kit.i32_add (by rw [e1]; omega) (by rw [e1]; omega), e1]
theorem own_nz {z : Int32} (h : 0 ≤ z.toInt ∧ z.toInt ≤ 7) : z + 1 ≠ 0 := by
  intro q
  have := own_n1 h
  rw [q] at this
  have h2 : (0 : Int) = z.toInt + 1 := this
  omega
theorem own_off {z : Int32} (h : 0 ≤ z.toInt ∧ z.toInt ≤ 7) (b : Int32) : 0 ≤ ((b &&& (2147483647 : Int32)) - ((b &&& (2147483647 : Int32)) / (z + (1 : Int32))) * (z + (1 : Int32))).toInt ∧ ((b &&& (2147483647 : Int32)) - ((b &&& (2147483647 : Int32)) / (z + (1 : Int32))) * (z + (1 : Int32))).toInt ≤ z.toInt := by
  have h1 : (b &&& (2147483647 : Int32)).toInt = b.toInt % 2 ^ 31 := Jvm.Kit.i32_mask b 2147483647 (k := 31) (by decide) (by decide)
  have h2 := rem_toInt (b &&& (2147483647 : Int32)) (z + 1)
  rw [own_n1 h, h1, Int.tmod_eq_emod_of_nonneg (by omega)] at h2
  rw [h2]
  have a1 := Int.emod_nonneg (b.toInt % 2 ^ 31) (show z.toInt + 1 ≠ 0 by omega)
  have a2 := Int.emod_lt_of_pos (b.toInt % 2 ^ 31) (show 0 < z.toInt + 1 by omega)
  omega
theorem own_neg {z : Int32} (h : 0 ≤ z.toInt) : ¬ z < 0 := by
  rw [own_lt]; show ¬ z.toInt < 0; omega
theorem own_le {x y : Int32} (h : x.toInt ≤ y.toInt) : ¬ y < x := by
  rw [own_lt]; omega
theorem own_cap {z : Int32} (h : z.toInt ≤ 7) : z.toNatClampNeg ≤ 7 := by
  simp only [Int32.toNatClampNeg]; omega
theorem own_ae1 {p z : Int32} (h : p = z) : own_ae p z = 1 := by simp [own_ae, h]
theorem own_ae0 {p z : Int32} (h : ¬ p = z) : own_ae p z = 0 := by simp [own_ae, h]

theorem pd_3 : parseMethodDescriptor "([BI)V" = some ⟨[(.array .byte), .int], none⟩ := by decide +kernel
theorem pd_4 : parseMethodDescriptor "()Z" = some ⟨[], some .boolean⟩ := by decide +kernel
theorem pn_0 : plainName "com/example/hosts_to_firehose/hoststofirehose/io/CborReaderAtEndPinLaw" = true := by first | (simp [plainName, overriddenIn]; done) | decide +kernel
theorem ef_0 (m : MethodId) (x0 : Int32) (x1 : Int32) (x2 : Int32) : entryFrame m #[(.int x0), (.int x1), (.int x2)] maxLocals = mkF m 0 #[.val (.int x0), .val (.int x1), .val (.int x2), .unset, .unset, .unset, .unset, .unset] [] := by first | (simp [entryFrame, mkF, argsToLocals, Value.category, maxLocals]; done) | rfl
def Q0 (Z : State) (x0 : Int32) (x1 : Int32) (x2 : Int32) (h0 : Heap) (n0 : Nat) (v : Option Value) (h : Heap) (L : List Loc) : Prop := v = some (.int 1) ∧ Fr n0 L
set_option maxRecDepth 65536 in
set_option maxHeartbeats 40000000 in
theorem rm0 (l : Launch) (Z : State) (a0 : Array Value) (hw : ∀ d ∈ tables_1, d.before a0 Z = true) (ws : List Jvm.Cond) (x0 : Int32) (x1 : Int32) (x2 : Int32) (h0 : Heap) (n0 : Nat) (Z0 : n0 ≤ h0.size) :
    MetFree l x (head1 (Jvm.Cond.code x code maxLocals ret :: ws) room_1) (fun a U => a = #[(.int x0), (.int x1), (.int x2)] ∧ Z.Warmed39 U.vm ∧ U.heap = h0) (fun _ _ _ _ _ => True) (fun _ U o U' => ∃ v L, o = .returned v ∧ Q0 Z x0 x1 x2 h0 n0 v U'.heap L ∧ FrameEnd U o U' L room_1.cells room_1.slots) := by
  refine MetFree.of_bodySF (plainFor_of_name pn_0) hisR ?_
  intro p e s m args below meth c s₁ Bd hml0 hP hK
  obtain ⟨rfl, hZ, hh⟩ := hP
  have hx := Bd.exec
  have hby := Bd.bytes
  have hret := Bd.returns
  have hnl : meth.locks = false := Bd.notSynchronized
  have hml : c.maxLocals = 8 := hml0
  have hown : s.vm.findClass "com/example/hosts_to_firehose/hoststofirehose/io/CborReaderAtEndPinLaw" = some m.cls := findClass_of_methodNamed Bd.named
  have hnm := (name_of_methodNamed Bd.named Bd.method).1
  have X0 : Stand p l e room_1 s m #[(.int x0), (.int x1), (.int x2)] below meth c s₁ [] 0 0 := Stand.of_body Bd
  have e0 : s₁.heap = h0 := by rw [← hh, Bd.state]; rfl
  have N0 := Fr.nil n0
  suffices key : own_Fin p e below s s₁ (mkF m 0 #[.val (.int x0), .val (.int x1), .val (.int x2), .unset, .unset, .unset, .unset, .unset] []) (Q0 Z x0 x1 x2 h0 n0) room_1.cells room_1.slots by
    obtain ⟨s2, o, h1, h2⟩ := key
    exact ⟨s2, o, castTop (ef_0 m x0 x1 x2) h1, h2⟩
  refine own_go (fun _ => XS.iloadN X0.here hx rfl (hb hby at_0) rfl) ?_
  show own_Fin _ _ _ _ s₁ (mkF m 1 #[.val (.int x0), .val (.int x1), .val (.int x2), .unset, .unset, .unset, .unset, .unset] [(.int x0)]) _ _ _
  refine own_go (fun _ => XS.bipush X0.here hx rfl (hb hby at_1)) ?_
  show own_Fin _ _ _ _ s₁ (mkF m 3 #[.val (.int x0), .val (.int x1), .val (.int x2), .unset, .unset, .unset, .unset, .unset] [(.int (7 : Int32)), (.int x0)]) _ _ _
  refine own_go (fun _ => XS.iand X0.here hx rfl (hb hby at_3) rfl) ?_
  show own_Fin _ _ _ _ s₁ (mkF m 4 #[.val (.int x0), .val (.int x1), .val (.int x2), .unset, .unset, .unset, .unset, .unset] [(.int (x0 &&& (7 : Int32)))]) _ _ _
  obtain ⟨z3, hq3⟩ : ∃ z, z = (x0 &&& (7 : Int32)) := ⟨_, rfl⟩
  have hz3 : 0 ≤ z3.toInt ∧ z3.toInt ≤ 7 := hq3 ▸ own_n x0
  rw [← hq3]
  show own_Fin _ _ _ _ s₁ (mkF m 4 #[.val (.int x0), .val (.int x1), .val (.int x2), .unset, .unset, .unset, .unset, .unset] [(.int z3)]) _ _ _
  refine own_go (fun _ => XS.istoreN X0.here hx rfl (hb hby at_4) rfl (l' := #[.val (.int x0), .val (.int x1), .val (.int x2), .val (.int z3), .unset, .unset, .unset, .unset]) rfl) ?_
  show own_Fin _ _ _ _ s₁ (mkF m 5 #[.val (.int x0), .val (.int x1), .val (.int x2), .val (.int z3), .unset, .unset, .unset, .unset] []) _ _ _
  refine own_go (fun _ => XS.iloadN X0.here hx rfl (hb hby at_5) rfl) ?_
  show own_Fin _ _ _ _ s₁ (mkF m 6 #[.val (.int x0), .val (.int x1), .val (.int x2), .val (.int z3), .unset, .unset, .unset, .unset] [(.int x1)]) _ _ _
  refine own_go (fun _ => X0.ldcI hx hown (mvT hZ (hw _ (List.mem_of_getElem? (i := 0) rfl))) rfl (hb hby at_6)) ?_
  show own_Fin _ _ _ _ s₁ (mkF m 8 #[.val (.int x0), .val (.int x1), .val (.int x2), .val (.int z3), .unset, .unset, .unset, .unset] [(.int (2147483647 : Int32)), (.int x1)]) _ _ _
  refine own_go (fun _ => XS.iand X0.here hx rfl (hb hby at_8) rfl) ?_
  show own_Fin _ _ _ _ s₁ (mkF m 9 #[.val (.int x0), .val (.int x1), .val (.int x2), .val (.int z3), .unset, .unset, .unset, .unset] [(.int (x1 &&& (2147483647 : Int32)))]) _ _ _
  refine own_go (fun _ => XS.iloadN X0.here hx rfl (hb hby at_9) rfl) ?_
  show own_Fin _ _ _ _ s₁ (mkF m 10 #[.val (.int x0), .val (.int x1), .val (.int x2), .val (.int z3), .unset, .unset, .unset, .unset] [(.int z3), (.int (x1 &&& (2147483647 : Int32)))]) _ _ _
  refine own_go (fun _ => XS.iconst X0.here hx rfl (hb hby at_10)) ?_
  show own_Fin _ _ _ _ s₁ (mkF m 11 #[.val (.int x0), .val (.int x1), .val (.int x2), .val (.int z3), .unset, .unset, .unset, .unset] [(.int (1 : Int32)), (.int z3), (.int (x1 &&& (2147483647 : Int32)))]) _ _ _
  refine own_go (fun _ => XS.iadd X0.here hx rfl (hb hby at_11) rfl) ?_
  show own_Fin _ _ _ _ s₁ (mkF m 12 #[.val (.int x0), .val (.int x1), .val (.int x2), .val (.int z3), .unset, .unset, .unset, .unset] [(.int (z3 + (1 : Int32))), (.int (x1 &&& (2147483647 : Int32)))]) _ _ _
  refine own_go (fun _ => XS.irem X0.here hx rfl (hb hby at_12) rfl (own_nz hz3)) ?_
  show own_Fin _ _ _ _ s₁ (mkF m 13 #[.val (.int x0), .val (.int x1), .val (.int x2), .val (.int z3), .unset, .unset, .unset, .unset] [(.int ((x1 &&& (2147483647 : Int32)) - ((x1 &&& (2147483647 : Int32)) / (z3 + (1 : Int32))) * (z3 + (1 : Int32))))]) _ _ _
  obtain ⟨y4, hq4⟩ : ∃ z, z = ((x1 &&& (2147483647 : Int32)) - ((x1 &&& (2147483647 : Int32)) / (z3 + (1 : Int32))) * (z3 + (1 : Int32))) := ⟨_, rfl⟩
  have hy4 : 0 ≤ y4.toInt ∧ y4.toInt ≤ z3.toInt := hq4 ▸ own_off hz3 x1
  rw [← hq4]
  show own_Fin _ _ _ _ s₁ (mkF m 13 #[.val (.int x0), .val (.int x1), .val (.int x2), .val (.int z3), .unset, .unset, .unset, .unset] [(.int y4)]) _ _ _
  refine own_go (fun _ => XS.istore X0.here hx rfl (hb hby at_13) rfl (l' := #[.val (.int x0), .val (.int x1), .val (.int x2), .val (.int z3), .val (.int y4), .unset, .unset, .unset]) rfl) ?_
  show own_Fin _ _ _ _ s₁ (mkF m 15 #[.val (.int x0), .val (.int x1), .val (.int x2), .val (.int z3), .val (.int y4), .unset, .unset, .unset] []) _ _ _
  refine own_go (fun _ => XS.iloadN X0.here hx rfl (hb hby at_15) rfl) ?_
  show own_Fin _ _ _ _ s₁ (mkF m 16 #[.val (.int x0), .val (.int x1), .val (.int x2), .val (.int z3), .val (.int y4), .unset, .unset, .unset] [(.int z3)]) _ _ _
  obtain ⟨T1, h1, k1, X1, e1, E1, A1, st1⟩ := newP X0 hx hZ (hw _ (List.mem_of_getElem? (i := 1) rfl)) e0 (g := (mkF m 16 #[.val (.int x0), .val (.int x1), .val (.int x2), .val (.int z3), .val (.int y4), .unset, .unset, .unset] [(.int z3)])) rfl (hb hby at_16) rfl (own_neg hz3.1) (cap := 7) (own_cap hz3.2) (by decide) (by decide) (by decide)
  obtain ⟨b1, g1⟩ : ∃ z, z = h0.size := ⟨_, rfl⟩
  rw [← g1] at A1 st1
  have g_b1 : n0 ≤ b1 := Nat.le_trans Z0 (Nat.le_of_eq g1.symm)
  have Z1 : n0 ≤ h1.size := Nat.le_trans Z0 E1.1
  have sz_b1 : h0.size ≤ b1 := Nat.le_trans ((Keep.refl h0 [])).1 (Nat.le_of_eq g1.symm)
  have K1 : Keep h0 h1 [] := ((Keep.refl h0 [])).ext E1
  have V_b1 : own_Ba Z h1 b1 z3.toNatClampNeg (fun _ => 0) := own_Ba.new A1 (own_neg hz3.1)
  refine own_go st1 ?_
  show own_Fin _ _ _ _ T1 (mkF m 18 #[.val (.int x0), .val (.int x1), .val (.int x2), .val (.int z3), .val (.int y4), .unset, .unset, .unset] [(.ref b1)]) _ _ _
  refine own_go (fun _ => XS.astore X1.here hx rfl (hb hby at_18) rfl rfl (l' := #[.val (.int x0), .val (.int x1), .val (.int x2), .val (.int z3), .val (.int y4), .val (.ref b1), .unset, .unset]) rfl) ?_
  show own_Fin _ _ _ _ T1 (mkF m 20 #[.val (.int x0), .val (.int x1), .val (.int x2), .val (.int z3), .val (.int y4), .val (.ref b1), .unset, .unset] []) _ _ _
  obtain ⟨T2, h2, X2, e2, E2, A2, D2, -, st2⟩ := newO X1 hx hZ hown (hw _ (List.mem_of_getElem? (i := 2) rfl)) (hw _ (List.mem_of_getElem? (i := 3) rfl)) (hw _ (List.mem_of_getElem? (i := 4) rfl)) e1 (g := (mkF m 20 #[.val (.int x0), .val (.int x1), .val (.int x2), .val (.int z3), .val (.int y4), .val (.ref b1), .unset, .unset] [])) rfl (hb hby at_20) (by decide) (by decide)
  obtain ⟨b2, g2⟩ : ∃ z, z = h1.size := ⟨_, rfl⟩
  rw [← g2] at A2 D2 st2
  have F_bytes_b2 : Fld Z h2 b2 "com/example/hosts_to_firehose/hoststofirehose/io/CborReader" "bytes" "[B" .null := D2 (Or.inr (hw _ (List.mem_of_getElem? (i := 12) rfl))) (ty := (.array .byte)) (by decide)
  have F_position_b2 : Fld Z h2 b2 "com/example/hosts_to_firehose/hoststofirehose/io/CborReader" "position" "I" (.int (0 : Int32)) := D2 (Or.inl (hw _ (List.mem_of_getElem? (i := 14) rfl))) (ty := .int) (by decide)
  have F_argument_b2 : Fld Z h2 b2 "com/example/hosts_to_firehose/hoststofirehose/io/CborReader" "argument" "J" (.long (0 : Int64)) := D2 (Or.inl (hw _ (List.mem_of_getElem? (i := 30) rfl))) (ty := .long) (by decide)
  have F_headShortest_b2 : Fld Z h2 b2 "com/example/hosts_to_firehose/hoststofirehose/io/CborReader" "headShortest" "Z" (.int (0 : Int32)) := D2 (Or.inl (hw _ (List.mem_of_getElem? (i := 45) rfl))) (ty := .boolean) (by decide)
  have g_b2 : n0 ≤ b2 := Nat.le_trans Z1 (Nat.le_of_eq g2.symm)
  have Z2 : n0 ≤ h2.size := Nat.le_trans Z1 E2.1
  have ne_b1_b2 : b1 ≠ b2 := Nat.ne_of_lt (Nat.lt_of_lt_of_le (V_b1).lt (Nat.le_of_eq g2.symm))
  have sz_b2 : h0.size ≤ b2 := Nat.le_trans (K1).1 (Nat.le_of_eq g2.symm)
  have K2 : Keep h0 h2 [] := (K1).ext E2
  have V2_b1 := (V_b1).ext E2
  refine own_go st2 ?_
  show own_Fin _ _ _ _ T2 (mkF m 23 #[.val (.int x0), .val (.int x1), .val (.int x2), .val (.int z3), .val (.int y4), .val (.ref b1), .unset, .unset] [(.ref b2)]) _ _ _
  refine own_go (fun _ => XS.dup X2.here hx rfl (hb hby at_23) rfl rfl) ?_
  show own_Fin _ _ _ _ T2 (mkF m 24 #[.val (.int x0), .val (.int x1), .val (.int x2), .val (.int z3), .val (.int y4), .val (.ref b1), .unset, .unset] [(.ref b2), (.ref b2)]) _ _ _
  refine own_go (fun _ => XS.aload X2.here hx rfl (hb hby at_24) rfl rfl) ?_
  show own_Fin _ _ _ _ T2 (mkF m 26 #[.val (.int x0), .val (.int x1), .val (.int x2), .val (.int z3), .val (.int y4), .val (.ref b1), .unset, .unset] [(.ref b1), (.ref b2), (.ref b2)]) _ _ _
  refine own_go (fun _ => XS.iload X2.here hx rfl (hb hby at_26) rfl) ?_
  show own_Fin _ _ _ _ T2 (mkF m 28 #[.val (.int x0), .val (.int x1), .val (.int x2), .val (.int z3), .val (.int y4), .val (.ref b1), .unset, .unset] [(.int y4), (.ref b1), (.ref b2), (.ref b2)]) _ _ _
  obtain ⟨_, _, ⟨T3, L3, k3, n3⟩, -, X3, ⟨Lc3, hQ3, l3, y3, z3⟩, st3⟩ := X2.specialBack hx (y := (⟨"com/example/hosts_to_firehose/hoststofirehose/io/CborReader", "<init>", "([BI)V"⟩ : MethodName)) rfl hown (mvT hZ (hw _ (List.mem_of_getElem? (i := 5) rfl))) (mvT hZ (hw _ (List.mem_of_getElem? (i := 6) rfl))) (mvT hZ (hw _ (List.mem_of_getElem? (i := 7) rfl))) (by decide) (backOf (W := 1) (rm1 l Z a0 hw [] b2 b1 y4 z3 (fun _ => 0) .null (.int (0 : Int32)) (.long (0 : Int64)) (.int (0 : Int32)) h2 n0 Z2 A2 g_b2 F_bytes_b2 F_position_b2 F_argument_b2 F_headShortest_b2 V2_b1 (own_neg hz3.1) ne_b1_b2 (own_neg hy4.1) (own_le hy4.2)) hZ (hw _ (List.mem_of_getElem? (i := 7) rfl)) (hw _ (List.mem_of_getElem? (i := 4) rfl)) (by decide) (by decide)) (g := (mkF m 28 #[.val (.int x0), .val (.int x1), .val (.int x2), .val (.int z3), .val (.int y4), .val (.ref b1), .unset, .unset] [(.int y4), (.ref b1), (.ref b2), (.ref b2)])) rfl (by rw [hml]; rfl) (Steps.refl _) (a := b2) (argsL := [(.ref b1), (.int y4)]) (rest := [(.ref b2)]) (lenOf pd_3 rfl) rfl (by show 2 * 0 + _ ≤ _; exact Nat.le_of_eq rfl) (hb hby at_28) (fun _ _ => ⟨rfl, e2, (by decide : 2 + 0 ≤ _), (by decide : 11 + 0 ≤ _)⟩)
  dsimp only [Pt.U, Pt.locs, Pt.cells, Pt.slots] at X3 l3 y3 z3 st3 hQ3
  subst l3 y3 z3
  obtain ⟨rfl, N3q, K3q, Ex3, Fx3_0, Fx3_1, Fx3_2, Fx3_3⟩ := hQ3
  have N3 := Fr.app N0 N3q
  have E3_b2 := (A2).keep K3q
  have V3_b1 := (V2_b1).keep K3q (by simp [ne_b1_b2])
  have Kc3 : Keep h0 T3.heap [] := (K2).trans K3q (fun x hx => by cases List.mem_singleton.mp hx; exact (Or.inr sz_b2))
  have Zc3 : n0 ≤ T3.heap.size := Nat.le_trans Z2 (K3q).1
  refine own_gt st3 ?_
  show own_Fin _ _ _ _ T3 (mkF m 31 #[.val (.int x0), .val (.int x1), .val (.int x2), .val (.int z3), .val (.int y4), .val (.ref b1), .unset, .unset] [(.ref b2)]) _ _ _
  refine own_go (fun _ => XS.astore X3.here hx rfl (hb hby at_31) rfl rfl (l' := #[.val (.int x0), .val (.int x1), .val (.int x2), .val (.int z3), .val (.int y4), .val (.ref b1), .val (.ref b2), .unset]) rfl) ?_
  show own_Fin _ _ _ _ T3 (mkF m 33 #[.val (.int x0), .val (.int x1), .val (.int x2), .val (.int z3), .val (.int y4), .val (.ref b1), .val (.ref b2), .unset] []) _ _ _
  refine own_go (fun _ => XS.aload X3.here hx rfl (hb hby at_33) rfl rfl) ?_
  show own_Fin _ _ _ _ T3 (mkF m 35 #[.val (.int x0), .val (.int x1), .val (.int x2), .val (.int z3), .val (.int y4), .val (.ref b1), .val (.ref b2), .unset] [(.ref b2)]) _ _ _
  obtain ⟨cq4, kq4, q4a, q4b, q4c⟩ := isOf hZ rfl Ex3
  obtain ⟨_, _, ⟨T4, L4, k4, n4⟩, -, X4, ⟨Lc4, hQ4, l4, y4, z4⟩, st4⟩ := X3.virtualBack hx (y := (⟨"com/example/hosts_to_firehose/hoststofirehose/io/CborReader", "atEnd", "()Z"⟩ : MethodName)) (z := (⟨"com/example/hosts_to_firehose/hoststofirehose/io/CborReader", "atEnd", "()Z"⟩ : MethodName)) hown (mvT hZ (hw _ (List.mem_of_getElem? (i := 15) rfl))) (mvT hZ (hw _ (List.mem_of_getElem? (i := 16) rfl))) (notFace_of_selects (args := #[]) (mvT hZ (hw _ (List.mem_of_getElem? (i := 18) rfl)))) (mvT hZ (hw _ (List.mem_of_getElem? (i := 18) rfl))) (mvT hZ (hw _ (List.mem_of_getElem? (i := 17) rfl))) (by decide) (backOf (W := 0) (rm3 l Z a0 hw [] b2 y4 b1 z3 T3.heap n0 Zc3 Fx3_0 Fx3_1 V3_b1 (own_neg hz3.1)) hZ (hw _ (List.mem_of_getElem? (i := 19) rfl)) (hw _ (List.mem_of_getElem? (i := 4) rfl)) (by decide) (by decide)) q4a q4c (g := (mkF m 35 #[.val (.int x0), .val (.int x1), .val (.int x2), .val (.int z3), .val (.int y4), .val (.ref b1), .val (.ref b2), .unset] [(.ref b2)])) rfl (by rw [hml]; rfl) (Steps.refl _) (argsL := []) (rest := []) (lenOf pd_4 rfl) rfl (by show 2 * 0 + _ ≤ _; exact Nat.le_of_eq rfl) (hb hby at_35) (fun _ _ => ⟨rfl, rfl, (by decide : 2 + 0 ≤ _), (by decide : 11 + 0 ≤ _)⟩)
  dsimp only [Pt.U, Pt.locs, Pt.cells, Pt.slots] at X4 l4 y4 z4 st4 hQ4
  subst l4 y4 z4
  obtain ⟨rfl, N4q, e4⟩ := hQ4
  have N4 := Fr.app N3 N4q
  refine own_gt st4 ?_
  show own_Fin _ _ _ _ T4 (mkF m 38 #[.val (.int x0), .val (.int x1), .val (.int x2), .val (.int z3), .val (.int y4), .val (.ref b1), .val (.ref b2), .unset] [(.int (own_ae y4 z3))]) _ _ _
  refine own_go (fun _ => XS.iload X4.here hx rfl (hb hby at_38) rfl) ?_
  show own_Fin _ _ _ _ T4 (mkF m 40 #[.val (.int x0), .val (.int x1), .val (.int x2), .val (.int z3), .val (.int y4), .val (.ref b1), .val (.ref b2), .unset] [(.int y4), (.int (own_ae y4 z3))]) _ _ _
  refine own_go (fun _ => XS.iloadN X4.here hx rfl (hb hby at_40) rfl) ?_
  show own_Fin _ _ _ _ T4 (mkF m 41 #[.val (.int x0), .val (.int x1), .val (.int x2), .val (.int z3), .val (.int y4), .val (.ref b1), .val (.ref b2), .unset] [(.int z3), (.int y4), (.int (own_ae y4 z3))]) _ _ _
  by_cases h41 : y4 = z3
  · refine own_go (fun _ => XS.icmpNo X4.here hx rfl (hb hby at_41) rfl (teq h41).2) ?_
    show own_Fin _ _ _ _ T4 (mkF m 44 #[.val (.int x0), .val (.int x1), .val (.int x2), .val (.int z3), .val (.int y4), .val (.ref b1), .val (.ref b2), .unset] [(.int (own_ae y4 z3))]) _ _ _
    refine own_go (fun _ => XS.iconst X4.here hx rfl (hb hby at_44)) ?_
    show own_Fin _ _ _ _ T4 (mkF m 45 #[.val (.int x0), .val (.int x1), .val (.int x2), .val (.int z3), .val (.int y4), .val (.ref b1), .val (.ref b2), .unset] [(.int (1 : Int32)), (.int (own_ae y4 z3))]) _ _ _
    refine own_go (fun _ => XS.goto X4.here hx rfl (pc0 := 45) (pc' := 49) rfl (hb hby at_45) (by decide) (by decide)) ?_
    show own_Fin _ _ _ _ T4 (mkF m 49 #[.val (.int x0), .val (.int x1), .val (.int x2), .val (.int z3), .val (.int y4), .val (.ref b1), .val (.ref b2), .unset] [(.int (1 : Int32)), (.int (own_ae y4 z3))]) _ _ _
    refine own_go (fun _ => XS.icmpNo X4.here hx rfl (hb hby at_49) rfl (teq (show (own_ae y4 z3) = (1 : Int32) from own_ae1 h41)).2) ?_
    show own_Fin _ _ _ _ T4 (mkF m 52 #[.val (.int x0), .val (.int x1), .val (.int x2), .val (.int z3), .val (.int y4), .val (.ref b1), .val (.ref b2), .unset] []) _ _ _
    refine own_go (fun _ => XS.iconst X4.here hx rfl (hb hby at_52)) ?_
    show own_Fin _ _ _ _ T4 (mkF m 53 #[.val (.int x0), .val (.int x1), .val (.int x2), .val (.int z3), .val (.int y4), .val (.ref b1), .val (.ref b2), .unset] [(.int (1 : Int32))]) _ _ _
    refine own_go (fun _ => XS.goto X4.here hx rfl (pc0 := 53) (pc' := 57) rfl (hb hby at_53) (by decide) (by decide)) ?_
    show own_Fin _ _ _ _ T4 (mkF m 57 #[.val (.int x0), .val (.int x1), .val (.int x2), .val (.int z3), .val (.int y4), .val (.ref b1), .val (.ref b2), .unset] [(.int (1 : Int32))]) _ _ _
    refine own_go (fun _ => XS.istore X4.here hx rfl (hb hby at_57) rfl (l' := #[.val (.int x0), .val (.int x1), .val (.int x2), .val (.int z3), .val (.int y4), .val (.ref b1), .val (.ref b2), .val (.int (1 : Int32))]) rfl) ?_
    show own_Fin _ _ _ _ T4 (mkF m 59 #[.val (.int x0), .val (.int x1), .val (.int x2), .val (.int z3), .val (.int y4), .val (.ref b1), .val (.ref b2), .val (.int (1 : Int32))] []) _ _ _
    refine own_go (fun _ => XS.iload X4.here hx rfl (hb hby at_59) rfl) ?_
    show own_Fin _ _ _ _ T4 (mkF m 61 #[.val (.int x0), .val (.int x1), .val (.int x2), .val (.int z3), .val (.int y4), .val (.ref b1), .val (.ref b2), .val (.int (1 : Int32))] [(.int y4)]) _ _ _
    refine own_go (fun _ => XS.iloadN X4.here hx rfl (hb hby at_61) rfl) ?_
    show own_Fin _ _ _ _ T4 (mkF m 62 #[.val (.int x0), .val (.int x1), .val (.int x2), .val (.int z3), .val (.int y4), .val (.ref b1), .val (.ref b2), .val (.int (1 : Int32))] [(.int z3), (.int y4)]) _ _ _
    by_cases h62 : y4 < z3
    · refine own_go (fun _ => XS.icmpNo X4.here hx rfl (hb hby at_62) rfl (tlt h62).2.1) ?_
      show own_Fin _ _ _ _ T4 (mkF m 65 #[.val (.int x0), .val (.int x1), .val (.int x2), .val (.int z3), .val (.int y4), .val (.ref b1), .val (.ref b2), .val (.int (1 : Int32))] []) _ _ _
      refine own_go (fun _ => XS.iloadN X4.here hx rfl (hb hby at_65) rfl) ?_
      show own_Fin _ _ _ _ T4 (mkF m 66 #[.val (.int x0), .val (.int x1), .val (.int x2), .val (.int z3), .val (.int y4), .val (.ref b1), .val (.ref b2), .val (.int (1 : Int32))] [(.int x2)]) _ _ _
      refine own_go (fun _ => XS.iconst X4.here hx rfl (hb hby at_66)) ?_
      show own_Fin _ _ _ _ T4 (mkF m 67 #[.val (.int x0), .val (.int x1), .val (.int x2), .val (.int z3), .val (.int y4), .val (.ref b1), .val (.ref b2), .val (.int (1 : Int32))] [(.int (1 : Int32)), (.int x2)]) _ _ _
      refine own_go (fun _ => XS.iand X4.here hx rfl (hb hby at_67) rfl) ?_
      show own_Fin _ _ _ _ T4 (mkF m 68 #[.val (.int x0), .val (.int x1), .val (.int x2), .val (.int z3), .val (.int y4), .val (.ref b1), .val (.ref b2), .val (.int (1 : Int32))] [(.int (x2 &&& (1 : Int32)))]) _ _ _
      by_cases h68 : (x2 &&& (1 : Int32)) = (0 : Int32)
      · refine own_go (fun _ => XS.ifYes X4.here hx rfl (pc0 := 68) (pc' := 110) rfl (hb hby at_68) rfl ((if0 _ _).trans (teq h68).1) (by decide) (by decide)) ?_
        show own_Fin _ _ _ _ T4 (mkF m 110 #[.val (.int x0), .val (.int x1), .val (.int x2), .val (.int z3), .val (.int y4), .val (.ref b1), .val (.ref b2), .val (.int (1 : Int32))] []) _ _ _
        refine own_go (fun _ => XS.iload X4.here hx rfl (hb hby at_110) rfl) ?_
        show own_Fin _ _ _ _ T4 (mkF m 112 #[.val (.int x0), .val (.int x1), .val (.int x2), .val (.int z3), .val (.int y4), .val (.ref b1), .val (.ref b2), .val (.int (1 : Int32))] [(.int (1 : Int32))]) _ _ _
        exact own_retZ X4 hx hnl (t := .boolean) hret (by simp) (hb hby at_112) (by decide) (by decide) ⟨rfl, N4⟩
      · refine own_go (fun _ => XS.ifNo X4.here hx rfl (hb hby at_68) rfl ((if0 _ _).trans (feq h68).1)) ?_
        show own_Fin _ _ _ _ T4 (mkF m 71 #[.val (.int x0), .val (.int x1), .val (.int x2), .val (.int z3), .val (.int y4), .val (.ref b1), .val (.ref b2), .val (.int (1 : Int32))] []) _ _ _
        refine own_go (fun _ => XS.aload X4.here hx rfl (hb hby at_71) rfl rfl) ?_
        show own_Fin _ _ _ _ T4 (mkF m 73 #[.val (.int x0), .val (.int x1), .val (.int x2), .val (.int z3), .val (.int y4), .val (.ref b1), .val (.ref b2), .val (.int (1 : Int32))] [(.ref b2)]) _ _ _
        obtain ⟨cq5, kq5, q5a, q5b, q5c⟩ := isOf hZ e4 Ex3
        obtain ⟨_, _, ⟨T5, L5, k5, n5⟩, -, X5, ⟨Lc5, hQ5, l5, y5, z5⟩, st5⟩ := X4.virtualBack hx (y := (⟨"com/example/hosts_to_firehose/hoststofirehose/io/CborReader", "readHead", "()I"⟩ : MethodName)) (z := (⟨"com/example/hosts_to_firehose/hoststofirehose/io/CborReader", "readHead", "()I"⟩ : MethodName)) hown (mvT hZ (hw _ (List.mem_of_getElem? (i := 20) rfl))) (mvT hZ (hw _ (List.mem_of_getElem? (i := 21) rfl))) (notFace_of_selects (args := #[]) (mvT hZ (hw _ (List.mem_of_getElem? (i := 23) rfl)))) (mvT hZ (hw _ (List.mem_of_getElem? (i := 23) rfl))) (mvT hZ (hw _ (List.mem_of_getElem? (i := 22) rfl))) (by decide) (backOf (W := 0) (rm4 l Z a0 hw [] b2 y4 b1 z3 (.long (0 : Int64)) (.int (0 : Int32)) T3.heap n0 Zc3 Fx3_0 Fx3_1 V3_b1 (own_neg hz3.1) Ex3 g_b2 Fx3_2 Fx3_3 ne_b1_b2 (own_neg hy4.1) h62) hZ (hw _ (List.mem_of_getElem? (i := 24) rfl)) (hw _ (List.mem_of_getElem? (i := 4) rfl)) (by decide) (by decide)) q5a q5c (g := (mkF m 73 #[.val (.int x0), .val (.int x1), .val (.int x2), .val (.int z3), .val (.int y4), .val (.ref b1), .val (.ref b2), .val (.int (1 : Int32))] [(.ref b2)])) rfl (by rw [hml]; rfl) (Steps.refl _) (argsL := []) (rest := []) (lenOf pd_1 rfl) rfl (by show 2 * 0 + _ ≤ _; exact Nat.le_of_eq rfl) (hb hby at_73) (fun _ _ => ⟨rfl, e4, (by decide : 2 + 0 ≤ _), (by decide : 11 + 0 ≤ _)⟩)
        dsimp only [Pt.U, Pt.locs, Pt.cells, Pt.slots] at X5 l5 y5 z5 st5 hQ5
        subst l5 y5 z5
        obtain ⟨r5, rfl, N5q, K5q, Ex5, Fx5_0, Fx5_1⟩ := hQ5
        have N5 := Fr.app N4 N5q
        have E5_b2 := (Ex3).keep K5q
        have V5_b1 := (V3_b1).keep K5q (by simp [ne_b1_b2])
        have Kc5 : Keep h0 T5.heap [] := (Kc3).trans K5q (fun x hx => by cases List.mem_singleton.mp hx; exact (Or.inr sz_b2))
        have Zc5 : n0 ≤ T5.heap.size := Nat.le_trans Zc3 (K5q).1
        refine own_gt st5 ?_
        show own_Fin _ _ _ _ T5 (mkF m 76 #[.val (.int x0), .val (.int x1), .val (.int x2), .val (.int z3), .val (.int y4), .val (.ref b1), .val (.ref b2), .val (.int (1 : Int32))] [(.int r5)]) _ _ _
        refine own_go (fun _ => XS.pop X5.here hx rfl (hb hby at_76) rfl rfl) ?_
        show own_Fin _ _ _ _ T5 (mkF m 77 #[.val (.int x0), .val (.int x1), .val (.int x2), .val (.int z3), .val (.int y4), .val (.ref b1), .val (.ref b2), .val (.int (1 : Int32))] []) _ _ _
        refine own_go (fun _ => XS.iload X5.here hx rfl (hb hby at_77) rfl) ?_
        show own_Fin _ _ _ _ T5 (mkF m 79 #[.val (.int x0), .val (.int x1), .val (.int x2), .val (.int z3), .val (.int y4), .val (.ref b1), .val (.ref b2), .val (.int (1 : Int32))] [(.int (1 : Int32))]) _ _ _
        refine own_go (fun _ => XS.ifNo X5.here hx rfl (hb hby at_79) rfl ((if0 _ _).trans (feq (show ¬ ((1 : Int32) = (0 : Int32)) from (by decide))).1)) ?_
        show own_Fin _ _ _ _ T5 (mkF m 82 #[.val (.int x0), .val (.int x1), .val (.int x2), .val (.int z3), .val (.int y4), .val (.ref b1), .val (.ref b2), .val (.int (1 : Int32))] []) _ _ _
        refine own_go (fun _ => XS.aload X5.here hx rfl (hb hby at_82) rfl rfl) ?_
        show own_Fin _ _ _ _ T5 (mkF m 84 #[.val (.int x0), .val (.int x1), .val (.int x2), .val (.int z3), .val (.int y4), .val (.ref b1), .val (.ref b2), .val (.int (1 : Int32))] [(.ref b2)]) _ _ _
        obtain ⟨cq6, kq6, q6a, q6b, q6c⟩ := isOf hZ rfl Ex5
        obtain ⟨_, _, ⟨T6, L6, k6, n6⟩, -, X6, ⟨Lc6, hQ6, l6, y6, z6⟩, st6⟩ := X5.virtualBack hx (y := (⟨"com/example/hosts_to_firehose/hoststofirehose/io/CborReader", "atEnd", "()Z"⟩ : MethodName)) (z := (⟨"com/example/hosts_to_firehose/hoststofirehose/io/CborReader", "atEnd", "()Z"⟩ : MethodName)) hown (mvT hZ (hw _ (List.mem_of_getElem? (i := 15) rfl))) (mvT hZ (hw _ (List.mem_of_getElem? (i := 16) rfl))) (notFace_of_selects (args := #[]) (mvT hZ (hw _ (List.mem_of_getElem? (i := 18) rfl)))) (mvT hZ (hw _ (List.mem_of_getElem? (i := 18) rfl))) (mvT hZ (hw _ (List.mem_of_getElem? (i := 17) rfl))) (by decide) (backOf (W := 0) (rm3 l Z a0 hw [] b2 (y4 + (1 : Int32)) b1 z3 T5.heap n0 Zc5 Fx5_0 Fx5_1 V5_b1 (own_neg hz3.1)) hZ (hw _ (List.mem_of_getElem? (i := 19) rfl)) (hw _ (List.mem_of_getElem? (i := 4) rfl)) (by decide) (by decide)) q6a q6c (g := (mkF m 84 #[.val (.int x0), .val (.int x1), .val (.int x2), .val (.int z3), .val (.int y4), .val (.ref b1), .val (.ref b2), .val (.int (1 : Int32))] [(.ref b2)])) rfl (by rw [hml]; rfl) (Steps.refl _) (argsL := []) (rest := []) (lenOf pd_4 rfl) rfl (by show 2 * 0 + _ ≤ _; exact Nat.le_of_eq rfl) (hb hby at_84) (fun _ _ => ⟨rfl, rfl, (by decide : 2 + 0 ≤ _), (by decide : 11 + 0 ≤ _)⟩)
        dsimp only [Pt.U, Pt.locs, Pt.cells, Pt.slots] at X6 l6 y6 z6 st6 hQ6
        subst l6 y6 z6
        obtain ⟨rfl, N6q, e6⟩ := hQ6
        have N6 := Fr.app N5 N6q
        refine own_gt st6 ?_
        show own_Fin _ _ _ _ T6 (mkF m 87 #[.val (.int x0), .val (.int x1), .val (.int x2), .val (.int z3), .val (.int y4), .val (.ref b1), .val (.ref b2), .val (.int (1 : Int32))] [(.int (own_ae (y4 + (1 : Int32)) z3))]) _ _ _
        refine own_go (fun _ => XS.iload X6.here hx rfl (hb hby at_87) rfl) ?_
        show own_Fin _ _ _ _ T6 (mkF m 89 #[.val (.int x0), .val (.int x1), .val (.int x2), .val (.int z3), .val (.int y4), .val (.ref b1), .val (.ref b2), .val (.int (1 : Int32))] [(.int y4), (.int (own_ae (y4 + (1 : Int32)) z3))]) _ _ _
        refine own_go (fun _ => XS.iconst X6.here hx rfl (hb hby at_89)) ?_
        show own_Fin _ _ _ _ T6 (mkF m 90 #[.val (.int x0), .val (.int x1), .val (.int x2), .val (.int z3), .val (.int y4), .val (.ref b1), .val (.ref b2), .val (.int (1 : Int32))] [(.int (1 : Int32)), (.int y4), (.int (own_ae (y4 + (1 : Int32)) z3))]) _ _ _
        refine own_go (fun _ => XS.iadd X6.here hx rfl (hb hby at_90) rfl) ?_
        show own_Fin _ _ _ _ T6 (mkF m 91 #[.val (.int x0), .val (.int x1), .val (.int x2), .val (.int z3), .val (.int y4), .val (.ref b1), .val (.ref b2), .val (.int (1 : Int32))] [(.int (y4 + (1 : Int32))), (.int (own_ae (y4 + (1 : Int32)) z3))]) _ _ _
        refine own_go (fun _ => XS.iloadN X6.here hx rfl (hb hby at_91) rfl) ?_
        show own_Fin _ _ _ _ T6 (mkF m 92 #[.val (.int x0), .val (.int x1), .val (.int x2), .val (.int z3), .val (.int y4), .val (.ref b1), .val (.ref b2), .val (.int (1 : Int32))] [(.int z3), (.int (y4 + (1 : Int32))), (.int (own_ae (y4 + (1 : Int32)) z3))]) _ _ _
        by_cases h92 : (y4 + (1 : Int32)) = z3
        · refine own_go (fun _ => XS.icmpNo X6.here hx rfl (hb hby at_92) rfl (teq h92).2) ?_
          show own_Fin _ _ _ _ T6 (mkF m 95 #[.val (.int x0), .val (.int x1), .val (.int x2), .val (.int z3), .val (.int y4), .val (.ref b1), .val (.ref b2), .val (.int (1 : Int32))] [(.int (own_ae (y4 + (1 : Int32)) z3))]) _ _ _
          refine own_go (fun _ => XS.iconst X6.here hx rfl (hb hby at_95)) ?_
          show own_Fin _ _ _ _ T6 (mkF m 96 #[.val (.int x0), .val (.int x1), .val (.int x2), .val (.int z3), .val (.int y4), .val (.ref b1), .val (.ref b2), .val (.int (1 : Int32))] [(.int (1 : Int32)), (.int (own_ae (y4 + (1 : Int32)) z3))]) _ _ _
          refine own_go (fun _ => XS.goto X6.here hx rfl (pc0 := 96) (pc' := 100) rfl (hb hby at_96) (by decide) (by decide)) ?_
          show own_Fin _ _ _ _ T6 (mkF m 100 #[.val (.int x0), .val (.int x1), .val (.int x2), .val (.int z3), .val (.int y4), .val (.ref b1), .val (.ref b2), .val (.int (1 : Int32))] [(.int (1 : Int32)), (.int (own_ae (y4 + (1 : Int32)) z3))]) _ _ _
          refine own_go (fun _ => XS.icmpNo X6.here hx rfl (hb hby at_100) rfl (teq (show (own_ae (y4 + (1 : Int32)) z3) = (1 : Int32) from own_ae1 h92)).2) ?_
          show own_Fin _ _ _ _ T6 (mkF m 103 #[.val (.int x0), .val (.int x1), .val (.int x2), .val (.int z3), .val (.int y4), .val (.ref b1), .val (.ref b2), .val (.int (1 : Int32))] []) _ _ _
          refine own_go (fun _ => XS.iconst X6.here hx rfl (hb hby at_103)) ?_
          show own_Fin _ _ _ _ T6 (mkF m 104 #[.val (.int x0), .val (.int x1), .val (.int x2), .val (.int z3), .val (.int y4), .val (.ref b1), .val (.ref b2), .val (.int (1 : Int32))] [(.int (1 : Int32))]) _ _ _
          refine own_go (fun _ => XS.goto X6.here hx rfl (pc0 := 104) (pc' := 108) rfl (hb hby at_104) (by decide) (by decide)) ?_
          show own_Fin _ _ _ _ T6 (mkF m 108 #[.val (.int x0), .val (.int x1), .val (.int x2), .val (.int z3), .val (.int y4), .val (.ref b1), .val (.ref b2), .val (.int (1 : Int32))] [(.int (1 : Int32))]) _ _ _
          refine own_go (fun _ => XS.istore X6.here hx rfl (hb hby at_108) rfl (l' := #[.val (.int x0), .val (.int x1), .val (.int x2), .val (.int z3), .val (.int y4), .val (.ref b1), .val (.ref b2), .val (.int (1 : Int32))]) rfl) ?_
          show own_Fin _ _ _ _ T6 (mkF m 110 #[.val (.int x0), .val (.int x1), .val (.int x2), .val (.int z3), .val (.int y4), .val (.ref b1), .val (.ref b2), .val (.int (1 : Int32))] []) _ _ _
          refine own_go (fun _ => XS.iload X6.here hx rfl (hb hby at_110) rfl) ?_
          show own_Fin _ _ _ _ T6 (mkF m 112 #[.val (.int x0), .val (.int x1), .val (.int x2), .val (.int z3), .val (.int y4), .val (.ref b1), .val (.ref b2), .val (.int (1 : Int32))] [(.int (1 : Int32))]) _ _ _
          exact own_retZ X6 hx hnl (t := .boolean) hret (by simp) (hb hby at_112) (by decide) (by decide) ⟨rfl, N6⟩
        · refine own_go (fun _ => XS.icmpYes X6.here hx rfl (pc0 := 92) (pc' := 99) rfl (hb hby at_92) rfl (feq h92).2 (by decide) (by decide)) ?_
          show own_Fin _ _ _ _ T6 (mkF m 99 #[.val (.int x0), .val (.int x1), .val (.int x2), .val (.int z3), .val (.int y4), .val (.ref b1), .val (.ref b2), .val (.int (1 : Int32))] [(.int (own_ae (y4 + (1 : Int32)) z3))]) _ _ _
          refine own_go (fun _ => XS.iconst X6.here hx rfl (hb hby at_99)) ?_
          show own_Fin _ _ _ _ T6 (mkF m 100 #[.val (.int x0), .val (.int x1), .val (.int x2), .val (.int z3), .val (.int y4), .val (.ref b1), .val (.ref b2), .val (.int (1 : Int32))] [(.int (0 : Int32)), (.int (own_ae (y4 + (1 : Int32)) z3))]) _ _ _
          refine own_go (fun _ => XS.icmpNo X6.here hx rfl (hb hby at_100) rfl (teq (show (own_ae (y4 + (1 : Int32)) z3) = (0 : Int32) from own_ae0 h92)).2) ?_
          show own_Fin _ _ _ _ T6 (mkF m 103 #[.val (.int x0), .val (.int x1), .val (.int x2), .val (.int z3), .val (.int y4), .val (.ref b1), .val (.ref b2), .val (.int (1 : Int32))] []) _ _ _
          refine own_go (fun _ => XS.iconst X6.here hx rfl (hb hby at_103)) ?_
          show own_Fin _ _ _ _ T6 (mkF m 104 #[.val (.int x0), .val (.int x1), .val (.int x2), .val (.int z3), .val (.int y4), .val (.ref b1), .val (.ref b2), .val (.int (1 : Int32))] [(.int (1 : Int32))]) _ _ _
          refine own_go (fun _ => XS.goto X6.here hx rfl (pc0 := 104) (pc' := 108) rfl (hb hby at_104) (by decide) (by decide)) ?_
          show own_Fin _ _ _ _ T6 (mkF m 108 #[.val (.int x0), .val (.int x1), .val (.int x2), .val (.int z3), .val (.int y4), .val (.ref b1), .val (.ref b2), .val (.int (1 : Int32))] [(.int (1 : Int32))]) _ _ _
          refine own_go (fun _ => XS.istore X6.here hx rfl (hb hby at_108) rfl (l' := #[.val (.int x0), .val (.int x1), .val (.int x2), .val (.int z3), .val (.int y4), .val (.ref b1), .val (.ref b2), .val (.int (1 : Int32))]) rfl) ?_
          show own_Fin _ _ _ _ T6 (mkF m 110 #[.val (.int x0), .val (.int x1), .val (.int x2), .val (.int z3), .val (.int y4), .val (.ref b1), .val (.ref b2), .val (.int (1 : Int32))] []) _ _ _
          refine own_go (fun _ => XS.iload X6.here hx rfl (hb hby at_110) rfl) ?_
          show own_Fin _ _ _ _ T6 (mkF m 112 #[.val (.int x0), .val (.int x1), .val (.int x2), .val (.int z3), .val (.int y4), .val (.ref b1), .val (.ref b2), .val (.int (1 : Int32))] [(.int (1 : Int32))]) _ _ _
          exact own_retZ X6 hx hnl (t := .boolean) hret (by simp) (hb hby at_112) (by decide) (by decide) ⟨rfl, N6⟩
    · refine own_go (fun _ => XS.icmpYes X4.here hx rfl (pc0 := 62) (pc' := 110) rfl (hb hby at_62) rfl (flt h62).2.1 (by decide) (by decide)) ?_
      show own_Fin _ _ _ _ T4 (mkF m 110 #[.val (.int x0), .val (.int x1), .val (.int x2), .val (.int z3), .val (.int y4), .val (.ref b1), .val (.ref b2), .val (.int (1 : Int32))] []) _ _ _
      refine own_go (fun _ => XS.iload X4.here hx rfl (hb hby at_110) rfl) ?_
      show own_Fin _ _ _ _ T4 (mkF m 112 #[.val (.int x0), .val (.int x1), .val (.int x2), .val (.int z3), .val (.int y4), .val (.ref b1), .val (.ref b2), .val (.int (1 : Int32))] [(.int (1 : Int32))]) _ _ _
      exact own_retZ X4 hx hnl (t := .boolean) hret (by simp) (hb hby at_112) (by decide) (by decide) ⟨rfl, N4⟩
  · refine own_go (fun _ => XS.icmpYes X4.here hx rfl (pc0 := 41) (pc' := 48) rfl (hb hby at_41) rfl (feq h41).2 (by decide) (by decide)) ?_
    show own_Fin _ _ _ _ T4 (mkF m 48 #[.val (.int x0), .val (.int x1), .val (.int x2), .val (.int z3), .val (.int y4), .val (.ref b1), .val (.ref b2), .unset] [(.int (own_ae y4 z3))]) _ _ _
    refine own_go (fun _ => XS.iconst X4.here hx rfl (hb hby at_48)) ?_
    show own_Fin _ _ _ _ T4 (mkF m 49 #[.val (.int x0), .val (.int x1), .val (.int x2), .val (.int z3), .val (.int y4), .val (.ref b1), .val (.ref b2), .unset] [(.int (0 : Int32)), (.int (own_ae y4 z3))]) _ _ _
    refine own_go (fun _ => XS.icmpNo X4.here hx rfl (hb hby at_49) rfl (teq (show (own_ae y4 z3) = (0 : Int32) from own_ae0 h41)).2) ?_
    show own_Fin _ _ _ _ T4 (mkF m 52 #[.val (.int x0), .val (.int x1), .val (.int x2), .val (.int z3), .val (.int y4), .val (.ref b1), .val (.ref b2), .unset] []) _ _ _
    refine own_go (fun _ => XS.iconst X4.here hx rfl (hb hby at_52)) ?_
    show own_Fin _ _ _ _ T4 (mkF m 53 #[.val (.int x0), .val (.int x1), .val (.int x2), .val (.int z3), .val (.int y4), .val (.ref b1), .val (.ref b2), .unset] [(.int (1 : Int32))]) _ _ _
    refine own_go (fun _ => XS.goto X4.here hx rfl (pc0 := 53) (pc' := 57) rfl (hb hby at_53) (by decide) (by decide)) ?_
    show own_Fin _ _ _ _ T4 (mkF m 57 #[.val (.int x0), .val (.int x1), .val (.int x2), .val (.int z3), .val (.int y4), .val (.ref b1), .val (.ref b2), .unset] [(.int (1 : Int32))]) _ _ _
    refine own_go (fun _ => XS.istore X4.here hx rfl (hb hby at_57) rfl (l' := #[.val (.int x0), .val (.int x1), .val (.int x2), .val (.int z3), .val (.int y4), .val (.ref b1), .val (.ref b2), .val (.int (1 : Int32))]) rfl) ?_
    show own_Fin _ _ _ _ T4 (mkF m 59 #[.val (.int x0), .val (.int x1), .val (.int x2), .val (.int z3), .val (.int y4), .val (.ref b1), .val (.ref b2), .val (.int (1 : Int32))] []) _ _ _
    refine own_go (fun _ => XS.iload X4.here hx rfl (hb hby at_59) rfl) ?_
    show own_Fin _ _ _ _ T4 (mkF m 61 #[.val (.int x0), .val (.int x1), .val (.int x2), .val (.int z3), .val (.int y4), .val (.ref b1), .val (.ref b2), .val (.int (1 : Int32))] [(.int y4)]) _ _ _
    refine own_go (fun _ => XS.iloadN X4.here hx rfl (hb hby at_61) rfl) ?_
    show own_Fin _ _ _ _ T4 (mkF m 62 #[.val (.int x0), .val (.int x1), .val (.int x2), .val (.int z3), .val (.int y4), .val (.ref b1), .val (.ref b2), .val (.int (1 : Int32))] [(.int z3), (.int y4)]) _ _ _
    by_cases h62 : y4 < z3
    · refine own_go (fun _ => XS.icmpNo X4.here hx rfl (hb hby at_62) rfl (tlt h62).2.1) ?_
      show own_Fin _ _ _ _ T4 (mkF m 65 #[.val (.int x0), .val (.int x1), .val (.int x2), .val (.int z3), .val (.int y4), .val (.ref b1), .val (.ref b2), .val (.int (1 : Int32))] []) _ _ _
      refine own_go (fun _ => XS.iloadN X4.here hx rfl (hb hby at_65) rfl) ?_
      show own_Fin _ _ _ _ T4 (mkF m 66 #[.val (.int x0), .val (.int x1), .val (.int x2), .val (.int z3), .val (.int y4), .val (.ref b1), .val (.ref b2), .val (.int (1 : Int32))] [(.int x2)]) _ _ _
      refine own_go (fun _ => XS.iconst X4.here hx rfl (hb hby at_66)) ?_
      show own_Fin _ _ _ _ T4 (mkF m 67 #[.val (.int x0), .val (.int x1), .val (.int x2), .val (.int z3), .val (.int y4), .val (.ref b1), .val (.ref b2), .val (.int (1 : Int32))] [(.int (1 : Int32)), (.int x2)]) _ _ _
      refine own_go (fun _ => XS.iand X4.here hx rfl (hb hby at_67) rfl) ?_
      show own_Fin _ _ _ _ T4 (mkF m 68 #[.val (.int x0), .val (.int x1), .val (.int x2), .val (.int z3), .val (.int y4), .val (.ref b1), .val (.ref b2), .val (.int (1 : Int32))] [(.int (x2 &&& (1 : Int32)))]) _ _ _
      by_cases h68 : (x2 &&& (1 : Int32)) = (0 : Int32)
      · refine own_go (fun _ => XS.ifYes X4.here hx rfl (pc0 := 68) (pc' := 110) rfl (hb hby at_68) rfl ((if0 _ _).trans (teq h68).1) (by decide) (by decide)) ?_
        show own_Fin _ _ _ _ T4 (mkF m 110 #[.val (.int x0), .val (.int x1), .val (.int x2), .val (.int z3), .val (.int y4), .val (.ref b1), .val (.ref b2), .val (.int (1 : Int32))] []) _ _ _
        refine own_go (fun _ => XS.iload X4.here hx rfl (hb hby at_110) rfl) ?_
        show own_Fin _ _ _ _ T4 (mkF m 112 #[.val (.int x0), .val (.int x1), .val (.int x2), .val (.int z3), .val (.int y4), .val (.ref b1), .val (.ref b2), .val (.int (1 : Int32))] [(.int (1 : Int32))]) _ _ _
        exact own_retZ X4 hx hnl (t := .boolean) hret (by simp) (hb hby at_112) (by decide) (by decide) ⟨rfl, N4⟩
      · refine own_go (fun _ => XS.ifNo X4.here hx rfl (hb hby at_68) rfl ((if0 _ _).trans (feq h68).1)) ?_
        show own_Fin _ _ _ _ T4 (mkF m 71 #[.val (.int x0), .val (.int x1), .val (.int x2), .val (.int z3), .val (.int y4), .val (.ref b1), .val (.ref b2), .val (.int (1 : Int32))] []) _ _ _
        refine own_go (fun _ => XS.aload X4.here hx rfl (hb hby at_71) rfl rfl) ?_
        show own_Fin _ _ _ _ T4 (mkF m 73 #[.val (.int x0), .val (.int x1), .val (.int x2), .val (.int z3), .val (.int y4), .val (.ref b1), .val (.ref b2), .val (.int (1 : Int32))] [(.ref b2)]) _ _ _
        obtain ⟨cq7, kq7, q7a, q7b, q7c⟩ := isOf hZ e4 Ex3
        obtain ⟨_, _, ⟨T7, L7, k7, n7⟩, -, X7, ⟨Lc7, hQ7, l7, y7, z7⟩, st7⟩ := X4.virtualBack hx (y := (⟨"com/example/hosts_to_firehose/hoststofirehose/io/CborReader", "readHead", "()I"⟩ : MethodName)) (z := (⟨"com/example/hosts_to_firehose/hoststofirehose/io/CborReader", "readHead", "()I"⟩ : MethodName)) hown (mvT hZ (hw _ (List.mem_of_getElem? (i := 20) rfl))) (mvT hZ (hw _ (List.mem_of_getElem? (i := 21) rfl))) (notFace_of_selects (args := #[]) (mvT hZ (hw _ (List.mem_of_getElem? (i := 23) rfl)))) (mvT hZ (hw _ (List.mem_of_getElem? (i := 23) rfl))) (mvT hZ (hw _ (List.mem_of_getElem? (i := 22) rfl))) (by decide) (backOf (W := 0) (rm4 l Z a0 hw [] b2 y4 b1 z3 (.long (0 : Int64)) (.int (0 : Int32)) T3.heap n0 Zc3 Fx3_0 Fx3_1 V3_b1 (own_neg hz3.1) Ex3 g_b2 Fx3_2 Fx3_3 ne_b1_b2 (own_neg hy4.1) h62) hZ (hw _ (List.mem_of_getElem? (i := 24) rfl)) (hw _ (List.mem_of_getElem? (i := 4) rfl)) (by decide) (by decide)) q7a q7c (g := (mkF m 73 #[.val (.int x0), .val (.int x1), .val (.int x2), .val (.int z3), .val (.int y4), .val (.ref b1), .val (.ref b2), .val (.int (1 : Int32))] [(.ref b2)])) rfl (by rw [hml]; rfl) (Steps.refl _) (argsL := []) (rest := []) (lenOf pd_1 rfl) rfl (by show 2 * 0 + _ ≤ _; exact Nat.le_of_eq rfl) (hb hby at_73) (fun _ _ => ⟨rfl, e4, (by decide : 2 + 0 ≤ _), (by decide : 11 + 0 ≤ _)⟩)
        dsimp only [Pt.U, Pt.locs, Pt.cells, Pt.slots] at X7 l7 y7 z7 st7 hQ7
        subst l7 y7 z7
        obtain ⟨r7, rfl, N7q, K7q, Ex7, Fx7_0, Fx7_1⟩ := hQ7
        have N7 := Fr.app N4 N7q
        have E7_b2 := (Ex3).keep K7q
        have V7_b1 := (V3_b1).keep K7q (by simp [ne_b1_b2])
        have Kc7 : Keep h0 T7.heap [] := (Kc3).trans K7q (fun x hx => by cases List.mem_singleton.mp hx; exact (Or.inr sz_b2))
        have Zc7 : n0 ≤ T7.heap.size := Nat.le_trans Zc3 (K7q).1
        refine own_gt st7 ?_
        show own_Fin _ _ _ _ T7 (mkF m 76 #[.val (.int x0), .val (.int x1), .val (.int x2), .val (.int z3), .val (.int y4), .val (.ref b1), .val (.ref b2), .val (.int (1 : Int32))] [(.int r7)]) _ _ _
        refine own_go (fun _ => XS.pop X7.here hx rfl (hb hby at_76) rfl rfl) ?_
        show own_Fin _ _ _ _ T7 (mkF m 77 #[.val (.int x0), .val (.int x1), .val (.int x2), .val (.int z3), .val (.int y4), .val (.ref b1), .val (.ref b2), .val (.int (1 : Int32))] []) _ _ _
        refine own_go (fun _ => XS.iload X7.here hx rfl (hb hby at_77) rfl) ?_
        show own_Fin _ _ _ _ T7 (mkF m 79 #[.val (.int x0), .val (.int x1), .val (.int x2), .val (.int z3), .val (.int y4), .val (.ref b1), .val (.ref b2), .val (.int (1 : Int32))] [(.int (1 : Int32))]) _ _ _
        refine own_go (fun _ => XS.ifNo X7.here hx rfl (hb hby at_79) rfl ((if0 _ _).trans (feq (show ¬ ((1 : Int32) = (0 : Int32)) from (by decide))).1)) ?_
        show own_Fin _ _ _ _ T7 (mkF m 82 #[.val (.int x0), .val (.int x1), .val (.int x2), .val (.int z3), .val (.int y4), .val (.ref b1), .val (.ref b2), .val (.int (1 : Int32))] []) _ _ _
        refine own_go (fun _ => XS.aload X7.here hx rfl (hb hby at_82) rfl rfl) ?_
        show own_Fin _ _ _ _ T7 (mkF m 84 #[.val (.int x0), .val (.int x1), .val (.int x2), .val (.int z3), .val (.int y4), .val (.ref b1), .val (.ref b2), .val (.int (1 : Int32))] [(.ref b2)]) _ _ _
        obtain ⟨cq8, kq8, q8a, q8b, q8c⟩ := isOf hZ rfl Ex7
        obtain ⟨_, _, ⟨T8, L8, k8, n8⟩, -, X8, ⟨Lc8, hQ8, l8, y8, z8⟩, st8⟩ := X7.virtualBack hx (y := (⟨"com/example/hosts_to_firehose/hoststofirehose/io/CborReader", "atEnd", "()Z"⟩ : MethodName)) (z := (⟨"com/example/hosts_to_firehose/hoststofirehose/io/CborReader", "atEnd", "()Z"⟩ : MethodName)) hown (mvT hZ (hw _ (List.mem_of_getElem? (i := 15) rfl))) (mvT hZ (hw _ (List.mem_of_getElem? (i := 16) rfl))) (notFace_of_selects (args := #[]) (mvT hZ (hw _ (List.mem_of_getElem? (i := 18) rfl)))) (mvT hZ (hw _ (List.mem_of_getElem? (i := 18) rfl))) (mvT hZ (hw _ (List.mem_of_getElem? (i := 17) rfl))) (by decide) (backOf (W := 0) (rm3 l Z a0 hw [] b2 (y4 + (1 : Int32)) b1 z3 T7.heap n0 Zc7 Fx7_0 Fx7_1 V7_b1 (own_neg hz3.1)) hZ (hw _ (List.mem_of_getElem? (i := 19) rfl)) (hw _ (List.mem_of_getElem? (i := 4) rfl)) (by decide) (by decide)) q8a q8c (g := (mkF m 84 #[.val (.int x0), .val (.int x1), .val (.int x2), .val (.int z3), .val (.int y4), .val (.ref b1), .val (.ref b2), .val (.int (1 : Int32))] [(.ref b2)])) rfl (by rw [hml]; rfl) (Steps.refl _) (argsL := []) (rest := []) (lenOf pd_4 rfl) rfl (by show 2 * 0 + _ ≤ _; exact Nat.le_of_eq rfl) (hb hby at_84) (fun _ _ => ⟨rfl, rfl, (by decide : 2 + 0 ≤ _), (by decide : 11 + 0 ≤ _)⟩)
        dsimp only [Pt.U, Pt.locs, Pt.cells, Pt.slots] at X8 l8 y8 z8 st8 hQ8
        subst l8 y8 z8
        obtain ⟨rfl, N8q, e8⟩ := hQ8
        have N8 := Fr.app N7 N8q
        refine own_gt st8 ?_
        show own_Fin _ _ _ _ T8 (mkF m 87 #[.val (.int x0), .val (.int x1), .val (.int x2), .val (.int z3), .val (.int y4), .val (.ref b1), .val (.ref b2), .val (.int (1 : Int32))] [(.int (own_ae (y4 + (1 : Int32)) z3))]) _ _ _
        refine own_go (fun _ => XS.iload X8.here hx rfl (hb hby at_87) rfl) ?_
        show own_Fin _ _ _ _ T8 (mkF m 89 #[.val (.int x0), .val (.int x1), .val (.int x2), .val (.int z3), .val (.int y4), .val (.ref b1), .val (.ref b2), .val (.int (1 : Int32))] [(.int y4), (.int (own_ae (y4 + (1 : Int32)) z3))]) _ _ _
        refine own_go (fun _ => XS.iconst X8.here hx rfl (hb hby at_89)) ?_
        show own_Fin _ _ _ _ T8 (mkF m 90 #[.val (.int x0), .val (.int x1), .val (.int x2), .val (.int z3), .val (.int y4), .val (.ref b1), .val (.ref b2), .val (.int (1 : Int32))] [(.int (1 : Int32)), (.int y4), (.int (own_ae (y4 + (1 : Int32)) z3))]) _ _ _
        refine own_go (fun _ => XS.iadd X8.here hx rfl (hb hby at_90) rfl) ?_
        show own_Fin _ _ _ _ T8 (mkF m 91 #[.val (.int x0), .val (.int x1), .val (.int x2), .val (.int z3), .val (.int y4), .val (.ref b1), .val (.ref b2), .val (.int (1 : Int32))] [(.int (y4 + (1 : Int32))), (.int (own_ae (y4 + (1 : Int32)) z3))]) _ _ _
        refine own_go (fun _ => XS.iloadN X8.here hx rfl (hb hby at_91) rfl) ?_
        show own_Fin _ _ _ _ T8 (mkF m 92 #[.val (.int x0), .val (.int x1), .val (.int x2), .val (.int z3), .val (.int y4), .val (.ref b1), .val (.ref b2), .val (.int (1 : Int32))] [(.int z3), (.int (y4 + (1 : Int32))), (.int (own_ae (y4 + (1 : Int32)) z3))]) _ _ _
        by_cases h92 : (y4 + (1 : Int32)) = z3
        · refine own_go (fun _ => XS.icmpNo X8.here hx rfl (hb hby at_92) rfl (teq h92).2) ?_
          show own_Fin _ _ _ _ T8 (mkF m 95 #[.val (.int x0), .val (.int x1), .val (.int x2), .val (.int z3), .val (.int y4), .val (.ref b1), .val (.ref b2), .val (.int (1 : Int32))] [(.int (own_ae (y4 + (1 : Int32)) z3))]) _ _ _
          refine own_go (fun _ => XS.iconst X8.here hx rfl (hb hby at_95)) ?_
          show own_Fin _ _ _ _ T8 (mkF m 96 #[.val (.int x0), .val (.int x1), .val (.int x2), .val (.int z3), .val (.int y4), .val (.ref b1), .val (.ref b2), .val (.int (1 : Int32))] [(.int (1 : Int32)), (.int (own_ae (y4 + (1 : Int32)) z3))]) _ _ _
          refine own_go (fun _ => XS.goto X8.here hx rfl (pc0 := 96) (pc' := 100) rfl (hb hby at_96) (by decide) (by decide)) ?_
          show own_Fin _ _ _ _ T8 (mkF m 100 #[.val (.int x0), .val (.int x1), .val (.int x2), .val (.int z3), .val (.int y4), .val (.ref b1), .val (.ref b2), .val (.int (1 : Int32))] [(.int (1 : Int32)), (.int (own_ae (y4 + (1 : Int32)) z3))]) _ _ _
          refine own_go (fun _ => XS.icmpNo X8.here hx rfl (hb hby at_100) rfl (teq (show (own_ae (y4 + (1 : Int32)) z3) = (1 : Int32) from own_ae1 h92)).2) ?_
          show own_Fin _ _ _ _ T8 (mkF m 103 #[.val (.int x0), .val (.int x1), .val (.int x2), .val (.int z3), .val (.int y4), .val (.ref b1), .val (.ref b2), .val (.int (1 : Int32))] []) _ _ _
          refine own_go (fun _ => XS.iconst X8.here hx rfl (hb hby at_103)) ?_
          show own_Fin _ _ _ _ T8 (mkF m 104 #[.val (.int x0), .val (.int x1), .val (.int x2), .val (.int z3), .val (.int y4), .val (.ref b1), .val (.ref b2), .val (.int (1 : Int32))] [(.int (1 : Int32))]) _ _ _
          refine own_go (fun _ => XS.goto X8.here hx rfl (pc0 := 104) (pc' := 108) rfl (hb hby at_104) (by decide) (by decide)) ?_
          show own_Fin _ _ _ _ T8 (mkF m 108 #[.val (.int x0), .val (.int x1), .val (.int x2), .val (.int z3), .val (.int y4), .val (.ref b1), .val (.ref b2), .val (.int (1 : Int32))] [(.int (1 : Int32))]) _ _ _
          refine own_go (fun _ => XS.istore X8.here hx rfl (hb hby at_108) rfl (l' := #[.val (.int x0), .val (.int x1), .val (.int x2), .val (.int z3), .val (.int y4), .val (.ref b1), .val (.ref b2), .val (.int (1 : Int32))]) rfl) ?_
          show own_Fin _ _ _ _ T8 (mkF m 110 #[.val (.int x0), .val (.int x1), .val (.int x2), .val (.int z3), .val (.int y4), .val (.ref b1), .val (.ref b2), .val (.int (1 : Int32))] []) _ _ _
          refine own_go (fun _ => XS.iload X8.here hx rfl (hb hby at_110) rfl) ?_
          show own_Fin _ _ _ _ T8 (mkF m 112 #[.val (.int x0), .val (.int x1), .val (.int x2), .val (.int z3), .val (.int y4), .val (.ref b1), .val (.ref b2), .val (.int (1 : Int32))] [(.int (1 : Int32))]) _ _ _
          exact own_retZ X8 hx hnl (t := .boolean) hret (by simp) (hb hby at_112) (by decide) (by decide) ⟨rfl, N8⟩
        · refine own_go (fun _ => XS.icmpYes X8.here hx rfl (pc0 := 92) (pc' := 99) rfl (hb hby at_92) rfl (feq h92).2 (by decide) (by decide)) ?_
          show own_Fin _ _ _ _ T8 (mkF m 99 #[.val (.int x0), .val (.int x1), .val (.int x2), .val (.int z3), .val (.int y4), .val (.ref b1), .val (.ref b2), .val (.int (1 : Int32))] [(.int (own_ae (y4 + (1 : Int32)) z3))]) _ _ _
          refine own_go (fun _ => XS.iconst X8.here hx rfl (hb hby at_99)) ?_
          show own_Fin _ _ _ _ T8 (mkF m 100 #[.val (.int x0), .val (.int x1), .val (.int x2), .val (.int z3), .val (.int y4), .val (.ref b1), .val (.ref b2), .val (.int (1 : Int32))] [(.int (0 : Int32)), (.int (own_ae (y4 + (1 : Int32)) z3))]) _ _ _
          refine own_go (fun _ => XS.icmpNo X8.here hx rfl (hb hby at_100) rfl (teq (show (own_ae (y4 + (1 : Int32)) z3) = (0 : Int32) from own_ae0 h92)).2) ?_
          show own_Fin _ _ _ _ T8 (mkF m 103 #[.val (.int x0), .val (.int x1), .val (.int x2), .val (.int z3), .val (.int y4), .val (.ref b1), .val (.ref b2), .val (.int (1 : Int32))] []) _ _ _
          refine own_go (fun _ => XS.iconst X8.here hx rfl (hb hby at_103)) ?_
          show own_Fin _ _ _ _ T8 (mkF m 104 #[.val (.int x0), .val (.int x1), .val (.int x2), .val (.int z3), .val (.int y4), .val (.ref b1), .val (.ref b2), .val (.int (1 : Int32))] [(.int (1 : Int32))]) _ _ _
          refine own_go (fun _ => XS.goto X8.here hx rfl (pc0 := 104) (pc' := 108) rfl (hb hby at_104) (by decide) (by decide)) ?_
          show own_Fin _ _ _ _ T8 (mkF m 108 #[.val (.int x0), .val (.int x1), .val (.int x2), .val (.int z3), .val (.int y4), .val (.ref b1), .val (.ref b2), .val (.int (1 : Int32))] [(.int (1 : Int32))]) _ _ _
          refine own_go (fun _ => XS.istore X8.here hx rfl (hb hby at_108) rfl (l' := #[.val (.int x0), .val (.int x1), .val (.int x2), .val (.int z3), .val (.int y4), .val (.ref b1), .val (.ref b2), .val (.int (1 : Int32))]) rfl) ?_
          show own_Fin _ _ _ _ T8 (mkF m 110 #[.val (.int x0), .val (.int x1), .val (.int x2), .val (.int z3), .val (.int y4), .val (.ref b1), .val (.ref b2), .val (.int (1 : Int32))] []) _ _ _
          refine own_go (fun _ => XS.iload X8.here hx rfl (hb hby at_110) rfl) ?_
          show own_Fin _ _ _ _ T8 (mkF m 112 #[.val (.int x0), .val (.int x1), .val (.int x2), .val (.int z3), .val (.int y4), .val (.ref b1), .val (.ref b2), .val (.int (1 : Int32))] [(.int (1 : Int32))]) _ _ _
          exact own_retZ X8 hx hnl (t := .boolean) hret (by simp) (hb hby at_112) (by decide) (by decide) ⟨rfl, N8⟩
    · refine own_go (fun _ => XS.icmpYes X4.here hx rfl (pc0 := 62) (pc' := 110) rfl (hb hby at_62) rfl (flt h62).2.1 (by decide) (by decide)) ?_
      show own_Fin _ _ _ _ T4 (mkF m 110 #[.val (.int x0), .val (.int x1), .val (.int x2), .val (.int z3), .val (.int y4), .val (.ref b1), .val (.ref b2), .val (.int (1 : Int32))] []) _ _ _
      refine own_go (fun _ => XS.iload X4.here hx rfl (hb hby at_110) rfl) ?_
      show own_Fin _ _ _ _ T4 (mkF m 112 #[.val (.int x0), .val (.int x1), .val (.int x2), .val (.int z3), .val (.int y4), .val (.ref b1), .val (.ref b2), .val (.int (1 : Int32))] [(.int (1 : Int32))]) _ _ _
      exact own_retZ X4 hx hnl (t := .boolean) hret (by simp) (hb hby at_112) (by decide) (by decide) ⟨rfl, N4⟩

set_option maxRecDepth 65536 in
set_option maxHeartbeats 40000000 in
theorem comes_1 {Post : Tables → Env → Array Value → State → Outcome → State → Prop} (hpost : ∀ tb e args s v u, (limb_1_1.after args s (.returned v) u = true ∧ limb_1_2.after args s (.returned v) u = true) → FrameEnd s (.returned v) u (Jvm.fieldLocs frame_1_writes args s ++ Jvm.arrayLocs frame_1_arrays args s ++ Jvm.staticLocs frame_1_statics s) 16 128 → Post tb e args s (.returned v) u) :
    ArmFor flags0 classFile x code maxLocals ret World_1 tables_1 room_1 Calls_1 rest_1 Pre_1 Post := by
  intro l hfl _ _ p e ha hc hk s m args below hf hA hF happ hP
  obtain ⟨hcalls, hrest, hpre⟩ := hP
  obtain ⟨-, -, -, hnamed, -, -, -, hat⟩ := (Spec.applies_iff hf).mp happ
  obtain ⟨hg, hn⟩ := and_e (Cond.before_iff.mp (show (Jvm.Cond.and given_1 narrow_1).before args s = true from hpre))
  obtain ⟨gg1, gg2⟩ := and_e hg
  obtain ⟨gg3, gg4⟩ := and_e gg2
  obtain ⟨gg5, gg6⟩ := and_e gg4
  obtain ⟨w0, w1, w2, rfl⟩ : ∃ w0 w1 w2 : Value, args = #[w0, w1, w2] := by
    have hs : args.size = 3 := by simpa [Cond.value, given_1] using gg1
    obtain ⟨L⟩ := args
    match L, hs with
    | [w0, w1, w2], _ => exact ⟨w0, w1, w2, rfl⟩
  have hw := fun d (hd : d ∈ tables_1) => atoms_spec (ws := Jvm.Cond.code x code maxLocals ret :: tables_1) hat d (List.mem_cons_of_mem _ hd)
  obtain ⟨i0, ei0⟩ := is_v gg3
  obtain rfl : w0 = (.int i0) := Option.some.inj ei0
  obtain ⟨i1, ei1⟩ := is_v gg5
  obtain rfl : w1 = (.int i1) := Option.some.inj ei1
  obtain ⟨i2, ei2⟩ := is_v gg6
  obtain rfl : w2 = (.int i2) := Option.some.inj ei2
  obtain ⟨n, o, h1, h2, h3, _, L, rfl, ⟨rfl, N⟩, hq⟩ := rm0 l s _ hw tables_1 i0 i1 i2 s.heap s.heap.size (Nat.le_refl _) p e ha hc hk s m _ below hf ((Spec.applies_iff_loose hf).mp happ).1 ⟨rfl, State.Warmed39.refl s, rfl⟩ trivial
  refine ⟨n, _, h1, h2, h3, hpost _ _ _ _ _ _ ⟨Cond.after_iff.mpr rfl, Cond.after_iff.mpr (eq_i res_at (Term.int_eval (1)) rfl)⟩ ⟨hq.1, hq.2.1, (hq.2.2.sift fun y hy => Or.inr (N y hy)).mono (by decide) (by decide)⟩⟩
theorem main_1_1 : Claimed_1_1 := comes_1 fun _ _ _ _ _ _ h hF => ⟨h.1, hF⟩
theorem main_1_2 : Claimed_1_2 := comes_1 fun _ _ _ _ _ _ h hF => ⟨h.2, hF⟩
end Jvm.Pilot.@@N@@
namespace Jvm.Pilot.@@N@@
open Jvm Jvm.ClassFile Sem Op Lib Jvm.Free Jvm.Stand Jvm.Pilot.@@N@@.Jvm.D
/-! MADE BY PROGRAM (witnessworld.py) out of the Statement's table words and the real class files: 15 classes; the members and pool entries that the words name. The judged class is class 1, her method 1. -/
namespace start1
open Jvm.ClassFile
def u (s : String) : CpInfo := .utf8 (stringToUtf16 s)
/-- a pool by its gaps: so many unusable entries, then the entry; so many at the end -/
def gap : Nat → List CpInfo → List CpInfo
  | 0, r => r
  | n + 1, r => .unusable :: gap n r
def poolList (es : List (Nat × CpInfo)) (last : Nat) : List CpInfo := es.foldr (fun e r => gap e.1 (e.2 :: r)) (gap last [])
def pool (es : List (Nat × CpInfo)) (last : Nat) : Array CpInfo := ⟨poolList es last⟩
def fileOf (pool : Array CpInfo) (this : Nat) (attrs : Array Attribute := #[]) (ms : Array MethodInfo := #[]) (fl : Nat := 33) (sup : Nat := 0) (ifs : Array Nat := #[]) (fds : Array FieldInfo := #[]) : ClassFile where
  minorVersion := 0
  majorVersion := 65
  constantPool := pool
  accessFlags := fl
  thisClass := this
  superClass := sup
  interfaces := ifs
  fields := fds
  methods := ms
  attributes := attrs
def plain (name : String) (sup : Option ClassId) : Class where
  name := name
  kind := .ordinary
  loader := none
  accessFlags := 33
  super := sup
  interfaces := #[]
  cf := none
  fields := #[]
  methods := #[]
  instanceTypes := #[]
  staticTypes := #[]
  resolved := #[]
  callSites := []
  init := .initialized
  statics := none
  mirror := none

def pool0 : Array CpInfo := pool [(5, u "<init>"), (0, u "()V"), (1, .class_ 10), (1, u "java/lang/Object")] 113

def k0c0 : Code := { maxStack := 0, maxLocals := 1, code := object_method_1_code, exceptionTable := #[], attributes := #[] }
def k0m0 : Method := { name := "<init>", desc := "()V", sig := { parameters := [], returnType := none }, accessFlags := 1, code := some k0c0 }
/-- java/lang/Object -/
def k0 : Class := { plain "java/lang/Object" none with
  accessFlags := 33
  interfaces := #[]
  cf := some (fileOf pool0 8 #[] #[{ accessFlags := 1, nameIndex := 5, descriptorIndex := 6, attributes := #[] }] 33 0 #[] #[])
  fields := #[]
  methods := #[k0m0]
  instanceTypes := #[]
  staticTypes := #[]
  resolved := Array.replicate 124 none
  statics := none }

def pool1 : Array CpInfo := pool [(2, .class_ 4), (1, u "java/lang/Object"), (0, u "<init>"), (0, u "()V"), (0, .integer 2147483647), (0, .class_ 9), (0, u "com/example/hosts_to_firehose/hoststofirehose/io/CborReader"), (0, .methodref 8 11), (0, .nameAndType 5 12), (0, u "([BI)V"), (0, .methodref 8 14), (0, .nameAndType 15 16), (0, u "atEnd"), (0, u "()Z"), (0, .methodref 8 18), (0, .nameAndType 19 20), (0, u "readHead"), (0, u "()I"), (0, .class_ 22), (0, u "com/example/hosts_to_firehose/hoststofirehose/io/CborReaderAtEndPinLaw"), (2, u "law"), (0, u "(III)Z")] 5

def k1m0 : Method := { name := "<init>", desc := "()V", sig := { parameters := [], returnType := none }, accessFlags := 2, code := none }
def k1c1 : Code := { maxStack := 4, maxLocals := 8, code := code, exceptionTable := #[], attributes := #[] }
def k1m1 : Method := { name := "law", desc := "(III)Z", sig := { parameters := [.int, .int, .int], returnType := some .boolean }, accessFlags := 9, code := some k1c1 }
/-- com/example/hosts_to_firehose/hoststofirehose/io/CborReaderAtEndPinLaw -/
def k1 : Class := { plain "com/example/hosts_to_firehose/hoststofirehose/io/CborReaderAtEndPinLaw" (some 0) with
  accessFlags := 49
  interfaces := #[]
  cf := some (fileOf pool1 21 #[] #[{ accessFlags := 2, nameIndex := 5, descriptorIndex := 6, attributes := #[] }, { accessFlags := 9, nameIndex := 25, descriptorIndex := 26, attributes := #[] }] 49 2 #[] #[])
  fields := #[]
  methods := #[k1m0, k1m1]
  instanceTypes := #[]
  staticTypes := #[]
  resolved := Array.replicate 32 none
  statics := none }

def pool2 : Array CpInfo := pool [(2, .class_ 4), (1, u "com/example/hosts_to_firehose/hoststofirehose/io/CborReader"), (0, u "<init>"), (0, u "([BI)V"), (0, .methodref 8 9), (0, .class_ 10), (0, .nameAndType 5 11), (0, u "java/lang/Object"), (0, u "()V"), (5, .fieldref 2 18), (0, .nameAndType 19 20), (0, u "bytes"), (0, u "[B"), (0, .fieldref 2 22), (0, .nameAndType 23 24), (0, u "position"), (0, u "I"), (0, .methodref 2 26), (0, .nameAndType 27 28), (0, u "nextByte"), (0, u "()I"), (9, .class_ 39), (0, u "com/example/hosts_to_firehose/hoststofirehose/io/Cbor"), (0, .fieldref 2 41), (0, .nameAndType 42 43), (0, u "argument"), (0, u "J"), (2, .methodref 38 47), (0, .nameAndType 48 49), (0, u "shortestArgumentBytes"), (0, u "(J)I"), (0, .fieldref 2 51), (0, .nameAndType 52 53), (0, u "headShortest"), (0, u "Z"), (12, u "readHead"), (8, u "FIRST_UNSUPPORTED_INFO"), (7, u "atEnd"), (0, u "()Z")] 26

def k2c0 : Code := { maxStack := 3, maxLocals := 3, code := prog_6_method_2_code, exceptionTable := #[], attributes := #[] }
def k2m0 : Method := { name := "<init>", desc := "([BI)V", sig := { parameters := [(.array .byte), .int], returnType := none }, accessFlags := 1, code := some k2c0 }
def k2c1 : Code := { maxStack := 2, maxLocals := 1, code := prog_6_method_4_code, exceptionTable := #[], attributes := #[] }
def k2m1 : Method := { name := "atEnd", desc := "()Z", sig := { parameters := [], returnType := some .boolean }, accessFlags := 1, code := some k2c1 }
def k2c2 : Code := { maxStack := 4, maxLocals := 8, code := prog_6_method_5_code, exceptionTable := #[], attributes := #[] }
def k2m2 : Method := { name := "readHead", desc := "()I", sig := { parameters := [], returnType := some .int }, accessFlags := 1, code := some k2c2 }
def k2c3 : Code := { maxStack := 5, maxLocals := 1, code := prog_6_method_12_code, exceptionTable := #[], attributes := #[] }
def k2m3 : Method := { name := "nextByte", desc := "()I", sig := { parameters := [], returnType := some .int }, accessFlags := 2, code := some k2c3 }
/-- com/example/hosts_to_firehose/hoststofirehose/io/CborReader -/
def k2 : Class := { plain "com/example/hosts_to_firehose/hoststofirehose/io/CborReader" (some 0) with
  accessFlags := 49
  interfaces := #[]
  cf := some (fileOf pool2 2 #[] #[{ accessFlags := 1, nameIndex := 5, descriptorIndex := 6, attributes := #[] }, { accessFlags := 1, nameIndex := 83, descriptorIndex := 84, attributes := #[] }, { accessFlags := 1, nameIndex := 66, descriptorIndex := 28, attributes := #[] }, { accessFlags := 2, nameIndex := 27, descriptorIndex := 28, attributes := #[] }] 49 8 #[] #[{ accessFlags := 26, nameIndex := 75, descriptorIndex := 24, attributes := #[] }, { accessFlags := 18, nameIndex := 19, descriptorIndex := 20, attributes := #[] }, { accessFlags := 2, nameIndex := 23, descriptorIndex := 24, attributes := #[] }, { accessFlags := 2, nameIndex := 42, descriptorIndex := 43, attributes := #[] }, { accessFlags := 2, nameIndex := 52, descriptorIndex := 53, attributes := #[] }])
  fields := #[{ name := "FIRST_UNSUPPORTED_INFO", type := .int, accessFlags := 26, slot := 0, constantValue := 0 }, { name := "bytes", type := (.array .byte), accessFlags := 18, slot := 0, constantValue := 0 }, { name := "position", type := .int, accessFlags := 2, slot := 1, constantValue := 0 }, { name := "argument", type := .long, accessFlags := 2, slot := 2, constantValue := 0 }, { name := "headShortest", type := .boolean, accessFlags := 2, slot := 3, constantValue := 0 }]
  methods := #[k2m0, k2m1, k2m2, k2m3]
  instanceTypes := #[(.array .byte), .int, .long, .boolean]
  staticTypes := #[.int]
  resolved := Array.replicate 111 none
  statics := none }

def pool3 : Array CpInfo := pool [(2, .class_ 4), (1, u "java/lang/Object"), (0, u "<init>"), (0, u "()V"), (1, .class_ 10), (1, u "com/example/hosts_to_firehose/hoststofirehose/io/Cbor"), (0, u "shortestArgumentBytes"), (0, u "(J)I"), (14, .long 24), (1, .methodref 30 31), (0, .class_ 32), (0, .nameAndType 33 34), (0, u "java/lang/Long"), (0, u "compareUnsigned"), (0, u "(JJ)I"), (0, .long 255), (1, .long 65535), (1, .long 4294967295), (1, u "UNSIGNED_INTEGER"), (0, u "I"), (2, u "NEGATIVE_INTEGER"), (1, u "BYTE_STRING"), (1, u "TEXT_STRING"), (1, u "ARRAY"), (1, u "MAP"), (1, u "TAG"), (1, u "SIMPLE_OR_FLOAT"), (1, u "ONE_BYTE_ARGUMENT")] 8

def k3m0 : Method := { name := "<init>", desc := "()V", sig := { parameters := [], returnType := none }, accessFlags := 2, code := none }
def k3c1 : Code := { maxStack := 4, maxLocals := 2, code := prog_5_method_3_code, exceptionTable := #[], attributes := #[] }
def k3m1 : Method := { name := "shortestArgumentBytes", desc := "(J)I", sig := { parameters := [.long], returnType := some .int }, accessFlags := 8, code := some k3c1 }
/-- com/example/hosts_to_firehose/hoststofirehose/io/Cbor -/
def k3 : Class := { plain "com/example/hosts_to_firehose/hoststofirehose/io/Cbor" (some 0) with
  accessFlags := 49
  interfaces := #[]
  cf := some (fileOf pool3 8 #[] #[{ accessFlags := 2, nameIndex := 5, descriptorIndex := 6, attributes := #[] }, { accessFlags := 8, nameIndex := 11, descriptorIndex := 12, attributes := #[] }] 49 2 #[] #[{ accessFlags := 25, nameIndex := 41, descriptorIndex := 42, attributes := #[] }, { accessFlags := 25, nameIndex := 45, descriptorIndex := 42, attributes := #[] }, { accessFlags := 25, nameIndex := 47, descriptorIndex := 42, attributes := #[] }, { accessFlags := 25, nameIndex := 49, descriptorIndex := 42, attributes := #[] }, { accessFlags := 25, nameIndex := 51, descriptorIndex := 42, attributes := #[] }, { accessFlags := 25, nameIndex := 53, descriptorIndex := 42, attributes := #[] }, { accessFlags := 25, nameIndex := 55, descriptorIndex := 42, attributes := #[] }, { accessFlags := 25, nameIndex := 57, descriptorIndex := 42, attributes := #[] }, { accessFlags := 24, nameIndex := 59, descriptorIndex := 42, attributes := #[] }])
  fields := #[{ name := "UNSIGNED_INTEGER", type := .int, accessFlags := 25, slot := 0, constantValue := 0 }, { name := "NEGATIVE_INTEGER", type := .int, accessFlags := 25, slot := 1, constantValue := 0 }, { name := "BYTE_STRING", type := .int, accessFlags := 25, slot := 2, constantValue := 0 }, { name := "TEXT_STRING", type := .int, accessFlags := 25, slot := 3, constantValue := 0 }, { name := "ARRAY", type := .int, accessFlags := 25, slot := 4, constantValue := 0 }, { name := "MAP", type := .int, accessFlags := 25, slot := 5, constantValue := 0 }, { name := "TAG", type := .int, accessFlags := 25, slot := 6, constantValue := 0 }, { name := "SIMPLE_OR_FLOAT", type := .int, accessFlags := 25, slot := 7, constantValue := 0 }, { name := "ONE_BYTE_ARGUMENT", type := .int, accessFlags := 24, slot := 8, constantValue := 0 }]
  methods := #[k3m0, k3m1]
  instanceTypes := #[]
  staticTypes := #[.int, .int, .int, .int, .int, .int, .int, .int, .int]
  resolved := Array.replicate 68 none
  statics := none }

def pool4 : Array CpInfo := pool [(1, .class_ 2), (0, u "java/io/Serializable"), (0, .class_ 4), (0, u "java/lang/Object")] 2

/-- java/io/Serializable -/
def k4 : Class := { plain "java/io/Serializable" (some 0) with
  accessFlags := 1537
  interfaces := #[]
  cf := some (fileOf pool4 1 #[] #[] 1537 3 #[] #[])
  fields := #[]
  methods := #[]
  instanceTypes := #[]
  staticTypes := #[]
  resolved := Array.replicate 7 none
  statics := none }

def pool5 : Array CpInfo := pool [(2, .class_ 4), (1, u "java/lang/Object"), (0, u "<init>"), (0, u "()V"), (1, .class_ 10), (1, u "java/lang/Number"), (2, .class_ 14), (0, u "java/io/Serializable"), (0, u "serialVersionUID"), (0, u "J")] 20

def k5m0 : Method := { name := "<init>", desc := "()V", sig := { parameters := [], returnType := none }, accessFlags := 1, code := none }
/-- java/lang/Number -/
def k5 : Class := { plain "java/lang/Number" (some 0) with
  accessFlags := 1057
  interfaces := #[4]
  cf := some (fileOf pool5 8 #[] #[{ accessFlags := 1, nameIndex := 5, descriptorIndex := 6, attributes := #[] }] 1057 2 #[13] #[{ accessFlags := 26, nameIndex := 15, descriptorIndex := 16, attributes := #[] }])
  fields := #[{ name := "serialVersionUID", type := .long, accessFlags := 26, slot := 0, constantValue := 0 }]
  methods := #[k5m0]
  instanceTypes := #[]
  staticTypes := #[.long]
  resolved := Array.replicate 37 none
  statics := none }

def pool6 : Array CpInfo := pool [(1, .class_ 2), (0, u "java/lang/Comparable"), (0, .class_ 4), (0, u "java/lang/Object")] 7

/-- java/lang/Comparable -/
def k6 : Class := { plain "java/lang/Comparable" (some 0) with
  accessFlags := 1537
  interfaces := #[]
  cf := some (fileOf pool6 1 #[] #[] 1537 3 #[] #[])
  fields := #[]
  methods := #[]
  instanceTypes := #[]
  staticTypes := #[]
  resolved := Array.replicate 12 none
  statics := none }

def pool7 : Array CpInfo := pool [(1, .class_ 2), (0, u "java/lang/constant/Constable"), (0, .class_ 4), (0, u "java/lang/Object")] 6

/-- java/lang/constant/Constable -/
def k7 : Class := { plain "java/lang/constant/Constable" (some 0) with
  accessFlags := 1537
  interfaces := #[]
  cf := some (fileOf pool7 1 #[] #[] 1537 3 #[] #[])
  fields := #[]
  methods := #[]
  instanceTypes := #[]
  staticTypes := #[]
  resolved := Array.replicate 11 none
  statics := none }

def pool8 : Array CpInfo := pool [(1, .class_ 2), (0, u "java/lang/constant/ConstantDesc"), (0, .class_ 4), (0, u "java/lang/Object")] 32

/-- java/lang/constant/ConstantDesc -/
def k8 : Class := { plain "java/lang/constant/ConstantDesc" (some 0) with
  accessFlags := 1537
  interfaces := #[]
  cf := some (fileOf pool8 1 #[] #[] 1537 3 #[] #[])
  fields := #[]
  methods := #[]
  instanceTypes := #[]
  staticTypes := #[]
  resolved := Array.replicate 37 none
  statics := none }

def pool9 : Array CpInfo := pool [(1, .class_ 2), (0, u "java/lang/Long"), (165, .long 9223372036854775808), (66, .class_ 237), (1, u "java/lang/Long$LongCache"), (33, .class_ 272), (0, u "java/lang/Number"), (2, u "value"), (0, u "J"), (25, .methodref 1 303), (0, .nameAndType 304 305), (0, u "compare"), (0, u "(JJ)I"), (55, u "TYPE"), (0, u "Ljava/lang/Class;"), (0, .class_ 364), (0, u "java/lang/Comparable"), (0, .class_ 366), (0, u "java/lang/constant/Constable"), (0, .class_ 368), (0, u "java/lang/constant/ConstantDesc"), (0, u "MIN_VALUE"), (1, u "MAX_VALUE"), (4, u "SIZE"), (0, u "I"), (1, u "BYTES"), (1, u "serialVersionUID"), (87, u "compareUnsigned")] 54

def k9c0 : Code := { maxStack := 4, maxLocals := 4, code := jdk_35_method_42_code, exceptionTable := #[], attributes := #[] }
def k9m0 : Method := { name := "compare", desc := "(JJ)I", sig := { parameters := [.long, .long], returnType := some .int }, accessFlags := 9, code := some k9c0 }
def k9c1 : Code := { maxStack := 6, maxLocals := 4, code := jdk_35_method_43_code, exceptionTable := #[], attributes := #[] }
def k9m1 : Method := { name := "compareUnsigned", desc := "(JJ)I", sig := { parameters := [.long, .long], returnType := some .int }, accessFlags := 9, code := some k9c1 }
/-- java/lang/Long -/
def k9 : Class := { plain "java/lang/Long" (some 5) with
  accessFlags := 49
  interfaces := #[6, 7, 8]
  cf := some (fileOf pool9 1 #[.nestMembers #[235]] #[{ accessFlags := 9, nameIndex := 304, descriptorIndex := 305, attributes := #[] }, { accessFlags := 9, nameIndex := 469, descriptorIndex := 305, attributes := #[] }] 49 271 #[363, 365, 367] #[{ accessFlags := 25, nameIndex := 369, descriptorIndex := 276, attributes := #[] }, { accessFlags := 25, nameIndex := 371, descriptorIndex := 276, attributes := #[] }, { accessFlags := 25, nameIndex := 361, descriptorIndex := 362, attributes := #[] }, { accessFlags := 18, nameIndex := 275, descriptorIndex := 276, attributes := #[] }, { accessFlags := 25, nameIndex := 376, descriptorIndex := 377, attributes := #[] }, { accessFlags := 25, nameIndex := 379, descriptorIndex := 377, attributes := #[] }, { accessFlags := 26, nameIndex := 381, descriptorIndex := 276, attributes := #[] }])
  fields := #[{ name := "MIN_VALUE", type := .long, accessFlags := 25, slot := 0, constantValue := 0 }, { name := "MAX_VALUE", type := .long, accessFlags := 25, slot := 1, constantValue := 0 }, { name := "TYPE", type := (.object "java/lang/Class"), accessFlags := 25, slot := 2, constantValue := 0 }, { name := "value", type := .long, accessFlags := 18, slot := 0, constantValue := 0 }, { name := "SIZE", type := .int, accessFlags := 25, slot := 3, constantValue := 0 }, { name := "BYTES", type := .int, accessFlags := 25, slot := 4, constantValue := 0 }, { name := "serialVersionUID", type := .long, accessFlags := 26, slot := 5, constantValue := 0 }]
  methods := #[k9m0, k9m1]
  instanceTypes := #[.long]
  staticTypes := #[.long, .long, (.object "java/lang/Class"), .int, .int, .long]
  resolved := Array.replicate 524 none
  statics := none }

def pool10 : Array CpInfo := pool [(1, u "java/lang/Cloneable"), (0, .class_ 1), (0, u "java/lang/Object"), (0, .class_ 3)] 3

/-- java/lang/Cloneable -/
def k10 : Class := { plain "java/lang/Cloneable" (some 0) with
  accessFlags := 1537
  interfaces := #[]
  cf := some (fileOf pool10 2 #[] #[] 1537 4 #[] #[])
  fields := #[]
  methods := #[]
  instanceTypes := #[]
  staticTypes := #[]
  resolved := Array.replicate 8 none
  statics := none }

/-- the primitive byte -/
def k11 : Class := { plain "byte" none with kind := .primitive 'B', accessFlags := 0x411 }
/-- [B -/
def k12 : Class := { plain "[B" (some 0) with kind := .array 11 .byte, interfaces := #[10, 4], accessFlags := 1041 }

/-- the primitive int -/
def k13 : Class := { plain "int" none with kind := .primitive 'I', accessFlags := 0x411 }
/-- [I -/
def k14 : Class := { plain "[I" (some 0) with kind := .array 13 .int, interfaces := #[10, 4], accessFlags := 1041 }

def heap : Heap := #[]
def classes : Array Class := #[k0, k1, k2, k3, k4, k5, k6, k7, k8, k9, k10, k11, k12, k13, k14]
def interned : List (Array UInt16 × Addr) := []
def slotsUsed : Nat := 0
def theMethod : MethodId := ⟨1, 1⟩
def args0 : Array Value := #[.int 5, .int 7, .int 1]
def aboutOver (below : List Frame) : State where
  vm := { classes := classes, interned := interned.toArray }
  heap := heap
  slotsUsed := slotsUsed
  threads := #[{ frames := .invoking theMethod args0 :: below }]
def below0 : List Frame := [.native { method := ⟨0, 0⟩, args := #[] }]
def about1 : State := aboutOver below0
def p0 : Program := .bare "" "" ""
def e0 : Env := launch0.env 0 0 0
theorem w_frames : about1.frames = Frame.invoking theMethod args0 :: below0 := rfl
set_option maxRecDepth 65536 in
theorem w_args : argsFit about1.vm theMethod args0 = true := by decide +kernel
set_option maxRecDepth 65536 in
theorem w_heap : heapFits about1 = true := by decide +kernel
set_option maxRecDepth 65536 in
theorem w_runnable : about1.curStatus? = some .runnable := by decide +kernel
set_option maxRecDepth 65536 in
theorem w_alone : about1.alone = true := by decide +kernel
set_option maxRecDepth 65536 in
theorem w_named : about1.methodNamed? x = some theMethod := by decide +kernel
set_option maxRecDepth 65536 in
theorem w_hears : about1.hears theMethod below0 = true := by decide +kernel
set_option maxRecDepth 65536 in
theorem w_ripe : about1.ripe theMethod args0 below0 = true := by decide +kernel
theorem w_running : about1.status = .running := rfl
set_option maxRecDepth 65536 in
theorem w_room : about1.hasRoom e0.platform room_1 = true :=
  launch0.hasRoom_least _ room_1 (by decide +kernel) (by decide +kernel) (by decide +kernel) (by decide +kernel) (by decide +kernel) (by decide +kernel)
theorem allAtoms_all (ts : List Jvm.Cond) (a : Array Jvm.Value) (st : Jvm.State) : (allAtoms ts).before a st = ts.all (fun c => c.before a st) := by
  induction ts with
  | nil => rfl
  | cons c t ih =>
    show (Jvm.Cond.and c (allAtoms t)).before a st = _
    rw [Jvm.Cond.before_and, ih, List.all_cons]
def words1 : List Jvm.Cond := Jvm.Cond.code x code maxLocals ret :: tables_1
/-- a 'code' word, met by the world's own term for the bytes: nothing is compared byte by byte -/
theorem code_word {y : MethodName} {bytes : ByteArray} {mx : Nat} {rt : Option FieldType} {a : Array Value} {s : State} {m : MethodId} {meth : Method} {c : Code} (h1 : s.methodNamed? y = some m) (h2 : s.vm.method? m = some meth) (h3 : meth.code = some c) (h4 : c.code = bytes)
    (h5 : (c.maxLocals == mx && c.exceptionTable.isEmpty && decide (c.maxStack ≤ mostOperands) && decide (meth.sig.returnType = rt) && !meth.locks && decide (parseMethodDescriptor y.desc = some meth.sig)) = true) : (Jvm.Cond.code y bytes mx rt).before a s = true := by
  simp only [Bool.and_eq_true, beq_iff_eq, Bool.not_eq_true', decide_eq_true_eq] at h5
  obtain ⟨⟨⟨⟨⟨g1, g2⟩, g3⟩, g4⟩, g5⟩, g6⟩ := h5
  simp [Cond.before, Cond.holds, Cond.value, h1, h2, h3, h4, g1, g2, g3, g4, g5, g6]
def isCode : Jvm.Cond → Bool
  | .code _ _ _ _ => true
  | _ => false
theorem all_split {L : List Jvm.Cond} {P : Jvm.Cond → Bool} (h1 : L.all (fun c => isCode c || P c) = true) (h2 : ∀ c ∈ L.filter isCode, P c = true) : L.all P = true := by
  refine List.all_eq_true.mpr fun c hc => ?_
  have h := List.all_eq_true.mp h1 c hc
  rcases Bool.eq_false_or_eq_true (isCode c) with hi | hi
  · exact h2 c (List.mem_filter.mpr ⟨hc, hi⟩)
  · simpa [hi] using h
set_option maxRecDepth 65536 in
theorem w_c0 : (Jvm.Cond.code x code maxLocals ret).before args0 about1 = true := code_word (m := ⟨1, 1⟩) (meth := k1m1) (c := k1c1) (by decide +kernel) rfl rfl rfl (by decide +kernel)
set_option maxRecDepth 65536 in
theorem w_c1 : (Jvm.Cond.code ({ cls := "com/example/hosts_to_firehose/hoststofirehose/io/CborReader", name := "<init>", desc := "([BI)V" } : Jvm.MethodName) prog_6_method_2_code (3 : Nat) (Option.none : Option Jvm.ClassFile.FieldType)).before args0 about1 = true := code_word (m := ⟨2, 0⟩) (meth := k2m0) (c := k2c0) (by decide +kernel) rfl rfl rfl (by decide +kernel)
set_option maxRecDepth 65536 in
theorem w_c2 : (Jvm.Cond.code ({ cls := "java/lang/Object", name := "<init>", desc := "()V" } : Jvm.MethodName) object_method_1_code (1 : Nat) (Option.none : Option Jvm.ClassFile.FieldType)).before args0 about1 = true := code_word (m := ⟨0, 0⟩) (meth := k0m0) (c := k0c0) (by decide +kernel) rfl rfl rfl (by decide +kernel)
set_option maxRecDepth 65536 in
theorem w_c3 : (Jvm.Cond.code ({ cls := "com/example/hosts_to_firehose/hoststofirehose/io/CborReader", name := "atEnd", desc := "()Z" } : Jvm.MethodName) prog_6_method_4_code (1 : Nat) (Option.some Jvm.ClassFile.FieldType.boolean)).before args0 about1 = true := code_word (m := ⟨2, 1⟩) (meth := k2m1) (c := k2c1) (by decide +kernel) rfl rfl rfl (by decide +kernel)
set_option maxRecDepth 65536 in
theorem w_c4 : (Jvm.Cond.code ({ cls := "com/example/hosts_to_firehose/hoststofirehose/io/CborReader", name := "readHead", desc := "()I" } : Jvm.MethodName) prog_6_method_5_code (8 : Nat) (Option.some Jvm.ClassFile.FieldType.int)).before args0 about1 = true := code_word (m := ⟨2, 2⟩) (meth := k2m2) (c := k2c2) (by decide +kernel) rfl rfl rfl (by decide +kernel)
set_option maxRecDepth 65536 in
theorem w_c5 : (Jvm.Cond.code ({ cls := "com/example/hosts_to_firehose/hoststofirehose/io/CborReader", name := "nextByte", desc := "()I" } : Jvm.MethodName) prog_6_method_12_code (1 : Nat) (Option.some Jvm.ClassFile.FieldType.int)).before args0 about1 = true := code_word (m := ⟨2, 3⟩) (meth := k2m3) (c := k2c3) (by decide +kernel) rfl rfl rfl (by decide +kernel)
set_option maxRecDepth 65536 in
theorem w_c6 : (Jvm.Cond.code ({ cls := "com/example/hosts_to_firehose/hoststofirehose/io/Cbor", name := "shortestArgumentBytes", desc := "(J)I" } : Jvm.MethodName) prog_5_method_3_code (2 : Nat) (Option.some Jvm.ClassFile.FieldType.int)).before args0 about1 = true := code_word (m := ⟨3, 1⟩) (meth := k3m1) (c := k3c1) (by decide +kernel) rfl rfl rfl (by decide +kernel)
set_option maxRecDepth 65536 in
theorem w_c7 : (Jvm.Cond.code ({ cls := "java/lang/Long", name := "compareUnsigned", desc := "(JJ)I" } : Jvm.MethodName) jdk_35_method_43_code (4 : Nat) (Option.some Jvm.ClassFile.FieldType.int)).before args0 about1 = true := code_word (m := ⟨9, 1⟩) (meth := k9m1) (c := k9c1) (by decide +kernel) rfl rfl rfl (by decide +kernel)
set_option maxRecDepth 65536 in
theorem w_c8 : (Jvm.Cond.code ({ cls := "java/lang/Long", name := "compare", desc := "(JJ)I" } : Jvm.MethodName) jdk_35_method_42_code (4 : Nat) (Option.some Jvm.ClassFile.FieldType.int)).before args0 about1 = true := code_word (m := ⟨9, 0⟩) (meth := k9m0) (c := k9c0) (by decide +kernel) rfl rfl rfl (by decide +kernel)
def codes1 : List Jvm.Cond := [Jvm.Cond.code x code maxLocals ret, Jvm.Cond.code ({ cls := "com/example/hosts_to_firehose/hoststofirehose/io/CborReader", name := "<init>", desc := "([BI)V" } : Jvm.MethodName) prog_6_method_2_code (3 : Nat) (Option.none : Option Jvm.ClassFile.FieldType), Jvm.Cond.code ({ cls := "java/lang/Object", name := "<init>", desc := "()V" } : Jvm.MethodName) object_method_1_code (1 : Nat) (Option.none : Option Jvm.ClassFile.FieldType), Jvm.Cond.code ({ cls := "com/example/hosts_to_firehose/hoststofirehose/io/CborReader", name := "atEnd", desc := "()Z" } : Jvm.MethodName) prog_6_method_4_code (1 : Nat) (Option.some Jvm.ClassFile.FieldType.boolean), Jvm.Cond.code ({ cls := "com/example/hosts_to_firehose/hoststofirehose/io/CborReader", name := "readHead", desc := "()I" } : Jvm.MethodName) prog_6_method_5_code (8 : Nat) (Option.some Jvm.ClassFile.FieldType.int), Jvm.Cond.code ({ cls := "com/example/hosts_to_firehose/hoststofirehose/io/CborReader", name := "nextByte", desc := "()I" } : Jvm.MethodName) prog_6_method_12_code (1 : Nat) (Option.some Jvm.ClassFile.FieldType.int), Jvm.Cond.code ({ cls := "com/example/hosts_to_firehose/hoststofirehose/io/Cbor", name := "shortestArgumentBytes", desc := "(J)I" } : Jvm.MethodName) prog_5_method_3_code (2 : Nat) (Option.some Jvm.ClassFile.FieldType.int), Jvm.Cond.code ({ cls := "java/lang/Long", name := "compareUnsigned", desc := "(JJ)I" } : Jvm.MethodName) jdk_35_method_43_code (4 : Nat) (Option.some Jvm.ClassFile.FieldType.int), Jvm.Cond.code ({ cls := "java/lang/Long", name := "compare", desc := "(JJ)I" } : Jvm.MethodName) jdk_35_method_42_code (4 : Nat) (Option.some Jvm.ClassFile.FieldType.int)]
set_option maxRecDepth 65536 in
theorem codes_eq : words1.filter isCode = codes1 := rfl
theorem w_codes : ∀ c ∈ words1.filter isCode, c.before args0 about1 = true := by
  rw [codes_eq]
  intro c hc
  simp only [codes1, List.mem_cons, List.not_mem_nil, or_false] at hc
  rcases hc with rfl | rfl | rfl | rfl | rfl | rfl | rfl | rfl | rfl
  · exact w_c0
  · exact w_c1
  · exact w_c2
  · exact w_c3
  · exact w_c4
  · exact w_c5
  · exact w_c6
  · exact w_c7
  · exact w_c8
set_option maxRecDepth 65536 in
theorem w_t1 : (words1.take 24).all (fun c => isCode c || c.before args0 about1) = true := by decide +kernel
set_option maxRecDepth 65536 in
theorem w_t2 : ((words1.drop 24).take 24).all (fun c => isCode c || c.before args0 about1) = true := by decide +kernel
set_option maxRecDepth 65536 in
theorem w_t3 : ((words1.drop 24).drop 24).all (fun c => isCode c || c.before args0 about1) = true := by decide +kernel
theorem w_tables : (allAtoms (Jvm.Cond.code x code maxLocals ret :: tables_1)).before args0 about1 = true := by
  rw [allAtoms_all]
  show words1.all (fun c => c.before args0 about1) = true
  refine all_split ?_ w_codes
  rw [← List.take_append_drop 24 words1, List.all_append, w_t1, ← List.take_append_drop 24 (words1.drop 24), List.all_append, w_t2, w_t3]
  rfl
set_option maxRecDepth 65536 in
theorem w_case : (Jvm.Cond.and given_1 narrow_1).before args0 about1 = true := by decide +kernel
theorem w_applies : (headSpec (Jvm.Cond.code x code maxLocals ret :: tables_1) room_1).applies x e0.platform about1 = true :=
  (Spec.applies_iff w_frames).mpr ⟨w_running, w_runnable, w_alone, w_named, w_hears, w_ripe, w_room, w_tables⟩
theorem atStart : AtStart classFile x code maxLocals ret World_1 tables_1 room_1 Calls_1 rest_1 Pre_1 launch0 p0 e0 about1 theMethod args0 below0 :=
  ⟨lists_1, trivial, launch0.admits_env _ _ _, launch0.least_env, fairChoices_fair.cas, fairChoices_fair.clock, w_frames, w_args, w_heap, w_applies, trivial, trivial, w_case⟩
end start1
theorem witness_1 : WitnessClaimed_1 := ⟨start1.p0, start1.e0, start1.about1, start1.theMethod, start1.args0, start1.below0, start1.atStart⟩
end Jvm.Pilot.@@N@@
