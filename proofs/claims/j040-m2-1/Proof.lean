import JvmDerived
import JvmDerived.Pilot.@@N@@Statement
import JvmDerived.Pilot.@@N@@Code
set_option linter.unusedVariables false
set_option linter.unusedSimpArgs false
@@BLOCK:NumsL.lean.txt@@
namespace Jvm.Pilot.@@N@@
open Jvm Jvm.ClassFile Sem Op Lib Jvm.Free Jvm.Stand Jvm.LawKit Jvm.RoadKit Bundle Jvm.Pilot.@@N@@.Jvm.D
/-! from the frame g at T the run ends in a return: Q of what is returned, the heap and the written places -/
def own_Fin (p : Program) (e : Env) (below : List Frame) (s T : State) (g : JFrame) (Q : Option Value → Heap → List Loc → Prop) (C S : Nat) : Prop :=
  ∃ s₂ o, Steps p.tables e below (T.setTop g) s₂ ∧ s₂.status = .running ∧ Ended s₂ below o ∧ ∃ v L, o = .returned v ∧ Q v s₂.heap L ∧ FrameEnd s o s₂ L C S
section Own
variable {p : Program} {l : Launch} {e : Env} {R : Room} {s : State} {m : MethodId} {args : Array Value} {below : List Frame} {meth : Method} {c : Code} {T T' : State} {g g' : JFrame} {locs : List Loc} {cells slots C S : Nat} {Q : Option Value → Heap → List Loc → Prop}
theorem own_go (h : ∀ t, Steps p.tables e below (T'.setTop g') t → Steps p.tables e below (T.setTop g) t) (k : own_Fin p e below s T' g' Q C S) : own_Fin p e below s T g Q C S := by
  obtain ⟨s2, o, h1, r⟩ := k
  exact ⟨s2, o, h _ h1, r⟩
theorem own_gt (h : Steps p.tables e below (T.setTop g) (T'.setTop g')) (k : own_Fin p e below s T' g' Q C S) : own_Fin p e below s T g Q C S := by
  obtain ⟨s2, o, h1, r⟩ := k
  exact ⟨s2, o, h.trans h1, r⟩
theorem own_end (X : Stand p l e R s m args below meth c T locs cells slots) (hnl : meth.locks = false) {v : Option Value} (hv : meth.sig.returnType = none → v = none)
    (st : ∀ fs, (∀ (f : JFrame) (acts : List Action), f.method = m → f.locked = none → f.entered = [] → (doReturn e (T.setTop f) acts v).1 = T.setFrames fs) → Steps p.tables e below (T.setTop g) (T.setFrames fs)) (hc : cells ≤ C) (hs : slots ≤ S) (hQ : Q v T.heap locs) : own_Fin p e below s T g Q C S := by
  obtain ⟨fs, hr, hrun, hended, hW, hsame⟩ := X.leave (v := v) hv hnl
  exact ⟨_, _, st fs hr, hrun, hended, _, _, rfl, hQ, ⟨_, rfl⟩, hW, hsame.mono hc hs⟩
theorem own_retZ (X : Stand p l e R s m args below meth c T locs cells slots) (hx : p.tables.exec = Jvm.exec) (hnl : meth.locks = false) {pc : Nat} {Ls : Array Slot} {z : Int32} {t : FieldType} {rest : List Value} (hret : meth.sig.returnType = some t) (ht : t = .boolean ∨ t = .byte ∨ t = .char ∨ t = .short)
    (hd : decode c.code pc = .ok (.ireturn, 1)) (hc : cells ≤ C) (hs : slots ≤ S) (hQ : Q (some (.int (nar t z))) T.heap locs) : own_Fin p e below s T (mkF m pc Ls (.int z :: rest)) Q C S :=
  own_end X hnl (fun h => by rw [hret] at h; cases h) (fun fs hr => retN X hx hret ht hd hr) hc hs hQ
theorem own_retI (X : Stand p l e R s m args below meth c T locs cells slots) (hx : p.tables.exec = Jvm.exec) (hnl : meth.locks = false) {pc : Nat} {Ls : Array Slot} {z : Int32} {rest : List Value} (hret : meth.sig.returnType = some .int)
    (hd : decode c.code pc = .ok (.ireturn, 1)) (hc : cells ≤ C) (hs : slots ≤ S) (hQ : Q (some (.int z)) T.heap locs) : own_Fin p e below s T (mkF m pc Ls (.int z :: rest)) Q C S :=
  own_end X hnl (fun h => by rw [hret] at h; cases h) (fun fs hr => by
    have hm' : T.vm.method? m = some meth := X.method'
    have hn : narrow .int (.int z) = .int z := rfl
    show Steps p.tables e below (T.setTop { method := m, pc := pc, locals := Ls, stack := _ :: rest, locked := none }) _
    jvm_step X.here [X.here.top, hx, hd, hm', hret, hn]
    first | (intro acts; rw [hr _ acts rfl rfl rfl]) | rw [hr _ _ rfl rfl rfl]
    exact Steps.refl _) hc hs hQ
theorem own_retJ (X : Stand p l e R s m args below meth c T locs cells slots) (hx : p.tables.exec = Jvm.exec) (hnl : meth.locks = false) {pc : Nat} {Ls : Array Slot} {z : Int64} (hret : meth.sig.returnType = some .long)
    (hd : decode c.code pc = .ok (.lreturn, 1)) (hc : cells ≤ C) (hs : slots ≤ S) (hQ : Q (some (.long z)) T.heap locs) : own_Fin p e below s T (mkF m pc Ls [.long z]) Q C S :=
  own_end X hnl (fun h => by rw [hret] at h; cases h) (fun fs hr => X.lreturnOut hx hret hd hr) hc hs hQ
theorem own_retV (X : Stand p l e R s m args below meth c T locs cells slots) (hx : p.tables.exec = Jvm.exec) (hnl : meth.locks = false) {pc : Nat} {Ls : Array Slot} (hret : meth.sig.returnType = none)
    (hd : decode c.code pc = .ok (.return_, 1)) (hc : cells ≤ C) (hs : slots ≤ S) (hQ : Q none T.heap locs) : own_Fin p e below s T (mkF m pc Ls []) Q C S :=
  own_end X hnl (fun _ => rfl) (fun fs hr => X.returnOut hx hret hd hr) hc hs hQ
end Own
def own_up (f : Nat → Int32) (k : Nat) (x : Int32) : Nat → Int32 := fun i => if i = k then x else f i
/-- a byte[] of N components; the i-th holds f i -/
def own_Ba (Z : State) (h : Heap) (a : Addr) (N : Nat) (f : Nat → Int32) : Prop := ∃ cl : Cell, Arr Z h a cl .byte ∧ cl.slots.size = N ∧ ∀ i, i < N → cl.slots[i]? = some (.int (f i))
section OwnArr
variable {p : Program} {l : Launch} {e : Env} {R : Room} {s : State} {m : MethodId} {args : Array Value} {below : List Frame} {meth : Method} {c : Code} {T : State} {locs : List Loc} {cells slots : Nat} {Z : State} {h h' : Heap} {a b : Addr} {N : Nat} {f f' : Nat → Int32} {sl : Nat} {v : Value} {ws : List Addr}
theorem own_Ba.lt (B : own_Ba Z h a N f) : a < h.size := by obtain ⟨cl, A, -⟩ := B; exact A.lt
theorem own_Ba.ext (B : own_Ba Z h a N f) (E : Ext h h') : own_Ba Z h' a N f := by obtain ⟨cl, A, r⟩ := B; exact ⟨cl, A.ext E, r⟩
theorem own_Ba.other (B : own_Ba Z h a N f) (W : Wr h h' b sl v) (q : a ≠ b) : own_Ba Z h' a N f := by obtain ⟨cl, A, r⟩ := B; exact ⟨cl, A.other W q, r⟩
theorem own_Ba.keep (B : own_Ba Z h a N f) (K : Keep h h' ws) (q : a ∉ ws) : own_Ba Z h' a N f := by obtain ⟨cl, A, r⟩ := B; exact ⟨cl, ⟨K.2.1 a cl A.1 q, A.2⟩, r⟩
theorem own_Ba.congr (B : own_Ba Z h a N f) (q : ∀ i, i < N → f' i = f i) : own_Ba Z h a N f' := by obtain ⟨cl, A, r1, r2⟩ := B; exact ⟨cl, A, r1, fun i hi => by rw [q i hi]; exact r2 i hi⟩
theorem own_Ba.new {k : ClassId} {z : Int32} (A : Arr Z h a (newA k .byte z) .byte) (hz : ¬ z < 0) : own_Ba Z h a z.toNatClampNeg (fun _ => 0) :=
  ⟨_, A, sz_new _ _ _, fun i hi => by simp [newA, hi, defaultValue]⟩
theorem own_Ba.set (B : own_Ba Z h a N f) {k : Nat} {x : Int32} (hk : sl = k) (W : Wr h h' a sl (.int x)) : own_Ba Z h' a N (own_up f k x) := by
  subst hk
  obtain ⟨cl, A, r1, r2⟩ := B
  refine ⟨_, A.same W, by rw [sz_set]; exact r1, fun i hi => ?_⟩
  by_cases u : sl = i
  · subst u
    have : sl < cl.slots.size := by rw [r1]; exact hi
    simp [Cell.setSlot, own_up, this]
  · have u' : ¬ i = sl := fun q => u q.symm
    simp only [Cell.setSlot, own_up, u', if_false]
    rw [Array.getElem?_setIfInBounds_ne u]; exact r2 i hi
theorem own_bst (X : Stand p l e R s m args below meth c T locs cells slots) (hx : p.tables.exec = Jvm.exec) (hZ : Z.Warmed39 s.vm) (eT : T.heap = h) (B : own_Ba Z h a N f) {j x : Int32} (k : Nat) (hj : ¬ j < 0) (hk : j.toNatClampNeg = k) (hl : k < N) {g : JFrame} (hg : g.method = m) {rest : List Value} (hs : g.stack = .int x :: .int j :: .ref a :: rest) (hd : decode c.code g.pc = .ok (.bastore, 1)) :
    ∃ T' h', Stand p l e R s m args below meth c T' (locs ++ [⟨a, j.toNatClampNeg⟩]) cells slots ∧ T'.heap = h' ∧ Wr h h' a j.toNatClampNeg (.int (nar .byte x)) ∧ own_Ba Z h' a N (own_up f k (nar .byte x)) ∧ ∀ target, Steps p.tables e below (T'.setTop { g with pc := g.pc + 1, stack := rest }) target → Steps p.tables e below (T.setTop g) target := by
  obtain ⟨cl, A, r1, r2⟩ := id B
  obtain ⟨T', h', X', e', W, st⟩ := stB X hx hZ eT A (j := j) (x := x) (by rw [r1, hk]; exact fun q => q.elim hj (fun q => absurd hl (Nat.not_lt.mpr q))) hg hs hd
  exact ⟨T', h', X', e', W, B.set hk W, st⟩
theorem own_bld (X : Stand p l e R s m args below meth c T locs cells slots) (hx : p.tables.exec = Jvm.exec) (hZ : Z.Warmed39 s.vm) (eT : T.heap = h) (B : own_Ba Z h a N f) {j : Int32} (k : Nat) (hj : ¬ j < 0) (hk : j.toNatClampNeg = k) (hl : k < N) {g : JFrame} (hg : g.method = m) {rest : List Value} (hs : g.stack = .int j :: .ref a :: rest) (hd : decode c.code g.pc = .ok (.baload, 1)) :
    ∀ target, Steps p.tables e below (T.setTop { g with pc := g.pc + 1, stack := .int (f k) :: rest }) target → Steps p.tables e below (T.setTop g) target := fun target hr => by
  obtain ⟨cl, A, r1, r2⟩ := B
  exact X.baloadBytes hx (j := j) (v := .int (f k)) (by rw [eT]; exact A.1) (State.isArrayOf_alike hZ.alike A.2.1) A.2.2 (by rw [r1, hk]; exact fun q => q.elim hj (fun q => absurd hl (Nat.not_lt.mpr q))) (by rw [hk]; exact r2 k hl) hg hs hd target hr
theorem own_aln (X : Stand p l e R s m args below meth c T locs cells slots) (hx : p.tables.exec = Jvm.exec) (hZ : Z.Warmed39 s.vm) (eT : T.heap = h) (B : own_Ba Z h a N f) {g : JFrame} (hg : g.method = m) {rest : List Value} (hs : g.stack = .ref a :: rest) (hd : decode c.code g.pc = .ok (.arraylength, 1)) :
    ∀ target, Steps p.tables e below (T.setTop { g with pc := g.pc + 1, stack := .int N.toInt32 :: rest }) target → Steps p.tables e below (T.setTop g) target := fun target hr => by
  obtain ⟨cl, A, r1, r2⟩ := B
  subst r1
  exact X.arraylength hx (by rw [eT]; exact A.1) (State.isArrayOf_alike hZ.alike A.2.1) hg hs hd target hr
theorem own_dup2 {tb : Tables} [Ours tb] {e : Env} {below : List Frame} {T target : State} {m : MethodId} {c : Code} {g : JFrame} (h : At T m c below) (hx : tb.exec = Jvm.exec) (hg : g.method = m) {x y : Value} {rest : List Value} (hd : decode c.code g.pc = .ok (.dup2, 1)) (hs : g.stack = x :: y :: rest) (h1 : x.category = 1) (h2 : y.category = 1)
    (hr : Steps tb e below (T.setTop { g with pc := g.pc + 1, stack := x :: y :: x :: y :: rest }) target) : Steps tb e below (T.setTop g) target := by
  subst hg
  jvm_step h [h.top, hx, hd, hs, h1, h2]
  exact hr
end OwnArr

theorem own_lt {x y : Int32} : x < y ↔ x.toInt < y.toInt := Int32.lt_iff_toInt_lt
theorem own_ltJ {x y : Int64} : x < y ↔ x.toInt < y.toInt := Int64.lt_iff_toInt_lt
theorem own_eq {x y : Int32} : x = y ↔ x.toInt = y.toInt := Int32.toInt_inj.symm
theorem own_eqJ {x y : Int64} : x = y ↔ x.toInt = y.toInt := Int64.toInt_inj.symm
theorem own_rng (x : Int32) : -2147483648 ≤ x.toInt ∧ x.toInt < 2147483648 := ⟨by have := Int32.le_toInt x; omega, by have := Int32.toInt_lt x; omega⟩
theorem own_rngJ (x : Int64) : -9223372036854775808 ≤ x.toInt ∧ x.toInt < 9223372036854775808 := ⟨by have := Int64.le_toInt x; omega, by have := Int64.toInt_lt x; omega⟩

theorem d1_0 : decode method_2_code 0 = .ok (.lload_n 0, 1) := by decide +kernel
theorem d1_1 : decode method_2_code 1 = .ok (.bipush 8, 2) := by decide +kernel
theorem d1_3 : decode method_2_code 3 = .ok (.iload_n 2, 1) := by decide +kernel
theorem d1_4 : decode method_2_code 4 = .ok (.imul, 1) := by decide +kernel
theorem d1_5 : decode method_2_code 5 = .ok (.lushr, 1) := by decide +kernel
theorem d1_6 : decode method_2_code 6 = .ok (.l2i, 1) := by decide +kernel
theorem d1_7 : decode method_2_code 7 = .ok (.i2b, 1) := by decide +kernel
theorem d1_8 : decode method_2_code 8 = .ok (.ireturn, 1) := by decide +kernel
theorem pn_1 : plainName "com/example/jitlens/jitlens/LogTextStartsWithPinLaw" = true := by first | (simp [plainName, overriddenIn]; done) | decide +kernel
theorem ef_1 (m : MethodId) (x0 : Int64) (x1 : Int32) : entryFrame m #[(.long x0), (.int x1)] 3 = mkF m 0 #[.val (.long x0), .second, .val (.int x1)] [] := by first | (simp [entryFrame, mkF, argsToLocals, Value.category]; done) | rfl
def Q1 (Z : State) (x0 : Int64) (x1 : Int32) (h0 : Heap) (n0 : Nat) (v : Option Value) (h : Heap) (L : List Loc) : Prop := ∃ r : Int32, v = some (.int r) ∧ Fr n0 L ∧ h = h0
set_option maxRecDepth 65536 in
set_option maxHeartbeats 40000000 in
theorem rm1 (l : Launch) (Z : State) (a0 : Array Value) (hw : ∀ d ∈ tables_1, d.before a0 Z = true) (ws : List Jvm.Cond) (x0 : Int64) (x1 : Int32) (h0 : Heap) (n0 : Nat) (Z0 : n0 ≤ h0.size) :
    MetFree l (⟨"com/example/jitlens/jitlens/LogTextStartsWithPinLaw", "drawn", "(JI)B"⟩ : MethodName) (head1 (Jvm.Cond.code (⟨"com/example/jitlens/jitlens/LogTextStartsWithPinLaw", "drawn", "(JI)B"⟩ : MethodName) method_2_code 3 (some .byte) :: ws) ({ frames := 0, cells := 0, slots := 0, locals := 0 } : Room)) (fun a U => a = #[(.long x0), (.int x1)] ∧ Z.Warmed39 U.vm ∧ U.heap = h0) (fun _ _ _ _ _ => True) (fun _ U o U' => ∃ v L, o = .returned v ∧ Q1 Z x0 x1 h0 n0 v U'.heap L ∧ FrameEnd U o U' L ({ frames := 0, cells := 0, slots := 0, locals := 0 } : Room).cells ({ frames := 0, cells := 0, slots := 0, locals := 0 } : Room).slots) := by
  refine MetFree.of_bodySF (plainFor_of_name pn_1) hisR ?_
  intro p e s m args below meth c s₁ Bd hml0 hP hK
  obtain ⟨rfl, hZ, hh⟩ := hP
  have hx := Bd.exec
  have hby := Bd.bytes
  have hret := Bd.returns
  have hnl : meth.locks = false := Bd.notSynchronized
  have hml : c.maxLocals = 3 := hml0
  have hown : s.vm.findClass "com/example/jitlens/jitlens/LogTextStartsWithPinLaw" = some m.cls := findClass_of_methodNamed Bd.named
  have hnm := (name_of_methodNamed Bd.named Bd.method).1
  have X0 : Stand p l e ({ frames := 0, cells := 0, slots := 0, locals := 0 } : Room) s m #[(.long x0), (.int x1)] below meth c s₁ [] 0 0 := Stand.of_body Bd
  have e0 : s₁.heap = h0 := by rw [← hh, Bd.state]; rfl
  have N0 := Fr.nil n0
  suffices key : own_Fin p e below s s₁ (mkF m 0 #[.val (.long x0), .second, .val (.int x1)] []) (Q1 Z x0 x1 h0 n0) ({ frames := 0, cells := 0, slots := 0, locals := 0 } : Room).cells ({ frames := 0, cells := 0, slots := 0, locals := 0 } : Room).slots by
    obtain ⟨s2, o, h1, h2⟩ := key
    exact ⟨s2, o, castTop (ef_1 m x0 x1) h1, h2⟩
  refine own_go (fun _ => XS.lloadN X0.here hx rfl (hb hby d1_0) rfl) ?_
  show own_Fin _ _ _ _ s₁ (mkF m 1 #[.val (.long x0), .second, .val (.int x1)] [(.long x0)]) _ _ _
  refine own_go (fun _ => XS.bipush X0.here hx rfl (hb hby d1_1)) ?_
  show own_Fin _ _ _ _ s₁ (mkF m 3 #[.val (.long x0), .second, .val (.int x1)] [(.int (8 : Int32)), (.long x0)]) _ _ _
  refine own_go (fun _ => XS.iloadN X0.here hx rfl (hb hby d1_3) rfl) ?_
  show own_Fin _ _ _ _ s₁ (mkF m 4 #[.val (.long x0), .second, .val (.int x1)] [(.int x1), (.int (8 : Int32)), (.long x0)]) _ _ _
  refine own_go (fun _ => XS.imul X0.here hx rfl (hb hby d1_4) rfl) ?_
  show own_Fin _ _ _ _ s₁ (mkF m 5 #[.val (.long x0), .second, .val (.int x1)] [(.int ((8 : Int32) * x1)), (.long x0)]) _ _ _
  refine own_go (fun _ => XS.lushr X0.here hx rfl (hb hby d1_5) rfl) ?_
  show own_Fin _ _ _ _ s₁ (mkF m 6 #[.val (.long x0), .second, .val (.int x1)] [(.long ((x0.toUInt64 >>> (((8 : Int32) * x1) &&& 0x3f).toInt64.toUInt64).toInt64))]) _ _ _
  refine own_go (fun _ => XS.l2i X0.here hx rfl (hb hby d1_6) rfl) ?_
  show own_Fin _ _ _ _ s₁ (mkF m 7 #[.val (.long x0), .second, .val (.int x1)] [(.int (((x0.toUInt64 >>> (((8 : Int32) * x1) &&& 0x3f).toInt64.toUInt64).toInt64).toInt32))]) _ _ _
  refine own_go (fun _ => XS.i2b X0.here hx rfl (hb hby d1_7) rfl) ?_
  show own_Fin _ _ _ _ s₁ (mkF m 8 #[.val (.long x0), .second, .val (.int x1)] [(.int ((((x0.toUInt64 >>> (((8 : Int32) * x1) &&& 0x3f).toInt64.toUInt64).toInt64).toInt32).toInt8.toInt32))]) _ _ _
  exact own_retZ X0 hx hnl (t := .byte) hret (by simp) (hb hby d1_8) (by decide) (by decide) ⟨_, rfl, N0, e0⟩

theorem own_c6 {p : Int32} (h1 : p < 6) : p.toNatClampNeg < 6 := by
  rw [own_lt] at h1
  have e6 : (6 : Int32).toInt = 6 := by decide
  rw [e6] at h1
  simp only [Int32.toNatClampNeg]; omega
theorem d3_0 : decode method_3_code 0 = .ok (.iload_n 1, 1) := by decide +kernel
theorem d3_1 : decode method_3_code 1 = .ok (.iload_n 2, 1) := by decide +kernel
theorem d3_2 : decode method_3_code 2 = .ok (.iadd, 1) := by decide +kernel
theorem d3_3 : decode method_3_code 3 = .ok (.istore 6, 2) := by decide +kernel
theorem d3_5 : decode method_3_code 5 = .ok (.iload_n 3, 1) := by decide +kernel
theorem d3_6 : decode method_3_code 6 = .ok (.iconst 2, 1) := by decide +kernel
theorem d3_7 : decode method_3_code 7 = .ok (.iload_n 2, 1) := by decide +kernel
theorem d3_8 : decode method_3_code 8 = .ok (.iadd, 1) := by decide +kernel
theorem d3_9 : decode method_3_code 9 = .ok (.iushr, 1) := by decide +kernel
theorem d3_10 : decode method_3_code 10 = .ok (.iconst 1, 1) := by decide +kernel
theorem d3_11 : decode method_3_code 11 = .ok (.iand, 1) := by decide +kernel
theorem d3_12 : decode method_3_code 12 = .ok (.ifCond .eq 20, 3) := by decide +kernel
theorem d3_15 : decode method_3_code 15 = .ok (.iload 6, 2) := by decide +kernel
theorem d3_17 : decode method_3_code 17 = .ok (.ifCond .lt 15, 3) := by decide +kernel
theorem d3_20 : decode method_3_code 20 = .ok (.iload 6, 2) := by decide +kernel
theorem d3_22 : decode method_3_code 22 = .ok (.aload_n 0, 1) := by decide +kernel
theorem d3_23 : decode method_3_code 23 = .ok (.arraylength, 1) := by decide +kernel
theorem d3_24 : decode method_3_code 24 = .ok (.if_icmp .ge 8, 3) := by decide +kernel
theorem d3_27 : decode method_3_code 27 = .ok (.aload_n 0, 1) := by decide +kernel
theorem d3_28 : decode method_3_code 28 = .ok (.iload 6, 2) := by decide +kernel
theorem d3_30 : decode method_3_code 30 = .ok (.baload, 1) := by decide +kernel
theorem d3_31 : decode method_3_code 31 = .ok (.ireturn, 1) := by decide +kernel
theorem d3_32 : decode method_3_code 32 = .ok (.lload 4, 2) := by decide +kernel
theorem d3_34 : decode method_3_code 34 = .ok (.iload_n 2, 1) := by decide +kernel
theorem d3_35 : decode method_3_code 35 = .ok (.invokestatic 7, 3) := by decide +kernel
theorem d3_38 : decode method_3_code 38 = .ok (.ireturn, 1) := by decide +kernel
theorem pd_0 : parseMethodDescriptor "(JI)B" = some ⟨[.long, .int], some .byte⟩ := by decide +kernel
theorem pn_3 : plainName "com/example/jitlens/jitlens/LogTextStartsWithPinLaw" = true := by first | (simp [plainName, overriddenIn]; done) | decide +kernel
theorem ef_3 (m : MethodId) (x0 : Addr) (x1 : Int32) (x2 : Int32) (x3 : Int32) (x4 : Int64) : entryFrame m #[(.ref x0), (.int x1), (.int x2), (.int x3), (.long x4)] 7 = mkF m 0 #[.val (.ref x0), .val (.int x1), .val (.int x2), .val (.int x3), .val (.long x4), .second, .unset] [] := by first | (simp [entryFrame, mkF, argsToLocals, Value.category]; done) | rfl
def Q3 (Z : State) (x0 : Addr) (x1 : Int32) (x2 : Int32) (x3 : Int32) (x4 : Int64) (f : Nat → Int32) (h0 : Heap) (n0 : Nat) (v : Option Value) (h : Heap) (L : List Loc) : Prop := ∃ r : Int32, v = some (.int r) ∧ Fr n0 L ∧ h = h0
set_option maxRecDepth 65536 in
set_option maxHeartbeats 40000000 in
theorem rm3 (l : Launch) (Z : State) (a0 : Array Value) (hw : ∀ d ∈ tables_1, d.before a0 Z = true) (ws : List Jvm.Cond) (x0 : Addr) (x1 : Int32) (x2 : Int32) (x3 : Int32) (x4 : Int64) (f : Nat → Int32) (h0 : Heap) (n0 : Nat) (Z0 : n0 ≤ h0.size) (B0 : own_Ba Z h0 x0 6 f) :
    MetFree l (⟨"com/example/jitlens/jitlens/LogTextStartsWithPinLaw", "textByte", "([BIIIJ)B"⟩ : MethodName) (head1 (Jvm.Cond.code (⟨"com/example/jitlens/jitlens/LogTextStartsWithPinLaw", "textByte", "([BIIIJ)B"⟩ : MethodName) method_3_code 7 (some .byte) :: ws) ({ frames := 1, cells := 0, slots := 0, locals := 14 } : Room)) (fun a U => a = #[(.ref x0), (.int x1), (.int x2), (.int x3), (.long x4)] ∧ Z.Warmed39 U.vm ∧ U.heap = h0) (fun _ _ _ _ _ => True) (fun _ U o U' => ∃ v L, o = .returned v ∧ Q3 Z x0 x1 x2 x3 x4 f h0 n0 v U'.heap L ∧ FrameEnd U o U' L ({ frames := 1, cells := 0, slots := 0, locals := 14 } : Room).cells ({ frames := 1, cells := 0, slots := 0, locals := 14 } : Room).slots) := by
  refine MetFree.of_bodySF (plainFor_of_name pn_3) hisR ?_
  intro p e s m args below meth c s₁ Bd hml0 hP hK
  obtain ⟨rfl, hZ, hh⟩ := hP
  have hx := Bd.exec
  have hby := Bd.bytes
  have hret := Bd.returns
  have hnl : meth.locks = false := Bd.notSynchronized
  have hml : c.maxLocals = 7 := hml0
  have hown : s.vm.findClass "com/example/jitlens/jitlens/LogTextStartsWithPinLaw" = some m.cls := findClass_of_methodNamed Bd.named
  have hnm := (name_of_methodNamed Bd.named Bd.method).1
  have X0 : Stand p l e ({ frames := 1, cells := 0, slots := 0, locals := 14 } : Room) s m #[(.ref x0), (.int x1), (.int x2), (.int x3), (.long x4)] below meth c s₁ [] 0 0 := Stand.of_body Bd
  have e0 : s₁.heap = h0 := by rw [← hh, Bd.state]; rfl
  have N0 := Fr.nil n0
  suffices key : own_Fin p e below s s₁ (mkF m 0 #[.val (.ref x0), .val (.int x1), .val (.int x2), .val (.int x3), .val (.long x4), .second, .unset] []) (Q3 Z x0 x1 x2 x3 x4 f h0 n0) ({ frames := 1, cells := 0, slots := 0, locals := 14 } : Room).cells ({ frames := 1, cells := 0, slots := 0, locals := 14 } : Room).slots by
    obtain ⟨s2, o, h1, h2⟩ := key
    exact ⟨s2, o, castTop (ef_3 m x0 x1 x2 x3 x4) h1, h2⟩
  refine own_go (fun _ => XS.iloadN X0.here hx rfl (hb hby d3_0) rfl) ?_
  show own_Fin _ _ _ _ s₁ (mkF m 1 #[.val (.ref x0), .val (.int x1), .val (.int x2), .val (.int x3), .val (.long x4), .second, .unset] [(.int x1)]) _ _ _
  refine own_go (fun _ => XS.iloadN X0.here hx rfl (hb hby d3_1) rfl) ?_
  show own_Fin _ _ _ _ s₁ (mkF m 2 #[.val (.ref x0), .val (.int x1), .val (.int x2), .val (.int x3), .val (.long x4), .second, .unset] [(.int x2), (.int x1)]) _ _ _
  refine own_go (fun _ => XS.iadd X0.here hx rfl (hb hby d3_2) rfl) ?_
  show own_Fin _ _ _ _ s₁ (mkF m 3 #[.val (.ref x0), .val (.int x1), .val (.int x2), .val (.int x3), .val (.long x4), .second, .unset] [(.int (x1 + x2))]) _ _ _
  refine own_go (fun _ => XS.istore X0.here hx rfl (hb hby d3_3) rfl (l' := #[.val (.ref x0), .val (.int x1), .val (.int x2), .val (.int x3), .val (.long x4), .second, .val (.int (x1 + x2))]) rfl) ?_
  show own_Fin _ _ _ _ s₁ (mkF m 5 #[.val (.ref x0), .val (.int x1), .val (.int x2), .val (.int x3), .val (.long x4), .second, .val (.int (x1 + x2))] []) _ _ _
  refine own_go (fun _ => XS.iloadN X0.here hx rfl (hb hby d3_5) rfl) ?_
  show own_Fin _ _ _ _ s₁ (mkF m 6 #[.val (.ref x0), .val (.int x1), .val (.int x2), .val (.int x3), .val (.long x4), .second, .val (.int (x1 + x2))] [(.int x3)]) _ _ _
  refine own_go (fun _ => XS.iconst X0.here hx rfl (hb hby d3_6)) ?_
  show own_Fin _ _ _ _ s₁ (mkF m 7 #[.val (.ref x0), .val (.int x1), .val (.int x2), .val (.int x3), .val (.long x4), .second, .val (.int (x1 + x2))] [(.int (2 : Int32)), (.int x3)]) _ _ _
  refine own_go (fun _ => XS.iloadN X0.here hx rfl (hb hby d3_7) rfl) ?_
  show own_Fin _ _ _ _ s₁ (mkF m 8 #[.val (.ref x0), .val (.int x1), .val (.int x2), .val (.int x3), .val (.long x4), .second, .val (.int (x1 + x2))] [(.int x2), (.int (2 : Int32)), (.int x3)]) _ _ _
  refine own_go (fun _ => XS.iadd X0.here hx rfl (hb hby d3_8) rfl) ?_
  show own_Fin _ _ _ _ s₁ (mkF m 9 #[.val (.ref x0), .val (.int x1), .val (.int x2), .val (.int x3), .val (.long x4), .second, .val (.int (x1 + x2))] [(.int ((2 : Int32) + x2)), (.int x3)]) _ _ _
  refine own_go (fun _ => XS.iushr X0.here hx rfl (hb hby d3_9) rfl) ?_
  show own_Fin _ _ _ _ s₁ (mkF m 10 #[.val (.ref x0), .val (.int x1), .val (.int x2), .val (.int x3), .val (.long x4), .second, .val (.int (x1 + x2))] [(.int ((x3.toUInt32 >>> (((2 : Int32) + x2) &&& 31).toUInt32).toInt32))]) _ _ _
  refine own_go (fun _ => XS.iconst X0.here hx rfl (hb hby d3_10)) ?_
  show own_Fin _ _ _ _ s₁ (mkF m 11 #[.val (.ref x0), .val (.int x1), .val (.int x2), .val (.int x3), .val (.long x4), .second, .val (.int (x1 + x2))] [(.int (1 : Int32)), (.int ((x3.toUInt32 >>> (((2 : Int32) + x2) &&& 31).toUInt32).toInt32))]) _ _ _
  refine own_go (fun _ => XS.iand X0.here hx rfl (hb hby d3_11) rfl) ?_
  show own_Fin _ _ _ _ s₁ (mkF m 12 #[.val (.ref x0), .val (.int x1), .val (.int x2), .val (.int x3), .val (.long x4), .second, .val (.int (x1 + x2))] [(.int (((x3.toUInt32 >>> (((2 : Int32) + x2) &&& 31).toUInt32).toInt32) &&& (1 : Int32)))]) _ _ _
  by_cases h12 : (((x3.toUInt32 >>> (((2 : Int32) + x2) &&& 31).toUInt32).toInt32) &&& (1 : Int32)) = (0 : Int32)
  · refine own_go (fun _ => XS.ifYes X0.here hx rfl (pc0 := 12) (pc' := 32) rfl (hb hby d3_12) rfl ((if0 _ _).trans (teq h12).1) (by decide) (by decide)) ?_
    show own_Fin _ _ _ _ s₁ (mkF m 32 #[.val (.ref x0), .val (.int x1), .val (.int x2), .val (.int x3), .val (.long x4), .second, .val (.int (x1 + x2))] []) _ _ _
    refine own_go (fun _ => XS.lload X0.here hx rfl (hb hby d3_32) rfl) ?_
    show own_Fin _ _ _ _ s₁ (mkF m 34 #[.val (.ref x0), .val (.int x1), .val (.int x2), .val (.int x3), .val (.long x4), .second, .val (.int (x1 + x2))] [(.long x4)]) _ _ _
    refine own_go (fun _ => XS.iloadN X0.here hx rfl (hb hby d3_34) rfl) ?_
    show own_Fin _ _ _ _ s₁ (mkF m 35 #[.val (.ref x0), .val (.int x1), .val (.int x2), .val (.int x3), .val (.long x4), .second, .val (.int (x1 + x2))] [(.int x2), (.long x4)]) _ _ _
    obtain ⟨_, _, ⟨T1, L1, k1, n1⟩, -, X1, ⟨Lc1, hQ1, l1, y1, z1⟩, st1⟩ := Jvm.LawKit.callS X0 hx (y := (⟨"com/example/jitlens/jitlens/LogTextStartsWithPinLaw", "drawn", "(JI)B"⟩ : MethodName)) hown (mvT hZ (hw _ (List.mem_of_getElem? (i := 1) rfl))) (mvT hZ (hw _ (List.mem_of_getElem? (i := 2) rfl))) (mvT hZ (hw _ (List.mem_of_getElem? (i := 3) rfl))) (mvT hZ (hw _ (List.mem_of_getElem? (i := 4) rfl))) (by decide) (backOf (W := 0) (rm1 l Z a0 hw [] x4 x2  h0 n0 Z0 ) hZ (hw _ (List.mem_of_getElem? (i := 4) rfl)) (hw _ (List.mem_of_getElem? (i := 3) rfl)) (by decide) (by decide)) (g := (mkF m 35 #[.val (.ref x0), .val (.int x1), .val (.int x2), .val (.int x3), .val (.long x4), .second, .val (.int (x1 + x2))] [(.int x2), (.long x4)])) rfl (by rw [hml]; rfl) (argsL := [(.long x4), (.int x2)]) (rest := []) (lenOf pd_0 rfl) rfl (by show 2 * 0 + _ ≤ _; exact Nat.le_of_eq rfl) (hb hby d3_35) (fun _ _ => ⟨rfl, e0, (by decide : 0 + 0 ≤ _), (by decide : 0 + 0 ≤ _)⟩)
    dsimp only [Pt.U, Pt.locs, Pt.cells, Pt.slots] at X1 l1 y1 z1 st1 hQ1
    subst l1 y1 z1
    obtain ⟨r1, rfl, N1q, e1⟩ := hQ1
    have N1 := Fr.app N0 N1q
    refine own_go st1 ?_
    show own_Fin _ _ _ _ T1 (mkF m 38 #[.val (.ref x0), .val (.int x1), .val (.int x2), .val (.int x3), .val (.long x4), .second, .val (.int (x1 + x2))] [(.int r1)]) _ _ _
    exact own_retZ X1 hx hnl (t := .byte) hret (by simp) (hb hby d3_38) (by decide) (by decide) ⟨_, rfl, N1, e1⟩
  · refine own_go (fun _ => XS.ifNo X0.here hx rfl (hb hby d3_12) rfl ((if0 _ _).trans (feq h12).1)) ?_
    show own_Fin _ _ _ _ s₁ (mkF m 15 #[.val (.ref x0), .val (.int x1), .val (.int x2), .val (.int x3), .val (.long x4), .second, .val (.int (x1 + x2))] []) _ _ _
    refine own_go (fun _ => XS.iload X0.here hx rfl (hb hby d3_15) rfl) ?_
    show own_Fin _ _ _ _ s₁ (mkF m 17 #[.val (.ref x0), .val (.int x1), .val (.int x2), .val (.int x3), .val (.long x4), .second, .val (.int (x1 + x2))] [(.int (x1 + x2))]) _ _ _
    by_cases h17 : (x1 + x2) < (0 : Int32)
    · refine own_go (fun _ => XS.ifYes X0.here hx rfl (pc0 := 17) (pc' := 32) rfl (hb hby d3_17) rfl ((if0 _ _).trans (tlt h17).1) (by decide) (by decide)) ?_
      show own_Fin _ _ _ _ s₁ (mkF m 32 #[.val (.ref x0), .val (.int x1), .val (.int x2), .val (.int x3), .val (.long x4), .second, .val (.int (x1 + x2))] []) _ _ _
      refine own_go (fun _ => XS.lload X0.here hx rfl (hb hby d3_32) rfl) ?_
      show own_Fin _ _ _ _ s₁ (mkF m 34 #[.val (.ref x0), .val (.int x1), .val (.int x2), .val (.int x3), .val (.long x4), .second, .val (.int (x1 + x2))] [(.long x4)]) _ _ _
      refine own_go (fun _ => XS.iloadN X0.here hx rfl (hb hby d3_34) rfl) ?_
      show own_Fin _ _ _ _ s₁ (mkF m 35 #[.val (.ref x0), .val (.int x1), .val (.int x2), .val (.int x3), .val (.long x4), .second, .val (.int (x1 + x2))] [(.int x2), (.long x4)]) _ _ _
      obtain ⟨_, _, ⟨T2, L2, k2, n2⟩, -, X2, ⟨Lc2, hQ2, l2, y2, z2⟩, st2⟩ := Jvm.LawKit.callS X0 hx (y := (⟨"com/example/jitlens/jitlens/LogTextStartsWithPinLaw", "drawn", "(JI)B"⟩ : MethodName)) hown (mvT hZ (hw _ (List.mem_of_getElem? (i := 1) rfl))) (mvT hZ (hw _ (List.mem_of_getElem? (i := 2) rfl))) (mvT hZ (hw _ (List.mem_of_getElem? (i := 3) rfl))) (mvT hZ (hw _ (List.mem_of_getElem? (i := 4) rfl))) (by decide) (backOf (W := 0) (rm1 l Z a0 hw [] x4 x2  h0 n0 Z0 ) hZ (hw _ (List.mem_of_getElem? (i := 4) rfl)) (hw _ (List.mem_of_getElem? (i := 3) rfl)) (by decide) (by decide)) (g := (mkF m 35 #[.val (.ref x0), .val (.int x1), .val (.int x2), .val (.int x3), .val (.long x4), .second, .val (.int (x1 + x2))] [(.int x2), (.long x4)])) rfl (by rw [hml]; rfl) (argsL := [(.long x4), (.int x2)]) (rest := []) (lenOf pd_0 rfl) rfl (by show 2 * 0 + _ ≤ _; exact Nat.le_of_eq rfl) (hb hby d3_35) (fun _ _ => ⟨rfl, e0, (by decide : 0 + 0 ≤ _), (by decide : 0 + 0 ≤ _)⟩)
      dsimp only [Pt.U, Pt.locs, Pt.cells, Pt.slots] at X2 l2 y2 z2 st2 hQ2
      subst l2 y2 z2
      obtain ⟨r2, rfl, N2q, e2⟩ := hQ2
      have N2 := Fr.app N0 N2q
      refine own_go st2 ?_
      show own_Fin _ _ _ _ T2 (mkF m 38 #[.val (.ref x0), .val (.int x1), .val (.int x2), .val (.int x3), .val (.long x4), .second, .val (.int (x1 + x2))] [(.int r2)]) _ _ _
      exact own_retZ X2 hx hnl (t := .byte) hret (by simp) (hb hby d3_38) (by decide) (by decide) ⟨_, rfl, N2, e2⟩
    · refine own_go (fun _ => XS.ifNo X0.here hx rfl (hb hby d3_17) rfl ((if0 _ _).trans (flt h17).1)) ?_
      show own_Fin _ _ _ _ s₁ (mkF m 20 #[.val (.ref x0), .val (.int x1), .val (.int x2), .val (.int x3), .val (.long x4), .second, .val (.int (x1 + x2))] []) _ _ _
      refine own_go (fun _ => XS.iload X0.here hx rfl (hb hby d3_20) rfl) ?_
      show own_Fin _ _ _ _ s₁ (mkF m 22 #[.val (.ref x0), .val (.int x1), .val (.int x2), .val (.int x3), .val (.long x4), .second, .val (.int (x1 + x2))] [(.int (x1 + x2))]) _ _ _
      refine own_go (fun _ => XS.aloadN X0.here hx rfl (hb hby d3_22) rfl rfl) ?_
      show own_Fin _ _ _ _ s₁ (mkF m 23 #[.val (.ref x0), .val (.int x1), .val (.int x2), .val (.int x3), .val (.long x4), .second, .val (.int (x1 + x2))] [(.ref x0), (.int (x1 + x2))]) _ _ _
      refine own_go (own_aln X0 hx hZ e0 B0 rfl rfl (hb hby d3_23)) ?_
      show own_Fin _ _ _ _ s₁ (mkF m 24 #[.val (.ref x0), .val (.int x1), .val (.int x2), .val (.int x3), .val (.long x4), .second, .val (.int (x1 + x2))] [(.int (6 : Int32)), (.int (x1 + x2))]) _ _ _
      by_cases h24 : (x1 + x2) < (6 : Int32)
      · refine own_go (fun _ => XS.icmpNo X0.here hx rfl (hb hby d3_24) rfl (tlt h24).2.1) ?_
        show own_Fin _ _ _ _ s₁ (mkF m 27 #[.val (.ref x0), .val (.int x1), .val (.int x2), .val (.int x3), .val (.long x4), .second, .val (.int (x1 + x2))] []) _ _ _
        refine own_go (fun _ => XS.aloadN X0.here hx rfl (hb hby d3_27) rfl rfl) ?_
        show own_Fin _ _ _ _ s₁ (mkF m 28 #[.val (.ref x0), .val (.int x1), .val (.int x2), .val (.int x3), .val (.long x4), .second, .val (.int (x1 + x2))] [(.ref x0)]) _ _ _
        refine own_go (fun _ => XS.iload X0.here hx rfl (hb hby d3_28) rfl) ?_
        show own_Fin _ _ _ _ s₁ (mkF m 30 #[.val (.ref x0), .val (.int x1), .val (.int x2), .val (.int x3), .val (.long x4), .second, .val (.int (x1 + x2))] [(.int (x1 + x2)), (.ref x0)]) _ _ _
        refine own_go (own_bld X0 hx hZ e0 B0 (j := (x1 + x2)) (x1 + x2).toNatClampNeg h17 rfl (own_c6 h24) rfl rfl (hb hby d3_30)) ?_
        show own_Fin _ _ _ _ s₁ (mkF m 31 #[.val (.ref x0), .val (.int x1), .val (.int x2), .val (.int x3), .val (.long x4), .second, .val (.int (x1 + x2))] [(.int (f (x1 + x2).toNatClampNeg))]) _ _ _
        exact own_retZ X0 hx hnl (t := .byte) hret (by simp) (hb hby d3_31) (by decide) (by decide) ⟨_, rfl, N0, e0⟩
      · refine own_go (fun _ => XS.icmpYes X0.here hx rfl (pc0 := 24) (pc' := 32) rfl (hb hby d3_24) rfl (flt h24).2.1 (by decide) (by decide)) ?_
        show own_Fin _ _ _ _ s₁ (mkF m 32 #[.val (.ref x0), .val (.int x1), .val (.int x2), .val (.int x3), .val (.long x4), .second, .val (.int (x1 + x2))] []) _ _ _
        refine own_go (fun _ => XS.lload X0.here hx rfl (hb hby d3_32) rfl) ?_
        show own_Fin _ _ _ _ s₁ (mkF m 34 #[.val (.ref x0), .val (.int x1), .val (.int x2), .val (.int x3), .val (.long x4), .second, .val (.int (x1 + x2))] [(.long x4)]) _ _ _
        refine own_go (fun _ => XS.iloadN X0.here hx rfl (hb hby d3_34) rfl) ?_
        show own_Fin _ _ _ _ s₁ (mkF m 35 #[.val (.ref x0), .val (.int x1), .val (.int x2), .val (.int x3), .val (.long x4), .second, .val (.int (x1 + x2))] [(.int x2), (.long x4)]) _ _ _
        obtain ⟨_, _, ⟨T3, L3, k3, n3⟩, -, X3, ⟨Lc3, hQ3, l3, y3, z3⟩, st3⟩ := Jvm.LawKit.callS X0 hx (y := (⟨"com/example/jitlens/jitlens/LogTextStartsWithPinLaw", "drawn", "(JI)B"⟩ : MethodName)) hown (mvT hZ (hw _ (List.mem_of_getElem? (i := 1) rfl))) (mvT hZ (hw _ (List.mem_of_getElem? (i := 2) rfl))) (mvT hZ (hw _ (List.mem_of_getElem? (i := 3) rfl))) (mvT hZ (hw _ (List.mem_of_getElem? (i := 4) rfl))) (by decide) (backOf (W := 0) (rm1 l Z a0 hw [] x4 x2  h0 n0 Z0 ) hZ (hw _ (List.mem_of_getElem? (i := 4) rfl)) (hw _ (List.mem_of_getElem? (i := 3) rfl)) (by decide) (by decide)) (g := (mkF m 35 #[.val (.ref x0), .val (.int x1), .val (.int x2), .val (.int x3), .val (.long x4), .second, .val (.int (x1 + x2))] [(.int x2), (.long x4)])) rfl (by rw [hml]; rfl) (argsL := [(.long x4), (.int x2)]) (rest := []) (lenOf pd_0 rfl) rfl (by show 2 * 0 + _ ≤ _; exact Nat.le_of_eq rfl) (hb hby d3_35) (fun _ _ => ⟨rfl, e0, (by decide : 0 + 0 ≤ _), (by decide : 0 + 0 ≤ _)⟩)
        dsimp only [Pt.U, Pt.locs, Pt.cells, Pt.slots] at X3 l3 y3 z3 st3 hQ3
        subst l3 y3 z3
        obtain ⟨r3, rfl, N3q, e3⟩ := hQ3
        have N3 := Fr.app N0 N3q
        refine own_go st3 ?_
        show own_Fin _ _ _ _ T3 (mkF m 38 #[.val (.ref x0), .val (.int x1), .val (.int x2), .val (.int x3), .val (.long x4), .second, .val (.int (x1 + x2))] [(.int r3)]) _ _ _
        exact own_retZ X3 hx hnl (t := .byte) hret (by simp) (hb hby d3_38) (by decide) (by decide) ⟨_, rfl, N3, e3⟩

theorem own_ix {a b i N : Int32} (h1 : ¬ a < 0) (ha : a.toInt < 9) (h9 : ¬ b < a + N) (hb : b.toInt ≤ 6) (hi : 0 ≤ i.toInt ∧ i.toInt < N.toInt ∧ N.toInt ≤ 3) : ¬ (a + i < 0) ∧ (a + i).toNatClampNeg < 6 := by
  have e0 : (0 : Int32).toInt = 0 := by decide
  rw [own_lt, e0] at h1
  have q1 : (a + i).toInt = a.toInt + i.toInt := Jvm.Kit.i32_add (by omega) (by omega)
  have q2 : (a + N).toInt = a.toInt + N.toInt := Jvm.Kit.i32_add (by omega) (by omega)
  rw [own_lt, q2] at h9
  refine ⟨by rw [own_lt, q1, e0]; omega, ?_⟩
  simp only [Int32.toNatClampNeg, q1]; omega

def own_sw0 (x1 x2 : Int32) (f g : Nat → Int32) : Int32 := if x1 < 0 then 0 else if x2 < x1 + 0 then 0 else 1
theorem d2_0 : decode prog_103_method_6_code 0 = .ok (.iload_n 1, 1) := by decide +kernel
theorem d2_1 : decode prog_103_method_6_code 1 = .ok (.ifCond .lt 11, 3) := by decide +kernel
theorem d2_4 : decode prog_103_method_6_code 4 = .ok (.iload_n 1, 1) := by decide +kernel
theorem d2_5 : decode prog_103_method_6_code 5 = .ok (.aload_n 3, 1) := by decide +kernel
theorem d2_6 : decode prog_103_method_6_code 6 = .ok (.arraylength, 1) := by decide +kernel
theorem d2_7 : decode prog_103_method_6_code 7 = .ok (.iadd, 1) := by decide +kernel
theorem d2_8 : decode prog_103_method_6_code 8 = .ok (.iload_n 2, 1) := by decide +kernel
theorem d2_9 : decode prog_103_method_6_code 9 = .ok (.if_icmp .le 5, 3) := by decide +kernel
theorem d2_12 : decode prog_103_method_6_code 12 = .ok (.iconst 0, 1) := by decide +kernel
theorem d2_13 : decode prog_103_method_6_code 13 = .ok (.ireturn, 1) := by decide +kernel
theorem d2_14 : decode prog_103_method_6_code 14 = .ok (.iconst 0, 1) := by decide +kernel
theorem d2_15 : decode prog_103_method_6_code 15 = .ok (.istore 4, 2) := by decide +kernel
theorem d2_17 : decode prog_103_method_6_code 17 = .ok (.iload 4, 2) := by decide +kernel
theorem d2_19 : decode prog_103_method_6_code 19 = .ok (.aload_n 3, 1) := by decide +kernel
theorem d2_20 : decode prog_103_method_6_code 20 = .ok (.arraylength, 1) := by decide +kernel
theorem d2_21 : decode prog_103_method_6_code 21 = .ok (.if_icmp .ge 24, 3) := by decide +kernel
theorem d2_45 : decode prog_103_method_6_code 45 = .ok (.iconst 1, 1) := by decide +kernel
theorem d2_46 : decode prog_103_method_6_code 46 = .ok (.ireturn, 1) := by decide +kernel
theorem pn_2 : plainName "com/example/jitlens/jitlens/LogText" = true := by first | (simp [plainName, overriddenIn]; done) | decide +kernel
theorem ef_2 (m : MethodId) (x0 : Addr) (x1 : Int32) (x2 : Int32) (x3 : Addr) : entryFrame m #[(.ref x0), (.int x1), (.int x2), (.ref x3)] 5 = mkF m 0 #[.val (.ref x0), .val (.int x1), .val (.int x2), .val (.ref x3), .unset] [] := by first | (simp [entryFrame, mkF, argsToLocals, Value.category]; done) | rfl
def Q2_0 (Z : State) (x0 : Addr) (x1 : Int32) (x2 : Int32) (x3 : Addr) (f : Nat → Int32) (g : Nat → Int32) (h0 : Heap) (n0 : Nat) (v : Option Value) (h : Heap) (L : List Loc) : Prop := v = some (.int (own_sw0 x1 x2 f g)) ∧ Fr n0 L ∧ h = h0
set_option maxRecDepth 65536 in
set_option maxHeartbeats 40000000 in
theorem rm2_0 (l : Launch) (Z : State) (a0 : Array Value) (hw : ∀ d ∈ tables_1, d.before a0 Z = true) (ws : List Jvm.Cond) (x0 : Addr) (x1 : Int32) (x2 : Int32) (x3 : Addr) (f : Nat → Int32) (g : Nat → Int32) (h0 : Heap) (n0 : Nat) (Z0 : n0 ≤ h0.size) (B0 : own_Ba Z h0 x0 6 f) (B3 : own_Ba Z h0 x3 0 g) (hat : x1.toInt < 9) (hto : x2.toInt ≤ 6) :
    MetFree l (⟨"com/example/jitlens/jitlens/LogText", "startsWith", "([BII[B)Z"⟩ : MethodName) (head1 (Jvm.Cond.code (⟨"com/example/jitlens/jitlens/LogText", "startsWith", "([BII[B)Z"⟩ : MethodName) prog_103_method_6_code 5 (some .boolean) :: ws) ({ frames := 0, cells := 0, slots := 0, locals := 0 } : Room)) (fun a U => a = #[(.ref x0), (.int x1), (.int x2), (.ref x3)] ∧ Z.Warmed39 U.vm ∧ U.heap = h0) (fun _ _ _ _ _ => True) (fun _ U o U' => ∃ v L, o = .returned v ∧ Q2_0 Z x0 x1 x2 x3 f g h0 n0 v U'.heap L ∧ FrameEnd U o U' L ({ frames := 0, cells := 0, slots := 0, locals := 0 } : Room).cells ({ frames := 0, cells := 0, slots := 0, locals := 0 } : Room).slots) := by
  refine MetFree.of_bodySF (plainFor_of_name pn_2) hisR ?_
  intro p e s m args below meth c s₁ Bd hml0 hP hK
  obtain ⟨rfl, hZ, hh⟩ := hP
  have hx := Bd.exec
  have hby := Bd.bytes
  have hret := Bd.returns
  have hnl : meth.locks = false := Bd.notSynchronized
  have hml : c.maxLocals = 5 := hml0
  have hown : s.vm.findClass "com/example/jitlens/jitlens/LogText" = some m.cls := findClass_of_methodNamed Bd.named
  have hnm := (name_of_methodNamed Bd.named Bd.method).1
  have X0 : Stand p l e ({ frames := 0, cells := 0, slots := 0, locals := 0 } : Room) s m #[(.ref x0), (.int x1), (.int x2), (.ref x3)] below meth c s₁ [] 0 0 := Stand.of_body Bd
  have e0 : s₁.heap = h0 := by rw [← hh, Bd.state]; rfl
  have N0 := Fr.nil n0
  suffices key : own_Fin p e below s s₁ (mkF m 0 #[.val (.ref x0), .val (.int x1), .val (.int x2), .val (.ref x3), .unset] []) (Q2_0 Z x0 x1 x2 x3 f g h0 n0) ({ frames := 0, cells := 0, slots := 0, locals := 0 } : Room).cells ({ frames := 0, cells := 0, slots := 0, locals := 0 } : Room).slots by
    obtain ⟨s2, o, h1, h2⟩ := key
    exact ⟨s2, o, castTop (ef_2 m x0 x1 x2 x3) h1, h2⟩
  refine own_go (fun _ => XS.iloadN X0.here hx rfl (hb hby d2_0) rfl) ?_
  show own_Fin _ _ _ _ s₁ (mkF m 1 #[.val (.ref x0), .val (.int x1), .val (.int x2), .val (.ref x3), .unset] [(.int x1)]) _ _ _
  by_cases h1 : x1 < (0 : Int32)
  · refine own_go (fun _ => XS.ifYes X0.here hx rfl (pc0 := 1) (pc' := 12) rfl (hb hby d2_1) rfl ((if0 _ _).trans (tlt h1).1) (by decide) (by decide)) ?_
    show own_Fin _ _ _ _ s₁ (mkF m 12 #[.val (.ref x0), .val (.int x1), .val (.int x2), .val (.ref x3), .unset] []) _ _ _
    refine own_go (fun _ => XS.iconst X0.here hx rfl (hb hby d2_12)) ?_
    show own_Fin _ _ _ _ s₁ (mkF m 13 #[.val (.ref x0), .val (.int x1), .val (.int x2), .val (.ref x3), .unset] [(.int (0 : Int32))]) _ _ _
    exact own_retZ X0 hx hnl (t := .boolean) hret (by simp) (hb hby d2_13) (by decide) (by decide) ⟨congrArg (fun z => some (Value.int z)) (show ((0 : Int32) : Int32) = own_sw0 x1 x2 f g from by simp only [own_sw0, if_pos h1]), N0, e0⟩
  · refine own_go (fun _ => XS.ifNo X0.here hx rfl (hb hby d2_1) rfl ((if0 _ _).trans (flt h1).1)) ?_
    show own_Fin _ _ _ _ s₁ (mkF m 4 #[.val (.ref x0), .val (.int x1), .val (.int x2), .val (.ref x3), .unset] []) _ _ _
    refine own_go (fun _ => XS.iloadN X0.here hx rfl (hb hby d2_4) rfl) ?_
    show own_Fin _ _ _ _ s₁ (mkF m 5 #[.val (.ref x0), .val (.int x1), .val (.int x2), .val (.ref x3), .unset] [(.int x1)]) _ _ _
    refine own_go (fun _ => XS.aloadN X0.here hx rfl (hb hby d2_5) rfl rfl) ?_
    show own_Fin _ _ _ _ s₁ (mkF m 6 #[.val (.ref x0), .val (.int x1), .val (.int x2), .val (.ref x3), .unset] [(.ref x3), (.int x1)]) _ _ _
    refine own_go (own_aln X0 hx hZ e0 B3 rfl rfl (hb hby d2_6)) ?_
    show own_Fin _ _ _ _ s₁ (mkF m 7 #[.val (.ref x0), .val (.int x1), .val (.int x2), .val (.ref x3), .unset] [(.int (0 : Int32)), (.int x1)]) _ _ _
    refine own_go (fun _ => XS.iadd X0.here hx rfl (hb hby d2_7) rfl) ?_
    show own_Fin _ _ _ _ s₁ (mkF m 8 #[.val (.ref x0), .val (.int x1), .val (.int x2), .val (.ref x3), .unset] [(.int (x1 + (0 : Int32)))]) _ _ _
    refine own_go (fun _ => XS.iloadN X0.here hx rfl (hb hby d2_8) rfl) ?_
    show own_Fin _ _ _ _ s₁ (mkF m 9 #[.val (.ref x0), .val (.int x1), .val (.int x2), .val (.ref x3), .unset] [(.int x2), (.int (x1 + (0 : Int32)))]) _ _ _
    by_cases h9 : x2 < (x1 + (0 : Int32))
    · refine own_go (fun _ => XS.icmpNo X0.here hx rfl (hb hby d2_9) rfl (tlt h9).2.2.2) ?_
      show own_Fin _ _ _ _ s₁ (mkF m 12 #[.val (.ref x0), .val (.int x1), .val (.int x2), .val (.ref x3), .unset] []) _ _ _
      refine own_go (fun _ => XS.iconst X0.here hx rfl (hb hby d2_12)) ?_
      show own_Fin _ _ _ _ s₁ (mkF m 13 #[.val (.ref x0), .val (.int x1), .val (.int x2), .val (.ref x3), .unset] [(.int (0 : Int32))]) _ _ _
      exact own_retZ X0 hx hnl (t := .boolean) hret (by simp) (hb hby d2_13) (by decide) (by decide) ⟨congrArg (fun z => some (Value.int z)) (show ((0 : Int32) : Int32) = own_sw0 x1 x2 f g from by simp only [own_sw0, if_neg h1, if_pos h9]), N0, e0⟩
    · refine own_go (fun _ => XS.icmpYes X0.here hx rfl (pc0 := 9) (pc' := 14) rfl (hb hby d2_9) rfl (flt h9).2.2.2 (by decide) (by decide)) ?_
      show own_Fin _ _ _ _ s₁ (mkF m 14 #[.val (.ref x0), .val (.int x1), .val (.int x2), .val (.ref x3), .unset] []) _ _ _
      refine own_go (fun _ => XS.iconst X0.here hx rfl (hb hby d2_14)) ?_
      show own_Fin _ _ _ _ s₁ (mkF m 15 #[.val (.ref x0), .val (.int x1), .val (.int x2), .val (.ref x3), .unset] [(.int (0 : Int32))]) _ _ _
      refine own_go (fun _ => XS.istore X0.here hx rfl (hb hby d2_15) rfl (l' := #[.val (.ref x0), .val (.int x1), .val (.int x2), .val (.ref x3), .val (.int (0 : Int32))]) rfl) ?_
      show own_Fin _ _ _ _ s₁ (mkF m 17 #[.val (.ref x0), .val (.int x1), .val (.int x2), .val (.ref x3), .val (.int (0 : Int32))] []) _ _ _
      refine own_go (fun _ => XS.iload X0.here hx rfl (hb hby d2_17) rfl) ?_
      show own_Fin _ _ _ _ s₁ (mkF m 19 #[.val (.ref x0), .val (.int x1), .val (.int x2), .val (.ref x3), .val (.int (0 : Int32))] [(.int (0 : Int32))]) _ _ _
      refine own_go (fun _ => XS.aloadN X0.here hx rfl (hb hby d2_19) rfl rfl) ?_
      show own_Fin _ _ _ _ s₁ (mkF m 20 #[.val (.ref x0), .val (.int x1), .val (.int x2), .val (.ref x3), .val (.int (0 : Int32))] [(.ref x3), (.int (0 : Int32))]) _ _ _
      refine own_go (own_aln X0 hx hZ e0 B3 rfl rfl (hb hby d2_20)) ?_
      show own_Fin _ _ _ _ s₁ (mkF m 21 #[.val (.ref x0), .val (.int x1), .val (.int x2), .val (.ref x3), .val (.int (0 : Int32))] [(.int (0 : Int32)), (.int (0 : Int32))]) _ _ _
      refine own_go (fun _ => XS.icmpYes X0.here hx rfl (pc0 := 21) (pc' := 45) rfl (hb hby d2_21) rfl (flt (show ¬ ((0 : Int32) < (0 : Int32)) from (by decide))).2.1 (by decide) (by decide)) ?_
      show own_Fin _ _ _ _ s₁ (mkF m 45 #[.val (.ref x0), .val (.int x1), .val (.int x2), .val (.ref x3), .val (.int (0 : Int32))] []) _ _ _
      refine own_go (fun _ => XS.iconst X0.here hx rfl (hb hby d2_45)) ?_
      show own_Fin _ _ _ _ s₁ (mkF m 46 #[.val (.ref x0), .val (.int x1), .val (.int x2), .val (.ref x3), .val (.int (0 : Int32))] [(.int (1 : Int32))]) _ _ _
      exact own_retZ X0 hx hnl (t := .boolean) hret (by simp) (hb hby d2_46) (by decide) (by decide) ⟨congrArg (fun z => some (Value.int z)) (show ((1 : Int32) : Int32) = own_sw0 x1 x2 f g from by simp only [own_sw0, if_neg h1, if_neg h9]), N0, e0⟩

def own_sw1 (x1 x2 : Int32) (f g : Nat → Int32) : Int32 := if x1 < 0 then 0 else if x2 < x1 + 1 then 0 else if f x1.toNatClampNeg = g 0 then 1 else 0
theorem d2_24 : decode prog_103_method_6_code 24 = .ok (.aload_n 0, 1) := by decide +kernel
theorem d2_25 : decode prog_103_method_6_code 25 = .ok (.iload_n 1, 1) := by decide +kernel
theorem d2_26 : decode prog_103_method_6_code 26 = .ok (.iload 4, 2) := by decide +kernel
theorem d2_28 : decode prog_103_method_6_code 28 = .ok (.iadd, 1) := by decide +kernel
theorem d2_29 : decode prog_103_method_6_code 29 = .ok (.baload, 1) := by decide +kernel
theorem d2_30 : decode prog_103_method_6_code 30 = .ok (.aload_n 3, 1) := by decide +kernel
theorem d2_31 : decode prog_103_method_6_code 31 = .ok (.iload 4, 2) := by decide +kernel
theorem d2_33 : decode prog_103_method_6_code 33 = .ok (.baload, 1) := by decide +kernel
theorem d2_34 : decode prog_103_method_6_code 34 = .ok (.if_icmp .eq 5, 3) := by decide +kernel
theorem d2_37 : decode prog_103_method_6_code 37 = .ok (.iconst 0, 1) := by decide +kernel
theorem d2_38 : decode prog_103_method_6_code 38 = .ok (.ireturn, 1) := by decide +kernel
theorem d2_39 : decode prog_103_method_6_code 39 = .ok (.iinc 4 1, 3) := by decide +kernel
theorem d2_42 : decode prog_103_method_6_code 42 = .ok (.goto (-25), 3) := by decide +kernel
def Q2_1 (Z : State) (x0 : Addr) (x1 : Int32) (x2 : Int32) (x3 : Addr) (f : Nat → Int32) (g : Nat → Int32) (h0 : Heap) (n0 : Nat) (v : Option Value) (h : Heap) (L : List Loc) : Prop := v = some (.int (own_sw1 x1 x2 f g)) ∧ Fr n0 L ∧ h = h0
set_option maxRecDepth 65536 in
set_option maxHeartbeats 40000000 in
theorem rm2_1 (l : Launch) (Z : State) (a0 : Array Value) (hw : ∀ d ∈ tables_1, d.before a0 Z = true) (ws : List Jvm.Cond) (x0 : Addr) (x1 : Int32) (x2 : Int32) (x3 : Addr) (f : Nat → Int32) (g : Nat → Int32) (h0 : Heap) (n0 : Nat) (Z0 : n0 ≤ h0.size) (B0 : own_Ba Z h0 x0 6 f) (B3 : own_Ba Z h0 x3 1 g) (hat : x1.toInt < 9) (hto : x2.toInt ≤ 6) :
    MetFree l (⟨"com/example/jitlens/jitlens/LogText", "startsWith", "([BII[B)Z"⟩ : MethodName) (head1 (Jvm.Cond.code (⟨"com/example/jitlens/jitlens/LogText", "startsWith", "([BII[B)Z"⟩ : MethodName) prog_103_method_6_code 5 (some .boolean) :: ws) ({ frames := 0, cells := 0, slots := 0, locals := 0 } : Room)) (fun a U => a = #[(.ref x0), (.int x1), (.int x2), (.ref x3)] ∧ Z.Warmed39 U.vm ∧ U.heap = h0) (fun _ _ _ _ _ => True) (fun _ U o U' => ∃ v L, o = .returned v ∧ Q2_1 Z x0 x1 x2 x3 f g h0 n0 v U'.heap L ∧ FrameEnd U o U' L ({ frames := 0, cells := 0, slots := 0, locals := 0 } : Room).cells ({ frames := 0, cells := 0, slots := 0, locals := 0 } : Room).slots) := by
  refine MetFree.of_bodySF (plainFor_of_name pn_2) hisR ?_
  intro p e s m args below meth c s₁ Bd hml0 hP hK
  obtain ⟨rfl, hZ, hh⟩ := hP
  have hx := Bd.exec
  have hby := Bd.bytes
  have hret := Bd.returns
  have hnl : meth.locks = false := Bd.notSynchronized
  have hml : c.maxLocals = 5 := hml0
  have hown : s.vm.findClass "com/example/jitlens/jitlens/LogText" = some m.cls := findClass_of_methodNamed Bd.named
  have hnm := (name_of_methodNamed Bd.named Bd.method).1
  have X0 : Stand p l e ({ frames := 0, cells := 0, slots := 0, locals := 0 } : Room) s m #[(.ref x0), (.int x1), (.int x2), (.ref x3)] below meth c s₁ [] 0 0 := Stand.of_body Bd
  have e0 : s₁.heap = h0 := by rw [← hh, Bd.state]; rfl
  have N0 := Fr.nil n0
  suffices key : own_Fin p e below s s₁ (mkF m 0 #[.val (.ref x0), .val (.int x1), .val (.int x2), .val (.ref x3), .unset] []) (Q2_1 Z x0 x1 x2 x3 f g h0 n0) ({ frames := 0, cells := 0, slots := 0, locals := 0 } : Room).cells ({ frames := 0, cells := 0, slots := 0, locals := 0 } : Room).slots by
    obtain ⟨s2, o, h1, h2⟩ := key
    exact ⟨s2, o, castTop (ef_2 m x0 x1 x2 x3) h1, h2⟩
  refine own_go (fun _ => XS.iloadN X0.here hx rfl (hb hby d2_0) rfl) ?_
  show own_Fin _ _ _ _ s₁ (mkF m 1 #[.val (.ref x0), .val (.int x1), .val (.int x2), .val (.ref x3), .unset] [(.int x1)]) _ _ _
  by_cases h1 : x1 < (0 : Int32)
  · refine own_go (fun _ => XS.ifYes X0.here hx rfl (pc0 := 1) (pc' := 12) rfl (hb hby d2_1) rfl ((if0 _ _).trans (tlt h1).1) (by decide) (by decide)) ?_
    show own_Fin _ _ _ _ s₁ (mkF m 12 #[.val (.ref x0), .val (.int x1), .val (.int x2), .val (.ref x3), .unset] []) _ _ _
    refine own_go (fun _ => XS.iconst X0.here hx rfl (hb hby d2_12)) ?_
    show own_Fin _ _ _ _ s₁ (mkF m 13 #[.val (.ref x0), .val (.int x1), .val (.int x2), .val (.ref x3), .unset] [(.int (0 : Int32))]) _ _ _
    exact own_retZ X0 hx hnl (t := .boolean) hret (by simp) (hb hby d2_13) (by decide) (by decide) ⟨congrArg (fun z => some (Value.int z)) (show ((0 : Int32) : Int32) = own_sw1 x1 x2 f g from by simp only [own_sw1, if_pos h1]), N0, e0⟩
  · refine own_go (fun _ => XS.ifNo X0.here hx rfl (hb hby d2_1) rfl ((if0 _ _).trans (flt h1).1)) ?_
    show own_Fin _ _ _ _ s₁ (mkF m 4 #[.val (.ref x0), .val (.int x1), .val (.int x2), .val (.ref x3), .unset] []) _ _ _
    refine own_go (fun _ => XS.iloadN X0.here hx rfl (hb hby d2_4) rfl) ?_
    show own_Fin _ _ _ _ s₁ (mkF m 5 #[.val (.ref x0), .val (.int x1), .val (.int x2), .val (.ref x3), .unset] [(.int x1)]) _ _ _
    refine own_go (fun _ => XS.aloadN X0.here hx rfl (hb hby d2_5) rfl rfl) ?_
    show own_Fin _ _ _ _ s₁ (mkF m 6 #[.val (.ref x0), .val (.int x1), .val (.int x2), .val (.ref x3), .unset] [(.ref x3), (.int x1)]) _ _ _
    refine own_go (own_aln X0 hx hZ e0 B3 rfl rfl (hb hby d2_6)) ?_
    show own_Fin _ _ _ _ s₁ (mkF m 7 #[.val (.ref x0), .val (.int x1), .val (.int x2), .val (.ref x3), .unset] [(.int (1 : Int32)), (.int x1)]) _ _ _
    refine own_go (fun _ => XS.iadd X0.here hx rfl (hb hby d2_7) rfl) ?_
    show own_Fin _ _ _ _ s₁ (mkF m 8 #[.val (.ref x0), .val (.int x1), .val (.int x2), .val (.ref x3), .unset] [(.int (x1 + (1 : Int32)))]) _ _ _
    refine own_go (fun _ => XS.iloadN X0.here hx rfl (hb hby d2_8) rfl) ?_
    show own_Fin _ _ _ _ s₁ (mkF m 9 #[.val (.ref x0), .val (.int x1), .val (.int x2), .val (.ref x3), .unset] [(.int x2), (.int (x1 + (1 : Int32)))]) _ _ _
    by_cases h9 : x2 < (x1 + (1 : Int32))
    · refine own_go (fun _ => XS.icmpNo X0.here hx rfl (hb hby d2_9) rfl (tlt h9).2.2.2) ?_
      show own_Fin _ _ _ _ s₁ (mkF m 12 #[.val (.ref x0), .val (.int x1), .val (.int x2), .val (.ref x3), .unset] []) _ _ _
      refine own_go (fun _ => XS.iconst X0.here hx rfl (hb hby d2_12)) ?_
      show own_Fin _ _ _ _ s₁ (mkF m 13 #[.val (.ref x0), .val (.int x1), .val (.int x2), .val (.ref x3), .unset] [(.int (0 : Int32))]) _ _ _
      exact own_retZ X0 hx hnl (t := .boolean) hret (by simp) (hb hby d2_13) (by decide) (by decide) ⟨congrArg (fun z => some (Value.int z)) (show ((0 : Int32) : Int32) = own_sw1 x1 x2 f g from by simp only [own_sw1, if_neg h1, if_pos h9]), N0, e0⟩
    · refine own_go (fun _ => XS.icmpYes X0.here hx rfl (pc0 := 9) (pc' := 14) rfl (hb hby d2_9) rfl (flt h9).2.2.2 (by decide) (by decide)) ?_
      show own_Fin _ _ _ _ s₁ (mkF m 14 #[.val (.ref x0), .val (.int x1), .val (.int x2), .val (.ref x3), .unset] []) _ _ _
      refine own_go (fun _ => XS.iconst X0.here hx rfl (hb hby d2_14)) ?_
      show own_Fin _ _ _ _ s₁ (mkF m 15 #[.val (.ref x0), .val (.int x1), .val (.int x2), .val (.ref x3), .unset] [(.int (0 : Int32))]) _ _ _
      refine own_go (fun _ => XS.istore X0.here hx rfl (hb hby d2_15) rfl (l' := #[.val (.ref x0), .val (.int x1), .val (.int x2), .val (.ref x3), .val (.int (0 : Int32))]) rfl) ?_
      show own_Fin _ _ _ _ s₁ (mkF m 17 #[.val (.ref x0), .val (.int x1), .val (.int x2), .val (.ref x3), .val (.int (0 : Int32))] []) _ _ _
      refine own_go (fun _ => XS.iload X0.here hx rfl (hb hby d2_17) rfl) ?_
      show own_Fin _ _ _ _ s₁ (mkF m 19 #[.val (.ref x0), .val (.int x1), .val (.int x2), .val (.ref x3), .val (.int (0 : Int32))] [(.int (0 : Int32))]) _ _ _
      refine own_go (fun _ => XS.aloadN X0.here hx rfl (hb hby d2_19) rfl rfl) ?_
      show own_Fin _ _ _ _ s₁ (mkF m 20 #[.val (.ref x0), .val (.int x1), .val (.int x2), .val (.ref x3), .val (.int (0 : Int32))] [(.ref x3), (.int (0 : Int32))]) _ _ _
      refine own_go (own_aln X0 hx hZ e0 B3 rfl rfl (hb hby d2_20)) ?_
      show own_Fin _ _ _ _ s₁ (mkF m 21 #[.val (.ref x0), .val (.int x1), .val (.int x2), .val (.ref x3), .val (.int (0 : Int32))] [(.int (1 : Int32)), (.int (0 : Int32))]) _ _ _
      refine own_go (fun _ => XS.icmpNo X0.here hx rfl (hb hby d2_21) rfl (tlt (show (0 : Int32) < (1 : Int32) from (by decide))).2.1) ?_
      show own_Fin _ _ _ _ s₁ (mkF m 24 #[.val (.ref x0), .val (.int x1), .val (.int x2), .val (.ref x3), .val (.int (0 : Int32))] []) _ _ _
      refine own_go (fun _ => XS.aloadN X0.here hx rfl (hb hby d2_24) rfl rfl) ?_
      show own_Fin _ _ _ _ s₁ (mkF m 25 #[.val (.ref x0), .val (.int x1), .val (.int x2), .val (.ref x3), .val (.int (0 : Int32))] [(.ref x0)]) _ _ _
      refine own_go (fun _ => XS.iloadN X0.here hx rfl (hb hby d2_25) rfl) ?_
      show own_Fin _ _ _ _ s₁ (mkF m 26 #[.val (.ref x0), .val (.int x1), .val (.int x2), .val (.ref x3), .val (.int (0 : Int32))] [(.int x1), (.ref x0)]) _ _ _
      refine own_go (fun _ => XS.iload X0.here hx rfl (hb hby d2_26) rfl) ?_
      show own_Fin _ _ _ _ s₁ (mkF m 28 #[.val (.ref x0), .val (.int x1), .val (.int x2), .val (.ref x3), .val (.int (0 : Int32))] [(.int (0 : Int32)), (.int x1), (.ref x0)]) _ _ _
      refine own_go (fun _ => XS.iadd X0.here hx rfl (hb hby d2_28) rfl) ?_
      show own_Fin _ _ _ _ s₁ (mkF m 29 #[.val (.ref x0), .val (.int x1), .val (.int x2), .val (.ref x3), .val (.int (0 : Int32))] [(.int (x1 + (0 : Int32))), (.ref x0)]) _ _ _
      refine own_go (own_bld X0 hx hZ e0 B0 (j := (x1 + (0 : Int32))) x1.toNatClampNeg (own_ix (i := 0) (N := 1) h1 hat h9 hto (by decide)).1 (congrArg Int32.toNatClampNeg (Int32.add_zero x1)) (by have := (own_ix (i := 0) (N := 1) h1 hat h9 hto (by decide)).2; rwa [Int32.add_zero] at this) rfl rfl (hb hby d2_29)) ?_
      show own_Fin _ _ _ _ s₁ (mkF m 30 #[.val (.ref x0), .val (.int x1), .val (.int x2), .val (.ref x3), .val (.int (0 : Int32))] [(.int (f x1.toNatClampNeg))]) _ _ _
      refine own_go (fun _ => XS.aloadN X0.here hx rfl (hb hby d2_30) rfl rfl) ?_
      show own_Fin _ _ _ _ s₁ (mkF m 31 #[.val (.ref x0), .val (.int x1), .val (.int x2), .val (.ref x3), .val (.int (0 : Int32))] [(.ref x3), (.int (f x1.toNatClampNeg))]) _ _ _
      refine own_go (fun _ => XS.iload X0.here hx rfl (hb hby d2_31) rfl) ?_
      show own_Fin _ _ _ _ s₁ (mkF m 33 #[.val (.ref x0), .val (.int x1), .val (.int x2), .val (.ref x3), .val (.int (0 : Int32))] [(.int (0 : Int32)), (.ref x3), (.int (f x1.toNatClampNeg))]) _ _ _
      refine own_go (own_bld X0 hx hZ e0 B3 (j := (0 : Int32)) 0 (by decide) rfl (by decide) rfl rfl (hb hby d2_33)) ?_
      show own_Fin _ _ _ _ s₁ (mkF m 34 #[.val (.ref x0), .val (.int x1), .val (.int x2), .val (.ref x3), .val (.int (0 : Int32))] [(.int (g 0)), (.int (f x1.toNatClampNeg))]) _ _ _
      by_cases h34 : (f x1.toNatClampNeg) = (g 0)
      · refine own_go (fun _ => XS.icmpYes X0.here hx rfl (pc0 := 34) (pc' := 39) rfl (hb hby d2_34) rfl (teq h34).1 (by decide) (by decide)) ?_
        show own_Fin _ _ _ _ s₁ (mkF m 39 #[.val (.ref x0), .val (.int x1), .val (.int x2), .val (.ref x3), .val (.int (0 : Int32))] []) _ _ _
        refine own_go (fun _ => XS.iinc X0.here hx rfl (hb hby d2_39) rfl (l' := #[.val (.ref x0), .val (.int x1), .val (.int x2), .val (.ref x3), .val (.int (1 : Int32))]) rfl) ?_
        show own_Fin _ _ _ _ s₁ (mkF m 42 #[.val (.ref x0), .val (.int x1), .val (.int x2), .val (.ref x3), .val (.int (1 : Int32))] []) _ _ _
        refine own_go (fun _ => XS.goto X0.here hx rfl (pc0 := 42) (pc' := 17) rfl (hb hby d2_42) (by decide) (by decide)) ?_
        show own_Fin _ _ _ _ s₁ (mkF m 17 #[.val (.ref x0), .val (.int x1), .val (.int x2), .val (.ref x3), .val (.int (1 : Int32))] []) _ _ _
        refine own_go (fun _ => XS.iload X0.here hx rfl (hb hby d2_17) rfl) ?_
        show own_Fin _ _ _ _ s₁ (mkF m 19 #[.val (.ref x0), .val (.int x1), .val (.int x2), .val (.ref x3), .val (.int (1 : Int32))] [(.int (1 : Int32))]) _ _ _
        refine own_go (fun _ => XS.aloadN X0.here hx rfl (hb hby d2_19) rfl rfl) ?_
        show own_Fin _ _ _ _ s₁ (mkF m 20 #[.val (.ref x0), .val (.int x1), .val (.int x2), .val (.ref x3), .val (.int (1 : Int32))] [(.ref x3), (.int (1 : Int32))]) _ _ _
        refine own_go (own_aln X0 hx hZ e0 B3 rfl rfl (hb hby d2_20)) ?_
        show own_Fin _ _ _ _ s₁ (mkF m 21 #[.val (.ref x0), .val (.int x1), .val (.int x2), .val (.ref x3), .val (.int (1 : Int32))] [(.int (1 : Int32)), (.int (1 : Int32))]) _ _ _
        refine own_go (fun _ => XS.icmpYes X0.here hx rfl (pc0 := 21) (pc' := 45) rfl (hb hby d2_21) rfl (flt (show ¬ ((1 : Int32) < (1 : Int32)) from (by decide))).2.1 (by decide) (by decide)) ?_
        show own_Fin _ _ _ _ s₁ (mkF m 45 #[.val (.ref x0), .val (.int x1), .val (.int x2), .val (.ref x3), .val (.int (1 : Int32))] []) _ _ _
        refine own_go (fun _ => XS.iconst X0.here hx rfl (hb hby d2_45)) ?_
        show own_Fin _ _ _ _ s₁ (mkF m 46 #[.val (.ref x0), .val (.int x1), .val (.int x2), .val (.ref x3), .val (.int (1 : Int32))] [(.int (1 : Int32))]) _ _ _
        exact own_retZ X0 hx hnl (t := .boolean) hret (by simp) (hb hby d2_46) (by decide) (by decide) ⟨congrArg (fun z => some (Value.int z)) (show ((1 : Int32) : Int32) = own_sw1 x1 x2 f g from by simp only [own_sw1, if_neg h1, if_neg h9, if_pos h34]), N0, e0⟩
      · refine own_go (fun _ => XS.icmpNo X0.here hx rfl (hb hby d2_34) rfl (feq h34).1) ?_
        show own_Fin _ _ _ _ s₁ (mkF m 37 #[.val (.ref x0), .val (.int x1), .val (.int x2), .val (.ref x3), .val (.int (0 : Int32))] []) _ _ _
        refine own_go (fun _ => XS.iconst X0.here hx rfl (hb hby d2_37)) ?_
        show own_Fin _ _ _ _ s₁ (mkF m 38 #[.val (.ref x0), .val (.int x1), .val (.int x2), .val (.ref x3), .val (.int (0 : Int32))] [(.int (0 : Int32))]) _ _ _
        exact own_retZ X0 hx hnl (t := .boolean) hret (by simp) (hb hby d2_38) (by decide) (by decide) ⟨congrArg (fun z => some (Value.int z)) (show ((0 : Int32) : Int32) = own_sw1 x1 x2 f g from by simp only [own_sw1, if_neg h1, if_neg h9, if_neg h34]), N0, e0⟩

def own_sw2 (x1 x2 : Int32) (f g : Nat → Int32) : Int32 := if x1 < 0 then 0 else if x2 < x1 + 2 then 0 else if f x1.toNatClampNeg = g 0 then (if f (x1 + 1).toNatClampNeg = g 1 then 1 else 0) else 0
def Q2_2 (Z : State) (x0 : Addr) (x1 : Int32) (x2 : Int32) (x3 : Addr) (f : Nat → Int32) (g : Nat → Int32) (h0 : Heap) (n0 : Nat) (v : Option Value) (h : Heap) (L : List Loc) : Prop := v = some (.int (own_sw2 x1 x2 f g)) ∧ Fr n0 L ∧ h = h0
set_option maxRecDepth 65536 in
set_option maxHeartbeats 40000000 in
theorem rm2_2 (l : Launch) (Z : State) (a0 : Array Value) (hw : ∀ d ∈ tables_1, d.before a0 Z = true) (ws : List Jvm.Cond) (x0 : Addr) (x1 : Int32) (x2 : Int32) (x3 : Addr) (f : Nat → Int32) (g : Nat → Int32) (h0 : Heap) (n0 : Nat) (Z0 : n0 ≤ h0.size) (B0 : own_Ba Z h0 x0 6 f) (B3 : own_Ba Z h0 x3 2 g) (hat : x1.toInt < 9) (hto : x2.toInt ≤ 6) :
    MetFree l (⟨"com/example/jitlens/jitlens/LogText", "startsWith", "([BII[B)Z"⟩ : MethodName) (head1 (Jvm.Cond.code (⟨"com/example/jitlens/jitlens/LogText", "startsWith", "([BII[B)Z"⟩ : MethodName) prog_103_method_6_code 5 (some .boolean) :: ws) ({ frames := 0, cells := 0, slots := 0, locals := 0 } : Room)) (fun a U => a = #[(.ref x0), (.int x1), (.int x2), (.ref x3)] ∧ Z.Warmed39 U.vm ∧ U.heap = h0) (fun _ _ _ _ _ => True) (fun _ U o U' => ∃ v L, o = .returned v ∧ Q2_2 Z x0 x1 x2 x3 f g h0 n0 v U'.heap L ∧ FrameEnd U o U' L ({ frames := 0, cells := 0, slots := 0, locals := 0 } : Room).cells ({ frames := 0, cells := 0, slots := 0, locals := 0 } : Room).slots) := by
  refine MetFree.of_bodySF (plainFor_of_name pn_2) hisR ?_
  intro p e s m args below meth c s₁ Bd hml0 hP hK
  obtain ⟨rfl, hZ, hh⟩ := hP
  have hx := Bd.exec
  have hby := Bd.bytes
  have hret := Bd.returns
  have hnl : meth.locks = false := Bd.notSynchronized
  have hml : c.maxLocals = 5 := hml0
  have hown : s.vm.findClass "com/example/jitlens/jitlens/LogText" = some m.cls := findClass_of_methodNamed Bd.named
  have hnm := (name_of_methodNamed Bd.named Bd.method).1
  have X0 : Stand p l e ({ frames := 0, cells := 0, slots := 0, locals := 0 } : Room) s m #[(.ref x0), (.int x1), (.int x2), (.ref x3)] below meth c s₁ [] 0 0 := Stand.of_body Bd
  have e0 : s₁.heap = h0 := by rw [← hh, Bd.state]; rfl
  have N0 := Fr.nil n0
  suffices key : own_Fin p e below s s₁ (mkF m 0 #[.val (.ref x0), .val (.int x1), .val (.int x2), .val (.ref x3), .unset] []) (Q2_2 Z x0 x1 x2 x3 f g h0 n0) ({ frames := 0, cells := 0, slots := 0, locals := 0 } : Room).cells ({ frames := 0, cells := 0, slots := 0, locals := 0 } : Room).slots by
    obtain ⟨s2, o, h1, h2⟩ := key
    exact ⟨s2, o, castTop (ef_2 m x0 x1 x2 x3) h1, h2⟩
  refine own_go (fun _ => XS.iloadN X0.here hx rfl (hb hby d2_0) rfl) ?_
  show own_Fin _ _ _ _ s₁ (mkF m 1 #[.val (.ref x0), .val (.int x1), .val (.int x2), .val (.ref x3), .unset] [(.int x1)]) _ _ _
  by_cases h1 : x1 < (0 : Int32)
  · refine own_go (fun _ => XS.ifYes X0.here hx rfl (pc0 := 1) (pc' := 12) rfl (hb hby d2_1) rfl ((if0 _ _).trans (tlt h1).1) (by decide) (by decide)) ?_
    show own_Fin _ _ _ _ s₁ (mkF m 12 #[.val (.ref x0), .val (.int x1), .val (.int x2), .val (.ref x3), .unset] []) _ _ _
    refine own_go (fun _ => XS.iconst X0.here hx rfl (hb hby d2_12)) ?_
    show own_Fin _ _ _ _ s₁ (mkF m 13 #[.val (.ref x0), .val (.int x1), .val (.int x2), .val (.ref x3), .unset] [(.int (0 : Int32))]) _ _ _
    exact own_retZ X0 hx hnl (t := .boolean) hret (by simp) (hb hby d2_13) (by decide) (by decide) ⟨congrArg (fun z => some (Value.int z)) (show ((0 : Int32) : Int32) = own_sw2 x1 x2 f g from by simp only [own_sw2, if_pos h1]), N0, e0⟩
  · refine own_go (fun _ => XS.ifNo X0.here hx rfl (hb hby d2_1) rfl ((if0 _ _).trans (flt h1).1)) ?_
    show own_Fin _ _ _ _ s₁ (mkF m 4 #[.val (.ref x0), .val (.int x1), .val (.int x2), .val (.ref x3), .unset] []) _ _ _
    refine own_go (fun _ => XS.iloadN X0.here hx rfl (hb hby d2_4) rfl) ?_
    show own_Fin _ _ _ _ s₁ (mkF m 5 #[.val (.ref x0), .val (.int x1), .val (.int x2), .val (.ref x3), .unset] [(.int x1)]) _ _ _
    refine own_go (fun _ => XS.aloadN X0.here hx rfl (hb hby d2_5) rfl rfl) ?_
    show own_Fin _ _ _ _ s₁ (mkF m 6 #[.val (.ref x0), .val (.int x1), .val (.int x2), .val (.ref x3), .unset] [(.ref x3), (.int x1)]) _ _ _
    refine own_go (own_aln X0 hx hZ e0 B3 rfl rfl (hb hby d2_6)) ?_
    show own_Fin _ _ _ _ s₁ (mkF m 7 #[.val (.ref x0), .val (.int x1), .val (.int x2), .val (.ref x3), .unset] [(.int (2 : Int32)), (.int x1)]) _ _ _
    refine own_go (fun _ => XS.iadd X0.here hx rfl (hb hby d2_7) rfl) ?_
    show own_Fin _ _ _ _ s₁ (mkF m 8 #[.val (.ref x0), .val (.int x1), .val (.int x2), .val (.ref x3), .unset] [(.int (x1 + (2 : Int32)))]) _ _ _
    refine own_go (fun _ => XS.iloadN X0.here hx rfl (hb hby d2_8) rfl) ?_
    show own_Fin _ _ _ _ s₁ (mkF m 9 #[.val (.ref x0), .val (.int x1), .val (.int x2), .val (.ref x3), .unset] [(.int x2), (.int (x1 + (2 : Int32)))]) _ _ _
    by_cases h9 : x2 < (x1 + (2 : Int32))
    · refine own_go (fun _ => XS.icmpNo X0.here hx rfl (hb hby d2_9) rfl (tlt h9).2.2.2) ?_
      show own_Fin _ _ _ _ s₁ (mkF m 12 #[.val (.ref x0), .val (.int x1), .val (.int x2), .val (.ref x3), .unset] []) _ _ _
      refine own_go (fun _ => XS.iconst X0.here hx rfl (hb hby d2_12)) ?_
      show own_Fin _ _ _ _ s₁ (mkF m 13 #[.val (.ref x0), .val (.int x1), .val (.int x2), .val (.ref x3), .unset] [(.int (0 : Int32))]) _ _ _
      exact own_retZ X0 hx hnl (t := .boolean) hret (by simp) (hb hby d2_13) (by decide) (by decide) ⟨congrArg (fun z => some (Value.int z)) (show ((0 : Int32) : Int32) = own_sw2 x1 x2 f g from by simp only [own_sw2, if_neg h1, if_pos h9]), N0, e0⟩
    · refine own_go (fun _ => XS.icmpYes X0.here hx rfl (pc0 := 9) (pc' := 14) rfl (hb hby d2_9) rfl (flt h9).2.2.2 (by decide) (by decide)) ?_
      show own_Fin _ _ _ _ s₁ (mkF m 14 #[.val (.ref x0), .val (.int x1), .val (.int x2), .val (.ref x3), .unset] []) _ _ _
      refine own_go (fun _ => XS.iconst X0.here hx rfl (hb hby d2_14)) ?_
      show own_Fin _ _ _ _ s₁ (mkF m 15 #[.val (.ref x0), .val (.int x1), .val (.int x2), .val (.ref x3), .unset] [(.int (0 : Int32))]) _ _ _
      refine own_go (fun _ => XS.istore X0.here hx rfl (hb hby d2_15) rfl (l' := #[.val (.ref x0), .val (.int x1), .val (.int x2), .val (.ref x3), .val (.int (0 : Int32))]) rfl) ?_
      show own_Fin _ _ _ _ s₁ (mkF m 17 #[.val (.ref x0), .val (.int x1), .val (.int x2), .val (.ref x3), .val (.int (0 : Int32))] []) _ _ _
      refine own_go (fun _ => XS.iload X0.here hx rfl (hb hby d2_17) rfl) ?_
      show own_Fin _ _ _ _ s₁ (mkF m 19 #[.val (.ref x0), .val (.int x1), .val (.int x2), .val (.ref x3), .val (.int (0 : Int32))] [(.int (0 : Int32))]) _ _ _
      refine own_go (fun _ => XS.aloadN X0.here hx rfl (hb hby d2_19) rfl rfl) ?_
      show own_Fin _ _ _ _ s₁ (mkF m 20 #[.val (.ref x0), .val (.int x1), .val (.int x2), .val (.ref x3), .val (.int (0 : Int32))] [(.ref x3), (.int (0 : Int32))]) _ _ _
      refine own_go (own_aln X0 hx hZ e0 B3 rfl rfl (hb hby d2_20)) ?_
      show own_Fin _ _ _ _ s₁ (mkF m 21 #[.val (.ref x0), .val (.int x1), .val (.int x2), .val (.ref x3), .val (.int (0 : Int32))] [(.int (2 : Int32)), (.int (0 : Int32))]) _ _ _
      refine own_go (fun _ => XS.icmpNo X0.here hx rfl (hb hby d2_21) rfl (tlt (show (0 : Int32) < (2 : Int32) from (by decide))).2.1) ?_
      show own_Fin _ _ _ _ s₁ (mkF m 24 #[.val (.ref x0), .val (.int x1), .val (.int x2), .val (.ref x3), .val (.int (0 : Int32))] []) _ _ _
      refine own_go (fun _ => XS.aloadN X0.here hx rfl (hb hby d2_24) rfl rfl) ?_
      show own_Fin _ _ _ _ s₁ (mkF m 25 #[.val (.ref x0), .val (.int x1), .val (.int x2), .val (.ref x3), .val (.int (0 : Int32))] [(.ref x0)]) _ _ _
      refine own_go (fun _ => XS.iloadN X0.here hx rfl (hb hby d2_25) rfl) ?_
      show own_Fin _ _ _ _ s₁ (mkF m 26 #[.val (.ref x0), .val (.int x1), .val (.int x2), .val (.ref x3), .val (.int (0 : Int32))] [(.int x1), (.ref x0)]) _ _ _
      refine own_go (fun _ => XS.iload X0.here hx rfl (hb hby d2_26) rfl) ?_
      show own_Fin _ _ _ _ s₁ (mkF m 28 #[.val (.ref x0), .val (.int x1), .val (.int x2), .val (.ref x3), .val (.int (0 : Int32))] [(.int (0 : Int32)), (.int x1), (.ref x0)]) _ _ _
      refine own_go (fun _ => XS.iadd X0.here hx rfl (hb hby d2_28) rfl) ?_
      show own_Fin _ _ _ _ s₁ (mkF m 29 #[.val (.ref x0), .val (.int x1), .val (.int x2), .val (.ref x3), .val (.int (0 : Int32))] [(.int (x1 + (0 : Int32))), (.ref x0)]) _ _ _
      refine own_go (own_bld X0 hx hZ e0 B0 (j := (x1 + (0 : Int32))) x1.toNatClampNeg (own_ix (i := 0) (N := 2) h1 hat h9 hto (by decide)).1 (congrArg Int32.toNatClampNeg (Int32.add_zero x1)) (by have := (own_ix (i := 0) (N := 2) h1 hat h9 hto (by decide)).2; rwa [Int32.add_zero] at this) rfl rfl (hb hby d2_29)) ?_
      show own_Fin _ _ _ _ s₁ (mkF m 30 #[.val (.ref x0), .val (.int x1), .val (.int x2), .val (.ref x3), .val (.int (0 : Int32))] [(.int (f x1.toNatClampNeg))]) _ _ _
      refine own_go (fun _ => XS.aloadN X0.here hx rfl (hb hby d2_30) rfl rfl) ?_
      show own_Fin _ _ _ _ s₁ (mkF m 31 #[.val (.ref x0), .val (.int x1), .val (.int x2), .val (.ref x3), .val (.int (0 : Int32))] [(.ref x3), (.int (f x1.toNatClampNeg))]) _ _ _
      refine own_go (fun _ => XS.iload X0.here hx rfl (hb hby d2_31) rfl) ?_
      show own_Fin _ _ _ _ s₁ (mkF m 33 #[.val (.ref x0), .val (.int x1), .val (.int x2), .val (.ref x3), .val (.int (0 : Int32))] [(.int (0 : Int32)), (.ref x3), (.int (f x1.toNatClampNeg))]) _ _ _
      refine own_go (own_bld X0 hx hZ e0 B3 (j := (0 : Int32)) 0 (by decide) rfl (by decide) rfl rfl (hb hby d2_33)) ?_
      show own_Fin _ _ _ _ s₁ (mkF m 34 #[.val (.ref x0), .val (.int x1), .val (.int x2), .val (.ref x3), .val (.int (0 : Int32))] [(.int (g 0)), (.int (f x1.toNatClampNeg))]) _ _ _
      by_cases h34 : (f x1.toNatClampNeg) = (g 0)
      · refine own_go (fun _ => XS.icmpYes X0.here hx rfl (pc0 := 34) (pc' := 39) rfl (hb hby d2_34) rfl (teq h34).1 (by decide) (by decide)) ?_
        show own_Fin _ _ _ _ s₁ (mkF m 39 #[.val (.ref x0), .val (.int x1), .val (.int x2), .val (.ref x3), .val (.int (0 : Int32))] []) _ _ _
        refine own_go (fun _ => XS.iinc X0.here hx rfl (hb hby d2_39) rfl (l' := #[.val (.ref x0), .val (.int x1), .val (.int x2), .val (.ref x3), .val (.int (1 : Int32))]) rfl) ?_
        show own_Fin _ _ _ _ s₁ (mkF m 42 #[.val (.ref x0), .val (.int x1), .val (.int x2), .val (.ref x3), .val (.int (1 : Int32))] []) _ _ _
        refine own_go (fun _ => XS.goto X0.here hx rfl (pc0 := 42) (pc' := 17) rfl (hb hby d2_42) (by decide) (by decide)) ?_
        show own_Fin _ _ _ _ s₁ (mkF m 17 #[.val (.ref x0), .val (.int x1), .val (.int x2), .val (.ref x3), .val (.int (1 : Int32))] []) _ _ _
        refine own_go (fun _ => XS.iload X0.here hx rfl (hb hby d2_17) rfl) ?_
        show own_Fin _ _ _ _ s₁ (mkF m 19 #[.val (.ref x0), .val (.int x1), .val (.int x2), .val (.ref x3), .val (.int (1 : Int32))] [(.int (1 : Int32))]) _ _ _
        refine own_go (fun _ => XS.aloadN X0.here hx rfl (hb hby d2_19) rfl rfl) ?_
        show own_Fin _ _ _ _ s₁ (mkF m 20 #[.val (.ref x0), .val (.int x1), .val (.int x2), .val (.ref x3), .val (.int (1 : Int32))] [(.ref x3), (.int (1 : Int32))]) _ _ _
        refine own_go (own_aln X0 hx hZ e0 B3 rfl rfl (hb hby d2_20)) ?_
        show own_Fin _ _ _ _ s₁ (mkF m 21 #[.val (.ref x0), .val (.int x1), .val (.int x2), .val (.ref x3), .val (.int (1 : Int32))] [(.int (2 : Int32)), (.int (1 : Int32))]) _ _ _
        refine own_go (fun _ => XS.icmpNo X0.here hx rfl (hb hby d2_21) rfl (tlt (show (1 : Int32) < (2 : Int32) from (by decide))).2.1) ?_
        show own_Fin _ _ _ _ s₁ (mkF m 24 #[.val (.ref x0), .val (.int x1), .val (.int x2), .val (.ref x3), .val (.int (1 : Int32))] []) _ _ _
        refine own_go (fun _ => XS.aloadN X0.here hx rfl (hb hby d2_24) rfl rfl) ?_
        show own_Fin _ _ _ _ s₁ (mkF m 25 #[.val (.ref x0), .val (.int x1), .val (.int x2), .val (.ref x3), .val (.int (1 : Int32))] [(.ref x0)]) _ _ _
        refine own_go (fun _ => XS.iloadN X0.here hx rfl (hb hby d2_25) rfl) ?_
        show own_Fin _ _ _ _ s₁ (mkF m 26 #[.val (.ref x0), .val (.int x1), .val (.int x2), .val (.ref x3), .val (.int (1 : Int32))] [(.int x1), (.ref x0)]) _ _ _
        refine own_go (fun _ => XS.iload X0.here hx rfl (hb hby d2_26) rfl) ?_
        show own_Fin _ _ _ _ s₁ (mkF m 28 #[.val (.ref x0), .val (.int x1), .val (.int x2), .val (.ref x3), .val (.int (1 : Int32))] [(.int (1 : Int32)), (.int x1), (.ref x0)]) _ _ _
        refine own_go (fun _ => XS.iadd X0.here hx rfl (hb hby d2_28) rfl) ?_
        show own_Fin _ _ _ _ s₁ (mkF m 29 #[.val (.ref x0), .val (.int x1), .val (.int x2), .val (.ref x3), .val (.int (1 : Int32))] [(.int (x1 + (1 : Int32))), (.ref x0)]) _ _ _
        refine own_go (own_bld X0 hx hZ e0 B0 (j := (x1 + (1 : Int32))) (x1 + 1).toNatClampNeg (own_ix (i := 1) (N := 2) h1 hat h9 hto (by decide)).1 rfl (own_ix (i := 1) (N := 2) h1 hat h9 hto (by decide)).2 rfl rfl (hb hby d2_29)) ?_
        show own_Fin _ _ _ _ s₁ (mkF m 30 #[.val (.ref x0), .val (.int x1), .val (.int x2), .val (.ref x3), .val (.int (1 : Int32))] [(.int (f (x1 + 1).toNatClampNeg))]) _ _ _
        refine own_go (fun _ => XS.aloadN X0.here hx rfl (hb hby d2_30) rfl rfl) ?_
        show own_Fin _ _ _ _ s₁ (mkF m 31 #[.val (.ref x0), .val (.int x1), .val (.int x2), .val (.ref x3), .val (.int (1 : Int32))] [(.ref x3), (.int (f (x1 + 1).toNatClampNeg))]) _ _ _
        refine own_go (fun _ => XS.iload X0.here hx rfl (hb hby d2_31) rfl) ?_
        show own_Fin _ _ _ _ s₁ (mkF m 33 #[.val (.ref x0), .val (.int x1), .val (.int x2), .val (.ref x3), .val (.int (1 : Int32))] [(.int (1 : Int32)), (.ref x3), (.int (f (x1 + 1).toNatClampNeg))]) _ _ _
        refine own_go (own_bld X0 hx hZ e0 B3 (j := (1 : Int32)) 1 (by decide) rfl (by decide) rfl rfl (hb hby d2_33)) ?_
        show own_Fin _ _ _ _ s₁ (mkF m 34 #[.val (.ref x0), .val (.int x1), .val (.int x2), .val (.ref x3), .val (.int (1 : Int32))] [(.int (g 1)), (.int (f (x1 + 1).toNatClampNeg))]) _ _ _
        by_cases h34' : (f (x1 + 1).toNatClampNeg) = (g 1)
        · refine own_go (fun _ => XS.icmpYes X0.here hx rfl (pc0 := 34) (pc' := 39) rfl (hb hby d2_34) rfl (teq h34').1 (by decide) (by decide)) ?_
          show own_Fin _ _ _ _ s₁ (mkF m 39 #[.val (.ref x0), .val (.int x1), .val (.int x2), .val (.ref x3), .val (.int (1 : Int32))] []) _ _ _
          refine own_go (fun _ => XS.iinc X0.here hx rfl (hb hby d2_39) rfl (l' := #[.val (.ref x0), .val (.int x1), .val (.int x2), .val (.ref x3), .val (.int (2 : Int32))]) rfl) ?_
          show own_Fin _ _ _ _ s₁ (mkF m 42 #[.val (.ref x0), .val (.int x1), .val (.int x2), .val (.ref x3), .val (.int (2 : Int32))] []) _ _ _
          refine own_go (fun _ => XS.goto X0.here hx rfl (pc0 := 42) (pc' := 17) rfl (hb hby d2_42) (by decide) (by decide)) ?_
          show own_Fin _ _ _ _ s₁ (mkF m 17 #[.val (.ref x0), .val (.int x1), .val (.int x2), .val (.ref x3), .val (.int (2 : Int32))] []) _ _ _
          refine own_go (fun _ => XS.iload X0.here hx rfl (hb hby d2_17) rfl) ?_
          show own_Fin _ _ _ _ s₁ (mkF m 19 #[.val (.ref x0), .val (.int x1), .val (.int x2), .val (.ref x3), .val (.int (2 : Int32))] [(.int (2 : Int32))]) _ _ _
          refine own_go (fun _ => XS.aloadN X0.here hx rfl (hb hby d2_19) rfl rfl) ?_
          show own_Fin _ _ _ _ s₁ (mkF m 20 #[.val (.ref x0), .val (.int x1), .val (.int x2), .val (.ref x3), .val (.int (2 : Int32))] [(.ref x3), (.int (2 : Int32))]) _ _ _
          refine own_go (own_aln X0 hx hZ e0 B3 rfl rfl (hb hby d2_20)) ?_
          show own_Fin _ _ _ _ s₁ (mkF m 21 #[.val (.ref x0), .val (.int x1), .val (.int x2), .val (.ref x3), .val (.int (2 : Int32))] [(.int (2 : Int32)), (.int (2 : Int32))]) _ _ _
          refine own_go (fun _ => XS.icmpYes X0.here hx rfl (pc0 := 21) (pc' := 45) rfl (hb hby d2_21) rfl (flt (show ¬ ((2 : Int32) < (2 : Int32)) from (by decide))).2.1 (by decide) (by decide)) ?_
          show own_Fin _ _ _ _ s₁ (mkF m 45 #[.val (.ref x0), .val (.int x1), .val (.int x2), .val (.ref x3), .val (.int (2 : Int32))] []) _ _ _
          refine own_go (fun _ => XS.iconst X0.here hx rfl (hb hby d2_45)) ?_
          show own_Fin _ _ _ _ s₁ (mkF m 46 #[.val (.ref x0), .val (.int x1), .val (.int x2), .val (.ref x3), .val (.int (2 : Int32))] [(.int (1 : Int32))]) _ _ _
          exact own_retZ X0 hx hnl (t := .boolean) hret (by simp) (hb hby d2_46) (by decide) (by decide) ⟨congrArg (fun z => some (Value.int z)) (show ((1 : Int32) : Int32) = own_sw2 x1 x2 f g from by simp only [own_sw2, if_neg h1, if_neg h9, if_pos h34, if_pos h34']), N0, e0⟩
        · refine own_go (fun _ => XS.icmpNo X0.here hx rfl (hb hby d2_34) rfl (feq h34').1) ?_
          show own_Fin _ _ _ _ s₁ (mkF m 37 #[.val (.ref x0), .val (.int x1), .val (.int x2), .val (.ref x3), .val (.int (1 : Int32))] []) _ _ _
          refine own_go (fun _ => XS.iconst X0.here hx rfl (hb hby d2_37)) ?_
          show own_Fin _ _ _ _ s₁ (mkF m 38 #[.val (.ref x0), .val (.int x1), .val (.int x2), .val (.ref x3), .val (.int (1 : Int32))] [(.int (0 : Int32))]) _ _ _
          exact own_retZ X0 hx hnl (t := .boolean) hret (by simp) (hb hby d2_38) (by decide) (by decide) ⟨congrArg (fun z => some (Value.int z)) (show ((0 : Int32) : Int32) = own_sw2 x1 x2 f g from by simp only [own_sw2, if_neg h1, if_neg h9, if_pos h34, if_neg h34']), N0, e0⟩
      · refine own_go (fun _ => XS.icmpNo X0.here hx rfl (hb hby d2_34) rfl (feq h34).1) ?_
        show own_Fin _ _ _ _ s₁ (mkF m 37 #[.val (.ref x0), .val (.int x1), .val (.int x2), .val (.ref x3), .val (.int (0 : Int32))] []) _ _ _
        refine own_go (fun _ => XS.iconst X0.here hx rfl (hb hby d2_37)) ?_
        show own_Fin _ _ _ _ s₁ (mkF m 38 #[.val (.ref x0), .val (.int x1), .val (.int x2), .val (.ref x3), .val (.int (0 : Int32))] [(.int (0 : Int32))]) _ _ _
        exact own_retZ X0 hx hnl (t := .boolean) hret (by simp) (hb hby d2_38) (by decide) (by decide) ⟨congrArg (fun z => some (Value.int z)) (show ((0 : Int32) : Int32) = own_sw2 x1 x2 f g from by simp only [own_sw2, if_neg h1, if_neg h9, if_neg h34]), N0, e0⟩

def own_sw3 (x1 x2 : Int32) (f g : Nat → Int32) : Int32 := if x1 < 0 then 0 else if x2 < x1 + 3 then 0 else if f x1.toNatClampNeg = g 0 then (if f (x1 + 1).toNatClampNeg = g 1 then (if f (x1 + 2).toNatClampNeg = g 2 then 1 else 0) else 0) else 0
def Q2_3 (Z : State) (x0 : Addr) (x1 : Int32) (x2 : Int32) (x3 : Addr) (f : Nat → Int32) (g : Nat → Int32) (h0 : Heap) (n0 : Nat) (v : Option Value) (h : Heap) (L : List Loc) : Prop := v = some (.int (own_sw3 x1 x2 f g)) ∧ Fr n0 L ∧ h = h0
set_option maxRecDepth 65536 in
set_option maxHeartbeats 40000000 in
theorem rm2_3 (l : Launch) (Z : State) (a0 : Array Value) (hw : ∀ d ∈ tables_1, d.before a0 Z = true) (ws : List Jvm.Cond) (x0 : Addr) (x1 : Int32) (x2 : Int32) (x3 : Addr) (f : Nat → Int32) (g : Nat → Int32) (h0 : Heap) (n0 : Nat) (Z0 : n0 ≤ h0.size) (B0 : own_Ba Z h0 x0 6 f) (B3 : own_Ba Z h0 x3 3 g) (hat : x1.toInt < 9) (hto : x2.toInt ≤ 6) :
    MetFree l (⟨"com/example/jitlens/jitlens/LogText", "startsWith", "([BII[B)Z"⟩ : MethodName) (head1 (Jvm.Cond.code (⟨"com/example/jitlens/jitlens/LogText", "startsWith", "([BII[B)Z"⟩ : MethodName) prog_103_method_6_code 5 (some .boolean) :: ws) ({ frames := 0, cells := 0, slots := 0, locals := 0 } : Room)) (fun a U => a = #[(.ref x0), (.int x1), (.int x2), (.ref x3)] ∧ Z.Warmed39 U.vm ∧ U.heap = h0) (fun _ _ _ _ _ => True) (fun _ U o U' => ∃ v L, o = .returned v ∧ Q2_3 Z x0 x1 x2 x3 f g h0 n0 v U'.heap L ∧ FrameEnd U o U' L ({ frames := 0, cells := 0, slots := 0, locals := 0 } : Room).cells ({ frames := 0, cells := 0, slots := 0, locals := 0 } : Room).slots) := by
  refine MetFree.of_bodySF (plainFor_of_name pn_2) hisR ?_
  intro p e s m args below meth c s₁ Bd hml0 hP hK
  obtain ⟨rfl, hZ, hh⟩ := hP
  have hx := Bd.exec
  have hby := Bd.bytes
  have hret := Bd.returns
  have hnl : meth.locks = false := Bd.notSynchronized
  have hml : c.maxLocals = 5 := hml0
  have hown : s.vm.findClass "com/example/jitlens/jitlens/LogText" = some m.cls := findClass_of_methodNamed Bd.named
  have hnm := (name_of_methodNamed Bd.named Bd.method).1
  have X0 : Stand p l e ({ frames := 0, cells := 0, slots := 0, locals := 0 } : Room) s m #[(.ref x0), (.int x1), (.int x2), (.ref x3)] below meth c s₁ [] 0 0 := Stand.of_body Bd
  have e0 : s₁.heap = h0 := by rw [← hh, Bd.state]; rfl
  have N0 := Fr.nil n0
  suffices key : own_Fin p e below s s₁ (mkF m 0 #[.val (.ref x0), .val (.int x1), .val (.int x2), .val (.ref x3), .unset] []) (Q2_3 Z x0 x1 x2 x3 f g h0 n0) ({ frames := 0, cells := 0, slots := 0, locals := 0 } : Room).cells ({ frames := 0, cells := 0, slots := 0, locals := 0 } : Room).slots by
    obtain ⟨s2, o, h1, h2⟩ := key
    exact ⟨s2, o, castTop (ef_2 m x0 x1 x2 x3) h1, h2⟩
  refine own_go (fun _ => XS.iloadN X0.here hx rfl (hb hby d2_0) rfl) ?_
  show own_Fin _ _ _ _ s₁ (mkF m 1 #[.val (.ref x0), .val (.int x1), .val (.int x2), .val (.ref x3), .unset] [(.int x1)]) _ _ _
  by_cases h1 : x1 < (0 : Int32)
  · refine own_go (fun _ => XS.ifYes X0.here hx rfl (pc0 := 1) (pc' := 12) rfl (hb hby d2_1) rfl ((if0 _ _).trans (tlt h1).1) (by decide) (by decide)) ?_
    show own_Fin _ _ _ _ s₁ (mkF m 12 #[.val (.ref x0), .val (.int x1), .val (.int x2), .val (.ref x3), .unset] []) _ _ _
    refine own_go (fun _ => XS.iconst X0.here hx rfl (hb hby d2_12)) ?_
    show own_Fin _ _ _ _ s₁ (mkF m 13 #[.val (.ref x0), .val (.int x1), .val (.int x2), .val (.ref x3), .unset] [(.int (0 : Int32))]) _ _ _
    exact own_retZ X0 hx hnl (t := .boolean) hret (by simp) (hb hby d2_13) (by decide) (by decide) ⟨congrArg (fun z => some (Value.int z)) (show ((0 : Int32) : Int32) = own_sw3 x1 x2 f g from by simp only [own_sw3, if_pos h1]), N0, e0⟩
  · refine own_go (fun _ => XS.ifNo X0.here hx rfl (hb hby d2_1) rfl ((if0 _ _).trans (flt h1).1)) ?_
    show own_Fin _ _ _ _ s₁ (mkF m 4 #[.val (.ref x0), .val (.int x1), .val (.int x2), .val (.ref x3), .unset] []) _ _ _
    refine own_go (fun _ => XS.iloadN X0.here hx rfl (hb hby d2_4) rfl) ?_
    show own_Fin _ _ _ _ s₁ (mkF m 5 #[.val (.ref x0), .val (.int x1), .val (.int x2), .val (.ref x3), .unset] [(.int x1)]) _ _ _
    refine own_go (fun _ => XS.aloadN X0.here hx rfl (hb hby d2_5) rfl rfl) ?_
    show own_Fin _ _ _ _ s₁ (mkF m 6 #[.val (.ref x0), .val (.int x1), .val (.int x2), .val (.ref x3), .unset] [(.ref x3), (.int x1)]) _ _ _
    refine own_go (own_aln X0 hx hZ e0 B3 rfl rfl (hb hby d2_6)) ?_
    show own_Fin _ _ _ _ s₁ (mkF m 7 #[.val (.ref x0), .val (.int x1), .val (.int x2), .val (.ref x3), .unset] [(.int (3 : Int32)), (.int x1)]) _ _ _
    refine own_go (fun _ => XS.iadd X0.here hx rfl (hb hby d2_7) rfl) ?_
    show own_Fin _ _ _ _ s₁ (mkF m 8 #[.val (.ref x0), .val (.int x1), .val (.int x2), .val (.ref x3), .unset] [(.int (x1 + (3 : Int32)))]) _ _ _
    refine own_go (fun _ => XS.iloadN X0.here hx rfl (hb hby d2_8) rfl) ?_
    show own_Fin _ _ _ _ s₁ (mkF m 9 #[.val (.ref x0), .val (.int x1), .val (.int x2), .val (.ref x3), .unset] [(.int x2), (.int (x1 + (3 : Int32)))]) _ _ _
    by_cases h9 : x2 < (x1 + (3 : Int32))
    · refine own_go (fun _ => XS.icmpNo X0.here hx rfl (hb hby d2_9) rfl (tlt h9).2.2.2) ?_
      show own_Fin _ _ _ _ s₁ (mkF m 12 #[.val (.ref x0), .val (.int x1), .val (.int x2), .val (.ref x3), .unset] []) _ _ _
      refine own_go (fun _ => XS.iconst X0.here hx rfl (hb hby d2_12)) ?_
      show own_Fin _ _ _ _ s₁ (mkF m 13 #[.val (.ref x0), .val (.int x1), .val (.int x2), .val (.ref x3), .unset] [(.int (0 : Int32))]) _ _ _
      exact own_retZ X0 hx hnl (t := .boolean) hret (by simp) (hb hby d2_13) (by decide) (by decide) ⟨congrArg (fun z => some (Value.int z)) (show ((0 : Int32) : Int32) = own_sw3 x1 x2 f g from by simp only [own_sw3, if_neg h1, if_pos h9]), N0, e0⟩
    · refine own_go (fun _ => XS.icmpYes X0.here hx rfl (pc0 := 9) (pc' := 14) rfl (hb hby d2_9) rfl (flt h9).2.2.2 (by decide) (by decide)) ?_
      show own_Fin _ _ _ _ s₁ (mkF m 14 #[.val (.ref x0), .val (.int x1), .val (.int x2), .val (.ref x3), .unset] []) _ _ _
      refine own_go (fun _ => XS.iconst X0.here hx rfl (hb hby d2_14)) ?_
      show own_Fin _ _ _ _ s₁ (mkF m 15 #[.val (.ref x0), .val (.int x1), .val (.int x2), .val (.ref x3), .unset] [(.int (0 : Int32))]) _ _ _
      refine own_go (fun _ => XS.istore X0.here hx rfl (hb hby d2_15) rfl (l' := #[.val (.ref x0), .val (.int x1), .val (.int x2), .val (.ref x3), .val (.int (0 : Int32))]) rfl) ?_
      show own_Fin _ _ _ _ s₁ (mkF m 17 #[.val (.ref x0), .val (.int x1), .val (.int x2), .val (.ref x3), .val (.int (0 : Int32))] []) _ _ _
      refine own_go (fun _ => XS.iload X0.here hx rfl (hb hby d2_17) rfl) ?_
      show own_Fin _ _ _ _ s₁ (mkF m 19 #[.val (.ref x0), .val (.int x1), .val (.int x2), .val (.ref x3), .val (.int (0 : Int32))] [(.int (0 : Int32))]) _ _ _
      refine own_go (fun _ => XS.aloadN X0.here hx rfl (hb hby d2_19) rfl rfl) ?_
      show own_Fin _ _ _ _ s₁ (mkF m 20 #[.val (.ref x0), .val (.int x1), .val (.int x2), .val (.ref x3), .val (.int (0 : Int32))] [(.ref x3), (.int (0 : Int32))]) _ _ _
      refine own_go (own_aln X0 hx hZ e0 B3 rfl rfl (hb hby d2_20)) ?_
      show own_Fin _ _ _ _ s₁ (mkF m 21 #[.val (.ref x0), .val (.int x1), .val (.int x2), .val (.ref x3), .val (.int (0 : Int32))] [(.int (3 : Int32)), (.int (0 : Int32))]) _ _ _
      refine own_go (fun _ => XS.icmpNo X0.here hx rfl (hb hby d2_21) rfl (tlt (show (0 : Int32) < (3 : Int32) from (by decide))).2.1) ?_
      show own_Fin _ _ _ _ s₁ (mkF m 24 #[.val (.ref x0), .val (.int x1), .val (.int x2), .val (.ref x3), .val (.int (0 : Int32))] []) _ _ _
      refine own_go (fun _ => XS.aloadN X0.here hx rfl (hb hby d2_24) rfl rfl) ?_
      show own_Fin _ _ _ _ s₁ (mkF m 25 #[.val (.ref x0), .val (.int x1), .val (.int x2), .val (.ref x3), .val (.int (0 : Int32))] [(.ref x0)]) _ _ _
      refine own_go (fun _ => XS.iloadN X0.here hx rfl (hb hby d2_25) rfl) ?_
      show own_Fin _ _ _ _ s₁ (mkF m 26 #[.val (.ref x0), .val (.int x1), .val (.int x2), .val (.ref x3), .val (.int (0 : Int32))] [(.int x1), (.ref x0)]) _ _ _
      refine own_go (fun _ => XS.iload X0.here hx rfl (hb hby d2_26) rfl) ?_
      show own_Fin _ _ _ _ s₁ (mkF m 28 #[.val (.ref x0), .val (.int x1), .val (.int x2), .val (.ref x3), .val (.int (0 : Int32))] [(.int (0 : Int32)), (.int x1), (.ref x0)]) _ _ _
      refine own_go (fun _ => XS.iadd X0.here hx rfl (hb hby d2_28) rfl) ?_
      show own_Fin _ _ _ _ s₁ (mkF m 29 #[.val (.ref x0), .val (.int x1), .val (.int x2), .val (.ref x3), .val (.int (0 : Int32))] [(.int (x1 + (0 : Int32))), (.ref x0)]) _ _ _
      refine own_go (own_bld X0 hx hZ e0 B0 (j := (x1 + (0 : Int32))) x1.toNatClampNeg (own_ix (i := 0) (N := 3) h1 hat h9 hto (by decide)).1 (congrArg Int32.toNatClampNeg (Int32.add_zero x1)) (by have := (own_ix (i := 0) (N := 3) h1 hat h9 hto (by decide)).2; rwa [Int32.add_zero] at this) rfl rfl (hb hby d2_29)) ?_
      show own_Fin _ _ _ _ s₁ (mkF m 30 #[.val (.ref x0), .val (.int x1), .val (.int x2), .val (.ref x3), .val (.int (0 : Int32))] [(.int (f x1.toNatClampNeg))]) _ _ _
      refine own_go (fun _ => XS.aloadN X0.here hx rfl (hb hby d2_30) rfl rfl) ?_
      show own_Fin _ _ _ _ s₁ (mkF m 31 #[.val (.ref x0), .val (.int x1), .val (.int x2), .val (.ref x3), .val (.int (0 : Int32))] [(.ref x3), (.int (f x1.toNatClampNeg))]) _ _ _
      refine own_go (fun _ => XS.iload X0.here hx rfl (hb hby d2_31) rfl) ?_
      show own_Fin _ _ _ _ s₁ (mkF m 33 #[.val (.ref x0), .val (.int x1), .val (.int x2), .val (.ref x3), .val (.int (0 : Int32))] [(.int (0 : Int32)), (.ref x3), (.int (f x1.toNatClampNeg))]) _ _ _
      refine own_go (own_bld X0 hx hZ e0 B3 (j := (0 : Int32)) 0 (by decide) rfl (by decide) rfl rfl (hb hby d2_33)) ?_
      show own_Fin _ _ _ _ s₁ (mkF m 34 #[.val (.ref x0), .val (.int x1), .val (.int x2), .val (.ref x3), .val (.int (0 : Int32))] [(.int (g 0)), (.int (f x1.toNatClampNeg))]) _ _ _
      by_cases h34 : (f x1.toNatClampNeg) = (g 0)
      · refine own_go (fun _ => XS.icmpYes X0.here hx rfl (pc0 := 34) (pc' := 39) rfl (hb hby d2_34) rfl (teq h34).1 (by decide) (by decide)) ?_
        show own_Fin _ _ _ _ s₁ (mkF m 39 #[.val (.ref x0), .val (.int x1), .val (.int x2), .val (.ref x3), .val (.int (0 : Int32))] []) _ _ _
        refine own_go (fun _ => XS.iinc X0.here hx rfl (hb hby d2_39) rfl (l' := #[.val (.ref x0), .val (.int x1), .val (.int x2), .val (.ref x3), .val (.int (1 : Int32))]) rfl) ?_
        show own_Fin _ _ _ _ s₁ (mkF m 42 #[.val (.ref x0), .val (.int x1), .val (.int x2), .val (.ref x3), .val (.int (1 : Int32))] []) _ _ _
        refine own_go (fun _ => XS.goto X0.here hx rfl (pc0 := 42) (pc' := 17) rfl (hb hby d2_42) (by decide) (by decide)) ?_
        show own_Fin _ _ _ _ s₁ (mkF m 17 #[.val (.ref x0), .val (.int x1), .val (.int x2), .val (.ref x3), .val (.int (1 : Int32))] []) _ _ _
        refine own_go (fun _ => XS.iload X0.here hx rfl (hb hby d2_17) rfl) ?_
        show own_Fin _ _ _ _ s₁ (mkF m 19 #[.val (.ref x0), .val (.int x1), .val (.int x2), .val (.ref x3), .val (.int (1 : Int32))] [(.int (1 : Int32))]) _ _ _
        refine own_go (fun _ => XS.aloadN X0.here hx rfl (hb hby d2_19) rfl rfl) ?_
        show own_Fin _ _ _ _ s₁ (mkF m 20 #[.val (.ref x0), .val (.int x1), .val (.int x2), .val (.ref x3), .val (.int (1 : Int32))] [(.ref x3), (.int (1 : Int32))]) _ _ _
        refine own_go (own_aln X0 hx hZ e0 B3 rfl rfl (hb hby d2_20)) ?_
        show own_Fin _ _ _ _ s₁ (mkF m 21 #[.val (.ref x0), .val (.int x1), .val (.int x2), .val (.ref x3), .val (.int (1 : Int32))] [(.int (3 : Int32)), (.int (1 : Int32))]) _ _ _
        refine own_go (fun _ => XS.icmpNo X0.here hx rfl (hb hby d2_21) rfl (tlt (show (1 : Int32) < (3 : Int32) from (by decide))).2.1) ?_
        show own_Fin _ _ _ _ s₁ (mkF m 24 #[.val (.ref x0), .val (.int x1), .val (.int x2), .val (.ref x3), .val (.int (1 : Int32))] []) _ _ _
        refine own_go (fun _ => XS.aloadN X0.here hx rfl (hb hby d2_24) rfl rfl) ?_
        show own_Fin _ _ _ _ s₁ (mkF m 25 #[.val (.ref x0), .val (.int x1), .val (.int x2), .val (.ref x3), .val (.int (1 : Int32))] [(.ref x0)]) _ _ _
        refine own_go (fun _ => XS.iloadN X0.here hx rfl (hb hby d2_25) rfl) ?_
        show own_Fin _ _ _ _ s₁ (mkF m 26 #[.val (.ref x0), .val (.int x1), .val (.int x2), .val (.ref x3), .val (.int (1 : Int32))] [(.int x1), (.ref x0)]) _ _ _
        refine own_go (fun _ => XS.iload X0.here hx rfl (hb hby d2_26) rfl) ?_
        show own_Fin _ _ _ _ s₁ (mkF m 28 #[.val (.ref x0), .val (.int x1), .val (.int x2), .val (.ref x3), .val (.int (1 : Int32))] [(.int (1 : Int32)), (.int x1), (.ref x0)]) _ _ _
        refine own_go (fun _ => XS.iadd X0.here hx rfl (hb hby d2_28) rfl) ?_
        show own_Fin _ _ _ _ s₁ (mkF m 29 #[.val (.ref x0), .val (.int x1), .val (.int x2), .val (.ref x3), .val (.int (1 : Int32))] [(.int (x1 + (1 : Int32))), (.ref x0)]) _ _ _
        refine own_go (own_bld X0 hx hZ e0 B0 (j := (x1 + (1 : Int32))) (x1 + 1).toNatClampNeg (own_ix (i := 1) (N := 3) h1 hat h9 hto (by decide)).1 rfl (own_ix (i := 1) (N := 3) h1 hat h9 hto (by decide)).2 rfl rfl (hb hby d2_29)) ?_
        show own_Fin _ _ _ _ s₁ (mkF m 30 #[.val (.ref x0), .val (.int x1), .val (.int x2), .val (.ref x3), .val (.int (1 : Int32))] [(.int (f (x1 + 1).toNatClampNeg))]) _ _ _
        refine own_go (fun _ => XS.aloadN X0.here hx rfl (hb hby d2_30) rfl rfl) ?_
        show own_Fin _ _ _ _ s₁ (mkF m 31 #[.val (.ref x0), .val (.int x1), .val (.int x2), .val (.ref x3), .val (.int (1 : Int32))] [(.ref x3), (.int (f (x1 + 1).toNatClampNeg))]) _ _ _
        refine own_go (fun _ => XS.iload X0.here hx rfl (hb hby d2_31) rfl) ?_
        show own_Fin _ _ _ _ s₁ (mkF m 33 #[.val (.ref x0), .val (.int x1), .val (.int x2), .val (.ref x3), .val (.int (1 : Int32))] [(.int (1 : Int32)), (.ref x3), (.int (f (x1 + 1).toNatClampNeg))]) _ _ _
        refine own_go (own_bld X0 hx hZ e0 B3 (j := (1 : Int32)) 1 (by decide) rfl (by decide) rfl rfl (hb hby d2_33)) ?_
        show own_Fin _ _ _ _ s₁ (mkF m 34 #[.val (.ref x0), .val (.int x1), .val (.int x2), .val (.ref x3), .val (.int (1 : Int32))] [(.int (g 1)), (.int (f (x1 + 1).toNatClampNeg))]) _ _ _
        by_cases h34' : (f (x1 + 1).toNatClampNeg) = (g 1)
        · refine own_go (fun _ => XS.icmpYes X0.here hx rfl (pc0 := 34) (pc' := 39) rfl (hb hby d2_34) rfl (teq h34').1 (by decide) (by decide)) ?_
          show own_Fin _ _ _ _ s₁ (mkF m 39 #[.val (.ref x0), .val (.int x1), .val (.int x2), .val (.ref x3), .val (.int (1 : Int32))] []) _ _ _
          refine own_go (fun _ => XS.iinc X0.here hx rfl (hb hby d2_39) rfl (l' := #[.val (.ref x0), .val (.int x1), .val (.int x2), .val (.ref x3), .val (.int (2 : Int32))]) rfl) ?_
          show own_Fin _ _ _ _ s₁ (mkF m 42 #[.val (.ref x0), .val (.int x1), .val (.int x2), .val (.ref x3), .val (.int (2 : Int32))] []) _ _ _
          refine own_go (fun _ => XS.goto X0.here hx rfl (pc0 := 42) (pc' := 17) rfl (hb hby d2_42) (by decide) (by decide)) ?_
          show own_Fin _ _ _ _ s₁ (mkF m 17 #[.val (.ref x0), .val (.int x1), .val (.int x2), .val (.ref x3), .val (.int (2 : Int32))] []) _ _ _
          refine own_go (fun _ => XS.iload X0.here hx rfl (hb hby d2_17) rfl) ?_
          show own_Fin _ _ _ _ s₁ (mkF m 19 #[.val (.ref x0), .val (.int x1), .val (.int x2), .val (.ref x3), .val (.int (2 : Int32))] [(.int (2 : Int32))]) _ _ _
          refine own_go (fun _ => XS.aloadN X0.here hx rfl (hb hby d2_19) rfl rfl) ?_
          show own_Fin _ _ _ _ s₁ (mkF m 20 #[.val (.ref x0), .val (.int x1), .val (.int x2), .val (.ref x3), .val (.int (2 : Int32))] [(.ref x3), (.int (2 : Int32))]) _ _ _
          refine own_go (own_aln X0 hx hZ e0 B3 rfl rfl (hb hby d2_20)) ?_
          show own_Fin _ _ _ _ s₁ (mkF m 21 #[.val (.ref x0), .val (.int x1), .val (.int x2), .val (.ref x3), .val (.int (2 : Int32))] [(.int (3 : Int32)), (.int (2 : Int32))]) _ _ _
          refine own_go (fun _ => XS.icmpNo X0.here hx rfl (hb hby d2_21) rfl (tlt (show (2 : Int32) < (3 : Int32) from (by decide))).2.1) ?_
          show own_Fin _ _ _ _ s₁ (mkF m 24 #[.val (.ref x0), .val (.int x1), .val (.int x2), .val (.ref x3), .val (.int (2 : Int32))] []) _ _ _
          refine own_go (fun _ => XS.aloadN X0.here hx rfl (hb hby d2_24) rfl rfl) ?_
          show own_Fin _ _ _ _ s₁ (mkF m 25 #[.val (.ref x0), .val (.int x1), .val (.int x2), .val (.ref x3), .val (.int (2 : Int32))] [(.ref x0)]) _ _ _
          refine own_go (fun _ => XS.iloadN X0.here hx rfl (hb hby d2_25) rfl) ?_
          show own_Fin _ _ _ _ s₁ (mkF m 26 #[.val (.ref x0), .val (.int x1), .val (.int x2), .val (.ref x3), .val (.int (2 : Int32))] [(.int x1), (.ref x0)]) _ _ _
          refine own_go (fun _ => XS.iload X0.here hx rfl (hb hby d2_26) rfl) ?_
          show own_Fin _ _ _ _ s₁ (mkF m 28 #[.val (.ref x0), .val (.int x1), .val (.int x2), .val (.ref x3), .val (.int (2 : Int32))] [(.int (2 : Int32)), (.int x1), (.ref x0)]) _ _ _
          refine own_go (fun _ => XS.iadd X0.here hx rfl (hb hby d2_28) rfl) ?_
          show own_Fin _ _ _ _ s₁ (mkF m 29 #[.val (.ref x0), .val (.int x1), .val (.int x2), .val (.ref x3), .val (.int (2 : Int32))] [(.int (x1 + (2 : Int32))), (.ref x0)]) _ _ _
          refine own_go (own_bld X0 hx hZ e0 B0 (j := (x1 + (2 : Int32))) (x1 + 2).toNatClampNeg (own_ix (i := 2) (N := 3) h1 hat h9 hto (by decide)).1 rfl (own_ix (i := 2) (N := 3) h1 hat h9 hto (by decide)).2 rfl rfl (hb hby d2_29)) ?_
          show own_Fin _ _ _ _ s₁ (mkF m 30 #[.val (.ref x0), .val (.int x1), .val (.int x2), .val (.ref x3), .val (.int (2 : Int32))] [(.int (f (x1 + 2).toNatClampNeg))]) _ _ _
          refine own_go (fun _ => XS.aloadN X0.here hx rfl (hb hby d2_30) rfl rfl) ?_
          show own_Fin _ _ _ _ s₁ (mkF m 31 #[.val (.ref x0), .val (.int x1), .val (.int x2), .val (.ref x3), .val (.int (2 : Int32))] [(.ref x3), (.int (f (x1 + 2).toNatClampNeg))]) _ _ _
          refine own_go (fun _ => XS.iload X0.here hx rfl (hb hby d2_31) rfl) ?_
          show own_Fin _ _ _ _ s₁ (mkF m 33 #[.val (.ref x0), .val (.int x1), .val (.int x2), .val (.ref x3), .val (.int (2 : Int32))] [(.int (2 : Int32)), (.ref x3), (.int (f (x1 + 2).toNatClampNeg))]) _ _ _
          refine own_go (own_bld X0 hx hZ e0 B3 (j := (2 : Int32)) 2 (by decide) rfl (by decide) rfl rfl (hb hby d2_33)) ?_
          show own_Fin _ _ _ _ s₁ (mkF m 34 #[.val (.ref x0), .val (.int x1), .val (.int x2), .val (.ref x3), .val (.int (2 : Int32))] [(.int (g 2)), (.int (f (x1 + 2).toNatClampNeg))]) _ _ _
          by_cases h34'' : (f (x1 + 2).toNatClampNeg) = (g 2)
          · refine own_go (fun _ => XS.icmpYes X0.here hx rfl (pc0 := 34) (pc' := 39) rfl (hb hby d2_34) rfl (teq h34'').1 (by decide) (by decide)) ?_
            show own_Fin _ _ _ _ s₁ (mkF m 39 #[.val (.ref x0), .val (.int x1), .val (.int x2), .val (.ref x3), .val (.int (2 : Int32))] []) _ _ _
            refine own_go (fun _ => XS.iinc X0.here hx rfl (hb hby d2_39) rfl (l' := #[.val (.ref x0), .val (.int x1), .val (.int x2), .val (.ref x3), .val (.int (3 : Int32))]) rfl) ?_
            show own_Fin _ _ _ _ s₁ (mkF m 42 #[.val (.ref x0), .val (.int x1), .val (.int x2), .val (.ref x3), .val (.int (3 : Int32))] []) _ _ _
            refine own_go (fun _ => XS.goto X0.here hx rfl (pc0 := 42) (pc' := 17) rfl (hb hby d2_42) (by decide) (by decide)) ?_
            show own_Fin _ _ _ _ s₁ (mkF m 17 #[.val (.ref x0), .val (.int x1), .val (.int x2), .val (.ref x3), .val (.int (3 : Int32))] []) _ _ _
            refine own_go (fun _ => XS.iload X0.here hx rfl (hb hby d2_17) rfl) ?_
            show own_Fin _ _ _ _ s₁ (mkF m 19 #[.val (.ref x0), .val (.int x1), .val (.int x2), .val (.ref x3), .val (.int (3 : Int32))] [(.int (3 : Int32))]) _ _ _
            refine own_go (fun _ => XS.aloadN X0.here hx rfl (hb hby d2_19) rfl rfl) ?_
            show own_Fin _ _ _ _ s₁ (mkF m 20 #[.val (.ref x0), .val (.int x1), .val (.int x2), .val (.ref x3), .val (.int (3 : Int32))] [(.ref x3), (.int (3 : Int32))]) _ _ _
            refine own_go (own_aln X0 hx hZ e0 B3 rfl rfl (hb hby d2_20)) ?_
            show own_Fin _ _ _ _ s₁ (mkF m 21 #[.val (.ref x0), .val (.int x1), .val (.int x2), .val (.ref x3), .val (.int (3 : Int32))] [(.int (3 : Int32)), (.int (3 : Int32))]) _ _ _
            refine own_go (fun _ => XS.icmpYes X0.here hx rfl (pc0 := 21) (pc' := 45) rfl (hb hby d2_21) rfl (flt (show ¬ ((3 : Int32) < (3 : Int32)) from (by decide))).2.1 (by decide) (by decide)) ?_
            show own_Fin _ _ _ _ s₁ (mkF m 45 #[.val (.ref x0), .val (.int x1), .val (.int x2), .val (.ref x3), .val (.int (3 : Int32))] []) _ _ _
            refine own_go (fun _ => XS.iconst X0.here hx rfl (hb hby d2_45)) ?_
            show own_Fin _ _ _ _ s₁ (mkF m 46 #[.val (.ref x0), .val (.int x1), .val (.int x2), .val (.ref x3), .val (.int (3 : Int32))] [(.int (1 : Int32))]) _ _ _
            exact own_retZ X0 hx hnl (t := .boolean) hret (by simp) (hb hby d2_46) (by decide) (by decide) ⟨congrArg (fun z => some (Value.int z)) (show ((1 : Int32) : Int32) = own_sw3 x1 x2 f g from by simp only [own_sw3, if_neg h1, if_neg h9, if_pos h34, if_pos h34', if_pos h34'']), N0, e0⟩
          · refine own_go (fun _ => XS.icmpNo X0.here hx rfl (hb hby d2_34) rfl (feq h34'').1) ?_
            show own_Fin _ _ _ _ s₁ (mkF m 37 #[.val (.ref x0), .val (.int x1), .val (.int x2), .val (.ref x3), .val (.int (2 : Int32))] []) _ _ _
            refine own_go (fun _ => XS.iconst X0.here hx rfl (hb hby d2_37)) ?_
            show own_Fin _ _ _ _ s₁ (mkF m 38 #[.val (.ref x0), .val (.int x1), .val (.int x2), .val (.ref x3), .val (.int (2 : Int32))] [(.int (0 : Int32))]) _ _ _
            exact own_retZ X0 hx hnl (t := .boolean) hret (by simp) (hb hby d2_38) (by decide) (by decide) ⟨congrArg (fun z => some (Value.int z)) (show ((0 : Int32) : Int32) = own_sw3 x1 x2 f g from by simp only [own_sw3, if_neg h1, if_neg h9, if_pos h34, if_pos h34', if_neg h34'']), N0, e0⟩
        · refine own_go (fun _ => XS.icmpNo X0.here hx rfl (hb hby d2_34) rfl (feq h34').1) ?_
          show own_Fin _ _ _ _ s₁ (mkF m 37 #[.val (.ref x0), .val (.int x1), .val (.int x2), .val (.ref x3), .val (.int (1 : Int32))] []) _ _ _
          refine own_go (fun _ => XS.iconst X0.here hx rfl (hb hby d2_37)) ?_
          show own_Fin _ _ _ _ s₁ (mkF m 38 #[.val (.ref x0), .val (.int x1), .val (.int x2), .val (.ref x3), .val (.int (1 : Int32))] [(.int (0 : Int32))]) _ _ _
          exact own_retZ X0 hx hnl (t := .boolean) hret (by simp) (hb hby d2_38) (by decide) (by decide) ⟨congrArg (fun z => some (Value.int z)) (show ((0 : Int32) : Int32) = own_sw3 x1 x2 f g from by simp only [own_sw3, if_neg h1, if_neg h9, if_pos h34, if_neg h34']), N0, e0⟩
      · refine own_go (fun _ => XS.icmpNo X0.here hx rfl (hb hby d2_34) rfl (feq h34).1) ?_
        show own_Fin _ _ _ _ s₁ (mkF m 37 #[.val (.ref x0), .val (.int x1), .val (.int x2), .val (.ref x3), .val (.int (0 : Int32))] []) _ _ _
        refine own_go (fun _ => XS.iconst X0.here hx rfl (hb hby d2_37)) ?_
        show own_Fin _ _ _ _ s₁ (mkF m 38 #[.val (.ref x0), .val (.int x1), .val (.int x2), .val (.ref x3), .val (.int (0 : Int32))] [(.int (0 : Int32))]) _ _ _
        exact own_retZ X0 hx hnl (t := .boolean) hret (by simp) (hb hby d2_38) (by decide) (by decide) ⟨congrArg (fun z => some (Value.int z)) (show ((0 : Int32) : Int32) = own_sw3 x1 x2 f g from by simp only [own_sw3, if_neg h1, if_neg h9, if_neg h34]), N0, e0⟩

theorem own_and3 (x : Int32) : x &&& 3 = 0 ∨ x &&& 3 = 1 ∨ x &&& 3 = 2 ∨ x &&& 3 = 3 := by
  have h1 : (x &&& 3).toInt = x.toInt % 2 ^ 2 := Jvm.Kit.i32_mask x 3 (k := 2) (by decide) (by decide)
  have e : (0 : Int32).toInt = 0 ∧ (1 : Int32).toInt = 1 ∧ (2 : Int32).toInt = 2 ∧ (3 : Int32).toInt = 3 := by decide
  simp only [own_eq, e.1, e.2.1, e.2.2.1, e.2.2.2]
  omega
theorem own_to (x : Int32) : ((x &&& (2147483647 : Int32)) - ((x &&& (2147483647 : Int32)) / (7 : Int32)) * (7 : Int32)).toInt ≤ 6 := by
  have h1 : (x &&& (2147483647 : Int32)).toInt = x.toInt % 2 ^ 31 := Jvm.Kit.i32_mask x 2147483647 (k := 31) (by decide) (by decide)
  have h2 := rem_toInt (x &&& (2147483647 : Int32)) 7
  have e7 : (7 : Int32).toInt = 7 := by decide
  rw [e7, h1, Int.tmod_eq_emod_of_nonneg (by omega)] at h2
  rw [h2]; omega
theorem own_at (x : Int32) : (x - (x / (9 : Int32)) * (9 : Int32)).toInt < 9 := by
  have h2 := rem_toInt x 9
  have e9 : (9 : Int32).toInt = 9 := by decide
  rw [e9] at h2
  rw [h2]
  exact (tmod_bounds (by decide)).2

theorem pd_2 : parseMethodDescriptor "([BIIIJ)B" = some ⟨[(.array .byte), .int, .int, .int, .long], some .byte⟩ := by decide +kernel
theorem pd_1 : parseMethodDescriptor "([BII[B)Z" = some ⟨[(.array .byte), .int, .int, (.array .byte)], some .boolean⟩ := by decide +kernel
theorem pn_0 : plainName "com/example/jitlens/jitlens/LogTextStartsWithPinLaw" = true := by first | (simp [plainName, overriddenIn]; done) | decide +kernel
theorem ef_0 (m : MethodId) (x0 : Int64) (x1 : Int64) (x2 : Int32) (x3 : Int32) (x4 : Int32) : entryFrame m #[(.long x0), (.long x1), (.int x2), (.int x3), (.int x4)] maxLocals = mkF m 0 #[.val (.long x0), .second, .val (.long x1), .second, .val (.int x2), .val (.int x3), .val (.int x4), .unset, .unset, .unset, .unset, .unset, .unset, .unset] [] := by first | (simp [entryFrame, mkF, argsToLocals, Value.category, maxLocals]; done) | rfl
def Q0 (Z : State) (x0 : Int64) (x1 : Int64) (x2 : Int32) (x3 : Int32) (x4 : Int32) (h0 : Heap) (n0 : Nat) (v : Option Value) (h : Heap) (L : List Loc) : Prop := v = some (.int 1) ∧ Fr n0 L
set_option maxRecDepth 65536 in
set_option maxHeartbeats 40000000 in
theorem rm0 (l : Launch) (Z : State) (a0 : Array Value) (hw : ∀ d ∈ tables_1, d.before a0 Z = true) (ws : List Jvm.Cond) (x0 : Int64) (x1 : Int64) (x2 : Int32) (x3 : Int32) (x4 : Int32) (h0 : Heap) (n0 : Nat) (Z0 : n0 ≤ h0.size) :
    MetFree l x (head1 (Jvm.Cond.code x code maxLocals ret :: ws) room_1) (fun a U => a = #[(.long x0), (.long x1), (.int x2), (.int x3), (.int x4)] ∧ Z.Warmed39 U.vm ∧ U.heap = h0) (fun _ _ _ _ _ => True) (fun _ U o U' => ∃ v L, o = .returned v ∧ Q0 Z x0 x1 x2 x3 x4 h0 n0 v U'.heap L ∧ FrameEnd U o U' L room_1.cells room_1.slots) := by
  refine MetFree.of_bodySF (plainFor_of_name pn_0) hisR ?_
  intro p e s m args below meth c s₁ Bd hml0 hP hK
  obtain ⟨rfl, hZ, hh⟩ := hP
  have hx := Bd.exec
  have hby := Bd.bytes
  have hret := Bd.returns
  have hnl : meth.locks = false := Bd.notSynchronized
  have hml : c.maxLocals = 14 := hml0
  have hown : s.vm.findClass "com/example/jitlens/jitlens/LogTextStartsWithPinLaw" = some m.cls := findClass_of_methodNamed Bd.named
  have hnm := (name_of_methodNamed Bd.named Bd.method).1
  have X0 : Stand p l e room_1 s m #[(.long x0), (.long x1), (.int x2), (.int x3), (.int x4)] below meth c s₁ [] 0 0 := Stand.of_body Bd
  have e0 : s₁.heap = h0 := by rw [← hh, Bd.state]; rfl
  have N0 := Fr.nil n0
  suffices key : own_Fin p e below s s₁ (mkF m 0 #[.val (.long x0), .second, .val (.long x1), .second, .val (.int x2), .val (.int x3), .val (.int x4), .unset, .unset, .unset, .unset, .unset, .unset, .unset] []) (Q0 Z x0 x1 x2 x3 x4 h0 n0) room_1.cells room_1.slots by
    obtain ⟨s2, o, h1, h2⟩ := key
    exact ⟨s2, o, castTop (ef_0 m x0 x1 x2 x3 x4) h1, h2⟩
  refine own_go (fun _ => XS.bipush X0.here hx rfl (hb hby at_0)) ?_
  show own_Fin _ _ _ _ s₁ (mkF m 2 #[.val (.long x0), .second, .val (.long x1), .second, .val (.int x2), .val (.int x3), .val (.int x4), .unset, .unset, .unset, .unset, .unset, .unset, .unset] [(.int (6 : Int32))]) _ _ _
  obtain ⟨T1, h1, k1, X1, e1, E1, A1, st1⟩ := newP X0 hx hZ (hw _ (List.mem_of_getElem? (i := 0) rfl)) e0 (g := (mkF m 2 #[.val (.long x0), .second, .val (.long x1), .second, .val (.int x2), .val (.int x3), .val (.int x4), .unset, .unset, .unset, .unset, .unset, .unset, .unset] [(.int (6 : Int32))])) rfl (hb hby at_2) rfl (by decide) (cap := 6) (by decide) (by decide) (by decide) (by decide)
  obtain ⟨b1, g1⟩ : ∃ z, z = h0.size := ⟨_, rfl⟩
  rw [← g1] at A1 st1
  have g_b1 : n0 ≤ b1 := Nat.le_trans Z0 (Nat.le_of_eq g1.symm)
  have Z1 : n0 ≤ h1.size := Nat.le_trans Z0 E1.1
  have sz_b1 : h0.size ≤ b1 := Nat.le_trans ((Keep.refl h0 [])).1 (Nat.le_of_eq g1.symm)
  have K1 : Keep h0 h1 [] := ((Keep.refl h0 [])).ext E1
  have V_b1 : own_Ba Z h1 b1 6 (fun _ => 0) := own_Ba.new A1 (by decide)
  refine own_go st1 ?_
  show own_Fin _ _ _ _ T1 (mkF m 4 #[.val (.long x0), .second, .val (.long x1), .second, .val (.int x2), .val (.int x3), .val (.int x4), .unset, .unset, .unset, .unset, .unset, .unset, .unset] [(.ref b1)]) _ _ _
  refine own_go (fun _ => XS.astore X1.here hx rfl (hb hby at_4) rfl rfl (l' := #[.val (.long x0), .second, .val (.long x1), .second, .val (.int x2), .val (.int x3), .val (.int x4), .val (.ref b1), .unset, .unset, .unset, .unset, .unset, .unset]) rfl) ?_
  show own_Fin _ _ _ _ T1 (mkF m 6 #[.val (.long x0), .second, .val (.long x1), .second, .val (.int x2), .val (.int x3), .val (.int x4), .val (.ref b1), .unset, .unset, .unset, .unset, .unset, .unset] []) _ _ _
  refine own_go (fun _ => XS.aload X1.here hx rfl (hb hby at_6) rfl rfl) ?_
  show own_Fin _ _ _ _ T1 (mkF m 8 #[.val (.long x0), .second, .val (.long x1), .second, .val (.int x2), .val (.int x3), .val (.int x4), .val (.ref b1), .unset, .unset, .unset, .unset, .unset, .unset] [(.ref b1)]) _ _ _
  refine own_go (fun _ => XS.iconst X1.here hx rfl (hb hby at_8)) ?_
  show own_Fin _ _ _ _ T1 (mkF m 9 #[.val (.long x0), .second, .val (.long x1), .second, .val (.int x2), .val (.int x3), .val (.int x4), .val (.ref b1), .unset, .unset, .unset, .unset, .unset, .unset] [(.int (0 : Int32)), (.ref b1)]) _ _ _
  refine own_go (fun _ => XS.lloadN X1.here hx rfl (hb hby at_9) rfl) ?_
  show own_Fin _ _ _ _ T1 (mkF m 10 #[.val (.long x0), .second, .val (.long x1), .second, .val (.int x2), .val (.int x3), .val (.int x4), .val (.ref b1), .unset, .unset, .unset, .unset, .unset, .unset] [(.long x0), (.int (0 : Int32)), (.ref b1)]) _ _ _
  refine own_go (fun _ => XS.iconst X1.here hx rfl (hb hby at_10)) ?_
  show own_Fin _ _ _ _ T1 (mkF m 11 #[.val (.long x0), .second, .val (.long x1), .second, .val (.int x2), .val (.int x3), .val (.int x4), .val (.ref b1), .unset, .unset, .unset, .unset, .unset, .unset] [(.int (0 : Int32)), (.long x0), (.int (0 : Int32)), (.ref b1)]) _ _ _
  obtain ⟨_, _, ⟨T2, L2, k2, n2⟩, -, X2, ⟨Lc2, hQ2, l2, y2, z2⟩, st2⟩ := Jvm.LawKit.callS X1 hx (y := (⟨"com/example/jitlens/jitlens/LogTextStartsWithPinLaw", "drawn", "(JI)B"⟩ : MethodName)) hown (mvT hZ (hw _ (List.mem_of_getElem? (i := 1) rfl))) (mvT hZ (hw _ (List.mem_of_getElem? (i := 2) rfl))) (mvT hZ (hw _ (List.mem_of_getElem? (i := 3) rfl))) (mvT hZ (hw _ (List.mem_of_getElem? (i := 4) rfl))) (by decide) (backOf (W := 2) (rm1 l Z a0 hw [] x0 (0 : Int32)  h1 n0 Z1 ) hZ (hw _ (List.mem_of_getElem? (i := 4) rfl)) (hw _ (List.mem_of_getElem? (i := 3) rfl)) (by decide) (by decide)) (g := (mkF m 11 #[.val (.long x0), .second, .val (.long x1), .second, .val (.int x2), .val (.int x3), .val (.int x4), .val (.ref b1), .unset, .unset, .unset, .unset, .unset, .unset] [(.int (0 : Int32)), (.long x0), (.int (0 : Int32)), (.ref b1)])) rfl (by rw [hml]; rfl) (argsL := [(.long x0), (.int (0 : Int32))]) (rest := [(.int (0 : Int32)), (.ref b1)]) (lenOf pd_0 rfl) rfl (by show 2 * 0 + _ ≤ _; exact Nat.le_of_eq rfl) (hb hby at_11) (fun _ _ => ⟨rfl, e1, (by decide : 1 + 0 ≤ _), (by decide : 6 + 0 ≤ _)⟩)
  dsimp only [Pt.U, Pt.locs, Pt.cells, Pt.slots] at X2 l2 y2 z2 st2 hQ2
  subst l2 y2 z2
  obtain ⟨r2, rfl, N2q, e2⟩ := hQ2
  have N2 := Fr.app N0 N2q
  refine own_go st2 ?_
  show own_Fin _ _ _ _ T2 (mkF m 14 #[.val (.long x0), .second, .val (.long x1), .second, .val (.int x2), .val (.int x3), .val (.int x4), .val (.ref b1), .unset, .unset, .unset, .unset, .unset, .unset] [(.int r2), (.int (0 : Int32)), (.ref b1)]) _ _ _
  obtain ⟨T3, h3, X3, e3, W3, V3, st3⟩ := own_bst X2 hx hZ e2 V_b1 (j := (0 : Int32)) 0 (by decide) rfl (by decide) (g := (mkF m 14 #[.val (.long x0), .second, .val (.long x1), .second, .val (.int x2), .val (.int x3), .val (.int x4), .val (.ref b1), .unset, .unset, .unset, .unset, .unset, .unset] [(.int r2), (.int (0 : Int32)), (.ref b1)])) rfl rfl (hb hby at_14)
  obtain ⟨f3, hf3⟩ : ∃ f, f = own_up (fun _ => 0) 0 (nar .byte r2) := ⟨_, rfl⟩
  rw [← hf3] at V3
  have K3 : Keep h0 h3 [] := (K1).wr W3 (Or.inr sz_b1)
  have N3 := Fr.snoc X3 N2 g_b1
  have Z3 : n0 ≤ h3.size := Nat.le_trans Z1 (Keep.of_wr W3).1
  refine own_go st3 ?_
  show own_Fin _ _ _ _ T3 (mkF m 15 #[.val (.long x0), .second, .val (.long x1), .second, .val (.int x2), .val (.int x3), .val (.int x4), .val (.ref b1), .unset, .unset, .unset, .unset, .unset, .unset] []) _ _ _
  refine own_go (fun _ => XS.aload X3.here hx rfl (hb hby at_15) rfl rfl) ?_
  show own_Fin _ _ _ _ T3 (mkF m 17 #[.val (.long x0), .second, .val (.long x1), .second, .val (.int x2), .val (.int x3), .val (.int x4), .val (.ref b1), .unset, .unset, .unset, .unset, .unset, .unset] [(.ref b1)]) _ _ _
  refine own_go (fun _ => XS.iconst X3.here hx rfl (hb hby at_17)) ?_
  show own_Fin _ _ _ _ T3 (mkF m 18 #[.val (.long x0), .second, .val (.long x1), .second, .val (.int x2), .val (.int x3), .val (.int x4), .val (.ref b1), .unset, .unset, .unset, .unset, .unset, .unset] [(.int (1 : Int32)), (.ref b1)]) _ _ _
  refine own_go (fun _ => XS.lloadN X3.here hx rfl (hb hby at_18) rfl) ?_
  show own_Fin _ _ _ _ T3 (mkF m 19 #[.val (.long x0), .second, .val (.long x1), .second, .val (.int x2), .val (.int x3), .val (.int x4), .val (.ref b1), .unset, .unset, .unset, .unset, .unset, .unset] [(.long x0), (.int (1 : Int32)), (.ref b1)]) _ _ _
  refine own_go (fun _ => XS.iconst X3.here hx rfl (hb hby at_19)) ?_
  show own_Fin _ _ _ _ T3 (mkF m 20 #[.val (.long x0), .second, .val (.long x1), .second, .val (.int x2), .val (.int x3), .val (.int x4), .val (.ref b1), .unset, .unset, .unset, .unset, .unset, .unset] [(.int (1 : Int32)), (.long x0), (.int (1 : Int32)), (.ref b1)]) _ _ _
  obtain ⟨_, _, ⟨T4, L4, k4, n4⟩, -, X4, ⟨Lc4, hQ4, l4, y4, z4⟩, st4⟩ := Jvm.LawKit.callS X3 hx (y := (⟨"com/example/jitlens/jitlens/LogTextStartsWithPinLaw", "drawn", "(JI)B"⟩ : MethodName)) hown (mvT hZ (hw _ (List.mem_of_getElem? (i := 1) rfl))) (mvT hZ (hw _ (List.mem_of_getElem? (i := 2) rfl))) (mvT hZ (hw _ (List.mem_of_getElem? (i := 3) rfl))) (mvT hZ (hw _ (List.mem_of_getElem? (i := 4) rfl))) (by decide) (backOf (W := 2) (rm1 l Z a0 hw [] x0 (1 : Int32)  h3 n0 Z3 ) hZ (hw _ (List.mem_of_getElem? (i := 4) rfl)) (hw _ (List.mem_of_getElem? (i := 3) rfl)) (by decide) (by decide)) (g := (mkF m 20 #[.val (.long x0), .second, .val (.long x1), .second, .val (.int x2), .val (.int x3), .val (.int x4), .val (.ref b1), .unset, .unset, .unset, .unset, .unset, .unset] [(.int (1 : Int32)), (.long x0), (.int (1 : Int32)), (.ref b1)])) rfl (by rw [hml]; rfl) (argsL := [(.long x0), (.int (1 : Int32))]) (rest := [(.int (1 : Int32)), (.ref b1)]) (lenOf pd_0 rfl) rfl (by show 2 * 0 + _ ≤ _; exact Nat.le_of_eq rfl) (hb hby at_20) (fun _ _ => ⟨rfl, e3, (by decide : 1 + 0 ≤ _), (by decide : 6 + 0 ≤ _)⟩)
  dsimp only [Pt.U, Pt.locs, Pt.cells, Pt.slots] at X4 l4 y4 z4 st4 hQ4
  subst l4 y4 z4
  obtain ⟨r4, rfl, N4q, e4⟩ := hQ4
  have N4 := Fr.app N3 N4q
  refine own_go st4 ?_
  show own_Fin _ _ _ _ T4 (mkF m 23 #[.val (.long x0), .second, .val (.long x1), .second, .val (.int x2), .val (.int x3), .val (.int x4), .val (.ref b1), .unset, .unset, .unset, .unset, .unset, .unset] [(.int r4), (.int (1 : Int32)), (.ref b1)]) _ _ _
  obtain ⟨T5, h5, X5, e5, W5, V5, st5⟩ := own_bst X4 hx hZ e4 V3 (j := (1 : Int32)) 1 (by decide) rfl (by decide) (g := (mkF m 23 #[.val (.long x0), .second, .val (.long x1), .second, .val (.int x2), .val (.int x3), .val (.int x4), .val (.ref b1), .unset, .unset, .unset, .unset, .unset, .unset] [(.int r4), (.int (1 : Int32)), (.ref b1)])) rfl rfl (hb hby at_23)
  obtain ⟨f5, hf5⟩ : ∃ f, f = own_up f3 1 (nar .byte r4) := ⟨_, rfl⟩
  rw [← hf5] at V5
  have K5 : Keep h0 h5 [] := (K3).wr W5 (Or.inr sz_b1)
  have N5 := Fr.snoc X5 N4 g_b1
  have Z5 : n0 ≤ h5.size := Nat.le_trans Z3 (Keep.of_wr W5).1
  refine own_go st5 ?_
  show own_Fin _ _ _ _ T5 (mkF m 24 #[.val (.long x0), .second, .val (.long x1), .second, .val (.int x2), .val (.int x3), .val (.int x4), .val (.ref b1), .unset, .unset, .unset, .unset, .unset, .unset] []) _ _ _
  refine own_go (fun _ => XS.aload X5.here hx rfl (hb hby at_24) rfl rfl) ?_
  show own_Fin _ _ _ _ T5 (mkF m 26 #[.val (.long x0), .second, .val (.long x1), .second, .val (.int x2), .val (.int x3), .val (.int x4), .val (.ref b1), .unset, .unset, .unset, .unset, .unset, .unset] [(.ref b1)]) _ _ _
  refine own_go (fun _ => XS.iconst X5.here hx rfl (hb hby at_26)) ?_
  show own_Fin _ _ _ _ T5 (mkF m 27 #[.val (.long x0), .second, .val (.long x1), .second, .val (.int x2), .val (.int x3), .val (.int x4), .val (.ref b1), .unset, .unset, .unset, .unset, .unset, .unset] [(.int (2 : Int32)), (.ref b1)]) _ _ _
  refine own_go (fun _ => XS.lloadN X5.here hx rfl (hb hby at_27) rfl) ?_
  show own_Fin _ _ _ _ T5 (mkF m 28 #[.val (.long x0), .second, .val (.long x1), .second, .val (.int x2), .val (.int x3), .val (.int x4), .val (.ref b1), .unset, .unset, .unset, .unset, .unset, .unset] [(.long x0), (.int (2 : Int32)), (.ref b1)]) _ _ _
  refine own_go (fun _ => XS.iconst X5.here hx rfl (hb hby at_28)) ?_
  show own_Fin _ _ _ _ T5 (mkF m 29 #[.val (.long x0), .second, .val (.long x1), .second, .val (.int x2), .val (.int x3), .val (.int x4), .val (.ref b1), .unset, .unset, .unset, .unset, .unset, .unset] [(.int (2 : Int32)), (.long x0), (.int (2 : Int32)), (.ref b1)]) _ _ _
  obtain ⟨_, _, ⟨T6, L6, k6, n6⟩, -, X6, ⟨Lc6, hQ6, l6, y6, z6⟩, st6⟩ := Jvm.LawKit.callS X5 hx (y := (⟨"com/example/jitlens/jitlens/LogTextStartsWithPinLaw", "drawn", "(JI)B"⟩ : MethodName)) hown (mvT hZ (hw _ (List.mem_of_getElem? (i := 1) rfl))) (mvT hZ (hw _ (List.mem_of_getElem? (i := 2) rfl))) (mvT hZ (hw _ (List.mem_of_getElem? (i := 3) rfl))) (mvT hZ (hw _ (List.mem_of_getElem? (i := 4) rfl))) (by decide) (backOf (W := 2) (rm1 l Z a0 hw [] x0 (2 : Int32)  h5 n0 Z5 ) hZ (hw _ (List.mem_of_getElem? (i := 4) rfl)) (hw _ (List.mem_of_getElem? (i := 3) rfl)) (by decide) (by decide)) (g := (mkF m 29 #[.val (.long x0), .second, .val (.long x1), .second, .val (.int x2), .val (.int x3), .val (.int x4), .val (.ref b1), .unset, .unset, .unset, .unset, .unset, .unset] [(.int (2 : Int32)), (.long x0), (.int (2 : Int32)), (.ref b1)])) rfl (by rw [hml]; rfl) (argsL := [(.long x0), (.int (2 : Int32))]) (rest := [(.int (2 : Int32)), (.ref b1)]) (lenOf pd_0 rfl) rfl (by show 2 * 0 + _ ≤ _; exact Nat.le_of_eq rfl) (hb hby at_29) (fun _ _ => ⟨rfl, e5, (by decide : 1 + 0 ≤ _), (by decide : 6 + 0 ≤ _)⟩)
  dsimp only [Pt.U, Pt.locs, Pt.cells, Pt.slots] at X6 l6 y6 z6 st6 hQ6
  subst l6 y6 z6
  obtain ⟨r6, rfl, N6q, e6⟩ := hQ6
  have N6 := Fr.app N5 N6q
  refine own_go st6 ?_
  show own_Fin _ _ _ _ T6 (mkF m 32 #[.val (.long x0), .second, .val (.long x1), .second, .val (.int x2), .val (.int x3), .val (.int x4), .val (.ref b1), .unset, .unset, .unset, .unset, .unset, .unset] [(.int r6), (.int (2 : Int32)), (.ref b1)]) _ _ _
  obtain ⟨T7, h7, X7, e7, W7, V7, st7⟩ := own_bst X6 hx hZ e6 V5 (j := (2 : Int32)) 2 (by decide) rfl (by decide) (g := (mkF m 32 #[.val (.long x0), .second, .val (.long x1), .second, .val (.int x2), .val (.int x3), .val (.int x4), .val (.ref b1), .unset, .unset, .unset, .unset, .unset, .unset] [(.int r6), (.int (2 : Int32)), (.ref b1)])) rfl rfl (hb hby at_32)
  obtain ⟨f7, hf7⟩ : ∃ f, f = own_up f5 2 (nar .byte r6) := ⟨_, rfl⟩
  rw [← hf7] at V7
  have K7 : Keep h0 h7 [] := (K5).wr W7 (Or.inr sz_b1)
  have N7 := Fr.snoc X7 N6 g_b1
  have Z7 : n0 ≤ h7.size := Nat.le_trans Z5 (Keep.of_wr W7).1
  refine own_go st7 ?_
  show own_Fin _ _ _ _ T7 (mkF m 33 #[.val (.long x0), .second, .val (.long x1), .second, .val (.int x2), .val (.int x3), .val (.int x4), .val (.ref b1), .unset, .unset, .unset, .unset, .unset, .unset] []) _ _ _
  refine own_go (fun _ => XS.aload X7.here hx rfl (hb hby at_33) rfl rfl) ?_
  show own_Fin _ _ _ _ T7 (mkF m 35 #[.val (.long x0), .second, .val (.long x1), .second, .val (.int x2), .val (.int x3), .val (.int x4), .val (.ref b1), .unset, .unset, .unset, .unset, .unset, .unset] [(.ref b1)]) _ _ _
  refine own_go (fun _ => XS.iconst X7.here hx rfl (hb hby at_35)) ?_
  show own_Fin _ _ _ _ T7 (mkF m 36 #[.val (.long x0), .second, .val (.long x1), .second, .val (.int x2), .val (.int x3), .val (.int x4), .val (.ref b1), .unset, .unset, .unset, .unset, .unset, .unset] [(.int (3 : Int32)), (.ref b1)]) _ _ _
  refine own_go (fun _ => XS.lloadN X7.here hx rfl (hb hby at_36) rfl) ?_
  show own_Fin _ _ _ _ T7 (mkF m 37 #[.val (.long x0), .second, .val (.long x1), .second, .val (.int x2), .val (.int x3), .val (.int x4), .val (.ref b1), .unset, .unset, .unset, .unset, .unset, .unset] [(.long x0), (.int (3 : Int32)), (.ref b1)]) _ _ _
  refine own_go (fun _ => XS.iconst X7.here hx rfl (hb hby at_37)) ?_
  show own_Fin _ _ _ _ T7 (mkF m 38 #[.val (.long x0), .second, .val (.long x1), .second, .val (.int x2), .val (.int x3), .val (.int x4), .val (.ref b1), .unset, .unset, .unset, .unset, .unset, .unset] [(.int (3 : Int32)), (.long x0), (.int (3 : Int32)), (.ref b1)]) _ _ _
  obtain ⟨_, _, ⟨T8, L8, k8, n8⟩, -, X8, ⟨Lc8, hQ8, l8, y8, z8⟩, st8⟩ := Jvm.LawKit.callS X7 hx (y := (⟨"com/example/jitlens/jitlens/LogTextStartsWithPinLaw", "drawn", "(JI)B"⟩ : MethodName)) hown (mvT hZ (hw _ (List.mem_of_getElem? (i := 1) rfl))) (mvT hZ (hw _ (List.mem_of_getElem? (i := 2) rfl))) (mvT hZ (hw _ (List.mem_of_getElem? (i := 3) rfl))) (mvT hZ (hw _ (List.mem_of_getElem? (i := 4) rfl))) (by decide) (backOf (W := 2) (rm1 l Z a0 hw [] x0 (3 : Int32)  h7 n0 Z7 ) hZ (hw _ (List.mem_of_getElem? (i := 4) rfl)) (hw _ (List.mem_of_getElem? (i := 3) rfl)) (by decide) (by decide)) (g := (mkF m 38 #[.val (.long x0), .second, .val (.long x1), .second, .val (.int x2), .val (.int x3), .val (.int x4), .val (.ref b1), .unset, .unset, .unset, .unset, .unset, .unset] [(.int (3 : Int32)), (.long x0), (.int (3 : Int32)), (.ref b1)])) rfl (by rw [hml]; rfl) (argsL := [(.long x0), (.int (3 : Int32))]) (rest := [(.int (3 : Int32)), (.ref b1)]) (lenOf pd_0 rfl) rfl (by show 2 * 0 + _ ≤ _; exact Nat.le_of_eq rfl) (hb hby at_38) (fun _ _ => ⟨rfl, e7, (by decide : 1 + 0 ≤ _), (by decide : 6 + 0 ≤ _)⟩)
  dsimp only [Pt.U, Pt.locs, Pt.cells, Pt.slots] at X8 l8 y8 z8 st8 hQ8
  subst l8 y8 z8
  obtain ⟨r8, rfl, N8q, e8⟩ := hQ8
  have N8 := Fr.app N7 N8q
  refine own_go st8 ?_
  show own_Fin _ _ _ _ T8 (mkF m 41 #[.val (.long x0), .second, .val (.long x1), .second, .val (.int x2), .val (.int x3), .val (.int x4), .val (.ref b1), .unset, .unset, .unset, .unset, .unset, .unset] [(.int r8), (.int (3 : Int32)), (.ref b1)]) _ _ _
  obtain ⟨T9, h9, X9, e9, W9, V9, st9⟩ := own_bst X8 hx hZ e8 V7 (j := (3 : Int32)) 3 (by decide) rfl (by decide) (g := (mkF m 41 #[.val (.long x0), .second, .val (.long x1), .second, .val (.int x2), .val (.int x3), .val (.int x4), .val (.ref b1), .unset, .unset, .unset, .unset, .unset, .unset] [(.int r8), (.int (3 : Int32)), (.ref b1)])) rfl rfl (hb hby at_41)
  obtain ⟨f9, hf9⟩ : ∃ f, f = own_up f7 3 (nar .byte r8) := ⟨_, rfl⟩
  rw [← hf9] at V9
  have K9 : Keep h0 h9 [] := (K7).wr W9 (Or.inr sz_b1)
  have N9 := Fr.snoc X9 N8 g_b1
  have Z9 : n0 ≤ h9.size := Nat.le_trans Z7 (Keep.of_wr W9).1
  refine own_go st9 ?_
  show own_Fin _ _ _ _ T9 (mkF m 42 #[.val (.long x0), .second, .val (.long x1), .second, .val (.int x2), .val (.int x3), .val (.int x4), .val (.ref b1), .unset, .unset, .unset, .unset, .unset, .unset] []) _ _ _
  refine own_go (fun _ => XS.aload X9.here hx rfl (hb hby at_42) rfl rfl) ?_
  show own_Fin _ _ _ _ T9 (mkF m 44 #[.val (.long x0), .second, .val (.long x1), .second, .val (.int x2), .val (.int x3), .val (.int x4), .val (.ref b1), .unset, .unset, .unset, .unset, .unset, .unset] [(.ref b1)]) _ _ _
  refine own_go (fun _ => XS.iconst X9.here hx rfl (hb hby at_44)) ?_
  show own_Fin _ _ _ _ T9 (mkF m 45 #[.val (.long x0), .second, .val (.long x1), .second, .val (.int x2), .val (.int x3), .val (.int x4), .val (.ref b1), .unset, .unset, .unset, .unset, .unset, .unset] [(.int (4 : Int32)), (.ref b1)]) _ _ _
  refine own_go (fun _ => XS.lloadN X9.here hx rfl (hb hby at_45) rfl) ?_
  show own_Fin _ _ _ _ T9 (mkF m 46 #[.val (.long x0), .second, .val (.long x1), .second, .val (.int x2), .val (.int x3), .val (.int x4), .val (.ref b1), .unset, .unset, .unset, .unset, .unset, .unset] [(.long x0), (.int (4 : Int32)), (.ref b1)]) _ _ _
  refine own_go (fun _ => XS.iconst X9.here hx rfl (hb hby at_46)) ?_
  show own_Fin _ _ _ _ T9 (mkF m 47 #[.val (.long x0), .second, .val (.long x1), .second, .val (.int x2), .val (.int x3), .val (.int x4), .val (.ref b1), .unset, .unset, .unset, .unset, .unset, .unset] [(.int (4 : Int32)), (.long x0), (.int (4 : Int32)), (.ref b1)]) _ _ _
  obtain ⟨_, _, ⟨T10, L10, k10, n10⟩, -, X10, ⟨Lc10, hQ10, l10, y10, z10⟩, st10⟩ := Jvm.LawKit.callS X9 hx (y := (⟨"com/example/jitlens/jitlens/LogTextStartsWithPinLaw", "drawn", "(JI)B"⟩ : MethodName)) hown (mvT hZ (hw _ (List.mem_of_getElem? (i := 1) rfl))) (mvT hZ (hw _ (List.mem_of_getElem? (i := 2) rfl))) (mvT hZ (hw _ (List.mem_of_getElem? (i := 3) rfl))) (mvT hZ (hw _ (List.mem_of_getElem? (i := 4) rfl))) (by decide) (backOf (W := 2) (rm1 l Z a0 hw [] x0 (4 : Int32)  h9 n0 Z9 ) hZ (hw _ (List.mem_of_getElem? (i := 4) rfl)) (hw _ (List.mem_of_getElem? (i := 3) rfl)) (by decide) (by decide)) (g := (mkF m 47 #[.val (.long x0), .second, .val (.long x1), .second, .val (.int x2), .val (.int x3), .val (.int x4), .val (.ref b1), .unset, .unset, .unset, .unset, .unset, .unset] [(.int (4 : Int32)), (.long x0), (.int (4 : Int32)), (.ref b1)])) rfl (by rw [hml]; rfl) (argsL := [(.long x0), (.int (4 : Int32))]) (rest := [(.int (4 : Int32)), (.ref b1)]) (lenOf pd_0 rfl) rfl (by show 2 * 0 + _ ≤ _; exact Nat.le_of_eq rfl) (hb hby at_47) (fun _ _ => ⟨rfl, e9, (by decide : 1 + 0 ≤ _), (by decide : 6 + 0 ≤ _)⟩)
  dsimp only [Pt.U, Pt.locs, Pt.cells, Pt.slots] at X10 l10 y10 z10 st10 hQ10
  subst l10 y10 z10
  obtain ⟨r10, rfl, N10q, e10⟩ := hQ10
  have N10 := Fr.app N9 N10q
  refine own_go st10 ?_
  show own_Fin _ _ _ _ T10 (mkF m 50 #[.val (.long x0), .second, .val (.long x1), .second, .val (.int x2), .val (.int x3), .val (.int x4), .val (.ref b1), .unset, .unset, .unset, .unset, .unset, .unset] [(.int r10), (.int (4 : Int32)), (.ref b1)]) _ _ _
  obtain ⟨T11, h11, X11, e11, W11, V11, st11⟩ := own_bst X10 hx hZ e10 V9 (j := (4 : Int32)) 4 (by decide) rfl (by decide) (g := (mkF m 50 #[.val (.long x0), .second, .val (.long x1), .second, .val (.int x2), .val (.int x3), .val (.int x4), .val (.ref b1), .unset, .unset, .unset, .unset, .unset, .unset] [(.int r10), (.int (4 : Int32)), (.ref b1)])) rfl rfl (hb hby at_50)
  obtain ⟨f11, hf11⟩ : ∃ f, f = own_up f9 4 (nar .byte r10) := ⟨_, rfl⟩
  rw [← hf11] at V11
  have K11 : Keep h0 h11 [] := (K9).wr W11 (Or.inr sz_b1)
  have N11 := Fr.snoc X11 N10 g_b1
  have Z11 : n0 ≤ h11.size := Nat.le_trans Z9 (Keep.of_wr W11).1
  refine own_go st11 ?_
  show own_Fin _ _ _ _ T11 (mkF m 51 #[.val (.long x0), .second, .val (.long x1), .second, .val (.int x2), .val (.int x3), .val (.int x4), .val (.ref b1), .unset, .unset, .unset, .unset, .unset, .unset] []) _ _ _
  refine own_go (fun _ => XS.aload X11.here hx rfl (hb hby at_51) rfl rfl) ?_
  show own_Fin _ _ _ _ T11 (mkF m 53 #[.val (.long x0), .second, .val (.long x1), .second, .val (.int x2), .val (.int x3), .val (.int x4), .val (.ref b1), .unset, .unset, .unset, .unset, .unset, .unset] [(.ref b1)]) _ _ _
  refine own_go (fun _ => XS.iconst X11.here hx rfl (hb hby at_53)) ?_
  show own_Fin _ _ _ _ T11 (mkF m 54 #[.val (.long x0), .second, .val (.long x1), .second, .val (.int x2), .val (.int x3), .val (.int x4), .val (.ref b1), .unset, .unset, .unset, .unset, .unset, .unset] [(.int (5 : Int32)), (.ref b1)]) _ _ _
  refine own_go (fun _ => XS.lloadN X11.here hx rfl (hb hby at_54) rfl) ?_
  show own_Fin _ _ _ _ T11 (mkF m 55 #[.val (.long x0), .second, .val (.long x1), .second, .val (.int x2), .val (.int x3), .val (.int x4), .val (.ref b1), .unset, .unset, .unset, .unset, .unset, .unset] [(.long x0), (.int (5 : Int32)), (.ref b1)]) _ _ _
  refine own_go (fun _ => XS.iconst X11.here hx rfl (hb hby at_55)) ?_
  show own_Fin _ _ _ _ T11 (mkF m 56 #[.val (.long x0), .second, .val (.long x1), .second, .val (.int x2), .val (.int x3), .val (.int x4), .val (.ref b1), .unset, .unset, .unset, .unset, .unset, .unset] [(.int (5 : Int32)), (.long x0), (.int (5 : Int32)), (.ref b1)]) _ _ _
  obtain ⟨_, _, ⟨T12, L12, k12, n12⟩, -, X12, ⟨Lc12, hQ12, l12, y12, z12⟩, st12⟩ := Jvm.LawKit.callS X11 hx (y := (⟨"com/example/jitlens/jitlens/LogTextStartsWithPinLaw", "drawn", "(JI)B"⟩ : MethodName)) hown (mvT hZ (hw _ (List.mem_of_getElem? (i := 1) rfl))) (mvT hZ (hw _ (List.mem_of_getElem? (i := 2) rfl))) (mvT hZ (hw _ (List.mem_of_getElem? (i := 3) rfl))) (mvT hZ (hw _ (List.mem_of_getElem? (i := 4) rfl))) (by decide) (backOf (W := 2) (rm1 l Z a0 hw [] x0 (5 : Int32)  h11 n0 Z11 ) hZ (hw _ (List.mem_of_getElem? (i := 4) rfl)) (hw _ (List.mem_of_getElem? (i := 3) rfl)) (by decide) (by decide)) (g := (mkF m 56 #[.val (.long x0), .second, .val (.long x1), .second, .val (.int x2), .val (.int x3), .val (.int x4), .val (.ref b1), .unset, .unset, .unset, .unset, .unset, .unset] [(.int (5 : Int32)), (.long x0), (.int (5 : Int32)), (.ref b1)])) rfl (by rw [hml]; rfl) (argsL := [(.long x0), (.int (5 : Int32))]) (rest := [(.int (5 : Int32)), (.ref b1)]) (lenOf pd_0 rfl) rfl (by show 2 * 0 + _ ≤ _; exact Nat.le_of_eq rfl) (hb hby at_56) (fun _ _ => ⟨rfl, e11, (by decide : 1 + 0 ≤ _), (by decide : 6 + 0 ≤ _)⟩)
  dsimp only [Pt.U, Pt.locs, Pt.cells, Pt.slots] at X12 l12 y12 z12 st12 hQ12
  subst l12 y12 z12
  obtain ⟨r12, rfl, N12q, e12⟩ := hQ12
  have N12 := Fr.app N11 N12q
  refine own_go st12 ?_
  show own_Fin _ _ _ _ T12 (mkF m 59 #[.val (.long x0), .second, .val (.long x1), .second, .val (.int x2), .val (.int x3), .val (.int x4), .val (.ref b1), .unset, .unset, .unset, .unset, .unset, .unset] [(.int r12), (.int (5 : Int32)), (.ref b1)]) _ _ _
  obtain ⟨T13, h13, X13, e13, W13, V13, st13⟩ := own_bst X12 hx hZ e12 V11 (j := (5 : Int32)) 5 (by decide) rfl (by decide) (g := (mkF m 59 #[.val (.long x0), .second, .val (.long x1), .second, .val (.int x2), .val (.int x3), .val (.int x4), .val (.ref b1), .unset, .unset, .unset, .unset, .unset, .unset] [(.int r12), (.int (5 : Int32)), (.ref b1)])) rfl rfl (hb hby at_59)
  obtain ⟨f13, hf13⟩ : ∃ f, f = own_up f11 5 (nar .byte r12) := ⟨_, rfl⟩
  rw [← hf13] at V13
  have K13 : Keep h0 h13 [] := (K11).wr W13 (Or.inr sz_b1)
  have N13 := Fr.snoc X13 N12 g_b1
  have Z13 : n0 ≤ h13.size := Nat.le_trans Z11 (Keep.of_wr W13).1
  refine own_go st13 ?_
  show own_Fin _ _ _ _ T13 (mkF m 60 #[.val (.long x0), .second, .val (.long x1), .second, .val (.int x2), .val (.int x3), .val (.int x4), .val (.ref b1), .unset, .unset, .unset, .unset, .unset, .unset] []) _ _ _
  refine own_go (fun _ => XS.iload X13.here hx rfl (hb hby at_60) rfl) ?_
  show own_Fin _ _ _ _ T13 (mkF m 62 #[.val (.long x0), .second, .val (.long x1), .second, .val (.int x2), .val (.int x3), .val (.int x4), .val (.ref b1), .unset, .unset, .unset, .unset, .unset, .unset] [(.int x4)]) _ _ _
  refine own_go (fun _ => XS.iconst X13.here hx rfl (hb hby at_62)) ?_
  show own_Fin _ _ _ _ T13 (mkF m 63 #[.val (.long x0), .second, .val (.long x1), .second, .val (.int x2), .val (.int x3), .val (.int x4), .val (.ref b1), .unset, .unset, .unset, .unset, .unset, .unset] [(.int (3 : Int32)), (.int x4)]) _ _ _
  refine own_go (fun _ => XS.iand X13.here hx rfl (hb hby at_63) rfl) ?_
  show own_Fin _ _ _ _ T13 (mkF m 64 #[.val (.long x0), .second, .val (.long x1), .second, .val (.int x2), .val (.int x3), .val (.int x4), .val (.ref b1), .unset, .unset, .unset, .unset, .unset, .unset] [(.int (x4 &&& (3 : Int32)))]) _ _ _
  rcases own_and3 x4 with hl | hl | hl | hl
  · rw [hl]
    show own_Fin _ _ _ _ T13 (mkF m 64 #[.val (.long x0), .second, .val (.long x1), .second, .val (.int x2), .val (.int x3), .val (.int x4), .val (.ref b1), .unset, .unset, .unset, .unset, .unset, .unset] [(.int (0 : Int32))]) _ _ _
    refine own_go (fun _ => XS.istore X13.here hx rfl (hb hby at_64) rfl (l' := #[.val (.long x0), .second, .val (.long x1), .second, .val (.int x2), .val (.int x3), .val (.int x4), .val (.ref b1), .val (.int (0 : Int32)), .unset, .unset, .unset, .unset, .unset]) rfl) ?_
    show own_Fin _ _ _ _ T13 (mkF m 66 #[.val (.long x0), .second, .val (.long x1), .second, .val (.int x2), .val (.int x3), .val (.int x4), .val (.ref b1), .val (.int (0 : Int32)), .unset, .unset, .unset, .unset, .unset] []) _ _ _
    refine own_go (fun _ => XS.iload X13.here hx rfl (hb hby at_66) rfl) ?_
    show own_Fin _ _ _ _ T13 (mkF m 68 #[.val (.long x0), .second, .val (.long x1), .second, .val (.int x2), .val (.int x3), .val (.int x4), .val (.ref b1), .val (.int (0 : Int32)), .unset, .unset, .unset, .unset, .unset] [(.int x3)]) _ _ _
    refine own_go (fun _ => X13.ldcI hx hown (mvT hZ (hw _ (List.mem_of_getElem? (i := 5) rfl))) rfl (hb hby at_68)) ?_
    show own_Fin _ _ _ _ T13 (mkF m 70 #[.val (.long x0), .second, .val (.long x1), .second, .val (.int x2), .val (.int x3), .val (.int x4), .val (.ref b1), .val (.int (0 : Int32)), .unset, .unset, .unset, .unset, .unset] [(.int (2147483647 : Int32)), (.int x3)]) _ _ _
    refine own_go (fun _ => XS.iand X13.here hx rfl (hb hby at_70) rfl) ?_
    show own_Fin _ _ _ _ T13 (mkF m 71 #[.val (.long x0), .second, .val (.long x1), .second, .val (.int x2), .val (.int x3), .val (.int x4), .val (.ref b1), .val (.int (0 : Int32)), .unset, .unset, .unset, .unset, .unset] [(.int (x3 &&& (2147483647 : Int32)))]) _ _ _
    refine own_go (fun _ => XS.bipush X13.here hx rfl (hb hby at_71)) ?_
    show own_Fin _ _ _ _ T13 (mkF m 73 #[.val (.long x0), .second, .val (.long x1), .second, .val (.int x2), .val (.int x3), .val (.int x4), .val (.ref b1), .val (.int (0 : Int32)), .unset, .unset, .unset, .unset, .unset] [(.int (7 : Int32)), (.int (x3 &&& (2147483647 : Int32)))]) _ _ _
    refine own_go (fun _ => XS.irem X13.here hx rfl (hb hby at_73) rfl (by decide)) ?_
    show own_Fin _ _ _ _ T13 (mkF m 74 #[.val (.long x0), .second, .val (.long x1), .second, .val (.int x2), .val (.int x3), .val (.int x4), .val (.ref b1), .val (.int (0 : Int32)), .unset, .unset, .unset, .unset, .unset] [(.int ((x3 &&& (2147483647 : Int32)) - ((x3 &&& (2147483647 : Int32)) / (7 : Int32)) * (7 : Int32)))]) _ _ _
    obtain ⟨y9, hq9⟩ : ∃ z, z = ((x3 &&& (2147483647 : Int32)) - ((x3 &&& (2147483647 : Int32)) / (7 : Int32)) * (7 : Int32)) := ⟨_, rfl⟩
    have hto : y9.toInt ≤ 6 := hq9 ▸ own_to x3
    rw [← hq9]
    show own_Fin _ _ _ _ T13 (mkF m 74 #[.val (.long x0), .second, .val (.long x1), .second, .val (.int x2), .val (.int x3), .val (.int x4), .val (.ref b1), .val (.int (0 : Int32)), .unset, .unset, .unset, .unset, .unset] [(.int y9)]) _ _ _
    refine own_go (fun _ => XS.istore X13.here hx rfl (hb hby at_74) rfl (l' := #[.val (.long x0), .second, .val (.long x1), .second, .val (.int x2), .val (.int x3), .val (.int x4), .val (.ref b1), .val (.int (0 : Int32)), .val (.int y9), .unset, .unset, .unset, .unset]) rfl) ?_
    show own_Fin _ _ _ _ T13 (mkF m 76 #[.val (.long x0), .second, .val (.long x1), .second, .val (.int x2), .val (.int x3), .val (.int x4), .val (.ref b1), .val (.int (0 : Int32)), .val (.int y9), .unset, .unset, .unset, .unset] []) _ _ _
    refine own_go (fun _ => XS.iload X13.here hx rfl (hb hby at_76) rfl) ?_
    show own_Fin _ _ _ _ T13 (mkF m 78 #[.val (.long x0), .second, .val (.long x1), .second, .val (.int x2), .val (.int x3), .val (.int x4), .val (.ref b1), .val (.int (0 : Int32)), .val (.int y9), .unset, .unset, .unset, .unset] [(.int x2)]) _ _ _
    refine own_go (fun _ => XS.bipush X13.here hx rfl (hb hby at_78)) ?_
    show own_Fin _ _ _ _ T13 (mkF m 80 #[.val (.long x0), .second, .val (.long x1), .second, .val (.int x2), .val (.int x3), .val (.int x4), .val (.ref b1), .val (.int (0 : Int32)), .val (.int y9), .unset, .unset, .unset, .unset] [(.int (9 : Int32)), (.int x2)]) _ _ _
    refine own_go (fun _ => XS.irem X13.here hx rfl (hb hby at_80) rfl (by decide)) ?_
    show own_Fin _ _ _ _ T13 (mkF m 81 #[.val (.long x0), .second, .val (.long x1), .second, .val (.int x2), .val (.int x3), .val (.int x4), .val (.ref b1), .val (.int (0 : Int32)), .val (.int y9), .unset, .unset, .unset, .unset] [(.int (x2 - (x2 / (9 : Int32)) * (9 : Int32)))]) _ _ _
    obtain ⟨y10, hq10⟩ : ∃ z, z = (x2 - (x2 / (9 : Int32)) * (9 : Int32)) := ⟨_, rfl⟩
    have hat : y10.toInt < 9 := hq10 ▸ own_at x2
    rw [← hq10]
    show own_Fin _ _ _ _ T13 (mkF m 81 #[.val (.long x0), .second, .val (.long x1), .second, .val (.int x2), .val (.int x3), .val (.int x4), .val (.ref b1), .val (.int (0 : Int32)), .val (.int y9), .unset, .unset, .unset, .unset] [(.int y10)]) _ _ _
    refine own_go (fun _ => XS.istore X13.here hx rfl (hb hby at_81) rfl (l' := #[.val (.long x0), .second, .val (.long x1), .second, .val (.int x2), .val (.int x3), .val (.int x4), .val (.ref b1), .val (.int (0 : Int32)), .val (.int y9), .val (.int y10), .unset, .unset, .unset]) rfl) ?_
    show own_Fin _ _ _ _ T13 (mkF m 83 #[.val (.long x0), .second, .val (.long x1), .second, .val (.int x2), .val (.int x3), .val (.int x4), .val (.ref b1), .val (.int (0 : Int32)), .val (.int y9), .val (.int y10), .unset, .unset, .unset] []) _ _ _
    refine own_go (fun _ => XS.iload X13.here hx rfl (hb hby at_83) rfl) ?_
    show own_Fin _ _ _ _ T13 (mkF m 85 #[.val (.long x0), .second, .val (.long x1), .second, .val (.int x2), .val (.int x3), .val (.int x4), .val (.ref b1), .val (.int (0 : Int32)), .val (.int y9), .val (.int y10), .unset, .unset, .unset] [(.int (0 : Int32))]) _ _ _
    obtain ⟨T14, h14, k14, X14, e14, E14, A14, st14⟩ := newP X13 hx hZ (hw _ (List.mem_of_getElem? (i := 0) rfl)) e13 (g := (mkF m 85 #[.val (.long x0), .second, .val (.long x1), .second, .val (.int x2), .val (.int x3), .val (.int x4), .val (.ref b1), .val (.int (0 : Int32)), .val (.int y9), .val (.int y10), .unset, .unset, .unset] [(.int (0 : Int32))])) rfl (hb hby at_85) rfl (by decide) (cap := 0) (by decide) (by decide) (by decide) (by decide)
    obtain ⟨b14, g14⟩ : ∃ z, z = h13.size := ⟨_, rfl⟩
    rw [← g14] at A14 st14
    have g_b14 : n0 ≤ b14 := Nat.le_trans Z13 (Nat.le_of_eq g14.symm)
    have Z14 : n0 ≤ h14.size := Nat.le_trans Z13 E14.1
    have ne_b1_b14 : b1 ≠ b14 := Nat.ne_of_lt (Nat.lt_of_lt_of_le (V13).lt (Nat.le_of_eq g14.symm))
    have sz_b14 : h0.size ≤ b14 := Nat.le_trans (K13).1 (Nat.le_of_eq g14.symm)
    have K14 : Keep h0 h14 [] := (K13).ext E14
    have V14_b1 := (V13).ext E14
    have V_b14 : own_Ba Z h14 b14 0 (fun _ => 0) := own_Ba.new A14 (by decide)
    refine own_go st14 ?_
    show own_Fin _ _ _ _ T14 (mkF m 87 #[.val (.long x0), .second, .val (.long x1), .second, .val (.int x2), .val (.int x3), .val (.int x4), .val (.ref b1), .val (.int (0 : Int32)), .val (.int y9), .val (.int y10), .unset, .unset, .unset] [(.ref b14)]) _ _ _
    refine own_go (fun _ => XS.astore X14.here hx rfl (hb hby at_87) rfl rfl (l' := #[.val (.long x0), .second, .val (.long x1), .second, .val (.int x2), .val (.int x3), .val (.int x4), .val (.ref b1), .val (.int (0 : Int32)), .val (.int y9), .val (.int y10), .val (.ref b14), .unset, .unset]) rfl) ?_
    show own_Fin _ _ _ _ T14 (mkF m 89 #[.val (.long x0), .second, .val (.long x1), .second, .val (.int x2), .val (.int x3), .val (.int x4), .val (.ref b1), .val (.int (0 : Int32)), .val (.int y9), .val (.int y10), .val (.ref b14), .unset, .unset] []) _ _ _
    refine own_go (fun _ => XS.iload X14.here hx rfl (hb hby at_89) rfl) ?_
    show own_Fin _ _ _ _ T14 (mkF m 91 #[.val (.long x0), .second, .val (.long x1), .second, .val (.int x2), .val (.int x3), .val (.int x4), .val (.ref b1), .val (.int (0 : Int32)), .val (.int y9), .val (.int y10), .val (.ref b14), .unset, .unset] [(.int (0 : Int32))]) _ _ _
    refine own_go (fun _ => XS.ifYes X14.here hx rfl (pc0 := 91) (pc' := 109) rfl (hb hby at_91) rfl ((if0 _ _).trans (flt (show ¬ ((0 : Int32) < (0 : Int32)) from (by decide))).2.2.2) (by decide) (by decide)) ?_
    show own_Fin _ _ _ _ T14 (mkF m 109 #[.val (.long x0), .second, .val (.long x1), .second, .val (.int x2), .val (.int x3), .val (.int x4), .val (.ref b1), .val (.int (0 : Int32)), .val (.int y9), .val (.int y10), .val (.ref b14), .unset, .unset] []) _ _ _
    refine own_go (fun _ => XS.iload X14.here hx rfl (hb hby at_109) rfl) ?_
    show own_Fin _ _ _ _ T14 (mkF m 111 #[.val (.long x0), .second, .val (.long x1), .second, .val (.int x2), .val (.int x3), .val (.int x4), .val (.ref b1), .val (.int (0 : Int32)), .val (.int y9), .val (.int y10), .val (.ref b14), .unset, .unset] [(.int (0 : Int32))]) _ _ _
    refine own_go (fun _ => XS.iconst X14.here hx rfl (hb hby at_111)) ?_
    show own_Fin _ _ _ _ T14 (mkF m 112 #[.val (.long x0), .second, .val (.long x1), .second, .val (.int x2), .val (.int x3), .val (.int x4), .val (.ref b1), .val (.int (0 : Int32)), .val (.int y9), .val (.int y10), .val (.ref b14), .unset, .unset] [(.int (1 : Int32)), (.int (0 : Int32))]) _ _ _
    refine own_go (fun _ => XS.icmpYes X14.here hx rfl (pc0 := 112) (pc' := 130) rfl (hb hby at_112) rfl (flt (show ¬ ((1 : Int32) < (0 : Int32)) from (by decide))).2.2.2 (by decide) (by decide)) ?_
    show own_Fin _ _ _ _ T14 (mkF m 130 #[.val (.long x0), .second, .val (.long x1), .second, .val (.int x2), .val (.int x3), .val (.int x4), .val (.ref b1), .val (.int (0 : Int32)), .val (.int y9), .val (.int y10), .val (.ref b14), .unset, .unset] []) _ _ _
    refine own_go (fun _ => XS.iload X14.here hx rfl (hb hby at_130) rfl) ?_
    show own_Fin _ _ _ _ T14 (mkF m 132 #[.val (.long x0), .second, .val (.long x1), .second, .val (.int x2), .val (.int x3), .val (.int x4), .val (.ref b1), .val (.int (0 : Int32)), .val (.int y9), .val (.int y10), .val (.ref b14), .unset, .unset] [(.int (0 : Int32))]) _ _ _
    refine own_go (fun _ => XS.iconst X14.here hx rfl (hb hby at_132)) ?_
    show own_Fin _ _ _ _ T14 (mkF m 133 #[.val (.long x0), .second, .val (.long x1), .second, .val (.int x2), .val (.int x3), .val (.int x4), .val (.ref b1), .val (.int (0 : Int32)), .val (.int y9), .val (.int y10), .val (.ref b14), .unset, .unset] [(.int (2 : Int32)), (.int (0 : Int32))]) _ _ _
    refine own_go (fun _ => XS.icmpYes X14.here hx rfl (pc0 := 133) (pc' := 151) rfl (hb hby at_133) rfl (flt (show ¬ ((2 : Int32) < (0 : Int32)) from (by decide))).2.2.2 (by decide) (by decide)) ?_
    show own_Fin _ _ _ _ T14 (mkF m 151 #[.val (.long x0), .second, .val (.long x1), .second, .val (.int x2), .val (.int x3), .val (.int x4), .val (.ref b1), .val (.int (0 : Int32)), .val (.int y9), .val (.int y10), .val (.ref b14), .unset, .unset] []) _ _ _
    refine own_go (fun _ => XS.iload X14.here hx rfl (hb hby at_151) rfl) ?_
    show own_Fin _ _ _ _ T14 (mkF m 153 #[.val (.long x0), .second, .val (.long x1), .second, .val (.int x2), .val (.int x3), .val (.int x4), .val (.ref b1), .val (.int (0 : Int32)), .val (.int y9), .val (.int y10), .val (.ref b14), .unset, .unset] [(.int y10)]) _ _ _
    by_cases h153 : y10 < (0 : Int32)
    · refine own_go (fun _ => XS.ifYes X14.here hx rfl (pc0 := 153) (pc' := 228) rfl (hb hby at_153) rfl ((if0 _ _).trans (tlt h153).1) (by decide) (by decide)) ?_
      show own_Fin _ _ _ _ T14 (mkF m 228 #[.val (.long x0), .second, .val (.long x1), .second, .val (.int x2), .val (.int x3), .val (.int x4), .val (.ref b1), .val (.int (0 : Int32)), .val (.int y9), .val (.int y10), .val (.ref b14), .unset, .unset] []) _ _ _
      refine own_go (fun _ => XS.iconst X14.here hx rfl (hb hby at_228)) ?_
      show own_Fin _ _ _ _ T14 (mkF m 229 #[.val (.long x0), .second, .val (.long x1), .second, .val (.int x2), .val (.int x3), .val (.int x4), .val (.ref b1), .val (.int (0 : Int32)), .val (.int y9), .val (.int y10), .val (.ref b14), .unset, .unset] [(.int (0 : Int32))]) _ _ _
      refine own_go (fun _ => XS.istore X14.here hx rfl (hb hby at_229) rfl (l' := #[.val (.long x0), .second, .val (.long x1), .second, .val (.int x2), .val (.int x3), .val (.int x4), .val (.ref b1), .val (.int (0 : Int32)), .val (.int y9), .val (.int y10), .val (.ref b14), .val (.int (0 : Int32)), .unset]) rfl) ?_
      show own_Fin _ _ _ _ T14 (mkF m 231 #[.val (.long x0), .second, .val (.long x1), .second, .val (.int x2), .val (.int x3), .val (.int x4), .val (.ref b1), .val (.int (0 : Int32)), .val (.int y9), .val (.int y10), .val (.ref b14), .val (.int (0 : Int32)), .unset] []) _ _ _
      refine own_go (fun _ => XS.aload X14.here hx rfl (hb hby at_231) rfl rfl) ?_
      show own_Fin _ _ _ _ T14 (mkF m 233 #[.val (.long x0), .second, .val (.long x1), .second, .val (.int x2), .val (.int x3), .val (.int x4), .val (.ref b1), .val (.int (0 : Int32)), .val (.int y9), .val (.int y10), .val (.ref b14), .val (.int (0 : Int32)), .unset] [(.ref b1)]) _ _ _
      refine own_go (fun _ => XS.iload X14.here hx rfl (hb hby at_233) rfl) ?_
      show own_Fin _ _ _ _ T14 (mkF m 235 #[.val (.long x0), .second, .val (.long x1), .second, .val (.int x2), .val (.int x3), .val (.int x4), .val (.ref b1), .val (.int (0 : Int32)), .val (.int y9), .val (.int y10), .val (.ref b14), .val (.int (0 : Int32)), .unset] [(.int y10), (.ref b1)]) _ _ _
      refine own_go (fun _ => XS.iload X14.here hx rfl (hb hby at_235) rfl) ?_
      show own_Fin _ _ _ _ T14 (mkF m 237 #[.val (.long x0), .second, .val (.long x1), .second, .val (.int x2), .val (.int x3), .val (.int x4), .val (.ref b1), .val (.int (0 : Int32)), .val (.int y9), .val (.int y10), .val (.ref b14), .val (.int (0 : Int32)), .unset] [(.int y9), (.int y10), (.ref b1)]) _ _ _
      refine own_go (fun _ => XS.aload X14.here hx rfl (hb hby at_237) rfl rfl) ?_
      show own_Fin _ _ _ _ T14 (mkF m 239 #[.val (.long x0), .second, .val (.long x1), .second, .val (.int x2), .val (.int x3), .val (.int x4), .val (.ref b1), .val (.int (0 : Int32)), .val (.int y9), .val (.int y10), .val (.ref b14), .val (.int (0 : Int32)), .unset] [(.ref b14), (.int y9), (.int y10), (.ref b1)]) _ _ _
      obtain ⟨_, _, ⟨T15, L15, k15, n15⟩, -, X15, ⟨Lc15, hQ15, l15, y15, z15⟩, st15⟩ := Jvm.LawKit.callS X14 hx (y := (⟨"com/example/jitlens/jitlens/LogText", "startsWith", "([BII[B)Z"⟩ : MethodName)) hown (mvT hZ (hw _ (List.mem_of_getElem? (i := 6) rfl))) (mvT hZ (hw _ (List.mem_of_getElem? (i := 7) rfl))) (mvT hZ (hw _ (List.mem_of_getElem? (i := 8) rfl))) (mvT hZ (hw _ (List.mem_of_getElem? (i := 9) rfl))) (by decide) (backOf (W := 0) (rm2_0 l Z a0 hw [] b1 y10 y9 b14 f13 (fun _ => 0) h14 n0 Z14 V14_b1 V_b14 hat hto) hZ (hw _ (List.mem_of_getElem? (i := 9) rfl)) (hw _ (List.mem_of_getElem? (i := 8) rfl)) (by decide) (by decide)) (g := (mkF m 239 #[.val (.long x0), .second, .val (.long x1), .second, .val (.int x2), .val (.int x3), .val (.int x4), .val (.ref b1), .val (.int (0 : Int32)), .val (.int y9), .val (.int y10), .val (.ref b14), .val (.int (0 : Int32)), .unset] [(.ref b14), (.int y9), (.int y10), (.ref b1)])) rfl (by rw [hml]; rfl) (argsL := [(.ref b1), (.int y10), (.int y9), (.ref b14)]) (rest := []) (lenOf pd_1 rfl) rfl (by show 2 * 0 + _ ≤ _; exact Nat.le_of_eq rfl) (hb hby at_239) (fun _ _ => ⟨rfl, e14, (by decide : 2 + 0 ≤ _), (by decide : 6 + 0 ≤ _)⟩)
      dsimp only [Pt.U, Pt.locs, Pt.cells, Pt.slots] at X15 l15 y15 z15 st15 hQ15
      subst l15 y15 z15
      obtain ⟨rfl, N15q, e15⟩ := hQ15
      have N15 := Fr.app N13 N15q
      refine own_go st15 ?_
      show own_Fin _ _ _ _ T15 (mkF m 242 #[.val (.long x0), .second, .val (.long x1), .second, .val (.int x2), .val (.int x3), .val (.int x4), .val (.ref b1), .val (.int (0 : Int32)), .val (.int y9), .val (.int y10), .val (.ref b14), .val (.int (0 : Int32)), .unset] [(.int (own_sw0 y10 y9 f13 (fun _ => 0)))]) _ _ _
      refine own_go (fun _ => XS.istore X15.here hx rfl (hb hby at_242) rfl (l' := #[.val (.long x0), .second, .val (.long x1), .second, .val (.int x2), .val (.int x3), .val (.int x4), .val (.ref b1), .val (.int (0 : Int32)), .val (.int y9), .val (.int y10), .val (.ref b14), .val (.int (0 : Int32)), .val (.int (own_sw0 y10 y9 f13 (fun _ => 0)))]) rfl) ?_
      show own_Fin _ _ _ _ T15 (mkF m 244 #[.val (.long x0), .second, .val (.long x1), .second, .val (.int x2), .val (.int x3), .val (.int x4), .val (.ref b1), .val (.int (0 : Int32)), .val (.int y9), .val (.int y10), .val (.ref b14), .val (.int (0 : Int32)), .val (.int (own_sw0 y10 y9 f13 (fun _ => 0)))] []) _ _ _
      refine own_go (fun _ => XS.iload X15.here hx rfl (hb hby at_244) rfl) ?_
      show own_Fin _ _ _ _ T15 (mkF m 246 #[.val (.long x0), .second, .val (.long x1), .second, .val (.int x2), .val (.int x3), .val (.int x4), .val (.ref b1), .val (.int (0 : Int32)), .val (.int y9), .val (.int y10), .val (.ref b14), .val (.int (0 : Int32)), .val (.int (own_sw0 y10 y9 f13 (fun _ => 0)))] [(.int (own_sw0 y10 y9 f13 (fun _ => 0)))]) _ _ _
      refine own_go (fun _ => XS.iload X15.here hx rfl (hb hby at_246) rfl) ?_
      show own_Fin _ _ _ _ T15 (mkF m 248 #[.val (.long x0), .second, .val (.long x1), .second, .val (.int x2), .val (.int x3), .val (.int x4), .val (.ref b1), .val (.int (0 : Int32)), .val (.int y9), .val (.int y10), .val (.ref b14), .val (.int (0 : Int32)), .val (.int (own_sw0 y10 y9 f13 (fun _ => 0)))] [(.int (0 : Int32)), (.int (own_sw0 y10 y9 f13 (fun _ => 0)))]) _ _ _
      refine own_go (fun _ => XS.icmpNo X15.here hx rfl (hb hby at_248) rfl (teq (show (own_sw0 y10 y9 f13 (fun _ => 0)) = (0 : Int32) from by simp only [own_sw0, if_pos h153])).2) ?_
      show own_Fin _ _ _ _ T15 (mkF m 251 #[.val (.long x0), .second, .val (.long x1), .second, .val (.int x2), .val (.int x3), .val (.int x4), .val (.ref b1), .val (.int (0 : Int32)), .val (.int y9), .val (.int y10), .val (.ref b14), .val (.int (0 : Int32)), .val (.int (own_sw0 y10 y9 f13 (fun _ => 0)))] []) _ _ _
      refine own_go (fun _ => XS.iconst X15.here hx rfl (hb hby at_251)) ?_
      show own_Fin _ _ _ _ T15 (mkF m 252 #[.val (.long x0), .second, .val (.long x1), .second, .val (.int x2), .val (.int x3), .val (.int x4), .val (.ref b1), .val (.int (0 : Int32)), .val (.int y9), .val (.int y10), .val (.ref b14), .val (.int (0 : Int32)), .val (.int (own_sw0 y10 y9 f13 (fun _ => 0)))] [(.int (1 : Int32))]) _ _ _
      refine own_go (fun _ => XS.goto X15.here hx rfl (pc0 := 252) (pc' := 256) rfl (hb hby at_252) (by decide) (by decide)) ?_
      show own_Fin _ _ _ _ T15 (mkF m 256 #[.val (.long x0), .second, .val (.long x1), .second, .val (.int x2), .val (.int x3), .val (.int x4), .val (.ref b1), .val (.int (0 : Int32)), .val (.int y9), .val (.int y10), .val (.ref b14), .val (.int (0 : Int32)), .val (.int (own_sw0 y10 y9 f13 (fun _ => 0)))] [(.int (1 : Int32))]) _ _ _
      exact own_retZ X15 hx hnl (t := .boolean) hret (by simp) (hb hby at_256) (by decide) (by decide) ⟨rfl, N15⟩
    · refine own_go (fun _ => XS.ifNo X14.here hx rfl (hb hby at_153) rfl ((if0 _ _).trans (flt h153).1)) ?_
      show own_Fin _ _ _ _ T14 (mkF m 156 #[.val (.long x0), .second, .val (.long x1), .second, .val (.int x2), .val (.int x3), .val (.int x4), .val (.ref b1), .val (.int (0 : Int32)), .val (.int y9), .val (.int y10), .val (.ref b14), .unset, .unset] []) _ _ _
      refine own_go (fun _ => XS.iload X14.here hx rfl (hb hby at_156) rfl) ?_
      show own_Fin _ _ _ _ T14 (mkF m 158 #[.val (.long x0), .second, .val (.long x1), .second, .val (.int x2), .val (.int x3), .val (.int x4), .val (.ref b1), .val (.int (0 : Int32)), .val (.int y9), .val (.int y10), .val (.ref b14), .unset, .unset] [(.int y10)]) _ _ _
      refine own_go (fun _ => XS.iload X14.here hx rfl (hb hby at_158) rfl) ?_
      show own_Fin _ _ _ _ T14 (mkF m 160 #[.val (.long x0), .second, .val (.long x1), .second, .val (.int x2), .val (.int x3), .val (.int x4), .val (.ref b1), .val (.int (0 : Int32)), .val (.int y9), .val (.int y10), .val (.ref b14), .unset, .unset] [(.int (0 : Int32)), (.int y10)]) _ _ _
      refine own_go (fun _ => XS.iadd X14.here hx rfl (hb hby at_160) rfl) ?_
      show own_Fin _ _ _ _ T14 (mkF m 161 #[.val (.long x0), .second, .val (.long x1), .second, .val (.int x2), .val (.int x3), .val (.int x4), .val (.ref b1), .val (.int (0 : Int32)), .val (.int y9), .val (.int y10), .val (.ref b14), .unset, .unset] [(.int (y10 + (0 : Int32)))]) _ _ _
      refine own_go (fun _ => XS.iload X14.here hx rfl (hb hby at_161) rfl) ?_
      show own_Fin _ _ _ _ T14 (mkF m 163 #[.val (.long x0), .second, .val (.long x1), .second, .val (.int x2), .val (.int x3), .val (.int x4), .val (.ref b1), .val (.int (0 : Int32)), .val (.int y9), .val (.int y10), .val (.ref b14), .unset, .unset] [(.int y9), (.int (y10 + (0 : Int32)))]) _ _ _
      by_cases h163 : y9 < (y10 + (0 : Int32))
      · refine own_go (fun _ => XS.icmpYes X14.here hx rfl (pc0 := 163) (pc' := 228) rfl (hb hby at_163) rfl (tlt h163).2.2.1 (by decide) (by decide)) ?_
        show own_Fin _ _ _ _ T14 (mkF m 228 #[.val (.long x0), .second, .val (.long x1), .second, .val (.int x2), .val (.int x3), .val (.int x4), .val (.ref b1), .val (.int (0 : Int32)), .val (.int y9), .val (.int y10), .val (.ref b14), .unset, .unset] []) _ _ _
        refine own_go (fun _ => XS.iconst X14.here hx rfl (hb hby at_228)) ?_
        show own_Fin _ _ _ _ T14 (mkF m 229 #[.val (.long x0), .second, .val (.long x1), .second, .val (.int x2), .val (.int x3), .val (.int x4), .val (.ref b1), .val (.int (0 : Int32)), .val (.int y9), .val (.int y10), .val (.ref b14), .unset, .unset] [(.int (0 : Int32))]) _ _ _
        refine own_go (fun _ => XS.istore X14.here hx rfl (hb hby at_229) rfl (l' := #[.val (.long x0), .second, .val (.long x1), .second, .val (.int x2), .val (.int x3), .val (.int x4), .val (.ref b1), .val (.int (0 : Int32)), .val (.int y9), .val (.int y10), .val (.ref b14), .val (.int (0 : Int32)), .unset]) rfl) ?_
        show own_Fin _ _ _ _ T14 (mkF m 231 #[.val (.long x0), .second, .val (.long x1), .second, .val (.int x2), .val (.int x3), .val (.int x4), .val (.ref b1), .val (.int (0 : Int32)), .val (.int y9), .val (.int y10), .val (.ref b14), .val (.int (0 : Int32)), .unset] []) _ _ _
        refine own_go (fun _ => XS.aload X14.here hx rfl (hb hby at_231) rfl rfl) ?_
        show own_Fin _ _ _ _ T14 (mkF m 233 #[.val (.long x0), .second, .val (.long x1), .second, .val (.int x2), .val (.int x3), .val (.int x4), .val (.ref b1), .val (.int (0 : Int32)), .val (.int y9), .val (.int y10), .val (.ref b14), .val (.int (0 : Int32)), .unset] [(.ref b1)]) _ _ _
        refine own_go (fun _ => XS.iload X14.here hx rfl (hb hby at_233) rfl) ?_
        show own_Fin _ _ _ _ T14 (mkF m 235 #[.val (.long x0), .second, .val (.long x1), .second, .val (.int x2), .val (.int x3), .val (.int x4), .val (.ref b1), .val (.int (0 : Int32)), .val (.int y9), .val (.int y10), .val (.ref b14), .val (.int (0 : Int32)), .unset] [(.int y10), (.ref b1)]) _ _ _
        refine own_go (fun _ => XS.iload X14.here hx rfl (hb hby at_235) rfl) ?_
        show own_Fin _ _ _ _ T14 (mkF m 237 #[.val (.long x0), .second, .val (.long x1), .second, .val (.int x2), .val (.int x3), .val (.int x4), .val (.ref b1), .val (.int (0 : Int32)), .val (.int y9), .val (.int y10), .val (.ref b14), .val (.int (0 : Int32)), .unset] [(.int y9), (.int y10), (.ref b1)]) _ _ _
        refine own_go (fun _ => XS.aload X14.here hx rfl (hb hby at_237) rfl rfl) ?_
        show own_Fin _ _ _ _ T14 (mkF m 239 #[.val (.long x0), .second, .val (.long x1), .second, .val (.int x2), .val (.int x3), .val (.int x4), .val (.ref b1), .val (.int (0 : Int32)), .val (.int y9), .val (.int y10), .val (.ref b14), .val (.int (0 : Int32)), .unset] [(.ref b14), (.int y9), (.int y10), (.ref b1)]) _ _ _
        obtain ⟨_, _, ⟨T16, L16, k16, n16⟩, -, X16, ⟨Lc16, hQ16, l16, y16, z16⟩, st16⟩ := Jvm.LawKit.callS X14 hx (y := (⟨"com/example/jitlens/jitlens/LogText", "startsWith", "([BII[B)Z"⟩ : MethodName)) hown (mvT hZ (hw _ (List.mem_of_getElem? (i := 6) rfl))) (mvT hZ (hw _ (List.mem_of_getElem? (i := 7) rfl))) (mvT hZ (hw _ (List.mem_of_getElem? (i := 8) rfl))) (mvT hZ (hw _ (List.mem_of_getElem? (i := 9) rfl))) (by decide) (backOf (W := 0) (rm2_0 l Z a0 hw [] b1 y10 y9 b14 f13 (fun _ => 0) h14 n0 Z14 V14_b1 V_b14 hat hto) hZ (hw _ (List.mem_of_getElem? (i := 9) rfl)) (hw _ (List.mem_of_getElem? (i := 8) rfl)) (by decide) (by decide)) (g := (mkF m 239 #[.val (.long x0), .second, .val (.long x1), .second, .val (.int x2), .val (.int x3), .val (.int x4), .val (.ref b1), .val (.int (0 : Int32)), .val (.int y9), .val (.int y10), .val (.ref b14), .val (.int (0 : Int32)), .unset] [(.ref b14), (.int y9), (.int y10), (.ref b1)])) rfl (by rw [hml]; rfl) (argsL := [(.ref b1), (.int y10), (.int y9), (.ref b14)]) (rest := []) (lenOf pd_1 rfl) rfl (by show 2 * 0 + _ ≤ _; exact Nat.le_of_eq rfl) (hb hby at_239) (fun _ _ => ⟨rfl, e14, (by decide : 2 + 0 ≤ _), (by decide : 6 + 0 ≤ _)⟩)
        dsimp only [Pt.U, Pt.locs, Pt.cells, Pt.slots] at X16 l16 y16 z16 st16 hQ16
        subst l16 y16 z16
        obtain ⟨rfl, N16q, e16⟩ := hQ16
        have N16 := Fr.app N13 N16q
        refine own_go st16 ?_
        show own_Fin _ _ _ _ T16 (mkF m 242 #[.val (.long x0), .second, .val (.long x1), .second, .val (.int x2), .val (.int x3), .val (.int x4), .val (.ref b1), .val (.int (0 : Int32)), .val (.int y9), .val (.int y10), .val (.ref b14), .val (.int (0 : Int32)), .unset] [(.int (own_sw0 y10 y9 f13 (fun _ => 0)))]) _ _ _
        refine own_go (fun _ => XS.istore X16.here hx rfl (hb hby at_242) rfl (l' := #[.val (.long x0), .second, .val (.long x1), .second, .val (.int x2), .val (.int x3), .val (.int x4), .val (.ref b1), .val (.int (0 : Int32)), .val (.int y9), .val (.int y10), .val (.ref b14), .val (.int (0 : Int32)), .val (.int (own_sw0 y10 y9 f13 (fun _ => 0)))]) rfl) ?_
        show own_Fin _ _ _ _ T16 (mkF m 244 #[.val (.long x0), .second, .val (.long x1), .second, .val (.int x2), .val (.int x3), .val (.int x4), .val (.ref b1), .val (.int (0 : Int32)), .val (.int y9), .val (.int y10), .val (.ref b14), .val (.int (0 : Int32)), .val (.int (own_sw0 y10 y9 f13 (fun _ => 0)))] []) _ _ _
        refine own_go (fun _ => XS.iload X16.here hx rfl (hb hby at_244) rfl) ?_
        show own_Fin _ _ _ _ T16 (mkF m 246 #[.val (.long x0), .second, .val (.long x1), .second, .val (.int x2), .val (.int x3), .val (.int x4), .val (.ref b1), .val (.int (0 : Int32)), .val (.int y9), .val (.int y10), .val (.ref b14), .val (.int (0 : Int32)), .val (.int (own_sw0 y10 y9 f13 (fun _ => 0)))] [(.int (own_sw0 y10 y9 f13 (fun _ => 0)))]) _ _ _
        refine own_go (fun _ => XS.iload X16.here hx rfl (hb hby at_246) rfl) ?_
        show own_Fin _ _ _ _ T16 (mkF m 248 #[.val (.long x0), .second, .val (.long x1), .second, .val (.int x2), .val (.int x3), .val (.int x4), .val (.ref b1), .val (.int (0 : Int32)), .val (.int y9), .val (.int y10), .val (.ref b14), .val (.int (0 : Int32)), .val (.int (own_sw0 y10 y9 f13 (fun _ => 0)))] [(.int (0 : Int32)), (.int (own_sw0 y10 y9 f13 (fun _ => 0)))]) _ _ _
        refine own_go (fun _ => XS.icmpNo X16.here hx rfl (hb hby at_248) rfl (teq (show (own_sw0 y10 y9 f13 (fun _ => 0)) = (0 : Int32) from by simp only [own_sw0, if_neg h153, if_pos h163])).2) ?_
        show own_Fin _ _ _ _ T16 (mkF m 251 #[.val (.long x0), .second, .val (.long x1), .second, .val (.int x2), .val (.int x3), .val (.int x4), .val (.ref b1), .val (.int (0 : Int32)), .val (.int y9), .val (.int y10), .val (.ref b14), .val (.int (0 : Int32)), .val (.int (own_sw0 y10 y9 f13 (fun _ => 0)))] []) _ _ _
        refine own_go (fun _ => XS.iconst X16.here hx rfl (hb hby at_251)) ?_
        show own_Fin _ _ _ _ T16 (mkF m 252 #[.val (.long x0), .second, .val (.long x1), .second, .val (.int x2), .val (.int x3), .val (.int x4), .val (.ref b1), .val (.int (0 : Int32)), .val (.int y9), .val (.int y10), .val (.ref b14), .val (.int (0 : Int32)), .val (.int (own_sw0 y10 y9 f13 (fun _ => 0)))] [(.int (1 : Int32))]) _ _ _
        refine own_go (fun _ => XS.goto X16.here hx rfl (pc0 := 252) (pc' := 256) rfl (hb hby at_252) (by decide) (by decide)) ?_
        show own_Fin _ _ _ _ T16 (mkF m 256 #[.val (.long x0), .second, .val (.long x1), .second, .val (.int x2), .val (.int x3), .val (.int x4), .val (.ref b1), .val (.int (0 : Int32)), .val (.int y9), .val (.int y10), .val (.ref b14), .val (.int (0 : Int32)), .val (.int (own_sw0 y10 y9 f13 (fun _ => 0)))] [(.int (1 : Int32))]) _ _ _
        exact own_retZ X16 hx hnl (t := .boolean) hret (by simp) (hb hby at_256) (by decide) (by decide) ⟨rfl, N16⟩
      · refine own_go (fun _ => XS.icmpNo X14.here hx rfl (hb hby at_163) rfl (flt h163).2.2.1) ?_
        show own_Fin _ _ _ _ T14 (mkF m 166 #[.val (.long x0), .second, .val (.long x1), .second, .val (.int x2), .val (.int x3), .val (.int x4), .val (.ref b1), .val (.int (0 : Int32)), .val (.int y9), .val (.int y10), .val (.ref b14), .unset, .unset] []) _ _ _
        refine own_go (fun _ => XS.iload X14.here hx rfl (hb hby at_166) rfl) ?_
        show own_Fin _ _ _ _ T14 (mkF m 168 #[.val (.long x0), .second, .val (.long x1), .second, .val (.int x2), .val (.int x3), .val (.int x4), .val (.ref b1), .val (.int (0 : Int32)), .val (.int y9), .val (.int y10), .val (.ref b14), .unset, .unset] [(.int (0 : Int32))]) _ _ _
        refine own_go (fun _ => XS.iconst X14.here hx rfl (hb hby at_168)) ?_
        show own_Fin _ _ _ _ T14 (mkF m 169 #[.val (.long x0), .second, .val (.long x1), .second, .val (.int x2), .val (.int x3), .val (.int x4), .val (.ref b1), .val (.int (0 : Int32)), .val (.int y9), .val (.int y10), .val (.ref b14), .unset, .unset] [(.int (1 : Int32)), (.int (0 : Int32))]) _ _ _
        refine own_go (fun _ => XS.icmpYes X14.here hx rfl (pc0 := 169) (pc' := 184) rfl (hb hby at_169) rfl (tlt (show (0 : Int32) < (1 : Int32) from (by decide))).1 (by decide) (by decide)) ?_
        show own_Fin _ _ _ _ T14 (mkF m 184 #[.val (.long x0), .second, .val (.long x1), .second, .val (.int x2), .val (.int x3), .val (.int x4), .val (.ref b1), .val (.int (0 : Int32)), .val (.int y9), .val (.int y10), .val (.ref b14), .unset, .unset] []) _ _ _
        refine own_go (fun _ => XS.iload X14.here hx rfl (hb hby at_184) rfl) ?_
        show own_Fin _ _ _ _ T14 (mkF m 186 #[.val (.long x0), .second, .val (.long x1), .second, .val (.int x2), .val (.int x3), .val (.int x4), .val (.ref b1), .val (.int (0 : Int32)), .val (.int y9), .val (.int y10), .val (.ref b14), .unset, .unset] [(.int (0 : Int32))]) _ _ _
        refine own_go (fun _ => XS.iconst X14.here hx rfl (hb hby at_186)) ?_
        show own_Fin _ _ _ _ T14 (mkF m 187 #[.val (.long x0), .second, .val (.long x1), .second, .val (.int x2), .val (.int x3), .val (.int x4), .val (.ref b1), .val (.int (0 : Int32)), .val (.int y9), .val (.int y10), .val (.ref b14), .unset, .unset] [(.int (2 : Int32)), (.int (0 : Int32))]) _ _ _
        refine own_go (fun _ => XS.icmpYes X14.here hx rfl (pc0 := 187) (pc' := 204) rfl (hb hby at_187) rfl (tlt (show (0 : Int32) < (2 : Int32) from (by decide))).1 (by decide) (by decide)) ?_
        show own_Fin _ _ _ _ T14 (mkF m 204 #[.val (.long x0), .second, .val (.long x1), .second, .val (.int x2), .val (.int x3), .val (.int x4), .val (.ref b1), .val (.int (0 : Int32)), .val (.int y9), .val (.int y10), .val (.ref b14), .unset, .unset] []) _ _ _
        refine own_go (fun _ => XS.iload X14.here hx rfl (hb hby at_204) rfl) ?_
        show own_Fin _ _ _ _ T14 (mkF m 206 #[.val (.long x0), .second, .val (.long x1), .second, .val (.int x2), .val (.int x3), .val (.int x4), .val (.ref b1), .val (.int (0 : Int32)), .val (.int y9), .val (.int y10), .val (.ref b14), .unset, .unset] [(.int (0 : Int32))]) _ _ _
        refine own_go (fun _ => XS.iconst X14.here hx rfl (hb hby at_206)) ?_
        show own_Fin _ _ _ _ T14 (mkF m 207 #[.val (.long x0), .second, .val (.long x1), .second, .val (.int x2), .val (.int x3), .val (.int x4), .val (.ref b1), .val (.int (0 : Int32)), .val (.int y9), .val (.int y10), .val (.ref b14), .unset, .unset] [(.int (3 : Int32)), (.int (0 : Int32))]) _ _ _
        refine own_go (fun _ => XS.icmpYes X14.here hx rfl (pc0 := 207) (pc' := 224) rfl (hb hby at_207) rfl (tlt (show (0 : Int32) < (3 : Int32) from (by decide))).1 (by decide) (by decide)) ?_
        show own_Fin _ _ _ _ T14 (mkF m 224 #[.val (.long x0), .second, .val (.long x1), .second, .val (.int x2), .val (.int x3), .val (.int x4), .val (.ref b1), .val (.int (0 : Int32)), .val (.int y9), .val (.int y10), .val (.ref b14), .unset, .unset] []) _ _ _
        refine own_go (fun _ => XS.iconst X14.here hx rfl (hb hby at_224)) ?_
        show own_Fin _ _ _ _ T14 (mkF m 225 #[.val (.long x0), .second, .val (.long x1), .second, .val (.int x2), .val (.int x3), .val (.int x4), .val (.ref b1), .val (.int (0 : Int32)), .val (.int y9), .val (.int y10), .val (.ref b14), .unset, .unset] [(.int (1 : Int32))]) _ _ _
        refine own_go (fun _ => XS.goto X14.here hx rfl (pc0 := 225) (pc' := 229) rfl (hb hby at_225) (by decide) (by decide)) ?_
        show own_Fin _ _ _ _ T14 (mkF m 229 #[.val (.long x0), .second, .val (.long x1), .second, .val (.int x2), .val (.int x3), .val (.int x4), .val (.ref b1), .val (.int (0 : Int32)), .val (.int y9), .val (.int y10), .val (.ref b14), .unset, .unset] [(.int (1 : Int32))]) _ _ _
        refine own_go (fun _ => XS.istore X14.here hx rfl (hb hby at_229) rfl (l' := #[.val (.long x0), .second, .val (.long x1), .second, .val (.int x2), .val (.int x3), .val (.int x4), .val (.ref b1), .val (.int (0 : Int32)), .val (.int y9), .val (.int y10), .val (.ref b14), .val (.int (1 : Int32)), .unset]) rfl) ?_
        show own_Fin _ _ _ _ T14 (mkF m 231 #[.val (.long x0), .second, .val (.long x1), .second, .val (.int x2), .val (.int x3), .val (.int x4), .val (.ref b1), .val (.int (0 : Int32)), .val (.int y9), .val (.int y10), .val (.ref b14), .val (.int (1 : Int32)), .unset] []) _ _ _
        refine own_go (fun _ => XS.aload X14.here hx rfl (hb hby at_231) rfl rfl) ?_
        show own_Fin _ _ _ _ T14 (mkF m 233 #[.val (.long x0), .second, .val (.long x1), .second, .val (.int x2), .val (.int x3), .val (.int x4), .val (.ref b1), .val (.int (0 : Int32)), .val (.int y9), .val (.int y10), .val (.ref b14), .val (.int (1 : Int32)), .unset] [(.ref b1)]) _ _ _
        refine own_go (fun _ => XS.iload X14.here hx rfl (hb hby at_233) rfl) ?_
        show own_Fin _ _ _ _ T14 (mkF m 235 #[.val (.long x0), .second, .val (.long x1), .second, .val (.int x2), .val (.int x3), .val (.int x4), .val (.ref b1), .val (.int (0 : Int32)), .val (.int y9), .val (.int y10), .val (.ref b14), .val (.int (1 : Int32)), .unset] [(.int y10), (.ref b1)]) _ _ _
        refine own_go (fun _ => XS.iload X14.here hx rfl (hb hby at_235) rfl) ?_
        show own_Fin _ _ _ _ T14 (mkF m 237 #[.val (.long x0), .second, .val (.long x1), .second, .val (.int x2), .val (.int x3), .val (.int x4), .val (.ref b1), .val (.int (0 : Int32)), .val (.int y9), .val (.int y10), .val (.ref b14), .val (.int (1 : Int32)), .unset] [(.int y9), (.int y10), (.ref b1)]) _ _ _
        refine own_go (fun _ => XS.aload X14.here hx rfl (hb hby at_237) rfl rfl) ?_
        show own_Fin _ _ _ _ T14 (mkF m 239 #[.val (.long x0), .second, .val (.long x1), .second, .val (.int x2), .val (.int x3), .val (.int x4), .val (.ref b1), .val (.int (0 : Int32)), .val (.int y9), .val (.int y10), .val (.ref b14), .val (.int (1 : Int32)), .unset] [(.ref b14), (.int y9), (.int y10), (.ref b1)]) _ _ _
        obtain ⟨_, _, ⟨T17, L17, k17, n17⟩, -, X17, ⟨Lc17, hQ17, l17, y17, z17⟩, st17⟩ := Jvm.LawKit.callS X14 hx (y := (⟨"com/example/jitlens/jitlens/LogText", "startsWith", "([BII[B)Z"⟩ : MethodName)) hown (mvT hZ (hw _ (List.mem_of_getElem? (i := 6) rfl))) (mvT hZ (hw _ (List.mem_of_getElem? (i := 7) rfl))) (mvT hZ (hw _ (List.mem_of_getElem? (i := 8) rfl))) (mvT hZ (hw _ (List.mem_of_getElem? (i := 9) rfl))) (by decide) (backOf (W := 0) (rm2_0 l Z a0 hw [] b1 y10 y9 b14 f13 (fun _ => 0) h14 n0 Z14 V14_b1 V_b14 hat hto) hZ (hw _ (List.mem_of_getElem? (i := 9) rfl)) (hw _ (List.mem_of_getElem? (i := 8) rfl)) (by decide) (by decide)) (g := (mkF m 239 #[.val (.long x0), .second, .val (.long x1), .second, .val (.int x2), .val (.int x3), .val (.int x4), .val (.ref b1), .val (.int (0 : Int32)), .val (.int y9), .val (.int y10), .val (.ref b14), .val (.int (1 : Int32)), .unset] [(.ref b14), (.int y9), (.int y10), (.ref b1)])) rfl (by rw [hml]; rfl) (argsL := [(.ref b1), (.int y10), (.int y9), (.ref b14)]) (rest := []) (lenOf pd_1 rfl) rfl (by show 2 * 0 + _ ≤ _; exact Nat.le_of_eq rfl) (hb hby at_239) (fun _ _ => ⟨rfl, e14, (by decide : 2 + 0 ≤ _), (by decide : 6 + 0 ≤ _)⟩)
        dsimp only [Pt.U, Pt.locs, Pt.cells, Pt.slots] at X17 l17 y17 z17 st17 hQ17
        subst l17 y17 z17
        obtain ⟨rfl, N17q, e17⟩ := hQ17
        have N17 := Fr.app N13 N17q
        refine own_go st17 ?_
        show own_Fin _ _ _ _ T17 (mkF m 242 #[.val (.long x0), .second, .val (.long x1), .second, .val (.int x2), .val (.int x3), .val (.int x4), .val (.ref b1), .val (.int (0 : Int32)), .val (.int y9), .val (.int y10), .val (.ref b14), .val (.int (1 : Int32)), .unset] [(.int (own_sw0 y10 y9 f13 (fun _ => 0)))]) _ _ _
        refine own_go (fun _ => XS.istore X17.here hx rfl (hb hby at_242) rfl (l' := #[.val (.long x0), .second, .val (.long x1), .second, .val (.int x2), .val (.int x3), .val (.int x4), .val (.ref b1), .val (.int (0 : Int32)), .val (.int y9), .val (.int y10), .val (.ref b14), .val (.int (1 : Int32)), .val (.int (own_sw0 y10 y9 f13 (fun _ => 0)))]) rfl) ?_
        show own_Fin _ _ _ _ T17 (mkF m 244 #[.val (.long x0), .second, .val (.long x1), .second, .val (.int x2), .val (.int x3), .val (.int x4), .val (.ref b1), .val (.int (0 : Int32)), .val (.int y9), .val (.int y10), .val (.ref b14), .val (.int (1 : Int32)), .val (.int (own_sw0 y10 y9 f13 (fun _ => 0)))] []) _ _ _
        refine own_go (fun _ => XS.iload X17.here hx rfl (hb hby at_244) rfl) ?_
        show own_Fin _ _ _ _ T17 (mkF m 246 #[.val (.long x0), .second, .val (.long x1), .second, .val (.int x2), .val (.int x3), .val (.int x4), .val (.ref b1), .val (.int (0 : Int32)), .val (.int y9), .val (.int y10), .val (.ref b14), .val (.int (1 : Int32)), .val (.int (own_sw0 y10 y9 f13 (fun _ => 0)))] [(.int (own_sw0 y10 y9 f13 (fun _ => 0)))]) _ _ _
        refine own_go (fun _ => XS.iload X17.here hx rfl (hb hby at_246) rfl) ?_
        show own_Fin _ _ _ _ T17 (mkF m 248 #[.val (.long x0), .second, .val (.long x1), .second, .val (.int x2), .val (.int x3), .val (.int x4), .val (.ref b1), .val (.int (0 : Int32)), .val (.int y9), .val (.int y10), .val (.ref b14), .val (.int (1 : Int32)), .val (.int (own_sw0 y10 y9 f13 (fun _ => 0)))] [(.int (1 : Int32)), (.int (own_sw0 y10 y9 f13 (fun _ => 0)))]) _ _ _
        refine own_go (fun _ => XS.icmpNo X17.here hx rfl (hb hby at_248) rfl (teq (show (own_sw0 y10 y9 f13 (fun _ => 0)) = (1 : Int32) from by simp only [own_sw0, if_neg h153, if_neg h163])).2) ?_
        show own_Fin _ _ _ _ T17 (mkF m 251 #[.val (.long x0), .second, .val (.long x1), .second, .val (.int x2), .val (.int x3), .val (.int x4), .val (.ref b1), .val (.int (0 : Int32)), .val (.int y9), .val (.int y10), .val (.ref b14), .val (.int (1 : Int32)), .val (.int (own_sw0 y10 y9 f13 (fun _ => 0)))] []) _ _ _
        refine own_go (fun _ => XS.iconst X17.here hx rfl (hb hby at_251)) ?_
        show own_Fin _ _ _ _ T17 (mkF m 252 #[.val (.long x0), .second, .val (.long x1), .second, .val (.int x2), .val (.int x3), .val (.int x4), .val (.ref b1), .val (.int (0 : Int32)), .val (.int y9), .val (.int y10), .val (.ref b14), .val (.int (1 : Int32)), .val (.int (own_sw0 y10 y9 f13 (fun _ => 0)))] [(.int (1 : Int32))]) _ _ _
        refine own_go (fun _ => XS.goto X17.here hx rfl (pc0 := 252) (pc' := 256) rfl (hb hby at_252) (by decide) (by decide)) ?_
        show own_Fin _ _ _ _ T17 (mkF m 256 #[.val (.long x0), .second, .val (.long x1), .second, .val (.int x2), .val (.int x3), .val (.int x4), .val (.ref b1), .val (.int (0 : Int32)), .val (.int y9), .val (.int y10), .val (.ref b14), .val (.int (1 : Int32)), .val (.int (own_sw0 y10 y9 f13 (fun _ => 0)))] [(.int (1 : Int32))]) _ _ _
        exact own_retZ X17 hx hnl (t := .boolean) hret (by simp) (hb hby at_256) (by decide) (by decide) ⟨rfl, N17⟩
  · rw [hl]
    show own_Fin _ _ _ _ T13 (mkF m 64 #[.val (.long x0), .second, .val (.long x1), .second, .val (.int x2), .val (.int x3), .val (.int x4), .val (.ref b1), .unset, .unset, .unset, .unset, .unset, .unset] [(.int (1 : Int32))]) _ _ _
    refine own_go (fun _ => XS.istore X13.here hx rfl (hb hby at_64) rfl (l' := #[.val (.long x0), .second, .val (.long x1), .second, .val (.int x2), .val (.int x3), .val (.int x4), .val (.ref b1), .val (.int (1 : Int32)), .unset, .unset, .unset, .unset, .unset]) rfl) ?_
    show own_Fin _ _ _ _ T13 (mkF m 66 #[.val (.long x0), .second, .val (.long x1), .second, .val (.int x2), .val (.int x3), .val (.int x4), .val (.ref b1), .val (.int (1 : Int32)), .unset, .unset, .unset, .unset, .unset] []) _ _ _
    refine own_go (fun _ => XS.iload X13.here hx rfl (hb hby at_66) rfl) ?_
    show own_Fin _ _ _ _ T13 (mkF m 68 #[.val (.long x0), .second, .val (.long x1), .second, .val (.int x2), .val (.int x3), .val (.int x4), .val (.ref b1), .val (.int (1 : Int32)), .unset, .unset, .unset, .unset, .unset] [(.int x3)]) _ _ _
    refine own_go (fun _ => X13.ldcI hx hown (mvT hZ (hw _ (List.mem_of_getElem? (i := 5) rfl))) rfl (hb hby at_68)) ?_
    show own_Fin _ _ _ _ T13 (mkF m 70 #[.val (.long x0), .second, .val (.long x1), .second, .val (.int x2), .val (.int x3), .val (.int x4), .val (.ref b1), .val (.int (1 : Int32)), .unset, .unset, .unset, .unset, .unset] [(.int (2147483647 : Int32)), (.int x3)]) _ _ _
    refine own_go (fun _ => XS.iand X13.here hx rfl (hb hby at_70) rfl) ?_
    show own_Fin _ _ _ _ T13 (mkF m 71 #[.val (.long x0), .second, .val (.long x1), .second, .val (.int x2), .val (.int x3), .val (.int x4), .val (.ref b1), .val (.int (1 : Int32)), .unset, .unset, .unset, .unset, .unset] [(.int (x3 &&& (2147483647 : Int32)))]) _ _ _
    refine own_go (fun _ => XS.bipush X13.here hx rfl (hb hby at_71)) ?_
    show own_Fin _ _ _ _ T13 (mkF m 73 #[.val (.long x0), .second, .val (.long x1), .second, .val (.int x2), .val (.int x3), .val (.int x4), .val (.ref b1), .val (.int (1 : Int32)), .unset, .unset, .unset, .unset, .unset] [(.int (7 : Int32)), (.int (x3 &&& (2147483647 : Int32)))]) _ _ _
    refine own_go (fun _ => XS.irem X13.here hx rfl (hb hby at_73) rfl (by decide)) ?_
    show own_Fin _ _ _ _ T13 (mkF m 74 #[.val (.long x0), .second, .val (.long x1), .second, .val (.int x2), .val (.int x3), .val (.int x4), .val (.ref b1), .val (.int (1 : Int32)), .unset, .unset, .unset, .unset, .unset] [(.int ((x3 &&& (2147483647 : Int32)) - ((x3 &&& (2147483647 : Int32)) / (7 : Int32)) * (7 : Int32)))]) _ _ _
    obtain ⟨y9, hq9⟩ : ∃ z, z = ((x3 &&& (2147483647 : Int32)) - ((x3 &&& (2147483647 : Int32)) / (7 : Int32)) * (7 : Int32)) := ⟨_, rfl⟩
    have hto : y9.toInt ≤ 6 := hq9 ▸ own_to x3
    rw [← hq9]
    show own_Fin _ _ _ _ T13 (mkF m 74 #[.val (.long x0), .second, .val (.long x1), .second, .val (.int x2), .val (.int x3), .val (.int x4), .val (.ref b1), .val (.int (1 : Int32)), .unset, .unset, .unset, .unset, .unset] [(.int y9)]) _ _ _
    refine own_go (fun _ => XS.istore X13.here hx rfl (hb hby at_74) rfl (l' := #[.val (.long x0), .second, .val (.long x1), .second, .val (.int x2), .val (.int x3), .val (.int x4), .val (.ref b1), .val (.int (1 : Int32)), .val (.int y9), .unset, .unset, .unset, .unset]) rfl) ?_
    show own_Fin _ _ _ _ T13 (mkF m 76 #[.val (.long x0), .second, .val (.long x1), .second, .val (.int x2), .val (.int x3), .val (.int x4), .val (.ref b1), .val (.int (1 : Int32)), .val (.int y9), .unset, .unset, .unset, .unset] []) _ _ _
    refine own_go (fun _ => XS.iload X13.here hx rfl (hb hby at_76) rfl) ?_
    show own_Fin _ _ _ _ T13 (mkF m 78 #[.val (.long x0), .second, .val (.long x1), .second, .val (.int x2), .val (.int x3), .val (.int x4), .val (.ref b1), .val (.int (1 : Int32)), .val (.int y9), .unset, .unset, .unset, .unset] [(.int x2)]) _ _ _
    refine own_go (fun _ => XS.bipush X13.here hx rfl (hb hby at_78)) ?_
    show own_Fin _ _ _ _ T13 (mkF m 80 #[.val (.long x0), .second, .val (.long x1), .second, .val (.int x2), .val (.int x3), .val (.int x4), .val (.ref b1), .val (.int (1 : Int32)), .val (.int y9), .unset, .unset, .unset, .unset] [(.int (9 : Int32)), (.int x2)]) _ _ _
    refine own_go (fun _ => XS.irem X13.here hx rfl (hb hby at_80) rfl (by decide)) ?_
    show own_Fin _ _ _ _ T13 (mkF m 81 #[.val (.long x0), .second, .val (.long x1), .second, .val (.int x2), .val (.int x3), .val (.int x4), .val (.ref b1), .val (.int (1 : Int32)), .val (.int y9), .unset, .unset, .unset, .unset] [(.int (x2 - (x2 / (9 : Int32)) * (9 : Int32)))]) _ _ _
    obtain ⟨y10, hq10⟩ : ∃ z, z = (x2 - (x2 / (9 : Int32)) * (9 : Int32)) := ⟨_, rfl⟩
    have hat : y10.toInt < 9 := hq10 ▸ own_at x2
    rw [← hq10]
    show own_Fin _ _ _ _ T13 (mkF m 81 #[.val (.long x0), .second, .val (.long x1), .second, .val (.int x2), .val (.int x3), .val (.int x4), .val (.ref b1), .val (.int (1 : Int32)), .val (.int y9), .unset, .unset, .unset, .unset] [(.int y10)]) _ _ _
    refine own_go (fun _ => XS.istore X13.here hx rfl (hb hby at_81) rfl (l' := #[.val (.long x0), .second, .val (.long x1), .second, .val (.int x2), .val (.int x3), .val (.int x4), .val (.ref b1), .val (.int (1 : Int32)), .val (.int y9), .val (.int y10), .unset, .unset, .unset]) rfl) ?_
    show own_Fin _ _ _ _ T13 (mkF m 83 #[.val (.long x0), .second, .val (.long x1), .second, .val (.int x2), .val (.int x3), .val (.int x4), .val (.ref b1), .val (.int (1 : Int32)), .val (.int y9), .val (.int y10), .unset, .unset, .unset] []) _ _ _
    refine own_go (fun _ => XS.iload X13.here hx rfl (hb hby at_83) rfl) ?_
    show own_Fin _ _ _ _ T13 (mkF m 85 #[.val (.long x0), .second, .val (.long x1), .second, .val (.int x2), .val (.int x3), .val (.int x4), .val (.ref b1), .val (.int (1 : Int32)), .val (.int y9), .val (.int y10), .unset, .unset, .unset] [(.int (1 : Int32))]) _ _ _
    obtain ⟨T18, h18, k18, X18, e18, E18, A18, st18⟩ := newP X13 hx hZ (hw _ (List.mem_of_getElem? (i := 0) rfl)) e13 (g := (mkF m 85 #[.val (.long x0), .second, .val (.long x1), .second, .val (.int x2), .val (.int x3), .val (.int x4), .val (.ref b1), .val (.int (1 : Int32)), .val (.int y9), .val (.int y10), .unset, .unset, .unset] [(.int (1 : Int32))])) rfl (hb hby at_85) rfl (by decide) (cap := 1) (by decide) (by decide) (by decide) (by decide)
    obtain ⟨b18, g18⟩ : ∃ z, z = h13.size := ⟨_, rfl⟩
    rw [← g18] at A18 st18
    have g_b18 : n0 ≤ b18 := Nat.le_trans Z13 (Nat.le_of_eq g18.symm)
    have Z18 : n0 ≤ h18.size := Nat.le_trans Z13 E18.1
    have ne_b1_b18 : b1 ≠ b18 := Nat.ne_of_lt (Nat.lt_of_lt_of_le (V13).lt (Nat.le_of_eq g18.symm))
    have sz_b18 : h0.size ≤ b18 := Nat.le_trans (K13).1 (Nat.le_of_eq g18.symm)
    have K18 : Keep h0 h18 [] := (K13).ext E18
    have V18_b1 := (V13).ext E18
    have V_b18 : own_Ba Z h18 b18 1 (fun _ => 0) := own_Ba.new A18 (by decide)
    refine own_go st18 ?_
    show own_Fin _ _ _ _ T18 (mkF m 87 #[.val (.long x0), .second, .val (.long x1), .second, .val (.int x2), .val (.int x3), .val (.int x4), .val (.ref b1), .val (.int (1 : Int32)), .val (.int y9), .val (.int y10), .unset, .unset, .unset] [(.ref b18)]) _ _ _
    refine own_go (fun _ => XS.astore X18.here hx rfl (hb hby at_87) rfl rfl (l' := #[.val (.long x0), .second, .val (.long x1), .second, .val (.int x2), .val (.int x3), .val (.int x4), .val (.ref b1), .val (.int (1 : Int32)), .val (.int y9), .val (.int y10), .val (.ref b18), .unset, .unset]) rfl) ?_
    show own_Fin _ _ _ _ T18 (mkF m 89 #[.val (.long x0), .second, .val (.long x1), .second, .val (.int x2), .val (.int x3), .val (.int x4), .val (.ref b1), .val (.int (1 : Int32)), .val (.int y9), .val (.int y10), .val (.ref b18), .unset, .unset] []) _ _ _
    refine own_go (fun _ => XS.iload X18.here hx rfl (hb hby at_89) rfl) ?_
    show own_Fin _ _ _ _ T18 (mkF m 91 #[.val (.long x0), .second, .val (.long x1), .second, .val (.int x2), .val (.int x3), .val (.int x4), .val (.ref b1), .val (.int (1 : Int32)), .val (.int y9), .val (.int y10), .val (.ref b18), .unset, .unset] [(.int (1 : Int32))]) _ _ _
    refine own_go (fun _ => XS.ifNo X18.here hx rfl (hb hby at_91) rfl ((if0 _ _).trans (tlt (show (0 : Int32) < (1 : Int32) from (by decide))).2.2.2)) ?_
    show own_Fin _ _ _ _ T18 (mkF m 94 #[.val (.long x0), .second, .val (.long x1), .second, .val (.int x2), .val (.int x3), .val (.int x4), .val (.ref b1), .val (.int (1 : Int32)), .val (.int y9), .val (.int y10), .val (.ref b18), .unset, .unset] []) _ _ _
    refine own_go (fun _ => XS.aload X18.here hx rfl (hb hby at_94) rfl rfl) ?_
    show own_Fin _ _ _ _ T18 (mkF m 96 #[.val (.long x0), .second, .val (.long x1), .second, .val (.int x2), .val (.int x3), .val (.int x4), .val (.ref b1), .val (.int (1 : Int32)), .val (.int y9), .val (.int y10), .val (.ref b18), .unset, .unset] [(.ref b18)]) _ _ _
    refine own_go (fun _ => XS.iconst X18.here hx rfl (hb hby at_96)) ?_
    show own_Fin _ _ _ _ T18 (mkF m 97 #[.val (.long x0), .second, .val (.long x1), .second, .val (.int x2), .val (.int x3), .val (.int x4), .val (.ref b1), .val (.int (1 : Int32)), .val (.int y9), .val (.int y10), .val (.ref b18), .unset, .unset] [(.int (0 : Int32)), (.ref b18)]) _ _ _
    refine own_go (fun _ => XS.aload X18.here hx rfl (hb hby at_97) rfl rfl) ?_
    show own_Fin _ _ _ _ T18 (mkF m 99 #[.val (.long x0), .second, .val (.long x1), .second, .val (.int x2), .val (.int x3), .val (.int x4), .val (.ref b1), .val (.int (1 : Int32)), .val (.int y9), .val (.int y10), .val (.ref b18), .unset, .unset] [(.ref b1), (.int (0 : Int32)), (.ref b18)]) _ _ _
    refine own_go (fun _ => XS.iload X18.here hx rfl (hb hby at_99) rfl) ?_
    show own_Fin _ _ _ _ T18 (mkF m 101 #[.val (.long x0), .second, .val (.long x1), .second, .val (.int x2), .val (.int x3), .val (.int x4), .val (.ref b1), .val (.int (1 : Int32)), .val (.int y9), .val (.int y10), .val (.ref b18), .unset, .unset] [(.int y10), (.ref b1), (.int (0 : Int32)), (.ref b18)]) _ _ _
    refine own_go (fun _ => XS.iconst X18.here hx rfl (hb hby at_101)) ?_
    show own_Fin _ _ _ _ T18 (mkF m 102 #[.val (.long x0), .second, .val (.long x1), .second, .val (.int x2), .val (.int x3), .val (.int x4), .val (.ref b1), .val (.int (1 : Int32)), .val (.int y9), .val (.int y10), .val (.ref b18), .unset, .unset] [(.int (0 : Int32)), (.int y10), (.ref b1), (.int (0 : Int32)), (.ref b18)]) _ _ _
    refine own_go (fun _ => XS.iload X18.here hx rfl (hb hby at_102) rfl) ?_
    show own_Fin _ _ _ _ T18 (mkF m 104 #[.val (.long x0), .second, .val (.long x1), .second, .val (.int x2), .val (.int x3), .val (.int x4), .val (.ref b1), .val (.int (1 : Int32)), .val (.int y9), .val (.int y10), .val (.ref b18), .unset, .unset] [(.int x4), (.int (0 : Int32)), (.int y10), (.ref b1), (.int (0 : Int32)), (.ref b18)]) _ _ _
    refine own_go (fun _ => XS.lloadN X18.here hx rfl (hb hby at_104) rfl) ?_
    show own_Fin _ _ _ _ T18 (mkF m 105 #[.val (.long x0), .second, .val (.long x1), .second, .val (.int x2), .val (.int x3), .val (.int x4), .val (.ref b1), .val (.int (1 : Int32)), .val (.int y9), .val (.int y10), .val (.ref b18), .unset, .unset] [(.long x1), (.int x4), (.int (0 : Int32)), (.int y10), (.ref b1), (.int (0 : Int32)), (.ref b18)]) _ _ _
    obtain ⟨_, _, ⟨T19, L19, k19, n19⟩, -, X19, ⟨Lc19, hQ19, l19, y19, z19⟩, st19⟩ := Jvm.LawKit.callS X18 hx (y := (⟨"com/example/jitlens/jitlens/LogTextStartsWithPinLaw", "textByte", "([BIIIJ)B"⟩ : MethodName)) hown (mvT hZ (hw _ (List.mem_of_getElem? (i := 10) rfl))) (mvT hZ (hw _ (List.mem_of_getElem? (i := 11) rfl))) (mvT hZ (hw _ (List.mem_of_getElem? (i := 3) rfl))) (mvT hZ (hw _ (List.mem_of_getElem? (i := 12) rfl))) (by decide) (backOf (W := 2) (rm3 l Z a0 hw [] b1 y10 (0 : Int32) x4 x1 f13 h18 n0 Z18 V18_b1) hZ (hw _ (List.mem_of_getElem? (i := 12) rfl)) (hw _ (List.mem_of_getElem? (i := 3) rfl)) (by decide) (by decide)) (g := (mkF m 105 #[.val (.long x0), .second, .val (.long x1), .second, .val (.int x2), .val (.int x3), .val (.int x4), .val (.ref b1), .val (.int (1 : Int32)), .val (.int y9), .val (.int y10), .val (.ref b18), .unset, .unset] [(.long x1), (.int x4), (.int (0 : Int32)), (.int y10), (.ref b1), (.int (0 : Int32)), (.ref b18)])) rfl (by rw [hml]; rfl) (argsL := [(.ref b1), (.int y10), (.int (0 : Int32)), (.int x4), (.long x1)]) (rest := [(.int (0 : Int32)), (.ref b18)]) (lenOf pd_2 rfl) rfl (by show 2 * 0 + _ ≤ _; exact Nat.le_of_eq rfl) (hb hby at_105) (fun _ _ => ⟨rfl, e18, (by decide : 2 + 0 ≤ _), (by decide : 7 + 0 ≤ _)⟩)
    dsimp only [Pt.U, Pt.locs, Pt.cells, Pt.slots] at X19 l19 y19 z19 st19 hQ19
    subst l19 y19 z19
    obtain ⟨r19, rfl, N19q, e19⟩ := hQ19
    have N19 := Fr.app N13 N19q
    refine own_go st19 ?_
    show own_Fin _ _ _ _ T19 (mkF m 108 #[.val (.long x0), .second, .val (.long x1), .second, .val (.int x2), .val (.int x3), .val (.int x4), .val (.ref b1), .val (.int (1 : Int32)), .val (.int y9), .val (.int y10), .val (.ref b18), .unset, .unset] [(.int r19), (.int (0 : Int32)), (.ref b18)]) _ _ _
    obtain ⟨T20, h20, X20, e20, W20, V20, st20⟩ := own_bst X19 hx hZ e19 V_b18 (j := (0 : Int32)) 0 (by decide) rfl (by decide) (g := (mkF m 108 #[.val (.long x0), .second, .val (.long x1), .second, .val (.int x2), .val (.int x3), .val (.int x4), .val (.ref b1), .val (.int (1 : Int32)), .val (.int y9), .val (.int y10), .val (.ref b18), .unset, .unset] [(.int r19), (.int (0 : Int32)), (.ref b18)])) rfl rfl (hb hby at_108)
    obtain ⟨f20, hf20⟩ : ∃ f, f = own_up (fun _ => 0) 0 (nar .byte r19) := ⟨_, rfl⟩
    rw [← hf20] at V20
    have V20_b1 := (V18_b1).other W20 ne_b1_b18
    have K20 : Keep h0 h20 [] := (K18).wr W20 (Or.inr sz_b18)
    have N20 := Fr.snoc X20 N19 g_b18
    have Z20 : n0 ≤ h20.size := Nat.le_trans Z18 (Keep.of_wr W20).1
    refine own_go st20 ?_
    show own_Fin _ _ _ _ T20 (mkF m 109 #[.val (.long x0), .second, .val (.long x1), .second, .val (.int x2), .val (.int x3), .val (.int x4), .val (.ref b1), .val (.int (1 : Int32)), .val (.int y9), .val (.int y10), .val (.ref b18), .unset, .unset] []) _ _ _
    refine own_go (fun _ => XS.iload X20.here hx rfl (hb hby at_109) rfl) ?_
    show own_Fin _ _ _ _ T20 (mkF m 111 #[.val (.long x0), .second, .val (.long x1), .second, .val (.int x2), .val (.int x3), .val (.int x4), .val (.ref b1), .val (.int (1 : Int32)), .val (.int y9), .val (.int y10), .val (.ref b18), .unset, .unset] [(.int (1 : Int32))]) _ _ _
    refine own_go (fun _ => XS.iconst X20.here hx rfl (hb hby at_111)) ?_
    show own_Fin _ _ _ _ T20 (mkF m 112 #[.val (.long x0), .second, .val (.long x1), .second, .val (.int x2), .val (.int x3), .val (.int x4), .val (.ref b1), .val (.int (1 : Int32)), .val (.int y9), .val (.int y10), .val (.ref b18), .unset, .unset] [(.int (1 : Int32)), (.int (1 : Int32))]) _ _ _
    refine own_go (fun _ => XS.icmpYes X20.here hx rfl (pc0 := 112) (pc' := 130) rfl (hb hby at_112) rfl (flt (show ¬ ((1 : Int32) < (1 : Int32)) from (by decide))).2.2.2 (by decide) (by decide)) ?_
    show own_Fin _ _ _ _ T20 (mkF m 130 #[.val (.long x0), .second, .val (.long x1), .second, .val (.int x2), .val (.int x3), .val (.int x4), .val (.ref b1), .val (.int (1 : Int32)), .val (.int y9), .val (.int y10), .val (.ref b18), .unset, .unset] []) _ _ _
    refine own_go (fun _ => XS.iload X20.here hx rfl (hb hby at_130) rfl) ?_
    show own_Fin _ _ _ _ T20 (mkF m 132 #[.val (.long x0), .second, .val (.long x1), .second, .val (.int x2), .val (.int x3), .val (.int x4), .val (.ref b1), .val (.int (1 : Int32)), .val (.int y9), .val (.int y10), .val (.ref b18), .unset, .unset] [(.int (1 : Int32))]) _ _ _
    refine own_go (fun _ => XS.iconst X20.here hx rfl (hb hby at_132)) ?_
    show own_Fin _ _ _ _ T20 (mkF m 133 #[.val (.long x0), .second, .val (.long x1), .second, .val (.int x2), .val (.int x3), .val (.int x4), .val (.ref b1), .val (.int (1 : Int32)), .val (.int y9), .val (.int y10), .val (.ref b18), .unset, .unset] [(.int (2 : Int32)), (.int (1 : Int32))]) _ _ _
    refine own_go (fun _ => XS.icmpYes X20.here hx rfl (pc0 := 133) (pc' := 151) rfl (hb hby at_133) rfl (flt (show ¬ ((2 : Int32) < (1 : Int32)) from (by decide))).2.2.2 (by decide) (by decide)) ?_
    show own_Fin _ _ _ _ T20 (mkF m 151 #[.val (.long x0), .second, .val (.long x1), .second, .val (.int x2), .val (.int x3), .val (.int x4), .val (.ref b1), .val (.int (1 : Int32)), .val (.int y9), .val (.int y10), .val (.ref b18), .unset, .unset] []) _ _ _
    refine own_go (fun _ => XS.iload X20.here hx rfl (hb hby at_151) rfl) ?_
    show own_Fin _ _ _ _ T20 (mkF m 153 #[.val (.long x0), .second, .val (.long x1), .second, .val (.int x2), .val (.int x3), .val (.int x4), .val (.ref b1), .val (.int (1 : Int32)), .val (.int y9), .val (.int y10), .val (.ref b18), .unset, .unset] [(.int y10)]) _ _ _
    by_cases h153 : y10 < (0 : Int32)
    · refine own_go (fun _ => XS.ifYes X20.here hx rfl (pc0 := 153) (pc' := 228) rfl (hb hby at_153) rfl ((if0 _ _).trans (tlt h153).1) (by decide) (by decide)) ?_
      show own_Fin _ _ _ _ T20 (mkF m 228 #[.val (.long x0), .second, .val (.long x1), .second, .val (.int x2), .val (.int x3), .val (.int x4), .val (.ref b1), .val (.int (1 : Int32)), .val (.int y9), .val (.int y10), .val (.ref b18), .unset, .unset] []) _ _ _
      refine own_go (fun _ => XS.iconst X20.here hx rfl (hb hby at_228)) ?_
      show own_Fin _ _ _ _ T20 (mkF m 229 #[.val (.long x0), .second, .val (.long x1), .second, .val (.int x2), .val (.int x3), .val (.int x4), .val (.ref b1), .val (.int (1 : Int32)), .val (.int y9), .val (.int y10), .val (.ref b18), .unset, .unset] [(.int (0 : Int32))]) _ _ _
      refine own_go (fun _ => XS.istore X20.here hx rfl (hb hby at_229) rfl (l' := #[.val (.long x0), .second, .val (.long x1), .second, .val (.int x2), .val (.int x3), .val (.int x4), .val (.ref b1), .val (.int (1 : Int32)), .val (.int y9), .val (.int y10), .val (.ref b18), .val (.int (0 : Int32)), .unset]) rfl) ?_
      show own_Fin _ _ _ _ T20 (mkF m 231 #[.val (.long x0), .second, .val (.long x1), .second, .val (.int x2), .val (.int x3), .val (.int x4), .val (.ref b1), .val (.int (1 : Int32)), .val (.int y9), .val (.int y10), .val (.ref b18), .val (.int (0 : Int32)), .unset] []) _ _ _
      refine own_go (fun _ => XS.aload X20.here hx rfl (hb hby at_231) rfl rfl) ?_
      show own_Fin _ _ _ _ T20 (mkF m 233 #[.val (.long x0), .second, .val (.long x1), .second, .val (.int x2), .val (.int x3), .val (.int x4), .val (.ref b1), .val (.int (1 : Int32)), .val (.int y9), .val (.int y10), .val (.ref b18), .val (.int (0 : Int32)), .unset] [(.ref b1)]) _ _ _
      refine own_go (fun _ => XS.iload X20.here hx rfl (hb hby at_233) rfl) ?_
      show own_Fin _ _ _ _ T20 (mkF m 235 #[.val (.long x0), .second, .val (.long x1), .second, .val (.int x2), .val (.int x3), .val (.int x4), .val (.ref b1), .val (.int (1 : Int32)), .val (.int y9), .val (.int y10), .val (.ref b18), .val (.int (0 : Int32)), .unset] [(.int y10), (.ref b1)]) _ _ _
      refine own_go (fun _ => XS.iload X20.here hx rfl (hb hby at_235) rfl) ?_
      show own_Fin _ _ _ _ T20 (mkF m 237 #[.val (.long x0), .second, .val (.long x1), .second, .val (.int x2), .val (.int x3), .val (.int x4), .val (.ref b1), .val (.int (1 : Int32)), .val (.int y9), .val (.int y10), .val (.ref b18), .val (.int (0 : Int32)), .unset] [(.int y9), (.int y10), (.ref b1)]) _ _ _
      refine own_go (fun _ => XS.aload X20.here hx rfl (hb hby at_237) rfl rfl) ?_
      show own_Fin _ _ _ _ T20 (mkF m 239 #[.val (.long x0), .second, .val (.long x1), .second, .val (.int x2), .val (.int x3), .val (.int x4), .val (.ref b1), .val (.int (1 : Int32)), .val (.int y9), .val (.int y10), .val (.ref b18), .val (.int (0 : Int32)), .unset] [(.ref b18), (.int y9), (.int y10), (.ref b1)]) _ _ _
      obtain ⟨_, _, ⟨T21, L21, k21, n21⟩, -, X21, ⟨Lc21, hQ21, l21, y21, z21⟩, st21⟩ := Jvm.LawKit.callS X20 hx (y := (⟨"com/example/jitlens/jitlens/LogText", "startsWith", "([BII[B)Z"⟩ : MethodName)) hown (mvT hZ (hw _ (List.mem_of_getElem? (i := 6) rfl))) (mvT hZ (hw _ (List.mem_of_getElem? (i := 7) rfl))) (mvT hZ (hw _ (List.mem_of_getElem? (i := 8) rfl))) (mvT hZ (hw _ (List.mem_of_getElem? (i := 9) rfl))) (by decide) (backOf (W := 0) (rm2_1 l Z a0 hw [] b1 y10 y9 b18 f13 f20 h20 n0 Z20 V20_b1 V20 hat hto) hZ (hw _ (List.mem_of_getElem? (i := 9) rfl)) (hw _ (List.mem_of_getElem? (i := 8) rfl)) (by decide) (by decide)) (g := (mkF m 239 #[.val (.long x0), .second, .val (.long x1), .second, .val (.int x2), .val (.int x3), .val (.int x4), .val (.ref b1), .val (.int (1 : Int32)), .val (.int y9), .val (.int y10), .val (.ref b18), .val (.int (0 : Int32)), .unset] [(.ref b18), (.int y9), (.int y10), (.ref b1)])) rfl (by rw [hml]; rfl) (argsL := [(.ref b1), (.int y10), (.int y9), (.ref b18)]) (rest := []) (lenOf pd_1 rfl) rfl (by show 2 * 0 + _ ≤ _; exact Nat.le_of_eq rfl) (hb hby at_239) (fun _ _ => ⟨rfl, e20, (by decide : 2 + 0 ≤ _), (by decide : 7 + 0 ≤ _)⟩)
      dsimp only [Pt.U, Pt.locs, Pt.cells, Pt.slots] at X21 l21 y21 z21 st21 hQ21
      subst l21 y21 z21
      obtain ⟨rfl, N21q, e21⟩ := hQ21
      have N21 := Fr.app N20 N21q
      refine own_go st21 ?_
      show own_Fin _ _ _ _ T21 (mkF m 242 #[.val (.long x0), .second, .val (.long x1), .second, .val (.int x2), .val (.int x3), .val (.int x4), .val (.ref b1), .val (.int (1 : Int32)), .val (.int y9), .val (.int y10), .val (.ref b18), .val (.int (0 : Int32)), .unset] [(.int (own_sw1 y10 y9 f13 f20))]) _ _ _
      refine own_go (fun _ => XS.istore X21.here hx rfl (hb hby at_242) rfl (l' := #[.val (.long x0), .second, .val (.long x1), .second, .val (.int x2), .val (.int x3), .val (.int x4), .val (.ref b1), .val (.int (1 : Int32)), .val (.int y9), .val (.int y10), .val (.ref b18), .val (.int (0 : Int32)), .val (.int (own_sw1 y10 y9 f13 f20))]) rfl) ?_
      show own_Fin _ _ _ _ T21 (mkF m 244 #[.val (.long x0), .second, .val (.long x1), .second, .val (.int x2), .val (.int x3), .val (.int x4), .val (.ref b1), .val (.int (1 : Int32)), .val (.int y9), .val (.int y10), .val (.ref b18), .val (.int (0 : Int32)), .val (.int (own_sw1 y10 y9 f13 f20))] []) _ _ _
      refine own_go (fun _ => XS.iload X21.here hx rfl (hb hby at_244) rfl) ?_
      show own_Fin _ _ _ _ T21 (mkF m 246 #[.val (.long x0), .second, .val (.long x1), .second, .val (.int x2), .val (.int x3), .val (.int x4), .val (.ref b1), .val (.int (1 : Int32)), .val (.int y9), .val (.int y10), .val (.ref b18), .val (.int (0 : Int32)), .val (.int (own_sw1 y10 y9 f13 f20))] [(.int (own_sw1 y10 y9 f13 f20))]) _ _ _
      refine own_go (fun _ => XS.iload X21.here hx rfl (hb hby at_246) rfl) ?_
      show own_Fin _ _ _ _ T21 (mkF m 248 #[.val (.long x0), .second, .val (.long x1), .second, .val (.int x2), .val (.int x3), .val (.int x4), .val (.ref b1), .val (.int (1 : Int32)), .val (.int y9), .val (.int y10), .val (.ref b18), .val (.int (0 : Int32)), .val (.int (own_sw1 y10 y9 f13 f20))] [(.int (0 : Int32)), (.int (own_sw1 y10 y9 f13 f20))]) _ _ _
      refine own_go (fun _ => XS.icmpNo X21.here hx rfl (hb hby at_248) rfl (teq (show (own_sw1 y10 y9 f13 f20) = (0 : Int32) from by simp only [own_sw1, if_pos h153])).2) ?_
      show own_Fin _ _ _ _ T21 (mkF m 251 #[.val (.long x0), .second, .val (.long x1), .second, .val (.int x2), .val (.int x3), .val (.int x4), .val (.ref b1), .val (.int (1 : Int32)), .val (.int y9), .val (.int y10), .val (.ref b18), .val (.int (0 : Int32)), .val (.int (own_sw1 y10 y9 f13 f20))] []) _ _ _
      refine own_go (fun _ => XS.iconst X21.here hx rfl (hb hby at_251)) ?_
      show own_Fin _ _ _ _ T21 (mkF m 252 #[.val (.long x0), .second, .val (.long x1), .second, .val (.int x2), .val (.int x3), .val (.int x4), .val (.ref b1), .val (.int (1 : Int32)), .val (.int y9), .val (.int y10), .val (.ref b18), .val (.int (0 : Int32)), .val (.int (own_sw1 y10 y9 f13 f20))] [(.int (1 : Int32))]) _ _ _
      refine own_go (fun _ => XS.goto X21.here hx rfl (pc0 := 252) (pc' := 256) rfl (hb hby at_252) (by decide) (by decide)) ?_
      show own_Fin _ _ _ _ T21 (mkF m 256 #[.val (.long x0), .second, .val (.long x1), .second, .val (.int x2), .val (.int x3), .val (.int x4), .val (.ref b1), .val (.int (1 : Int32)), .val (.int y9), .val (.int y10), .val (.ref b18), .val (.int (0 : Int32)), .val (.int (own_sw1 y10 y9 f13 f20))] [(.int (1 : Int32))]) _ _ _
      exact own_retZ X21 hx hnl (t := .boolean) hret (by simp) (hb hby at_256) (by decide) (by decide) ⟨rfl, N21⟩
    · refine own_go (fun _ => XS.ifNo X20.here hx rfl (hb hby at_153) rfl ((if0 _ _).trans (flt h153).1)) ?_
      show own_Fin _ _ _ _ T20 (mkF m 156 #[.val (.long x0), .second, .val (.long x1), .second, .val (.int x2), .val (.int x3), .val (.int x4), .val (.ref b1), .val (.int (1 : Int32)), .val (.int y9), .val (.int y10), .val (.ref b18), .unset, .unset] []) _ _ _
      refine own_go (fun _ => XS.iload X20.here hx rfl (hb hby at_156) rfl) ?_
      show own_Fin _ _ _ _ T20 (mkF m 158 #[.val (.long x0), .second, .val (.long x1), .second, .val (.int x2), .val (.int x3), .val (.int x4), .val (.ref b1), .val (.int (1 : Int32)), .val (.int y9), .val (.int y10), .val (.ref b18), .unset, .unset] [(.int y10)]) _ _ _
      refine own_go (fun _ => XS.iload X20.here hx rfl (hb hby at_158) rfl) ?_
      show own_Fin _ _ _ _ T20 (mkF m 160 #[.val (.long x0), .second, .val (.long x1), .second, .val (.int x2), .val (.int x3), .val (.int x4), .val (.ref b1), .val (.int (1 : Int32)), .val (.int y9), .val (.int y10), .val (.ref b18), .unset, .unset] [(.int (1 : Int32)), (.int y10)]) _ _ _
      refine own_go (fun _ => XS.iadd X20.here hx rfl (hb hby at_160) rfl) ?_
      show own_Fin _ _ _ _ T20 (mkF m 161 #[.val (.long x0), .second, .val (.long x1), .second, .val (.int x2), .val (.int x3), .val (.int x4), .val (.ref b1), .val (.int (1 : Int32)), .val (.int y9), .val (.int y10), .val (.ref b18), .unset, .unset] [(.int (y10 + (1 : Int32)))]) _ _ _
      refine own_go (fun _ => XS.iload X20.here hx rfl (hb hby at_161) rfl) ?_
      show own_Fin _ _ _ _ T20 (mkF m 163 #[.val (.long x0), .second, .val (.long x1), .second, .val (.int x2), .val (.int x3), .val (.int x4), .val (.ref b1), .val (.int (1 : Int32)), .val (.int y9), .val (.int y10), .val (.ref b18), .unset, .unset] [(.int y9), (.int (y10 + (1 : Int32)))]) _ _ _
      by_cases h163 : y9 < (y10 + (1 : Int32))
      · refine own_go (fun _ => XS.icmpYes X20.here hx rfl (pc0 := 163) (pc' := 228) rfl (hb hby at_163) rfl (tlt h163).2.2.1 (by decide) (by decide)) ?_
        show own_Fin _ _ _ _ T20 (mkF m 228 #[.val (.long x0), .second, .val (.long x1), .second, .val (.int x2), .val (.int x3), .val (.int x4), .val (.ref b1), .val (.int (1 : Int32)), .val (.int y9), .val (.int y10), .val (.ref b18), .unset, .unset] []) _ _ _
        refine own_go (fun _ => XS.iconst X20.here hx rfl (hb hby at_228)) ?_
        show own_Fin _ _ _ _ T20 (mkF m 229 #[.val (.long x0), .second, .val (.long x1), .second, .val (.int x2), .val (.int x3), .val (.int x4), .val (.ref b1), .val (.int (1 : Int32)), .val (.int y9), .val (.int y10), .val (.ref b18), .unset, .unset] [(.int (0 : Int32))]) _ _ _
        refine own_go (fun _ => XS.istore X20.here hx rfl (hb hby at_229) rfl (l' := #[.val (.long x0), .second, .val (.long x1), .second, .val (.int x2), .val (.int x3), .val (.int x4), .val (.ref b1), .val (.int (1 : Int32)), .val (.int y9), .val (.int y10), .val (.ref b18), .val (.int (0 : Int32)), .unset]) rfl) ?_
        show own_Fin _ _ _ _ T20 (mkF m 231 #[.val (.long x0), .second, .val (.long x1), .second, .val (.int x2), .val (.int x3), .val (.int x4), .val (.ref b1), .val (.int (1 : Int32)), .val (.int y9), .val (.int y10), .val (.ref b18), .val (.int (0 : Int32)), .unset] []) _ _ _
        refine own_go (fun _ => XS.aload X20.here hx rfl (hb hby at_231) rfl rfl) ?_
        show own_Fin _ _ _ _ T20 (mkF m 233 #[.val (.long x0), .second, .val (.long x1), .second, .val (.int x2), .val (.int x3), .val (.int x4), .val (.ref b1), .val (.int (1 : Int32)), .val (.int y9), .val (.int y10), .val (.ref b18), .val (.int (0 : Int32)), .unset] [(.ref b1)]) _ _ _
        refine own_go (fun _ => XS.iload X20.here hx rfl (hb hby at_233) rfl) ?_
        show own_Fin _ _ _ _ T20 (mkF m 235 #[.val (.long x0), .second, .val (.long x1), .second, .val (.int x2), .val (.int x3), .val (.int x4), .val (.ref b1), .val (.int (1 : Int32)), .val (.int y9), .val (.int y10), .val (.ref b18), .val (.int (0 : Int32)), .unset] [(.int y10), (.ref b1)]) _ _ _
        refine own_go (fun _ => XS.iload X20.here hx rfl (hb hby at_235) rfl) ?_
        show own_Fin _ _ _ _ T20 (mkF m 237 #[.val (.long x0), .second, .val (.long x1), .second, .val (.int x2), .val (.int x3), .val (.int x4), .val (.ref b1), .val (.int (1 : Int32)), .val (.int y9), .val (.int y10), .val (.ref b18), .val (.int (0 : Int32)), .unset] [(.int y9), (.int y10), (.ref b1)]) _ _ _
        refine own_go (fun _ => XS.aload X20.here hx rfl (hb hby at_237) rfl rfl) ?_
        show own_Fin _ _ _ _ T20 (mkF m 239 #[.val (.long x0), .second, .val (.long x1), .second, .val (.int x2), .val (.int x3), .val (.int x4), .val (.ref b1), .val (.int (1 : Int32)), .val (.int y9), .val (.int y10), .val (.ref b18), .val (.int (0 : Int32)), .unset] [(.ref b18), (.int y9), (.int y10), (.ref b1)]) _ _ _
        obtain ⟨_, _, ⟨T22, L22, k22, n22⟩, -, X22, ⟨Lc22, hQ22, l22, y22, z22⟩, st22⟩ := Jvm.LawKit.callS X20 hx (y := (⟨"com/example/jitlens/jitlens/LogText", "startsWith", "([BII[B)Z"⟩ : MethodName)) hown (mvT hZ (hw _ (List.mem_of_getElem? (i := 6) rfl))) (mvT hZ (hw _ (List.mem_of_getElem? (i := 7) rfl))) (mvT hZ (hw _ (List.mem_of_getElem? (i := 8) rfl))) (mvT hZ (hw _ (List.mem_of_getElem? (i := 9) rfl))) (by decide) (backOf (W := 0) (rm2_1 l Z a0 hw [] b1 y10 y9 b18 f13 f20 h20 n0 Z20 V20_b1 V20 hat hto) hZ (hw _ (List.mem_of_getElem? (i := 9) rfl)) (hw _ (List.mem_of_getElem? (i := 8) rfl)) (by decide) (by decide)) (g := (mkF m 239 #[.val (.long x0), .second, .val (.long x1), .second, .val (.int x2), .val (.int x3), .val (.int x4), .val (.ref b1), .val (.int (1 : Int32)), .val (.int y9), .val (.int y10), .val (.ref b18), .val (.int (0 : Int32)), .unset] [(.ref b18), (.int y9), (.int y10), (.ref b1)])) rfl (by rw [hml]; rfl) (argsL := [(.ref b1), (.int y10), (.int y9), (.ref b18)]) (rest := []) (lenOf pd_1 rfl) rfl (by show 2 * 0 + _ ≤ _; exact Nat.le_of_eq rfl) (hb hby at_239) (fun _ _ => ⟨rfl, e20, (by decide : 2 + 0 ≤ _), (by decide : 7 + 0 ≤ _)⟩)
        dsimp only [Pt.U, Pt.locs, Pt.cells, Pt.slots] at X22 l22 y22 z22 st22 hQ22
        subst l22 y22 z22
        obtain ⟨rfl, N22q, e22⟩ := hQ22
        have N22 := Fr.app N20 N22q
        refine own_go st22 ?_
        show own_Fin _ _ _ _ T22 (mkF m 242 #[.val (.long x0), .second, .val (.long x1), .second, .val (.int x2), .val (.int x3), .val (.int x4), .val (.ref b1), .val (.int (1 : Int32)), .val (.int y9), .val (.int y10), .val (.ref b18), .val (.int (0 : Int32)), .unset] [(.int (own_sw1 y10 y9 f13 f20))]) _ _ _
        refine own_go (fun _ => XS.istore X22.here hx rfl (hb hby at_242) rfl (l' := #[.val (.long x0), .second, .val (.long x1), .second, .val (.int x2), .val (.int x3), .val (.int x4), .val (.ref b1), .val (.int (1 : Int32)), .val (.int y9), .val (.int y10), .val (.ref b18), .val (.int (0 : Int32)), .val (.int (own_sw1 y10 y9 f13 f20))]) rfl) ?_
        show own_Fin _ _ _ _ T22 (mkF m 244 #[.val (.long x0), .second, .val (.long x1), .second, .val (.int x2), .val (.int x3), .val (.int x4), .val (.ref b1), .val (.int (1 : Int32)), .val (.int y9), .val (.int y10), .val (.ref b18), .val (.int (0 : Int32)), .val (.int (own_sw1 y10 y9 f13 f20))] []) _ _ _
        refine own_go (fun _ => XS.iload X22.here hx rfl (hb hby at_244) rfl) ?_
        show own_Fin _ _ _ _ T22 (mkF m 246 #[.val (.long x0), .second, .val (.long x1), .second, .val (.int x2), .val (.int x3), .val (.int x4), .val (.ref b1), .val (.int (1 : Int32)), .val (.int y9), .val (.int y10), .val (.ref b18), .val (.int (0 : Int32)), .val (.int (own_sw1 y10 y9 f13 f20))] [(.int (own_sw1 y10 y9 f13 f20))]) _ _ _
        refine own_go (fun _ => XS.iload X22.here hx rfl (hb hby at_246) rfl) ?_
        show own_Fin _ _ _ _ T22 (mkF m 248 #[.val (.long x0), .second, .val (.long x1), .second, .val (.int x2), .val (.int x3), .val (.int x4), .val (.ref b1), .val (.int (1 : Int32)), .val (.int y9), .val (.int y10), .val (.ref b18), .val (.int (0 : Int32)), .val (.int (own_sw1 y10 y9 f13 f20))] [(.int (0 : Int32)), (.int (own_sw1 y10 y9 f13 f20))]) _ _ _
        refine own_go (fun _ => XS.icmpNo X22.here hx rfl (hb hby at_248) rfl (teq (show (own_sw1 y10 y9 f13 f20) = (0 : Int32) from by simp only [own_sw1, if_neg h153, if_pos h163])).2) ?_
        show own_Fin _ _ _ _ T22 (mkF m 251 #[.val (.long x0), .second, .val (.long x1), .second, .val (.int x2), .val (.int x3), .val (.int x4), .val (.ref b1), .val (.int (1 : Int32)), .val (.int y9), .val (.int y10), .val (.ref b18), .val (.int (0 : Int32)), .val (.int (own_sw1 y10 y9 f13 f20))] []) _ _ _
        refine own_go (fun _ => XS.iconst X22.here hx rfl (hb hby at_251)) ?_
        show own_Fin _ _ _ _ T22 (mkF m 252 #[.val (.long x0), .second, .val (.long x1), .second, .val (.int x2), .val (.int x3), .val (.int x4), .val (.ref b1), .val (.int (1 : Int32)), .val (.int y9), .val (.int y10), .val (.ref b18), .val (.int (0 : Int32)), .val (.int (own_sw1 y10 y9 f13 f20))] [(.int (1 : Int32))]) _ _ _
        refine own_go (fun _ => XS.goto X22.here hx rfl (pc0 := 252) (pc' := 256) rfl (hb hby at_252) (by decide) (by decide)) ?_
        show own_Fin _ _ _ _ T22 (mkF m 256 #[.val (.long x0), .second, .val (.long x1), .second, .val (.int x2), .val (.int x3), .val (.int x4), .val (.ref b1), .val (.int (1 : Int32)), .val (.int y9), .val (.int y10), .val (.ref b18), .val (.int (0 : Int32)), .val (.int (own_sw1 y10 y9 f13 f20))] [(.int (1 : Int32))]) _ _ _
        exact own_retZ X22 hx hnl (t := .boolean) hret (by simp) (hb hby at_256) (by decide) (by decide) ⟨rfl, N22⟩
      · refine own_go (fun _ => XS.icmpNo X20.here hx rfl (hb hby at_163) rfl (flt h163).2.2.1) ?_
        show own_Fin _ _ _ _ T20 (mkF m 166 #[.val (.long x0), .second, .val (.long x1), .second, .val (.int x2), .val (.int x3), .val (.int x4), .val (.ref b1), .val (.int (1 : Int32)), .val (.int y9), .val (.int y10), .val (.ref b18), .unset, .unset] []) _ _ _
        refine own_go (fun _ => XS.iload X20.here hx rfl (hb hby at_166) rfl) ?_
        show own_Fin _ _ _ _ T20 (mkF m 168 #[.val (.long x0), .second, .val (.long x1), .second, .val (.int x2), .val (.int x3), .val (.int x4), .val (.ref b1), .val (.int (1 : Int32)), .val (.int y9), .val (.int y10), .val (.ref b18), .unset, .unset] [(.int (1 : Int32))]) _ _ _
        refine own_go (fun _ => XS.iconst X20.here hx rfl (hb hby at_168)) ?_
        show own_Fin _ _ _ _ T20 (mkF m 169 #[.val (.long x0), .second, .val (.long x1), .second, .val (.int x2), .val (.int x3), .val (.int x4), .val (.ref b1), .val (.int (1 : Int32)), .val (.int y9), .val (.int y10), .val (.ref b18), .unset, .unset] [(.int (1 : Int32)), (.int (1 : Int32))]) _ _ _
        refine own_go (fun _ => XS.icmpNo X20.here hx rfl (hb hby at_169) rfl (flt (show ¬ ((1 : Int32) < (1 : Int32)) from (by decide))).1) ?_
        show own_Fin _ _ _ _ T20 (mkF m 172 #[.val (.long x0), .second, .val (.long x1), .second, .val (.int x2), .val (.int x3), .val (.int x4), .val (.ref b1), .val (.int (1 : Int32)), .val (.int y9), .val (.int y10), .val (.ref b18), .unset, .unset] []) _ _ _
        refine own_go (fun _ => XS.aload X20.here hx rfl (hb hby at_172) rfl rfl) ?_
        show own_Fin _ _ _ _ T20 (mkF m 174 #[.val (.long x0), .second, .val (.long x1), .second, .val (.int x2), .val (.int x3), .val (.int x4), .val (.ref b1), .val (.int (1 : Int32)), .val (.int y9), .val (.int y10), .val (.ref b18), .unset, .unset] [(.ref b1)]) _ _ _
        refine own_go (fun _ => XS.iload X20.here hx rfl (hb hby at_174) rfl) ?_
        show own_Fin _ _ _ _ T20 (mkF m 176 #[.val (.long x0), .second, .val (.long x1), .second, .val (.int x2), .val (.int x3), .val (.int x4), .val (.ref b1), .val (.int (1 : Int32)), .val (.int y9), .val (.int y10), .val (.ref b18), .unset, .unset] [(.int y10), (.ref b1)]) _ _ _
        refine own_go (own_bld X20 hx hZ e20 V20_b1 (j := y10) y10.toNatClampNeg h153 rfl (by have := (own_ix (i := 0) (N := 1) h153 hat h163 hto (by decide)).2; rwa [Int32.add_zero] at this) rfl rfl (hb hby at_176)) ?_
        show own_Fin _ _ _ _ T20 (mkF m 177 #[.val (.long x0), .second, .val (.long x1), .second, .val (.int x2), .val (.int x3), .val (.int x4), .val (.ref b1), .val (.int (1 : Int32)), .val (.int y9), .val (.int y10), .val (.ref b18), .unset, .unset] [(.int (f13 y10.toNatClampNeg))]) _ _ _
        refine own_go (fun _ => XS.aload X20.here hx rfl (hb hby at_177) rfl rfl) ?_
        show own_Fin _ _ _ _ T20 (mkF m 179 #[.val (.long x0), .second, .val (.long x1), .second, .val (.int x2), .val (.int x3), .val (.int x4), .val (.ref b1), .val (.int (1 : Int32)), .val (.int y9), .val (.int y10), .val (.ref b18), .unset, .unset] [(.ref b18), (.int (f13 y10.toNatClampNeg))]) _ _ _
        refine own_go (fun _ => XS.iconst X20.here hx rfl (hb hby at_179)) ?_
        show own_Fin _ _ _ _ T20 (mkF m 180 #[.val (.long x0), .second, .val (.long x1), .second, .val (.int x2), .val (.int x3), .val (.int x4), .val (.ref b1), .val (.int (1 : Int32)), .val (.int y9), .val (.int y10), .val (.ref b18), .unset, .unset] [(.int (0 : Int32)), (.ref b18), (.int (f13 y10.toNatClampNeg))]) _ _ _
        refine own_go (own_bld X20 hx hZ e20 V20 (j := (0 : Int32)) 0 (by decide) rfl (by decide) rfl rfl (hb hby at_180)) ?_
        show own_Fin _ _ _ _ T20 (mkF m 181 #[.val (.long x0), .second, .val (.long x1), .second, .val (.int x2), .val (.int x3), .val (.int x4), .val (.ref b1), .val (.int (1 : Int32)), .val (.int y9), .val (.int y10), .val (.ref b18), .unset, .unset] [(.int (f20 0)), (.int (f13 y10.toNatClampNeg))]) _ _ _
        by_cases h181 : (f13 y10.toNatClampNeg) = (f20 0)
        · refine own_go (fun _ => XS.icmpNo X20.here hx rfl (hb hby at_181) rfl (teq h181).2) ?_
          show own_Fin _ _ _ _ T20 (mkF m 184 #[.val (.long x0), .second, .val (.long x1), .second, .val (.int x2), .val (.int x3), .val (.int x4), .val (.ref b1), .val (.int (1 : Int32)), .val (.int y9), .val (.int y10), .val (.ref b18), .unset, .unset] []) _ _ _
          refine own_go (fun _ => XS.iload X20.here hx rfl (hb hby at_184) rfl) ?_
          show own_Fin _ _ _ _ T20 (mkF m 186 #[.val (.long x0), .second, .val (.long x1), .second, .val (.int x2), .val (.int x3), .val (.int x4), .val (.ref b1), .val (.int (1 : Int32)), .val (.int y9), .val (.int y10), .val (.ref b18), .unset, .unset] [(.int (1 : Int32))]) _ _ _
          refine own_go (fun _ => XS.iconst X20.here hx rfl (hb hby at_186)) ?_
          show own_Fin _ _ _ _ T20 (mkF m 187 #[.val (.long x0), .second, .val (.long x1), .second, .val (.int x2), .val (.int x3), .val (.int x4), .val (.ref b1), .val (.int (1 : Int32)), .val (.int y9), .val (.int y10), .val (.ref b18), .unset, .unset] [(.int (2 : Int32)), (.int (1 : Int32))]) _ _ _
          refine own_go (fun _ => XS.icmpYes X20.here hx rfl (pc0 := 187) (pc' := 204) rfl (hb hby at_187) rfl (tlt (show (1 : Int32) < (2 : Int32) from (by decide))).1 (by decide) (by decide)) ?_
          show own_Fin _ _ _ _ T20 (mkF m 204 #[.val (.long x0), .second, .val (.long x1), .second, .val (.int x2), .val (.int x3), .val (.int x4), .val (.ref b1), .val (.int (1 : Int32)), .val (.int y9), .val (.int y10), .val (.ref b18), .unset, .unset] []) _ _ _
          refine own_go (fun _ => XS.iload X20.here hx rfl (hb hby at_204) rfl) ?_
          show own_Fin _ _ _ _ T20 (mkF m 206 #[.val (.long x0), .second, .val (.long x1), .second, .val (.int x2), .val (.int x3), .val (.int x4), .val (.ref b1), .val (.int (1 : Int32)), .val (.int y9), .val (.int y10), .val (.ref b18), .unset, .unset] [(.int (1 : Int32))]) _ _ _
          refine own_go (fun _ => XS.iconst X20.here hx rfl (hb hby at_206)) ?_
          show own_Fin _ _ _ _ T20 (mkF m 207 #[.val (.long x0), .second, .val (.long x1), .second, .val (.int x2), .val (.int x3), .val (.int x4), .val (.ref b1), .val (.int (1 : Int32)), .val (.int y9), .val (.int y10), .val (.ref b18), .unset, .unset] [(.int (3 : Int32)), (.int (1 : Int32))]) _ _ _
          refine own_go (fun _ => XS.icmpYes X20.here hx rfl (pc0 := 207) (pc' := 224) rfl (hb hby at_207) rfl (tlt (show (1 : Int32) < (3 : Int32) from (by decide))).1 (by decide) (by decide)) ?_
          show own_Fin _ _ _ _ T20 (mkF m 224 #[.val (.long x0), .second, .val (.long x1), .second, .val (.int x2), .val (.int x3), .val (.int x4), .val (.ref b1), .val (.int (1 : Int32)), .val (.int y9), .val (.int y10), .val (.ref b18), .unset, .unset] []) _ _ _
          refine own_go (fun _ => XS.iconst X20.here hx rfl (hb hby at_224)) ?_
          show own_Fin _ _ _ _ T20 (mkF m 225 #[.val (.long x0), .second, .val (.long x1), .second, .val (.int x2), .val (.int x3), .val (.int x4), .val (.ref b1), .val (.int (1 : Int32)), .val (.int y9), .val (.int y10), .val (.ref b18), .unset, .unset] [(.int (1 : Int32))]) _ _ _
          refine own_go (fun _ => XS.goto X20.here hx rfl (pc0 := 225) (pc' := 229) rfl (hb hby at_225) (by decide) (by decide)) ?_
          show own_Fin _ _ _ _ T20 (mkF m 229 #[.val (.long x0), .second, .val (.long x1), .second, .val (.int x2), .val (.int x3), .val (.int x4), .val (.ref b1), .val (.int (1 : Int32)), .val (.int y9), .val (.int y10), .val (.ref b18), .unset, .unset] [(.int (1 : Int32))]) _ _ _
          refine own_go (fun _ => XS.istore X20.here hx rfl (hb hby at_229) rfl (l' := #[.val (.long x0), .second, .val (.long x1), .second, .val (.int x2), .val (.int x3), .val (.int x4), .val (.ref b1), .val (.int (1 : Int32)), .val (.int y9), .val (.int y10), .val (.ref b18), .val (.int (1 : Int32)), .unset]) rfl) ?_
          show own_Fin _ _ _ _ T20 (mkF m 231 #[.val (.long x0), .second, .val (.long x1), .second, .val (.int x2), .val (.int x3), .val (.int x4), .val (.ref b1), .val (.int (1 : Int32)), .val (.int y9), .val (.int y10), .val (.ref b18), .val (.int (1 : Int32)), .unset] []) _ _ _
          refine own_go (fun _ => XS.aload X20.here hx rfl (hb hby at_231) rfl rfl) ?_
          show own_Fin _ _ _ _ T20 (mkF m 233 #[.val (.long x0), .second, .val (.long x1), .second, .val (.int x2), .val (.int x3), .val (.int x4), .val (.ref b1), .val (.int (1 : Int32)), .val (.int y9), .val (.int y10), .val (.ref b18), .val (.int (1 : Int32)), .unset] [(.ref b1)]) _ _ _
          refine own_go (fun _ => XS.iload X20.here hx rfl (hb hby at_233) rfl) ?_
          show own_Fin _ _ _ _ T20 (mkF m 235 #[.val (.long x0), .second, .val (.long x1), .second, .val (.int x2), .val (.int x3), .val (.int x4), .val (.ref b1), .val (.int (1 : Int32)), .val (.int y9), .val (.int y10), .val (.ref b18), .val (.int (1 : Int32)), .unset] [(.int y10), (.ref b1)]) _ _ _
          refine own_go (fun _ => XS.iload X20.here hx rfl (hb hby at_235) rfl) ?_
          show own_Fin _ _ _ _ T20 (mkF m 237 #[.val (.long x0), .second, .val (.long x1), .second, .val (.int x2), .val (.int x3), .val (.int x4), .val (.ref b1), .val (.int (1 : Int32)), .val (.int y9), .val (.int y10), .val (.ref b18), .val (.int (1 : Int32)), .unset] [(.int y9), (.int y10), (.ref b1)]) _ _ _
          refine own_go (fun _ => XS.aload X20.here hx rfl (hb hby at_237) rfl rfl) ?_
          show own_Fin _ _ _ _ T20 (mkF m 239 #[.val (.long x0), .second, .val (.long x1), .second, .val (.int x2), .val (.int x3), .val (.int x4), .val (.ref b1), .val (.int (1 : Int32)), .val (.int y9), .val (.int y10), .val (.ref b18), .val (.int (1 : Int32)), .unset] [(.ref b18), (.int y9), (.int y10), (.ref b1)]) _ _ _
          obtain ⟨_, _, ⟨T23, L23, k23, n23⟩, -, X23, ⟨Lc23, hQ23, l23, y23, z23⟩, st23⟩ := Jvm.LawKit.callS X20 hx (y := (⟨"com/example/jitlens/jitlens/LogText", "startsWith", "([BII[B)Z"⟩ : MethodName)) hown (mvT hZ (hw _ (List.mem_of_getElem? (i := 6) rfl))) (mvT hZ (hw _ (List.mem_of_getElem? (i := 7) rfl))) (mvT hZ (hw _ (List.mem_of_getElem? (i := 8) rfl))) (mvT hZ (hw _ (List.mem_of_getElem? (i := 9) rfl))) (by decide) (backOf (W := 0) (rm2_1 l Z a0 hw [] b1 y10 y9 b18 f13 f20 h20 n0 Z20 V20_b1 V20 hat hto) hZ (hw _ (List.mem_of_getElem? (i := 9) rfl)) (hw _ (List.mem_of_getElem? (i := 8) rfl)) (by decide) (by decide)) (g := (mkF m 239 #[.val (.long x0), .second, .val (.long x1), .second, .val (.int x2), .val (.int x3), .val (.int x4), .val (.ref b1), .val (.int (1 : Int32)), .val (.int y9), .val (.int y10), .val (.ref b18), .val (.int (1 : Int32)), .unset] [(.ref b18), (.int y9), (.int y10), (.ref b1)])) rfl (by rw [hml]; rfl) (argsL := [(.ref b1), (.int y10), (.int y9), (.ref b18)]) (rest := []) (lenOf pd_1 rfl) rfl (by show 2 * 0 + _ ≤ _; exact Nat.le_of_eq rfl) (hb hby at_239) (fun _ _ => ⟨rfl, e20, (by decide : 2 + 0 ≤ _), (by decide : 7 + 0 ≤ _)⟩)
          dsimp only [Pt.U, Pt.locs, Pt.cells, Pt.slots] at X23 l23 y23 z23 st23 hQ23
          subst l23 y23 z23
          obtain ⟨rfl, N23q, e23⟩ := hQ23
          have N23 := Fr.app N20 N23q
          refine own_go st23 ?_
          show own_Fin _ _ _ _ T23 (mkF m 242 #[.val (.long x0), .second, .val (.long x1), .second, .val (.int x2), .val (.int x3), .val (.int x4), .val (.ref b1), .val (.int (1 : Int32)), .val (.int y9), .val (.int y10), .val (.ref b18), .val (.int (1 : Int32)), .unset] [(.int (own_sw1 y10 y9 f13 f20))]) _ _ _
          refine own_go (fun _ => XS.istore X23.here hx rfl (hb hby at_242) rfl (l' := #[.val (.long x0), .second, .val (.long x1), .second, .val (.int x2), .val (.int x3), .val (.int x4), .val (.ref b1), .val (.int (1 : Int32)), .val (.int y9), .val (.int y10), .val (.ref b18), .val (.int (1 : Int32)), .val (.int (own_sw1 y10 y9 f13 f20))]) rfl) ?_
          show own_Fin _ _ _ _ T23 (mkF m 244 #[.val (.long x0), .second, .val (.long x1), .second, .val (.int x2), .val (.int x3), .val (.int x4), .val (.ref b1), .val (.int (1 : Int32)), .val (.int y9), .val (.int y10), .val (.ref b18), .val (.int (1 : Int32)), .val (.int (own_sw1 y10 y9 f13 f20))] []) _ _ _
          refine own_go (fun _ => XS.iload X23.here hx rfl (hb hby at_244) rfl) ?_
          show own_Fin _ _ _ _ T23 (mkF m 246 #[.val (.long x0), .second, .val (.long x1), .second, .val (.int x2), .val (.int x3), .val (.int x4), .val (.ref b1), .val (.int (1 : Int32)), .val (.int y9), .val (.int y10), .val (.ref b18), .val (.int (1 : Int32)), .val (.int (own_sw1 y10 y9 f13 f20))] [(.int (own_sw1 y10 y9 f13 f20))]) _ _ _
          refine own_go (fun _ => XS.iload X23.here hx rfl (hb hby at_246) rfl) ?_
          show own_Fin _ _ _ _ T23 (mkF m 248 #[.val (.long x0), .second, .val (.long x1), .second, .val (.int x2), .val (.int x3), .val (.int x4), .val (.ref b1), .val (.int (1 : Int32)), .val (.int y9), .val (.int y10), .val (.ref b18), .val (.int (1 : Int32)), .val (.int (own_sw1 y10 y9 f13 f20))] [(.int (1 : Int32)), (.int (own_sw1 y10 y9 f13 f20))]) _ _ _
          refine own_go (fun _ => XS.icmpNo X23.here hx rfl (hb hby at_248) rfl (teq (show (own_sw1 y10 y9 f13 f20) = (1 : Int32) from by simp only [own_sw1, if_neg h153, if_neg h163, if_pos h181])).2) ?_
          show own_Fin _ _ _ _ T23 (mkF m 251 #[.val (.long x0), .second, .val (.long x1), .second, .val (.int x2), .val (.int x3), .val (.int x4), .val (.ref b1), .val (.int (1 : Int32)), .val (.int y9), .val (.int y10), .val (.ref b18), .val (.int (1 : Int32)), .val (.int (own_sw1 y10 y9 f13 f20))] []) _ _ _
          refine own_go (fun _ => XS.iconst X23.here hx rfl (hb hby at_251)) ?_
          show own_Fin _ _ _ _ T23 (mkF m 252 #[.val (.long x0), .second, .val (.long x1), .second, .val (.int x2), .val (.int x3), .val (.int x4), .val (.ref b1), .val (.int (1 : Int32)), .val (.int y9), .val (.int y10), .val (.ref b18), .val (.int (1 : Int32)), .val (.int (own_sw1 y10 y9 f13 f20))] [(.int (1 : Int32))]) _ _ _
          refine own_go (fun _ => XS.goto X23.here hx rfl (pc0 := 252) (pc' := 256) rfl (hb hby at_252) (by decide) (by decide)) ?_
          show own_Fin _ _ _ _ T23 (mkF m 256 #[.val (.long x0), .second, .val (.long x1), .second, .val (.int x2), .val (.int x3), .val (.int x4), .val (.ref b1), .val (.int (1 : Int32)), .val (.int y9), .val (.int y10), .val (.ref b18), .val (.int (1 : Int32)), .val (.int (own_sw1 y10 y9 f13 f20))] [(.int (1 : Int32))]) _ _ _
          exact own_retZ X23 hx hnl (t := .boolean) hret (by simp) (hb hby at_256) (by decide) (by decide) ⟨rfl, N23⟩
        · refine own_go (fun _ => XS.icmpYes X20.here hx rfl (pc0 := 181) (pc' := 228) rfl (hb hby at_181) rfl (feq h181).2 (by decide) (by decide)) ?_
          show own_Fin _ _ _ _ T20 (mkF m 228 #[.val (.long x0), .second, .val (.long x1), .second, .val (.int x2), .val (.int x3), .val (.int x4), .val (.ref b1), .val (.int (1 : Int32)), .val (.int y9), .val (.int y10), .val (.ref b18), .unset, .unset] []) _ _ _
          refine own_go (fun _ => XS.iconst X20.here hx rfl (hb hby at_228)) ?_
          show own_Fin _ _ _ _ T20 (mkF m 229 #[.val (.long x0), .second, .val (.long x1), .second, .val (.int x2), .val (.int x3), .val (.int x4), .val (.ref b1), .val (.int (1 : Int32)), .val (.int y9), .val (.int y10), .val (.ref b18), .unset, .unset] [(.int (0 : Int32))]) _ _ _
          refine own_go (fun _ => XS.istore X20.here hx rfl (hb hby at_229) rfl (l' := #[.val (.long x0), .second, .val (.long x1), .second, .val (.int x2), .val (.int x3), .val (.int x4), .val (.ref b1), .val (.int (1 : Int32)), .val (.int y9), .val (.int y10), .val (.ref b18), .val (.int (0 : Int32)), .unset]) rfl) ?_
          show own_Fin _ _ _ _ T20 (mkF m 231 #[.val (.long x0), .second, .val (.long x1), .second, .val (.int x2), .val (.int x3), .val (.int x4), .val (.ref b1), .val (.int (1 : Int32)), .val (.int y9), .val (.int y10), .val (.ref b18), .val (.int (0 : Int32)), .unset] []) _ _ _
          refine own_go (fun _ => XS.aload X20.here hx rfl (hb hby at_231) rfl rfl) ?_
          show own_Fin _ _ _ _ T20 (mkF m 233 #[.val (.long x0), .second, .val (.long x1), .second, .val (.int x2), .val (.int x3), .val (.int x4), .val (.ref b1), .val (.int (1 : Int32)), .val (.int y9), .val (.int y10), .val (.ref b18), .val (.int (0 : Int32)), .unset] [(.ref b1)]) _ _ _
          refine own_go (fun _ => XS.iload X20.here hx rfl (hb hby at_233) rfl) ?_
          show own_Fin _ _ _ _ T20 (mkF m 235 #[.val (.long x0), .second, .val (.long x1), .second, .val (.int x2), .val (.int x3), .val (.int x4), .val (.ref b1), .val (.int (1 : Int32)), .val (.int y9), .val (.int y10), .val (.ref b18), .val (.int (0 : Int32)), .unset] [(.int y10), (.ref b1)]) _ _ _
          refine own_go (fun _ => XS.iload X20.here hx rfl (hb hby at_235) rfl) ?_
          show own_Fin _ _ _ _ T20 (mkF m 237 #[.val (.long x0), .second, .val (.long x1), .second, .val (.int x2), .val (.int x3), .val (.int x4), .val (.ref b1), .val (.int (1 : Int32)), .val (.int y9), .val (.int y10), .val (.ref b18), .val (.int (0 : Int32)), .unset] [(.int y9), (.int y10), (.ref b1)]) _ _ _
          refine own_go (fun _ => XS.aload X20.here hx rfl (hb hby at_237) rfl rfl) ?_
          show own_Fin _ _ _ _ T20 (mkF m 239 #[.val (.long x0), .second, .val (.long x1), .second, .val (.int x2), .val (.int x3), .val (.int x4), .val (.ref b1), .val (.int (1 : Int32)), .val (.int y9), .val (.int y10), .val (.ref b18), .val (.int (0 : Int32)), .unset] [(.ref b18), (.int y9), (.int y10), (.ref b1)]) _ _ _
          obtain ⟨_, _, ⟨T24, L24, k24, n24⟩, -, X24, ⟨Lc24, hQ24, l24, y24, z24⟩, st24⟩ := Jvm.LawKit.callS X20 hx (y := (⟨"com/example/jitlens/jitlens/LogText", "startsWith", "([BII[B)Z"⟩ : MethodName)) hown (mvT hZ (hw _ (List.mem_of_getElem? (i := 6) rfl))) (mvT hZ (hw _ (List.mem_of_getElem? (i := 7) rfl))) (mvT hZ (hw _ (List.mem_of_getElem? (i := 8) rfl))) (mvT hZ (hw _ (List.mem_of_getElem? (i := 9) rfl))) (by decide) (backOf (W := 0) (rm2_1 l Z a0 hw [] b1 y10 y9 b18 f13 f20 h20 n0 Z20 V20_b1 V20 hat hto) hZ (hw _ (List.mem_of_getElem? (i := 9) rfl)) (hw _ (List.mem_of_getElem? (i := 8) rfl)) (by decide) (by decide)) (g := (mkF m 239 #[.val (.long x0), .second, .val (.long x1), .second, .val (.int x2), .val (.int x3), .val (.int x4), .val (.ref b1), .val (.int (1 : Int32)), .val (.int y9), .val (.int y10), .val (.ref b18), .val (.int (0 : Int32)), .unset] [(.ref b18), (.int y9), (.int y10), (.ref b1)])) rfl (by rw [hml]; rfl) (argsL := [(.ref b1), (.int y10), (.int y9), (.ref b18)]) (rest := []) (lenOf pd_1 rfl) rfl (by show 2 * 0 + _ ≤ _; exact Nat.le_of_eq rfl) (hb hby at_239) (fun _ _ => ⟨rfl, e20, (by decide : 2 + 0 ≤ _), (by decide : 7 + 0 ≤ _)⟩)
          dsimp only [Pt.U, Pt.locs, Pt.cells, Pt.slots] at X24 l24 y24 z24 st24 hQ24
          subst l24 y24 z24
          obtain ⟨rfl, N24q, e24⟩ := hQ24
          have N24 := Fr.app N20 N24q
          refine own_go st24 ?_
          show own_Fin _ _ _ _ T24 (mkF m 242 #[.val (.long x0), .second, .val (.long x1), .second, .val (.int x2), .val (.int x3), .val (.int x4), .val (.ref b1), .val (.int (1 : Int32)), .val (.int y9), .val (.int y10), .val (.ref b18), .val (.int (0 : Int32)), .unset] [(.int (own_sw1 y10 y9 f13 f20))]) _ _ _
          refine own_go (fun _ => XS.istore X24.here hx rfl (hb hby at_242) rfl (l' := #[.val (.long x0), .second, .val (.long x1), .second, .val (.int x2), .val (.int x3), .val (.int x4), .val (.ref b1), .val (.int (1 : Int32)), .val (.int y9), .val (.int y10), .val (.ref b18), .val (.int (0 : Int32)), .val (.int (own_sw1 y10 y9 f13 f20))]) rfl) ?_
          show own_Fin _ _ _ _ T24 (mkF m 244 #[.val (.long x0), .second, .val (.long x1), .second, .val (.int x2), .val (.int x3), .val (.int x4), .val (.ref b1), .val (.int (1 : Int32)), .val (.int y9), .val (.int y10), .val (.ref b18), .val (.int (0 : Int32)), .val (.int (own_sw1 y10 y9 f13 f20))] []) _ _ _
          refine own_go (fun _ => XS.iload X24.here hx rfl (hb hby at_244) rfl) ?_
          show own_Fin _ _ _ _ T24 (mkF m 246 #[.val (.long x0), .second, .val (.long x1), .second, .val (.int x2), .val (.int x3), .val (.int x4), .val (.ref b1), .val (.int (1 : Int32)), .val (.int y9), .val (.int y10), .val (.ref b18), .val (.int (0 : Int32)), .val (.int (own_sw1 y10 y9 f13 f20))] [(.int (own_sw1 y10 y9 f13 f20))]) _ _ _
          refine own_go (fun _ => XS.iload X24.here hx rfl (hb hby at_246) rfl) ?_
          show own_Fin _ _ _ _ T24 (mkF m 248 #[.val (.long x0), .second, .val (.long x1), .second, .val (.int x2), .val (.int x3), .val (.int x4), .val (.ref b1), .val (.int (1 : Int32)), .val (.int y9), .val (.int y10), .val (.ref b18), .val (.int (0 : Int32)), .val (.int (own_sw1 y10 y9 f13 f20))] [(.int (0 : Int32)), (.int (own_sw1 y10 y9 f13 f20))]) _ _ _
          refine own_go (fun _ => XS.icmpNo X24.here hx rfl (hb hby at_248) rfl (teq (show (own_sw1 y10 y9 f13 f20) = (0 : Int32) from by simp only [own_sw1, if_neg h153, if_neg h163, if_neg h181])).2) ?_
          show own_Fin _ _ _ _ T24 (mkF m 251 #[.val (.long x0), .second, .val (.long x1), .second, .val (.int x2), .val (.int x3), .val (.int x4), .val (.ref b1), .val (.int (1 : Int32)), .val (.int y9), .val (.int y10), .val (.ref b18), .val (.int (0 : Int32)), .val (.int (own_sw1 y10 y9 f13 f20))] []) _ _ _
          refine own_go (fun _ => XS.iconst X24.here hx rfl (hb hby at_251)) ?_
          show own_Fin _ _ _ _ T24 (mkF m 252 #[.val (.long x0), .second, .val (.long x1), .second, .val (.int x2), .val (.int x3), .val (.int x4), .val (.ref b1), .val (.int (1 : Int32)), .val (.int y9), .val (.int y10), .val (.ref b18), .val (.int (0 : Int32)), .val (.int (own_sw1 y10 y9 f13 f20))] [(.int (1 : Int32))]) _ _ _
          refine own_go (fun _ => XS.goto X24.here hx rfl (pc0 := 252) (pc' := 256) rfl (hb hby at_252) (by decide) (by decide)) ?_
          show own_Fin _ _ _ _ T24 (mkF m 256 #[.val (.long x0), .second, .val (.long x1), .second, .val (.int x2), .val (.int x3), .val (.int x4), .val (.ref b1), .val (.int (1 : Int32)), .val (.int y9), .val (.int y10), .val (.ref b18), .val (.int (0 : Int32)), .val (.int (own_sw1 y10 y9 f13 f20))] [(.int (1 : Int32))]) _ _ _
          exact own_retZ X24 hx hnl (t := .boolean) hret (by simp) (hb hby at_256) (by decide) (by decide) ⟨rfl, N24⟩
  · rw [hl]
    show own_Fin _ _ _ _ T13 (mkF m 64 #[.val (.long x0), .second, .val (.long x1), .second, .val (.int x2), .val (.int x3), .val (.int x4), .val (.ref b1), .unset, .unset, .unset, .unset, .unset, .unset] [(.int (2 : Int32))]) _ _ _
    refine own_go (fun _ => XS.istore X13.here hx rfl (hb hby at_64) rfl (l' := #[.val (.long x0), .second, .val (.long x1), .second, .val (.int x2), .val (.int x3), .val (.int x4), .val (.ref b1), .val (.int (2 : Int32)), .unset, .unset, .unset, .unset, .unset]) rfl) ?_
    show own_Fin _ _ _ _ T13 (mkF m 66 #[.val (.long x0), .second, .val (.long x1), .second, .val (.int x2), .val (.int x3), .val (.int x4), .val (.ref b1), .val (.int (2 : Int32)), .unset, .unset, .unset, .unset, .unset] []) _ _ _
    refine own_go (fun _ => XS.iload X13.here hx rfl (hb hby at_66) rfl) ?_
    show own_Fin _ _ _ _ T13 (mkF m 68 #[.val (.long x0), .second, .val (.long x1), .second, .val (.int x2), .val (.int x3), .val (.int x4), .val (.ref b1), .val (.int (2 : Int32)), .unset, .unset, .unset, .unset, .unset] [(.int x3)]) _ _ _
    refine own_go (fun _ => X13.ldcI hx hown (mvT hZ (hw _ (List.mem_of_getElem? (i := 5) rfl))) rfl (hb hby at_68)) ?_
    show own_Fin _ _ _ _ T13 (mkF m 70 #[.val (.long x0), .second, .val (.long x1), .second, .val (.int x2), .val (.int x3), .val (.int x4), .val (.ref b1), .val (.int (2 : Int32)), .unset, .unset, .unset, .unset, .unset] [(.int (2147483647 : Int32)), (.int x3)]) _ _ _
    refine own_go (fun _ => XS.iand X13.here hx rfl (hb hby at_70) rfl) ?_
    show own_Fin _ _ _ _ T13 (mkF m 71 #[.val (.long x0), .second, .val (.long x1), .second, .val (.int x2), .val (.int x3), .val (.int x4), .val (.ref b1), .val (.int (2 : Int32)), .unset, .unset, .unset, .unset, .unset] [(.int (x3 &&& (2147483647 : Int32)))]) _ _ _
    refine own_go (fun _ => XS.bipush X13.here hx rfl (hb hby at_71)) ?_
    show own_Fin _ _ _ _ T13 (mkF m 73 #[.val (.long x0), .second, .val (.long x1), .second, .val (.int x2), .val (.int x3), .val (.int x4), .val (.ref b1), .val (.int (2 : Int32)), .unset, .unset, .unset, .unset, .unset] [(.int (7 : Int32)), (.int (x3 &&& (2147483647 : Int32)))]) _ _ _
    refine own_go (fun _ => XS.irem X13.here hx rfl (hb hby at_73) rfl (by decide)) ?_
    show own_Fin _ _ _ _ T13 (mkF m 74 #[.val (.long x0), .second, .val (.long x1), .second, .val (.int x2), .val (.int x3), .val (.int x4), .val (.ref b1), .val (.int (2 : Int32)), .unset, .unset, .unset, .unset, .unset] [(.int ((x3 &&& (2147483647 : Int32)) - ((x3 &&& (2147483647 : Int32)) / (7 : Int32)) * (7 : Int32)))]) _ _ _
    obtain ⟨y9, hq9⟩ : ∃ z, z = ((x3 &&& (2147483647 : Int32)) - ((x3 &&& (2147483647 : Int32)) / (7 : Int32)) * (7 : Int32)) := ⟨_, rfl⟩
    have hto : y9.toInt ≤ 6 := hq9 ▸ own_to x3
    rw [← hq9]
    show own_Fin _ _ _ _ T13 (mkF m 74 #[.val (.long x0), .second, .val (.long x1), .second, .val (.int x2), .val (.int x3), .val (.int x4), .val (.ref b1), .val (.int (2 : Int32)), .unset, .unset, .unset, .unset, .unset] [(.int y9)]) _ _ _
    refine own_go (fun _ => XS.istore X13.here hx rfl (hb hby at_74) rfl (l' := #[.val (.long x0), .second, .val (.long x1), .second, .val (.int x2), .val (.int x3), .val (.int x4), .val (.ref b1), .val (.int (2 : Int32)), .val (.int y9), .unset, .unset, .unset, .unset]) rfl) ?_
    show own_Fin _ _ _ _ T13 (mkF m 76 #[.val (.long x0), .second, .val (.long x1), .second, .val (.int x2), .val (.int x3), .val (.int x4), .val (.ref b1), .val (.int (2 : Int32)), .val (.int y9), .unset, .unset, .unset, .unset] []) _ _ _
    refine own_go (fun _ => XS.iload X13.here hx rfl (hb hby at_76) rfl) ?_
    show own_Fin _ _ _ _ T13 (mkF m 78 #[.val (.long x0), .second, .val (.long x1), .second, .val (.int x2), .val (.int x3), .val (.int x4), .val (.ref b1), .val (.int (2 : Int32)), .val (.int y9), .unset, .unset, .unset, .unset] [(.int x2)]) _ _ _
    refine own_go (fun _ => XS.bipush X13.here hx rfl (hb hby at_78)) ?_
    show own_Fin _ _ _ _ T13 (mkF m 80 #[.val (.long x0), .second, .val (.long x1), .second, .val (.int x2), .val (.int x3), .val (.int x4), .val (.ref b1), .val (.int (2 : Int32)), .val (.int y9), .unset, .unset, .unset, .unset] [(.int (9 : Int32)), (.int x2)]) _ _ _
    refine own_go (fun _ => XS.irem X13.here hx rfl (hb hby at_80) rfl (by decide)) ?_
    show own_Fin _ _ _ _ T13 (mkF m 81 #[.val (.long x0), .second, .val (.long x1), .second, .val (.int x2), .val (.int x3), .val (.int x4), .val (.ref b1), .val (.int (2 : Int32)), .val (.int y9), .unset, .unset, .unset, .unset] [(.int (x2 - (x2 / (9 : Int32)) * (9 : Int32)))]) _ _ _
    obtain ⟨y10, hq10⟩ : ∃ z, z = (x2 - (x2 / (9 : Int32)) * (9 : Int32)) := ⟨_, rfl⟩
    have hat : y10.toInt < 9 := hq10 ▸ own_at x2
    rw [← hq10]
    show own_Fin _ _ _ _ T13 (mkF m 81 #[.val (.long x0), .second, .val (.long x1), .second, .val (.int x2), .val (.int x3), .val (.int x4), .val (.ref b1), .val (.int (2 : Int32)), .val (.int y9), .unset, .unset, .unset, .unset] [(.int y10)]) _ _ _
    refine own_go (fun _ => XS.istore X13.here hx rfl (hb hby at_81) rfl (l' := #[.val (.long x0), .second, .val (.long x1), .second, .val (.int x2), .val (.int x3), .val (.int x4), .val (.ref b1), .val (.int (2 : Int32)), .val (.int y9), .val (.int y10), .unset, .unset, .unset]) rfl) ?_
    show own_Fin _ _ _ _ T13 (mkF m 83 #[.val (.long x0), .second, .val (.long x1), .second, .val (.int x2), .val (.int x3), .val (.int x4), .val (.ref b1), .val (.int (2 : Int32)), .val (.int y9), .val (.int y10), .unset, .unset, .unset] []) _ _ _
    refine own_go (fun _ => XS.iload X13.here hx rfl (hb hby at_83) rfl) ?_
    show own_Fin _ _ _ _ T13 (mkF m 85 #[.val (.long x0), .second, .val (.long x1), .second, .val (.int x2), .val (.int x3), .val (.int x4), .val (.ref b1), .val (.int (2 : Int32)), .val (.int y9), .val (.int y10), .unset, .unset, .unset] [(.int (2 : Int32))]) _ _ _
    obtain ⟨T25, h25, k25, X25, e25, E25, A25, st25⟩ := newP X13 hx hZ (hw _ (List.mem_of_getElem? (i := 0) rfl)) e13 (g := (mkF m 85 #[.val (.long x0), .second, .val (.long x1), .second, .val (.int x2), .val (.int x3), .val (.int x4), .val (.ref b1), .val (.int (2 : Int32)), .val (.int y9), .val (.int y10), .unset, .unset, .unset] [(.int (2 : Int32))])) rfl (hb hby at_85) rfl (by decide) (cap := 2) (by decide) (by decide) (by decide) (by decide)
    obtain ⟨b25, g25⟩ : ∃ z, z = h13.size := ⟨_, rfl⟩
    rw [← g25] at A25 st25
    have g_b25 : n0 ≤ b25 := Nat.le_trans Z13 (Nat.le_of_eq g25.symm)
    have Z25 : n0 ≤ h25.size := Nat.le_trans Z13 E25.1
    have ne_b1_b25 : b1 ≠ b25 := Nat.ne_of_lt (Nat.lt_of_lt_of_le (V13).lt (Nat.le_of_eq g25.symm))
    have sz_b25 : h0.size ≤ b25 := Nat.le_trans (K13).1 (Nat.le_of_eq g25.symm)
    have K25 : Keep h0 h25 [] := (K13).ext E25
    have V25_b1 := (V13).ext E25
    have V_b25 : own_Ba Z h25 b25 2 (fun _ => 0) := own_Ba.new A25 (by decide)
    refine own_go st25 ?_
    show own_Fin _ _ _ _ T25 (mkF m 87 #[.val (.long x0), .second, .val (.long x1), .second, .val (.int x2), .val (.int x3), .val (.int x4), .val (.ref b1), .val (.int (2 : Int32)), .val (.int y9), .val (.int y10), .unset, .unset, .unset] [(.ref b25)]) _ _ _
    refine own_go (fun _ => XS.astore X25.here hx rfl (hb hby at_87) rfl rfl (l' := #[.val (.long x0), .second, .val (.long x1), .second, .val (.int x2), .val (.int x3), .val (.int x4), .val (.ref b1), .val (.int (2 : Int32)), .val (.int y9), .val (.int y10), .val (.ref b25), .unset, .unset]) rfl) ?_
    show own_Fin _ _ _ _ T25 (mkF m 89 #[.val (.long x0), .second, .val (.long x1), .second, .val (.int x2), .val (.int x3), .val (.int x4), .val (.ref b1), .val (.int (2 : Int32)), .val (.int y9), .val (.int y10), .val (.ref b25), .unset, .unset] []) _ _ _
    refine own_go (fun _ => XS.iload X25.here hx rfl (hb hby at_89) rfl) ?_
    show own_Fin _ _ _ _ T25 (mkF m 91 #[.val (.long x0), .second, .val (.long x1), .second, .val (.int x2), .val (.int x3), .val (.int x4), .val (.ref b1), .val (.int (2 : Int32)), .val (.int y9), .val (.int y10), .val (.ref b25), .unset, .unset] [(.int (2 : Int32))]) _ _ _
    refine own_go (fun _ => XS.ifNo X25.here hx rfl (hb hby at_91) rfl ((if0 _ _).trans (tlt (show (0 : Int32) < (2 : Int32) from (by decide))).2.2.2)) ?_
    show own_Fin _ _ _ _ T25 (mkF m 94 #[.val (.long x0), .second, .val (.long x1), .second, .val (.int x2), .val (.int x3), .val (.int x4), .val (.ref b1), .val (.int (2 : Int32)), .val (.int y9), .val (.int y10), .val (.ref b25), .unset, .unset] []) _ _ _
    refine own_go (fun _ => XS.aload X25.here hx rfl (hb hby at_94) rfl rfl) ?_
    show own_Fin _ _ _ _ T25 (mkF m 96 #[.val (.long x0), .second, .val (.long x1), .second, .val (.int x2), .val (.int x3), .val (.int x4), .val (.ref b1), .val (.int (2 : Int32)), .val (.int y9), .val (.int y10), .val (.ref b25), .unset, .unset] [(.ref b25)]) _ _ _
    refine own_go (fun _ => XS.iconst X25.here hx rfl (hb hby at_96)) ?_
    show own_Fin _ _ _ _ T25 (mkF m 97 #[.val (.long x0), .second, .val (.long x1), .second, .val (.int x2), .val (.int x3), .val (.int x4), .val (.ref b1), .val (.int (2 : Int32)), .val (.int y9), .val (.int y10), .val (.ref b25), .unset, .unset] [(.int (0 : Int32)), (.ref b25)]) _ _ _
    refine own_go (fun _ => XS.aload X25.here hx rfl (hb hby at_97) rfl rfl) ?_
    show own_Fin _ _ _ _ T25 (mkF m 99 #[.val (.long x0), .second, .val (.long x1), .second, .val (.int x2), .val (.int x3), .val (.int x4), .val (.ref b1), .val (.int (2 : Int32)), .val (.int y9), .val (.int y10), .val (.ref b25), .unset, .unset] [(.ref b1), (.int (0 : Int32)), (.ref b25)]) _ _ _
    refine own_go (fun _ => XS.iload X25.here hx rfl (hb hby at_99) rfl) ?_
    show own_Fin _ _ _ _ T25 (mkF m 101 #[.val (.long x0), .second, .val (.long x1), .second, .val (.int x2), .val (.int x3), .val (.int x4), .val (.ref b1), .val (.int (2 : Int32)), .val (.int y9), .val (.int y10), .val (.ref b25), .unset, .unset] [(.int y10), (.ref b1), (.int (0 : Int32)), (.ref b25)]) _ _ _
    refine own_go (fun _ => XS.iconst X25.here hx rfl (hb hby at_101)) ?_
    show own_Fin _ _ _ _ T25 (mkF m 102 #[.val (.long x0), .second, .val (.long x1), .second, .val (.int x2), .val (.int x3), .val (.int x4), .val (.ref b1), .val (.int (2 : Int32)), .val (.int y9), .val (.int y10), .val (.ref b25), .unset, .unset] [(.int (0 : Int32)), (.int y10), (.ref b1), (.int (0 : Int32)), (.ref b25)]) _ _ _
    refine own_go (fun _ => XS.iload X25.here hx rfl (hb hby at_102) rfl) ?_
    show own_Fin _ _ _ _ T25 (mkF m 104 #[.val (.long x0), .second, .val (.long x1), .second, .val (.int x2), .val (.int x3), .val (.int x4), .val (.ref b1), .val (.int (2 : Int32)), .val (.int y9), .val (.int y10), .val (.ref b25), .unset, .unset] [(.int x4), (.int (0 : Int32)), (.int y10), (.ref b1), (.int (0 : Int32)), (.ref b25)]) _ _ _
    refine own_go (fun _ => XS.lloadN X25.here hx rfl (hb hby at_104) rfl) ?_
    show own_Fin _ _ _ _ T25 (mkF m 105 #[.val (.long x0), .second, .val (.long x1), .second, .val (.int x2), .val (.int x3), .val (.int x4), .val (.ref b1), .val (.int (2 : Int32)), .val (.int y9), .val (.int y10), .val (.ref b25), .unset, .unset] [(.long x1), (.int x4), (.int (0 : Int32)), (.int y10), (.ref b1), (.int (0 : Int32)), (.ref b25)]) _ _ _
    obtain ⟨_, _, ⟨T26, L26, k26, n26⟩, -, X26, ⟨Lc26, hQ26, l26, y26, z26⟩, st26⟩ := Jvm.LawKit.callS X25 hx (y := (⟨"com/example/jitlens/jitlens/LogTextStartsWithPinLaw", "textByte", "([BIIIJ)B"⟩ : MethodName)) hown (mvT hZ (hw _ (List.mem_of_getElem? (i := 10) rfl))) (mvT hZ (hw _ (List.mem_of_getElem? (i := 11) rfl))) (mvT hZ (hw _ (List.mem_of_getElem? (i := 3) rfl))) (mvT hZ (hw _ (List.mem_of_getElem? (i := 12) rfl))) (by decide) (backOf (W := 2) (rm3 l Z a0 hw [] b1 y10 (0 : Int32) x4 x1 f13 h25 n0 Z25 V25_b1) hZ (hw _ (List.mem_of_getElem? (i := 12) rfl)) (hw _ (List.mem_of_getElem? (i := 3) rfl)) (by decide) (by decide)) (g := (mkF m 105 #[.val (.long x0), .second, .val (.long x1), .second, .val (.int x2), .val (.int x3), .val (.int x4), .val (.ref b1), .val (.int (2 : Int32)), .val (.int y9), .val (.int y10), .val (.ref b25), .unset, .unset] [(.long x1), (.int x4), (.int (0 : Int32)), (.int y10), (.ref b1), (.int (0 : Int32)), (.ref b25)])) rfl (by rw [hml]; rfl) (argsL := [(.ref b1), (.int y10), (.int (0 : Int32)), (.int x4), (.long x1)]) (rest := [(.int (0 : Int32)), (.ref b25)]) (lenOf pd_2 rfl) rfl (by show 2 * 0 + _ ≤ _; exact Nat.le_of_eq rfl) (hb hby at_105) (fun _ _ => ⟨rfl, e25, (by decide : 2 + 0 ≤ _), (by decide : 8 + 0 ≤ _)⟩)
    dsimp only [Pt.U, Pt.locs, Pt.cells, Pt.slots] at X26 l26 y26 z26 st26 hQ26
    subst l26 y26 z26
    obtain ⟨r26, rfl, N26q, e26⟩ := hQ26
    have N26 := Fr.app N13 N26q
    refine own_go st26 ?_
    show own_Fin _ _ _ _ T26 (mkF m 108 #[.val (.long x0), .second, .val (.long x1), .second, .val (.int x2), .val (.int x3), .val (.int x4), .val (.ref b1), .val (.int (2 : Int32)), .val (.int y9), .val (.int y10), .val (.ref b25), .unset, .unset] [(.int r26), (.int (0 : Int32)), (.ref b25)]) _ _ _
    obtain ⟨T27, h27, X27, e27, W27, V27, st27⟩ := own_bst X26 hx hZ e26 V_b25 (j := (0 : Int32)) 0 (by decide) rfl (by decide) (g := (mkF m 108 #[.val (.long x0), .second, .val (.long x1), .second, .val (.int x2), .val (.int x3), .val (.int x4), .val (.ref b1), .val (.int (2 : Int32)), .val (.int y9), .val (.int y10), .val (.ref b25), .unset, .unset] [(.int r26), (.int (0 : Int32)), (.ref b25)])) rfl rfl (hb hby at_108)
    obtain ⟨f27, hf27⟩ : ∃ f, f = own_up (fun _ => 0) 0 (nar .byte r26) := ⟨_, rfl⟩
    rw [← hf27] at V27
    have V27_b1 := (V25_b1).other W27 ne_b1_b25
    have K27 : Keep h0 h27 [] := (K25).wr W27 (Or.inr sz_b25)
    have N27 := Fr.snoc X27 N26 g_b25
    have Z27 : n0 ≤ h27.size := Nat.le_trans Z25 (Keep.of_wr W27).1
    refine own_go st27 ?_
    show own_Fin _ _ _ _ T27 (mkF m 109 #[.val (.long x0), .second, .val (.long x1), .second, .val (.int x2), .val (.int x3), .val (.int x4), .val (.ref b1), .val (.int (2 : Int32)), .val (.int y9), .val (.int y10), .val (.ref b25), .unset, .unset] []) _ _ _
    refine own_go (fun _ => XS.iload X27.here hx rfl (hb hby at_109) rfl) ?_
    show own_Fin _ _ _ _ T27 (mkF m 111 #[.val (.long x0), .second, .val (.long x1), .second, .val (.int x2), .val (.int x3), .val (.int x4), .val (.ref b1), .val (.int (2 : Int32)), .val (.int y9), .val (.int y10), .val (.ref b25), .unset, .unset] [(.int (2 : Int32))]) _ _ _
    refine own_go (fun _ => XS.iconst X27.here hx rfl (hb hby at_111)) ?_
    show own_Fin _ _ _ _ T27 (mkF m 112 #[.val (.long x0), .second, .val (.long x1), .second, .val (.int x2), .val (.int x3), .val (.int x4), .val (.ref b1), .val (.int (2 : Int32)), .val (.int y9), .val (.int y10), .val (.ref b25), .unset, .unset] [(.int (1 : Int32)), (.int (2 : Int32))]) _ _ _
    refine own_go (fun _ => XS.icmpNo X27.here hx rfl (hb hby at_112) rfl (tlt (show (1 : Int32) < (2 : Int32) from (by decide))).2.2.2) ?_
    show own_Fin _ _ _ _ T27 (mkF m 115 #[.val (.long x0), .second, .val (.long x1), .second, .val (.int x2), .val (.int x3), .val (.int x4), .val (.ref b1), .val (.int (2 : Int32)), .val (.int y9), .val (.int y10), .val (.ref b25), .unset, .unset] []) _ _ _
    refine own_go (fun _ => XS.aload X27.here hx rfl (hb hby at_115) rfl rfl) ?_
    show own_Fin _ _ _ _ T27 (mkF m 117 #[.val (.long x0), .second, .val (.long x1), .second, .val (.int x2), .val (.int x3), .val (.int x4), .val (.ref b1), .val (.int (2 : Int32)), .val (.int y9), .val (.int y10), .val (.ref b25), .unset, .unset] [(.ref b25)]) _ _ _
    refine own_go (fun _ => XS.iconst X27.here hx rfl (hb hby at_117)) ?_
    show own_Fin _ _ _ _ T27 (mkF m 118 #[.val (.long x0), .second, .val (.long x1), .second, .val (.int x2), .val (.int x3), .val (.int x4), .val (.ref b1), .val (.int (2 : Int32)), .val (.int y9), .val (.int y10), .val (.ref b25), .unset, .unset] [(.int (1 : Int32)), (.ref b25)]) _ _ _
    refine own_go (fun _ => XS.aload X27.here hx rfl (hb hby at_118) rfl rfl) ?_
    show own_Fin _ _ _ _ T27 (mkF m 120 #[.val (.long x0), .second, .val (.long x1), .second, .val (.int x2), .val (.int x3), .val (.int x4), .val (.ref b1), .val (.int (2 : Int32)), .val (.int y9), .val (.int y10), .val (.ref b25), .unset, .unset] [(.ref b1), (.int (1 : Int32)), (.ref b25)]) _ _ _
    refine own_go (fun _ => XS.iload X27.here hx rfl (hb hby at_120) rfl) ?_
    show own_Fin _ _ _ _ T27 (mkF m 122 #[.val (.long x0), .second, .val (.long x1), .second, .val (.int x2), .val (.int x3), .val (.int x4), .val (.ref b1), .val (.int (2 : Int32)), .val (.int y9), .val (.int y10), .val (.ref b25), .unset, .unset] [(.int y10), (.ref b1), (.int (1 : Int32)), (.ref b25)]) _ _ _
    refine own_go (fun _ => XS.iconst X27.here hx rfl (hb hby at_122)) ?_
    show own_Fin _ _ _ _ T27 (mkF m 123 #[.val (.long x0), .second, .val (.long x1), .second, .val (.int x2), .val (.int x3), .val (.int x4), .val (.ref b1), .val (.int (2 : Int32)), .val (.int y9), .val (.int y10), .val (.ref b25), .unset, .unset] [(.int (1 : Int32)), (.int y10), (.ref b1), (.int (1 : Int32)), (.ref b25)]) _ _ _
    refine own_go (fun _ => XS.iload X27.here hx rfl (hb hby at_123) rfl) ?_
    show own_Fin _ _ _ _ T27 (mkF m 125 #[.val (.long x0), .second, .val (.long x1), .second, .val (.int x2), .val (.int x3), .val (.int x4), .val (.ref b1), .val (.int (2 : Int32)), .val (.int y9), .val (.int y10), .val (.ref b25), .unset, .unset] [(.int x4), (.int (1 : Int32)), (.int y10), (.ref b1), (.int (1 : Int32)), (.ref b25)]) _ _ _
    refine own_go (fun _ => XS.lloadN X27.here hx rfl (hb hby at_125) rfl) ?_
    show own_Fin _ _ _ _ T27 (mkF m 126 #[.val (.long x0), .second, .val (.long x1), .second, .val (.int x2), .val (.int x3), .val (.int x4), .val (.ref b1), .val (.int (2 : Int32)), .val (.int y9), .val (.int y10), .val (.ref b25), .unset, .unset] [(.long x1), (.int x4), (.int (1 : Int32)), (.int y10), (.ref b1), (.int (1 : Int32)), (.ref b25)]) _ _ _
    obtain ⟨_, _, ⟨T28, L28, k28, n28⟩, -, X28, ⟨Lc28, hQ28, l28, y28, z28⟩, st28⟩ := Jvm.LawKit.callS X27 hx (y := (⟨"com/example/jitlens/jitlens/LogTextStartsWithPinLaw", "textByte", "([BIIIJ)B"⟩ : MethodName)) hown (mvT hZ (hw _ (List.mem_of_getElem? (i := 10) rfl))) (mvT hZ (hw _ (List.mem_of_getElem? (i := 11) rfl))) (mvT hZ (hw _ (List.mem_of_getElem? (i := 3) rfl))) (mvT hZ (hw _ (List.mem_of_getElem? (i := 12) rfl))) (by decide) (backOf (W := 2) (rm3 l Z a0 hw [] b1 y10 (1 : Int32) x4 x1 f13 h27 n0 Z27 V27_b1) hZ (hw _ (List.mem_of_getElem? (i := 12) rfl)) (hw _ (List.mem_of_getElem? (i := 3) rfl)) (by decide) (by decide)) (g := (mkF m 126 #[.val (.long x0), .second, .val (.long x1), .second, .val (.int x2), .val (.int x3), .val (.int x4), .val (.ref b1), .val (.int (2 : Int32)), .val (.int y9), .val (.int y10), .val (.ref b25), .unset, .unset] [(.long x1), (.int x4), (.int (1 : Int32)), (.int y10), (.ref b1), (.int (1 : Int32)), (.ref b25)])) rfl (by rw [hml]; rfl) (argsL := [(.ref b1), (.int y10), (.int (1 : Int32)), (.int x4), (.long x1)]) (rest := [(.int (1 : Int32)), (.ref b25)]) (lenOf pd_2 rfl) rfl (by show 2 * 0 + _ ≤ _; exact Nat.le_of_eq rfl) (hb hby at_126) (fun _ _ => ⟨rfl, e27, (by decide : 2 + 0 ≤ _), (by decide : 8 + 0 ≤ _)⟩)
    dsimp only [Pt.U, Pt.locs, Pt.cells, Pt.slots] at X28 l28 y28 z28 st28 hQ28
    subst l28 y28 z28
    obtain ⟨r28, rfl, N28q, e28⟩ := hQ28
    have N28 := Fr.app N27 N28q
    refine own_go st28 ?_
    show own_Fin _ _ _ _ T28 (mkF m 129 #[.val (.long x0), .second, .val (.long x1), .second, .val (.int x2), .val (.int x3), .val (.int x4), .val (.ref b1), .val (.int (2 : Int32)), .val (.int y9), .val (.int y10), .val (.ref b25), .unset, .unset] [(.int r28), (.int (1 : Int32)), (.ref b25)]) _ _ _
    obtain ⟨T29, h29, X29, e29, W29, V29, st29⟩ := own_bst X28 hx hZ e28 V27 (j := (1 : Int32)) 1 (by decide) rfl (by decide) (g := (mkF m 129 #[.val (.long x0), .second, .val (.long x1), .second, .val (.int x2), .val (.int x3), .val (.int x4), .val (.ref b1), .val (.int (2 : Int32)), .val (.int y9), .val (.int y10), .val (.ref b25), .unset, .unset] [(.int r28), (.int (1 : Int32)), (.ref b25)])) rfl rfl (hb hby at_129)
    obtain ⟨f29, hf29⟩ : ∃ f, f = own_up f27 1 (nar .byte r28) := ⟨_, rfl⟩
    rw [← hf29] at V29
    have V29_b1 := (V27_b1).other W29 ne_b1_b25
    have K29 : Keep h0 h29 [] := (K27).wr W29 (Or.inr sz_b25)
    have N29 := Fr.snoc X29 N28 g_b25
    have Z29 : n0 ≤ h29.size := Nat.le_trans Z27 (Keep.of_wr W29).1
    refine own_go st29 ?_
    show own_Fin _ _ _ _ T29 (mkF m 130 #[.val (.long x0), .second, .val (.long x1), .second, .val (.int x2), .val (.int x3), .val (.int x4), .val (.ref b1), .val (.int (2 : Int32)), .val (.int y9), .val (.int y10), .val (.ref b25), .unset, .unset] []) _ _ _
    refine own_go (fun _ => XS.iload X29.here hx rfl (hb hby at_130) rfl) ?_
    show own_Fin _ _ _ _ T29 (mkF m 132 #[.val (.long x0), .second, .val (.long x1), .second, .val (.int x2), .val (.int x3), .val (.int x4), .val (.ref b1), .val (.int (2 : Int32)), .val (.int y9), .val (.int y10), .val (.ref b25), .unset, .unset] [(.int (2 : Int32))]) _ _ _
    refine own_go (fun _ => XS.iconst X29.here hx rfl (hb hby at_132)) ?_
    show own_Fin _ _ _ _ T29 (mkF m 133 #[.val (.long x0), .second, .val (.long x1), .second, .val (.int x2), .val (.int x3), .val (.int x4), .val (.ref b1), .val (.int (2 : Int32)), .val (.int y9), .val (.int y10), .val (.ref b25), .unset, .unset] [(.int (2 : Int32)), (.int (2 : Int32))]) _ _ _
    refine own_go (fun _ => XS.icmpYes X29.here hx rfl (pc0 := 133) (pc' := 151) rfl (hb hby at_133) rfl (flt (show ¬ ((2 : Int32) < (2 : Int32)) from (by decide))).2.2.2 (by decide) (by decide)) ?_
    show own_Fin _ _ _ _ T29 (mkF m 151 #[.val (.long x0), .second, .val (.long x1), .second, .val (.int x2), .val (.int x3), .val (.int x4), .val (.ref b1), .val (.int (2 : Int32)), .val (.int y9), .val (.int y10), .val (.ref b25), .unset, .unset] []) _ _ _
    refine own_go (fun _ => XS.iload X29.here hx rfl (hb hby at_151) rfl) ?_
    show own_Fin _ _ _ _ T29 (mkF m 153 #[.val (.long x0), .second, .val (.long x1), .second, .val (.int x2), .val (.int x3), .val (.int x4), .val (.ref b1), .val (.int (2 : Int32)), .val (.int y9), .val (.int y10), .val (.ref b25), .unset, .unset] [(.int y10)]) _ _ _
    by_cases h153 : y10 < (0 : Int32)
    · refine own_go (fun _ => XS.ifYes X29.here hx rfl (pc0 := 153) (pc' := 228) rfl (hb hby at_153) rfl ((if0 _ _).trans (tlt h153).1) (by decide) (by decide)) ?_
      show own_Fin _ _ _ _ T29 (mkF m 228 #[.val (.long x0), .second, .val (.long x1), .second, .val (.int x2), .val (.int x3), .val (.int x4), .val (.ref b1), .val (.int (2 : Int32)), .val (.int y9), .val (.int y10), .val (.ref b25), .unset, .unset] []) _ _ _
      refine own_go (fun _ => XS.iconst X29.here hx rfl (hb hby at_228)) ?_
      show own_Fin _ _ _ _ T29 (mkF m 229 #[.val (.long x0), .second, .val (.long x1), .second, .val (.int x2), .val (.int x3), .val (.int x4), .val (.ref b1), .val (.int (2 : Int32)), .val (.int y9), .val (.int y10), .val (.ref b25), .unset, .unset] [(.int (0 : Int32))]) _ _ _
      refine own_go (fun _ => XS.istore X29.here hx rfl (hb hby at_229) rfl (l' := #[.val (.long x0), .second, .val (.long x1), .second, .val (.int x2), .val (.int x3), .val (.int x4), .val (.ref b1), .val (.int (2 : Int32)), .val (.int y9), .val (.int y10), .val (.ref b25), .val (.int (0 : Int32)), .unset]) rfl) ?_
      show own_Fin _ _ _ _ T29 (mkF m 231 #[.val (.long x0), .second, .val (.long x1), .second, .val (.int x2), .val (.int x3), .val (.int x4), .val (.ref b1), .val (.int (2 : Int32)), .val (.int y9), .val (.int y10), .val (.ref b25), .val (.int (0 : Int32)), .unset] []) _ _ _
      refine own_go (fun _ => XS.aload X29.here hx rfl (hb hby at_231) rfl rfl) ?_
      show own_Fin _ _ _ _ T29 (mkF m 233 #[.val (.long x0), .second, .val (.long x1), .second, .val (.int x2), .val (.int x3), .val (.int x4), .val (.ref b1), .val (.int (2 : Int32)), .val (.int y9), .val (.int y10), .val (.ref b25), .val (.int (0 : Int32)), .unset] [(.ref b1)]) _ _ _
      refine own_go (fun _ => XS.iload X29.here hx rfl (hb hby at_233) rfl) ?_
      show own_Fin _ _ _ _ T29 (mkF m 235 #[.val (.long x0), .second, .val (.long x1), .second, .val (.int x2), .val (.int x3), .val (.int x4), .val (.ref b1), .val (.int (2 : Int32)), .val (.int y9), .val (.int y10), .val (.ref b25), .val (.int (0 : Int32)), .unset] [(.int y10), (.ref b1)]) _ _ _
      refine own_go (fun _ => XS.iload X29.here hx rfl (hb hby at_235) rfl) ?_
      show own_Fin _ _ _ _ T29 (mkF m 237 #[.val (.long x0), .second, .val (.long x1), .second, .val (.int x2), .val (.int x3), .val (.int x4), .val (.ref b1), .val (.int (2 : Int32)), .val (.int y9), .val (.int y10), .val (.ref b25), .val (.int (0 : Int32)), .unset] [(.int y9), (.int y10), (.ref b1)]) _ _ _
      refine own_go (fun _ => XS.aload X29.here hx rfl (hb hby at_237) rfl rfl) ?_
      show own_Fin _ _ _ _ T29 (mkF m 239 #[.val (.long x0), .second, .val (.long x1), .second, .val (.int x2), .val (.int x3), .val (.int x4), .val (.ref b1), .val (.int (2 : Int32)), .val (.int y9), .val (.int y10), .val (.ref b25), .val (.int (0 : Int32)), .unset] [(.ref b25), (.int y9), (.int y10), (.ref b1)]) _ _ _
      obtain ⟨_, _, ⟨T30, L30, k30, n30⟩, -, X30, ⟨Lc30, hQ30, l30, y30, z30⟩, st30⟩ := Jvm.LawKit.callS X29 hx (y := (⟨"com/example/jitlens/jitlens/LogText", "startsWith", "([BII[B)Z"⟩ : MethodName)) hown (mvT hZ (hw _ (List.mem_of_getElem? (i := 6) rfl))) (mvT hZ (hw _ (List.mem_of_getElem? (i := 7) rfl))) (mvT hZ (hw _ (List.mem_of_getElem? (i := 8) rfl))) (mvT hZ (hw _ (List.mem_of_getElem? (i := 9) rfl))) (by decide) (backOf (W := 0) (rm2_2 l Z a0 hw [] b1 y10 y9 b25 f13 f29 h29 n0 Z29 V29_b1 V29 hat hto) hZ (hw _ (List.mem_of_getElem? (i := 9) rfl)) (hw _ (List.mem_of_getElem? (i := 8) rfl)) (by decide) (by decide)) (g := (mkF m 239 #[.val (.long x0), .second, .val (.long x1), .second, .val (.int x2), .val (.int x3), .val (.int x4), .val (.ref b1), .val (.int (2 : Int32)), .val (.int y9), .val (.int y10), .val (.ref b25), .val (.int (0 : Int32)), .unset] [(.ref b25), (.int y9), (.int y10), (.ref b1)])) rfl (by rw [hml]; rfl) (argsL := [(.ref b1), (.int y10), (.int y9), (.ref b25)]) (rest := []) (lenOf pd_1 rfl) rfl (by show 2 * 0 + _ ≤ _; exact Nat.le_of_eq rfl) (hb hby at_239) (fun _ _ => ⟨rfl, e29, (by decide : 2 + 0 ≤ _), (by decide : 8 + 0 ≤ _)⟩)
      dsimp only [Pt.U, Pt.locs, Pt.cells, Pt.slots] at X30 l30 y30 z30 st30 hQ30
      subst l30 y30 z30
      obtain ⟨rfl, N30q, e30⟩ := hQ30
      have N30 := Fr.app N29 N30q
      refine own_go st30 ?_
      show own_Fin _ _ _ _ T30 (mkF m 242 #[.val (.long x0), .second, .val (.long x1), .second, .val (.int x2), .val (.int x3), .val (.int x4), .val (.ref b1), .val (.int (2 : Int32)), .val (.int y9), .val (.int y10), .val (.ref b25), .val (.int (0 : Int32)), .unset] [(.int (own_sw2 y10 y9 f13 f29))]) _ _ _
      refine own_go (fun _ => XS.istore X30.here hx rfl (hb hby at_242) rfl (l' := #[.val (.long x0), .second, .val (.long x1), .second, .val (.int x2), .val (.int x3), .val (.int x4), .val (.ref b1), .val (.int (2 : Int32)), .val (.int y9), .val (.int y10), .val (.ref b25), .val (.int (0 : Int32)), .val (.int (own_sw2 y10 y9 f13 f29))]) rfl) ?_
      show own_Fin _ _ _ _ T30 (mkF m 244 #[.val (.long x0), .second, .val (.long x1), .second, .val (.int x2), .val (.int x3), .val (.int x4), .val (.ref b1), .val (.int (2 : Int32)), .val (.int y9), .val (.int y10), .val (.ref b25), .val (.int (0 : Int32)), .val (.int (own_sw2 y10 y9 f13 f29))] []) _ _ _
      refine own_go (fun _ => XS.iload X30.here hx rfl (hb hby at_244) rfl) ?_
      show own_Fin _ _ _ _ T30 (mkF m 246 #[.val (.long x0), .second, .val (.long x1), .second, .val (.int x2), .val (.int x3), .val (.int x4), .val (.ref b1), .val (.int (2 : Int32)), .val (.int y9), .val (.int y10), .val (.ref b25), .val (.int (0 : Int32)), .val (.int (own_sw2 y10 y9 f13 f29))] [(.int (own_sw2 y10 y9 f13 f29))]) _ _ _
      refine own_go (fun _ => XS.iload X30.here hx rfl (hb hby at_246) rfl) ?_
      show own_Fin _ _ _ _ T30 (mkF m 248 #[.val (.long x0), .second, .val (.long x1), .second, .val (.int x2), .val (.int x3), .val (.int x4), .val (.ref b1), .val (.int (2 : Int32)), .val (.int y9), .val (.int y10), .val (.ref b25), .val (.int (0 : Int32)), .val (.int (own_sw2 y10 y9 f13 f29))] [(.int (0 : Int32)), (.int (own_sw2 y10 y9 f13 f29))]) _ _ _
      refine own_go (fun _ => XS.icmpNo X30.here hx rfl (hb hby at_248) rfl (teq (show (own_sw2 y10 y9 f13 f29) = (0 : Int32) from by simp only [own_sw2, if_pos h153])).2) ?_
      show own_Fin _ _ _ _ T30 (mkF m 251 #[.val (.long x0), .second, .val (.long x1), .second, .val (.int x2), .val (.int x3), .val (.int x4), .val (.ref b1), .val (.int (2 : Int32)), .val (.int y9), .val (.int y10), .val (.ref b25), .val (.int (0 : Int32)), .val (.int (own_sw2 y10 y9 f13 f29))] []) _ _ _
      refine own_go (fun _ => XS.iconst X30.here hx rfl (hb hby at_251)) ?_
      show own_Fin _ _ _ _ T30 (mkF m 252 #[.val (.long x0), .second, .val (.long x1), .second, .val (.int x2), .val (.int x3), .val (.int x4), .val (.ref b1), .val (.int (2 : Int32)), .val (.int y9), .val (.int y10), .val (.ref b25), .val (.int (0 : Int32)), .val (.int (own_sw2 y10 y9 f13 f29))] [(.int (1 : Int32))]) _ _ _
      refine own_go (fun _ => XS.goto X30.here hx rfl (pc0 := 252) (pc' := 256) rfl (hb hby at_252) (by decide) (by decide)) ?_
      show own_Fin _ _ _ _ T30 (mkF m 256 #[.val (.long x0), .second, .val (.long x1), .second, .val (.int x2), .val (.int x3), .val (.int x4), .val (.ref b1), .val (.int (2 : Int32)), .val (.int y9), .val (.int y10), .val (.ref b25), .val (.int (0 : Int32)), .val (.int (own_sw2 y10 y9 f13 f29))] [(.int (1 : Int32))]) _ _ _
      exact own_retZ X30 hx hnl (t := .boolean) hret (by simp) (hb hby at_256) (by decide) (by decide) ⟨rfl, N30⟩
    · refine own_go (fun _ => XS.ifNo X29.here hx rfl (hb hby at_153) rfl ((if0 _ _).trans (flt h153).1)) ?_
      show own_Fin _ _ _ _ T29 (mkF m 156 #[.val (.long x0), .second, .val (.long x1), .second, .val (.int x2), .val (.int x3), .val (.int x4), .val (.ref b1), .val (.int (2 : Int32)), .val (.int y9), .val (.int y10), .val (.ref b25), .unset, .unset] []) _ _ _
      refine own_go (fun _ => XS.iload X29.here hx rfl (hb hby at_156) rfl) ?_
      show own_Fin _ _ _ _ T29 (mkF m 158 #[.val (.long x0), .second, .val (.long x1), .second, .val (.int x2), .val (.int x3), .val (.int x4), .val (.ref b1), .val (.int (2 : Int32)), .val (.int y9), .val (.int y10), .val (.ref b25), .unset, .unset] [(.int y10)]) _ _ _
      refine own_go (fun _ => XS.iload X29.here hx rfl (hb hby at_158) rfl) ?_
      show own_Fin _ _ _ _ T29 (mkF m 160 #[.val (.long x0), .second, .val (.long x1), .second, .val (.int x2), .val (.int x3), .val (.int x4), .val (.ref b1), .val (.int (2 : Int32)), .val (.int y9), .val (.int y10), .val (.ref b25), .unset, .unset] [(.int (2 : Int32)), (.int y10)]) _ _ _
      refine own_go (fun _ => XS.iadd X29.here hx rfl (hb hby at_160) rfl) ?_
      show own_Fin _ _ _ _ T29 (mkF m 161 #[.val (.long x0), .second, .val (.long x1), .second, .val (.int x2), .val (.int x3), .val (.int x4), .val (.ref b1), .val (.int (2 : Int32)), .val (.int y9), .val (.int y10), .val (.ref b25), .unset, .unset] [(.int (y10 + (2 : Int32)))]) _ _ _
      refine own_go (fun _ => XS.iload X29.here hx rfl (hb hby at_161) rfl) ?_
      show own_Fin _ _ _ _ T29 (mkF m 163 #[.val (.long x0), .second, .val (.long x1), .second, .val (.int x2), .val (.int x3), .val (.int x4), .val (.ref b1), .val (.int (2 : Int32)), .val (.int y9), .val (.int y10), .val (.ref b25), .unset, .unset] [(.int y9), (.int (y10 + (2 : Int32)))]) _ _ _
      by_cases h163 : y9 < (y10 + (2 : Int32))
      · refine own_go (fun _ => XS.icmpYes X29.here hx rfl (pc0 := 163) (pc' := 228) rfl (hb hby at_163) rfl (tlt h163).2.2.1 (by decide) (by decide)) ?_
        show own_Fin _ _ _ _ T29 (mkF m 228 #[.val (.long x0), .second, .val (.long x1), .second, .val (.int x2), .val (.int x3), .val (.int x4), .val (.ref b1), .val (.int (2 : Int32)), .val (.int y9), .val (.int y10), .val (.ref b25), .unset, .unset] []) _ _ _
        refine own_go (fun _ => XS.iconst X29.here hx rfl (hb hby at_228)) ?_
        show own_Fin _ _ _ _ T29 (mkF m 229 #[.val (.long x0), .second, .val (.long x1), .second, .val (.int x2), .val (.int x3), .val (.int x4), .val (.ref b1), .val (.int (2 : Int32)), .val (.int y9), .val (.int y10), .val (.ref b25), .unset, .unset] [(.int (0 : Int32))]) _ _ _
        refine own_go (fun _ => XS.istore X29.here hx rfl (hb hby at_229) rfl (l' := #[.val (.long x0), .second, .val (.long x1), .second, .val (.int x2), .val (.int x3), .val (.int x4), .val (.ref b1), .val (.int (2 : Int32)), .val (.int y9), .val (.int y10), .val (.ref b25), .val (.int (0 : Int32)), .unset]) rfl) ?_
        show own_Fin _ _ _ _ T29 (mkF m 231 #[.val (.long x0), .second, .val (.long x1), .second, .val (.int x2), .val (.int x3), .val (.int x4), .val (.ref b1), .val (.int (2 : Int32)), .val (.int y9), .val (.int y10), .val (.ref b25), .val (.int (0 : Int32)), .unset] []) _ _ _
        refine own_go (fun _ => XS.aload X29.here hx rfl (hb hby at_231) rfl rfl) ?_
        show own_Fin _ _ _ _ T29 (mkF m 233 #[.val (.long x0), .second, .val (.long x1), .second, .val (.int x2), .val (.int x3), .val (.int x4), .val (.ref b1), .val (.int (2 : Int32)), .val (.int y9), .val (.int y10), .val (.ref b25), .val (.int (0 : Int32)), .unset] [(.ref b1)]) _ _ _
        refine own_go (fun _ => XS.iload X29.here hx rfl (hb hby at_233) rfl) ?_
        show own_Fin _ _ _ _ T29 (mkF m 235 #[.val (.long x0), .second, .val (.long x1), .second, .val (.int x2), .val (.int x3), .val (.int x4), .val (.ref b1), .val (.int (2 : Int32)), .val (.int y9), .val (.int y10), .val (.ref b25), .val (.int (0 : Int32)), .unset] [(.int y10), (.ref b1)]) _ _ _
        refine own_go (fun _ => XS.iload X29.here hx rfl (hb hby at_235) rfl) ?_
        show own_Fin _ _ _ _ T29 (mkF m 237 #[.val (.long x0), .second, .val (.long x1), .second, .val (.int x2), .val (.int x3), .val (.int x4), .val (.ref b1), .val (.int (2 : Int32)), .val (.int y9), .val (.int y10), .val (.ref b25), .val (.int (0 : Int32)), .unset] [(.int y9), (.int y10), (.ref b1)]) _ _ _
        refine own_go (fun _ => XS.aload X29.here hx rfl (hb hby at_237) rfl rfl) ?_
        show own_Fin _ _ _ _ T29 (mkF m 239 #[.val (.long x0), .second, .val (.long x1), .second, .val (.int x2), .val (.int x3), .val (.int x4), .val (.ref b1), .val (.int (2 : Int32)), .val (.int y9), .val (.int y10), .val (.ref b25), .val (.int (0 : Int32)), .unset] [(.ref b25), (.int y9), (.int y10), (.ref b1)]) _ _ _
        obtain ⟨_, _, ⟨T31, L31, k31, n31⟩, -, X31, ⟨Lc31, hQ31, l31, y31, z31⟩, st31⟩ := Jvm.LawKit.callS X29 hx (y := (⟨"com/example/jitlens/jitlens/LogText", "startsWith", "([BII[B)Z"⟩ : MethodName)) hown (mvT hZ (hw _ (List.mem_of_getElem? (i := 6) rfl))) (mvT hZ (hw _ (List.mem_of_getElem? (i := 7) rfl))) (mvT hZ (hw _ (List.mem_of_getElem? (i := 8) rfl))) (mvT hZ (hw _ (List.mem_of_getElem? (i := 9) rfl))) (by decide) (backOf (W := 0) (rm2_2 l Z a0 hw [] b1 y10 y9 b25 f13 f29 h29 n0 Z29 V29_b1 V29 hat hto) hZ (hw _ (List.mem_of_getElem? (i := 9) rfl)) (hw _ (List.mem_of_getElem? (i := 8) rfl)) (by decide) (by decide)) (g := (mkF m 239 #[.val (.long x0), .second, .val (.long x1), .second, .val (.int x2), .val (.int x3), .val (.int x4), .val (.ref b1), .val (.int (2 : Int32)), .val (.int y9), .val (.int y10), .val (.ref b25), .val (.int (0 : Int32)), .unset] [(.ref b25), (.int y9), (.int y10), (.ref b1)])) rfl (by rw [hml]; rfl) (argsL := [(.ref b1), (.int y10), (.int y9), (.ref b25)]) (rest := []) (lenOf pd_1 rfl) rfl (by show 2 * 0 + _ ≤ _; exact Nat.le_of_eq rfl) (hb hby at_239) (fun _ _ => ⟨rfl, e29, (by decide : 2 + 0 ≤ _), (by decide : 8 + 0 ≤ _)⟩)
        dsimp only [Pt.U, Pt.locs, Pt.cells, Pt.slots] at X31 l31 y31 z31 st31 hQ31
        subst l31 y31 z31
        obtain ⟨rfl, N31q, e31⟩ := hQ31
        have N31 := Fr.app N29 N31q
        refine own_go st31 ?_
        show own_Fin _ _ _ _ T31 (mkF m 242 #[.val (.long x0), .second, .val (.long x1), .second, .val (.int x2), .val (.int x3), .val (.int x4), .val (.ref b1), .val (.int (2 : Int32)), .val (.int y9), .val (.int y10), .val (.ref b25), .val (.int (0 : Int32)), .unset] [(.int (own_sw2 y10 y9 f13 f29))]) _ _ _
        refine own_go (fun _ => XS.istore X31.here hx rfl (hb hby at_242) rfl (l' := #[.val (.long x0), .second, .val (.long x1), .second, .val (.int x2), .val (.int x3), .val (.int x4), .val (.ref b1), .val (.int (2 : Int32)), .val (.int y9), .val (.int y10), .val (.ref b25), .val (.int (0 : Int32)), .val (.int (own_sw2 y10 y9 f13 f29))]) rfl) ?_
        show own_Fin _ _ _ _ T31 (mkF m 244 #[.val (.long x0), .second, .val (.long x1), .second, .val (.int x2), .val (.int x3), .val (.int x4), .val (.ref b1), .val (.int (2 : Int32)), .val (.int y9), .val (.int y10), .val (.ref b25), .val (.int (0 : Int32)), .val (.int (own_sw2 y10 y9 f13 f29))] []) _ _ _
        refine own_go (fun _ => XS.iload X31.here hx rfl (hb hby at_244) rfl) ?_
        show own_Fin _ _ _ _ T31 (mkF m 246 #[.val (.long x0), .second, .val (.long x1), .second, .val (.int x2), .val (.int x3), .val (.int x4), .val (.ref b1), .val (.int (2 : Int32)), .val (.int y9), .val (.int y10), .val (.ref b25), .val (.int (0 : Int32)), .val (.int (own_sw2 y10 y9 f13 f29))] [(.int (own_sw2 y10 y9 f13 f29))]) _ _ _
        refine own_go (fun _ => XS.iload X31.here hx rfl (hb hby at_246) rfl) ?_
        show own_Fin _ _ _ _ T31 (mkF m 248 #[.val (.long x0), .second, .val (.long x1), .second, .val (.int x2), .val (.int x3), .val (.int x4), .val (.ref b1), .val (.int (2 : Int32)), .val (.int y9), .val (.int y10), .val (.ref b25), .val (.int (0 : Int32)), .val (.int (own_sw2 y10 y9 f13 f29))] [(.int (0 : Int32)), (.int (own_sw2 y10 y9 f13 f29))]) _ _ _
        refine own_go (fun _ => XS.icmpNo X31.here hx rfl (hb hby at_248) rfl (teq (show (own_sw2 y10 y9 f13 f29) = (0 : Int32) from by simp only [own_sw2, if_neg h153, if_pos h163])).2) ?_
        show own_Fin _ _ _ _ T31 (mkF m 251 #[.val (.long x0), .second, .val (.long x1), .second, .val (.int x2), .val (.int x3), .val (.int x4), .val (.ref b1), .val (.int (2 : Int32)), .val (.int y9), .val (.int y10), .val (.ref b25), .val (.int (0 : Int32)), .val (.int (own_sw2 y10 y9 f13 f29))] []) _ _ _
        refine own_go (fun _ => XS.iconst X31.here hx rfl (hb hby at_251)) ?_
        show own_Fin _ _ _ _ T31 (mkF m 252 #[.val (.long x0), .second, .val (.long x1), .second, .val (.int x2), .val (.int x3), .val (.int x4), .val (.ref b1), .val (.int (2 : Int32)), .val (.int y9), .val (.int y10), .val (.ref b25), .val (.int (0 : Int32)), .val (.int (own_sw2 y10 y9 f13 f29))] [(.int (1 : Int32))]) _ _ _
        refine own_go (fun _ => XS.goto X31.here hx rfl (pc0 := 252) (pc' := 256) rfl (hb hby at_252) (by decide) (by decide)) ?_
        show own_Fin _ _ _ _ T31 (mkF m 256 #[.val (.long x0), .second, .val (.long x1), .second, .val (.int x2), .val (.int x3), .val (.int x4), .val (.ref b1), .val (.int (2 : Int32)), .val (.int y9), .val (.int y10), .val (.ref b25), .val (.int (0 : Int32)), .val (.int (own_sw2 y10 y9 f13 f29))] [(.int (1 : Int32))]) _ _ _
        exact own_retZ X31 hx hnl (t := .boolean) hret (by simp) (hb hby at_256) (by decide) (by decide) ⟨rfl, N31⟩
      · refine own_go (fun _ => XS.icmpNo X29.here hx rfl (hb hby at_163) rfl (flt h163).2.2.1) ?_
        show own_Fin _ _ _ _ T29 (mkF m 166 #[.val (.long x0), .second, .val (.long x1), .second, .val (.int x2), .val (.int x3), .val (.int x4), .val (.ref b1), .val (.int (2 : Int32)), .val (.int y9), .val (.int y10), .val (.ref b25), .unset, .unset] []) _ _ _
        refine own_go (fun _ => XS.iload X29.here hx rfl (hb hby at_166) rfl) ?_
        show own_Fin _ _ _ _ T29 (mkF m 168 #[.val (.long x0), .second, .val (.long x1), .second, .val (.int x2), .val (.int x3), .val (.int x4), .val (.ref b1), .val (.int (2 : Int32)), .val (.int y9), .val (.int y10), .val (.ref b25), .unset, .unset] [(.int (2 : Int32))]) _ _ _
        refine own_go (fun _ => XS.iconst X29.here hx rfl (hb hby at_168)) ?_
        show own_Fin _ _ _ _ T29 (mkF m 169 #[.val (.long x0), .second, .val (.long x1), .second, .val (.int x2), .val (.int x3), .val (.int x4), .val (.ref b1), .val (.int (2 : Int32)), .val (.int y9), .val (.int y10), .val (.ref b25), .unset, .unset] [(.int (1 : Int32)), (.int (2 : Int32))]) _ _ _
        refine own_go (fun _ => XS.icmpNo X29.here hx rfl (hb hby at_169) rfl (flt (show ¬ ((2 : Int32) < (1 : Int32)) from (by decide))).1) ?_
        show own_Fin _ _ _ _ T29 (mkF m 172 #[.val (.long x0), .second, .val (.long x1), .second, .val (.int x2), .val (.int x3), .val (.int x4), .val (.ref b1), .val (.int (2 : Int32)), .val (.int y9), .val (.int y10), .val (.ref b25), .unset, .unset] []) _ _ _
        refine own_go (fun _ => XS.aload X29.here hx rfl (hb hby at_172) rfl rfl) ?_
        show own_Fin _ _ _ _ T29 (mkF m 174 #[.val (.long x0), .second, .val (.long x1), .second, .val (.int x2), .val (.int x3), .val (.int x4), .val (.ref b1), .val (.int (2 : Int32)), .val (.int y9), .val (.int y10), .val (.ref b25), .unset, .unset] [(.ref b1)]) _ _ _
        refine own_go (fun _ => XS.iload X29.here hx rfl (hb hby at_174) rfl) ?_
        show own_Fin _ _ _ _ T29 (mkF m 176 #[.val (.long x0), .second, .val (.long x1), .second, .val (.int x2), .val (.int x3), .val (.int x4), .val (.ref b1), .val (.int (2 : Int32)), .val (.int y9), .val (.int y10), .val (.ref b25), .unset, .unset] [(.int y10), (.ref b1)]) _ _ _
        refine own_go (own_bld X29 hx hZ e29 V29_b1 (j := y10) y10.toNatClampNeg h153 rfl (by have := (own_ix (i := 0) (N := 2) h153 hat h163 hto (by decide)).2; rwa [Int32.add_zero] at this) rfl rfl (hb hby at_176)) ?_
        show own_Fin _ _ _ _ T29 (mkF m 177 #[.val (.long x0), .second, .val (.long x1), .second, .val (.int x2), .val (.int x3), .val (.int x4), .val (.ref b1), .val (.int (2 : Int32)), .val (.int y9), .val (.int y10), .val (.ref b25), .unset, .unset] [(.int (f13 y10.toNatClampNeg))]) _ _ _
        refine own_go (fun _ => XS.aload X29.here hx rfl (hb hby at_177) rfl rfl) ?_
        show own_Fin _ _ _ _ T29 (mkF m 179 #[.val (.long x0), .second, .val (.long x1), .second, .val (.int x2), .val (.int x3), .val (.int x4), .val (.ref b1), .val (.int (2 : Int32)), .val (.int y9), .val (.int y10), .val (.ref b25), .unset, .unset] [(.ref b25), (.int (f13 y10.toNatClampNeg))]) _ _ _
        refine own_go (fun _ => XS.iconst X29.here hx rfl (hb hby at_179)) ?_
        show own_Fin _ _ _ _ T29 (mkF m 180 #[.val (.long x0), .second, .val (.long x1), .second, .val (.int x2), .val (.int x3), .val (.int x4), .val (.ref b1), .val (.int (2 : Int32)), .val (.int y9), .val (.int y10), .val (.ref b25), .unset, .unset] [(.int (0 : Int32)), (.ref b25), (.int (f13 y10.toNatClampNeg))]) _ _ _
        refine own_go (own_bld X29 hx hZ e29 V29 (j := (0 : Int32)) 0 (by decide) rfl (by decide) rfl rfl (hb hby at_180)) ?_
        show own_Fin _ _ _ _ T29 (mkF m 181 #[.val (.long x0), .second, .val (.long x1), .second, .val (.int x2), .val (.int x3), .val (.int x4), .val (.ref b1), .val (.int (2 : Int32)), .val (.int y9), .val (.int y10), .val (.ref b25), .unset, .unset] [(.int (f29 0)), (.int (f13 y10.toNatClampNeg))]) _ _ _
        by_cases h181 : (f13 y10.toNatClampNeg) = (f29 0)
        · refine own_go (fun _ => XS.icmpNo X29.here hx rfl (hb hby at_181) rfl (teq h181).2) ?_
          show own_Fin _ _ _ _ T29 (mkF m 184 #[.val (.long x0), .second, .val (.long x1), .second, .val (.int x2), .val (.int x3), .val (.int x4), .val (.ref b1), .val (.int (2 : Int32)), .val (.int y9), .val (.int y10), .val (.ref b25), .unset, .unset] []) _ _ _
          refine own_go (fun _ => XS.iload X29.here hx rfl (hb hby at_184) rfl) ?_
          show own_Fin _ _ _ _ T29 (mkF m 186 #[.val (.long x0), .second, .val (.long x1), .second, .val (.int x2), .val (.int x3), .val (.int x4), .val (.ref b1), .val (.int (2 : Int32)), .val (.int y9), .val (.int y10), .val (.ref b25), .unset, .unset] [(.int (2 : Int32))]) _ _ _
          refine own_go (fun _ => XS.iconst X29.here hx rfl (hb hby at_186)) ?_
          show own_Fin _ _ _ _ T29 (mkF m 187 #[.val (.long x0), .second, .val (.long x1), .second, .val (.int x2), .val (.int x3), .val (.int x4), .val (.ref b1), .val (.int (2 : Int32)), .val (.int y9), .val (.int y10), .val (.ref b25), .unset, .unset] [(.int (2 : Int32)), (.int (2 : Int32))]) _ _ _
          refine own_go (fun _ => XS.icmpNo X29.here hx rfl (hb hby at_187) rfl (flt (show ¬ ((2 : Int32) < (2 : Int32)) from (by decide))).1) ?_
          show own_Fin _ _ _ _ T29 (mkF m 190 #[.val (.long x0), .second, .val (.long x1), .second, .val (.int x2), .val (.int x3), .val (.int x4), .val (.ref b1), .val (.int (2 : Int32)), .val (.int y9), .val (.int y10), .val (.ref b25), .unset, .unset] []) _ _ _
          refine own_go (fun _ => XS.aload X29.here hx rfl (hb hby at_190) rfl rfl) ?_
          show own_Fin _ _ _ _ T29 (mkF m 192 #[.val (.long x0), .second, .val (.long x1), .second, .val (.int x2), .val (.int x3), .val (.int x4), .val (.ref b1), .val (.int (2 : Int32)), .val (.int y9), .val (.int y10), .val (.ref b25), .unset, .unset] [(.ref b1)]) _ _ _
          refine own_go (fun _ => XS.iload X29.here hx rfl (hb hby at_192) rfl) ?_
          show own_Fin _ _ _ _ T29 (mkF m 194 #[.val (.long x0), .second, .val (.long x1), .second, .val (.int x2), .val (.int x3), .val (.int x4), .val (.ref b1), .val (.int (2 : Int32)), .val (.int y9), .val (.int y10), .val (.ref b25), .unset, .unset] [(.int y10), (.ref b1)]) _ _ _
          refine own_go (fun _ => XS.iconst X29.here hx rfl (hb hby at_194)) ?_
          show own_Fin _ _ _ _ T29 (mkF m 195 #[.val (.long x0), .second, .val (.long x1), .second, .val (.int x2), .val (.int x3), .val (.int x4), .val (.ref b1), .val (.int (2 : Int32)), .val (.int y9), .val (.int y10), .val (.ref b25), .unset, .unset] [(.int (1 : Int32)), (.int y10), (.ref b1)]) _ _ _
          refine own_go (fun _ => XS.iadd X29.here hx rfl (hb hby at_195) rfl) ?_
          show own_Fin _ _ _ _ T29 (mkF m 196 #[.val (.long x0), .second, .val (.long x1), .second, .val (.int x2), .val (.int x3), .val (.int x4), .val (.ref b1), .val (.int (2 : Int32)), .val (.int y9), .val (.int y10), .val (.ref b25), .unset, .unset] [(.int (y10 + (1 : Int32))), (.ref b1)]) _ _ _
          refine own_go (own_bld X29 hx hZ e29 V29_b1 (j := (y10 + (1 : Int32))) (y10 + 1).toNatClampNeg (own_ix (i := 1) (N := 2) h153 hat h163 hto (by decide)).1 rfl (own_ix (i := 1) (N := 2) h153 hat h163 hto (by decide)).2 rfl rfl (hb hby at_196)) ?_
          show own_Fin _ _ _ _ T29 (mkF m 197 #[.val (.long x0), .second, .val (.long x1), .second, .val (.int x2), .val (.int x3), .val (.int x4), .val (.ref b1), .val (.int (2 : Int32)), .val (.int y9), .val (.int y10), .val (.ref b25), .unset, .unset] [(.int (f13 (y10 + 1).toNatClampNeg))]) _ _ _
          refine own_go (fun _ => XS.aload X29.here hx rfl (hb hby at_197) rfl rfl) ?_
          show own_Fin _ _ _ _ T29 (mkF m 199 #[.val (.long x0), .second, .val (.long x1), .second, .val (.int x2), .val (.int x3), .val (.int x4), .val (.ref b1), .val (.int (2 : Int32)), .val (.int y9), .val (.int y10), .val (.ref b25), .unset, .unset] [(.ref b25), (.int (f13 (y10 + 1).toNatClampNeg))]) _ _ _
          refine own_go (fun _ => XS.iconst X29.here hx rfl (hb hby at_199)) ?_
          show own_Fin _ _ _ _ T29 (mkF m 200 #[.val (.long x0), .second, .val (.long x1), .second, .val (.int x2), .val (.int x3), .val (.int x4), .val (.ref b1), .val (.int (2 : Int32)), .val (.int y9), .val (.int y10), .val (.ref b25), .unset, .unset] [(.int (1 : Int32)), (.ref b25), (.int (f13 (y10 + 1).toNatClampNeg))]) _ _ _
          refine own_go (own_bld X29 hx hZ e29 V29 (j := (1 : Int32)) 1 (by decide) rfl (by decide) rfl rfl (hb hby at_200)) ?_
          show own_Fin _ _ _ _ T29 (mkF m 201 #[.val (.long x0), .second, .val (.long x1), .second, .val (.int x2), .val (.int x3), .val (.int x4), .val (.ref b1), .val (.int (2 : Int32)), .val (.int y9), .val (.int y10), .val (.ref b25), .unset, .unset] [(.int (f29 1)), (.int (f13 (y10 + 1).toNatClampNeg))]) _ _ _
          by_cases h201 : (f13 (y10 + 1).toNatClampNeg) = (f29 1)
          · refine own_go (fun _ => XS.icmpNo X29.here hx rfl (hb hby at_201) rfl (teq h201).2) ?_
            show own_Fin _ _ _ _ T29 (mkF m 204 #[.val (.long x0), .second, .val (.long x1), .second, .val (.int x2), .val (.int x3), .val (.int x4), .val (.ref b1), .val (.int (2 : Int32)), .val (.int y9), .val (.int y10), .val (.ref b25), .unset, .unset] []) _ _ _
            refine own_go (fun _ => XS.iload X29.here hx rfl (hb hby at_204) rfl) ?_
            show own_Fin _ _ _ _ T29 (mkF m 206 #[.val (.long x0), .second, .val (.long x1), .second, .val (.int x2), .val (.int x3), .val (.int x4), .val (.ref b1), .val (.int (2 : Int32)), .val (.int y9), .val (.int y10), .val (.ref b25), .unset, .unset] [(.int (2 : Int32))]) _ _ _
            refine own_go (fun _ => XS.iconst X29.here hx rfl (hb hby at_206)) ?_
            show own_Fin _ _ _ _ T29 (mkF m 207 #[.val (.long x0), .second, .val (.long x1), .second, .val (.int x2), .val (.int x3), .val (.int x4), .val (.ref b1), .val (.int (2 : Int32)), .val (.int y9), .val (.int y10), .val (.ref b25), .unset, .unset] [(.int (3 : Int32)), (.int (2 : Int32))]) _ _ _
            refine own_go (fun _ => XS.icmpYes X29.here hx rfl (pc0 := 207) (pc' := 224) rfl (hb hby at_207) rfl (tlt (show (2 : Int32) < (3 : Int32) from (by decide))).1 (by decide) (by decide)) ?_
            show own_Fin _ _ _ _ T29 (mkF m 224 #[.val (.long x0), .second, .val (.long x1), .second, .val (.int x2), .val (.int x3), .val (.int x4), .val (.ref b1), .val (.int (2 : Int32)), .val (.int y9), .val (.int y10), .val (.ref b25), .unset, .unset] []) _ _ _
            refine own_go (fun _ => XS.iconst X29.here hx rfl (hb hby at_224)) ?_
            show own_Fin _ _ _ _ T29 (mkF m 225 #[.val (.long x0), .second, .val (.long x1), .second, .val (.int x2), .val (.int x3), .val (.int x4), .val (.ref b1), .val (.int (2 : Int32)), .val (.int y9), .val (.int y10), .val (.ref b25), .unset, .unset] [(.int (1 : Int32))]) _ _ _
            refine own_go (fun _ => XS.goto X29.here hx rfl (pc0 := 225) (pc' := 229) rfl (hb hby at_225) (by decide) (by decide)) ?_
            show own_Fin _ _ _ _ T29 (mkF m 229 #[.val (.long x0), .second, .val (.long x1), .second, .val (.int x2), .val (.int x3), .val (.int x4), .val (.ref b1), .val (.int (2 : Int32)), .val (.int y9), .val (.int y10), .val (.ref b25), .unset, .unset] [(.int (1 : Int32))]) _ _ _
            refine own_go (fun _ => XS.istore X29.here hx rfl (hb hby at_229) rfl (l' := #[.val (.long x0), .second, .val (.long x1), .second, .val (.int x2), .val (.int x3), .val (.int x4), .val (.ref b1), .val (.int (2 : Int32)), .val (.int y9), .val (.int y10), .val (.ref b25), .val (.int (1 : Int32)), .unset]) rfl) ?_
            show own_Fin _ _ _ _ T29 (mkF m 231 #[.val (.long x0), .second, .val (.long x1), .second, .val (.int x2), .val (.int x3), .val (.int x4), .val (.ref b1), .val (.int (2 : Int32)), .val (.int y9), .val (.int y10), .val (.ref b25), .val (.int (1 : Int32)), .unset] []) _ _ _
            refine own_go (fun _ => XS.aload X29.here hx rfl (hb hby at_231) rfl rfl) ?_
            show own_Fin _ _ _ _ T29 (mkF m 233 #[.val (.long x0), .second, .val (.long x1), .second, .val (.int x2), .val (.int x3), .val (.int x4), .val (.ref b1), .val (.int (2 : Int32)), .val (.int y9), .val (.int y10), .val (.ref b25), .val (.int (1 : Int32)), .unset] [(.ref b1)]) _ _ _
            refine own_go (fun _ => XS.iload X29.here hx rfl (hb hby at_233) rfl) ?_
            show own_Fin _ _ _ _ T29 (mkF m 235 #[.val (.long x0), .second, .val (.long x1), .second, .val (.int x2), .val (.int x3), .val (.int x4), .val (.ref b1), .val (.int (2 : Int32)), .val (.int y9), .val (.int y10), .val (.ref b25), .val (.int (1 : Int32)), .unset] [(.int y10), (.ref b1)]) _ _ _
            refine own_go (fun _ => XS.iload X29.here hx rfl (hb hby at_235) rfl) ?_
            show own_Fin _ _ _ _ T29 (mkF m 237 #[.val (.long x0), .second, .val (.long x1), .second, .val (.int x2), .val (.int x3), .val (.int x4), .val (.ref b1), .val (.int (2 : Int32)), .val (.int y9), .val (.int y10), .val (.ref b25), .val (.int (1 : Int32)), .unset] [(.int y9), (.int y10), (.ref b1)]) _ _ _
            refine own_go (fun _ => XS.aload X29.here hx rfl (hb hby at_237) rfl rfl) ?_
            show own_Fin _ _ _ _ T29 (mkF m 239 #[.val (.long x0), .second, .val (.long x1), .second, .val (.int x2), .val (.int x3), .val (.int x4), .val (.ref b1), .val (.int (2 : Int32)), .val (.int y9), .val (.int y10), .val (.ref b25), .val (.int (1 : Int32)), .unset] [(.ref b25), (.int y9), (.int y10), (.ref b1)]) _ _ _
            obtain ⟨_, _, ⟨T32, L32, k32, n32⟩, -, X32, ⟨Lc32, hQ32, l32, y32, z32⟩, st32⟩ := Jvm.LawKit.callS X29 hx (y := (⟨"com/example/jitlens/jitlens/LogText", "startsWith", "([BII[B)Z"⟩ : MethodName)) hown (mvT hZ (hw _ (List.mem_of_getElem? (i := 6) rfl))) (mvT hZ (hw _ (List.mem_of_getElem? (i := 7) rfl))) (mvT hZ (hw _ (List.mem_of_getElem? (i := 8) rfl))) (mvT hZ (hw _ (List.mem_of_getElem? (i := 9) rfl))) (by decide) (backOf (W := 0) (rm2_2 l Z a0 hw [] b1 y10 y9 b25 f13 f29 h29 n0 Z29 V29_b1 V29 hat hto) hZ (hw _ (List.mem_of_getElem? (i := 9) rfl)) (hw _ (List.mem_of_getElem? (i := 8) rfl)) (by decide) (by decide)) (g := (mkF m 239 #[.val (.long x0), .second, .val (.long x1), .second, .val (.int x2), .val (.int x3), .val (.int x4), .val (.ref b1), .val (.int (2 : Int32)), .val (.int y9), .val (.int y10), .val (.ref b25), .val (.int (1 : Int32)), .unset] [(.ref b25), (.int y9), (.int y10), (.ref b1)])) rfl (by rw [hml]; rfl) (argsL := [(.ref b1), (.int y10), (.int y9), (.ref b25)]) (rest := []) (lenOf pd_1 rfl) rfl (by show 2 * 0 + _ ≤ _; exact Nat.le_of_eq rfl) (hb hby at_239) (fun _ _ => ⟨rfl, e29, (by decide : 2 + 0 ≤ _), (by decide : 8 + 0 ≤ _)⟩)
            dsimp only [Pt.U, Pt.locs, Pt.cells, Pt.slots] at X32 l32 y32 z32 st32 hQ32
            subst l32 y32 z32
            obtain ⟨rfl, N32q, e32⟩ := hQ32
            have N32 := Fr.app N29 N32q
            refine own_go st32 ?_
            show own_Fin _ _ _ _ T32 (mkF m 242 #[.val (.long x0), .second, .val (.long x1), .second, .val (.int x2), .val (.int x3), .val (.int x4), .val (.ref b1), .val (.int (2 : Int32)), .val (.int y9), .val (.int y10), .val (.ref b25), .val (.int (1 : Int32)), .unset] [(.int (own_sw2 y10 y9 f13 f29))]) _ _ _
            refine own_go (fun _ => XS.istore X32.here hx rfl (hb hby at_242) rfl (l' := #[.val (.long x0), .second, .val (.long x1), .second, .val (.int x2), .val (.int x3), .val (.int x4), .val (.ref b1), .val (.int (2 : Int32)), .val (.int y9), .val (.int y10), .val (.ref b25), .val (.int (1 : Int32)), .val (.int (own_sw2 y10 y9 f13 f29))]) rfl) ?_
            show own_Fin _ _ _ _ T32 (mkF m 244 #[.val (.long x0), .second, .val (.long x1), .second, .val (.int x2), .val (.int x3), .val (.int x4), .val (.ref b1), .val (.int (2 : Int32)), .val (.int y9), .val (.int y10), .val (.ref b25), .val (.int (1 : Int32)), .val (.int (own_sw2 y10 y9 f13 f29))] []) _ _ _
            refine own_go (fun _ => XS.iload X32.here hx rfl (hb hby at_244) rfl) ?_
            show own_Fin _ _ _ _ T32 (mkF m 246 #[.val (.long x0), .second, .val (.long x1), .second, .val (.int x2), .val (.int x3), .val (.int x4), .val (.ref b1), .val (.int (2 : Int32)), .val (.int y9), .val (.int y10), .val (.ref b25), .val (.int (1 : Int32)), .val (.int (own_sw2 y10 y9 f13 f29))] [(.int (own_sw2 y10 y9 f13 f29))]) _ _ _
            refine own_go (fun _ => XS.iload X32.here hx rfl (hb hby at_246) rfl) ?_
            show own_Fin _ _ _ _ T32 (mkF m 248 #[.val (.long x0), .second, .val (.long x1), .second, .val (.int x2), .val (.int x3), .val (.int x4), .val (.ref b1), .val (.int (2 : Int32)), .val (.int y9), .val (.int y10), .val (.ref b25), .val (.int (1 : Int32)), .val (.int (own_sw2 y10 y9 f13 f29))] [(.int (1 : Int32)), (.int (own_sw2 y10 y9 f13 f29))]) _ _ _
            refine own_go (fun _ => XS.icmpNo X32.here hx rfl (hb hby at_248) rfl (teq (show (own_sw2 y10 y9 f13 f29) = (1 : Int32) from by simp only [own_sw2, if_neg h153, if_neg h163, if_pos h181, if_pos h201])).2) ?_
            show own_Fin _ _ _ _ T32 (mkF m 251 #[.val (.long x0), .second, .val (.long x1), .second, .val (.int x2), .val (.int x3), .val (.int x4), .val (.ref b1), .val (.int (2 : Int32)), .val (.int y9), .val (.int y10), .val (.ref b25), .val (.int (1 : Int32)), .val (.int (own_sw2 y10 y9 f13 f29))] []) _ _ _
            refine own_go (fun _ => XS.iconst X32.here hx rfl (hb hby at_251)) ?_
            show own_Fin _ _ _ _ T32 (mkF m 252 #[.val (.long x0), .second, .val (.long x1), .second, .val (.int x2), .val (.int x3), .val (.int x4), .val (.ref b1), .val (.int (2 : Int32)), .val (.int y9), .val (.int y10), .val (.ref b25), .val (.int (1 : Int32)), .val (.int (own_sw2 y10 y9 f13 f29))] [(.int (1 : Int32))]) _ _ _
            refine own_go (fun _ => XS.goto X32.here hx rfl (pc0 := 252) (pc' := 256) rfl (hb hby at_252) (by decide) (by decide)) ?_
            show own_Fin _ _ _ _ T32 (mkF m 256 #[.val (.long x0), .second, .val (.long x1), .second, .val (.int x2), .val (.int x3), .val (.int x4), .val (.ref b1), .val (.int (2 : Int32)), .val (.int y9), .val (.int y10), .val (.ref b25), .val (.int (1 : Int32)), .val (.int (own_sw2 y10 y9 f13 f29))] [(.int (1 : Int32))]) _ _ _
            exact own_retZ X32 hx hnl (t := .boolean) hret (by simp) (hb hby at_256) (by decide) (by decide) ⟨rfl, N32⟩
          · refine own_go (fun _ => XS.icmpYes X29.here hx rfl (pc0 := 201) (pc' := 228) rfl (hb hby at_201) rfl (feq h201).2 (by decide) (by decide)) ?_
            show own_Fin _ _ _ _ T29 (mkF m 228 #[.val (.long x0), .second, .val (.long x1), .second, .val (.int x2), .val (.int x3), .val (.int x4), .val (.ref b1), .val (.int (2 : Int32)), .val (.int y9), .val (.int y10), .val (.ref b25), .unset, .unset] []) _ _ _
            refine own_go (fun _ => XS.iconst X29.here hx rfl (hb hby at_228)) ?_
            show own_Fin _ _ _ _ T29 (mkF m 229 #[.val (.long x0), .second, .val (.long x1), .second, .val (.int x2), .val (.int x3), .val (.int x4), .val (.ref b1), .val (.int (2 : Int32)), .val (.int y9), .val (.int y10), .val (.ref b25), .unset, .unset] [(.int (0 : Int32))]) _ _ _
            refine own_go (fun _ => XS.istore X29.here hx rfl (hb hby at_229) rfl (l' := #[.val (.long x0), .second, .val (.long x1), .second, .val (.int x2), .val (.int x3), .val (.int x4), .val (.ref b1), .val (.int (2 : Int32)), .val (.int y9), .val (.int y10), .val (.ref b25), .val (.int (0 : Int32)), .unset]) rfl) ?_
            show own_Fin _ _ _ _ T29 (mkF m 231 #[.val (.long x0), .second, .val (.long x1), .second, .val (.int x2), .val (.int x3), .val (.int x4), .val (.ref b1), .val (.int (2 : Int32)), .val (.int y9), .val (.int y10), .val (.ref b25), .val (.int (0 : Int32)), .unset] []) _ _ _
            refine own_go (fun _ => XS.aload X29.here hx rfl (hb hby at_231) rfl rfl) ?_
            show own_Fin _ _ _ _ T29 (mkF m 233 #[.val (.long x0), .second, .val (.long x1), .second, .val (.int x2), .val (.int x3), .val (.int x4), .val (.ref b1), .val (.int (2 : Int32)), .val (.int y9), .val (.int y10), .val (.ref b25), .val (.int (0 : Int32)), .unset] [(.ref b1)]) _ _ _
            refine own_go (fun _ => XS.iload X29.here hx rfl (hb hby at_233) rfl) ?_
            show own_Fin _ _ _ _ T29 (mkF m 235 #[.val (.long x0), .second, .val (.long x1), .second, .val (.int x2), .val (.int x3), .val (.int x4), .val (.ref b1), .val (.int (2 : Int32)), .val (.int y9), .val (.int y10), .val (.ref b25), .val (.int (0 : Int32)), .unset] [(.int y10), (.ref b1)]) _ _ _
            refine own_go (fun _ => XS.iload X29.here hx rfl (hb hby at_235) rfl) ?_
            show own_Fin _ _ _ _ T29 (mkF m 237 #[.val (.long x0), .second, .val (.long x1), .second, .val (.int x2), .val (.int x3), .val (.int x4), .val (.ref b1), .val (.int (2 : Int32)), .val (.int y9), .val (.int y10), .val (.ref b25), .val (.int (0 : Int32)), .unset] [(.int y9), (.int y10), (.ref b1)]) _ _ _
            refine own_go (fun _ => XS.aload X29.here hx rfl (hb hby at_237) rfl rfl) ?_
            show own_Fin _ _ _ _ T29 (mkF m 239 #[.val (.long x0), .second, .val (.long x1), .second, .val (.int x2), .val (.int x3), .val (.int x4), .val (.ref b1), .val (.int (2 : Int32)), .val (.int y9), .val (.int y10), .val (.ref b25), .val (.int (0 : Int32)), .unset] [(.ref b25), (.int y9), (.int y10), (.ref b1)]) _ _ _
            obtain ⟨_, _, ⟨T33, L33, k33, n33⟩, -, X33, ⟨Lc33, hQ33, l33, y33, z33⟩, st33⟩ := Jvm.LawKit.callS X29 hx (y := (⟨"com/example/jitlens/jitlens/LogText", "startsWith", "([BII[B)Z"⟩ : MethodName)) hown (mvT hZ (hw _ (List.mem_of_getElem? (i := 6) rfl))) (mvT hZ (hw _ (List.mem_of_getElem? (i := 7) rfl))) (mvT hZ (hw _ (List.mem_of_getElem? (i := 8) rfl))) (mvT hZ (hw _ (List.mem_of_getElem? (i := 9) rfl))) (by decide) (backOf (W := 0) (rm2_2 l Z a0 hw [] b1 y10 y9 b25 f13 f29 h29 n0 Z29 V29_b1 V29 hat hto) hZ (hw _ (List.mem_of_getElem? (i := 9) rfl)) (hw _ (List.mem_of_getElem? (i := 8) rfl)) (by decide) (by decide)) (g := (mkF m 239 #[.val (.long x0), .second, .val (.long x1), .second, .val (.int x2), .val (.int x3), .val (.int x4), .val (.ref b1), .val (.int (2 : Int32)), .val (.int y9), .val (.int y10), .val (.ref b25), .val (.int (0 : Int32)), .unset] [(.ref b25), (.int y9), (.int y10), (.ref b1)])) rfl (by rw [hml]; rfl) (argsL := [(.ref b1), (.int y10), (.int y9), (.ref b25)]) (rest := []) (lenOf pd_1 rfl) rfl (by show 2 * 0 + _ ≤ _; exact Nat.le_of_eq rfl) (hb hby at_239) (fun _ _ => ⟨rfl, e29, (by decide : 2 + 0 ≤ _), (by decide : 8 + 0 ≤ _)⟩)
            dsimp only [Pt.U, Pt.locs, Pt.cells, Pt.slots] at X33 l33 y33 z33 st33 hQ33
            subst l33 y33 z33
            obtain ⟨rfl, N33q, e33⟩ := hQ33
            have N33 := Fr.app N29 N33q
            refine own_go st33 ?_
            show own_Fin _ _ _ _ T33 (mkF m 242 #[.val (.long x0), .second, .val (.long x1), .second, .val (.int x2), .val (.int x3), .val (.int x4), .val (.ref b1), .val (.int (2 : Int32)), .val (.int y9), .val (.int y10), .val (.ref b25), .val (.int (0 : Int32)), .unset] [(.int (own_sw2 y10 y9 f13 f29))]) _ _ _
            refine own_go (fun _ => XS.istore X33.here hx rfl (hb hby at_242) rfl (l' := #[.val (.long x0), .second, .val (.long x1), .second, .val (.int x2), .val (.int x3), .val (.int x4), .val (.ref b1), .val (.int (2 : Int32)), .val (.int y9), .val (.int y10), .val (.ref b25), .val (.int (0 : Int32)), .val (.int (own_sw2 y10 y9 f13 f29))]) rfl) ?_
            show own_Fin _ _ _ _ T33 (mkF m 244 #[.val (.long x0), .second, .val (.long x1), .second, .val (.int x2), .val (.int x3), .val (.int x4), .val (.ref b1), .val (.int (2 : Int32)), .val (.int y9), .val (.int y10), .val (.ref b25), .val (.int (0 : Int32)), .val (.int (own_sw2 y10 y9 f13 f29))] []) _ _ _
            refine own_go (fun _ => XS.iload X33.here hx rfl (hb hby at_244) rfl) ?_
            show own_Fin _ _ _ _ T33 (mkF m 246 #[.val (.long x0), .second, .val (.long x1), .second, .val (.int x2), .val (.int x3), .val (.int x4), .val (.ref b1), .val (.int (2 : Int32)), .val (.int y9), .val (.int y10), .val (.ref b25), .val (.int (0 : Int32)), .val (.int (own_sw2 y10 y9 f13 f29))] [(.int (own_sw2 y10 y9 f13 f29))]) _ _ _
            refine own_go (fun _ => XS.iload X33.here hx rfl (hb hby at_246) rfl) ?_
            show own_Fin _ _ _ _ T33 (mkF m 248 #[.val (.long x0), .second, .val (.long x1), .second, .val (.int x2), .val (.int x3), .val (.int x4), .val (.ref b1), .val (.int (2 : Int32)), .val (.int y9), .val (.int y10), .val (.ref b25), .val (.int (0 : Int32)), .val (.int (own_sw2 y10 y9 f13 f29))] [(.int (0 : Int32)), (.int (own_sw2 y10 y9 f13 f29))]) _ _ _
            refine own_go (fun _ => XS.icmpNo X33.here hx rfl (hb hby at_248) rfl (teq (show (own_sw2 y10 y9 f13 f29) = (0 : Int32) from by simp only [own_sw2, if_neg h153, if_neg h163, if_pos h181, if_neg h201])).2) ?_
            show own_Fin _ _ _ _ T33 (mkF m 251 #[.val (.long x0), .second, .val (.long x1), .second, .val (.int x2), .val (.int x3), .val (.int x4), .val (.ref b1), .val (.int (2 : Int32)), .val (.int y9), .val (.int y10), .val (.ref b25), .val (.int (0 : Int32)), .val (.int (own_sw2 y10 y9 f13 f29))] []) _ _ _
            refine own_go (fun _ => XS.iconst X33.here hx rfl (hb hby at_251)) ?_
            show own_Fin _ _ _ _ T33 (mkF m 252 #[.val (.long x0), .second, .val (.long x1), .second, .val (.int x2), .val (.int x3), .val (.int x4), .val (.ref b1), .val (.int (2 : Int32)), .val (.int y9), .val (.int y10), .val (.ref b25), .val (.int (0 : Int32)), .val (.int (own_sw2 y10 y9 f13 f29))] [(.int (1 : Int32))]) _ _ _
            refine own_go (fun _ => XS.goto X33.here hx rfl (pc0 := 252) (pc' := 256) rfl (hb hby at_252) (by decide) (by decide)) ?_
            show own_Fin _ _ _ _ T33 (mkF m 256 #[.val (.long x0), .second, .val (.long x1), .second, .val (.int x2), .val (.int x3), .val (.int x4), .val (.ref b1), .val (.int (2 : Int32)), .val (.int y9), .val (.int y10), .val (.ref b25), .val (.int (0 : Int32)), .val (.int (own_sw2 y10 y9 f13 f29))] [(.int (1 : Int32))]) _ _ _
            exact own_retZ X33 hx hnl (t := .boolean) hret (by simp) (hb hby at_256) (by decide) (by decide) ⟨rfl, N33⟩
        · refine own_go (fun _ => XS.icmpYes X29.here hx rfl (pc0 := 181) (pc' := 228) rfl (hb hby at_181) rfl (feq h181).2 (by decide) (by decide)) ?_
          show own_Fin _ _ _ _ T29 (mkF m 228 #[.val (.long x0), .second, .val (.long x1), .second, .val (.int x2), .val (.int x3), .val (.int x4), .val (.ref b1), .val (.int (2 : Int32)), .val (.int y9), .val (.int y10), .val (.ref b25), .unset, .unset] []) _ _ _
          refine own_go (fun _ => XS.iconst X29.here hx rfl (hb hby at_228)) ?_
          show own_Fin _ _ _ _ T29 (mkF m 229 #[.val (.long x0), .second, .val (.long x1), .second, .val (.int x2), .val (.int x3), .val (.int x4), .val (.ref b1), .val (.int (2 : Int32)), .val (.int y9), .val (.int y10), .val (.ref b25), .unset, .unset] [(.int (0 : Int32))]) _ _ _
          refine own_go (fun _ => XS.istore X29.here hx rfl (hb hby at_229) rfl (l' := #[.val (.long x0), .second, .val (.long x1), .second, .val (.int x2), .val (.int x3), .val (.int x4), .val (.ref b1), .val (.int (2 : Int32)), .val (.int y9), .val (.int y10), .val (.ref b25), .val (.int (0 : Int32)), .unset]) rfl) ?_
          show own_Fin _ _ _ _ T29 (mkF m 231 #[.val (.long x0), .second, .val (.long x1), .second, .val (.int x2), .val (.int x3), .val (.int x4), .val (.ref b1), .val (.int (2 : Int32)), .val (.int y9), .val (.int y10), .val (.ref b25), .val (.int (0 : Int32)), .unset] []) _ _ _
          refine own_go (fun _ => XS.aload X29.here hx rfl (hb hby at_231) rfl rfl) ?_
          show own_Fin _ _ _ _ T29 (mkF m 233 #[.val (.long x0), .second, .val (.long x1), .second, .val (.int x2), .val (.int x3), .val (.int x4), .val (.ref b1), .val (.int (2 : Int32)), .val (.int y9), .val (.int y10), .val (.ref b25), .val (.int (0 : Int32)), .unset] [(.ref b1)]) _ _ _
          refine own_go (fun _ => XS.iload X29.here hx rfl (hb hby at_233) rfl) ?_
          show own_Fin _ _ _ _ T29 (mkF m 235 #[.val (.long x0), .second, .val (.long x1), .second, .val (.int x2), .val (.int x3), .val (.int x4), .val (.ref b1), .val (.int (2 : Int32)), .val (.int y9), .val (.int y10), .val (.ref b25), .val (.int (0 : Int32)), .unset] [(.int y10), (.ref b1)]) _ _ _
          refine own_go (fun _ => XS.iload X29.here hx rfl (hb hby at_235) rfl) ?_
          show own_Fin _ _ _ _ T29 (mkF m 237 #[.val (.long x0), .second, .val (.long x1), .second, .val (.int x2), .val (.int x3), .val (.int x4), .val (.ref b1), .val (.int (2 : Int32)), .val (.int y9), .val (.int y10), .val (.ref b25), .val (.int (0 : Int32)), .unset] [(.int y9), (.int y10), (.ref b1)]) _ _ _
          refine own_go (fun _ => XS.aload X29.here hx rfl (hb hby at_237) rfl rfl) ?_
          show own_Fin _ _ _ _ T29 (mkF m 239 #[.val (.long x0), .second, .val (.long x1), .second, .val (.int x2), .val (.int x3), .val (.int x4), .val (.ref b1), .val (.int (2 : Int32)), .val (.int y9), .val (.int y10), .val (.ref b25), .val (.int (0 : Int32)), .unset] [(.ref b25), (.int y9), (.int y10), (.ref b1)]) _ _ _
          obtain ⟨_, _, ⟨T34, L34, k34, n34⟩, -, X34, ⟨Lc34, hQ34, l34, y34, z34⟩, st34⟩ := Jvm.LawKit.callS X29 hx (y := (⟨"com/example/jitlens/jitlens/LogText", "startsWith", "([BII[B)Z"⟩ : MethodName)) hown (mvT hZ (hw _ (List.mem_of_getElem? (i := 6) rfl))) (mvT hZ (hw _ (List.mem_of_getElem? (i := 7) rfl))) (mvT hZ (hw _ (List.mem_of_getElem? (i := 8) rfl))) (mvT hZ (hw _ (List.mem_of_getElem? (i := 9) rfl))) (by decide) (backOf (W := 0) (rm2_2 l Z a0 hw [] b1 y10 y9 b25 f13 f29 h29 n0 Z29 V29_b1 V29 hat hto) hZ (hw _ (List.mem_of_getElem? (i := 9) rfl)) (hw _ (List.mem_of_getElem? (i := 8) rfl)) (by decide) (by decide)) (g := (mkF m 239 #[.val (.long x0), .second, .val (.long x1), .second, .val (.int x2), .val (.int x3), .val (.int x4), .val (.ref b1), .val (.int (2 : Int32)), .val (.int y9), .val (.int y10), .val (.ref b25), .val (.int (0 : Int32)), .unset] [(.ref b25), (.int y9), (.int y10), (.ref b1)])) rfl (by rw [hml]; rfl) (argsL := [(.ref b1), (.int y10), (.int y9), (.ref b25)]) (rest := []) (lenOf pd_1 rfl) rfl (by show 2 * 0 + _ ≤ _; exact Nat.le_of_eq rfl) (hb hby at_239) (fun _ _ => ⟨rfl, e29, (by decide : 2 + 0 ≤ _), (by decide : 8 + 0 ≤ _)⟩)
          dsimp only [Pt.U, Pt.locs, Pt.cells, Pt.slots] at X34 l34 y34 z34 st34 hQ34
          subst l34 y34 z34
          obtain ⟨rfl, N34q, e34⟩ := hQ34
          have N34 := Fr.app N29 N34q
          refine own_go st34 ?_
          show own_Fin _ _ _ _ T34 (mkF m 242 #[.val (.long x0), .second, .val (.long x1), .second, .val (.int x2), .val (.int x3), .val (.int x4), .val (.ref b1), .val (.int (2 : Int32)), .val (.int y9), .val (.int y10), .val (.ref b25), .val (.int (0 : Int32)), .unset] [(.int (own_sw2 y10 y9 f13 f29))]) _ _ _
          refine own_go (fun _ => XS.istore X34.here hx rfl (hb hby at_242) rfl (l' := #[.val (.long x0), .second, .val (.long x1), .second, .val (.int x2), .val (.int x3), .val (.int x4), .val (.ref b1), .val (.int (2 : Int32)), .val (.int y9), .val (.int y10), .val (.ref b25), .val (.int (0 : Int32)), .val (.int (own_sw2 y10 y9 f13 f29))]) rfl) ?_
          show own_Fin _ _ _ _ T34 (mkF m 244 #[.val (.long x0), .second, .val (.long x1), .second, .val (.int x2), .val (.int x3), .val (.int x4), .val (.ref b1), .val (.int (2 : Int32)), .val (.int y9), .val (.int y10), .val (.ref b25), .val (.int (0 : Int32)), .val (.int (own_sw2 y10 y9 f13 f29))] []) _ _ _
          refine own_go (fun _ => XS.iload X34.here hx rfl (hb hby at_244) rfl) ?_
          show own_Fin _ _ _ _ T34 (mkF m 246 #[.val (.long x0), .second, .val (.long x1), .second, .val (.int x2), .val (.int x3), .val (.int x4), .val (.ref b1), .val (.int (2 : Int32)), .val (.int y9), .val (.int y10), .val (.ref b25), .val (.int (0 : Int32)), .val (.int (own_sw2 y10 y9 f13 f29))] [(.int (own_sw2 y10 y9 f13 f29))]) _ _ _
          refine own_go (fun _ => XS.iload X34.here hx rfl (hb hby at_246) rfl) ?_
          show own_Fin _ _ _ _ T34 (mkF m 248 #[.val (.long x0), .second, .val (.long x1), .second, .val (.int x2), .val (.int x3), .val (.int x4), .val (.ref b1), .val (.int (2 : Int32)), .val (.int y9), .val (.int y10), .val (.ref b25), .val (.int (0 : Int32)), .val (.int (own_sw2 y10 y9 f13 f29))] [(.int (0 : Int32)), (.int (own_sw2 y10 y9 f13 f29))]) _ _ _
          refine own_go (fun _ => XS.icmpNo X34.here hx rfl (hb hby at_248) rfl (teq (show (own_sw2 y10 y9 f13 f29) = (0 : Int32) from by simp only [own_sw2, if_neg h153, if_neg h163, if_neg h181])).2) ?_
          show own_Fin _ _ _ _ T34 (mkF m 251 #[.val (.long x0), .second, .val (.long x1), .second, .val (.int x2), .val (.int x3), .val (.int x4), .val (.ref b1), .val (.int (2 : Int32)), .val (.int y9), .val (.int y10), .val (.ref b25), .val (.int (0 : Int32)), .val (.int (own_sw2 y10 y9 f13 f29))] []) _ _ _
          refine own_go (fun _ => XS.iconst X34.here hx rfl (hb hby at_251)) ?_
          show own_Fin _ _ _ _ T34 (mkF m 252 #[.val (.long x0), .second, .val (.long x1), .second, .val (.int x2), .val (.int x3), .val (.int x4), .val (.ref b1), .val (.int (2 : Int32)), .val (.int y9), .val (.int y10), .val (.ref b25), .val (.int (0 : Int32)), .val (.int (own_sw2 y10 y9 f13 f29))] [(.int (1 : Int32))]) _ _ _
          refine own_go (fun _ => XS.goto X34.here hx rfl (pc0 := 252) (pc' := 256) rfl (hb hby at_252) (by decide) (by decide)) ?_
          show own_Fin _ _ _ _ T34 (mkF m 256 #[.val (.long x0), .second, .val (.long x1), .second, .val (.int x2), .val (.int x3), .val (.int x4), .val (.ref b1), .val (.int (2 : Int32)), .val (.int y9), .val (.int y10), .val (.ref b25), .val (.int (0 : Int32)), .val (.int (own_sw2 y10 y9 f13 f29))] [(.int (1 : Int32))]) _ _ _
          exact own_retZ X34 hx hnl (t := .boolean) hret (by simp) (hb hby at_256) (by decide) (by decide) ⟨rfl, N34⟩
  · rw [hl]
    show own_Fin _ _ _ _ T13 (mkF m 64 #[.val (.long x0), .second, .val (.long x1), .second, .val (.int x2), .val (.int x3), .val (.int x4), .val (.ref b1), .unset, .unset, .unset, .unset, .unset, .unset] [(.int (3 : Int32))]) _ _ _
    refine own_go (fun _ => XS.istore X13.here hx rfl (hb hby at_64) rfl (l' := #[.val (.long x0), .second, .val (.long x1), .second, .val (.int x2), .val (.int x3), .val (.int x4), .val (.ref b1), .val (.int (3 : Int32)), .unset, .unset, .unset, .unset, .unset]) rfl) ?_
    show own_Fin _ _ _ _ T13 (mkF m 66 #[.val (.long x0), .second, .val (.long x1), .second, .val (.int x2), .val (.int x3), .val (.int x4), .val (.ref b1), .val (.int (3 : Int32)), .unset, .unset, .unset, .unset, .unset] []) _ _ _
    refine own_go (fun _ => XS.iload X13.here hx rfl (hb hby at_66) rfl) ?_
    show own_Fin _ _ _ _ T13 (mkF m 68 #[.val (.long x0), .second, .val (.long x1), .second, .val (.int x2), .val (.int x3), .val (.int x4), .val (.ref b1), .val (.int (3 : Int32)), .unset, .unset, .unset, .unset, .unset] [(.int x3)]) _ _ _
    refine own_go (fun _ => X13.ldcI hx hown (mvT hZ (hw _ (List.mem_of_getElem? (i := 5) rfl))) rfl (hb hby at_68)) ?_
    show own_Fin _ _ _ _ T13 (mkF m 70 #[.val (.long x0), .second, .val (.long x1), .second, .val (.int x2), .val (.int x3), .val (.int x4), .val (.ref b1), .val (.int (3 : Int32)), .unset, .unset, .unset, .unset, .unset] [(.int (2147483647 : Int32)), (.int x3)]) _ _ _
    refine own_go (fun _ => XS.iand X13.here hx rfl (hb hby at_70) rfl) ?_
    show own_Fin _ _ _ _ T13 (mkF m 71 #[.val (.long x0), .second, .val (.long x1), .second, .val (.int x2), .val (.int x3), .val (.int x4), .val (.ref b1), .val (.int (3 : Int32)), .unset, .unset, .unset, .unset, .unset] [(.int (x3 &&& (2147483647 : Int32)))]) _ _ _
    refine own_go (fun _ => XS.bipush X13.here hx rfl (hb hby at_71)) ?_
    show own_Fin _ _ _ _ T13 (mkF m 73 #[.val (.long x0), .second, .val (.long x1), .second, .val (.int x2), .val (.int x3), .val (.int x4), .val (.ref b1), .val (.int (3 : Int32)), .unset, .unset, .unset, .unset, .unset] [(.int (7 : Int32)), (.int (x3 &&& (2147483647 : Int32)))]) _ _ _
    refine own_go (fun _ => XS.irem X13.here hx rfl (hb hby at_73) rfl (by decide)) ?_
    show own_Fin _ _ _ _ T13 (mkF m 74 #[.val (.long x0), .second, .val (.long x1), .second, .val (.int x2), .val (.int x3), .val (.int x4), .val (.ref b1), .val (.int (3 : Int32)), .unset, .unset, .unset, .unset, .unset] [(.int ((x3 &&& (2147483647 : Int32)) - ((x3 &&& (2147483647 : Int32)) / (7 : Int32)) * (7 : Int32)))]) _ _ _
    obtain ⟨y9, hq9⟩ : ∃ z, z = ((x3 &&& (2147483647 : Int32)) - ((x3 &&& (2147483647 : Int32)) / (7 : Int32)) * (7 : Int32)) := ⟨_, rfl⟩
    have hto : y9.toInt ≤ 6 := hq9 ▸ own_to x3
    rw [← hq9]
    show own_Fin _ _ _ _ T13 (mkF m 74 #[.val (.long x0), .second, .val (.long x1), .second, .val (.int x2), .val (.int x3), .val (.int x4), .val (.ref b1), .val (.int (3 : Int32)), .unset, .unset, .unset, .unset, .unset] [(.int y9)]) _ _ _
    refine own_go (fun _ => XS.istore X13.here hx rfl (hb hby at_74) rfl (l' := #[.val (.long x0), .second, .val (.long x1), .second, .val (.int x2), .val (.int x3), .val (.int x4), .val (.ref b1), .val (.int (3 : Int32)), .val (.int y9), .unset, .unset, .unset, .unset]) rfl) ?_
    show own_Fin _ _ _ _ T13 (mkF m 76 #[.val (.long x0), .second, .val (.long x1), .second, .val (.int x2), .val (.int x3), .val (.int x4), .val (.ref b1), .val (.int (3 : Int32)), .val (.int y9), .unset, .unset, .unset, .unset] []) _ _ _
    refine own_go (fun _ => XS.iload X13.here hx rfl (hb hby at_76) rfl) ?_
    show own_Fin _ _ _ _ T13 (mkF m 78 #[.val (.long x0), .second, .val (.long x1), .second, .val (.int x2), .val (.int x3), .val (.int x4), .val (.ref b1), .val (.int (3 : Int32)), .val (.int y9), .unset, .unset, .unset, .unset] [(.int x2)]) _ _ _
    refine own_go (fun _ => XS.bipush X13.here hx rfl (hb hby at_78)) ?_
    show own_Fin _ _ _ _ T13 (mkF m 80 #[.val (.long x0), .second, .val (.long x1), .second, .val (.int x2), .val (.int x3), .val (.int x4), .val (.ref b1), .val (.int (3 : Int32)), .val (.int y9), .unset, .unset, .unset, .unset] [(.int (9 : Int32)), (.int x2)]) _ _ _
    refine own_go (fun _ => XS.irem X13.here hx rfl (hb hby at_80) rfl (by decide)) ?_
    show own_Fin _ _ _ _ T13 (mkF m 81 #[.val (.long x0), .second, .val (.long x1), .second, .val (.int x2), .val (.int x3), .val (.int x4), .val (.ref b1), .val (.int (3 : Int32)), .val (.int y9), .unset, .unset, .unset, .unset] [(.int (x2 - (x2 / (9 : Int32)) * (9 : Int32)))]) _ _ _
    obtain ⟨y10, hq10⟩ : ∃ z, z = (x2 - (x2 / (9 : Int32)) * (9 : Int32)) := ⟨_, rfl⟩
    have hat : y10.toInt < 9 := hq10 ▸ own_at x2
    rw [← hq10]
    show own_Fin _ _ _ _ T13 (mkF m 81 #[.val (.long x0), .second, .val (.long x1), .second, .val (.int x2), .val (.int x3), .val (.int x4), .val (.ref b1), .val (.int (3 : Int32)), .val (.int y9), .unset, .unset, .unset, .unset] [(.int y10)]) _ _ _
    refine own_go (fun _ => XS.istore X13.here hx rfl (hb hby at_81) rfl (l' := #[.val (.long x0), .second, .val (.long x1), .second, .val (.int x2), .val (.int x3), .val (.int x4), .val (.ref b1), .val (.int (3 : Int32)), .val (.int y9), .val (.int y10), .unset, .unset, .unset]) rfl) ?_
    show own_Fin _ _ _ _ T13 (mkF m 83 #[.val (.long x0), .second, .val (.long x1), .second, .val (.int x2), .val (.int x3), .val (.int x4), .val (.ref b1), .val (.int (3 : Int32)), .val (.int y9), .val (.int y10), .unset, .unset, .unset] []) _ _ _
    refine own_go (fun _ => XS.iload X13.here hx rfl (hb hby at_83) rfl) ?_
    show own_Fin _ _ _ _ T13 (mkF m 85 #[.val (.long x0), .second, .val (.long x1), .second, .val (.int x2), .val (.int x3), .val (.int x4), .val (.ref b1), .val (.int (3 : Int32)), .val (.int y9), .val (.int y10), .unset, .unset, .unset] [(.int (3 : Int32))]) _ _ _
    obtain ⟨T35, h35, k35, X35, e35, E35, A35, st35⟩ := newP X13 hx hZ (hw _ (List.mem_of_getElem? (i := 0) rfl)) e13 (g := (mkF m 85 #[.val (.long x0), .second, .val (.long x1), .second, .val (.int x2), .val (.int x3), .val (.int x4), .val (.ref b1), .val (.int (3 : Int32)), .val (.int y9), .val (.int y10), .unset, .unset, .unset] [(.int (3 : Int32))])) rfl (hb hby at_85) rfl (by decide) (cap := 3) (by decide) (by decide) (by decide) (by decide)
    obtain ⟨b35, g35⟩ : ∃ z, z = h13.size := ⟨_, rfl⟩
    rw [← g35] at A35 st35
    have g_b35 : n0 ≤ b35 := Nat.le_trans Z13 (Nat.le_of_eq g35.symm)
    have Z35 : n0 ≤ h35.size := Nat.le_trans Z13 E35.1
    have ne_b1_b35 : b1 ≠ b35 := Nat.ne_of_lt (Nat.lt_of_lt_of_le (V13).lt (Nat.le_of_eq g35.symm))
    have sz_b35 : h0.size ≤ b35 := Nat.le_trans (K13).1 (Nat.le_of_eq g35.symm)
    have K35 : Keep h0 h35 [] := (K13).ext E35
    have V35_b1 := (V13).ext E35
    have V_b35 : own_Ba Z h35 b35 3 (fun _ => 0) := own_Ba.new A35 (by decide)
    refine own_go st35 ?_
    show own_Fin _ _ _ _ T35 (mkF m 87 #[.val (.long x0), .second, .val (.long x1), .second, .val (.int x2), .val (.int x3), .val (.int x4), .val (.ref b1), .val (.int (3 : Int32)), .val (.int y9), .val (.int y10), .unset, .unset, .unset] [(.ref b35)]) _ _ _
    refine own_go (fun _ => XS.astore X35.here hx rfl (hb hby at_87) rfl rfl (l' := #[.val (.long x0), .second, .val (.long x1), .second, .val (.int x2), .val (.int x3), .val (.int x4), .val (.ref b1), .val (.int (3 : Int32)), .val (.int y9), .val (.int y10), .val (.ref b35), .unset, .unset]) rfl) ?_
    show own_Fin _ _ _ _ T35 (mkF m 89 #[.val (.long x0), .second, .val (.long x1), .second, .val (.int x2), .val (.int x3), .val (.int x4), .val (.ref b1), .val (.int (3 : Int32)), .val (.int y9), .val (.int y10), .val (.ref b35), .unset, .unset] []) _ _ _
    refine own_go (fun _ => XS.iload X35.here hx rfl (hb hby at_89) rfl) ?_
    show own_Fin _ _ _ _ T35 (mkF m 91 #[.val (.long x0), .second, .val (.long x1), .second, .val (.int x2), .val (.int x3), .val (.int x4), .val (.ref b1), .val (.int (3 : Int32)), .val (.int y9), .val (.int y10), .val (.ref b35), .unset, .unset] [(.int (3 : Int32))]) _ _ _
    refine own_go (fun _ => XS.ifNo X35.here hx rfl (hb hby at_91) rfl ((if0 _ _).trans (tlt (show (0 : Int32) < (3 : Int32) from (by decide))).2.2.2)) ?_
    show own_Fin _ _ _ _ T35 (mkF m 94 #[.val (.long x0), .second, .val (.long x1), .second, .val (.int x2), .val (.int x3), .val (.int x4), .val (.ref b1), .val (.int (3 : Int32)), .val (.int y9), .val (.int y10), .val (.ref b35), .unset, .unset] []) _ _ _
    refine own_go (fun _ => XS.aload X35.here hx rfl (hb hby at_94) rfl rfl) ?_
    show own_Fin _ _ _ _ T35 (mkF m 96 #[.val (.long x0), .second, .val (.long x1), .second, .val (.int x2), .val (.int x3), .val (.int x4), .val (.ref b1), .val (.int (3 : Int32)), .val (.int y9), .val (.int y10), .val (.ref b35), .unset, .unset] [(.ref b35)]) _ _ _
    refine own_go (fun _ => XS.iconst X35.here hx rfl (hb hby at_96)) ?_
    show own_Fin _ _ _ _ T35 (mkF m 97 #[.val (.long x0), .second, .val (.long x1), .second, .val (.int x2), .val (.int x3), .val (.int x4), .val (.ref b1), .val (.int (3 : Int32)), .val (.int y9), .val (.int y10), .val (.ref b35), .unset, .unset] [(.int (0 : Int32)), (.ref b35)]) _ _ _
    refine own_go (fun _ => XS.aload X35.here hx rfl (hb hby at_97) rfl rfl) ?_
    show own_Fin _ _ _ _ T35 (mkF m 99 #[.val (.long x0), .second, .val (.long x1), .second, .val (.int x2), .val (.int x3), .val (.int x4), .val (.ref b1), .val (.int (3 : Int32)), .val (.int y9), .val (.int y10), .val (.ref b35), .unset, .unset] [(.ref b1), (.int (0 : Int32)), (.ref b35)]) _ _ _
    refine own_go (fun _ => XS.iload X35.here hx rfl (hb hby at_99) rfl) ?_
    show own_Fin _ _ _ _ T35 (mkF m 101 #[.val (.long x0), .second, .val (.long x1), .second, .val (.int x2), .val (.int x3), .val (.int x4), .val (.ref b1), .val (.int (3 : Int32)), .val (.int y9), .val (.int y10), .val (.ref b35), .unset, .unset] [(.int y10), (.ref b1), (.int (0 : Int32)), (.ref b35)]) _ _ _
    refine own_go (fun _ => XS.iconst X35.here hx rfl (hb hby at_101)) ?_
    show own_Fin _ _ _ _ T35 (mkF m 102 #[.val (.long x0), .second, .val (.long x1), .second, .val (.int x2), .val (.int x3), .val (.int x4), .val (.ref b1), .val (.int (3 : Int32)), .val (.int y9), .val (.int y10), .val (.ref b35), .unset, .unset] [(.int (0 : Int32)), (.int y10), (.ref b1), (.int (0 : Int32)), (.ref b35)]) _ _ _
    refine own_go (fun _ => XS.iload X35.here hx rfl (hb hby at_102) rfl) ?_
    show own_Fin _ _ _ _ T35 (mkF m 104 #[.val (.long x0), .second, .val (.long x1), .second, .val (.int x2), .val (.int x3), .val (.int x4), .val (.ref b1), .val (.int (3 : Int32)), .val (.int y9), .val (.int y10), .val (.ref b35), .unset, .unset] [(.int x4), (.int (0 : Int32)), (.int y10), (.ref b1), (.int (0 : Int32)), (.ref b35)]) _ _ _
    refine own_go (fun _ => XS.lloadN X35.here hx rfl (hb hby at_104) rfl) ?_
    show own_Fin _ _ _ _ T35 (mkF m 105 #[.val (.long x0), .second, .val (.long x1), .second, .val (.int x2), .val (.int x3), .val (.int x4), .val (.ref b1), .val (.int (3 : Int32)), .val (.int y9), .val (.int y10), .val (.ref b35), .unset, .unset] [(.long x1), (.int x4), (.int (0 : Int32)), (.int y10), (.ref b1), (.int (0 : Int32)), (.ref b35)]) _ _ _
    obtain ⟨_, _, ⟨T36, L36, k36, n36⟩, -, X36, ⟨Lc36, hQ36, l36, y36, z36⟩, st36⟩ := Jvm.LawKit.callS X35 hx (y := (⟨"com/example/jitlens/jitlens/LogTextStartsWithPinLaw", "textByte", "([BIIIJ)B"⟩ : MethodName)) hown (mvT hZ (hw _ (List.mem_of_getElem? (i := 10) rfl))) (mvT hZ (hw _ (List.mem_of_getElem? (i := 11) rfl))) (mvT hZ (hw _ (List.mem_of_getElem? (i := 3) rfl))) (mvT hZ (hw _ (List.mem_of_getElem? (i := 12) rfl))) (by decide) (backOf (W := 2) (rm3 l Z a0 hw [] b1 y10 (0 : Int32) x4 x1 f13 h35 n0 Z35 V35_b1) hZ (hw _ (List.mem_of_getElem? (i := 12) rfl)) (hw _ (List.mem_of_getElem? (i := 3) rfl)) (by decide) (by decide)) (g := (mkF m 105 #[.val (.long x0), .second, .val (.long x1), .second, .val (.int x2), .val (.int x3), .val (.int x4), .val (.ref b1), .val (.int (3 : Int32)), .val (.int y9), .val (.int y10), .val (.ref b35), .unset, .unset] [(.long x1), (.int x4), (.int (0 : Int32)), (.int y10), (.ref b1), (.int (0 : Int32)), (.ref b35)])) rfl (by rw [hml]; rfl) (argsL := [(.ref b1), (.int y10), (.int (0 : Int32)), (.int x4), (.long x1)]) (rest := [(.int (0 : Int32)), (.ref b35)]) (lenOf pd_2 rfl) rfl (by show 2 * 0 + _ ≤ _; exact Nat.le_of_eq rfl) (hb hby at_105) (fun _ _ => ⟨rfl, e35, (by decide : 2 + 0 ≤ _), (by decide : 9 + 0 ≤ _)⟩)
    dsimp only [Pt.U, Pt.locs, Pt.cells, Pt.slots] at X36 l36 y36 z36 st36 hQ36
    subst l36 y36 z36
    obtain ⟨r36, rfl, N36q, e36⟩ := hQ36
    have N36 := Fr.app N13 N36q
    refine own_go st36 ?_
    show own_Fin _ _ _ _ T36 (mkF m 108 #[.val (.long x0), .second, .val (.long x1), .second, .val (.int x2), .val (.int x3), .val (.int x4), .val (.ref b1), .val (.int (3 : Int32)), .val (.int y9), .val (.int y10), .val (.ref b35), .unset, .unset] [(.int r36), (.int (0 : Int32)), (.ref b35)]) _ _ _
    obtain ⟨T37, h37, X37, e37, W37, V37, st37⟩ := own_bst X36 hx hZ e36 V_b35 (j := (0 : Int32)) 0 (by decide) rfl (by decide) (g := (mkF m 108 #[.val (.long x0), .second, .val (.long x1), .second, .val (.int x2), .val (.int x3), .val (.int x4), .val (.ref b1), .val (.int (3 : Int32)), .val (.int y9), .val (.int y10), .val (.ref b35), .unset, .unset] [(.int r36), (.int (0 : Int32)), (.ref b35)])) rfl rfl (hb hby at_108)
    obtain ⟨f37, hf37⟩ : ∃ f, f = own_up (fun _ => 0) 0 (nar .byte r36) := ⟨_, rfl⟩
    rw [← hf37] at V37
    have V37_b1 := (V35_b1).other W37 ne_b1_b35
    have K37 : Keep h0 h37 [] := (K35).wr W37 (Or.inr sz_b35)
    have N37 := Fr.snoc X37 N36 g_b35
    have Z37 : n0 ≤ h37.size := Nat.le_trans Z35 (Keep.of_wr W37).1
    refine own_go st37 ?_
    show own_Fin _ _ _ _ T37 (mkF m 109 #[.val (.long x0), .second, .val (.long x1), .second, .val (.int x2), .val (.int x3), .val (.int x4), .val (.ref b1), .val (.int (3 : Int32)), .val (.int y9), .val (.int y10), .val (.ref b35), .unset, .unset] []) _ _ _
    refine own_go (fun _ => XS.iload X37.here hx rfl (hb hby at_109) rfl) ?_
    show own_Fin _ _ _ _ T37 (mkF m 111 #[.val (.long x0), .second, .val (.long x1), .second, .val (.int x2), .val (.int x3), .val (.int x4), .val (.ref b1), .val (.int (3 : Int32)), .val (.int y9), .val (.int y10), .val (.ref b35), .unset, .unset] [(.int (3 : Int32))]) _ _ _
    refine own_go (fun _ => XS.iconst X37.here hx rfl (hb hby at_111)) ?_
    show own_Fin _ _ _ _ T37 (mkF m 112 #[.val (.long x0), .second, .val (.long x1), .second, .val (.int x2), .val (.int x3), .val (.int x4), .val (.ref b1), .val (.int (3 : Int32)), .val (.int y9), .val (.int y10), .val (.ref b35), .unset, .unset] [(.int (1 : Int32)), (.int (3 : Int32))]) _ _ _
    refine own_go (fun _ => XS.icmpNo X37.here hx rfl (hb hby at_112) rfl (tlt (show (1 : Int32) < (3 : Int32) from (by decide))).2.2.2) ?_
    show own_Fin _ _ _ _ T37 (mkF m 115 #[.val (.long x0), .second, .val (.long x1), .second, .val (.int x2), .val (.int x3), .val (.int x4), .val (.ref b1), .val (.int (3 : Int32)), .val (.int y9), .val (.int y10), .val (.ref b35), .unset, .unset] []) _ _ _
    refine own_go (fun _ => XS.aload X37.here hx rfl (hb hby at_115) rfl rfl) ?_
    show own_Fin _ _ _ _ T37 (mkF m 117 #[.val (.long x0), .second, .val (.long x1), .second, .val (.int x2), .val (.int x3), .val (.int x4), .val (.ref b1), .val (.int (3 : Int32)), .val (.int y9), .val (.int y10), .val (.ref b35), .unset, .unset] [(.ref b35)]) _ _ _
    refine own_go (fun _ => XS.iconst X37.here hx rfl (hb hby at_117)) ?_
    show own_Fin _ _ _ _ T37 (mkF m 118 #[.val (.long x0), .second, .val (.long x1), .second, .val (.int x2), .val (.int x3), .val (.int x4), .val (.ref b1), .val (.int (3 : Int32)), .val (.int y9), .val (.int y10), .val (.ref b35), .unset, .unset] [(.int (1 : Int32)), (.ref b35)]) _ _ _
    refine own_go (fun _ => XS.aload X37.here hx rfl (hb hby at_118) rfl rfl) ?_
    show own_Fin _ _ _ _ T37 (mkF m 120 #[.val (.long x0), .second, .val (.long x1), .second, .val (.int x2), .val (.int x3), .val (.int x4), .val (.ref b1), .val (.int (3 : Int32)), .val (.int y9), .val (.int y10), .val (.ref b35), .unset, .unset] [(.ref b1), (.int (1 : Int32)), (.ref b35)]) _ _ _
    refine own_go (fun _ => XS.iload X37.here hx rfl (hb hby at_120) rfl) ?_
    show own_Fin _ _ _ _ T37 (mkF m 122 #[.val (.long x0), .second, .val (.long x1), .second, .val (.int x2), .val (.int x3), .val (.int x4), .val (.ref b1), .val (.int (3 : Int32)), .val (.int y9), .val (.int y10), .val (.ref b35), .unset, .unset] [(.int y10), (.ref b1), (.int (1 : Int32)), (.ref b35)]) _ _ _
    refine own_go (fun _ => XS.iconst X37.here hx rfl (hb hby at_122)) ?_
    show own_Fin _ _ _ _ T37 (mkF m 123 #[.val (.long x0), .second, .val (.long x1), .second, .val (.int x2), .val (.int x3), .val (.int x4), .val (.ref b1), .val (.int (3 : Int32)), .val (.int y9), .val (.int y10), .val (.ref b35), .unset, .unset] [(.int (1 : Int32)), (.int y10), (.ref b1), (.int (1 : Int32)), (.ref b35)]) _ _ _
    refine own_go (fun _ => XS.iload X37.here hx rfl (hb hby at_123) rfl) ?_
    show own_Fin _ _ _ _ T37 (mkF m 125 #[.val (.long x0), .second, .val (.long x1), .second, .val (.int x2), .val (.int x3), .val (.int x4), .val (.ref b1), .val (.int (3 : Int32)), .val (.int y9), .val (.int y10), .val (.ref b35), .unset, .unset] [(.int x4), (.int (1 : Int32)), (.int y10), (.ref b1), (.int (1 : Int32)), (.ref b35)]) _ _ _
    refine own_go (fun _ => XS.lloadN X37.here hx rfl (hb hby at_125) rfl) ?_
    show own_Fin _ _ _ _ T37 (mkF m 126 #[.val (.long x0), .second, .val (.long x1), .second, .val (.int x2), .val (.int x3), .val (.int x4), .val (.ref b1), .val (.int (3 : Int32)), .val (.int y9), .val (.int y10), .val (.ref b35), .unset, .unset] [(.long x1), (.int x4), (.int (1 : Int32)), (.int y10), (.ref b1), (.int (1 : Int32)), (.ref b35)]) _ _ _
    obtain ⟨_, _, ⟨T38, L38, k38, n38⟩, -, X38, ⟨Lc38, hQ38, l38, y38, z38⟩, st38⟩ := Jvm.LawKit.callS X37 hx (y := (⟨"com/example/jitlens/jitlens/LogTextStartsWithPinLaw", "textByte", "([BIIIJ)B"⟩ : MethodName)) hown (mvT hZ (hw _ (List.mem_of_getElem? (i := 10) rfl))) (mvT hZ (hw _ (List.mem_of_getElem? (i := 11) rfl))) (mvT hZ (hw _ (List.mem_of_getElem? (i := 3) rfl))) (mvT hZ (hw _ (List.mem_of_getElem? (i := 12) rfl))) (by decide) (backOf (W := 2) (rm3 l Z a0 hw [] b1 y10 (1 : Int32) x4 x1 f13 h37 n0 Z37 V37_b1) hZ (hw _ (List.mem_of_getElem? (i := 12) rfl)) (hw _ (List.mem_of_getElem? (i := 3) rfl)) (by decide) (by decide)) (g := (mkF m 126 #[.val (.long x0), .second, .val (.long x1), .second, .val (.int x2), .val (.int x3), .val (.int x4), .val (.ref b1), .val (.int (3 : Int32)), .val (.int y9), .val (.int y10), .val (.ref b35), .unset, .unset] [(.long x1), (.int x4), (.int (1 : Int32)), (.int y10), (.ref b1), (.int (1 : Int32)), (.ref b35)])) rfl (by rw [hml]; rfl) (argsL := [(.ref b1), (.int y10), (.int (1 : Int32)), (.int x4), (.long x1)]) (rest := [(.int (1 : Int32)), (.ref b35)]) (lenOf pd_2 rfl) rfl (by show 2 * 0 + _ ≤ _; exact Nat.le_of_eq rfl) (hb hby at_126) (fun _ _ => ⟨rfl, e37, (by decide : 2 + 0 ≤ _), (by decide : 9 + 0 ≤ _)⟩)
    dsimp only [Pt.U, Pt.locs, Pt.cells, Pt.slots] at X38 l38 y38 z38 st38 hQ38
    subst l38 y38 z38
    obtain ⟨r38, rfl, N38q, e38⟩ := hQ38
    have N38 := Fr.app N37 N38q
    refine own_go st38 ?_
    show own_Fin _ _ _ _ T38 (mkF m 129 #[.val (.long x0), .second, .val (.long x1), .second, .val (.int x2), .val (.int x3), .val (.int x4), .val (.ref b1), .val (.int (3 : Int32)), .val (.int y9), .val (.int y10), .val (.ref b35), .unset, .unset] [(.int r38), (.int (1 : Int32)), (.ref b35)]) _ _ _
    obtain ⟨T39, h39, X39, e39, W39, V39, st39⟩ := own_bst X38 hx hZ e38 V37 (j := (1 : Int32)) 1 (by decide) rfl (by decide) (g := (mkF m 129 #[.val (.long x0), .second, .val (.long x1), .second, .val (.int x2), .val (.int x3), .val (.int x4), .val (.ref b1), .val (.int (3 : Int32)), .val (.int y9), .val (.int y10), .val (.ref b35), .unset, .unset] [(.int r38), (.int (1 : Int32)), (.ref b35)])) rfl rfl (hb hby at_129)
    obtain ⟨f39, hf39⟩ : ∃ f, f = own_up f37 1 (nar .byte r38) := ⟨_, rfl⟩
    rw [← hf39] at V39
    have V39_b1 := (V37_b1).other W39 ne_b1_b35
    have K39 : Keep h0 h39 [] := (K37).wr W39 (Or.inr sz_b35)
    have N39 := Fr.snoc X39 N38 g_b35
    have Z39 : n0 ≤ h39.size := Nat.le_trans Z37 (Keep.of_wr W39).1
    refine own_go st39 ?_
    show own_Fin _ _ _ _ T39 (mkF m 130 #[.val (.long x0), .second, .val (.long x1), .second, .val (.int x2), .val (.int x3), .val (.int x4), .val (.ref b1), .val (.int (3 : Int32)), .val (.int y9), .val (.int y10), .val (.ref b35), .unset, .unset] []) _ _ _
    refine own_go (fun _ => XS.iload X39.here hx rfl (hb hby at_130) rfl) ?_
    show own_Fin _ _ _ _ T39 (mkF m 132 #[.val (.long x0), .second, .val (.long x1), .second, .val (.int x2), .val (.int x3), .val (.int x4), .val (.ref b1), .val (.int (3 : Int32)), .val (.int y9), .val (.int y10), .val (.ref b35), .unset, .unset] [(.int (3 : Int32))]) _ _ _
    refine own_go (fun _ => XS.iconst X39.here hx rfl (hb hby at_132)) ?_
    show own_Fin _ _ _ _ T39 (mkF m 133 #[.val (.long x0), .second, .val (.long x1), .second, .val (.int x2), .val (.int x3), .val (.int x4), .val (.ref b1), .val (.int (3 : Int32)), .val (.int y9), .val (.int y10), .val (.ref b35), .unset, .unset] [(.int (2 : Int32)), (.int (3 : Int32))]) _ _ _
    refine own_go (fun _ => XS.icmpNo X39.here hx rfl (hb hby at_133) rfl (tlt (show (2 : Int32) < (3 : Int32) from (by decide))).2.2.2) ?_
    show own_Fin _ _ _ _ T39 (mkF m 136 #[.val (.long x0), .second, .val (.long x1), .second, .val (.int x2), .val (.int x3), .val (.int x4), .val (.ref b1), .val (.int (3 : Int32)), .val (.int y9), .val (.int y10), .val (.ref b35), .unset, .unset] []) _ _ _
    refine own_go (fun _ => XS.aload X39.here hx rfl (hb hby at_136) rfl rfl) ?_
    show own_Fin _ _ _ _ T39 (mkF m 138 #[.val (.long x0), .second, .val (.long x1), .second, .val (.int x2), .val (.int x3), .val (.int x4), .val (.ref b1), .val (.int (3 : Int32)), .val (.int y9), .val (.int y10), .val (.ref b35), .unset, .unset] [(.ref b35)]) _ _ _
    refine own_go (fun _ => XS.iconst X39.here hx rfl (hb hby at_138)) ?_
    show own_Fin _ _ _ _ T39 (mkF m 139 #[.val (.long x0), .second, .val (.long x1), .second, .val (.int x2), .val (.int x3), .val (.int x4), .val (.ref b1), .val (.int (3 : Int32)), .val (.int y9), .val (.int y10), .val (.ref b35), .unset, .unset] [(.int (2 : Int32)), (.ref b35)]) _ _ _
    refine own_go (fun _ => XS.aload X39.here hx rfl (hb hby at_139) rfl rfl) ?_
    show own_Fin _ _ _ _ T39 (mkF m 141 #[.val (.long x0), .second, .val (.long x1), .second, .val (.int x2), .val (.int x3), .val (.int x4), .val (.ref b1), .val (.int (3 : Int32)), .val (.int y9), .val (.int y10), .val (.ref b35), .unset, .unset] [(.ref b1), (.int (2 : Int32)), (.ref b35)]) _ _ _
    refine own_go (fun _ => XS.iload X39.here hx rfl (hb hby at_141) rfl) ?_
    show own_Fin _ _ _ _ T39 (mkF m 143 #[.val (.long x0), .second, .val (.long x1), .second, .val (.int x2), .val (.int x3), .val (.int x4), .val (.ref b1), .val (.int (3 : Int32)), .val (.int y9), .val (.int y10), .val (.ref b35), .unset, .unset] [(.int y10), (.ref b1), (.int (2 : Int32)), (.ref b35)]) _ _ _
    refine own_go (fun _ => XS.iconst X39.here hx rfl (hb hby at_143)) ?_
    show own_Fin _ _ _ _ T39 (mkF m 144 #[.val (.long x0), .second, .val (.long x1), .second, .val (.int x2), .val (.int x3), .val (.int x4), .val (.ref b1), .val (.int (3 : Int32)), .val (.int y9), .val (.int y10), .val (.ref b35), .unset, .unset] [(.int (2 : Int32)), (.int y10), (.ref b1), (.int (2 : Int32)), (.ref b35)]) _ _ _
    refine own_go (fun _ => XS.iload X39.here hx rfl (hb hby at_144) rfl) ?_
    show own_Fin _ _ _ _ T39 (mkF m 146 #[.val (.long x0), .second, .val (.long x1), .second, .val (.int x2), .val (.int x3), .val (.int x4), .val (.ref b1), .val (.int (3 : Int32)), .val (.int y9), .val (.int y10), .val (.ref b35), .unset, .unset] [(.int x4), (.int (2 : Int32)), (.int y10), (.ref b1), (.int (2 : Int32)), (.ref b35)]) _ _ _
    refine own_go (fun _ => XS.lloadN X39.here hx rfl (hb hby at_146) rfl) ?_
    show own_Fin _ _ _ _ T39 (mkF m 147 #[.val (.long x0), .second, .val (.long x1), .second, .val (.int x2), .val (.int x3), .val (.int x4), .val (.ref b1), .val (.int (3 : Int32)), .val (.int y9), .val (.int y10), .val (.ref b35), .unset, .unset] [(.long x1), (.int x4), (.int (2 : Int32)), (.int y10), (.ref b1), (.int (2 : Int32)), (.ref b35)]) _ _ _
    obtain ⟨_, _, ⟨T40, L40, k40, n40⟩, -, X40, ⟨Lc40, hQ40, l40, y40, z40⟩, st40⟩ := Jvm.LawKit.callS X39 hx (y := (⟨"com/example/jitlens/jitlens/LogTextStartsWithPinLaw", "textByte", "([BIIIJ)B"⟩ : MethodName)) hown (mvT hZ (hw _ (List.mem_of_getElem? (i := 10) rfl))) (mvT hZ (hw _ (List.mem_of_getElem? (i := 11) rfl))) (mvT hZ (hw _ (List.mem_of_getElem? (i := 3) rfl))) (mvT hZ (hw _ (List.mem_of_getElem? (i := 12) rfl))) (by decide) (backOf (W := 2) (rm3 l Z a0 hw [] b1 y10 (2 : Int32) x4 x1 f13 h39 n0 Z39 V39_b1) hZ (hw _ (List.mem_of_getElem? (i := 12) rfl)) (hw _ (List.mem_of_getElem? (i := 3) rfl)) (by decide) (by decide)) (g := (mkF m 147 #[.val (.long x0), .second, .val (.long x1), .second, .val (.int x2), .val (.int x3), .val (.int x4), .val (.ref b1), .val (.int (3 : Int32)), .val (.int y9), .val (.int y10), .val (.ref b35), .unset, .unset] [(.long x1), (.int x4), (.int (2 : Int32)), (.int y10), (.ref b1), (.int (2 : Int32)), (.ref b35)])) rfl (by rw [hml]; rfl) (argsL := [(.ref b1), (.int y10), (.int (2 : Int32)), (.int x4), (.long x1)]) (rest := [(.int (2 : Int32)), (.ref b35)]) (lenOf pd_2 rfl) rfl (by show 2 * 0 + _ ≤ _; exact Nat.le_of_eq rfl) (hb hby at_147) (fun _ _ => ⟨rfl, e39, (by decide : 2 + 0 ≤ _), (by decide : 9 + 0 ≤ _)⟩)
    dsimp only [Pt.U, Pt.locs, Pt.cells, Pt.slots] at X40 l40 y40 z40 st40 hQ40
    subst l40 y40 z40
    obtain ⟨r40, rfl, N40q, e40⟩ := hQ40
    have N40 := Fr.app N39 N40q
    refine own_go st40 ?_
    show own_Fin _ _ _ _ T40 (mkF m 150 #[.val (.long x0), .second, .val (.long x1), .second, .val (.int x2), .val (.int x3), .val (.int x4), .val (.ref b1), .val (.int (3 : Int32)), .val (.int y9), .val (.int y10), .val (.ref b35), .unset, .unset] [(.int r40), (.int (2 : Int32)), (.ref b35)]) _ _ _
    obtain ⟨T41, h41, X41, e41, W41, V41, st41⟩ := own_bst X40 hx hZ e40 V39 (j := (2 : Int32)) 2 (by decide) rfl (by decide) (g := (mkF m 150 #[.val (.long x0), .second, .val (.long x1), .second, .val (.int x2), .val (.int x3), .val (.int x4), .val (.ref b1), .val (.int (3 : Int32)), .val (.int y9), .val (.int y10), .val (.ref b35), .unset, .unset] [(.int r40), (.int (2 : Int32)), (.ref b35)])) rfl rfl (hb hby at_150)
    obtain ⟨f41, hf41⟩ : ∃ f, f = own_up f39 2 (nar .byte r40) := ⟨_, rfl⟩
    rw [← hf41] at V41
    have V41_b1 := (V39_b1).other W41 ne_b1_b35
    have K41 : Keep h0 h41 [] := (K39).wr W41 (Or.inr sz_b35)
    have N41 := Fr.snoc X41 N40 g_b35
    have Z41 : n0 ≤ h41.size := Nat.le_trans Z39 (Keep.of_wr W41).1
    refine own_go st41 ?_
    show own_Fin _ _ _ _ T41 (mkF m 151 #[.val (.long x0), .second, .val (.long x1), .second, .val (.int x2), .val (.int x3), .val (.int x4), .val (.ref b1), .val (.int (3 : Int32)), .val (.int y9), .val (.int y10), .val (.ref b35), .unset, .unset] []) _ _ _
    refine own_go (fun _ => XS.iload X41.here hx rfl (hb hby at_151) rfl) ?_
    show own_Fin _ _ _ _ T41 (mkF m 153 #[.val (.long x0), .second, .val (.long x1), .second, .val (.int x2), .val (.int x3), .val (.int x4), .val (.ref b1), .val (.int (3 : Int32)), .val (.int y9), .val (.int y10), .val (.ref b35), .unset, .unset] [(.int y10)]) _ _ _
    by_cases h153 : y10 < (0 : Int32)
    · refine own_go (fun _ => XS.ifYes X41.here hx rfl (pc0 := 153) (pc' := 228) rfl (hb hby at_153) rfl ((if0 _ _).trans (tlt h153).1) (by decide) (by decide)) ?_
      show own_Fin _ _ _ _ T41 (mkF m 228 #[.val (.long x0), .second, .val (.long x1), .second, .val (.int x2), .val (.int x3), .val (.int x4), .val (.ref b1), .val (.int (3 : Int32)), .val (.int y9), .val (.int y10), .val (.ref b35), .unset, .unset] []) _ _ _
      refine own_go (fun _ => XS.iconst X41.here hx rfl (hb hby at_228)) ?_
      show own_Fin _ _ _ _ T41 (mkF m 229 #[.val (.long x0), .second, .val (.long x1), .second, .val (.int x2), .val (.int x3), .val (.int x4), .val (.ref b1), .val (.int (3 : Int32)), .val (.int y9), .val (.int y10), .val (.ref b35), .unset, .unset] [(.int (0 : Int32))]) _ _ _
      refine own_go (fun _ => XS.istore X41.here hx rfl (hb hby at_229) rfl (l' := #[.val (.long x0), .second, .val (.long x1), .second, .val (.int x2), .val (.int x3), .val (.int x4), .val (.ref b1), .val (.int (3 : Int32)), .val (.int y9), .val (.int y10), .val (.ref b35), .val (.int (0 : Int32)), .unset]) rfl) ?_
      show own_Fin _ _ _ _ T41 (mkF m 231 #[.val (.long x0), .second, .val (.long x1), .second, .val (.int x2), .val (.int x3), .val (.int x4), .val (.ref b1), .val (.int (3 : Int32)), .val (.int y9), .val (.int y10), .val (.ref b35), .val (.int (0 : Int32)), .unset] []) _ _ _
      refine own_go (fun _ => XS.aload X41.here hx rfl (hb hby at_231) rfl rfl) ?_
      show own_Fin _ _ _ _ T41 (mkF m 233 #[.val (.long x0), .second, .val (.long x1), .second, .val (.int x2), .val (.int x3), .val (.int x4), .val (.ref b1), .val (.int (3 : Int32)), .val (.int y9), .val (.int y10), .val (.ref b35), .val (.int (0 : Int32)), .unset] [(.ref b1)]) _ _ _
      refine own_go (fun _ => XS.iload X41.here hx rfl (hb hby at_233) rfl) ?_
      show own_Fin _ _ _ _ T41 (mkF m 235 #[.val (.long x0), .second, .val (.long x1), .second, .val (.int x2), .val (.int x3), .val (.int x4), .val (.ref b1), .val (.int (3 : Int32)), .val (.int y9), .val (.int y10), .val (.ref b35), .val (.int (0 : Int32)), .unset] [(.int y10), (.ref b1)]) _ _ _
      refine own_go (fun _ => XS.iload X41.here hx rfl (hb hby at_235) rfl) ?_
      show own_Fin _ _ _ _ T41 (mkF m 237 #[.val (.long x0), .second, .val (.long x1), .second, .val (.int x2), .val (.int x3), .val (.int x4), .val (.ref b1), .val (.int (3 : Int32)), .val (.int y9), .val (.int y10), .val (.ref b35), .val (.int (0 : Int32)), .unset] [(.int y9), (.int y10), (.ref b1)]) _ _ _
      refine own_go (fun _ => XS.aload X41.here hx rfl (hb hby at_237) rfl rfl) ?_
      show own_Fin _ _ _ _ T41 (mkF m 239 #[.val (.long x0), .second, .val (.long x1), .second, .val (.int x2), .val (.int x3), .val (.int x4), .val (.ref b1), .val (.int (3 : Int32)), .val (.int y9), .val (.int y10), .val (.ref b35), .val (.int (0 : Int32)), .unset] [(.ref b35), (.int y9), (.int y10), (.ref b1)]) _ _ _
      obtain ⟨_, _, ⟨T42, L42, k42, n42⟩, -, X42, ⟨Lc42, hQ42, l42, y42, z42⟩, st42⟩ := Jvm.LawKit.callS X41 hx (y := (⟨"com/example/jitlens/jitlens/LogText", "startsWith", "([BII[B)Z"⟩ : MethodName)) hown (mvT hZ (hw _ (List.mem_of_getElem? (i := 6) rfl))) (mvT hZ (hw _ (List.mem_of_getElem? (i := 7) rfl))) (mvT hZ (hw _ (List.mem_of_getElem? (i := 8) rfl))) (mvT hZ (hw _ (List.mem_of_getElem? (i := 9) rfl))) (by decide) (backOf (W := 0) (rm2_3 l Z a0 hw [] b1 y10 y9 b35 f13 f41 h41 n0 Z41 V41_b1 V41 hat hto) hZ (hw _ (List.mem_of_getElem? (i := 9) rfl)) (hw _ (List.mem_of_getElem? (i := 8) rfl)) (by decide) (by decide)) (g := (mkF m 239 #[.val (.long x0), .second, .val (.long x1), .second, .val (.int x2), .val (.int x3), .val (.int x4), .val (.ref b1), .val (.int (3 : Int32)), .val (.int y9), .val (.int y10), .val (.ref b35), .val (.int (0 : Int32)), .unset] [(.ref b35), (.int y9), (.int y10), (.ref b1)])) rfl (by rw [hml]; rfl) (argsL := [(.ref b1), (.int y10), (.int y9), (.ref b35)]) (rest := []) (lenOf pd_1 rfl) rfl (by show 2 * 0 + _ ≤ _; exact Nat.le_of_eq rfl) (hb hby at_239) (fun _ _ => ⟨rfl, e41, (by decide : 2 + 0 ≤ _), (by decide : 9 + 0 ≤ _)⟩)
      dsimp only [Pt.U, Pt.locs, Pt.cells, Pt.slots] at X42 l42 y42 z42 st42 hQ42
      subst l42 y42 z42
      obtain ⟨rfl, N42q, e42⟩ := hQ42
      have N42 := Fr.app N41 N42q
      refine own_go st42 ?_
      show own_Fin _ _ _ _ T42 (mkF m 242 #[.val (.long x0), .second, .val (.long x1), .second, .val (.int x2), .val (.int x3), .val (.int x4), .val (.ref b1), .val (.int (3 : Int32)), .val (.int y9), .val (.int y10), .val (.ref b35), .val (.int (0 : Int32)), .unset] [(.int (own_sw3 y10 y9 f13 f41))]) _ _ _
      refine own_go (fun _ => XS.istore X42.here hx rfl (hb hby at_242) rfl (l' := #[.val (.long x0), .second, .val (.long x1), .second, .val (.int x2), .val (.int x3), .val (.int x4), .val (.ref b1), .val (.int (3 : Int32)), .val (.int y9), .val (.int y10), .val (.ref b35), .val (.int (0 : Int32)), .val (.int (own_sw3 y10 y9 f13 f41))]) rfl) ?_
      show own_Fin _ _ _ _ T42 (mkF m 244 #[.val (.long x0), .second, .val (.long x1), .second, .val (.int x2), .val (.int x3), .val (.int x4), .val (.ref b1), .val (.int (3 : Int32)), .val (.int y9), .val (.int y10), .val (.ref b35), .val (.int (0 : Int32)), .val (.int (own_sw3 y10 y9 f13 f41))] []) _ _ _
      refine own_go (fun _ => XS.iload X42.here hx rfl (hb hby at_244) rfl) ?_
      show own_Fin _ _ _ _ T42 (mkF m 246 #[.val (.long x0), .second, .val (.long x1), .second, .val (.int x2), .val (.int x3), .val (.int x4), .val (.ref b1), .val (.int (3 : Int32)), .val (.int y9), .val (.int y10), .val (.ref b35), .val (.int (0 : Int32)), .val (.int (own_sw3 y10 y9 f13 f41))] [(.int (own_sw3 y10 y9 f13 f41))]) _ _ _
      refine own_go (fun _ => XS.iload X42.here hx rfl (hb hby at_246) rfl) ?_
      show own_Fin _ _ _ _ T42 (mkF m 248 #[.val (.long x0), .second, .val (.long x1), .second, .val (.int x2), .val (.int x3), .val (.int x4), .val (.ref b1), .val (.int (3 : Int32)), .val (.int y9), .val (.int y10), .val (.ref b35), .val (.int (0 : Int32)), .val (.int (own_sw3 y10 y9 f13 f41))] [(.int (0 : Int32)), (.int (own_sw3 y10 y9 f13 f41))]) _ _ _
      refine own_go (fun _ => XS.icmpNo X42.here hx rfl (hb hby at_248) rfl (teq (show (own_sw3 y10 y9 f13 f41) = (0 : Int32) from by simp only [own_sw3, if_pos h153])).2) ?_
      show own_Fin _ _ _ _ T42 (mkF m 251 #[.val (.long x0), .second, .val (.long x1), .second, .val (.int x2), .val (.int x3), .val (.int x4), .val (.ref b1), .val (.int (3 : Int32)), .val (.int y9), .val (.int y10), .val (.ref b35), .val (.int (0 : Int32)), .val (.int (own_sw3 y10 y9 f13 f41))] []) _ _ _
      refine own_go (fun _ => XS.iconst X42.here hx rfl (hb hby at_251)) ?_
      show own_Fin _ _ _ _ T42 (mkF m 252 #[.val (.long x0), .second, .val (.long x1), .second, .val (.int x2), .val (.int x3), .val (.int x4), .val (.ref b1), .val (.int (3 : Int32)), .val (.int y9), .val (.int y10), .val (.ref b35), .val (.int (0 : Int32)), .val (.int (own_sw3 y10 y9 f13 f41))] [(.int (1 : Int32))]) _ _ _
      refine own_go (fun _ => XS.goto X42.here hx rfl (pc0 := 252) (pc' := 256) rfl (hb hby at_252) (by decide) (by decide)) ?_
      show own_Fin _ _ _ _ T42 (mkF m 256 #[.val (.long x0), .second, .val (.long x1), .second, .val (.int x2), .val (.int x3), .val (.int x4), .val (.ref b1), .val (.int (3 : Int32)), .val (.int y9), .val (.int y10), .val (.ref b35), .val (.int (0 : Int32)), .val (.int (own_sw3 y10 y9 f13 f41))] [(.int (1 : Int32))]) _ _ _
      exact own_retZ X42 hx hnl (t := .boolean) hret (by simp) (hb hby at_256) (by decide) (by decide) ⟨rfl, N42⟩
    · refine own_go (fun _ => XS.ifNo X41.here hx rfl (hb hby at_153) rfl ((if0 _ _).trans (flt h153).1)) ?_
      show own_Fin _ _ _ _ T41 (mkF m 156 #[.val (.long x0), .second, .val (.long x1), .second, .val (.int x2), .val (.int x3), .val (.int x4), .val (.ref b1), .val (.int (3 : Int32)), .val (.int y9), .val (.int y10), .val (.ref b35), .unset, .unset] []) _ _ _
      refine own_go (fun _ => XS.iload X41.here hx rfl (hb hby at_156) rfl) ?_
      show own_Fin _ _ _ _ T41 (mkF m 158 #[.val (.long x0), .second, .val (.long x1), .second, .val (.int x2), .val (.int x3), .val (.int x4), .val (.ref b1), .val (.int (3 : Int32)), .val (.int y9), .val (.int y10), .val (.ref b35), .unset, .unset] [(.int y10)]) _ _ _
      refine own_go (fun _ => XS.iload X41.here hx rfl (hb hby at_158) rfl) ?_
      show own_Fin _ _ _ _ T41 (mkF m 160 #[.val (.long x0), .second, .val (.long x1), .second, .val (.int x2), .val (.int x3), .val (.int x4), .val (.ref b1), .val (.int (3 : Int32)), .val (.int y9), .val (.int y10), .val (.ref b35), .unset, .unset] [(.int (3 : Int32)), (.int y10)]) _ _ _
      refine own_go (fun _ => XS.iadd X41.here hx rfl (hb hby at_160) rfl) ?_
      show own_Fin _ _ _ _ T41 (mkF m 161 #[.val (.long x0), .second, .val (.long x1), .second, .val (.int x2), .val (.int x3), .val (.int x4), .val (.ref b1), .val (.int (3 : Int32)), .val (.int y9), .val (.int y10), .val (.ref b35), .unset, .unset] [(.int (y10 + (3 : Int32)))]) _ _ _
      refine own_go (fun _ => XS.iload X41.here hx rfl (hb hby at_161) rfl) ?_
      show own_Fin _ _ _ _ T41 (mkF m 163 #[.val (.long x0), .second, .val (.long x1), .second, .val (.int x2), .val (.int x3), .val (.int x4), .val (.ref b1), .val (.int (3 : Int32)), .val (.int y9), .val (.int y10), .val (.ref b35), .unset, .unset] [(.int y9), (.int (y10 + (3 : Int32)))]) _ _ _
      by_cases h163 : y9 < (y10 + (3 : Int32))
      · refine own_go (fun _ => XS.icmpYes X41.here hx rfl (pc0 := 163) (pc' := 228) rfl (hb hby at_163) rfl (tlt h163).2.2.1 (by decide) (by decide)) ?_
        show own_Fin _ _ _ _ T41 (mkF m 228 #[.val (.long x0), .second, .val (.long x1), .second, .val (.int x2), .val (.int x3), .val (.int x4), .val (.ref b1), .val (.int (3 : Int32)), .val (.int y9), .val (.int y10), .val (.ref b35), .unset, .unset] []) _ _ _
        refine own_go (fun _ => XS.iconst X41.here hx rfl (hb hby at_228)) ?_
        show own_Fin _ _ _ _ T41 (mkF m 229 #[.val (.long x0), .second, .val (.long x1), .second, .val (.int x2), .val (.int x3), .val (.int x4), .val (.ref b1), .val (.int (3 : Int32)), .val (.int y9), .val (.int y10), .val (.ref b35), .unset, .unset] [(.int (0 : Int32))]) _ _ _
        refine own_go (fun _ => XS.istore X41.here hx rfl (hb hby at_229) rfl (l' := #[.val (.long x0), .second, .val (.long x1), .second, .val (.int x2), .val (.int x3), .val (.int x4), .val (.ref b1), .val (.int (3 : Int32)), .val (.int y9), .val (.int y10), .val (.ref b35), .val (.int (0 : Int32)), .unset]) rfl) ?_
        show own_Fin _ _ _ _ T41 (mkF m 231 #[.val (.long x0), .second, .val (.long x1), .second, .val (.int x2), .val (.int x3), .val (.int x4), .val (.ref b1), .val (.int (3 : Int32)), .val (.int y9), .val (.int y10), .val (.ref b35), .val (.int (0 : Int32)), .unset] []) _ _ _
        refine own_go (fun _ => XS.aload X41.here hx rfl (hb hby at_231) rfl rfl) ?_
        show own_Fin _ _ _ _ T41 (mkF m 233 #[.val (.long x0), .second, .val (.long x1), .second, .val (.int x2), .val (.int x3), .val (.int x4), .val (.ref b1), .val (.int (3 : Int32)), .val (.int y9), .val (.int y10), .val (.ref b35), .val (.int (0 : Int32)), .unset] [(.ref b1)]) _ _ _
        refine own_go (fun _ => XS.iload X41.here hx rfl (hb hby at_233) rfl) ?_
        show own_Fin _ _ _ _ T41 (mkF m 235 #[.val (.long x0), .second, .val (.long x1), .second, .val (.int x2), .val (.int x3), .val (.int x4), .val (.ref b1), .val (.int (3 : Int32)), .val (.int y9), .val (.int y10), .val (.ref b35), .val (.int (0 : Int32)), .unset] [(.int y10), (.ref b1)]) _ _ _
        refine own_go (fun _ => XS.iload X41.here hx rfl (hb hby at_235) rfl) ?_
        show own_Fin _ _ _ _ T41 (mkF m 237 #[.val (.long x0), .second, .val (.long x1), .second, .val (.int x2), .val (.int x3), .val (.int x4), .val (.ref b1), .val (.int (3 : Int32)), .val (.int y9), .val (.int y10), .val (.ref b35), .val (.int (0 : Int32)), .unset] [(.int y9), (.int y10), (.ref b1)]) _ _ _
        refine own_go (fun _ => XS.aload X41.here hx rfl (hb hby at_237) rfl rfl) ?_
        show own_Fin _ _ _ _ T41 (mkF m 239 #[.val (.long x0), .second, .val (.long x1), .second, .val (.int x2), .val (.int x3), .val (.int x4), .val (.ref b1), .val (.int (3 : Int32)), .val (.int y9), .val (.int y10), .val (.ref b35), .val (.int (0 : Int32)), .unset] [(.ref b35), (.int y9), (.int y10), (.ref b1)]) _ _ _
        obtain ⟨_, _, ⟨T43, L43, k43, n43⟩, -, X43, ⟨Lc43, hQ43, l43, y43, z43⟩, st43⟩ := Jvm.LawKit.callS X41 hx (y := (⟨"com/example/jitlens/jitlens/LogText", "startsWith", "([BII[B)Z"⟩ : MethodName)) hown (mvT hZ (hw _ (List.mem_of_getElem? (i := 6) rfl))) (mvT hZ (hw _ (List.mem_of_getElem? (i := 7) rfl))) (mvT hZ (hw _ (List.mem_of_getElem? (i := 8) rfl))) (mvT hZ (hw _ (List.mem_of_getElem? (i := 9) rfl))) (by decide) (backOf (W := 0) (rm2_3 l Z a0 hw [] b1 y10 y9 b35 f13 f41 h41 n0 Z41 V41_b1 V41 hat hto) hZ (hw _ (List.mem_of_getElem? (i := 9) rfl)) (hw _ (List.mem_of_getElem? (i := 8) rfl)) (by decide) (by decide)) (g := (mkF m 239 #[.val (.long x0), .second, .val (.long x1), .second, .val (.int x2), .val (.int x3), .val (.int x4), .val (.ref b1), .val (.int (3 : Int32)), .val (.int y9), .val (.int y10), .val (.ref b35), .val (.int (0 : Int32)), .unset] [(.ref b35), (.int y9), (.int y10), (.ref b1)])) rfl (by rw [hml]; rfl) (argsL := [(.ref b1), (.int y10), (.int y9), (.ref b35)]) (rest := []) (lenOf pd_1 rfl) rfl (by show 2 * 0 + _ ≤ _; exact Nat.le_of_eq rfl) (hb hby at_239) (fun _ _ => ⟨rfl, e41, (by decide : 2 + 0 ≤ _), (by decide : 9 + 0 ≤ _)⟩)
        dsimp only [Pt.U, Pt.locs, Pt.cells, Pt.slots] at X43 l43 y43 z43 st43 hQ43
        subst l43 y43 z43
        obtain ⟨rfl, N43q, e43⟩ := hQ43
        have N43 := Fr.app N41 N43q
        refine own_go st43 ?_
        show own_Fin _ _ _ _ T43 (mkF m 242 #[.val (.long x0), .second, .val (.long x1), .second, .val (.int x2), .val (.int x3), .val (.int x4), .val (.ref b1), .val (.int (3 : Int32)), .val (.int y9), .val (.int y10), .val (.ref b35), .val (.int (0 : Int32)), .unset] [(.int (own_sw3 y10 y9 f13 f41))]) _ _ _
        refine own_go (fun _ => XS.istore X43.here hx rfl (hb hby at_242) rfl (l' := #[.val (.long x0), .second, .val (.long x1), .second, .val (.int x2), .val (.int x3), .val (.int x4), .val (.ref b1), .val (.int (3 : Int32)), .val (.int y9), .val (.int y10), .val (.ref b35), .val (.int (0 : Int32)), .val (.int (own_sw3 y10 y9 f13 f41))]) rfl) ?_
        show own_Fin _ _ _ _ T43 (mkF m 244 #[.val (.long x0), .second, .val (.long x1), .second, .val (.int x2), .val (.int x3), .val (.int x4), .val (.ref b1), .val (.int (3 : Int32)), .val (.int y9), .val (.int y10), .val (.ref b35), .val (.int (0 : Int32)), .val (.int (own_sw3 y10 y9 f13 f41))] []) _ _ _
        refine own_go (fun _ => XS.iload X43.here hx rfl (hb hby at_244) rfl) ?_
        show own_Fin _ _ _ _ T43 (mkF m 246 #[.val (.long x0), .second, .val (.long x1), .second, .val (.int x2), .val (.int x3), .val (.int x4), .val (.ref b1), .val (.int (3 : Int32)), .val (.int y9), .val (.int y10), .val (.ref b35), .val (.int (0 : Int32)), .val (.int (own_sw3 y10 y9 f13 f41))] [(.int (own_sw3 y10 y9 f13 f41))]) _ _ _
        refine own_go (fun _ => XS.iload X43.here hx rfl (hb hby at_246) rfl) ?_
        show own_Fin _ _ _ _ T43 (mkF m 248 #[.val (.long x0), .second, .val (.long x1), .second, .val (.int x2), .val (.int x3), .val (.int x4), .val (.ref b1), .val (.int (3 : Int32)), .val (.int y9), .val (.int y10), .val (.ref b35), .val (.int (0 : Int32)), .val (.int (own_sw3 y10 y9 f13 f41))] [(.int (0 : Int32)), (.int (own_sw3 y10 y9 f13 f41))]) _ _ _
        refine own_go (fun _ => XS.icmpNo X43.here hx rfl (hb hby at_248) rfl (teq (show (own_sw3 y10 y9 f13 f41) = (0 : Int32) from by simp only [own_sw3, if_neg h153, if_pos h163])).2) ?_
        show own_Fin _ _ _ _ T43 (mkF m 251 #[.val (.long x0), .second, .val (.long x1), .second, .val (.int x2), .val (.int x3), .val (.int x4), .val (.ref b1), .val (.int (3 : Int32)), .val (.int y9), .val (.int y10), .val (.ref b35), .val (.int (0 : Int32)), .val (.int (own_sw3 y10 y9 f13 f41))] []) _ _ _
        refine own_go (fun _ => XS.iconst X43.here hx rfl (hb hby at_251)) ?_
        show own_Fin _ _ _ _ T43 (mkF m 252 #[.val (.long x0), .second, .val (.long x1), .second, .val (.int x2), .val (.int x3), .val (.int x4), .val (.ref b1), .val (.int (3 : Int32)), .val (.int y9), .val (.int y10), .val (.ref b35), .val (.int (0 : Int32)), .val (.int (own_sw3 y10 y9 f13 f41))] [(.int (1 : Int32))]) _ _ _
        refine own_go (fun _ => XS.goto X43.here hx rfl (pc0 := 252) (pc' := 256) rfl (hb hby at_252) (by decide) (by decide)) ?_
        show own_Fin _ _ _ _ T43 (mkF m 256 #[.val (.long x0), .second, .val (.long x1), .second, .val (.int x2), .val (.int x3), .val (.int x4), .val (.ref b1), .val (.int (3 : Int32)), .val (.int y9), .val (.int y10), .val (.ref b35), .val (.int (0 : Int32)), .val (.int (own_sw3 y10 y9 f13 f41))] [(.int (1 : Int32))]) _ _ _
        exact own_retZ X43 hx hnl (t := .boolean) hret (by simp) (hb hby at_256) (by decide) (by decide) ⟨rfl, N43⟩
      · refine own_go (fun _ => XS.icmpNo X41.here hx rfl (hb hby at_163) rfl (flt h163).2.2.1) ?_
        show own_Fin _ _ _ _ T41 (mkF m 166 #[.val (.long x0), .second, .val (.long x1), .second, .val (.int x2), .val (.int x3), .val (.int x4), .val (.ref b1), .val (.int (3 : Int32)), .val (.int y9), .val (.int y10), .val (.ref b35), .unset, .unset] []) _ _ _
        refine own_go (fun _ => XS.iload X41.here hx rfl (hb hby at_166) rfl) ?_
        show own_Fin _ _ _ _ T41 (mkF m 168 #[.val (.long x0), .second, .val (.long x1), .second, .val (.int x2), .val (.int x3), .val (.int x4), .val (.ref b1), .val (.int (3 : Int32)), .val (.int y9), .val (.int y10), .val (.ref b35), .unset, .unset] [(.int (3 : Int32))]) _ _ _
        refine own_go (fun _ => XS.iconst X41.here hx rfl (hb hby at_168)) ?_
        show own_Fin _ _ _ _ T41 (mkF m 169 #[.val (.long x0), .second, .val (.long x1), .second, .val (.int x2), .val (.int x3), .val (.int x4), .val (.ref b1), .val (.int (3 : Int32)), .val (.int y9), .val (.int y10), .val (.ref b35), .unset, .unset] [(.int (1 : Int32)), (.int (3 : Int32))]) _ _ _
        refine own_go (fun _ => XS.icmpNo X41.here hx rfl (hb hby at_169) rfl (flt (show ¬ ((3 : Int32) < (1 : Int32)) from (by decide))).1) ?_
        show own_Fin _ _ _ _ T41 (mkF m 172 #[.val (.long x0), .second, .val (.long x1), .second, .val (.int x2), .val (.int x3), .val (.int x4), .val (.ref b1), .val (.int (3 : Int32)), .val (.int y9), .val (.int y10), .val (.ref b35), .unset, .unset] []) _ _ _
        refine own_go (fun _ => XS.aload X41.here hx rfl (hb hby at_172) rfl rfl) ?_
        show own_Fin _ _ _ _ T41 (mkF m 174 #[.val (.long x0), .second, .val (.long x1), .second, .val (.int x2), .val (.int x3), .val (.int x4), .val (.ref b1), .val (.int (3 : Int32)), .val (.int y9), .val (.int y10), .val (.ref b35), .unset, .unset] [(.ref b1)]) _ _ _
        refine own_go (fun _ => XS.iload X41.here hx rfl (hb hby at_174) rfl) ?_
        show own_Fin _ _ _ _ T41 (mkF m 176 #[.val (.long x0), .second, .val (.long x1), .second, .val (.int x2), .val (.int x3), .val (.int x4), .val (.ref b1), .val (.int (3 : Int32)), .val (.int y9), .val (.int y10), .val (.ref b35), .unset, .unset] [(.int y10), (.ref b1)]) _ _ _
        refine own_go (own_bld X41 hx hZ e41 V41_b1 (j := y10) y10.toNatClampNeg h153 rfl (by have := (own_ix (i := 0) (N := 3) h153 hat h163 hto (by decide)).2; rwa [Int32.add_zero] at this) rfl rfl (hb hby at_176)) ?_
        show own_Fin _ _ _ _ T41 (mkF m 177 #[.val (.long x0), .second, .val (.long x1), .second, .val (.int x2), .val (.int x3), .val (.int x4), .val (.ref b1), .val (.int (3 : Int32)), .val (.int y9), .val (.int y10), .val (.ref b35), .unset, .unset] [(.int (f13 y10.toNatClampNeg))]) _ _ _
        refine own_go (fun _ => XS.aload X41.here hx rfl (hb hby at_177) rfl rfl) ?_
        show own_Fin _ _ _ _ T41 (mkF m 179 #[.val (.long x0), .second, .val (.long x1), .second, .val (.int x2), .val (.int x3), .val (.int x4), .val (.ref b1), .val (.int (3 : Int32)), .val (.int y9), .val (.int y10), .val (.ref b35), .unset, .unset] [(.ref b35), (.int (f13 y10.toNatClampNeg))]) _ _ _
        refine own_go (fun _ => XS.iconst X41.here hx rfl (hb hby at_179)) ?_
        show own_Fin _ _ _ _ T41 (mkF m 180 #[.val (.long x0), .second, .val (.long x1), .second, .val (.int x2), .val (.int x3), .val (.int x4), .val (.ref b1), .val (.int (3 : Int32)), .val (.int y9), .val (.int y10), .val (.ref b35), .unset, .unset] [(.int (0 : Int32)), (.ref b35), (.int (f13 y10.toNatClampNeg))]) _ _ _
        refine own_go (own_bld X41 hx hZ e41 V41 (j := (0 : Int32)) 0 (by decide) rfl (by decide) rfl rfl (hb hby at_180)) ?_
        show own_Fin _ _ _ _ T41 (mkF m 181 #[.val (.long x0), .second, .val (.long x1), .second, .val (.int x2), .val (.int x3), .val (.int x4), .val (.ref b1), .val (.int (3 : Int32)), .val (.int y9), .val (.int y10), .val (.ref b35), .unset, .unset] [(.int (f41 0)), (.int (f13 y10.toNatClampNeg))]) _ _ _
        by_cases h181 : (f13 y10.toNatClampNeg) = (f41 0)
        · refine own_go (fun _ => XS.icmpNo X41.here hx rfl (hb hby at_181) rfl (teq h181).2) ?_
          show own_Fin _ _ _ _ T41 (mkF m 184 #[.val (.long x0), .second, .val (.long x1), .second, .val (.int x2), .val (.int x3), .val (.int x4), .val (.ref b1), .val (.int (3 : Int32)), .val (.int y9), .val (.int y10), .val (.ref b35), .unset, .unset] []) _ _ _
          refine own_go (fun _ => XS.iload X41.here hx rfl (hb hby at_184) rfl) ?_
          show own_Fin _ _ _ _ T41 (mkF m 186 #[.val (.long x0), .second, .val (.long x1), .second, .val (.int x2), .val (.int x3), .val (.int x4), .val (.ref b1), .val (.int (3 : Int32)), .val (.int y9), .val (.int y10), .val (.ref b35), .unset, .unset] [(.int (3 : Int32))]) _ _ _
          refine own_go (fun _ => XS.iconst X41.here hx rfl (hb hby at_186)) ?_
          show own_Fin _ _ _ _ T41 (mkF m 187 #[.val (.long x0), .second, .val (.long x1), .second, .val (.int x2), .val (.int x3), .val (.int x4), .val (.ref b1), .val (.int (3 : Int32)), .val (.int y9), .val (.int y10), .val (.ref b35), .unset, .unset] [(.int (2 : Int32)), (.int (3 : Int32))]) _ _ _
          refine own_go (fun _ => XS.icmpNo X41.here hx rfl (hb hby at_187) rfl (flt (show ¬ ((3 : Int32) < (2 : Int32)) from (by decide))).1) ?_
          show own_Fin _ _ _ _ T41 (mkF m 190 #[.val (.long x0), .second, .val (.long x1), .second, .val (.int x2), .val (.int x3), .val (.int x4), .val (.ref b1), .val (.int (3 : Int32)), .val (.int y9), .val (.int y10), .val (.ref b35), .unset, .unset] []) _ _ _
          refine own_go (fun _ => XS.aload X41.here hx rfl (hb hby at_190) rfl rfl) ?_
          show own_Fin _ _ _ _ T41 (mkF m 192 #[.val (.long x0), .second, .val (.long x1), .second, .val (.int x2), .val (.int x3), .val (.int x4), .val (.ref b1), .val (.int (3 : Int32)), .val (.int y9), .val (.int y10), .val (.ref b35), .unset, .unset] [(.ref b1)]) _ _ _
          refine own_go (fun _ => XS.iload X41.here hx rfl (hb hby at_192) rfl) ?_
          show own_Fin _ _ _ _ T41 (mkF m 194 #[.val (.long x0), .second, .val (.long x1), .second, .val (.int x2), .val (.int x3), .val (.int x4), .val (.ref b1), .val (.int (3 : Int32)), .val (.int y9), .val (.int y10), .val (.ref b35), .unset, .unset] [(.int y10), (.ref b1)]) _ _ _
          refine own_go (fun _ => XS.iconst X41.here hx rfl (hb hby at_194)) ?_
          show own_Fin _ _ _ _ T41 (mkF m 195 #[.val (.long x0), .second, .val (.long x1), .second, .val (.int x2), .val (.int x3), .val (.int x4), .val (.ref b1), .val (.int (3 : Int32)), .val (.int y9), .val (.int y10), .val (.ref b35), .unset, .unset] [(.int (1 : Int32)), (.int y10), (.ref b1)]) _ _ _
          refine own_go (fun _ => XS.iadd X41.here hx rfl (hb hby at_195) rfl) ?_
          show own_Fin _ _ _ _ T41 (mkF m 196 #[.val (.long x0), .second, .val (.long x1), .second, .val (.int x2), .val (.int x3), .val (.int x4), .val (.ref b1), .val (.int (3 : Int32)), .val (.int y9), .val (.int y10), .val (.ref b35), .unset, .unset] [(.int (y10 + (1 : Int32))), (.ref b1)]) _ _ _
          refine own_go (own_bld X41 hx hZ e41 V41_b1 (j := (y10 + (1 : Int32))) (y10 + 1).toNatClampNeg (own_ix (i := 1) (N := 3) h153 hat h163 hto (by decide)).1 rfl (own_ix (i := 1) (N := 3) h153 hat h163 hto (by decide)).2 rfl rfl (hb hby at_196)) ?_
          show own_Fin _ _ _ _ T41 (mkF m 197 #[.val (.long x0), .second, .val (.long x1), .second, .val (.int x2), .val (.int x3), .val (.int x4), .val (.ref b1), .val (.int (3 : Int32)), .val (.int y9), .val (.int y10), .val (.ref b35), .unset, .unset] [(.int (f13 (y10 + 1).toNatClampNeg))]) _ _ _
          refine own_go (fun _ => XS.aload X41.here hx rfl (hb hby at_197) rfl rfl) ?_
          show own_Fin _ _ _ _ T41 (mkF m 199 #[.val (.long x0), .second, .val (.long x1), .second, .val (.int x2), .val (.int x3), .val (.int x4), .val (.ref b1), .val (.int (3 : Int32)), .val (.int y9), .val (.int y10), .val (.ref b35), .unset, .unset] [(.ref b35), (.int (f13 (y10 + 1).toNatClampNeg))]) _ _ _
          refine own_go (fun _ => XS.iconst X41.here hx rfl (hb hby at_199)) ?_
          show own_Fin _ _ _ _ T41 (mkF m 200 #[.val (.long x0), .second, .val (.long x1), .second, .val (.int x2), .val (.int x3), .val (.int x4), .val (.ref b1), .val (.int (3 : Int32)), .val (.int y9), .val (.int y10), .val (.ref b35), .unset, .unset] [(.int (1 : Int32)), (.ref b35), (.int (f13 (y10 + 1).toNatClampNeg))]) _ _ _
          refine own_go (own_bld X41 hx hZ e41 V41 (j := (1 : Int32)) 1 (by decide) rfl (by decide) rfl rfl (hb hby at_200)) ?_
          show own_Fin _ _ _ _ T41 (mkF m 201 #[.val (.long x0), .second, .val (.long x1), .second, .val (.int x2), .val (.int x3), .val (.int x4), .val (.ref b1), .val (.int (3 : Int32)), .val (.int y9), .val (.int y10), .val (.ref b35), .unset, .unset] [(.int (f41 1)), (.int (f13 (y10 + 1).toNatClampNeg))]) _ _ _
          by_cases h201 : (f13 (y10 + 1).toNatClampNeg) = (f41 1)
          · refine own_go (fun _ => XS.icmpNo X41.here hx rfl (hb hby at_201) rfl (teq h201).2) ?_
            show own_Fin _ _ _ _ T41 (mkF m 204 #[.val (.long x0), .second, .val (.long x1), .second, .val (.int x2), .val (.int x3), .val (.int x4), .val (.ref b1), .val (.int (3 : Int32)), .val (.int y9), .val (.int y10), .val (.ref b35), .unset, .unset] []) _ _ _
            refine own_go (fun _ => XS.iload X41.here hx rfl (hb hby at_204) rfl) ?_
            show own_Fin _ _ _ _ T41 (mkF m 206 #[.val (.long x0), .second, .val (.long x1), .second, .val (.int x2), .val (.int x3), .val (.int x4), .val (.ref b1), .val (.int (3 : Int32)), .val (.int y9), .val (.int y10), .val (.ref b35), .unset, .unset] [(.int (3 : Int32))]) _ _ _
            refine own_go (fun _ => XS.iconst X41.here hx rfl (hb hby at_206)) ?_
            show own_Fin _ _ _ _ T41 (mkF m 207 #[.val (.long x0), .second, .val (.long x1), .second, .val (.int x2), .val (.int x3), .val (.int x4), .val (.ref b1), .val (.int (3 : Int32)), .val (.int y9), .val (.int y10), .val (.ref b35), .unset, .unset] [(.int (3 : Int32)), (.int (3 : Int32))]) _ _ _
            refine own_go (fun _ => XS.icmpNo X41.here hx rfl (hb hby at_207) rfl (flt (show ¬ ((3 : Int32) < (3 : Int32)) from (by decide))).1) ?_
            show own_Fin _ _ _ _ T41 (mkF m 210 #[.val (.long x0), .second, .val (.long x1), .second, .val (.int x2), .val (.int x3), .val (.int x4), .val (.ref b1), .val (.int (3 : Int32)), .val (.int y9), .val (.int y10), .val (.ref b35), .unset, .unset] []) _ _ _
            refine own_go (fun _ => XS.aload X41.here hx rfl (hb hby at_210) rfl rfl) ?_
            show own_Fin _ _ _ _ T41 (mkF m 212 #[.val (.long x0), .second, .val (.long x1), .second, .val (.int x2), .val (.int x3), .val (.int x4), .val (.ref b1), .val (.int (3 : Int32)), .val (.int y9), .val (.int y10), .val (.ref b35), .unset, .unset] [(.ref b1)]) _ _ _
            refine own_go (fun _ => XS.iload X41.here hx rfl (hb hby at_212) rfl) ?_
            show own_Fin _ _ _ _ T41 (mkF m 214 #[.val (.long x0), .second, .val (.long x1), .second, .val (.int x2), .val (.int x3), .val (.int x4), .val (.ref b1), .val (.int (3 : Int32)), .val (.int y9), .val (.int y10), .val (.ref b35), .unset, .unset] [(.int y10), (.ref b1)]) _ _ _
            refine own_go (fun _ => XS.iconst X41.here hx rfl (hb hby at_214)) ?_
            show own_Fin _ _ _ _ T41 (mkF m 215 #[.val (.long x0), .second, .val (.long x1), .second, .val (.int x2), .val (.int x3), .val (.int x4), .val (.ref b1), .val (.int (3 : Int32)), .val (.int y9), .val (.int y10), .val (.ref b35), .unset, .unset] [(.int (2 : Int32)), (.int y10), (.ref b1)]) _ _ _
            refine own_go (fun _ => XS.iadd X41.here hx rfl (hb hby at_215) rfl) ?_
            show own_Fin _ _ _ _ T41 (mkF m 216 #[.val (.long x0), .second, .val (.long x1), .second, .val (.int x2), .val (.int x3), .val (.int x4), .val (.ref b1), .val (.int (3 : Int32)), .val (.int y9), .val (.int y10), .val (.ref b35), .unset, .unset] [(.int (y10 + (2 : Int32))), (.ref b1)]) _ _ _
            refine own_go (own_bld X41 hx hZ e41 V41_b1 (j := (y10 + (2 : Int32))) (y10 + 2).toNatClampNeg (own_ix (i := 2) (N := 3) h153 hat h163 hto (by decide)).1 rfl (own_ix (i := 2) (N := 3) h153 hat h163 hto (by decide)).2 rfl rfl (hb hby at_216)) ?_
            show own_Fin _ _ _ _ T41 (mkF m 217 #[.val (.long x0), .second, .val (.long x1), .second, .val (.int x2), .val (.int x3), .val (.int x4), .val (.ref b1), .val (.int (3 : Int32)), .val (.int y9), .val (.int y10), .val (.ref b35), .unset, .unset] [(.int (f13 (y10 + 2).toNatClampNeg))]) _ _ _
            refine own_go (fun _ => XS.aload X41.here hx rfl (hb hby at_217) rfl rfl) ?_
            show own_Fin _ _ _ _ T41 (mkF m 219 #[.val (.long x0), .second, .val (.long x1), .second, .val (.int x2), .val (.int x3), .val (.int x4), .val (.ref b1), .val (.int (3 : Int32)), .val (.int y9), .val (.int y10), .val (.ref b35), .unset, .unset] [(.ref b35), (.int (f13 (y10 + 2).toNatClampNeg))]) _ _ _
            refine own_go (fun _ => XS.iconst X41.here hx rfl (hb hby at_219)) ?_
            show own_Fin _ _ _ _ T41 (mkF m 220 #[.val (.long x0), .second, .val (.long x1), .second, .val (.int x2), .val (.int x3), .val (.int x4), .val (.ref b1), .val (.int (3 : Int32)), .val (.int y9), .val (.int y10), .val (.ref b35), .unset, .unset] [(.int (2 : Int32)), (.ref b35), (.int (f13 (y10 + 2).toNatClampNeg))]) _ _ _
            refine own_go (own_bld X41 hx hZ e41 V41 (j := (2 : Int32)) 2 (by decide) rfl (by decide) rfl rfl (hb hby at_220)) ?_
            show own_Fin _ _ _ _ T41 (mkF m 221 #[.val (.long x0), .second, .val (.long x1), .second, .val (.int x2), .val (.int x3), .val (.int x4), .val (.ref b1), .val (.int (3 : Int32)), .val (.int y9), .val (.int y10), .val (.ref b35), .unset, .unset] [(.int (f41 2)), (.int (f13 (y10 + 2).toNatClampNeg))]) _ _ _
            by_cases h221 : (f13 (y10 + 2).toNatClampNeg) = (f41 2)
            · refine own_go (fun _ => XS.icmpNo X41.here hx rfl (hb hby at_221) rfl (teq h221).2) ?_
              show own_Fin _ _ _ _ T41 (mkF m 224 #[.val (.long x0), .second, .val (.long x1), .second, .val (.int x2), .val (.int x3), .val (.int x4), .val (.ref b1), .val (.int (3 : Int32)), .val (.int y9), .val (.int y10), .val (.ref b35), .unset, .unset] []) _ _ _
              refine own_go (fun _ => XS.iconst X41.here hx rfl (hb hby at_224)) ?_
              show own_Fin _ _ _ _ T41 (mkF m 225 #[.val (.long x0), .second, .val (.long x1), .second, .val (.int x2), .val (.int x3), .val (.int x4), .val (.ref b1), .val (.int (3 : Int32)), .val (.int y9), .val (.int y10), .val (.ref b35), .unset, .unset] [(.int (1 : Int32))]) _ _ _
              refine own_go (fun _ => XS.goto X41.here hx rfl (pc0 := 225) (pc' := 229) rfl (hb hby at_225) (by decide) (by decide)) ?_
              show own_Fin _ _ _ _ T41 (mkF m 229 #[.val (.long x0), .second, .val (.long x1), .second, .val (.int x2), .val (.int x3), .val (.int x4), .val (.ref b1), .val (.int (3 : Int32)), .val (.int y9), .val (.int y10), .val (.ref b35), .unset, .unset] [(.int (1 : Int32))]) _ _ _
              refine own_go (fun _ => XS.istore X41.here hx rfl (hb hby at_229) rfl (l' := #[.val (.long x0), .second, .val (.long x1), .second, .val (.int x2), .val (.int x3), .val (.int x4), .val (.ref b1), .val (.int (3 : Int32)), .val (.int y9), .val (.int y10), .val (.ref b35), .val (.int (1 : Int32)), .unset]) rfl) ?_
              show own_Fin _ _ _ _ T41 (mkF m 231 #[.val (.long x0), .second, .val (.long x1), .second, .val (.int x2), .val (.int x3), .val (.int x4), .val (.ref b1), .val (.int (3 : Int32)), .val (.int y9), .val (.int y10), .val (.ref b35), .val (.int (1 : Int32)), .unset] []) _ _ _
              refine own_go (fun _ => XS.aload X41.here hx rfl (hb hby at_231) rfl rfl) ?_
              show own_Fin _ _ _ _ T41 (mkF m 233 #[.val (.long x0), .second, .val (.long x1), .second, .val (.int x2), .val (.int x3), .val (.int x4), .val (.ref b1), .val (.int (3 : Int32)), .val (.int y9), .val (.int y10), .val (.ref b35), .val (.int (1 : Int32)), .unset] [(.ref b1)]) _ _ _
              refine own_go (fun _ => XS.iload X41.here hx rfl (hb hby at_233) rfl) ?_
              show own_Fin _ _ _ _ T41 (mkF m 235 #[.val (.long x0), .second, .val (.long x1), .second, .val (.int x2), .val (.int x3), .val (.int x4), .val (.ref b1), .val (.int (3 : Int32)), .val (.int y9), .val (.int y10), .val (.ref b35), .val (.int (1 : Int32)), .unset] [(.int y10), (.ref b1)]) _ _ _
              refine own_go (fun _ => XS.iload X41.here hx rfl (hb hby at_235) rfl) ?_
              show own_Fin _ _ _ _ T41 (mkF m 237 #[.val (.long x0), .second, .val (.long x1), .second, .val (.int x2), .val (.int x3), .val (.int x4), .val (.ref b1), .val (.int (3 : Int32)), .val (.int y9), .val (.int y10), .val (.ref b35), .val (.int (1 : Int32)), .unset] [(.int y9), (.int y10), (.ref b1)]) _ _ _
              refine own_go (fun _ => XS.aload X41.here hx rfl (hb hby at_237) rfl rfl) ?_
              show own_Fin _ _ _ _ T41 (mkF m 239 #[.val (.long x0), .second, .val (.long x1), .second, .val (.int x2), .val (.int x3), .val (.int x4), .val (.ref b1), .val (.int (3 : Int32)), .val (.int y9), .val (.int y10), .val (.ref b35), .val (.int (1 : Int32)), .unset] [(.ref b35), (.int y9), (.int y10), (.ref b1)]) _ _ _
              obtain ⟨_, _, ⟨T44, L44, k44, n44⟩, -, X44, ⟨Lc44, hQ44, l44, y44, z44⟩, st44⟩ := Jvm.LawKit.callS X41 hx (y := (⟨"com/example/jitlens/jitlens/LogText", "startsWith", "([BII[B)Z"⟩ : MethodName)) hown (mvT hZ (hw _ (List.mem_of_getElem? (i := 6) rfl))) (mvT hZ (hw _ (List.mem_of_getElem? (i := 7) rfl))) (mvT hZ (hw _ (List.mem_of_getElem? (i := 8) rfl))) (mvT hZ (hw _ (List.mem_of_getElem? (i := 9) rfl))) (by decide) (backOf (W := 0) (rm2_3 l Z a0 hw [] b1 y10 y9 b35 f13 f41 h41 n0 Z41 V41_b1 V41 hat hto) hZ (hw _ (List.mem_of_getElem? (i := 9) rfl)) (hw _ (List.mem_of_getElem? (i := 8) rfl)) (by decide) (by decide)) (g := (mkF m 239 #[.val (.long x0), .second, .val (.long x1), .second, .val (.int x2), .val (.int x3), .val (.int x4), .val (.ref b1), .val (.int (3 : Int32)), .val (.int y9), .val (.int y10), .val (.ref b35), .val (.int (1 : Int32)), .unset] [(.ref b35), (.int y9), (.int y10), (.ref b1)])) rfl (by rw [hml]; rfl) (argsL := [(.ref b1), (.int y10), (.int y9), (.ref b35)]) (rest := []) (lenOf pd_1 rfl) rfl (by show 2 * 0 + _ ≤ _; exact Nat.le_of_eq rfl) (hb hby at_239) (fun _ _ => ⟨rfl, e41, (by decide : 2 + 0 ≤ _), (by decide : 9 + 0 ≤ _)⟩)
              dsimp only [Pt.U, Pt.locs, Pt.cells, Pt.slots] at X44 l44 y44 z44 st44 hQ44
              subst l44 y44 z44
              obtain ⟨rfl, N44q, e44⟩ := hQ44
              have N44 := Fr.app N41 N44q
              refine own_go st44 ?_
              show own_Fin _ _ _ _ T44 (mkF m 242 #[.val (.long x0), .second, .val (.long x1), .second, .val (.int x2), .val (.int x3), .val (.int x4), .val (.ref b1), .val (.int (3 : Int32)), .val (.int y9), .val (.int y10), .val (.ref b35), .val (.int (1 : Int32)), .unset] [(.int (own_sw3 y10 y9 f13 f41))]) _ _ _
              refine own_go (fun _ => XS.istore X44.here hx rfl (hb hby at_242) rfl (l' := #[.val (.long x0), .second, .val (.long x1), .second, .val (.int x2), .val (.int x3), .val (.int x4), .val (.ref b1), .val (.int (3 : Int32)), .val (.int y9), .val (.int y10), .val (.ref b35), .val (.int (1 : Int32)), .val (.int (own_sw3 y10 y9 f13 f41))]) rfl) ?_
              show own_Fin _ _ _ _ T44 (mkF m 244 #[.val (.long x0), .second, .val (.long x1), .second, .val (.int x2), .val (.int x3), .val (.int x4), .val (.ref b1), .val (.int (3 : Int32)), .val (.int y9), .val (.int y10), .val (.ref b35), .val (.int (1 : Int32)), .val (.int (own_sw3 y10 y9 f13 f41))] []) _ _ _
              refine own_go (fun _ => XS.iload X44.here hx rfl (hb hby at_244) rfl) ?_
              show own_Fin _ _ _ _ T44 (mkF m 246 #[.val (.long x0), .second, .val (.long x1), .second, .val (.int x2), .val (.int x3), .val (.int x4), .val (.ref b1), .val (.int (3 : Int32)), .val (.int y9), .val (.int y10), .val (.ref b35), .val (.int (1 : Int32)), .val (.int (own_sw3 y10 y9 f13 f41))] [(.int (own_sw3 y10 y9 f13 f41))]) _ _ _
              refine own_go (fun _ => XS.iload X44.here hx rfl (hb hby at_246) rfl) ?_
              show own_Fin _ _ _ _ T44 (mkF m 248 #[.val (.long x0), .second, .val (.long x1), .second, .val (.int x2), .val (.int x3), .val (.int x4), .val (.ref b1), .val (.int (3 : Int32)), .val (.int y9), .val (.int y10), .val (.ref b35), .val (.int (1 : Int32)), .val (.int (own_sw3 y10 y9 f13 f41))] [(.int (1 : Int32)), (.int (own_sw3 y10 y9 f13 f41))]) _ _ _
              refine own_go (fun _ => XS.icmpNo X44.here hx rfl (hb hby at_248) rfl (teq (show (own_sw3 y10 y9 f13 f41) = (1 : Int32) from by simp only [own_sw3, if_neg h153, if_neg h163, if_pos h181, if_pos h201, if_pos h221])).2) ?_
              show own_Fin _ _ _ _ T44 (mkF m 251 #[.val (.long x0), .second, .val (.long x1), .second, .val (.int x2), .val (.int x3), .val (.int x4), .val (.ref b1), .val (.int (3 : Int32)), .val (.int y9), .val (.int y10), .val (.ref b35), .val (.int (1 : Int32)), .val (.int (own_sw3 y10 y9 f13 f41))] []) _ _ _
              refine own_go (fun _ => XS.iconst X44.here hx rfl (hb hby at_251)) ?_
              show own_Fin _ _ _ _ T44 (mkF m 252 #[.val (.long x0), .second, .val (.long x1), .second, .val (.int x2), .val (.int x3), .val (.int x4), .val (.ref b1), .val (.int (3 : Int32)), .val (.int y9), .val (.int y10), .val (.ref b35), .val (.int (1 : Int32)), .val (.int (own_sw3 y10 y9 f13 f41))] [(.int (1 : Int32))]) _ _ _
              refine own_go (fun _ => XS.goto X44.here hx rfl (pc0 := 252) (pc' := 256) rfl (hb hby at_252) (by decide) (by decide)) ?_
              show own_Fin _ _ _ _ T44 (mkF m 256 #[.val (.long x0), .second, .val (.long x1), .second, .val (.int x2), .val (.int x3), .val (.int x4), .val (.ref b1), .val (.int (3 : Int32)), .val (.int y9), .val (.int y10), .val (.ref b35), .val (.int (1 : Int32)), .val (.int (own_sw3 y10 y9 f13 f41))] [(.int (1 : Int32))]) _ _ _
              exact own_retZ X44 hx hnl (t := .boolean) hret (by simp) (hb hby at_256) (by decide) (by decide) ⟨rfl, N44⟩
            · refine own_go (fun _ => XS.icmpYes X41.here hx rfl (pc0 := 221) (pc' := 228) rfl (hb hby at_221) rfl (feq h221).2 (by decide) (by decide)) ?_
              show own_Fin _ _ _ _ T41 (mkF m 228 #[.val (.long x0), .second, .val (.long x1), .second, .val (.int x2), .val (.int x3), .val (.int x4), .val (.ref b1), .val (.int (3 : Int32)), .val (.int y9), .val (.int y10), .val (.ref b35), .unset, .unset] []) _ _ _
              refine own_go (fun _ => XS.iconst X41.here hx rfl (hb hby at_228)) ?_
              show own_Fin _ _ _ _ T41 (mkF m 229 #[.val (.long x0), .second, .val (.long x1), .second, .val (.int x2), .val (.int x3), .val (.int x4), .val (.ref b1), .val (.int (3 : Int32)), .val (.int y9), .val (.int y10), .val (.ref b35), .unset, .unset] [(.int (0 : Int32))]) _ _ _
              refine own_go (fun _ => XS.istore X41.here hx rfl (hb hby at_229) rfl (l' := #[.val (.long x0), .second, .val (.long x1), .second, .val (.int x2), .val (.int x3), .val (.int x4), .val (.ref b1), .val (.int (3 : Int32)), .val (.int y9), .val (.int y10), .val (.ref b35), .val (.int (0 : Int32)), .unset]) rfl) ?_
              show own_Fin _ _ _ _ T41 (mkF m 231 #[.val (.long x0), .second, .val (.long x1), .second, .val (.int x2), .val (.int x3), .val (.int x4), .val (.ref b1), .val (.int (3 : Int32)), .val (.int y9), .val (.int y10), .val (.ref b35), .val (.int (0 : Int32)), .unset] []) _ _ _
              refine own_go (fun _ => XS.aload X41.here hx rfl (hb hby at_231) rfl rfl) ?_
              show own_Fin _ _ _ _ T41 (mkF m 233 #[.val (.long x0), .second, .val (.long x1), .second, .val (.int x2), .val (.int x3), .val (.int x4), .val (.ref b1), .val (.int (3 : Int32)), .val (.int y9), .val (.int y10), .val (.ref b35), .val (.int (0 : Int32)), .unset] [(.ref b1)]) _ _ _
              refine own_go (fun _ => XS.iload X41.here hx rfl (hb hby at_233) rfl) ?_
              show own_Fin _ _ _ _ T41 (mkF m 235 #[.val (.long x0), .second, .val (.long x1), .second, .val (.int x2), .val (.int x3), .val (.int x4), .val (.ref b1), .val (.int (3 : Int32)), .val (.int y9), .val (.int y10), .val (.ref b35), .val (.int (0 : Int32)), .unset] [(.int y10), (.ref b1)]) _ _ _
              refine own_go (fun _ => XS.iload X41.here hx rfl (hb hby at_235) rfl) ?_
              show own_Fin _ _ _ _ T41 (mkF m 237 #[.val (.long x0), .second, .val (.long x1), .second, .val (.int x2), .val (.int x3), .val (.int x4), .val (.ref b1), .val (.int (3 : Int32)), .val (.int y9), .val (.int y10), .val (.ref b35), .val (.int (0 : Int32)), .unset] [(.int y9), (.int y10), (.ref b1)]) _ _ _
              refine own_go (fun _ => XS.aload X41.here hx rfl (hb hby at_237) rfl rfl) ?_
              show own_Fin _ _ _ _ T41 (mkF m 239 #[.val (.long x0), .second, .val (.long x1), .second, .val (.int x2), .val (.int x3), .val (.int x4), .val (.ref b1), .val (.int (3 : Int32)), .val (.int y9), .val (.int y10), .val (.ref b35), .val (.int (0 : Int32)), .unset] [(.ref b35), (.int y9), (.int y10), (.ref b1)]) _ _ _
              obtain ⟨_, _, ⟨T45, L45, k45, n45⟩, -, X45, ⟨Lc45, hQ45, l45, y45, z45⟩, st45⟩ := Jvm.LawKit.callS X41 hx (y := (⟨"com/example/jitlens/jitlens/LogText", "startsWith", "([BII[B)Z"⟩ : MethodName)) hown (mvT hZ (hw _ (List.mem_of_getElem? (i := 6) rfl))) (mvT hZ (hw _ (List.mem_of_getElem? (i := 7) rfl))) (mvT hZ (hw _ (List.mem_of_getElem? (i := 8) rfl))) (mvT hZ (hw _ (List.mem_of_getElem? (i := 9) rfl))) (by decide) (backOf (W := 0) (rm2_3 l Z a0 hw [] b1 y10 y9 b35 f13 f41 h41 n0 Z41 V41_b1 V41 hat hto) hZ (hw _ (List.mem_of_getElem? (i := 9) rfl)) (hw _ (List.mem_of_getElem? (i := 8) rfl)) (by decide) (by decide)) (g := (mkF m 239 #[.val (.long x0), .second, .val (.long x1), .second, .val (.int x2), .val (.int x3), .val (.int x4), .val (.ref b1), .val (.int (3 : Int32)), .val (.int y9), .val (.int y10), .val (.ref b35), .val (.int (0 : Int32)), .unset] [(.ref b35), (.int y9), (.int y10), (.ref b1)])) rfl (by rw [hml]; rfl) (argsL := [(.ref b1), (.int y10), (.int y9), (.ref b35)]) (rest := []) (lenOf pd_1 rfl) rfl (by show 2 * 0 + _ ≤ _; exact Nat.le_of_eq rfl) (hb hby at_239) (fun _ _ => ⟨rfl, e41, (by decide : 2 + 0 ≤ _), (by decide : 9 + 0 ≤ _)⟩)
              dsimp only [Pt.U, Pt.locs, Pt.cells, Pt.slots] at X45 l45 y45 z45 st45 hQ45
              subst l45 y45 z45
              obtain ⟨rfl, N45q, e45⟩ := hQ45
              have N45 := Fr.app N41 N45q
              refine own_go st45 ?_
              show own_Fin _ _ _ _ T45 (mkF m 242 #[.val (.long x0), .second, .val (.long x1), .second, .val (.int x2), .val (.int x3), .val (.int x4), .val (.ref b1), .val (.int (3 : Int32)), .val (.int y9), .val (.int y10), .val (.ref b35), .val (.int (0 : Int32)), .unset] [(.int (own_sw3 y10 y9 f13 f41))]) _ _ _
              refine own_go (fun _ => XS.istore X45.here hx rfl (hb hby at_242) rfl (l' := #[.val (.long x0), .second, .val (.long x1), .second, .val (.int x2), .val (.int x3), .val (.int x4), .val (.ref b1), .val (.int (3 : Int32)), .val (.int y9), .val (.int y10), .val (.ref b35), .val (.int (0 : Int32)), .val (.int (own_sw3 y10 y9 f13 f41))]) rfl) ?_
              show own_Fin _ _ _ _ T45 (mkF m 244 #[.val (.long x0), .second, .val (.long x1), .second, .val (.int x2), .val (.int x3), .val (.int x4), .val (.ref b1), .val (.int (3 : Int32)), .val (.int y9), .val (.int y10), .val (.ref b35), .val (.int (0 : Int32)), .val (.int (own_sw3 y10 y9 f13 f41))] []) _ _ _
              refine own_go (fun _ => XS.iload X45.here hx rfl (hb hby at_244) rfl) ?_
              show own_Fin _ _ _ _ T45 (mkF m 246 #[.val (.long x0), .second, .val (.long x1), .second, .val (.int x2), .val (.int x3), .val (.int x4), .val (.ref b1), .val (.int (3 : Int32)), .val (.int y9), .val (.int y10), .val (.ref b35), .val (.int (0 : Int32)), .val (.int (own_sw3 y10 y9 f13 f41))] [(.int (own_sw3 y10 y9 f13 f41))]) _ _ _
              refine own_go (fun _ => XS.iload X45.here hx rfl (hb hby at_246) rfl) ?_
              show own_Fin _ _ _ _ T45 (mkF m 248 #[.val (.long x0), .second, .val (.long x1), .second, .val (.int x2), .val (.int x3), .val (.int x4), .val (.ref b1), .val (.int (3 : Int32)), .val (.int y9), .val (.int y10), .val (.ref b35), .val (.int (0 : Int32)), .val (.int (own_sw3 y10 y9 f13 f41))] [(.int (0 : Int32)), (.int (own_sw3 y10 y9 f13 f41))]) _ _ _
              refine own_go (fun _ => XS.icmpNo X45.here hx rfl (hb hby at_248) rfl (teq (show (own_sw3 y10 y9 f13 f41) = (0 : Int32) from by simp only [own_sw3, if_neg h153, if_neg h163, if_pos h181, if_pos h201, if_neg h221])).2) ?_
              show own_Fin _ _ _ _ T45 (mkF m 251 #[.val (.long x0), .second, .val (.long x1), .second, .val (.int x2), .val (.int x3), .val (.int x4), .val (.ref b1), .val (.int (3 : Int32)), .val (.int y9), .val (.int y10), .val (.ref b35), .val (.int (0 : Int32)), .val (.int (own_sw3 y10 y9 f13 f41))] []) _ _ _
              refine own_go (fun _ => XS.iconst X45.here hx rfl (hb hby at_251)) ?_
              show own_Fin _ _ _ _ T45 (mkF m 252 #[.val (.long x0), .second, .val (.long x1), .second, .val (.int x2), .val (.int x3), .val (.int x4), .val (.ref b1), .val (.int (3 : Int32)), .val (.int y9), .val (.int y10), .val (.ref b35), .val (.int (0 : Int32)), .val (.int (own_sw3 y10 y9 f13 f41))] [(.int (1 : Int32))]) _ _ _
              refine own_go (fun _ => XS.goto X45.here hx rfl (pc0 := 252) (pc' := 256) rfl (hb hby at_252) (by decide) (by decide)) ?_
              show own_Fin _ _ _ _ T45 (mkF m 256 #[.val (.long x0), .second, .val (.long x1), .second, .val (.int x2), .val (.int x3), .val (.int x4), .val (.ref b1), .val (.int (3 : Int32)), .val (.int y9), .val (.int y10), .val (.ref b35), .val (.int (0 : Int32)), .val (.int (own_sw3 y10 y9 f13 f41))] [(.int (1 : Int32))]) _ _ _
              exact own_retZ X45 hx hnl (t := .boolean) hret (by simp) (hb hby at_256) (by decide) (by decide) ⟨rfl, N45⟩
          · refine own_go (fun _ => XS.icmpYes X41.here hx rfl (pc0 := 201) (pc' := 228) rfl (hb hby at_201) rfl (feq h201).2 (by decide) (by decide)) ?_
            show own_Fin _ _ _ _ T41 (mkF m 228 #[.val (.long x0), .second, .val (.long x1), .second, .val (.int x2), .val (.int x3), .val (.int x4), .val (.ref b1), .val (.int (3 : Int32)), .val (.int y9), .val (.int y10), .val (.ref b35), .unset, .unset] []) _ _ _
            refine own_go (fun _ => XS.iconst X41.here hx rfl (hb hby at_228)) ?_
            show own_Fin _ _ _ _ T41 (mkF m 229 #[.val (.long x0), .second, .val (.long x1), .second, .val (.int x2), .val (.int x3), .val (.int x4), .val (.ref b1), .val (.int (3 : Int32)), .val (.int y9), .val (.int y10), .val (.ref b35), .unset, .unset] [(.int (0 : Int32))]) _ _ _
            refine own_go (fun _ => XS.istore X41.here hx rfl (hb hby at_229) rfl (l' := #[.val (.long x0), .second, .val (.long x1), .second, .val (.int x2), .val (.int x3), .val (.int x4), .val (.ref b1), .val (.int (3 : Int32)), .val (.int y9), .val (.int y10), .val (.ref b35), .val (.int (0 : Int32)), .unset]) rfl) ?_
            show own_Fin _ _ _ _ T41 (mkF m 231 #[.val (.long x0), .second, .val (.long x1), .second, .val (.int x2), .val (.int x3), .val (.int x4), .val (.ref b1), .val (.int (3 : Int32)), .val (.int y9), .val (.int y10), .val (.ref b35), .val (.int (0 : Int32)), .unset] []) _ _ _
            refine own_go (fun _ => XS.aload X41.here hx rfl (hb hby at_231) rfl rfl) ?_
            show own_Fin _ _ _ _ T41 (mkF m 233 #[.val (.long x0), .second, .val (.long x1), .second, .val (.int x2), .val (.int x3), .val (.int x4), .val (.ref b1), .val (.int (3 : Int32)), .val (.int y9), .val (.int y10), .val (.ref b35), .val (.int (0 : Int32)), .unset] [(.ref b1)]) _ _ _
            refine own_go (fun _ => XS.iload X41.here hx rfl (hb hby at_233) rfl) ?_
            show own_Fin _ _ _ _ T41 (mkF m 235 #[.val (.long x0), .second, .val (.long x1), .second, .val (.int x2), .val (.int x3), .val (.int x4), .val (.ref b1), .val (.int (3 : Int32)), .val (.int y9), .val (.int y10), .val (.ref b35), .val (.int (0 : Int32)), .unset] [(.int y10), (.ref b1)]) _ _ _
            refine own_go (fun _ => XS.iload X41.here hx rfl (hb hby at_235) rfl) ?_
            show own_Fin _ _ _ _ T41 (mkF m 237 #[.val (.long x0), .second, .val (.long x1), .second, .val (.int x2), .val (.int x3), .val (.int x4), .val (.ref b1), .val (.int (3 : Int32)), .val (.int y9), .val (.int y10), .val (.ref b35), .val (.int (0 : Int32)), .unset] [(.int y9), (.int y10), (.ref b1)]) _ _ _
            refine own_go (fun _ => XS.aload X41.here hx rfl (hb hby at_237) rfl rfl) ?_
            show own_Fin _ _ _ _ T41 (mkF m 239 #[.val (.long x0), .second, .val (.long x1), .second, .val (.int x2), .val (.int x3), .val (.int x4), .val (.ref b1), .val (.int (3 : Int32)), .val (.int y9), .val (.int y10), .val (.ref b35), .val (.int (0 : Int32)), .unset] [(.ref b35), (.int y9), (.int y10), (.ref b1)]) _ _ _
            obtain ⟨_, _, ⟨T46, L46, k46, n46⟩, -, X46, ⟨Lc46, hQ46, l46, y46, z46⟩, st46⟩ := Jvm.LawKit.callS X41 hx (y := (⟨"com/example/jitlens/jitlens/LogText", "startsWith", "([BII[B)Z"⟩ : MethodName)) hown (mvT hZ (hw _ (List.mem_of_getElem? (i := 6) rfl))) (mvT hZ (hw _ (List.mem_of_getElem? (i := 7) rfl))) (mvT hZ (hw _ (List.mem_of_getElem? (i := 8) rfl))) (mvT hZ (hw _ (List.mem_of_getElem? (i := 9) rfl))) (by decide) (backOf (W := 0) (rm2_3 l Z a0 hw [] b1 y10 y9 b35 f13 f41 h41 n0 Z41 V41_b1 V41 hat hto) hZ (hw _ (List.mem_of_getElem? (i := 9) rfl)) (hw _ (List.mem_of_getElem? (i := 8) rfl)) (by decide) (by decide)) (g := (mkF m 239 #[.val (.long x0), .second, .val (.long x1), .second, .val (.int x2), .val (.int x3), .val (.int x4), .val (.ref b1), .val (.int (3 : Int32)), .val (.int y9), .val (.int y10), .val (.ref b35), .val (.int (0 : Int32)), .unset] [(.ref b35), (.int y9), (.int y10), (.ref b1)])) rfl (by rw [hml]; rfl) (argsL := [(.ref b1), (.int y10), (.int y9), (.ref b35)]) (rest := []) (lenOf pd_1 rfl) rfl (by show 2 * 0 + _ ≤ _; exact Nat.le_of_eq rfl) (hb hby at_239) (fun _ _ => ⟨rfl, e41, (by decide : 2 + 0 ≤ _), (by decide : 9 + 0 ≤ _)⟩)
            dsimp only [Pt.U, Pt.locs, Pt.cells, Pt.slots] at X46 l46 y46 z46 st46 hQ46
            subst l46 y46 z46
            obtain ⟨rfl, N46q, e46⟩ := hQ46
            have N46 := Fr.app N41 N46q
            refine own_go st46 ?_
            show own_Fin _ _ _ _ T46 (mkF m 242 #[.val (.long x0), .second, .val (.long x1), .second, .val (.int x2), .val (.int x3), .val (.int x4), .val (.ref b1), .val (.int (3 : Int32)), .val (.int y9), .val (.int y10), .val (.ref b35), .val (.int (0 : Int32)), .unset] [(.int (own_sw3 y10 y9 f13 f41))]) _ _ _
            refine own_go (fun _ => XS.istore X46.here hx rfl (hb hby at_242) rfl (l' := #[.val (.long x0), .second, .val (.long x1), .second, .val (.int x2), .val (.int x3), .val (.int x4), .val (.ref b1), .val (.int (3 : Int32)), .val (.int y9), .val (.int y10), .val (.ref b35), .val (.int (0 : Int32)), .val (.int (own_sw3 y10 y9 f13 f41))]) rfl) ?_
            show own_Fin _ _ _ _ T46 (mkF m 244 #[.val (.long x0), .second, .val (.long x1), .second, .val (.int x2), .val (.int x3), .val (.int x4), .val (.ref b1), .val (.int (3 : Int32)), .val (.int y9), .val (.int y10), .val (.ref b35), .val (.int (0 : Int32)), .val (.int (own_sw3 y10 y9 f13 f41))] []) _ _ _
            refine own_go (fun _ => XS.iload X46.here hx rfl (hb hby at_244) rfl) ?_
            show own_Fin _ _ _ _ T46 (mkF m 246 #[.val (.long x0), .second, .val (.long x1), .second, .val (.int x2), .val (.int x3), .val (.int x4), .val (.ref b1), .val (.int (3 : Int32)), .val (.int y9), .val (.int y10), .val (.ref b35), .val (.int (0 : Int32)), .val (.int (own_sw3 y10 y9 f13 f41))] [(.int (own_sw3 y10 y9 f13 f41))]) _ _ _
            refine own_go (fun _ => XS.iload X46.here hx rfl (hb hby at_246) rfl) ?_
            show own_Fin _ _ _ _ T46 (mkF m 248 #[.val (.long x0), .second, .val (.long x1), .second, .val (.int x2), .val (.int x3), .val (.int x4), .val (.ref b1), .val (.int (3 : Int32)), .val (.int y9), .val (.int y10), .val (.ref b35), .val (.int (0 : Int32)), .val (.int (own_sw3 y10 y9 f13 f41))] [(.int (0 : Int32)), (.int (own_sw3 y10 y9 f13 f41))]) _ _ _
            refine own_go (fun _ => XS.icmpNo X46.here hx rfl (hb hby at_248) rfl (teq (show (own_sw3 y10 y9 f13 f41) = (0 : Int32) from by simp only [own_sw3, if_neg h153, if_neg h163, if_pos h181, if_neg h201])).2) ?_
            show own_Fin _ _ _ _ T46 (mkF m 251 #[.val (.long x0), .second, .val (.long x1), .second, .val (.int x2), .val (.int x3), .val (.int x4), .val (.ref b1), .val (.int (3 : Int32)), .val (.int y9), .val (.int y10), .val (.ref b35), .val (.int (0 : Int32)), .val (.int (own_sw3 y10 y9 f13 f41))] []) _ _ _
            refine own_go (fun _ => XS.iconst X46.here hx rfl (hb hby at_251)) ?_
            show own_Fin _ _ _ _ T46 (mkF m 252 #[.val (.long x0), .second, .val (.long x1), .second, .val (.int x2), .val (.int x3), .val (.int x4), .val (.ref b1), .val (.int (3 : Int32)), .val (.int y9), .val (.int y10), .val (.ref b35), .val (.int (0 : Int32)), .val (.int (own_sw3 y10 y9 f13 f41))] [(.int (1 : Int32))]) _ _ _
            refine own_go (fun _ => XS.goto X46.here hx rfl (pc0 := 252) (pc' := 256) rfl (hb hby at_252) (by decide) (by decide)) ?_
            show own_Fin _ _ _ _ T46 (mkF m 256 #[.val (.long x0), .second, .val (.long x1), .second, .val (.int x2), .val (.int x3), .val (.int x4), .val (.ref b1), .val (.int (3 : Int32)), .val (.int y9), .val (.int y10), .val (.ref b35), .val (.int (0 : Int32)), .val (.int (own_sw3 y10 y9 f13 f41))] [(.int (1 : Int32))]) _ _ _
            exact own_retZ X46 hx hnl (t := .boolean) hret (by simp) (hb hby at_256) (by decide) (by decide) ⟨rfl, N46⟩
        · refine own_go (fun _ => XS.icmpYes X41.here hx rfl (pc0 := 181) (pc' := 228) rfl (hb hby at_181) rfl (feq h181).2 (by decide) (by decide)) ?_
          show own_Fin _ _ _ _ T41 (mkF m 228 #[.val (.long x0), .second, .val (.long x1), .second, .val (.int x2), .val (.int x3), .val (.int x4), .val (.ref b1), .val (.int (3 : Int32)), .val (.int y9), .val (.int y10), .val (.ref b35), .unset, .unset] []) _ _ _
          refine own_go (fun _ => XS.iconst X41.here hx rfl (hb hby at_228)) ?_
          show own_Fin _ _ _ _ T41 (mkF m 229 #[.val (.long x0), .second, .val (.long x1), .second, .val (.int x2), .val (.int x3), .val (.int x4), .val (.ref b1), .val (.int (3 : Int32)), .val (.int y9), .val (.int y10), .val (.ref b35), .unset, .unset] [(.int (0 : Int32))]) _ _ _
          refine own_go (fun _ => XS.istore X41.here hx rfl (hb hby at_229) rfl (l' := #[.val (.long x0), .second, .val (.long x1), .second, .val (.int x2), .val (.int x3), .val (.int x4), .val (.ref b1), .val (.int (3 : Int32)), .val (.int y9), .val (.int y10), .val (.ref b35), .val (.int (0 : Int32)), .unset]) rfl) ?_
          show own_Fin _ _ _ _ T41 (mkF m 231 #[.val (.long x0), .second, .val (.long x1), .second, .val (.int x2), .val (.int x3), .val (.int x4), .val (.ref b1), .val (.int (3 : Int32)), .val (.int y9), .val (.int y10), .val (.ref b35), .val (.int (0 : Int32)), .unset] []) _ _ _
          refine own_go (fun _ => XS.aload X41.here hx rfl (hb hby at_231) rfl rfl) ?_
          show own_Fin _ _ _ _ T41 (mkF m 233 #[.val (.long x0), .second, .val (.long x1), .second, .val (.int x2), .val (.int x3), .val (.int x4), .val (.ref b1), .val (.int (3 : Int32)), .val (.int y9), .val (.int y10), .val (.ref b35), .val (.int (0 : Int32)), .unset] [(.ref b1)]) _ _ _
          refine own_go (fun _ => XS.iload X41.here hx rfl (hb hby at_233) rfl) ?_
          show own_Fin _ _ _ _ T41 (mkF m 235 #[.val (.long x0), .second, .val (.long x1), .second, .val (.int x2), .val (.int x3), .val (.int x4), .val (.ref b1), .val (.int (3 : Int32)), .val (.int y9), .val (.int y10), .val (.ref b35), .val (.int (0 : Int32)), .unset] [(.int y10), (.ref b1)]) _ _ _
          refine own_go (fun _ => XS.iload X41.here hx rfl (hb hby at_235) rfl) ?_
          show own_Fin _ _ _ _ T41 (mkF m 237 #[.val (.long x0), .second, .val (.long x1), .second, .val (.int x2), .val (.int x3), .val (.int x4), .val (.ref b1), .val (.int (3 : Int32)), .val (.int y9), .val (.int y10), .val (.ref b35), .val (.int (0 : Int32)), .unset] [(.int y9), (.int y10), (.ref b1)]) _ _ _
          refine own_go (fun _ => XS.aload X41.here hx rfl (hb hby at_237) rfl rfl) ?_
          show own_Fin _ _ _ _ T41 (mkF m 239 #[.val (.long x0), .second, .val (.long x1), .second, .val (.int x2), .val (.int x3), .val (.int x4), .val (.ref b1), .val (.int (3 : Int32)), .val (.int y9), .val (.int y10), .val (.ref b35), .val (.int (0 : Int32)), .unset] [(.ref b35), (.int y9), (.int y10), (.ref b1)]) _ _ _
          obtain ⟨_, _, ⟨T47, L47, k47, n47⟩, -, X47, ⟨Lc47, hQ47, l47, y47, z47⟩, st47⟩ := Jvm.LawKit.callS X41 hx (y := (⟨"com/example/jitlens/jitlens/LogText", "startsWith", "([BII[B)Z"⟩ : MethodName)) hown (mvT hZ (hw _ (List.mem_of_getElem? (i := 6) rfl))) (mvT hZ (hw _ (List.mem_of_getElem? (i := 7) rfl))) (mvT hZ (hw _ (List.mem_of_getElem? (i := 8) rfl))) (mvT hZ (hw _ (List.mem_of_getElem? (i := 9) rfl))) (by decide) (backOf (W := 0) (rm2_3 l Z a0 hw [] b1 y10 y9 b35 f13 f41 h41 n0 Z41 V41_b1 V41 hat hto) hZ (hw _ (List.mem_of_getElem? (i := 9) rfl)) (hw _ (List.mem_of_getElem? (i := 8) rfl)) (by decide) (by decide)) (g := (mkF m 239 #[.val (.long x0), .second, .val (.long x1), .second, .val (.int x2), .val (.int x3), .val (.int x4), .val (.ref b1), .val (.int (3 : Int32)), .val (.int y9), .val (.int y10), .val (.ref b35), .val (.int (0 : Int32)), .unset] [(.ref b35), (.int y9), (.int y10), (.ref b1)])) rfl (by rw [hml]; rfl) (argsL := [(.ref b1), (.int y10), (.int y9), (.ref b35)]) (rest := []) (lenOf pd_1 rfl) rfl (by show 2 * 0 + _ ≤ _; exact Nat.le_of_eq rfl) (hb hby at_239) (fun _ _ => ⟨rfl, e41, (by decide : 2 + 0 ≤ _), (by decide : 9 + 0 ≤ _)⟩)
          dsimp only [Pt.U, Pt.locs, Pt.cells, Pt.slots] at X47 l47 y47 z47 st47 hQ47
          subst l47 y47 z47
          obtain ⟨rfl, N47q, e47⟩ := hQ47
          have N47 := Fr.app N41 N47q
          refine own_go st47 ?_
          show own_Fin _ _ _ _ T47 (mkF m 242 #[.val (.long x0), .second, .val (.long x1), .second, .val (.int x2), .val (.int x3), .val (.int x4), .val (.ref b1), .val (.int (3 : Int32)), .val (.int y9), .val (.int y10), .val (.ref b35), .val (.int (0 : Int32)), .unset] [(.int (own_sw3 y10 y9 f13 f41))]) _ _ _
          refine own_go (fun _ => XS.istore X47.here hx rfl (hb hby at_242) rfl (l' := #[.val (.long x0), .second, .val (.long x1), .second, .val (.int x2), .val (.int x3), .val (.int x4), .val (.ref b1), .val (.int (3 : Int32)), .val (.int y9), .val (.int y10), .val (.ref b35), .val (.int (0 : Int32)), .val (.int (own_sw3 y10 y9 f13 f41))]) rfl) ?_
          show own_Fin _ _ _ _ T47 (mkF m 244 #[.val (.long x0), .second, .val (.long x1), .second, .val (.int x2), .val (.int x3), .val (.int x4), .val (.ref b1), .val (.int (3 : Int32)), .val (.int y9), .val (.int y10), .val (.ref b35), .val (.int (0 : Int32)), .val (.int (own_sw3 y10 y9 f13 f41))] []) _ _ _
          refine own_go (fun _ => XS.iload X47.here hx rfl (hb hby at_244) rfl) ?_
          show own_Fin _ _ _ _ T47 (mkF m 246 #[.val (.long x0), .second, .val (.long x1), .second, .val (.int x2), .val (.int x3), .val (.int x4), .val (.ref b1), .val (.int (3 : Int32)), .val (.int y9), .val (.int y10), .val (.ref b35), .val (.int (0 : Int32)), .val (.int (own_sw3 y10 y9 f13 f41))] [(.int (own_sw3 y10 y9 f13 f41))]) _ _ _
          refine own_go (fun _ => XS.iload X47.here hx rfl (hb hby at_246) rfl) ?_
          show own_Fin _ _ _ _ T47 (mkF m 248 #[.val (.long x0), .second, .val (.long x1), .second, .val (.int x2), .val (.int x3), .val (.int x4), .val (.ref b1), .val (.int (3 : Int32)), .val (.int y9), .val (.int y10), .val (.ref b35), .val (.int (0 : Int32)), .val (.int (own_sw3 y10 y9 f13 f41))] [(.int (0 : Int32)), (.int (own_sw3 y10 y9 f13 f41))]) _ _ _
          refine own_go (fun _ => XS.icmpNo X47.here hx rfl (hb hby at_248) rfl (teq (show (own_sw3 y10 y9 f13 f41) = (0 : Int32) from by simp only [own_sw3, if_neg h153, if_neg h163, if_neg h181])).2) ?_
          show own_Fin _ _ _ _ T47 (mkF m 251 #[.val (.long x0), .second, .val (.long x1), .second, .val (.int x2), .val (.int x3), .val (.int x4), .val (.ref b1), .val (.int (3 : Int32)), .val (.int y9), .val (.int y10), .val (.ref b35), .val (.int (0 : Int32)), .val (.int (own_sw3 y10 y9 f13 f41))] []) _ _ _
          refine own_go (fun _ => XS.iconst X47.here hx rfl (hb hby at_251)) ?_
          show own_Fin _ _ _ _ T47 (mkF m 252 #[.val (.long x0), .second, .val (.long x1), .second, .val (.int x2), .val (.int x3), .val (.int x4), .val (.ref b1), .val (.int (3 : Int32)), .val (.int y9), .val (.int y10), .val (.ref b35), .val (.int (0 : Int32)), .val (.int (own_sw3 y10 y9 f13 f41))] [(.int (1 : Int32))]) _ _ _
          refine own_go (fun _ => XS.goto X47.here hx rfl (pc0 := 252) (pc' := 256) rfl (hb hby at_252) (by decide) (by decide)) ?_
          show own_Fin _ _ _ _ T47 (mkF m 256 #[.val (.long x0), .second, .val (.long x1), .second, .val (.int x2), .val (.int x3), .val (.int x4), .val (.ref b1), .val (.int (3 : Int32)), .val (.int y9), .val (.int y10), .val (.ref b35), .val (.int (0 : Int32)), .val (.int (own_sw3 y10 y9 f13 f41))] [(.int (1 : Int32))]) _ _ _
          exact own_retZ X47 hx hnl (t := .boolean) hret (by simp) (hb hby at_256) (by decide) (by decide) ⟨rfl, N47⟩

set_option maxRecDepth 65536 in
set_option maxHeartbeats 40000000 in
theorem comes_1 {Post : Tables → Env → Array Value → State → Outcome → State → Prop} (hpost : ∀ tb e args s v u, (limb_1_1.after args s (.returned v) u = true ∧ limb_1_2.after args s (.returned v) u = true) → FrameEnd s (.returned v) u (Jvm.fieldLocs frame_1_writes args s ++ Jvm.arrayLocs frame_1_arrays args s ++ Jvm.staticLocs frame_1_statics s) 16 128 → Post tb e args s (.returned v) u) :
    ArmFor flags0 classFile x code maxLocals ret World_1 tables_1 room_1 Calls_1 rest_1 Pre_1 Post := by
  intro l hfl _ _ p e ha hc hk s m args below hf hA hF happ hP
  obtain ⟨hcalls, hrest, hpre⟩ := hP
  obtain ⟨-, -, -, hnamed, -, -, -, hat⟩ := (Spec.applies_iff hf).mp happ
  obtain ⟨hg, hn⟩ := and_e (Cond.before_iff.mp (show (Jvm.Cond.and given_1 narrow_1).before args s = true from hpre))
  obtain ⟨gg1, gg2⟩ := and_e hg
  obtain ⟨gg3, gg4⟩ := and_e gg2
  obtain ⟨gg5, gg6⟩ := and_e gg4
  obtain ⟨gg7, gg8⟩ := and_e gg6
  obtain ⟨gg9, gg10⟩ := and_e gg8
  obtain ⟨w0, w1, w2, w3, w4, rfl⟩ : ∃ w0 w1 w2 w3 w4 : Value, args = #[w0, w1, w2, w3, w4] := by
    have hs : args.size = 5 := by simpa [Cond.value, given_1] using gg1
    obtain ⟨L⟩ := args
    match L, hs with
    | [w0, w1, w2, w3, w4], _ => exact ⟨w0, w1, w2, w3, w4, rfl⟩
  have hw := fun d (hd : d ∈ tables_1) => atoms_spec (ws := Jvm.Cond.code x code maxLocals ret :: tables_1) hat d (List.mem_cons_of_mem _ hd)
  obtain ⟨i0, ei0⟩ := isL_v gg3
  obtain rfl : w0 = (.long i0) := Option.some.inj ei0
  obtain ⟨i1, ei1⟩ := isL_v gg5
  obtain rfl : w1 = (.long i1) := Option.some.inj ei1
  obtain ⟨i2, ei2⟩ := is_v gg7
  obtain rfl : w2 = (.int i2) := Option.some.inj ei2
  obtain ⟨i3, ei3⟩ := is_v gg9
  obtain rfl : w3 = (.int i3) := Option.some.inj ei3
  obtain ⟨i4, ei4⟩ := is_v gg10
  obtain rfl : w4 = (.int i4) := Option.some.inj ei4
  obtain ⟨n, o, h1, h2, h3, _, L, rfl, ⟨rfl, N⟩, hq⟩ := rm0 l s _ hw tables_1 i0 i1 i2 i3 i4 s.heap s.heap.size (Nat.le_refl _) p e ha hc hk s m _ below hf ((Spec.applies_iff_loose hf).mp happ).1 ⟨rfl, State.Warmed39.refl s, rfl⟩ trivial
  refine ⟨n, _, h1, h2, h3, hpost _ _ _ _ _ _ ⟨Cond.after_iff.mpr rfl, Cond.after_iff.mpr (eq_i res_at (Term.int_eval (1)) rfl)⟩ ⟨hq.1, hq.2.1, (hq.2.2.sift fun y hy => Or.inr (N y hy)).mono (by decide) (by decide)⟩⟩
theorem main_1_1 : Claimed_1_1 := comes_1 fun _ _ _ _ _ _ h hF => ⟨h.1, hF⟩
theorem main_1_2 : Claimed_1_2 := comes_1 fun _ _ _ _ _ _ h hF => ⟨h.2, hF⟩
end Jvm.Pilot.@@N@@
namespace Jvm.Pilot.@@N@@
open Jvm Jvm.ClassFile Sem Op Lib Jvm.Free Jvm.Stand Jvm.Pilot.@@N@@.Jvm.D
/-! MADE BY PROGRAM (witnessworld.py) out of the Statement's table words and the real class files: 9 classes; the members and pool entries that the words name. The judged class is class 1, her method 3. -/
namespace start1
open Jvm.ClassFile
def u (s : String) : CpInfo := .utf8 (stringToUtf16 s)
/-- a pool by its gaps: so many unusable entries, then the entry; so many at the end -/
def gap : Nat → List CpInfo → List CpInfo
  | 0, r => r
  | n + 1, r => .unusable :: gap n r
def poolList (es : List (Nat × CpInfo)) (last : Nat) : List CpInfo := es.foldr (fun e r => gap e.1 (e.2 :: r)) (gap last [])
def pool (es : List (Nat × CpInfo)) (last : Nat) : Array CpInfo := ⟨poolList es last⟩
def fileOf (pool : Array CpInfo) (this : Nat) (attrs : Array Attribute := #[]) (ms : Array MethodInfo := #[]) (fl : Nat := 33) (sup : Nat := 0) (ifs : Array Nat := #[]) (fds : Array FieldInfo := #[]) : ClassFile where
  minorVersion := 0
  majorVersion := 65
  constantPool := pool
  accessFlags := fl
  thisClass := this
  superClass := sup
  interfaces := ifs
  fields := fds
  methods := ms
  attributes := attrs
def plain (name : String) (sup : Option ClassId) : Class where
  name := name
  kind := .ordinary
  loader := none
  accessFlags := 33
  super := sup
  interfaces := #[]
  cf := none
  fields := #[]
  methods := #[]
  instanceTypes := #[]
  staticTypes := #[]
  resolved := #[]
  callSites := []
  init := .initialized
  statics := none
  mirror := none

def pool0 : Array CpInfo := pool [(5, u "<init>"), (0, u "()V"), (1, .class_ 10), (1, u "java/lang/Object")] 113

def k0m0 : Method := { name := "<init>", desc := "()V", sig := { parameters := [], returnType := none }, accessFlags := 1, code := none }
/-- java/lang/Object -/
def k0 : Class := { plain "java/lang/Object" none with
  accessFlags := 33
  interfaces := #[]
  cf := some (fileOf pool0 8 #[] #[{ accessFlags := 1, nameIndex := 5, descriptorIndex := 6, attributes := #[] }] 33 0 #[] #[])
  fields := #[]
  methods := #[k0m0]
  instanceTypes := #[]
  staticTypes := #[]
  resolved := Array.replicate 124 none
  statics := none }

def pool1 : Array CpInfo := pool [(2, .class_ 4), (1, u "java/lang/Object"), (0, u "<init>"), (0, u "()V"), (0, .methodref 8 9), (0, .class_ 10), (0, .nameAndType 11 12), (0, u "com/example/jitlens/jitlens/LogTextStartsWithPinLaw"), (0, u "drawn"), (0, u "(JI)B"), (0, .integer 2147483647), (0, .methodref 8 15), (0, .nameAndType 16 17), (0, u "textByte"), (0, u "([BIIIJ)B"), (0, .methodref 19 20), (0, .class_ 21), (0, .nameAndType 22 23), (0, u "com/example/jitlens/jitlens/LogText"), (0, u "startsWith"), (0, u "([BII[B)Z"), (3, u "law"), (0, u "(JJIII)Z")] 4

def k1m0 : Method := { name := "<init>", desc := "()V", sig := { parameters := [], returnType := none }, accessFlags := 2, code := none }
def k1c1 : Code := { maxStack := 4, maxLocals := 3, code := method_2_code, exceptionTable := #[], attributes := #[] }
def k1m1 : Method := { name := "drawn", desc := "(JI)B", sig := { parameters := [.long, .int], returnType := some .byte }, accessFlags := 10, code := some k1c1 }
def k1c2 : Code := { maxStack := 3, maxLocals := 7, code := method_3_code, exceptionTable := #[], attributes := #[] }
def k1m2 : Method := { name := "textByte", desc := "([BIIIJ)B", sig := { parameters := [(.array .byte), .int, .int, .int, .long], returnType := some .byte }, accessFlags := 10, code := some k1c2 }
def k1c3 : Code := { maxStack := 8, maxLocals := 14, code := code, exceptionTable := #[], attributes := #[] }
def k1m3 : Method := { name := "law", desc := "(JJIII)Z", sig := { parameters := [.long, .long, .int, .int, .int], returnType := some .boolean }, accessFlags := 9, code := some k1c3 }
/-- com/example/jitlens/jitlens/LogTextStartsWithPinLaw -/
def k1 : Class := { plain "com/example/jitlens/jitlens/LogTextStartsWithPinLaw" (some 0) with
  accessFlags := 49
  interfaces := #[]
  cf := some (fileOf pool1 8 #[] #[{ accessFlags := 2, nameIndex := 5, descriptorIndex := 6, attributes := #[] }, { accessFlags := 10, nameIndex := 11, descriptorIndex := 12, attributes := #[] }, { accessFlags := 10, nameIndex := 16, descriptorIndex := 17, attributes := #[] }, { accessFlags := 9, nameIndex := 27, descriptorIndex := 28, attributes := #[] }] 49 2 #[] #[])
  fields := #[]
  methods := #[k1m0, k1m1, k1m2, k1m3]
  instanceTypes := #[]
  staticTypes := #[]
  resolved := Array.replicate 33 none
  statics := none }

def pool2 : Array CpInfo := pool [(2, .class_ 4), (1, u "java/lang/Object"), (0, u "<init>"), (0, u "()V"), (7, .class_ 16), (1, u "com/example/jitlens/jitlens/LogText"), (0, u "PATTERN_SPACES"), (0, u "[Z"), (8, u "WORDS"), (0, u "Ljava/lang/invoke/VarHandle;"), (18, u "startsWith"), (0, u "([BII[B)Z"), (38, u "CHARSET"), (0, u "Ljava/nio/charset/Charset;"), (104, u "REPLACEMENT"), (0, u "C"), (1, u "SURROGATE_BYTES"), (0, u "I"), (1, u "ONES"), (0, u "J"), (0, u "HIGH_BITS")] 36

def k2m0 : Method := { name := "<init>", desc := "()V", sig := { parameters := [], returnType := none }, accessFlags := 2, code := none }
def k2c1 : Code := { maxStack := 3, maxLocals := 5, code := prog_103_method_6_code, exceptionTable := #[], attributes := #[] }
def k2m1 : Method := { name := "startsWith", desc := "([BII[B)Z", sig := { parameters := [(.array .byte), .int, .int, (.array .byte)], returnType := some .boolean }, accessFlags := 8, code := some k2c1 }
/-- com/example/jitlens/jitlens/LogText -/
def k2 : Class := { plain "com/example/jitlens/jitlens/LogText" (some 0) with
  accessFlags := 48
  interfaces := #[]
  cf := some (fileOf pool2 14 #[] #[{ accessFlags := 2, nameIndex := 5, descriptorIndex := 6, attributes := #[] }, { accessFlags := 8, nameIndex := 47, descriptorIndex := 48, attributes := #[] }] 48 2 #[] #[{ accessFlags := 24, nameIndex := 87, descriptorIndex := 88, attributes := #[] }, { accessFlags := 26, nameIndex := 193, descriptorIndex := 194, attributes := #[] }, { accessFlags := 26, nameIndex := 196, descriptorIndex := 197, attributes := #[] }, { accessFlags := 26, nameIndex := 27, descriptorIndex := 28, attributes := #[] }, { accessFlags := 26, nameIndex := 199, descriptorIndex := 200, attributes := #[] }, { accessFlags := 26, nameIndex := 201, descriptorIndex := 200, attributes := #[] }, { accessFlags := 26, nameIndex := 17, descriptorIndex := 18, attributes := #[] }])
  fields := #[{ name := "CHARSET", type := (.object "java/nio/charset/Charset"), accessFlags := 24, slot := 0, constantValue := 0 }, { name := "REPLACEMENT", type := .char, accessFlags := 26, slot := 1, constantValue := 0 }, { name := "SURROGATE_BYTES", type := .int, accessFlags := 26, slot := 2, constantValue := 0 }, { name := "WORDS", type := (.object "java/lang/invoke/VarHandle"), accessFlags := 26, slot := 3, constantValue := 0 }, { name := "ONES", type := .long, accessFlags := 26, slot := 4, constantValue := 0 }, { name := "HIGH_BITS", type := .long, accessFlags := 26, slot := 5, constantValue := 0 }, { name := "PATTERN_SPACES", type := (.array .boolean), accessFlags := 26, slot := 6, constantValue := 0 }]
  methods := #[k2m0, k2m1]
  instanceTypes := #[]
  staticTypes := #[(.object "java/nio/charset/Charset"), .char, .int, (.object "java/lang/invoke/VarHandle"), .long, .long, (.array .boolean)]
  resolved := Array.replicate 238 none
  statics := none }

def pool3 : Array CpInfo := pool [(1, u "java/lang/Cloneable"), (0, .class_ 1), (0, u "java/lang/Object"), (0, .class_ 3)] 3

/-- java/lang/Cloneable -/
def k3 : Class := { plain "java/lang/Cloneable" (some 0) with
  accessFlags := 1537
  interfaces := #[]
  cf := some (fileOf pool3 2 #[] #[] 1537 4 #[] #[])
  fields := #[]
  methods := #[]
  instanceTypes := #[]
  staticTypes := #[]
  resolved := Array.replicate 8 none
  statics := none }

def pool4 : Array CpInfo := pool [(1, u "java/io/Serializable"), (0, .class_ 1), (0, u "java/lang/Object"), (0, .class_ 3)] 3

/-- java/io/Serializable -/
def k4 : Class := { plain "java/io/Serializable" (some 0) with
  accessFlags := 1537
  interfaces := #[]
  cf := some (fileOf pool4 2 #[] #[] 1537 4 #[] #[])
  fields := #[]
  methods := #[]
  instanceTypes := #[]
  staticTypes := #[]
  resolved := Array.replicate 8 none
  statics := none }

/-- the primitive byte -/
def k5 : Class := { plain "byte" none with kind := .primitive 'B', accessFlags := 0x411 }
/-- [B -/
def k6 : Class := { plain "[B" (some 0) with kind := .array 5 .byte, interfaces := #[3, 4], accessFlags := 1041 }

/-- the primitive int -/
def k7 : Class := { plain "int" none with kind := .primitive 'I', accessFlags := 0x411 }
/-- [I -/
def k8 : Class := { plain "[I" (some 0) with kind := .array 7 .int, interfaces := #[3, 4], accessFlags := 1041 }

def heap : Heap := #[]
def classes : Array Class := #[k0, k1, k2, k3, k4, k5, k6, k7, k8]
def interned : List (Array UInt16 × Addr) := []
def slotsUsed : Nat := 0
def theMethod : MethodId := ⟨1, 3⟩
def args0 : Array Value := #[.long 5, .long 7, .int 1, .int 2, .int 3]
def aboutOver (below : List Frame) : State where
  vm := { classes := classes, interned := interned.toArray }
  heap := heap
  slotsUsed := slotsUsed
  threads := #[{ frames := .invoking theMethod args0 :: below }]
def below0 : List Frame := [.native { method := ⟨0, 0⟩, args := #[] }]
def about1 : State := aboutOver below0
def p0 : Program := .bare "" "" ""
def e0 : Env := launch0.env 0 0 0
theorem w_frames : about1.frames = Frame.invoking theMethod args0 :: below0 := rfl
set_option maxRecDepth 65536 in
theorem w_args : argsFit about1.vm theMethod args0 = true := by decide +kernel
set_option maxRecDepth 65536 in
theorem w_heap : heapFits about1 = true := by decide +kernel
set_option maxRecDepth 65536 in
theorem w_runnable : about1.curStatus? = some .runnable := by decide +kernel
set_option maxRecDepth 65536 in
theorem w_alone : about1.alone = true := by decide +kernel
set_option maxRecDepth 65536 in
theorem w_named : about1.methodNamed? x = some theMethod := by decide +kernel
set_option maxRecDepth 65536 in
theorem w_hears : about1.hears theMethod below0 = true := by decide +kernel
set_option maxRecDepth 65536 in
theorem w_ripe : about1.ripe theMethod args0 below0 = true := by decide +kernel
theorem w_running : about1.status = .running := rfl
set_option maxRecDepth 65536 in
theorem w_room : about1.hasRoom e0.platform room_1 = true :=
  launch0.hasRoom_least _ room_1 (by decide +kernel) (by decide +kernel) (by decide +kernel) (by decide +kernel) (by decide +kernel) (by decide +kernel)
theorem allAtoms_all (ts : List Jvm.Cond) (a : Array Jvm.Value) (st : Jvm.State) : (allAtoms ts).before a st = ts.all (fun c => c.before a st) := by
  induction ts with
  | nil => rfl
  | cons c t ih =>
    show (Jvm.Cond.and c (allAtoms t)).before a st = _
    rw [Jvm.Cond.before_and, ih, List.all_cons]
def words1 : List Jvm.Cond := Jvm.Cond.code x code maxLocals ret :: tables_1
/-- a 'code' word, met by the world's own term for the bytes: nothing is compared byte by byte -/
theorem code_word {y : MethodName} {bytes : ByteArray} {mx : Nat} {rt : Option FieldType} {a : Array Value} {s : State} {m : MethodId} {meth : Method} {c : Code} (h1 : s.methodNamed? y = some m) (h2 : s.vm.method? m = some meth) (h3 : meth.code = some c) (h4 : c.code = bytes)
    (h5 : (c.maxLocals == mx && c.exceptionTable.isEmpty && decide (c.maxStack ≤ mostOperands) && decide (meth.sig.returnType = rt) && !meth.locks && decide (parseMethodDescriptor y.desc = some meth.sig)) = true) : (Jvm.Cond.code y bytes mx rt).before a s = true := by
  simp only [Bool.and_eq_true, beq_iff_eq, Bool.not_eq_true', decide_eq_true_eq] at h5
  obtain ⟨⟨⟨⟨⟨g1, g2⟩, g3⟩, g4⟩, g5⟩, g6⟩ := h5
  simp [Cond.before, Cond.holds, Cond.value, h1, h2, h3, h4, g1, g2, g3, g4, g5, g6]
def isCode : Jvm.Cond → Bool
  | .code _ _ _ _ => true
  | _ => false
theorem all_split {L : List Jvm.Cond} {P : Jvm.Cond → Bool} (h1 : L.all (fun c => isCode c || P c) = true) (h2 : ∀ c ∈ L.filter isCode, P c = true) : L.all P = true := by
  refine List.all_eq_true.mpr fun c hc => ?_
  have h := List.all_eq_true.mp h1 c hc
  rcases Bool.eq_false_or_eq_true (isCode c) with hi | hi
  · exact h2 c (List.mem_filter.mpr ⟨hc, hi⟩)
  · simpa [hi] using h
set_option maxRecDepth 65536 in
theorem w_c0 : (Jvm.Cond.code x code maxLocals ret).before args0 about1 = true := code_word (m := ⟨1, 3⟩) (meth := k1m3) (c := k1c3) (by decide +kernel) rfl rfl rfl (by decide +kernel)
set_option maxRecDepth 65536 in
theorem w_c1 : (Jvm.Cond.code ({ cls := "com/example/jitlens/jitlens/LogTextStartsWithPinLaw", name := "drawn", desc := "(JI)B" } : Jvm.MethodName) method_2_code (3 : Nat) (Option.some Jvm.ClassFile.FieldType.byte)).before args0 about1 = true := code_word (m := ⟨1, 1⟩) (meth := k1m1) (c := k1c1) (by decide +kernel) rfl rfl rfl (by decide +kernel)
set_option maxRecDepth 65536 in
theorem w_c2 : (Jvm.Cond.code ({ cls := "com/example/jitlens/jitlens/LogText", name := "startsWith", desc := "([BII[B)Z" } : Jvm.MethodName) prog_103_method_6_code (5 : Nat) (Option.some Jvm.ClassFile.FieldType.boolean)).before args0 about1 = true := code_word (m := ⟨2, 1⟩) (meth := k2m1) (c := k2c1) (by decide +kernel) rfl rfl rfl (by decide +kernel)
set_option maxRecDepth 65536 in
theorem w_c3 : (Jvm.Cond.code ({ cls := "com/example/jitlens/jitlens/LogTextStartsWithPinLaw", name := "textByte", desc := "([BIIIJ)B" } : Jvm.MethodName) method_3_code (7 : Nat) (Option.some Jvm.ClassFile.FieldType.byte)).before args0 about1 = true := code_word (m := ⟨1, 2⟩) (meth := k1m2) (c := k1c2) (by decide +kernel) rfl rfl rfl (by decide +kernel)
def codes1 : List Jvm.Cond := [Jvm.Cond.code x code maxLocals ret, Jvm.Cond.code ({ cls := "com/example/jitlens/jitlens/LogTextStartsWithPinLaw", name := "drawn", desc := "(JI)B" } : Jvm.MethodName) method_2_code (3 : Nat) (Option.some Jvm.ClassFile.FieldType.byte), Jvm.Cond.code ({ cls := "com/example/jitlens/jitlens/LogText", name := "startsWith", desc := "([BII[B)Z" } : Jvm.MethodName) prog_103_method_6_code (5 : Nat) (Option.some Jvm.ClassFile.FieldType.boolean), Jvm.Cond.code ({ cls := "com/example/jitlens/jitlens/LogTextStartsWithPinLaw", name := "textByte", desc := "([BIIIJ)B" } : Jvm.MethodName) method_3_code (7 : Nat) (Option.some Jvm.ClassFile.FieldType.byte)]
set_option maxRecDepth 65536 in
theorem codes_eq : words1.filter isCode = codes1 := rfl
theorem w_codes : ∀ c ∈ words1.filter isCode, c.before args0 about1 = true := by
  rw [codes_eq]
  intro c hc
  simp only [codes1, List.mem_cons, List.not_mem_nil, or_false] at hc
  rcases hc with rfl | rfl | rfl | rfl
  · exact w_c0
  · exact w_c1
  · exact w_c2
  · exact w_c3
set_option maxRecDepth 65536 in
theorem w_t1 : words1.all (fun c => isCode c || c.before args0 about1) = true := by decide +kernel
theorem w_tables : (allAtoms (Jvm.Cond.code x code maxLocals ret :: tables_1)).before args0 about1 = true := by
  rw [allAtoms_all]
  show words1.all (fun c => c.before args0 about1) = true
  refine all_split ?_ w_codes
  rw [w_t1]
set_option maxRecDepth 65536 in
theorem w_case : (Jvm.Cond.and given_1 narrow_1).before args0 about1 = true := by decide +kernel
theorem w_applies : (headSpec (Jvm.Cond.code x code maxLocals ret :: tables_1) room_1).applies x e0.platform about1 = true :=
  (Spec.applies_iff w_frames).mpr ⟨w_running, w_runnable, w_alone, w_named, w_hears, w_ripe, w_room, w_tables⟩
theorem atStart : AtStart classFile x code maxLocals ret World_1 tables_1 room_1 Calls_1 rest_1 Pre_1 launch0 p0 e0 about1 theMethod args0 below0 :=
  ⟨lists_1, trivial, launch0.admits_env _ _ _, launch0.least_env, fairChoices_fair.cas, fairChoices_fair.clock, w_frames, w_args, w_heap, w_applies, trivial, trivial, w_case⟩
end start1
theorem witness_1 : WitnessClaimed_1 := ⟨start1.p0, start1.e0, start1.about1, start1.theMethod, start1.args0, start1.below0, start1.atStart⟩
end Jvm.Pilot.@@N@@
