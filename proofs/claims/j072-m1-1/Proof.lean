import JvmDerived
import JvmDerived.Pilot.@@N@@Statement
import JvmDerived.Pilot.@@N@@Code
set_option linter.unusedVariables false
set_option linter.unusedSimpArgs false
@@BLOCK:NumsL.lean.txt@@
namespace Jvm.Pilot.@@N@@
open Jvm Jvm.ClassFile Sem Op Lib Jvm.Free Jvm.Stand Jvm.LawKit Jvm.RoadKit Bundle Jvm.Pilot.@@N@@.Jvm.D
/-! from the frame g at T the run ends in a return: Q of what is returned, the heap and the written places -/
def own_Fin (p : Program) (e : Env) (below : List Frame) (s T : State) (g : JFrame) (Q : Option Value → Heap → List Loc → Prop) (C S : Nat) : Prop :=
  ∃ s₂ o, Steps p.tables e below (T.setTop g) s₂ ∧ s₂.status = .running ∧ Ended s₂ below o ∧ ∃ v L, o = .returned v ∧ Q v s₂.heap L ∧ FrameEnd s o s₂ L C S
section Own
variable {p : Program} {l : Launch} {e : Env} {R : Room} {s : State} {m : MethodId} {args : Array Value} {below : List Frame} {meth : Method} {c : Code} {T T' : State} {g g' : JFrame} {locs : List Loc} {cells slots C S : Nat} {Q : Option Value → Heap → List Loc → Prop}
theorem own_go (h : ∀ t, Steps p.tables e below (T'.setTop g') t → Steps p.tables e below (T.setTop g) t) (k : own_Fin p e below s T' g' Q C S) : own_Fin p e below s T g Q C S := by
  obtain ⟨s2, o, h1, r⟩ := k
  exact ⟨s2, o, h _ h1, r⟩
theorem own_gt (h : Steps p.tables e below (T.setTop g) (T'.setTop g')) (k : own_Fin p e below s T' g' Q C S) : own_Fin p e below s T g Q C S := by
  obtain ⟨s2, o, h1, r⟩ := k
  exact ⟨s2, o, h.trans h1, r⟩
theorem own_end (X : Stand p l e R s m args below meth c T locs cells slots) (hnl : meth.locks = false) {v : Option Value} (hv : meth.sig.returnType = none → v = none)
    (st : ∀ fs, (∀ (f : JFrame) (acts : List Action), f.method = m → f.locked = none → f.entered = [] → (doReturn e (T.setTop f) acts v).1 = T.setFrames fs) → Steps p.tables e below (T.setTop g) (T.setFrames fs)) (hc : cells ≤ C) (hs : slots ≤ S) (hQ : Q v T.heap locs) : own_Fin p e below s T g Q C S := by
  obtain ⟨fs, hr, hrun, hended, hW, hsame⟩ := X.leave (v := v) hv hnl
  exact ⟨_, _, st fs hr, hrun, hended, _, _, rfl, hQ, ⟨_, rfl⟩, hW, hsame.mono hc hs⟩
theorem own_retZ (X : Stand p l e R s m args below meth c T locs cells slots) (hx : p.tables.exec = Jvm.exec) (hnl : meth.locks = false) {pc : Nat} {Ls : Array Slot} {z : Int32} {t : FieldType} {rest : List Value} (hret : meth.sig.returnType = some t) (ht : t = .boolean ∨ t = .byte ∨ t = .char ∨ t = .short)
    (hd : decode c.code pc = .ok (.ireturn, 1)) (hc : cells ≤ C) (hs : slots ≤ S) (hQ : Q (some (.int (nar t z))) T.heap locs) : own_Fin p e below s T (mkF m pc Ls (.int z :: rest)) Q C S :=
  own_end X hnl (fun h => by rw [hret] at h; cases h) (fun fs hr => retN X hx hret ht hd hr) hc hs hQ
theorem own_retI (X : Stand p l e R s m args below meth c T locs cells slots) (hx : p.tables.exec = Jvm.exec) (hnl : meth.locks = false) {pc : Nat} {Ls : Array Slot} {z : Int32} {rest : List Value} (hret : meth.sig.returnType = some .int)
    (hd : decode c.code pc = .ok (.ireturn, 1)) (hc : cells ≤ C) (hs : slots ≤ S) (hQ : Q (some (.int z)) T.heap locs) : own_Fin p e below s T (mkF m pc Ls (.int z :: rest)) Q C S :=
  own_end X hnl (fun h => by rw [hret] at h; cases h) (fun fs hr => by
    have hm' : T.vm.method? m = some meth := X.method'
    have hn : narrow .int (.int z) = .int z := rfl
    show Steps p.tables e below (T.setTop { method := m, pc := pc, locals := Ls, stack := _ :: rest, locked := none }) _
    jvm_step X.here [X.here.top, hx, hd, hm', hret, hn]
    first | (intro acts; rw [hr _ acts rfl rfl rfl]) | rw [hr _ _ rfl rfl rfl]
    exact Steps.refl _) hc hs hQ
theorem own_retJ (X : Stand p l e R s m args below meth c T locs cells slots) (hx : p.tables.exec = Jvm.exec) (hnl : meth.locks = false) {pc : Nat} {Ls : Array Slot} {z : Int64} (hret : meth.sig.returnType = some .long)
    (hd : decode c.code pc = .ok (.lreturn, 1)) (hc : cells ≤ C) (hs : slots ≤ S) (hQ : Q (some (.long z)) T.heap locs) : own_Fin p e below s T (mkF m pc Ls [.long z]) Q C S :=
  own_end X hnl (fun h => by rw [hret] at h; cases h) (fun fs hr => X.lreturnOut hx hret hd hr) hc hs hQ
theorem own_retV (X : Stand p l e R s m args below meth c T locs cells slots) (hx : p.tables.exec = Jvm.exec) (hnl : meth.locks = false) {pc : Nat} {Ls : Array Slot} (hret : meth.sig.returnType = none)
    (hd : decode c.code pc = .ok (.return_, 1)) (hc : cells ≤ C) (hs : slots ≤ S) (hQ : Q none T.heap locs) : own_Fin p e below s T (mkF m pc Ls []) Q C S :=
  own_end X hnl (fun _ => rfl) (fun fs hr => X.returnOut hx hret hd hr) hc hs hQ
end Own
def own_up (f : Nat → Int32) (k : Nat) (x : Int32) : Nat → Int32 := fun i => if i = k then x else f i
/-- a byte[] of N components; the i-th holds f i -/
def own_Ba (Z : State) (h : Heap) (a : Addr) (N : Nat) (f : Nat → Int32) : Prop := ∃ cl : Cell, Arr Z h a cl .byte ∧ cl.slots.size = N ∧ ∀ i, i < N → cl.slots[i]? = some (.int (f i))
section OwnArr
variable {p : Program} {l : Launch} {e : Env} {R : Room} {s : State} {m : MethodId} {args : Array Value} {below : List Frame} {meth : Method} {c : Code} {T : State} {locs : List Loc} {cells slots : Nat} {Z : State} {h h' : Heap} {a b : Addr} {N : Nat} {f f' : Nat → Int32} {sl : Nat} {v : Value} {ws : List Addr}
theorem own_Ba.lt (B : own_Ba Z h a N f) : a < h.size := by obtain ⟨cl, A, -⟩ := B; exact A.lt
theorem own_Ba.ext (B : own_Ba Z h a N f) (E : Ext h h') : own_Ba Z h' a N f := by obtain ⟨cl, A, r⟩ := B; exact ⟨cl, A.ext E, r⟩
theorem own_Ba.other (B : own_Ba Z h a N f) (W : Wr h h' b sl v) (q : a ≠ b) : own_Ba Z h' a N f := by obtain ⟨cl, A, r⟩ := B; exact ⟨cl, A.other W q, r⟩
theorem own_Ba.keep (B : own_Ba Z h a N f) (K : Keep h h' ws) (q : a ∉ ws) : own_Ba Z h' a N f := by obtain ⟨cl, A, r⟩ := B; exact ⟨cl, ⟨K.2.1 a cl A.1 q, A.2⟩, r⟩
theorem own_Ba.congr (B : own_Ba Z h a N f) (q : ∀ i, i < N → f' i = f i) : own_Ba Z h a N f' := by obtain ⟨cl, A, r1, r2⟩ := B; exact ⟨cl, A, r1, fun i hi => by rw [q i hi]; exact r2 i hi⟩
theorem own_Ba.new {k : ClassId} {z : Int32} (A : Arr Z h a (newA k .byte z) .byte) (hz : ¬ z < 0) : own_Ba Z h a z.toNatClampNeg (fun _ => 0) :=
  ⟨_, A, sz_new _ _ _, fun i hi => by simp [newA, hi, defaultValue]⟩
theorem own_Ba.set (B : own_Ba Z h a N f) {k : Nat} {x : Int32} (hk : sl = k) (W : Wr h h' a sl (.int x)) : own_Ba Z h' a N (own_up f k x) := by
  subst hk
  obtain ⟨cl, A, r1, r2⟩ := B
  refine ⟨_, A.same W, by rw [sz_set]; exact r1, fun i hi => ?_⟩
  by_cases u : sl = i
  · subst u
    have : sl < cl.slots.size := by rw [r1]; exact hi
    simp [Cell.setSlot, own_up, this]
  · have u' : ¬ i = sl := fun q => u q.symm
    simp only [Cell.setSlot, own_up, u', if_false]
    rw [Array.getElem?_setIfInBounds_ne u]; exact r2 i hi
theorem own_bst (X : Stand p l e R s m args below meth c T locs cells slots) (hx : p.tables.exec = Jvm.exec) (hZ : Z.Warmed39 s.vm) (eT : T.heap = h) (B : own_Ba Z h a N f) {j x : Int32} (k : Nat) (hj : ¬ j < 0) (hk : j.toNatClampNeg = k) (hl : k < N) {g : JFrame} (hg : g.method = m) {rest : List Value} (hs : g.stack = .int x :: .int j :: .ref a :: rest) (hd : decode c.code g.pc = .ok (.bastore, 1)) :
    ∃ T' h', Stand p l e R s m args below meth c T' (locs ++ [⟨a, j.toNatClampNeg⟩]) cells slots ∧ T'.heap = h' ∧ Wr h h' a j.toNatClampNeg (.int (nar .byte x)) ∧ own_Ba Z h' a N (own_up f k (nar .byte x)) ∧ ∀ target, Steps p.tables e below (T'.setTop { g with pc := g.pc + 1, stack := rest }) target → Steps p.tables e below (T.setTop g) target := by
  obtain ⟨cl, A, r1, r2⟩ := id B
  obtain ⟨T', h', X', e', W, st⟩ := stB X hx hZ eT A (j := j) (x := x) (by rw [r1, hk]; exact fun q => q.elim hj (fun q => absurd hl (Nat.not_lt.mpr q))) hg hs hd
  exact ⟨T', h', X', e', W, B.set hk W, st⟩
theorem own_bld (X : Stand p l e R s m args below meth c T locs cells slots) (hx : p.tables.exec = Jvm.exec) (hZ : Z.Warmed39 s.vm) (eT : T.heap = h) (B : own_Ba Z h a N f) {j : Int32} (k : Nat) (hj : ¬ j < 0) (hk : j.toNatClampNeg = k) (hl : k < N) {g : JFrame} (hg : g.method = m) {rest : List Value} (hs : g.stack = .int j :: .ref a :: rest) (hd : decode c.code g.pc = .ok (.baload, 1)) :
    ∀ target, Steps p.tables e below (T.setTop { g with pc := g.pc + 1, stack := .int (f k) :: rest }) target → Steps p.tables e below (T.setTop g) target := fun target hr => by
  obtain ⟨cl, A, r1, r2⟩ := B
  exact X.baloadBytes hx (j := j) (v := .int (f k)) (by rw [eT]; exact A.1) (State.isArrayOf_alike hZ.alike A.2.1) A.2.2 (by rw [r1, hk]; exact fun q => q.elim hj (fun q => absurd hl (Nat.not_lt.mpr q))) (by rw [hk]; exact r2 k hl) hg hs hd target hr
theorem own_aln (X : Stand p l e R s m args below meth c T locs cells slots) (hx : p.tables.exec = Jvm.exec) (hZ : Z.Warmed39 s.vm) (eT : T.heap = h) (B : own_Ba Z h a N f) {g : JFrame} (hg : g.method = m) {rest : List Value} (hs : g.stack = .ref a :: rest) (hd : decode c.code g.pc = .ok (.arraylength, 1)) :
    ∀ target, Steps p.tables e below (T.setTop { g with pc := g.pc + 1, stack := .int N.toInt32 :: rest }) target → Steps p.tables e below (T.setTop g) target := fun target hr => by
  obtain ⟨cl, A, r1, r2⟩ := B
  subst r1
  exact X.arraylength hx (by rw [eT]; exact A.1) (State.isArrayOf_alike hZ.alike A.2.1) hg hs hd target hr
theorem own_dup2 {tb : Tables} [Ours tb] {e : Env} {below : List Frame} {T target : State} {m : MethodId} {c : Code} {g : JFrame} (h : At T m c below) (hx : tb.exec = Jvm.exec) (hg : g.method = m) {x y : Value} {rest : List Value} (hd : decode c.code g.pc = .ok (.dup2, 1)) (hs : g.stack = x :: y :: rest) (h1 : x.category = 1) (h2 : y.category = 1)
    (hr : Steps tb e below (T.setTop { g with pc := g.pc + 1, stack := x :: y :: x :: y :: rest }) target) : Steps tb e below (T.setTop g) target := by
  subst hg
  jvm_step h [h.top, hx, hd, hs, h1, h2]
  exact hr
end OwnArr

theorem own_lt {x y : Int32} : x < y ↔ x.toInt < y.toInt := Int32.lt_iff_toInt_lt
theorem own_ltJ {x y : Int64} : x < y ↔ x.toInt < y.toInt := Int64.lt_iff_toInt_lt
theorem own_eq {x y : Int32} : x = y ↔ x.toInt = y.toInt := Int32.toInt_inj.symm
theorem own_eqJ {x y : Int64} : x = y ↔ x.toInt = y.toInt := Int64.toInt_inj.symm
theorem own_rng (x : Int32) : -2147483648 ≤ x.toInt ∧ x.toInt < 2147483648 := ⟨by have := Int32.le_toInt x; omega, by have := Int32.toInt_lt x; omega⟩
theorem own_rngJ (x : Int64) : -9223372036854775808 ≤ x.toInt ∧ x.toInt < 9223372036854775808 := ⟨by have := Int64.le_toInt x; omega, by have := Int64.toInt_lt x; omega⟩

def own_b (x0 : Int64) (x1 : Int32) : Int32 := nar .byte ((((x0.toUInt64 >>> (x1 &&& 0x3f).toInt64.toUInt64).toInt64).toInt32).toInt8.toInt32)
theorem d1_0 : decode method_2_code 0 = .ok (.lload_n 0, 1) := by decide +kernel
theorem d1_1 : decode method_2_code 1 = .ok (.iload_n 2, 1) := by decide +kernel
theorem d1_2 : decode method_2_code 2 = .ok (.lushr, 1) := by decide +kernel
theorem d1_3 : decode method_2_code 3 = .ok (.l2i, 1) := by decide +kernel
theorem d1_4 : decode method_2_code 4 = .ok (.i2b, 1) := by decide +kernel
theorem d1_5 : decode method_2_code 5 = .ok (.ireturn, 1) := by decide +kernel
theorem pn_1 : plainName "com/example/hosts_to_firehose/hoststofirehose/io/WebSocketProtocolApplyMaskPinLaw" = true := by first | (simp [plainName, overriddenIn]; done) | decide +kernel
theorem ef_1 (m : MethodId) (x0 : Int64) (x1 : Int32) : entryFrame m #[(.long x0), (.int x1)] 3 = mkF m 0 #[.val (.long x0), .second, .val (.int x1)] [] := by first | (simp [entryFrame, mkF, argsToLocals, Value.category]; done) | rfl
def Q1 (Z : State) (x0 : Int64) (x1 : Int32) (h0 : Heap) (n0 : Nat) (v : Option Value) (h : Heap) (L : List Loc) : Prop := v = some (.int (own_b x0 x1)) ∧ Fr n0 L ∧ h = h0
set_option maxRecDepth 65536 in
set_option maxHeartbeats 40000000 in
theorem rm1 (l : Launch) (Z : State) (a0 : Array Value) (hw : ∀ d ∈ tables_1, d.before a0 Z = true) (ws : List Jvm.Cond) (x0 : Int64) (x1 : Int32) (h0 : Heap) (n0 : Nat) (Z0 : n0 ≤ h0.size) :
    MetFree l (⟨"com/example/hosts_to_firehose/hoststofirehose/io/WebSocketProtocolApplyMaskPinLaw", "b", "(JI)B"⟩ : MethodName) (head1 (Jvm.Cond.code (⟨"com/example/hosts_to_firehose/hoststofirehose/io/WebSocketProtocolApplyMaskPinLaw", "b", "(JI)B"⟩ : MethodName) method_2_code 3 (some .byte) :: ws) ({ frames := 0, cells := 0, slots := 0, locals := 0 } : Room)) (fun a U => a = #[(.long x0), (.int x1)] ∧ Z.Warmed39 U.vm ∧ U.heap = h0) (fun _ _ _ _ _ => True) (fun _ U o U' => ∃ v L, o = .returned v ∧ Q1 Z x0 x1 h0 n0 v U'.heap L ∧ FrameEnd U o U' L ({ frames := 0, cells := 0, slots := 0, locals := 0 } : Room).cells ({ frames := 0, cells := 0, slots := 0, locals := 0 } : Room).slots) := by
  refine MetFree.of_bodySF (plainFor_of_name pn_1) hisR ?_
  intro p e s m args below meth c s₁ Bd hml0 hP hK
  obtain ⟨rfl, hZ, hh⟩ := hP
  have hx := Bd.exec
  have hby := Bd.bytes
  have hret := Bd.returns
  have hnl : meth.locks = false := Bd.notSynchronized
  have hml : c.maxLocals = 3 := hml0
  have hown : s.vm.findClass "com/example/hosts_to_firehose/hoststofirehose/io/WebSocketProtocolApplyMaskPinLaw" = some m.cls := findClass_of_methodNamed Bd.named
  have hnm := (name_of_methodNamed Bd.named Bd.method).1
  have X0 : Stand p l e ({ frames := 0, cells := 0, slots := 0, locals := 0 } : Room) s m #[(.long x0), (.int x1)] below meth c s₁ [] 0 0 := Stand.of_body Bd
  have e0 : s₁.heap = h0 := by rw [← hh, Bd.state]; rfl
  have N0 := Fr.nil n0
  suffices key : own_Fin p e below s s₁ (mkF m 0 #[.val (.long x0), .second, .val (.int x1)] []) (Q1 Z x0 x1 h0 n0) ({ frames := 0, cells := 0, slots := 0, locals := 0 } : Room).cells ({ frames := 0, cells := 0, slots := 0, locals := 0 } : Room).slots by
    obtain ⟨s2, o, h1, h2⟩ := key
    exact ⟨s2, o, castTop (ef_1 m x0 x1) h1, h2⟩
  refine own_go (fun _ => XS.lloadN X0.here hx rfl (hb hby d1_0) rfl) ?_
  show own_Fin _ _ _ _ s₁ (mkF m 1 #[.val (.long x0), .second, .val (.int x1)] [(.long x0)]) _ _ _
  refine own_go (fun _ => XS.iloadN X0.here hx rfl (hb hby d1_1) rfl) ?_
  show own_Fin _ _ _ _ s₁ (mkF m 2 #[.val (.long x0), .second, .val (.int x1)] [(.int x1), (.long x0)]) _ _ _
  refine own_go (fun _ => XS.lushr X0.here hx rfl (hb hby d1_2) rfl) ?_
  show own_Fin _ _ _ _ s₁ (mkF m 3 #[.val (.long x0), .second, .val (.int x1)] [(.long ((x0.toUInt64 >>> (x1 &&& 0x3f).toInt64.toUInt64).toInt64))]) _ _ _
  refine own_go (fun _ => XS.l2i X0.here hx rfl (hb hby d1_3) rfl) ?_
  show own_Fin _ _ _ _ s₁ (mkF m 4 #[.val (.long x0), .second, .val (.int x1)] [(.int (((x0.toUInt64 >>> (x1 &&& 0x3f).toInt64.toUInt64).toInt64).toInt32))]) _ _ _
  refine own_go (fun _ => XS.i2b X0.here hx rfl (hb hby d1_4) rfl) ?_
  show own_Fin _ _ _ _ s₁ (mkF m 5 #[.val (.long x0), .second, .val (.int x1)] [(.int ((((x0.toUInt64 >>> (x1 &&& 0x3f).toInt64.toUInt64).toInt64).toInt32).toInt8.toInt32))]) _ _ _
  exact own_retZ X0 hx hnl (t := .byte) hret (by simp) (hb hby d1_5) (by decide) (by decide) ⟨rfl, N0, e0⟩

theorem own_nb (x : Int32) : nar .byte (x.toInt8.toInt32) = x.toInt8.toInt32 := by simp [nar]
/-- the array when the turns n .. i - 1 are made -/
def own_msk (fb fm : Nat → Int32) (n i : Nat) : Nat → Int32 := fun j => if n ≤ j ∧ j < i then nar .byte ((fb j ^^^ fm ((j - n) % 4)).toInt8.toInt32) else fb j
theorem own_msk0 (fb fm : Nat → Int32) (n : Nat) (j : Nat) : own_msk fb fm n n j = fb j := by
  have h : ¬ (n ≤ j ∧ j < n) := by omega
  simp only [own_msk, h, if_false]
theorem own_msk_at (fb fm : Nat → Int32) (n i : Nat) : own_msk fb fm n i i = fb i := by
  have h : ¬ (n ≤ i ∧ i < i) := by omega
  simp only [own_msk, h, if_false]
theorem own_msk_step (fb fm : Nat → Int32) {n i : Nat} (h : n ≤ i) (j : Nat) : own_msk fb fm n (i + 1) j = own_up (own_msk fb fm n i) i (nar .byte ((own_msk fb fm n i i ^^^ fm ((i - n) % 4)).toInt8.toInt32)) j := by
  rw [own_msk_at]
  simp only [own_up]
  by_cases q : j = i
  · subst q
    have h2 : n ≤ j ∧ j < j + 1 := by omega
    simp only [own_msk, h2, if_true, and_self]
  · simp only [q, if_false, own_msk]
    have h3 : (n ≤ j ∧ j < i + 1) ↔ (n ≤ j ∧ j < i) := by omega
    simp only [h3]
theorem own_small : ∀ i : Fin 9, ¬ (Int32.ofNat i.val < 0) ∧ (Int32.ofNat i.val).toNatClampNeg = i.val ∧ Int32.ofNat i.val + 1 = Int32.ofNat (i.val + 1) ∧ (Int32.ofNat i.val < 8 ↔ i.val < 8) := by decide +kernel
theorem own_sm {i : Nat} (h : i ≤ 8) {j : Int32} (hj : j = Int32.ofNat i) : ¬ (j < 0) ∧ j.toNatClampNeg = i ∧ j + 1 = Int32.ofNat (i + 1) ∧ (j < 8 ↔ i < 8) := by
  subst hj; exact own_small ⟨i, by omega⟩
theorem own_pair : ∀ i n : Fin 9, n.val ≤ i.val → (¬ ((Int32.ofNat i.val - Int32.ofNat n.val) - ((Int32.ofNat i.val - Int32.ofNat n.val) / 4) * 4 < 0) ∧ ((Int32.ofNat i.val - Int32.ofNat n.val) - ((Int32.ofNat i.val - Int32.ofNat n.val) / 4) * 4).toNatClampNeg = (i.val - n.val) % 4) ∧ (¬ ((Int32.ofNat i.val - Int32.ofNat n.val) &&& 3 < 0) ∧ ((Int32.ofNat i.val - Int32.ofNat n.val) &&& 3).toNatClampNeg = (i.val - n.val) % 4) := by decide +kernel
theorem own_pr {i n : Nat} {j x : Int32} (hi : i ≤ 8) (hn : n ≤ i) (hj : j = Int32.ofNat i) (hx : x = Int32.ofNat n) : (¬ ((j - x) - ((j - x) / 4) * 4 < 0) ∧ ((j - x) - ((j - x) / 4) * 4).toNatClampNeg = (i - n) % 4) ∧ (¬ ((j - x) &&& 3 < 0) ∧ ((j - x) &&& 3).toNatClampNeg = (i - n) % 4) := by
  subst hj hx; exact own_pair ⟨i, by omega⟩ ⟨n, by omega⟩ hn
theorem own_cmp8 : ∀ i n : Fin 9, (Int32.ofNat i.val < Int32.ofNat n.val ↔ i.val < n.val) := by decide +kernel
theorem own_cmp {i n : Nat} {j x : Int32} (hi : i ≤ 8) (hn : n ≤ 8) (hj : j = Int32.ofNat i) (hx : x = Int32.ofNat n) : j < x ↔ i < n := by
  subst hj hx; exact own_cmp8 ⟨i, by omega⟩ ⟨n, by omega⟩
theorem own_from (x : Int32) : ∃ n : Nat, n ≤ 8 ∧ ((x &&& (2147483647 : Int32)) - ((x &&& (2147483647 : Int32)) / (9 : Int32)) * (9 : Int32)) = Int32.ofNat n := by
  have h1 : (x &&& (2147483647 : Int32)).toInt = x.toInt % 2 ^ 31 := Jvm.Kit.i32_mask x 2147483647 (k := 31) (by decide) (by decide)
  have h2 := rem_toInt (x &&& (2147483647 : Int32)) 9
  have e9 : (9 : Int32).toInt = 9 := by decide
  rw [e9, h1, Int.tmod_eq_emod_of_nonneg (by omega)] at h2
  refine ⟨(x.toInt % 2 ^ 31 % 9).toNat, by omega, ?_⟩
  apply Int32.toInt_inj.mp
  rw [h2, Int32.toInt_ofNat_of_lt (by omega)]
  omega

theorem d2_0 : decode prog_21_method_6_code 0 = .ok (.iload_n 1, 1) := by decide +kernel
theorem d2_1 : decode prog_21_method_6_code 1 = .ok (.istore_n 3, 1) := by decide +kernel
theorem d2_2 : decode prog_21_method_6_code 2 = .ok (.iload_n 3, 1) := by decide +kernel
theorem d2_3 : decode prog_21_method_6_code 3 = .ok (.aload_n 0, 1) := by decide +kernel
theorem d2_4 : decode prog_21_method_6_code 4 = .ok (.arraylength, 1) := by decide +kernel
theorem d2_5 : decode prog_21_method_6_code 5 = .ok (.if_icmp .ge 23, 3) := by decide +kernel
theorem d2_8 : decode prog_21_method_6_code 8 = .ok (.aload_n 0, 1) := by decide +kernel
theorem d2_9 : decode prog_21_method_6_code 9 = .ok (.iload_n 3, 1) := by decide +kernel
theorem d2_10 : decode prog_21_method_6_code 10 = .ok (.dup2, 1) := by decide +kernel
theorem d2_11 : decode prog_21_method_6_code 11 = .ok (.baload, 1) := by decide +kernel
theorem d2_12 : decode prog_21_method_6_code 12 = .ok (.aload_n 2, 1) := by decide +kernel
theorem d2_13 : decode prog_21_method_6_code 13 = .ok (.iload_n 3, 1) := by decide +kernel
theorem d2_14 : decode prog_21_method_6_code 14 = .ok (.iload_n 1, 1) := by decide +kernel
theorem d2_15 : decode prog_21_method_6_code 15 = .ok (.isub, 1) := by decide +kernel
theorem d2_16 : decode prog_21_method_6_code 16 = .ok (.iconst 4, 1) := by decide +kernel
theorem d2_17 : decode prog_21_method_6_code 17 = .ok (.irem, 1) := by decide +kernel
theorem d2_18 : decode prog_21_method_6_code 18 = .ok (.baload, 1) := by decide +kernel
theorem d2_19 : decode prog_21_method_6_code 19 = .ok (.ixor, 1) := by decide +kernel
theorem d2_20 : decode prog_21_method_6_code 20 = .ok (.i2b, 1) := by decide +kernel
theorem d2_21 : decode prog_21_method_6_code 21 = .ok (.bastore, 1) := by decide +kernel
theorem d2_22 : decode prog_21_method_6_code 22 = .ok (.iinc 3 1, 3) := by decide +kernel
theorem d2_25 : decode prog_21_method_6_code 25 = .ok (.goto (-23), 3) := by decide +kernel
theorem d2_28 : decode prog_21_method_6_code 28 = .ok (.return_, 1) := by decide +kernel
theorem pn_2 : plainName "com/example/hosts_to_firehose/hoststofirehose/io/WebSocketProtocol" = true := by first | (simp [plainName, overriddenIn]; done) | decide +kernel
theorem ef_2 (m : MethodId) (x0 : Addr) (x1 : Int32) (x2 : Addr) : entryFrame m #[(.ref x0), (.int x1), (.ref x2)] 4 = mkF m 0 #[.val (.ref x0), .val (.int x1), .val (.ref x2), .unset] [] := by first | (simp [entryFrame, mkF, argsToLocals, Value.category]; done) | rfl
def Q2 (Z : State) (x0 : Addr) (x1 : Int32) (x2 : Addr) (fb : Nat → Int32) (fm : Nat → Int32) (fn : Nat) (h0 : Heap) (n0 : Nat) (v : Option Value) (h : Heap) (L : List Loc) : Prop := v = none ∧ Fr n0 L ∧ Keep h0 h [x0] ∧ own_Ba Z h x0 8 (own_msk fb fm fn 8)
set_option maxRecDepth 65536 in
set_option maxHeartbeats 40000000 in
theorem rm2 (l : Launch) (Z : State) (a0 : Array Value) (hw : ∀ d ∈ tables_1, d.before a0 Z = true) (ws : List Jvm.Cond) (x0 : Addr) (x1 : Int32) (x2 : Addr) (fb : Nat → Int32) (fm : Nat → Int32) (fn : Nat) (h0 : Heap) (n0 : Nat) (Z0 : n0 ≤ h0.size) (B0 : own_Ba Z h0 x0 8 fb) (B2 : own_Ba Z h0 x2 4 fm) (ne20 : x2 ≠ x0) (hfn : x1 = Int32.ofNat fn) (hle8 : fn ≤ 8) (g_x0 : n0 ≤ x0) :
    MetFree l (⟨"com/example/hosts_to_firehose/hoststofirehose/io/WebSocketProtocol", "applyMask", "([BI[B)V"⟩ : MethodName) (head1 (Jvm.Cond.code (⟨"com/example/hosts_to_firehose/hoststofirehose/io/WebSocketProtocol", "applyMask", "([BI[B)V"⟩ : MethodName) prog_21_method_6_code 4 none :: ws) ({ frames := 0, cells := 0, slots := 0, locals := 0 } : Room)) (fun a U => a = #[(.ref x0), (.int x1), (.ref x2)] ∧ Z.Warmed39 U.vm ∧ U.heap = h0) (fun _ _ _ _ _ => True) (fun _ U o U' => ∃ v L, o = .returned v ∧ Q2 Z x0 x1 x2 fb fm fn h0 n0 v U'.heap L ∧ FrameEnd U o U' L ({ frames := 0, cells := 0, slots := 0, locals := 0 } : Room).cells ({ frames := 0, cells := 0, slots := 0, locals := 0 } : Room).slots) := by
  refine MetFree.of_bodySF (plainFor_of_name pn_2) hisR ?_
  intro p e s m args below meth c s₁ Bd hml0 hP hK
  obtain ⟨rfl, hZ, hh⟩ := hP
  have hx := Bd.exec
  have hby := Bd.bytes
  have hret := Bd.returns
  have hnl : meth.locks = false := Bd.notSynchronized
  have hml : c.maxLocals = 4 := hml0
  have hown : s.vm.findClass "com/example/hosts_to_firehose/hoststofirehose/io/WebSocketProtocol" = some m.cls := findClass_of_methodNamed Bd.named
  have hnm := (name_of_methodNamed Bd.named Bd.method).1
  have X0 : Stand p l e ({ frames := 0, cells := 0, slots := 0, locals := 0 } : Room) s m #[(.ref x0), (.int x1), (.ref x2)] below meth c s₁ [] 0 0 := Stand.of_body Bd
  have e0 : s₁.heap = h0 := by rw [← hh, Bd.state]; rfl
  have N0 := Fr.nil n0
  suffices key : own_Fin p e below s s₁ (mkF m 0 #[.val (.ref x0), .val (.int x1), .val (.ref x2), .unset] []) (Q2 Z x0 x1 x2 fb fm fn h0 n0) ({ frames := 0, cells := 0, slots := 0, locals := 0 } : Room).cells ({ frames := 0, cells := 0, slots := 0, locals := 0 } : Room).slots by
    obtain ⟨s2, o, h1, h2⟩ := key
    exact ⟨s2, o, castTop (ef_2 m x0 x1 x2) h1, h2⟩
  have LOOP : ∀ (k i : Nat) (j3 : Int32) (T : State) (h : Heap) (locs : List Loc), i + k = 8 → fn ≤ i → j3 = Int32.ofNat i → Stand p l e ({ frames := 0, cells := 0, slots := 0, locals := 0 } : Room) s m #[(.ref x0), (.int x1), (.ref x2)] below meth c T locs 0 0 → T.heap = h → own_Ba Z h x0 8 (own_msk fb fm fn i) → own_Ba Z h x2 4 fm → Keep h0 h [x0] → Fr n0 locs → n0 ≤ h.size → own_Fin p e below s T (mkF m 2 #[.val (.ref x0), .val (.int x1), .val (.ref x2), .val (.int j3)] []) (Q2 Z x0 x1 x2 fb fm fn h0 n0) ({ frames := 0, cells := 0, slots := 0, locals := 0 } : Room).cells ({ frames := 0, cells := 0, slots := 0, locals := 0 } : Room).slots := by
    intro k
    induction k with
    | zero =>
      intro i j3 T h locs hik hfi hj XT eT B M K N Zs
      have hs := own_sm (show i ≤ 8 by omega) hj
      have hp := own_pr (show i ≤ 8 by omega) hfi hj hfn
      obtain rfl : i = 8 := by omega
      show own_Fin _ _ _ _ T (mkF m 2 #[.val (.ref x0), .val (.int x1), .val (.ref x2), .val (.int j3)] []) _ _ _
      refine own_go (fun _ => XS.iloadN XT.here hx rfl (hb hby d2_2) rfl) ?_
      show own_Fin _ _ _ _ T (mkF m 3 #[.val (.ref x0), .val (.int x1), .val (.ref x2), .val (.int j3)] [(.int j3)]) _ _ _
      refine own_go (fun _ => XS.aloadN XT.here hx rfl (hb hby d2_3) rfl rfl) ?_
      show own_Fin _ _ _ _ T (mkF m 4 #[.val (.ref x0), .val (.int x1), .val (.ref x2), .val (.int j3)] [(.ref x0), (.int j3)]) _ _ _
      refine own_go (own_aln XT hx hZ eT B rfl rfl (hb hby d2_4)) ?_
      show own_Fin _ _ _ _ T (mkF m 5 #[.val (.ref x0), .val (.int x1), .val (.ref x2), .val (.int j3)] [(.int (8 : Int32)), (.int j3)]) _ _ _
      refine own_go (fun _ => XS.icmpYes XT.here hx rfl (pc0 := 5) (pc' := 28) rfl (hb hby d2_5) rfl (flt (show ¬ (j3 < (8 : Int32)) from fun q => absurd (hs.2.2.2.mp q) (by omega))).2.1 (by decide) (by decide)) ?_
      show own_Fin _ _ _ _ T (mkF m 28 #[.val (.ref x0), .val (.int x1), .val (.ref x2), .val (.int j3)] []) _ _ _
      exact own_retV XT hx hnl hret (hb hby d2_28) (by decide) (by decide) ⟨rfl, N, by rw [eT]; exact K, by rw [eT]; exact B⟩
    | succ k ih =>
      intro i j3 T h locs hik hfi hj XT eT B M K N Zs
      have hs := own_sm (show i ≤ 8 by omega) hj
      have hp := own_pr (show i ≤ 8 by omega) hfi hj hfn
      show own_Fin _ _ _ _ T (mkF m 2 #[.val (.ref x0), .val (.int x1), .val (.ref x2), .val (.int j3)] []) _ _ _
      refine own_go (fun _ => XS.iloadN XT.here hx rfl (hb hby d2_2) rfl) ?_
      show own_Fin _ _ _ _ T (mkF m 3 #[.val (.ref x0), .val (.int x1), .val (.ref x2), .val (.int j3)] [(.int j3)]) _ _ _
      refine own_go (fun _ => XS.aloadN XT.here hx rfl (hb hby d2_3) rfl rfl) ?_
      show own_Fin _ _ _ _ T (mkF m 4 #[.val (.ref x0), .val (.int x1), .val (.ref x2), .val (.int j3)] [(.ref x0), (.int j3)]) _ _ _
      refine own_go (own_aln XT hx hZ eT B rfl rfl (hb hby d2_4)) ?_
      show own_Fin _ _ _ _ T (mkF m 5 #[.val (.ref x0), .val (.int x1), .val (.ref x2), .val (.int j3)] [(.int (8 : Int32)), (.int j3)]) _ _ _
      refine own_go (fun _ => XS.icmpNo XT.here hx rfl (hb hby d2_5) rfl (tlt (show j3 < (8 : Int32) from hs.2.2.2.mpr (by omega))).2.1) ?_
      show own_Fin _ _ _ _ T (mkF m 8 #[.val (.ref x0), .val (.int x1), .val (.ref x2), .val (.int j3)] []) _ _ _
      refine own_go (fun _ => XS.aloadN XT.here hx rfl (hb hby d2_8) rfl rfl) ?_
      show own_Fin _ _ _ _ T (mkF m 9 #[.val (.ref x0), .val (.int x1), .val (.ref x2), .val (.int j3)] [(.ref x0)]) _ _ _
      refine own_go (fun _ => XS.iloadN XT.here hx rfl (hb hby d2_9) rfl) ?_
      show own_Fin _ _ _ _ T (mkF m 10 #[.val (.ref x0), .val (.int x1), .val (.ref x2), .val (.int j3)] [(.int j3), (.ref x0)]) _ _ _
      refine own_go (fun _ => own_dup2 XT.here hx rfl (hb hby d2_10) rfl rfl rfl) ?_
      show own_Fin _ _ _ _ T (mkF m 11 #[.val (.ref x0), .val (.int x1), .val (.ref x2), .val (.int j3)] [(.int j3), (.ref x0), (.int j3), (.ref x0)]) _ _ _
      refine own_go (own_bld XT hx hZ eT B (j := j3) i hs.1 hs.2.1 (by omega) rfl rfl (hb hby d2_11)) ?_
      show own_Fin _ _ _ _ T (mkF m 12 #[.val (.ref x0), .val (.int x1), .val (.ref x2), .val (.int j3)] [(.int ((own_msk fb fm fn i) i)), (.int j3), (.ref x0)]) _ _ _
      refine own_go (fun _ => XS.aloadN XT.here hx rfl (hb hby d2_12) rfl rfl) ?_
      show own_Fin _ _ _ _ T (mkF m 13 #[.val (.ref x0), .val (.int x1), .val (.ref x2), .val (.int j3)] [(.ref x2), (.int ((own_msk fb fm fn i) i)), (.int j3), (.ref x0)]) _ _ _
      refine own_go (fun _ => XS.iloadN XT.here hx rfl (hb hby d2_13) rfl) ?_
      show own_Fin _ _ _ _ T (mkF m 14 #[.val (.ref x0), .val (.int x1), .val (.ref x2), .val (.int j3)] [(.int j3), (.ref x2), (.int ((own_msk fb fm fn i) i)), (.int j3), (.ref x0)]) _ _ _
      refine own_go (fun _ => XS.iloadN XT.here hx rfl (hb hby d2_14) rfl) ?_
      show own_Fin _ _ _ _ T (mkF m 15 #[.val (.ref x0), .val (.int x1), .val (.ref x2), .val (.int j3)] [(.int x1), (.int j3), (.ref x2), (.int ((own_msk fb fm fn i) i)), (.int j3), (.ref x0)]) _ _ _
      refine own_go (fun _ => XS.isub XT.here hx rfl (hb hby d2_15) rfl) ?_
      show own_Fin _ _ _ _ T (mkF m 16 #[.val (.ref x0), .val (.int x1), .val (.ref x2), .val (.int j3)] [(.int (j3 - x1)), (.ref x2), (.int ((own_msk fb fm fn i) i)), (.int j3), (.ref x0)]) _ _ _
      refine own_go (fun _ => XS.iconst XT.here hx rfl (hb hby d2_16)) ?_
      show own_Fin _ _ _ _ T (mkF m 17 #[.val (.ref x0), .val (.int x1), .val (.ref x2), .val (.int j3)] [(.int (4 : Int32)), (.int (j3 - x1)), (.ref x2), (.int ((own_msk fb fm fn i) i)), (.int j3), (.ref x0)]) _ _ _
      refine own_go (fun _ => XS.irem XT.here hx rfl (hb hby d2_17) rfl (by decide)) ?_
      show own_Fin _ _ _ _ T (mkF m 18 #[.val (.ref x0), .val (.int x1), .val (.ref x2), .val (.int j3)] [(.int ((j3 - x1) - ((j3 - x1) / (4 : Int32)) * (4 : Int32))), (.ref x2), (.int ((own_msk fb fm fn i) i)), (.int j3), (.ref x0)]) _ _ _
      refine own_go (own_bld XT hx hZ eT M (j := ((j3 - x1) - ((j3 - x1) / (4 : Int32)) * (4 : Int32))) ((i - fn) % 4) hp.1.1 hp.1.2 (Nat.mod_lt _ (by decide)) rfl rfl (hb hby d2_18)) ?_
      show own_Fin _ _ _ _ T (mkF m 19 #[.val (.ref x0), .val (.int x1), .val (.ref x2), .val (.int j3)] [(.int (fm ((i - fn) % 4))), (.int ((own_msk fb fm fn i) i)), (.int j3), (.ref x0)]) _ _ _
      refine own_go (fun _ => XS.ixor XT.here hx rfl (hb hby d2_19) rfl) ?_
      show own_Fin _ _ _ _ T (mkF m 20 #[.val (.ref x0), .val (.int x1), .val (.ref x2), .val (.int j3)] [(.int (((own_msk fb fm fn i) i) ^^^ (fm ((i - fn) % 4)))), (.int j3), (.ref x0)]) _ _ _
      refine own_go (fun _ => XS.i2b XT.here hx rfl (hb hby d2_20) rfl) ?_
      show own_Fin _ _ _ _ T (mkF m 21 #[.val (.ref x0), .val (.int x1), .val (.ref x2), .val (.int j3)] [(.int ((((own_msk fb fm fn i) i) ^^^ (fm ((i - fn) % 4))).toInt8.toInt32)), (.int j3), (.ref x0)]) _ _ _
      obtain ⟨T1, h1, X1, e1, W1, V1, st1⟩ := own_bst XT hx hZ eT B (j := j3) i hs.1 hs.2.1 (by omega) (g := (mkF m 21 #[.val (.ref x0), .val (.int x1), .val (.ref x2), .val (.int j3)] [(.int ((((own_msk fb fm fn i) i) ^^^ (fm ((i - fn) % 4))).toInt8.toInt32)), (.int j3), (.ref x0)])) rfl rfl (hb hby d2_21)
      obtain ⟨f1, hf1⟩ : ∃ f, f = own_up (own_msk fb fm fn i) i (nar .byte ((((own_msk fb fm fn i) i) ^^^ (fm ((i - fn) % 4))).toInt8.toInt32)) := ⟨_, rfl⟩
      rw [← hf1] at V1
      have V1_x2 := (M).other W1 ne20
      have K1 : Keep h0 h1 [x0] := (K).wr W1 (Or.inl (List.mem_of_getElem? (i := 0) rfl))
      have N1 := Fr.snoc X1 N g_x0
      have Z1 : n0 ≤ h1.size := Nat.le_trans Zs (Keep.of_wr W1).1
      refine own_go st1 ?_
      show own_Fin _ _ _ _ T1 (mkF m 22 #[.val (.ref x0), .val (.int x1), .val (.ref x2), .val (.int j3)] []) _ _ _
      refine own_go (fun _ => XS.iinc X1.here hx rfl (hb hby d2_22) rfl (l' := #[.val (.ref x0), .val (.int x1), .val (.ref x2), .val (.int (j3 + (1 : Int32)))]) rfl) ?_
      show own_Fin _ _ _ _ T1 (mkF m 25 #[.val (.ref x0), .val (.int x1), .val (.ref x2), .val (.int (j3 + (1 : Int32)))] []) _ _ _
      refine own_go (fun _ => XS.goto X1.here hx rfl (pc0 := 25) (pc' := 2) rfl (hb hby d2_25) (by decide) (by decide)) ?_
      show own_Fin _ _ _ _ T1 (mkF m 2 #[.val (.ref x0), .val (.int x1), .val (.ref x2), .val (.int (j3 + (1 : Int32)))] []) _ _ _
      exact ih (i + 1) _ T1 h1 _ (by omega) (by omega) hs.2.2.1 X1 e1 (V1.congr fun q _ => by rw [hf1]; exact own_msk_step fb fm hfi q) V1_x2 K1 N1 Z1
  refine own_go (fun _ => XS.iloadN X0.here hx rfl (hb hby d2_0) rfl) ?_
  show own_Fin _ _ _ _ s₁ (mkF m 1 #[.val (.ref x0), .val (.int x1), .val (.ref x2), .unset] [(.int x1)]) _ _ _
  refine own_go (fun _ => XS.istoreN X0.here hx rfl (hb hby d2_1) rfl (l' := #[.val (.ref x0), .val (.int x1), .val (.ref x2), .val (.int x1)]) rfl) ?_
  show own_Fin _ _ _ _ s₁ (mkF m 2 #[.val (.ref x0), .val (.int x1), .val (.ref x2), .val (.int x1)] []) _ _ _
  exact LOOP (8 - fn) fn x1 s₁ h0 _ (by omega) (Nat.le_refl _) hfn X0 e0 (B0.congr fun q _ => own_msk0 fb fm fn q) B2 (Keep.refl _ _) N0 Z0

theorem d3_0 : decode method_3_code 0 = .ok (.iload 4, 2) := by decide +kernel
theorem d3_2 : decode method_3_code 2 = .ok (.iload_n 3, 1) := by decide +kernel
theorem d3_3 : decode method_3_code 3 = .ok (.if_icmp .ge 20, 3) := by decide +kernel
theorem d3_6 : decode method_3_code 6 = .ok (.aload_n 0, 1) := by decide +kernel
theorem d3_7 : decode method_3_code 7 = .ok (.iload 4, 2) := by decide +kernel
theorem d3_9 : decode method_3_code 9 = .ok (.baload, 1) := by decide +kernel
theorem d3_10 : decode method_3_code 10 = .ok (.aload_n 1, 1) := by decide +kernel
theorem d3_11 : decode method_3_code 11 = .ok (.iload 4, 2) := by decide +kernel
theorem d3_13 : decode method_3_code 13 = .ok (.baload, 1) := by decide +kernel
theorem d3_14 : decode method_3_code 14 = .ok (.if_icmp .ne 7, 3) := by decide +kernel
theorem d3_17 : decode method_3_code 17 = .ok (.iconst 1, 1) := by decide +kernel
theorem d3_18 : decode method_3_code 18 = .ok (.goto 4, 3) := by decide +kernel
theorem d3_22 : decode method_3_code 22 = .ok (.ireturn, 1) := by decide +kernel
theorem d3_23 : decode method_3_code 23 = .ok (.aload_n 0, 1) := by decide +kernel
theorem d3_24 : decode method_3_code 24 = .ok (.iload 4, 2) := by decide +kernel
theorem d3_26 : decode method_3_code 26 = .ok (.baload, 1) := by decide +kernel
theorem d3_27 : decode method_3_code 27 = .ok (.aload_n 1, 1) := by decide +kernel
theorem d3_28 : decode method_3_code 28 = .ok (.iload 4, 2) := by decide +kernel
theorem d3_30 : decode method_3_code 30 = .ok (.baload, 1) := by decide +kernel
theorem d3_31 : decode method_3_code 31 = .ok (.aload_n 2, 1) := by decide +kernel
theorem d3_32 : decode method_3_code 32 = .ok (.iload 4, 2) := by decide +kernel
theorem d3_34 : decode method_3_code 34 = .ok (.iload_n 3, 1) := by decide +kernel
theorem d3_35 : decode method_3_code 35 = .ok (.isub, 1) := by decide +kernel
theorem d3_36 : decode method_3_code 36 = .ok (.iconst 3, 1) := by decide +kernel
theorem d3_37 : decode method_3_code 37 = .ok (.iand, 1) := by decide +kernel
theorem d3_38 : decode method_3_code 38 = .ok (.baload, 1) := by decide +kernel
theorem d3_39 : decode method_3_code 39 = .ok (.ixor, 1) := by decide +kernel
theorem d3_40 : decode method_3_code 40 = .ok (.i2b, 1) := by decide +kernel
theorem d3_41 : decode method_3_code 41 = .ok (.if_icmp .ne 7, 3) := by decide +kernel
theorem d3_44 : decode method_3_code 44 = .ok (.iconst 1, 1) := by decide +kernel
theorem d3_45 : decode method_3_code 45 = .ok (.goto 4, 3) := by decide +kernel
theorem d3_49 : decode method_3_code 49 = .ok (.ireturn, 1) := by decide +kernel
theorem pn_3 : plainName "com/example/hosts_to_firehose/hoststofirehose/io/WebSocketProtocolApplyMaskPinLaw" = true := by first | (simp [plainName, overriddenIn]; done) | decide +kernel
theorem ef_3 (m : MethodId) (x0 : Addr) (x1 : Addr) (x2 : Addr) (x3 : Int32) (x4 : Int32) : entryFrame m #[(.ref x0), (.ref x1), (.ref x2), (.int x3), (.int x4)] 5 = mkF m 0 #[.val (.ref x0), .val (.ref x1), .val (.ref x2), .val (.int x3), .val (.int x4)] [] := by first | (simp [entryFrame, mkF, argsToLocals, Value.category]; done) | rfl
def Q3 (Z : State) (x0 : Addr) (x1 : Addr) (x2 : Addr) (x3 : Int32) (x4 : Int32) (f : Nat → Int32) (g : Nat → Int32) (fm : Nat → Int32) (fn : Nat) (jj : Nat) (h0 : Heap) (n0 : Nat) (v : Option Value) (h : Heap) (L : List Loc) : Prop := v = some (.int 1) ∧ Fr n0 L ∧ h = h0
set_option maxRecDepth 65536 in
set_option maxHeartbeats 40000000 in
theorem rm3 (l : Launch) (Z : State) (a0 : Array Value) (hw : ∀ d ∈ tables_1, d.before a0 Z = true) (ws : List Jvm.Cond) (x0 : Addr) (x1 : Addr) (x2 : Addr) (x3 : Int32) (x4 : Int32) (f : Nat → Int32) (g : Nat → Int32) (fm : Nat → Int32) (fn : Nat) (jj : Nat) (h0 : Heap) (n0 : Nat) (Z0 : n0 ≤ h0.size) (B0 : own_Ba Z h0 x0 8 f) (B1 : own_Ba Z h0 x1 8 g) (B2 : own_Ba Z h0 x2 4 fm) (hfn : x3 = Int32.ofNat fn) (hjj : x4 = Int32.ofNat jj) (hle8 : fn ≤ 8) (hj8 : jj < 8) (hok : if jj < fn then f jj = g jj else f jj = (g jj ^^^ fm ((jj - fn) % 4)).toInt8.toInt32) :
    MetFree l (⟨"com/example/hosts_to_firehose/hoststofirehose/io/WebSocketProtocolApplyMaskPinLaw", "ok", "([B[B[BII)Z"⟩ : MethodName) (head1 (Jvm.Cond.code (⟨"com/example/hosts_to_firehose/hoststofirehose/io/WebSocketProtocolApplyMaskPinLaw", "ok", "([B[B[BII)Z"⟩ : MethodName) method_3_code 5 (some .boolean) :: ws) ({ frames := 0, cells := 0, slots := 0, locals := 0 } : Room)) (fun a U => a = #[(.ref x0), (.ref x1), (.ref x2), (.int x3), (.int x4)] ∧ Z.Warmed39 U.vm ∧ U.heap = h0) (fun _ _ _ _ _ => True) (fun _ U o U' => ∃ v L, o = .returned v ∧ Q3 Z x0 x1 x2 x3 x4 f g fm fn jj h0 n0 v U'.heap L ∧ FrameEnd U o U' L ({ frames := 0, cells := 0, slots := 0, locals := 0 } : Room).cells ({ frames := 0, cells := 0, slots := 0, locals := 0 } : Room).slots) := by
  refine MetFree.of_bodySF (plainFor_of_name pn_3) hisR ?_
  intro p e s m args below meth c s₁ Bd hml0 hP hK
  obtain ⟨rfl, hZ, hh⟩ := hP
  have hx := Bd.exec
  have hby := Bd.bytes
  have hret := Bd.returns
  have hnl : meth.locks = false := Bd.notSynchronized
  have hml : c.maxLocals = 5 := hml0
  have hown : s.vm.findClass "com/example/hosts_to_firehose/hoststofirehose/io/WebSocketProtocolApplyMaskPinLaw" = some m.cls := findClass_of_methodNamed Bd.named
  have hnm := (name_of_methodNamed Bd.named Bd.method).1
  have X0 : Stand p l e ({ frames := 0, cells := 0, slots := 0, locals := 0 } : Room) s m #[(.ref x0), (.ref x1), (.ref x2), (.int x3), (.int x4)] below meth c s₁ [] 0 0 := Stand.of_body Bd
  have e0 : s₁.heap = h0 := by rw [← hh, Bd.state]; rfl
  have N0 := Fr.nil n0
  suffices key : own_Fin p e below s s₁ (mkF m 0 #[.val (.ref x0), .val (.ref x1), .val (.ref x2), .val (.int x3), .val (.int x4)] []) (Q3 Z x0 x1 x2 x3 x4 f g fm fn jj h0 n0) ({ frames := 0, cells := 0, slots := 0, locals := 0 } : Room).cells ({ frames := 0, cells := 0, slots := 0, locals := 0 } : Room).slots by
    obtain ⟨s2, o, h1, h2⟩ := key
    exact ⟨s2, o, castTop (ef_3 m x0 x1 x2 x3 x4) h1, h2⟩
  have hs := own_sm (show jj ≤ 8 by omega) hjj
  have hcm := own_cmp (show jj ≤ 8 by omega) hle8 hjj hfn
  refine own_go (fun _ => XS.iload X0.here hx rfl (hb hby d3_0) rfl) ?_
  show own_Fin _ _ _ _ s₁ (mkF m 2 #[.val (.ref x0), .val (.ref x1), .val (.ref x2), .val (.int x3), .val (.int x4)] [(.int x4)]) _ _ _
  refine own_go (fun _ => XS.iloadN X0.here hx rfl (hb hby d3_2) rfl) ?_
  show own_Fin _ _ _ _ s₁ (mkF m 3 #[.val (.ref x0), .val (.ref x1), .val (.ref x2), .val (.int x3), .val (.int x4)] [(.int x3), (.int x4)]) _ _ _
  by_cases h3 : x4 < x3
  · refine own_go (fun _ => XS.icmpNo X0.here hx rfl (hb hby d3_3) rfl (tlt h3).2.1) ?_
    show own_Fin _ _ _ _ s₁ (mkF m 6 #[.val (.ref x0), .val (.ref x1), .val (.ref x2), .val (.int x3), .val (.int x4)] []) _ _ _
    refine own_go (fun _ => XS.aloadN X0.here hx rfl (hb hby d3_6) rfl rfl) ?_
    show own_Fin _ _ _ _ s₁ (mkF m 7 #[.val (.ref x0), .val (.ref x1), .val (.ref x2), .val (.int x3), .val (.int x4)] [(.ref x0)]) _ _ _
    refine own_go (fun _ => XS.iload X0.here hx rfl (hb hby d3_7) rfl) ?_
    show own_Fin _ _ _ _ s₁ (mkF m 9 #[.val (.ref x0), .val (.ref x1), .val (.ref x2), .val (.int x3), .val (.int x4)] [(.int x4), (.ref x0)]) _ _ _
    refine own_go (own_bld X0 hx hZ e0 B0 (j := x4) jj hs.1 hs.2.1 hj8 rfl rfl (hb hby d3_9)) ?_
    show own_Fin _ _ _ _ s₁ (mkF m 10 #[.val (.ref x0), .val (.ref x1), .val (.ref x2), .val (.int x3), .val (.int x4)] [(.int (f jj))]) _ _ _
    refine own_go (fun _ => XS.aloadN X0.here hx rfl (hb hby d3_10) rfl rfl) ?_
    show own_Fin _ _ _ _ s₁ (mkF m 11 #[.val (.ref x0), .val (.ref x1), .val (.ref x2), .val (.int x3), .val (.int x4)] [(.ref x1), (.int (f jj))]) _ _ _
    refine own_go (fun _ => XS.iload X0.here hx rfl (hb hby d3_11) rfl) ?_
    show own_Fin _ _ _ _ s₁ (mkF m 13 #[.val (.ref x0), .val (.ref x1), .val (.ref x2), .val (.int x3), .val (.int x4)] [(.int x4), (.ref x1), (.int (f jj))]) _ _ _
    refine own_go (own_bld X0 hx hZ e0 B1 (j := x4) jj hs.1 hs.2.1 hj8 rfl rfl (hb hby d3_13)) ?_
    show own_Fin _ _ _ _ s₁ (mkF m 14 #[.val (.ref x0), .val (.ref x1), .val (.ref x2), .val (.int x3), .val (.int x4)] [(.int (g jj)), (.int (f jj))]) _ _ _
    refine own_go (fun _ => XS.icmpNo X0.here hx rfl (hb hby d3_14) rfl (teq (show (f jj) = (g jj) from by rw [if_pos (hcm.mp h3)] at hok; exact hok)).2) ?_
    show own_Fin _ _ _ _ s₁ (mkF m 17 #[.val (.ref x0), .val (.ref x1), .val (.ref x2), .val (.int x3), .val (.int x4)] []) _ _ _
    refine own_go (fun _ => XS.iconst X0.here hx rfl (hb hby d3_17)) ?_
    show own_Fin _ _ _ _ s₁ (mkF m 18 #[.val (.ref x0), .val (.ref x1), .val (.ref x2), .val (.int x3), .val (.int x4)] [(.int (1 : Int32))]) _ _ _
    refine own_go (fun _ => XS.goto X0.here hx rfl (pc0 := 18) (pc' := 22) rfl (hb hby d3_18) (by decide) (by decide)) ?_
    show own_Fin _ _ _ _ s₁ (mkF m 22 #[.val (.ref x0), .val (.ref x1), .val (.ref x2), .val (.int x3), .val (.int x4)] [(.int (1 : Int32))]) _ _ _
    exact own_retZ X0 hx hnl (t := .boolean) hret (by simp) (hb hby d3_22) (by decide) (by decide) ⟨rfl, N0, e0⟩
  · refine own_go (fun _ => XS.icmpYes X0.here hx rfl (pc0 := 3) (pc' := 23) rfl (hb hby d3_3) rfl (flt h3).2.1 (by decide) (by decide)) ?_
    show own_Fin _ _ _ _ s₁ (mkF m 23 #[.val (.ref x0), .val (.ref x1), .val (.ref x2), .val (.int x3), .val (.int x4)] []) _ _ _
    refine own_go (fun _ => XS.aloadN X0.here hx rfl (hb hby d3_23) rfl rfl) ?_
    show own_Fin _ _ _ _ s₁ (mkF m 24 #[.val (.ref x0), .val (.ref x1), .val (.ref x2), .val (.int x3), .val (.int x4)] [(.ref x0)]) _ _ _
    refine own_go (fun _ => XS.iload X0.here hx rfl (hb hby d3_24) rfl) ?_
    show own_Fin _ _ _ _ s₁ (mkF m 26 #[.val (.ref x0), .val (.ref x1), .val (.ref x2), .val (.int x3), .val (.int x4)] [(.int x4), (.ref x0)]) _ _ _
    refine own_go (own_bld X0 hx hZ e0 B0 (j := x4) jj hs.1 hs.2.1 hj8 rfl rfl (hb hby d3_26)) ?_
    show own_Fin _ _ _ _ s₁ (mkF m 27 #[.val (.ref x0), .val (.ref x1), .val (.ref x2), .val (.int x3), .val (.int x4)] [(.int (f jj))]) _ _ _
    refine own_go (fun _ => XS.aloadN X0.here hx rfl (hb hby d3_27) rfl rfl) ?_
    show own_Fin _ _ _ _ s₁ (mkF m 28 #[.val (.ref x0), .val (.ref x1), .val (.ref x2), .val (.int x3), .val (.int x4)] [(.ref x1), (.int (f jj))]) _ _ _
    refine own_go (fun _ => XS.iload X0.here hx rfl (hb hby d3_28) rfl) ?_
    show own_Fin _ _ _ _ s₁ (mkF m 30 #[.val (.ref x0), .val (.ref x1), .val (.ref x2), .val (.int x3), .val (.int x4)] [(.int x4), (.ref x1), (.int (f jj))]) _ _ _
    refine own_go (own_bld X0 hx hZ e0 B1 (j := x4) jj hs.1 hs.2.1 hj8 rfl rfl (hb hby d3_30)) ?_
    show own_Fin _ _ _ _ s₁ (mkF m 31 #[.val (.ref x0), .val (.ref x1), .val (.ref x2), .val (.int x3), .val (.int x4)] [(.int (g jj)), (.int (f jj))]) _ _ _
    refine own_go (fun _ => XS.aloadN X0.here hx rfl (hb hby d3_31) rfl rfl) ?_
    show own_Fin _ _ _ _ s₁ (mkF m 32 #[.val (.ref x0), .val (.ref x1), .val (.ref x2), .val (.int x3), .val (.int x4)] [(.ref x2), (.int (g jj)), (.int (f jj))]) _ _ _
    refine own_go (fun _ => XS.iload X0.here hx rfl (hb hby d3_32) rfl) ?_
    show own_Fin _ _ _ _ s₁ (mkF m 34 #[.val (.ref x0), .val (.ref x1), .val (.ref x2), .val (.int x3), .val (.int x4)] [(.int x4), (.ref x2), (.int (g jj)), (.int (f jj))]) _ _ _
    refine own_go (fun _ => XS.iloadN X0.here hx rfl (hb hby d3_34) rfl) ?_
    show own_Fin _ _ _ _ s₁ (mkF m 35 #[.val (.ref x0), .val (.ref x1), .val (.ref x2), .val (.int x3), .val (.int x4)] [(.int x3), (.int x4), (.ref x2), (.int (g jj)), (.int (f jj))]) _ _ _
    refine own_go (fun _ => XS.isub X0.here hx rfl (hb hby d3_35) rfl) ?_
    show own_Fin _ _ _ _ s₁ (mkF m 36 #[.val (.ref x0), .val (.ref x1), .val (.ref x2), .val (.int x3), .val (.int x4)] [(.int (x4 - x3)), (.ref x2), (.int (g jj)), (.int (f jj))]) _ _ _
    refine own_go (fun _ => XS.iconst X0.here hx rfl (hb hby d3_36)) ?_
    show own_Fin _ _ _ _ s₁ (mkF m 37 #[.val (.ref x0), .val (.ref x1), .val (.ref x2), .val (.int x3), .val (.int x4)] [(.int (3 : Int32)), (.int (x4 - x3)), (.ref x2), (.int (g jj)), (.int (f jj))]) _ _ _
    refine own_go (fun _ => XS.iand X0.here hx rfl (hb hby d3_37) rfl) ?_
    show own_Fin _ _ _ _ s₁ (mkF m 38 #[.val (.ref x0), .val (.ref x1), .val (.ref x2), .val (.int x3), .val (.int x4)] [(.int ((x4 - x3) &&& (3 : Int32))), (.ref x2), (.int (g jj)), (.int (f jj))]) _ _ _
    refine own_go (own_bld X0 hx hZ e0 B2 (j := ((x4 - x3) &&& (3 : Int32))) ((jj - fn) % 4) (own_pr (show jj ≤ 8 by omega) (show fn ≤ jj from Nat.le_of_not_lt (mt hcm.mpr h3)) hjj hfn).2.1 (own_pr (show jj ≤ 8 by omega) (show fn ≤ jj from Nat.le_of_not_lt (mt hcm.mpr h3)) hjj hfn).2.2 (Nat.mod_lt _ (by decide)) rfl rfl (hb hby d3_38)) ?_
    show own_Fin _ _ _ _ s₁ (mkF m 39 #[.val (.ref x0), .val (.ref x1), .val (.ref x2), .val (.int x3), .val (.int x4)] [(.int (fm ((jj - fn) % 4))), (.int (g jj)), (.int (f jj))]) _ _ _
    refine own_go (fun _ => XS.ixor X0.here hx rfl (hb hby d3_39) rfl) ?_
    show own_Fin _ _ _ _ s₁ (mkF m 40 #[.val (.ref x0), .val (.ref x1), .val (.ref x2), .val (.int x3), .val (.int x4)] [(.int ((g jj) ^^^ (fm ((jj - fn) % 4)))), (.int (f jj))]) _ _ _
    refine own_go (fun _ => XS.i2b X0.here hx rfl (hb hby d3_40) rfl) ?_
    show own_Fin _ _ _ _ s₁ (mkF m 41 #[.val (.ref x0), .val (.ref x1), .val (.ref x2), .val (.int x3), .val (.int x4)] [(.int (((g jj) ^^^ (fm ((jj - fn) % 4))).toInt8.toInt32)), (.int (f jj))]) _ _ _
    refine own_go (fun _ => XS.icmpNo X0.here hx rfl (hb hby d3_41) rfl (teq (show (f jj) = (((g jj) ^^^ (fm ((jj - fn) % 4))).toInt8.toInt32) from by rw [if_neg (mt hcm.mpr h3)] at hok; exact hok)).2) ?_
    show own_Fin _ _ _ _ s₁ (mkF m 44 #[.val (.ref x0), .val (.ref x1), .val (.ref x2), .val (.int x3), .val (.int x4)] []) _ _ _
    refine own_go (fun _ => XS.iconst X0.here hx rfl (hb hby d3_44)) ?_
    show own_Fin _ _ _ _ s₁ (mkF m 45 #[.val (.ref x0), .val (.ref x1), .val (.ref x2), .val (.int x3), .val (.int x4)] [(.int (1 : Int32))]) _ _ _
    refine own_go (fun _ => XS.goto X0.here hx rfl (pc0 := 45) (pc' := 49) rfl (hb hby d3_45) (by decide) (by decide)) ?_
    show own_Fin _ _ _ _ s₁ (mkF m 49 #[.val (.ref x0), .val (.ref x1), .val (.ref x2), .val (.int x3), .val (.int x4)] [(.int (1 : Int32))]) _ _ _
    exact own_retZ X0 hx hnl (t := .boolean) hret (by simp) (hb hby d3_49) (by decide) (by decide) ⟨rfl, N0, e0⟩

theorem own_okp (fb fm : Nat → Int32) {n j : Nat} (hj : j < 8) : if j < n then own_msk fb fm n 8 j = fb j else own_msk fb fm n 8 j = (fb j ^^^ fm ((j - n) % 4)).toInt8.toInt32 := by
  by_cases h : j < n
  · have q : ¬ (n ≤ j ∧ j < 8) := by omega
    simp only [h, if_true, own_msk, q, if_false]
  · have q : n ≤ j ∧ j < 8 := by omega
    simp only [h, if_false, own_msk, q, and_self, if_true, own_nb]

theorem pd_0 : parseMethodDescriptor "(JI)B" = some ⟨[.long, .int], some .byte⟩ := by decide +kernel
theorem pd_1 : parseMethodDescriptor "([BI[B)V" = some ⟨[(.array .byte), .int, (.array .byte)], none⟩ := by decide +kernel
theorem pd_2 : parseMethodDescriptor "([B[B[BII)Z" = some ⟨[(.array .byte), (.array .byte), (.array .byte), .int, .int], some .boolean⟩ := by decide +kernel
theorem pn_0 : plainName "com/example/hosts_to_firehose/hoststofirehose/io/WebSocketProtocolApplyMaskPinLaw" = true := by first | (simp [plainName, overriddenIn]; done) | decide +kernel
theorem ef_0 (m : MethodId) (x0 : Int64) (x1 : Int32) (x2 : Int32) : entryFrame m #[(.long x0), (.int x1), (.int x2)] maxLocals = mkF m 0 #[.val (.long x0), .second, .val (.int x1), .val (.int x2), .unset, .unset, .unset, .unset, .unset] [] := by first | (simp [entryFrame, mkF, argsToLocals, Value.category, maxLocals]; done) | rfl
def Q0 (Z : State) (x0 : Int64) (x1 : Int32) (x2 : Int32) (h0 : Heap) (n0 : Nat) (v : Option Value) (h : Heap) (L : List Loc) : Prop := v = some (.int 1) ∧ Fr n0 L
set_option maxRecDepth 65536 in
set_option maxHeartbeats 40000000 in
theorem rm0 (l : Launch) (Z : State) (a0 : Array Value) (hw : ∀ d ∈ tables_1, d.before a0 Z = true) (ws : List Jvm.Cond) (x0 : Int64) (x1 : Int32) (x2 : Int32) (h0 : Heap) (n0 : Nat) (Z0 : n0 ≤ h0.size) :
    MetFree l x (head1 (Jvm.Cond.code x code maxLocals ret :: ws) room_1) (fun a U => a = #[(.long x0), (.int x1), (.int x2)] ∧ Z.Warmed39 U.vm ∧ U.heap = h0) (fun _ _ _ _ _ => True) (fun _ U o U' => ∃ v L, o = .returned v ∧ Q0 Z x0 x1 x2 h0 n0 v U'.heap L ∧ FrameEnd U o U' L room_1.cells room_1.slots) := by
  refine MetFree.of_bodySF (plainFor_of_name pn_0) hisR ?_
  intro p e s m args below meth c s₁ Bd hml0 hP hK
  obtain ⟨rfl, hZ, hh⟩ := hP
  have hx := Bd.exec
  have hby := Bd.bytes
  have hret := Bd.returns
  have hnl : meth.locks = false := Bd.notSynchronized
  have hml : c.maxLocals = 9 := hml0
  have hown : s.vm.findClass "com/example/hosts_to_firehose/hoststofirehose/io/WebSocketProtocolApplyMaskPinLaw" = some m.cls := findClass_of_methodNamed Bd.named
  have hnm := (name_of_methodNamed Bd.named Bd.method).1
  have X0 : Stand p l e room_1 s m #[(.long x0), (.int x1), (.int x2)] below meth c s₁ [] 0 0 := Stand.of_body Bd
  have e0 : s₁.heap = h0 := by rw [← hh, Bd.state]; rfl
  have N0 := Fr.nil n0
  suffices key : own_Fin p e below s s₁ (mkF m 0 #[.val (.long x0), .second, .val (.int x1), .val (.int x2), .unset, .unset, .unset, .unset, .unset] []) (Q0 Z x0 x1 x2 h0 n0) room_1.cells room_1.slots by
    obtain ⟨s2, o, h1, h2⟩ := key
    exact ⟨s2, o, castTop (ef_0 m x0 x1 x2) h1, h2⟩
  refine own_go (fun _ => XS.bipush X0.here hx rfl (hb hby at_0)) ?_
  show own_Fin _ _ _ _ s₁ (mkF m 2 #[.val (.long x0), .second, .val (.int x1), .val (.int x2), .unset, .unset, .unset, .unset, .unset] [(.int (8 : Int32))]) _ _ _
  obtain ⟨T1, h1, k1, X1, e1, E1, A1, st1⟩ := newP X0 hx hZ (hw _ (List.mem_of_getElem? (i := 0) rfl)) e0 (g := (mkF m 2 #[.val (.long x0), .second, .val (.int x1), .val (.int x2), .unset, .unset, .unset, .unset, .unset] [(.int (8 : Int32))])) rfl (hb hby at_2) rfl (by decide) (cap := 8) (by decide) (by decide) (by decide) (by decide)
  obtain ⟨b1, g1⟩ : ∃ z, z = h0.size := ⟨_, rfl⟩
  rw [← g1] at A1 st1
  have g_b1 : n0 ≤ b1 := Nat.le_trans Z0 (Nat.le_of_eq g1.symm)
  have Z1 : n0 ≤ h1.size := Nat.le_trans Z0 E1.1
  replace X1 : Stand p l e room_1 s m #[(.long x0), (.int x1), (.int x2)] below meth c T1 _ 1 8 := X1
  have sz_b1 : h0.size ≤ b1 := Nat.le_trans ((Keep.refl h0 [])).1 (Nat.le_of_eq g1.symm)
  have K1 : Keep h0 h1 [] := ((Keep.refl h0 [])).ext E1
  have V_b1 : own_Ba Z h1 b1 8 (fun _ => 0) := own_Ba.new A1 (by decide)
  refine own_go st1 ?_
  show own_Fin _ _ _ _ T1 (mkF m 4 #[.val (.long x0), .second, .val (.int x1), .val (.int x2), .unset, .unset, .unset, .unset, .unset] [(.ref b1)]) _ _ _
  refine own_go (fun _ => XS.astore X1.here hx rfl (hb hby at_4) rfl rfl (l' := #[.val (.long x0), .second, .val (.int x1), .val (.int x2), .val (.ref b1), .unset, .unset, .unset, .unset]) rfl) ?_
  show own_Fin _ _ _ _ T1 (mkF m 6 #[.val (.long x0), .second, .val (.int x1), .val (.int x2), .val (.ref b1), .unset, .unset, .unset, .unset] []) _ _ _
  refine own_go (fun _ => XS.bipush X1.here hx rfl (hb hby at_6)) ?_
  show own_Fin _ _ _ _ T1 (mkF m 8 #[.val (.long x0), .second, .val (.int x1), .val (.int x2), .val (.ref b1), .unset, .unset, .unset, .unset] [(.int (8 : Int32))]) _ _ _
  obtain ⟨T2, h2, k2, X2, e2, E2, A2, st2⟩ := newP X1 hx hZ (hw _ (List.mem_of_getElem? (i := 0) rfl)) e1 (g := (mkF m 8 #[.val (.long x0), .second, .val (.int x1), .val (.int x2), .val (.ref b1), .unset, .unset, .unset, .unset] [(.int (8 : Int32))])) rfl (hb hby at_8) rfl (by decide) (cap := 8) (by decide) (by decide) (by decide) (by decide)
  obtain ⟨b2, g2⟩ : ∃ z, z = h1.size := ⟨_, rfl⟩
  rw [← g2] at A2 st2
  have g_b2 : n0 ≤ b2 := Nat.le_trans Z1 (Nat.le_of_eq g2.symm)
  have Z2 : n0 ≤ h2.size := Nat.le_trans Z1 E2.1
  replace X2 : Stand p l e room_1 s m #[(.long x0), (.int x1), (.int x2)] below meth c T2 _ 2 16 := X2
  have ne_b1_b2 : b1 ≠ b2 := Nat.ne_of_lt (Nat.lt_of_lt_of_le (V_b1).lt (Nat.le_of_eq g2.symm))
  have sz_b2 : h0.size ≤ b2 := Nat.le_trans (K1).1 (Nat.le_of_eq g2.symm)
  have K2 : Keep h0 h2 [] := (K1).ext E2
  have V2_b1 := (V_b1).ext E2
  have V_b2 : own_Ba Z h2 b2 8 (fun _ => 0) := own_Ba.new A2 (by decide)
  refine own_go st2 ?_
  show own_Fin _ _ _ _ T2 (mkF m 10 #[.val (.long x0), .second, .val (.int x1), .val (.int x2), .val (.ref b1), .unset, .unset, .unset, .unset] [(.ref b2)]) _ _ _
  refine own_go (fun _ => XS.astore X2.here hx rfl (hb hby at_10) rfl rfl (l' := #[.val (.long x0), .second, .val (.int x1), .val (.int x2), .val (.ref b1), .val (.ref b2), .unset, .unset, .unset]) rfl) ?_
  show own_Fin _ _ _ _ T2 (mkF m 12 #[.val (.long x0), .second, .val (.int x1), .val (.int x2), .val (.ref b1), .val (.ref b2), .unset, .unset, .unset] []) _ _ _
  refine own_go (fun _ => XS.aload X2.here hx rfl (hb hby at_12) rfl rfl) ?_
  show own_Fin _ _ _ _ T2 (mkF m 14 #[.val (.long x0), .second, .val (.int x1), .val (.int x2), .val (.ref b1), .val (.ref b2), .unset, .unset, .unset] [(.ref b1)]) _ _ _
  refine own_go (fun _ => XS.iconst X2.here hx rfl (hb hby at_14)) ?_
  show own_Fin _ _ _ _ T2 (mkF m 15 #[.val (.long x0), .second, .val (.int x1), .val (.int x2), .val (.ref b1), .val (.ref b2), .unset, .unset, .unset] [(.int (0 : Int32)), (.ref b1)]) _ _ _
  refine own_go (fun _ => XS.lloadN X2.here hx rfl (hb hby at_15) rfl) ?_
  show own_Fin _ _ _ _ T2 (mkF m 16 #[.val (.long x0), .second, .val (.int x1), .val (.int x2), .val (.ref b1), .val (.ref b2), .unset, .unset, .unset] [(.long x0), (.int (0 : Int32)), (.ref b1)]) _ _ _
  refine own_go (fun _ => XS.iconst X2.here hx rfl (hb hby at_16)) ?_
  show own_Fin _ _ _ _ T2 (mkF m 17 #[.val (.long x0), .second, .val (.int x1), .val (.int x2), .val (.ref b1), .val (.ref b2), .unset, .unset, .unset] [(.int (0 : Int32)), (.long x0), (.int (0 : Int32)), (.ref b1)]) _ _ _
  obtain ⟨_, _, ⟨T3, L3, k3, n3⟩, -, X3, ⟨Lc3, hQ3, l3, y3, z3⟩, st3⟩ := Jvm.LawKit.callS X2 hx (y := (⟨"com/example/hosts_to_firehose/hoststofirehose/io/WebSocketProtocolApplyMaskPinLaw", "b", "(JI)B"⟩ : MethodName)) hown (mvT hZ (hw _ (List.mem_of_getElem? (i := 1) rfl))) (mvT hZ (hw _ (List.mem_of_getElem? (i := 2) rfl))) (mvT hZ (hw _ (List.mem_of_getElem? (i := 3) rfl))) (mvT hZ (hw _ (List.mem_of_getElem? (i := 4) rfl))) (by decide) (backOf (W := 2) (rm1 l Z a0 hw [] x0 (0 : Int32)  h2 n0 Z2 ) hZ (hw _ (List.mem_of_getElem? (i := 4) rfl)) (hw _ (List.mem_of_getElem? (i := 3) rfl)) (by decide) (by decide)) (g := (mkF m 17 #[.val (.long x0), .second, .val (.int x1), .val (.int x2), .val (.ref b1), .val (.ref b2), .unset, .unset, .unset] [(.int (0 : Int32)), (.long x0), (.int (0 : Int32)), (.ref b1)])) rfl (by rw [hml]; rfl) (argsL := [(.long x0), (.int (0 : Int32))]) (rest := [(.int (0 : Int32)), (.ref b1)]) (lenOf pd_0 rfl) rfl (by show 2 * 0 + _ ≤ _; exact Nat.le_of_eq rfl) (hb hby at_17) (fun _ _ => ⟨rfl, e2, (by decide : 2 + 0 ≤ _), (by decide : 16 + 0 ≤ _)⟩)
  dsimp only [Pt.U, Pt.locs, Pt.cells, Pt.slots] at X3 l3 y3 z3 st3 hQ3
  subst y3 z3
  obtain ⟨rfl, N3q, e3⟩ := hQ3
  have N3 : Fr n0 L3 := l3.symm ▸ Fr.app N0 N3q
  replace X3 : Stand p l e room_1 s m #[(.long x0), (.int x1), (.int x2)] below meth c T3 _ 2 16 := X3
  refine own_go st3 ?_
  show own_Fin _ _ _ _ T3 (mkF m 20 #[.val (.long x0), .second, .val (.int x1), .val (.int x2), .val (.ref b1), .val (.ref b2), .unset, .unset, .unset] [(.int (own_b x0 (0 : Int32))), (.int (0 : Int32)), (.ref b1)]) _ _ _
  obtain ⟨T4, h4, X4, e4, W4, V4, st4⟩ := own_bst X3 hx hZ e3 V2_b1 (j := (0 : Int32)) 0 (by decide) rfl (by decide) (g := (mkF m 20 #[.val (.long x0), .second, .val (.int x1), .val (.int x2), .val (.ref b1), .val (.ref b2), .unset, .unset, .unset] [(.int (own_b x0 (0 : Int32))), (.int (0 : Int32)), (.ref b1)])) rfl rfl (hb hby at_20)
  obtain ⟨f4, hf4⟩ : ∃ f, f = own_up (fun _ => 0) 0 (nar .byte (own_b x0 (0 : Int32))) := ⟨_, rfl⟩
  rw [← hf4] at V4
  have V4_b2 := (V_b2).other W4 (Ne.symm ne_b1_b2)
  have K4 : Keep h0 h4 [] := (K2).wr W4 (Or.inr sz_b1)
  have N4 := Fr.snoc X4 N3 g_b1
  have Z4 : n0 ≤ h4.size := Nat.le_trans Z2 (Keep.of_wr W4).1
  refine own_go st4 ?_
  show own_Fin _ _ _ _ T4 (mkF m 21 #[.val (.long x0), .second, .val (.int x1), .val (.int x2), .val (.ref b1), .val (.ref b2), .unset, .unset, .unset] []) _ _ _
  refine own_go (fun _ => XS.aload X4.here hx rfl (hb hby at_21) rfl rfl) ?_
  show own_Fin _ _ _ _ T4 (mkF m 23 #[.val (.long x0), .second, .val (.int x1), .val (.int x2), .val (.ref b1), .val (.ref b2), .unset, .unset, .unset] [(.ref b2)]) _ _ _
  refine own_go (fun _ => XS.iconst X4.here hx rfl (hb hby at_23)) ?_
  show own_Fin _ _ _ _ T4 (mkF m 24 #[.val (.long x0), .second, .val (.int x1), .val (.int x2), .val (.ref b1), .val (.ref b2), .unset, .unset, .unset] [(.int (0 : Int32)), (.ref b2)]) _ _ _
  refine own_go (fun _ => XS.lloadN X4.here hx rfl (hb hby at_24) rfl) ?_
  show own_Fin _ _ _ _ T4 (mkF m 25 #[.val (.long x0), .second, .val (.int x1), .val (.int x2), .val (.ref b1), .val (.ref b2), .unset, .unset, .unset] [(.long x0), (.int (0 : Int32)), (.ref b2)]) _ _ _
  refine own_go (fun _ => XS.iconst X4.here hx rfl (hb hby at_25)) ?_
  show own_Fin _ _ _ _ T4 (mkF m 26 #[.val (.long x0), .second, .val (.int x1), .val (.int x2), .val (.ref b1), .val (.ref b2), .unset, .unset, .unset] [(.int (0 : Int32)), (.long x0), (.int (0 : Int32)), (.ref b2)]) _ _ _
  obtain ⟨_, _, ⟨T5, L5, k5, n5⟩, -, X5, ⟨Lc5, hQ5, l5, y5, z5⟩, st5⟩ := Jvm.LawKit.callS X4 hx (y := (⟨"com/example/hosts_to_firehose/hoststofirehose/io/WebSocketProtocolApplyMaskPinLaw", "b", "(JI)B"⟩ : MethodName)) hown (mvT hZ (hw _ (List.mem_of_getElem? (i := 1) rfl))) (mvT hZ (hw _ (List.mem_of_getElem? (i := 2) rfl))) (mvT hZ (hw _ (List.mem_of_getElem? (i := 3) rfl))) (mvT hZ (hw _ (List.mem_of_getElem? (i := 4) rfl))) (by decide) (backOf (W := 2) (rm1 l Z a0 hw [] x0 (0 : Int32)  h4 n0 Z4 ) hZ (hw _ (List.mem_of_getElem? (i := 4) rfl)) (hw _ (List.mem_of_getElem? (i := 3) rfl)) (by decide) (by decide)) (g := (mkF m 26 #[.val (.long x0), .second, .val (.int x1), .val (.int x2), .val (.ref b1), .val (.ref b2), .unset, .unset, .unset] [(.int (0 : Int32)), (.long x0), (.int (0 : Int32)), (.ref b2)])) rfl (by rw [hml]; rfl) (argsL := [(.long x0), (.int (0 : Int32))]) (rest := [(.int (0 : Int32)), (.ref b2)]) (lenOf pd_0 rfl) rfl (by show 2 * 0 + _ ≤ _; exact Nat.le_of_eq rfl) (hb hby at_26) (fun _ _ => ⟨rfl, e4, (by decide : 2 + 0 ≤ _), (by decide : 16 + 0 ≤ _)⟩)
  dsimp only [Pt.U, Pt.locs, Pt.cells, Pt.slots] at X5 l5 y5 z5 st5 hQ5
  subst y5 z5
  obtain ⟨rfl, N5q, e5⟩ := hQ5
  have N5 : Fr n0 L5 := l5.symm ▸ Fr.app N4 N5q
  replace X5 : Stand p l e room_1 s m #[(.long x0), (.int x1), (.int x2)] below meth c T5 _ 2 16 := X5
  refine own_go st5 ?_
  show own_Fin _ _ _ _ T5 (mkF m 29 #[.val (.long x0), .second, .val (.int x1), .val (.int x2), .val (.ref b1), .val (.ref b2), .unset, .unset, .unset] [(.int (own_b x0 (0 : Int32))), (.int (0 : Int32)), (.ref b2)]) _ _ _
  obtain ⟨T6, h6, X6, e6, W6, V6, st6⟩ := own_bst X5 hx hZ e5 V4_b2 (j := (0 : Int32)) 0 (by decide) rfl (by decide) (g := (mkF m 29 #[.val (.long x0), .second, .val (.int x1), .val (.int x2), .val (.ref b1), .val (.ref b2), .unset, .unset, .unset] [(.int (own_b x0 (0 : Int32))), (.int (0 : Int32)), (.ref b2)])) rfl rfl (hb hby at_29)
  obtain ⟨f6, hf6⟩ : ∃ f, f = own_up (fun _ => 0) 0 (nar .byte (own_b x0 (0 : Int32))) := ⟨_, rfl⟩
  rw [← hf6] at V6
  have V6_b1 := (V4).other W6 ne_b1_b2
  have K6 : Keep h0 h6 [] := (K4).wr W6 (Or.inr sz_b2)
  have N6 := Fr.snoc X6 N5 g_b2
  have Z6 : n0 ≤ h6.size := Nat.le_trans Z4 (Keep.of_wr W6).1
  refine own_go st6 ?_
  show own_Fin _ _ _ _ T6 (mkF m 30 #[.val (.long x0), .second, .val (.int x1), .val (.int x2), .val (.ref b1), .val (.ref b2), .unset, .unset, .unset] []) _ _ _
  refine own_go (fun _ => XS.aload X6.here hx rfl (hb hby at_30) rfl rfl) ?_
  show own_Fin _ _ _ _ T6 (mkF m 32 #[.val (.long x0), .second, .val (.int x1), .val (.int x2), .val (.ref b1), .val (.ref b2), .unset, .unset, .unset] [(.ref b1)]) _ _ _
  refine own_go (fun _ => XS.iconst X6.here hx rfl (hb hby at_32)) ?_
  show own_Fin _ _ _ _ T6 (mkF m 33 #[.val (.long x0), .second, .val (.int x1), .val (.int x2), .val (.ref b1), .val (.ref b2), .unset, .unset, .unset] [(.int (1 : Int32)), (.ref b1)]) _ _ _
  refine own_go (fun _ => XS.lloadN X6.here hx rfl (hb hby at_33) rfl) ?_
  show own_Fin _ _ _ _ T6 (mkF m 34 #[.val (.long x0), .second, .val (.int x1), .val (.int x2), .val (.ref b1), .val (.ref b2), .unset, .unset, .unset] [(.long x0), (.int (1 : Int32)), (.ref b1)]) _ _ _
  refine own_go (fun _ => XS.bipush X6.here hx rfl (hb hby at_34)) ?_
  show own_Fin _ _ _ _ T6 (mkF m 36 #[.val (.long x0), .second, .val (.int x1), .val (.int x2), .val (.ref b1), .val (.ref b2), .unset, .unset, .unset] [(.int (8 : Int32)), (.long x0), (.int (1 : Int32)), (.ref b1)]) _ _ _
  obtain ⟨_, _, ⟨T7, L7, k7, n7⟩, -, X7, ⟨Lc7, hQ7, l7, y7, z7⟩, st7⟩ := Jvm.LawKit.callS X6 hx (y := (⟨"com/example/hosts_to_firehose/hoststofirehose/io/WebSocketProtocolApplyMaskPinLaw", "b", "(JI)B"⟩ : MethodName)) hown (mvT hZ (hw _ (List.mem_of_getElem? (i := 1) rfl))) (mvT hZ (hw _ (List.mem_of_getElem? (i := 2) rfl))) (mvT hZ (hw _ (List.mem_of_getElem? (i := 3) rfl))) (mvT hZ (hw _ (List.mem_of_getElem? (i := 4) rfl))) (by decide) (backOf (W := 2) (rm1 l Z a0 hw [] x0 (8 : Int32)  h6 n0 Z6 ) hZ (hw _ (List.mem_of_getElem? (i := 4) rfl)) (hw _ (List.mem_of_getElem? (i := 3) rfl)) (by decide) (by decide)) (g := (mkF m 36 #[.val (.long x0), .second, .val (.int x1), .val (.int x2), .val (.ref b1), .val (.ref b2), .unset, .unset, .unset] [(.int (8 : Int32)), (.long x0), (.int (1 : Int32)), (.ref b1)])) rfl (by rw [hml]; rfl) (argsL := [(.long x0), (.int (8 : Int32))]) (rest := [(.int (1 : Int32)), (.ref b1)]) (lenOf pd_0 rfl) rfl (by show 2 * 0 + _ ≤ _; exact Nat.le_of_eq rfl) (hb hby at_36) (fun _ _ => ⟨rfl, e6, (by decide : 2 + 0 ≤ _), (by decide : 16 + 0 ≤ _)⟩)
  dsimp only [Pt.U, Pt.locs, Pt.cells, Pt.slots] at X7 l7 y7 z7 st7 hQ7
  subst y7 z7
  obtain ⟨rfl, N7q, e7⟩ := hQ7
  have N7 : Fr n0 L7 := l7.symm ▸ Fr.app N6 N7q
  replace X7 : Stand p l e room_1 s m #[(.long x0), (.int x1), (.int x2)] below meth c T7 _ 2 16 := X7
  refine own_go st7 ?_
  show own_Fin _ _ _ _ T7 (mkF m 39 #[.val (.long x0), .second, .val (.int x1), .val (.int x2), .val (.ref b1), .val (.ref b2), .unset, .unset, .unset] [(.int (own_b x0 (8 : Int32))), (.int (1 : Int32)), (.ref b1)]) _ _ _
  obtain ⟨T8, h8, X8, e8, W8, V8, st8⟩ := own_bst X7 hx hZ e7 V6_b1 (j := (1 : Int32)) 1 (by decide) rfl (by decide) (g := (mkF m 39 #[.val (.long x0), .second, .val (.int x1), .val (.int x2), .val (.ref b1), .val (.ref b2), .unset, .unset, .unset] [(.int (own_b x0 (8 : Int32))), (.int (1 : Int32)), (.ref b1)])) rfl rfl (hb hby at_39)
  obtain ⟨f8, hf8⟩ : ∃ f, f = own_up f4 1 (nar .byte (own_b x0 (8 : Int32))) := ⟨_, rfl⟩
  rw [← hf8] at V8
  have V8_b2 := (V6).other W8 (Ne.symm ne_b1_b2)
  have K8 : Keep h0 h8 [] := (K6).wr W8 (Or.inr sz_b1)
  have N8 := Fr.snoc X8 N7 g_b1
  have Z8 : n0 ≤ h8.size := Nat.le_trans Z6 (Keep.of_wr W8).1
  refine own_go st8 ?_
  show own_Fin _ _ _ _ T8 (mkF m 40 #[.val (.long x0), .second, .val (.int x1), .val (.int x2), .val (.ref b1), .val (.ref b2), .unset, .unset, .unset] []) _ _ _
  refine own_go (fun _ => XS.aload X8.here hx rfl (hb hby at_40) rfl rfl) ?_
  show own_Fin _ _ _ _ T8 (mkF m 42 #[.val (.long x0), .second, .val (.int x1), .val (.int x2), .val (.ref b1), .val (.ref b2), .unset, .unset, .unset] [(.ref b2)]) _ _ _
  refine own_go (fun _ => XS.iconst X8.here hx rfl (hb hby at_42)) ?_
  show own_Fin _ _ _ _ T8 (mkF m 43 #[.val (.long x0), .second, .val (.int x1), .val (.int x2), .val (.ref b1), .val (.ref b2), .unset, .unset, .unset] [(.int (1 : Int32)), (.ref b2)]) _ _ _
  refine own_go (fun _ => XS.lloadN X8.here hx rfl (hb hby at_43) rfl) ?_
  show own_Fin _ _ _ _ T8 (mkF m 44 #[.val (.long x0), .second, .val (.int x1), .val (.int x2), .val (.ref b1), .val (.ref b2), .unset, .unset, .unset] [(.long x0), (.int (1 : Int32)), (.ref b2)]) _ _ _
  refine own_go (fun _ => XS.bipush X8.here hx rfl (hb hby at_44)) ?_
  show own_Fin _ _ _ _ T8 (mkF m 46 #[.val (.long x0), .second, .val (.int x1), .val (.int x2), .val (.ref b1), .val (.ref b2), .unset, .unset, .unset] [(.int (8 : Int32)), (.long x0), (.int (1 : Int32)), (.ref b2)]) _ _ _
  obtain ⟨_, _, ⟨T9, L9, k9, n9⟩, -, X9, ⟨Lc9, hQ9, l9, y9, z9⟩, st9⟩ := Jvm.LawKit.callS X8 hx (y := (⟨"com/example/hosts_to_firehose/hoststofirehose/io/WebSocketProtocolApplyMaskPinLaw", "b", "(JI)B"⟩ : MethodName)) hown (mvT hZ (hw _ (List.mem_of_getElem? (i := 1) rfl))) (mvT hZ (hw _ (List.mem_of_getElem? (i := 2) rfl))) (mvT hZ (hw _ (List.mem_of_getElem? (i := 3) rfl))) (mvT hZ (hw _ (List.mem_of_getElem? (i := 4) rfl))) (by decide) (backOf (W := 2) (rm1 l Z a0 hw [] x0 (8 : Int32)  h8 n0 Z8 ) hZ (hw _ (List.mem_of_getElem? (i := 4) rfl)) (hw _ (List.mem_of_getElem? (i := 3) rfl)) (by decide) (by decide)) (g := (mkF m 46 #[.val (.long x0), .second, .val (.int x1), .val (.int x2), .val (.ref b1), .val (.ref b2), .unset, .unset, .unset] [(.int (8 : Int32)), (.long x0), (.int (1 : Int32)), (.ref b2)])) rfl (by rw [hml]; rfl) (argsL := [(.long x0), (.int (8 : Int32))]) (rest := [(.int (1 : Int32)), (.ref b2)]) (lenOf pd_0 rfl) rfl (by show 2 * 0 + _ ≤ _; exact Nat.le_of_eq rfl) (hb hby at_46) (fun _ _ => ⟨rfl, e8, (by decide : 2 + 0 ≤ _), (by decide : 16 + 0 ≤ _)⟩)
  dsimp only [Pt.U, Pt.locs, Pt.cells, Pt.slots] at X9 l9 y9 z9 st9 hQ9
  subst y9 z9
  obtain ⟨rfl, N9q, e9⟩ := hQ9
  have N9 : Fr n0 L9 := l9.symm ▸ Fr.app N8 N9q
  replace X9 : Stand p l e room_1 s m #[(.long x0), (.int x1), (.int x2)] below meth c T9 _ 2 16 := X9
  refine own_go st9 ?_
  show own_Fin _ _ _ _ T9 (mkF m 49 #[.val (.long x0), .second, .val (.int x1), .val (.int x2), .val (.ref b1), .val (.ref b2), .unset, .unset, .unset] [(.int (own_b x0 (8 : Int32))), (.int (1 : Int32)), (.ref b2)]) _ _ _
  obtain ⟨T10, h10, X10, e10, W10, V10, st10⟩ := own_bst X9 hx hZ e9 V8_b2 (j := (1 : Int32)) 1 (by decide) rfl (by decide) (g := (mkF m 49 #[.val (.long x0), .second, .val (.int x1), .val (.int x2), .val (.ref b1), .val (.ref b2), .unset, .unset, .unset] [(.int (own_b x0 (8 : Int32))), (.int (1 : Int32)), (.ref b2)])) rfl rfl (hb hby at_49)
  obtain ⟨f10, hf10⟩ : ∃ f, f = own_up f6 1 (nar .byte (own_b x0 (8 : Int32))) := ⟨_, rfl⟩
  rw [← hf10] at V10
  have V10_b1 := (V8).other W10 ne_b1_b2
  have K10 : Keep h0 h10 [] := (K8).wr W10 (Or.inr sz_b2)
  have N10 := Fr.snoc X10 N9 g_b2
  have Z10 : n0 ≤ h10.size := Nat.le_trans Z8 (Keep.of_wr W10).1
  refine own_go st10 ?_
  show own_Fin _ _ _ _ T10 (mkF m 50 #[.val (.long x0), .second, .val (.int x1), .val (.int x2), .val (.ref b1), .val (.ref b2), .unset, .unset, .unset] []) _ _ _
  refine own_go (fun _ => XS.aload X10.here hx rfl (hb hby at_50) rfl rfl) ?_
  show own_Fin _ _ _ _ T10 (mkF m 52 #[.val (.long x0), .second, .val (.int x1), .val (.int x2), .val (.ref b1), .val (.ref b2), .unset, .unset, .unset] [(.ref b1)]) _ _ _
  refine own_go (fun _ => XS.iconst X10.here hx rfl (hb hby at_52)) ?_
  show own_Fin _ _ _ _ T10 (mkF m 53 #[.val (.long x0), .second, .val (.int x1), .val (.int x2), .val (.ref b1), .val (.ref b2), .unset, .unset, .unset] [(.int (2 : Int32)), (.ref b1)]) _ _ _
  refine own_go (fun _ => XS.lloadN X10.here hx rfl (hb hby at_53) rfl) ?_
  show own_Fin _ _ _ _ T10 (mkF m 54 #[.val (.long x0), .second, .val (.int x1), .val (.int x2), .val (.ref b1), .val (.ref b2), .unset, .unset, .unset] [(.long x0), (.int (2 : Int32)), (.ref b1)]) _ _ _
  refine own_go (fun _ => XS.bipush X10.here hx rfl (hb hby at_54)) ?_
  show own_Fin _ _ _ _ T10 (mkF m 56 #[.val (.long x0), .second, .val (.int x1), .val (.int x2), .val (.ref b1), .val (.ref b2), .unset, .unset, .unset] [(.int (16 : Int32)), (.long x0), (.int (2 : Int32)), (.ref b1)]) _ _ _
  obtain ⟨_, _, ⟨T11, L11, k11, n11⟩, -, X11, ⟨Lc11, hQ11, l11, y11, z11⟩, st11⟩ := Jvm.LawKit.callS X10 hx (y := (⟨"com/example/hosts_to_firehose/hoststofirehose/io/WebSocketProtocolApplyMaskPinLaw", "b", "(JI)B"⟩ : MethodName)) hown (mvT hZ (hw _ (List.mem_of_getElem? (i := 1) rfl))) (mvT hZ (hw _ (List.mem_of_getElem? (i := 2) rfl))) (mvT hZ (hw _ (List.mem_of_getElem? (i := 3) rfl))) (mvT hZ (hw _ (List.mem_of_getElem? (i := 4) rfl))) (by decide) (backOf (W := 2) (rm1 l Z a0 hw [] x0 (16 : Int32)  h10 n0 Z10 ) hZ (hw _ (List.mem_of_getElem? (i := 4) rfl)) (hw _ (List.mem_of_getElem? (i := 3) rfl)) (by decide) (by decide)) (g := (mkF m 56 #[.val (.long x0), .second, .val (.int x1), .val (.int x2), .val (.ref b1), .val (.ref b2), .unset, .unset, .unset] [(.int (16 : Int32)), (.long x0), (.int (2 : Int32)), (.ref b1)])) rfl (by rw [hml]; rfl) (argsL := [(.long x0), (.int (16 : Int32))]) (rest := [(.int (2 : Int32)), (.ref b1)]) (lenOf pd_0 rfl) rfl (by show 2 * 0 + _ ≤ _; exact Nat.le_of_eq rfl) (hb hby at_56) (fun _ _ => ⟨rfl, e10, (by decide : 2 + 0 ≤ _), (by decide : 16 + 0 ≤ _)⟩)
  dsimp only [Pt.U, Pt.locs, Pt.cells, Pt.slots] at X11 l11 y11 z11 st11 hQ11
  subst y11 z11
  obtain ⟨rfl, N11q, e11⟩ := hQ11
  have N11 : Fr n0 L11 := l11.symm ▸ Fr.app N10 N11q
  replace X11 : Stand p l e room_1 s m #[(.long x0), (.int x1), (.int x2)] below meth c T11 _ 2 16 := X11
  refine own_go st11 ?_
  show own_Fin _ _ _ _ T11 (mkF m 59 #[.val (.long x0), .second, .val (.int x1), .val (.int x2), .val (.ref b1), .val (.ref b2), .unset, .unset, .unset] [(.int (own_b x0 (16 : Int32))), (.int (2 : Int32)), (.ref b1)]) _ _ _
  obtain ⟨T12, h12, X12, e12, W12, V12, st12⟩ := own_bst X11 hx hZ e11 V10_b1 (j := (2 : Int32)) 2 (by decide) rfl (by decide) (g := (mkF m 59 #[.val (.long x0), .second, .val (.int x1), .val (.int x2), .val (.ref b1), .val (.ref b2), .unset, .unset, .unset] [(.int (own_b x0 (16 : Int32))), (.int (2 : Int32)), (.ref b1)])) rfl rfl (hb hby at_59)
  obtain ⟨f12, hf12⟩ : ∃ f, f = own_up f8 2 (nar .byte (own_b x0 (16 : Int32))) := ⟨_, rfl⟩
  rw [← hf12] at V12
  have V12_b2 := (V10).other W12 (Ne.symm ne_b1_b2)
  have K12 : Keep h0 h12 [] := (K10).wr W12 (Or.inr sz_b1)
  have N12 := Fr.snoc X12 N11 g_b1
  have Z12 : n0 ≤ h12.size := Nat.le_trans Z10 (Keep.of_wr W12).1
  refine own_go st12 ?_
  show own_Fin _ _ _ _ T12 (mkF m 60 #[.val (.long x0), .second, .val (.int x1), .val (.int x2), .val (.ref b1), .val (.ref b2), .unset, .unset, .unset] []) _ _ _
  refine own_go (fun _ => XS.aload X12.here hx rfl (hb hby at_60) rfl rfl) ?_
  show own_Fin _ _ _ _ T12 (mkF m 62 #[.val (.long x0), .second, .val (.int x1), .val (.int x2), .val (.ref b1), .val (.ref b2), .unset, .unset, .unset] [(.ref b2)]) _ _ _
  refine own_go (fun _ => XS.iconst X12.here hx rfl (hb hby at_62)) ?_
  show own_Fin _ _ _ _ T12 (mkF m 63 #[.val (.long x0), .second, .val (.int x1), .val (.int x2), .val (.ref b1), .val (.ref b2), .unset, .unset, .unset] [(.int (2 : Int32)), (.ref b2)]) _ _ _
  refine own_go (fun _ => XS.lloadN X12.here hx rfl (hb hby at_63) rfl) ?_
  show own_Fin _ _ _ _ T12 (mkF m 64 #[.val (.long x0), .second, .val (.int x1), .val (.int x2), .val (.ref b1), .val (.ref b2), .unset, .unset, .unset] [(.long x0), (.int (2 : Int32)), (.ref b2)]) _ _ _
  refine own_go (fun _ => XS.bipush X12.here hx rfl (hb hby at_64)) ?_
  show own_Fin _ _ _ _ T12 (mkF m 66 #[.val (.long x0), .second, .val (.int x1), .val (.int x2), .val (.ref b1), .val (.ref b2), .unset, .unset, .unset] [(.int (16 : Int32)), (.long x0), (.int (2 : Int32)), (.ref b2)]) _ _ _
  obtain ⟨_, _, ⟨T13, L13, k13, n13⟩, -, X13, ⟨Lc13, hQ13, l13, y13, z13⟩, st13⟩ := Jvm.LawKit.callS X12 hx (y := (⟨"com/example/hosts_to_firehose/hoststofirehose/io/WebSocketProtocolApplyMaskPinLaw", "b", "(JI)B"⟩ : MethodName)) hown (mvT hZ (hw _ (List.mem_of_getElem? (i := 1) rfl))) (mvT hZ (hw _ (List.mem_of_getElem? (i := 2) rfl))) (mvT hZ (hw _ (List.mem_of_getElem? (i := 3) rfl))) (mvT hZ (hw _ (List.mem_of_getElem? (i := 4) rfl))) (by decide) (backOf (W := 2) (rm1 l Z a0 hw [] x0 (16 : Int32)  h12 n0 Z12 ) hZ (hw _ (List.mem_of_getElem? (i := 4) rfl)) (hw _ (List.mem_of_getElem? (i := 3) rfl)) (by decide) (by decide)) (g := (mkF m 66 #[.val (.long x0), .second, .val (.int x1), .val (.int x2), .val (.ref b1), .val (.ref b2), .unset, .unset, .unset] [(.int (16 : Int32)), (.long x0), (.int (2 : Int32)), (.ref b2)])) rfl (by rw [hml]; rfl) (argsL := [(.long x0), (.int (16 : Int32))]) (rest := [(.int (2 : Int32)), (.ref b2)]) (lenOf pd_0 rfl) rfl (by show 2 * 0 + _ ≤ _; exact Nat.le_of_eq rfl) (hb hby at_66) (fun _ _ => ⟨rfl, e12, (by decide : 2 + 0 ≤ _), (by decide : 16 + 0 ≤ _)⟩)
  dsimp only [Pt.U, Pt.locs, Pt.cells, Pt.slots] at X13 l13 y13 z13 st13 hQ13
  subst y13 z13
  obtain ⟨rfl, N13q, e13⟩ := hQ13
  have N13 : Fr n0 L13 := l13.symm ▸ Fr.app N12 N13q
  replace X13 : Stand p l e room_1 s m #[(.long x0), (.int x1), (.int x2)] below meth c T13 _ 2 16 := X13
  refine own_go st13 ?_
  show own_Fin _ _ _ _ T13 (mkF m 69 #[.val (.long x0), .second, .val (.int x1), .val (.int x2), .val (.ref b1), .val (.ref b2), .unset, .unset, .unset] [(.int (own_b x0 (16 : Int32))), (.int (2 : Int32)), (.ref b2)]) _ _ _
  obtain ⟨T14, h14, X14, e14, W14, V14, st14⟩ := own_bst X13 hx hZ e13 V12_b2 (j := (2 : Int32)) 2 (by decide) rfl (by decide) (g := (mkF m 69 #[.val (.long x0), .second, .val (.int x1), .val (.int x2), .val (.ref b1), .val (.ref b2), .unset, .unset, .unset] [(.int (own_b x0 (16 : Int32))), (.int (2 : Int32)), (.ref b2)])) rfl rfl (hb hby at_69)
  obtain ⟨f14, hf14⟩ : ∃ f, f = own_up f10 2 (nar .byte (own_b x0 (16 : Int32))) := ⟨_, rfl⟩
  rw [← hf14] at V14
  have V14_b1 := (V12).other W14 ne_b1_b2
  have K14 : Keep h0 h14 [] := (K12).wr W14 (Or.inr sz_b2)
  have N14 := Fr.snoc X14 N13 g_b2
  have Z14 : n0 ≤ h14.size := Nat.le_trans Z12 (Keep.of_wr W14).1
  refine own_go st14 ?_
  show own_Fin _ _ _ _ T14 (mkF m 70 #[.val (.long x0), .second, .val (.int x1), .val (.int x2), .val (.ref b1), .val (.ref b2), .unset, .unset, .unset] []) _ _ _
  refine own_go (fun _ => XS.aload X14.here hx rfl (hb hby at_70) rfl rfl) ?_
  show own_Fin _ _ _ _ T14 (mkF m 72 #[.val (.long x0), .second, .val (.int x1), .val (.int x2), .val (.ref b1), .val (.ref b2), .unset, .unset, .unset] [(.ref b1)]) _ _ _
  refine own_go (fun _ => XS.iconst X14.here hx rfl (hb hby at_72)) ?_
  show own_Fin _ _ _ _ T14 (mkF m 73 #[.val (.long x0), .second, .val (.int x1), .val (.int x2), .val (.ref b1), .val (.ref b2), .unset, .unset, .unset] [(.int (3 : Int32)), (.ref b1)]) _ _ _
  refine own_go (fun _ => XS.lloadN X14.here hx rfl (hb hby at_73) rfl) ?_
  show own_Fin _ _ _ _ T14 (mkF m 74 #[.val (.long x0), .second, .val (.int x1), .val (.int x2), .val (.ref b1), .val (.ref b2), .unset, .unset, .unset] [(.long x0), (.int (3 : Int32)), (.ref b1)]) _ _ _
  refine own_go (fun _ => XS.bipush X14.here hx rfl (hb hby at_74)) ?_
  show own_Fin _ _ _ _ T14 (mkF m 76 #[.val (.long x0), .second, .val (.int x1), .val (.int x2), .val (.ref b1), .val (.ref b2), .unset, .unset, .unset] [(.int (24 : Int32)), (.long x0), (.int (3 : Int32)), (.ref b1)]) _ _ _
  obtain ⟨_, _, ⟨T15, L15, k15, n15⟩, -, X15, ⟨Lc15, hQ15, l15, y15, z15⟩, st15⟩ := Jvm.LawKit.callS X14 hx (y := (⟨"com/example/hosts_to_firehose/hoststofirehose/io/WebSocketProtocolApplyMaskPinLaw", "b", "(JI)B"⟩ : MethodName)) hown (mvT hZ (hw _ (List.mem_of_getElem? (i := 1) rfl))) (mvT hZ (hw _ (List.mem_of_getElem? (i := 2) rfl))) (mvT hZ (hw _ (List.mem_of_getElem? (i := 3) rfl))) (mvT hZ (hw _ (List.mem_of_getElem? (i := 4) rfl))) (by decide) (backOf (W := 2) (rm1 l Z a0 hw [] x0 (24 : Int32)  h14 n0 Z14 ) hZ (hw _ (List.mem_of_getElem? (i := 4) rfl)) (hw _ (List.mem_of_getElem? (i := 3) rfl)) (by decide) (by decide)) (g := (mkF m 76 #[.val (.long x0), .second, .val (.int x1), .val (.int x2), .val (.ref b1), .val (.ref b2), .unset, .unset, .unset] [(.int (24 : Int32)), (.long x0), (.int (3 : Int32)), (.ref b1)])) rfl (by rw [hml]; rfl) (argsL := [(.long x0), (.int (24 : Int32))]) (rest := [(.int (3 : Int32)), (.ref b1)]) (lenOf pd_0 rfl) rfl (by show 2 * 0 + _ ≤ _; exact Nat.le_of_eq rfl) (hb hby at_76) (fun _ _ => ⟨rfl, e14, (by decide : 2 + 0 ≤ _), (by decide : 16 + 0 ≤ _)⟩)
  dsimp only [Pt.U, Pt.locs, Pt.cells, Pt.slots] at X15 l15 y15 z15 st15 hQ15
  subst y15 z15
  obtain ⟨rfl, N15q, e15⟩ := hQ15
  have N15 : Fr n0 L15 := l15.symm ▸ Fr.app N14 N15q
  replace X15 : Stand p l e room_1 s m #[(.long x0), (.int x1), (.int x2)] below meth c T15 _ 2 16 := X15
  refine own_go st15 ?_
  show own_Fin _ _ _ _ T15 (mkF m 79 #[.val (.long x0), .second, .val (.int x1), .val (.int x2), .val (.ref b1), .val (.ref b2), .unset, .unset, .unset] [(.int (own_b x0 (24 : Int32))), (.int (3 : Int32)), (.ref b1)]) _ _ _
  obtain ⟨T16, h16, X16, e16, W16, V16, st16⟩ := own_bst X15 hx hZ e15 V14_b1 (j := (3 : Int32)) 3 (by decide) rfl (by decide) (g := (mkF m 79 #[.val (.long x0), .second, .val (.int x1), .val (.int x2), .val (.ref b1), .val (.ref b2), .unset, .unset, .unset] [(.int (own_b x0 (24 : Int32))), (.int (3 : Int32)), (.ref b1)])) rfl rfl (hb hby at_79)
  obtain ⟨f16, hf16⟩ : ∃ f, f = own_up f12 3 (nar .byte (own_b x0 (24 : Int32))) := ⟨_, rfl⟩
  rw [← hf16] at V16
  have V16_b2 := (V14).other W16 (Ne.symm ne_b1_b2)
  have K16 : Keep h0 h16 [] := (K14).wr W16 (Or.inr sz_b1)
  have N16 := Fr.snoc X16 N15 g_b1
  have Z16 : n0 ≤ h16.size := Nat.le_trans Z14 (Keep.of_wr W16).1
  refine own_go st16 ?_
  show own_Fin _ _ _ _ T16 (mkF m 80 #[.val (.long x0), .second, .val (.int x1), .val (.int x2), .val (.ref b1), .val (.ref b2), .unset, .unset, .unset] []) _ _ _
  refine own_go (fun _ => XS.aload X16.here hx rfl (hb hby at_80) rfl rfl) ?_
  show own_Fin _ _ _ _ T16 (mkF m 82 #[.val (.long x0), .second, .val (.int x1), .val (.int x2), .val (.ref b1), .val (.ref b2), .unset, .unset, .unset] [(.ref b2)]) _ _ _
  refine own_go (fun _ => XS.iconst X16.here hx rfl (hb hby at_82)) ?_
  show own_Fin _ _ _ _ T16 (mkF m 83 #[.val (.long x0), .second, .val (.int x1), .val (.int x2), .val (.ref b1), .val (.ref b2), .unset, .unset, .unset] [(.int (3 : Int32)), (.ref b2)]) _ _ _
  refine own_go (fun _ => XS.lloadN X16.here hx rfl (hb hby at_83) rfl) ?_
  show own_Fin _ _ _ _ T16 (mkF m 84 #[.val (.long x0), .second, .val (.int x1), .val (.int x2), .val (.ref b1), .val (.ref b2), .unset, .unset, .unset] [(.long x0), (.int (3 : Int32)), (.ref b2)]) _ _ _
  refine own_go (fun _ => XS.bipush X16.here hx rfl (hb hby at_84)) ?_
  show own_Fin _ _ _ _ T16 (mkF m 86 #[.val (.long x0), .second, .val (.int x1), .val (.int x2), .val (.ref b1), .val (.ref b2), .unset, .unset, .unset] [(.int (24 : Int32)), (.long x0), (.int (3 : Int32)), (.ref b2)]) _ _ _
  obtain ⟨_, _, ⟨T17, L17, k17, n17⟩, -, X17, ⟨Lc17, hQ17, l17, y17, z17⟩, st17⟩ := Jvm.LawKit.callS X16 hx (y := (⟨"com/example/hosts_to_firehose/hoststofirehose/io/WebSocketProtocolApplyMaskPinLaw", "b", "(JI)B"⟩ : MethodName)) hown (mvT hZ (hw _ (List.mem_of_getElem? (i := 1) rfl))) (mvT hZ (hw _ (List.mem_of_getElem? (i := 2) rfl))) (mvT hZ (hw _ (List.mem_of_getElem? (i := 3) rfl))) (mvT hZ (hw _ (List.mem_of_getElem? (i := 4) rfl))) (by decide) (backOf (W := 2) (rm1 l Z a0 hw [] x0 (24 : Int32)  h16 n0 Z16 ) hZ (hw _ (List.mem_of_getElem? (i := 4) rfl)) (hw _ (List.mem_of_getElem? (i := 3) rfl)) (by decide) (by decide)) (g := (mkF m 86 #[.val (.long x0), .second, .val (.int x1), .val (.int x2), .val (.ref b1), .val (.ref b2), .unset, .unset, .unset] [(.int (24 : Int32)), (.long x0), (.int (3 : Int32)), (.ref b2)])) rfl (by rw [hml]; rfl) (argsL := [(.long x0), (.int (24 : Int32))]) (rest := [(.int (3 : Int32)), (.ref b2)]) (lenOf pd_0 rfl) rfl (by show 2 * 0 + _ ≤ _; exact Nat.le_of_eq rfl) (hb hby at_86) (fun _ _ => ⟨rfl, e16, (by decide : 2 + 0 ≤ _), (by decide : 16 + 0 ≤ _)⟩)
  dsimp only [Pt.U, Pt.locs, Pt.cells, Pt.slots] at X17 l17 y17 z17 st17 hQ17
  subst y17 z17
  obtain ⟨rfl, N17q, e17⟩ := hQ17
  have N17 : Fr n0 L17 := l17.symm ▸ Fr.app N16 N17q
  replace X17 : Stand p l e room_1 s m #[(.long x0), (.int x1), (.int x2)] below meth c T17 _ 2 16 := X17
  refine own_go st17 ?_
  show own_Fin _ _ _ _ T17 (mkF m 89 #[.val (.long x0), .second, .val (.int x1), .val (.int x2), .val (.ref b1), .val (.ref b2), .unset, .unset, .unset] [(.int (own_b x0 (24 : Int32))), (.int (3 : Int32)), (.ref b2)]) _ _ _
  obtain ⟨T18, h18, X18, e18, W18, V18, st18⟩ := own_bst X17 hx hZ e17 V16_b2 (j := (3 : Int32)) 3 (by decide) rfl (by decide) (g := (mkF m 89 #[.val (.long x0), .second, .val (.int x1), .val (.int x2), .val (.ref b1), .val (.ref b2), .unset, .unset, .unset] [(.int (own_b x0 (24 : Int32))), (.int (3 : Int32)), (.ref b2)])) rfl rfl (hb hby at_89)
  obtain ⟨f18, hf18⟩ : ∃ f, f = own_up f14 3 (nar .byte (own_b x0 (24 : Int32))) := ⟨_, rfl⟩
  rw [← hf18] at V18
  have V18_b1 := (V16).other W18 ne_b1_b2
  have K18 : Keep h0 h18 [] := (K16).wr W18 (Or.inr sz_b2)
  have N18 := Fr.snoc X18 N17 g_b2
  have Z18 : n0 ≤ h18.size := Nat.le_trans Z16 (Keep.of_wr W18).1
  refine own_go st18 ?_
  show own_Fin _ _ _ _ T18 (mkF m 90 #[.val (.long x0), .second, .val (.int x1), .val (.int x2), .val (.ref b1), .val (.ref b2), .unset, .unset, .unset] []) _ _ _
  refine own_go (fun _ => XS.aload X18.here hx rfl (hb hby at_90) rfl rfl) ?_
  show own_Fin _ _ _ _ T18 (mkF m 92 #[.val (.long x0), .second, .val (.int x1), .val (.int x2), .val (.ref b1), .val (.ref b2), .unset, .unset, .unset] [(.ref b1)]) _ _ _
  refine own_go (fun _ => XS.iconst X18.here hx rfl (hb hby at_92)) ?_
  show own_Fin _ _ _ _ T18 (mkF m 93 #[.val (.long x0), .second, .val (.int x1), .val (.int x2), .val (.ref b1), .val (.ref b2), .unset, .unset, .unset] [(.int (4 : Int32)), (.ref b1)]) _ _ _
  refine own_go (fun _ => XS.lloadN X18.here hx rfl (hb hby at_93) rfl) ?_
  show own_Fin _ _ _ _ T18 (mkF m 94 #[.val (.long x0), .second, .val (.int x1), .val (.int x2), .val (.ref b1), .val (.ref b2), .unset, .unset, .unset] [(.long x0), (.int (4 : Int32)), (.ref b1)]) _ _ _
  refine own_go (fun _ => XS.bipush X18.here hx rfl (hb hby at_94)) ?_
  show own_Fin _ _ _ _ T18 (mkF m 96 #[.val (.long x0), .second, .val (.int x1), .val (.int x2), .val (.ref b1), .val (.ref b2), .unset, .unset, .unset] [(.int (32 : Int32)), (.long x0), (.int (4 : Int32)), (.ref b1)]) _ _ _
  obtain ⟨_, _, ⟨T19, L19, k19, n19⟩, -, X19, ⟨Lc19, hQ19, l19, y19, z19⟩, st19⟩ := Jvm.LawKit.callS X18 hx (y := (⟨"com/example/hosts_to_firehose/hoststofirehose/io/WebSocketProtocolApplyMaskPinLaw", "b", "(JI)B"⟩ : MethodName)) hown (mvT hZ (hw _ (List.mem_of_getElem? (i := 1) rfl))) (mvT hZ (hw _ (List.mem_of_getElem? (i := 2) rfl))) (mvT hZ (hw _ (List.mem_of_getElem? (i := 3) rfl))) (mvT hZ (hw _ (List.mem_of_getElem? (i := 4) rfl))) (by decide) (backOf (W := 2) (rm1 l Z a0 hw [] x0 (32 : Int32)  h18 n0 Z18 ) hZ (hw _ (List.mem_of_getElem? (i := 4) rfl)) (hw _ (List.mem_of_getElem? (i := 3) rfl)) (by decide) (by decide)) (g := (mkF m 96 #[.val (.long x0), .second, .val (.int x1), .val (.int x2), .val (.ref b1), .val (.ref b2), .unset, .unset, .unset] [(.int (32 : Int32)), (.long x0), (.int (4 : Int32)), (.ref b1)])) rfl (by rw [hml]; rfl) (argsL := [(.long x0), (.int (32 : Int32))]) (rest := [(.int (4 : Int32)), (.ref b1)]) (lenOf pd_0 rfl) rfl (by show 2 * 0 + _ ≤ _; exact Nat.le_of_eq rfl) (hb hby at_96) (fun _ _ => ⟨rfl, e18, (by decide : 2 + 0 ≤ _), (by decide : 16 + 0 ≤ _)⟩)
  dsimp only [Pt.U, Pt.locs, Pt.cells, Pt.slots] at X19 l19 y19 z19 st19 hQ19
  subst y19 z19
  obtain ⟨rfl, N19q, e19⟩ := hQ19
  have N19 : Fr n0 L19 := l19.symm ▸ Fr.app N18 N19q
  replace X19 : Stand p l e room_1 s m #[(.long x0), (.int x1), (.int x2)] below meth c T19 _ 2 16 := X19
  refine own_go st19 ?_
  show own_Fin _ _ _ _ T19 (mkF m 99 #[.val (.long x0), .second, .val (.int x1), .val (.int x2), .val (.ref b1), .val (.ref b2), .unset, .unset, .unset] [(.int (own_b x0 (32 : Int32))), (.int (4 : Int32)), (.ref b1)]) _ _ _
  obtain ⟨T20, h20, X20, e20, W20, V20, st20⟩ := own_bst X19 hx hZ e19 V18_b1 (j := (4 : Int32)) 4 (by decide) rfl (by decide) (g := (mkF m 99 #[.val (.long x0), .second, .val (.int x1), .val (.int x2), .val (.ref b1), .val (.ref b2), .unset, .unset, .unset] [(.int (own_b x0 (32 : Int32))), (.int (4 : Int32)), (.ref b1)])) rfl rfl (hb hby at_99)
  obtain ⟨f20, hf20⟩ : ∃ f, f = own_up f16 4 (nar .byte (own_b x0 (32 : Int32))) := ⟨_, rfl⟩
  rw [← hf20] at V20
  have V20_b2 := (V18).other W20 (Ne.symm ne_b1_b2)
  have K20 : Keep h0 h20 [] := (K18).wr W20 (Or.inr sz_b1)
  have N20 := Fr.snoc X20 N19 g_b1
  have Z20 : n0 ≤ h20.size := Nat.le_trans Z18 (Keep.of_wr W20).1
  refine own_go st20 ?_
  show own_Fin _ _ _ _ T20 (mkF m 100 #[.val (.long x0), .second, .val (.int x1), .val (.int x2), .val (.ref b1), .val (.ref b2), .unset, .unset, .unset] []) _ _ _
  refine own_go (fun _ => XS.aload X20.here hx rfl (hb hby at_100) rfl rfl) ?_
  show own_Fin _ _ _ _ T20 (mkF m 102 #[.val (.long x0), .second, .val (.int x1), .val (.int x2), .val (.ref b1), .val (.ref b2), .unset, .unset, .unset] [(.ref b2)]) _ _ _
  refine own_go (fun _ => XS.iconst X20.here hx rfl (hb hby at_102)) ?_
  show own_Fin _ _ _ _ T20 (mkF m 103 #[.val (.long x0), .second, .val (.int x1), .val (.int x2), .val (.ref b1), .val (.ref b2), .unset, .unset, .unset] [(.int (4 : Int32)), (.ref b2)]) _ _ _
  refine own_go (fun _ => XS.lloadN X20.here hx rfl (hb hby at_103) rfl) ?_
  show own_Fin _ _ _ _ T20 (mkF m 104 #[.val (.long x0), .second, .val (.int x1), .val (.int x2), .val (.ref b1), .val (.ref b2), .unset, .unset, .unset] [(.long x0), (.int (4 : Int32)), (.ref b2)]) _ _ _
  refine own_go (fun _ => XS.bipush X20.here hx rfl (hb hby at_104)) ?_
  show own_Fin _ _ _ _ T20 (mkF m 106 #[.val (.long x0), .second, .val (.int x1), .val (.int x2), .val (.ref b1), .val (.ref b2), .unset, .unset, .unset] [(.int (32 : Int32)), (.long x0), (.int (4 : Int32)), (.ref b2)]) _ _ _
  obtain ⟨_, _, ⟨T21, L21, k21, n21⟩, -, X21, ⟨Lc21, hQ21, l21, y21, z21⟩, st21⟩ := Jvm.LawKit.callS X20 hx (y := (⟨"com/example/hosts_to_firehose/hoststofirehose/io/WebSocketProtocolApplyMaskPinLaw", "b", "(JI)B"⟩ : MethodName)) hown (mvT hZ (hw _ (List.mem_of_getElem? (i := 1) rfl))) (mvT hZ (hw _ (List.mem_of_getElem? (i := 2) rfl))) (mvT hZ (hw _ (List.mem_of_getElem? (i := 3) rfl))) (mvT hZ (hw _ (List.mem_of_getElem? (i := 4) rfl))) (by decide) (backOf (W := 2) (rm1 l Z a0 hw [] x0 (32 : Int32)  h20 n0 Z20 ) hZ (hw _ (List.mem_of_getElem? (i := 4) rfl)) (hw _ (List.mem_of_getElem? (i := 3) rfl)) (by decide) (by decide)) (g := (mkF m 106 #[.val (.long x0), .second, .val (.int x1), .val (.int x2), .val (.ref b1), .val (.ref b2), .unset, .unset, .unset] [(.int (32 : Int32)), (.long x0), (.int (4 : Int32)), (.ref b2)])) rfl (by rw [hml]; rfl) (argsL := [(.long x0), (.int (32 : Int32))]) (rest := [(.int (4 : Int32)), (.ref b2)]) (lenOf pd_0 rfl) rfl (by show 2 * 0 + _ ≤ _; exact Nat.le_of_eq rfl) (hb hby at_106) (fun _ _ => ⟨rfl, e20, (by decide : 2 + 0 ≤ _), (by decide : 16 + 0 ≤ _)⟩)
  dsimp only [Pt.U, Pt.locs, Pt.cells, Pt.slots] at X21 l21 y21 z21 st21 hQ21
  subst y21 z21
  obtain ⟨rfl, N21q, e21⟩ := hQ21
  have N21 : Fr n0 L21 := l21.symm ▸ Fr.app N20 N21q
  replace X21 : Stand p l e room_1 s m #[(.long x0), (.int x1), (.int x2)] below meth c T21 _ 2 16 := X21
  refine own_go st21 ?_
  show own_Fin _ _ _ _ T21 (mkF m 109 #[.val (.long x0), .second, .val (.int x1), .val (.int x2), .val (.ref b1), .val (.ref b2), .unset, .unset, .unset] [(.int (own_b x0 (32 : Int32))), (.int (4 : Int32)), (.ref b2)]) _ _ _
  obtain ⟨T22, h22, X22, e22, W22, V22, st22⟩ := own_bst X21 hx hZ e21 V20_b2 (j := (4 : Int32)) 4 (by decide) rfl (by decide) (g := (mkF m 109 #[.val (.long x0), .second, .val (.int x1), .val (.int x2), .val (.ref b1), .val (.ref b2), .unset, .unset, .unset] [(.int (own_b x0 (32 : Int32))), (.int (4 : Int32)), (.ref b2)])) rfl rfl (hb hby at_109)
  obtain ⟨f22, hf22⟩ : ∃ f, f = own_up f18 4 (nar .byte (own_b x0 (32 : Int32))) := ⟨_, rfl⟩
  rw [← hf22] at V22
  have V22_b1 := (V20).other W22 ne_b1_b2
  have K22 : Keep h0 h22 [] := (K20).wr W22 (Or.inr sz_b2)
  have N22 := Fr.snoc X22 N21 g_b2
  have Z22 : n0 ≤ h22.size := Nat.le_trans Z20 (Keep.of_wr W22).1
  refine own_go st22 ?_
  show own_Fin _ _ _ _ T22 (mkF m 110 #[.val (.long x0), .second, .val (.int x1), .val (.int x2), .val (.ref b1), .val (.ref b2), .unset, .unset, .unset] []) _ _ _
  refine own_go (fun _ => XS.aload X22.here hx rfl (hb hby at_110) rfl rfl) ?_
  show own_Fin _ _ _ _ T22 (mkF m 112 #[.val (.long x0), .second, .val (.int x1), .val (.int x2), .val (.ref b1), .val (.ref b2), .unset, .unset, .unset] [(.ref b1)]) _ _ _
  refine own_go (fun _ => XS.iconst X22.here hx rfl (hb hby at_112)) ?_
  show own_Fin _ _ _ _ T22 (mkF m 113 #[.val (.long x0), .second, .val (.int x1), .val (.int x2), .val (.ref b1), .val (.ref b2), .unset, .unset, .unset] [(.int (5 : Int32)), (.ref b1)]) _ _ _
  refine own_go (fun _ => XS.lloadN X22.here hx rfl (hb hby at_113) rfl) ?_
  show own_Fin _ _ _ _ T22 (mkF m 114 #[.val (.long x0), .second, .val (.int x1), .val (.int x2), .val (.ref b1), .val (.ref b2), .unset, .unset, .unset] [(.long x0), (.int (5 : Int32)), (.ref b1)]) _ _ _
  refine own_go (fun _ => XS.bipush X22.here hx rfl (hb hby at_114)) ?_
  show own_Fin _ _ _ _ T22 (mkF m 116 #[.val (.long x0), .second, .val (.int x1), .val (.int x2), .val (.ref b1), .val (.ref b2), .unset, .unset, .unset] [(.int (40 : Int32)), (.long x0), (.int (5 : Int32)), (.ref b1)]) _ _ _
  obtain ⟨_, _, ⟨T23, L23, k23, n23⟩, -, X23, ⟨Lc23, hQ23, l23, y23, z23⟩, st23⟩ := Jvm.LawKit.callS X22 hx (y := (⟨"com/example/hosts_to_firehose/hoststofirehose/io/WebSocketProtocolApplyMaskPinLaw", "b", "(JI)B"⟩ : MethodName)) hown (mvT hZ (hw _ (List.mem_of_getElem? (i := 1) rfl))) (mvT hZ (hw _ (List.mem_of_getElem? (i := 2) rfl))) (mvT hZ (hw _ (List.mem_of_getElem? (i := 3) rfl))) (mvT hZ (hw _ (List.mem_of_getElem? (i := 4) rfl))) (by decide) (backOf (W := 2) (rm1 l Z a0 hw [] x0 (40 : Int32)  h22 n0 Z22 ) hZ (hw _ (List.mem_of_getElem? (i := 4) rfl)) (hw _ (List.mem_of_getElem? (i := 3) rfl)) (by decide) (by decide)) (g := (mkF m 116 #[.val (.long x0), .second, .val (.int x1), .val (.int x2), .val (.ref b1), .val (.ref b2), .unset, .unset, .unset] [(.int (40 : Int32)), (.long x0), (.int (5 : Int32)), (.ref b1)])) rfl (by rw [hml]; rfl) (argsL := [(.long x0), (.int (40 : Int32))]) (rest := [(.int (5 : Int32)), (.ref b1)]) (lenOf pd_0 rfl) rfl (by show 2 * 0 + _ ≤ _; exact Nat.le_of_eq rfl) (hb hby at_116) (fun _ _ => ⟨rfl, e22, (by decide : 2 + 0 ≤ _), (by decide : 16 + 0 ≤ _)⟩)
  dsimp only [Pt.U, Pt.locs, Pt.cells, Pt.slots] at X23 l23 y23 z23 st23 hQ23
  subst y23 z23
  obtain ⟨rfl, N23q, e23⟩ := hQ23
  have N23 : Fr n0 L23 := l23.symm ▸ Fr.app N22 N23q
  replace X23 : Stand p l e room_1 s m #[(.long x0), (.int x1), (.int x2)] below meth c T23 _ 2 16 := X23
  refine own_go st23 ?_
  show own_Fin _ _ _ _ T23 (mkF m 119 #[.val (.long x0), .second, .val (.int x1), .val (.int x2), .val (.ref b1), .val (.ref b2), .unset, .unset, .unset] [(.int (own_b x0 (40 : Int32))), (.int (5 : Int32)), (.ref b1)]) _ _ _
  obtain ⟨T24, h24, X24, e24, W24, V24, st24⟩ := own_bst X23 hx hZ e23 V22_b1 (j := (5 : Int32)) 5 (by decide) rfl (by decide) (g := (mkF m 119 #[.val (.long x0), .second, .val (.int x1), .val (.int x2), .val (.ref b1), .val (.ref b2), .unset, .unset, .unset] [(.int (own_b x0 (40 : Int32))), (.int (5 : Int32)), (.ref b1)])) rfl rfl (hb hby at_119)
  obtain ⟨f24, hf24⟩ : ∃ f, f = own_up f20 5 (nar .byte (own_b x0 (40 : Int32))) := ⟨_, rfl⟩
  rw [← hf24] at V24
  have V24_b2 := (V22).other W24 (Ne.symm ne_b1_b2)
  have K24 : Keep h0 h24 [] := (K22).wr W24 (Or.inr sz_b1)
  have N24 := Fr.snoc X24 N23 g_b1
  have Z24 : n0 ≤ h24.size := Nat.le_trans Z22 (Keep.of_wr W24).1
  refine own_go st24 ?_
  show own_Fin _ _ _ _ T24 (mkF m 120 #[.val (.long x0), .second, .val (.int x1), .val (.int x2), .val (.ref b1), .val (.ref b2), .unset, .unset, .unset] []) _ _ _
  refine own_go (fun _ => XS.aload X24.here hx rfl (hb hby at_120) rfl rfl) ?_
  show own_Fin _ _ _ _ T24 (mkF m 122 #[.val (.long x0), .second, .val (.int x1), .val (.int x2), .val (.ref b1), .val (.ref b2), .unset, .unset, .unset] [(.ref b2)]) _ _ _
  refine own_go (fun _ => XS.iconst X24.here hx rfl (hb hby at_122)) ?_
  show own_Fin _ _ _ _ T24 (mkF m 123 #[.val (.long x0), .second, .val (.int x1), .val (.int x2), .val (.ref b1), .val (.ref b2), .unset, .unset, .unset] [(.int (5 : Int32)), (.ref b2)]) _ _ _
  refine own_go (fun _ => XS.lloadN X24.here hx rfl (hb hby at_123) rfl) ?_
  show own_Fin _ _ _ _ T24 (mkF m 124 #[.val (.long x0), .second, .val (.int x1), .val (.int x2), .val (.ref b1), .val (.ref b2), .unset, .unset, .unset] [(.long x0), (.int (5 : Int32)), (.ref b2)]) _ _ _
  refine own_go (fun _ => XS.bipush X24.here hx rfl (hb hby at_124)) ?_
  show own_Fin _ _ _ _ T24 (mkF m 126 #[.val (.long x0), .second, .val (.int x1), .val (.int x2), .val (.ref b1), .val (.ref b2), .unset, .unset, .unset] [(.int (40 : Int32)), (.long x0), (.int (5 : Int32)), (.ref b2)]) _ _ _
  obtain ⟨_, _, ⟨T25, L25, k25, n25⟩, -, X25, ⟨Lc25, hQ25, l25, y25, z25⟩, st25⟩ := Jvm.LawKit.callS X24 hx (y := (⟨"com/example/hosts_to_firehose/hoststofirehose/io/WebSocketProtocolApplyMaskPinLaw", "b", "(JI)B"⟩ : MethodName)) hown (mvT hZ (hw _ (List.mem_of_getElem? (i := 1) rfl))) (mvT hZ (hw _ (List.mem_of_getElem? (i := 2) rfl))) (mvT hZ (hw _ (List.mem_of_getElem? (i := 3) rfl))) (mvT hZ (hw _ (List.mem_of_getElem? (i := 4) rfl))) (by decide) (backOf (W := 2) (rm1 l Z a0 hw [] x0 (40 : Int32)  h24 n0 Z24 ) hZ (hw _ (List.mem_of_getElem? (i := 4) rfl)) (hw _ (List.mem_of_getElem? (i := 3) rfl)) (by decide) (by decide)) (g := (mkF m 126 #[.val (.long x0), .second, .val (.int x1), .val (.int x2), .val (.ref b1), .val (.ref b2), .unset, .unset, .unset] [(.int (40 : Int32)), (.long x0), (.int (5 : Int32)), (.ref b2)])) rfl (by rw [hml]; rfl) (argsL := [(.long x0), (.int (40 : Int32))]) (rest := [(.int (5 : Int32)), (.ref b2)]) (lenOf pd_0 rfl) rfl (by show 2 * 0 + _ ≤ _; exact Nat.le_of_eq rfl) (hb hby at_126) (fun _ _ => ⟨rfl, e24, (by decide : 2 + 0 ≤ _), (by decide : 16 + 0 ≤ _)⟩)
  dsimp only [Pt.U, Pt.locs, Pt.cells, Pt.slots] at X25 l25 y25 z25 st25 hQ25
  subst y25 z25
  obtain ⟨rfl, N25q, e25⟩ := hQ25
  have N25 : Fr n0 L25 := l25.symm ▸ Fr.app N24 N25q
  replace X25 : Stand p l e room_1 s m #[(.long x0), (.int x1), (.int x2)] below meth c T25 _ 2 16 := X25
  refine own_go st25 ?_
  show own_Fin _ _ _ _ T25 (mkF m 129 #[.val (.long x0), .second, .val (.int x1), .val (.int x2), .val (.ref b1), .val (.ref b2), .unset, .unset, .unset] [(.int (own_b x0 (40 : Int32))), (.int (5 : Int32)), (.ref b2)]) _ _ _
  obtain ⟨T26, h26, X26, e26, W26, V26, st26⟩ := own_bst X25 hx hZ e25 V24_b2 (j := (5 : Int32)) 5 (by decide) rfl (by decide) (g := (mkF m 129 #[.val (.long x0), .second, .val (.int x1), .val (.int x2), .val (.ref b1), .val (.ref b2), .unset, .unset, .unset] [(.int (own_b x0 (40 : Int32))), (.int (5 : Int32)), (.ref b2)])) rfl rfl (hb hby at_129)
  obtain ⟨f26, hf26⟩ : ∃ f, f = own_up f22 5 (nar .byte (own_b x0 (40 : Int32))) := ⟨_, rfl⟩
  rw [← hf26] at V26
  have V26_b1 := (V24).other W26 ne_b1_b2
  have K26 : Keep h0 h26 [] := (K24).wr W26 (Or.inr sz_b2)
  have N26 := Fr.snoc X26 N25 g_b2
  have Z26 : n0 ≤ h26.size := Nat.le_trans Z24 (Keep.of_wr W26).1
  refine own_go st26 ?_
  show own_Fin _ _ _ _ T26 (mkF m 130 #[.val (.long x0), .second, .val (.int x1), .val (.int x2), .val (.ref b1), .val (.ref b2), .unset, .unset, .unset] []) _ _ _
  refine own_go (fun _ => XS.aload X26.here hx rfl (hb hby at_130) rfl rfl) ?_
  show own_Fin _ _ _ _ T26 (mkF m 132 #[.val (.long x0), .second, .val (.int x1), .val (.int x2), .val (.ref b1), .val (.ref b2), .unset, .unset, .unset] [(.ref b1)]) _ _ _
  refine own_go (fun _ => XS.bipush X26.here hx rfl (hb hby at_132)) ?_
  show own_Fin _ _ _ _ T26 (mkF m 134 #[.val (.long x0), .second, .val (.int x1), .val (.int x2), .val (.ref b1), .val (.ref b2), .unset, .unset, .unset] [(.int (6 : Int32)), (.ref b1)]) _ _ _
  refine own_go (fun _ => XS.lloadN X26.here hx rfl (hb hby at_134) rfl) ?_
  show own_Fin _ _ _ _ T26 (mkF m 135 #[.val (.long x0), .second, .val (.int x1), .val (.int x2), .val (.ref b1), .val (.ref b2), .unset, .unset, .unset] [(.long x0), (.int (6 : Int32)), (.ref b1)]) _ _ _
  refine own_go (fun _ => XS.bipush X26.here hx rfl (hb hby at_135)) ?_
  show own_Fin _ _ _ _ T26 (mkF m 137 #[.val (.long x0), .second, .val (.int x1), .val (.int x2), .val (.ref b1), .val (.ref b2), .unset, .unset, .unset] [(.int (48 : Int32)), (.long x0), (.int (6 : Int32)), (.ref b1)]) _ _ _
  obtain ⟨_, _, ⟨T27, L27, k27, n27⟩, -, X27, ⟨Lc27, hQ27, l27, y27, z27⟩, st27⟩ := Jvm.LawKit.callS X26 hx (y := (⟨"com/example/hosts_to_firehose/hoststofirehose/io/WebSocketProtocolApplyMaskPinLaw", "b", "(JI)B"⟩ : MethodName)) hown (mvT hZ (hw _ (List.mem_of_getElem? (i := 1) rfl))) (mvT hZ (hw _ (List.mem_of_getElem? (i := 2) rfl))) (mvT hZ (hw _ (List.mem_of_getElem? (i := 3) rfl))) (mvT hZ (hw _ (List.mem_of_getElem? (i := 4) rfl))) (by decide) (backOf (W := 2) (rm1 l Z a0 hw [] x0 (48 : Int32)  h26 n0 Z26 ) hZ (hw _ (List.mem_of_getElem? (i := 4) rfl)) (hw _ (List.mem_of_getElem? (i := 3) rfl)) (by decide) (by decide)) (g := (mkF m 137 #[.val (.long x0), .second, .val (.int x1), .val (.int x2), .val (.ref b1), .val (.ref b2), .unset, .unset, .unset] [(.int (48 : Int32)), (.long x0), (.int (6 : Int32)), (.ref b1)])) rfl (by rw [hml]; rfl) (argsL := [(.long x0), (.int (48 : Int32))]) (rest := [(.int (6 : Int32)), (.ref b1)]) (lenOf pd_0 rfl) rfl (by show 2 * 0 + _ ≤ _; exact Nat.le_of_eq rfl) (hb hby at_137) (fun _ _ => ⟨rfl, e26, (by decide : 2 + 0 ≤ _), (by decide : 16 + 0 ≤ _)⟩)
  dsimp only [Pt.U, Pt.locs, Pt.cells, Pt.slots] at X27 l27 y27 z27 st27 hQ27
  subst y27 z27
  obtain ⟨rfl, N27q, e27⟩ := hQ27
  have N27 : Fr n0 L27 := l27.symm ▸ Fr.app N26 N27q
  replace X27 : Stand p l e room_1 s m #[(.long x0), (.int x1), (.int x2)] below meth c T27 _ 2 16 := X27
  refine own_go st27 ?_
  show own_Fin _ _ _ _ T27 (mkF m 140 #[.val (.long x0), .second, .val (.int x1), .val (.int x2), .val (.ref b1), .val (.ref b2), .unset, .unset, .unset] [(.int (own_b x0 (48 : Int32))), (.int (6 : Int32)), (.ref b1)]) _ _ _
  obtain ⟨T28, h28, X28, e28, W28, V28, st28⟩ := own_bst X27 hx hZ e27 V26_b1 (j := (6 : Int32)) 6 (by decide) rfl (by decide) (g := (mkF m 140 #[.val (.long x0), .second, .val (.int x1), .val (.int x2), .val (.ref b1), .val (.ref b2), .unset, .unset, .unset] [(.int (own_b x0 (48 : Int32))), (.int (6 : Int32)), (.ref b1)])) rfl rfl (hb hby at_140)
  obtain ⟨f28, hf28⟩ : ∃ f, f = own_up f24 6 (nar .byte (own_b x0 (48 : Int32))) := ⟨_, rfl⟩
  rw [← hf28] at V28
  have V28_b2 := (V26).other W28 (Ne.symm ne_b1_b2)
  have K28 : Keep h0 h28 [] := (K26).wr W28 (Or.inr sz_b1)
  have N28 := Fr.snoc X28 N27 g_b1
  have Z28 : n0 ≤ h28.size := Nat.le_trans Z26 (Keep.of_wr W28).1
  refine own_go st28 ?_
  show own_Fin _ _ _ _ T28 (mkF m 141 #[.val (.long x0), .second, .val (.int x1), .val (.int x2), .val (.ref b1), .val (.ref b2), .unset, .unset, .unset] []) _ _ _
  refine own_go (fun _ => XS.aload X28.here hx rfl (hb hby at_141) rfl rfl) ?_
  show own_Fin _ _ _ _ T28 (mkF m 143 #[.val (.long x0), .second, .val (.int x1), .val (.int x2), .val (.ref b1), .val (.ref b2), .unset, .unset, .unset] [(.ref b2)]) _ _ _
  refine own_go (fun _ => XS.bipush X28.here hx rfl (hb hby at_143)) ?_
  show own_Fin _ _ _ _ T28 (mkF m 145 #[.val (.long x0), .second, .val (.int x1), .val (.int x2), .val (.ref b1), .val (.ref b2), .unset, .unset, .unset] [(.int (6 : Int32)), (.ref b2)]) _ _ _
  refine own_go (fun _ => XS.lloadN X28.here hx rfl (hb hby at_145) rfl) ?_
  show own_Fin _ _ _ _ T28 (mkF m 146 #[.val (.long x0), .second, .val (.int x1), .val (.int x2), .val (.ref b1), .val (.ref b2), .unset, .unset, .unset] [(.long x0), (.int (6 : Int32)), (.ref b2)]) _ _ _
  refine own_go (fun _ => XS.bipush X28.here hx rfl (hb hby at_146)) ?_
  show own_Fin _ _ _ _ T28 (mkF m 148 #[.val (.long x0), .second, .val (.int x1), .val (.int x2), .val (.ref b1), .val (.ref b2), .unset, .unset, .unset] [(.int (48 : Int32)), (.long x0), (.int (6 : Int32)), (.ref b2)]) _ _ _
  obtain ⟨_, _, ⟨T29, L29, k29, n29⟩, -, X29, ⟨Lc29, hQ29, l29, y29, z29⟩, st29⟩ := Jvm.LawKit.callS X28 hx (y := (⟨"com/example/hosts_to_firehose/hoststofirehose/io/WebSocketProtocolApplyMaskPinLaw", "b", "(JI)B"⟩ : MethodName)) hown (mvT hZ (hw _ (List.mem_of_getElem? (i := 1) rfl))) (mvT hZ (hw _ (List.mem_of_getElem? (i := 2) rfl))) (mvT hZ (hw _ (List.mem_of_getElem? (i := 3) rfl))) (mvT hZ (hw _ (List.mem_of_getElem? (i := 4) rfl))) (by decide) (backOf (W := 2) (rm1 l Z a0 hw [] x0 (48 : Int32)  h28 n0 Z28 ) hZ (hw _ (List.mem_of_getElem? (i := 4) rfl)) (hw _ (List.mem_of_getElem? (i := 3) rfl)) (by decide) (by decide)) (g := (mkF m 148 #[.val (.long x0), .second, .val (.int x1), .val (.int x2), .val (.ref b1), .val (.ref b2), .unset, .unset, .unset] [(.int (48 : Int32)), (.long x0), (.int (6 : Int32)), (.ref b2)])) rfl (by rw [hml]; rfl) (argsL := [(.long x0), (.int (48 : Int32))]) (rest := [(.int (6 : Int32)), (.ref b2)]) (lenOf pd_0 rfl) rfl (by show 2 * 0 + _ ≤ _; exact Nat.le_of_eq rfl) (hb hby at_148) (fun _ _ => ⟨rfl, e28, (by decide : 2 + 0 ≤ _), (by decide : 16 + 0 ≤ _)⟩)
  dsimp only [Pt.U, Pt.locs, Pt.cells, Pt.slots] at X29 l29 y29 z29 st29 hQ29
  subst y29 z29
  obtain ⟨rfl, N29q, e29⟩ := hQ29
  have N29 : Fr n0 L29 := l29.symm ▸ Fr.app N28 N29q
  replace X29 : Stand p l e room_1 s m #[(.long x0), (.int x1), (.int x2)] below meth c T29 _ 2 16 := X29
  refine own_go st29 ?_
  show own_Fin _ _ _ _ T29 (mkF m 151 #[.val (.long x0), .second, .val (.int x1), .val (.int x2), .val (.ref b1), .val (.ref b2), .unset, .unset, .unset] [(.int (own_b x0 (48 : Int32))), (.int (6 : Int32)), (.ref b2)]) _ _ _
  obtain ⟨T30, h30, X30, e30, W30, V30, st30⟩ := own_bst X29 hx hZ e29 V28_b2 (j := (6 : Int32)) 6 (by decide) rfl (by decide) (g := (mkF m 151 #[.val (.long x0), .second, .val (.int x1), .val (.int x2), .val (.ref b1), .val (.ref b2), .unset, .unset, .unset] [(.int (own_b x0 (48 : Int32))), (.int (6 : Int32)), (.ref b2)])) rfl rfl (hb hby at_151)
  obtain ⟨f30, hf30⟩ : ∃ f, f = own_up f26 6 (nar .byte (own_b x0 (48 : Int32))) := ⟨_, rfl⟩
  rw [← hf30] at V30
  have V30_b1 := (V28).other W30 ne_b1_b2
  have K30 : Keep h0 h30 [] := (K28).wr W30 (Or.inr sz_b2)
  have N30 := Fr.snoc X30 N29 g_b2
  have Z30 : n0 ≤ h30.size := Nat.le_trans Z28 (Keep.of_wr W30).1
  refine own_go st30 ?_
  show own_Fin _ _ _ _ T30 (mkF m 152 #[.val (.long x0), .second, .val (.int x1), .val (.int x2), .val (.ref b1), .val (.ref b2), .unset, .unset, .unset] []) _ _ _
  refine own_go (fun _ => XS.aload X30.here hx rfl (hb hby at_152) rfl rfl) ?_
  show own_Fin _ _ _ _ T30 (mkF m 154 #[.val (.long x0), .second, .val (.int x1), .val (.int x2), .val (.ref b1), .val (.ref b2), .unset, .unset, .unset] [(.ref b1)]) _ _ _
  refine own_go (fun _ => XS.bipush X30.here hx rfl (hb hby at_154)) ?_
  show own_Fin _ _ _ _ T30 (mkF m 156 #[.val (.long x0), .second, .val (.int x1), .val (.int x2), .val (.ref b1), .val (.ref b2), .unset, .unset, .unset] [(.int (7 : Int32)), (.ref b1)]) _ _ _
  refine own_go (fun _ => XS.lloadN X30.here hx rfl (hb hby at_156) rfl) ?_
  show own_Fin _ _ _ _ T30 (mkF m 157 #[.val (.long x0), .second, .val (.int x1), .val (.int x2), .val (.ref b1), .val (.ref b2), .unset, .unset, .unset] [(.long x0), (.int (7 : Int32)), (.ref b1)]) _ _ _
  refine own_go (fun _ => XS.bipush X30.here hx rfl (hb hby at_157)) ?_
  show own_Fin _ _ _ _ T30 (mkF m 159 #[.val (.long x0), .second, .val (.int x1), .val (.int x2), .val (.ref b1), .val (.ref b2), .unset, .unset, .unset] [(.int (56 : Int32)), (.long x0), (.int (7 : Int32)), (.ref b1)]) _ _ _
  obtain ⟨_, _, ⟨T31, L31, k31, n31⟩, -, X31, ⟨Lc31, hQ31, l31, y31, z31⟩, st31⟩ := Jvm.LawKit.callS X30 hx (y := (⟨"com/example/hosts_to_firehose/hoststofirehose/io/WebSocketProtocolApplyMaskPinLaw", "b", "(JI)B"⟩ : MethodName)) hown (mvT hZ (hw _ (List.mem_of_getElem? (i := 1) rfl))) (mvT hZ (hw _ (List.mem_of_getElem? (i := 2) rfl))) (mvT hZ (hw _ (List.mem_of_getElem? (i := 3) rfl))) (mvT hZ (hw _ (List.mem_of_getElem? (i := 4) rfl))) (by decide) (backOf (W := 2) (rm1 l Z a0 hw [] x0 (56 : Int32)  h30 n0 Z30 ) hZ (hw _ (List.mem_of_getElem? (i := 4) rfl)) (hw _ (List.mem_of_getElem? (i := 3) rfl)) (by decide) (by decide)) (g := (mkF m 159 #[.val (.long x0), .second, .val (.int x1), .val (.int x2), .val (.ref b1), .val (.ref b2), .unset, .unset, .unset] [(.int (56 : Int32)), (.long x0), (.int (7 : Int32)), (.ref b1)])) rfl (by rw [hml]; rfl) (argsL := [(.long x0), (.int (56 : Int32))]) (rest := [(.int (7 : Int32)), (.ref b1)]) (lenOf pd_0 rfl) rfl (by show 2 * 0 + _ ≤ _; exact Nat.le_of_eq rfl) (hb hby at_159) (fun _ _ => ⟨rfl, e30, (by decide : 2 + 0 ≤ _), (by decide : 16 + 0 ≤ _)⟩)
  dsimp only [Pt.U, Pt.locs, Pt.cells, Pt.slots] at X31 l31 y31 z31 st31 hQ31
  subst y31 z31
  obtain ⟨rfl, N31q, e31⟩ := hQ31
  have N31 : Fr n0 L31 := l31.symm ▸ Fr.app N30 N31q
  replace X31 : Stand p l e room_1 s m #[(.long x0), (.int x1), (.int x2)] below meth c T31 _ 2 16 := X31
  refine own_go st31 ?_
  show own_Fin _ _ _ _ T31 (mkF m 162 #[.val (.long x0), .second, .val (.int x1), .val (.int x2), .val (.ref b1), .val (.ref b2), .unset, .unset, .unset] [(.int (own_b x0 (56 : Int32))), (.int (7 : Int32)), (.ref b1)]) _ _ _
  obtain ⟨T32, h32, X32, e32, W32, V32, st32⟩ := own_bst X31 hx hZ e31 V30_b1 (j := (7 : Int32)) 7 (by decide) rfl (by decide) (g := (mkF m 162 #[.val (.long x0), .second, .val (.int x1), .val (.int x2), .val (.ref b1), .val (.ref b2), .unset, .unset, .unset] [(.int (own_b x0 (56 : Int32))), (.int (7 : Int32)), (.ref b1)])) rfl rfl (hb hby at_162)
  obtain ⟨f32, hf32⟩ : ∃ f, f = own_up f28 7 (nar .byte (own_b x0 (56 : Int32))) := ⟨_, rfl⟩
  rw [← hf32] at V32
  have V32_b2 := (V30).other W32 (Ne.symm ne_b1_b2)
  have K32 : Keep h0 h32 [] := (K30).wr W32 (Or.inr sz_b1)
  have N32 := Fr.snoc X32 N31 g_b1
  have Z32 : n0 ≤ h32.size := Nat.le_trans Z30 (Keep.of_wr W32).1
  refine own_go st32 ?_
  show own_Fin _ _ _ _ T32 (mkF m 163 #[.val (.long x0), .second, .val (.int x1), .val (.int x2), .val (.ref b1), .val (.ref b2), .unset, .unset, .unset] []) _ _ _
  refine own_go (fun _ => XS.aload X32.here hx rfl (hb hby at_163) rfl rfl) ?_
  show own_Fin _ _ _ _ T32 (mkF m 165 #[.val (.long x0), .second, .val (.int x1), .val (.int x2), .val (.ref b1), .val (.ref b2), .unset, .unset, .unset] [(.ref b2)]) _ _ _
  refine own_go (fun _ => XS.bipush X32.here hx rfl (hb hby at_165)) ?_
  show own_Fin _ _ _ _ T32 (mkF m 167 #[.val (.long x0), .second, .val (.int x1), .val (.int x2), .val (.ref b1), .val (.ref b2), .unset, .unset, .unset] [(.int (7 : Int32)), (.ref b2)]) _ _ _
  refine own_go (fun _ => XS.lloadN X32.here hx rfl (hb hby at_167) rfl) ?_
  show own_Fin _ _ _ _ T32 (mkF m 168 #[.val (.long x0), .second, .val (.int x1), .val (.int x2), .val (.ref b1), .val (.ref b2), .unset, .unset, .unset] [(.long x0), (.int (7 : Int32)), (.ref b2)]) _ _ _
  refine own_go (fun _ => XS.bipush X32.here hx rfl (hb hby at_168)) ?_
  show own_Fin _ _ _ _ T32 (mkF m 170 #[.val (.long x0), .second, .val (.int x1), .val (.int x2), .val (.ref b1), .val (.ref b2), .unset, .unset, .unset] [(.int (56 : Int32)), (.long x0), (.int (7 : Int32)), (.ref b2)]) _ _ _
  obtain ⟨_, _, ⟨T33, L33, k33, n33⟩, -, X33, ⟨Lc33, hQ33, l33, y33, z33⟩, st33⟩ := Jvm.LawKit.callS X32 hx (y := (⟨"com/example/hosts_to_firehose/hoststofirehose/io/WebSocketProtocolApplyMaskPinLaw", "b", "(JI)B"⟩ : MethodName)) hown (mvT hZ (hw _ (List.mem_of_getElem? (i := 1) rfl))) (mvT hZ (hw _ (List.mem_of_getElem? (i := 2) rfl))) (mvT hZ (hw _ (List.mem_of_getElem? (i := 3) rfl))) (mvT hZ (hw _ (List.mem_of_getElem? (i := 4) rfl))) (by decide) (backOf (W := 2) (rm1 l Z a0 hw [] x0 (56 : Int32)  h32 n0 Z32 ) hZ (hw _ (List.mem_of_getElem? (i := 4) rfl)) (hw _ (List.mem_of_getElem? (i := 3) rfl)) (by decide) (by decide)) (g := (mkF m 170 #[.val (.long x0), .second, .val (.int x1), .val (.int x2), .val (.ref b1), .val (.ref b2), .unset, .unset, .unset] [(.int (56 : Int32)), (.long x0), (.int (7 : Int32)), (.ref b2)])) rfl (by rw [hml]; rfl) (argsL := [(.long x0), (.int (56 : Int32))]) (rest := [(.int (7 : Int32)), (.ref b2)]) (lenOf pd_0 rfl) rfl (by show 2 * 0 + _ ≤ _; exact Nat.le_of_eq rfl) (hb hby at_170) (fun _ _ => ⟨rfl, e32, (by decide : 2 + 0 ≤ _), (by decide : 16 + 0 ≤ _)⟩)
  dsimp only [Pt.U, Pt.locs, Pt.cells, Pt.slots] at X33 l33 y33 z33 st33 hQ33
  subst y33 z33
  obtain ⟨rfl, N33q, e33⟩ := hQ33
  have N33 : Fr n0 L33 := l33.symm ▸ Fr.app N32 N33q
  replace X33 : Stand p l e room_1 s m #[(.long x0), (.int x1), (.int x2)] below meth c T33 _ 2 16 := X33
  refine own_go st33 ?_
  show own_Fin _ _ _ _ T33 (mkF m 173 #[.val (.long x0), .second, .val (.int x1), .val (.int x2), .val (.ref b1), .val (.ref b2), .unset, .unset, .unset] [(.int (own_b x0 (56 : Int32))), (.int (7 : Int32)), (.ref b2)]) _ _ _
  obtain ⟨T34, h34, X34, e34, W34, V34, st34⟩ := own_bst X33 hx hZ e33 V32_b2 (j := (7 : Int32)) 7 (by decide) rfl (by decide) (g := (mkF m 173 #[.val (.long x0), .second, .val (.int x1), .val (.int x2), .val (.ref b1), .val (.ref b2), .unset, .unset, .unset] [(.int (own_b x0 (56 : Int32))), (.int (7 : Int32)), (.ref b2)])) rfl rfl (hb hby at_173)
  obtain ⟨f34, hf34⟩ : ∃ f, f = own_up f30 7 (nar .byte (own_b x0 (56 : Int32))) := ⟨_, rfl⟩
  rw [← hf34] at V34
  have V34_b1 := (V32).other W34 ne_b1_b2
  have K34 : Keep h0 h34 [] := (K32).wr W34 (Or.inr sz_b2)
  have N34 := Fr.snoc X34 N33 g_b2
  have Z34 : n0 ≤ h34.size := Nat.le_trans Z32 (Keep.of_wr W34).1
  refine own_go st34 ?_
  show own_Fin _ _ _ _ T34 (mkF m 174 #[.val (.long x0), .second, .val (.int x1), .val (.int x2), .val (.ref b1), .val (.ref b2), .unset, .unset, .unset] []) _ _ _
  refine own_go (fun _ => XS.iconst X34.here hx rfl (hb hby at_174)) ?_
  show own_Fin _ _ _ _ T34 (mkF m 175 #[.val (.long x0), .second, .val (.int x1), .val (.int x2), .val (.ref b1), .val (.ref b2), .unset, .unset, .unset] [(.int (4 : Int32))]) _ _ _
  obtain ⟨T35, h35, k35, X35, e35, E35, A35, st35⟩ := newP X34 hx hZ (hw _ (List.mem_of_getElem? (i := 0) rfl)) e34 (g := (mkF m 175 #[.val (.long x0), .second, .val (.int x1), .val (.int x2), .val (.ref b1), .val (.ref b2), .unset, .unset, .unset] [(.int (4 : Int32))])) rfl (hb hby at_175) rfl (by decide) (cap := 4) (by decide) (by decide) (by decide) (by decide)
  obtain ⟨b35, g35⟩ : ∃ z, z = h34.size := ⟨_, rfl⟩
  rw [← g35] at A35 st35
  have g_b35 : n0 ≤ b35 := Nat.le_trans Z34 (Nat.le_of_eq g35.symm)
  have Z35 : n0 ≤ h35.size := Nat.le_trans Z34 E35.1
  replace X35 : Stand p l e room_1 s m #[(.long x0), (.int x1), (.int x2)] below meth c T35 _ 3 20 := X35
  have ne_b1_b35 : b1 ≠ b35 := Nat.ne_of_lt (Nat.lt_of_lt_of_le (V34_b1).lt (Nat.le_of_eq g35.symm))
  have ne_b2_b35 : b2 ≠ b35 := Nat.ne_of_lt (Nat.lt_of_lt_of_le (V34).lt (Nat.le_of_eq g35.symm))
  have sz_b35 : h0.size ≤ b35 := Nat.le_trans (K34).1 (Nat.le_of_eq g35.symm)
  have K35 : Keep h0 h35 [] := (K34).ext E35
  have V35_b1 := (V34_b1).ext E35
  have V35_b2 := (V34).ext E35
  have V_b35 : own_Ba Z h35 b35 4 (fun _ => 0) := own_Ba.new A35 (by decide)
  refine own_go st35 ?_
  show own_Fin _ _ _ _ T35 (mkF m 177 #[.val (.long x0), .second, .val (.int x1), .val (.int x2), .val (.ref b1), .val (.ref b2), .unset, .unset, .unset] [(.ref b35)]) _ _ _
  refine own_go (fun _ => XS.astore X35.here hx rfl (hb hby at_177) rfl rfl (l' := #[.val (.long x0), .second, .val (.int x1), .val (.int x2), .val (.ref b1), .val (.ref b2), .val (.ref b35), .unset, .unset]) rfl) ?_
  show own_Fin _ _ _ _ T35 (mkF m 179 #[.val (.long x0), .second, .val (.int x1), .val (.int x2), .val (.ref b1), .val (.ref b2), .val (.ref b35), .unset, .unset] []) _ _ _
  refine own_go (fun _ => XS.aload X35.here hx rfl (hb hby at_179) rfl rfl) ?_
  show own_Fin _ _ _ _ T35 (mkF m 181 #[.val (.long x0), .second, .val (.int x1), .val (.int x2), .val (.ref b1), .val (.ref b2), .val (.ref b35), .unset, .unset] [(.ref b35)]) _ _ _
  refine own_go (fun _ => XS.iconst X35.here hx rfl (hb hby at_181)) ?_
  show own_Fin _ _ _ _ T35 (mkF m 182 #[.val (.long x0), .second, .val (.int x1), .val (.int x2), .val (.ref b1), .val (.ref b2), .val (.ref b35), .unset, .unset] [(.int (0 : Int32)), (.ref b35)]) _ _ _
  refine own_go (fun _ => XS.iloadN X35.here hx rfl (hb hby at_182) rfl) ?_
  show own_Fin _ _ _ _ T35 (mkF m 183 #[.val (.long x0), .second, .val (.int x1), .val (.int x2), .val (.ref b1), .val (.ref b2), .val (.ref b35), .unset, .unset] [(.int x1), (.int (0 : Int32)), (.ref b35)]) _ _ _
  refine own_go (fun _ => XS.i2b X35.here hx rfl (hb hby at_183) rfl) ?_
  show own_Fin _ _ _ _ T35 (mkF m 184 #[.val (.long x0), .second, .val (.int x1), .val (.int x2), .val (.ref b1), .val (.ref b2), .val (.ref b35), .unset, .unset] [(.int (x1.toInt8.toInt32)), (.int (0 : Int32)), (.ref b35)]) _ _ _
  obtain ⟨T36, h36, X36, e36, W36, V36, st36⟩ := own_bst X35 hx hZ e35 V_b35 (j := (0 : Int32)) 0 (by decide) rfl (by decide) (g := (mkF m 184 #[.val (.long x0), .second, .val (.int x1), .val (.int x2), .val (.ref b1), .val (.ref b2), .val (.ref b35), .unset, .unset] [(.int (x1.toInt8.toInt32)), (.int (0 : Int32)), (.ref b35)])) rfl rfl (hb hby at_184)
  obtain ⟨f36, hf36⟩ : ∃ f, f = own_up (fun _ => 0) 0 (nar .byte (x1.toInt8.toInt32)) := ⟨_, rfl⟩
  rw [← hf36] at V36
  have V36_b1 := (V35_b1).other W36 ne_b1_b35
  have V36_b2 := (V35_b2).other W36 ne_b2_b35
  have K36 : Keep h0 h36 [] := (K35).wr W36 (Or.inr sz_b35)
  have N36 := Fr.snoc X36 N34 g_b35
  have Z36 : n0 ≤ h36.size := Nat.le_trans Z35 (Keep.of_wr W36).1
  refine own_go st36 ?_
  show own_Fin _ _ _ _ T36 (mkF m 185 #[.val (.long x0), .second, .val (.int x1), .val (.int x2), .val (.ref b1), .val (.ref b2), .val (.ref b35), .unset, .unset] []) _ _ _
  refine own_go (fun _ => XS.aload X36.here hx rfl (hb hby at_185) rfl rfl) ?_
  show own_Fin _ _ _ _ T36 (mkF m 187 #[.val (.long x0), .second, .val (.int x1), .val (.int x2), .val (.ref b1), .val (.ref b2), .val (.ref b35), .unset, .unset] [(.ref b35)]) _ _ _
  refine own_go (fun _ => XS.iconst X36.here hx rfl (hb hby at_187)) ?_
  show own_Fin _ _ _ _ T36 (mkF m 188 #[.val (.long x0), .second, .val (.int x1), .val (.int x2), .val (.ref b1), .val (.ref b2), .val (.ref b35), .unset, .unset] [(.int (1 : Int32)), (.ref b35)]) _ _ _
  refine own_go (fun _ => XS.iloadN X36.here hx rfl (hb hby at_188) rfl) ?_
  show own_Fin _ _ _ _ T36 (mkF m 189 #[.val (.long x0), .second, .val (.int x1), .val (.int x2), .val (.ref b1), .val (.ref b2), .val (.ref b35), .unset, .unset] [(.int x1), (.int (1 : Int32)), (.ref b35)]) _ _ _
  refine own_go (fun _ => XS.bipush X36.here hx rfl (hb hby at_189)) ?_
  show own_Fin _ _ _ _ T36 (mkF m 191 #[.val (.long x0), .second, .val (.int x1), .val (.int x2), .val (.ref b1), .val (.ref b2), .val (.ref b35), .unset, .unset] [(.int (8 : Int32)), (.int x1), (.int (1 : Int32)), (.ref b35)]) _ _ _
  refine own_go (fun _ => XS.iushr X36.here hx rfl (hb hby at_191) rfl) ?_
  show own_Fin _ _ _ _ T36 (mkF m 192 #[.val (.long x0), .second, .val (.int x1), .val (.int x2), .val (.ref b1), .val (.ref b2), .val (.ref b35), .unset, .unset] [(.int ((x1.toUInt32 >>> ((8 : Int32) &&& 31).toUInt32).toInt32)), (.int (1 : Int32)), (.ref b35)]) _ _ _
  refine own_go (fun _ => XS.i2b X36.here hx rfl (hb hby at_192) rfl) ?_
  show own_Fin _ _ _ _ T36 (mkF m 193 #[.val (.long x0), .second, .val (.int x1), .val (.int x2), .val (.ref b1), .val (.ref b2), .val (.ref b35), .unset, .unset] [(.int (((x1.toUInt32 >>> ((8 : Int32) &&& 31).toUInt32).toInt32).toInt8.toInt32)), (.int (1 : Int32)), (.ref b35)]) _ _ _
  obtain ⟨T37, h37, X37, e37, W37, V37, st37⟩ := own_bst X36 hx hZ e36 V36 (j := (1 : Int32)) 1 (by decide) rfl (by decide) (g := (mkF m 193 #[.val (.long x0), .second, .val (.int x1), .val (.int x2), .val (.ref b1), .val (.ref b2), .val (.ref b35), .unset, .unset] [(.int (((x1.toUInt32 >>> ((8 : Int32) &&& 31).toUInt32).toInt32).toInt8.toInt32)), (.int (1 : Int32)), (.ref b35)])) rfl rfl (hb hby at_193)
  obtain ⟨f37, hf37⟩ : ∃ f, f = own_up f36 1 (nar .byte (((x1.toUInt32 >>> ((8 : Int32) &&& 31).toUInt32).toInt32).toInt8.toInt32)) := ⟨_, rfl⟩
  rw [← hf37] at V37
  have V37_b1 := (V36_b1).other W37 ne_b1_b35
  have V37_b2 := (V36_b2).other W37 ne_b2_b35
  have K37 : Keep h0 h37 [] := (K36).wr W37 (Or.inr sz_b35)
  have N37 := Fr.snoc X37 N36 g_b35
  have Z37 : n0 ≤ h37.size := Nat.le_trans Z36 (Keep.of_wr W37).1
  refine own_go st37 ?_
  show own_Fin _ _ _ _ T37 (mkF m 194 #[.val (.long x0), .second, .val (.int x1), .val (.int x2), .val (.ref b1), .val (.ref b2), .val (.ref b35), .unset, .unset] []) _ _ _
  refine own_go (fun _ => XS.aload X37.here hx rfl (hb hby at_194) rfl rfl) ?_
  show own_Fin _ _ _ _ T37 (mkF m 196 #[.val (.long x0), .second, .val (.int x1), .val (.int x2), .val (.ref b1), .val (.ref b2), .val (.ref b35), .unset, .unset] [(.ref b35)]) _ _ _
  refine own_go (fun _ => XS.iconst X37.here hx rfl (hb hby at_196)) ?_
  show own_Fin _ _ _ _ T37 (mkF m 197 #[.val (.long x0), .second, .val (.int x1), .val (.int x2), .val (.ref b1), .val (.ref b2), .val (.ref b35), .unset, .unset] [(.int (2 : Int32)), (.ref b35)]) _ _ _
  refine own_go (fun _ => XS.iloadN X37.here hx rfl (hb hby at_197) rfl) ?_
  show own_Fin _ _ _ _ T37 (mkF m 198 #[.val (.long x0), .second, .val (.int x1), .val (.int x2), .val (.ref b1), .val (.ref b2), .val (.ref b35), .unset, .unset] [(.int x1), (.int (2 : Int32)), (.ref b35)]) _ _ _
  refine own_go (fun _ => XS.bipush X37.here hx rfl (hb hby at_198)) ?_
  show own_Fin _ _ _ _ T37 (mkF m 200 #[.val (.long x0), .second, .val (.int x1), .val (.int x2), .val (.ref b1), .val (.ref b2), .val (.ref b35), .unset, .unset] [(.int (16 : Int32)), (.int x1), (.int (2 : Int32)), (.ref b35)]) _ _ _
  refine own_go (fun _ => XS.iushr X37.here hx rfl (hb hby at_200) rfl) ?_
  show own_Fin _ _ _ _ T37 (mkF m 201 #[.val (.long x0), .second, .val (.int x1), .val (.int x2), .val (.ref b1), .val (.ref b2), .val (.ref b35), .unset, .unset] [(.int ((x1.toUInt32 >>> ((16 : Int32) &&& 31).toUInt32).toInt32)), (.int (2 : Int32)), (.ref b35)]) _ _ _
  refine own_go (fun _ => XS.i2b X37.here hx rfl (hb hby at_201) rfl) ?_
  show own_Fin _ _ _ _ T37 (mkF m 202 #[.val (.long x0), .second, .val (.int x1), .val (.int x2), .val (.ref b1), .val (.ref b2), .val (.ref b35), .unset, .unset] [(.int (((x1.toUInt32 >>> ((16 : Int32) &&& 31).toUInt32).toInt32).toInt8.toInt32)), (.int (2 : Int32)), (.ref b35)]) _ _ _
  obtain ⟨T38, h38, X38, e38, W38, V38, st38⟩ := own_bst X37 hx hZ e37 V37 (j := (2 : Int32)) 2 (by decide) rfl (by decide) (g := (mkF m 202 #[.val (.long x0), .second, .val (.int x1), .val (.int x2), .val (.ref b1), .val (.ref b2), .val (.ref b35), .unset, .unset] [(.int (((x1.toUInt32 >>> ((16 : Int32) &&& 31).toUInt32).toInt32).toInt8.toInt32)), (.int (2 : Int32)), (.ref b35)])) rfl rfl (hb hby at_202)
  obtain ⟨f38, hf38⟩ : ∃ f, f = own_up f37 2 (nar .byte (((x1.toUInt32 >>> ((16 : Int32) &&& 31).toUInt32).toInt32).toInt8.toInt32)) := ⟨_, rfl⟩
  rw [← hf38] at V38
  have V38_b1 := (V37_b1).other W38 ne_b1_b35
  have V38_b2 := (V37_b2).other W38 ne_b2_b35
  have K38 : Keep h0 h38 [] := (K37).wr W38 (Or.inr sz_b35)
  have N38 := Fr.snoc X38 N37 g_b35
  have Z38 : n0 ≤ h38.size := Nat.le_trans Z37 (Keep.of_wr W38).1
  refine own_go st38 ?_
  show own_Fin _ _ _ _ T38 (mkF m 203 #[.val (.long x0), .second, .val (.int x1), .val (.int x2), .val (.ref b1), .val (.ref b2), .val (.ref b35), .unset, .unset] []) _ _ _
  refine own_go (fun _ => XS.aload X38.here hx rfl (hb hby at_203) rfl rfl) ?_
  show own_Fin _ _ _ _ T38 (mkF m 205 #[.val (.long x0), .second, .val (.int x1), .val (.int x2), .val (.ref b1), .val (.ref b2), .val (.ref b35), .unset, .unset] [(.ref b35)]) _ _ _
  refine own_go (fun _ => XS.iconst X38.here hx rfl (hb hby at_205)) ?_
  show own_Fin _ _ _ _ T38 (mkF m 206 #[.val (.long x0), .second, .val (.int x1), .val (.int x2), .val (.ref b1), .val (.ref b2), .val (.ref b35), .unset, .unset] [(.int (3 : Int32)), (.ref b35)]) _ _ _
  refine own_go (fun _ => XS.iloadN X38.here hx rfl (hb hby at_206) rfl) ?_
  show own_Fin _ _ _ _ T38 (mkF m 207 #[.val (.long x0), .second, .val (.int x1), .val (.int x2), .val (.ref b1), .val (.ref b2), .val (.ref b35), .unset, .unset] [(.int x1), (.int (3 : Int32)), (.ref b35)]) _ _ _
  refine own_go (fun _ => XS.bipush X38.here hx rfl (hb hby at_207)) ?_
  show own_Fin _ _ _ _ T38 (mkF m 209 #[.val (.long x0), .second, .val (.int x1), .val (.int x2), .val (.ref b1), .val (.ref b2), .val (.ref b35), .unset, .unset] [(.int (24 : Int32)), (.int x1), (.int (3 : Int32)), (.ref b35)]) _ _ _
  refine own_go (fun _ => XS.iushr X38.here hx rfl (hb hby at_209) rfl) ?_
  show own_Fin _ _ _ _ T38 (mkF m 210 #[.val (.long x0), .second, .val (.int x1), .val (.int x2), .val (.ref b1), .val (.ref b2), .val (.ref b35), .unset, .unset] [(.int ((x1.toUInt32 >>> ((24 : Int32) &&& 31).toUInt32).toInt32)), (.int (3 : Int32)), (.ref b35)]) _ _ _
  refine own_go (fun _ => XS.i2b X38.here hx rfl (hb hby at_210) rfl) ?_
  show own_Fin _ _ _ _ T38 (mkF m 211 #[.val (.long x0), .second, .val (.int x1), .val (.int x2), .val (.ref b1), .val (.ref b2), .val (.ref b35), .unset, .unset] [(.int (((x1.toUInt32 >>> ((24 : Int32) &&& 31).toUInt32).toInt32).toInt8.toInt32)), (.int (3 : Int32)), (.ref b35)]) _ _ _
  obtain ⟨T39, h39, X39, e39, W39, V39, st39⟩ := own_bst X38 hx hZ e38 V38 (j := (3 : Int32)) 3 (by decide) rfl (by decide) (g := (mkF m 211 #[.val (.long x0), .second, .val (.int x1), .val (.int x2), .val (.ref b1), .val (.ref b2), .val (.ref b35), .unset, .unset] [(.int (((x1.toUInt32 >>> ((24 : Int32) &&& 31).toUInt32).toInt32).toInt8.toInt32)), (.int (3 : Int32)), (.ref b35)])) rfl rfl (hb hby at_211)
  obtain ⟨f39, hf39⟩ : ∃ f, f = own_up f38 3 (nar .byte (((x1.toUInt32 >>> ((24 : Int32) &&& 31).toUInt32).toInt32).toInt8.toInt32)) := ⟨_, rfl⟩
  rw [← hf39] at V39
  have V39_b1 := (V38_b1).other W39 ne_b1_b35
  have V39_b2 := (V38_b2).other W39 ne_b2_b35
  have K39 : Keep h0 h39 [] := (K38).wr W39 (Or.inr sz_b35)
  have N39 := Fr.snoc X39 N38 g_b35
  have Z39 : n0 ≤ h39.size := Nat.le_trans Z38 (Keep.of_wr W39).1
  refine own_go st39 ?_
  show own_Fin _ _ _ _ T39 (mkF m 212 #[.val (.long x0), .second, .val (.int x1), .val (.int x2), .val (.ref b1), .val (.ref b2), .val (.ref b35), .unset, .unset] []) _ _ _
  refine own_go (fun _ => XS.iloadN X39.here hx rfl (hb hby at_212) rfl) ?_
  show own_Fin _ _ _ _ T39 (mkF m 213 #[.val (.long x0), .second, .val (.int x1), .val (.int x2), .val (.ref b1), .val (.ref b2), .val (.ref b35), .unset, .unset] [(.int x2)]) _ _ _
  refine own_go (fun _ => X39.ldcI hx hown (mvT hZ (hw _ (List.mem_of_getElem? (i := 5) rfl))) rfl (hb hby at_213)) ?_
  show own_Fin _ _ _ _ T39 (mkF m 215 #[.val (.long x0), .second, .val (.int x1), .val (.int x2), .val (.ref b1), .val (.ref b2), .val (.ref b35), .unset, .unset] [(.int (2147483647 : Int32)), (.int x2)]) _ _ _
  refine own_go (fun _ => XS.iand X39.here hx rfl (hb hby at_215) rfl) ?_
  show own_Fin _ _ _ _ T39 (mkF m 216 #[.val (.long x0), .second, .val (.int x1), .val (.int x2), .val (.ref b1), .val (.ref b2), .val (.ref b35), .unset, .unset] [(.int (x2 &&& (2147483647 : Int32)))]) _ _ _
  refine own_go (fun _ => XS.bipush X39.here hx rfl (hb hby at_216)) ?_
  show own_Fin _ _ _ _ T39 (mkF m 218 #[.val (.long x0), .second, .val (.int x1), .val (.int x2), .val (.ref b1), .val (.ref b2), .val (.ref b35), .unset, .unset] [(.int (9 : Int32)), (.int (x2 &&& (2147483647 : Int32)))]) _ _ _
  refine own_go (fun _ => XS.irem X39.here hx rfl (hb hby at_218) rfl (by decide)) ?_
  show own_Fin _ _ _ _ T39 (mkF m 219 #[.val (.long x0), .second, .val (.int x1), .val (.int x2), .val (.ref b1), .val (.ref b2), .val (.ref b35), .unset, .unset] [(.int ((x2 &&& (2147483647 : Int32)) - ((x2 &&& (2147483647 : Int32)) / (9 : Int32)) * (9 : Int32)))]) _ _ _
  obtain ⟨fn, hle8, hq7⟩ := own_from x2
  obtain ⟨y7, hy7⟩ : ∃ z, z = ((x2 &&& (2147483647 : Int32)) - ((x2 &&& (2147483647 : Int32)) / (9 : Int32)) * (9 : Int32)) := ⟨_, rfl⟩
  have hfn : y7 = Int32.ofNat fn := hy7.trans hq7
  rw [← hy7]
  show own_Fin _ _ _ _ T39 (mkF m 219 #[.val (.long x0), .second, .val (.int x1), .val (.int x2), .val (.ref b1), .val (.ref b2), .val (.ref b35), .unset, .unset] [(.int y7)]) _ _ _
  have hfbo : f32 = f34 := by rw [hf32, hf34, hf28, hf30, hf24, hf26, hf20, hf22, hf16, hf18, hf12, hf14, hf8, hf10, hf4, hf6]
  have VO : own_Ba Z h39 b2 8 f32 := by rw [hfbo]; exact V39_b2
  refine own_go (fun _ => XS.istore X39.here hx rfl (hb hby at_219) rfl (l' := #[.val (.long x0), .second, .val (.int x1), .val (.int x2), .val (.ref b1), .val (.ref b2), .val (.ref b35), .val (.int y7), .unset]) rfl) ?_
  show own_Fin _ _ _ _ T39 (mkF m 221 #[.val (.long x0), .second, .val (.int x1), .val (.int x2), .val (.ref b1), .val (.ref b2), .val (.ref b35), .val (.int y7), .unset] []) _ _ _
  refine own_go (fun _ => XS.aload X39.here hx rfl (hb hby at_221) rfl rfl) ?_
  show own_Fin _ _ _ _ T39 (mkF m 223 #[.val (.long x0), .second, .val (.int x1), .val (.int x2), .val (.ref b1), .val (.ref b2), .val (.ref b35), .val (.int y7), .unset] [(.ref b1)]) _ _ _
  refine own_go (fun _ => XS.iload X39.here hx rfl (hb hby at_223) rfl) ?_
  show own_Fin _ _ _ _ T39 (mkF m 225 #[.val (.long x0), .second, .val (.int x1), .val (.int x2), .val (.ref b1), .val (.ref b2), .val (.ref b35), .val (.int y7), .unset] [(.int y7), (.ref b1)]) _ _ _
  refine own_go (fun _ => XS.aload X39.here hx rfl (hb hby at_225) rfl rfl) ?_
  show own_Fin _ _ _ _ T39 (mkF m 227 #[.val (.long x0), .second, .val (.int x1), .val (.int x2), .val (.ref b1), .val (.ref b2), .val (.ref b35), .val (.int y7), .unset] [(.ref b35), (.int y7), (.ref b1)]) _ _ _
  obtain ⟨_, _, ⟨T40, L40, k40, n40⟩, -, X40, ⟨Lc40, hQ40, l40, y40, z40⟩, st40⟩ := Jvm.LawKit.callS X39 hx (y := (⟨"com/example/hosts_to_firehose/hoststofirehose/io/WebSocketProtocol", "applyMask", "([BI[B)V"⟩ : MethodName)) hown (mvT hZ (hw _ (List.mem_of_getElem? (i := 6) rfl))) (mvT hZ (hw _ (List.mem_of_getElem? (i := 7) rfl))) (mvT hZ (hw _ (List.mem_of_getElem? (i := 8) rfl))) (mvT hZ (hw _ (List.mem_of_getElem? (i := 9) rfl))) (by decide) (backOf (W := 0) (rm2 l Z a0 hw [] b1 y7 b35 f32 f39 fn h39 n0 Z39 V39_b1 V39 (Ne.symm ne_b1_b35) hfn hle8 g_b1) hZ (hw _ (List.mem_of_getElem? (i := 9) rfl)) (hw _ (List.mem_of_getElem? (i := 8) rfl)) (by decide) (by decide)) (g := (mkF m 227 #[.val (.long x0), .second, .val (.int x1), .val (.int x2), .val (.ref b1), .val (.ref b2), .val (.ref b35), .val (.int y7), .unset] [(.ref b35), (.int y7), (.ref b1)])) rfl (by rw [hml]; rfl) (argsL := [(.ref b1), (.int y7), (.ref b35)]) (rest := []) (lenOf pd_1 rfl) rfl (by show 2 * 0 + _ ≤ _; exact Nat.le_of_eq rfl) (hb hby at_227) (fun _ _ => ⟨rfl, e39, (by decide : 3 + 0 ≤ _), (by decide : 20 + 0 ≤ _)⟩)
  dsimp only [Pt.U, Pt.locs, Pt.cells, Pt.slots] at X40 l40 y40 z40 st40 hQ40
  subst y40 z40
  obtain ⟨rfl, N40q, K40q, B40⟩ := hQ40
  have N40 : Fr n0 L40 := l40.symm ▸ Fr.app N39 N40q
  replace X40 : Stand p l e room_1 s m #[(.long x0), (.int x1), (.int x2)] below meth c T40 _ 3 20 := X40
  have V40_b2 := (VO).keep K40q (by simp [(Ne.symm ne_b1_b2)])
  have V40_b35 := (V39).keep K40q (by simp [(Ne.symm ne_b1_b35)])
  have Kc40 : Keep h0 T40.heap [] := (K39).trans K40q (fun x hx => by cases List.mem_singleton.mp hx; exact (Or.inr sz_b1))
  have Zc40 : n0 ≤ T40.heap.size := Nat.le_trans Z39 (K40q).1
  refine own_go st40 ?_
  show own_Fin _ _ _ _ T40 (mkF m 230 #[.val (.long x0), .second, .val (.int x1), .val (.int x2), .val (.ref b1), .val (.ref b2), .val (.ref b35), .val (.int y7), .unset] []) _ _ _
  refine own_go (fun _ => XS.aload X40.here hx rfl (hb hby at_230) rfl rfl) ?_
  show own_Fin _ _ _ _ T40 (mkF m 232 #[.val (.long x0), .second, .val (.int x1), .val (.int x2), .val (.ref b1), .val (.ref b2), .val (.ref b35), .val (.int y7), .unset] [(.ref b35)]) _ _ _
  refine own_go (fun _ => XS.iconst X40.here hx rfl (hb hby at_232)) ?_
  show own_Fin _ _ _ _ T40 (mkF m 233 #[.val (.long x0), .second, .val (.int x1), .val (.int x2), .val (.ref b1), .val (.ref b2), .val (.ref b35), .val (.int y7), .unset] [(.int (0 : Int32)), (.ref b35)]) _ _ _
  refine own_go (own_bld X40 hx hZ rfl V40_b35 (j := (0 : Int32)) 0 (by decide) rfl (by decide) rfl rfl (hb hby at_233)) ?_
  show own_Fin _ _ _ _ T40 (mkF m 234 #[.val (.long x0), .second, .val (.int x1), .val (.int x2), .val (.ref b1), .val (.ref b2), .val (.ref b35), .val (.int y7), .unset] [(.int (f39 0))]) _ _ _
  refine own_go (fun _ => XS.iloadN X40.here hx rfl (hb hby at_234) rfl) ?_
  show own_Fin _ _ _ _ T40 (mkF m 235 #[.val (.long x0), .second, .val (.int x1), .val (.int x2), .val (.ref b1), .val (.ref b2), .val (.ref b35), .val (.int y7), .unset] [(.int x1), (.int (f39 0))]) _ _ _
  refine own_go (fun _ => XS.i2b X40.here hx rfl (hb hby at_235) rfl) ?_
  show own_Fin _ _ _ _ T40 (mkF m 236 #[.val (.long x0), .second, .val (.int x1), .val (.int x2), .val (.ref b1), .val (.ref b2), .val (.ref b35), .val (.int y7), .unset] [(.int (x1.toInt8.toInt32)), (.int (f39 0))]) _ _ _
  refine own_go (fun _ => XS.icmpNo X40.here hx rfl (hb hby at_236) rfl (teq (show (f39 0) = (x1.toInt8.toInt32) from by simp only [hf36, hf37, hf38, hf39, own_up]; exact own_nb _)).2) ?_
  show own_Fin _ _ _ _ T40 (mkF m 239 #[.val (.long x0), .second, .val (.int x1), .val (.int x2), .val (.ref b1), .val (.ref b2), .val (.ref b35), .val (.int y7), .unset] []) _ _ _
  refine own_go (fun _ => XS.aload X40.here hx rfl (hb hby at_239) rfl rfl) ?_
  show own_Fin _ _ _ _ T40 (mkF m 241 #[.val (.long x0), .second, .val (.int x1), .val (.int x2), .val (.ref b1), .val (.ref b2), .val (.ref b35), .val (.int y7), .unset] [(.ref b35)]) _ _ _
  refine own_go (fun _ => XS.iconst X40.here hx rfl (hb hby at_241)) ?_
  show own_Fin _ _ _ _ T40 (mkF m 242 #[.val (.long x0), .second, .val (.int x1), .val (.int x2), .val (.ref b1), .val (.ref b2), .val (.ref b35), .val (.int y7), .unset] [(.int (1 : Int32)), (.ref b35)]) _ _ _
  refine own_go (own_bld X40 hx hZ rfl V40_b35 (j := (1 : Int32)) 1 (by decide) rfl (by decide) rfl rfl (hb hby at_242)) ?_
  show own_Fin _ _ _ _ T40 (mkF m 243 #[.val (.long x0), .second, .val (.int x1), .val (.int x2), .val (.ref b1), .val (.ref b2), .val (.ref b35), .val (.int y7), .unset] [(.int (f39 1))]) _ _ _
  refine own_go (fun _ => XS.iloadN X40.here hx rfl (hb hby at_243) rfl) ?_
  show own_Fin _ _ _ _ T40 (mkF m 244 #[.val (.long x0), .second, .val (.int x1), .val (.int x2), .val (.ref b1), .val (.ref b2), .val (.ref b35), .val (.int y7), .unset] [(.int x1), (.int (f39 1))]) _ _ _
  refine own_go (fun _ => XS.bipush X40.here hx rfl (hb hby at_244)) ?_
  show own_Fin _ _ _ _ T40 (mkF m 246 #[.val (.long x0), .second, .val (.int x1), .val (.int x2), .val (.ref b1), .val (.ref b2), .val (.ref b35), .val (.int y7), .unset] [(.int (8 : Int32)), (.int x1), (.int (f39 1))]) _ _ _
  refine own_go (fun _ => XS.iushr X40.here hx rfl (hb hby at_246) rfl) ?_
  show own_Fin _ _ _ _ T40 (mkF m 247 #[.val (.long x0), .second, .val (.int x1), .val (.int x2), .val (.ref b1), .val (.ref b2), .val (.ref b35), .val (.int y7), .unset] [(.int ((x1.toUInt32 >>> ((8 : Int32) &&& 31).toUInt32).toInt32)), (.int (f39 1))]) _ _ _
  refine own_go (fun _ => XS.i2b X40.here hx rfl (hb hby at_247) rfl) ?_
  show own_Fin _ _ _ _ T40 (mkF m 248 #[.val (.long x0), .second, .val (.int x1), .val (.int x2), .val (.ref b1), .val (.ref b2), .val (.ref b35), .val (.int y7), .unset] [(.int (((x1.toUInt32 >>> ((8 : Int32) &&& 31).toUInt32).toInt32).toInt8.toInt32)), (.int (f39 1))]) _ _ _
  refine own_go (fun _ => XS.icmpNo X40.here hx rfl (hb hby at_248) rfl (teq (show (f39 1) = (((x1.toUInt32 >>> ((8 : Int32) &&& 31).toUInt32).toInt32).toInt8.toInt32) from by simp only [hf36, hf37, hf38, hf39, own_up]; exact own_nb _)).2) ?_
  show own_Fin _ _ _ _ T40 (mkF m 251 #[.val (.long x0), .second, .val (.int x1), .val (.int x2), .val (.ref b1), .val (.ref b2), .val (.ref b35), .val (.int y7), .unset] []) _ _ _
  refine own_go (fun _ => XS.aload X40.here hx rfl (hb hby at_251) rfl rfl) ?_
  show own_Fin _ _ _ _ T40 (mkF m 253 #[.val (.long x0), .second, .val (.int x1), .val (.int x2), .val (.ref b1), .val (.ref b2), .val (.ref b35), .val (.int y7), .unset] [(.ref b35)]) _ _ _
  refine own_go (fun _ => XS.iconst X40.here hx rfl (hb hby at_253)) ?_
  show own_Fin _ _ _ _ T40 (mkF m 254 #[.val (.long x0), .second, .val (.int x1), .val (.int x2), .val (.ref b1), .val (.ref b2), .val (.ref b35), .val (.int y7), .unset] [(.int (2 : Int32)), (.ref b35)]) _ _ _
  refine own_go (own_bld X40 hx hZ rfl V40_b35 (j := (2 : Int32)) 2 (by decide) rfl (by decide) rfl rfl (hb hby at_254)) ?_
  show own_Fin _ _ _ _ T40 (mkF m 255 #[.val (.long x0), .second, .val (.int x1), .val (.int x2), .val (.ref b1), .val (.ref b2), .val (.ref b35), .val (.int y7), .unset] [(.int (f39 2))]) _ _ _
  refine own_go (fun _ => XS.iloadN X40.here hx rfl (hb hby at_255) rfl) ?_
  show own_Fin _ _ _ _ T40 (mkF m 256 #[.val (.long x0), .second, .val (.int x1), .val (.int x2), .val (.ref b1), .val (.ref b2), .val (.ref b35), .val (.int y7), .unset] [(.int x1), (.int (f39 2))]) _ _ _
  refine own_go (fun _ => XS.bipush X40.here hx rfl (hb hby at_256)) ?_
  show own_Fin _ _ _ _ T40 (mkF m 258 #[.val (.long x0), .second, .val (.int x1), .val (.int x2), .val (.ref b1), .val (.ref b2), .val (.ref b35), .val (.int y7), .unset] [(.int (16 : Int32)), (.int x1), (.int (f39 2))]) _ _ _
  refine own_go (fun _ => XS.iushr X40.here hx rfl (hb hby at_258) rfl) ?_
  show own_Fin _ _ _ _ T40 (mkF m 259 #[.val (.long x0), .second, .val (.int x1), .val (.int x2), .val (.ref b1), .val (.ref b2), .val (.ref b35), .val (.int y7), .unset] [(.int ((x1.toUInt32 >>> ((16 : Int32) &&& 31).toUInt32).toInt32)), (.int (f39 2))]) _ _ _
  refine own_go (fun _ => XS.i2b X40.here hx rfl (hb hby at_259) rfl) ?_
  show own_Fin _ _ _ _ T40 (mkF m 260 #[.val (.long x0), .second, .val (.int x1), .val (.int x2), .val (.ref b1), .val (.ref b2), .val (.ref b35), .val (.int y7), .unset] [(.int (((x1.toUInt32 >>> ((16 : Int32) &&& 31).toUInt32).toInt32).toInt8.toInt32)), (.int (f39 2))]) _ _ _
  refine own_go (fun _ => XS.icmpNo X40.here hx rfl (hb hby at_260) rfl (teq (show (f39 2) = (((x1.toUInt32 >>> ((16 : Int32) &&& 31).toUInt32).toInt32).toInt8.toInt32) from by simp only [hf36, hf37, hf38, hf39, own_up]; exact own_nb _)).2) ?_
  show own_Fin _ _ _ _ T40 (mkF m 263 #[.val (.long x0), .second, .val (.int x1), .val (.int x2), .val (.ref b1), .val (.ref b2), .val (.ref b35), .val (.int y7), .unset] []) _ _ _
  refine own_go (fun _ => XS.aload X40.here hx rfl (hb hby at_263) rfl rfl) ?_
  show own_Fin _ _ _ _ T40 (mkF m 265 #[.val (.long x0), .second, .val (.int x1), .val (.int x2), .val (.ref b1), .val (.ref b2), .val (.ref b35), .val (.int y7), .unset] [(.ref b35)]) _ _ _
  refine own_go (fun _ => XS.iconst X40.here hx rfl (hb hby at_265)) ?_
  show own_Fin _ _ _ _ T40 (mkF m 266 #[.val (.long x0), .second, .val (.int x1), .val (.int x2), .val (.ref b1), .val (.ref b2), .val (.ref b35), .val (.int y7), .unset] [(.int (3 : Int32)), (.ref b35)]) _ _ _
  refine own_go (own_bld X40 hx hZ rfl V40_b35 (j := (3 : Int32)) 3 (by decide) rfl (by decide) rfl rfl (hb hby at_266)) ?_
  show own_Fin _ _ _ _ T40 (mkF m 267 #[.val (.long x0), .second, .val (.int x1), .val (.int x2), .val (.ref b1), .val (.ref b2), .val (.ref b35), .val (.int y7), .unset] [(.int (f39 3))]) _ _ _
  refine own_go (fun _ => XS.iloadN X40.here hx rfl (hb hby at_267) rfl) ?_
  show own_Fin _ _ _ _ T40 (mkF m 268 #[.val (.long x0), .second, .val (.int x1), .val (.int x2), .val (.ref b1), .val (.ref b2), .val (.ref b35), .val (.int y7), .unset] [(.int x1), (.int (f39 3))]) _ _ _
  refine own_go (fun _ => XS.bipush X40.here hx rfl (hb hby at_268)) ?_
  show own_Fin _ _ _ _ T40 (mkF m 270 #[.val (.long x0), .second, .val (.int x1), .val (.int x2), .val (.ref b1), .val (.ref b2), .val (.ref b35), .val (.int y7), .unset] [(.int (24 : Int32)), (.int x1), (.int (f39 3))]) _ _ _
  refine own_go (fun _ => XS.iushr X40.here hx rfl (hb hby at_270) rfl) ?_
  show own_Fin _ _ _ _ T40 (mkF m 271 #[.val (.long x0), .second, .val (.int x1), .val (.int x2), .val (.ref b1), .val (.ref b2), .val (.ref b35), .val (.int y7), .unset] [(.int ((x1.toUInt32 >>> ((24 : Int32) &&& 31).toUInt32).toInt32)), (.int (f39 3))]) _ _ _
  refine own_go (fun _ => XS.i2b X40.here hx rfl (hb hby at_271) rfl) ?_
  show own_Fin _ _ _ _ T40 (mkF m 272 #[.val (.long x0), .second, .val (.int x1), .val (.int x2), .val (.ref b1), .val (.ref b2), .val (.ref b35), .val (.int y7), .unset] [(.int (((x1.toUInt32 >>> ((24 : Int32) &&& 31).toUInt32).toInt32).toInt8.toInt32)), (.int (f39 3))]) _ _ _
  refine own_go (fun _ => XS.icmpNo X40.here hx rfl (hb hby at_272) rfl (teq (show (f39 3) = (((x1.toUInt32 >>> ((24 : Int32) &&& 31).toUInt32).toInt32).toInt8.toInt32) from by simp only [hf36, hf37, hf38, hf39, own_up]; exact own_nb _)).2) ?_
  show own_Fin _ _ _ _ T40 (mkF m 275 #[.val (.long x0), .second, .val (.int x1), .val (.int x2), .val (.ref b1), .val (.ref b2), .val (.ref b35), .val (.int y7), .unset] []) _ _ _
  refine own_go (fun _ => XS.iconst X40.here hx rfl (hb hby at_275)) ?_
  show own_Fin _ _ _ _ T40 (mkF m 276 #[.val (.long x0), .second, .val (.int x1), .val (.int x2), .val (.ref b1), .val (.ref b2), .val (.ref b35), .val (.int y7), .unset] [(.int (1 : Int32))]) _ _ _
  refine own_go (fun _ => XS.goto X40.here hx rfl (pc0 := 276) (pc' := 280) rfl (hb hby at_276) (by decide) (by decide)) ?_
  show own_Fin _ _ _ _ T40 (mkF m 280 #[.val (.long x0), .second, .val (.int x1), .val (.int x2), .val (.ref b1), .val (.ref b2), .val (.ref b35), .val (.int y7), .unset] [(.int (1 : Int32))]) _ _ _
  refine own_go (fun _ => XS.istore X40.here hx rfl (hb hby at_280) rfl (l' := #[.val (.long x0), .second, .val (.int x1), .val (.int x2), .val (.ref b1), .val (.ref b2), .val (.ref b35), .val (.int y7), .val (.int (1 : Int32))]) rfl) ?_
  show own_Fin _ _ _ _ T40 (mkF m 282 #[.val (.long x0), .second, .val (.int x1), .val (.int x2), .val (.ref b1), .val (.ref b2), .val (.ref b35), .val (.int y7), .val (.int (1 : Int32))] []) _ _ _
  refine own_go (fun _ => XS.iload X40.here hx rfl (hb hby at_282) rfl) ?_
  show own_Fin _ _ _ _ T40 (mkF m 284 #[.val (.long x0), .second, .val (.int x1), .val (.int x2), .val (.ref b1), .val (.ref b2), .val (.ref b35), .val (.int y7), .val (.int (1 : Int32))] [(.int (1 : Int32))]) _ _ _
  refine own_go (fun _ => XS.ifNo X40.here hx rfl (hb hby at_284) rfl ((if0 _ _).trans (feq (show ¬ ((1 : Int32) = (0 : Int32)) from (by decide))).1)) ?_
  show own_Fin _ _ _ _ T40 (mkF m 287 #[.val (.long x0), .second, .val (.int x1), .val (.int x2), .val (.ref b1), .val (.ref b2), .val (.ref b35), .val (.int y7), .val (.int (1 : Int32))] []) _ _ _
  refine own_go (fun _ => XS.aload X40.here hx rfl (hb hby at_287) rfl rfl) ?_
  show own_Fin _ _ _ _ T40 (mkF m 289 #[.val (.long x0), .second, .val (.int x1), .val (.int x2), .val (.ref b1), .val (.ref b2), .val (.ref b35), .val (.int y7), .val (.int (1 : Int32))] [(.ref b1)]) _ _ _
  refine own_go (fun _ => XS.aload X40.here hx rfl (hb hby at_289) rfl rfl) ?_
  show own_Fin _ _ _ _ T40 (mkF m 291 #[.val (.long x0), .second, .val (.int x1), .val (.int x2), .val (.ref b1), .val (.ref b2), .val (.ref b35), .val (.int y7), .val (.int (1 : Int32))] [(.ref b2), (.ref b1)]) _ _ _
  refine own_go (fun _ => XS.aload X40.here hx rfl (hb hby at_291) rfl rfl) ?_
  show own_Fin _ _ _ _ T40 (mkF m 293 #[.val (.long x0), .second, .val (.int x1), .val (.int x2), .val (.ref b1), .val (.ref b2), .val (.ref b35), .val (.int y7), .val (.int (1 : Int32))] [(.ref b35), (.ref b2), (.ref b1)]) _ _ _
  refine own_go (fun _ => XS.iload X40.here hx rfl (hb hby at_293) rfl) ?_
  show own_Fin _ _ _ _ T40 (mkF m 295 #[.val (.long x0), .second, .val (.int x1), .val (.int x2), .val (.ref b1), .val (.ref b2), .val (.ref b35), .val (.int y7), .val (.int (1 : Int32))] [(.int y7), (.ref b35), (.ref b2), (.ref b1)]) _ _ _
  refine own_go (fun _ => XS.iconst X40.here hx rfl (hb hby at_295)) ?_
  show own_Fin _ _ _ _ T40 (mkF m 296 #[.val (.long x0), .second, .val (.int x1), .val (.int x2), .val (.ref b1), .val (.ref b2), .val (.ref b35), .val (.int y7), .val (.int (1 : Int32))] [(.int (0 : Int32)), (.int y7), (.ref b35), (.ref b2), (.ref b1)]) _ _ _
  obtain ⟨_, _, ⟨T41, L41, k41, n41⟩, -, X41, ⟨Lc41, hQ41, l41, y41, z41⟩, st41⟩ := Jvm.LawKit.callS X40 hx (y := (⟨"com/example/hosts_to_firehose/hoststofirehose/io/WebSocketProtocolApplyMaskPinLaw", "ok", "([B[B[BII)Z"⟩ : MethodName)) hown (mvT hZ (hw _ (List.mem_of_getElem? (i := 10) rfl))) (mvT hZ (hw _ (List.mem_of_getElem? (i := 11) rfl))) (mvT hZ (hw _ (List.mem_of_getElem? (i := 3) rfl))) (mvT hZ (hw _ (List.mem_of_getElem? (i := 12) rfl))) (by decide) (backOf (W := 0) (rm3 l Z a0 hw [] b1 b2 b35 y7 (0 : Int32) (own_msk f32 f39 fn 8) f32 f39 fn 0 T40.heap n0 Zc40 B40 V40_b2 V40_b35 hfn rfl hle8 (by decide) (own_okp f32 f39 (by decide))) hZ (hw _ (List.mem_of_getElem? (i := 12) rfl)) (hw _ (List.mem_of_getElem? (i := 3) rfl)) (by decide) (by decide)) (g := (mkF m 296 #[.val (.long x0), .second, .val (.int x1), .val (.int x2), .val (.ref b1), .val (.ref b2), .val (.ref b35), .val (.int y7), .val (.int (1 : Int32))] [(.int (0 : Int32)), (.int y7), (.ref b35), (.ref b2), (.ref b1)])) rfl (by rw [hml]; rfl) (argsL := [(.ref b1), (.ref b2), (.ref b35), (.int y7), (.int (0 : Int32))]) (rest := []) (lenOf pd_2 rfl) rfl (by show 2 * 0 + _ ≤ _; exact Nat.le_of_eq rfl) (hb hby at_296) (fun _ _ => ⟨rfl, rfl, (by decide : 3 + 0 ≤ _), (by decide : 20 + 0 ≤ _)⟩)
  dsimp only [Pt.U, Pt.locs, Pt.cells, Pt.slots] at X41 l41 y41 z41 st41 hQ41
  subst y41 z41
  obtain ⟨rfl, N41q, e41⟩ := hQ41
  have N41 : Fr n0 L41 := l41.symm ▸ Fr.app N40 N41q
  replace X41 : Stand p l e room_1 s m #[(.long x0), (.int x1), (.int x2)] below meth c T41 _ 3 20 := X41
  refine own_go st41 ?_
  show own_Fin _ _ _ _ T41 (mkF m 299 #[.val (.long x0), .second, .val (.int x1), .val (.int x2), .val (.ref b1), .val (.ref b2), .val (.ref b35), .val (.int y7), .val (.int (1 : Int32))] [(.int (1 : Int32))]) _ _ _
  refine own_go (fun _ => XS.ifNo X41.here hx rfl (hb hby at_299) rfl ((if0 _ _).trans (feq (show ¬ ((1 : Int32) = (0 : Int32)) from (by decide))).1)) ?_
  show own_Fin _ _ _ _ T41 (mkF m 302 #[.val (.long x0), .second, .val (.int x1), .val (.int x2), .val (.ref b1), .val (.ref b2), .val (.ref b35), .val (.int y7), .val (.int (1 : Int32))] []) _ _ _
  refine own_go (fun _ => XS.aload X41.here hx rfl (hb hby at_302) rfl rfl) ?_
  show own_Fin _ _ _ _ T41 (mkF m 304 #[.val (.long x0), .second, .val (.int x1), .val (.int x2), .val (.ref b1), .val (.ref b2), .val (.ref b35), .val (.int y7), .val (.int (1 : Int32))] [(.ref b1)]) _ _ _
  refine own_go (fun _ => XS.aload X41.here hx rfl (hb hby at_304) rfl rfl) ?_
  show own_Fin _ _ _ _ T41 (mkF m 306 #[.val (.long x0), .second, .val (.int x1), .val (.int x2), .val (.ref b1), .val (.ref b2), .val (.ref b35), .val (.int y7), .val (.int (1 : Int32))] [(.ref b2), (.ref b1)]) _ _ _
  refine own_go (fun _ => XS.aload X41.here hx rfl (hb hby at_306) rfl rfl) ?_
  show own_Fin _ _ _ _ T41 (mkF m 308 #[.val (.long x0), .second, .val (.int x1), .val (.int x2), .val (.ref b1), .val (.ref b2), .val (.ref b35), .val (.int y7), .val (.int (1 : Int32))] [(.ref b35), (.ref b2), (.ref b1)]) _ _ _
  refine own_go (fun _ => XS.iload X41.here hx rfl (hb hby at_308) rfl) ?_
  show own_Fin _ _ _ _ T41 (mkF m 310 #[.val (.long x0), .second, .val (.int x1), .val (.int x2), .val (.ref b1), .val (.ref b2), .val (.ref b35), .val (.int y7), .val (.int (1 : Int32))] [(.int y7), (.ref b35), (.ref b2), (.ref b1)]) _ _ _
  refine own_go (fun _ => XS.iconst X41.here hx rfl (hb hby at_310)) ?_
  show own_Fin _ _ _ _ T41 (mkF m 311 #[.val (.long x0), .second, .val (.int x1), .val (.int x2), .val (.ref b1), .val (.ref b2), .val (.ref b35), .val (.int y7), .val (.int (1 : Int32))] [(.int (1 : Int32)), (.int y7), (.ref b35), (.ref b2), (.ref b1)]) _ _ _
  obtain ⟨_, _, ⟨T42, L42, k42, n42⟩, -, X42, ⟨Lc42, hQ42, l42, y42, z42⟩, st42⟩ := Jvm.LawKit.callS X41 hx (y := (⟨"com/example/hosts_to_firehose/hoststofirehose/io/WebSocketProtocolApplyMaskPinLaw", "ok", "([B[B[BII)Z"⟩ : MethodName)) hown (mvT hZ (hw _ (List.mem_of_getElem? (i := 10) rfl))) (mvT hZ (hw _ (List.mem_of_getElem? (i := 11) rfl))) (mvT hZ (hw _ (List.mem_of_getElem? (i := 3) rfl))) (mvT hZ (hw _ (List.mem_of_getElem? (i := 12) rfl))) (by decide) (backOf (W := 0) (rm3 l Z a0 hw [] b1 b2 b35 y7 (1 : Int32) (own_msk f32 f39 fn 8) f32 f39 fn 1 T40.heap n0 Zc40 B40 V40_b2 V40_b35 hfn rfl hle8 (by decide) (own_okp f32 f39 (by decide))) hZ (hw _ (List.mem_of_getElem? (i := 12) rfl)) (hw _ (List.mem_of_getElem? (i := 3) rfl)) (by decide) (by decide)) (g := (mkF m 311 #[.val (.long x0), .second, .val (.int x1), .val (.int x2), .val (.ref b1), .val (.ref b2), .val (.ref b35), .val (.int y7), .val (.int (1 : Int32))] [(.int (1 : Int32)), (.int y7), (.ref b35), (.ref b2), (.ref b1)])) rfl (by rw [hml]; rfl) (argsL := [(.ref b1), (.ref b2), (.ref b35), (.int y7), (.int (1 : Int32))]) (rest := []) (lenOf pd_2 rfl) rfl (by show 2 * 0 + _ ≤ _; exact Nat.le_of_eq rfl) (hb hby at_311) (fun _ _ => ⟨rfl, e41, (by decide : 3 + 0 ≤ _), (by decide : 20 + 0 ≤ _)⟩)
  dsimp only [Pt.U, Pt.locs, Pt.cells, Pt.slots] at X42 l42 y42 z42 st42 hQ42
  subst y42 z42
  obtain ⟨rfl, N42q, e42⟩ := hQ42
  have N42 : Fr n0 L42 := l42.symm ▸ Fr.app N41 N42q
  replace X42 : Stand p l e room_1 s m #[(.long x0), (.int x1), (.int x2)] below meth c T42 _ 3 20 := X42
  refine own_go st42 ?_
  show own_Fin _ _ _ _ T42 (mkF m 314 #[.val (.long x0), .second, .val (.int x1), .val (.int x2), .val (.ref b1), .val (.ref b2), .val (.ref b35), .val (.int y7), .val (.int (1 : Int32))] [(.int (1 : Int32))]) _ _ _
  refine own_go (fun _ => XS.ifNo X42.here hx rfl (hb hby at_314) rfl ((if0 _ _).trans (feq (show ¬ ((1 : Int32) = (0 : Int32)) from (by decide))).1)) ?_
  show own_Fin _ _ _ _ T42 (mkF m 317 #[.val (.long x0), .second, .val (.int x1), .val (.int x2), .val (.ref b1), .val (.ref b2), .val (.ref b35), .val (.int y7), .val (.int (1 : Int32))] []) _ _ _
  refine own_go (fun _ => XS.aload X42.here hx rfl (hb hby at_317) rfl rfl) ?_
  show own_Fin _ _ _ _ T42 (mkF m 319 #[.val (.long x0), .second, .val (.int x1), .val (.int x2), .val (.ref b1), .val (.ref b2), .val (.ref b35), .val (.int y7), .val (.int (1 : Int32))] [(.ref b1)]) _ _ _
  refine own_go (fun _ => XS.aload X42.here hx rfl (hb hby at_319) rfl rfl) ?_
  show own_Fin _ _ _ _ T42 (mkF m 321 #[.val (.long x0), .second, .val (.int x1), .val (.int x2), .val (.ref b1), .val (.ref b2), .val (.ref b35), .val (.int y7), .val (.int (1 : Int32))] [(.ref b2), (.ref b1)]) _ _ _
  refine own_go (fun _ => XS.aload X42.here hx rfl (hb hby at_321) rfl rfl) ?_
  show own_Fin _ _ _ _ T42 (mkF m 323 #[.val (.long x0), .second, .val (.int x1), .val (.int x2), .val (.ref b1), .val (.ref b2), .val (.ref b35), .val (.int y7), .val (.int (1 : Int32))] [(.ref b35), (.ref b2), (.ref b1)]) _ _ _
  refine own_go (fun _ => XS.iload X42.here hx rfl (hb hby at_323) rfl) ?_
  show own_Fin _ _ _ _ T42 (mkF m 325 #[.val (.long x0), .second, .val (.int x1), .val (.int x2), .val (.ref b1), .val (.ref b2), .val (.ref b35), .val (.int y7), .val (.int (1 : Int32))] [(.int y7), (.ref b35), (.ref b2), (.ref b1)]) _ _ _
  refine own_go (fun _ => XS.iconst X42.here hx rfl (hb hby at_325)) ?_
  show own_Fin _ _ _ _ T42 (mkF m 326 #[.val (.long x0), .second, .val (.int x1), .val (.int x2), .val (.ref b1), .val (.ref b2), .val (.ref b35), .val (.int y7), .val (.int (1 : Int32))] [(.int (2 : Int32)), (.int y7), (.ref b35), (.ref b2), (.ref b1)]) _ _ _
  obtain ⟨_, _, ⟨T43, L43, k43, n43⟩, -, X43, ⟨Lc43, hQ43, l43, y43, z43⟩, st43⟩ := Jvm.LawKit.callS X42 hx (y := (⟨"com/example/hosts_to_firehose/hoststofirehose/io/WebSocketProtocolApplyMaskPinLaw", "ok", "([B[B[BII)Z"⟩ : MethodName)) hown (mvT hZ (hw _ (List.mem_of_getElem? (i := 10) rfl))) (mvT hZ (hw _ (List.mem_of_getElem? (i := 11) rfl))) (mvT hZ (hw _ (List.mem_of_getElem? (i := 3) rfl))) (mvT hZ (hw _ (List.mem_of_getElem? (i := 12) rfl))) (by decide) (backOf (W := 0) (rm3 l Z a0 hw [] b1 b2 b35 y7 (2 : Int32) (own_msk f32 f39 fn 8) f32 f39 fn 2 T40.heap n0 Zc40 B40 V40_b2 V40_b35 hfn rfl hle8 (by decide) (own_okp f32 f39 (by decide))) hZ (hw _ (List.mem_of_getElem? (i := 12) rfl)) (hw _ (List.mem_of_getElem? (i := 3) rfl)) (by decide) (by decide)) (g := (mkF m 326 #[.val (.long x0), .second, .val (.int x1), .val (.int x2), .val (.ref b1), .val (.ref b2), .val (.ref b35), .val (.int y7), .val (.int (1 : Int32))] [(.int (2 : Int32)), (.int y7), (.ref b35), (.ref b2), (.ref b1)])) rfl (by rw [hml]; rfl) (argsL := [(.ref b1), (.ref b2), (.ref b35), (.int y7), (.int (2 : Int32))]) (rest := []) (lenOf pd_2 rfl) rfl (by show 2 * 0 + _ ≤ _; exact Nat.le_of_eq rfl) (hb hby at_326) (fun _ _ => ⟨rfl, e42, (by decide : 3 + 0 ≤ _), (by decide : 20 + 0 ≤ _)⟩)
  dsimp only [Pt.U, Pt.locs, Pt.cells, Pt.slots] at X43 l43 y43 z43 st43 hQ43
  subst y43 z43
  obtain ⟨rfl, N43q, e43⟩ := hQ43
  have N43 : Fr n0 L43 := l43.symm ▸ Fr.app N42 N43q
  replace X43 : Stand p l e room_1 s m #[(.long x0), (.int x1), (.int x2)] below meth c T43 _ 3 20 := X43
  refine own_go st43 ?_
  show own_Fin _ _ _ _ T43 (mkF m 329 #[.val (.long x0), .second, .val (.int x1), .val (.int x2), .val (.ref b1), .val (.ref b2), .val (.ref b35), .val (.int y7), .val (.int (1 : Int32))] [(.int (1 : Int32))]) _ _ _
  refine own_go (fun _ => XS.ifNo X43.here hx rfl (hb hby at_329) rfl ((if0 _ _).trans (feq (show ¬ ((1 : Int32) = (0 : Int32)) from (by decide))).1)) ?_
  show own_Fin _ _ _ _ T43 (mkF m 332 #[.val (.long x0), .second, .val (.int x1), .val (.int x2), .val (.ref b1), .val (.ref b2), .val (.ref b35), .val (.int y7), .val (.int (1 : Int32))] []) _ _ _
  refine own_go (fun _ => XS.aload X43.here hx rfl (hb hby at_332) rfl rfl) ?_
  show own_Fin _ _ _ _ T43 (mkF m 334 #[.val (.long x0), .second, .val (.int x1), .val (.int x2), .val (.ref b1), .val (.ref b2), .val (.ref b35), .val (.int y7), .val (.int (1 : Int32))] [(.ref b1)]) _ _ _
  refine own_go (fun _ => XS.aload X43.here hx rfl (hb hby at_334) rfl rfl) ?_
  show own_Fin _ _ _ _ T43 (mkF m 336 #[.val (.long x0), .second, .val (.int x1), .val (.int x2), .val (.ref b1), .val (.ref b2), .val (.ref b35), .val (.int y7), .val (.int (1 : Int32))] [(.ref b2), (.ref b1)]) _ _ _
  refine own_go (fun _ => XS.aload X43.here hx rfl (hb hby at_336) rfl rfl) ?_
  show own_Fin _ _ _ _ T43 (mkF m 338 #[.val (.long x0), .second, .val (.int x1), .val (.int x2), .val (.ref b1), .val (.ref b2), .val (.ref b35), .val (.int y7), .val (.int (1 : Int32))] [(.ref b35), (.ref b2), (.ref b1)]) _ _ _
  refine own_go (fun _ => XS.iload X43.here hx rfl (hb hby at_338) rfl) ?_
  show own_Fin _ _ _ _ T43 (mkF m 340 #[.val (.long x0), .second, .val (.int x1), .val (.int x2), .val (.ref b1), .val (.ref b2), .val (.ref b35), .val (.int y7), .val (.int (1 : Int32))] [(.int y7), (.ref b35), (.ref b2), (.ref b1)]) _ _ _
  refine own_go (fun _ => XS.iconst X43.here hx rfl (hb hby at_340)) ?_
  show own_Fin _ _ _ _ T43 (mkF m 341 #[.val (.long x0), .second, .val (.int x1), .val (.int x2), .val (.ref b1), .val (.ref b2), .val (.ref b35), .val (.int y7), .val (.int (1 : Int32))] [(.int (3 : Int32)), (.int y7), (.ref b35), (.ref b2), (.ref b1)]) _ _ _
  obtain ⟨_, _, ⟨T44, L44, k44, n44⟩, -, X44, ⟨Lc44, hQ44, l44, y44, z44⟩, st44⟩ := Jvm.LawKit.callS X43 hx (y := (⟨"com/example/hosts_to_firehose/hoststofirehose/io/WebSocketProtocolApplyMaskPinLaw", "ok", "([B[B[BII)Z"⟩ : MethodName)) hown (mvT hZ (hw _ (List.mem_of_getElem? (i := 10) rfl))) (mvT hZ (hw _ (List.mem_of_getElem? (i := 11) rfl))) (mvT hZ (hw _ (List.mem_of_getElem? (i := 3) rfl))) (mvT hZ (hw _ (List.mem_of_getElem? (i := 12) rfl))) (by decide) (backOf (W := 0) (rm3 l Z a0 hw [] b1 b2 b35 y7 (3 : Int32) (own_msk f32 f39 fn 8) f32 f39 fn 3 T40.heap n0 Zc40 B40 V40_b2 V40_b35 hfn rfl hle8 (by decide) (own_okp f32 f39 (by decide))) hZ (hw _ (List.mem_of_getElem? (i := 12) rfl)) (hw _ (List.mem_of_getElem? (i := 3) rfl)) (by decide) (by decide)) (g := (mkF m 341 #[.val (.long x0), .second, .val (.int x1), .val (.int x2), .val (.ref b1), .val (.ref b2), .val (.ref b35), .val (.int y7), .val (.int (1 : Int32))] [(.int (3 : Int32)), (.int y7), (.ref b35), (.ref b2), (.ref b1)])) rfl (by rw [hml]; rfl) (argsL := [(.ref b1), (.ref b2), (.ref b35), (.int y7), (.int (3 : Int32))]) (rest := []) (lenOf pd_2 rfl) rfl (by show 2 * 0 + _ ≤ _; exact Nat.le_of_eq rfl) (hb hby at_341) (fun _ _ => ⟨rfl, e43, (by decide : 3 + 0 ≤ _), (by decide : 20 + 0 ≤ _)⟩)
  dsimp only [Pt.U, Pt.locs, Pt.cells, Pt.slots] at X44 l44 y44 z44 st44 hQ44
  subst y44 z44
  obtain ⟨rfl, N44q, e44⟩ := hQ44
  have N44 : Fr n0 L44 := l44.symm ▸ Fr.app N43 N44q
  replace X44 : Stand p l e room_1 s m #[(.long x0), (.int x1), (.int x2)] below meth c T44 _ 3 20 := X44
  refine own_go st44 ?_
  show own_Fin _ _ _ _ T44 (mkF m 344 #[.val (.long x0), .second, .val (.int x1), .val (.int x2), .val (.ref b1), .val (.ref b2), .val (.ref b35), .val (.int y7), .val (.int (1 : Int32))] [(.int (1 : Int32))]) _ _ _
  refine own_go (fun _ => XS.ifNo X44.here hx rfl (hb hby at_344) rfl ((if0 _ _).trans (feq (show ¬ ((1 : Int32) = (0 : Int32)) from (by decide))).1)) ?_
  show own_Fin _ _ _ _ T44 (mkF m 347 #[.val (.long x0), .second, .val (.int x1), .val (.int x2), .val (.ref b1), .val (.ref b2), .val (.ref b35), .val (.int y7), .val (.int (1 : Int32))] []) _ _ _
  refine own_go (fun _ => XS.aload X44.here hx rfl (hb hby at_347) rfl rfl) ?_
  show own_Fin _ _ _ _ T44 (mkF m 349 #[.val (.long x0), .second, .val (.int x1), .val (.int x2), .val (.ref b1), .val (.ref b2), .val (.ref b35), .val (.int y7), .val (.int (1 : Int32))] [(.ref b1)]) _ _ _
  refine own_go (fun _ => XS.aload X44.here hx rfl (hb hby at_349) rfl rfl) ?_
  show own_Fin _ _ _ _ T44 (mkF m 351 #[.val (.long x0), .second, .val (.int x1), .val (.int x2), .val (.ref b1), .val (.ref b2), .val (.ref b35), .val (.int y7), .val (.int (1 : Int32))] [(.ref b2), (.ref b1)]) _ _ _
  refine own_go (fun _ => XS.aload X44.here hx rfl (hb hby at_351) rfl rfl) ?_
  show own_Fin _ _ _ _ T44 (mkF m 353 #[.val (.long x0), .second, .val (.int x1), .val (.int x2), .val (.ref b1), .val (.ref b2), .val (.ref b35), .val (.int y7), .val (.int (1 : Int32))] [(.ref b35), (.ref b2), (.ref b1)]) _ _ _
  refine own_go (fun _ => XS.iload X44.here hx rfl (hb hby at_353) rfl) ?_
  show own_Fin _ _ _ _ T44 (mkF m 355 #[.val (.long x0), .second, .val (.int x1), .val (.int x2), .val (.ref b1), .val (.ref b2), .val (.ref b35), .val (.int y7), .val (.int (1 : Int32))] [(.int y7), (.ref b35), (.ref b2), (.ref b1)]) _ _ _
  refine own_go (fun _ => XS.iconst X44.here hx rfl (hb hby at_355)) ?_
  show own_Fin _ _ _ _ T44 (mkF m 356 #[.val (.long x0), .second, .val (.int x1), .val (.int x2), .val (.ref b1), .val (.ref b2), .val (.ref b35), .val (.int y7), .val (.int (1 : Int32))] [(.int (4 : Int32)), (.int y7), (.ref b35), (.ref b2), (.ref b1)]) _ _ _
  obtain ⟨_, _, ⟨T45, L45, k45, n45⟩, -, X45, ⟨Lc45, hQ45, l45, y45, z45⟩, st45⟩ := Jvm.LawKit.callS X44 hx (y := (⟨"com/example/hosts_to_firehose/hoststofirehose/io/WebSocketProtocolApplyMaskPinLaw", "ok", "([B[B[BII)Z"⟩ : MethodName)) hown (mvT hZ (hw _ (List.mem_of_getElem? (i := 10) rfl))) (mvT hZ (hw _ (List.mem_of_getElem? (i := 11) rfl))) (mvT hZ (hw _ (List.mem_of_getElem? (i := 3) rfl))) (mvT hZ (hw _ (List.mem_of_getElem? (i := 12) rfl))) (by decide) (backOf (W := 0) (rm3 l Z a0 hw [] b1 b2 b35 y7 (4 : Int32) (own_msk f32 f39 fn 8) f32 f39 fn 4 T40.heap n0 Zc40 B40 V40_b2 V40_b35 hfn rfl hle8 (by decide) (own_okp f32 f39 (by decide))) hZ (hw _ (List.mem_of_getElem? (i := 12) rfl)) (hw _ (List.mem_of_getElem? (i := 3) rfl)) (by decide) (by decide)) (g := (mkF m 356 #[.val (.long x0), .second, .val (.int x1), .val (.int x2), .val (.ref b1), .val (.ref b2), .val (.ref b35), .val (.int y7), .val (.int (1 : Int32))] [(.int (4 : Int32)), (.int y7), (.ref b35), (.ref b2), (.ref b1)])) rfl (by rw [hml]; rfl) (argsL := [(.ref b1), (.ref b2), (.ref b35), (.int y7), (.int (4 : Int32))]) (rest := []) (lenOf pd_2 rfl) rfl (by show 2 * 0 + _ ≤ _; exact Nat.le_of_eq rfl) (hb hby at_356) (fun _ _ => ⟨rfl, e44, (by decide : 3 + 0 ≤ _), (by decide : 20 + 0 ≤ _)⟩)
  dsimp only [Pt.U, Pt.locs, Pt.cells, Pt.slots] at X45 l45 y45 z45 st45 hQ45
  subst y45 z45
  obtain ⟨rfl, N45q, e45⟩ := hQ45
  have N45 : Fr n0 L45 := l45.symm ▸ Fr.app N44 N45q
  replace X45 : Stand p l e room_1 s m #[(.long x0), (.int x1), (.int x2)] below meth c T45 _ 3 20 := X45
  refine own_go st45 ?_
  show own_Fin _ _ _ _ T45 (mkF m 359 #[.val (.long x0), .second, .val (.int x1), .val (.int x2), .val (.ref b1), .val (.ref b2), .val (.ref b35), .val (.int y7), .val (.int (1 : Int32))] [(.int (1 : Int32))]) _ _ _
  refine own_go (fun _ => XS.ifNo X45.here hx rfl (hb hby at_359) rfl ((if0 _ _).trans (feq (show ¬ ((1 : Int32) = (0 : Int32)) from (by decide))).1)) ?_
  show own_Fin _ _ _ _ T45 (mkF m 362 #[.val (.long x0), .second, .val (.int x1), .val (.int x2), .val (.ref b1), .val (.ref b2), .val (.ref b35), .val (.int y7), .val (.int (1 : Int32))] []) _ _ _
  refine own_go (fun _ => XS.aload X45.here hx rfl (hb hby at_362) rfl rfl) ?_
  show own_Fin _ _ _ _ T45 (mkF m 364 #[.val (.long x0), .second, .val (.int x1), .val (.int x2), .val (.ref b1), .val (.ref b2), .val (.ref b35), .val (.int y7), .val (.int (1 : Int32))] [(.ref b1)]) _ _ _
  refine own_go (fun _ => XS.aload X45.here hx rfl (hb hby at_364) rfl rfl) ?_
  show own_Fin _ _ _ _ T45 (mkF m 366 #[.val (.long x0), .second, .val (.int x1), .val (.int x2), .val (.ref b1), .val (.ref b2), .val (.ref b35), .val (.int y7), .val (.int (1 : Int32))] [(.ref b2), (.ref b1)]) _ _ _
  refine own_go (fun _ => XS.aload X45.here hx rfl (hb hby at_366) rfl rfl) ?_
  show own_Fin _ _ _ _ T45 (mkF m 368 #[.val (.long x0), .second, .val (.int x1), .val (.int x2), .val (.ref b1), .val (.ref b2), .val (.ref b35), .val (.int y7), .val (.int (1 : Int32))] [(.ref b35), (.ref b2), (.ref b1)]) _ _ _
  refine own_go (fun _ => XS.iload X45.here hx rfl (hb hby at_368) rfl) ?_
  show own_Fin _ _ _ _ T45 (mkF m 370 #[.val (.long x0), .second, .val (.int x1), .val (.int x2), .val (.ref b1), .val (.ref b2), .val (.ref b35), .val (.int y7), .val (.int (1 : Int32))] [(.int y7), (.ref b35), (.ref b2), (.ref b1)]) _ _ _
  refine own_go (fun _ => XS.iconst X45.here hx rfl (hb hby at_370)) ?_
  show own_Fin _ _ _ _ T45 (mkF m 371 #[.val (.long x0), .second, .val (.int x1), .val (.int x2), .val (.ref b1), .val (.ref b2), .val (.ref b35), .val (.int y7), .val (.int (1 : Int32))] [(.int (5 : Int32)), (.int y7), (.ref b35), (.ref b2), (.ref b1)]) _ _ _
  obtain ⟨_, _, ⟨T46, L46, k46, n46⟩, -, X46, ⟨Lc46, hQ46, l46, y46, z46⟩, st46⟩ := Jvm.LawKit.callS X45 hx (y := (⟨"com/example/hosts_to_firehose/hoststofirehose/io/WebSocketProtocolApplyMaskPinLaw", "ok", "([B[B[BII)Z"⟩ : MethodName)) hown (mvT hZ (hw _ (List.mem_of_getElem? (i := 10) rfl))) (mvT hZ (hw _ (List.mem_of_getElem? (i := 11) rfl))) (mvT hZ (hw _ (List.mem_of_getElem? (i := 3) rfl))) (mvT hZ (hw _ (List.mem_of_getElem? (i := 12) rfl))) (by decide) (backOf (W := 0) (rm3 l Z a0 hw [] b1 b2 b35 y7 (5 : Int32) (own_msk f32 f39 fn 8) f32 f39 fn 5 T40.heap n0 Zc40 B40 V40_b2 V40_b35 hfn rfl hle8 (by decide) (own_okp f32 f39 (by decide))) hZ (hw _ (List.mem_of_getElem? (i := 12) rfl)) (hw _ (List.mem_of_getElem? (i := 3) rfl)) (by decide) (by decide)) (g := (mkF m 371 #[.val (.long x0), .second, .val (.int x1), .val (.int x2), .val (.ref b1), .val (.ref b2), .val (.ref b35), .val (.int y7), .val (.int (1 : Int32))] [(.int (5 : Int32)), (.int y7), (.ref b35), (.ref b2), (.ref b1)])) rfl (by rw [hml]; rfl) (argsL := [(.ref b1), (.ref b2), (.ref b35), (.int y7), (.int (5 : Int32))]) (rest := []) (lenOf pd_2 rfl) rfl (by show 2 * 0 + _ ≤ _; exact Nat.le_of_eq rfl) (hb hby at_371) (fun _ _ => ⟨rfl, e45, (by decide : 3 + 0 ≤ _), (by decide : 20 + 0 ≤ _)⟩)
  dsimp only [Pt.U, Pt.locs, Pt.cells, Pt.slots] at X46 l46 y46 z46 st46 hQ46
  subst y46 z46
  obtain ⟨rfl, N46q, e46⟩ := hQ46
  have N46 : Fr n0 L46 := l46.symm ▸ Fr.app N45 N46q
  replace X46 : Stand p l e room_1 s m #[(.long x0), (.int x1), (.int x2)] below meth c T46 _ 3 20 := X46
  refine own_go st46 ?_
  show own_Fin _ _ _ _ T46 (mkF m 374 #[.val (.long x0), .second, .val (.int x1), .val (.int x2), .val (.ref b1), .val (.ref b2), .val (.ref b35), .val (.int y7), .val (.int (1 : Int32))] [(.int (1 : Int32))]) _ _ _
  refine own_go (fun _ => XS.ifNo X46.here hx rfl (hb hby at_374) rfl ((if0 _ _).trans (feq (show ¬ ((1 : Int32) = (0 : Int32)) from (by decide))).1)) ?_
  show own_Fin _ _ _ _ T46 (mkF m 377 #[.val (.long x0), .second, .val (.int x1), .val (.int x2), .val (.ref b1), .val (.ref b2), .val (.ref b35), .val (.int y7), .val (.int (1 : Int32))] []) _ _ _
  refine own_go (fun _ => XS.aload X46.here hx rfl (hb hby at_377) rfl rfl) ?_
  show own_Fin _ _ _ _ T46 (mkF m 379 #[.val (.long x0), .second, .val (.int x1), .val (.int x2), .val (.ref b1), .val (.ref b2), .val (.ref b35), .val (.int y7), .val (.int (1 : Int32))] [(.ref b1)]) _ _ _
  refine own_go (fun _ => XS.aload X46.here hx rfl (hb hby at_379) rfl rfl) ?_
  show own_Fin _ _ _ _ T46 (mkF m 381 #[.val (.long x0), .second, .val (.int x1), .val (.int x2), .val (.ref b1), .val (.ref b2), .val (.ref b35), .val (.int y7), .val (.int (1 : Int32))] [(.ref b2), (.ref b1)]) _ _ _
  refine own_go (fun _ => XS.aload X46.here hx rfl (hb hby at_381) rfl rfl) ?_
  show own_Fin _ _ _ _ T46 (mkF m 383 #[.val (.long x0), .second, .val (.int x1), .val (.int x2), .val (.ref b1), .val (.ref b2), .val (.ref b35), .val (.int y7), .val (.int (1 : Int32))] [(.ref b35), (.ref b2), (.ref b1)]) _ _ _
  refine own_go (fun _ => XS.iload X46.here hx rfl (hb hby at_383) rfl) ?_
  show own_Fin _ _ _ _ T46 (mkF m 385 #[.val (.long x0), .second, .val (.int x1), .val (.int x2), .val (.ref b1), .val (.ref b2), .val (.ref b35), .val (.int y7), .val (.int (1 : Int32))] [(.int y7), (.ref b35), (.ref b2), (.ref b1)]) _ _ _
  refine own_go (fun _ => XS.bipush X46.here hx rfl (hb hby at_385)) ?_
  show own_Fin _ _ _ _ T46 (mkF m 387 #[.val (.long x0), .second, .val (.int x1), .val (.int x2), .val (.ref b1), .val (.ref b2), .val (.ref b35), .val (.int y7), .val (.int (1 : Int32))] [(.int (6 : Int32)), (.int y7), (.ref b35), (.ref b2), (.ref b1)]) _ _ _
  obtain ⟨_, _, ⟨T47, L47, k47, n47⟩, -, X47, ⟨Lc47, hQ47, l47, y47, z47⟩, st47⟩ := Jvm.LawKit.callS X46 hx (y := (⟨"com/example/hosts_to_firehose/hoststofirehose/io/WebSocketProtocolApplyMaskPinLaw", "ok", "([B[B[BII)Z"⟩ : MethodName)) hown (mvT hZ (hw _ (List.mem_of_getElem? (i := 10) rfl))) (mvT hZ (hw _ (List.mem_of_getElem? (i := 11) rfl))) (mvT hZ (hw _ (List.mem_of_getElem? (i := 3) rfl))) (mvT hZ (hw _ (List.mem_of_getElem? (i := 12) rfl))) (by decide) (backOf (W := 0) (rm3 l Z a0 hw [] b1 b2 b35 y7 (6 : Int32) (own_msk f32 f39 fn 8) f32 f39 fn 6 T40.heap n0 Zc40 B40 V40_b2 V40_b35 hfn rfl hle8 (by decide) (own_okp f32 f39 (by decide))) hZ (hw _ (List.mem_of_getElem? (i := 12) rfl)) (hw _ (List.mem_of_getElem? (i := 3) rfl)) (by decide) (by decide)) (g := (mkF m 387 #[.val (.long x0), .second, .val (.int x1), .val (.int x2), .val (.ref b1), .val (.ref b2), .val (.ref b35), .val (.int y7), .val (.int (1 : Int32))] [(.int (6 : Int32)), (.int y7), (.ref b35), (.ref b2), (.ref b1)])) rfl (by rw [hml]; rfl) (argsL := [(.ref b1), (.ref b2), (.ref b35), (.int y7), (.int (6 : Int32))]) (rest := []) (lenOf pd_2 rfl) rfl (by show 2 * 0 + _ ≤ _; exact Nat.le_of_eq rfl) (hb hby at_387) (fun _ _ => ⟨rfl, e46, (by decide : 3 + 0 ≤ _), (by decide : 20 + 0 ≤ _)⟩)
  dsimp only [Pt.U, Pt.locs, Pt.cells, Pt.slots] at X47 l47 y47 z47 st47 hQ47
  subst y47 z47
  obtain ⟨rfl, N47q, e47⟩ := hQ47
  have N47 : Fr n0 L47 := l47.symm ▸ Fr.app N46 N47q
  replace X47 : Stand p l e room_1 s m #[(.long x0), (.int x1), (.int x2)] below meth c T47 _ 3 20 := X47
  refine own_go st47 ?_
  show own_Fin _ _ _ _ T47 (mkF m 390 #[.val (.long x0), .second, .val (.int x1), .val (.int x2), .val (.ref b1), .val (.ref b2), .val (.ref b35), .val (.int y7), .val (.int (1 : Int32))] [(.int (1 : Int32))]) _ _ _
  refine own_go (fun _ => XS.ifNo X47.here hx rfl (hb hby at_390) rfl ((if0 _ _).trans (feq (show ¬ ((1 : Int32) = (0 : Int32)) from (by decide))).1)) ?_
  show own_Fin _ _ _ _ T47 (mkF m 393 #[.val (.long x0), .second, .val (.int x1), .val (.int x2), .val (.ref b1), .val (.ref b2), .val (.ref b35), .val (.int y7), .val (.int (1 : Int32))] []) _ _ _
  refine own_go (fun _ => XS.aload X47.here hx rfl (hb hby at_393) rfl rfl) ?_
  show own_Fin _ _ _ _ T47 (mkF m 395 #[.val (.long x0), .second, .val (.int x1), .val (.int x2), .val (.ref b1), .val (.ref b2), .val (.ref b35), .val (.int y7), .val (.int (1 : Int32))] [(.ref b1)]) _ _ _
  refine own_go (fun _ => XS.aload X47.here hx rfl (hb hby at_395) rfl rfl) ?_
  show own_Fin _ _ _ _ T47 (mkF m 397 #[.val (.long x0), .second, .val (.int x1), .val (.int x2), .val (.ref b1), .val (.ref b2), .val (.ref b35), .val (.int y7), .val (.int (1 : Int32))] [(.ref b2), (.ref b1)]) _ _ _
  refine own_go (fun _ => XS.aload X47.here hx rfl (hb hby at_397) rfl rfl) ?_
  show own_Fin _ _ _ _ T47 (mkF m 399 #[.val (.long x0), .second, .val (.int x1), .val (.int x2), .val (.ref b1), .val (.ref b2), .val (.ref b35), .val (.int y7), .val (.int (1 : Int32))] [(.ref b35), (.ref b2), (.ref b1)]) _ _ _
  refine own_go (fun _ => XS.iload X47.here hx rfl (hb hby at_399) rfl) ?_
  show own_Fin _ _ _ _ T47 (mkF m 401 #[.val (.long x0), .second, .val (.int x1), .val (.int x2), .val (.ref b1), .val (.ref b2), .val (.ref b35), .val (.int y7), .val (.int (1 : Int32))] [(.int y7), (.ref b35), (.ref b2), (.ref b1)]) _ _ _
  refine own_go (fun _ => XS.bipush X47.here hx rfl (hb hby at_401)) ?_
  show own_Fin _ _ _ _ T47 (mkF m 403 #[.val (.long x0), .second, .val (.int x1), .val (.int x2), .val (.ref b1), .val (.ref b2), .val (.ref b35), .val (.int y7), .val (.int (1 : Int32))] [(.int (7 : Int32)), (.int y7), (.ref b35), (.ref b2), (.ref b1)]) _ _ _
  obtain ⟨_, _, ⟨T48, L48, k48, n48⟩, -, X48, ⟨Lc48, hQ48, l48, y48, z48⟩, st48⟩ := Jvm.LawKit.callS X47 hx (y := (⟨"com/example/hosts_to_firehose/hoststofirehose/io/WebSocketProtocolApplyMaskPinLaw", "ok", "([B[B[BII)Z"⟩ : MethodName)) hown (mvT hZ (hw _ (List.mem_of_getElem? (i := 10) rfl))) (mvT hZ (hw _ (List.mem_of_getElem? (i := 11) rfl))) (mvT hZ (hw _ (List.mem_of_getElem? (i := 3) rfl))) (mvT hZ (hw _ (List.mem_of_getElem? (i := 12) rfl))) (by decide) (backOf (W := 0) (rm3 l Z a0 hw [] b1 b2 b35 y7 (7 : Int32) (own_msk f32 f39 fn 8) f32 f39 fn 7 T40.heap n0 Zc40 B40 V40_b2 V40_b35 hfn rfl hle8 (by decide) (own_okp f32 f39 (by decide))) hZ (hw _ (List.mem_of_getElem? (i := 12) rfl)) (hw _ (List.mem_of_getElem? (i := 3) rfl)) (by decide) (by decide)) (g := (mkF m 403 #[.val (.long x0), .second, .val (.int x1), .val (.int x2), .val (.ref b1), .val (.ref b2), .val (.ref b35), .val (.int y7), .val (.int (1 : Int32))] [(.int (7 : Int32)), (.int y7), (.ref b35), (.ref b2), (.ref b1)])) rfl (by rw [hml]; rfl) (argsL := [(.ref b1), (.ref b2), (.ref b35), (.int y7), (.int (7 : Int32))]) (rest := []) (lenOf pd_2 rfl) rfl (by show 2 * 0 + _ ≤ _; exact Nat.le_of_eq rfl) (hb hby at_403) (fun _ _ => ⟨rfl, e47, (by decide : 3 + 0 ≤ _), (by decide : 20 + 0 ≤ _)⟩)
  dsimp only [Pt.U, Pt.locs, Pt.cells, Pt.slots] at X48 l48 y48 z48 st48 hQ48
  subst y48 z48
  obtain ⟨rfl, N48q, e48⟩ := hQ48
  have N48 : Fr n0 L48 := l48.symm ▸ Fr.app N47 N48q
  replace X48 : Stand p l e room_1 s m #[(.long x0), (.int x1), (.int x2)] below meth c T48 _ 3 20 := X48
  refine own_go st48 ?_
  show own_Fin _ _ _ _ T48 (mkF m 406 #[.val (.long x0), .second, .val (.int x1), .val (.int x2), .val (.ref b1), .val (.ref b2), .val (.ref b35), .val (.int y7), .val (.int (1 : Int32))] [(.int (1 : Int32))]) _ _ _
  refine own_go (fun _ => XS.ifNo X48.here hx rfl (hb hby at_406) rfl ((if0 _ _).trans (feq (show ¬ ((1 : Int32) = (0 : Int32)) from (by decide))).1)) ?_
  show own_Fin _ _ _ _ T48 (mkF m 409 #[.val (.long x0), .second, .val (.int x1), .val (.int x2), .val (.ref b1), .val (.ref b2), .val (.ref b35), .val (.int y7), .val (.int (1 : Int32))] []) _ _ _
  refine own_go (fun _ => XS.iconst X48.here hx rfl (hb hby at_409)) ?_
  show own_Fin _ _ _ _ T48 (mkF m 410 #[.val (.long x0), .second, .val (.int x1), .val (.int x2), .val (.ref b1), .val (.ref b2), .val (.ref b35), .val (.int y7), .val (.int (1 : Int32))] [(.int (1 : Int32))]) _ _ _
  refine own_go (fun _ => XS.goto X48.here hx rfl (pc0 := 410) (pc' := 414) rfl (hb hby at_410) (by decide) (by decide)) ?_
  show own_Fin _ _ _ _ T48 (mkF m 414 #[.val (.long x0), .second, .val (.int x1), .val (.int x2), .val (.ref b1), .val (.ref b2), .val (.ref b35), .val (.int y7), .val (.int (1 : Int32))] [(.int (1 : Int32))]) _ _ _
  exact own_retZ X48 hx hnl (t := .boolean) hret (by simp) (hb hby at_414) (by decide) (by decide) ⟨rfl, N48⟩

set_option maxRecDepth 65536 in
set_option maxHeartbeats 40000000 in
theorem comes_1 {Post : Tables → Env → Array Value → State → Outcome → State → Prop} (hpost : ∀ tb e args s v u, (limb_1_1.after args s (.returned v) u = true ∧ limb_1_2.after args s (.returned v) u = true) → FrameEnd s (.returned v) u (Jvm.fieldLocs frame_1_writes args s ++ Jvm.arrayLocs frame_1_arrays args s ++ Jvm.staticLocs frame_1_statics s) 16 128 → Post tb e args s (.returned v) u) :
    ArmFor flags0 classFile x code maxLocals ret World_1 tables_1 room_1 Calls_1 rest_1 Pre_1 Post := by
  intro l hfl _ _ p e ha hc hk s m args below hf hA hF happ hP
  obtain ⟨hcalls, hrest, hpre⟩ := hP
  obtain ⟨-, -, -, hnamed, -, -, -, hat⟩ := (Spec.applies_iff hf).mp happ
  obtain ⟨hg, hn⟩ := and_e (Cond.before_iff.mp (show (Jvm.Cond.and given_1 narrow_1).before args s = true from hpre))
  obtain ⟨gg1, gg2⟩ := and_e hg
  obtain ⟨gg3, gg4⟩ := and_e gg2
  obtain ⟨gg5, gg6⟩ := and_e gg4
  obtain ⟨w0, w1, w2, rfl⟩ : ∃ w0 w1 w2 : Value, args = #[w0, w1, w2] := by
    have hs : args.size = 3 := by simpa [Cond.value, given_1] using gg1
    obtain ⟨L⟩ := args
    match L, hs with
    | [w0, w1, w2], _ => exact ⟨w0, w1, w2, rfl⟩
  have hw := fun d (hd : d ∈ tables_1) => atoms_spec (ws := Jvm.Cond.code x code maxLocals ret :: tables_1) hat d (List.mem_cons_of_mem _ hd)
  obtain ⟨i0, ei0⟩ := isL_v gg3
  obtain rfl : w0 = (.long i0) := Option.some.inj ei0
  obtain ⟨i1, ei1⟩ := is_v gg5
  obtain rfl : w1 = (.int i1) := Option.some.inj ei1
  obtain ⟨i2, ei2⟩ := is_v gg6
  obtain rfl : w2 = (.int i2) := Option.some.inj ei2
  obtain ⟨n, o, h1, h2, h3, _, L, rfl, ⟨rfl, N⟩, hq⟩ := rm0 l s _ hw tables_1 i0 i1 i2 s.heap s.heap.size (Nat.le_refl _) p e ha hc hk s m _ below hf ((Spec.applies_iff_loose hf).mp happ).1 ⟨rfl, State.Warmed39.refl s, rfl⟩ trivial
  refine ⟨n, _, h1, h2, h3, hpost _ _ _ _ _ _ ⟨Cond.after_iff.mpr rfl, Cond.after_iff.mpr (eq_i res_at (Term.int_eval (1)) rfl)⟩ ⟨hq.1, hq.2.1, (hq.2.2.sift fun y hy => Or.inr (N y hy)).mono (by decide) (by decide)⟩⟩
theorem main_1_1 : Claimed_1_1 := comes_1 fun _ _ _ _ _ _ h hF => ⟨h.1, hF⟩
theorem main_1_2 : Claimed_1_2 := comes_1 fun _ _ _ _ _ _ h hF => ⟨h.2, hF⟩
end Jvm.Pilot.@@N@@
namespace Jvm.Pilot.@@N@@
open Jvm Jvm.ClassFile Sem Op Lib Jvm.Free Jvm.Stand Jvm.Pilot.@@N@@.Jvm.D
/-! MADE BY PROGRAM (witnessworld.py) out of the Statement's table words and the real class files: 9 classes; the members and pool entries that the words name. The judged class is class 1, her method 3. -/
namespace start1
open Jvm.ClassFile
def u (s : String) : CpInfo := .utf8 (stringToUtf16 s)
/-- a pool by its gaps: so many unusable entries, then the entry; so many at the end -/
def gap : Nat → List CpInfo → List CpInfo
  | 0, r => r
  | n + 1, r => .unusable :: gap n r
def poolList (es : List (Nat × CpInfo)) (last : Nat) : List CpInfo := es.foldr (fun e r => gap e.1 (e.2 :: r)) (gap last [])
def pool (es : List (Nat × CpInfo)) (last : Nat) : Array CpInfo := ⟨poolList es last⟩
def fileOf (pool : Array CpInfo) (this : Nat) (attrs : Array Attribute := #[]) (ms : Array MethodInfo := #[]) (fl : Nat := 33) (sup : Nat := 0) (ifs : Array Nat := #[]) (fds : Array FieldInfo := #[]) : ClassFile where
  minorVersion := 0
  majorVersion := 65
  constantPool := pool
  accessFlags := fl
  thisClass := this
  superClass := sup
  interfaces := ifs
  fields := fds
  methods := ms
  attributes := attrs
def plain (name : String) (sup : Option ClassId) : Class where
  name := name
  kind := .ordinary
  loader := none
  accessFlags := 33
  super := sup
  interfaces := #[]
  cf := none
  fields := #[]
  methods := #[]
  instanceTypes := #[]
  staticTypes := #[]
  resolved := #[]
  callSites := []
  init := .initialized
  statics := none
  mirror := none

def pool0 : Array CpInfo := pool [(5, u "<init>"), (0, u "()V"), (1, .class_ 10), (1, u "java/lang/Object")] 113

def k0m0 : Method := { name := "<init>", desc := "()V", sig := { parameters := [], returnType := none }, accessFlags := 1, code := none }
/-- java/lang/Object -/
def k0 : Class := { plain "java/lang/Object" none with
  accessFlags := 33
  interfaces := #[]
  cf := some (fileOf pool0 8 #[] #[{ accessFlags := 1, nameIndex := 5, descriptorIndex := 6, attributes := #[] }] 33 0 #[] #[])
  fields := #[]
  methods := #[k0m0]
  instanceTypes := #[]
  staticTypes := #[]
  resolved := Array.replicate 124 none
  statics := none }

def pool1 : Array CpInfo := pool [(2, .class_ 4), (1, u "java/lang/Object"), (0, u "<init>"), (0, u "()V"), (0, .methodref 8 9), (0, .class_ 10), (0, .nameAndType 11 12), (0, u "com/example/hosts_to_firehose/hoststofirehose/io/WebSocketProtocolApplyMaskPinLaw"), (0, u "b"), (0, u "(JI)B"), (0, .integer 2147483647), (0, .methodref 15 16), (0, .class_ 17), (0, .nameAndType 18 19), (0, u "com/example/hosts_to_firehose/hoststofirehose/io/WebSocketProtocol"), (0, u "applyMask"), (0, u "([BI[B)V"), (0, .methodref 8 21), (0, .nameAndType 22 23), (0, u "ok"), (0, u "([B[B[BII)Z"), (3, u "law"), (0, u "(JII)Z")] 4

def k1m0 : Method := { name := "<init>", desc := "()V", sig := { parameters := [], returnType := none }, accessFlags := 1, code := none }
def k1c1 : Code := { maxStack := 3, maxLocals := 3, code := method_2_code, exceptionTable := #[], attributes := #[] }
def k1m1 : Method := { name := "b", desc := "(JI)B", sig := { parameters := [.long, .int], returnType := some .byte }, accessFlags := 10, code := some k1c1 }
def k1c2 : Code := { maxStack := 5, maxLocals := 5, code := method_3_code, exceptionTable := #[], attributes := #[] }
def k1m2 : Method := { name := "ok", desc := "([B[B[BII)Z", sig := { parameters := [(.array .byte), (.array .byte), (.array .byte), .int, .int], returnType := some .boolean }, accessFlags := 10, code := some k1c2 }
def k1c3 : Code := { maxStack := 5, maxLocals := 9, code := code, exceptionTable := #[], attributes := #[] }
def k1m3 : Method := { name := "law", desc := "(JII)Z", sig := { parameters := [.long, .int, .int], returnType := some .boolean }, accessFlags := 9, code := some k1c3 }
/-- com/example/hosts_to_firehose/hoststofirehose/io/WebSocketProtocolApplyMaskPinLaw -/
def k1 : Class := { plain "com/example/hosts_to_firehose/hoststofirehose/io/WebSocketProtocolApplyMaskPinLaw" (some 0) with
  accessFlags := 49
  interfaces := #[]
  cf := some (fileOf pool1 8 #[] #[{ accessFlags := 1, nameIndex := 5, descriptorIndex := 6, attributes := #[] }, { accessFlags := 10, nameIndex := 11, descriptorIndex := 12, attributes := #[] }, { accessFlags := 10, nameIndex := 22, descriptorIndex := 23, attributes := #[] }, { accessFlags := 9, nameIndex := 27, descriptorIndex := 28, attributes := #[] }] 49 2 #[] #[])
  fields := #[]
  methods := #[k1m0, k1m1, k1m2, k1m3]
  instanceTypes := #[]
  staticTypes := #[]
  resolved := Array.replicate 33 none
  statics := none }

def pool2 : Array CpInfo := pool [(2, .class_ 4), (1, u "java/lang/Object"), (0, u "<init>"), (0, u "()V"), (1, .class_ 10), (1, u "com/example/hosts_to_firehose/hoststofirehose/io/WebSocketProtocol"), (43, .class_ 55), (0, u "com/example/hosts_to_firehose/hoststofirehose/io/WebSocketProtocol$FrameHeader"), (29, u "applyMask"), (0, u "([BI[B)V"), (64, u "OPCODE_CONTINUATION"), (0, u "I"), (2, u "OPCODE_TEXT"), (1, u "OPCODE_BINARY"), (1, u "OPCODE_CLOSE"), (1, u "OPCODE_PING"), (1, u "OPCODE_PONG"), (1, u "MAX_CONTROL_PAYLOAD"), (1, u "CLOSE_PROTOCOL_ERROR"), (1, u "UPGRADE_FIELDS"), (0, u "Ljava/lang/String;"), (2, u "MASK_BYTES"), (1, u "FINAL_FRAGMENT"), (1, u "RESERVED_BITS"), (1, u "MASKED"), (0, u "MAX_SEVEN_BIT_LENGTH"), (0, u "SIXTEEN_BIT_LENGTH"), (1, u "SIXTY_FOUR_BIT_LENGTH"), (1, u "ACCEPT_GUID")] 36

def k2m0 : Method := { name := "<init>", desc := "()V", sig := { parameters := [], returnType := none }, accessFlags := 2, code := none }
def k2c1 : Code := { maxStack := 6, maxLocals := 4, code := prog_21_method_6_code, exceptionTable := #[], attributes := #[] }
def k2m1 : Method := { name := "applyMask", desc := "([BI[B)V", sig := { parameters := [(.array .byte), .int, (.array .byte)], returnType := none }, accessFlags := 8, code := some k2c1 }
/-- com/example/hosts_to_firehose/hoststofirehose/io/WebSocketProtocol -/
def k2 : Class := { plain "com/example/hosts_to_firehose/hoststofirehose/io/WebSocketProtocol" (some 0) with
  accessFlags := 48
  interfaces := #[]
  cf := some (fileOf pool2 8 #[.nestMembers #[54]] #[{ accessFlags := 2, nameIndex := 5, descriptorIndex := 6, attributes := #[] }, { accessFlags := 8, nameIndex := 85, descriptorIndex := 86, attributes := #[] }] 48 2 #[] #[{ accessFlags := 24, nameIndex := 151, descriptorIndex := 152, attributes := #[] }, { accessFlags := 24, nameIndex := 155, descriptorIndex := 152, attributes := #[] }, { accessFlags := 24, nameIndex := 157, descriptorIndex := 152, attributes := #[] }, { accessFlags := 24, nameIndex := 159, descriptorIndex := 152, attributes := #[] }, { accessFlags := 24, nameIndex := 161, descriptorIndex := 152, attributes := #[] }, { accessFlags := 24, nameIndex := 163, descriptorIndex := 152, attributes := #[] }, { accessFlags := 24, nameIndex := 165, descriptorIndex := 152, attributes := #[] }, { accessFlags := 24, nameIndex := 167, descriptorIndex := 152, attributes := #[] }, { accessFlags := 24, nameIndex := 169, descriptorIndex := 170, attributes := #[] }, { accessFlags := 24, nameIndex := 173, descriptorIndex := 152, attributes := #[] }, { accessFlags := 26, nameIndex := 175, descriptorIndex := 152, attributes := #[] }, { accessFlags := 26, nameIndex := 177, descriptorIndex := 152, attributes := #[] }, { accessFlags := 26, nameIndex := 179, descriptorIndex := 152, attributes := #[] }, { accessFlags := 26, nameIndex := 180, descriptorIndex := 152, attributes := #[] }, { accessFlags := 26, nameIndex := 181, descriptorIndex := 152, attributes := #[] }, { accessFlags := 26, nameIndex := 183, descriptorIndex := 152, attributes := #[] }, { accessFlags := 26, nameIndex := 185, descriptorIndex := 170, attributes := #[] }])
  fields := #[{ name := "OPCODE_CONTINUATION", type := .int, accessFlags := 24, slot := 0, constantValue := 0 }, { name := "OPCODE_TEXT", type := .int, accessFlags := 24, slot := 1, constantValue := 0 }, { name := "OPCODE_BINARY", type := .int, accessFlags := 24, slot := 2, constantValue := 0 }, { name := "OPCODE_CLOSE", type := .int, accessFlags := 24, slot := 3, constantValue := 0 }, { name := "OPCODE_PING", type := .int, accessFlags := 24, slot := 4, constantValue := 0 }, { name := "OPCODE_PONG", type := .int, accessFlags := 24, slot := 5, constantValue := 0 }, { name := "MAX_CONTROL_PAYLOAD", type := .int, accessFlags := 24, slot := 6, constantValue := 0 }, { name := "CLOSE_PROTOCOL_ERROR", type := .int, accessFlags := 24, slot := 7, constantValue := 0 }, { name := "UPGRADE_FIELDS", type := (.object "java/lang/String"), accessFlags := 24, slot := 8, constantValue := 0 }, { name := "MASK_BYTES", type := .int, accessFlags := 24, slot := 9, constantValue := 0 }, { name := "FINAL_FRAGMENT", type := .int, accessFlags := 26, slot := 10, constantValue := 0 }, { name := "RESERVED_BITS", type := .int, accessFlags := 26, slot := 11, constantValue := 0 }, { name := "MASKED", type := .int, accessFlags := 26, slot := 12, constantValue := 0 }, { name := "MAX_SEVEN_BIT_LENGTH", type := .int, accessFlags := 26, slot := 13, constantValue := 0 }, { name := "SIXTEEN_BIT_LENGTH", type := .int, accessFlags := 26, slot := 14, constantValue := 0 }, { name := "SIXTY_FOUR_BIT_LENGTH", type := .int, accessFlags := 26, slot := 15, constantValue := 0 }, { name := "ACCEPT_GUID", type := (.object "java/lang/String"), accessFlags := 26, slot := 16, constantValue := 0 }]
  methods := #[k2m0, k2m1]
  instanceTypes := #[]
  staticTypes := #[.int, .int, .int, .int, .int, .int, .int, .int, (.object "java/lang/String"), .int, .int, .int, .int, .int, .int, .int, (.object "java/lang/String")]
  resolved := Array.replicate 222 none
  statics := none }

def pool3 : Array CpInfo := pool [(1, u "java/lang/Cloneable"), (0, .class_ 1), (0, u "java/lang/Object"), (0, .class_ 3)] 3

/-- java/lang/Cloneable -/
def k3 : Class := { plain "java/lang/Cloneable" (some 0) with
  accessFlags := 1537
  interfaces := #[]
  cf := some (fileOf pool3 2 #[] #[] 1537 4 #[] #[])
  fields := #[]
  methods := #[]
  instanceTypes := #[]
  staticTypes := #[]
  resolved := Array.replicate 8 none
  statics := none }

def pool4 : Array CpInfo := pool [(1, u "java/io/Serializable"), (0, .class_ 1), (0, u "java/lang/Object"), (0, .class_ 3)] 3

/-- java/io/Serializable -/
def k4 : Class := { plain "java/io/Serializable" (some 0) with
  accessFlags := 1537
  interfaces := #[]
  cf := some (fileOf pool4 2 #[] #[] 1537 4 #[] #[])
  fields := #[]
  methods := #[]
  instanceTypes := #[]
  staticTypes := #[]
  resolved := Array.replicate 8 none
  statics := none }

/-- the primitive byte -/
def k5 : Class := { plain "byte" none with kind := .primitive 'B', accessFlags := 0x411 }
/-- [B -/
def k6 : Class := { plain "[B" (some 0) with kind := .array 5 .byte, interfaces := #[3, 4], accessFlags := 1041 }

/-- the primitive int -/
def k7 : Class := { plain "int" none with kind := .primitive 'I', accessFlags := 0x411 }
/-- [I -/
def k8 : Class := { plain "[I" (some 0) with kind := .array 7 .int, interfaces := #[3, 4], accessFlags := 1041 }

def heap : Heap := #[]
def classes : Array Class := #[k0, k1, k2, k3, k4, k5, k6, k7, k8]
def interned : List (Array UInt16 × Addr) := []
def slotsUsed : Nat := 0
def theMethod : MethodId := ⟨1, 3⟩
def args0 : Array Value := #[.long 5, .int 7, .int 1]
def aboutOver (below : List Frame) : State where
  vm := { classes := classes, interned := interned.toArray }
  heap := heap
  slotsUsed := slotsUsed
  threads := #[{ frames := .invoking theMethod args0 :: below }]
def below0 : List Frame := [.native { method := ⟨0, 0⟩, args := #[] }]
def about1 : State := aboutOver below0
def p0 : Program := .bare "" "" ""
def e0 : Env := launch0.env 0 0 0
theorem w_frames : about1.frames = Frame.invoking theMethod args0 :: below0 := rfl
set_option maxRecDepth 65536 in
theorem w_args : argsFit about1.vm theMethod args0 = true := by decide +kernel
set_option maxRecDepth 65536 in
theorem w_heap : heapFits about1 = true := by decide +kernel
set_option maxRecDepth 65536 in
theorem w_runnable : about1.curStatus? = some .runnable := by decide +kernel
set_option maxRecDepth 65536 in
theorem w_alone : about1.alone = true := by decide +kernel
set_option maxRecDepth 65536 in
theorem w_named : about1.methodNamed? x = some theMethod := by decide +kernel
set_option maxRecDepth 65536 in
theorem w_hears : about1.hears theMethod below0 = true := by decide +kernel
set_option maxRecDepth 65536 in
theorem w_ripe : about1.ripe theMethod args0 below0 = true := by decide +kernel
theorem w_running : about1.status = .running := rfl
set_option maxRecDepth 65536 in
theorem w_room : about1.hasRoom e0.platform room_1 = true :=
  launch0.hasRoom_least _ room_1 (by decide +kernel) (by decide +kernel) (by decide +kernel) (by decide +kernel) (by decide +kernel) (by decide +kernel)
theorem allAtoms_all (ts : List Jvm.Cond) (a : Array Jvm.Value) (st : Jvm.State) : (allAtoms ts).before a st = ts.all (fun c => c.before a st) := by
  induction ts with
  | nil => rfl
  | cons c t ih =>
    show (Jvm.Cond.and c (allAtoms t)).before a st = _
    rw [Jvm.Cond.before_and, ih, List.all_cons]
def words1 : List Jvm.Cond := Jvm.Cond.code x code maxLocals ret :: tables_1
/-- a 'code' word, met by the world's own term for the bytes: nothing is compared byte by byte -/
theorem code_word {y : MethodName} {bytes : ByteArray} {mx : Nat} {rt : Option FieldType} {a : Array Value} {s : State} {m : MethodId} {meth : Method} {c : Code} (h1 : s.methodNamed? y = some m) (h2 : s.vm.method? m = some meth) (h3 : meth.code = some c) (h4 : c.code = bytes)
    (h5 : (c.maxLocals == mx && c.exceptionTable.isEmpty && decide (c.maxStack ≤ mostOperands) && decide (meth.sig.returnType = rt) && !meth.locks && decide (parseMethodDescriptor y.desc = some meth.sig)) = true) : (Jvm.Cond.code y bytes mx rt).before a s = true := by
  simp only [Bool.and_eq_true, beq_iff_eq, Bool.not_eq_true', decide_eq_true_eq] at h5
  obtain ⟨⟨⟨⟨⟨g1, g2⟩, g3⟩, g4⟩, g5⟩, g6⟩ := h5
  simp [Cond.before, Cond.holds, Cond.value, h1, h2, h3, h4, g1, g2, g3, g4, g5, g6]
def isCode : Jvm.Cond → Bool
  | .code _ _ _ _ => true
  | _ => false
theorem all_split {L : List Jvm.Cond} {P : Jvm.Cond → Bool} (h1 : L.all (fun c => isCode c || P c) = true) (h2 : ∀ c ∈ L.filter isCode, P c = true) : L.all P = true := by
  refine List.all_eq_true.mpr fun c hc => ?_
  have h := List.all_eq_true.mp h1 c hc
  rcases Bool.eq_false_or_eq_true (isCode c) with hi | hi
  · exact h2 c (List.mem_filter.mpr ⟨hc, hi⟩)
  · simpa [hi] using h
set_option maxRecDepth 65536 in
theorem w_c0 : (Jvm.Cond.code x code maxLocals ret).before args0 about1 = true := code_word (m := ⟨1, 3⟩) (meth := k1m3) (c := k1c3) (by decide +kernel) rfl rfl rfl (by decide +kernel)
set_option maxRecDepth 65536 in
theorem w_c1 : (Jvm.Cond.code ({ cls := "com/example/hosts_to_firehose/hoststofirehose/io/WebSocketProtocolApplyMaskPinLaw", name := "b", desc := "(JI)B" } : Jvm.MethodName) method_2_code (3 : Nat) (Option.some Jvm.ClassFile.FieldType.byte)).before args0 about1 = true := code_word (m := ⟨1, 1⟩) (meth := k1m1) (c := k1c1) (by decide +kernel) rfl rfl rfl (by decide +kernel)
set_option maxRecDepth 65536 in
theorem w_c2 : (Jvm.Cond.code ({ cls := "com/example/hosts_to_firehose/hoststofirehose/io/WebSocketProtocol", name := "applyMask", desc := "([BI[B)V" } : Jvm.MethodName) prog_21_method_6_code (4 : Nat) (Option.none : Option Jvm.ClassFile.FieldType)).before args0 about1 = true := code_word (m := ⟨2, 1⟩) (meth := k2m1) (c := k2c1) (by decide +kernel) rfl rfl rfl (by decide +kernel)
set_option maxRecDepth 65536 in
theorem w_c3 : (Jvm.Cond.code ({ cls := "com/example/hosts_to_firehose/hoststofirehose/io/WebSocketProtocolApplyMaskPinLaw", name := "ok", desc := "([B[B[BII)Z" } : Jvm.MethodName) method_3_code (5 : Nat) (Option.some Jvm.ClassFile.FieldType.boolean)).before args0 about1 = true := code_word (m := ⟨1, 2⟩) (meth := k1m2) (c := k1c2) (by decide +kernel) rfl rfl rfl (by decide +kernel)
def codes1 : List Jvm.Cond := [Jvm.Cond.code x code maxLocals ret, Jvm.Cond.code ({ cls := "com/example/hosts_to_firehose/hoststofirehose/io/WebSocketProtocolApplyMaskPinLaw", name := "b", desc := "(JI)B" } : Jvm.MethodName) method_2_code (3 : Nat) (Option.some Jvm.ClassFile.FieldType.byte), Jvm.Cond.code ({ cls := "com/example/hosts_to_firehose/hoststofirehose/io/WebSocketProtocol", name := "applyMask", desc := "([BI[B)V" } : Jvm.MethodName) prog_21_method_6_code (4 : Nat) (Option.none : Option Jvm.ClassFile.FieldType), Jvm.Cond.code ({ cls := "com/example/hosts_to_firehose/hoststofirehose/io/WebSocketProtocolApplyMaskPinLaw", name := "ok", desc := "([B[B[BII)Z" } : Jvm.MethodName) method_3_code (5 : Nat) (Option.some Jvm.ClassFile.FieldType.boolean)]
set_option maxRecDepth 65536 in
theorem codes_eq : words1.filter isCode = codes1 := rfl
theorem w_codes : ∀ c ∈ words1.filter isCode, c.before args0 about1 = true := by
  rw [codes_eq]
  intro c hc
  simp only [codes1, List.mem_cons, List.not_mem_nil, or_false] at hc
  rcases hc with rfl | rfl | rfl | rfl
  · exact w_c0
  · exact w_c1
  · exact w_c2
  · exact w_c3
set_option maxRecDepth 65536 in
theorem w_t1 : words1.all (fun c => isCode c || c.before args0 about1) = true := by decide +kernel
theorem w_tables : (allAtoms (Jvm.Cond.code x code maxLocals ret :: tables_1)).before args0 about1 = true := by
  rw [allAtoms_all]
  show words1.all (fun c => c.before args0 about1) = true
  refine all_split ?_ w_codes
  rw [w_t1]
set_option maxRecDepth 65536 in
theorem w_case : (Jvm.Cond.and given_1 narrow_1).before args0 about1 = true := by decide +kernel
theorem w_applies : (headSpec (Jvm.Cond.code x code maxLocals ret :: tables_1) room_1).applies x e0.platform about1 = true :=
  (Spec.applies_iff w_frames).mpr ⟨w_running, w_runnable, w_alone, w_named, w_hears, w_ripe, w_room, w_tables⟩
theorem atStart : AtStart classFile x code maxLocals ret World_1 tables_1 room_1 Calls_1 rest_1 Pre_1 launch0 p0 e0 about1 theMethod args0 below0 :=
  ⟨lists_1, trivial, launch0.admits_env _ _ _, launch0.least_env, fairChoices_fair.cas, fairChoices_fair.clock, w_frames, w_args, w_heap, w_applies, trivial, trivial, w_case⟩
end start1
theorem witness_1 : WitnessClaimed_1 := ⟨start1.p0, start1.e0, start1.about1, start1.theMethod, start1.args0, start1.below0, start1.atStart⟩
end Jvm.Pilot.@@N@@
