import JvmDerived
import JvmDerived.Pilot.@@N@@Statement
import JvmDerived.Pilot.@@N@@Code
set_option linter.unusedVariables false
set_option linter.unusedSimpArgs false
namespace Jvm.Pilot.@@N@@
open Jvm Jvm.ClassFile Sem Op Lib Jvm.Free Jvm.Stand Jvm.LawKit Jvm.RoadKit Bundle Jvm.Pilot.@@N@@.Jvm.D
section Own
variable {p : Program} {l : Launch} {e : Env} {R : Room} {s : State} {m : MethodId} {args : Array Value} {below : List Frame} {meth : Method} {c : Code} {T : State} {locs : List Loc} {cells slots : Nat} {C N : Nat} {Q : Option Value → Heap → List Loc → Prop} {V V' : State}
/-- from the state V the method comes to its return, and leaves what Q says -/
def own_Run (p : Program) (e : Env) (below : List Frame) (s : State) (C N : Nat) (Q : Option Value → Heap → List Loc → Prop) (V : State) : Prop :=
  ∃ s₂ o, Steps p.tables e below V s₂ ∧ s₂.status = .running ∧ Ended s₂ below o ∧ ∃ v L, o = .returned v ∧ Q v s₂.heap L ∧ FrameEnd s o s₂ L C N
theorem own_of (k : ∀ t, Steps p.tables e below V' t → Steps p.tables e below V t) (r : own_Run p e below s C N Q V') : own_Run p e below s C N Q V := by
  obtain ⟨s₂, o, h, q⟩ := r
  exact ⟨s₂, o, k _ h, q⟩
theorem own_tr (k : Steps p.tables e below V V') (r : own_Run p e below s C N Q V') : own_Run p e below s C N Q V := own_of (fun _ h => k.trans h) r
theorem own_cast {g g' : JFrame} (q : g = g') (r : own_Run p e below s C N Q (T.setTop g')) : own_Run p e below s C N Q (T.setTop g) := q ▸ r
theorem own_ret (X : Stand p l e R s m args below meth c T locs cells slots) (hx : p.tables.exec = Jvm.exec) {pc : Nat} {Ls : Array Slot} {w : Value} {t : FieldType} {i : Instr} {rest : List Value} (hret : meth.sig.returnType = some t) (hlk : meth.locks = false) (hn : narrow t w = w)
    (hi : (i = .ireturn ∧ (t = .int ∨ t = .boolean ∨ t = .byte ∨ t = .char ∨ t = .short) ∧ ∃ z, w = .int z) ∨ (i = .lreturn ∧ t = .long ∧ ∃ z, w = .long z) ∨ (i = .dreturn ∧ t = .double ∧ ∃ z, w = .double z) ∨ (i = .freturn ∧ t = .float ∧ ∃ z, w = .float z) ∨ (i = .areturn ∧ t.isReference = true ∧ w.isRef = true))
    (hd : decode c.code pc = .ok (i, 1)) (q : Q (some w) T.heap locs) (hc : cells ≤ C) (hs : slots ≤ N) : own_Run p e below s C N Q (T.setTop (mkF m pc Ls (w :: rest))) := by
  obtain ⟨fs, hr, hrun, hended, hW, hsame⟩ := X.leave (v := some w) (fun h => by rw [hret] at h; cases h) hlk
  exact ⟨_, _, retOut X hx hret hn hi hd hr, hrun, hended, _, _, rfl, q, ⟨_, rfl⟩, hW, hsame.mono hc hs⟩
theorem own_retI (X : Stand p l e R s m args below meth c T locs cells slots) (hx : p.tables.exec = Jvm.exec) {pc : Nat} {Ls : Array Slot} {z : Int32} {rest : List Value} (hret : meth.sig.returnType = some .int) (hlk : meth.locks = false)
    (hd : decode c.code pc = .ok (.ireturn, 1)) (q : Q (some (.int z)) T.heap locs) (hc : cells ≤ C) (hs : slots ≤ N) : own_Run p e below s C N Q (T.setTop (mkF m pc Ls (.int z :: rest))) :=
  own_ret X hx hret hlk rfl (Or.inl ⟨rfl, Or.inl rfl, z, rfl⟩) hd q hc hs
theorem own_retJ (X : Stand p l e R s m args below meth c T locs cells slots) (hx : p.tables.exec = Jvm.exec) {pc : Nat} {Ls : Array Slot} {z : Int64} {rest : List Value} (hret : meth.sig.returnType = some .long) (hlk : meth.locks = false)
    (hd : decode c.code pc = .ok (.lreturn, 1)) (q : Q (some (.long z)) T.heap locs) (hc : cells ≤ C) (hs : slots ≤ N) : own_Run p e below s C N Q (T.setTop (mkF m pc Ls (.long z :: rest))) :=
  own_ret X hx hret hlk rfl (Or.inr (Or.inl ⟨rfl, rfl, z, rfl⟩)) hd q hc hs
theorem own_retN (X : Stand p l e R s m args below meth c T locs cells slots) (hx : p.tables.exec = Jvm.exec) {pc : Nat} {Ls : Array Slot} {z : Int32} {t : FieldType} {rest : List Value} (hret : meth.sig.returnType = some t) (hlk : meth.locks = false) (ht : t = .boolean ∨ t = .byte ∨ t = .char ∨ t = .short)
    (hd : decode c.code pc = .ok (.ireturn, 1)) (q : Q (some (.int (nar t z))) T.heap locs) (hc : cells ≤ C) (hs : slots ≤ N) : own_Run p e below s C N Q (T.setTop (mkF m pc Ls (.int z :: rest))) := by
  obtain ⟨fs, hr, hrun, hended, hW, hsame⟩ := X.leave (v := some (.int (nar t z))) (fun h => by rw [hret] at h; cases h) hlk
  exact ⟨_, _, retN X hx hret ht hd hr, hrun, hended, _, _, rfl, q, ⟨_, rfl⟩, hW, hsame.mono hc hs⟩
theorem own_retV (X : Stand p l e R s m args below meth c T locs cells slots) (hx : p.tables.exec = Jvm.exec) {pc : Nat} {Ls : Array Slot} (hret : meth.sig.returnType = none) (hlk : meth.locks = false)
    (hd : decode c.code pc = .ok (.return_, 1)) (q : Q none T.heap locs) (hc : cells ≤ C) (hs : slots ≤ N) : own_Run p e below s C N Q (T.setTop (mkF m pc Ls [])) := by
  obtain ⟨fs, hr, hrun, hended, hW, hsame⟩ := X.leave (v := none) (fun _ => rfl) hlk
  exact ⟨_, _, X.returnOut hx hret hd hr, hrun, hended, _, _, rfl, q, ⟨_, rfl⟩, hW, hsame.mono hc hs⟩
end Own
section OwnArrays
variable {p : Program} {l : Launch} {e : Env} {R : Room} {s : State} {m : MethodId} {args : Array Value} {below : List Frame} {meth : Method} {c : Code} {T : State} {locs : List Loc} {cells slots : Nat} {C N : Nat} {Q : Option Value → Heap → List Loc → Prop} {Z : State} {h h' : Heap} {a b : Addr} {ty : FieldType} {n : Nat} {f g : Nat → Int32} {v : Value} {sl : Nat} {ws : List Addr}
/-- in the heap h, at a, an array of the kind ty and n places; its place i holds the int f i -/
def own_Ar (Z : State) (h : Heap) (a : Addr) (ty : FieldType) (n : Nat) (f : Nat → Int32) : Prop := ∃ c : Cell, Arr Z h a c ty ∧ c.slots.size = n ∧ ∀ i, i < n → c.slots[i]? = some (.int (f i))
def own_up (f : Nat → Int32) (j : Nat) (v : Int32) : Nat → Int32 := fun i => if i = j then v else f i
theorem own_Ar.lt (F : own_Ar Z h a ty n f) : a < h.size := by obtain ⟨c, A, -⟩ := F; exact A.lt
theorem own_Ar.ext (F : own_Ar Z h a ty n f) (E : Ext h h') : own_Ar Z h' a ty n f := by obtain ⟨c, A, r⟩ := F; exact ⟨c, A.ext E, r⟩
theorem own_Ar.other (F : own_Ar Z h b ty n f) (W : Wr h h' a sl v) (q : b ≠ a) : own_Ar Z h' b ty n f := by obtain ⟨c, A, r⟩ := F; exact ⟨c, A.other W q, r⟩
theorem own_Ar.keep (F : own_Ar Z h a ty n f) (K : Keep h h' ws) (q : a ∉ ws) : own_Ar Z h' a ty n f := by obtain ⟨c, A, r⟩ := F; exact ⟨c, ⟨K.2.1 a c A.1 q, A.2⟩, r⟩
theorem own_Ar.congr (F : own_Ar Z h a ty n f) (q : ∀ i, i < n → f i = g i) : own_Ar Z h a ty n g := by obtain ⟨c, A, r, H⟩ := F; exact ⟨c, A, r, fun i hi => by rw [← q i hi]; exact H i hi⟩
theorem own_Ar.new {k : ClassId} {z : Int32} (A : Arr Z h a (newA k ty z) ty) (hd : defaultValue ty = .int 0) (hn : z.toNatClampNeg = n) : own_Ar Z h a ty n (fun _ => 0) :=
  ⟨_, A, by rw [sz_new, hn], fun i hi => by simp [newA, hd, hn, hi]⟩
theorem own_Ar.set {w : Int32} {j : Nat} (F : own_Ar Z h a ty n f) (W : Wr h h' a j (.int w)) (hj : j < n) : own_Ar Z h' a ty n (own_up f j w) := by
  obtain ⟨c, A, r, H⟩ := F
  refine ⟨_, A.same W, by rw [sz_set]; exact r, fun i hi => ?_⟩
  by_cases q : i = j
  · subst q
    simp [own_up, Cell.setSlot, r, hi]
  · rw [show (c.setSlot j (.int w)).slots[i]? = c.slots[i]? from Array.getElem?_setIfInBounds_ne (Ne.symm q)]
    simp [own_up, q, H i hi]
theorem own_bal (X : Stand p l e R s m args below meth c T locs cells slots) (hx : p.tables.exec = Jvm.exec) (hZ : Z.Warmed39 s.vm) (eT : T.heap = h) (A : own_Ar Z h a .byte n f) {j w : Int32} (h1 : ¬ j < 0) (h2 : j.toNatClampNeg < n) (hv : f j.toNatClampNeg = w)
    {pc : Nat} {Ls : Array Slot} {rest : List Value} (hd : decode c.code pc = .ok (.baload, 1)) (r : own_Run p e below s C N Q (T.setTop (mkF m (pc + 1) Ls (.int w :: rest)))) : own_Run p e below s C N Q (T.setTop (mkF m pc Ls (.int j :: .ref a :: rest))) := by
  obtain ⟨c, A, S, H⟩ := A
  subst hv
  exact own_of (fun t k => X.baloadBytes hx (j := j) (v := .int (f j.toNatClampNeg)) (by rw [eT]; exact A.1) (State.isArrayOf_alike hZ.alike A.2.1) A.2.2 (by rw [S]; exact fun q => q.elim h1 (Nat.not_le.mpr h2)) (H _ h2) (g := mkF m pc Ls (.int j :: .ref a :: rest)) rfl rfl hd t k) r
theorem own_ial (X : Stand p l e R s m args below meth c T locs cells slots) (hx : p.tables.exec = Jvm.exec) (hZ : Z.Warmed39 s.vm) (eT : T.heap = h) (A : own_Ar Z h a .int n f) {j w : Int32} (h1 : ¬ j < 0) (h2 : j.toNatClampNeg < n) (hv : f j.toNatClampNeg = w)
    {pc : Nat} {Ls : Array Slot} {rest : List Value} (hd : decode c.code pc = .ok (.iaload, 1)) (r : own_Run p e below s C N Q (T.setTop (mkF m (pc + 1) Ls (.int w :: rest)))) : own_Run p e below s C N Q (T.setTop (mkF m pc Ls (.int j :: .ref a :: rest))) := by
  obtain ⟨c, A, S, H⟩ := A
  subst hv
  exact own_of (fun t k => X.iaload hx (j := j) (v := .int (f j.toNatClampNeg)) (by rw [eT]; exact A.1) (State.isArrayOf_alike hZ.alike A.2.1) A.2.2 (by rw [S]; exact fun q => q.elim h1 (Nat.not_le.mpr h2)) (H _ h2) (g := mkF m pc Ls (.int j :: .ref a :: rest)) rfl rfl hd t k) r
theorem own_alen (X : Stand p l e R s m args below meth c T locs cells slots) (hx : p.tables.exec = Jvm.exec) (hZ : Z.Warmed39 s.vm) (eT : T.heap = h) (A : own_Ar Z h a ty n f) {w : Int32} (hv : n.toInt32 = w)
    {pc : Nat} {Ls : Array Slot} {rest : List Value} (hd : decode c.code pc = .ok (.arraylength, 1)) (r : own_Run p e below s C N Q (T.setTop (mkF m (pc + 1) Ls (.int w :: rest)))) : own_Run p e below s C N Q (T.setTop (mkF m pc Ls (.ref a :: rest))) := by
  obtain ⟨c, A, S, H⟩ := A
  subst hv S
  exact own_of (fun t k => X.arraylength hx (by rw [eT]; exact A.1) (State.isArrayOf_alike hZ.alike A.2.1) (g := mkF m pc Ls (.ref a :: rest)) rfl rfl hd t k) r
theorem own_bas (X : Stand p l e R s m args below meth c T locs cells slots) (hx : p.tables.exec = Jvm.exec) (hZ : Z.Warmed39 s.vm) (eT : T.heap = h) (A : own_Ar Z h a .byte n f) {j x : Int32} (h1 : ¬ j < 0) (h2 : j.toNatClampNeg < n)
    {pc : Nat} {Ls : Array Slot} {rest : List Value} (hd : decode c.code pc = .ok (.bastore, 1)) :
    ∃ T' h', Stand p l e R s m args below meth c T' (locs ++ [⟨a, j.toNatClampNeg⟩]) cells slots ∧ T'.heap = h' ∧ Wr h h' a j.toNatClampNeg (.int x.toInt8.toInt32) ∧ own_Ar Z h' a .byte n (own_up f j.toNatClampNeg x.toInt8.toInt32) ∧
      ∀ t, Steps p.tables e below (T'.setTop (mkF m (pc + 1) Ls rest)) t → Steps p.tables e below (T.setTop (mkF m pc Ls (.int x :: .int j :: .ref a :: rest))) t := by
  obtain ⟨c, A, S, H⟩ := id A
  obtain ⟨T', h', X', e', W, st⟩ := stB X hx hZ eT A (j := j) (x := x) (by rw [S]; exact fun q => q.elim h1 (Nat.not_le.mpr h2)) (g := mkF m pc Ls (.int x :: .int j :: .ref a :: rest)) rfl rfl hd
  exact ⟨T', h', X', e', W, own_Ar.set ⟨c, A, S, H⟩ W h2, st⟩
theorem own_ias (X : Stand p l e R s m args below meth c T locs cells slots) (hx : p.tables.exec = Jvm.exec) (hZ : Z.Warmed39 s.vm) (eT : T.heap = h) (A : own_Ar Z h a .int n f) {j x : Int32} (h1 : ¬ j < 0) (h2 : j.toNatClampNeg < n)
    {pc : Nat} {Ls : Array Slot} {rest : List Value} (hd : decode c.code pc = .ok (.iastore, 1)) :
    ∃ T' h', Stand p l e R s m args below meth c T' (locs ++ [⟨a, j.toNatClampNeg⟩]) cells slots ∧ T'.heap = h' ∧ Wr h h' a j.toNatClampNeg (.int x) ∧ own_Ar Z h' a .int n (own_up f j.toNatClampNeg x) ∧
      ∀ t, Steps p.tables e below (T'.setTop (mkF m (pc + 1) Ls rest)) t → Steps p.tables e below (T.setTop (mkF m pc Ls (.int x :: .int j :: .ref a :: rest))) t := by
  obtain ⟨c, A, S, H⟩ := id A
  obtain ⟨T', h', X', e', W, st⟩ := stI X hx hZ eT A (j := j) (x := x) (by rw [S]; exact fun q => q.elim h1 (Nat.not_le.mpr h2)) (g := mkF m pc Ls (.int x :: .int j :: .ref a :: rest)) rfl rfl hd
  exact ⟨T', h', X', e', W, own_Ar.set ⟨c, A, S, H⟩ W h2, st⟩
end OwnArrays
theorem own_l0 : (0 : Int64).toInt = 0 := rfl
theorem own_l1 : (1 : Int64).toInt = 1 := rfl
theorem own_l5 : (5 : Int64).toInt = 5 := rfl
theorem own_i1 : (1 : Int32).toInt = 1 := rfl
def own_maxI (a b : Int32) : Int32 := if a < b then b else a
def own_sq (n d : Int32) : Int64 := (n.toInt64 * n.toInt64) / ((5 : Int64) * d.toInt64)
theorem own_sqb (a M : Int) (h1 : 0 ≤ a) (h2 : a ≤ M) : 0 ≤ a * a ∧ a * a ≤ M * M := ⟨Int.mul_nonneg h1 h1, Int.mul_le_mul h2 h2 h1 (by omega)⟩
theorem own_mulself (x : Int64) (h1 : 0 ≤ x.toInt) (h2 : x.toInt ≤ 2147483648) : (x * x).toInt = x.toInt * x.toInt := by
  have a := c_lmul x x
  have b := rng64 (x * x)
  have d := own_sqb x.toInt 2147483648 h1 h2
  generalize x.toInt * x.toInt = y at a d ⊢
  omega
theorem own_den (d : Int32) (h : 1 ≤ d.toInt) : ((5 : Int64) * d.toInt64).toInt = 5 * d.toInt := by
  have a := c_lmul (5 : Int64) d.toInt64
  have b := rng64 ((5 : Int64) * d.toInt64)
  have e := rng32 d
  rw [own_l5, c_i2l] at a
  omega
theorem own_nz (d : Int32) (h : 1 ≤ d.toInt) : (5 : Int64) * d.toInt64 ≠ 0 := fun q => by
  have a := own_den d h
  rw [q, own_l0] at a
  omega
theorem own_sq_b (n d : Int32) (h0 : 0 ≤ n.toInt) (h1 : 1 ≤ d.toInt) : 0 ≤ (own_sq n d).toInt ∧ (own_sq n d).toInt * 5 ≤ n.toInt * n.toInt := by
  have a := own_den d h1
  have r := rng32 n
  have m := own_mulself n.toInt64 (by rw [c_i2l]; omega) (by rw [c_i2l]; omega)
  rw [c_i2l] at m
  have nn := own_sqb n.toInt 2147483648 h0 (by omega)
  have q := (c_ldiv (n.toInt64 * n.toInt64) ((5 : Int64) * d.toInt64) _ a (fun q => by rw [q] at a; have : (-1 : Int64).toInt = -1 := rfl; omega)).1 (by rw [m]; exact nn.1)
  rw [m] at q
  have q' : (own_sq n d).toInt = (n.toInt * n.toInt) / (5 * d.toInt) := q
  rw [q']
  generalize n.toInt * n.toInt = y at nn ⊢
  have z1 : 0 ≤ y / (5 * d.toInt) := Int.ediv_nonneg nn.1 (by omega)
  refine ⟨z1, ?_⟩
  have z2 : y / (5 * d.toInt) * (5 * d.toInt) ≤ y := Int.ediv_mul_le y (by omega)
  have z3 : y / (5 * d.toInt) * 5 ≤ y / (5 * d.toInt) * (5 * d.toInt) := Int.mul_le_mul_of_nonneg_left (by omega) z1
  omega
theorem own_mid (a b : Int64) (h1 : 0 ≤ a.toInt) (h2 : 0 ≤ b.toInt) (h3 : a.toInt ≤ 2147483648) (h4 : b.toInt ≤ 2147483648) : (((a + b).toUInt64 >>> ((1 : Int32) &&& 0x3f).toInt64.toUInt64).toInt64).toInt = (a.toInt + b.toInt) / 2 := by
  have q := c_ladd a b
  have r := rng64 (a + b)
  have m := c_lushr (a + b) (1 : Int32) 1 (by decide) (by decide)
  rw [m]
  show _ / 2 = _
  omega
/-- what the search keeps -/
def own_inv (n d : Int32) (lo hi : Int64) : Prop := 0 ≤ lo.toInt ∧ lo.toInt ≤ hi.toInt ∧ hi.toInt ≤ n.toInt ∧ lo.toInt * lo.toInt ≤ (own_sq n d).toInt ∧ ((own_sq n d).toInt < hi.toInt * hi.toInt ∨ (hi.toInt = 0 ∧ (own_sq n d).toInt = 0))
/-- what it finds -/
def own_fnd (n d k : Int32) : Prop := 0 ≤ k.toInt ∧ k.toInt ≤ n.toInt ∧ k.toInt * k.toInt ≤ (own_sq n d).toInt ∧ (own_sq n d).toInt < (k.toInt + 1) * (k.toInt + 1)
theorem own_start (n d : Int32) (h0 : 0 ≤ n.toInt) (h1 : 1 ≤ d.toInt) : own_inv n d (0 : Int64) n.toInt64 := by
  have a := own_sq_b n d h0 h1
  have e := c_i2l n
  refine ⟨by rw [own_l0]; omega, by rw [own_l0, e]; omega, by rw [e]; omega, by rw [own_l0]; simpa using a.1, ?_⟩
  rw [e]
  by_cases h : n.toInt = 0
  · rw [h] at a ⊢
    exact Or.inr ⟨rfl, by omega⟩
  · refine Or.inl ?_
    have z : 1 ≤ n.toInt * n.toInt := by
      have : 1 * 1 ≤ n.toInt * n.toInt := Int.mul_le_mul (by omega) (by omega) (by omega) (by omega)
      omega
    generalize n.toInt * n.toInt = y at a z ⊢
    omega
theorem own_end (n d : Int32) (lo hi : Int64) (I : own_inv n d lo hi) (h : ¬ (1 : Int64) < hi - lo) : own_fnd n d lo.toInt32 := by
  obtain ⟨i1, i2, i3, i4, i5⟩ := I
  have r := rng32 n
  have q := c_lsub hi lo
  have q2 := rng64 (hi - lo)
  have h' := mt Int64.lt_iff_toInt_lt.mpr h
  rw [own_l1] at h'
  have c1 := c_l2i lo
  have r1 := rng32 lo.toInt32
  have e : lo.toInt32.toInt = lo.toInt := by omega
  have g : hi.toInt ≤ lo.toInt + 1 := by omega
  unfold own_fnd
  rw [e]
  refine ⟨i1, by omega, i4, ?_⟩
  rcases i5 with i5 | ⟨i5, i6⟩
  · have m : hi.toInt * hi.toInt ≤ (lo.toInt + 1) * (lo.toInt + 1) := Int.mul_le_mul g g (by omega) (by omega)
    omega
  · have : lo.toInt = 0 := by omega
    rw [this, i6]
    decide
theorem own_gap {n d : Int32} {lo hi : Int64} (I : own_inv n d lo hi) (h : (1 : Int64) < hi - lo) : lo.toInt + 1 < hi.toInt ∧ hi.toInt ≤ 2147483648 ∧ 0 ≤ lo.toInt := by
  obtain ⟨i1, i2, i3, i4, i5⟩ := I
  have r := rng32 n
  have q := c_lsub hi lo
  have q2 := rng64 (hi - lo)
  have h' := Int64.lt_iff_toInt_lt.mp h
  rw [own_l1] at h'
  omega
theorem own_left {n d : Int32} {lo hi mid : Int64} (I : own_inv n d lo hi) (g : lo.toInt + 1 < hi.toInt) (hm : mid.toInt = (lo.toInt + hi.toInt) / 2) (h : mid.toInt * mid.toInt ≤ (own_sq n d).toInt) : own_inv n d mid hi := by
  obtain ⟨i1, i2, i3, i4, i5⟩ := I
  exact ⟨by omega, by omega, i3, h, i5⟩
theorem own_right {n d : Int32} {lo hi mid : Int64} (I : own_inv n d lo hi) (g : lo.toInt + 1 < hi.toInt) (hm : mid.toInt = (lo.toInt + hi.toInt) / 2) (h : (own_sq n d).toInt < mid.toInt * mid.toInt) : own_inv n d lo mid := by
  obtain ⟨i1, i2, i3, i4, i5⟩ := I
  exact ⟨i1, by omega, by omega, i4, Or.inl h⟩
/-- two slots that a long may be written over -/
def own_two (a b : Slot) : Prop := (a = .unset ∧ b = .unset) ∨ ∃ z : Int64, a = .val (.long z) ∧ b = .second
theorem own_st8 {a b : Slot} {w0 w1 : Int32} {w2 w4 w6 z : Int64} (h : own_two a b) : storeLocals #[.val (.int w0), .val (.int w1), .val (.long w2), .second, .val (.long w4), .second, .val (.long w6), .second, a, b] 8 (.long z) = some #[.val (.int w0), .val (.int w1), .val (.long w2), .second, .val (.long w4), .second, .val (.long w6), .second, .val (.long z), .second] := by
  rcases h with ⟨rfl, rfl⟩ | ⟨y, rfl, rfl⟩ <;> rfl
theorem own_i2l_nn (k : Int32) (h : 0 ≤ k.toInt) : ¬ k.toInt64 < (0 : Int64) := by
  apply mt Int64.lt_iff_toInt_lt.mp
  rw [own_l0, c_i2l]
  omega
theorem own_i2l_le (k n : Int32) (h : k.toInt ≤ n.toInt) : ¬ n.toInt64 < k.toInt64 := by
  apply mt Int64.lt_iff_toInt_lt.mp
  rw [c_i2l, c_i2l]
  omega
theorem own_f1 {n d k : Int32} (h : own_fnd n d k) : ¬ own_sq n d < k.toInt64 * k.toInt64 := by
  obtain ⟨h1, h2, h3, h4⟩ := h
  have r := rng32 k
  apply mt Int64.lt_iff_toInt_lt.mp
  rw [own_mulself _ (by rw [c_i2l]; omega) (by rw [c_i2l]; omega), c_i2l]
  omega
theorem own_f2 {n d k : Int32} (h : own_fnd n d k) : own_sq n d < (k.toInt64 + (1 : Int64)) * (k.toInt64 + (1 : Int64)) := by
  obtain ⟨h1, h2, h3, h4⟩ := h
  have r := rng32 k
  have a := c_ladd k.toInt64 (1 : Int64)
  have b := rng64 (k.toInt64 + (1 : Int64))
  rw [own_l1, c_i2l] at a
  have e : (k.toInt64 + (1 : Int64)).toInt = k.toInt + 1 := by omega
  apply Int64.lt_iff_toInt_lt.mpr
  rw [own_mulself _ (by omega) (by omega), e]
  omega
theorem own_mk (x : Int32) : 0 ≤ (x &&& (2147483647 : Int32)).toInt := by
  have a := c_mask x (2147483647 : Int32) 31 (by decide) (by decide)
  have a' : (x &&& (2147483647 : Int32)).toInt = x.toInt % 2147483648 := a
  omega
theorem own_mx (x : Int32) : 1 ≤ (own_maxI (1 : Int32) x).toInt := by
  unfold own_maxI
  by_cases h : (1 : Int32) < x
  · have h' := Int32.lt_iff_toInt_lt.mp h
    rw [own_i1] at h'
    rw [if_pos h]
    omega
  · rw [if_neg h, own_i1]
    omega
theorem dM_0 : decode jdk_29_method_65_code 0 = .ok (.iload_n 0, 1) := by decide +kernel
theorem dM_1 : decode jdk_29_method_65_code 1 = .ok (.iload_n 1, 1) := by decide +kernel
theorem dM_2 : decode jdk_29_method_65_code 2 = .ok (.if_icmp .lt 7, 3) := by decide +kernel
theorem dM_5 : decode jdk_29_method_65_code 5 = .ok (.iload_n 0, 1) := by decide +kernel
theorem dM_6 : decode jdk_29_method_65_code 6 = .ok (.goto 4, 3) := by decide +kernel
theorem dM_9 : decode jdk_29_method_65_code 9 = .ok (.iload_n 1, 1) := by decide +kernel
theorem dM_10 : decode jdk_29_method_65_code 10 = .ok (.ireturn, 1) := by decide +kernel
theorem efM (m : MethodId) (p1 : Int32) (p2 : Int32) : entryFrame m #[(.int p1), (.int p2)] 2 = mkF m 0 #[.val (.int p1), .val (.int p2)] [] := by first | (simp [entryFrame, mkF, argsToLocals, Value.category]; done) | rfl
def QM (Z : State) (p1 : Int32) (p2 : Int32) (h0 : Heap) (n0 : Nat) (v : Option Value) (h : Heap) (L : List Loc) : Prop := v = some (.int (own_maxI p1 p2)) ∧ Fr n0 L ∧ h = h0
set_option maxRecDepth 65536 in
set_option maxHeartbeats 40000000 in
theorem rmM (l : Launch) (Z : State) (a0 : Array Value) (hw : ∀ d ∈ tables_1, d.before a0 Z = true) (ws : List Jvm.Cond) (p1 : Int32) (p2 : Int32) (h0 : Heap) (n0 : Nat) (Z0 : n0 ≤ h0.size)  :
    MetFree l (⟨"java/lang/Math", "max", "(II)I"⟩ : MethodName) (head1 (Jvm.Cond.code (⟨"java/lang/Math", "max", "(II)I"⟩ : MethodName) jdk_29_method_65_code 2 (some .int) :: ws) ({ frames := 0, cells := 0, slots := 0, locals := 0 } : Room)) (fun a U => a = #[(.int p1), (.int p2)] ∧ Z.Warmed39 U.vm ∧ U.heap = h0) (fun _ _ _ _ _ => True) (fun _ U o U' => ∃ v L, o = .returned v ∧ QM Z p1 p2 h0 n0 v U'.heap L ∧ FrameEnd U o U' L ({ frames := 0, cells := 0, slots := 0, locals := 0 } : Room).cells ({ frames := 0, cells := 0, slots := 0, locals := 0 } : Room).slots) := by
  refine MetFree.of_bodySF (Jvm.Free.JP.mathPlain rfl (by decide +kernel)) hisR ?_
  intro p e s m args below meth c s₁ Bd hml0 hP hK
  obtain ⟨rfl, hZ, hh⟩ := hP
  have hx := Bd.exec
  have hby := Bd.bytes
  have hml : c.maxLocals = 2 := hml0
  have hown : s.vm.findClass "java/lang/Math" = some m.cls := findClass_of_methodNamed Bd.named
  have hnm := (name_of_methodNamed Bd.named Bd.method).1
  have hlk := Bd.notSynchronized
  have hret := Bd.returns
  have X0 : Stand p l e ({ frames := 0, cells := 0, slots := 0, locals := 0 } : Room) s m #[(.int p1), (.int p2)] below meth c s₁ [] 0 0 := Stand.of_body Bd
  have e0 : s₁.heap = h0 := by rw [← hh, Bd.state]; rfl
  have N0 := Fr.nil n0
  show own_Run p e below s 0 0 (QM Z p1 p2 h0 n0) (s₁.setTop (entryFrame m #[(.int p1), (.int p2)] 2))
  refine own_cast (efM m p1 p2) ?_
  show own_Run p e below s _ _ _ (s₁.setTop (mkF m 0 #[.val (.int p1), .val (.int p2)] []))
  refine own_of (fun _ hh_ => XS.iloadN X0.here hx rfl (hb hby dM_0) rfl hh_) ?_
  show own_Run p e below s _ _ _ (s₁.setTop (mkF m 1 #[.val (.int p1), .val (.int p2)] [(.int p1)]))
  refine own_of (fun _ hh_ => XS.iloadN X0.here hx rfl (hb hby dM_1) rfl hh_) ?_
  show own_Run p e below s _ _ _ (s₁.setTop (mkF m 2 #[.val (.int p1), .val (.int p2)] [(.int p2), (.int p1)]))
  by_cases hc2_1 : p1 < p2
  · refine own_of (fun _ hh_ => XS.icmpYes X0.here hx rfl (pc0 := 2) (pc' := 9) rfl (hb hby dM_2) rfl (tlt hc2_1).1 (by decide) (by decide) hh_) ?_
    show own_Run p e below s _ _ _ (s₁.setTop (mkF m 9 #[.val (.int p1), .val (.int p2)] []))
    refine own_of (fun _ hh_ => XS.iloadN X0.here hx rfl (hb hby dM_9) rfl hh_) ?_
    show own_Run p e below s _ _ _ (s₁.setTop (mkF m 10 #[.val (.int p1), .val (.int p2)] [(.int p2)]))
    exact own_retI X0 hx hret hlk (hb hby dM_10) ⟨by unfold own_maxI; rw [if_pos hc2_1], N0, e0⟩ (by decide) (by decide)
  · refine own_of (fun _ hh_ => XS.icmpNo X0.here hx rfl (hb hby dM_2) rfl (flt hc2_1).1 hh_) ?_
    show own_Run p e below s _ _ _ (s₁.setTop (mkF m 5 #[.val (.int p1), .val (.int p2)] []))
    refine own_of (fun _ hh_ => XS.iloadN X0.here hx rfl (hb hby dM_5) rfl hh_) ?_
    show own_Run p e below s _ _ _ (s₁.setTop (mkF m 6 #[.val (.int p1), .val (.int p2)] [(.int p1)]))
    refine own_of (fun _ hh_ => XS.goto X0.here hx rfl (pc0 := 6) (pc' := 10) rfl (hb hby dM_6) (by decide) (by decide) hh_) ?_
    show own_Run p e below s _ _ _ (s₁.setTop (mkF m 10 #[.val (.int p1), .val (.int p2)] [(.int p1)]))
    exact own_retI X0 hx hret hlk (hb hby dM_10) ⟨by unfold own_maxI; rw [if_neg hc2_1], N0, e0⟩ (by decide) (by decide)
theorem own_pn0 : plainName "com/example/cliquework/cliquework/algorithms/MisGreedyNode" = true := by first | (simp [plainName, overriddenIn]; done) | decide +kernel
theorem dB_0 : decode prog_23_method_5_code 0 = .ok (.iload_n 0, 1) := by decide +kernel
theorem dB_1 : decode prog_23_method_5_code 1 = .ok (.i2l, 1) := by decide +kernel
theorem dB_2 : decode prog_23_method_5_code 2 = .ok (.iload_n 0, 1) := by decide +kernel
theorem dB_3 : decode prog_23_method_5_code 3 = .ok (.i2l, 1) := by decide +kernel
theorem dB_4 : decode prog_23_method_5_code 4 = .ok (.lmul, 1) := by decide +kernel
theorem dB_5 : decode prog_23_method_5_code 5 = .ok (.ldc2_w 57, 3) := by decide +kernel
theorem dB_8 : decode prog_23_method_5_code 8 = .ok (.iload_n 1, 1) := by decide +kernel
theorem dB_9 : decode prog_23_method_5_code 9 = .ok (.i2l, 1) := by decide +kernel
theorem dB_10 : decode prog_23_method_5_code 10 = .ok (.lmul, 1) := by decide +kernel
theorem dB_11 : decode prog_23_method_5_code 11 = .ok (.ldiv, 1) := by decide +kernel
theorem dB_12 : decode prog_23_method_5_code 12 = .ok (.lstore_n 2, 1) := by decide +kernel
theorem dB_13 : decode prog_23_method_5_code 13 = .ok (.lconst 0, 1) := by decide +kernel
theorem dB_14 : decode prog_23_method_5_code 14 = .ok (.lstore 4, 2) := by decide +kernel
theorem dB_16 : decode prog_23_method_5_code 16 = .ok (.iload_n 0, 1) := by decide +kernel
theorem dB_17 : decode prog_23_method_5_code 17 = .ok (.i2l, 1) := by decide +kernel
theorem dB_18 : decode prog_23_method_5_code 18 = .ok (.lstore 6, 2) := by decide +kernel
theorem dB_20 : decode prog_23_method_5_code 20 = .ok (.lload 6, 2) := by decide +kernel
theorem dB_22 : decode prog_23_method_5_code 22 = .ok (.lload 4, 2) := by decide +kernel
theorem dB_24 : decode prog_23_method_5_code 24 = .ok (.lsub, 1) := by decide +kernel
theorem dB_25 : decode prog_23_method_5_code 25 = .ok (.lconst 1, 1) := by decide +kernel
theorem dB_26 : decode prog_23_method_5_code 26 = .ok (.lcmp, 1) := by decide +kernel
theorem dB_27 : decode prog_23_method_5_code 27 = .ok (.ifCond .le 36, 3) := by decide +kernel
theorem dB_30 : decode prog_23_method_5_code 30 = .ok (.lload 4, 2) := by decide +kernel
theorem dB_32 : decode prog_23_method_5_code 32 = .ok (.lload 6, 2) := by decide +kernel
theorem dB_34 : decode prog_23_method_5_code 34 = .ok (.ladd, 1) := by decide +kernel
theorem dB_35 : decode prog_23_method_5_code 35 = .ok (.iconst 1, 1) := by decide +kernel
theorem dB_36 : decode prog_23_method_5_code 36 = .ok (.lushr, 1) := by decide +kernel
theorem dB_37 : decode prog_23_method_5_code 37 = .ok (.lstore 8, 2) := by decide +kernel
theorem dB_39 : decode prog_23_method_5_code 39 = .ok (.lload 8, 2) := by decide +kernel
theorem dB_41 : decode prog_23_method_5_code 41 = .ok (.lload 8, 2) := by decide +kernel
theorem dB_43 : decode prog_23_method_5_code 43 = .ok (.lmul, 1) := by decide +kernel
theorem dB_44 : decode prog_23_method_5_code 44 = .ok (.lload_n 2, 1) := by decide +kernel
theorem dB_45 : decode prog_23_method_5_code 45 = .ok (.lcmp, 1) := by decide +kernel
theorem dB_46 : decode prog_23_method_5_code 46 = .ok (.ifCond .gt 10, 3) := by decide +kernel
theorem dB_49 : decode prog_23_method_5_code 49 = .ok (.lload 8, 2) := by decide +kernel
theorem dB_51 : decode prog_23_method_5_code 51 = .ok (.lstore 4, 2) := by decide +kernel
theorem dB_53 : decode prog_23_method_5_code 53 = .ok (.goto 7, 3) := by decide +kernel
theorem dB_56 : decode prog_23_method_5_code 56 = .ok (.lload 8, 2) := by decide +kernel
theorem dB_58 : decode prog_23_method_5_code 58 = .ok (.lstore 6, 2) := by decide +kernel
theorem dB_60 : decode prog_23_method_5_code 60 = .ok (.goto (-40), 3) := by decide +kernel
theorem dB_63 : decode prog_23_method_5_code 63 = .ok (.lload 4, 2) := by decide +kernel
theorem dB_65 : decode prog_23_method_5_code 65 = .ok (.l2i, 1) := by decide +kernel
theorem dB_66 : decode prog_23_method_5_code 66 = .ok (.ireturn, 1) := by decide +kernel
theorem efB (m : MethodId) (p1 : Int32) (p2 : Int32) : entryFrame m #[(.int p1), (.int p2)] 10 = mkF m 0 #[.val (.int p1), .val (.int p2), .unset, .unset, .unset, .unset, .unset, .unset, .unset, .unset] [] := by first | (simp [entryFrame, mkF, argsToLocals, Value.category]; done) | rfl
def QB (Z : State) (p1 : Int32) (p2 : Int32) (h0 : Heap) (n0 : Nat) (v : Option Value) (h : Heap) (L : List Loc) : Prop := ∃ k : Int32, v = some (.int k) ∧ own_fnd p1 p2 k ∧ Fr n0 L ∧ h = h0
set_option maxRecDepth 65536 in
set_option maxHeartbeats 40000000 in
theorem rmB (l : Launch) (Z : State) (a0 : Array Value) (hw : ∀ d ∈ tables_1, d.before a0 Z = true) (ws : List Jvm.Cond) (p1 : Int32) (p2 : Int32) (h0 : Heap) (n0 : Nat) (Z0 : n0 ≤ h0.size) (hn : 0 ≤ p1.toInt) (hd : 1 ≤ p2.toInt) :
    MetFree l (⟨"com/example/cliquework/cliquework/algorithms/MisGreedyNode", "loopBound", "(II)I"⟩ : MethodName) (head1 (Jvm.Cond.code (⟨"com/example/cliquework/cliquework/algorithms/MisGreedyNode", "loopBound", "(II)I"⟩ : MethodName) prog_23_method_5_code 10 (some .int) :: ws) ({ frames := 0, cells := 0, slots := 0, locals := 0 } : Room)) (fun a U => a = #[(.int p1), (.int p2)] ∧ Z.Warmed39 U.vm ∧ U.heap = h0) (fun _ _ _ _ _ => True) (fun _ U o U' => ∃ v L, o = .returned v ∧ QB Z p1 p2 h0 n0 v U'.heap L ∧ FrameEnd U o U' L ({ frames := 0, cells := 0, slots := 0, locals := 0 } : Room).cells ({ frames := 0, cells := 0, slots := 0, locals := 0 } : Room).slots) := by
  refine MetFree.of_bodySF (plainFor_of_name own_pn0) hisR ?_
  intro p e s m args below meth c s₁ Bd hml0 hP hK
  obtain ⟨rfl, hZ, hh⟩ := hP
  have hx := Bd.exec
  have hby := Bd.bytes
  have hml : c.maxLocals = 10 := hml0
  have hown : s.vm.findClass "com/example/cliquework/cliquework/algorithms/MisGreedyNode" = some m.cls := findClass_of_methodNamed Bd.named
  have hnm := (name_of_methodNamed Bd.named Bd.method).1
  have hlk := Bd.notSynchronized
  have hret := Bd.returns
  have X0 : Stand p l e ({ frames := 0, cells := 0, slots := 0, locals := 0 } : Room) s m #[(.int p1), (.int p2)] below meth c s₁ [] 0 0 := Stand.of_body Bd
  have e0 : s₁.heap = h0 := by rw [← hh, Bd.state]; rfl
  have N0 := Fr.nil n0
  show own_Run p e below s 0 0 (QB Z p1 p2 h0 n0) (s₁.setTop (entryFrame m #[(.int p1), (.int p2)] 10))
  refine own_cast (efB m p1 p2) ?_
  show own_Run p e below s _ _ _ (s₁.setTop (mkF m 0 #[.val (.int p1), .val (.int p2), .unset, .unset, .unset, .unset, .unset, .unset, .unset, .unset] []))
  refine own_of (fun _ hh_ => XS.iloadN X0.here hx rfl (hb hby dB_0) rfl hh_) ?_
  show own_Run p e below s _ _ _ (s₁.setTop (mkF m 1 #[.val (.int p1), .val (.int p2), .unset, .unset, .unset, .unset, .unset, .unset, .unset, .unset] [(.int p1)]))
  refine own_of (fun _ hh_ => XS.i2l X0.here hx rfl (hb hby dB_1) rfl hh_) ?_
  show own_Run p e below s _ _ _ (s₁.setTop (mkF m 2 #[.val (.int p1), .val (.int p2), .unset, .unset, .unset, .unset, .unset, .unset, .unset, .unset] [(.long (p1.toInt64))]))
  refine own_of (fun _ hh_ => XS.iloadN X0.here hx rfl (hb hby dB_2) rfl hh_) ?_
  show own_Run p e below s _ _ _ (s₁.setTop (mkF m 3 #[.val (.int p1), .val (.int p2), .unset, .unset, .unset, .unset, .unset, .unset, .unset, .unset] [(.int p1), (.long (p1.toInt64))]))
  refine own_of (fun _ hh_ => XS.i2l X0.here hx rfl (hb hby dB_3) rfl hh_) ?_
  show own_Run p e below s _ _ _ (s₁.setTop (mkF m 4 #[.val (.int p1), .val (.int p2), .unset, .unset, .unset, .unset, .unset, .unset, .unset, .unset] [(.long (p1.toInt64)), (.long (p1.toInt64))]))
  refine own_of (fun _ hh_ => XS.lmul X0.here hx rfl (hb hby dB_4) rfl hh_) ?_
  show own_Run p e below s _ _ _ (s₁.setTop (mkF m 5 #[.val (.int p1), .val (.int p2), .unset, .unset, .unset, .unset, .unset, .unset, .unset, .unset] [(.long ((p1.toInt64) * (p1.toInt64)))]))
  refine own_of (X0.ldc2Long hx hown (mvT hZ (hw _ (List.mem_of_getElem? (i := 10) rfl))) (g := (mkF m 5 #[.val (.int p1), .val (.int p2), .unset, .unset, .unset, .unset, .unset, .unset, .unset, .unset] [(.long ((p1.toInt64) * (p1.toInt64)))])) rfl (hb hby dB_5)) ?_
  show own_Run p e below s _ _ _ (s₁.setTop (mkF m 8 #[.val (.int p1), .val (.int p2), .unset, .unset, .unset, .unset, .unset, .unset, .unset, .unset] [(.long (5 : Int64)), (.long ((p1.toInt64) * (p1.toInt64)))]))
  refine own_of (fun _ hh_ => XS.iloadN X0.here hx rfl (hb hby dB_8) rfl hh_) ?_
  show own_Run p e below s _ _ _ (s₁.setTop (mkF m 9 #[.val (.int p1), .val (.int p2), .unset, .unset, .unset, .unset, .unset, .unset, .unset, .unset] [(.int p2), (.long (5 : Int64)), (.long ((p1.toInt64) * (p1.toInt64)))]))
  refine own_of (fun _ hh_ => XS.i2l X0.here hx rfl (hb hby dB_9) rfl hh_) ?_
  show own_Run p e below s _ _ _ (s₁.setTop (mkF m 10 #[.val (.int p1), .val (.int p2), .unset, .unset, .unset, .unset, .unset, .unset, .unset, .unset] [(.long (p2.toInt64)), (.long (5 : Int64)), (.long ((p1.toInt64) * (p1.toInt64)))]))
  refine own_of (fun _ hh_ => XS.lmul X0.here hx rfl (hb hby dB_10) rfl hh_) ?_
  show own_Run p e below s _ _ _ (s₁.setTop (mkF m 11 #[.val (.int p1), .val (.int p2), .unset, .unset, .unset, .unset, .unset, .unset, .unset, .unset] [(.long ((5 : Int64) * (p2.toInt64))), (.long ((p1.toInt64) * (p1.toInt64)))]))
  refine own_of (fun _ hh_ => XS.ldiv X0.here hx rfl (hb hby dB_11) rfl (own_nz p2 hd) hh_) ?_
  show own_Run p e below s _ _ _ (s₁.setTop (mkF m 12 #[.val (.int p1), .val (.int p2), .unset, .unset, .unset, .unset, .unset, .unset, .unset, .unset] [(.long (((p1.toInt64) * (p1.toInt64)) / ((5 : Int64) * (p2.toInt64))))]))
  show own_Run p e below s _ _ _ (s₁.setTop (mkF m 12 #[.val (.int p1), .val (.int p2), .unset, .unset, .unset, .unset, .unset, .unset, .unset, .unset] [(.long (own_sq p1 p2))]))
  refine own_of (fun _ hh_ => XS.lstoreN X0.here hx rfl (hb hby dB_12) rfl (l' := #[.val (.int p1), .val (.int p2), .val (.long (own_sq p1 p2)), .second, .unset, .unset, .unset, .unset, .unset, .unset]) rfl hh_) ?_
  show own_Run p e below s _ _ _ (s₁.setTop (mkF m 13 #[.val (.int p1), .val (.int p2), .val (.long (own_sq p1 p2)), .second, .unset, .unset, .unset, .unset, .unset, .unset] []))
  refine own_of (fun _ hh_ => XS.lconst X0.here hx rfl (hb hby dB_13) hh_) ?_
  show own_Run p e below s _ _ _ (s₁.setTop (mkF m 14 #[.val (.int p1), .val (.int p2), .val (.long (own_sq p1 p2)), .second, .unset, .unset, .unset, .unset, .unset, .unset] [(.long (0 : Int64))]))
  refine own_of (fun _ hh_ => XS.lstore X0.here hx rfl (hb hby dB_14) rfl (l' := #[.val (.int p1), .val (.int p2), .val (.long (own_sq p1 p2)), .second, .val (.long (0 : Int64)), .second, .unset, .unset, .unset, .unset]) rfl hh_) ?_
  show own_Run p e below s _ _ _ (s₁.setTop (mkF m 16 #[.val (.int p1), .val (.int p2), .val (.long (own_sq p1 p2)), .second, .val (.long (0 : Int64)), .second, .unset, .unset, .unset, .unset] []))
  refine own_of (fun _ hh_ => XS.iloadN X0.here hx rfl (hb hby dB_16) rfl hh_) ?_
  show own_Run p e below s _ _ _ (s₁.setTop (mkF m 17 #[.val (.int p1), .val (.int p2), .val (.long (own_sq p1 p2)), .second, .val (.long (0 : Int64)), .second, .unset, .unset, .unset, .unset] [(.int p1)]))
  refine own_of (fun _ hh_ => XS.i2l X0.here hx rfl (hb hby dB_17) rfl hh_) ?_
  show own_Run p e below s _ _ _ (s₁.setTop (mkF m 18 #[.val (.int p1), .val (.int p2), .val (.long (own_sq p1 p2)), .second, .val (.long (0 : Int64)), .second, .unset, .unset, .unset, .unset] [(.long (p1.toInt64))]))
  refine own_of (fun _ hh_ => XS.lstore X0.here hx rfl (hb hby dB_18) rfl (l' := #[.val (.int p1), .val (.int p2), .val (.long (own_sq p1 p2)), .second, .val (.long (0 : Int64)), .second, .val (.long (p1.toInt64)), .second, .unset, .unset]) rfl hh_) ?_
  show own_Run p e below s _ _ _ (s₁.setTop (mkF m 20 #[.val (.int p1), .val (.int p2), .val (.long (own_sq p1 p2)), .second, .val (.long (0 : Int64)), .second, .val (.long (p1.toInt64)), .second, .unset, .unset] []))
  have loop : ∀ (k : Nat) (lo hi : Int64) (s8 s9 : Slot), own_two s8 s9 → own_inv p1 p2 lo hi → (hi.toInt - lo.toInt).toNat ≤ k → own_Run p e below s 0 0 (QB Z p1 p2 h0 n0) (s₁.setTop (mkF m 20 #[.val (.int p1), .val (.int p2), .val (.long (own_sq p1 p2)), .second, .val (.long lo), .second, .val (.long hi), .second, s8, s9] [])) := by
    intro k
    induction k with
    | zero =>
      intro lo hi s8 s9 h2 I hk
      show own_Run p e below s _ _ _ (s₁.setTop (mkF m 20 #[.val (.int p1), .val (.int p2), .val (.long (own_sq p1 p2)), .second, .val (.long lo), .second, .val (.long hi), .second, s8, s9] []))
      refine own_of (fun _ hh_ => XS.lload X0.here hx rfl (hb hby dB_20) rfl hh_) ?_
      show own_Run p e below s _ _ _ (s₁.setTop (mkF m 22 #[.val (.int p1), .val (.int p2), .val (.long (own_sq p1 p2)), .second, .val (.long lo), .second, .val (.long hi), .second, s8, s9] [(.long hi)]))
      refine own_of (fun _ hh_ => XS.lload X0.here hx rfl (hb hby dB_22) rfl hh_) ?_
      show own_Run p e below s _ _ _ (s₁.setTop (mkF m 24 #[.val (.int p1), .val (.int p2), .val (.long (own_sq p1 p2)), .second, .val (.long lo), .second, .val (.long hi), .second, s8, s9] [(.long lo), (.long hi)]))
      refine own_of (fun _ hh_ => XS.lsub X0.here hx rfl (hb hby dB_24) rfl hh_) ?_
      show own_Run p e below s _ _ _ (s₁.setTop (mkF m 25 #[.val (.int p1), .val (.int p2), .val (.long (own_sq p1 p2)), .second, .val (.long lo), .second, .val (.long hi), .second, s8, s9] [(.long (hi - lo))]))
      refine own_of (fun _ hh_ => XS.lconst X0.here hx rfl (hb hby dB_25) hh_) ?_
      show own_Run p e below s _ _ _ (s₁.setTop (mkF m 26 #[.val (.int p1), .val (.int p2), .val (.long (own_sq p1 p2)), .second, .val (.long lo), .second, .val (.long hi), .second, s8, s9] [(.long (1 : Int64)), (.long (hi - lo))]))
      refine own_of (fun _ hh_ => XS.lcmp X0.here hx rfl (hb hby dB_26) rfl hh_) ?_
      show own_Run p e below s _ _ _ (s₁.setTop (mkF m 27 #[.val (.int p1), .val (.int p2), .val (.long (own_sq p1 p2)), .second, .val (.long lo), .second, .val (.long hi), .second, s8, s9] [(.int (lcmpW (hi - lo) (1 : Int64)))]))
      have hc27_1 : ¬ ((1 : Int64) < (hi - lo)) := by apply mt Int64.lt_iff_toInt_lt.mp; have z1 := c_lsub hi lo; have z2 := rng64 (hi - lo); have z3 := rng32 p1; obtain ⟨i1, i2, i3, i4, i5⟩ := I; rw [own_l1]; omega
      refine own_of (fun _ hh_ => XS.ifYes X0.here hx rfl (pc0 := 27) (pc' := 63) rfl (hb hby dB_27) rfl ((if0 _ _).trans (flt (fun q_ => hc27_1 ((lw_gt _ _).mp q_))).2.2.2) (by decide) (by decide) hh_) ?_
      show own_Run p e below s _ _ _ (s₁.setTop (mkF m 63 #[.val (.int p1), .val (.int p2), .val (.long (own_sq p1 p2)), .second, .val (.long lo), .second, .val (.long hi), .second, s8, s9] []))
      refine own_of (fun _ hh_ => XS.lload X0.here hx rfl (hb hby dB_63) rfl hh_) ?_
      show own_Run p e below s _ _ _ (s₁.setTop (mkF m 65 #[.val (.int p1), .val (.int p2), .val (.long (own_sq p1 p2)), .second, .val (.long lo), .second, .val (.long hi), .second, s8, s9] [(.long lo)]))
      refine own_of (fun _ hh_ => XS.l2i X0.here hx rfl (hb hby dB_65) rfl hh_) ?_
      show own_Run p e below s _ _ _ (s₁.setTop (mkF m 66 #[.val (.int p1), .val (.int p2), .val (.long (own_sq p1 p2)), .second, .val (.long lo), .second, .val (.long hi), .second, s8, s9] [(.int (lo.toInt32))]))
      exact own_retI X0 hx hret hlk (hb hby dB_66) ⟨_, rfl, own_end p1 p2 lo hi I hc27_1, N0, e0⟩ (by decide) (by decide)
    | succ k ih =>
      intro lo hi s8 s9 h2 I hk
      show own_Run p e below s _ _ _ (s₁.setTop (mkF m 20 #[.val (.int p1), .val (.int p2), .val (.long (own_sq p1 p2)), .second, .val (.long lo), .second, .val (.long hi), .second, s8, s9] []))
      refine own_of (fun _ hh_ => XS.lload X0.here hx rfl (hb hby dB_20) rfl hh_) ?_
      show own_Run p e below s _ _ _ (s₁.setTop (mkF m 22 #[.val (.int p1), .val (.int p2), .val (.long (own_sq p1 p2)), .second, .val (.long lo), .second, .val (.long hi), .second, s8, s9] [(.long hi)]))
      refine own_of (fun _ hh_ => XS.lload X0.here hx rfl (hb hby dB_22) rfl hh_) ?_
      show own_Run p e below s _ _ _ (s₁.setTop (mkF m 24 #[.val (.int p1), .val (.int p2), .val (.long (own_sq p1 p2)), .second, .val (.long lo), .second, .val (.long hi), .second, s8, s9] [(.long lo), (.long hi)]))
      refine own_of (fun _ hh_ => XS.lsub X0.here hx rfl (hb hby dB_24) rfl hh_) ?_
      show own_Run p e below s _ _ _ (s₁.setTop (mkF m 25 #[.val (.int p1), .val (.int p2), .val (.long (own_sq p1 p2)), .second, .val (.long lo), .second, .val (.long hi), .second, s8, s9] [(.long (hi - lo))]))
      refine own_of (fun _ hh_ => XS.lconst X0.here hx rfl (hb hby dB_25) hh_) ?_
      show own_Run p e below s _ _ _ (s₁.setTop (mkF m 26 #[.val (.int p1), .val (.int p2), .val (.long (own_sq p1 p2)), .second, .val (.long lo), .second, .val (.long hi), .second, s8, s9] [(.long (1 : Int64)), (.long (hi - lo))]))
      refine own_of (fun _ hh_ => XS.lcmp X0.here hx rfl (hb hby dB_26) rfl hh_) ?_
      show own_Run p e below s _ _ _ (s₁.setTop (mkF m 27 #[.val (.int p1), .val (.int p2), .val (.long (own_sq p1 p2)), .second, .val (.long lo), .second, .val (.long hi), .second, s8, s9] [(.int (lcmpW (hi - lo) (1 : Int64)))]))
      by_cases hc27_2 : (1 : Int64) < (hi - lo)
      · refine own_of (fun _ hh_ => XS.ifNo X0.here hx rfl (hb hby dB_27) rfl ((if0 _ _).trans (tlt ((lw_gt _ _).mpr hc27_2)).2.2.2) hh_) ?_
        show own_Run p e below s _ _ _ (s₁.setTop (mkF m 30 #[.val (.int p1), .val (.int p2), .val (.long (own_sq p1 p2)), .second, .val (.long lo), .second, .val (.long hi), .second, s8, s9] []))
        have gp := own_gap I hc27_2
        refine own_of (fun _ hh_ => XS.lload X0.here hx rfl (hb hby dB_30) rfl hh_) ?_
        show own_Run p e below s _ _ _ (s₁.setTop (mkF m 32 #[.val (.int p1), .val (.int p2), .val (.long (own_sq p1 p2)), .second, .val (.long lo), .second, .val (.long hi), .second, s8, s9] [(.long lo)]))
        refine own_of (fun _ hh_ => XS.lload X0.here hx rfl (hb hby dB_32) rfl hh_) ?_
        show own_Run p e below s _ _ _ (s₁.setTop (mkF m 34 #[.val (.int p1), .val (.int p2), .val (.long (own_sq p1 p2)), .second, .val (.long lo), .second, .val (.long hi), .second, s8, s9] [(.long hi), (.long lo)]))
        refine own_of (fun _ hh_ => XS.ladd X0.here hx rfl (hb hby dB_34) rfl hh_) ?_
        show own_Run p e below s _ _ _ (s₁.setTop (mkF m 35 #[.val (.int p1), .val (.int p2), .val (.long (own_sq p1 p2)), .second, .val (.long lo), .second, .val (.long hi), .second, s8, s9] [(.long (lo + hi))]))
        refine own_of (fun _ hh_ => XS.iconst X0.here hx rfl (hb hby dB_35) hh_) ?_
        show own_Run p e below s _ _ _ (s₁.setTop (mkF m 36 #[.val (.int p1), .val (.int p2), .val (.long (own_sq p1 p2)), .second, .val (.long lo), .second, .val (.long hi), .second, s8, s9] [(.int (1 : Int32)), (.long (lo + hi))]))
        refine own_of (fun _ hh_ => XS.lushr X0.here hx rfl (hb hby dB_36) rfl hh_) ?_
        show own_Run p e below s _ _ _ (s₁.setTop (mkF m 37 #[.val (.int p1), .val (.int p2), .val (.long (own_sq p1 p2)), .second, .val (.long lo), .second, .val (.long hi), .second, s8, s9] [(.long (((lo + hi).toUInt64 >>> ((1 : Int32) &&& 0x3f).toInt64.toUInt64).toInt64))]))
        generalize hmid : (((lo + hi).toUInt64 >>> ((1 : Int32) &&& 0x3f).toInt64.toUInt64).toInt64) = mid
        have hmid' : mid.toInt = (lo.toInt + hi.toInt) / 2 := by rw [← hmid]; exact own_mid lo hi (by omega) (by omega) (by omega) (by omega)
        show own_Run p e below s _ _ _ (s₁.setTop (mkF m 37 #[.val (.int p1), .val (.int p2), .val (.long (own_sq p1 p2)), .second, .val (.long lo), .second, .val (.long hi), .second, s8, s9] [(.long mid)]))
        refine own_of (fun _ hh_ => XS.lstore X0.here hx rfl (hb hby dB_37) rfl (l' := #[.val (.int p1), .val (.int p2), .val (.long (own_sq p1 p2)), .second, .val (.long lo), .second, .val (.long hi), .second, .val (.long mid), .second]) (own_st8 h2) hh_) ?_
        show own_Run p e below s _ _ _ (s₁.setTop (mkF m 39 #[.val (.int p1), .val (.int p2), .val (.long (own_sq p1 p2)), .second, .val (.long lo), .second, .val (.long hi), .second, .val (.long mid), .second] []))
        refine own_of (fun _ hh_ => XS.lload X0.here hx rfl (hb hby dB_39) rfl hh_) ?_
        show own_Run p e below s _ _ _ (s₁.setTop (mkF m 41 #[.val (.int p1), .val (.int p2), .val (.long (own_sq p1 p2)), .second, .val (.long lo), .second, .val (.long hi), .second, .val (.long mid), .second] [(.long mid)]))
        refine own_of (fun _ hh_ => XS.lload X0.here hx rfl (hb hby dB_41) rfl hh_) ?_
        show own_Run p e below s _ _ _ (s₁.setTop (mkF m 43 #[.val (.int p1), .val (.int p2), .val (.long (own_sq p1 p2)), .second, .val (.long lo), .second, .val (.long hi), .second, .val (.long mid), .second] [(.long mid), (.long mid)]))
        refine own_of (fun _ hh_ => XS.lmul X0.here hx rfl (hb hby dB_43) rfl hh_) ?_
        show own_Run p e below s _ _ _ (s₁.setTop (mkF m 44 #[.val (.int p1), .val (.int p2), .val (.long (own_sq p1 p2)), .second, .val (.long lo), .second, .val (.long hi), .second, .val (.long mid), .second] [(.long (mid * mid))]))
        generalize hmm : (mid * mid) = mm
        have hmm' : mm.toInt = mid.toInt * mid.toInt := by rw [← hmm]; exact own_mulself mid (by omega) (by omega)
        show own_Run p e below s _ _ _ (s₁.setTop (mkF m 44 #[.val (.int p1), .val (.int p2), .val (.long (own_sq p1 p2)), .second, .val (.long lo), .second, .val (.long hi), .second, .val (.long mid), .second] [(.long mm)]))
        refine own_of (fun _ hh_ => XS.lloadN X0.here hx rfl (hb hby dB_44) rfl hh_) ?_
        show own_Run p e below s _ _ _ (s₁.setTop (mkF m 45 #[.val (.int p1), .val (.int p2), .val (.long (own_sq p1 p2)), .second, .val (.long lo), .second, .val (.long hi), .second, .val (.long mid), .second] [(.long (own_sq p1 p2)), (.long mm)]))
        refine own_of (fun _ hh_ => XS.lcmp X0.here hx rfl (hb hby dB_45) rfl hh_) ?_
        show own_Run p e below s _ _ _ (s₁.setTop (mkF m 46 #[.val (.int p1), .val (.int p2), .val (.long (own_sq p1 p2)), .second, .val (.long lo), .second, .val (.long hi), .second, .val (.long mid), .second] [(.int (lcmpW mm (own_sq p1 p2)))]))
        by_cases hc46_3 : (own_sq p1 p2) < mm
        · refine own_of (fun _ hh_ => XS.ifYes X0.here hx rfl (pc0 := 46) (pc' := 56) rfl (hb hby dB_46) rfl ((if0 _ _).trans (tlt ((lw_gt _ _).mpr hc46_3)).2.2.1) (by decide) (by decide) hh_) ?_
          show own_Run p e below s _ _ _ (s₁.setTop (mkF m 56 #[.val (.int p1), .val (.int p2), .val (.long (own_sq p1 p2)), .second, .val (.long lo), .second, .val (.long hi), .second, .val (.long mid), .second] []))
          refine own_of (fun _ hh_ => XS.lload X0.here hx rfl (hb hby dB_56) rfl hh_) ?_
          show own_Run p e below s _ _ _ (s₁.setTop (mkF m 58 #[.val (.int p1), .val (.int p2), .val (.long (own_sq p1 p2)), .second, .val (.long lo), .second, .val (.long hi), .second, .val (.long mid), .second] [(.long mid)]))
          refine own_of (fun _ hh_ => XS.lstore X0.here hx rfl (hb hby dB_58) rfl (l' := #[.val (.int p1), .val (.int p2), .val (.long (own_sq p1 p2)), .second, .val (.long lo), .second, .val (.long mid), .second, .val (.long mid), .second]) rfl hh_) ?_
          show own_Run p e below s _ _ _ (s₁.setTop (mkF m 60 #[.val (.int p1), .val (.int p2), .val (.long (own_sq p1 p2)), .second, .val (.long lo), .second, .val (.long mid), .second, .val (.long mid), .second] []))
          refine own_of (fun _ hh_ => XS.goto X0.here hx rfl (pc0 := 60) (pc' := 20) rfl (hb hby dB_60) (by decide) (by decide) hh_) ?_
          show own_Run p e below s _ _ _ (s₁.setTop (mkF m 20 #[.val (.int p1), .val (.int p2), .val (.long (own_sq p1 p2)), .second, .val (.long lo), .second, .val (.long mid), .second, .val (.long mid), .second] []))
          exact ih lo mid _ _ (Or.inr ⟨mid, rfl, rfl⟩) (own_right I gp.1 hmid' (by have z := Int64.lt_iff_toInt_lt.mp hc46_3; rwa [hmm'] at z)) (by omega)
        · refine own_of (fun _ hh_ => XS.ifNo X0.here hx rfl (hb hby dB_46) rfl ((if0 _ _).trans (flt (fun q_ => hc46_3 ((lw_gt _ _).mp q_))).2.2.1) hh_) ?_
          show own_Run p e below s _ _ _ (s₁.setTop (mkF m 49 #[.val (.int p1), .val (.int p2), .val (.long (own_sq p1 p2)), .second, .val (.long lo), .second, .val (.long hi), .second, .val (.long mid), .second] []))
          refine own_of (fun _ hh_ => XS.lload X0.here hx rfl (hb hby dB_49) rfl hh_) ?_
          show own_Run p e below s _ _ _ (s₁.setTop (mkF m 51 #[.val (.int p1), .val (.int p2), .val (.long (own_sq p1 p2)), .second, .val (.long lo), .second, .val (.long hi), .second, .val (.long mid), .second] [(.long mid)]))
          refine own_of (fun _ hh_ => XS.lstore X0.here hx rfl (hb hby dB_51) rfl (l' := #[.val (.int p1), .val (.int p2), .val (.long (own_sq p1 p2)), .second, .val (.long mid), .second, .val (.long hi), .second, .val (.long mid), .second]) rfl hh_) ?_
          show own_Run p e below s _ _ _ (s₁.setTop (mkF m 53 #[.val (.int p1), .val (.int p2), .val (.long (own_sq p1 p2)), .second, .val (.long mid), .second, .val (.long hi), .second, .val (.long mid), .second] []))
          refine own_of (fun _ hh_ => XS.goto X0.here hx rfl (pc0 := 53) (pc' := 60) rfl (hb hby dB_53) (by decide) (by decide) hh_) ?_
          show own_Run p e below s _ _ _ (s₁.setTop (mkF m 60 #[.val (.int p1), .val (.int p2), .val (.long (own_sq p1 p2)), .second, .val (.long mid), .second, .val (.long hi), .second, .val (.long mid), .second] []))
          refine own_of (fun _ hh_ => XS.goto X0.here hx rfl (pc0 := 60) (pc' := 20) rfl (hb hby dB_60) (by decide) (by decide) hh_) ?_
          show own_Run p e below s _ _ _ (s₁.setTop (mkF m 20 #[.val (.int p1), .val (.int p2), .val (.long (own_sq p1 p2)), .second, .val (.long mid), .second, .val (.long hi), .second, .val (.long mid), .second] []))
          exact ih mid hi _ _ (Or.inr ⟨mid, rfl, rfl⟩) (own_left I gp.1 hmid' (by have z := mt Int64.lt_iff_toInt_lt.mpr hc46_3; rw [hmm'] at z; omega)) (by omega)
      · refine own_of (fun _ hh_ => XS.ifYes X0.here hx rfl (pc0 := 27) (pc' := 63) rfl (hb hby dB_27) rfl ((if0 _ _).trans (flt (fun q_ => hc27_2 ((lw_gt _ _).mp q_))).2.2.2) (by decide) (by decide) hh_) ?_
        show own_Run p e below s _ _ _ (s₁.setTop (mkF m 63 #[.val (.int p1), .val (.int p2), .val (.long (own_sq p1 p2)), .second, .val (.long lo), .second, .val (.long hi), .second, s8, s9] []))
        refine own_of (fun _ hh_ => XS.lload X0.here hx rfl (hb hby dB_63) rfl hh_) ?_
        show own_Run p e below s _ _ _ (s₁.setTop (mkF m 65 #[.val (.int p1), .val (.int p2), .val (.long (own_sq p1 p2)), .second, .val (.long lo), .second, .val (.long hi), .second, s8, s9] [(.long lo)]))
        refine own_of (fun _ hh_ => XS.l2i X0.here hx rfl (hb hby dB_65) rfl hh_) ?_
        show own_Run p e below s _ _ _ (s₁.setTop (mkF m 66 #[.val (.int p1), .val (.int p2), .val (.long (own_sq p1 p2)), .second, .val (.long lo), .second, .val (.long hi), .second, s8, s9] [(.int (lo.toInt32))]))
        exact own_retI X0 hx hret hlk (hb hby dB_66) ⟨_, rfl, own_end p1 p2 lo hi I hc27_2, N0, e0⟩ (by decide) (by decide)
  exact loop _ _ _ _ _ (Or.inl ⟨rfl, rfl⟩) (own_start p1 p2 hn hd) (Nat.le_refl _)
theorem own_pd0 : parseMethodDescriptor "(II)I" = some ⟨[.int, .int], some .int⟩ := by decide +kernel
theorem own_pn1 : plainName "com/example/cliquework/cliquework/algorithms/MisGreedyNodeLoopBoundPinLaw" = true := by first | (simp [plainName, overriddenIn]; done) | decide +kernel
theorem ef0 (m : MethodId) (x1 : Int32) (y1 : Int32) : entryFrame m #[(.int x1), (.int y1)] maxLocals = mkF m 0 #[.val (.int x1), .val (.int y1), .unset, .unset, .unset, .unset, .unset, .unset] [] := by first | (simp [entryFrame, mkF, argsToLocals, Value.category, maxLocals]; done) | rfl
def Q0 (Z : State) (x1 : Int32) (y1 : Int32) (h0 : Heap) (n0 : Nat) (v : Option Value) (h : Heap) (L : List Loc) : Prop := v = some (.int 1) ∧ Fr n0 L
set_option maxRecDepth 65536 in
set_option maxHeartbeats 40000000 in
theorem rm0 (l : Launch) (Z : State) (a0 : Array Value) (hw : ∀ d ∈ tables_1, d.before a0 Z = true) (ws : List Jvm.Cond) (x1 : Int32) (y1 : Int32) (h0 : Heap) (n0 : Nat) (Z0 : n0 ≤ h0.size)  :
    MetFree l x (head1 (Jvm.Cond.code x code maxLocals ret :: ws) room_1) (fun a U => a = #[(.int x1), (.int y1)] ∧ Z.Warmed39 U.vm ∧ U.heap = h0) (fun _ _ _ _ _ => True) (fun _ U o U' => ∃ v L, o = .returned v ∧ Q0 Z x1 y1 h0 n0 v U'.heap L ∧ FrameEnd U o U' L 0 0) := by
  refine MetFree.of_bodySF (plainFor_of_name own_pn1) hisR ?_
  intro p e s m args below meth c s₁ Bd hml0 hP hK
  obtain ⟨rfl, hZ, hh⟩ := hP
  have hx := Bd.exec
  have hby := Bd.bytes
  have hml : c.maxLocals = 8 := hml0
  have hown : s.vm.findClass "com/example/cliquework/cliquework/algorithms/MisGreedyNodeLoopBoundPinLaw" = some m.cls := findClass_of_methodNamed Bd.named
  have hnm := (name_of_methodNamed Bd.named Bd.method).1
  have hlk := Bd.notSynchronized
  have hret := Bd.returns
  have X0 : Stand p l e room_1 s m #[(.int x1), (.int y1)] below meth c s₁ [] 0 0 := Stand.of_body Bd
  have e0 : s₁.heap = h0 := by rw [← hh, Bd.state]; rfl
  have N0 := Fr.nil n0
  show own_Run p e below s 0 0 (Q0 Z x1 y1 h0 n0) (s₁.setTop (entryFrame m #[(.int x1), (.int y1)] maxLocals))
  refine own_cast (ef0 m x1 y1) ?_
  show own_Run p e below s _ _ _ (s₁.setTop (mkF m 0 #[.val (.int x1), .val (.int y1), .unset, .unset, .unset, .unset, .unset, .unset] []))
  refine own_of (fun _ hh_ => XS.iloadN X0.here hx rfl (hb hby at_0) rfl hh_) ?_
  show own_Run p e below s _ _ _ (s₁.setTop (mkF m 1 #[.val (.int x1), .val (.int y1), .unset, .unset, .unset, .unset, .unset, .unset] [(.int x1)]))
  refine own_of (X0.ldcInt hx hown (mvT hZ (hw _ (List.mem_of_getElem? (i := 0) rfl))) (g := (mkF m 1 #[.val (.int x1), .val (.int y1), .unset, .unset, .unset, .unset, .unset, .unset] [(.int x1)])) rfl (hb hby at_1)) ?_
  show own_Run p e below s _ _ _ (s₁.setTop (mkF m 3 #[.val (.int x1), .val (.int y1), .unset, .unset, .unset, .unset, .unset, .unset] [(.int (2147483647 : Int32)), (.int x1)]))
  refine own_of (fun _ hh_ => XS.iand X0.here hx rfl (hb hby at_3) rfl hh_) ?_
  show own_Run p e below s _ _ _ (s₁.setTop (mkF m 4 #[.val (.int x1), .val (.int y1), .unset, .unset, .unset, .unset, .unset, .unset] [(.int (x1 &&& (2147483647 : Int32)))]))
  refine own_of (fun _ hh_ => XS.istoreN X0.here hx rfl (hb hby at_4) rfl (l' := #[.val (.int x1), .val (.int y1), .val (.int (x1 &&& (2147483647 : Int32))), .unset, .unset, .unset, .unset, .unset]) rfl hh_) ?_
  show own_Run p e below s _ _ _ (s₁.setTop (mkF m 5 #[.val (.int x1), .val (.int y1), .val (.int (x1 &&& (2147483647 : Int32))), .unset, .unset, .unset, .unset, .unset] []))
  refine own_of (fun _ hh_ => XS.iconst X0.here hx rfl (hb hby at_5) hh_) ?_
  show own_Run p e below s _ _ _ (s₁.setTop (mkF m 6 #[.val (.int x1), .val (.int y1), .val (.int (x1 &&& (2147483647 : Int32))), .unset, .unset, .unset, .unset, .unset] [(.int (1 : Int32))]))
  refine own_of (fun _ hh_ => XS.iloadN X0.here hx rfl (hb hby at_6) rfl hh_) ?_
  show own_Run p e below s _ _ _ (s₁.setTop (mkF m 7 #[.val (.int x1), .val (.int y1), .val (.int (x1 &&& (2147483647 : Int32))), .unset, .unset, .unset, .unset, .unset] [(.int y1), (.int (1 : Int32))]))
  refine own_of (X0.ldcInt hx hown (mvT hZ (hw _ (List.mem_of_getElem? (i := 0) rfl))) (g := (mkF m 7 #[.val (.int x1), .val (.int y1), .val (.int (x1 &&& (2147483647 : Int32))), .unset, .unset, .unset, .unset, .unset] [(.int y1), (.int (1 : Int32))])) rfl (hb hby at_7)) ?_
  show own_Run p e below s _ _ _ (s₁.setTop (mkF m 9 #[.val (.int x1), .val (.int y1), .val (.int (x1 &&& (2147483647 : Int32))), .unset, .unset, .unset, .unset, .unset] [(.int (2147483647 : Int32)), (.int y1), (.int (1 : Int32))]))
  refine own_of (fun _ hh_ => XS.iand X0.here hx rfl (hb hby at_9) rfl hh_) ?_
  show own_Run p e below s _ _ _ (s₁.setTop (mkF m 10 #[.val (.int x1), .val (.int y1), .val (.int (x1 &&& (2147483647 : Int32))), .unset, .unset, .unset, .unset, .unset] [(.int (y1 &&& (2147483647 : Int32))), (.int (1 : Int32))]))
  obtain ⟨_, _, ⟨T1, L1, k1, n1⟩, -, X1, ⟨Lc1, hQ1, l1, y1, z1⟩, st1⟩ := Jvm.LawKit.callS X0 hx (y := (⟨"java/lang/Math", "max", "(II)I"⟩ : MethodName)) hown (mvT hZ (hw _ (List.mem_of_getElem? (i := 1) rfl))) (mvT hZ (hw _ (List.mem_of_getElem? (i := 2) rfl))) (mvT hZ (hw _ (List.mem_of_getElem? (i := 3) rfl))) (mvT hZ (hw _ (List.mem_of_getElem? (i := 4) rfl))) (by decide) (backOf (W := 0) (rmM l Z a0 hw [] (1 : Int32) (y1 &&& (2147483647 : Int32)) h0 n0 Z0) hZ (hw _ (List.mem_of_getElem? (i := 4) rfl)) (hw _ (List.mem_of_getElem? (i := 3) rfl)) (by decide) (by decide)) (g := (mkF m 10 #[.val (.int x1), .val (.int y1), .val (.int (x1 &&& (2147483647 : Int32))), .unset, .unset, .unset, .unset, .unset] [(.int (y1 &&& (2147483647 : Int32))), (.int (1 : Int32))])) rfl (by rw [hml]; rfl) (argsL := [(.int (1 : Int32)), (.int (y1 &&& (2147483647 : Int32)))]) (rest := []) (lenOf own_pd0 rfl) rfl (by show 2 * 0 + _ ≤ _; exact Nat.le_of_eq rfl) (hb hby at_10) (fun _ _ => ⟨rfl, e0, (by decide : 0 + 0 ≤ _), (by decide : 0 + 0 ≤ _)⟩)
  dsimp only [Pt.U, Pt.locs, Pt.cells, Pt.slots] at X1 l1 y1 z1 st1 hQ1
  subst l1 y1 z1
  obtain ⟨rfl, N1q, e1⟩ := hQ1
  have N1 := Fr.app N0 N1q
  refine own_of st1 ?_
  show own_Run p e below s _ _ _ (T1.setTop (mkF m 13 #[.val (.int x1), .val (.int y1), .val (.int (x1 &&& (2147483647 : Int32))), .unset, .unset, .unset, .unset, .unset] [(.int (own_maxI (1 : Int32) (y1 &&& (2147483647 : Int32))))]))
  refine own_of (fun _ hh_ => XS.istoreN X1.here hx rfl (hb hby at_13) rfl (l' := #[.val (.int x1), .val (.int y1), .val (.int (x1 &&& (2147483647 : Int32))), .val (.int (own_maxI (1 : Int32) (y1 &&& (2147483647 : Int32)))), .unset, .unset, .unset, .unset]) rfl hh_) ?_
  show own_Run p e below s _ _ _ (T1.setTop (mkF m 14 #[.val (.int x1), .val (.int y1), .val (.int (x1 &&& (2147483647 : Int32))), .val (.int (own_maxI (1 : Int32) (y1 &&& (2147483647 : Int32)))), .unset, .unset, .unset, .unset] []))
  refine own_of (fun _ hh_ => XS.iloadN X1.here hx rfl (hb hby at_14) rfl hh_) ?_
  show own_Run p e below s _ _ _ (T1.setTop (mkF m 15 #[.val (.int x1), .val (.int y1), .val (.int (x1 &&& (2147483647 : Int32))), .val (.int (own_maxI (1 : Int32) (y1 &&& (2147483647 : Int32)))), .unset, .unset, .unset, .unset] [(.int (x1 &&& (2147483647 : Int32)))]))
  refine own_of (fun _ hh_ => XS.i2l X1.here hx rfl (hb hby at_15) rfl hh_) ?_
  show own_Run p e below s _ _ _ (T1.setTop (mkF m 16 #[.val (.int x1), .val (.int y1), .val (.int (x1 &&& (2147483647 : Int32))), .val (.int (own_maxI (1 : Int32) (y1 &&& (2147483647 : Int32)))), .unset, .unset, .unset, .unset] [(.long ((x1 &&& (2147483647 : Int32)).toInt64))]))
  refine own_of (fun _ hh_ => XS.iloadN X1.here hx rfl (hb hby at_16) rfl hh_) ?_
  show own_Run p e below s _ _ _ (T1.setTop (mkF m 17 #[.val (.int x1), .val (.int y1), .val (.int (x1 &&& (2147483647 : Int32))), .val (.int (own_maxI (1 : Int32) (y1 &&& (2147483647 : Int32)))), .unset, .unset, .unset, .unset] [(.int (x1 &&& (2147483647 : Int32))), (.long ((x1 &&& (2147483647 : Int32)).toInt64))]))
  refine own_of (fun _ hh_ => XS.i2l X1.here hx rfl (hb hby at_17) rfl hh_) ?_
  show own_Run p e below s _ _ _ (T1.setTop (mkF m 18 #[.val (.int x1), .val (.int y1), .val (.int (x1 &&& (2147483647 : Int32))), .val (.int (own_maxI (1 : Int32) (y1 &&& (2147483647 : Int32)))), .unset, .unset, .unset, .unset] [(.long ((x1 &&& (2147483647 : Int32)).toInt64)), (.long ((x1 &&& (2147483647 : Int32)).toInt64))]))
  refine own_of (fun _ hh_ => XS.lmul X1.here hx rfl (hb hby at_18) rfl hh_) ?_
  show own_Run p e below s _ _ _ (T1.setTop (mkF m 19 #[.val (.int x1), .val (.int y1), .val (.int (x1 &&& (2147483647 : Int32))), .val (.int (own_maxI (1 : Int32) (y1 &&& (2147483647 : Int32)))), .unset, .unset, .unset, .unset] [(.long (((x1 &&& (2147483647 : Int32)).toInt64) * ((x1 &&& (2147483647 : Int32)).toInt64)))]))
  refine own_of (X1.ldc2Long hx hown (mvT hZ (hw _ (List.mem_of_getElem? (i := 5) rfl))) (g := (mkF m 19 #[.val (.int x1), .val (.int y1), .val (.int (x1 &&& (2147483647 : Int32))), .val (.int (own_maxI (1 : Int32) (y1 &&& (2147483647 : Int32)))), .unset, .unset, .unset, .unset] [(.long (((x1 &&& (2147483647 : Int32)).toInt64) * ((x1 &&& (2147483647 : Int32)).toInt64)))])) rfl (hb hby at_19)) ?_
  show own_Run p e below s _ _ _ (T1.setTop (mkF m 22 #[.val (.int x1), .val (.int y1), .val (.int (x1 &&& (2147483647 : Int32))), .val (.int (own_maxI (1 : Int32) (y1 &&& (2147483647 : Int32)))), .unset, .unset, .unset, .unset] [(.long (5 : Int64)), (.long (((x1 &&& (2147483647 : Int32)).toInt64) * ((x1 &&& (2147483647 : Int32)).toInt64)))]))
  refine own_of (fun _ hh_ => XS.iloadN X1.here hx rfl (hb hby at_22) rfl hh_) ?_
  show own_Run p e below s _ _ _ (T1.setTop (mkF m 23 #[.val (.int x1), .val (.int y1), .val (.int (x1 &&& (2147483647 : Int32))), .val (.int (own_maxI (1 : Int32) (y1 &&& (2147483647 : Int32)))), .unset, .unset, .unset, .unset] [(.int (own_maxI (1 : Int32) (y1 &&& (2147483647 : Int32)))), (.long (5 : Int64)), (.long (((x1 &&& (2147483647 : Int32)).toInt64) * ((x1 &&& (2147483647 : Int32)).toInt64)))]))
  refine own_of (fun _ hh_ => XS.i2l X1.here hx rfl (hb hby at_23) rfl hh_) ?_
  show own_Run p e below s _ _ _ (T1.setTop (mkF m 24 #[.val (.int x1), .val (.int y1), .val (.int (x1 &&& (2147483647 : Int32))), .val (.int (own_maxI (1 : Int32) (y1 &&& (2147483647 : Int32)))), .unset, .unset, .unset, .unset] [(.long ((own_maxI (1 : Int32) (y1 &&& (2147483647 : Int32))).toInt64)), (.long (5 : Int64)), (.long (((x1 &&& (2147483647 : Int32)).toInt64) * ((x1 &&& (2147483647 : Int32)).toInt64)))]))
  refine own_of (fun _ hh_ => XS.lmul X1.here hx rfl (hb hby at_24) rfl hh_) ?_
  show own_Run p e below s _ _ _ (T1.setTop (mkF m 25 #[.val (.int x1), .val (.int y1), .val (.int (x1 &&& (2147483647 : Int32))), .val (.int (own_maxI (1 : Int32) (y1 &&& (2147483647 : Int32)))), .unset, .unset, .unset, .unset] [(.long ((5 : Int64) * ((own_maxI (1 : Int32) (y1 &&& (2147483647 : Int32))).toInt64))), (.long (((x1 &&& (2147483647 : Int32)).toInt64) * ((x1 &&& (2147483647 : Int32)).toInt64)))]))
  refine own_of (fun _ hh_ => XS.ldiv X1.here hx rfl (hb hby at_25) rfl (own_nz _ (own_mx _)) hh_) ?_
  show own_Run p e below s _ _ _ (T1.setTop (mkF m 26 #[.val (.int x1), .val (.int y1), .val (.int (x1 &&& (2147483647 : Int32))), .val (.int (own_maxI (1 : Int32) (y1 &&& (2147483647 : Int32)))), .unset, .unset, .unset, .unset] [(.long ((((x1 &&& (2147483647 : Int32)).toInt64) * ((x1 &&& (2147483647 : Int32)).toInt64)) / ((5 : Int64) * ((own_maxI (1 : Int32) (y1 &&& (2147483647 : Int32))).toInt64))))]))
  show own_Run p e below s _ _ _ (T1.setTop (mkF m 26 #[.val (.int x1), .val (.int y1), .val (.int (x1 &&& (2147483647 : Int32))), .val (.int (own_maxI (1 : Int32) (y1 &&& (2147483647 : Int32)))), .unset, .unset, .unset, .unset] [(.long (own_sq (x1 &&& (2147483647 : Int32)) (own_maxI (1 : Int32) (y1 &&& (2147483647 : Int32)))))]))
  refine own_of (fun _ hh_ => XS.lstore X1.here hx rfl (hb hby at_26) rfl (l' := #[.val (.int x1), .val (.int y1), .val (.int (x1 &&& (2147483647 : Int32))), .val (.int (own_maxI (1 : Int32) (y1 &&& (2147483647 : Int32)))), .val (.long (own_sq (x1 &&& (2147483647 : Int32)) (own_maxI (1 : Int32) (y1 &&& (2147483647 : Int32))))), .second, .unset, .unset]) rfl hh_) ?_
  show own_Run p e below s _ _ _ (T1.setTop (mkF m 28 #[.val (.int x1), .val (.int y1), .val (.int (x1 &&& (2147483647 : Int32))), .val (.int (own_maxI (1 : Int32) (y1 &&& (2147483647 : Int32)))), .val (.long (own_sq (x1 &&& (2147483647 : Int32)) (own_maxI (1 : Int32) (y1 &&& (2147483647 : Int32))))), .second, .unset, .unset] []))
  refine own_of (fun _ hh_ => XS.iloadN X1.here hx rfl (hb hby at_28) rfl hh_) ?_
  show own_Run p e below s _ _ _ (T1.setTop (mkF m 29 #[.val (.int x1), .val (.int y1), .val (.int (x1 &&& (2147483647 : Int32))), .val (.int (own_maxI (1 : Int32) (y1 &&& (2147483647 : Int32)))), .val (.long (own_sq (x1 &&& (2147483647 : Int32)) (own_maxI (1 : Int32) (y1 &&& (2147483647 : Int32))))), .second, .unset, .unset] [(.int (x1 &&& (2147483647 : Int32)))]))
  refine own_of (fun _ hh_ => XS.iloadN X1.here hx rfl (hb hby at_29) rfl hh_) ?_
  show own_Run p e below s _ _ _ (T1.setTop (mkF m 30 #[.val (.int x1), .val (.int y1), .val (.int (x1 &&& (2147483647 : Int32))), .val (.int (own_maxI (1 : Int32) (y1 &&& (2147483647 : Int32)))), .val (.long (own_sq (x1 &&& (2147483647 : Int32)) (own_maxI (1 : Int32) (y1 &&& (2147483647 : Int32))))), .second, .unset, .unset] [(.int (own_maxI (1 : Int32) (y1 &&& (2147483647 : Int32)))), (.int (x1 &&& (2147483647 : Int32)))]))
  obtain ⟨_, _, ⟨T2, L2, k2, n2⟩, -, X2, ⟨Lc2, hQ2, l2, y2, z2⟩, st2⟩ := Jvm.LawKit.callS X1 hx (y := (⟨"com/example/cliquework/cliquework/algorithms/MisGreedyNode", "loopBound", "(II)I"⟩ : MethodName)) hown (mvT hZ (hw _ (List.mem_of_getElem? (i := 6) rfl))) (mvT hZ (hw _ (List.mem_of_getElem? (i := 7) rfl))) (mvT hZ (hw _ (List.mem_of_getElem? (i := 8) rfl))) (mvT hZ (hw _ (List.mem_of_getElem? (i := 9) rfl))) (by decide) (backOf (W := 0) (rmB l Z a0 hw [] (x1 &&& (2147483647 : Int32)) (own_maxI (1 : Int32) (y1 &&& (2147483647 : Int32))) h0 n0 Z0 (own_mk x1) (own_mx _)) hZ (hw _ (List.mem_of_getElem? (i := 9) rfl)) (hw _ (List.mem_of_getElem? (i := 8) rfl)) (by decide) (by decide)) (g := (mkF m 30 #[.val (.int x1), .val (.int y1), .val (.int (x1 &&& (2147483647 : Int32))), .val (.int (own_maxI (1 : Int32) (y1 &&& (2147483647 : Int32)))), .val (.long (own_sq (x1 &&& (2147483647 : Int32)) (own_maxI (1 : Int32) (y1 &&& (2147483647 : Int32))))), .second, .unset, .unset] [(.int (own_maxI (1 : Int32) (y1 &&& (2147483647 : Int32)))), (.int (x1 &&& (2147483647 : Int32)))])) rfl (by rw [hml]; rfl) (argsL := [(.int (x1 &&& (2147483647 : Int32))), (.int (own_maxI (1 : Int32) (y1 &&& (2147483647 : Int32))))]) (rest := []) (lenOf own_pd0 rfl) rfl (by show 2 * 0 + _ ≤ _; exact Nat.le_of_eq rfl) (hb hby at_30) (fun _ _ => ⟨rfl, e1, (by decide : 0 + 0 ≤ _), (by decide : 0 + 0 ≤ _)⟩)
  dsimp only [Pt.U, Pt.locs, Pt.cells, Pt.slots] at X2 l2 y2 z2 st2 hQ2
  subst l2 y2 z2
  obtain ⟨kk2, rfl, F2, N2q, e2⟩ := hQ2
  have N2 := Fr.app N1 N2q
  refine own_of st2 ?_
  show own_Run p e below s _ _ _ (T2.setTop (mkF m 33 #[.val (.int x1), .val (.int y1), .val (.int (x1 &&& (2147483647 : Int32))), .val (.int (own_maxI (1 : Int32) (y1 &&& (2147483647 : Int32)))), .val (.long (own_sq (x1 &&& (2147483647 : Int32)) (own_maxI (1 : Int32) (y1 &&& (2147483647 : Int32))))), .second, .unset, .unset] [(.int kk2)]))
  refine own_of (fun _ hh_ => XS.i2l X2.here hx rfl (hb hby at_33) rfl hh_) ?_
  show own_Run p e below s _ _ _ (T2.setTop (mkF m 34 #[.val (.int x1), .val (.int y1), .val (.int (x1 &&& (2147483647 : Int32))), .val (.int (own_maxI (1 : Int32) (y1 &&& (2147483647 : Int32)))), .val (.long (own_sq (x1 &&& (2147483647 : Int32)) (own_maxI (1 : Int32) (y1 &&& (2147483647 : Int32))))), .second, .unset, .unset] [(.long (kk2.toInt64))]))
  refine own_of (fun _ hh_ => XS.lstore X2.here hx rfl (hb hby at_34) rfl (l' := #[.val (.int x1), .val (.int y1), .val (.int (x1 &&& (2147483647 : Int32))), .val (.int (own_maxI (1 : Int32) (y1 &&& (2147483647 : Int32)))), .val (.long (own_sq (x1 &&& (2147483647 : Int32)) (own_maxI (1 : Int32) (y1 &&& (2147483647 : Int32))))), .second, .val (.long (kk2.toInt64)), .second]) rfl hh_) ?_
  show own_Run p e below s _ _ _ (T2.setTop (mkF m 36 #[.val (.int x1), .val (.int y1), .val (.int (x1 &&& (2147483647 : Int32))), .val (.int (own_maxI (1 : Int32) (y1 &&& (2147483647 : Int32)))), .val (.long (own_sq (x1 &&& (2147483647 : Int32)) (own_maxI (1 : Int32) (y1 &&& (2147483647 : Int32))))), .second, .val (.long (kk2.toInt64)), .second] []))
  refine own_of (fun _ hh_ => XS.lload X2.here hx rfl (hb hby at_36) rfl hh_) ?_
  show own_Run p e below s _ _ _ (T2.setTop (mkF m 38 #[.val (.int x1), .val (.int y1), .val (.int (x1 &&& (2147483647 : Int32))), .val (.int (own_maxI (1 : Int32) (y1 &&& (2147483647 : Int32)))), .val (.long (own_sq (x1 &&& (2147483647 : Int32)) (own_maxI (1 : Int32) (y1 &&& (2147483647 : Int32))))), .second, .val (.long (kk2.toInt64)), .second] [(.long (kk2.toInt64))]))
  refine own_of (fun _ hh_ => XS.lconst X2.here hx rfl (hb hby at_38) hh_) ?_
  show own_Run p e below s _ _ _ (T2.setTop (mkF m 39 #[.val (.int x1), .val (.int y1), .val (.int (x1 &&& (2147483647 : Int32))), .val (.int (own_maxI (1 : Int32) (y1 &&& (2147483647 : Int32)))), .val (.long (own_sq (x1 &&& (2147483647 : Int32)) (own_maxI (1 : Int32) (y1 &&& (2147483647 : Int32))))), .second, .val (.long (kk2.toInt64)), .second] [(.long (0 : Int64)), (.long (kk2.toInt64))]))
  refine own_of (fun _ hh_ => XS.lcmp X2.here hx rfl (hb hby at_39) rfl hh_) ?_
  show own_Run p e below s _ _ _ (T2.setTop (mkF m 40 #[.val (.int x1), .val (.int y1), .val (.int (x1 &&& (2147483647 : Int32))), .val (.int (own_maxI (1 : Int32) (y1 &&& (2147483647 : Int32)))), .val (.long (own_sq (x1 &&& (2147483647 : Int32)) (own_maxI (1 : Int32) (y1 &&& (2147483647 : Int32))))), .second, .val (.long (kk2.toInt64)), .second] [(.int (lcmpW (kk2.toInt64) (0 : Int64)))]))
  have hc40_3 : ¬ ((kk2.toInt64) < (0 : Int64)) := own_i2l_nn _ F2.1
  refine own_of (fun _ hh_ => XS.ifNo X2.here hx rfl (hb hby at_40) rfl ((if0 _ _).trans (flt (fun q_ => hc40_3 ((lw_lt _ _).mp q_))).1) hh_) ?_
  show own_Run p e below s _ _ _ (T2.setTop (mkF m 43 #[.val (.int x1), .val (.int y1), .val (.int (x1 &&& (2147483647 : Int32))), .val (.int (own_maxI (1 : Int32) (y1 &&& (2147483647 : Int32)))), .val (.long (own_sq (x1 &&& (2147483647 : Int32)) (own_maxI (1 : Int32) (y1 &&& (2147483647 : Int32))))), .second, .val (.long (kk2.toInt64)), .second] []))
  refine own_of (fun _ hh_ => XS.lload X2.here hx rfl (hb hby at_43) rfl hh_) ?_
  show own_Run p e below s _ _ _ (T2.setTop (mkF m 45 #[.val (.int x1), .val (.int y1), .val (.int (x1 &&& (2147483647 : Int32))), .val (.int (own_maxI (1 : Int32) (y1 &&& (2147483647 : Int32)))), .val (.long (own_sq (x1 &&& (2147483647 : Int32)) (own_maxI (1 : Int32) (y1 &&& (2147483647 : Int32))))), .second, .val (.long (kk2.toInt64)), .second] [(.long (kk2.toInt64))]))
  refine own_of (fun _ hh_ => XS.iloadN X2.here hx rfl (hb hby at_45) rfl hh_) ?_
  show own_Run p e below s _ _ _ (T2.setTop (mkF m 46 #[.val (.int x1), .val (.int y1), .val (.int (x1 &&& (2147483647 : Int32))), .val (.int (own_maxI (1 : Int32) (y1 &&& (2147483647 : Int32)))), .val (.long (own_sq (x1 &&& (2147483647 : Int32)) (own_maxI (1 : Int32) (y1 &&& (2147483647 : Int32))))), .second, .val (.long (kk2.toInt64)), .second] [(.int (x1 &&& (2147483647 : Int32))), (.long (kk2.toInt64))]))
  refine own_of (fun _ hh_ => XS.i2l X2.here hx rfl (hb hby at_46) rfl hh_) ?_
  show own_Run p e below s _ _ _ (T2.setTop (mkF m 47 #[.val (.int x1), .val (.int y1), .val (.int (x1 &&& (2147483647 : Int32))), .val (.int (own_maxI (1 : Int32) (y1 &&& (2147483647 : Int32)))), .val (.long (own_sq (x1 &&& (2147483647 : Int32)) (own_maxI (1 : Int32) (y1 &&& (2147483647 : Int32))))), .second, .val (.long (kk2.toInt64)), .second] [(.long ((x1 &&& (2147483647 : Int32)).toInt64)), (.long (kk2.toInt64))]))
  refine own_of (fun _ hh_ => XS.lcmp X2.here hx rfl (hb hby at_47) rfl hh_) ?_
  show own_Run p e below s _ _ _ (T2.setTop (mkF m 48 #[.val (.int x1), .val (.int y1), .val (.int (x1 &&& (2147483647 : Int32))), .val (.int (own_maxI (1 : Int32) (y1 &&& (2147483647 : Int32)))), .val (.long (own_sq (x1 &&& (2147483647 : Int32)) (own_maxI (1 : Int32) (y1 &&& (2147483647 : Int32))))), .second, .val (.long (kk2.toInt64)), .second] [(.int (lcmpW (kk2.toInt64) ((x1 &&& (2147483647 : Int32)).toInt64)))]))
  have hc48_4 : ¬ (((x1 &&& (2147483647 : Int32)).toInt64) < (kk2.toInt64)) := own_i2l_le _ _ F2.2.1
  refine own_of (fun _ hh_ => XS.ifYes X2.here hx rfl (pc0 := 48) (pc' := 53) rfl (hb hby at_48) rfl ((if0 _ _).trans (flt (fun q_ => hc48_4 ((lw_gt _ _).mp q_))).2.2.2) (by decide) (by decide) hh_) ?_
  show own_Run p e below s _ _ _ (T2.setTop (mkF m 53 #[.val (.int x1), .val (.int y1), .val (.int (x1 &&& (2147483647 : Int32))), .val (.int (own_maxI (1 : Int32) (y1 &&& (2147483647 : Int32)))), .val (.long (own_sq (x1 &&& (2147483647 : Int32)) (own_maxI (1 : Int32) (y1 &&& (2147483647 : Int32))))), .second, .val (.long (kk2.toInt64)), .second] []))
  refine own_of (fun _ hh_ => XS.lload X2.here hx rfl (hb hby at_53) rfl hh_) ?_
  show own_Run p e below s _ _ _ (T2.setTop (mkF m 55 #[.val (.int x1), .val (.int y1), .val (.int (x1 &&& (2147483647 : Int32))), .val (.int (own_maxI (1 : Int32) (y1 &&& (2147483647 : Int32)))), .val (.long (own_sq (x1 &&& (2147483647 : Int32)) (own_maxI (1 : Int32) (y1 &&& (2147483647 : Int32))))), .second, .val (.long (kk2.toInt64)), .second] [(.long (kk2.toInt64))]))
  refine own_of (fun _ hh_ => XS.lload X2.here hx rfl (hb hby at_55) rfl hh_) ?_
  show own_Run p e below s _ _ _ (T2.setTop (mkF m 57 #[.val (.int x1), .val (.int y1), .val (.int (x1 &&& (2147483647 : Int32))), .val (.int (own_maxI (1 : Int32) (y1 &&& (2147483647 : Int32)))), .val (.long (own_sq (x1 &&& (2147483647 : Int32)) (own_maxI (1 : Int32) (y1 &&& (2147483647 : Int32))))), .second, .val (.long (kk2.toInt64)), .second] [(.long (kk2.toInt64)), (.long (kk2.toInt64))]))
  refine own_of (fun _ hh_ => XS.lmul X2.here hx rfl (hb hby at_57) rfl hh_) ?_
  show own_Run p e below s _ _ _ (T2.setTop (mkF m 58 #[.val (.int x1), .val (.int y1), .val (.int (x1 &&& (2147483647 : Int32))), .val (.int (own_maxI (1 : Int32) (y1 &&& (2147483647 : Int32)))), .val (.long (own_sq (x1 &&& (2147483647 : Int32)) (own_maxI (1 : Int32) (y1 &&& (2147483647 : Int32))))), .second, .val (.long (kk2.toInt64)), .second] [(.long ((kk2.toInt64) * (kk2.toInt64)))]))
  refine own_of (fun _ hh_ => XS.lload X2.here hx rfl (hb hby at_58) rfl hh_) ?_
  show own_Run p e below s _ _ _ (T2.setTop (mkF m 60 #[.val (.int x1), .val (.int y1), .val (.int (x1 &&& (2147483647 : Int32))), .val (.int (own_maxI (1 : Int32) (y1 &&& (2147483647 : Int32)))), .val (.long (own_sq (x1 &&& (2147483647 : Int32)) (own_maxI (1 : Int32) (y1 &&& (2147483647 : Int32))))), .second, .val (.long (kk2.toInt64)), .second] [(.long (own_sq (x1 &&& (2147483647 : Int32)) (own_maxI (1 : Int32) (y1 &&& (2147483647 : Int32))))), (.long ((kk2.toInt64) * (kk2.toInt64)))]))
  refine own_of (fun _ hh_ => XS.lcmp X2.here hx rfl (hb hby at_60) rfl hh_) ?_
  show own_Run p e below s _ _ _ (T2.setTop (mkF m 61 #[.val (.int x1), .val (.int y1), .val (.int (x1 &&& (2147483647 : Int32))), .val (.int (own_maxI (1 : Int32) (y1 &&& (2147483647 : Int32)))), .val (.long (own_sq (x1 &&& (2147483647 : Int32)) (own_maxI (1 : Int32) (y1 &&& (2147483647 : Int32))))), .second, .val (.long (kk2.toInt64)), .second] [(.int (lcmpW ((kk2.toInt64) * (kk2.toInt64)) (own_sq (x1 &&& (2147483647 : Int32)) (own_maxI (1 : Int32) (y1 &&& (2147483647 : Int32))))))]))
  have hc61_5 : ¬ ((own_sq (x1 &&& (2147483647 : Int32)) (own_maxI (1 : Int32) (y1 &&& (2147483647 : Int32)))) < ((kk2.toInt64) * (kk2.toInt64))) := own_f1 F2
  refine own_of (fun _ hh_ => XS.ifYes X2.here hx rfl (pc0 := 61) (pc' := 66) rfl (hb hby at_61) rfl ((if0 _ _).trans (flt (fun q_ => hc61_5 ((lw_gt _ _).mp q_))).2.2.2) (by decide) (by decide) hh_) ?_
  show own_Run p e below s _ _ _ (T2.setTop (mkF m 66 #[.val (.int x1), .val (.int y1), .val (.int (x1 &&& (2147483647 : Int32))), .val (.int (own_maxI (1 : Int32) (y1 &&& (2147483647 : Int32)))), .val (.long (own_sq (x1 &&& (2147483647 : Int32)) (own_maxI (1 : Int32) (y1 &&& (2147483647 : Int32))))), .second, .val (.long (kk2.toInt64)), .second] []))
  refine own_of (fun _ hh_ => XS.lload X2.here hx rfl (hb hby at_66) rfl hh_) ?_
  show own_Run p e below s _ _ _ (T2.setTop (mkF m 68 #[.val (.int x1), .val (.int y1), .val (.int (x1 &&& (2147483647 : Int32))), .val (.int (own_maxI (1 : Int32) (y1 &&& (2147483647 : Int32)))), .val (.long (own_sq (x1 &&& (2147483647 : Int32)) (own_maxI (1 : Int32) (y1 &&& (2147483647 : Int32))))), .second, .val (.long (kk2.toInt64)), .second] [(.long (kk2.toInt64))]))
  refine own_of (fun _ hh_ => XS.lconst X2.here hx rfl (hb hby at_68) hh_) ?_
  show own_Run p e below s _ _ _ (T2.setTop (mkF m 69 #[.val (.int x1), .val (.int y1), .val (.int (x1 &&& (2147483647 : Int32))), .val (.int (own_maxI (1 : Int32) (y1 &&& (2147483647 : Int32)))), .val (.long (own_sq (x1 &&& (2147483647 : Int32)) (own_maxI (1 : Int32) (y1 &&& (2147483647 : Int32))))), .second, .val (.long (kk2.toInt64)), .second] [(.long (1 : Int64)), (.long (kk2.toInt64))]))
  refine own_of (fun _ hh_ => XS.ladd X2.here hx rfl (hb hby at_69) rfl hh_) ?_
  show own_Run p e below s _ _ _ (T2.setTop (mkF m 70 #[.val (.int x1), .val (.int y1), .val (.int (x1 &&& (2147483647 : Int32))), .val (.int (own_maxI (1 : Int32) (y1 &&& (2147483647 : Int32)))), .val (.long (own_sq (x1 &&& (2147483647 : Int32)) (own_maxI (1 : Int32) (y1 &&& (2147483647 : Int32))))), .second, .val (.long (kk2.toInt64)), .second] [(.long ((kk2.toInt64) + (1 : Int64)))]))
  refine own_of (fun _ hh_ => XS.lload X2.here hx rfl (hb hby at_70) rfl hh_) ?_
  show own_Run p e below s _ _ _ (T2.setTop (mkF m 72 #[.val (.int x1), .val (.int y1), .val (.int (x1 &&& (2147483647 : Int32))), .val (.int (own_maxI (1 : Int32) (y1 &&& (2147483647 : Int32)))), .val (.long (own_sq (x1 &&& (2147483647 : Int32)) (own_maxI (1 : Int32) (y1 &&& (2147483647 : Int32))))), .second, .val (.long (kk2.toInt64)), .second] [(.long (kk2.toInt64)), (.long ((kk2.toInt64) + (1 : Int64)))]))
  refine own_of (fun _ hh_ => XS.lconst X2.here hx rfl (hb hby at_72) hh_) ?_
  show own_Run p e below s _ _ _ (T2.setTop (mkF m 73 #[.val (.int x1), .val (.int y1), .val (.int (x1 &&& (2147483647 : Int32))), .val (.int (own_maxI (1 : Int32) (y1 &&& (2147483647 : Int32)))), .val (.long (own_sq (x1 &&& (2147483647 : Int32)) (own_maxI (1 : Int32) (y1 &&& (2147483647 : Int32))))), .second, .val (.long (kk2.toInt64)), .second] [(.long (1 : Int64)), (.long (kk2.toInt64)), (.long ((kk2.toInt64) + (1 : Int64)))]))
  refine own_of (fun _ hh_ => XS.ladd X2.here hx rfl (hb hby at_73) rfl hh_) ?_
  show own_Run p e below s _ _ _ (T2.setTop (mkF m 74 #[.val (.int x1), .val (.int y1), .val (.int (x1 &&& (2147483647 : Int32))), .val (.int (own_maxI (1 : Int32) (y1 &&& (2147483647 : Int32)))), .val (.long (own_sq (x1 &&& (2147483647 : Int32)) (own_maxI (1 : Int32) (y1 &&& (2147483647 : Int32))))), .second, .val (.long (kk2.toInt64)), .second] [(.long ((kk2.toInt64) + (1 : Int64))), (.long ((kk2.toInt64) + (1 : Int64)))]))
  refine own_of (fun _ hh_ => XS.lmul X2.here hx rfl (hb hby at_74) rfl hh_) ?_
  show own_Run p e below s _ _ _ (T2.setTop (mkF m 75 #[.val (.int x1), .val (.int y1), .val (.int (x1 &&& (2147483647 : Int32))), .val (.int (own_maxI (1 : Int32) (y1 &&& (2147483647 : Int32)))), .val (.long (own_sq (x1 &&& (2147483647 : Int32)) (own_maxI (1 : Int32) (y1 &&& (2147483647 : Int32))))), .second, .val (.long (kk2.toInt64)), .second] [(.long (((kk2.toInt64) + (1 : Int64)) * ((kk2.toInt64) + (1 : Int64))))]))
  refine own_of (fun _ hh_ => XS.lload X2.here hx rfl (hb hby at_75) rfl hh_) ?_
  show own_Run p e below s _ _ _ (T2.setTop (mkF m 77 #[.val (.int x1), .val (.int y1), .val (.int (x1 &&& (2147483647 : Int32))), .val (.int (own_maxI (1 : Int32) (y1 &&& (2147483647 : Int32)))), .val (.long (own_sq (x1 &&& (2147483647 : Int32)) (own_maxI (1 : Int32) (y1 &&& (2147483647 : Int32))))), .second, .val (.long (kk2.toInt64)), .second] [(.long (own_sq (x1 &&& (2147483647 : Int32)) (own_maxI (1 : Int32) (y1 &&& (2147483647 : Int32))))), (.long (((kk2.toInt64) + (1 : Int64)) * ((kk2.toInt64) + (1 : Int64))))]))
  refine own_of (fun _ hh_ => XS.lcmp X2.here hx rfl (hb hby at_77) rfl hh_) ?_
  show own_Run p e below s _ _ _ (T2.setTop (mkF m 78 #[.val (.int x1), .val (.int y1), .val (.int (x1 &&& (2147483647 : Int32))), .val (.int (own_maxI (1 : Int32) (y1 &&& (2147483647 : Int32)))), .val (.long (own_sq (x1 &&& (2147483647 : Int32)) (own_maxI (1 : Int32) (y1 &&& (2147483647 : Int32))))), .second, .val (.long (kk2.toInt64)), .second] [(.int (lcmpW (((kk2.toInt64) + (1 : Int64)) * ((kk2.toInt64) + (1 : Int64))) (own_sq (x1 &&& (2147483647 : Int32)) (own_maxI (1 : Int32) (y1 &&& (2147483647 : Int32))))))]))
  have hc78_6 : (own_sq (x1 &&& (2147483647 : Int32)) (own_maxI (1 : Int32) (y1 &&& (2147483647 : Int32)))) < (((kk2.toInt64) + (1 : Int64)) * ((kk2.toInt64) + (1 : Int64))) := own_f2 F2
  refine own_of (fun _ hh_ => XS.ifNo X2.here hx rfl (hb hby at_78) rfl ((if0 _ _).trans (tlt ((lw_gt _ _).mpr hc78_6)).2.2.2) hh_) ?_
  show own_Run p e below s _ _ _ (T2.setTop (mkF m 81 #[.val (.int x1), .val (.int y1), .val (.int (x1 &&& (2147483647 : Int32))), .val (.int (own_maxI (1 : Int32) (y1 &&& (2147483647 : Int32)))), .val (.long (own_sq (x1 &&& (2147483647 : Int32)) (own_maxI (1 : Int32) (y1 &&& (2147483647 : Int32))))), .second, .val (.long (kk2.toInt64)), .second] []))
  refine own_of (fun _ hh_ => XS.iconst X2.here hx rfl (hb hby at_81) hh_) ?_
  show own_Run p e below s _ _ _ (T2.setTop (mkF m 82 #[.val (.int x1), .val (.int y1), .val (.int (x1 &&& (2147483647 : Int32))), .val (.int (own_maxI (1 : Int32) (y1 &&& (2147483647 : Int32)))), .val (.long (own_sq (x1 &&& (2147483647 : Int32)) (own_maxI (1 : Int32) (y1 &&& (2147483647 : Int32))))), .second, .val (.long (kk2.toInt64)), .second] [(.int (1 : Int32))]))
  refine own_of (fun _ hh_ => XS.goto X2.here hx rfl (pc0 := 82) (pc' := 86) rfl (hb hby at_82) (by decide) (by decide) hh_) ?_
  show own_Run p e below s _ _ _ (T2.setTop (mkF m 86 #[.val (.int x1), .val (.int y1), .val (.int (x1 &&& (2147483647 : Int32))), .val (.int (own_maxI (1 : Int32) (y1 &&& (2147483647 : Int32)))), .val (.long (own_sq (x1 &&& (2147483647 : Int32)) (own_maxI (1 : Int32) (y1 &&& (2147483647 : Int32))))), .second, .val (.long (kk2.toInt64)), .second] [(.int (1 : Int32))]))
  exact own_retN X2 hx (t := .boolean) hret hlk (by simp) (hb hby at_86) ⟨rfl, N2⟩ (by decide) (by decide)
set_option maxRecDepth 65536 in
set_option maxHeartbeats 40000000 in
theorem comes_1 {Post : Tables → Env → Array Value → State → Outcome → State → Prop} (hpost : ∀ tb e args s v u, (limb_1_1.after args s (.returned v) u = true ∧ limb_1_2.after args s (.returned v) u = true ∧ True) → FrameEnd s (.returned v) u (Jvm.fieldLocs frame_1_writes args s ++ Jvm.arrayLocs frame_1_arrays args s ++ Jvm.staticLocs frame_1_statics s) 0 0 → Post tb e args s (.returned v) u) :
    ArmFor flags0 classFile x code maxLocals ret World_1 tables_1 room_1 Calls_1 rest_1 Pre_1 Post := by
  intro l hfl _ _ p e ha hc hk s m args below hf hA hF happ hP
  obtain ⟨hcalls, hrest, hpre⟩ := hP
  obtain ⟨-, -, -, hnamed, -, -, -, hat⟩ := (Spec.applies_iff hf).mp happ
  obtain ⟨hg, hn⟩ := and_e (Cond.before_iff.mp (show (Jvm.Cond.and given_1 narrow_1).before args s = true from hpre))
  obtain ⟨gg1, gg2⟩ := and_e hg
  obtain ⟨gg3, gg4⟩ := and_e gg2
  obtain ⟨w0, w1, rfl⟩ : ∃ w0 w1 : Value, args = #[w0, w1] := by
    have hs : args.size = 2 := by simpa [Cond.value, given_1] using gg1
    obtain ⟨L⟩ := args
    match L, hs with
    | [w0, w1], _ => exact ⟨w0, w1, rfl⟩
  have hw := fun d (hd : d ∈ tables_1) => atoms_spec (ws := Jvm.Cond.code x code maxLocals ret :: tables_1) hat d (List.mem_cons_of_mem _ hd)
  obtain ⟨i0, ei0⟩ := is_v gg3
  obtain rfl : w0 = (.int i0) := Option.some.inj ei0
  obtain ⟨i1, ei1⟩ := is_v gg4
  obtain rfl : w1 = (.int i1) := Option.some.inj ei1
  obtain ⟨n, o, h1, h2, h3, _, L, rfl, ⟨rfl, N⟩, hq⟩ := rm0 l s _ hw tables_1 i0 i1  s.heap s.heap.size (Nat.le_refl _)  p e ha hc hk s m _ below hf ((Spec.applies_iff_loose hf).mp happ).1 ⟨rfl, State.Warmed39.refl s, rfl⟩ trivial
  refine ⟨n, _, h1, h2, h3, hpost _ _ _ _ _ _ ⟨Cond.after_iff.mpr rfl, Cond.after_iff.mpr (eq_i res_at (Term.int_eval (1)) rfl), trivial⟩ ⟨hq.1, hq.2.1, (hq.2.2.sift fun y hy => Or.inr (N y hy)).mono (by decide) (by decide)⟩⟩
theorem main_1_1 : Claimed_1_1 := comes_1 fun _ _ _ _ _ _ h hF => ⟨h.1, hF⟩
theorem main_1_2 : Claimed_1_2 := comes_1 fun _ _ _ _ _ _ h hF => ⟨h.2.1, hF⟩
end Jvm.Pilot.@@N@@
namespace Jvm.Pilot.@@N@@
open Jvm Jvm.ClassFile Sem Op Lib Jvm.Free Jvm.Stand Jvm.Pilot.@@N@@.Jvm.D
/-! MADE BY PROGRAM (witnessworld.py) out of the Statement's table words and the real class files: 11 classes; the members and pool entries that the words name. The judged class is class 1, her method 1. -/
namespace start1
open Jvm.ClassFile
def u (s : String) : CpInfo := .utf8 (stringToUtf16 s)
/-- a pool by its gaps: so many unusable entries, then the entry; so many at the end -/
def gap : Nat → List CpInfo → List CpInfo
  | 0, r => r
  | n + 1, r => .unusable :: gap n r
def poolList (es : List (Nat × CpInfo)) (last : Nat) : List CpInfo := es.foldr (fun e r => gap e.1 (e.2 :: r)) (gap last [])
def pool (es : List (Nat × CpInfo)) (last : Nat) : Array CpInfo := ⟨poolList es last⟩
def fileOf (pool : Array CpInfo) (this : Nat) (attrs : Array Attribute := #[]) (ms : Array MethodInfo := #[]) (fl : Nat := 33) (sup : Nat := 0) (ifs : Array Nat := #[]) (fds : Array FieldInfo := #[]) : ClassFile where
  minorVersion := 0
  majorVersion := 65
  constantPool := pool
  accessFlags := fl
  thisClass := this
  superClass := sup
  interfaces := ifs
  fields := fds
  methods := ms
  attributes := attrs
def plain (name : String) (sup : Option ClassId) : Class where
  name := name
  kind := .ordinary
  loader := none
  accessFlags := 33
  super := sup
  interfaces := #[]
  cf := none
  fields := #[]
  methods := #[]
  instanceTypes := #[]
  staticTypes := #[]
  resolved := #[]
  callSites := []
  init := .initialized
  statics := none
  mirror := none

def pool0 : Array CpInfo := pool [(5, u "<init>"), (0, u "()V"), (1, .class_ 10), (1, u "java/lang/Object")] 113

def k0m0 : Method := { name := "<init>", desc := "()V", sig := { parameters := [], returnType := none }, accessFlags := 1, code := none }
/-- java/lang/Object -/
def k0 : Class := { plain "java/lang/Object" none with
  accessFlags := 33
  interfaces := #[]
  cf := some (fileOf pool0 8 #[] #[{ accessFlags := 1, nameIndex := 5, descriptorIndex := 6, attributes := #[] }] 33 0 #[] #[])
  fields := #[]
  methods := #[k0m0]
  instanceTypes := #[]
  staticTypes := #[]
  resolved := Array.replicate 124 none
  statics := none }

def pool1 : Array CpInfo := pool [(2, .class_ 4), (1, u "java/lang/Object"), (0, u "<init>"), (0, u "()V"), (0, .integer 2147483647), (0, .methodref 9 10), (0, .class_ 11), (0, .nameAndType 12 13), (0, u "java/lang/Math"), (0, u "max"), (0, u "(II)I"), (0, .long 5), (1, .methodref 17 18), (0, .class_ 19), (0, .nameAndType 20 13), (0, u "com/example/cliquework/cliquework/algorithms/MisGreedyNode"), (0, u "loopBound"), (0, .class_ 22), (0, u "com/example/cliquework/cliquework/algorithms/MisGreedyNodeLoopBoundPinLaw"), (2, u "law"), (0, u "(II)Z")] 3

def k1m0 : Method := { name := "<init>", desc := "()V", sig := { parameters := [], returnType := none }, accessFlags := 1, code := none }
def k1c1 : Code := { maxStack := 6, maxLocals := 8, code := code, exceptionTable := #[], attributes := #[] }
def k1m1 : Method := { name := "law", desc := "(II)Z", sig := { parameters := [.int, .int], returnType := some .boolean }, accessFlags := 9, code := some k1c1 }
/-- com/example/cliquework/cliquework/algorithms/MisGreedyNodeLoopBoundPinLaw -/
def k1 : Class := { plain "com/example/cliquework/cliquework/algorithms/MisGreedyNodeLoopBoundPinLaw" (some 0) with
  accessFlags := 49
  interfaces := #[]
  cf := some (fileOf pool1 21 #[] #[{ accessFlags := 1, nameIndex := 5, descriptorIndex := 6, attributes := #[] }, { accessFlags := 9, nameIndex := 25, descriptorIndex := 26, attributes := #[] }] 49 2 #[] #[])
  fields := #[]
  methods := #[k1m0, k1m1]
  instanceTypes := #[]
  staticTypes := #[]
  resolved := Array.replicate 30 none
  statics := none }

def pool2 : Array CpInfo := pool [(1, .class_ 2), (0, u "java/lang/Math"), (1, .class_ 6), (1, u "java/lang/Object"), (0, u "<init>"), (0, u "()V"), (89, .class_ 100), (1, u "java/lang/Math$RandomNumberGeneratorHolder"), (71, u "negativeZeroFloatBits"), (0, u "J"), (2, u "negativeZeroDoubleBits"), (21, u "max"), (46, u "$assertionsDisabled"), (0, u "Z"), (88, u "(II)I"), (2, u "twoToTheDoubleScaleDown"), (0, u "D"), (4, u "twoToTheDoubleScaleUp"), (9, u "E"), (3, u "PI"), (2, u "TAU"), (2, u "DEGREES_TO_RADIANS"), (0, u "RADIANS_TO_DEGREES")] 94

def k2m0 : Method := { name := "<init>", desc := "()V", sig := { parameters := [], returnType := none }, accessFlags := 2, code := none }
def k2c1 : Code := { maxStack := 2, maxLocals := 2, code := jdk_29_method_65_code, exceptionTable := #[], attributes := #[] }
def k2m1 : Method := { name := "max", desc := "(II)I", sig := { parameters := [.int, .int], returnType := some .int }, accessFlags := 9, code := some k2c1 }
/-- java/lang/Math -/
def k2 : Class := { plain "java/lang/Math" (some 0) with
  accessFlags := 49
  interfaces := #[]
  cf := some (fileOf pool2 1 #[.nestMembers #[98]] #[{ accessFlags := 2, nameIndex := 7, descriptorIndex := 8, attributes := #[] }, { accessFlags := 9, nameIndex := 198, descriptorIndex := 335, attributes := #[] }] 49 4 #[] #[{ accessFlags := 25, nameIndex := 354, descriptorIndex := 339, attributes := #[] }, { accessFlags := 25, nameIndex := 358, descriptorIndex := 339, attributes := #[] }, { accessFlags := 25, nameIndex := 361, descriptorIndex := 339, attributes := #[] }, { accessFlags := 26, nameIndex := 364, descriptorIndex := 339, attributes := #[] }, { accessFlags := 26, nameIndex := 365, descriptorIndex := 339, attributes := #[] }, { accessFlags := 26, nameIndex := 172, descriptorIndex := 173, attributes := #[] }, { accessFlags := 26, nameIndex := 176, descriptorIndex := 173, attributes := #[] }, { accessFlags := 8, nameIndex := 344, descriptorIndex := 339, attributes := #[] }, { accessFlags := 8, nameIndex := 338, descriptorIndex := 339, attributes := #[] }, { accessFlags := 4120, nameIndex := 245, descriptorIndex := 246, attributes := #[] }])
  fields := #[{ name := "E", type := .double, accessFlags := 25, slot := 0, constantValue := 0 }, { name := "PI", type := .double, accessFlags := 25, slot := 1, constantValue := 0 }, { name := "TAU", type := .double, accessFlags := 25, slot := 2, constantValue := 0 }, { name := "DEGREES_TO_RADIANS", type := .double, accessFlags := 26, slot := 3, constantValue := 0 }, { name := "RADIANS_TO_DEGREES", type := .double, accessFlags := 26, slot := 4, constantValue := 0 }, { name := "negativeZeroFloatBits", type := .long, accessFlags := 26, slot := 5, constantValue := 0 }, { name := "negativeZeroDoubleBits", type := .long, accessFlags := 26, slot := 6, constantValue := 0 }, { name := "twoToTheDoubleScaleUp", type := .double, accessFlags := 8, slot := 7, constantValue := 0 }, { name := "twoToTheDoubleScaleDown", type := .double, accessFlags := 8, slot := 8, constantValue := 0 }, { name := "$assertionsDisabled", type := .boolean, accessFlags := 4120, slot := 9, constantValue := 0 }]
  methods := #[k2m0, k2m1]
  instanceTypes := #[]
  staticTypes := #[.double, .double, .double, .double, .double, .long, .long, .double, .double, .boolean]
  resolved := Array.replicate 460 none
  statics := none }

def pool3 : Array CpInfo := pool [(1, .class_ 2), (0, u "com/example/cliquework/cliquework/engine/NodeProgram"), (0, .class_ 4), (0, u "java/lang/Object")] 4

/-- com/example/cliquework/cliquework/engine/NodeProgram -/
def k3 : Class := { plain "com/example/cliquework/cliquework/engine/NodeProgram" (some 0) with
  accessFlags := 1537
  interfaces := #[]
  cf := some (fileOf pool3 1 #[] #[] 1537 3 #[] #[])
  fields := #[]
  methods := #[]
  instanceTypes := #[]
  staticTypes := #[]
  resolved := Array.replicate 9 none
  statics := none }

def pool4 : Array CpInfo := pool [(6, .class_ 8), (1, u "com/example/cliquework/cliquework/algorithms/MisGreedyNode"), (3, .class_ 14), (1, u "java/lang/Object"), (2, .class_ 19), (1, u "com/example/cliquework/cliquework/algorithms/MisGreedyNode$Stage"), (1, u "Lcom/example/cliquework/cliquework/algorithms/MisGreedyNode$Stage;"), (2, u "stage"), (11, u "orders"), (0, u "Ljava/util/function/IntFunction;"), (2, u "threshold"), (0, u "I"), (15, .long 5), (54, u "position"), (0, u "[I"), (2, u "id"), (2, u "state"), (0, u "[B"), (2, u "loopIterations"), (0, u "J"), (2, u "finishingBlocks"), (2, u "oversizeBlocks"), (2, u "n"), (45, u "residual"), (2, u "uncovered"), (8, u "leader"), (2, u "order"), (5, u "(II)I"), (5, u "finishing"), (0, u "Z"), (2, u "loopBound"), (2, u "blockEnd"), (12, u "gathering"), (0, u "Lcom/example/cliquework/cliquework/algorithms/Delivery;"), (22, u "processed"), (30, u "chosenNow"), (2, u "MARK"), (0, u "Lcom/example/cliquework/cliquework/engine/Message;"), (20, .class_ 307), (0, u "com/example/cliquework/cliquework/engine/NodeProgram"), (0, u "UNCOVERED"), (0, u "B"), (2, u "COVERED"), (1, u "CHOSEN")] 52

def k4c0 : Code := { maxStack := 6, maxLocals := 10, code := prog_23_method_5_code, exceptionTable := #[], attributes := #[] }
def k4m0 : Method := { name := "loopBound", desc := "(II)I", sig := { parameters := [.int, .int], returnType := some .int }, accessFlags := 8, code := some k4c0 }
/-- com/example/cliquework/cliquework/algorithms/MisGreedyNode -/
def k4 : Class := { plain "com/example/cliquework/cliquework/algorithms/MisGreedyNode" (some 0) with
  accessFlags := 49
  interfaces := #[3]
  cf := some (fileOf pool4 6 #[.nestMembers #[17]] #[{ accessFlags := 8, nameIndex := 210, descriptorIndex := 200, attributes := #[] }] 49 12 #[306] #[{ accessFlags := 26, nameIndex := 308, descriptorIndex := 309, attributes := #[] }, { accessFlags := 26, nameIndex := 312, descriptorIndex := 309, attributes := #[] }, { accessFlags := 26, nameIndex := 314, descriptorIndex := 309, attributes := #[] }, { accessFlags := 26, nameIndex := 284, descriptorIndex := 285, attributes := #[] }, { accessFlags := 18, nameIndex := 36, descriptorIndex := 37, attributes := #[] }, { accessFlags := 18, nameIndex := 40, descriptorIndex := 41, attributes := #[] }, { accessFlags := 2, nameIndex := 24, descriptorIndex := 21, attributes := #[] }, { accessFlags := 2, nameIndex := 133, descriptorIndex := 41, attributes := #[] }, { accessFlags := 2, nameIndex := 116, descriptorIndex := 41, attributes := #[] }, { accessFlags := 2, nameIndex := 191, descriptorIndex := 41, attributes := #[] }, { accessFlags := 2, nameIndex := 112, descriptorIndex := 113, attributes := #[] }, { accessFlags := 2, nameIndex := 194, descriptorIndex := 113, attributes := #[] }, { accessFlags := 2, nameIndex := 119, descriptorIndex := 120, attributes := #[] }, { accessFlags := 2, nameIndex := 179, descriptorIndex := 113, attributes := #[] }, { accessFlags := 2, nameIndex := 182, descriptorIndex := 41, attributes := #[] }, { accessFlags := 2, nameIndex := 250, descriptorIndex := 41, attributes := #[] }, { accessFlags := 2, nameIndex := 213, descriptorIndex := 41, attributes := #[] }, { accessFlags := 2, nameIndex := 206, descriptorIndex := 207, attributes := #[] }, { accessFlags := 2, nameIndex := 226, descriptorIndex := 227, attributes := #[] }, { accessFlags := 2, nameIndex := 281, descriptorIndex := 207, attributes := #[] }, { accessFlags := 2, nameIndex := 123, descriptorIndex := 124, attributes := #[] }, { accessFlags := 2, nameIndex := 127, descriptorIndex := 124, attributes := #[] }, { accessFlags := 2, nameIndex := 130, descriptorIndex := 124, attributes := #[] }])
  fields := #[{ name := "UNCOVERED", type := .byte, accessFlags := 26, slot := 0, constantValue := 0 }, { name := "COVERED", type := .byte, accessFlags := 26, slot := 1, constantValue := 0 }, { name := "CHOSEN", type := .byte, accessFlags := 26, slot := 2, constantValue := 0 }, { name := "MARK", type := (.object "com/example/cliquework/cliquework/engine/Message"), accessFlags := 26, slot := 3, constantValue := 0 }, { name := "orders", type := (.object "java/util/function/IntFunction"), accessFlags := 18, slot := 0, constantValue := 0 }, { name := "threshold", type := .int, accessFlags := 18, slot := 1, constantValue := 0 }, { name := "stage", type := (.object "com/example/cliquework/cliquework/algorithms/MisGreedyNode$Stage"), accessFlags := 2, slot := 2, constantValue := 0 }, { name := "n", type := .int, accessFlags := 2, slot := 3, constantValue := 0 }, { name := "id", type := .int, accessFlags := 2, slot := 4, constantValue := 0 }, { name := "leader", type := .int, accessFlags := 2, slot := 5, constantValue := 0 }, { name := "position", type := (.array .int), accessFlags := 2, slot := 6, constantValue := 0 }, { name := "order", type := (.array .int), accessFlags := 2, slot := 7, constantValue := 0 }, { name := "state", type := (.array .byte), accessFlags := 2, slot := 8, constantValue := 0 }, { name := "residual", type := (.array .int), accessFlags := 2, slot := 9, constantValue := 0 }, { name := "uncovered", type := .int, accessFlags := 2, slot := 10, constantValue := 0 }, { name := "processed", type := .int, accessFlags := 2, slot := 11, constantValue := 0 }, { name := "blockEnd", type := .int, accessFlags := 2, slot := 12, constantValue := 0 }, { name := "finishing", type := .boolean, accessFlags := 2, slot := 13, constantValue := 0 }, { name := "gathering", type := (.object "com/example/cliquework/cliquework/algorithms/Delivery"), accessFlags := 2, slot := 14, constantValue := 0 }, { name := "chosenNow", type := .boolean, accessFlags := 2, slot := 15, constantValue := 0 }, { name := "loopIterations", type := .long, accessFlags := 2, slot := 16, constantValue := 0 }, { name := "finishingBlocks", type := .long, accessFlags := 2, slot := 17, constantValue := 0 }, { name := "oversizeBlocks", type := .long, accessFlags := 2, slot := 18, constantValue := 0 }]
  methods := #[k4m0]
  instanceTypes := #[(.object "java/util/function/IntFunction"), .int, (.object "com/example/cliquework/cliquework/algorithms/MisGreedyNode$Stage"), .int, .int, .int, (.array .int), (.array .int), (.array .byte), (.array .int), .int, .int, .int, .boolean, (.object "com/example/cliquework/cliquework/algorithms/Delivery"), .boolean, .long, .long, .long]
  staticTypes := #[.byte, .byte, .byte, (.object "com/example/cliquework/cliquework/engine/Message")]
  resolved := Array.replicate 367 none
  statics := none }

def pool5 : Array CpInfo := pool [(1, u "java/lang/Cloneable"), (0, .class_ 1), (0, u "java/lang/Object"), (0, .class_ 3)] 3

/-- java/lang/Cloneable -/
def k5 : Class := { plain "java/lang/Cloneable" (some 0) with
  accessFlags := 1537
  interfaces := #[]
  cf := some (fileOf pool5 2 #[] #[] 1537 4 #[] #[])
  fields := #[]
  methods := #[]
  instanceTypes := #[]
  staticTypes := #[]
  resolved := Array.replicate 8 none
  statics := none }

def pool6 : Array CpInfo := pool [(1, u "java/io/Serializable"), (0, .class_ 1), (0, u "java/lang/Object"), (0, .class_ 3)] 3

/-- java/io/Serializable -/
def k6 : Class := { plain "java/io/Serializable" (some 0) with
  accessFlags := 1537
  interfaces := #[]
  cf := some (fileOf pool6 2 #[] #[] 1537 4 #[] #[])
  fields := #[]
  methods := #[]
  instanceTypes := #[]
  staticTypes := #[]
  resolved := Array.replicate 8 none
  statics := none }

/-- the primitive byte -/
def k7 : Class := { plain "byte" none with kind := .primitive 'B', accessFlags := 0x411 }
/-- [B -/
def k8 : Class := { plain "[B" (some 0) with kind := .array 7 .byte, interfaces := #[5, 6], accessFlags := 1041 }

/-- the primitive int -/
def k9 : Class := { plain "int" none with kind := .primitive 'I', accessFlags := 0x411 }
/-- [I -/
def k10 : Class := { plain "[I" (some 0) with kind := .array 9 .int, interfaces := #[5, 6], accessFlags := 1041 }

def heap : Heap := #[]
def classes : Array Class := #[k0, k1, k2, k3, k4, k5, k6, k7, k8, k9, k10]
def interned : List (Array UInt16 × Addr) := []
def slotsUsed : Nat := 0
def theMethod : MethodId := ⟨1, 1⟩
def args0 : Array Value := #[.int 5, .int 5]
def aboutOver (below : List Frame) : State where
  vm := { classes := classes, interned := interned.toArray }
  heap := heap
  slotsUsed := slotsUsed
  threads := #[{ frames := .invoking theMethod args0 :: below }]
def below0 : List Frame := [.native { method := ⟨0, 0⟩, args := #[] }]
def about1 : State := aboutOver below0
def p0 : Program := .bare "" "" ""
def e0 : Env := launch0.env 0 0 0
theorem w_frames : about1.frames = Frame.invoking theMethod args0 :: below0 := rfl
set_option maxRecDepth 65536 in
theorem w_args : argsFit about1.vm theMethod args0 = true := by decide +kernel
set_option maxRecDepth 65536 in
theorem w_heap : heapFits about1 = true := by decide +kernel
set_option maxRecDepth 65536 in
theorem w_runnable : about1.curStatus? = some .runnable := by decide +kernel
set_option maxRecDepth 65536 in
theorem w_alone : about1.alone = true := by decide +kernel
set_option maxRecDepth 65536 in
theorem w_named : about1.methodNamed? x = some theMethod := by decide +kernel
set_option maxRecDepth 65536 in
theorem w_hears : about1.hears theMethod below0 = true := by decide +kernel
set_option maxRecDepth 65536 in
theorem w_ripe : about1.ripe theMethod args0 below0 = true := by decide +kernel
theorem w_running : about1.status = .running := rfl
set_option maxRecDepth 65536 in
theorem w_room : about1.hasRoom e0.platform room_1 = true :=
  launch0.hasRoom_least _ room_1 (by decide +kernel) (by decide +kernel) (by decide +kernel) (by decide +kernel) (by decide +kernel) (by decide +kernel)
theorem allAtoms_all (ts : List Jvm.Cond) (a : Array Jvm.Value) (st : Jvm.State) : (allAtoms ts).before a st = ts.all (fun c => c.before a st) := by
  induction ts with
  | nil => rfl
  | cons c t ih =>
    show (Jvm.Cond.and c (allAtoms t)).before a st = _
    rw [Jvm.Cond.before_and, ih, List.all_cons]
def words1 : List Jvm.Cond := Jvm.Cond.code x code maxLocals ret :: tables_1
/-- a 'code' word, met by the world's own term for the bytes: nothing is compared byte by byte -/
theorem code_word {y : MethodName} {bytes : ByteArray} {mx : Nat} {rt : Option FieldType} {a : Array Value} {s : State} {m : MethodId} {meth : Method} {c : Code} (h1 : s.methodNamed? y = some m) (h2 : s.vm.method? m = some meth) (h3 : meth.code = some c) (h4 : c.code = bytes)
    (h5 : (c.maxLocals == mx && c.exceptionTable.isEmpty && decide (c.maxStack ≤ mostOperands) && decide (meth.sig.returnType = rt) && !meth.locks && decide (parseMethodDescriptor y.desc = some meth.sig)) = true) : (Jvm.Cond.code y bytes mx rt).before a s = true := by
  simp only [Bool.and_eq_true, beq_iff_eq, Bool.not_eq_true', decide_eq_true_eq] at h5
  obtain ⟨⟨⟨⟨⟨g1, g2⟩, g3⟩, g4⟩, g5⟩, g6⟩ := h5
  simp [Cond.before, Cond.holds, Cond.value, h1, h2, h3, h4, g1, g2, g3, g4, g5, g6]
def isCode : Jvm.Cond → Bool
  | .code _ _ _ _ => true
  | _ => false
theorem all_split {L : List Jvm.Cond} {P : Jvm.Cond → Bool} (h1 : L.all (fun c => isCode c || P c) = true) (h2 : ∀ c ∈ L.filter isCode, P c = true) : L.all P = true := by
  refine List.all_eq_true.mpr fun c hc => ?_
  have h := List.all_eq_true.mp h1 c hc
  rcases Bool.eq_false_or_eq_true (isCode c) with hi | hi
  · exact h2 c (List.mem_filter.mpr ⟨hc, hi⟩)
  · simpa [hi] using h
set_option maxRecDepth 65536 in
theorem w_c0 : (Jvm.Cond.code x code maxLocals ret).before args0 about1 = true := code_word (m := ⟨1, 1⟩) (meth := k1m1) (c := k1c1) (by decide +kernel) rfl rfl rfl (by decide +kernel)
set_option maxRecDepth 65536 in
theorem w_c1 : (Jvm.Cond.code ({ cls := "java/lang/Math", name := "max", desc := "(II)I" } : Jvm.MethodName) jdk_29_method_65_code (2 : Nat) (Option.some Jvm.ClassFile.FieldType.int)).before args0 about1 = true := code_word (m := ⟨2, 1⟩) (meth := k2m1) (c := k2c1) (by decide +kernel) rfl rfl rfl (by decide +kernel)
set_option maxRecDepth 65536 in
theorem w_c2 : (Jvm.Cond.code ({ cls := "com/example/cliquework/cliquework/algorithms/MisGreedyNode", name := "loopBound", desc := "(II)I" } : Jvm.MethodName) prog_23_method_5_code (10 : Nat) (Option.some Jvm.ClassFile.FieldType.int)).before args0 about1 = true := code_word (m := ⟨4, 0⟩) (meth := k4m0) (c := k4c0) (by decide +kernel) rfl rfl rfl (by decide +kernel)
def codes1 : List Jvm.Cond := [Jvm.Cond.code x code maxLocals ret, Jvm.Cond.code ({ cls := "java/lang/Math", name := "max", desc := "(II)I" } : Jvm.MethodName) jdk_29_method_65_code (2 : Nat) (Option.some Jvm.ClassFile.FieldType.int), Jvm.Cond.code ({ cls := "com/example/cliquework/cliquework/algorithms/MisGreedyNode", name := "loopBound", desc := "(II)I" } : Jvm.MethodName) prog_23_method_5_code (10 : Nat) (Option.some Jvm.ClassFile.FieldType.int)]
set_option maxRecDepth 65536 in
theorem codes_eq : words1.filter isCode = codes1 := rfl
theorem w_codes : ∀ c ∈ words1.filter isCode, c.before args0 about1 = true := by
  rw [codes_eq]
  intro c hc
  simp only [codes1, List.mem_cons, List.not_mem_nil, or_false] at hc
  rcases hc with rfl | rfl | rfl
  · exact w_c0
  · exact w_c1
  · exact w_c2
set_option maxRecDepth 65536 in
theorem w_t1 : words1.all (fun c => isCode c || c.before args0 about1) = true := by decide +kernel
theorem w_tables : (allAtoms (Jvm.Cond.code x code maxLocals ret :: tables_1)).before args0 about1 = true := by
  rw [allAtoms_all]
  show words1.all (fun c => c.before args0 about1) = true
  refine all_split ?_ w_codes
  rw [w_t1]
set_option maxRecDepth 65536 in
theorem w_case : (Jvm.Cond.and given_1 narrow_1).before args0 about1 = true := by decide +kernel
theorem w_applies : (headSpec (Jvm.Cond.code x code maxLocals ret :: tables_1) room_1).applies x e0.platform about1 = true :=
  (Spec.applies_iff w_frames).mpr ⟨w_running, w_runnable, w_alone, w_named, w_hears, w_ripe, w_room, w_tables⟩
theorem atStart : AtStart classFile x code maxLocals ret World_1 tables_1 room_1 Calls_1 rest_1 Pre_1 launch0 p0 e0 about1 theMethod args0 below0 :=
  ⟨lists_1, trivial, launch0.admits_env _ _ _, launch0.least_env, fairChoices_fair.cas, fairChoices_fair.clock, w_frames, w_args, w_heap, w_applies, trivial, trivial, w_case⟩
end start1
theorem witness_1 : WitnessClaimed_1 := ⟨start1.p0, start1.e0, start1.about1, start1.theMethod, start1.args0, start1.below0, start1.atStart⟩
end Jvm.Pilot.@@N@@
