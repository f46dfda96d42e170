import JvmDerived
import JvmDerived.Pilot.@@N@@Statement
import JvmDerived.Pilot.@@N@@Code
set_option linter.unusedVariables false
set_option linter.unusedSimpArgs false
namespace Jvm.Pilot.@@N@@
open Jvm Jvm.ClassFile Sem Op Lib Jvm.Free Jvm.Stand Jvm.LawKit Jvm.RoadKit Bundle Jvm.Pilot.@@N@@.Jvm.D
section Own
variable {p : Program} {l : Launch} {e : Env} {R : Room} {s : State} {m : MethodId} {args : Array Value} {below : List Frame} {meth : Method} {c : Code} {T : State} {locs : List Loc} {cells slots : Nat} {C N : Nat} {Q : Option Value → Heap → List Loc → Prop} {V V' : State}
/-- from the state V the method comes to its return, and leaves what Q says -/
def own_Run (p : Program) (e : Env) (below : List Frame) (s : State) (C N : Nat) (Q : Option Value → Heap → List Loc → Prop) (V : State) : Prop :=
  ∃ s₂ o, Steps p.tables e below V s₂ ∧ s₂.status = .running ∧ Ended s₂ below o ∧ ∃ v L, o = .returned v ∧ Q v s₂.heap L ∧ FrameEnd s o s₂ L C N
theorem own_of (k : ∀ t, Steps p.tables e below V' t → Steps p.tables e below V t) (r : own_Run p e below s C N Q V') : own_Run p e below s C N Q V := by
  obtain ⟨s₂, o, h, q⟩ := r
  exact ⟨s₂, o, k _ h, q⟩
theorem own_tr (k : Steps p.tables e below V V') (r : own_Run p e below s C N Q V') : own_Run p e below s C N Q V := own_of (fun _ h => k.trans h) r
theorem own_cast {g g' : JFrame} (q : g = g') (r : own_Run p e below s C N Q (T.setTop g')) : own_Run p e below s C N Q (T.setTop g) := q ▸ r
theorem own_ret (X : Stand p l e R s m args below meth c T locs cells slots) (hx : p.tables.exec = Jvm.exec) {pc : Nat} {Ls : Array Slot} {w : Value} {t : FieldType} {i : Instr} {rest : List Value} (hret : meth.sig.returnType = some t) (hlk : meth.locks = false) (hn : narrow t w = w)
    (hi : (i = .ireturn ∧ (t = .int ∨ t = .boolean ∨ t = .byte ∨ t = .char ∨ t = .short) ∧ ∃ z, w = .int z) ∨ (i = .lreturn ∧ t = .long ∧ ∃ z, w = .long z) ∨ (i = .dreturn ∧ t = .double ∧ ∃ z, w = .double z) ∨ (i = .freturn ∧ t = .float ∧ ∃ z, w = .float z) ∨ (i = .areturn ∧ t.isReference = true ∧ w.isRef = true))
    (hd : decode c.code pc = .ok (i, 1)) (q : Q (some w) T.heap locs) (hc : cells ≤ C) (hs : slots ≤ N) : own_Run p e below s C N Q (T.setTop (mkF m pc Ls (w :: rest))) := by
  obtain ⟨fs, hr, hrun, hended, hW, hsame⟩ := X.leave (v := some w) (fun h => by rw [hret] at h; cases h) hlk
  exact ⟨_, _, retOut X hx hret hn hi hd hr, hrun, hended, _, _, rfl, q, ⟨_, rfl⟩, hW, hsame.mono hc hs⟩
theorem own_retI (X : Stand p l e R s m args below meth c T locs cells slots) (hx : p.tables.exec = Jvm.exec) {pc : Nat} {Ls : Array Slot} {z : Int32} {rest : List Value} (hret : meth.sig.returnType = some .int) (hlk : meth.locks = false)
    (hd : decode c.code pc = .ok (.ireturn, 1)) (q : Q (some (.int z)) T.heap locs) (hc : cells ≤ C) (hs : slots ≤ N) : own_Run p e below s C N Q (T.setTop (mkF m pc Ls (.int z :: rest))) :=
  own_ret X hx hret hlk rfl (Or.inl ⟨rfl, Or.inl rfl, z, rfl⟩) hd q hc hs
theorem own_retJ (X : Stand p l e R s m args below meth c T locs cells slots) (hx : p.tables.exec = Jvm.exec) {pc : Nat} {Ls : Array Slot} {z : Int64} {rest : List Value} (hret : meth.sig.returnType = some .long) (hlk : meth.locks = false)
    (hd : decode c.code pc = .ok (.lreturn, 1)) (q : Q (some (.long z)) T.heap locs) (hc : cells ≤ C) (hs : slots ≤ N) : own_Run p e below s C N Q (T.setTop (mkF m pc Ls (.long z :: rest))) :=
  own_ret X hx hret hlk rfl (Or.inr (Or.inl ⟨rfl, rfl, z, rfl⟩)) hd q hc hs
theorem own_retN (X : Stand p l e R s m args below meth c T locs cells slots) (hx : p.tables.exec = Jvm.exec) {pc : Nat} {Ls : Array Slot} {z : Int32} {t : FieldType} {rest : List Value} (hret : meth.sig.returnType = some t) (hlk : meth.locks = false) (ht : t = .boolean ∨ t = .byte ∨ t = .char ∨ t = .short)
    (hd : decode c.code pc = .ok (.ireturn, 1)) (q : Q (some (.int (nar t z))) T.heap locs) (hc : cells ≤ C) (hs : slots ≤ N) : own_Run p e below s C N Q (T.setTop (mkF m pc Ls (.int z :: rest))) := by
  obtain ⟨fs, hr, hrun, hended, hW, hsame⟩ := X.leave (v := some (.int (nar t z))) (fun h => by rw [hret] at h; cases h) hlk
  exact ⟨_, _, retN X hx hret ht hd hr, hrun, hended, _, _, rfl, q, ⟨_, rfl⟩, hW, hsame.mono hc hs⟩
theorem own_retV (X : Stand p l e R s m args below meth c T locs cells slots) (hx : p.tables.exec = Jvm.exec) {pc : Nat} {Ls : Array Slot} (hret : meth.sig.returnType = none) (hlk : meth.locks = false)
    (hd : decode c.code pc = .ok (.return_, 1)) (q : Q none T.heap locs) (hc : cells ≤ C) (hs : slots ≤ N) : own_Run p e below s C N Q (T.setTop (mkF m pc Ls [])) := by
  obtain ⟨fs, hr, hrun, hended, hW, hsame⟩ := X.leave (v := none) (fun _ => rfl) hlk
  exact ⟨_, _, X.returnOut hx hret hd hr, hrun, hended, _, _, rfl, q, ⟨_, rfl⟩, hW, hsame.mono hc hs⟩
end Own
section OwnArrays
variable {p : Program} {l : Launch} {e : Env} {R : Room} {s : State} {m : MethodId} {args : Array Value} {below : List Frame} {meth : Method} {c : Code} {T : State} {locs : List Loc} {cells slots : Nat} {C N : Nat} {Q : Option Value → Heap → List Loc → Prop} {Z : State} {h h' : Heap} {a b : Addr} {ty : FieldType} {n : Nat} {f g : Nat → Int32} {v : Value} {sl : Nat} {ws : List Addr}
/-- in the heap h, at a, an array of the kind ty and n places; its place i holds the int f i -/
def own_Ar (Z : State) (h : Heap) (a : Addr) (ty : FieldType) (n : Nat) (f : Nat → Int32) : Prop := ∃ c : Cell, Arr Z h a c ty ∧ c.slots.size = n ∧ ∀ i, i < n → c.slots[i]? = some (.int (f i))
def own_up (f : Nat → Int32) (j : Nat) (v : Int32) : Nat → Int32 := fun i => if i = j then v else f i
theorem own_Ar.lt (F : own_Ar Z h a ty n f) : a < h.size := by obtain ⟨c, A, -⟩ := F; exact A.lt
theorem own_Ar.ext (F : own_Ar Z h a ty n f) (E : Ext h h') : own_Ar Z h' a ty n f := by obtain ⟨c, A, r⟩ := F; exact ⟨c, A.ext E, r⟩
theorem own_Ar.other (F : own_Ar Z h b ty n f) (W : Wr h h' a sl v) (q : b ≠ a) : own_Ar Z h' b ty n f := by obtain ⟨c, A, r⟩ := F; exact ⟨c, A.other W q, r⟩
theorem own_Ar.keep (F : own_Ar Z h a ty n f) (K : Keep h h' ws) (q : a ∉ ws) : own_Ar Z h' a ty n f := by obtain ⟨c, A, r⟩ := F; exact ⟨c, ⟨K.2.1 a c A.1 q, A.2⟩, r⟩
theorem own_Ar.congr (F : own_Ar Z h a ty n f) (q : ∀ i, i < n → f i = g i) : own_Ar Z h a ty n g := by obtain ⟨c, A, r, H⟩ := F; exact ⟨c, A, r, fun i hi => by rw [← q i hi]; exact H i hi⟩
theorem own_Ar.new {k : ClassId} {z : Int32} (A : Arr Z h a (newA k ty z) ty) (hd : defaultValue ty = .int 0) (hn : z.toNatClampNeg = n) : own_Ar Z h a ty n (fun _ => 0) :=
  ⟨_, A, by rw [sz_new, hn], fun i hi => by simp [newA, hd, hn, hi]⟩
theorem own_Ar.set {w : Int32} {j : Nat} (F : own_Ar Z h a ty n f) (W : Wr h h' a j (.int w)) (hj : j < n) : own_Ar Z h' a ty n (own_up f j w) := by
  obtain ⟨c, A, r, H⟩ := F
  refine ⟨_, A.same W, by rw [sz_set]; exact r, fun i hi => ?_⟩
  by_cases q : i = j
  · subst q
    simp [own_up, Cell.setSlot, r, hi]
  · rw [show (c.setSlot j (.int w)).slots[i]? = c.slots[i]? from Array.getElem?_setIfInBounds_ne (Ne.symm q)]
    simp [own_up, q, H i hi]
theorem own_bal (X : Stand p l e R s m args below meth c T locs cells slots) (hx : p.tables.exec = Jvm.exec) (hZ : Z.Warmed39 s.vm) (eT : T.heap = h) (A : own_Ar Z h a .byte n f) {j w : Int32} (h1 : ¬ j < 0) (h2 : j.toNatClampNeg < n) (hv : f j.toNatClampNeg = w)
    {pc : Nat} {Ls : Array Slot} {rest : List Value} (hd : decode c.code pc = .ok (.baload, 1)) (r : own_Run p e below s C N Q (T.setTop (mkF m (pc + 1) Ls (.int w :: rest)))) : own_Run p e below s C N Q (T.setTop (mkF m pc Ls (.int j :: .ref a :: rest))) := by
  obtain ⟨c, A, S, H⟩ := A
  subst hv
  exact own_of (fun t k => X.baloadBytes hx (j := j) (v := .int (f j.toNatClampNeg)) (by rw [eT]; exact A.1) (State.isArrayOf_alike hZ.alike A.2.1) A.2.2 (by rw [S]; exact fun q => q.elim h1 (Nat.not_le.mpr h2)) (H _ h2) (g := mkF m pc Ls (.int j :: .ref a :: rest)) rfl rfl hd t k) r
theorem own_ial (X : Stand p l e R s m args below meth c T locs cells slots) (hx : p.tables.exec = Jvm.exec) (hZ : Z.Warmed39 s.vm) (eT : T.heap = h) (A : own_Ar Z h a .int n f) {j w : Int32} (h1 : ¬ j < 0) (h2 : j.toNatClampNeg < n) (hv : f j.toNatClampNeg = w)
    {pc : Nat} {Ls : Array Slot} {rest : List Value} (hd : decode c.code pc = .ok (.iaload, 1)) (r : own_Run p e below s C N Q (T.setTop (mkF m (pc + 1) Ls (.int w :: rest)))) : own_Run p e below s C N Q (T.setTop (mkF m pc Ls (.int j :: .ref a :: rest))) := by
  obtain ⟨c, A, S, H⟩ := A
  subst hv
  exact own_of (fun t k => X.iaload hx (j := j) (v := .int (f j.toNatClampNeg)) (by rw [eT]; exact A.1) (State.isArrayOf_alike hZ.alike A.2.1) A.2.2 (by rw [S]; exact fun q => q.elim h1 (Nat.not_le.mpr h2)) (H _ h2) (g := mkF m pc Ls (.int j :: .ref a :: rest)) rfl rfl hd t k) r
theorem own_alen (X : Stand p l e R s m args below meth c T locs cells slots) (hx : p.tables.exec = Jvm.exec) (hZ : Z.Warmed39 s.vm) (eT : T.heap = h) (A : own_Ar Z h a ty n f) {w : Int32} (hv : n.toInt32 = w)
    {pc : Nat} {Ls : Array Slot} {rest : List Value} (hd : decode c.code pc = .ok (.arraylength, 1)) (r : own_Run p e below s C N Q (T.setTop (mkF m (pc + 1) Ls (.int w :: rest)))) : own_Run p e below s C N Q (T.setTop (mkF m pc Ls (.ref a :: rest))) := by
  obtain ⟨c, A, S, H⟩ := A
  subst hv S
  exact own_of (fun t k => X.arraylength hx (by rw [eT]; exact A.1) (State.isArrayOf_alike hZ.alike A.2.1) (g := mkF m pc Ls (.ref a :: rest)) rfl rfl hd t k) r
theorem own_bas (X : Stand p l e R s m args below meth c T locs cells slots) (hx : p.tables.exec = Jvm.exec) (hZ : Z.Warmed39 s.vm) (eT : T.heap = h) (A : own_Ar Z h a .byte n f) {j x : Int32} (h1 : ¬ j < 0) (h2 : j.toNatClampNeg < n)
    {pc : Nat} {Ls : Array Slot} {rest : List Value} (hd : decode c.code pc = .ok (.bastore, 1)) :
    ∃ T' h', Stand p l e R s m args below meth c T' (locs ++ [⟨a, j.toNatClampNeg⟩]) cells slots ∧ T'.heap = h' ∧ Wr h h' a j.toNatClampNeg (.int x.toInt8.toInt32) ∧ own_Ar Z h' a .byte n (own_up f j.toNatClampNeg x.toInt8.toInt32) ∧
      ∀ t, Steps p.tables e below (T'.setTop (mkF m (pc + 1) Ls rest)) t → Steps p.tables e below (T.setTop (mkF m pc Ls (.int x :: .int j :: .ref a :: rest))) t := by
  obtain ⟨c, A, S, H⟩ := id A
  obtain ⟨T', h', X', e', W, st⟩ := stB X hx hZ eT A (j := j) (x := x) (by rw [S]; exact fun q => q.elim h1 (Nat.not_le.mpr h2)) (g := mkF m pc Ls (.int x :: .int j :: .ref a :: rest)) rfl rfl hd
  exact ⟨T', h', X', e', W, own_Ar.set ⟨c, A, S, H⟩ W h2, st⟩
theorem own_ias (X : Stand p l e R s m args below meth c T locs cells slots) (hx : p.tables.exec = Jvm.exec) (hZ : Z.Warmed39 s.vm) (eT : T.heap = h) (A : own_Ar Z h a .int n f) {j x : Int32} (h1 : ¬ j < 0) (h2 : j.toNatClampNeg < n)
    {pc : Nat} {Ls : Array Slot} {rest : List Value} (hd : decode c.code pc = .ok (.iastore, 1)) :
    ∃ T' h', Stand p l e R s m args below meth c T' (locs ++ [⟨a, j.toNatClampNeg⟩]) cells slots ∧ T'.heap = h' ∧ Wr h h' a j.toNatClampNeg (.int x) ∧ own_Ar Z h' a .int n (own_up f j.toNatClampNeg x) ∧
      ∀ t, Steps p.tables e below (T'.setTop (mkF m (pc + 1) Ls rest)) t → Steps p.tables e below (T.setTop (mkF m pc Ls (.int x :: .int j :: .ref a :: rest))) t := by
  obtain ⟨c, A, S, H⟩ := id A
  obtain ⟨T', h', X', e', W, st⟩ := stI X hx hZ eT A (j := j) (x := x) (by rw [S]; exact fun q => q.elim h1 (Nat.not_le.mpr h2)) (g := mkF m pc Ls (.int x :: .int j :: .ref a :: rest)) rfl rfl hd
  exact ⟨T', h', X', e', W, own_Ar.set ⟨c, A, S, H⟩ W h2, st⟩
end OwnArrays
def own_minI (a b : Int32) : Int32 := if b < a then b else a
def own_maxI (a b : Int32) : Int32 := if a < b then b else a
/-- a small natural as an int -/
def own_n (k : Nat) : Int32 := Int32.ofNat k
theorem own_n_nat : ∀ k, k < 16 → (own_n k).toNatClampNeg = k := by decide +kernel
theorem own_n_pos : ∀ k, k < 16 → ¬ own_n k < 0 := by decide +kernel
theorem own_n_inj : ∀ a, a < 16 → ∀ b, b < 16 → (own_n a = own_n b ↔ a = b) := by decide +kernel
theorem own_n_max : ∀ a, a < 4 → ∀ b, b < 4 → own_maxI (own_n a) (own_n b) = own_n (max a b) := by decide +kernel
theorem own_n_min : ∀ a, a < 4 → ∀ b, b < 4 → own_minI (own_n a) (own_n b) = own_n (min a b) := by decide +kernel
theorem own_n_or : ∀ a, a < 16 → ∀ b, b < 16 → own_n a ||| own_n b = own_n (a ||| b) ∧ a ||| b < 16 := by decide +kernel
theorem own_n_and : ∀ a, a < 16 → ∀ b, b < 16 → own_n a &&& own_n b = own_n (a &&& b) ∧ a &&& b < 16 := by decide +kernel
theorem own_n_shl : ∀ a, a < 4 → (1 : Int32) <<< (own_n a &&& 31) = own_n (2 ^ a) ∧ 2 ^ a < 16 := by decide +kernel
theorem own_m3 (x : Int32) : ∃ k, k < 4 ∧ x &&& (3 : Int32) = own_n k := by
  have a : (x &&& (3 : Int32)).toInt = x.toInt % 4 := c_mask x (3 : Int32) 2 (by decide) (by decide)
  refine ⟨(x.toInt % 4).toNat, by omega, Int32.toInt_inj.mp ?_⟩
  have b : ∀ k, k < 4 → (own_n k).toInt = (k : Int) := by decide +kernel
  rw [a, b _ (by omega)]
  omega
/-- the parents' array f: every place's parent stands before it, in its part; lab names the parts by their smallest -/
def own_PR (f : Nat → Int32) (lab : Nat → Nat) : Prop := (∀ i, i < 4 → lab i ≤ i ∧ lab (lab i) = lab i) ∧ ∀ i, i < 4 → ∃ q, f i = own_n q ∧ q ≤ i ∧ lab q = lab i ∧ (q = i → lab i = i)
theorem own_PR_set {f : Nat → Int32} {lab : Nat → Nat} (P : own_PR f lab) {i q : Nat} (hq : q ≤ i) (hl : lab q = lab i) (he : q = i → lab i = i) : own_PR (own_up f i (own_n q)) lab := by
  refine ⟨P.1, fun j hj => ?_⟩
  by_cases e : j = i
  · subst e
    exact ⟨q, if_pos rfl, hq, hl, he⟩
  · obtain ⟨t, h1, h2⟩ := P.2 j hj
    exact ⟨t, by rw [← h1]; exact if_neg e, h2⟩
/-- the parts of a and b made one -/
def own_mrg (lab : Nat → Nat) (a b : Nat) : Nat → Nat := fun j => if lab j = max (lab a) (lab b) then min (lab a) (lab b) else lab j
theorem own_mrg_same {lab : Nat → Nat} {a b : Nat} (h : lab a = lab b) : own_mrg lab a b = lab := by
  funext j
  unfold own_mrg
  rw [h, Nat.max_self, Nat.min_self]
  split
  · rename_i e; exact e.symm
  · rfl
theorem own_PR_up {f : Nat → Int32} {lab : Nat → Nat} (P : own_PR f lab) {M w : Nat} (hM : lab M = M) (hw : lab w = w) (hlt : w < M) : own_PR (own_up f M (own_n w)) (fun j => if lab j = M then w else lab j) := by
  have hwM : ¬ lab w = M := by omega
  refine ⟨fun i hi => ?_, fun i hi => ?_⟩
  · have p := P.1 i hi
    show (if lab i = M then w else lab i) ≤ i ∧ (if lab (if lab i = M then w else lab i) = M then w else lab (if lab i = M then w else lab i)) = (if lab i = M then w else lab i)
    by_cases e : lab i = M
    · rw [show (if lab i = M then w else lab i) = w from if_pos e, if_neg hwM]
      exact ⟨by omega, hw⟩
    · rw [show (if lab i = M then w else lab i) = lab i from if_neg e, p.2, if_neg e]
      exact ⟨p.1, rfl⟩
  · by_cases e : i = M
    · subst e
      exact ⟨w, if_pos rfl, by omega, by simp only [hM, hwM, if_true, if_false]; exact hw, fun q => absurd q (by omega)⟩
    · obtain ⟨t, h1, h2, h3, h4⟩ := P.2 i hi
      refine ⟨t, by rw [← h1]; exact if_neg e, h2, by simp only [h3], fun q => ?_⟩
      have z := h4 q
      have z2 : ¬ lab i = M := by omega
      simp only [z2, if_false]
      exact z
theorem own_PR_mrg {f : Nat → Int32} {lab : Nat → Nat} (P : own_PR f lab) {a b : Nat} (ha : a < 4) (hb : b < 4) (h : ¬ lab a = lab b) : own_PR (own_up f (max (lab a) (lab b)) (own_n (min (lab a) (lab b)))) (own_mrg lab a b) := by
  have pa := P.1 a ha
  have pb := P.1 b hb
  refine own_PR_up P ?_ ?_ (by omega)
  · rcases Nat.le_total (lab a) (lab b) with z | z
    · rw [Nat.max_eq_right z]; exact pb.2
    · rw [Nat.max_eq_left z]; exact pa.2
  · rcases Nat.le_total (lab a) (lab b) with z | z
    · rw [Nat.min_eq_left z]; exact pa.2
    · rw [Nat.min_eq_right z]; exact pb.2
/-- the masks: f holds the naturals m -/
def own_MK (f : Nat → Int32) (m : Nat → Nat) : Prop := ∀ i, i < 4 → f i = own_n (m i) ∧ m i < 16
def own_upN (m : Nat → Nat) (j v : Nat) : Nat → Nat := fun i => if i = j then v else m i
theorem own_MK_up {f : Nat → Int32} {m : Nat → Nat} (K : own_MK f m) {j v : Nat} (hv : v < 16) : own_MK (own_up f j (own_n v)) (own_upN m j v) := by
  intro i hi
  by_cases e : i = j
  · subst e
    exact ⟨by rw [show own_up f i (own_n v) i = own_n v from if_pos rfl, show own_upN m i v i = v from if_pos rfl], by rw [show own_upN m i v i = v from if_pos rfl]; exact hv⟩
  · rw [show own_up f j (own_n v) i = f i from if_neg e, show own_upN m j v i = m i from if_neg e]
    exact K i hi
def own_lk1 (m : Nat → Nat) (a b : Nat) : Nat → Nat := own_upN m a (m a ||| 2 ^ b)
def own_lkN (m : Nat → Nat) (a b : Nat) : Nat → Nat := own_lk1 (own_lk1 m a b) b a
def own_g1 (x v c : Int32) : Int32 := if c = (0 : Int32) then x else x ||| v
def own_g1N (x v c : Nat) : Nat := if c = 0 then x else x ||| v
def own_grI (f : Nat → Int32) (s : Int32) : Int32 := own_g1 (own_g1 (own_g1 (own_g1 s (f 0) (s &&& (1 : Int32))) (f 1) (s &&& (2 : Int32))) (f 2) (s &&& (4 : Int32))) (f 3) (s &&& (8 : Int32))
def own_grN (m : Nat → Nat) (s : Nat) : Nat := own_g1N (own_g1N (own_g1N (own_g1N s (m 0) (s &&& 1)) (m 1) (s &&& 2)) (m 2) (s &&& 4)) (m 3) (s &&& 8)
theorem own_g1_n {x v c : Nat} (hx : x < 16) (hv : v < 16) (hc : c < 16) : own_g1 (own_n x) (own_n v) (own_n c) = own_n (own_g1N x v c) ∧ own_g1N x v c < 16 := by
  unfold own_g1 own_g1N
  have z : own_n c = (0 : Int32) ↔ c = 0 := own_n_inj c hc 0 (by decide)
  by_cases e : c = 0
  · rw [if_pos (z.mpr e), if_pos e]
    exact ⟨rfl, hx⟩
  · rw [if_neg (mt z.mp e), if_neg e]
    exact own_n_or x hx v hv
theorem own_gr_n {f : Nat → Int32} {m : Nat → Nat} (K : own_MK f m) {s : Nat} (hs : s < 16) : own_grI f (own_n s) = own_n (own_grN m s) ∧ own_grN m s < 16 := by
  have a1 := own_n_and s hs 1 (by decide)
  have a2 := own_n_and s hs 2 (by decide)
  have a4 := own_n_and s hs 4 (by decide)
  have a8 := own_n_and s hs 8 (by decide)
  have k0 := K 0 (by decide)
  have k1 := K 1 (by decide)
  have k2 := K 2 (by decide)
  have k3 := K 3 (by decide)
  have g0 := own_g1_n hs k0.2 a1.2
  have g1 := own_g1_n g0.2 k1.2 a2.2
  have g2 := own_g1_n g1.2 k2.2 a4.2
  have g3 := own_g1_n g2.2 k3.2 a8.2
  refine ⟨?_, g3.2⟩
  unfold own_grI
  rw [k0.1, k1.1, k2.1, k3.1, show own_n s &&& (1 : Int32) = own_n (s &&& 1) from a1.1, show own_n s &&& (2 : Int32) = own_n (s &&& 2) from a2.1, show own_n s &&& (4 : Int32) = own_n (s &&& 4) from a4.1, show own_n s &&& (8 : Int32) = own_n (s &&& 8) from a8.1, g0.1, g1.1, g2.1, g3.1]
  rfl
def own_pk (s : Int32) : Int32 := if s &&& (1 : Int32) = (0 : Int32) then (if s &&& (2 : Int32) = (0 : Int32) then (if s &&& (4 : Int32) = (0 : Int32) then (3 : Int32) else (2 : Int32)) else (1 : Int32)) else (0 : Int32)
def own_pkN (s : Nat) : Nat := if s &&& 1 = 0 then (if s &&& 2 = 0 then (if s &&& 4 = 0 then 3 else 2) else 1) else 0
theorem own_pk_n : ∀ s, s < 16 → own_pk (own_n s) = own_n (own_pkN s) := by decide +kernel
def own_smN (m : Nat → Nat) (x : Nat) : Nat := own_pkN (own_grN m (own_grN m (own_grN m (2 ^ x))))
theorem own_sm_n {f : Nat → Int32} {m : Nat → Nat} (K : own_MK f m) {x : Nat} (hx : x < 4) : own_pk (own_grI f (own_grI f (own_grI f ((1 : Int32) <<< (own_n x &&& 31))))) = own_n (own_smN m x) := by
  have a := own_n_shl x hx
  have g1 := own_gr_n K a.2
  have g2 := own_gr_n K g1.2
  have g3 := own_gr_n K g2.2
  rw [a.1, g1.1, g2.1, g3.1, own_pk_n _ g3.2]
  rfl
def own_all4 (f : Nat → Bool) : Bool := f 0 && f 1 && f 2 && f 3
theorem own_all4_e {f : Nat → Bool} (h : own_all4 f = true) : ∀ k, k < 4 → f k = true := by
  unfold own_all4 at h
  simp only [Bool.and_eq_true] at h
  intro k hk
  have z : k = 0 ∨ k = 1 ∨ k = 2 ∨ k = 3 := by omega
  rcases z with rfl | rfl | rfl | rfl
  · exact h.1.1.1
  · exact h.1.1.2
  · exact h.1.2
  · exact h.2
set_option maxRecDepth 65536 in
theorem own_fin_b : own_all4 (fun a1 => own_all4 (fun b1 => own_all4 (fun a2 => own_all4 (fun b2 => own_all4 (fun a3 => own_all4 (fun b3 => own_all4 (fun q =>
    Nat.beq (own_mrg (own_mrg (own_mrg (fun i => i) a1 b1) a2 b2) a3 b3 q) (own_smN (own_lkN (own_lkN (own_lkN (fun _ => 0) a1 b1) a2 b2) a3 b3) q)))))))) = true := by decide +kernel
theorem own_fin (a1 : Nat) (h1 : a1 < 4) (b1 : Nat) (h2 : b1 < 4) (a2 : Nat) (h3 : a2 < 4) (b2 : Nat) (h4 : b2 < 4) (a3 : Nat) (h5 : a3 < 4) (b3 : Nat) (h6 : b3 < 4) (q : Nat) (h7 : q < 4) :
    own_mrg (own_mrg (own_mrg (fun i => i) a1 b1) a2 b2) a3 b3 q = own_smN (own_lkN (own_lkN (own_lkN (fun _ => 0) a1 b1) a2 b2) a3 b3) q :=
  Nat.eq_of_beq_eq_true (own_all4_e (own_all4_e (own_all4_e (own_all4_e (own_all4_e (own_all4_e (own_all4_e own_fin_b a1 h1) b1 h2) a2 h3) b2 h4) a3 h5) b3 h6) q h7)
theorem dm_0 : decode jdk_29_method_69_code 0 = .ok (.iload_n 0, 1) := by decide +kernel
theorem dm_1 : decode jdk_29_method_69_code 1 = .ok (.iload_n 1, 1) := by decide +kernel
theorem dm_2 : decode jdk_29_method_69_code 2 = .ok (.if_icmp .gt 7, 3) := by decide +kernel
theorem dm_5 : decode jdk_29_method_69_code 5 = .ok (.iload_n 0, 1) := by decide +kernel
theorem dm_6 : decode jdk_29_method_69_code 6 = .ok (.goto 4, 3) := by decide +kernel
theorem dm_9 : decode jdk_29_method_69_code 9 = .ok (.iload_n 1, 1) := by decide +kernel
theorem dm_10 : decode jdk_29_method_69_code 10 = .ok (.ireturn, 1) := by decide +kernel
theorem efm (m : MethodId) (p1 : Int32) (p2 : Int32) : entryFrame m #[(.int p1), (.int p2)] 2 = mkF m 0 #[.val (.int p1), .val (.int p2)] [] := by first | (simp [entryFrame, mkF, argsToLocals, Value.category]; done) | rfl
def Qm (Z : State) (p1 : Int32) (p2 : Int32) (h0 : Heap) (n0 : Nat) (v : Option Value) (h : Heap) (L : List Loc) : Prop := v = some (.int (own_minI p1 p2)) ∧ Fr n0 L ∧ h = h0
set_option maxRecDepth 65536 in
set_option maxHeartbeats 40000000 in
theorem rmm (l : Launch) (Z : State) (a0 : Array Value) (hw : ∀ d ∈ tables_1, d.before a0 Z = true) (ws : List Jvm.Cond) (p1 : Int32) (p2 : Int32) (h0 : Heap) (n0 : Nat) (Z0 : n0 ≤ h0.size)  :
    MetFree l (⟨"java/lang/Math", "min", "(II)I"⟩ : MethodName) (head1 (Jvm.Cond.code (⟨"java/lang/Math", "min", "(II)I"⟩ : MethodName) jdk_29_method_69_code 2 (some .int) :: ws) ({ frames := 0, cells := 0, slots := 0, locals := 0 } : Room)) (fun a U => a = #[(.int p1), (.int p2)] ∧ Z.Warmed39 U.vm ∧ U.heap = h0) (fun _ _ _ _ _ => True) (fun _ U o U' => ∃ v L, o = .returned v ∧ Qm Z p1 p2 h0 n0 v U'.heap L ∧ FrameEnd U o U' L ({ frames := 0, cells := 0, slots := 0, locals := 0 } : Room).cells ({ frames := 0, cells := 0, slots := 0, locals := 0 } : Room).slots) := by
  refine MetFree.of_bodySF (Jvm.Free.JP.mathPlain rfl (by decide +kernel)) hisR ?_
  intro p e s m args below meth c s₁ Bd hml0 hP hK
  obtain ⟨rfl, hZ, hh⟩ := hP
  have hx := Bd.exec
  have hby := Bd.bytes
  have hml : c.maxLocals = 2 := hml0
  have hown : s.vm.findClass "java/lang/Math" = some m.cls := findClass_of_methodNamed Bd.named
  have hnm := (name_of_methodNamed Bd.named Bd.method).1
  have hlk := Bd.notSynchronized
  have hret := Bd.returns
  have X0 : Stand p l e ({ frames := 0, cells := 0, slots := 0, locals := 0 } : Room) s m #[(.int p1), (.int p2)] below meth c s₁ [] 0 0 := Stand.of_body Bd
  have e0 : s₁.heap = h0 := by rw [← hh, Bd.state]; rfl
  have N0 := Fr.nil n0
  show own_Run p e below s 0 0 (Qm Z p1 p2 h0 n0) (s₁.setTop (entryFrame m #[(.int p1), (.int p2)] 2))
  refine own_cast (efm m p1 p2) ?_
  show own_Run p e below s _ _ _ (s₁.setTop (mkF m 0 #[.val (.int p1), .val (.int p2)] []))
  refine own_of (fun _ hh_ => XS.iloadN X0.here hx rfl (hb hby dm_0) rfl hh_) ?_
  show own_Run p e below s _ _ _ (s₁.setTop (mkF m 1 #[.val (.int p1), .val (.int p2)] [(.int p1)]))
  refine own_of (fun _ hh_ => XS.iloadN X0.here hx rfl (hb hby dm_1) rfl hh_) ?_
  show own_Run p e below s _ _ _ (s₁.setTop (mkF m 2 #[.val (.int p1), .val (.int p2)] [(.int p2), (.int p1)]))
  by_cases hc2_1 : p2 < p1
  · refine own_of (fun _ hh_ => XS.icmpYes X0.here hx rfl (pc0 := 2) (pc' := 9) rfl (hb hby dm_2) rfl (tlt hc2_1).2.2.1 (by decide) (by decide) hh_) ?_
    show own_Run p e below s _ _ _ (s₁.setTop (mkF m 9 #[.val (.int p1), .val (.int p2)] []))
    refine own_of (fun _ hh_ => XS.iloadN X0.here hx rfl (hb hby dm_9) rfl hh_) ?_
    show own_Run p e below s _ _ _ (s₁.setTop (mkF m 10 #[.val (.int p1), .val (.int p2)] [(.int p2)]))
    exact own_retI X0 hx hret hlk (hb hby dm_10) ⟨by unfold own_minI; rw [if_pos hc2_1], N0, e0⟩ (by decide) (by decide)
  · refine own_of (fun _ hh_ => XS.icmpNo X0.here hx rfl (hb hby dm_2) rfl (flt hc2_1).2.2.1 hh_) ?_
    show own_Run p e below s _ _ _ (s₁.setTop (mkF m 5 #[.val (.int p1), .val (.int p2)] []))
    refine own_of (fun _ hh_ => XS.iloadN X0.here hx rfl (hb hby dm_5) rfl hh_) ?_
    show own_Run p e below s _ _ _ (s₁.setTop (mkF m 6 #[.val (.int p1), .val (.int p2)] [(.int p1)]))
    refine own_of (fun _ hh_ => XS.goto X0.here hx rfl (pc0 := 6) (pc' := 10) rfl (hb hby dm_6) (by decide) (by decide) hh_) ?_
    show own_Run p e below s _ _ _ (s₁.setTop (mkF m 10 #[.val (.int p1), .val (.int p2)] [(.int p1)]))
    exact own_retI X0 hx hret hlk (hb hby dm_10) ⟨by unfold own_minI; rw [if_neg hc2_1], N0, e0⟩ (by decide) (by decide)
theorem dM_0 : decode jdk_29_method_65_code 0 = .ok (.iload_n 0, 1) := by decide +kernel
theorem dM_1 : decode jdk_29_method_65_code 1 = .ok (.iload_n 1, 1) := by decide +kernel
theorem dM_2 : decode jdk_29_method_65_code 2 = .ok (.if_icmp .lt 7, 3) := by decide +kernel
theorem dM_5 : decode jdk_29_method_65_code 5 = .ok (.iload_n 0, 1) := by decide +kernel
theorem dM_6 : decode jdk_29_method_65_code 6 = .ok (.goto 4, 3) := by decide +kernel
theorem dM_9 : decode jdk_29_method_65_code 9 = .ok (.iload_n 1, 1) := by decide +kernel
theorem dM_10 : decode jdk_29_method_65_code 10 = .ok (.ireturn, 1) := by decide +kernel
theorem efM (m : MethodId) (p1 : Int32) (p2 : Int32) : entryFrame m #[(.int p1), (.int p2)] 2 = mkF m 0 #[.val (.int p1), .val (.int p2)] [] := by first | (simp [entryFrame, mkF, argsToLocals, Value.category]; done) | rfl
def QM (Z : State) (p1 : Int32) (p2 : Int32) (h0 : Heap) (n0 : Nat) (v : Option Value) (h : Heap) (L : List Loc) : Prop := v = some (.int (own_maxI p1 p2)) ∧ Fr n0 L ∧ h = h0
set_option maxRecDepth 65536 in
set_option maxHeartbeats 40000000 in
theorem rmM (l : Launch) (Z : State) (a0 : Array Value) (hw : ∀ d ∈ tables_1, d.before a0 Z = true) (ws : List Jvm.Cond) (p1 : Int32) (p2 : Int32) (h0 : Heap) (n0 : Nat) (Z0 : n0 ≤ h0.size)  :
    MetFree l (⟨"java/lang/Math", "max", "(II)I"⟩ : MethodName) (head1 (Jvm.Cond.code (⟨"java/lang/Math", "max", "(II)I"⟩ : MethodName) jdk_29_method_65_code 2 (some .int) :: ws) ({ frames := 0, cells := 0, slots := 0, locals := 0 } : Room)) (fun a U => a = #[(.int p1), (.int p2)] ∧ Z.Warmed39 U.vm ∧ U.heap = h0) (fun _ _ _ _ _ => True) (fun _ U o U' => ∃ v L, o = .returned v ∧ QM Z p1 p2 h0 n0 v U'.heap L ∧ FrameEnd U o U' L ({ frames := 0, cells := 0, slots := 0, locals := 0 } : Room).cells ({ frames := 0, cells := 0, slots := 0, locals := 0 } : Room).slots) := by
  refine MetFree.of_bodySF (Jvm.Free.JP.mathPlain rfl (by decide +kernel)) hisR ?_
  intro p e s m args below meth c s₁ Bd hml0 hP hK
  obtain ⟨rfl, hZ, hh⟩ := hP
  have hx := Bd.exec
  have hby := Bd.bytes
  have hml : c.maxLocals = 2 := hml0
  have hown : s.vm.findClass "java/lang/Math" = some m.cls := findClass_of_methodNamed Bd.named
  have hnm := (name_of_methodNamed Bd.named Bd.method).1
  have hlk := Bd.notSynchronized
  have hret := Bd.returns
  have X0 : Stand p l e ({ frames := 0, cells := 0, slots := 0, locals := 0 } : Room) s m #[(.int p1), (.int p2)] below meth c s₁ [] 0 0 := Stand.of_body Bd
  have e0 : s₁.heap = h0 := by rw [← hh, Bd.state]; rfl
  have N0 := Fr.nil n0
  show own_Run p e below s 0 0 (QM Z p1 p2 h0 n0) (s₁.setTop (entryFrame m #[(.int p1), (.int p2)] 2))
  refine own_cast (efM m p1 p2) ?_
  show own_Run p e below s _ _ _ (s₁.setTop (mkF m 0 #[.val (.int p1), .val (.int p2)] []))
  refine own_of (fun _ hh_ => XS.iloadN X0.here hx rfl (hb hby dM_0) rfl hh_) ?_
  show own_Run p e below s _ _ _ (s₁.setTop (mkF m 1 #[.val (.int p1), .val (.int p2)] [(.int p1)]))
  refine own_of (fun _ hh_ => XS.iloadN X0.here hx rfl (hb hby dM_1) rfl hh_) ?_
  show own_Run p e below s _ _ _ (s₁.setTop (mkF m 2 #[.val (.int p1), .val (.int p2)] [(.int p2), (.int p1)]))
  by_cases hc2_1 : p1 < p2
  · refine own_of (fun _ hh_ => XS.icmpYes X0.here hx rfl (pc0 := 2) (pc' := 9) rfl (hb hby dM_2) rfl (tlt hc2_1).1 (by decide) (by decide) hh_) ?_
    show own_Run p e below s _ _ _ (s₁.setTop (mkF m 9 #[.val (.int p1), .val (.int p2)] []))
    refine own_of (fun _ hh_ => XS.iloadN X0.here hx rfl (hb hby dM_9) rfl hh_) ?_
    show own_Run p e below s _ _ _ (s₁.setTop (mkF m 10 #[.val (.int p1), .val (.int p2)] [(.int p2)]))
    exact own_retI X0 hx hret hlk (hb hby dM_10) ⟨by unfold own_maxI; rw [if_pos hc2_1], N0, e0⟩ (by decide) (by decide)
  · refine own_of (fun _ hh_ => XS.icmpNo X0.here hx rfl (hb hby dM_2) rfl (flt hc2_1).1 hh_) ?_
    show own_Run p e below s _ _ _ (s₁.setTop (mkF m 5 #[.val (.int p1), .val (.int p2)] []))
    refine own_of (fun _ hh_ => XS.iloadN X0.here hx rfl (hb hby dM_5) rfl hh_) ?_
    show own_Run p e below s _ _ _ (s₁.setTop (mkF m 6 #[.val (.int p1), .val (.int p2)] [(.int p1)]))
    refine own_of (fun _ hh_ => XS.goto X0.here hx rfl (pc0 := 6) (pc' := 10) rfl (hb hby dM_6) (by decide) (by decide) hh_) ?_
    show own_Run p e below s _ _ _ (s₁.setTop (mkF m 10 #[.val (.int p1), .val (.int p2)] [(.int p1)]))
    exact own_retI X0 hx hret hlk (hb hby dM_10) ⟨by unfold own_maxI; rw [if_neg hc2_1], N0, e0⟩ (by decide) (by decide)
theorem own_pn0 : plainName "com/example/cliquework/cliquework/algorithms/PartitionFindPinLaw" = true := by first | (simp [plainName, overriddenIn]; done) | decide +kernel
theorem dL_0 : decode method_3_code 0 = .ok (.aload_n 0, 1) := by decide +kernel
theorem dL_1 : decode method_3_code 1 = .ok (.iload_n 1, 1) := by decide +kernel
theorem dL_2 : decode method_3_code 2 = .ok (.aload_n 0, 1) := by decide +kernel
theorem dL_3 : decode method_3_code 3 = .ok (.iload_n 1, 1) := by decide +kernel
theorem dL_4 : decode method_3_code 4 = .ok (.iaload, 1) := by decide +kernel
theorem dL_5 : decode method_3_code 5 = .ok (.iconst 1, 1) := by decide +kernel
theorem dL_6 : decode method_3_code 6 = .ok (.iload_n 2, 1) := by decide +kernel
theorem dL_7 : decode method_3_code 7 = .ok (.ishl, 1) := by decide +kernel
theorem dL_8 : decode method_3_code 8 = .ok (.ior, 1) := by decide +kernel
theorem dL_9 : decode method_3_code 9 = .ok (.iastore, 1) := by decide +kernel
theorem dL_10 : decode method_3_code 10 = .ok (.aload_n 0, 1) := by decide +kernel
theorem dL_11 : decode method_3_code 11 = .ok (.iload_n 2, 1) := by decide +kernel
theorem dL_12 : decode method_3_code 12 = .ok (.aload_n 0, 1) := by decide +kernel
theorem dL_13 : decode method_3_code 13 = .ok (.iload_n 2, 1) := by decide +kernel
theorem dL_14 : decode method_3_code 14 = .ok (.iaload, 1) := by decide +kernel
theorem dL_15 : decode method_3_code 15 = .ok (.iconst 1, 1) := by decide +kernel
theorem dL_16 : decode method_3_code 16 = .ok (.iload_n 1, 1) := by decide +kernel
theorem dL_17 : decode method_3_code 17 = .ok (.ishl, 1) := by decide +kernel
theorem dL_18 : decode method_3_code 18 = .ok (.ior, 1) := by decide +kernel
theorem dL_19 : decode method_3_code 19 = .ok (.iastore, 1) := by decide +kernel
theorem dL_20 : decode method_3_code 20 = .ok (.return_, 1) := by decide +kernel
theorem efL (m : MethodId) (r1 : Addr) (p1 : Int32) (p2 : Int32) : entryFrame m #[(.ref r1), (.int p1), (.int p2)] 3 = mkF m 0 #[.val (.ref r1), .val (.int p1), .val (.int p2)] [] := by first | (simp [entryFrame, mkF, argsToLocals, Value.category]; done) | rfl
def QL (Z : State) (r1 : Addr) (p1 : Int32) (p2 : Int32) (ia : Nat) (ib : Nat) (f : Nat → Int32) (mm : Nat → Nat) (h0 : Heap) (n0 : Nat) (v : Option Value) (h : Heap) (L : List Loc) : Prop := v = none ∧ Fr n0 L ∧ Keep h0 h [r1] ∧ ∃ f' : Nat → Int32, own_Ar Z h r1 .int 4 f' ∧ own_MK f' (own_lkN mm ia ib)
set_option maxRecDepth 65536 in
set_option maxHeartbeats 40000000 in
theorem rmL (l : Launch) (Z : State) (a0 : Array Value) (hw : ∀ d ∈ tables_1, d.before a0 Z = true) (ws : List Jvm.Cond) (r1 : Addr) (p1 : Int32) (p2 : Int32) (ia : Nat) (ib : Nat) (f : Nat → Int32) (mm : Nat → Nat) (h0 : Heap) (n0 : Nat) (Z0 : n0 ≤ h0.size) (ea : p1 = own_n ia) (eb : p2 = own_n ib) (hia : ia < 4) (hib : ib < 4) (A : own_Ar Z h0 r1 .int 4 f) (MK : own_MK f mm) (g_r1 : n0 ≤ r1) :
    MetFree l (⟨"com/example/cliquework/cliquework/algorithms/PartitionFindPinLaw", "link", "([III)V"⟩ : MethodName) (head1 (Jvm.Cond.code (⟨"com/example/cliquework/cliquework/algorithms/PartitionFindPinLaw", "link", "([III)V"⟩ : MethodName) method_3_code 3 none :: ws) ({ frames := 0, cells := 0, slots := 0, locals := 0 } : Room)) (fun a U => a = #[(.ref r1), (.int p1), (.int p2)] ∧ Z.Warmed39 U.vm ∧ U.heap = h0) (fun _ _ _ _ _ => True) (fun _ U o U' => ∃ v L, o = .returned v ∧ QL Z r1 p1 p2 ia ib f mm h0 n0 v U'.heap L ∧ FrameEnd U o U' L ({ frames := 0, cells := 0, slots := 0, locals := 0 } : Room).cells ({ frames := 0, cells := 0, slots := 0, locals := 0 } : Room).slots) := by
  refine MetFree.of_bodySF (plainFor_of_name own_pn0) hisR ?_
  intro p e s m args below meth c s₁ Bd hml0 hP hK
  obtain ⟨rfl, hZ, hh⟩ := hP
  have hx := Bd.exec
  have hby := Bd.bytes
  have hml : c.maxLocals = 3 := hml0
  have hown : s.vm.findClass "com/example/cliquework/cliquework/algorithms/PartitionFindPinLaw" = some m.cls := findClass_of_methodNamed Bd.named
  have hnm := (name_of_methodNamed Bd.named Bd.method).1
  have hlk := Bd.notSynchronized
  have hret := Bd.returns
  have X0 : Stand p l e ({ frames := 0, cells := 0, slots := 0, locals := 0 } : Room) s m #[(.ref r1), (.int p1), (.int p2)] below meth c s₁ [] 0 0 := Stand.of_body Bd
  have e0 : s₁.heap = h0 := by rw [← hh, Bd.state]; rfl
  have N0 := Fr.nil n0
  have K0 : Keep h0 h0 [r1] := Keep.refl _ _
  show own_Run p e below s 0 0 (QL Z r1 p1 p2 ia ib f mm h0 n0) (s₁.setTop (entryFrame m #[(.ref r1), (.int p1), (.int p2)] 3))
  refine own_cast (efL m r1 p1 p2) ?_
  subst ea eb
  have hnia := own_n_nat ia (by omega)
  have pia1 := own_n_pos ia (by omega)
  have pia2 : (own_n ia).toNatClampNeg < 4 := by rw [hnia]; exact hia
  have hnib := own_n_nat ib (by omega)
  have pib1 := own_n_pos ib (by omega)
  have pib2 : (own_n ib).toNatClampNeg < 4 := by rw [hnib]; exact hib
  show own_Run p e below s _ _ _ (s₁.setTop (mkF m 0 #[.val (.ref r1), .val (.int (own_n ia)), .val (.int (own_n ib))] []))
  refine own_of (fun _ hh_ => XS.aloadN X0.here hx rfl (hb hby dL_0) rfl rfl hh_) ?_
  show own_Run p e below s _ _ _ (s₁.setTop (mkF m 1 #[.val (.ref r1), .val (.int (own_n ia)), .val (.int (own_n ib))] [(.ref r1)]))
  refine own_of (fun _ hh_ => XS.iloadN X0.here hx rfl (hb hby dL_1) rfl hh_) ?_
  show own_Run p e below s _ _ _ (s₁.setTop (mkF m 2 #[.val (.ref r1), .val (.int (own_n ia)), .val (.int (own_n ib))] [(.int (own_n ia)), (.ref r1)]))
  refine own_of (fun _ hh_ => XS.aloadN X0.here hx rfl (hb hby dL_2) rfl rfl hh_) ?_
  show own_Run p e below s _ _ _ (s₁.setTop (mkF m 3 #[.val (.ref r1), .val (.int (own_n ia)), .val (.int (own_n ib))] [(.ref r1), (.int (own_n ia)), (.ref r1)]))
  refine own_of (fun _ hh_ => XS.iloadN X0.here hx rfl (hb hby dL_3) rfl hh_) ?_
  show own_Run p e below s _ _ _ (s₁.setTop (mkF m 4 #[.val (.ref r1), .val (.int (own_n ia)), .val (.int (own_n ib))] [(.int (own_n ia)), (.ref r1), (.int (own_n ia)), (.ref r1)]))
  refine own_ial X0 hx hZ e0 A (j := (own_n ia)) (w := (own_n (mm ia))) pia1 pia2 (by rw [hnia]; exact (MK ia hia).1) (hb hby dL_4) ?_
  show own_Run p e below s _ _ _ (s₁.setTop (mkF m 5 #[.val (.ref r1), .val (.int (own_n ia)), .val (.int (own_n ib))] [(.int (own_n (mm ia))), (.int (own_n ia)), (.ref r1)]))
  refine own_of (fun _ hh_ => XS.iconst X0.here hx rfl (hb hby dL_5) hh_) ?_
  show own_Run p e below s _ _ _ (s₁.setTop (mkF m 6 #[.val (.ref r1), .val (.int (own_n ia)), .val (.int (own_n ib))] [(.int (1 : Int32)), (.int (own_n (mm ia))), (.int (own_n ia)), (.ref r1)]))
  refine own_of (fun _ hh_ => XS.iloadN X0.here hx rfl (hb hby dL_6) rfl hh_) ?_
  show own_Run p e below s _ _ _ (s₁.setTop (mkF m 7 #[.val (.ref r1), .val (.int (own_n ia)), .val (.int (own_n ib))] [(.int (own_n ib)), (.int (1 : Int32)), (.int (own_n (mm ia))), (.int (own_n ia)), (.ref r1)]))
  refine own_of (fun _ hh_ => XS.ishl X0.here hx rfl (hb hby dL_7) rfl hh_) ?_
  show own_Run p e below s _ _ _ (s₁.setTop (mkF m 8 #[.val (.ref r1), .val (.int (own_n ia)), .val (.int (own_n ib))] [(.int ((1 : Int32) <<< ((own_n ib) &&& 31))), (.int (own_n (mm ia))), (.int (own_n ia)), (.ref r1)]))
  refine own_of (fun _ hh_ => XS.ior X0.here hx rfl (hb hby dL_8) rfl hh_) ?_
  show own_Run p e below s _ _ _ (s₁.setTop (mkF m 9 #[.val (.ref r1), .val (.int (own_n ia)), .val (.int (own_n ib))] [(.int ((own_n (mm ia)) ||| ((1 : Int32) <<< ((own_n ib) &&& 31)))), (.int (own_n ia)), (.ref r1)]))
  obtain ⟨T1, h1, X1, e1, W1, V1, st1⟩ := own_ias X0 hx hZ e0 A (j := (own_n ia)) (x := ((own_n (mm ia)) ||| ((1 : Int32) <<< ((own_n ib) &&& 31)))) pia1 pia2 (pc := 9) (Ls := #[.val (.ref r1), .val (.int (own_n ia)), .val (.int (own_n ib))]) (rest := []) (hb hby dL_9)
  have N1 := Fr.snoc X1 N0 g_r1
  have K2 := K0.wr W1 (Or.inl (List.mem_of_getElem? (i := 0) rfl))
  refine own_of st1 ?_
  show own_Run p e below s _ _ _ (T1.setTop (mkF m 10 #[.val (.ref r1), .val (.int (own_n ia)), .val (.int (own_n ib))] []))
  have oo1 := own_n_or _ (MK ia hia).2 _ (own_n_shl ib hib).2
  have Vk1 : own_Ar Z h1 r1 .int 4 (own_up f ia (own_n (mm ia ||| 2 ^ ib))) := by have z := V1; rw [hnia, (own_n_shl ib hib).1, oo1.1] at z; exact z
  have MK1 : own_MK (own_up f ia (own_n (mm ia ||| 2 ^ ib))) (own_lk1 mm ia ib) := own_MK_up MK oo1.2
  refine own_of (fun _ hh_ => XS.aloadN X1.here hx rfl (hb hby dL_10) rfl rfl hh_) ?_
  show own_Run p e below s _ _ _ (T1.setTop (mkF m 11 #[.val (.ref r1), .val (.int (own_n ia)), .val (.int (own_n ib))] [(.ref r1)]))
  refine own_of (fun _ hh_ => XS.iloadN X1.here hx rfl (hb hby dL_11) rfl hh_) ?_
  show own_Run p e below s _ _ _ (T1.setTop (mkF m 12 #[.val (.ref r1), .val (.int (own_n ia)), .val (.int (own_n ib))] [(.int (own_n ib)), (.ref r1)]))
  refine own_of (fun _ hh_ => XS.aloadN X1.here hx rfl (hb hby dL_12) rfl rfl hh_) ?_
  show own_Run p e below s _ _ _ (T1.setTop (mkF m 13 #[.val (.ref r1), .val (.int (own_n ia)), .val (.int (own_n ib))] [(.ref r1), (.int (own_n ib)), (.ref r1)]))
  refine own_of (fun _ hh_ => XS.iloadN X1.here hx rfl (hb hby dL_13) rfl hh_) ?_
  show own_Run p e below s _ _ _ (T1.setTop (mkF m 14 #[.val (.ref r1), .val (.int (own_n ia)), .val (.int (own_n ib))] [(.int (own_n ib)), (.ref r1), (.int (own_n ib)), (.ref r1)]))
  refine own_ial X1 hx hZ e1 Vk1 (j := (own_n ib)) (w := (own_n (own_lk1 mm ia ib ib))) pib1 pib2 (by rw [hnib]; exact (MK1 ib hib).1) (hb hby dL_14) ?_
  show own_Run p e below s _ _ _ (T1.setTop (mkF m 15 #[.val (.ref r1), .val (.int (own_n ia)), .val (.int (own_n ib))] [(.int (own_n (own_lk1 mm ia ib ib))), (.int (own_n ib)), (.ref r1)]))
  refine own_of (fun _ hh_ => XS.iconst X1.here hx rfl (hb hby dL_15) hh_) ?_
  show own_Run p e below s _ _ _ (T1.setTop (mkF m 16 #[.val (.ref r1), .val (.int (own_n ia)), .val (.int (own_n ib))] [(.int (1 : Int32)), (.int (own_n (own_lk1 mm ia ib ib))), (.int (own_n ib)), (.ref r1)]))
  refine own_of (fun _ hh_ => XS.iloadN X1.here hx rfl (hb hby dL_16) rfl hh_) ?_
  show own_Run p e below s _ _ _ (T1.setTop (mkF m 17 #[.val (.ref r1), .val (.int (own_n ia)), .val (.int (own_n ib))] [(.int (own_n ia)), (.int (1 : Int32)), (.int (own_n (own_lk1 mm ia ib ib))), (.int (own_n ib)), (.ref r1)]))
  refine own_of (fun _ hh_ => XS.ishl X1.here hx rfl (hb hby dL_17) rfl hh_) ?_
  show own_Run p e below s _ _ _ (T1.setTop (mkF m 18 #[.val (.ref r1), .val (.int (own_n ia)), .val (.int (own_n ib))] [(.int ((1 : Int32) <<< ((own_n ia) &&& 31))), (.int (own_n (own_lk1 mm ia ib ib))), (.int (own_n ib)), (.ref r1)]))
  refine own_of (fun _ hh_ => XS.ior X1.here hx rfl (hb hby dL_18) rfl hh_) ?_
  show own_Run p e below s _ _ _ (T1.setTop (mkF m 19 #[.val (.ref r1), .val (.int (own_n ia)), .val (.int (own_n ib))] [(.int ((own_n (own_lk1 mm ia ib ib)) ||| ((1 : Int32) <<< ((own_n ia) &&& 31)))), (.int (own_n ib)), (.ref r1)]))
  obtain ⟨T3, h3, X3, e3, W3, V3, st3⟩ := own_ias X1 hx hZ e1 Vk1 (j := (own_n ib)) (x := ((own_n (own_lk1 mm ia ib ib)) ||| ((1 : Int32) <<< ((own_n ia) &&& 31)))) pib1 pib2 (pc := 19) (Ls := #[.val (.ref r1), .val (.int (own_n ia)), .val (.int (own_n ib))]) (rest := []) (hb hby dL_19)
  have N3 := Fr.snoc X3 N1 g_r1
  have K4 := K2.wr W3 (Or.inl (List.mem_of_getElem? (i := 0) rfl))
  refine own_of st3 ?_
  show own_Run p e below s _ _ _ (T3.setTop (mkF m 20 #[.val (.ref r1), .val (.int (own_n ia)), .val (.int (own_n ib))] []))
  have oo2 := own_n_or _ (MK1 ib hib).2 _ (own_n_shl ia hia).2
  have Vk2 : own_Ar Z h3 r1 .int 4 (own_up (own_up f ia (own_n (mm ia ||| 2 ^ ib))) ib (own_n ((own_lk1 mm ia ib) ib ||| 2 ^ ia))) := by have z := V3; rw [hnib, (own_n_shl ia hia).1, oo2.1] at z; exact z
  have MK2 : own_MK (own_up (own_up f ia (own_n (mm ia ||| 2 ^ ib))) ib (own_n ((own_lk1 mm ia ib) ib ||| 2 ^ ia))) (own_lk1 (own_lk1 mm ia ib) ib ia) := own_MK_up MK1 oo2.2
  exact own_retV X3 hx hret hlk (hb hby dL_20) (by rw [e3]; exact ⟨rfl, N3, K4, _, Vk2, MK2⟩) (by decide) (by decide)
theorem dG_0 : decode method_4_code 0 = .ok (.iload_n 1, 1) := by decide +kernel
theorem dG_1 : decode method_4_code 1 = .ok (.istore_n 2, 1) := by decide +kernel
theorem dG_2 : decode method_4_code 2 = .ok (.iload_n 1, 1) := by decide +kernel
theorem dG_3 : decode method_4_code 3 = .ok (.iconst 1, 1) := by decide +kernel
theorem dG_4 : decode method_4_code 4 = .ok (.iand, 1) := by decide +kernel
theorem dG_5 : decode method_4_code 5 = .ok (.ifCond .eq 9, 3) := by decide +kernel
theorem dG_8 : decode method_4_code 8 = .ok (.iload_n 2, 1) := by decide +kernel
theorem dG_9 : decode method_4_code 9 = .ok (.aload_n 0, 1) := by decide +kernel
theorem dG_10 : decode method_4_code 10 = .ok (.iconst 0, 1) := by decide +kernel
theorem dG_11 : decode method_4_code 11 = .ok (.iaload, 1) := by decide +kernel
theorem dG_12 : decode method_4_code 12 = .ok (.ior, 1) := by decide +kernel
theorem dG_13 : decode method_4_code 13 = .ok (.istore_n 2, 1) := by decide +kernel
theorem dG_14 : decode method_4_code 14 = .ok (.iload_n 1, 1) := by decide +kernel
theorem dG_15 : decode method_4_code 15 = .ok (.iconst 2, 1) := by decide +kernel
theorem dG_16 : decode method_4_code 16 = .ok (.iand, 1) := by decide +kernel
theorem dG_17 : decode method_4_code 17 = .ok (.ifCond .eq 9, 3) := by decide +kernel
theorem dG_20 : decode method_4_code 20 = .ok (.iload_n 2, 1) := by decide +kernel
theorem dG_21 : decode method_4_code 21 = .ok (.aload_n 0, 1) := by decide +kernel
theorem dG_22 : decode method_4_code 22 = .ok (.iconst 1, 1) := by decide +kernel
theorem dG_23 : decode method_4_code 23 = .ok (.iaload, 1) := by decide +kernel
theorem dG_24 : decode method_4_code 24 = .ok (.ior, 1) := by decide +kernel
theorem dG_25 : decode method_4_code 25 = .ok (.istore_n 2, 1) := by decide +kernel
theorem dG_26 : decode method_4_code 26 = .ok (.iload_n 1, 1) := by decide +kernel
theorem dG_27 : decode method_4_code 27 = .ok (.iconst 4, 1) := by decide +kernel
theorem dG_28 : decode method_4_code 28 = .ok (.iand, 1) := by decide +kernel
theorem dG_29 : decode method_4_code 29 = .ok (.ifCond .eq 9, 3) := by decide +kernel
theorem dG_32 : decode method_4_code 32 = .ok (.iload_n 2, 1) := by decide +kernel
theorem dG_33 : decode method_4_code 33 = .ok (.aload_n 0, 1) := by decide +kernel
theorem dG_34 : decode method_4_code 34 = .ok (.iconst 2, 1) := by decide +kernel
theorem dG_35 : decode method_4_code 35 = .ok (.iaload, 1) := by decide +kernel
theorem dG_36 : decode method_4_code 36 = .ok (.ior, 1) := by decide +kernel
theorem dG_37 : decode method_4_code 37 = .ok (.istore_n 2, 1) := by decide +kernel
theorem dG_38 : decode method_4_code 38 = .ok (.iload_n 1, 1) := by decide +kernel
theorem dG_39 : decode method_4_code 39 = .ok (.bipush 8, 2) := by decide +kernel
theorem dG_41 : decode method_4_code 41 = .ok (.iand, 1) := by decide +kernel
theorem dG_42 : decode method_4_code 42 = .ok (.ifCond .eq 9, 3) := by decide +kernel
theorem dG_45 : decode method_4_code 45 = .ok (.iload_n 2, 1) := by decide +kernel
theorem dG_46 : decode method_4_code 46 = .ok (.aload_n 0, 1) := by decide +kernel
theorem dG_47 : decode method_4_code 47 = .ok (.iconst 3, 1) := by decide +kernel
theorem dG_48 : decode method_4_code 48 = .ok (.iaload, 1) := by decide +kernel
theorem dG_49 : decode method_4_code 49 = .ok (.ior, 1) := by decide +kernel
theorem dG_50 : decode method_4_code 50 = .ok (.istore_n 2, 1) := by decide +kernel
theorem dG_51 : decode method_4_code 51 = .ok (.iload_n 2, 1) := by decide +kernel
theorem dG_52 : decode method_4_code 52 = .ok (.ireturn, 1) := by decide +kernel
theorem efG (m : MethodId) (r1 : Addr) (p1 : Int32) : entryFrame m #[(.ref r1), (.int p1)] 3 = mkF m 0 #[.val (.ref r1), .val (.int p1), .unset] [] := by first | (simp [entryFrame, mkF, argsToLocals, Value.category]; done) | rfl
def QG (Z : State) (r1 : Addr) (p1 : Int32) (f : Nat → Int32) (h0 : Heap) (n0 : Nat) (v : Option Value) (h : Heap) (L : List Loc) : Prop := v = some (.int (own_grI f p1)) ∧ Fr n0 L ∧ h = h0
set_option maxRecDepth 65536 in
set_option maxHeartbeats 40000000 in
theorem rmG (l : Launch) (Z : State) (a0 : Array Value) (hw : ∀ d ∈ tables_1, d.before a0 Z = true) (ws : List Jvm.Cond) (r1 : Addr) (p1 : Int32) (f : Nat → Int32) (h0 : Heap) (n0 : Nat) (Z0 : n0 ≤ h0.size) (A : own_Ar Z h0 r1 .int 4 f) :
    MetFree l (⟨"com/example/cliquework/cliquework/algorithms/PartitionFindPinLaw", "grow", "([II)I"⟩ : MethodName) (head1 (Jvm.Cond.code (⟨"com/example/cliquework/cliquework/algorithms/PartitionFindPinLaw", "grow", "([II)I"⟩ : MethodName) method_4_code 3 (some .int) :: ws) ({ frames := 0, cells := 0, slots := 0, locals := 0 } : Room)) (fun a U => a = #[(.ref r1), (.int p1)] ∧ Z.Warmed39 U.vm ∧ U.heap = h0) (fun _ _ _ _ _ => True) (fun _ U o U' => ∃ v L, o = .returned v ∧ QG Z r1 p1 f h0 n0 v U'.heap L ∧ FrameEnd U o U' L ({ frames := 0, cells := 0, slots := 0, locals := 0 } : Room).cells ({ frames := 0, cells := 0, slots := 0, locals := 0 } : Room).slots) := by
  refine MetFree.of_bodySF (plainFor_of_name own_pn0) hisR ?_
  intro p e s m args below meth c s₁ Bd hml0 hP hK
  obtain ⟨rfl, hZ, hh⟩ := hP
  have hx := Bd.exec
  have hby := Bd.bytes
  have hml : c.maxLocals = 3 := hml0
  have hown : s.vm.findClass "com/example/cliquework/cliquework/algorithms/PartitionFindPinLaw" = some m.cls := findClass_of_methodNamed Bd.named
  have hnm := (name_of_methodNamed Bd.named Bd.method).1
  have hlk := Bd.notSynchronized
  have hret := Bd.returns
  have X0 : Stand p l e ({ frames := 0, cells := 0, slots := 0, locals := 0 } : Room) s m #[(.ref r1), (.int p1)] below meth c s₁ [] 0 0 := Stand.of_body Bd
  have e0 : s₁.heap = h0 := by rw [← hh, Bd.state]; rfl
  have N0 := Fr.nil n0
  show own_Run p e below s 0 0 (QG Z r1 p1 f h0 n0) (s₁.setTop (entryFrame m #[(.ref r1), (.int p1)] 3))
  refine own_cast (efG m r1 p1) ?_
  show own_Run p e below s _ _ _ (s₁.setTop (mkF m 0 #[.val (.ref r1), .val (.int p1), .unset] []))
  refine own_of (fun _ hh_ => XS.iloadN X0.here hx rfl (hb hby dG_0) rfl hh_) ?_
  show own_Run p e below s _ _ _ (s₁.setTop (mkF m 1 #[.val (.ref r1), .val (.int p1), .unset] [(.int p1)]))
  refine own_of (fun _ hh_ => XS.istoreN X0.here hx rfl (hb hby dG_1) rfl (l' := #[.val (.ref r1), .val (.int p1), .val (.int p1)]) rfl hh_) ?_
  show own_Run p e below s _ _ _ (s₁.setTop (mkF m 2 #[.val (.ref r1), .val (.int p1), .val (.int p1)] []))
  refine own_of (fun _ hh_ => XS.iloadN X0.here hx rfl (hb hby dG_2) rfl hh_) ?_
  show own_Run p e below s _ _ _ (s₁.setTop (mkF m 3 #[.val (.ref r1), .val (.int p1), .val (.int p1)] [(.int p1)]))
  refine own_of (fun _ hh_ => XS.iconst X0.here hx rfl (hb hby dG_3) hh_) ?_
  show own_Run p e below s _ _ _ (s₁.setTop (mkF m 4 #[.val (.ref r1), .val (.int p1), .val (.int p1)] [(.int (1 : Int32)), (.int p1)]))
  refine own_of (fun _ hh_ => XS.iand X0.here hx rfl (hb hby dG_4) rfl hh_) ?_
  show own_Run p e below s _ _ _ (s₁.setTop (mkF m 5 #[.val (.ref r1), .val (.int p1), .val (.int p1)] [(.int (p1 &&& (1 : Int32)))]))
  by_cases hc5_1 : (p1 &&& (1 : Int32)) = (0 : Int32)
  · refine own_of (fun _ hh_ => XS.ifYes X0.here hx rfl (pc0 := 5) (pc' := 14) rfl (hb hby dG_5) rfl ((if0 _ _).trans (teq hc5_1).1) (by decide) (by decide) hh_) ?_
    show own_Run p e below s _ _ _ (s₁.setTop (mkF m 14 #[.val (.ref r1), .val (.int p1), .val (.int p1)] []))
    refine own_of (fun _ hh_ => XS.iloadN X0.here hx rfl (hb hby dG_14) rfl hh_) ?_
    show own_Run p e below s _ _ _ (s₁.setTop (mkF m 15 #[.val (.ref r1), .val (.int p1), .val (.int p1)] [(.int p1)]))
    refine own_of (fun _ hh_ => XS.iconst X0.here hx rfl (hb hby dG_15) hh_) ?_
    show own_Run p e below s _ _ _ (s₁.setTop (mkF m 16 #[.val (.ref r1), .val (.int p1), .val (.int p1)] [(.int (2 : Int32)), (.int p1)]))
    refine own_of (fun _ hh_ => XS.iand X0.here hx rfl (hb hby dG_16) rfl hh_) ?_
    show own_Run p e below s _ _ _ (s₁.setTop (mkF m 17 #[.val (.ref r1), .val (.int p1), .val (.int p1)] [(.int (p1 &&& (2 : Int32)))]))
    by_cases hc17_2 : (p1 &&& (2 : Int32)) = (0 : Int32)
    · refine own_of (fun _ hh_ => XS.ifYes X0.here hx rfl (pc0 := 17) (pc' := 26) rfl (hb hby dG_17) rfl ((if0 _ _).trans (teq hc17_2).1) (by decide) (by decide) hh_) ?_
      show own_Run p e below s _ _ _ (s₁.setTop (mkF m 26 #[.val (.ref r1), .val (.int p1), .val (.int p1)] []))
      refine own_of (fun _ hh_ => XS.iloadN X0.here hx rfl (hb hby dG_26) rfl hh_) ?_
      show own_Run p e below s _ _ _ (s₁.setTop (mkF m 27 #[.val (.ref r1), .val (.int p1), .val (.int p1)] [(.int p1)]))
      refine own_of (fun _ hh_ => XS.iconst X0.here hx rfl (hb hby dG_27) hh_) ?_
      show own_Run p e below s _ _ _ (s₁.setTop (mkF m 28 #[.val (.ref r1), .val (.int p1), .val (.int p1)] [(.int (4 : Int32)), (.int p1)]))
      refine own_of (fun _ hh_ => XS.iand X0.here hx rfl (hb hby dG_28) rfl hh_) ?_
      show own_Run p e below s _ _ _ (s₁.setTop (mkF m 29 #[.val (.ref r1), .val (.int p1), .val (.int p1)] [(.int (p1 &&& (4 : Int32)))]))
      by_cases hc29_3 : (p1 &&& (4 : Int32)) = (0 : Int32)
      · refine own_of (fun _ hh_ => XS.ifYes X0.here hx rfl (pc0 := 29) (pc' := 38) rfl (hb hby dG_29) rfl ((if0 _ _).trans (teq hc29_3).1) (by decide) (by decide) hh_) ?_
        show own_Run p e below s _ _ _ (s₁.setTop (mkF m 38 #[.val (.ref r1), .val (.int p1), .val (.int p1)] []))
        refine own_of (fun _ hh_ => XS.iloadN X0.here hx rfl (hb hby dG_38) rfl hh_) ?_
        show own_Run p e below s _ _ _ (s₁.setTop (mkF m 39 #[.val (.ref r1), .val (.int p1), .val (.int p1)] [(.int p1)]))
        refine own_of (fun _ hh_ => XS.bipush X0.here hx rfl (hb hby dG_39) hh_) ?_
        show own_Run p e below s _ _ _ (s₁.setTop (mkF m 41 #[.val (.ref r1), .val (.int p1), .val (.int p1)] [(.int (8 : Int32)), (.int p1)]))
        refine own_of (fun _ hh_ => XS.iand X0.here hx rfl (hb hby dG_41) rfl hh_) ?_
        show own_Run p e below s _ _ _ (s₁.setTop (mkF m 42 #[.val (.ref r1), .val (.int p1), .val (.int p1)] [(.int (p1 &&& (8 : Int32)))]))
        by_cases hc42_4 : (p1 &&& (8 : Int32)) = (0 : Int32)
        · refine own_of (fun _ hh_ => XS.ifYes X0.here hx rfl (pc0 := 42) (pc' := 51) rfl (hb hby dG_42) rfl ((if0 _ _).trans (teq hc42_4).1) (by decide) (by decide) hh_) ?_
          show own_Run p e below s _ _ _ (s₁.setTop (mkF m 51 #[.val (.ref r1), .val (.int p1), .val (.int p1)] []))
          refine own_of (fun _ hh_ => XS.iloadN X0.here hx rfl (hb hby dG_51) rfl hh_) ?_
          show own_Run p e below s _ _ _ (s₁.setTop (mkF m 52 #[.val (.ref r1), .val (.int p1), .val (.int p1)] [(.int p1)]))
          exact own_retI X0 hx hret hlk (hb hby dG_52) ⟨by unfold own_grI own_g1; rw [if_pos hc5_1, if_pos hc17_2, if_pos hc29_3, if_pos hc42_4], N0, e0⟩ (by decide) (by decide)
        · refine own_of (fun _ hh_ => XS.ifNo X0.here hx rfl (hb hby dG_42) rfl ((if0 _ _).trans (feq hc42_4).1) hh_) ?_
          show own_Run p e below s _ _ _ (s₁.setTop (mkF m 45 #[.val (.ref r1), .val (.int p1), .val (.int p1)] []))
          refine own_of (fun _ hh_ => XS.iloadN X0.here hx rfl (hb hby dG_45) rfl hh_) ?_
          show own_Run p e below s _ _ _ (s₁.setTop (mkF m 46 #[.val (.ref r1), .val (.int p1), .val (.int p1)] [(.int p1)]))
          refine own_of (fun _ hh_ => XS.aloadN X0.here hx rfl (hb hby dG_46) rfl rfl hh_) ?_
          show own_Run p e below s _ _ _ (s₁.setTop (mkF m 47 #[.val (.ref r1), .val (.int p1), .val (.int p1)] [(.ref r1), (.int p1)]))
          refine own_of (fun _ hh_ => XS.iconst X0.here hx rfl (hb hby dG_47) hh_) ?_
          show own_Run p e below s _ _ _ (s₁.setTop (mkF m 48 #[.val (.ref r1), .val (.int p1), .val (.int p1)] [(.int (3 : Int32)), (.ref r1), (.int p1)]))
          refine own_ial X0 hx hZ e0 A (j := (3 : Int32)) (w := (f 3)) (by decide) (by decide) rfl (hb hby dG_48) ?_
          show own_Run p e below s _ _ _ (s₁.setTop (mkF m 49 #[.val (.ref r1), .val (.int p1), .val (.int p1)] [(.int (f 3)), (.int p1)]))
          refine own_of (fun _ hh_ => XS.ior X0.here hx rfl (hb hby dG_49) rfl hh_) ?_
          show own_Run p e below s _ _ _ (s₁.setTop (mkF m 50 #[.val (.ref r1), .val (.int p1), .val (.int p1)] [(.int (p1 ||| (f 3)))]))
          refine own_of (fun _ hh_ => XS.istoreN X0.here hx rfl (hb hby dG_50) rfl (l' := #[.val (.ref r1), .val (.int p1), .val (.int (p1 ||| (f 3)))]) rfl hh_) ?_
          show own_Run p e below s _ _ _ (s₁.setTop (mkF m 51 #[.val (.ref r1), .val (.int p1), .val (.int (p1 ||| (f 3)))] []))
          refine own_of (fun _ hh_ => XS.iloadN X0.here hx rfl (hb hby dG_51) rfl hh_) ?_
          show own_Run p e below s _ _ _ (s₁.setTop (mkF m 52 #[.val (.ref r1), .val (.int p1), .val (.int (p1 ||| (f 3)))] [(.int (p1 ||| (f 3)))]))
          exact own_retI X0 hx hret hlk (hb hby dG_52) ⟨by unfold own_grI own_g1; rw [if_pos hc5_1, if_pos hc17_2, if_pos hc29_3, if_neg hc42_4], N0, e0⟩ (by decide) (by decide)
      · refine own_of (fun _ hh_ => XS.ifNo X0.here hx rfl (hb hby dG_29) rfl ((if0 _ _).trans (feq hc29_3).1) hh_) ?_
        show own_Run p e below s _ _ _ (s₁.setTop (mkF m 32 #[.val (.ref r1), .val (.int p1), .val (.int p1)] []))
        refine own_of (fun _ hh_ => XS.iloadN X0.here hx rfl (hb hby dG_32) rfl hh_) ?_
        show own_Run p e below s _ _ _ (s₁.setTop (mkF m 33 #[.val (.ref r1), .val (.int p1), .val (.int p1)] [(.int p1)]))
        refine own_of (fun _ hh_ => XS.aloadN X0.here hx rfl (hb hby dG_33) rfl rfl hh_) ?_
        show own_Run p e below s _ _ _ (s₁.setTop (mkF m 34 #[.val (.ref r1), .val (.int p1), .val (.int p1)] [(.ref r1), (.int p1)]))
        refine own_of (fun _ hh_ => XS.iconst X0.here hx rfl (hb hby dG_34) hh_) ?_
        show own_Run p e below s _ _ _ (s₁.setTop (mkF m 35 #[.val (.ref r1), .val (.int p1), .val (.int p1)] [(.int (2 : Int32)), (.ref r1), (.int p1)]))
        refine own_ial X0 hx hZ e0 A (j := (2 : Int32)) (w := (f 2)) (by decide) (by decide) rfl (hb hby dG_35) ?_
        show own_Run p e below s _ _ _ (s₁.setTop (mkF m 36 #[.val (.ref r1), .val (.int p1), .val (.int p1)] [(.int (f 2)), (.int p1)]))
        refine own_of (fun _ hh_ => XS.ior X0.here hx rfl (hb hby dG_36) rfl hh_) ?_
        show own_Run p e below s _ _ _ (s₁.setTop (mkF m 37 #[.val (.ref r1), .val (.int p1), .val (.int p1)] [(.int (p1 ||| (f 2)))]))
        refine own_of (fun _ hh_ => XS.istoreN X0.here hx rfl (hb hby dG_37) rfl (l' := #[.val (.ref r1), .val (.int p1), .val (.int (p1 ||| (f 2)))]) rfl hh_) ?_
        show own_Run p e below s _ _ _ (s₁.setTop (mkF m 38 #[.val (.ref r1), .val (.int p1), .val (.int (p1 ||| (f 2)))] []))
        refine own_of (fun _ hh_ => XS.iloadN X0.here hx rfl (hb hby dG_38) rfl hh_) ?_
        show own_Run p e below s _ _ _ (s₁.setTop (mkF m 39 #[.val (.ref r1), .val (.int p1), .val (.int (p1 ||| (f 2)))] [(.int p1)]))
        refine own_of (fun _ hh_ => XS.bipush X0.here hx rfl (hb hby dG_39) hh_) ?_
        show own_Run p e below s _ _ _ (s₁.setTop (mkF m 41 #[.val (.ref r1), .val (.int p1), .val (.int (p1 ||| (f 2)))] [(.int (8 : Int32)), (.int p1)]))
        refine own_of (fun _ hh_ => XS.iand X0.here hx rfl (hb hby dG_41) rfl hh_) ?_
        show own_Run p e below s _ _ _ (s₁.setTop (mkF m 42 #[.val (.ref r1), .val (.int p1), .val (.int (p1 ||| (f 2)))] [(.int (p1 &&& (8 : Int32)))]))
        by_cases hc42_5 : (p1 &&& (8 : Int32)) = (0 : Int32)
        · refine own_of (fun _ hh_ => XS.ifYes X0.here hx rfl (pc0 := 42) (pc' := 51) rfl (hb hby dG_42) rfl ((if0 _ _).trans (teq hc42_5).1) (by decide) (by decide) hh_) ?_
          show own_Run p e below s _ _ _ (s₁.setTop (mkF m 51 #[.val (.ref r1), .val (.int p1), .val (.int (p1 ||| (f 2)))] []))
          refine own_of (fun _ hh_ => XS.iloadN X0.here hx rfl (hb hby dG_51) rfl hh_) ?_
          show own_Run p e below s _ _ _ (s₁.setTop (mkF m 52 #[.val (.ref r1), .val (.int p1), .val (.int (p1 ||| (f 2)))] [(.int (p1 ||| (f 2)))]))
          exact own_retI X0 hx hret hlk (hb hby dG_52) ⟨by unfold own_grI own_g1; rw [if_pos hc5_1, if_pos hc17_2, if_neg hc29_3, if_pos hc42_5], N0, e0⟩ (by decide) (by decide)
        · refine own_of (fun _ hh_ => XS.ifNo X0.here hx rfl (hb hby dG_42) rfl ((if0 _ _).trans (feq hc42_5).1) hh_) ?_
          show own_Run p e below s _ _ _ (s₁.setTop (mkF m 45 #[.val (.ref r1), .val (.int p1), .val (.int (p1 ||| (f 2)))] []))
          refine own_of (fun _ hh_ => XS.iloadN X0.here hx rfl (hb hby dG_45) rfl hh_) ?_
          show own_Run p e below s _ _ _ (s₁.setTop (mkF m 46 #[.val (.ref r1), .val (.int p1), .val (.int (p1 ||| (f 2)))] [(.int (p1 ||| (f 2)))]))
          refine own_of (fun _ hh_ => XS.aloadN X0.here hx rfl (hb hby dG_46) rfl rfl hh_) ?_
          show own_Run p e below s _ _ _ (s₁.setTop (mkF m 47 #[.val (.ref r1), .val (.int p1), .val (.int (p1 ||| (f 2)))] [(.ref r1), (.int (p1 ||| (f 2)))]))
          refine own_of (fun _ hh_ => XS.iconst X0.here hx rfl (hb hby dG_47) hh_) ?_
          show own_Run p e below s _ _ _ (s₁.setTop (mkF m 48 #[.val (.ref r1), .val (.int p1), .val (.int (p1 ||| (f 2)))] [(.int (3 : Int32)), (.ref r1), (.int (p1 ||| (f 2)))]))
          refine own_ial X0 hx hZ e0 A (j := (3 : Int32)) (w := (f 3)) (by decide) (by decide) rfl (hb hby dG_48) ?_
          show own_Run p e below s _ _ _ (s₁.setTop (mkF m 49 #[.val (.ref r1), .val (.int p1), .val (.int (p1 ||| (f 2)))] [(.int (f 3)), (.int (p1 ||| (f 2)))]))
          refine own_of (fun _ hh_ => XS.ior X0.here hx rfl (hb hby dG_49) rfl hh_) ?_
          show own_Run p e below s _ _ _ (s₁.setTop (mkF m 50 #[.val (.ref r1), .val (.int p1), .val (.int (p1 ||| (f 2)))] [(.int ((p1 ||| (f 2)) ||| (f 3)))]))
          refine own_of (fun _ hh_ => XS.istoreN X0.here hx rfl (hb hby dG_50) rfl (l' := #[.val (.ref r1), .val (.int p1), .val (.int ((p1 ||| (f 2)) ||| (f 3)))]) rfl hh_) ?_
          show own_Run p e below s _ _ _ (s₁.setTop (mkF m 51 #[.val (.ref r1), .val (.int p1), .val (.int ((p1 ||| (f 2)) ||| (f 3)))] []))
          refine own_of (fun _ hh_ => XS.iloadN X0.here hx rfl (hb hby dG_51) rfl hh_) ?_
          show own_Run p e below s _ _ _ (s₁.setTop (mkF m 52 #[.val (.ref r1), .val (.int p1), .val (.int ((p1 ||| (f 2)) ||| (f 3)))] [(.int ((p1 ||| (f 2)) ||| (f 3)))]))
          exact own_retI X0 hx hret hlk (hb hby dG_52) ⟨by unfold own_grI own_g1; rw [if_pos hc5_1, if_pos hc17_2, if_neg hc29_3, if_neg hc42_5], N0, e0⟩ (by decide) (by decide)
    · refine own_of (fun _ hh_ => XS.ifNo X0.here hx rfl (hb hby dG_17) rfl ((if0 _ _).trans (feq hc17_2).1) hh_) ?_
      show own_Run p e below s _ _ _ (s₁.setTop (mkF m 20 #[.val (.ref r1), .val (.int p1), .val (.int p1)] []))
      refine own_of (fun _ hh_ => XS.iloadN X0.here hx rfl (hb hby dG_20) rfl hh_) ?_
      show own_Run p e below s _ _ _ (s₁.setTop (mkF m 21 #[.val (.ref r1), .val (.int p1), .val (.int p1)] [(.int p1)]))
      refine own_of (fun _ hh_ => XS.aloadN X0.here hx rfl (hb hby dG_21) rfl rfl hh_) ?_
      show own_Run p e below s _ _ _ (s₁.setTop (mkF m 22 #[.val (.ref r1), .val (.int p1), .val (.int p1)] [(.ref r1), (.int p1)]))
      refine own_of (fun _ hh_ => XS.iconst X0.here hx rfl (hb hby dG_22) hh_) ?_
      show own_Run p e below s _ _ _ (s₁.setTop (mkF m 23 #[.val (.ref r1), .val (.int p1), .val (.int p1)] [(.int (1 : Int32)), (.ref r1), (.int p1)]))
      refine own_ial X0 hx hZ e0 A (j := (1 : Int32)) (w := (f 1)) (by decide) (by decide) rfl (hb hby dG_23) ?_
      show own_Run p e below s _ _ _ (s₁.setTop (mkF m 24 #[.val (.ref r1), .val (.int p1), .val (.int p1)] [(.int (f 1)), (.int p1)]))
      refine own_of (fun _ hh_ => XS.ior X0.here hx rfl (hb hby dG_24) rfl hh_) ?_
      show own_Run p e below s _ _ _ (s₁.setTop (mkF m 25 #[.val (.ref r1), .val (.int p1), .val (.int p1)] [(.int (p1 ||| (f 1)))]))
      refine own_of (fun _ hh_ => XS.istoreN X0.here hx rfl (hb hby dG_25) rfl (l' := #[.val (.ref r1), .val (.int p1), .val (.int (p1 ||| (f 1)))]) rfl hh_) ?_
      show own_Run p e below s _ _ _ (s₁.setTop (mkF m 26 #[.val (.ref r1), .val (.int p1), .val (.int (p1 ||| (f 1)))] []))
      refine own_of (fun _ hh_ => XS.iloadN X0.here hx rfl (hb hby dG_26) rfl hh_) ?_
      show own_Run p e below s _ _ _ (s₁.setTop (mkF m 27 #[.val (.ref r1), .val (.int p1), .val (.int (p1 ||| (f 1)))] [(.int p1)]))
      refine own_of (fun _ hh_ => XS.iconst X0.here hx rfl (hb hby dG_27) hh_) ?_
      show own_Run p e below s _ _ _ (s₁.setTop (mkF m 28 #[.val (.ref r1), .val (.int p1), .val (.int (p1 ||| (f 1)))] [(.int (4 : Int32)), (.int p1)]))
      refine own_of (fun _ hh_ => XS.iand X0.here hx rfl (hb hby dG_28) rfl hh_) ?_
      show own_Run p e below s _ _ _ (s₁.setTop (mkF m 29 #[.val (.ref r1), .val (.int p1), .val (.int (p1 ||| (f 1)))] [(.int (p1 &&& (4 : Int32)))]))
      by_cases hc29_6 : (p1 &&& (4 : Int32)) = (0 : Int32)
      · refine own_of (fun _ hh_ => XS.ifYes X0.here hx rfl (pc0 := 29) (pc' := 38) rfl (hb hby dG_29) rfl ((if0 _ _).trans (teq hc29_6).1) (by decide) (by decide) hh_) ?_
        show own_Run p e below s _ _ _ (s₁.setTop (mkF m 38 #[.val (.ref r1), .val (.int p1), .val (.int (p1 ||| (f 1)))] []))
        refine own_of (fun _ hh_ => XS.iloadN X0.here hx rfl (hb hby dG_38) rfl hh_) ?_
        show own_Run p e below s _ _ _ (s₁.setTop (mkF m 39 #[.val (.ref r1), .val (.int p1), .val (.int (p1 ||| (f 1)))] [(.int p1)]))
        refine own_of (fun _ hh_ => XS.bipush X0.here hx rfl (hb hby dG_39) hh_) ?_
        show own_Run p e below s _ _ _ (s₁.setTop (mkF m 41 #[.val (.ref r1), .val (.int p1), .val (.int (p1 ||| (f 1)))] [(.int (8 : Int32)), (.int p1)]))
        refine own_of (fun _ hh_ => XS.iand X0.here hx rfl (hb hby dG_41) rfl hh_) ?_
        show own_Run p e below s _ _ _ (s₁.setTop (mkF m 42 #[.val (.ref r1), .val (.int p1), .val (.int (p1 ||| (f 1)))] [(.int (p1 &&& (8 : Int32)))]))
        by_cases hc42_7 : (p1 &&& (8 : Int32)) = (0 : Int32)
        · refine own_of (fun _ hh_ => XS.ifYes X0.here hx rfl (pc0 := 42) (pc' := 51) rfl (hb hby dG_42) rfl ((if0 _ _).trans (teq hc42_7).1) (by decide) (by decide) hh_) ?_
          show own_Run p e below s _ _ _ (s₁.setTop (mkF m 51 #[.val (.ref r1), .val (.int p1), .val (.int (p1 ||| (f 1)))] []))
          refine own_of (fun _ hh_ => XS.iloadN X0.here hx rfl (hb hby dG_51) rfl hh_) ?_
          show own_Run p e below s _ _ _ (s₁.setTop (mkF m 52 #[.val (.ref r1), .val (.int p1), .val (.int (p1 ||| (f 1)))] [(.int (p1 ||| (f 1)))]))
          exact own_retI X0 hx hret hlk (hb hby dG_52) ⟨by unfold own_grI own_g1; rw [if_pos hc5_1, if_neg hc17_2, if_pos hc29_6, if_pos hc42_7], N0, e0⟩ (by decide) (by decide)
        · refine own_of (fun _ hh_ => XS.ifNo X0.here hx rfl (hb hby dG_42) rfl ((if0 _ _).trans (feq hc42_7).1) hh_) ?_
          show own_Run p e below s _ _ _ (s₁.setTop (mkF m 45 #[.val (.ref r1), .val (.int p1), .val (.int (p1 ||| (f 1)))] []))
          refine own_of (fun _ hh_ => XS.iloadN X0.here hx rfl (hb hby dG_45) rfl hh_) ?_
          show own_Run p e below s _ _ _ (s₁.setTop (mkF m 46 #[.val (.ref r1), .val (.int p1), .val (.int (p1 ||| (f 1)))] [(.int (p1 ||| (f 1)))]))
          refine own_of (fun _ hh_ => XS.aloadN X0.here hx rfl (hb hby dG_46) rfl rfl hh_) ?_
          show own_Run p e below s _ _ _ (s₁.setTop (mkF m 47 #[.val (.ref r1), .val (.int p1), .val (.int (p1 ||| (f 1)))] [(.ref r1), (.int (p1 ||| (f 1)))]))
          refine own_of (fun _ hh_ => XS.iconst X0.here hx rfl (hb hby dG_47) hh_) ?_
          show own_Run p e below s _ _ _ (s₁.setTop (mkF m 48 #[.val (.ref r1), .val (.int p1), .val (.int (p1 ||| (f 1)))] [(.int (3 : Int32)), (.ref r1), (.int (p1 ||| (f 1)))]))
          refine own_ial X0 hx hZ e0 A (j := (3 : Int32)) (w := (f 3)) (by decide) (by decide) rfl (hb hby dG_48) ?_
          show own_Run p e below s _ _ _ (s₁.setTop (mkF m 49 #[.val (.ref r1), .val (.int p1), .val (.int (p1 ||| (f 1)))] [(.int (f 3)), (.int (p1 ||| (f 1)))]))
          refine own_of (fun _ hh_ => XS.ior X0.here hx rfl (hb hby dG_49) rfl hh_) ?_
          show own_Run p e below s _ _ _ (s₁.setTop (mkF m 50 #[.val (.ref r1), .val (.int p1), .val (.int (p1 ||| (f 1)))] [(.int ((p1 ||| (f 1)) ||| (f 3)))]))
          refine own_of (fun _ hh_ => XS.istoreN X0.here hx rfl (hb hby dG_50) rfl (l' := #[.val (.ref r1), .val (.int p1), .val (.int ((p1 ||| (f 1)) ||| (f 3)))]) rfl hh_) ?_
          show own_Run p e below s _ _ _ (s₁.setTop (mkF m 51 #[.val (.ref r1), .val (.int p1), .val (.int ((p1 ||| (f 1)) ||| (f 3)))] []))
          refine own_of (fun _ hh_ => XS.iloadN X0.here hx rfl (hb hby dG_51) rfl hh_) ?_
          show own_Run p e below s _ _ _ (s₁.setTop (mkF m 52 #[.val (.ref r1), .val (.int p1), .val (.int ((p1 ||| (f 1)) ||| (f 3)))] [(.int ((p1 ||| (f 1)) ||| (f 3)))]))
          exact own_retI X0 hx hret hlk (hb hby dG_52) ⟨by unfold own_grI own_g1; rw [if_pos hc5_1, if_neg hc17_2, if_pos hc29_6, if_neg hc42_7], N0, e0⟩ (by decide) (by decide)
      · refine own_of (fun _ hh_ => XS.ifNo X0.here hx rfl (hb hby dG_29) rfl ((if0 _ _).trans (feq hc29_6).1) hh_) ?_
        show own_Run p e below s _ _ _ (s₁.setTop (mkF m 32 #[.val (.ref r1), .val (.int p1), .val (.int (p1 ||| (f 1)))] []))
        refine own_of (fun _ hh_ => XS.iloadN X0.here hx rfl (hb hby dG_32) rfl hh_) ?_
        show own_Run p e below s _ _ _ (s₁.setTop (mkF m 33 #[.val (.ref r1), .val (.int p1), .val (.int (p1 ||| (f 1)))] [(.int (p1 ||| (f 1)))]))
        refine own_of (fun _ hh_ => XS.aloadN X0.here hx rfl (hb hby dG_33) rfl rfl hh_) ?_
        show own_Run p e below s _ _ _ (s₁.setTop (mkF m 34 #[.val (.ref r1), .val (.int p1), .val (.int (p1 ||| (f 1)))] [(.ref r1), (.int (p1 ||| (f 1)))]))
        refine own_of (fun _ hh_ => XS.iconst X0.here hx rfl (hb hby dG_34) hh_) ?_
        show own_Run p e below s _ _ _ (s₁.setTop (mkF m 35 #[.val (.ref r1), .val (.int p1), .val (.int (p1 ||| (f 1)))] [(.int (2 : Int32)), (.ref r1), (.int (p1 ||| (f 1)))]))
        refine own_ial X0 hx hZ e0 A (j := (2 : Int32)) (w := (f 2)) (by decide) (by decide) rfl (hb hby dG_35) ?_
        show own_Run p e below s _ _ _ (s₁.setTop (mkF m 36 #[.val (.ref r1), .val (.int p1), .val (.int (p1 ||| (f 1)))] [(.int (f 2)), (.int (p1 ||| (f 1)))]))
        refine own_of (fun _ hh_ => XS.ior X0.here hx rfl (hb hby dG_36) rfl hh_) ?_
        show own_Run p e below s _ _ _ (s₁.setTop (mkF m 37 #[.val (.ref r1), .val (.int p1), .val (.int (p1 ||| (f 1)))] [(.int ((p1 ||| (f 1)) ||| (f 2)))]))
        refine own_of (fun _ hh_ => XS.istoreN X0.here hx rfl (hb hby dG_37) rfl (l' := #[.val (.ref r1), .val (.int p1), .val (.int ((p1 ||| (f 1)) ||| (f 2)))]) rfl hh_) ?_
        show own_Run p e below s _ _ _ (s₁.setTop (mkF m 38 #[.val (.ref r1), .val (.int p1), .val (.int ((p1 ||| (f 1)) ||| (f 2)))] []))
        refine own_of (fun _ hh_ => XS.iloadN X0.here hx rfl (hb hby dG_38) rfl hh_) ?_
        show own_Run p e below s _ _ _ (s₁.setTop (mkF m 39 #[.val (.ref r1), .val (.int p1), .val (.int ((p1 ||| (f 1)) ||| (f 2)))] [(.int p1)]))
        refine own_of (fun _ hh_ => XS.bipush X0.here hx rfl (hb hby dG_39) hh_) ?_
        show own_Run p e below s _ _ _ (s₁.setTop (mkF m 41 #[.val (.ref r1), .val (.int p1), .val (.int ((p1 ||| (f 1)) ||| (f 2)))] [(.int (8 : Int32)), (.int p1)]))
        refine own_of (fun _ hh_ => XS.iand X0.here hx rfl (hb hby dG_41) rfl hh_) ?_
        show own_Run p e below s _ _ _ (s₁.setTop (mkF m 42 #[.val (.ref r1), .val (.int p1), .val (.int ((p1 ||| (f 1)) ||| (f 2)))] [(.int (p1 &&& (8 : Int32)))]))
        by_cases hc42_8 : (p1 &&& (8 : Int32)) = (0 : Int32)
        · refine own_of (fun _ hh_ => XS.ifYes X0.here hx rfl (pc0 := 42) (pc' := 51) rfl (hb hby dG_42) rfl ((if0 _ _).trans (teq hc42_8).1) (by decide) (by decide) hh_) ?_
          show own_Run p e below s _ _ _ (s₁.setTop (mkF m 51 #[.val (.ref r1), .val (.int p1), .val (.int ((p1 ||| (f 1)) ||| (f 2)))] []))
          refine own_of (fun _ hh_ => XS.iloadN X0.here hx rfl (hb hby dG_51) rfl hh_) ?_
          show own_Run p e below s _ _ _ (s₁.setTop (mkF m 52 #[.val (.ref r1), .val (.int p1), .val (.int ((p1 ||| (f 1)) ||| (f 2)))] [(.int ((p1 ||| (f 1)) ||| (f 2)))]))
          exact own_retI X0 hx hret hlk (hb hby dG_52) ⟨by unfold own_grI own_g1; rw [if_pos hc5_1, if_neg hc17_2, if_neg hc29_6, if_pos hc42_8], N0, e0⟩ (by decide) (by decide)
        · refine own_of (fun _ hh_ => XS.ifNo X0.here hx rfl (hb hby dG_42) rfl ((if0 _ _).trans (feq hc42_8).1) hh_) ?_
          show own_Run p e below s _ _ _ (s₁.setTop (mkF m 45 #[.val (.ref r1), .val (.int p1), .val (.int ((p1 ||| (f 1)) ||| (f 2)))] []))
          refine own_of (fun _ hh_ => XS.iloadN X0.here hx rfl (hb hby dG_45) rfl hh_) ?_
          show own_Run p e below s _ _ _ (s₁.setTop (mkF m 46 #[.val (.ref r1), .val (.int p1), .val (.int ((p1 ||| (f 1)) ||| (f 2)))] [(.int ((p1 ||| (f 1)) ||| (f 2)))]))
          refine own_of (fun _ hh_ => XS.aloadN X0.here hx rfl (hb hby dG_46) rfl rfl hh_) ?_
          show own_Run p e below s _ _ _ (s₁.setTop (mkF m 47 #[.val (.ref r1), .val (.int p1), .val (.int ((p1 ||| (f 1)) ||| (f 2)))] [(.ref r1), (.int ((p1 ||| (f 1)) ||| (f 2)))]))
          refine own_of (fun _ hh_ => XS.iconst X0.here hx rfl (hb hby dG_47) hh_) ?_
          show own_Run p e below s _ _ _ (s₁.setTop (mkF m 48 #[.val (.ref r1), .val (.int p1), .val (.int ((p1 ||| (f 1)) ||| (f 2)))] [(.int (3 : Int32)), (.ref r1), (.int ((p1 ||| (f 1)) ||| (f 2)))]))
          refine own_ial X0 hx hZ e0 A (j := (3 : Int32)) (w := (f 3)) (by decide) (by decide) rfl (hb hby dG_48) ?_
          show own_Run p e below s _ _ _ (s₁.setTop (mkF m 49 #[.val (.ref r1), .val (.int p1), .val (.int ((p1 ||| (f 1)) ||| (f 2)))] [(.int (f 3)), (.int ((p1 ||| (f 1)) ||| (f 2)))]))
          refine own_of (fun _ hh_ => XS.ior X0.here hx rfl (hb hby dG_49) rfl hh_) ?_
          show own_Run p e below s _ _ _ (s₁.setTop (mkF m 50 #[.val (.ref r1), .val (.int p1), .val (.int ((p1 ||| (f 1)) ||| (f 2)))] [(.int (((p1 ||| (f 1)) ||| (f 2)) ||| (f 3)))]))
          refine own_of (fun _ hh_ => XS.istoreN X0.here hx rfl (hb hby dG_50) rfl (l' := #[.val (.ref r1), .val (.int p1), .val (.int (((p1 ||| (f 1)) ||| (f 2)) ||| (f 3)))]) rfl hh_) ?_
          show own_Run p e below s _ _ _ (s₁.setTop (mkF m 51 #[.val (.ref r1), .val (.int p1), .val (.int (((p1 ||| (f 1)) ||| (f 2)) ||| (f 3)))] []))
          refine own_of (fun _ hh_ => XS.iloadN X0.here hx rfl (hb hby dG_51) rfl hh_) ?_
          show own_Run p e below s _ _ _ (s₁.setTop (mkF m 52 #[.val (.ref r1), .val (.int p1), .val (.int (((p1 ||| (f 1)) ||| (f 2)) ||| (f 3)))] [(.int (((p1 ||| (f 1)) ||| (f 2)) ||| (f 3)))]))
          exact own_retI X0 hx hret hlk (hb hby dG_52) ⟨by unfold own_grI own_g1; rw [if_pos hc5_1, if_neg hc17_2, if_neg hc29_6, if_neg hc42_8], N0, e0⟩ (by decide) (by decide)
  · refine own_of (fun _ hh_ => XS.ifNo X0.here hx rfl (hb hby dG_5) rfl ((if0 _ _).trans (feq hc5_1).1) hh_) ?_
    show own_Run p e below s _ _ _ (s₁.setTop (mkF m 8 #[.val (.ref r1), .val (.int p1), .val (.int p1)] []))
    refine own_of (fun _ hh_ => XS.iloadN X0.here hx rfl (hb hby dG_8) rfl hh_) ?_
    show own_Run p e below s _ _ _ (s₁.setTop (mkF m 9 #[.val (.ref r1), .val (.int p1), .val (.int p1)] [(.int p1)]))
    refine own_of (fun _ hh_ => XS.aloadN X0.here hx rfl (hb hby dG_9) rfl rfl hh_) ?_
    show own_Run p e below s _ _ _ (s₁.setTop (mkF m 10 #[.val (.ref r1), .val (.int p1), .val (.int p1)] [(.ref r1), (.int p1)]))
    refine own_of (fun _ hh_ => XS.iconst X0.here hx rfl (hb hby dG_10) hh_) ?_
    show own_Run p e below s _ _ _ (s₁.setTop (mkF m 11 #[.val (.ref r1), .val (.int p1), .val (.int p1)] [(.int (0 : Int32)), (.ref r1), (.int p1)]))
    refine own_ial X0 hx hZ e0 A (j := (0 : Int32)) (w := (f 0)) (by decide) (by decide) rfl (hb hby dG_11) ?_
    show own_Run p e below s _ _ _ (s₁.setTop (mkF m 12 #[.val (.ref r1), .val (.int p1), .val (.int p1)] [(.int (f 0)), (.int p1)]))
    refine own_of (fun _ hh_ => XS.ior X0.here hx rfl (hb hby dG_12) rfl hh_) ?_
    show own_Run p e below s _ _ _ (s₁.setTop (mkF m 13 #[.val (.ref r1), .val (.int p1), .val (.int p1)] [(.int (p1 ||| (f 0)))]))
    refine own_of (fun _ hh_ => XS.istoreN X0.here hx rfl (hb hby dG_13) rfl (l' := #[.val (.ref r1), .val (.int p1), .val (.int (p1 ||| (f 0)))]) rfl hh_) ?_
    show own_Run p e below s _ _ _ (s₁.setTop (mkF m 14 #[.val (.ref r1), .val (.int p1), .val (.int (p1 ||| (f 0)))] []))
    refine own_of (fun _ hh_ => XS.iloadN X0.here hx rfl (hb hby dG_14) rfl hh_) ?_
    show own_Run p e below s _ _ _ (s₁.setTop (mkF m 15 #[.val (.ref r1), .val (.int p1), .val (.int (p1 ||| (f 0)))] [(.int p1)]))
    refine own_of (fun _ hh_ => XS.iconst X0.here hx rfl (hb hby dG_15) hh_) ?_
    show own_Run p e below s _ _ _ (s₁.setTop (mkF m 16 #[.val (.ref r1), .val (.int p1), .val (.int (p1 ||| (f 0)))] [(.int (2 : Int32)), (.int p1)]))
    refine own_of (fun _ hh_ => XS.iand X0.here hx rfl (hb hby dG_16) rfl hh_) ?_
    show own_Run p e below s _ _ _ (s₁.setTop (mkF m 17 #[.val (.ref r1), .val (.int p1), .val (.int (p1 ||| (f 0)))] [(.int (p1 &&& (2 : Int32)))]))
    by_cases hc17_9 : (p1 &&& (2 : Int32)) = (0 : Int32)
    · refine own_of (fun _ hh_ => XS.ifYes X0.here hx rfl (pc0 := 17) (pc' := 26) rfl (hb hby dG_17) rfl ((if0 _ _).trans (teq hc17_9).1) (by decide) (by decide) hh_) ?_
      show own_Run p e below s _ _ _ (s₁.setTop (mkF m 26 #[.val (.ref r1), .val (.int p1), .val (.int (p1 ||| (f 0)))] []))
      refine own_of (fun _ hh_ => XS.iloadN X0.here hx rfl (hb hby dG_26) rfl hh_) ?_
      show own_Run p e below s _ _ _ (s₁.setTop (mkF m 27 #[.val (.ref r1), .val (.int p1), .val (.int (p1 ||| (f 0)))] [(.int p1)]))
      refine own_of (fun _ hh_ => XS.iconst X0.here hx rfl (hb hby dG_27) hh_) ?_
      show own_Run p e below s _ _ _ (s₁.setTop (mkF m 28 #[.val (.ref r1), .val (.int p1), .val (.int (p1 ||| (f 0)))] [(.int (4 : Int32)), (.int p1)]))
      refine own_of (fun _ hh_ => XS.iand X0.here hx rfl (hb hby dG_28) rfl hh_) ?_
      show own_Run p e below s _ _ _ (s₁.setTop (mkF m 29 #[.val (.ref r1), .val (.int p1), .val (.int (p1 ||| (f 0)))] [(.int (p1 &&& (4 : Int32)))]))
      by_cases hc29_10 : (p1 &&& (4 : Int32)) = (0 : Int32)
      · refine own_of (fun _ hh_ => XS.ifYes X0.here hx rfl (pc0 := 29) (pc' := 38) rfl (hb hby dG_29) rfl ((if0 _ _).trans (teq hc29_10).1) (by decide) (by decide) hh_) ?_
        show own_Run p e below s _ _ _ (s₁.setTop (mkF m 38 #[.val (.ref r1), .val (.int p1), .val (.int (p1 ||| (f 0)))] []))
        refine own_of (fun _ hh_ => XS.iloadN X0.here hx rfl (hb hby dG_38) rfl hh_) ?_
        show own_Run p e below s _ _ _ (s₁.setTop (mkF m 39 #[.val (.ref r1), .val (.int p1), .val (.int (p1 ||| (f 0)))] [(.int p1)]))
        refine own_of (fun _ hh_ => XS.bipush X0.here hx rfl (hb hby dG_39) hh_) ?_
        show own_Run p e below s _ _ _ (s₁.setTop (mkF m 41 #[.val (.ref r1), .val (.int p1), .val (.int (p1 ||| (f 0)))] [(.int (8 : Int32)), (.int p1)]))
        refine own_of (fun _ hh_ => XS.iand X0.here hx rfl (hb hby dG_41) rfl hh_) ?_
        show own_Run p e below s _ _ _ (s₁.setTop (mkF m 42 #[.val (.ref r1), .val (.int p1), .val (.int (p1 ||| (f 0)))] [(.int (p1 &&& (8 : Int32)))]))
        by_cases hc42_11 : (p1 &&& (8 : Int32)) = (0 : Int32)
        · refine own_of (fun _ hh_ => XS.ifYes X0.here hx rfl (pc0 := 42) (pc' := 51) rfl (hb hby dG_42) rfl ((if0 _ _).trans (teq hc42_11).1) (by decide) (by decide) hh_) ?_
          show own_Run p e below s _ _ _ (s₁.setTop (mkF m 51 #[.val (.ref r1), .val (.int p1), .val (.int (p1 ||| (f 0)))] []))
          refine own_of (fun _ hh_ => XS.iloadN X0.here hx rfl (hb hby dG_51) rfl hh_) ?_
          show own_Run p e below s _ _ _ (s₁.setTop (mkF m 52 #[.val (.ref r1), .val (.int p1), .val (.int (p1 ||| (f 0)))] [(.int (p1 ||| (f 0)))]))
          exact own_retI X0 hx hret hlk (hb hby dG_52) ⟨by unfold own_grI own_g1; rw [if_neg hc5_1, if_pos hc17_9, if_pos hc29_10, if_pos hc42_11], N0, e0⟩ (by decide) (by decide)
        · refine own_of (fun _ hh_ => XS.ifNo X0.here hx rfl (hb hby dG_42) rfl ((if0 _ _).trans (feq hc42_11).1) hh_) ?_
          show own_Run p e below s _ _ _ (s₁.setTop (mkF m 45 #[.val (.ref r1), .val (.int p1), .val (.int (p1 ||| (f 0)))] []))
          refine own_of (fun _ hh_ => XS.iloadN X0.here hx rfl (hb hby dG_45) rfl hh_) ?_
          show own_Run p e below s _ _ _ (s₁.setTop (mkF m 46 #[.val (.ref r1), .val (.int p1), .val (.int (p1 ||| (f 0)))] [(.int (p1 ||| (f 0)))]))
          refine own_of (fun _ hh_ => XS.aloadN X0.here hx rfl (hb hby dG_46) rfl rfl hh_) ?_
          show own_Run p e below s _ _ _ (s₁.setTop (mkF m 47 #[.val (.ref r1), .val (.int p1), .val (.int (p1 ||| (f 0)))] [(.ref r1), (.int (p1 ||| (f 0)))]))
          refine own_of (fun _ hh_ => XS.iconst X0.here hx rfl (hb hby dG_47) hh_) ?_
          show own_Run p e below s _ _ _ (s₁.setTop (mkF m 48 #[.val (.ref r1), .val (.int p1), .val (.int (p1 ||| (f 0)))] [(.int (3 : Int32)), (.ref r1), (.int (p1 ||| (f 0)))]))
          refine own_ial X0 hx hZ e0 A (j := (3 : Int32)) (w := (f 3)) (by decide) (by decide) rfl (hb hby dG_48) ?_
          show own_Run p e below s _ _ _ (s₁.setTop (mkF m 49 #[.val (.ref r1), .val (.int p1), .val (.int (p1 ||| (f 0)))] [(.int (f 3)), (.int (p1 ||| (f 0)))]))
          refine own_of (fun _ hh_ => XS.ior X0.here hx rfl (hb hby dG_49) rfl hh_) ?_
          show own_Run p e below s _ _ _ (s₁.setTop (mkF m 50 #[.val (.ref r1), .val (.int p1), .val (.int (p1 ||| (f 0)))] [(.int ((p1 ||| (f 0)) ||| (f 3)))]))
          refine own_of (fun _ hh_ => XS.istoreN X0.here hx rfl (hb hby dG_50) rfl (l' := #[.val (.ref r1), .val (.int p1), .val (.int ((p1 ||| (f 0)) ||| (f 3)))]) rfl hh_) ?_
          show own_Run p e below s _ _ _ (s₁.setTop (mkF m 51 #[.val (.ref r1), .val (.int p1), .val (.int ((p1 ||| (f 0)) ||| (f 3)))] []))
          refine own_of (fun _ hh_ => XS.iloadN X0.here hx rfl (hb hby dG_51) rfl hh_) ?_
          show own_Run p e below s _ _ _ (s₁.setTop (mkF m 52 #[.val (.ref r1), .val (.int p1), .val (.int ((p1 ||| (f 0)) ||| (f 3)))] [(.int ((p1 ||| (f 0)) ||| (f 3)))]))
          exact own_retI X0 hx hret hlk (hb hby dG_52) ⟨by unfold own_grI own_g1; rw [if_neg hc5_1, if_pos hc17_9, if_pos hc29_10, if_neg hc42_11], N0, e0⟩ (by decide) (by decide)
      · refine own_of (fun _ hh_ => XS.ifNo X0.here hx rfl (hb hby dG_29) rfl ((if0 _ _).trans (feq hc29_10).1) hh_) ?_
        show own_Run p e below s _ _ _ (s₁.setTop (mkF m 32 #[.val (.ref r1), .val (.int p1), .val (.int (p1 ||| (f 0)))] []))
        refine own_of (fun _ hh_ => XS.iloadN X0.here hx rfl (hb hby dG_32) rfl hh_) ?_
        show own_Run p e below s _ _ _ (s₁.setTop (mkF m 33 #[.val (.ref r1), .val (.int p1), .val (.int (p1 ||| (f 0)))] [(.int (p1 ||| (f 0)))]))
        refine own_of (fun _ hh_ => XS.aloadN X0.here hx rfl (hb hby dG_33) rfl rfl hh_) ?_
        show own_Run p e below s _ _ _ (s₁.setTop (mkF m 34 #[.val (.ref r1), .val (.int p1), .val (.int (p1 ||| (f 0)))] [(.ref r1), (.int (p1 ||| (f 0)))]))
        refine own_of (fun _ hh_ => XS.iconst X0.here hx rfl (hb hby dG_34) hh_) ?_
        show own_Run p e below s _ _ _ (s₁.setTop (mkF m 35 #[.val (.ref r1), .val (.int p1), .val (.int (p1 ||| (f 0)))] [(.int (2 : Int32)), (.ref r1), (.int (p1 ||| (f 0)))]))
        refine own_ial X0 hx hZ e0 A (j := (2 : Int32)) (w := (f 2)) (by decide) (by decide) rfl (hb hby dG_35) ?_
        show own_Run p e below s _ _ _ (s₁.setTop (mkF m 36 #[.val (.ref r1), .val (.int p1), .val (.int (p1 ||| (f 0)))] [(.int (f 2)), (.int (p1 ||| (f 0)))]))
        refine own_of (fun _ hh_ => XS.ior X0.here hx rfl (hb hby dG_36) rfl hh_) ?_
        show own_Run p e below s _ _ _ (s₁.setTop (mkF m 37 #[.val (.ref r1), .val (.int p1), .val (.int (p1 ||| (f 0)))] [(.int ((p1 ||| (f 0)) ||| (f 2)))]))
        refine own_of (fun _ hh_ => XS.istoreN X0.here hx rfl (hb hby dG_37) rfl (l' := #[.val (.ref r1), .val (.int p1), .val (.int ((p1 ||| (f 0)) ||| (f 2)))]) rfl hh_) ?_
        show own_Run p e below s _ _ _ (s₁.setTop (mkF m 38 #[.val (.ref r1), .val (.int p1), .val (.int ((p1 ||| (f 0)) ||| (f 2)))] []))
        refine own_of (fun _ hh_ => XS.iloadN X0.here hx rfl (hb hby dG_38) rfl hh_) ?_
        show own_Run p e below s _ _ _ (s₁.setTop (mkF m 39 #[.val (.ref r1), .val (.int p1), .val (.int ((p1 ||| (f 0)) ||| (f 2)))] [(.int p1)]))
        refine own_of (fun _ hh_ => XS.bipush X0.here hx rfl (hb hby dG_39) hh_) ?_
        show own_Run p e below s _ _ _ (s₁.setTop (mkF m 41 #[.val (.ref r1), .val (.int p1), .val (.int ((p1 ||| (f 0)) ||| (f 2)))] [(.int (8 : Int32)), (.int p1)]))
        refine own_of (fun _ hh_ => XS.iand X0.here hx rfl (hb hby dG_41) rfl hh_) ?_
        show own_Run p e below s _ _ _ (s₁.setTop (mkF m 42 #[.val (.ref r1), .val (.int p1), .val (.int ((p1 ||| (f 0)) ||| (f 2)))] [(.int (p1 &&& (8 : Int32)))]))
        by_cases hc42_12 : (p1 &&& (8 : Int32)) = (0 : Int32)
        · refine own_of (fun _ hh_ => XS.ifYes X0.here hx rfl (pc0 := 42) (pc' := 51) rfl (hb hby dG_42) rfl ((if0 _ _).trans (teq hc42_12).1) (by decide) (by decide) hh_) ?_
          show own_Run p e below s _ _ _ (s₁.setTop (mkF m 51 #[.val (.ref r1), .val (.int p1), .val (.int ((p1 ||| (f 0)) ||| (f 2)))] []))
          refine own_of (fun _ hh_ => XS.iloadN X0.here hx rfl (hb hby dG_51) rfl hh_) ?_
          show own_Run p e below s _ _ _ (s₁.setTop (mkF m 52 #[.val (.ref r1), .val (.int p1), .val (.int ((p1 ||| (f 0)) ||| (f 2)))] [(.int ((p1 ||| (f 0)) ||| (f 2)))]))
          exact own_retI X0 hx hret hlk (hb hby dG_52) ⟨by unfold own_grI own_g1; rw [if_neg hc5_1, if_pos hc17_9, if_neg hc29_10, if_pos hc42_12], N0, e0⟩ (by decide) (by decide)
        · refine own_of (fun _ hh_ => XS.ifNo X0.here hx rfl (hb hby dG_42) rfl ((if0 _ _).trans (feq hc42_12).1) hh_) ?_
          show own_Run p e below s _ _ _ (s₁.setTop (mkF m 45 #[.val (.ref r1), .val (.int p1), .val (.int ((p1 ||| (f 0)) ||| (f 2)))] []))
          refine own_of (fun _ hh_ => XS.iloadN X0.here hx rfl (hb hby dG_45) rfl hh_) ?_
          show own_Run p e below s _ _ _ (s₁.setTop (mkF m 46 #[.val (.ref r1), .val (.int p1), .val (.int ((p1 ||| (f 0)) ||| (f 2)))] [(.int ((p1 ||| (f 0)) ||| (f 2)))]))
          refine own_of (fun _ hh_ => XS.aloadN X0.here hx rfl (hb hby dG_46) rfl rfl hh_) ?_
          show own_Run p e below s _ _ _ (s₁.setTop (mkF m 47 #[.val (.ref r1), .val (.int p1), .val (.int ((p1 ||| (f 0)) ||| (f 2)))] [(.ref r1), (.int ((p1 ||| (f 0)) ||| (f 2)))]))
          refine own_of (fun _ hh_ => XS.iconst X0.here hx rfl (hb hby dG_47) hh_) ?_
          show own_Run p e below s _ _ _ (s₁.setTop (mkF m 48 #[.val (.ref r1), .val (.int p1), .val (.int ((p1 ||| (f 0)) ||| (f 2)))] [(.int (3 : Int32)), (.ref r1), (.int ((p1 ||| (f 0)) ||| (f 2)))]))
          refine own_ial X0 hx hZ e0 A (j := (3 : Int32)) (w := (f 3)) (by decide) (by decide) rfl (hb hby dG_48) ?_
          show own_Run p e below s _ _ _ (s₁.setTop (mkF m 49 #[.val (.ref r1), .val (.int p1), .val (.int ((p1 ||| (f 0)) ||| (f 2)))] [(.int (f 3)), (.int ((p1 ||| (f 0)) ||| (f 2)))]))
          refine own_of (fun _ hh_ => XS.ior X0.here hx rfl (hb hby dG_49) rfl hh_) ?_
          show own_Run p e below s _ _ _ (s₁.setTop (mkF m 50 #[.val (.ref r1), .val (.int p1), .val (.int ((p1 ||| (f 0)) ||| (f 2)))] [(.int (((p1 ||| (f 0)) ||| (f 2)) ||| (f 3)))]))
          refine own_of (fun _ hh_ => XS.istoreN X0.here hx rfl (hb hby dG_50) rfl (l' := #[.val (.ref r1), .val (.int p1), .val (.int (((p1 ||| (f 0)) ||| (f 2)) ||| (f 3)))]) rfl hh_) ?_
          show own_Run p e below s _ _ _ (s₁.setTop (mkF m 51 #[.val (.ref r1), .val (.int p1), .val (.int (((p1 ||| (f 0)) ||| (f 2)) ||| (f 3)))] []))
          refine own_of (fun _ hh_ => XS.iloadN X0.here hx rfl (hb hby dG_51) rfl hh_) ?_
          show own_Run p e below s _ _ _ (s₁.setTop (mkF m 52 #[.val (.ref r1), .val (.int p1), .val (.int (((p1 ||| (f 0)) ||| (f 2)) ||| (f 3)))] [(.int (((p1 ||| (f 0)) ||| (f 2)) ||| (f 3)))]))
          exact own_retI X0 hx hret hlk (hb hby dG_52) ⟨by unfold own_grI own_g1; rw [if_neg hc5_1, if_pos hc17_9, if_neg hc29_10, if_neg hc42_12], N0, e0⟩ (by decide) (by decide)
    · refine own_of (fun _ hh_ => XS.ifNo X0.here hx rfl (hb hby dG_17) rfl ((if0 _ _).trans (feq hc17_9).1) hh_) ?_
      show own_Run p e below s _ _ _ (s₁.setTop (mkF m 20 #[.val (.ref r1), .val (.int p1), .val (.int (p1 ||| (f 0)))] []))
      refine own_of (fun _ hh_ => XS.iloadN X0.here hx rfl (hb hby dG_20) rfl hh_) ?_
      show own_Run p e below s _ _ _ (s₁.setTop (mkF m 21 #[.val (.ref r1), .val (.int p1), .val (.int (p1 ||| (f 0)))] [(.int (p1 ||| (f 0)))]))
      refine own_of (fun _ hh_ => XS.aloadN X0.here hx rfl (hb hby dG_21) rfl rfl hh_) ?_
      show own_Run p e below s _ _ _ (s₁.setTop (mkF m 22 #[.val (.ref r1), .val (.int p1), .val (.int (p1 ||| (f 0)))] [(.ref r1), (.int (p1 ||| (f 0)))]))
      refine own_of (fun _ hh_ => XS.iconst X0.here hx rfl (hb hby dG_22) hh_) ?_
      show own_Run p e below s _ _ _ (s₁.setTop (mkF m 23 #[.val (.ref r1), .val (.int p1), .val (.int (p1 ||| (f 0)))] [(.int (1 : Int32)), (.ref r1), (.int (p1 ||| (f 0)))]))
      refine own_ial X0 hx hZ e0 A (j := (1 : Int32)) (w := (f 1)) (by decide) (by decide) rfl (hb hby dG_23) ?_
      show own_Run p e below s _ _ _ (s₁.setTop (mkF m 24 #[.val (.ref r1), .val (.int p1), .val (.int (p1 ||| (f 0)))] [(.int (f 1)), (.int (p1 ||| (f 0)))]))
      refine own_of (fun _ hh_ => XS.ior X0.here hx rfl (hb hby dG_24) rfl hh_) ?_
      show own_Run p e below s _ _ _ (s₁.setTop (mkF m 25 #[.val (.ref r1), .val (.int p1), .val (.int (p1 ||| (f 0)))] [(.int ((p1 ||| (f 0)) ||| (f 1)))]))
      refine own_of (fun _ hh_ => XS.istoreN X0.here hx rfl (hb hby dG_25) rfl (l' := #[.val (.ref r1), .val (.int p1), .val (.int ((p1 ||| (f 0)) ||| (f 1)))]) rfl hh_) ?_
      show own_Run p e below s _ _ _ (s₁.setTop (mkF m 26 #[.val (.ref r1), .val (.int p1), .val (.int ((p1 ||| (f 0)) ||| (f 1)))] []))
      refine own_of (fun _ hh_ => XS.iloadN X0.here hx rfl (hb hby dG_26) rfl hh_) ?_
      show own_Run p e below s _ _ _ (s₁.setTop (mkF m 27 #[.val (.ref r1), .val (.int p1), .val (.int ((p1 ||| (f 0)) ||| (f 1)))] [(.int p1)]))
      refine own_of (fun _ hh_ => XS.iconst X0.here hx rfl (hb hby dG_27) hh_) ?_
      show own_Run p e below s _ _ _ (s₁.setTop (mkF m 28 #[.val (.ref r1), .val (.int p1), .val (.int ((p1 ||| (f 0)) ||| (f 1)))] [(.int (4 : Int32)), (.int p1)]))
      refine own_of (fun _ hh_ => XS.iand X0.here hx rfl (hb hby dG_28) rfl hh_) ?_
      show own_Run p e below s _ _ _ (s₁.setTop (mkF m 29 #[.val (.ref r1), .val (.int p1), .val (.int ((p1 ||| (f 0)) ||| (f 1)))] [(.int (p1 &&& (4 : Int32)))]))
      by_cases hc29_13 : (p1 &&& (4 : Int32)) = (0 : Int32)
      · refine own_of (fun _ hh_ => XS.ifYes X0.here hx rfl (pc0 := 29) (pc' := 38) rfl (hb hby dG_29) rfl ((if0 _ _).trans (teq hc29_13).1) (by decide) (by decide) hh_) ?_
        show own_Run p e below s _ _ _ (s₁.setTop (mkF m 38 #[.val (.ref r1), .val (.int p1), .val (.int ((p1 ||| (f 0)) ||| (f 1)))] []))
        refine own_of (fun _ hh_ => XS.iloadN X0.here hx rfl (hb hby dG_38) rfl hh_) ?_
        show own_Run p e below s _ _ _ (s₁.setTop (mkF m 39 #[.val (.ref r1), .val (.int p1), .val (.int ((p1 ||| (f 0)) ||| (f 1)))] [(.int p1)]))
        refine own_of (fun _ hh_ => XS.bipush X0.here hx rfl (hb hby dG_39) hh_) ?_
        show own_Run p e below s _ _ _ (s₁.setTop (mkF m 41 #[.val (.ref r1), .val (.int p1), .val (.int ((p1 ||| (f 0)) ||| (f 1)))] [(.int (8 : Int32)), (.int p1)]))
        refine own_of (fun _ hh_ => XS.iand X0.here hx rfl (hb hby dG_41) rfl hh_) ?_
        show own_Run p e below s _ _ _ (s₁.setTop (mkF m 42 #[.val (.ref r1), .val (.int p1), .val (.int ((p1 ||| (f 0)) ||| (f 1)))] [(.int (p1 &&& (8 : Int32)))]))
        by_cases hc42_14 : (p1 &&& (8 : Int32)) = (0 : Int32)
        · refine own_of (fun _ hh_ => XS.ifYes X0.here hx rfl (pc0 := 42) (pc' := 51) rfl (hb hby dG_42) rfl ((if0 _ _).trans (teq hc42_14).1) (by decide) (by decide) hh_) ?_
          show own_Run p e below s _ _ _ (s₁.setTop (mkF m 51 #[.val (.ref r1), .val (.int p1), .val (.int ((p1 ||| (f 0)) ||| (f 1)))] []))
          refine own_of (fun _ hh_ => XS.iloadN X0.here hx rfl (hb hby dG_51) rfl hh_) ?_
          show own_Run p e below s _ _ _ (s₁.setTop (mkF m 52 #[.val (.ref r1), .val (.int p1), .val (.int ((p1 ||| (f 0)) ||| (f 1)))] [(.int ((p1 ||| (f 0)) ||| (f 1)))]))
          exact own_retI X0 hx hret hlk (hb hby dG_52) ⟨by unfold own_grI own_g1; rw [if_neg hc5_1, if_neg hc17_9, if_pos hc29_13, if_pos hc42_14], N0, e0⟩ (by decide) (by decide)
        · refine own_of (fun _ hh_ => XS.ifNo X0.here hx rfl (hb hby dG_42) rfl ((if0 _ _).trans (feq hc42_14).1) hh_) ?_
          show own_Run p e below s _ _ _ (s₁.setTop (mkF m 45 #[.val (.ref r1), .val (.int p1), .val (.int ((p1 ||| (f 0)) ||| (f 1)))] []))
          refine own_of (fun _ hh_ => XS.iloadN X0.here hx rfl (hb hby dG_45) rfl hh_) ?_
          show own_Run p e below s _ _ _ (s₁.setTop (mkF m 46 #[.val (.ref r1), .val (.int p1), .val (.int ((p1 ||| (f 0)) ||| (f 1)))] [(.int ((p1 ||| (f 0)) ||| (f 1)))]))
          refine own_of (fun _ hh_ => XS.aloadN X0.here hx rfl (hb hby dG_46) rfl rfl hh_) ?_
          show own_Run p e below s _ _ _ (s₁.setTop (mkF m 47 #[.val (.ref r1), .val (.int p1), .val (.int ((p1 ||| (f 0)) ||| (f 1)))] [(.ref r1), (.int ((p1 ||| (f 0)) ||| (f 1)))]))
          refine own_of (fun _ hh_ => XS.iconst X0.here hx rfl (hb hby dG_47) hh_) ?_
          show own_Run p e below s _ _ _ (s₁.setTop (mkF m 48 #[.val (.ref r1), .val (.int p1), .val (.int ((p1 ||| (f 0)) ||| (f 1)))] [(.int (3 : Int32)), (.ref r1), (.int ((p1 ||| (f 0)) ||| (f 1)))]))
          refine own_ial X0 hx hZ e0 A (j := (3 : Int32)) (w := (f 3)) (by decide) (by decide) rfl (hb hby dG_48) ?_
          show own_Run p e below s _ _ _ (s₁.setTop (mkF m 49 #[.val (.ref r1), .val (.int p1), .val (.int ((p1 ||| (f 0)) ||| (f 1)))] [(.int (f 3)), (.int ((p1 ||| (f 0)) ||| (f 1)))]))
          refine own_of (fun _ hh_ => XS.ior X0.here hx rfl (hb hby dG_49) rfl hh_) ?_
          show own_Run p e below s _ _ _ (s₁.setTop (mkF m 50 #[.val (.ref r1), .val (.int p1), .val (.int ((p1 ||| (f 0)) ||| (f 1)))] [(.int (((p1 ||| (f 0)) ||| (f 1)) ||| (f 3)))]))
          refine own_of (fun _ hh_ => XS.istoreN X0.here hx rfl (hb hby dG_50) rfl (l' := #[.val (.ref r1), .val (.int p1), .val (.int (((p1 ||| (f 0)) ||| (f 1)) ||| (f 3)))]) rfl hh_) ?_
          show own_Run p e below s _ _ _ (s₁.setTop (mkF m 51 #[.val (.ref r1), .val (.int p1), .val (.int (((p1 ||| (f 0)) ||| (f 1)) ||| (f 3)))] []))
          refine own_of (fun _ hh_ => XS.iloadN X0.here hx rfl (hb hby dG_51) rfl hh_) ?_
          show own_Run p e below s _ _ _ (s₁.setTop (mkF m 52 #[.val (.ref r1), .val (.int p1), .val (.int (((p1 ||| (f 0)) ||| (f 1)) ||| (f 3)))] [(.int (((p1 ||| (f 0)) ||| (f 1)) ||| (f 3)))]))
          exact own_retI X0 hx hret hlk (hb hby dG_52) ⟨by unfold own_grI own_g1; rw [if_neg hc5_1, if_neg hc17_9, if_pos hc29_13, if_neg hc42_14], N0, e0⟩ (by decide) (by decide)
      · refine own_of (fun _ hh_ => XS.ifNo X0.here hx rfl (hb hby dG_29) rfl ((if0 _ _).trans (feq hc29_13).1) hh_) ?_
        show own_Run p e below s _ _ _ (s₁.setTop (mkF m 32 #[.val (.ref r1), .val (.int p1), .val (.int ((p1 ||| (f 0)) ||| (f 1)))] []))
        refine own_of (fun _ hh_ => XS.iloadN X0.here hx rfl (hb hby dG_32) rfl hh_) ?_
        show own_Run p e below s _ _ _ (s₁.setTop (mkF m 33 #[.val (.ref r1), .val (.int p1), .val (.int ((p1 ||| (f 0)) ||| (f 1)))] [(.int ((p1 ||| (f 0)) ||| (f 1)))]))
        refine own_of (fun _ hh_ => XS.aloadN X0.here hx rfl (hb hby dG_33) rfl rfl hh_) ?_
        show own_Run p e below s _ _ _ (s₁.setTop (mkF m 34 #[.val (.ref r1), .val (.int p1), .val (.int ((p1 ||| (f 0)) ||| (f 1)))] [(.ref r1), (.int ((p1 ||| (f 0)) ||| (f 1)))]))
        refine own_of (fun _ hh_ => XS.iconst X0.here hx rfl (hb hby dG_34) hh_) ?_
        show own_Run p e below s _ _ _ (s₁.setTop (mkF m 35 #[.val (.ref r1), .val (.int p1), .val (.int ((p1 ||| (f 0)) ||| (f 1)))] [(.int (2 : Int32)), (.ref r1), (.int ((p1 ||| (f 0)) ||| (f 1)))]))
        refine own_ial X0 hx hZ e0 A (j := (2 : Int32)) (w := (f 2)) (by decide) (by decide) rfl (hb hby dG_35) ?_
        show own_Run p e below s _ _ _ (s₁.setTop (mkF m 36 #[.val (.ref r1), .val (.int p1), .val (.int ((p1 ||| (f 0)) ||| (f 1)))] [(.int (f 2)), (.int ((p1 ||| (f 0)) ||| (f 1)))]))
        refine own_of (fun _ hh_ => XS.ior X0.here hx rfl (hb hby dG_36) rfl hh_) ?_
        show own_Run p e below s _ _ _ (s₁.setTop (mkF m 37 #[.val (.ref r1), .val (.int p1), .val (.int ((p1 ||| (f 0)) ||| (f 1)))] [(.int (((p1 ||| (f 0)) ||| (f 1)) ||| (f 2)))]))
        refine own_of (fun _ hh_ => XS.istoreN X0.here hx rfl (hb hby dG_37) rfl (l' := #[.val (.ref r1), .val (.int p1), .val (.int (((p1 ||| (f 0)) ||| (f 1)) ||| (f 2)))]) rfl hh_) ?_
        show own_Run p e below s _ _ _ (s₁.setTop (mkF m 38 #[.val (.ref r1), .val (.int p1), .val (.int (((p1 ||| (f 0)) ||| (f 1)) ||| (f 2)))] []))
        refine own_of (fun _ hh_ => XS.iloadN X0.here hx rfl (hb hby dG_38) rfl hh_) ?_
        show own_Run p e below s _ _ _ (s₁.setTop (mkF m 39 #[.val (.ref r1), .val (.int p1), .val (.int (((p1 ||| (f 0)) ||| (f 1)) ||| (f 2)))] [(.int p1)]))
        refine own_of (fun _ hh_ => XS.bipush X0.here hx rfl (hb hby dG_39) hh_) ?_
        show own_Run p e below s _ _ _ (s₁.setTop (mkF m 41 #[.val (.ref r1), .val (.int p1), .val (.int (((p1 ||| (f 0)) ||| (f 1)) ||| (f 2)))] [(.int (8 : Int32)), (.int p1)]))
        refine own_of (fun _ hh_ => XS.iand X0.here hx rfl (hb hby dG_41) rfl hh_) ?_
        show own_Run p e below s _ _ _ (s₁.setTop (mkF m 42 #[.val (.ref r1), .val (.int p1), .val (.int (((p1 ||| (f 0)) ||| (f 1)) ||| (f 2)))] [(.int (p1 &&& (8 : Int32)))]))
        by_cases hc42_15 : (p1 &&& (8 : Int32)) = (0 : Int32)
        · refine own_of (fun _ hh_ => XS.ifYes X0.here hx rfl (pc0 := 42) (pc' := 51) rfl (hb hby dG_42) rfl ((if0 _ _).trans (teq hc42_15).1) (by decide) (by decide) hh_) ?_
          show own_Run p e below s _ _ _ (s₁.setTop (mkF m 51 #[.val (.ref r1), .val (.int p1), .val (.int (((p1 ||| (f 0)) ||| (f 1)) ||| (f 2)))] []))
          refine own_of (fun _ hh_ => XS.iloadN X0.here hx rfl (hb hby dG_51) rfl hh_) ?_
          show own_Run p e below s _ _ _ (s₁.setTop (mkF m 52 #[.val (.ref r1), .val (.int p1), .val (.int (((p1 ||| (f 0)) ||| (f 1)) ||| (f 2)))] [(.int (((p1 ||| (f 0)) ||| (f 1)) ||| (f 2)))]))
          exact own_retI X0 hx hret hlk (hb hby dG_52) ⟨by unfold own_grI own_g1; rw [if_neg hc5_1, if_neg hc17_9, if_neg hc29_13, if_pos hc42_15], N0, e0⟩ (by decide) (by decide)
        · refine own_of (fun _ hh_ => XS.ifNo X0.here hx rfl (hb hby dG_42) rfl ((if0 _ _).trans (feq hc42_15).1) hh_) ?_
          show own_Run p e below s _ _ _ (s₁.setTop (mkF m 45 #[.val (.ref r1), .val (.int p1), .val (.int (((p1 ||| (f 0)) ||| (f 1)) ||| (f 2)))] []))
          refine own_of (fun _ hh_ => XS.iloadN X0.here hx rfl (hb hby dG_45) rfl hh_) ?_
          show own_Run p e below s _ _ _ (s₁.setTop (mkF m 46 #[.val (.ref r1), .val (.int p1), .val (.int (((p1 ||| (f 0)) ||| (f 1)) ||| (f 2)))] [(.int (((p1 ||| (f 0)) ||| (f 1)) ||| (f 2)))]))
          refine own_of (fun _ hh_ => XS.aloadN X0.here hx rfl (hb hby dG_46) rfl rfl hh_) ?_
          show own_Run p e below s _ _ _ (s₁.setTop (mkF m 47 #[.val (.ref r1), .val (.int p1), .val (.int (((p1 ||| (f 0)) ||| (f 1)) ||| (f 2)))] [(.ref r1), (.int (((p1 ||| (f 0)) ||| (f 1)) ||| (f 2)))]))
          refine own_of (fun _ hh_ => XS.iconst X0.here hx rfl (hb hby dG_47) hh_) ?_
          show own_Run p e below s _ _ _ (s₁.setTop (mkF m 48 #[.val (.ref r1), .val (.int p1), .val (.int (((p1 ||| (f 0)) ||| (f 1)) ||| (f 2)))] [(.int (3 : Int32)), (.ref r1), (.int (((p1 ||| (f 0)) ||| (f 1)) ||| (f 2)))]))
          refine own_ial X0 hx hZ e0 A (j := (3 : Int32)) (w := (f 3)) (by decide) (by decide) rfl (hb hby dG_48) ?_
          show own_Run p e below s _ _ _ (s₁.setTop (mkF m 49 #[.val (.ref r1), .val (.int p1), .val (.int (((p1 ||| (f 0)) ||| (f 1)) ||| (f 2)))] [(.int (f 3)), (.int (((p1 ||| (f 0)) ||| (f 1)) ||| (f 2)))]))
          refine own_of (fun _ hh_ => XS.ior X0.here hx rfl (hb hby dG_49) rfl hh_) ?_
          show own_Run p e below s _ _ _ (s₁.setTop (mkF m 50 #[.val (.ref r1), .val (.int p1), .val (.int (((p1 ||| (f 0)) ||| (f 1)) ||| (f 2)))] [(.int ((((p1 ||| (f 0)) ||| (f 1)) ||| (f 2)) ||| (f 3)))]))
          refine own_of (fun _ hh_ => XS.istoreN X0.here hx rfl (hb hby dG_50) rfl (l' := #[.val (.ref r1), .val (.int p1), .val (.int ((((p1 ||| (f 0)) ||| (f 1)) ||| (f 2)) ||| (f 3)))]) rfl hh_) ?_
          show own_Run p e below s _ _ _ (s₁.setTop (mkF m 51 #[.val (.ref r1), .val (.int p1), .val (.int ((((p1 ||| (f 0)) ||| (f 1)) ||| (f 2)) ||| (f 3)))] []))
          refine own_of (fun _ hh_ => XS.iloadN X0.here hx rfl (hb hby dG_51) rfl hh_) ?_
          show own_Run p e below s _ _ _ (s₁.setTop (mkF m 52 #[.val (.ref r1), .val (.int p1), .val (.int ((((p1 ||| (f 0)) ||| (f 1)) ||| (f 2)) ||| (f 3)))] [(.int ((((p1 ||| (f 0)) ||| (f 1)) ||| (f 2)) ||| (f 3)))]))
          exact own_retI X0 hx hret hlk (hb hby dG_52) ⟨by unfold own_grI own_g1; rw [if_neg hc5_1, if_neg hc17_9, if_neg hc29_13, if_neg hc42_15], N0, e0⟩ (by decide) (by decide)
theorem own_pd0 : parseMethodDescriptor "([II)I" = some ⟨[(.array .int), .int], some .int⟩ := by decide +kernel
theorem dS_0 : decode method_5_code 0 = .ok (.iconst 1, 1) := by decide +kernel
theorem dS_1 : decode method_5_code 1 = .ok (.iload_n 1, 1) := by decide +kernel
theorem dS_2 : decode method_5_code 2 = .ok (.ishl, 1) := by decide +kernel
theorem dS_3 : decode method_5_code 3 = .ok (.istore_n 2, 1) := by decide +kernel
theorem dS_4 : decode method_5_code 4 = .ok (.aload_n 0, 1) := by decide +kernel
theorem dS_5 : decode method_5_code 5 = .ok (.iload_n 2, 1) := by decide +kernel
theorem dS_6 : decode method_5_code 6 = .ok (.invokestatic 30, 3) := by decide +kernel
theorem dS_9 : decode method_5_code 9 = .ok (.istore_n 2, 1) := by decide +kernel
theorem dS_10 : decode method_5_code 10 = .ok (.aload_n 0, 1) := by decide +kernel
theorem dS_11 : decode method_5_code 11 = .ok (.iload_n 2, 1) := by decide +kernel
theorem dS_12 : decode method_5_code 12 = .ok (.invokestatic 30, 3) := by decide +kernel
theorem dS_15 : decode method_5_code 15 = .ok (.istore_n 2, 1) := by decide +kernel
theorem dS_16 : decode method_5_code 16 = .ok (.aload_n 0, 1) := by decide +kernel
theorem dS_17 : decode method_5_code 17 = .ok (.iload_n 2, 1) := by decide +kernel
theorem dS_18 : decode method_5_code 18 = .ok (.invokestatic 30, 3) := by decide +kernel
theorem dS_21 : decode method_5_code 21 = .ok (.istore_n 2, 1) := by decide +kernel
theorem dS_22 : decode method_5_code 22 = .ok (.iload_n 2, 1) := by decide +kernel
theorem dS_23 : decode method_5_code 23 = .ok (.iconst 1, 1) := by decide +kernel
theorem dS_24 : decode method_5_code 24 = .ok (.iand, 1) := by decide +kernel
theorem dS_25 : decode method_5_code 25 = .ok (.ifCond .eq 5, 3) := by decide +kernel
theorem dS_28 : decode method_5_code 28 = .ok (.iconst 0, 1) := by decide +kernel
theorem dS_29 : decode method_5_code 29 = .ok (.ireturn, 1) := by decide +kernel
theorem dS_30 : decode method_5_code 30 = .ok (.iload_n 2, 1) := by decide +kernel
theorem dS_31 : decode method_5_code 31 = .ok (.iconst 2, 1) := by decide +kernel
theorem dS_32 : decode method_5_code 32 = .ok (.iand, 1) := by decide +kernel
theorem dS_33 : decode method_5_code 33 = .ok (.ifCond .eq 5, 3) := by decide +kernel
theorem dS_36 : decode method_5_code 36 = .ok (.iconst 1, 1) := by decide +kernel
theorem dS_37 : decode method_5_code 37 = .ok (.ireturn, 1) := by decide +kernel
theorem dS_38 : decode method_5_code 38 = .ok (.iload_n 2, 1) := by decide +kernel
theorem dS_39 : decode method_5_code 39 = .ok (.iconst 4, 1) := by decide +kernel
theorem dS_40 : decode method_5_code 40 = .ok (.iand, 1) := by decide +kernel
theorem dS_41 : decode method_5_code 41 = .ok (.ifCond .eq 5, 3) := by decide +kernel
theorem dS_44 : decode method_5_code 44 = .ok (.iconst 2, 1) := by decide +kernel
theorem dS_45 : decode method_5_code 45 = .ok (.ireturn, 1) := by decide +kernel
theorem dS_46 : decode method_5_code 46 = .ok (.iconst 3, 1) := by decide +kernel
theorem dS_47 : decode method_5_code 47 = .ok (.ireturn, 1) := by decide +kernel
theorem efS (m : MethodId) (r1 : Addr) (p1 : Int32) : entryFrame m #[(.ref r1), (.int p1)] 3 = mkF m 0 #[.val (.ref r1), .val (.int p1), .unset] [] := by first | (simp [entryFrame, mkF, argsToLocals, Value.category]; done) | rfl
def QS (Z : State) (r1 : Addr) (p1 : Int32) (f : Nat → Int32) (h0 : Heap) (n0 : Nat) (v : Option Value) (h : Heap) (L : List Loc) : Prop := v = some (.int (own_pk (own_grI f (own_grI f (own_grI f ((1 : Int32) <<< (p1 &&& 31))))))) ∧ Fr n0 L ∧ h = h0
set_option maxRecDepth 65536 in
set_option maxHeartbeats 40000000 in
theorem rmS (l : Launch) (Z : State) (a0 : Array Value) (hw : ∀ d ∈ tables_1, d.before a0 Z = true) (ws : List Jvm.Cond) (r1 : Addr) (p1 : Int32) (f : Nat → Int32) (h0 : Heap) (n0 : Nat) (Z0 : n0 ≤ h0.size) (A : own_Ar Z h0 r1 .int 4 f) :
    MetFree l (⟨"com/example/cliquework/cliquework/algorithms/PartitionFindPinLaw", "smallest", "([II)I"⟩ : MethodName) (head1 (Jvm.Cond.code (⟨"com/example/cliquework/cliquework/algorithms/PartitionFindPinLaw", "smallest", "([II)I"⟩ : MethodName) method_5_code 3 (some .int) :: ws) ({ frames := 1, cells := 0, slots := 0, locals := 14 } : Room)) (fun a U => a = #[(.ref r1), (.int p1)] ∧ Z.Warmed39 U.vm ∧ U.heap = h0) (fun _ _ _ _ _ => True) (fun _ U o U' => ∃ v L, o = .returned v ∧ QS Z r1 p1 f h0 n0 v U'.heap L ∧ FrameEnd U o U' L ({ frames := 1, cells := 0, slots := 0, locals := 14 } : Room).cells ({ frames := 1, cells := 0, slots := 0, locals := 14 } : Room).slots) := by
  refine MetFree.of_bodySF (plainFor_of_name own_pn0) hisR ?_
  intro p e s m args below meth c s₁ Bd hml0 hP hK
  obtain ⟨rfl, hZ, hh⟩ := hP
  have hx := Bd.exec
  have hby := Bd.bytes
  have hml : c.maxLocals = 3 := hml0
  have hown : s.vm.findClass "com/example/cliquework/cliquework/algorithms/PartitionFindPinLaw" = some m.cls := findClass_of_methodNamed Bd.named
  have hnm := (name_of_methodNamed Bd.named Bd.method).1
  have hlk := Bd.notSynchronized
  have hret := Bd.returns
  have X0 : Stand p l e ({ frames := 1, cells := 0, slots := 0, locals := 14 } : Room) s m #[(.ref r1), (.int p1)] below meth c s₁ [] 0 0 := Stand.of_body Bd
  have e0 : s₁.heap = h0 := by rw [← hh, Bd.state]; rfl
  have N0 := Fr.nil n0
  show own_Run p e below s 0 0 (QS Z r1 p1 f h0 n0) (s₁.setTop (entryFrame m #[(.ref r1), (.int p1)] 3))
  refine own_cast (efS m r1 p1) ?_
  show own_Run p e below s _ _ _ (s₁.setTop (mkF m 0 #[.val (.ref r1), .val (.int p1), .unset] []))
  refine own_of (fun _ hh_ => XS.iconst X0.here hx rfl (hb hby dS_0) hh_) ?_
  show own_Run p e below s _ _ _ (s₁.setTop (mkF m 1 #[.val (.ref r1), .val (.int p1), .unset] [(.int (1 : Int32))]))
  refine own_of (fun _ hh_ => XS.iloadN X0.here hx rfl (hb hby dS_1) rfl hh_) ?_
  show own_Run p e below s _ _ _ (s₁.setTop (mkF m 2 #[.val (.ref r1), .val (.int p1), .unset] [(.int p1), (.int (1 : Int32))]))
  refine own_of (fun _ hh_ => XS.ishl X0.here hx rfl (hb hby dS_2) rfl hh_) ?_
  show own_Run p e below s _ _ _ (s₁.setTop (mkF m 3 #[.val (.ref r1), .val (.int p1), .unset] [(.int ((1 : Int32) <<< (p1 &&& 31)))]))
  refine own_of (fun _ hh_ => XS.istoreN X0.here hx rfl (hb hby dS_3) rfl (l' := #[.val (.ref r1), .val (.int p1), .val (.int ((1 : Int32) <<< (p1 &&& 31)))]) rfl hh_) ?_
  show own_Run p e below s _ _ _ (s₁.setTop (mkF m 4 #[.val (.ref r1), .val (.int p1), .val (.int ((1 : Int32) <<< (p1 &&& 31)))] []))
  refine own_of (fun _ hh_ => XS.aloadN X0.here hx rfl (hb hby dS_4) rfl rfl hh_) ?_
  show own_Run p e below s _ _ _ (s₁.setTop (mkF m 5 #[.val (.ref r1), .val (.int p1), .val (.int ((1 : Int32) <<< (p1 &&& 31)))] [(.ref r1)]))
  refine own_of (fun _ hh_ => XS.iloadN X0.here hx rfl (hb hby dS_5) rfl hh_) ?_
  show own_Run p e below s _ _ _ (s₁.setTop (mkF m 6 #[.val (.ref r1), .val (.int p1), .val (.int ((1 : Int32) <<< (p1 &&& 31)))] [(.int ((1 : Int32) <<< (p1 &&& 31))), (.ref r1)]))
  obtain ⟨_, _, ⟨T1, L1, k1, n1⟩, -, X1, ⟨Lc1, hQ1, l1, y1, z1⟩, st1⟩ := Jvm.LawKit.callS X0 hx (y := (⟨"com/example/cliquework/cliquework/algorithms/PartitionFindPinLaw", "grow", "([II)I"⟩ : MethodName)) hown (mvT hZ (hw _ (List.mem_of_getElem? (i := 8) rfl))) (mvT hZ (hw _ (List.mem_of_getElem? (i := 9) rfl))) (mvT hZ (hw _ (List.mem_of_getElem? (i := 3) rfl))) (mvT hZ (hw _ (List.mem_of_getElem? (i := 10) rfl))) (by decide) (backOf (W := 0) (rmG l Z a0 hw [] r1 ((1 : Int32) <<< (p1 &&& 31)) f h0 n0 Z0 A) hZ (hw _ (List.mem_of_getElem? (i := 10) rfl)) (hw _ (List.mem_of_getElem? (i := 3) rfl)) (by decide) (by decide)) (g := (mkF m 6 #[.val (.ref r1), .val (.int p1), .val (.int ((1 : Int32) <<< (p1 &&& 31)))] [(.int ((1 : Int32) <<< (p1 &&& 31))), (.ref r1)])) rfl (by rw [hml]; rfl) (argsL := [(.ref r1), (.int ((1 : Int32) <<< (p1 &&& 31)))]) (rest := []) (lenOf own_pd0 rfl) rfl (by show 2 * 0 + _ ≤ _; exact Nat.le_of_eq rfl) (hb hby dS_6) (fun _ _ => ⟨rfl, e0, (by decide : 0 + 0 ≤ _), (by decide : 0 + 0 ≤ _)⟩)
  dsimp only [Pt.U, Pt.locs, Pt.cells, Pt.slots] at X1 l1 y1 z1 st1 hQ1
  subst l1 y1 z1
  obtain ⟨rfl, N1q, e1⟩ := hQ1
  have N1 := Fr.app N0 N1q
  refine own_of st1 ?_
  show own_Run p e below s _ _ _ (T1.setTop (mkF m 9 #[.val (.ref r1), .val (.int p1), .val (.int ((1 : Int32) <<< (p1 &&& 31)))] [(.int (own_grI f ((1 : Int32) <<< (p1 &&& 31))))]))
  refine own_of (fun _ hh_ => XS.istoreN X1.here hx rfl (hb hby dS_9) rfl (l' := #[.val (.ref r1), .val (.int p1), .val (.int (own_grI f ((1 : Int32) <<< (p1 &&& 31))))]) rfl hh_) ?_
  show own_Run p e below s _ _ _ (T1.setTop (mkF m 10 #[.val (.ref r1), .val (.int p1), .val (.int (own_grI f ((1 : Int32) <<< (p1 &&& 31))))] []))
  refine own_of (fun _ hh_ => XS.aloadN X1.here hx rfl (hb hby dS_10) rfl rfl hh_) ?_
  show own_Run p e below s _ _ _ (T1.setTop (mkF m 11 #[.val (.ref r1), .val (.int p1), .val (.int (own_grI f ((1 : Int32) <<< (p1 &&& 31))))] [(.ref r1)]))
  refine own_of (fun _ hh_ => XS.iloadN X1.here hx rfl (hb hby dS_11) rfl hh_) ?_
  show own_Run p e below s _ _ _ (T1.setTop (mkF m 12 #[.val (.ref r1), .val (.int p1), .val (.int (own_grI f ((1 : Int32) <<< (p1 &&& 31))))] [(.int (own_grI f ((1 : Int32) <<< (p1 &&& 31)))), (.ref r1)]))
  obtain ⟨_, _, ⟨T2, L2, k2, n2⟩, -, X2, ⟨Lc2, hQ2, l2, y2, z2⟩, st2⟩ := Jvm.LawKit.callS X1 hx (y := (⟨"com/example/cliquework/cliquework/algorithms/PartitionFindPinLaw", "grow", "([II)I"⟩ : MethodName)) hown (mvT hZ (hw _ (List.mem_of_getElem? (i := 8) rfl))) (mvT hZ (hw _ (List.mem_of_getElem? (i := 9) rfl))) (mvT hZ (hw _ (List.mem_of_getElem? (i := 3) rfl))) (mvT hZ (hw _ (List.mem_of_getElem? (i := 10) rfl))) (by decide) (backOf (W := 0) (rmG l Z a0 hw [] r1 (own_grI f ((1 : Int32) <<< (p1 &&& 31))) f h0 n0 Z0 A) hZ (hw _ (List.mem_of_getElem? (i := 10) rfl)) (hw _ (List.mem_of_getElem? (i := 3) rfl)) (by decide) (by decide)) (g := (mkF m 12 #[.val (.ref r1), .val (.int p1), .val (.int (own_grI f ((1 : Int32) <<< (p1 &&& 31))))] [(.int (own_grI f ((1 : Int32) <<< (p1 &&& 31)))), (.ref r1)])) rfl (by rw [hml]; rfl) (argsL := [(.ref r1), (.int (own_grI f ((1 : Int32) <<< (p1 &&& 31))))]) (rest := []) (lenOf own_pd0 rfl) rfl (by show 2 * 0 + _ ≤ _; exact Nat.le_of_eq rfl) (hb hby dS_12) (fun _ _ => ⟨rfl, e1, (by decide : 0 + 0 ≤ _), (by decide : 0 + 0 ≤ _)⟩)
  dsimp only [Pt.U, Pt.locs, Pt.cells, Pt.slots] at X2 l2 y2 z2 st2 hQ2
  subst l2 y2 z2
  obtain ⟨rfl, N2q, e2⟩ := hQ2
  have N2 := Fr.app N1 N2q
  refine own_of st2 ?_
  show own_Run p e below s _ _ _ (T2.setTop (mkF m 15 #[.val (.ref r1), .val (.int p1), .val (.int (own_grI f ((1 : Int32) <<< (p1 &&& 31))))] [(.int (own_grI f (own_grI f ((1 : Int32) <<< (p1 &&& 31)))))]))
  refine own_of (fun _ hh_ => XS.istoreN X2.here hx rfl (hb hby dS_15) rfl (l' := #[.val (.ref r1), .val (.int p1), .val (.int (own_grI f (own_grI f ((1 : Int32) <<< (p1 &&& 31)))))]) rfl hh_) ?_
  show own_Run p e below s _ _ _ (T2.setTop (mkF m 16 #[.val (.ref r1), .val (.int p1), .val (.int (own_grI f (own_grI f ((1 : Int32) <<< (p1 &&& 31)))))] []))
  refine own_of (fun _ hh_ => XS.aloadN X2.here hx rfl (hb hby dS_16) rfl rfl hh_) ?_
  show own_Run p e below s _ _ _ (T2.setTop (mkF m 17 #[.val (.ref r1), .val (.int p1), .val (.int (own_grI f (own_grI f ((1 : Int32) <<< (p1 &&& 31)))))] [(.ref r1)]))
  refine own_of (fun _ hh_ => XS.iloadN X2.here hx rfl (hb hby dS_17) rfl hh_) ?_
  show own_Run p e below s _ _ _ (T2.setTop (mkF m 18 #[.val (.ref r1), .val (.int p1), .val (.int (own_grI f (own_grI f ((1 : Int32) <<< (p1 &&& 31)))))] [(.int (own_grI f (own_grI f ((1 : Int32) <<< (p1 &&& 31))))), (.ref r1)]))
  obtain ⟨_, _, ⟨T3, L3, k3, n3⟩, -, X3, ⟨Lc3, hQ3, l3, y3, z3⟩, st3⟩ := Jvm.LawKit.callS X2 hx (y := (⟨"com/example/cliquework/cliquework/algorithms/PartitionFindPinLaw", "grow", "([II)I"⟩ : MethodName)) hown (mvT hZ (hw _ (List.mem_of_getElem? (i := 8) rfl))) (mvT hZ (hw _ (List.mem_of_getElem? (i := 9) rfl))) (mvT hZ (hw _ (List.mem_of_getElem? (i := 3) rfl))) (mvT hZ (hw _ (List.mem_of_getElem? (i := 10) rfl))) (by decide) (backOf (W := 0) (rmG l Z a0 hw [] r1 (own_grI f (own_grI f ((1 : Int32) <<< (p1 &&& 31)))) f h0 n0 Z0 A) hZ (hw _ (List.mem_of_getElem? (i := 10) rfl)) (hw _ (List.mem_of_getElem? (i := 3) rfl)) (by decide) (by decide)) (g := (mkF m 18 #[.val (.ref r1), .val (.int p1), .val (.int (own_grI f (own_grI f ((1 : Int32) <<< (p1 &&& 31)))))] [(.int (own_grI f (own_grI f ((1 : Int32) <<< (p1 &&& 31))))), (.ref r1)])) rfl (by rw [hml]; rfl) (argsL := [(.ref r1), (.int (own_grI f (own_grI f ((1 : Int32) <<< (p1 &&& 31)))))]) (rest := []) (lenOf own_pd0 rfl) rfl (by show 2 * 0 + _ ≤ _; exact Nat.le_of_eq rfl) (hb hby dS_18) (fun _ _ => ⟨rfl, e2, (by decide : 0 + 0 ≤ _), (by decide : 0 + 0 ≤ _)⟩)
  dsimp only [Pt.U, Pt.locs, Pt.cells, Pt.slots] at X3 l3 y3 z3 st3 hQ3
  subst l3 y3 z3
  obtain ⟨rfl, N3q, e3⟩ := hQ3
  have N3 := Fr.app N2 N3q
  refine own_of st3 ?_
  show own_Run p e below s _ _ _ (T3.setTop (mkF m 21 #[.val (.ref r1), .val (.int p1), .val (.int (own_grI f (own_grI f ((1 : Int32) <<< (p1 &&& 31)))))] [(.int (own_grI f (own_grI f (own_grI f ((1 : Int32) <<< (p1 &&& 31))))))]))
  generalize hs3 : (own_grI f (own_grI f (own_grI f ((1 : Int32) <<< (p1 &&& 31))))) = s3
  show own_Run p e below s _ _ _ (T3.setTop (mkF m 21 #[.val (.ref r1), .val (.int p1), .val (.int (own_grI f (own_grI f ((1 : Int32) <<< (p1 &&& 31)))))] [(.int s3)]))
  refine own_of (fun _ hh_ => XS.istoreN X3.here hx rfl (hb hby dS_21) rfl (l' := #[.val (.ref r1), .val (.int p1), .val (.int s3)]) rfl hh_) ?_
  show own_Run p e below s _ _ _ (T3.setTop (mkF m 22 #[.val (.ref r1), .val (.int p1), .val (.int s3)] []))
  refine own_of (fun _ hh_ => XS.iloadN X3.here hx rfl (hb hby dS_22) rfl hh_) ?_
  show own_Run p e below s _ _ _ (T3.setTop (mkF m 23 #[.val (.ref r1), .val (.int p1), .val (.int s3)] [(.int s3)]))
  refine own_of (fun _ hh_ => XS.iconst X3.here hx rfl (hb hby dS_23) hh_) ?_
  show own_Run p e below s _ _ _ (T3.setTop (mkF m 24 #[.val (.ref r1), .val (.int p1), .val (.int s3)] [(.int (1 : Int32)), (.int s3)]))
  refine own_of (fun _ hh_ => XS.iand X3.here hx rfl (hb hby dS_24) rfl hh_) ?_
  show own_Run p e below s _ _ _ (T3.setTop (mkF m 25 #[.val (.ref r1), .val (.int p1), .val (.int s3)] [(.int (s3 &&& (1 : Int32)))]))
  by_cases hc25_4 : (s3 &&& (1 : Int32)) = (0 : Int32)
  · refine own_of (fun _ hh_ => XS.ifYes X3.here hx rfl (pc0 := 25) (pc' := 30) rfl (hb hby dS_25) rfl ((if0 _ _).trans (teq hc25_4).1) (by decide) (by decide) hh_) ?_
    show own_Run p e below s _ _ _ (T3.setTop (mkF m 30 #[.val (.ref r1), .val (.int p1), .val (.int s3)] []))
    refine own_of (fun _ hh_ => XS.iloadN X3.here hx rfl (hb hby dS_30) rfl hh_) ?_
    show own_Run p e below s _ _ _ (T3.setTop (mkF m 31 #[.val (.ref r1), .val (.int p1), .val (.int s3)] [(.int s3)]))
    refine own_of (fun _ hh_ => XS.iconst X3.here hx rfl (hb hby dS_31) hh_) ?_
    show own_Run p e below s _ _ _ (T3.setTop (mkF m 32 #[.val (.ref r1), .val (.int p1), .val (.int s3)] [(.int (2 : Int32)), (.int s3)]))
    refine own_of (fun _ hh_ => XS.iand X3.here hx rfl (hb hby dS_32) rfl hh_) ?_
    show own_Run p e below s _ _ _ (T3.setTop (mkF m 33 #[.val (.ref r1), .val (.int p1), .val (.int s3)] [(.int (s3 &&& (2 : Int32)))]))
    by_cases hc33_5 : (s3 &&& (2 : Int32)) = (0 : Int32)
    · refine own_of (fun _ hh_ => XS.ifYes X3.here hx rfl (pc0 := 33) (pc' := 38) rfl (hb hby dS_33) rfl ((if0 _ _).trans (teq hc33_5).1) (by decide) (by decide) hh_) ?_
      show own_Run p e below s _ _ _ (T3.setTop (mkF m 38 #[.val (.ref r1), .val (.int p1), .val (.int s3)] []))
      refine own_of (fun _ hh_ => XS.iloadN X3.here hx rfl (hb hby dS_38) rfl hh_) ?_
      show own_Run p e below s _ _ _ (T3.setTop (mkF m 39 #[.val (.ref r1), .val (.int p1), .val (.int s3)] [(.int s3)]))
      refine own_of (fun _ hh_ => XS.iconst X3.here hx rfl (hb hby dS_39) hh_) ?_
      show own_Run p e below s _ _ _ (T3.setTop (mkF m 40 #[.val (.ref r1), .val (.int p1), .val (.int s3)] [(.int (4 : Int32)), (.int s3)]))
      refine own_of (fun _ hh_ => XS.iand X3.here hx rfl (hb hby dS_40) rfl hh_) ?_
      show own_Run p e below s _ _ _ (T3.setTop (mkF m 41 #[.val (.ref r1), .val (.int p1), .val (.int s3)] [(.int (s3 &&& (4 : Int32)))]))
      by_cases hc41_6 : (s3 &&& (4 : Int32)) = (0 : Int32)
      · refine own_of (fun _ hh_ => XS.ifYes X3.here hx rfl (pc0 := 41) (pc' := 46) rfl (hb hby dS_41) rfl ((if0 _ _).trans (teq hc41_6).1) (by decide) (by decide) hh_) ?_
        show own_Run p e below s _ _ _ (T3.setTop (mkF m 46 #[.val (.ref r1), .val (.int p1), .val (.int s3)] []))
        refine own_of (fun _ hh_ => XS.iconst X3.here hx rfl (hb hby dS_46) hh_) ?_
        show own_Run p e below s _ _ _ (T3.setTop (mkF m 47 #[.val (.ref r1), .val (.int p1), .val (.int s3)] [(.int (3 : Int32))]))
        exact own_retI X3 hx hret hlk (hb hby dS_47) ⟨by rw [hs3]; unfold own_pk; rw [if_pos hc25_4, if_pos hc33_5, if_pos hc41_6], N3, e3⟩ (by decide) (by decide)
      · refine own_of (fun _ hh_ => XS.ifNo X3.here hx rfl (hb hby dS_41) rfl ((if0 _ _).trans (feq hc41_6).1) hh_) ?_
        show own_Run p e below s _ _ _ (T3.setTop (mkF m 44 #[.val (.ref r1), .val (.int p1), .val (.int s3)] []))
        refine own_of (fun _ hh_ => XS.iconst X3.here hx rfl (hb hby dS_44) hh_) ?_
        show own_Run p e below s _ _ _ (T3.setTop (mkF m 45 #[.val (.ref r1), .val (.int p1), .val (.int s3)] [(.int (2 : Int32))]))
        exact own_retI X3 hx hret hlk (hb hby dS_45) ⟨by rw [hs3]; unfold own_pk; rw [if_pos hc25_4, if_pos hc33_5, if_neg hc41_6], N3, e3⟩ (by decide) (by decide)
    · refine own_of (fun _ hh_ => XS.ifNo X3.here hx rfl (hb hby dS_33) rfl ((if0 _ _).trans (feq hc33_5).1) hh_) ?_
      show own_Run p e below s _ _ _ (T3.setTop (mkF m 36 #[.val (.ref r1), .val (.int p1), .val (.int s3)] []))
      refine own_of (fun _ hh_ => XS.iconst X3.here hx rfl (hb hby dS_36) hh_) ?_
      show own_Run p e below s _ _ _ (T3.setTop (mkF m 37 #[.val (.ref r1), .val (.int p1), .val (.int s3)] [(.int (1 : Int32))]))
      exact own_retI X3 hx hret hlk (hb hby dS_37) ⟨by rw [hs3]; unfold own_pk; rw [if_pos hc25_4, if_neg hc33_5], N3, e3⟩ (by decide) (by decide)
  · refine own_of (fun _ hh_ => XS.ifNo X3.here hx rfl (hb hby dS_25) rfl ((if0 _ _).trans (feq hc25_4).1) hh_) ?_
    show own_Run p e below s _ _ _ (T3.setTop (mkF m 28 #[.val (.ref r1), .val (.int p1), .val (.int s3)] []))
    refine own_of (fun _ hh_ => XS.iconst X3.here hx rfl (hb hby dS_28) hh_) ?_
    show own_Run p e below s _ _ _ (T3.setTop (mkF m 29 #[.val (.ref r1), .val (.int p1), .val (.int s3)] [(.int (0 : Int32))]))
    exact own_retI X3 hx hret hlk (hb hby dS_29) ⟨by rw [hs3]; unfold own_pk; rw [if_neg hc25_4], N3, e3⟩ (by decide) (by decide)
theorem own_PR_id {f : Nat → Int32} (h : ∀ i, i < 4 → f i = own_n i) : own_PR f (fun i => i) := ⟨fun i _ => ⟨Nat.le_refl _, rfl⟩, fun i hi => ⟨i, h i hi, Nat.le_refl _, rfl, fun _ => rfl⟩⟩
theorem own_pn1 : plainName "com/example/cliquework/cliquework/algorithms/Partition" = true := by first | (simp [plainName, overriddenIn]; done) | decide +kernel
theorem dI_0 : decode prog_28_method_1_code 0 = .ok (.aload_n 0, 1) := by decide +kernel
theorem dI_1 : decode prog_28_method_1_code 1 = .ok (.invokespecial 1, 3) := by decide +kernel
theorem dI_4 : decode prog_28_method_1_code 4 = .ok (.aload_n 0, 1) := by decide +kernel
theorem dI_5 : decode prog_28_method_1_code 5 = .ok (.iload_n 1, 1) := by decide +kernel
theorem dI_6 : decode prog_28_method_1_code 6 = .ok (.newarray .int, 2) := by decide +kernel
theorem dI_8 : decode prog_28_method_1_code 8 = .ok (.putfield 7, 3) := by decide +kernel
theorem dI_11 : decode prog_28_method_1_code 11 = .ok (.iconst 0, 1) := by decide +kernel
theorem dI_12 : decode prog_28_method_1_code 12 = .ok (.istore_n 2, 1) := by decide +kernel
theorem dI_13 : decode prog_28_method_1_code 13 = .ok (.iload_n 2, 1) := by decide +kernel
theorem dI_14 : decode prog_28_method_1_code 14 = .ok (.iload_n 1, 1) := by decide +kernel
theorem dI_15 : decode prog_28_method_1_code 15 = .ok (.if_icmp .ge 16, 3) := by decide +kernel
theorem dI_18 : decode prog_28_method_1_code 18 = .ok (.aload_n 0, 1) := by decide +kernel
theorem dI_19 : decode prog_28_method_1_code 19 = .ok (.getfield 7, 3) := by decide +kernel
theorem dI_22 : decode prog_28_method_1_code 22 = .ok (.iload_n 2, 1) := by decide +kernel
theorem dI_23 : decode prog_28_method_1_code 23 = .ok (.iload_n 2, 1) := by decide +kernel
theorem dI_24 : decode prog_28_method_1_code 24 = .ok (.iastore, 1) := by decide +kernel
theorem dI_25 : decode prog_28_method_1_code 25 = .ok (.iinc 2 1, 3) := by decide +kernel
theorem dI_28 : decode prog_28_method_1_code 28 = .ok (.goto (-15), 3) := by decide +kernel
theorem dI_31 : decode prog_28_method_1_code 31 = .ok (.return_, 1) := by decide +kernel
theorem efI (m : MethodId) (t1 : Addr) (p1 : Int32) : entryFrame m #[(.ref t1), (.int p1)] 3 = mkF m 0 #[.val (.ref t1), .val (.int p1), .unset] [] := by first | (simp [entryFrame, mkF, argsToLocals, Value.category]; done) | rfl
def QI (Z : State) (t1 : Addr) (p1 : Int32) (h0 : Heap) (n0 : Nat) (v : Option Value) (h : Heap) (L : List Loc) : Prop := v = none ∧ Fr n0 L ∧ Keep h0 h [t1] ∧ ∃ (r : Addr) (f : Nat → Int32), h0.size ≤ r ∧ Fld Z h t1 "com/example/cliquework/cliquework/algorithms/Partition" "parent" "[I" (.ref r) ∧ own_Ar Z h r .int 4 f ∧ own_PR f (fun i => i)
set_option maxRecDepth 65536 in
set_option maxHeartbeats 40000000 in
theorem rmI (l : Launch) (Z : State) (a0 : Array Value) (hw : ∀ d ∈ tables_1, d.before a0 Z = true) (ws : List Jvm.Cond) (t1 : Addr) (p1 : Int32) (h0 : Heap) (n0 : Nat) (Z0 : n0 ≤ h0.size) (hp4 : p1 = (4 : Int32)) (Ex : Exa Z h0 t1 "com/example/cliquework/cliquework/algorithms/Partition") (Fp : Fld Z h0 t1 "com/example/cliquework/cliquework/algorithms/Partition" "parent" "[I" .null) (g_t1 : n0 ≤ t1) :
    MetFree l (⟨"com/example/cliquework/cliquework/algorithms/Partition", "<init>", "(I)V"⟩ : MethodName) (head1 (Jvm.Cond.code (⟨"com/example/cliquework/cliquework/algorithms/Partition", "<init>", "(I)V"⟩ : MethodName) prog_28_method_1_code 3 none :: ws) ({ frames := 1, cells := 1, slots := 4, locals := 12 } : Room)) (fun a U => a = #[(.ref t1), (.int p1)] ∧ Z.Warmed39 U.vm ∧ U.heap = h0) (fun _ _ _ _ _ => True) (fun _ U o U' => ∃ v L, o = .returned v ∧ QI Z t1 p1 h0 n0 v U'.heap L ∧ FrameEnd U o U' L ({ frames := 1, cells := 1, slots := 4, locals := 12 } : Room).cells ({ frames := 1, cells := 1, slots := 4, locals := 12 } : Room).slots) := by
  refine MetFree.of_bodySF (plainFor_of_name own_pn1) hisR ?_
  intro p e s m args below meth c s₁ Bd hml0 hP hK
  obtain ⟨rfl, hZ, hh⟩ := hP
  have hx := Bd.exec
  have hby := Bd.bytes
  have hml : c.maxLocals = 3 := hml0
  have hown : s.vm.findClass "com/example/cliquework/cliquework/algorithms/Partition" = some m.cls := findClass_of_methodNamed Bd.named
  have hnm := (name_of_methodNamed Bd.named Bd.method).1
  have hlk := Bd.notSynchronized
  have hret := Bd.returns
  have X0 : Stand p l e ({ frames := 1, cells := 1, slots := 4, locals := 12 } : Room) s m #[(.ref t1), (.int p1)] below meth c s₁ [] 0 0 := Stand.of_body Bd
  have e0 : s₁.heap = h0 := by rw [← hh, Bd.state]; rfl
  have N0 := Fr.nil n0
  have K0 : Keep h0 h0 [t1] := Keep.refl _ _
  show own_Run p e below s 1 4 (QI Z t1 p1 h0 n0) (s₁.setTop (entryFrame m #[(.ref t1), (.int p1)] 3))
  refine own_cast (efI m t1 p1) ?_
  subst hp4
  show own_Run p e below s _ _ _ (s₁.setTop (mkF m 0 #[.val (.ref t1), .val (.int (4 : Int32)), .unset] []))
  refine own_of (fun _ hh_ => XS.aloadN X0.here hx rfl (hb hby dI_0) rfl rfl hh_) ?_
  show own_Run p e below s _ _ _ (s₁.setTop (mkF m 1 #[.val (.ref t1), .val (.int (4 : Int32)), .unset] [(.ref t1)]))
  obtain ⟨T1, X1, e1, st1⟩ := initO X0 hx hZ hown (hw _ (List.mem_of_getElem? (i := 17) rfl)) (hw _ (List.mem_of_getElem? (i := 18) rfl)) (hw _ (List.mem_of_getElem? (i := 19) rfl)) e0 (g := (mkF m 1 #[.val (.ref t1), .val (.int (4 : Int32)), .unset] [(.ref t1)])) rfl (by rw [hml]; rfl) rfl (hb hby dI_1) (by decide) (W := 0) (by show 2 * 0 + _ ≤ _; exact Nat.le_of_eq rfl) (by decide)
  refine own_of st1 ?_
  show own_Run p e below s _ _ _ (T1.setTop (mkF m 4 #[.val (.ref t1), .val (.int (4 : Int32)), .unset] []))
  refine own_of (fun _ hh_ => XS.aloadN X1.here hx rfl (hb hby dI_4) rfl rfl hh_) ?_
  show own_Run p e below s _ _ _ (T1.setTop (mkF m 5 #[.val (.ref t1), .val (.int (4 : Int32)), .unset] [(.ref t1)]))
  refine own_of (fun _ hh_ => XS.iloadN X1.here hx rfl (hb hby dI_5) rfl hh_) ?_
  show own_Run p e below s _ _ _ (T1.setTop (mkF m 6 #[.val (.ref t1), .val (.int (4 : Int32)), .unset] [(.int (4 : Int32)), (.ref t1)]))
  obtain ⟨T2, h2, k2, X2, e2, E2, A2, st2⟩ := newP X1 hx hZ (hw _ (List.mem_of_getElem? (i := 0) rfl)) e1 (g := (mkF m 6 #[.val (.ref t1), .val (.int (4 : Int32)), .unset] [(.int (4 : Int32)), (.ref t1)])) rfl (hb hby dI_6) rfl (by decide) (cap := 4) (by decide) (by decide) (by decide) (by decide)
  obtain ⟨ob2, g2⟩ : ∃ z, z = h0.size := ⟨_, rfl⟩
  rw [← g2] at A2 st2
  have ne_t1_ob2 : t1 ≠ ob2 := Nat.ne_of_lt (Nat.lt_of_lt_of_le Ex.lt (Nat.le_of_eq g2.symm))
  have g_ob2 : n0 ≤ ob2 := Nat.le_trans Z0 (Nat.le_of_eq g2.symm)
  have sz_ob2 : h0.size ≤ ob2 := Nat.le_trans K0.1 (Nat.le_of_eq g2.symm)
  have f3 := Ex.ext E2
  have f4 := Fp.ext E2
  have K5 := K0.ext E2
  have V2 : own_Ar Z h2 ob2 .int 4 (fun _ => 0) := own_Ar.new A2 rfl rfl
  refine own_of st2 ?_
  show own_Run p e below s _ _ _ (T2.setTop (mkF m 8 #[.val (.ref t1), .val (.int (4 : Int32)), .unset] [(.ref ob2), (.ref t1)]))
  obtain ⟨T6, h6, X6, e6, W6, st6⟩ := putF X2 hx hZ hown (host := "") (Or.inl (hw _ (List.mem_of_getElem? (i := 20) rfl))) Via.refl e2 f4 f3 (Or.inr ⟨(hw _ (List.mem_of_getElem? (i := 21) rfl)), rfl, hnm⟩) (hw _ (List.mem_of_getElem? (i := 12) rfl)) (ty := (.array .int)) (by decide) rfl rfl (g := (mkF m 8 #[.val (.ref t1), .val (.int (4 : Int32)), .unset] [(.ref ob2), (.ref t1)])) rfl rfl (hb hby dI_8)
  have f6 := f4.same W6
  have N6 := Fr.snoc X6 N0 g_t1
  have f7 := f3.wr W6
  have f8 := V2.other W6 (Ne.symm ne_t1_ob2)
  have K9 := K5.wr W6 (Or.inl (List.mem_of_getElem? (i := 0) rfl))
  refine own_of st6 ?_
  show own_Run p e below s _ _ _ (T6.setTop (mkF m 11 #[.val (.ref t1), .val (.int (4 : Int32)), .unset] []))
  refine own_of (fun _ hh_ => XS.iconst X6.here hx rfl (hb hby dI_11) hh_) ?_
  show own_Run p e below s _ _ _ (T6.setTop (mkF m 12 #[.val (.ref t1), .val (.int (4 : Int32)), .unset] [(.int (0 : Int32))]))
  refine own_of (fun _ hh_ => XS.istoreN X6.here hx rfl (hb hby dI_12) rfl (l' := #[.val (.ref t1), .val (.int (4 : Int32)), .val (.int (0 : Int32))]) rfl hh_) ?_
  show own_Run p e below s _ _ _ (T6.setTop (mkF m 13 #[.val (.ref t1), .val (.int (4 : Int32)), .val (.int (0 : Int32))] []))
  refine own_of (fun _ hh_ => XS.iloadN X6.here hx rfl (hb hby dI_13) rfl hh_) ?_
  show own_Run p e below s _ _ _ (T6.setTop (mkF m 14 #[.val (.ref t1), .val (.int (4 : Int32)), .val (.int (0 : Int32))] [(.int (0 : Int32))]))
  refine own_of (fun _ hh_ => XS.iloadN X6.here hx rfl (hb hby dI_14) rfl hh_) ?_
  show own_Run p e below s _ _ _ (T6.setTop (mkF m 15 #[.val (.ref t1), .val (.int (4 : Int32)), .val (.int (0 : Int32))] [(.int (4 : Int32)), (.int (0 : Int32))]))
  refine own_of (fun _ hh_ => XS.icmpNo X6.here hx rfl (hb hby dI_15) rfl (by decide) hh_) ?_
  show own_Run p e below s _ _ _ (T6.setTop (mkF m 18 #[.val (.ref t1), .val (.int (4 : Int32)), .val (.int (0 : Int32))] []))
  refine own_of (fun _ hh_ => XS.aloadN X6.here hx rfl (hb hby dI_18) rfl rfl hh_) ?_
  show own_Run p e below s _ _ _ (T6.setTop (mkF m 19 #[.val (.ref t1), .val (.int (4 : Int32)), .val (.int (0 : Int32))] [(.ref t1)]))
  obtain ⟨T10, X10, e10, st10⟩ := getF X6 hx hZ hown (host := "") (Or.inl (hw _ (List.mem_of_getElem? (i := 20) rfl))) Via.refl e6 f6 (g := (mkF m 19 #[.val (.ref t1), .val (.int (4 : Int32)), .val (.int (0 : Int32))] [(.ref t1)])) rfl rfl (hb hby dI_19)
  refine own_of st10 ?_
  show own_Run p e below s _ _ _ (T10.setTop (mkF m 22 #[.val (.ref t1), .val (.int (4 : Int32)), .val (.int (0 : Int32))] [(.ref ob2)]))
  refine own_of (fun _ hh_ => XS.iloadN X10.here hx rfl (hb hby dI_22) rfl hh_) ?_
  show own_Run p e below s _ _ _ (T10.setTop (mkF m 23 #[.val (.ref t1), .val (.int (4 : Int32)), .val (.int (0 : Int32))] [(.int (0 : Int32)), (.ref ob2)]))
  refine own_of (fun _ hh_ => XS.iloadN X10.here hx rfl (hb hby dI_23) rfl hh_) ?_
  show own_Run p e below s _ _ _ (T10.setTop (mkF m 24 #[.val (.ref t1), .val (.int (4 : Int32)), .val (.int (0 : Int32))] [(.int (0 : Int32)), (.int (0 : Int32)), (.ref ob2)]))
  obtain ⟨T11, h11, X11, e11, W11, V11, st11⟩ := own_ias X10 hx hZ e10 f8 (j := (0 : Int32)) (x := (0 : Int32)) (by decide) (by decide) (pc := 24) (Ls := #[.val (.ref t1), .val (.int (4 : Int32)), .val (.int (0 : Int32))]) (rest := []) (hb hby dI_24)
  have N11 := Fr.snoc X11 N6 g_ob2
  have f12 := f7.wr W11
  have f13 := f6.other W11 (Or.inl ne_t1_ob2)
  have K14 := K9.wr W11 (Or.inr sz_ob2)
  replace V11 : own_Ar Z h11 ob2 .int 4 (own_up (fun _ => 0) 0 (0 : Int32)) := V11
  refine own_of st11 ?_
  show own_Run p e below s _ _ _ (T11.setTop (mkF m 25 #[.val (.ref t1), .val (.int (4 : Int32)), .val (.int (0 : Int32))] []))
  refine own_of (fun _ hh_ => XS.iinc X11.here hx rfl (hb hby dI_25) rfl (l' := #[.val (.ref t1), .val (.int (4 : Int32)), .val (.int (1 : Int32))]) rfl hh_) ?_
  show own_Run p e below s _ _ _ (T11.setTop (mkF m 28 #[.val (.ref t1), .val (.int (4 : Int32)), .val (.int (1 : Int32))] []))
  refine own_of (fun _ hh_ => XS.goto X11.here hx rfl (pc0 := 28) (pc' := 13) rfl (hb hby dI_28) (by decide) (by decide) hh_) ?_
  show own_Run p e below s _ _ _ (T11.setTop (mkF m 13 #[.val (.ref t1), .val (.int (4 : Int32)), .val (.int (1 : Int32))] []))
  refine own_of (fun _ hh_ => XS.iloadN X11.here hx rfl (hb hby dI_13) rfl hh_) ?_
  show own_Run p e below s _ _ _ (T11.setTop (mkF m 14 #[.val (.ref t1), .val (.int (4 : Int32)), .val (.int (1 : Int32))] [(.int (1 : Int32))]))
  refine own_of (fun _ hh_ => XS.iloadN X11.here hx rfl (hb hby dI_14) rfl hh_) ?_
  show own_Run p e below s _ _ _ (T11.setTop (mkF m 15 #[.val (.ref t1), .val (.int (4 : Int32)), .val (.int (1 : Int32))] [(.int (4 : Int32)), (.int (1 : Int32))]))
  refine own_of (fun _ hh_ => XS.icmpNo X11.here hx rfl (hb hby dI_15) rfl (by decide) hh_) ?_
  show own_Run p e below s _ _ _ (T11.setTop (mkF m 18 #[.val (.ref t1), .val (.int (4 : Int32)), .val (.int (1 : Int32))] []))
  refine own_of (fun _ hh_ => XS.aloadN X11.here hx rfl (hb hby dI_18) rfl rfl hh_) ?_
  show own_Run p e below s _ _ _ (T11.setTop (mkF m 19 #[.val (.ref t1), .val (.int (4 : Int32)), .val (.int (1 : Int32))] [(.ref t1)]))
  obtain ⟨T15, X15, e15, st15⟩ := getF X11 hx hZ hown (host := "") (Or.inl (hw _ (List.mem_of_getElem? (i := 20) rfl))) Via.refl e11 f13 (g := (mkF m 19 #[.val (.ref t1), .val (.int (4 : Int32)), .val (.int (1 : Int32))] [(.ref t1)])) rfl rfl (hb hby dI_19)
  refine own_of st15 ?_
  show own_Run p e below s _ _ _ (T15.setTop (mkF m 22 #[.val (.ref t1), .val (.int (4 : Int32)), .val (.int (1 : Int32))] [(.ref ob2)]))
  refine own_of (fun _ hh_ => XS.iloadN X15.here hx rfl (hb hby dI_22) rfl hh_) ?_
  show own_Run p e below s _ _ _ (T15.setTop (mkF m 23 #[.val (.ref t1), .val (.int (4 : Int32)), .val (.int (1 : Int32))] [(.int (1 : Int32)), (.ref ob2)]))
  refine own_of (fun _ hh_ => XS.iloadN X15.here hx rfl (hb hby dI_23) rfl hh_) ?_
  show own_Run p e below s _ _ _ (T15.setTop (mkF m 24 #[.val (.ref t1), .val (.int (4 : Int32)), .val (.int (1 : Int32))] [(.int (1 : Int32)), (.int (1 : Int32)), (.ref ob2)]))
  obtain ⟨T16, h16, X16, e16, W16, V16, st16⟩ := own_ias X15 hx hZ e15 V11 (j := (1 : Int32)) (x := (1 : Int32)) (by decide) (by decide) (pc := 24) (Ls := #[.val (.ref t1), .val (.int (4 : Int32)), .val (.int (1 : Int32))]) (rest := []) (hb hby dI_24)
  have N16 := Fr.snoc X16 N11 g_ob2
  have f17 := f12.wr W16
  have f18 := f13.other W16 (Or.inl ne_t1_ob2)
  have K19 := K14.wr W16 (Or.inr sz_ob2)
  replace V16 : own_Ar Z h16 ob2 .int 4 (own_up (own_up (fun _ => 0) 0 (0 : Int32)) 1 (1 : Int32)) := V16
  refine own_of st16 ?_
  show own_Run p e below s _ _ _ (T16.setTop (mkF m 25 #[.val (.ref t1), .val (.int (4 : Int32)), .val (.int (1 : Int32))] []))
  refine own_of (fun _ hh_ => XS.iinc X16.here hx rfl (hb hby dI_25) rfl (l' := #[.val (.ref t1), .val (.int (4 : Int32)), .val (.int (2 : Int32))]) rfl hh_) ?_
  show own_Run p e below s _ _ _ (T16.setTop (mkF m 28 #[.val (.ref t1), .val (.int (4 : Int32)), .val (.int (2 : Int32))] []))
  refine own_of (fun _ hh_ => XS.goto X16.here hx rfl (pc0 := 28) (pc' := 13) rfl (hb hby dI_28) (by decide) (by decide) hh_) ?_
  show own_Run p e below s _ _ _ (T16.setTop (mkF m 13 #[.val (.ref t1), .val (.int (4 : Int32)), .val (.int (2 : Int32))] []))
  refine own_of (fun _ hh_ => XS.iloadN X16.here hx rfl (hb hby dI_13) rfl hh_) ?_
  show own_Run p e below s _ _ _ (T16.setTop (mkF m 14 #[.val (.ref t1), .val (.int (4 : Int32)), .val (.int (2 : Int32))] [(.int (2 : Int32))]))
  refine own_of (fun _ hh_ => XS.iloadN X16.here hx rfl (hb hby dI_14) rfl hh_) ?_
  show own_Run p e below s _ _ _ (T16.setTop (mkF m 15 #[.val (.ref t1), .val (.int (4 : Int32)), .val (.int (2 : Int32))] [(.int (4 : Int32)), (.int (2 : Int32))]))
  refine own_of (fun _ hh_ => XS.icmpNo X16.here hx rfl (hb hby dI_15) rfl (by decide) hh_) ?_
  show own_Run p e below s _ _ _ (T16.setTop (mkF m 18 #[.val (.ref t1), .val (.int (4 : Int32)), .val (.int (2 : Int32))] []))
  refine own_of (fun _ hh_ => XS.aloadN X16.here hx rfl (hb hby dI_18) rfl rfl hh_) ?_
  show own_Run p e below s _ _ _ (T16.setTop (mkF m 19 #[.val (.ref t1), .val (.int (4 : Int32)), .val (.int (2 : Int32))] [(.ref t1)]))
  obtain ⟨T20, X20, e20, st20⟩ := getF X16 hx hZ hown (host := "") (Or.inl (hw _ (List.mem_of_getElem? (i := 20) rfl))) Via.refl e16 f18 (g := (mkF m 19 #[.val (.ref t1), .val (.int (4 : Int32)), .val (.int (2 : Int32))] [(.ref t1)])) rfl rfl (hb hby dI_19)
  refine own_of st20 ?_
  show own_Run p e below s _ _ _ (T20.setTop (mkF m 22 #[.val (.ref t1), .val (.int (4 : Int32)), .val (.int (2 : Int32))] [(.ref ob2)]))
  refine own_of (fun _ hh_ => XS.iloadN X20.here hx rfl (hb hby dI_22) rfl hh_) ?_
  show own_Run p e below s _ _ _ (T20.setTop (mkF m 23 #[.val (.ref t1), .val (.int (4 : Int32)), .val (.int (2 : Int32))] [(.int (2 : Int32)), (.ref ob2)]))
  refine own_of (fun _ hh_ => XS.iloadN X20.here hx rfl (hb hby dI_23) rfl hh_) ?_
  show own_Run p e below s _ _ _ (T20.setTop (mkF m 24 #[.val (.ref t1), .val (.int (4 : Int32)), .val (.int (2 : Int32))] [(.int (2 : Int32)), (.int (2 : Int32)), (.ref ob2)]))
  obtain ⟨T21, h21, X21, e21, W21, V21, st21⟩ := own_ias X20 hx hZ e20 V16 (j := (2 : Int32)) (x := (2 : Int32)) (by decide) (by decide) (pc := 24) (Ls := #[.val (.ref t1), .val (.int (4 : Int32)), .val (.int (2 : Int32))]) (rest := []) (hb hby dI_24)
  have N21 := Fr.snoc X21 N16 g_ob2
  have f22 := f17.wr W21
  have f23 := f18.other W21 (Or.inl ne_t1_ob2)
  have K24 := K19.wr W21 (Or.inr sz_ob2)
  replace V21 : own_Ar Z h21 ob2 .int 4 (own_up (own_up (own_up (fun _ => 0) 0 (0 : Int32)) 1 (1 : Int32)) 2 (2 : Int32)) := V21
  refine own_of st21 ?_
  show own_Run p e below s _ _ _ (T21.setTop (mkF m 25 #[.val (.ref t1), .val (.int (4 : Int32)), .val (.int (2 : Int32))] []))
  refine own_of (fun _ hh_ => XS.iinc X21.here hx rfl (hb hby dI_25) rfl (l' := #[.val (.ref t1), .val (.int (4 : Int32)), .val (.int (3 : Int32))]) rfl hh_) ?_
  show own_Run p e below s _ _ _ (T21.setTop (mkF m 28 #[.val (.ref t1), .val (.int (4 : Int32)), .val (.int (3 : Int32))] []))
  refine own_of (fun _ hh_ => XS.goto X21.here hx rfl (pc0 := 28) (pc' := 13) rfl (hb hby dI_28) (by decide) (by decide) hh_) ?_
  show own_Run p e below s _ _ _ (T21.setTop (mkF m 13 #[.val (.ref t1), .val (.int (4 : Int32)), .val (.int (3 : Int32))] []))
  refine own_of (fun _ hh_ => XS.iloadN X21.here hx rfl (hb hby dI_13) rfl hh_) ?_
  show own_Run p e below s _ _ _ (T21.setTop (mkF m 14 #[.val (.ref t1), .val (.int (4 : Int32)), .val (.int (3 : Int32))] [(.int (3 : Int32))]))
  refine own_of (fun _ hh_ => XS.iloadN X21.here hx rfl (hb hby dI_14) rfl hh_) ?_
  show own_Run p e below s _ _ _ (T21.setTop (mkF m 15 #[.val (.ref t1), .val (.int (4 : Int32)), .val (.int (3 : Int32))] [(.int (4 : Int32)), (.int (3 : Int32))]))
  refine own_of (fun _ hh_ => XS.icmpNo X21.here hx rfl (hb hby dI_15) rfl (by decide) hh_) ?_
  show own_Run p e below s _ _ _ (T21.setTop (mkF m 18 #[.val (.ref t1), .val (.int (4 : Int32)), .val (.int (3 : Int32))] []))
  refine own_of (fun _ hh_ => XS.aloadN X21.here hx rfl (hb hby dI_18) rfl rfl hh_) ?_
  show own_Run p e below s _ _ _ (T21.setTop (mkF m 19 #[.val (.ref t1), .val (.int (4 : Int32)), .val (.int (3 : Int32))] [(.ref t1)]))
  obtain ⟨T25, X25, e25, st25⟩ := getF X21 hx hZ hown (host := "") (Or.inl (hw _ (List.mem_of_getElem? (i := 20) rfl))) Via.refl e21 f23 (g := (mkF m 19 #[.val (.ref t1), .val (.int (4 : Int32)), .val (.int (3 : Int32))] [(.ref t1)])) rfl rfl (hb hby dI_19)
  refine own_of st25 ?_
  show own_Run p e below s _ _ _ (T25.setTop (mkF m 22 #[.val (.ref t1), .val (.int (4 : Int32)), .val (.int (3 : Int32))] [(.ref ob2)]))
  refine own_of (fun _ hh_ => XS.iloadN X25.here hx rfl (hb hby dI_22) rfl hh_) ?_
  show own_Run p e below s _ _ _ (T25.setTop (mkF m 23 #[.val (.ref t1), .val (.int (4 : Int32)), .val (.int (3 : Int32))] [(.int (3 : Int32)), (.ref ob2)]))
  refine own_of (fun _ hh_ => XS.iloadN X25.here hx rfl (hb hby dI_23) rfl hh_) ?_
  show own_Run p e below s _ _ _ (T25.setTop (mkF m 24 #[.val (.ref t1), .val (.int (4 : Int32)), .val (.int (3 : Int32))] [(.int (3 : Int32)), (.int (3 : Int32)), (.ref ob2)]))
  obtain ⟨T26, h26, X26, e26, W26, V26, st26⟩ := own_ias X25 hx hZ e25 V21 (j := (3 : Int32)) (x := (3 : Int32)) (by decide) (by decide) (pc := 24) (Ls := #[.val (.ref t1), .val (.int (4 : Int32)), .val (.int (3 : Int32))]) (rest := []) (hb hby dI_24)
  have N26 := Fr.snoc X26 N21 g_ob2
  have f27 := f22.wr W26
  have f28 := f23.other W26 (Or.inl ne_t1_ob2)
  have K29 := K24.wr W26 (Or.inr sz_ob2)
  replace V26 : own_Ar Z h26 ob2 .int 4 (own_up (own_up (own_up (own_up (fun _ => 0) 0 (0 : Int32)) 1 (1 : Int32)) 2 (2 : Int32)) 3 (3 : Int32)) := V26
  refine own_of st26 ?_
  show own_Run p e below s _ _ _ (T26.setTop (mkF m 25 #[.val (.ref t1), .val (.int (4 : Int32)), .val (.int (3 : Int32))] []))
  refine own_of (fun _ hh_ => XS.iinc X26.here hx rfl (hb hby dI_25) rfl (l' := #[.val (.ref t1), .val (.int (4 : Int32)), .val (.int (4 : Int32))]) rfl hh_) ?_
  show own_Run p e below s _ _ _ (T26.setTop (mkF m 28 #[.val (.ref t1), .val (.int (4 : Int32)), .val (.int (4 : Int32))] []))
  refine own_of (fun _ hh_ => XS.goto X26.here hx rfl (pc0 := 28) (pc' := 13) rfl (hb hby dI_28) (by decide) (by decide) hh_) ?_
  show own_Run p e below s _ _ _ (T26.setTop (mkF m 13 #[.val (.ref t1), .val (.int (4 : Int32)), .val (.int (4 : Int32))] []))
  refine own_of (fun _ hh_ => XS.iloadN X26.here hx rfl (hb hby dI_13) rfl hh_) ?_
  show own_Run p e below s _ _ _ (T26.setTop (mkF m 14 #[.val (.ref t1), .val (.int (4 : Int32)), .val (.int (4 : Int32))] [(.int (4 : Int32))]))
  refine own_of (fun _ hh_ => XS.iloadN X26.here hx rfl (hb hby dI_14) rfl hh_) ?_
  show own_Run p e below s _ _ _ (T26.setTop (mkF m 15 #[.val (.ref t1), .val (.int (4 : Int32)), .val (.int (4 : Int32))] [(.int (4 : Int32)), (.int (4 : Int32))]))
  refine own_of (fun _ hh_ => XS.icmpYes X26.here hx rfl (pc0 := 15) (pc' := 31) rfl (hb hby dI_15) rfl (by decide) (by decide) (by decide) hh_) ?_
  show own_Run p e below s _ _ _ (T26.setTop (mkF m 31 #[.val (.ref t1), .val (.int (4 : Int32)), .val (.int (4 : Int32))] []))
  exact own_retV X26 hx hret hlk (hb hby dI_31) (by rw [e26]; exact ⟨rfl, N26, K29, ob2, _, sz_ob2, f28, V26, own_PR_id (by decide +kernel)⟩) (by decide) (by decide)
theorem dF_0 : decode prog_28_method_2_code 0 = .ok (.iload_n 1, 1) := by decide +kernel
theorem dF_1 : decode prog_28_method_2_code 1 = .ok (.istore_n 2, 1) := by decide +kernel
theorem dF_2 : decode prog_28_method_2_code 2 = .ok (.aload_n 0, 1) := by decide +kernel
theorem dF_3 : decode prog_28_method_2_code 3 = .ok (.getfield 7, 3) := by decide +kernel
theorem dF_6 : decode prog_28_method_2_code 6 = .ok (.iload_n 2, 1) := by decide +kernel
theorem dF_7 : decode prog_28_method_2_code 7 = .ok (.iaload, 1) := by decide +kernel
theorem dF_8 : decode prog_28_method_2_code 8 = .ok (.iload_n 2, 1) := by decide +kernel
theorem dF_9 : decode prog_28_method_2_code 9 = .ok (.if_icmp .eq 30, 3) := by decide +kernel
theorem dF_12 : decode prog_28_method_2_code 12 = .ok (.aload_n 0, 1) := by decide +kernel
theorem dF_13 : decode prog_28_method_2_code 13 = .ok (.getfield 7, 3) := by decide +kernel
theorem dF_16 : decode prog_28_method_2_code 16 = .ok (.iload_n 2, 1) := by decide +kernel
theorem dF_17 : decode prog_28_method_2_code 17 = .ok (.aload_n 0, 1) := by decide +kernel
theorem dF_18 : decode prog_28_method_2_code 18 = .ok (.getfield 7, 3) := by decide +kernel
theorem dF_21 : decode prog_28_method_2_code 21 = .ok (.aload_n 0, 1) := by decide +kernel
theorem dF_22 : decode prog_28_method_2_code 22 = .ok (.getfield 7, 3) := by decide +kernel
theorem dF_25 : decode prog_28_method_2_code 25 = .ok (.iload_n 2, 1) := by decide +kernel
theorem dF_26 : decode prog_28_method_2_code 26 = .ok (.iaload, 1) := by decide +kernel
theorem dF_27 : decode prog_28_method_2_code 27 = .ok (.iaload, 1) := by decide +kernel
theorem dF_28 : decode prog_28_method_2_code 28 = .ok (.iastore, 1) := by decide +kernel
theorem dF_29 : decode prog_28_method_2_code 29 = .ok (.aload_n 0, 1) := by decide +kernel
theorem dF_30 : decode prog_28_method_2_code 30 = .ok (.getfield 7, 3) := by decide +kernel
theorem dF_33 : decode prog_28_method_2_code 33 = .ok (.iload_n 2, 1) := by decide +kernel
theorem dF_34 : decode prog_28_method_2_code 34 = .ok (.iaload, 1) := by decide +kernel
theorem dF_35 : decode prog_28_method_2_code 35 = .ok (.istore_n 2, 1) := by decide +kernel
theorem dF_36 : decode prog_28_method_2_code 36 = .ok (.goto (-34), 3) := by decide +kernel
theorem dF_39 : decode prog_28_method_2_code 39 = .ok (.iload_n 2, 1) := by decide +kernel
theorem dF_40 : decode prog_28_method_2_code 40 = .ok (.ireturn, 1) := by decide +kernel
theorem efF (m : MethodId) (t1 : Addr) (p1 : Int32) : entryFrame m #[(.ref t1), (.int p1)] 3 = mkF m 0 #[.val (.ref t1), .val (.int p1), .unset] [] := by first | (simp [entryFrame, mkF, argsToLocals, Value.category]; done) | rfl
def QF (Z : State) (t1 : Addr) (p1 : Int32) (rr : Addr) (i0 : Nat) (f : Nat → Int32) (lab : Nat → Nat) (h0 : Heap) (n0 : Nat) (v : Option Value) (h : Heap) (L : List Loc) : Prop := v = some (.int (own_n (lab i0))) ∧ Fr n0 L ∧ Keep h0 h [rr] ∧ ∃ f' : Nat → Int32, own_Ar Z h rr .int 4 f' ∧ own_PR f' lab
set_option maxRecDepth 65536 in
set_option maxHeartbeats 40000000 in
theorem rmF (l : Launch) (Z : State) (a0 : Array Value) (hw : ∀ d ∈ tables_1, d.before a0 Z = true) (ws : List Jvm.Cond) (t1 : Addr) (p1 : Int32) (rr : Addr) (i0 : Nat) (f : Nat → Int32) (lab : Nat → Nat) (h0 : Heap) (n0 : Nat) (Z0 : n0 ≤ h0.size) (ei : p1 = own_n i0) (hi0 : i0 < 4) (Ex : Exa Z h0 t1 "com/example/cliquework/cliquework/algorithms/Partition") (Fp : Fld Z h0 t1 "com/example/cliquework/cliquework/algorithms/Partition" "parent" "[I" (.ref rr)) (A : own_Ar Z h0 rr .int 4 f) (PR : own_PR f lab) (g_rr : n0 ≤ rr) :
    MetFree l (⟨"com/example/cliquework/cliquework/algorithms/Partition", "find", "(I)I"⟩ : MethodName) (head1 (Jvm.Cond.code (⟨"com/example/cliquework/cliquework/algorithms/Partition", "find", "(I)I"⟩ : MethodName) prog_28_method_2_code 3 (some .int) :: ws) ({ frames := 0, cells := 0, slots := 0, locals := 0 } : Room)) (fun a U => a = #[(.ref t1), (.int p1)] ∧ Z.Warmed39 U.vm ∧ U.heap = h0) (fun _ _ _ _ _ => True) (fun _ U o U' => ∃ v L, o = .returned v ∧ QF Z t1 p1 rr i0 f lab h0 n0 v U'.heap L ∧ FrameEnd U o U' L ({ frames := 0, cells := 0, slots := 0, locals := 0 } : Room).cells ({ frames := 0, cells := 0, slots := 0, locals := 0 } : Room).slots) := by
  refine MetFree.of_bodySF (plainFor_of_name own_pn1) hisR ?_
  intro p e s m args below meth c s₁ Bd hml0 hP hK
  obtain ⟨rfl, hZ, hh⟩ := hP
  have hx := Bd.exec
  have hby := Bd.bytes
  have hml : c.maxLocals = 3 := hml0
  have hown : s.vm.findClass "com/example/cliquework/cliquework/algorithms/Partition" = some m.cls := findClass_of_methodNamed Bd.named
  have hnm := (name_of_methodNamed Bd.named Bd.method).1
  have hlk := Bd.notSynchronized
  have hret := Bd.returns
  have X0 : Stand p l e ({ frames := 0, cells := 0, slots := 0, locals := 0 } : Room) s m #[(.ref t1), (.int p1)] below meth c s₁ [] 0 0 := Stand.of_body Bd
  have e0 : s₁.heap = h0 := by rw [← hh, Bd.state]; rfl
  have N0 := Fr.nil n0
  have K0 : Keep h0 h0 [rr] := Keep.refl _ _
  show own_Run p e below s 0 0 (QF Z t1 p1 rr i0 f lab h0 n0) (s₁.setTop (entryFrame m #[(.ref t1), (.int p1)] 3))
  refine own_cast (efF m t1 p1) ?_
  subst ei
  have hne : t1 ≠ rr := by obtain ⟨ca, Aa, -⟩ := id A; exact ne_arr Ex (hw _ (List.mem_of_getElem? (i := 12) rfl)) Aa
  show own_Run p e below s _ _ _ (s₁.setTop (mkF m 0 #[.val (.ref t1), .val (.int (own_n i0)), .unset] []))
  refine own_of (fun _ hh_ => XS.iloadN X0.here hx rfl (hb hby dF_0) rfl hh_) ?_
  show own_Run p e below s _ _ _ (s₁.setTop (mkF m 1 #[.val (.ref t1), .val (.int (own_n i0)), .unset] [(.int (own_n i0))]))
  refine own_of (fun _ hh_ => XS.istoreN X0.here hx rfl (hb hby dF_1) rfl (l' := #[.val (.ref t1), .val (.int (own_n i0)), .val (.int (own_n i0))]) rfl hh_) ?_
  show own_Run p e below s _ _ _ (s₁.setTop (mkF m 2 #[.val (.ref t1), .val (.int (own_n i0)), .val (.int (own_n i0))] []))
  have loop : ∀ (k i : Nat) (g : Nat → Int32) (Tc : State) (lc : List Loc) (hc : Heap), Stand p l e ({ frames := 0, cells := 0, slots := 0, locals := 0 } : Room) s m #[(.ref t1), (.int (own_n i0))] below meth c Tc lc 0 0 → Tc.heap = hc → Fr n0 lc → Keep h0 hc [rr] → Fld Z hc t1 "com/example/cliquework/cliquework/algorithms/Partition" "parent" "[I" (.ref rr) → own_Ar Z hc rr .int 4 g → own_PR g lab → i < 4 → i ≤ k → lab i = lab i0 → own_Run p e below s 0 0 (QF Z t1 (own_n i0) rr i0 f lab h0 n0) (Tc.setTop (mkF m 2 #[.val (.ref t1), .val (.int (own_n i0)), .val (.int (own_n i))] [])) := by
    intro k
    induction k with
    | zero =>
      intro i g Tc lc hc Xc ec Nc Kc Fc Vc PR hi hk hl
      obtain ⟨q, qe1, qe2, qe3, qe4⟩ := PR.2 i hi
      have hni := own_n_nat i (by omega)
      have pi1 := own_n_pos i (by omega)
      have pi2 : (own_n i).toNatClampNeg < 4 := by rw [hni]; exact hi
      show own_Run p e below s _ _ _ (Tc.setTop (mkF m 2 #[.val (.ref t1), .val (.int (own_n i0)), .val (.int (own_n i))] []))
      refine own_of (fun _ hh_ => XS.aloadN Xc.here hx rfl (hb hby dF_2) rfl rfl hh_) ?_
      show own_Run p e below s _ _ _ (Tc.setTop (mkF m 3 #[.val (.ref t1), .val (.int (own_n i0)), .val (.int (own_n i))] [(.ref t1)]))
      obtain ⟨T1, X1, e1, st1⟩ := getF Xc hx hZ hown (host := "") (Or.inl (hw _ (List.mem_of_getElem? (i := 20) rfl))) Via.refl ec Fc (g := (mkF m 3 #[.val (.ref t1), .val (.int (own_n i0)), .val (.int (own_n i))] [(.ref t1)])) rfl rfl (hb hby dF_3)
      refine own_of st1 ?_
      show own_Run p e below s _ _ _ (T1.setTop (mkF m 6 #[.val (.ref t1), .val (.int (own_n i0)), .val (.int (own_n i))] [(.ref rr)]))
      refine own_of (fun _ hh_ => XS.iloadN X1.here hx rfl (hb hby dF_6) rfl hh_) ?_
      show own_Run p e below s _ _ _ (T1.setTop (mkF m 7 #[.val (.ref t1), .val (.int (own_n i0)), .val (.int (own_n i))] [(.int (own_n i)), (.ref rr)]))
      refine own_ial X1 hx hZ e1 Vc (j := (own_n i)) (w := (own_n q)) pi1 pi2 (by rw [hni]; exact qe1) (hb hby dF_7) ?_
      show own_Run p e below s _ _ _ (T1.setTop (mkF m 8 #[.val (.ref t1), .val (.int (own_n i0)), .val (.int (own_n i))] [(.int (own_n q))]))
      refine own_of (fun _ hh_ => XS.iloadN X1.here hx rfl (hb hby dF_8) rfl hh_) ?_
      show own_Run p e below s _ _ _ (T1.setTop (mkF m 9 #[.val (.ref t1), .val (.int (own_n i0)), .val (.int (own_n i))] [(.int (own_n i)), (.int (own_n q))]))
      have hc9_2 : (own_n q) = (own_n i) := by rw [show q = i from by omega]
      refine own_of (fun _ hh_ => XS.icmpYes X1.here hx rfl (pc0 := 9) (pc' := 39) rfl (hb hby dF_9) rfl (teq hc9_2).1 (by decide) (by decide) hh_) ?_
      show own_Run p e below s _ _ _ (T1.setTop (mkF m 39 #[.val (.ref t1), .val (.int (own_n i0)), .val (.int (own_n i))] []))
      refine own_of (fun _ hh_ => XS.iloadN X1.here hx rfl (hb hby dF_39) rfl hh_) ?_
      show own_Run p e below s _ _ _ (T1.setTop (mkF m 40 #[.val (.ref t1), .val (.int (own_n i0)), .val (.int (own_n i))] [(.int (own_n i))]))
      exact own_retI X1 hx hret hlk (hb hby dF_40) (by rw [e1]; exact ⟨by rw [← hl, qe4 ((own_n_inj q (by omega) i (by omega)).mp hc9_2)], Nc, Kc, _, Vc, PR⟩) (by decide) (by decide)
    | succ k ih =>
      intro i g Tc lc hc Xc ec Nc Kc Fc Vc PR hi hk hl
      obtain ⟨q, qe1, qe2, qe3, qe4⟩ := PR.2 i hi
      have hni := own_n_nat i (by omega)
      have pi1 := own_n_pos i (by omega)
      have pi2 : (own_n i).toNatClampNeg < 4 := by rw [hni]; exact hi
      show own_Run p e below s _ _ _ (Tc.setTop (mkF m 2 #[.val (.ref t1), .val (.int (own_n i0)), .val (.int (own_n i))] []))
      refine own_of (fun _ hh_ => XS.aloadN Xc.here hx rfl (hb hby dF_2) rfl rfl hh_) ?_
      show own_Run p e below s _ _ _ (Tc.setTop (mkF m 3 #[.val (.ref t1), .val (.int (own_n i0)), .val (.int (own_n i))] [(.ref t1)]))
      obtain ⟨T3, X3, e3, st3⟩ := getF Xc hx hZ hown (host := "") (Or.inl (hw _ (List.mem_of_getElem? (i := 20) rfl))) Via.refl ec Fc (g := (mkF m 3 #[.val (.ref t1), .val (.int (own_n i0)), .val (.int (own_n i))] [(.ref t1)])) rfl rfl (hb hby dF_3)
      refine own_of st3 ?_
      show own_Run p e below s _ _ _ (T3.setTop (mkF m 6 #[.val (.ref t1), .val (.int (own_n i0)), .val (.int (own_n i))] [(.ref rr)]))
      refine own_of (fun _ hh_ => XS.iloadN X3.here hx rfl (hb hby dF_6) rfl hh_) ?_
      show own_Run p e below s _ _ _ (T3.setTop (mkF m 7 #[.val (.ref t1), .val (.int (own_n i0)), .val (.int (own_n i))] [(.int (own_n i)), (.ref rr)]))
      refine own_ial X3 hx hZ e3 Vc (j := (own_n i)) (w := (own_n q)) pi1 pi2 (by rw [hni]; exact qe1) (hb hby dF_7) ?_
      show own_Run p e below s _ _ _ (T3.setTop (mkF m 8 #[.val (.ref t1), .val (.int (own_n i0)), .val (.int (own_n i))] [(.int (own_n q))]))
      refine own_of (fun _ hh_ => XS.iloadN X3.here hx rfl (hb hby dF_8) rfl hh_) ?_
      show own_Run p e below s _ _ _ (T3.setTop (mkF m 9 #[.val (.ref t1), .val (.int (own_n i0)), .val (.int (own_n i))] [(.int (own_n i)), (.int (own_n q))]))
      by_cases hc9_4 : (own_n q) = (own_n i)
      · refine own_of (fun _ hh_ => XS.icmpYes X3.here hx rfl (pc0 := 9) (pc' := 39) rfl (hb hby dF_9) rfl (teq hc9_4).1 (by decide) (by decide) hh_) ?_
        show own_Run p e below s _ _ _ (T3.setTop (mkF m 39 #[.val (.ref t1), .val (.int (own_n i0)), .val (.int (own_n i))] []))
        refine own_of (fun _ hh_ => XS.iloadN X3.here hx rfl (hb hby dF_39) rfl hh_) ?_
        show own_Run p e below s _ _ _ (T3.setTop (mkF m 40 #[.val (.ref t1), .val (.int (own_n i0)), .val (.int (own_n i))] [(.int (own_n i))]))
        exact own_retI X3 hx hret hlk (hb hby dF_40) (by rw [e3]; exact ⟨by rw [← hl, qe4 ((own_n_inj q (by omega) i (by omega)).mp hc9_4)], Nc, Kc, _, Vc, PR⟩) (by decide) (by decide)
      · refine own_of (fun _ hh_ => XS.icmpNo X3.here hx rfl (hb hby dF_9) rfl (feq hc9_4).1 hh_) ?_
        show own_Run p e below s _ _ _ (T3.setTop (mkF m 12 #[.val (.ref t1), .val (.int (own_n i0)), .val (.int (own_n i))] []))
        have hqi : q ≠ i := fun z => hc9_4 (by rw [z])
        obtain ⟨q2, qd1, qd2, qd3, qd4⟩ := PR.2 q (by omega)
        have hq4 : q < 4 := by omega
        have hnq := own_n_nat q (by omega)
        have pq1 := own_n_pos q (by omega)
        have pq2 : (own_n q).toNatClampNeg < 4 := by rw [hnq]; exact hq4
        refine own_of (fun _ hh_ => XS.aloadN X3.here hx rfl (hb hby dF_12) rfl rfl hh_) ?_
        show own_Run p e below s _ _ _ (T3.setTop (mkF m 13 #[.val (.ref t1), .val (.int (own_n i0)), .val (.int (own_n i))] [(.ref t1)]))
        obtain ⟨T5, X5, e5, st5⟩ := getF X3 hx hZ hown (host := "") (Or.inl (hw _ (List.mem_of_getElem? (i := 20) rfl))) Via.refl e3 Fc (g := (mkF m 13 #[.val (.ref t1), .val (.int (own_n i0)), .val (.int (own_n i))] [(.ref t1)])) rfl rfl (hb hby dF_13)
        refine own_of st5 ?_
        show own_Run p e below s _ _ _ (T5.setTop (mkF m 16 #[.val (.ref t1), .val (.int (own_n i0)), .val (.int (own_n i))] [(.ref rr)]))
        refine own_of (fun _ hh_ => XS.iloadN X5.here hx rfl (hb hby dF_16) rfl hh_) ?_
        show own_Run p e below s _ _ _ (T5.setTop (mkF m 17 #[.val (.ref t1), .val (.int (own_n i0)), .val (.int (own_n i))] [(.int (own_n i)), (.ref rr)]))
        refine own_of (fun _ hh_ => XS.aloadN X5.here hx rfl (hb hby dF_17) rfl rfl hh_) ?_
        show own_Run p e below s _ _ _ (T5.setTop (mkF m 18 #[.val (.ref t1), .val (.int (own_n i0)), .val (.int (own_n i))] [(.ref t1), (.int (own_n i)), (.ref rr)]))
        obtain ⟨T6, X6, e6, st6⟩ := getF X5 hx hZ hown (host := "") (Or.inl (hw _ (List.mem_of_getElem? (i := 20) rfl))) Via.refl e5 Fc (g := (mkF m 18 #[.val (.ref t1), .val (.int (own_n i0)), .val (.int (own_n i))] [(.ref t1), (.int (own_n i)), (.ref rr)])) rfl rfl (hb hby dF_18)
        refine own_of st6 ?_
        show own_Run p e below s _ _ _ (T6.setTop (mkF m 21 #[.val (.ref t1), .val (.int (own_n i0)), .val (.int (own_n i))] [(.ref rr), (.int (own_n i)), (.ref rr)]))
        refine own_of (fun _ hh_ => XS.aloadN X6.here hx rfl (hb hby dF_21) rfl rfl hh_) ?_
        show own_Run p e below s _ _ _ (T6.setTop (mkF m 22 #[.val (.ref t1), .val (.int (own_n i0)), .val (.int (own_n i))] [(.ref t1), (.ref rr), (.int (own_n i)), (.ref rr)]))
        obtain ⟨T7, X7, e7, st7⟩ := getF X6 hx hZ hown (host := "") (Or.inl (hw _ (List.mem_of_getElem? (i := 20) rfl))) Via.refl e6 Fc (g := (mkF m 22 #[.val (.ref t1), .val (.int (own_n i0)), .val (.int (own_n i))] [(.ref t1), (.ref rr), (.int (own_n i)), (.ref rr)])) rfl rfl (hb hby dF_22)
        refine own_of st7 ?_
        show own_Run p e below s _ _ _ (T7.setTop (mkF m 25 #[.val (.ref t1), .val (.int (own_n i0)), .val (.int (own_n i))] [(.ref rr), (.ref rr), (.int (own_n i)), (.ref rr)]))
        refine own_of (fun _ hh_ => XS.iloadN X7.here hx rfl (hb hby dF_25) rfl hh_) ?_
        show own_Run p e below s _ _ _ (T7.setTop (mkF m 26 #[.val (.ref t1), .val (.int (own_n i0)), .val (.int (own_n i))] [(.int (own_n i)), (.ref rr), (.ref rr), (.int (own_n i)), (.ref rr)]))
        refine own_ial X7 hx hZ e7 Vc (j := (own_n i)) (w := (own_n q)) pi1 pi2 (by rw [hni]; exact qe1) (hb hby dF_26) ?_
        show own_Run p e below s _ _ _ (T7.setTop (mkF m 27 #[.val (.ref t1), .val (.int (own_n i0)), .val (.int (own_n i))] [(.int (own_n q)), (.ref rr), (.int (own_n i)), (.ref rr)]))
        refine own_ial X7 hx hZ e7 Vc (j := (own_n q)) (w := (own_n q2)) pq1 pq2 (by rw [hnq]; exact qd1) (hb hby dF_27) ?_
        show own_Run p e below s _ _ _ (T7.setTop (mkF m 28 #[.val (.ref t1), .val (.int (own_n i0)), .val (.int (own_n i))] [(.int (own_n q2)), (.int (own_n i)), (.ref rr)]))
        obtain ⟨T8, h8, X8, e8, W8, V8, st8⟩ := own_ias X7 hx hZ e7 Vc (j := (own_n i)) (x := (own_n q2)) pi1 pi2 (pc := 28) (Ls := #[.val (.ref t1), .val (.int (own_n i0)), .val (.int (own_n i))]) (rest := []) (hb hby dF_28)
        have N8 := Fr.snoc X8 Nc g_rr
        have f9 := Fc.other W8 (Or.inl hne)
        have K10 := Kc.wr W8 (Or.inl (List.mem_of_getElem? (i := 0) rfl))
        refine own_of st8 ?_
        show own_Run p e below s _ _ _ (T8.setTop (mkF m 29 #[.val (.ref t1), .val (.int (own_n i0)), .val (.int (own_n i))] []))
        have Vn : own_Ar Z h8 rr .int 4 (own_up g i (own_n q2)) := by have z := V8; rw [hni] at z; exact z
        have PRn : own_PR (own_up g i (own_n q2)) lab := own_PR_set PR (by omega) (by rw [qd3, qe3]) (fun z => absurd z (by omega))
        refine own_of (fun _ hh_ => XS.aloadN X8.here hx rfl (hb hby dF_29) rfl rfl hh_) ?_
        show own_Run p e below s _ _ _ (T8.setTop (mkF m 30 #[.val (.ref t1), .val (.int (own_n i0)), .val (.int (own_n i))] [(.ref t1)]))
        obtain ⟨T11, X11, e11, st11⟩ := getF X8 hx hZ hown (host := "") (Or.inl (hw _ (List.mem_of_getElem? (i := 20) rfl))) Via.refl e8 f9 (g := (mkF m 30 #[.val (.ref t1), .val (.int (own_n i0)), .val (.int (own_n i))] [(.ref t1)])) rfl rfl (hb hby dF_30)
        refine own_of st11 ?_
        show own_Run p e below s _ _ _ (T11.setTop (mkF m 33 #[.val (.ref t1), .val (.int (own_n i0)), .val (.int (own_n i))] [(.ref rr)]))
        refine own_of (fun _ hh_ => XS.iloadN X11.here hx rfl (hb hby dF_33) rfl hh_) ?_
        show own_Run p e below s _ _ _ (T11.setTop (mkF m 34 #[.val (.ref t1), .val (.int (own_n i0)), .val (.int (own_n i))] [(.int (own_n i)), (.ref rr)]))
        refine own_ial X11 hx hZ e11 Vn (j := (own_n i)) (w := (own_n q2)) pi1 pi2 (by rw [hni]; exact if_pos rfl) (hb hby dF_34) ?_
        show own_Run p e below s _ _ _ (T11.setTop (mkF m 35 #[.val (.ref t1), .val (.int (own_n i0)), .val (.int (own_n i))] [(.int (own_n q2))]))
        refine own_of (fun _ hh_ => XS.istoreN X11.here hx rfl (hb hby dF_35) rfl (l' := #[.val (.ref t1), .val (.int (own_n i0)), .val (.int (own_n q2))]) rfl hh_) ?_
        show own_Run p e below s _ _ _ (T11.setTop (mkF m 36 #[.val (.ref t1), .val (.int (own_n i0)), .val (.int (own_n q2))] []))
        refine own_of (fun _ hh_ => XS.goto X11.here hx rfl (pc0 := 36) (pc' := 2) rfl (hb hby dF_36) (by decide) (by decide) hh_) ?_
        show own_Run p e below s _ _ _ (T11.setTop (mkF m 2 #[.val (.ref t1), .val (.int (own_n i0)), .val (.int (own_n q2))] []))
        exact ih q2 _ _ _ _ X11 e11 N8 K10 f9 Vn PRn (by omega) (by omega) (by rw [qd3, qe3]; exact hl)
  exact loop _ i0 f _ _ _ X0 e0 N0 K0 Fp A PR hi0 (Nat.le_refl _) rfl
theorem own_pd1 : parseMethodDescriptor "(I)I" = some ⟨[.int], some .int⟩ := by decide +kernel
theorem own_pd2 : parseMethodDescriptor "(II)I" = some ⟨[.int, .int], some .int⟩ := by decide +kernel
theorem dU_0 : decode prog_28_method_3_code 0 = .ok (.aload_n 0, 1) := by decide +kernel
theorem dU_1 : decode prog_28_method_3_code 1 = .ok (.iload_n 1, 1) := by decide +kernel
theorem dU_2 : decode prog_28_method_3_code 2 = .ok (.invokevirtual 13, 3) := by decide +kernel
theorem dU_5 : decode prog_28_method_3_code 5 = .ok (.istore_n 3, 1) := by decide +kernel
theorem dU_6 : decode prog_28_method_3_code 6 = .ok (.aload_n 0, 1) := by decide +kernel
theorem dU_7 : decode prog_28_method_3_code 7 = .ok (.iload_n 2, 1) := by decide +kernel
theorem dU_8 : decode prog_28_method_3_code 8 = .ok (.invokevirtual 13, 3) := by decide +kernel
theorem dU_11 : decode prog_28_method_3_code 11 = .ok (.istore 4, 2) := by decide +kernel
theorem dU_13 : decode prog_28_method_3_code 13 = .ok (.iload_n 3, 1) := by decide +kernel
theorem dU_14 : decode prog_28_method_3_code 14 = .ok (.iload 4, 2) := by decide +kernel
theorem dU_16 : decode prog_28_method_3_code 16 = .ok (.if_icmp .ne 5, 3) := by decide +kernel
theorem dU_19 : decode prog_28_method_3_code 19 = .ok (.iconst 0, 1) := by decide +kernel
theorem dU_20 : decode prog_28_method_3_code 20 = .ok (.ireturn, 1) := by decide +kernel
theorem dU_21 : decode prog_28_method_3_code 21 = .ok (.aload_n 0, 1) := by decide +kernel
theorem dU_22 : decode prog_28_method_3_code 22 = .ok (.getfield 7, 3) := by decide +kernel
theorem dU_25 : decode prog_28_method_3_code 25 = .ok (.iload_n 3, 1) := by decide +kernel
theorem dU_26 : decode prog_28_method_3_code 26 = .ok (.iload 4, 2) := by decide +kernel
theorem dU_28 : decode prog_28_method_3_code 28 = .ok (.invokestatic 17, 3) := by decide +kernel
theorem dU_31 : decode prog_28_method_3_code 31 = .ok (.iload_n 3, 1) := by decide +kernel
theorem dU_32 : decode prog_28_method_3_code 32 = .ok (.iload 4, 2) := by decide +kernel
theorem dU_34 : decode prog_28_method_3_code 34 = .ok (.invokestatic 23, 3) := by decide +kernel
theorem dU_37 : decode prog_28_method_3_code 37 = .ok (.iastore, 1) := by decide +kernel
theorem dU_38 : decode prog_28_method_3_code 38 = .ok (.iconst 1, 1) := by decide +kernel
theorem dU_39 : decode prog_28_method_3_code 39 = .ok (.ireturn, 1) := by decide +kernel
theorem efU (m : MethodId) (t1 : Addr) (p1 : Int32) (p2 : Int32) : entryFrame m #[(.ref t1), (.int p1), (.int p2)] 5 = mkF m 0 #[.val (.ref t1), .val (.int p1), .val (.int p2), .unset, .unset] [] := by first | (simp [entryFrame, mkF, argsToLocals, Value.category]; done) | rfl
def QU (Z : State) (t1 : Addr) (p1 : Int32) (p2 : Int32) (rr : Addr) (ia : Nat) (ib : Nat) (f : Nat → Int32) (lab : Nat → Nat) (h0 : Heap) (n0 : Nat) (v : Option Value) (h : Heap) (L : List Loc) : Prop := ∃ z : Int32, v = some (.int z) ∧ Fr n0 L ∧ Keep h0 h [rr] ∧ ∃ f' : Nat → Int32, own_Ar Z h rr .int 4 f' ∧ own_PR f' (own_mrg lab ia ib)
set_option maxRecDepth 65536 in
set_option maxHeartbeats 40000000 in
theorem rmU (l : Launch) (Z : State) (a0 : Array Value) (hw : ∀ d ∈ tables_1, d.before a0 Z = true) (ws : List Jvm.Cond) (t1 : Addr) (p1 : Int32) (p2 : Int32) (rr : Addr) (ia : Nat) (ib : Nat) (f : Nat → Int32) (lab : Nat → Nat) (h0 : Heap) (n0 : Nat) (Z0 : n0 ≤ h0.size) (ea : p1 = own_n ia) (eb : p2 = own_n ib) (hia : ia < 4) (hib : ib < 4) (Ex : Exa Z h0 t1 "com/example/cliquework/cliquework/algorithms/Partition") (Fp : Fld Z h0 t1 "com/example/cliquework/cliquework/algorithms/Partition" "parent" "[I" (.ref rr)) (A : own_Ar Z h0 rr .int 4 f) (PR : own_PR f lab) (g_rr : n0 ≤ rr) :
    MetFree l (⟨"com/example/cliquework/cliquework/algorithms/Partition", "union", "(II)Z"⟩ : MethodName) (head1 (Jvm.Cond.code (⟨"com/example/cliquework/cliquework/algorithms/Partition", "union", "(II)Z"⟩ : MethodName) prog_28_method_3_code 5 (some .boolean) :: ws) ({ frames := 1, cells := 0, slots := 0, locals := 15 } : Room)) (fun a U => a = #[(.ref t1), (.int p1), (.int p2)] ∧ Z.Warmed39 U.vm ∧ U.heap = h0) (fun _ _ _ _ _ => True) (fun _ U o U' => ∃ v L, o = .returned v ∧ QU Z t1 p1 p2 rr ia ib f lab h0 n0 v U'.heap L ∧ FrameEnd U o U' L ({ frames := 1, cells := 0, slots := 0, locals := 15 } : Room).cells ({ frames := 1, cells := 0, slots := 0, locals := 15 } : Room).slots) := by
  refine MetFree.of_bodySF (plainFor_of_name own_pn1) hisR ?_
  intro p e s m args below meth c s₁ Bd hml0 hP hK
  obtain ⟨rfl, hZ, hh⟩ := hP
  have hx := Bd.exec
  have hby := Bd.bytes
  have hml : c.maxLocals = 5 := hml0
  have hown : s.vm.findClass "com/example/cliquework/cliquework/algorithms/Partition" = some m.cls := findClass_of_methodNamed Bd.named
  have hnm := (name_of_methodNamed Bd.named Bd.method).1
  have hlk := Bd.notSynchronized
  have hret := Bd.returns
  have X0 : Stand p l e ({ frames := 1, cells := 0, slots := 0, locals := 15 } : Room) s m #[(.ref t1), (.int p1), (.int p2)] below meth c s₁ [] 0 0 := Stand.of_body Bd
  have e0 : s₁.heap = h0 := by rw [← hh, Bd.state]; rfl
  have N0 := Fr.nil n0
  have K0 : Keep h0 h0 [rr] := Keep.refl _ _
  show own_Run p e below s 0 0 (QU Z t1 p1 p2 rr ia ib f lab h0 n0) (s₁.setTop (entryFrame m #[(.ref t1), (.int p1), (.int p2)] 5))
  refine own_cast (efU m t1 p1 p2) ?_
  subst ea eb
  have hne : t1 ≠ rr := by obtain ⟨ca, Aa, -⟩ := id A; exact ne_arr Ex (hw _ (List.mem_of_getElem? (i := 12) rfl)) Aa
  show own_Run p e below s _ _ _ (s₁.setTop (mkF m 0 #[.val (.ref t1), .val (.int (own_n ia)), .val (.int (own_n ib)), .unset, .unset] []))
  refine own_of (fun _ hh_ => XS.aloadN X0.here hx rfl (hb hby dU_0) rfl rfl hh_) ?_
  show own_Run p e below s _ _ _ (s₁.setTop (mkF m 1 #[.val (.ref t1), .val (.int (own_n ia)), .val (.int (own_n ib)), .unset, .unset] [(.ref t1)]))
  refine own_of (fun _ hh_ => XS.iloadN X0.here hx rfl (hb hby dU_1) rfl hh_) ?_
  show own_Run p e below s _ _ _ (s₁.setTop (mkF m 2 #[.val (.ref t1), .val (.int (own_n ia)), .val (.int (own_n ib)), .unset, .unset] [(.int (own_n ia)), (.ref t1)]))
  obtain ⟨cq1, kq1, q1a, q1b, q1c⟩ := isOf hZ e0 Ex
  obtain ⟨_, _, ⟨T1, L1, k1, n1⟩, -, X1, ⟨Lc1, hQ1, l1, y1, z1⟩, st1⟩ := X0.virtualBack hx (y := (⟨"com/example/cliquework/cliquework/algorithms/Partition", "find", "(I)I"⟩ : MethodName)) (z := (⟨"com/example/cliquework/cliquework/algorithms/Partition", "find", "(I)I"⟩ : MethodName)) hown (mvT hZ (hw _ (List.mem_of_getElem? (i := 27) rfl))) (mvT hZ (hw _ (List.mem_of_getElem? (i := 28) rfl))) (notFace_of_selects (args := #[]) (mvT hZ (hw _ (List.mem_of_getElem? (i := 30) rfl)))) (mvT hZ (hw _ (List.mem_of_getElem? (i := 30) rfl))) (mvT hZ (hw _ (List.mem_of_getElem? (i := 29) rfl))) (by decide) (backOf (W := 0) (rmF l Z a0 hw [] t1 (own_n ia) rr ia f lab h0 n0 Z0 rfl hia Ex Fp A PR g_rr) hZ (hw _ (List.mem_of_getElem? (i := 31) rfl)) (hw _ (List.mem_of_getElem? (i := 13) rfl)) (by decide) (by decide)) q1a q1c (g := (mkF m 2 #[.val (.ref t1), .val (.int (own_n ia)), .val (.int (own_n ib)), .unset, .unset] [(.int (own_n ia)), (.ref t1)])) rfl (by rw [hml]; rfl) (Steps.refl _) (argsL := [(.int (own_n ia))]) (rest := []) (lenOf own_pd1 rfl) rfl (by show 2 * 0 + _ ≤ _; exact Nat.le_of_eq rfl) (hb hby dU_2) (fun _ _ => ⟨rfl, e0, (by decide : 0 + 0 ≤ _), (by decide : 0 + 0 ≤ _)⟩)
  dsimp only [Pt.U, Pt.locs, Pt.cells, Pt.slots] at X1 l1 y1 z1 st1 hQ1
  subst l1 y1 z1
  obtain ⟨rfl, N1q, K1, fm1, V1, PR1⟩ := hQ1
  have N1 := Fr.app N0 N1q
  have f2 := Ex.keep K1
  have f3 := Fp.keep K1 (ninS hne nin0)
  have K4 := K0.trans K1 (allS (Or.inl (List.mem_of_getElem? (i := 0) rfl)) all0)
  refine own_tr st1 ?_
  show own_Run p e below s _ _ _ (T1.setTop (mkF m 5 #[.val (.ref t1), .val (.int (own_n ia)), .val (.int (own_n ib)), .unset, .unset] [(.int (own_n (lab ia)))]))
  refine own_of (fun _ hh_ => XS.istoreN X1.here hx rfl (hb hby dU_5) rfl (l' := #[.val (.ref t1), .val (.int (own_n ia)), .val (.int (own_n ib)), .val (.int (own_n (lab ia))), .unset]) rfl hh_) ?_
  show own_Run p e below s _ _ _ (T1.setTop (mkF m 6 #[.val (.ref t1), .val (.int (own_n ia)), .val (.int (own_n ib)), .val (.int (own_n (lab ia))), .unset] []))
  refine own_of (fun _ hh_ => XS.aloadN X1.here hx rfl (hb hby dU_6) rfl rfl hh_) ?_
  show own_Run p e below s _ _ _ (T1.setTop (mkF m 7 #[.val (.ref t1), .val (.int (own_n ia)), .val (.int (own_n ib)), .val (.int (own_n (lab ia))), .unset] [(.ref t1)]))
  refine own_of (fun _ hh_ => XS.iloadN X1.here hx rfl (hb hby dU_7) rfl hh_) ?_
  show own_Run p e below s _ _ _ (T1.setTop (mkF m 8 #[.val (.ref t1), .val (.int (own_n ia)), .val (.int (own_n ib)), .val (.int (own_n (lab ia))), .unset] [(.int (own_n ib)), (.ref t1)]))
  obtain ⟨cq5, kq5, q5a, q5b, q5c⟩ := isOf hZ (rfl : T1.heap = T1.heap) f2
  obtain ⟨_, _, ⟨T5, L5, k5, n5⟩, -, X5, ⟨Lc5, hQ5, l5, y5, z5⟩, st5⟩ := X1.virtualBack hx (y := (⟨"com/example/cliquework/cliquework/algorithms/Partition", "find", "(I)I"⟩ : MethodName)) (z := (⟨"com/example/cliquework/cliquework/algorithms/Partition", "find", "(I)I"⟩ : MethodName)) hown (mvT hZ (hw _ (List.mem_of_getElem? (i := 27) rfl))) (mvT hZ (hw _ (List.mem_of_getElem? (i := 28) rfl))) (notFace_of_selects (args := #[]) (mvT hZ (hw _ (List.mem_of_getElem? (i := 30) rfl)))) (mvT hZ (hw _ (List.mem_of_getElem? (i := 30) rfl))) (mvT hZ (hw _ (List.mem_of_getElem? (i := 29) rfl))) (by decide) (backOf (W := 0) (rmF l Z a0 hw [] t1 (own_n ib) rr ib fm1 lab T1.heap n0 (Nat.le_trans Z0 K1.1) rfl hib f2 f3 V1 PR1 g_rr) hZ (hw _ (List.mem_of_getElem? (i := 31) rfl)) (hw _ (List.mem_of_getElem? (i := 13) rfl)) (by decide) (by decide)) q5a q5c (g := (mkF m 8 #[.val (.ref t1), .val (.int (own_n ia)), .val (.int (own_n ib)), .val (.int (own_n (lab ia))), .unset] [(.int (own_n ib)), (.ref t1)])) rfl (by rw [hml]; rfl) (Steps.refl _) (argsL := [(.int (own_n ib))]) (rest := []) (lenOf own_pd1 rfl) rfl (by show 2 * 0 + _ ≤ _; exact Nat.le_of_eq rfl) (hb hby dU_8) (fun _ _ => ⟨rfl, (rfl : T1.heap = T1.heap), (by decide : 0 + 0 ≤ _), (by decide : 0 + 0 ≤ _)⟩)
  dsimp only [Pt.U, Pt.locs, Pt.cells, Pt.slots] at X5 l5 y5 z5 st5 hQ5
  subst l5 y5 z5
  obtain ⟨rfl, N5q, K5, fm5, V5, PR5⟩ := hQ5
  have N5 := Fr.app N1 N5q
  have f6 := f2.keep K5
  have f7 := f3.keep K5 (ninS hne nin0)
  have K8 := K4.trans K5 (allS (Or.inl (List.mem_of_getElem? (i := 0) rfl)) all0)
  refine own_tr st5 ?_
  show own_Run p e below s _ _ _ (T5.setTop (mkF m 11 #[.val (.ref t1), .val (.int (own_n ia)), .val (.int (own_n ib)), .val (.int (own_n (lab ia))), .unset] [(.int (own_n (lab ib)))]))
  refine own_of (fun _ hh_ => XS.istore X5.here hx rfl (hb hby dU_11) rfl (l' := #[.val (.ref t1), .val (.int (own_n ia)), .val (.int (own_n ib)), .val (.int (own_n (lab ia))), .val (.int (own_n (lab ib)))]) rfl hh_) ?_
  show own_Run p e below s _ _ _ (T5.setTop (mkF m 13 #[.val (.ref t1), .val (.int (own_n ia)), .val (.int (own_n ib)), .val (.int (own_n (lab ia))), .val (.int (own_n (lab ib)))] []))
  refine own_of (fun _ hh_ => XS.iloadN X5.here hx rfl (hb hby dU_13) rfl hh_) ?_
  show own_Run p e below s _ _ _ (T5.setTop (mkF m 14 #[.val (.ref t1), .val (.int (own_n ia)), .val (.int (own_n ib)), .val (.int (own_n (lab ia))), .val (.int (own_n (lab ib)))] [(.int (own_n (lab ia)))]))
  refine own_of (fun _ hh_ => XS.iload X5.here hx rfl (hb hby dU_14) rfl hh_) ?_
  show own_Run p e below s _ _ _ (T5.setTop (mkF m 16 #[.val (.ref t1), .val (.int (own_n ia)), .val (.int (own_n ib)), .val (.int (own_n (lab ia))), .val (.int (own_n (lab ib)))] [(.int (own_n (lab ib))), (.int (own_n (lab ia)))]))
  by_cases hc16_9 : (own_n (lab ia)) = (own_n (lab ib))
  · refine own_of (fun _ hh_ => XS.icmpNo X5.here hx rfl (hb hby dU_16) rfl (teq hc16_9).2 hh_) ?_
    show own_Run p e below s _ _ _ (T5.setTop (mkF m 19 #[.val (.ref t1), .val (.int (own_n ia)), .val (.int (own_n ib)), .val (.int (own_n (lab ia))), .val (.int (own_n (lab ib)))] []))
    refine own_of (fun _ hh_ => XS.iconst X5.here hx rfl (hb hby dU_19) hh_) ?_
    show own_Run p e below s _ _ _ (T5.setTop (mkF m 20 #[.val (.ref t1), .val (.int (own_n ia)), .val (.int (own_n ib)), .val (.int (own_n (lab ia))), .val (.int (own_n (lab ib)))] [(.int (0 : Int32))]))
    exact own_retN X5 hx (t := .boolean) hret hlk (by simp) (hb hby dU_20) (by rw [(rfl : T5.heap = T5.heap)]; exact ⟨_, rfl, N5, K8, _, V5, (by rw [own_mrg_same ((own_n_inj _ (Nat.lt_of_le_of_lt (PR.1 ia hia).1 (by omega)) _ (Nat.lt_of_le_of_lt (PR.1 ib hib).1 (by omega))).mp hc16_9)]; exact PR5)⟩) (by decide) (by decide)
  · refine own_of (fun _ hh_ => XS.icmpYes X5.here hx rfl (pc0 := 16) (pc' := 21) rfl (hb hby dU_16) rfl (feq hc16_9).2 (by decide) (by decide) hh_) ?_
    show own_Run p e below s _ _ _ (T5.setTop (mkF m 21 #[.val (.ref t1), .val (.int (own_n ia)), .val (.int (own_n ib)), .val (.int (own_n (lab ia))), .val (.int (own_n (lab ib)))] []))
    have la : lab ia < 4 := by have z := (PR.1 ia hia).1; omega
    have lb : lab ib < 4 := by have z := (PR.1 ib hib).1; omega
    have hM4 : max (lab ia) (lab ib) < 4 := by omega
    have hnl : ¬ lab ia = lab ib := fun z => hc16_9 (by rw [z])
    have hnM := own_n_nat (max (lab ia) (lab ib)) (by omega)
    refine own_of (fun _ hh_ => XS.aloadN X5.here hx rfl (hb hby dU_21) rfl rfl hh_) ?_
    show own_Run p e below s _ _ _ (T5.setTop (mkF m 22 #[.val (.ref t1), .val (.int (own_n ia)), .val (.int (own_n ib)), .val (.int (own_n (lab ia))), .val (.int (own_n (lab ib)))] [(.ref t1)]))
    obtain ⟨T10, X10, e10, st10⟩ := getF X5 hx hZ hown (host := "") (Or.inl (hw _ (List.mem_of_getElem? (i := 20) rfl))) Via.refl (rfl : T5.heap = T5.heap) f7 (g := (mkF m 22 #[.val (.ref t1), .val (.int (own_n ia)), .val (.int (own_n ib)), .val (.int (own_n (lab ia))), .val (.int (own_n (lab ib)))] [(.ref t1)])) rfl rfl (hb hby dU_22)
    refine own_of st10 ?_
    show own_Run p e below s _ _ _ (T10.setTop (mkF m 25 #[.val (.ref t1), .val (.int (own_n ia)), .val (.int (own_n ib)), .val (.int (own_n (lab ia))), .val (.int (own_n (lab ib)))] [(.ref rr)]))
    refine own_of (fun _ hh_ => XS.iloadN X10.here hx rfl (hb hby dU_25) rfl hh_) ?_
    show own_Run p e below s _ _ _ (T10.setTop (mkF m 26 #[.val (.ref t1), .val (.int (own_n ia)), .val (.int (own_n ib)), .val (.int (own_n (lab ia))), .val (.int (own_n (lab ib)))] [(.int (own_n (lab ia))), (.ref rr)]))
    refine own_of (fun _ hh_ => XS.iload X10.here hx rfl (hb hby dU_26) rfl hh_) ?_
    show own_Run p e below s _ _ _ (T10.setTop (mkF m 28 #[.val (.ref t1), .val (.int (own_n ia)), .val (.int (own_n ib)), .val (.int (own_n (lab ia))), .val (.int (own_n (lab ib)))] [(.int (own_n (lab ib))), (.int (own_n (lab ia))), (.ref rr)]))
    obtain ⟨_, _, ⟨T11, L11, k11, n11⟩, -, X11, ⟨Lc11, hQ11, l11, y11, z11⟩, st11⟩ := Jvm.LawKit.callS X10 hx (y := (⟨"java/lang/Math", "max", "(II)I"⟩ : MethodName)) hown (mvT hZ (hw _ (List.mem_of_getElem? (i := 32) rfl))) (mvT hZ (hw _ (List.mem_of_getElem? (i := 33) rfl))) (mvT hZ (hw _ (List.mem_of_getElem? (i := 34) rfl))) (mvT hZ (hw _ (List.mem_of_getElem? (i := 35) rfl))) (by decide) (backOf (W := 1) (rmM l Z a0 hw [] (own_n (lab ia)) (own_n (lab ib)) T5.heap n0 (Nat.le_trans (Nat.le_trans Z0 K1.1) K5.1)) hZ (hw _ (List.mem_of_getElem? (i := 35) rfl)) (hw _ (List.mem_of_getElem? (i := 34) rfl)) (by decide) (by decide)) (g := (mkF m 28 #[.val (.ref t1), .val (.int (own_n ia)), .val (.int (own_n ib)), .val (.int (own_n (lab ia))), .val (.int (own_n (lab ib)))] [(.int (own_n (lab ib))), (.int (own_n (lab ia))), (.ref rr)])) rfl (by rw [hml]; rfl) (argsL := [(.int (own_n (lab ia))), (.int (own_n (lab ib)))]) (rest := [(.ref rr)]) (lenOf own_pd2 rfl) rfl (by show 2 * 0 + _ ≤ _; exact Nat.le_of_eq rfl) (hb hby dU_28) (fun _ _ => ⟨rfl, e10, (by decide : 0 + 0 ≤ _), (by decide : 0 + 0 ≤ _)⟩)
    dsimp only [Pt.U, Pt.locs, Pt.cells, Pt.slots] at X11 l11 y11 z11 st11 hQ11
    subst l11 y11 z11
    obtain ⟨rfl, N11q, e11⟩ := hQ11
    have N11 := Fr.app N5 N11q
    refine own_of st11 ?_
    show own_Run p e below s _ _ _ (T11.setTop (mkF m 31 #[.val (.ref t1), .val (.int (own_n ia)), .val (.int (own_n ib)), .val (.int (own_n (lab ia))), .val (.int (own_n (lab ib)))] [(.int (own_maxI (own_n (lab ia)) (own_n (lab ib)))), (.ref rr)]))
    rw [own_n_max _ la _ lb]
    show own_Run p e below s _ _ _ (T11.setTop (mkF m 31 #[.val (.ref t1), .val (.int (own_n ia)), .val (.int (own_n ib)), .val (.int (own_n (lab ia))), .val (.int (own_n (lab ib)))] [(.int (own_n (max (lab ia) (lab ib)))), (.ref rr)]))
    refine own_of (fun _ hh_ => XS.iloadN X11.here hx rfl (hb hby dU_31) rfl hh_) ?_
    show own_Run p e below s _ _ _ (T11.setTop (mkF m 32 #[.val (.ref t1), .val (.int (own_n ia)), .val (.int (own_n ib)), .val (.int (own_n (lab ia))), .val (.int (own_n (lab ib)))] [(.int (own_n (lab ia))), (.int (own_n (max (lab ia) (lab ib)))), (.ref rr)]))
    refine own_of (fun _ hh_ => XS.iload X11.here hx rfl (hb hby dU_32) rfl hh_) ?_
    show own_Run p e below s _ _ _ (T11.setTop (mkF m 34 #[.val (.ref t1), .val (.int (own_n ia)), .val (.int (own_n ib)), .val (.int (own_n (lab ia))), .val (.int (own_n (lab ib)))] [(.int (own_n (lab ib))), (.int (own_n (lab ia))), (.int (own_n (max (lab ia) (lab ib)))), (.ref rr)]))
    obtain ⟨_, _, ⟨T12, L12, k12, n12⟩, -, X12, ⟨Lc12, hQ12, l12, y12, z12⟩, st12⟩ := Jvm.LawKit.callS X11 hx (y := (⟨"java/lang/Math", "min", "(II)I"⟩ : MethodName)) hown (mvT hZ (hw _ (List.mem_of_getElem? (i := 36) rfl))) (mvT hZ (hw _ (List.mem_of_getElem? (i := 37) rfl))) (mvT hZ (hw _ (List.mem_of_getElem? (i := 34) rfl))) (mvT hZ (hw _ (List.mem_of_getElem? (i := 38) rfl))) (by decide) (backOf (W := 2) (rmm l Z a0 hw [] (own_n (lab ia)) (own_n (lab ib)) T5.heap n0 (Nat.le_trans (Nat.le_trans Z0 K1.1) K5.1)) hZ (hw _ (List.mem_of_getElem? (i := 38) rfl)) (hw _ (List.mem_of_getElem? (i := 34) rfl)) (by decide) (by decide)) (g := (mkF m 34 #[.val (.ref t1), .val (.int (own_n ia)), .val (.int (own_n ib)), .val (.int (own_n (lab ia))), .val (.int (own_n (lab ib)))] [(.int (own_n (lab ib))), (.int (own_n (lab ia))), (.int (own_n (max (lab ia) (lab ib)))), (.ref rr)])) rfl (by rw [hml]; rfl) (argsL := [(.int (own_n (lab ia))), (.int (own_n (lab ib)))]) (rest := [(.int (own_n (max (lab ia) (lab ib)))), (.ref rr)]) (lenOf own_pd2 rfl) rfl (by show 2 * 0 + _ ≤ _; exact Nat.le_of_eq rfl) (hb hby dU_34) (fun _ _ => ⟨rfl, e11, (by decide : 0 + 0 ≤ _), (by decide : 0 + 0 ≤ _)⟩)
    dsimp only [Pt.U, Pt.locs, Pt.cells, Pt.slots] at X12 l12 y12 z12 st12 hQ12
    subst l12 y12 z12
    obtain ⟨rfl, N12q, e12⟩ := hQ12
    have N12 := Fr.app N11 N12q
    refine own_of st12 ?_
    show own_Run p e below s _ _ _ (T12.setTop (mkF m 37 #[.val (.ref t1), .val (.int (own_n ia)), .val (.int (own_n ib)), .val (.int (own_n (lab ia))), .val (.int (own_n (lab ib)))] [(.int (own_minI (own_n (lab ia)) (own_n (lab ib)))), (.int (own_n (max (lab ia) (lab ib)))), (.ref rr)]))
    rw [own_n_min _ la _ lb]
    show own_Run p e below s _ _ _ (T12.setTop (mkF m 37 #[.val (.ref t1), .val (.int (own_n ia)), .val (.int (own_n ib)), .val (.int (own_n (lab ia))), .val (.int (own_n (lab ib)))] [(.int (own_n (min (lab ia) (lab ib)))), (.int (own_n (max (lab ia) (lab ib)))), (.ref rr)]))
    obtain ⟨T13, h13, X13, e13, W13, V13, st13⟩ := own_ias X12 hx hZ e12 V5 (j := (own_n (max (lab ia) (lab ib)))) (x := (own_n (min (lab ia) (lab ib)))) (own_n_pos _ (by omega)) (by rw [hnM]; exact hM4) (pc := 37) (Ls := #[.val (.ref t1), .val (.int (own_n ia)), .val (.int (own_n ib)), .val (.int (own_n (lab ia))), .val (.int (own_n (lab ib)))]) (rest := []) (hb hby dU_37)
    have N13 := Fr.snoc X13 N12 g_rr
    have f14 := f6.wr W13
    have f15 := f7.other W13 (Or.inl hne)
    have K16 := K8.wr W13 (Or.inl (List.mem_of_getElem? (i := 0) rfl))
    refine own_of st13 ?_
    show own_Run p e below s _ _ _ (T13.setTop (mkF m 38 #[.val (.ref t1), .val (.int (own_n ia)), .val (.int (own_n ib)), .val (.int (own_n (lab ia))), .val (.int (own_n (lab ib)))] []))
    refine own_of (fun _ hh_ => XS.iconst X13.here hx rfl (hb hby dU_38) hh_) ?_
    show own_Run p e below s _ _ _ (T13.setTop (mkF m 39 #[.val (.ref t1), .val (.int (own_n ia)), .val (.int (own_n ib)), .val (.int (own_n (lab ia))), .val (.int (own_n (lab ib)))] [(.int (1 : Int32))]))
    exact own_retN X13 hx (t := .boolean) hret hlk (by simp) (hb hby dU_39) (by rw [e13]; exact ⟨_, rfl, N13, K16, _, (by have z := V13; rw [hnM] at z; exact z), own_PR_mrg PR5 hia hib hnl⟩) (by decide) (by decide)
theorem own_pd3 : parseMethodDescriptor "([III)V" = some ⟨[(.array .int), .int, .int], none⟩ := by decide +kernel
theorem own_pd4 : parseMethodDescriptor "(I)V" = some ⟨[.int], none⟩ := by decide +kernel
theorem own_pd5 : parseMethodDescriptor "(II)Z" = some ⟨[.int, .int], some .boolean⟩ := by decide +kernel
theorem ef0 (m : MethodId) (a1 : Int32) (b1 : Int32) (c1 : Int32) (d1 : Int32) : entryFrame m #[(.int a1), (.int b1), (.int c1), (.int d1)] maxLocals = mkF m 0 #[.val (.int a1), .val (.int b1), .val (.int c1), .val (.int d1), .unset, .unset, .unset, .unset, .unset, .unset, .unset, .unset, .unset, .unset, .unset, .unset, .unset, .unset, .unset] [] := by first | (simp [entryFrame, mkF, argsToLocals, Value.category, maxLocals]; done) | rfl
def Q0 (Z : State) (a1 : Int32) (b1 : Int32) (c1 : Int32) (d1 : Int32) (h0 : Heap) (n0 : Nat) (v : Option Value) (h : Heap) (L : List Loc) : Prop := v = some (.int 1) ∧ Fr n0 L
set_option maxRecDepth 65536 in
set_option maxHeartbeats 40000000 in
theorem rm0 (l : Launch) (Z : State) (a0 : Array Value) (hw : ∀ d ∈ tables_1, d.before a0 Z = true) (ws : List Jvm.Cond) (a1 : Int32) (b1 : Int32) (c1 : Int32) (d1 : Int32) (h0 : Heap) (n0 : Nat) (Z0 : n0 ≤ h0.size)  :
    MetFree l x (head1 (Jvm.Cond.code x code maxLocals ret :: ws) room_1) (fun a U => a = #[(.int a1), (.int b1), (.int c1), (.int d1)] ∧ Z.Warmed39 U.vm ∧ U.heap = h0) (fun _ _ _ _ _ => True) (fun _ U o U' => ∃ v L, o = .returned v ∧ Q0 Z a1 b1 c1 d1 h0 n0 v U'.heap L ∧ FrameEnd U o U' L 16 128) := by
  refine MetFree.of_bodySF (plainFor_of_name own_pn0) hisR ?_
  intro p e s m args below meth c s₁ Bd hml0 hP hK
  obtain ⟨rfl, hZ, hh⟩ := hP
  have hx := Bd.exec
  have hby := Bd.bytes
  have hml : c.maxLocals = 19 := hml0
  have hown : s.vm.findClass "com/example/cliquework/cliquework/algorithms/PartitionFindPinLaw" = some m.cls := findClass_of_methodNamed Bd.named
  have hnm := (name_of_methodNamed Bd.named Bd.method).1
  have hlk := Bd.notSynchronized
  have hret := Bd.returns
  have X0 : Stand p l e room_1 s m #[(.int a1), (.int b1), (.int c1), (.int d1)] below meth c s₁ [] 0 0 := Stand.of_body Bd
  have e0 : s₁.heap = h0 := by rw [← hh, Bd.state]; rfl
  have N0 := Fr.nil n0
  show own_Run p e below s 16 128 (Q0 Z a1 b1 c1 d1 h0 n0) (s₁.setTop (entryFrame m #[(.int a1), (.int b1), (.int c1), (.int d1)] maxLocals))
  refine own_cast (ef0 m a1 b1 c1 d1) ?_
  show own_Run p e below s _ _ _ (s₁.setTop (mkF m 0 #[.val (.int a1), .val (.int b1), .val (.int c1), .val (.int d1), .unset, .unset, .unset, .unset, .unset, .unset, .unset, .unset, .unset, .unset, .unset, .unset, .unset, .unset, .unset] []))
  refine own_of (fun _ hh_ => XS.iloadN X0.here hx rfl (hb hby at_0) rfl hh_) ?_
  show own_Run p e below s _ _ _ (s₁.setTop (mkF m 1 #[.val (.int a1), .val (.int b1), .val (.int c1), .val (.int d1), .unset, .unset, .unset, .unset, .unset, .unset, .unset, .unset, .unset, .unset, .unset, .unset, .unset, .unset, .unset] [(.int a1)]))
  refine own_of (fun _ hh_ => XS.iconst X0.here hx rfl (hb hby at_1) hh_) ?_
  show own_Run p e below s _ _ _ (s₁.setTop (mkF m 2 #[.val (.int a1), .val (.int b1), .val (.int c1), .val (.int d1), .unset, .unset, .unset, .unset, .unset, .unset, .unset, .unset, .unset, .unset, .unset, .unset, .unset, .unset, .unset] [(.int (3 : Int32)), (.int a1)]))
  refine own_of (fun _ hh_ => XS.iand X0.here hx rfl (hb hby at_2) rfl hh_) ?_
  show own_Run p e below s _ _ _ (s₁.setTop (mkF m 3 #[.val (.int a1), .val (.int b1), .val (.int c1), .val (.int d1), .unset, .unset, .unset, .unset, .unset, .unset, .unset, .unset, .unset, .unset, .unset, .unset, .unset, .unset, .unset] [(.int (a1 &&& (3 : Int32)))]))
  obtain ⟨ka, hka, eka⟩ := own_m3 a1
  rw [eka]
  show own_Run p e below s _ _ _ (s₁.setTop (mkF m 3 #[.val (.int a1), .val (.int b1), .val (.int c1), .val (.int d1), .unset, .unset, .unset, .unset, .unset, .unset, .unset, .unset, .unset, .unset, .unset, .unset, .unset, .unset, .unset] [(.int (own_n ka))]))
  refine own_of (fun _ hh_ => XS.istore X0.here hx rfl (hb hby at_3) rfl (l' := #[.val (.int a1), .val (.int b1), .val (.int c1), .val (.int d1), .val (.int (own_n ka)), .unset, .unset, .unset, .unset, .unset, .unset, .unset, .unset, .unset, .unset, .unset, .unset, .unset, .unset]) rfl hh_) ?_
  show own_Run p e below s _ _ _ (s₁.setTop (mkF m 5 #[.val (.int a1), .val (.int b1), .val (.int c1), .val (.int d1), .val (.int (own_n ka)), .unset, .unset, .unset, .unset, .unset, .unset, .unset, .unset, .unset, .unset, .unset, .unset, .unset, .unset] []))
  refine own_of (fun _ hh_ => XS.iloadN X0.here hx rfl (hb hby at_5) rfl hh_) ?_
  show own_Run p e below s _ _ _ (s₁.setTop (mkF m 6 #[.val (.int a1), .val (.int b1), .val (.int c1), .val (.int d1), .val (.int (own_n ka)), .unset, .unset, .unset, .unset, .unset, .unset, .unset, .unset, .unset, .unset, .unset, .unset, .unset, .unset] [(.int a1)]))
  refine own_of (fun _ hh_ => XS.iconst X0.here hx rfl (hb hby at_6) hh_) ?_
  show own_Run p e below s _ _ _ (s₁.setTop (mkF m 7 #[.val (.int a1), .val (.int b1), .val (.int c1), .val (.int d1), .val (.int (own_n ka)), .unset, .unset, .unset, .unset, .unset, .unset, .unset, .unset, .unset, .unset, .unset, .unset, .unset, .unset] [(.int (2 : Int32)), (.int a1)]))
  refine own_of (fun _ hh_ => XS.iushr X0.here hx rfl (hb hby at_7) rfl hh_) ?_
  show own_Run p e below s _ _ _ (s₁.setTop (mkF m 8 #[.val (.int a1), .val (.int b1), .val (.int c1), .val (.int d1), .val (.int (own_n ka)), .unset, .unset, .unset, .unset, .unset, .unset, .unset, .unset, .unset, .unset, .unset, .unset, .unset, .unset] [(.int ((a1.toUInt32 >>> ((2 : Int32) &&& 31).toUInt32).toInt32))]))
  refine own_of (fun _ hh_ => XS.iconst X0.here hx rfl (hb hby at_8) hh_) ?_
  show own_Run p e below s _ _ _ (s₁.setTop (mkF m 9 #[.val (.int a1), .val (.int b1), .val (.int c1), .val (.int d1), .val (.int (own_n ka)), .unset, .unset, .unset, .unset, .unset, .unset, .unset, .unset, .unset, .unset, .unset, .unset, .unset, .unset] [(.int (3 : Int32)), (.int ((a1.toUInt32 >>> ((2 : Int32) &&& 31).toUInt32).toInt32))]))
  refine own_of (fun _ hh_ => XS.iand X0.here hx rfl (hb hby at_9) rfl hh_) ?_
  show own_Run p e below s _ _ _ (s₁.setTop (mkF m 10 #[.val (.int a1), .val (.int b1), .val (.int c1), .val (.int d1), .val (.int (own_n ka)), .unset, .unset, .unset, .unset, .unset, .unset, .unset, .unset, .unset, .unset, .unset, .unset, .unset, .unset] [(.int (((a1.toUInt32 >>> ((2 : Int32) &&& 31).toUInt32).toInt32) &&& (3 : Int32)))]))
  obtain ⟨kb, hkb, ekb⟩ := own_m3 ((a1.toUInt32 >>> ((2 : Int32) &&& 31).toUInt32).toInt32)
  rw [ekb]
  show own_Run p e below s _ _ _ (s₁.setTop (mkF m 10 #[.val (.int a1), .val (.int b1), .val (.int c1), .val (.int d1), .val (.int (own_n ka)), .unset, .unset, .unset, .unset, .unset, .unset, .unset, .unset, .unset, .unset, .unset, .unset, .unset, .unset] [(.int (own_n kb))]))
  refine own_of (fun _ hh_ => XS.istore X0.here hx rfl (hb hby at_10) rfl (l' := #[.val (.int a1), .val (.int b1), .val (.int c1), .val (.int d1), .val (.int (own_n ka)), .val (.int (own_n kb)), .unset, .unset, .unset, .unset, .unset, .unset, .unset, .unset, .unset, .unset, .unset, .unset, .unset]) rfl hh_) ?_
  show own_Run p e below s _ _ _ (s₁.setTop (mkF m 12 #[.val (.int a1), .val (.int b1), .val (.int c1), .val (.int d1), .val (.int (own_n ka)), .val (.int (own_n kb)), .unset, .unset, .unset, .unset, .unset, .unset, .unset, .unset, .unset, .unset, .unset, .unset, .unset] []))
  refine own_of (fun _ hh_ => XS.iloadN X0.here hx rfl (hb hby at_12) rfl hh_) ?_
  show own_Run p e below s _ _ _ (s₁.setTop (mkF m 13 #[.val (.int a1), .val (.int b1), .val (.int c1), .val (.int d1), .val (.int (own_n ka)), .val (.int (own_n kb)), .unset, .unset, .unset, .unset, .unset, .unset, .unset, .unset, .unset, .unset, .unset, .unset, .unset] [(.int b1)]))
  refine own_of (fun _ hh_ => XS.iconst X0.here hx rfl (hb hby at_13) hh_) ?_
  show own_Run p e below s _ _ _ (s₁.setTop (mkF m 14 #[.val (.int a1), .val (.int b1), .val (.int c1), .val (.int d1), .val (.int (own_n ka)), .val (.int (own_n kb)), .unset, .unset, .unset, .unset, .unset, .unset, .unset, .unset, .unset, .unset, .unset, .unset, .unset] [(.int (3 : Int32)), (.int b1)]))
  refine own_of (fun _ hh_ => XS.iand X0.here hx rfl (hb hby at_14) rfl hh_) ?_
  show own_Run p e below s _ _ _ (s₁.setTop (mkF m 15 #[.val (.int a1), .val (.int b1), .val (.int c1), .val (.int d1), .val (.int (own_n ka)), .val (.int (own_n kb)), .unset, .unset, .unset, .unset, .unset, .unset, .unset, .unset, .unset, .unset, .unset, .unset, .unset] [(.int (b1 &&& (3 : Int32)))]))
  obtain ⟨kc, hkc, ekc⟩ := own_m3 b1
  rw [ekc]
  show own_Run p e below s _ _ _ (s₁.setTop (mkF m 15 #[.val (.int a1), .val (.int b1), .val (.int c1), .val (.int d1), .val (.int (own_n ka)), .val (.int (own_n kb)), .unset, .unset, .unset, .unset, .unset, .unset, .unset, .unset, .unset, .unset, .unset, .unset, .unset] [(.int (own_n kc))]))
  refine own_of (fun _ hh_ => XS.istore X0.here hx rfl (hb hby at_15) rfl (l' := #[.val (.int a1), .val (.int b1), .val (.int c1), .val (.int d1), .val (.int (own_n ka)), .val (.int (own_n kb)), .val (.int (own_n kc)), .unset, .unset, .unset, .unset, .unset, .unset, .unset, .unset, .unset, .unset, .unset, .unset]) rfl hh_) ?_
  show own_Run p e below s _ _ _ (s₁.setTop (mkF m 17 #[.val (.int a1), .val (.int b1), .val (.int c1), .val (.int d1), .val (.int (own_n ka)), .val (.int (own_n kb)), .val (.int (own_n kc)), .unset, .unset, .unset, .unset, .unset, .unset, .unset, .unset, .unset, .unset, .unset, .unset] []))
  refine own_of (fun _ hh_ => XS.iloadN X0.here hx rfl (hb hby at_17) rfl hh_) ?_
  show own_Run p e below s _ _ _ (s₁.setTop (mkF m 18 #[.val (.int a1), .val (.int b1), .val (.int c1), .val (.int d1), .val (.int (own_n ka)), .val (.int (own_n kb)), .val (.int (own_n kc)), .unset, .unset, .unset, .unset, .unset, .unset, .unset, .unset, .unset, .unset, .unset, .unset] [(.int b1)]))
  refine own_of (fun _ hh_ => XS.iconst X0.here hx rfl (hb hby at_18) hh_) ?_
  show own_Run p e below s _ _ _ (s₁.setTop (mkF m 19 #[.val (.int a1), .val (.int b1), .val (.int c1), .val (.int d1), .val (.int (own_n ka)), .val (.int (own_n kb)), .val (.int (own_n kc)), .unset, .unset, .unset, .unset, .unset, .unset, .unset, .unset, .unset, .unset, .unset, .unset] [(.int (2 : Int32)), (.int b1)]))
  refine own_of (fun _ hh_ => XS.iushr X0.here hx rfl (hb hby at_19) rfl hh_) ?_
  show own_Run p e below s _ _ _ (s₁.setTop (mkF m 20 #[.val (.int a1), .val (.int b1), .val (.int c1), .val (.int d1), .val (.int (own_n ka)), .val (.int (own_n kb)), .val (.int (own_n kc)), .unset, .unset, .unset, .unset, .unset, .unset, .unset, .unset, .unset, .unset, .unset, .unset] [(.int ((b1.toUInt32 >>> ((2 : Int32) &&& 31).toUInt32).toInt32))]))
  refine own_of (fun _ hh_ => XS.iconst X0.here hx rfl (hb hby at_20) hh_) ?_
  show own_Run p e below s _ _ _ (s₁.setTop (mkF m 21 #[.val (.int a1), .val (.int b1), .val (.int c1), .val (.int d1), .val (.int (own_n ka)), .val (.int (own_n kb)), .val (.int (own_n kc)), .unset, .unset, .unset, .unset, .unset, .unset, .unset, .unset, .unset, .unset, .unset, .unset] [(.int (3 : Int32)), (.int ((b1.toUInt32 >>> ((2 : Int32) &&& 31).toUInt32).toInt32))]))
  refine own_of (fun _ hh_ => XS.iand X0.here hx rfl (hb hby at_21) rfl hh_) ?_
  show own_Run p e below s _ _ _ (s₁.setTop (mkF m 22 #[.val (.int a1), .val (.int b1), .val (.int c1), .val (.int d1), .val (.int (own_n ka)), .val (.int (own_n kb)), .val (.int (own_n kc)), .unset, .unset, .unset, .unset, .unset, .unset, .unset, .unset, .unset, .unset, .unset, .unset] [(.int (((b1.toUInt32 >>> ((2 : Int32) &&& 31).toUInt32).toInt32) &&& (3 : Int32)))]))
  obtain ⟨kd, hkd, ekd⟩ := own_m3 ((b1.toUInt32 >>> ((2 : Int32) &&& 31).toUInt32).toInt32)
  rw [ekd]
  show own_Run p e below s _ _ _ (s₁.setTop (mkF m 22 #[.val (.int a1), .val (.int b1), .val (.int c1), .val (.int d1), .val (.int (own_n ka)), .val (.int (own_n kb)), .val (.int (own_n kc)), .unset, .unset, .unset, .unset, .unset, .unset, .unset, .unset, .unset, .unset, .unset, .unset] [(.int (own_n kd))]))
  refine own_of (fun _ hh_ => XS.istore X0.here hx rfl (hb hby at_22) rfl (l' := #[.val (.int a1), .val (.int b1), .val (.int c1), .val (.int d1), .val (.int (own_n ka)), .val (.int (own_n kb)), .val (.int (own_n kc)), .val (.int (own_n kd)), .unset, .unset, .unset, .unset, .unset, .unset, .unset, .unset, .unset, .unset, .unset]) rfl hh_) ?_
  show own_Run p e below s _ _ _ (s₁.setTop (mkF m 24 #[.val (.int a1), .val (.int b1), .val (.int c1), .val (.int d1), .val (.int (own_n ka)), .val (.int (own_n kb)), .val (.int (own_n kc)), .val (.int (own_n kd)), .unset, .unset, .unset, .unset, .unset, .unset, .unset, .unset, .unset, .unset, .unset] []))
  refine own_of (fun _ hh_ => XS.iloadN X0.here hx rfl (hb hby at_24) rfl hh_) ?_
  show own_Run p e below s _ _ _ (s₁.setTop (mkF m 25 #[.val (.int a1), .val (.int b1), .val (.int c1), .val (.int d1), .val (.int (own_n ka)), .val (.int (own_n kb)), .val (.int (own_n kc)), .val (.int (own_n kd)), .unset, .unset, .unset, .unset, .unset, .unset, .unset, .unset, .unset, .unset, .unset] [(.int c1)]))
  refine own_of (fun _ hh_ => XS.iconst X0.here hx rfl (hb hby at_25) hh_) ?_
  show own_Run p e below s _ _ _ (s₁.setTop (mkF m 26 #[.val (.int a1), .val (.int b1), .val (.int c1), .val (.int d1), .val (.int (own_n ka)), .val (.int (own_n kb)), .val (.int (own_n kc)), .val (.int (own_n kd)), .unset, .unset, .unset, .unset, .unset, .unset, .unset, .unset, .unset, .unset, .unset] [(.int (3 : Int32)), (.int c1)]))
  refine own_of (fun _ hh_ => XS.iand X0.here hx rfl (hb hby at_26) rfl hh_) ?_
  show own_Run p e below s _ _ _ (s₁.setTop (mkF m 27 #[.val (.int a1), .val (.int b1), .val (.int c1), .val (.int d1), .val (.int (own_n ka)), .val (.int (own_n kb)), .val (.int (own_n kc)), .val (.int (own_n kd)), .unset, .unset, .unset, .unset, .unset, .unset, .unset, .unset, .unset, .unset, .unset] [(.int (c1 &&& (3 : Int32)))]))
  obtain ⟨ke, hke, eke⟩ := own_m3 c1
  rw [eke]
  show own_Run p e below s _ _ _ (s₁.setTop (mkF m 27 #[.val (.int a1), .val (.int b1), .val (.int c1), .val (.int d1), .val (.int (own_n ka)), .val (.int (own_n kb)), .val (.int (own_n kc)), .val (.int (own_n kd)), .unset, .unset, .unset, .unset, .unset, .unset, .unset, .unset, .unset, .unset, .unset] [(.int (own_n ke))]))
  refine own_of (fun _ hh_ => XS.istore X0.here hx rfl (hb hby at_27) rfl (l' := #[.val (.int a1), .val (.int b1), .val (.int c1), .val (.int d1), .val (.int (own_n ka)), .val (.int (own_n kb)), .val (.int (own_n kc)), .val (.int (own_n kd)), .val (.int (own_n ke)), .unset, .unset, .unset, .unset, .unset, .unset, .unset, .unset, .unset, .unset]) rfl hh_) ?_
  show own_Run p e below s _ _ _ (s₁.setTop (mkF m 29 #[.val (.int a1), .val (.int b1), .val (.int c1), .val (.int d1), .val (.int (own_n ka)), .val (.int (own_n kb)), .val (.int (own_n kc)), .val (.int (own_n kd)), .val (.int (own_n ke)), .unset, .unset, .unset, .unset, .unset, .unset, .unset, .unset, .unset, .unset] []))
  refine own_of (fun _ hh_ => XS.iloadN X0.here hx rfl (hb hby at_29) rfl hh_) ?_
  show own_Run p e below s _ _ _ (s₁.setTop (mkF m 30 #[.val (.int a1), .val (.int b1), .val (.int c1), .val (.int d1), .val (.int (own_n ka)), .val (.int (own_n kb)), .val (.int (own_n kc)), .val (.int (own_n kd)), .val (.int (own_n ke)), .unset, .unset, .unset, .unset, .unset, .unset, .unset, .unset, .unset, .unset] [(.int c1)]))
  refine own_of (fun _ hh_ => XS.iconst X0.here hx rfl (hb hby at_30) hh_) ?_
  show own_Run p e below s _ _ _ (s₁.setTop (mkF m 31 #[.val (.int a1), .val (.int b1), .val (.int c1), .val (.int d1), .val (.int (own_n ka)), .val (.int (own_n kb)), .val (.int (own_n kc)), .val (.int (own_n kd)), .val (.int (own_n ke)), .unset, .unset, .unset, .unset, .unset, .unset, .unset, .unset, .unset, .unset] [(.int (2 : Int32)), (.int c1)]))
  refine own_of (fun _ hh_ => XS.iushr X0.here hx rfl (hb hby at_31) rfl hh_) ?_
  show own_Run p e below s _ _ _ (s₁.setTop (mkF m 32 #[.val (.int a1), .val (.int b1), .val (.int c1), .val (.int d1), .val (.int (own_n ka)), .val (.int (own_n kb)), .val (.int (own_n kc)), .val (.int (own_n kd)), .val (.int (own_n ke)), .unset, .unset, .unset, .unset, .unset, .unset, .unset, .unset, .unset, .unset] [(.int ((c1.toUInt32 >>> ((2 : Int32) &&& 31).toUInt32).toInt32))]))
  refine own_of (fun _ hh_ => XS.iconst X0.here hx rfl (hb hby at_32) hh_) ?_
  show own_Run p e below s _ _ _ (s₁.setTop (mkF m 33 #[.val (.int a1), .val (.int b1), .val (.int c1), .val (.int d1), .val (.int (own_n ka)), .val (.int (own_n kb)), .val (.int (own_n kc)), .val (.int (own_n kd)), .val (.int (own_n ke)), .unset, .unset, .unset, .unset, .unset, .unset, .unset, .unset, .unset, .unset] [(.int (3 : Int32)), (.int ((c1.toUInt32 >>> ((2 : Int32) &&& 31).toUInt32).toInt32))]))
  refine own_of (fun _ hh_ => XS.iand X0.here hx rfl (hb hby at_33) rfl hh_) ?_
  show own_Run p e below s _ _ _ (s₁.setTop (mkF m 34 #[.val (.int a1), .val (.int b1), .val (.int c1), .val (.int d1), .val (.int (own_n ka)), .val (.int (own_n kb)), .val (.int (own_n kc)), .val (.int (own_n kd)), .val (.int (own_n ke)), .unset, .unset, .unset, .unset, .unset, .unset, .unset, .unset, .unset, .unset] [(.int (((c1.toUInt32 >>> ((2 : Int32) &&& 31).toUInt32).toInt32) &&& (3 : Int32)))]))
  obtain ⟨kf, hkf, ekf⟩ := own_m3 ((c1.toUInt32 >>> ((2 : Int32) &&& 31).toUInt32).toInt32)
  rw [ekf]
  show own_Run p e below s _ _ _ (s₁.setTop (mkF m 34 #[.val (.int a1), .val (.int b1), .val (.int c1), .val (.int d1), .val (.int (own_n ka)), .val (.int (own_n kb)), .val (.int (own_n kc)), .val (.int (own_n kd)), .val (.int (own_n ke)), .unset, .unset, .unset, .unset, .unset, .unset, .unset, .unset, .unset, .unset] [(.int (own_n kf))]))
  refine own_of (fun _ hh_ => XS.istore X0.here hx rfl (hb hby at_34) rfl (l' := #[.val (.int a1), .val (.int b1), .val (.int c1), .val (.int d1), .val (.int (own_n ka)), .val (.int (own_n kb)), .val (.int (own_n kc)), .val (.int (own_n kd)), .val (.int (own_n ke)), .val (.int (own_n kf)), .unset, .unset, .unset, .unset, .unset, .unset, .unset, .unset, .unset]) rfl hh_) ?_
  show own_Run p e below s _ _ _ (s₁.setTop (mkF m 36 #[.val (.int a1), .val (.int b1), .val (.int c1), .val (.int d1), .val (.int (own_n ka)), .val (.int (own_n kb)), .val (.int (own_n kc)), .val (.int (own_n kd)), .val (.int (own_n ke)), .val (.int (own_n kf)), .unset, .unset, .unset, .unset, .unset, .unset, .unset, .unset, .unset] []))
  refine own_of (fun _ hh_ => XS.iloadN X0.here hx rfl (hb hby at_36) rfl hh_) ?_
  show own_Run p e below s _ _ _ (s₁.setTop (mkF m 37 #[.val (.int a1), .val (.int b1), .val (.int c1), .val (.int d1), .val (.int (own_n ka)), .val (.int (own_n kb)), .val (.int (own_n kc)), .val (.int (own_n kd)), .val (.int (own_n ke)), .val (.int (own_n kf)), .unset, .unset, .unset, .unset, .unset, .unset, .unset, .unset, .unset] [(.int d1)]))
  refine own_of (fun _ hh_ => XS.iconst X0.here hx rfl (hb hby at_37) hh_) ?_
  show own_Run p e below s _ _ _ (s₁.setTop (mkF m 38 #[.val (.int a1), .val (.int b1), .val (.int c1), .val (.int d1), .val (.int (own_n ka)), .val (.int (own_n kb)), .val (.int (own_n kc)), .val (.int (own_n kd)), .val (.int (own_n ke)), .val (.int (own_n kf)), .unset, .unset, .unset, .unset, .unset, .unset, .unset, .unset, .unset] [(.int (3 : Int32)), (.int d1)]))
  refine own_of (fun _ hh_ => XS.iand X0.here hx rfl (hb hby at_38) rfl hh_) ?_
  show own_Run p e below s _ _ _ (s₁.setTop (mkF m 39 #[.val (.int a1), .val (.int b1), .val (.int c1), .val (.int d1), .val (.int (own_n ka)), .val (.int (own_n kb)), .val (.int (own_n kc)), .val (.int (own_n kd)), .val (.int (own_n ke)), .val (.int (own_n kf)), .unset, .unset, .unset, .unset, .unset, .unset, .unset, .unset, .unset] [(.int (d1 &&& (3 : Int32)))]))
  obtain ⟨kq, hkq, ekq⟩ := own_m3 d1
  rw [ekq]
  show own_Run p e below s _ _ _ (s₁.setTop (mkF m 39 #[.val (.int a1), .val (.int b1), .val (.int c1), .val (.int d1), .val (.int (own_n ka)), .val (.int (own_n kb)), .val (.int (own_n kc)), .val (.int (own_n kd)), .val (.int (own_n ke)), .val (.int (own_n kf)), .unset, .unset, .unset, .unset, .unset, .unset, .unset, .unset, .unset] [(.int (own_n kq))]))
  refine own_of (fun _ hh_ => XS.istore X0.here hx rfl (hb hby at_39) rfl (l' := #[.val (.int a1), .val (.int b1), .val (.int c1), .val (.int d1), .val (.int (own_n ka)), .val (.int (own_n kb)), .val (.int (own_n kc)), .val (.int (own_n kd)), .val (.int (own_n ke)), .val (.int (own_n kf)), .val (.int (own_n kq)), .unset, .unset, .unset, .unset, .unset, .unset, .unset, .unset]) rfl hh_) ?_
  show own_Run p e below s _ _ _ (s₁.setTop (mkF m 41 #[.val (.int a1), .val (.int b1), .val (.int c1), .val (.int d1), .val (.int (own_n ka)), .val (.int (own_n kb)), .val (.int (own_n kc)), .val (.int (own_n kd)), .val (.int (own_n ke)), .val (.int (own_n kf)), .val (.int (own_n kq)), .unset, .unset, .unset, .unset, .unset, .unset, .unset, .unset] []))
  refine own_of (fun _ hh_ => XS.iloadN X0.here hx rfl (hb hby at_41) rfl hh_) ?_
  show own_Run p e below s _ _ _ (s₁.setTop (mkF m 42 #[.val (.int a1), .val (.int b1), .val (.int c1), .val (.int d1), .val (.int (own_n ka)), .val (.int (own_n kb)), .val (.int (own_n kc)), .val (.int (own_n kd)), .val (.int (own_n ke)), .val (.int (own_n kf)), .val (.int (own_n kq)), .unset, .unset, .unset, .unset, .unset, .unset, .unset, .unset] [(.int d1)]))
  refine own_of (fun _ hh_ => XS.iconst X0.here hx rfl (hb hby at_42) hh_) ?_
  show own_Run p e below s _ _ _ (s₁.setTop (mkF m 43 #[.val (.int a1), .val (.int b1), .val (.int c1), .val (.int d1), .val (.int (own_n ka)), .val (.int (own_n kb)), .val (.int (own_n kc)), .val (.int (own_n kd)), .val (.int (own_n ke)), .val (.int (own_n kf)), .val (.int (own_n kq)), .unset, .unset, .unset, .unset, .unset, .unset, .unset, .unset] [(.int (2 : Int32)), (.int d1)]))
  refine own_of (fun _ hh_ => XS.iushr X0.here hx rfl (hb hby at_43) rfl hh_) ?_
  show own_Run p e below s _ _ _ (s₁.setTop (mkF m 44 #[.val (.int a1), .val (.int b1), .val (.int c1), .val (.int d1), .val (.int (own_n ka)), .val (.int (own_n kb)), .val (.int (own_n kc)), .val (.int (own_n kd)), .val (.int (own_n ke)), .val (.int (own_n kf)), .val (.int (own_n kq)), .unset, .unset, .unset, .unset, .unset, .unset, .unset, .unset] [(.int ((d1.toUInt32 >>> ((2 : Int32) &&& 31).toUInt32).toInt32))]))
  refine own_of (fun _ hh_ => XS.iconst X0.here hx rfl (hb hby at_44) hh_) ?_
  show own_Run p e below s _ _ _ (s₁.setTop (mkF m 45 #[.val (.int a1), .val (.int b1), .val (.int c1), .val (.int d1), .val (.int (own_n ka)), .val (.int (own_n kb)), .val (.int (own_n kc)), .val (.int (own_n kd)), .val (.int (own_n ke)), .val (.int (own_n kf)), .val (.int (own_n kq)), .unset, .unset, .unset, .unset, .unset, .unset, .unset, .unset] [(.int (3 : Int32)), (.int ((d1.toUInt32 >>> ((2 : Int32) &&& 31).toUInt32).toInt32))]))
  refine own_of (fun _ hh_ => XS.iand X0.here hx rfl (hb hby at_45) rfl hh_) ?_
  show own_Run p e below s _ _ _ (s₁.setTop (mkF m 46 #[.val (.int a1), .val (.int b1), .val (.int c1), .val (.int d1), .val (.int (own_n ka)), .val (.int (own_n kb)), .val (.int (own_n kc)), .val (.int (own_n kd)), .val (.int (own_n ke)), .val (.int (own_n kf)), .val (.int (own_n kq)), .unset, .unset, .unset, .unset, .unset, .unset, .unset, .unset] [(.int (((d1.toUInt32 >>> ((2 : Int32) &&& 31).toUInt32).toInt32) &&& (3 : Int32)))]))
  obtain ⟨kr, hkr, ekr⟩ := own_m3 ((d1.toUInt32 >>> ((2 : Int32) &&& 31).toUInt32).toInt32)
  rw [ekr]
  show own_Run p e below s _ _ _ (s₁.setTop (mkF m 46 #[.val (.int a1), .val (.int b1), .val (.int c1), .val (.int d1), .val (.int (own_n ka)), .val (.int (own_n kb)), .val (.int (own_n kc)), .val (.int (own_n kd)), .val (.int (own_n ke)), .val (.int (own_n kf)), .val (.int (own_n kq)), .unset, .unset, .unset, .unset, .unset, .unset, .unset, .unset] [(.int (own_n kr))]))
  refine own_of (fun _ hh_ => XS.istore X0.here hx rfl (hb hby at_46) rfl (l' := #[.val (.int a1), .val (.int b1), .val (.int c1), .val (.int d1), .val (.int (own_n ka)), .val (.int (own_n kb)), .val (.int (own_n kc)), .val (.int (own_n kd)), .val (.int (own_n ke)), .val (.int (own_n kf)), .val (.int (own_n kq)), .val (.int (own_n kr)), .unset, .unset, .unset, .unset, .unset, .unset, .unset]) rfl hh_) ?_
  show own_Run p e below s _ _ _ (s₁.setTop (mkF m 48 #[.val (.int a1), .val (.int b1), .val (.int c1), .val (.int d1), .val (.int (own_n ka)), .val (.int (own_n kb)), .val (.int (own_n kc)), .val (.int (own_n kd)), .val (.int (own_n ke)), .val (.int (own_n kf)), .val (.int (own_n kq)), .val (.int (own_n kr)), .unset, .unset, .unset, .unset, .unset, .unset, .unset] []))
  refine own_of (fun _ hh_ => XS.iconst X0.here hx rfl (hb hby at_48) hh_) ?_
  show own_Run p e below s _ _ _ (s₁.setTop (mkF m 49 #[.val (.int a1), .val (.int b1), .val (.int c1), .val (.int d1), .val (.int (own_n ka)), .val (.int (own_n kb)), .val (.int (own_n kc)), .val (.int (own_n kd)), .val (.int (own_n ke)), .val (.int (own_n kf)), .val (.int (own_n kq)), .val (.int (own_n kr)), .unset, .unset, .unset, .unset, .unset, .unset, .unset] [(.int (4 : Int32))]))
  obtain ⟨T1, h1, k1, X1, e1, E1, A1, st1⟩ := newP X0 hx hZ (hw _ (List.mem_of_getElem? (i := 0) rfl)) e0 (g := (mkF m 49 #[.val (.int a1), .val (.int b1), .val (.int c1), .val (.int d1), .val (.int (own_n ka)), .val (.int (own_n kb)), .val (.int (own_n kc)), .val (.int (own_n kd)), .val (.int (own_n ke)), .val (.int (own_n kf)), .val (.int (own_n kq)), .val (.int (own_n kr)), .unset, .unset, .unset, .unset, .unset, .unset, .unset] [(.int (4 : Int32))])) rfl (hb hby at_49) rfl (by decide) (cap := 4) (by decide) (by decide) (by decide) (by decide)
  obtain ⟨ob1, g1⟩ : ∃ z, z = h0.size := ⟨_, rfl⟩
  rw [← g1] at A1 st1
  have g_ob1 : n0 ≤ ob1 := Nat.le_trans Z0 (Nat.le_of_eq g1.symm)
  have V1 : own_Ar Z h1 ob1 .int 4 (fun _ => 0) := own_Ar.new A1 rfl rfl
  refine own_of st1 ?_
  show own_Run p e below s _ _ _ (T1.setTop (mkF m 51 #[.val (.int a1), .val (.int b1), .val (.int c1), .val (.int d1), .val (.int (own_n ka)), .val (.int (own_n kb)), .val (.int (own_n kc)), .val (.int (own_n kd)), .val (.int (own_n ke)), .val (.int (own_n kf)), .val (.int (own_n kq)), .val (.int (own_n kr)), .unset, .unset, .unset, .unset, .unset, .unset, .unset] [(.ref ob1)]))
  refine own_of (fun _ hh_ => XS.astore X1.here hx rfl (hb hby at_51) rfl rfl (l' := #[.val (.int a1), .val (.int b1), .val (.int c1), .val (.int d1), .val (.int (own_n ka)), .val (.int (own_n kb)), .val (.int (own_n kc)), .val (.int (own_n kd)), .val (.int (own_n ke)), .val (.int (own_n kf)), .val (.int (own_n kq)), .val (.int (own_n kr)), .val (.ref ob1), .unset, .unset, .unset, .unset, .unset, .unset]) rfl hh_) ?_
  show own_Run p e below s _ _ _ (T1.setTop (mkF m 53 #[.val (.int a1), .val (.int b1), .val (.int c1), .val (.int d1), .val (.int (own_n ka)), .val (.int (own_n kb)), .val (.int (own_n kc)), .val (.int (own_n kd)), .val (.int (own_n ke)), .val (.int (own_n kf)), .val (.int (own_n kq)), .val (.int (own_n kr)), .val (.ref ob1), .unset, .unset, .unset, .unset, .unset, .unset] []))
  have MK0 : own_MK (fun _ => 0) (fun _ => 0) := fun i hi => ⟨rfl, (by decide : (0 : Nat) < 16)⟩
  refine own_of (fun _ hh_ => XS.aload X1.here hx rfl (hb hby at_53) rfl rfl hh_) ?_
  show own_Run p e below s _ _ _ (T1.setTop (mkF m 55 #[.val (.int a1), .val (.int b1), .val (.int c1), .val (.int d1), .val (.int (own_n ka)), .val (.int (own_n kb)), .val (.int (own_n kc)), .val (.int (own_n kd)), .val (.int (own_n ke)), .val (.int (own_n kf)), .val (.int (own_n kq)), .val (.int (own_n kr)), .val (.ref ob1), .unset, .unset, .unset, .unset, .unset, .unset] [(.ref ob1)]))
  refine own_of (fun _ hh_ => XS.iload X1.here hx rfl (hb hby at_55) rfl hh_) ?_
  show own_Run p e below s _ _ _ (T1.setTop (mkF m 57 #[.val (.int a1), .val (.int b1), .val (.int c1), .val (.int d1), .val (.int (own_n ka)), .val (.int (own_n kb)), .val (.int (own_n kc)), .val (.int (own_n kd)), .val (.int (own_n ke)), .val (.int (own_n kf)), .val (.int (own_n kq)), .val (.int (own_n kr)), .val (.ref ob1), .unset, .unset, .unset, .unset, .unset, .unset] [(.int (own_n ka)), (.ref ob1)]))
  refine own_of (fun _ hh_ => XS.iload X1.here hx rfl (hb hby at_57) rfl hh_) ?_
  show own_Run p e below s _ _ _ (T1.setTop (mkF m 59 #[.val (.int a1), .val (.int b1), .val (.int c1), .val (.int d1), .val (.int (own_n ka)), .val (.int (own_n kb)), .val (.int (own_n kc)), .val (.int (own_n kd)), .val (.int (own_n ke)), .val (.int (own_n kf)), .val (.int (own_n kq)), .val (.int (own_n kr)), .val (.ref ob1), .unset, .unset, .unset, .unset, .unset, .unset] [(.int (own_n kb)), (.int (own_n ka)), (.ref ob1)]))
  obtain ⟨_, _, ⟨T2, L2, k2, n2⟩, -, X2, ⟨Lc2, hQ2, l2, y2, z2⟩, st2⟩ := Jvm.LawKit.callS X1 hx (y := (⟨"com/example/cliquework/cliquework/algorithms/PartitionFindPinLaw", "link", "([III)V"⟩ : MethodName)) hown (mvT hZ (hw _ (List.mem_of_getElem? (i := 1) rfl))) (mvT hZ (hw _ (List.mem_of_getElem? (i := 2) rfl))) (mvT hZ (hw _ (List.mem_of_getElem? (i := 3) rfl))) (mvT hZ (hw _ (List.mem_of_getElem? (i := 4) rfl))) (by decide) (backOf (W := 0) (rmL l Z a0 hw [] ob1 (own_n ka) (own_n kb) ka kb (fun _ => 0) (fun _ => 0) h1 n0 (Nat.le_trans Z0 E1.1) rfl rfl hka hkb V1 MK0 g_ob1) hZ (hw _ (List.mem_of_getElem? (i := 4) rfl)) (hw _ (List.mem_of_getElem? (i := 3) rfl)) (by decide) (by decide)) (g := (mkF m 59 #[.val (.int a1), .val (.int b1), .val (.int c1), .val (.int d1), .val (.int (own_n ka)), .val (.int (own_n kb)), .val (.int (own_n kc)), .val (.int (own_n kd)), .val (.int (own_n ke)), .val (.int (own_n kf)), .val (.int (own_n kq)), .val (.int (own_n kr)), .val (.ref ob1), .unset, .unset, .unset, .unset, .unset, .unset] [(.int (own_n kb)), (.int (own_n ka)), (.ref ob1)])) rfl (by rw [hml]; rfl) (argsL := [(.ref ob1), (.int (own_n ka)), (.int (own_n kb))]) (rest := []) (lenOf own_pd3 rfl) rfl (by show 2 * 0 + _ ≤ _; exact Nat.le_of_eq rfl) (hb hby at_59) (fun _ _ => ⟨rfl, e1, (by decide : 1 + 0 ≤ _), (by decide : 4 + 0 ≤ _)⟩)
  dsimp only [Pt.U, Pt.locs, Pt.cells, Pt.slots] at X2 l2 y2 z2 st2 hQ2
  subst l2 y2 z2
  obtain ⟨rfl, N2q, K2, fm2, V2, MK2⟩ := hQ2
  have N2 := Fr.app N0 N2q
  refine own_of st2 ?_
  show own_Run p e below s _ _ _ (T2.setTop (mkF m 62 #[.val (.int a1), .val (.int b1), .val (.int c1), .val (.int d1), .val (.int (own_n ka)), .val (.int (own_n kb)), .val (.int (own_n kc)), .val (.int (own_n kd)), .val (.int (own_n ke)), .val (.int (own_n kf)), .val (.int (own_n kq)), .val (.int (own_n kr)), .val (.ref ob1), .unset, .unset, .unset, .unset, .unset, .unset] []))
  refine own_of (fun _ hh_ => XS.aload X2.here hx rfl (hb hby at_62) rfl rfl hh_) ?_
  show own_Run p e below s _ _ _ (T2.setTop (mkF m 64 #[.val (.int a1), .val (.int b1), .val (.int c1), .val (.int d1), .val (.int (own_n ka)), .val (.int (own_n kb)), .val (.int (own_n kc)), .val (.int (own_n kd)), .val (.int (own_n ke)), .val (.int (own_n kf)), .val (.int (own_n kq)), .val (.int (own_n kr)), .val (.ref ob1), .unset, .unset, .unset, .unset, .unset, .unset] [(.ref ob1)]))
  refine own_of (fun _ hh_ => XS.iload X2.here hx rfl (hb hby at_64) rfl hh_) ?_
  show own_Run p e below s _ _ _ (T2.setTop (mkF m 66 #[.val (.int a1), .val (.int b1), .val (.int c1), .val (.int d1), .val (.int (own_n ka)), .val (.int (own_n kb)), .val (.int (own_n kc)), .val (.int (own_n kd)), .val (.int (own_n ke)), .val (.int (own_n kf)), .val (.int (own_n kq)), .val (.int (own_n kr)), .val (.ref ob1), .unset, .unset, .unset, .unset, .unset, .unset] [(.int (own_n kc)), (.ref ob1)]))
  refine own_of (fun _ hh_ => XS.iload X2.here hx rfl (hb hby at_66) rfl hh_) ?_
  show own_Run p e below s _ _ _ (T2.setTop (mkF m 68 #[.val (.int a1), .val (.int b1), .val (.int c1), .val (.int d1), .val (.int (own_n ka)), .val (.int (own_n kb)), .val (.int (own_n kc)), .val (.int (own_n kd)), .val (.int (own_n ke)), .val (.int (own_n kf)), .val (.int (own_n kq)), .val (.int (own_n kr)), .val (.ref ob1), .unset, .unset, .unset, .unset, .unset, .unset] [(.int (own_n kd)), (.int (own_n kc)), (.ref ob1)]))
  obtain ⟨_, _, ⟨T3, L3, k3, n3⟩, -, X3, ⟨Lc3, hQ3, l3, y3, z3⟩, st3⟩ := Jvm.LawKit.callS X2 hx (y := (⟨"com/example/cliquework/cliquework/algorithms/PartitionFindPinLaw", "link", "([III)V"⟩ : MethodName)) hown (mvT hZ (hw _ (List.mem_of_getElem? (i := 1) rfl))) (mvT hZ (hw _ (List.mem_of_getElem? (i := 2) rfl))) (mvT hZ (hw _ (List.mem_of_getElem? (i := 3) rfl))) (mvT hZ (hw _ (List.mem_of_getElem? (i := 4) rfl))) (by decide) (backOf (W := 0) (rmL l Z a0 hw [] ob1 (own_n kc) (own_n kd) kc kd fm2 (own_lkN (fun _ => 0) ka kb) T2.heap n0 (Nat.le_trans (Nat.le_trans Z0 E1.1) K2.1) rfl rfl hkc hkd V2 MK2 g_ob1) hZ (hw _ (List.mem_of_getElem? (i := 4) rfl)) (hw _ (List.mem_of_getElem? (i := 3) rfl)) (by decide) (by decide)) (g := (mkF m 68 #[.val (.int a1), .val (.int b1), .val (.int c1), .val (.int d1), .val (.int (own_n ka)), .val (.int (own_n kb)), .val (.int (own_n kc)), .val (.int (own_n kd)), .val (.int (own_n ke)), .val (.int (own_n kf)), .val (.int (own_n kq)), .val (.int (own_n kr)), .val (.ref ob1), .unset, .unset, .unset, .unset, .unset, .unset] [(.int (own_n kd)), (.int (own_n kc)), (.ref ob1)])) rfl (by rw [hml]; rfl) (argsL := [(.ref ob1), (.int (own_n kc)), (.int (own_n kd))]) (rest := []) (lenOf own_pd3 rfl) rfl (by show 2 * 0 + _ ≤ _; exact Nat.le_of_eq rfl) (hb hby at_68) (fun _ _ => ⟨rfl, (rfl : T2.heap = T2.heap), (by decide : 1 + 0 ≤ _), (by decide : 4 + 0 ≤ _)⟩)
  dsimp only [Pt.U, Pt.locs, Pt.cells, Pt.slots] at X3 l3 y3 z3 st3 hQ3
  subst l3 y3 z3
  obtain ⟨rfl, N3q, K3, fm3, V3, MK3⟩ := hQ3
  have N3 := Fr.app N2 N3q
  refine own_of st3 ?_
  show own_Run p e below s _ _ _ (T3.setTop (mkF m 71 #[.val (.int a1), .val (.int b1), .val (.int c1), .val (.int d1), .val (.int (own_n ka)), .val (.int (own_n kb)), .val (.int (own_n kc)), .val (.int (own_n kd)), .val (.int (own_n ke)), .val (.int (own_n kf)), .val (.int (own_n kq)), .val (.int (own_n kr)), .val (.ref ob1), .unset, .unset, .unset, .unset, .unset, .unset] []))
  refine own_of (fun _ hh_ => XS.aload X3.here hx rfl (hb hby at_71) rfl rfl hh_) ?_
  show own_Run p e below s _ _ _ (T3.setTop (mkF m 73 #[.val (.int a1), .val (.int b1), .val (.int c1), .val (.int d1), .val (.int (own_n ka)), .val (.int (own_n kb)), .val (.int (own_n kc)), .val (.int (own_n kd)), .val (.int (own_n ke)), .val (.int (own_n kf)), .val (.int (own_n kq)), .val (.int (own_n kr)), .val (.ref ob1), .unset, .unset, .unset, .unset, .unset, .unset] [(.ref ob1)]))
  refine own_of (fun _ hh_ => XS.iload X3.here hx rfl (hb hby at_73) rfl hh_) ?_
  show own_Run p e below s _ _ _ (T3.setTop (mkF m 75 #[.val (.int a1), .val (.int b1), .val (.int c1), .val (.int d1), .val (.int (own_n ka)), .val (.int (own_n kb)), .val (.int (own_n kc)), .val (.int (own_n kd)), .val (.int (own_n ke)), .val (.int (own_n kf)), .val (.int (own_n kq)), .val (.int (own_n kr)), .val (.ref ob1), .unset, .unset, .unset, .unset, .unset, .unset] [(.int (own_n ke)), (.ref ob1)]))
  refine own_of (fun _ hh_ => XS.iload X3.here hx rfl (hb hby at_75) rfl hh_) ?_
  show own_Run p e below s _ _ _ (T3.setTop (mkF m 77 #[.val (.int a1), .val (.int b1), .val (.int c1), .val (.int d1), .val (.int (own_n ka)), .val (.int (own_n kb)), .val (.int (own_n kc)), .val (.int (own_n kd)), .val (.int (own_n ke)), .val (.int (own_n kf)), .val (.int (own_n kq)), .val (.int (own_n kr)), .val (.ref ob1), .unset, .unset, .unset, .unset, .unset, .unset] [(.int (own_n kf)), (.int (own_n ke)), (.ref ob1)]))
  obtain ⟨_, _, ⟨T4, L4, k4, n4⟩, -, X4, ⟨Lc4, hQ4, l4, y4, z4⟩, st4⟩ := Jvm.LawKit.callS X3 hx (y := (⟨"com/example/cliquework/cliquework/algorithms/PartitionFindPinLaw", "link", "([III)V"⟩ : MethodName)) hown (mvT hZ (hw _ (List.mem_of_getElem? (i := 1) rfl))) (mvT hZ (hw _ (List.mem_of_getElem? (i := 2) rfl))) (mvT hZ (hw _ (List.mem_of_getElem? (i := 3) rfl))) (mvT hZ (hw _ (List.mem_of_getElem? (i := 4) rfl))) (by decide) (backOf (W := 0) (rmL l Z a0 hw [] ob1 (own_n ke) (own_n kf) ke kf fm3 (own_lkN (own_lkN (fun _ => 0) ka kb) kc kd) T3.heap n0 (Nat.le_trans (Nat.le_trans (Nat.le_trans Z0 E1.1) K2.1) K3.1) rfl rfl hke hkf V3 MK3 g_ob1) hZ (hw _ (List.mem_of_getElem? (i := 4) rfl)) (hw _ (List.mem_of_getElem? (i := 3) rfl)) (by decide) (by decide)) (g := (mkF m 77 #[.val (.int a1), .val (.int b1), .val (.int c1), .val (.int d1), .val (.int (own_n ka)), .val (.int (own_n kb)), .val (.int (own_n kc)), .val (.int (own_n kd)), .val (.int (own_n ke)), .val (.int (own_n kf)), .val (.int (own_n kq)), .val (.int (own_n kr)), .val (.ref ob1), .unset, .unset, .unset, .unset, .unset, .unset] [(.int (own_n kf)), (.int (own_n ke)), (.ref ob1)])) rfl (by rw [hml]; rfl) (argsL := [(.ref ob1), (.int (own_n ke)), (.int (own_n kf))]) (rest := []) (lenOf own_pd3 rfl) rfl (by show 2 * 0 + _ ≤ _; exact Nat.le_of_eq rfl) (hb hby at_77) (fun _ _ => ⟨rfl, (rfl : T3.heap = T3.heap), (by decide : 1 + 0 ≤ _), (by decide : 4 + 0 ≤ _)⟩)
  dsimp only [Pt.U, Pt.locs, Pt.cells, Pt.slots] at X4 l4 y4 z4 st4 hQ4
  subst l4 y4 z4
  obtain ⟨rfl, N4q, K4, fm4, V4, MK4⟩ := hQ4
  have N4 := Fr.app N3 N4q
  refine own_of st4 ?_
  show own_Run p e below s _ _ _ (T4.setTop (mkF m 80 #[.val (.int a1), .val (.int b1), .val (.int c1), .val (.int d1), .val (.int (own_n ka)), .val (.int (own_n kb)), .val (.int (own_n kc)), .val (.int (own_n kd)), .val (.int (own_n ke)), .val (.int (own_n kf)), .val (.int (own_n kq)), .val (.int (own_n kr)), .val (.ref ob1), .unset, .unset, .unset, .unset, .unset, .unset] []))
  refine own_of (fun _ hh_ => XS.aload X4.here hx rfl (hb hby at_80) rfl rfl hh_) ?_
  show own_Run p e below s _ _ _ (T4.setTop (mkF m 82 #[.val (.int a1), .val (.int b1), .val (.int c1), .val (.int d1), .val (.int (own_n ka)), .val (.int (own_n kb)), .val (.int (own_n kc)), .val (.int (own_n kd)), .val (.int (own_n ke)), .val (.int (own_n kf)), .val (.int (own_n kq)), .val (.int (own_n kr)), .val (.ref ob1), .unset, .unset, .unset, .unset, .unset, .unset] [(.ref ob1)]))
  refine own_of (fun _ hh_ => XS.iload X4.here hx rfl (hb hby at_82) rfl hh_) ?_
  show own_Run p e below s _ _ _ (T4.setTop (mkF m 84 #[.val (.int a1), .val (.int b1), .val (.int c1), .val (.int d1), .val (.int (own_n ka)), .val (.int (own_n kb)), .val (.int (own_n kc)), .val (.int (own_n kd)), .val (.int (own_n ke)), .val (.int (own_n kf)), .val (.int (own_n kq)), .val (.int (own_n kr)), .val (.ref ob1), .unset, .unset, .unset, .unset, .unset, .unset] [(.int (own_n kq)), (.ref ob1)]))
  obtain ⟨_, _, ⟨T5, L5, k5, n5⟩, -, X5, ⟨Lc5, hQ5, l5, y5, z5⟩, st5⟩ := Jvm.LawKit.callS X4 hx (y := (⟨"com/example/cliquework/cliquework/algorithms/PartitionFindPinLaw", "smallest", "([II)I"⟩ : MethodName)) hown (mvT hZ (hw _ (List.mem_of_getElem? (i := 5) rfl))) (mvT hZ (hw _ (List.mem_of_getElem? (i := 6) rfl))) (mvT hZ (hw _ (List.mem_of_getElem? (i := 3) rfl))) (mvT hZ (hw _ (List.mem_of_getElem? (i := 7) rfl))) (by decide) (backOf (W := 0) (rmS l Z a0 hw [] ob1 (own_n kq) fm4 T4.heap n0 (Nat.le_trans (Nat.le_trans (Nat.le_trans (Nat.le_trans Z0 E1.1) K2.1) K3.1) K4.1) V4) hZ (hw _ (List.mem_of_getElem? (i := 7) rfl)) (hw _ (List.mem_of_getElem? (i := 3) rfl)) (by decide) (by decide)) (g := (mkF m 84 #[.val (.int a1), .val (.int b1), .val (.int c1), .val (.int d1), .val (.int (own_n ka)), .val (.int (own_n kb)), .val (.int (own_n kc)), .val (.int (own_n kd)), .val (.int (own_n ke)), .val (.int (own_n kf)), .val (.int (own_n kq)), .val (.int (own_n kr)), .val (.ref ob1), .unset, .unset, .unset, .unset, .unset, .unset] [(.int (own_n kq)), (.ref ob1)])) rfl (by rw [hml]; rfl) (argsL := [(.ref ob1), (.int (own_n kq))]) (rest := []) (lenOf own_pd0 rfl) rfl (by show 2 * 0 + _ ≤ _; exact Nat.le_of_eq rfl) (hb hby at_84) (fun _ _ => ⟨rfl, (rfl : T4.heap = T4.heap), (by decide : 1 + 0 ≤ _), (by decide : 4 + 0 ≤ _)⟩)
  dsimp only [Pt.U, Pt.locs, Pt.cells, Pt.slots] at X5 l5 y5 z5 st5 hQ5
  subst l5 y5 z5
  obtain ⟨rfl, N5q, e5⟩ := hQ5
  have N5 := Fr.app N4 N5q
  refine own_of st5 ?_
  show own_Run p e below s _ _ _ (T5.setTop (mkF m 87 #[.val (.int a1), .val (.int b1), .val (.int c1), .val (.int d1), .val (.int (own_n ka)), .val (.int (own_n kb)), .val (.int (own_n kc)), .val (.int (own_n kd)), .val (.int (own_n ke)), .val (.int (own_n kf)), .val (.int (own_n kq)), .val (.int (own_n kr)), .val (.ref ob1), .unset, .unset, .unset, .unset, .unset, .unset] [(.int (own_pk (own_grI fm4 (own_grI fm4 (own_grI fm4 ((1 : Int32) <<< ((own_n kq) &&& 31)))))))]))
  rw [own_sm_n MK4 hkq]
  show own_Run p e below s _ _ _ (T5.setTop (mkF m 87 #[.val (.int a1), .val (.int b1), .val (.int c1), .val (.int d1), .val (.int (own_n ka)), .val (.int (own_n kb)), .val (.int (own_n kc)), .val (.int (own_n kd)), .val (.int (own_n ke)), .val (.int (own_n kf)), .val (.int (own_n kq)), .val (.int (own_n kr)), .val (.ref ob1), .unset, .unset, .unset, .unset, .unset, .unset] [(.int (own_n (own_smN (own_lkN (own_lkN (own_lkN (fun _ => 0) ka kb) kc kd) ke kf) kq)))]))
  refine own_of (fun _ hh_ => XS.istore X5.here hx rfl (hb hby at_87) rfl (l' := #[.val (.int a1), .val (.int b1), .val (.int c1), .val (.int d1), .val (.int (own_n ka)), .val (.int (own_n kb)), .val (.int (own_n kc)), .val (.int (own_n kd)), .val (.int (own_n ke)), .val (.int (own_n kf)), .val (.int (own_n kq)), .val (.int (own_n kr)), .val (.ref ob1), .val (.int (own_n (own_smN (own_lkN (own_lkN (own_lkN (fun _ => 0) ka kb) kc kd) ke kf) kq))), .unset, .unset, .unset, .unset, .unset]) rfl hh_) ?_
  show own_Run p e below s _ _ _ (T5.setTop (mkF m 89 #[.val (.int a1), .val (.int b1), .val (.int c1), .val (.int d1), .val (.int (own_n ka)), .val (.int (own_n kb)), .val (.int (own_n kc)), .val (.int (own_n kd)), .val (.int (own_n ke)), .val (.int (own_n kf)), .val (.int (own_n kq)), .val (.int (own_n kr)), .val (.ref ob1), .val (.int (own_n (own_smN (own_lkN (own_lkN (own_lkN (fun _ => 0) ka kb) kc kd) ke kf) kq))), .unset, .unset, .unset, .unset, .unset] []))
  refine own_of (fun _ hh_ => XS.aload X5.here hx rfl (hb hby at_89) rfl rfl hh_) ?_
  show own_Run p e below s _ _ _ (T5.setTop (mkF m 91 #[.val (.int a1), .val (.int b1), .val (.int c1), .val (.int d1), .val (.int (own_n ka)), .val (.int (own_n kb)), .val (.int (own_n kc)), .val (.int (own_n kd)), .val (.int (own_n ke)), .val (.int (own_n kf)), .val (.int (own_n kq)), .val (.int (own_n kr)), .val (.ref ob1), .val (.int (own_n (own_smN (own_lkN (own_lkN (own_lkN (fun _ => 0) ka kb) kc kd) ke kf) kq))), .unset, .unset, .unset, .unset, .unset] [(.ref ob1)]))
  refine own_of (fun _ hh_ => XS.iload X5.here hx rfl (hb hby at_91) rfl hh_) ?_
  show own_Run p e below s _ _ _ (T5.setTop (mkF m 93 #[.val (.int a1), .val (.int b1), .val (.int c1), .val (.int d1), .val (.int (own_n ka)), .val (.int (own_n kb)), .val (.int (own_n kc)), .val (.int (own_n kd)), .val (.int (own_n ke)), .val (.int (own_n kf)), .val (.int (own_n kq)), .val (.int (own_n kr)), .val (.ref ob1), .val (.int (own_n (own_smN (own_lkN (own_lkN (own_lkN (fun _ => 0) ka kb) kc kd) ke kf) kq))), .unset, .unset, .unset, .unset, .unset] [(.int (own_n kr)), (.ref ob1)]))
  obtain ⟨_, _, ⟨T6, L6, k6, n6⟩, -, X6, ⟨Lc6, hQ6, l6, y6, z6⟩, st6⟩ := Jvm.LawKit.callS X5 hx (y := (⟨"com/example/cliquework/cliquework/algorithms/PartitionFindPinLaw", "smallest", "([II)I"⟩ : MethodName)) hown (mvT hZ (hw _ (List.mem_of_getElem? (i := 5) rfl))) (mvT hZ (hw _ (List.mem_of_getElem? (i := 6) rfl))) (mvT hZ (hw _ (List.mem_of_getElem? (i := 3) rfl))) (mvT hZ (hw _ (List.mem_of_getElem? (i := 7) rfl))) (by decide) (backOf (W := 0) (rmS l Z a0 hw [] ob1 (own_n kr) fm4 T4.heap n0 (Nat.le_trans (Nat.le_trans (Nat.le_trans (Nat.le_trans Z0 E1.1) K2.1) K3.1) K4.1) V4) hZ (hw _ (List.mem_of_getElem? (i := 7) rfl)) (hw _ (List.mem_of_getElem? (i := 3) rfl)) (by decide) (by decide)) (g := (mkF m 93 #[.val (.int a1), .val (.int b1), .val (.int c1), .val (.int d1), .val (.int (own_n ka)), .val (.int (own_n kb)), .val (.int (own_n kc)), .val (.int (own_n kd)), .val (.int (own_n ke)), .val (.int (own_n kf)), .val (.int (own_n kq)), .val (.int (own_n kr)), .val (.ref ob1), .val (.int (own_n (own_smN (own_lkN (own_lkN (own_lkN (fun _ => 0) ka kb) kc kd) ke kf) kq))), .unset, .unset, .unset, .unset, .unset] [(.int (own_n kr)), (.ref ob1)])) rfl (by rw [hml]; rfl) (argsL := [(.ref ob1), (.int (own_n kr))]) (rest := []) (lenOf own_pd0 rfl) rfl (by show 2 * 0 + _ ≤ _; exact Nat.le_of_eq rfl) (hb hby at_93) (fun _ _ => ⟨rfl, e5, (by decide : 1 + 0 ≤ _), (by decide : 4 + 0 ≤ _)⟩)
  dsimp only [Pt.U, Pt.locs, Pt.cells, Pt.slots] at X6 l6 y6 z6 st6 hQ6
  subst l6 y6 z6
  obtain ⟨rfl, N6q, e6⟩ := hQ6
  have N6 := Fr.app N5 N6q
  refine own_of st6 ?_
  show own_Run p e below s _ _ _ (T6.setTop (mkF m 96 #[.val (.int a1), .val (.int b1), .val (.int c1), .val (.int d1), .val (.int (own_n ka)), .val (.int (own_n kb)), .val (.int (own_n kc)), .val (.int (own_n kd)), .val (.int (own_n ke)), .val (.int (own_n kf)), .val (.int (own_n kq)), .val (.int (own_n kr)), .val (.ref ob1), .val (.int (own_n (own_smN (own_lkN (own_lkN (own_lkN (fun _ => 0) ka kb) kc kd) ke kf) kq))), .unset, .unset, .unset, .unset, .unset] [(.int (own_pk (own_grI fm4 (own_grI fm4 (own_grI fm4 ((1 : Int32) <<< ((own_n kr) &&& 31)))))))]))
  rw [own_sm_n MK4 hkr]
  show own_Run p e below s _ _ _ (T6.setTop (mkF m 96 #[.val (.int a1), .val (.int b1), .val (.int c1), .val (.int d1), .val (.int (own_n ka)), .val (.int (own_n kb)), .val (.int (own_n kc)), .val (.int (own_n kd)), .val (.int (own_n ke)), .val (.int (own_n kf)), .val (.int (own_n kq)), .val (.int (own_n kr)), .val (.ref ob1), .val (.int (own_n (own_smN (own_lkN (own_lkN (own_lkN (fun _ => 0) ka kb) kc kd) ke kf) kq))), .unset, .unset, .unset, .unset, .unset] [(.int (own_n (own_smN (own_lkN (own_lkN (own_lkN (fun _ => 0) ka kb) kc kd) ke kf) kr)))]))
  refine own_of (fun _ hh_ => XS.istore X6.here hx rfl (hb hby at_96) rfl (l' := #[.val (.int a1), .val (.int b1), .val (.int c1), .val (.int d1), .val (.int (own_n ka)), .val (.int (own_n kb)), .val (.int (own_n kc)), .val (.int (own_n kd)), .val (.int (own_n ke)), .val (.int (own_n kf)), .val (.int (own_n kq)), .val (.int (own_n kr)), .val (.ref ob1), .val (.int (own_n (own_smN (own_lkN (own_lkN (own_lkN (fun _ => 0) ka kb) kc kd) ke kf) kq))), .val (.int (own_n (own_smN (own_lkN (own_lkN (own_lkN (fun _ => 0) ka kb) kc kd) ke kf) kr))), .unset, .unset, .unset, .unset]) rfl hh_) ?_
  show own_Run p e below s _ _ _ (T6.setTop (mkF m 98 #[.val (.int a1), .val (.int b1), .val (.int c1), .val (.int d1), .val (.int (own_n ka)), .val (.int (own_n kb)), .val (.int (own_n kc)), .val (.int (own_n kd)), .val (.int (own_n ke)), .val (.int (own_n kf)), .val (.int (own_n kq)), .val (.int (own_n kr)), .val (.ref ob1), .val (.int (own_n (own_smN (own_lkN (own_lkN (own_lkN (fun _ => 0) ka kb) kc kd) ke kf) kq))), .val (.int (own_n (own_smN (own_lkN (own_lkN (own_lkN (fun _ => 0) ka kb) kc kd) ke kf) kr))), .unset, .unset, .unset, .unset] []))
  obtain ⟨T7, h7, X7, e7, E7, A7, D7, -, st7⟩ := newO X6 hx hZ hown (hw _ (List.mem_of_getElem? (i := 11) rfl)) (hw _ (List.mem_of_getElem? (i := 12) rfl)) (hw _ (List.mem_of_getElem? (i := 13) rfl)) e6 (g := (mkF m 98 #[.val (.int a1), .val (.int b1), .val (.int c1), .val (.int d1), .val (.int (own_n ka)), .val (.int (own_n kb)), .val (.int (own_n kc)), .val (.int (own_n kd)), .val (.int (own_n ke)), .val (.int (own_n kf)), .val (.int (own_n kq)), .val (.int (own_n kr)), .val (.ref ob1), .val (.int (own_n (own_smN (own_lkN (own_lkN (own_lkN (fun _ => 0) ka kb) kc kd) ke kf) kq))), .val (.int (own_n (own_smN (own_lkN (own_lkN (own_lkN (fun _ => 0) ka kb) kc kd) ke kf) kr))), .unset, .unset, .unset, .unset] [])) rfl (hb hby at_98) (by decide) (by decide)
  obtain ⟨ob7, g7⟩ : ∃ z, z = T4.heap.size := ⟨_, rfl⟩
  rw [← g7] at A7 D7 st7
  have ne_ob1_ob7 : ob1 ≠ ob7 := Nat.ne_of_lt (Nat.lt_of_lt_of_le V4.lt (Nat.le_of_eq g7.symm))
  have g_ob7 : n0 ≤ ob7 := Nat.le_trans (Nat.le_trans (Nat.le_trans (Nat.le_trans (Nat.le_trans Z0 E1.1) K2.1) K3.1) K4.1) (Nat.le_of_eq g7.symm)
  have f8 := V4.ext E7
  have f9 : Fld Z h7 ob7 "com/example/cliquework/cliquework/algorithms/Partition" "parent" "[I" .null := D7 (Or.inr (hw _ (List.mem_of_getElem? (i := 21) rfl))) (ty := (.array .int)) (by decide)
  refine own_of st7 ?_
  show own_Run p e below s _ _ _ (T7.setTop (mkF m 101 #[.val (.int a1), .val (.int b1), .val (.int c1), .val (.int d1), .val (.int (own_n ka)), .val (.int (own_n kb)), .val (.int (own_n kc)), .val (.int (own_n kd)), .val (.int (own_n ke)), .val (.int (own_n kf)), .val (.int (own_n kq)), .val (.int (own_n kr)), .val (.ref ob1), .val (.int (own_n (own_smN (own_lkN (own_lkN (own_lkN (fun _ => 0) ka kb) kc kd) ke kf) kq))), .val (.int (own_n (own_smN (own_lkN (own_lkN (own_lkN (fun _ => 0) ka kb) kc kd) ke kf) kr))), .unset, .unset, .unset, .unset] [(.ref ob7)]))
  refine own_of (fun _ hh_ => XS.dup X7.here hx rfl (hb hby at_101) rfl rfl hh_) ?_
  show own_Run p e below s _ _ _ (T7.setTop (mkF m 102 #[.val (.int a1), .val (.int b1), .val (.int c1), .val (.int d1), .val (.int (own_n ka)), .val (.int (own_n kb)), .val (.int (own_n kc)), .val (.int (own_n kd)), .val (.int (own_n ke)), .val (.int (own_n kf)), .val (.int (own_n kq)), .val (.int (own_n kr)), .val (.ref ob1), .val (.int (own_n (own_smN (own_lkN (own_lkN (own_lkN (fun _ => 0) ka kb) kc kd) ke kf) kq))), .val (.int (own_n (own_smN (own_lkN (own_lkN (own_lkN (fun _ => 0) ka kb) kc kd) ke kf) kr))), .unset, .unset, .unset, .unset] [(.ref ob7), (.ref ob7)]))
  refine own_of (fun _ hh_ => XS.iconst X7.here hx rfl (hb hby at_102) hh_) ?_
  show own_Run p e below s _ _ _ (T7.setTop (mkF m 103 #[.val (.int a1), .val (.int b1), .val (.int c1), .val (.int d1), .val (.int (own_n ka)), .val (.int (own_n kb)), .val (.int (own_n kc)), .val (.int (own_n kd)), .val (.int (own_n ke)), .val (.int (own_n kf)), .val (.int (own_n kq)), .val (.int (own_n kr)), .val (.ref ob1), .val (.int (own_n (own_smN (own_lkN (own_lkN (own_lkN (fun _ => 0) ka kb) kc kd) ke kf) kq))), .val (.int (own_n (own_smN (own_lkN (own_lkN (own_lkN (fun _ => 0) ka kb) kc kd) ke kf) kr))), .unset, .unset, .unset, .unset] [(.int (4 : Int32)), (.ref ob7), (.ref ob7)]))
  obtain ⟨_, _, ⟨T10, L10, k10, n10⟩, -, X10, ⟨Lc10, hQ10, l10, y10, z10⟩, st10⟩ := X7.specialBack hx (y := (⟨"com/example/cliquework/cliquework/algorithms/Partition", "<init>", "(I)V"⟩ : MethodName)) rfl hown (mvT hZ (hw _ (List.mem_of_getElem? (i := 14) rfl))) (mvT hZ (hw _ (List.mem_of_getElem? (i := 15) rfl))) (mvT hZ (hw _ (List.mem_of_getElem? (i := 16) rfl))) (by decide) (backOf (W := 1) (rmI l Z a0 hw [] ob7 (4 : Int32) h7 n0 (Nat.le_trans (Nat.le_trans (Nat.le_trans (Nat.le_trans (Nat.le_trans Z0 E1.1) K2.1) K3.1) K4.1) E7.1) rfl A7 f9 g_ob7) hZ (hw _ (List.mem_of_getElem? (i := 16) rfl)) (hw _ (List.mem_of_getElem? (i := 13) rfl)) (by decide) (by decide)) (g := (mkF m 103 #[.val (.int a1), .val (.int b1), .val (.int c1), .val (.int d1), .val (.int (own_n ka)), .val (.int (own_n kb)), .val (.int (own_n kc)), .val (.int (own_n kd)), .val (.int (own_n ke)), .val (.int (own_n kf)), .val (.int (own_n kq)), .val (.int (own_n kr)), .val (.ref ob1), .val (.int (own_n (own_smN (own_lkN (own_lkN (own_lkN (fun _ => 0) ka kb) kc kd) ke kf) kq))), .val (.int (own_n (own_smN (own_lkN (own_lkN (own_lkN (fun _ => 0) ka kb) kc kd) ke kf) kr))), .unset, .unset, .unset, .unset] [(.int (4 : Int32)), (.ref ob7), (.ref ob7)])) rfl (by rw [hml]; rfl) (Steps.refl _) (a := ob7) (argsL := [(.int (4 : Int32))]) (rest := [(.ref ob7)]) (lenOf own_pd4 rfl) rfl (by show 2 * 0 + _ ≤ _; exact Nat.le_of_eq rfl) (hb hby at_103) (fun _ _ => ⟨rfl, e7, (by decide : 2 + 1 ≤ _), (by decide : 5 + 4 ≤ _)⟩)
  dsimp only [Pt.U, Pt.locs, Pt.cells, Pt.slots] at X10 l10 y10 z10 st10 hQ10
  subst l10 y10 z10
  obtain ⟨rfl, N10q, K10, rr10, fm10, sz10, Fp10, V10, PR10⟩ := hQ10
  have N10 := Fr.app N6 N10q
  have ne_ob1_rr10 : ob1 ≠ rr10 := Nat.ne_of_lt (Nat.lt_of_lt_of_le f8.lt sz10)
  have ne_ob7_rr10 : ob7 ≠ rr10 := Nat.ne_of_lt (Nat.lt_of_lt_of_le A7.lt sz10)
  have g_rr10 : n0 ≤ rr10 := Nat.le_trans (Nat.le_trans (Nat.le_trans (Nat.le_trans (Nat.le_trans (Nat.le_trans Z0 E1.1) K2.1) K3.1) K4.1) E7.1) sz10
  have f11 := f8.keep K10 (ninS ne_ob1_ob7 nin0)
  have f12 := A7.keep K10
  refine own_tr st10 ?_
  show own_Run p e below s _ _ _ (T10.setTop (mkF m 106 #[.val (.int a1), .val (.int b1), .val (.int c1), .val (.int d1), .val (.int (own_n ka)), .val (.int (own_n kb)), .val (.int (own_n kc)), .val (.int (own_n kd)), .val (.int (own_n ke)), .val (.int (own_n kf)), .val (.int (own_n kq)), .val (.int (own_n kr)), .val (.ref ob1), .val (.int (own_n (own_smN (own_lkN (own_lkN (own_lkN (fun _ => 0) ka kb) kc kd) ke kf) kq))), .val (.int (own_n (own_smN (own_lkN (own_lkN (own_lkN (fun _ => 0) ka kb) kc kd) ke kf) kr))), .unset, .unset, .unset, .unset] [(.ref ob7)]))
  refine own_of (fun _ hh_ => XS.astore X10.here hx rfl (hb hby at_106) rfl rfl (l' := #[.val (.int a1), .val (.int b1), .val (.int c1), .val (.int d1), .val (.int (own_n ka)), .val (.int (own_n kb)), .val (.int (own_n kc)), .val (.int (own_n kd)), .val (.int (own_n ke)), .val (.int (own_n kf)), .val (.int (own_n kq)), .val (.int (own_n kr)), .val (.ref ob1), .val (.int (own_n (own_smN (own_lkN (own_lkN (own_lkN (fun _ => 0) ka kb) kc kd) ke kf) kq))), .val (.int (own_n (own_smN (own_lkN (own_lkN (own_lkN (fun _ => 0) ka kb) kc kd) ke kf) kr))), .val (.ref ob7), .unset, .unset, .unset]) rfl hh_) ?_
  show own_Run p e below s _ _ _ (T10.setTop (mkF m 108 #[.val (.int a1), .val (.int b1), .val (.int c1), .val (.int d1), .val (.int (own_n ka)), .val (.int (own_n kb)), .val (.int (own_n kc)), .val (.int (own_n kd)), .val (.int (own_n ke)), .val (.int (own_n kf)), .val (.int (own_n kq)), .val (.int (own_n kr)), .val (.ref ob1), .val (.int (own_n (own_smN (own_lkN (own_lkN (own_lkN (fun _ => 0) ka kb) kc kd) ke kf) kq))), .val (.int (own_n (own_smN (own_lkN (own_lkN (own_lkN (fun _ => 0) ka kb) kc kd) ke kf) kr))), .val (.ref ob7), .unset, .unset, .unset] []))
  refine own_of (fun _ hh_ => XS.aload X10.here hx rfl (hb hby at_108) rfl rfl hh_) ?_
  show own_Run p e below s _ _ _ (T10.setTop (mkF m 110 #[.val (.int a1), .val (.int b1), .val (.int c1), .val (.int d1), .val (.int (own_n ka)), .val (.int (own_n kb)), .val (.int (own_n kc)), .val (.int (own_n kd)), .val (.int (own_n ke)), .val (.int (own_n kf)), .val (.int (own_n kq)), .val (.int (own_n kr)), .val (.ref ob1), .val (.int (own_n (own_smN (own_lkN (own_lkN (own_lkN (fun _ => 0) ka kb) kc kd) ke kf) kq))), .val (.int (own_n (own_smN (own_lkN (own_lkN (own_lkN (fun _ => 0) ka kb) kc kd) ke kf) kr))), .val (.ref ob7), .unset, .unset, .unset] [(.ref ob7)]))
  refine own_of (fun _ hh_ => XS.iload X10.here hx rfl (hb hby at_110) rfl hh_) ?_
  show own_Run p e below s _ _ _ (T10.setTop (mkF m 112 #[.val (.int a1), .val (.int b1), .val (.int c1), .val (.int d1), .val (.int (own_n ka)), .val (.int (own_n kb)), .val (.int (own_n kc)), .val (.int (own_n kd)), .val (.int (own_n ke)), .val (.int (own_n kf)), .val (.int (own_n kq)), .val (.int (own_n kr)), .val (.ref ob1), .val (.int (own_n (own_smN (own_lkN (own_lkN (own_lkN (fun _ => 0) ka kb) kc kd) ke kf) kq))), .val (.int (own_n (own_smN (own_lkN (own_lkN (own_lkN (fun _ => 0) ka kb) kc kd) ke kf) kr))), .val (.ref ob7), .unset, .unset, .unset] [(.int (own_n ka)), (.ref ob7)]))
  refine own_of (fun _ hh_ => XS.iload X10.here hx rfl (hb hby at_112) rfl hh_) ?_
  show own_Run p e below s _ _ _ (T10.setTop (mkF m 114 #[.val (.int a1), .val (.int b1), .val (.int c1), .val (.int d1), .val (.int (own_n ka)), .val (.int (own_n kb)), .val (.int (own_n kc)), .val (.int (own_n kd)), .val (.int (own_n ke)), .val (.int (own_n kf)), .val (.int (own_n kq)), .val (.int (own_n kr)), .val (.ref ob1), .val (.int (own_n (own_smN (own_lkN (own_lkN (own_lkN (fun _ => 0) ka kb) kc kd) ke kf) kq))), .val (.int (own_n (own_smN (own_lkN (own_lkN (own_lkN (fun _ => 0) ka kb) kc kd) ke kf) kr))), .val (.ref ob7), .unset, .unset, .unset] [(.int (own_n kb)), (.int (own_n ka)), (.ref ob7)]))
  obtain ⟨cq13, kq13, q13a, q13b, q13c⟩ := isOf hZ (rfl : T10.heap = T10.heap) f12
  obtain ⟨_, _, ⟨T13, L13, k13, n13⟩, -, X13, ⟨Lc13, hQ13, l13, y13, z13⟩, st13⟩ := X10.virtualBack hx (y := (⟨"com/example/cliquework/cliquework/algorithms/Partition", "union", "(II)Z"⟩ : MethodName)) (z := (⟨"com/example/cliquework/cliquework/algorithms/Partition", "union", "(II)Z"⟩ : MethodName)) hown (mvT hZ (hw _ (List.mem_of_getElem? (i := 22) rfl))) (mvT hZ (hw _ (List.mem_of_getElem? (i := 23) rfl))) (notFace_of_selects (args := #[]) (mvT hZ (hw _ (List.mem_of_getElem? (i := 25) rfl)))) (mvT hZ (hw _ (List.mem_of_getElem? (i := 25) rfl))) (mvT hZ (hw _ (List.mem_of_getElem? (i := 24) rfl))) (by decide) (backOf (W := 0) (rmU l Z a0 hw [] ob7 (own_n ka) (own_n kb) rr10 ka kb fm10 (fun i => i) T10.heap n0 (Nat.le_trans (Nat.le_trans (Nat.le_trans (Nat.le_trans (Nat.le_trans (Nat.le_trans Z0 E1.1) K2.1) K3.1) K4.1) E7.1) K10.1) rfl rfl hka hkb f12 Fp10 V10 PR10 g_rr10) hZ (hw _ (List.mem_of_getElem? (i := 26) rfl)) (hw _ (List.mem_of_getElem? (i := 13) rfl)) (by decide) (by decide)) q13a q13c (g := (mkF m 114 #[.val (.int a1), .val (.int b1), .val (.int c1), .val (.int d1), .val (.int (own_n ka)), .val (.int (own_n kb)), .val (.int (own_n kc)), .val (.int (own_n kd)), .val (.int (own_n ke)), .val (.int (own_n kf)), .val (.int (own_n kq)), .val (.int (own_n kr)), .val (.ref ob1), .val (.int (own_n (own_smN (own_lkN (own_lkN (own_lkN (fun _ => 0) ka kb) kc kd) ke kf) kq))), .val (.int (own_n (own_smN (own_lkN (own_lkN (own_lkN (fun _ => 0) ka kb) kc kd) ke kf) kr))), .val (.ref ob7), .unset, .unset, .unset] [(.int (own_n kb)), (.int (own_n ka)), (.ref ob7)])) rfl (by rw [hml]; rfl) (Steps.refl _) (argsL := [(.int (own_n ka)), (.int (own_n kb))]) (rest := []) (lenOf own_pd5 rfl) rfl (by show 2 * 0 + _ ≤ _; exact Nat.le_of_eq rfl) (hb hby at_114) (fun _ _ => ⟨rfl, (rfl : T10.heap = T10.heap), (by decide : 3 + 0 ≤ _), (by decide : 9 + 0 ≤ _)⟩)
  dsimp only [Pt.U, Pt.locs, Pt.cells, Pt.slots] at X13 l13 y13 z13 st13 hQ13
  subst l13 y13 z13
  obtain ⟨zz13, rfl, N13q, K13, fm13, V13, PR13⟩ := hQ13
  have N13 := Fr.app N10 N13q
  have f14 := f11.keep K13 (ninS ne_ob1_rr10 nin0)
  have f15 := f12.keep K13
  have f16 := Fp10.keep K13 (ninS ne_ob7_rr10 nin0)
  refine own_tr st13 ?_
  show own_Run p e below s _ _ _ (T13.setTop (mkF m 117 #[.val (.int a1), .val (.int b1), .val (.int c1), .val (.int d1), .val (.int (own_n ka)), .val (.int (own_n kb)), .val (.int (own_n kc)), .val (.int (own_n kd)), .val (.int (own_n ke)), .val (.int (own_n kf)), .val (.int (own_n kq)), .val (.int (own_n kr)), .val (.ref ob1), .val (.int (own_n (own_smN (own_lkN (own_lkN (own_lkN (fun _ => 0) ka kb) kc kd) ke kf) kq))), .val (.int (own_n (own_smN (own_lkN (own_lkN (own_lkN (fun _ => 0) ka kb) kc kd) ke kf) kr))), .val (.ref ob7), .unset, .unset, .unset] [(.int zz13)]))
  refine own_of (fun _ hh_ => XS.pop X13.here hx rfl (hb hby at_117) rfl rfl hh_) ?_
  show own_Run p e below s _ _ _ (T13.setTop (mkF m 118 #[.val (.int a1), .val (.int b1), .val (.int c1), .val (.int d1), .val (.int (own_n ka)), .val (.int (own_n kb)), .val (.int (own_n kc)), .val (.int (own_n kd)), .val (.int (own_n ke)), .val (.int (own_n kf)), .val (.int (own_n kq)), .val (.int (own_n kr)), .val (.ref ob1), .val (.int (own_n (own_smN (own_lkN (own_lkN (own_lkN (fun _ => 0) ka kb) kc kd) ke kf) kq))), .val (.int (own_n (own_smN (own_lkN (own_lkN (own_lkN (fun _ => 0) ka kb) kc kd) ke kf) kr))), .val (.ref ob7), .unset, .unset, .unset] []))
  refine own_of (fun _ hh_ => XS.aload X13.here hx rfl (hb hby at_118) rfl rfl hh_) ?_
  show own_Run p e below s _ _ _ (T13.setTop (mkF m 120 #[.val (.int a1), .val (.int b1), .val (.int c1), .val (.int d1), .val (.int (own_n ka)), .val (.int (own_n kb)), .val (.int (own_n kc)), .val (.int (own_n kd)), .val (.int (own_n ke)), .val (.int (own_n kf)), .val (.int (own_n kq)), .val (.int (own_n kr)), .val (.ref ob1), .val (.int (own_n (own_smN (own_lkN (own_lkN (own_lkN (fun _ => 0) ka kb) kc kd) ke kf) kq))), .val (.int (own_n (own_smN (own_lkN (own_lkN (own_lkN (fun _ => 0) ka kb) kc kd) ke kf) kr))), .val (.ref ob7), .unset, .unset, .unset] [(.ref ob7)]))
  refine own_of (fun _ hh_ => XS.iload X13.here hx rfl (hb hby at_120) rfl hh_) ?_
  show own_Run p e below s _ _ _ (T13.setTop (mkF m 122 #[.val (.int a1), .val (.int b1), .val (.int c1), .val (.int d1), .val (.int (own_n ka)), .val (.int (own_n kb)), .val (.int (own_n kc)), .val (.int (own_n kd)), .val (.int (own_n ke)), .val (.int (own_n kf)), .val (.int (own_n kq)), .val (.int (own_n kr)), .val (.ref ob1), .val (.int (own_n (own_smN (own_lkN (own_lkN (own_lkN (fun _ => 0) ka kb) kc kd) ke kf) kq))), .val (.int (own_n (own_smN (own_lkN (own_lkN (own_lkN (fun _ => 0) ka kb) kc kd) ke kf) kr))), .val (.ref ob7), .unset, .unset, .unset] [(.int (own_n kc)), (.ref ob7)]))
  refine own_of (fun _ hh_ => XS.iload X13.here hx rfl (hb hby at_122) rfl hh_) ?_
  show own_Run p e below s _ _ _ (T13.setTop (mkF m 124 #[.val (.int a1), .val (.int b1), .val (.int c1), .val (.int d1), .val (.int (own_n ka)), .val (.int (own_n kb)), .val (.int (own_n kc)), .val (.int (own_n kd)), .val (.int (own_n ke)), .val (.int (own_n kf)), .val (.int (own_n kq)), .val (.int (own_n kr)), .val (.ref ob1), .val (.int (own_n (own_smN (own_lkN (own_lkN (own_lkN (fun _ => 0) ka kb) kc kd) ke kf) kq))), .val (.int (own_n (own_smN (own_lkN (own_lkN (own_lkN (fun _ => 0) ka kb) kc kd) ke kf) kr))), .val (.ref ob7), .unset, .unset, .unset] [(.int (own_n kd)), (.int (own_n kc)), (.ref ob7)]))
  obtain ⟨cq17, kq17, q17a, q17b, q17c⟩ := isOf hZ (rfl : T13.heap = T13.heap) f15
  obtain ⟨_, _, ⟨T17, L17, k17, n17⟩, -, X17, ⟨Lc17, hQ17, l17, y17, z17⟩, st17⟩ := X13.virtualBack hx (y := (⟨"com/example/cliquework/cliquework/algorithms/Partition", "union", "(II)Z"⟩ : MethodName)) (z := (⟨"com/example/cliquework/cliquework/algorithms/Partition", "union", "(II)Z"⟩ : MethodName)) hown (mvT hZ (hw _ (List.mem_of_getElem? (i := 22) rfl))) (mvT hZ (hw _ (List.mem_of_getElem? (i := 23) rfl))) (notFace_of_selects (args := #[]) (mvT hZ (hw _ (List.mem_of_getElem? (i := 25) rfl)))) (mvT hZ (hw _ (List.mem_of_getElem? (i := 25) rfl))) (mvT hZ (hw _ (List.mem_of_getElem? (i := 24) rfl))) (by decide) (backOf (W := 0) (rmU l Z a0 hw [] ob7 (own_n kc) (own_n kd) rr10 kc kd fm13 (own_mrg (fun i => i) ka kb) T13.heap n0 (Nat.le_trans (Nat.le_trans (Nat.le_trans (Nat.le_trans (Nat.le_trans (Nat.le_trans (Nat.le_trans Z0 E1.1) K2.1) K3.1) K4.1) E7.1) K10.1) K13.1) rfl rfl hkc hkd f15 f16 V13 PR13 g_rr10) hZ (hw _ (List.mem_of_getElem? (i := 26) rfl)) (hw _ (List.mem_of_getElem? (i := 13) rfl)) (by decide) (by decide)) q17a q17c (g := (mkF m 124 #[.val (.int a1), .val (.int b1), .val (.int c1), .val (.int d1), .val (.int (own_n ka)), .val (.int (own_n kb)), .val (.int (own_n kc)), .val (.int (own_n kd)), .val (.int (own_n ke)), .val (.int (own_n kf)), .val (.int (own_n kq)), .val (.int (own_n kr)), .val (.ref ob1), .val (.int (own_n (own_smN (own_lkN (own_lkN (own_lkN (fun _ => 0) ka kb) kc kd) ke kf) kq))), .val (.int (own_n (own_smN (own_lkN (own_lkN (own_lkN (fun _ => 0) ka kb) kc kd) ke kf) kr))), .val (.ref ob7), .unset, .unset, .unset] [(.int (own_n kd)), (.int (own_n kc)), (.ref ob7)])) rfl (by rw [hml]; rfl) (Steps.refl _) (argsL := [(.int (own_n kc)), (.int (own_n kd))]) (rest := []) (lenOf own_pd5 rfl) rfl (by show 2 * 0 + _ ≤ _; exact Nat.le_of_eq rfl) (hb hby at_124) (fun _ _ => ⟨rfl, (rfl : T13.heap = T13.heap), (by decide : 3 + 0 ≤ _), (by decide : 9 + 0 ≤ _)⟩)
  dsimp only [Pt.U, Pt.locs, Pt.cells, Pt.slots] at X17 l17 y17 z17 st17 hQ17
  subst l17 y17 z17
  obtain ⟨zz17, rfl, N17q, K17, fm17, V17, PR17⟩ := hQ17
  have N17 := Fr.app N13 N17q
  have f18 := f14.keep K17 (ninS ne_ob1_rr10 nin0)
  have f19 := f15.keep K17
  have f20 := f16.keep K17 (ninS ne_ob7_rr10 nin0)
  refine own_tr st17 ?_
  show own_Run p e below s _ _ _ (T17.setTop (mkF m 127 #[.val (.int a1), .val (.int b1), .val (.int c1), .val (.int d1), .val (.int (own_n ka)), .val (.int (own_n kb)), .val (.int (own_n kc)), .val (.int (own_n kd)), .val (.int (own_n ke)), .val (.int (own_n kf)), .val (.int (own_n kq)), .val (.int (own_n kr)), .val (.ref ob1), .val (.int (own_n (own_smN (own_lkN (own_lkN (own_lkN (fun _ => 0) ka kb) kc kd) ke kf) kq))), .val (.int (own_n (own_smN (own_lkN (own_lkN (own_lkN (fun _ => 0) ka kb) kc kd) ke kf) kr))), .val (.ref ob7), .unset, .unset, .unset] [(.int zz17)]))
  refine own_of (fun _ hh_ => XS.pop X17.here hx rfl (hb hby at_127) rfl rfl hh_) ?_
  show own_Run p e below s _ _ _ (T17.setTop (mkF m 128 #[.val (.int a1), .val (.int b1), .val (.int c1), .val (.int d1), .val (.int (own_n ka)), .val (.int (own_n kb)), .val (.int (own_n kc)), .val (.int (own_n kd)), .val (.int (own_n ke)), .val (.int (own_n kf)), .val (.int (own_n kq)), .val (.int (own_n kr)), .val (.ref ob1), .val (.int (own_n (own_smN (own_lkN (own_lkN (own_lkN (fun _ => 0) ka kb) kc kd) ke kf) kq))), .val (.int (own_n (own_smN (own_lkN (own_lkN (own_lkN (fun _ => 0) ka kb) kc kd) ke kf) kr))), .val (.ref ob7), .unset, .unset, .unset] []))
  refine own_of (fun _ hh_ => XS.aload X17.here hx rfl (hb hby at_128) rfl rfl hh_) ?_
  show own_Run p e below s _ _ _ (T17.setTop (mkF m 130 #[.val (.int a1), .val (.int b1), .val (.int c1), .val (.int d1), .val (.int (own_n ka)), .val (.int (own_n kb)), .val (.int (own_n kc)), .val (.int (own_n kd)), .val (.int (own_n ke)), .val (.int (own_n kf)), .val (.int (own_n kq)), .val (.int (own_n kr)), .val (.ref ob1), .val (.int (own_n (own_smN (own_lkN (own_lkN (own_lkN (fun _ => 0) ka kb) kc kd) ke kf) kq))), .val (.int (own_n (own_smN (own_lkN (own_lkN (own_lkN (fun _ => 0) ka kb) kc kd) ke kf) kr))), .val (.ref ob7), .unset, .unset, .unset] [(.ref ob7)]))
  refine own_of (fun _ hh_ => XS.iload X17.here hx rfl (hb hby at_130) rfl hh_) ?_
  show own_Run p e below s _ _ _ (T17.setTop (mkF m 132 #[.val (.int a1), .val (.int b1), .val (.int c1), .val (.int d1), .val (.int (own_n ka)), .val (.int (own_n kb)), .val (.int (own_n kc)), .val (.int (own_n kd)), .val (.int (own_n ke)), .val (.int (own_n kf)), .val (.int (own_n kq)), .val (.int (own_n kr)), .val (.ref ob1), .val (.int (own_n (own_smN (own_lkN (own_lkN (own_lkN (fun _ => 0) ka kb) kc kd) ke kf) kq))), .val (.int (own_n (own_smN (own_lkN (own_lkN (own_lkN (fun _ => 0) ka kb) kc kd) ke kf) kr))), .val (.ref ob7), .unset, .unset, .unset] [(.int (own_n ke)), (.ref ob7)]))
  refine own_of (fun _ hh_ => XS.iload X17.here hx rfl (hb hby at_132) rfl hh_) ?_
  show own_Run p e below s _ _ _ (T17.setTop (mkF m 134 #[.val (.int a1), .val (.int b1), .val (.int c1), .val (.int d1), .val (.int (own_n ka)), .val (.int (own_n kb)), .val (.int (own_n kc)), .val (.int (own_n kd)), .val (.int (own_n ke)), .val (.int (own_n kf)), .val (.int (own_n kq)), .val (.int (own_n kr)), .val (.ref ob1), .val (.int (own_n (own_smN (own_lkN (own_lkN (own_lkN (fun _ => 0) ka kb) kc kd) ke kf) kq))), .val (.int (own_n (own_smN (own_lkN (own_lkN (own_lkN (fun _ => 0) ka kb) kc kd) ke kf) kr))), .val (.ref ob7), .unset, .unset, .unset] [(.int (own_n kf)), (.int (own_n ke)), (.ref ob7)]))
  obtain ⟨cq21, kq21, q21a, q21b, q21c⟩ := isOf hZ (rfl : T17.heap = T17.heap) f19
  obtain ⟨_, _, ⟨T21, L21, k21, n21⟩, -, X21, ⟨Lc21, hQ21, l21, y21, z21⟩, st21⟩ := X17.virtualBack hx (y := (⟨"com/example/cliquework/cliquework/algorithms/Partition", "union", "(II)Z"⟩ : MethodName)) (z := (⟨"com/example/cliquework/cliquework/algorithms/Partition", "union", "(II)Z"⟩ : MethodName)) hown (mvT hZ (hw _ (List.mem_of_getElem? (i := 22) rfl))) (mvT hZ (hw _ (List.mem_of_getElem? (i := 23) rfl))) (notFace_of_selects (args := #[]) (mvT hZ (hw _ (List.mem_of_getElem? (i := 25) rfl)))) (mvT hZ (hw _ (List.mem_of_getElem? (i := 25) rfl))) (mvT hZ (hw _ (List.mem_of_getElem? (i := 24) rfl))) (by decide) (backOf (W := 0) (rmU l Z a0 hw [] ob7 (own_n ke) (own_n kf) rr10 ke kf fm17 (own_mrg (own_mrg (fun i => i) ka kb) kc kd) T17.heap n0 (Nat.le_trans (Nat.le_trans (Nat.le_trans (Nat.le_trans (Nat.le_trans (Nat.le_trans (Nat.le_trans (Nat.le_trans Z0 E1.1) K2.1) K3.1) K4.1) E7.1) K10.1) K13.1) K17.1) rfl rfl hke hkf f19 f20 V17 PR17 g_rr10) hZ (hw _ (List.mem_of_getElem? (i := 26) rfl)) (hw _ (List.mem_of_getElem? (i := 13) rfl)) (by decide) (by decide)) q21a q21c (g := (mkF m 134 #[.val (.int a1), .val (.int b1), .val (.int c1), .val (.int d1), .val (.int (own_n ka)), .val (.int (own_n kb)), .val (.int (own_n kc)), .val (.int (own_n kd)), .val (.int (own_n ke)), .val (.int (own_n kf)), .val (.int (own_n kq)), .val (.int (own_n kr)), .val (.ref ob1), .val (.int (own_n (own_smN (own_lkN (own_lkN (own_lkN (fun _ => 0) ka kb) kc kd) ke kf) kq))), .val (.int (own_n (own_smN (own_lkN (own_lkN (own_lkN (fun _ => 0) ka kb) kc kd) ke kf) kr))), .val (.ref ob7), .unset, .unset, .unset] [(.int (own_n kf)), (.int (own_n ke)), (.ref ob7)])) rfl (by rw [hml]; rfl) (Steps.refl _) (argsL := [(.int (own_n ke)), (.int (own_n kf))]) (rest := []) (lenOf own_pd5 rfl) rfl (by show 2 * 0 + _ ≤ _; exact Nat.le_of_eq rfl) (hb hby at_134) (fun _ _ => ⟨rfl, (rfl : T17.heap = T17.heap), (by decide : 3 + 0 ≤ _), (by decide : 9 + 0 ≤ _)⟩)
  dsimp only [Pt.U, Pt.locs, Pt.cells, Pt.slots] at X21 l21 y21 z21 st21 hQ21
  subst l21 y21 z21
  obtain ⟨zz21, rfl, N21q, K21, fm21, V21, PR21⟩ := hQ21
  have N21 := Fr.app N17 N21q
  have f22 := f18.keep K21 (ninS ne_ob1_rr10 nin0)
  have f23 := f19.keep K21
  have f24 := f20.keep K21 (ninS ne_ob7_rr10 nin0)
  refine own_tr st21 ?_
  show own_Run p e below s _ _ _ (T21.setTop (mkF m 137 #[.val (.int a1), .val (.int b1), .val (.int c1), .val (.int d1), .val (.int (own_n ka)), .val (.int (own_n kb)), .val (.int (own_n kc)), .val (.int (own_n kd)), .val (.int (own_n ke)), .val (.int (own_n kf)), .val (.int (own_n kq)), .val (.int (own_n kr)), .val (.ref ob1), .val (.int (own_n (own_smN (own_lkN (own_lkN (own_lkN (fun _ => 0) ka kb) kc kd) ke kf) kq))), .val (.int (own_n (own_smN (own_lkN (own_lkN (own_lkN (fun _ => 0) ka kb) kc kd) ke kf) kr))), .val (.ref ob7), .unset, .unset, .unset] [(.int zz21)]))
  refine own_of (fun _ hh_ => XS.pop X21.here hx rfl (hb hby at_137) rfl rfl hh_) ?_
  show own_Run p e below s _ _ _ (T21.setTop (mkF m 138 #[.val (.int a1), .val (.int b1), .val (.int c1), .val (.int d1), .val (.int (own_n ka)), .val (.int (own_n kb)), .val (.int (own_n kc)), .val (.int (own_n kd)), .val (.int (own_n ke)), .val (.int (own_n kf)), .val (.int (own_n kq)), .val (.int (own_n kr)), .val (.ref ob1), .val (.int (own_n (own_smN (own_lkN (own_lkN (own_lkN (fun _ => 0) ka kb) kc kd) ke kf) kq))), .val (.int (own_n (own_smN (own_lkN (own_lkN (own_lkN (fun _ => 0) ka kb) kc kd) ke kf) kr))), .val (.ref ob7), .unset, .unset, .unset] []))
  refine own_of (fun _ hh_ => XS.aload X21.here hx rfl (hb hby at_138) rfl rfl hh_) ?_
  show own_Run p e below s _ _ _ (T21.setTop (mkF m 140 #[.val (.int a1), .val (.int b1), .val (.int c1), .val (.int d1), .val (.int (own_n ka)), .val (.int (own_n kb)), .val (.int (own_n kc)), .val (.int (own_n kd)), .val (.int (own_n ke)), .val (.int (own_n kf)), .val (.int (own_n kq)), .val (.int (own_n kr)), .val (.ref ob1), .val (.int (own_n (own_smN (own_lkN (own_lkN (own_lkN (fun _ => 0) ka kb) kc kd) ke kf) kq))), .val (.int (own_n (own_smN (own_lkN (own_lkN (own_lkN (fun _ => 0) ka kb) kc kd) ke kf) kr))), .val (.ref ob7), .unset, .unset, .unset] [(.ref ob7)]))
  refine own_of (fun _ hh_ => XS.iload X21.here hx rfl (hb hby at_140) rfl hh_) ?_
  show own_Run p e below s _ _ _ (T21.setTop (mkF m 142 #[.val (.int a1), .val (.int b1), .val (.int c1), .val (.int d1), .val (.int (own_n ka)), .val (.int (own_n kb)), .val (.int (own_n kc)), .val (.int (own_n kd)), .val (.int (own_n ke)), .val (.int (own_n kf)), .val (.int (own_n kq)), .val (.int (own_n kr)), .val (.ref ob1), .val (.int (own_n (own_smN (own_lkN (own_lkN (own_lkN (fun _ => 0) ka kb) kc kd) ke kf) kq))), .val (.int (own_n (own_smN (own_lkN (own_lkN (own_lkN (fun _ => 0) ka kb) kc kd) ke kf) kr))), .val (.ref ob7), .unset, .unset, .unset] [(.int (own_n kq)), (.ref ob7)]))
  obtain ⟨cq25, kq25, q25a, q25b, q25c⟩ := isOf hZ (rfl : T21.heap = T21.heap) f23
  obtain ⟨_, _, ⟨T25, L25, k25, n25⟩, -, X25, ⟨Lc25, hQ25, l25, y25, z25⟩, st25⟩ := X21.virtualBack hx (y := (⟨"com/example/cliquework/cliquework/algorithms/Partition", "find", "(I)I"⟩ : MethodName)) (z := (⟨"com/example/cliquework/cliquework/algorithms/Partition", "find", "(I)I"⟩ : MethodName)) hown (mvT hZ (hw _ (List.mem_of_getElem? (i := 39) rfl))) (mvT hZ (hw _ (List.mem_of_getElem? (i := 28) rfl))) (notFace_of_selects (args := #[]) (mvT hZ (hw _ (List.mem_of_getElem? (i := 30) rfl)))) (mvT hZ (hw _ (List.mem_of_getElem? (i := 30) rfl))) (mvT hZ (hw _ (List.mem_of_getElem? (i := 29) rfl))) (by decide) (backOf (W := 0) (rmF l Z a0 hw [] ob7 (own_n kq) rr10 kq fm21 (own_mrg (own_mrg (own_mrg (fun i => i) ka kb) kc kd) ke kf) T21.heap n0 (Nat.le_trans (Nat.le_trans (Nat.le_trans (Nat.le_trans (Nat.le_trans (Nat.le_trans (Nat.le_trans (Nat.le_trans (Nat.le_trans Z0 E1.1) K2.1) K3.1) K4.1) E7.1) K10.1) K13.1) K17.1) K21.1) rfl hkq f23 f24 V21 PR21 g_rr10) hZ (hw _ (List.mem_of_getElem? (i := 31) rfl)) (hw _ (List.mem_of_getElem? (i := 13) rfl)) (by decide) (by decide)) q25a q25c (g := (mkF m 142 #[.val (.int a1), .val (.int b1), .val (.int c1), .val (.int d1), .val (.int (own_n ka)), .val (.int (own_n kb)), .val (.int (own_n kc)), .val (.int (own_n kd)), .val (.int (own_n ke)), .val (.int (own_n kf)), .val (.int (own_n kq)), .val (.int (own_n kr)), .val (.ref ob1), .val (.int (own_n (own_smN (own_lkN (own_lkN (own_lkN (fun _ => 0) ka kb) kc kd) ke kf) kq))), .val (.int (own_n (own_smN (own_lkN (own_lkN (own_lkN (fun _ => 0) ka kb) kc kd) ke kf) kr))), .val (.ref ob7), .unset, .unset, .unset] [(.int (own_n kq)), (.ref ob7)])) rfl (by rw [hml]; rfl) (Steps.refl _) (argsL := [(.int (own_n kq))]) (rest := []) (lenOf own_pd1 rfl) rfl (by show 2 * 0 + _ ≤ _; exact Nat.le_of_eq rfl) (hb hby at_142) (fun _ _ => ⟨rfl, (rfl : T21.heap = T21.heap), (by decide : 3 + 0 ≤ _), (by decide : 9 + 0 ≤ _)⟩)
  dsimp only [Pt.U, Pt.locs, Pt.cells, Pt.slots] at X25 l25 y25 z25 st25 hQ25
  subst l25 y25 z25
  obtain ⟨rfl, N25q, K25, fm25, V25, PR25⟩ := hQ25
  have N25 := Fr.app N21 N25q
  have f26 := f22.keep K25 (ninS ne_ob1_rr10 nin0)
  have f27 := f23.keep K25
  have f28 := f24.keep K25 (ninS ne_ob7_rr10 nin0)
  refine own_tr st25 ?_
  show own_Run p e below s _ _ _ (T25.setTop (mkF m 145 #[.val (.int a1), .val (.int b1), .val (.int c1), .val (.int d1), .val (.int (own_n ka)), .val (.int (own_n kb)), .val (.int (own_n kc)), .val (.int (own_n kd)), .val (.int (own_n ke)), .val (.int (own_n kf)), .val (.int (own_n kq)), .val (.int (own_n kr)), .val (.ref ob1), .val (.int (own_n (own_smN (own_lkN (own_lkN (own_lkN (fun _ => 0) ka kb) kc kd) ke kf) kq))), .val (.int (own_n (own_smN (own_lkN (own_lkN (own_lkN (fun _ => 0) ka kb) kc kd) ke kf) kr))), .val (.ref ob7), .unset, .unset, .unset] [(.int (own_n ((own_mrg (own_mrg (own_mrg (fun i => i) ka kb) kc kd) ke kf) kq)))]))
  refine own_of (fun _ hh_ => XS.istore X25.here hx rfl (hb hby at_145) rfl (l' := #[.val (.int a1), .val (.int b1), .val (.int c1), .val (.int d1), .val (.int (own_n ka)), .val (.int (own_n kb)), .val (.int (own_n kc)), .val (.int (own_n kd)), .val (.int (own_n ke)), .val (.int (own_n kf)), .val (.int (own_n kq)), .val (.int (own_n kr)), .val (.ref ob1), .val (.int (own_n (own_smN (own_lkN (own_lkN (own_lkN (fun _ => 0) ka kb) kc kd) ke kf) kq))), .val (.int (own_n (own_smN (own_lkN (own_lkN (own_lkN (fun _ => 0) ka kb) kc kd) ke kf) kr))), .val (.ref ob7), .val (.int (own_n ((own_mrg (own_mrg (own_mrg (fun i => i) ka kb) kc kd) ke kf) kq))), .unset, .unset]) rfl hh_) ?_
  show own_Run p e below s _ _ _ (T25.setTop (mkF m 147 #[.val (.int a1), .val (.int b1), .val (.int c1), .val (.int d1), .val (.int (own_n ka)), .val (.int (own_n kb)), .val (.int (own_n kc)), .val (.int (own_n kd)), .val (.int (own_n ke)), .val (.int (own_n kf)), .val (.int (own_n kq)), .val (.int (own_n kr)), .val (.ref ob1), .val (.int (own_n (own_smN (own_lkN (own_lkN (own_lkN (fun _ => 0) ka kb) kc kd) ke kf) kq))), .val (.int (own_n (own_smN (own_lkN (own_lkN (own_lkN (fun _ => 0) ka kb) kc kd) ke kf) kr))), .val (.ref ob7), .val (.int (own_n ((own_mrg (own_mrg (own_mrg (fun i => i) ka kb) kc kd) ke kf) kq))), .unset, .unset] []))
  refine own_of (fun _ hh_ => XS.aload X25.here hx rfl (hb hby at_147) rfl rfl hh_) ?_
  show own_Run p e below s _ _ _ (T25.setTop (mkF m 149 #[.val (.int a1), .val (.int b1), .val (.int c1), .val (.int d1), .val (.int (own_n ka)), .val (.int (own_n kb)), .val (.int (own_n kc)), .val (.int (own_n kd)), .val (.int (own_n ke)), .val (.int (own_n kf)), .val (.int (own_n kq)), .val (.int (own_n kr)), .val (.ref ob1), .val (.int (own_n (own_smN (own_lkN (own_lkN (own_lkN (fun _ => 0) ka kb) kc kd) ke kf) kq))), .val (.int (own_n (own_smN (own_lkN (own_lkN (own_lkN (fun _ => 0) ka kb) kc kd) ke kf) kr))), .val (.ref ob7), .val (.int (own_n ((own_mrg (own_mrg (own_mrg (fun i => i) ka kb) kc kd) ke kf) kq))), .unset, .unset] [(.ref ob7)]))
  refine own_of (fun _ hh_ => XS.iload X25.here hx rfl (hb hby at_149) rfl hh_) ?_
  show own_Run p e below s _ _ _ (T25.setTop (mkF m 151 #[.val (.int a1), .val (.int b1), .val (.int c1), .val (.int d1), .val (.int (own_n ka)), .val (.int (own_n kb)), .val (.int (own_n kc)), .val (.int (own_n kd)), .val (.int (own_n ke)), .val (.int (own_n kf)), .val (.int (own_n kq)), .val (.int (own_n kr)), .val (.ref ob1), .val (.int (own_n (own_smN (own_lkN (own_lkN (own_lkN (fun _ => 0) ka kb) kc kd) ke kf) kq))), .val (.int (own_n (own_smN (own_lkN (own_lkN (own_lkN (fun _ => 0) ka kb) kc kd) ke kf) kr))), .val (.ref ob7), .val (.int (own_n ((own_mrg (own_mrg (own_mrg (fun i => i) ka kb) kc kd) ke kf) kq))), .unset, .unset] [(.int (own_n kq)), (.ref ob7)]))
  obtain ⟨cq29, kq29, q29a, q29b, q29c⟩ := isOf hZ (rfl : T25.heap = T25.heap) f27
  obtain ⟨_, _, ⟨T29, L29, k29, n29⟩, -, X29, ⟨Lc29, hQ29, l29, y29, z29⟩, st29⟩ := X25.virtualBack hx (y := (⟨"com/example/cliquework/cliquework/algorithms/Partition", "find", "(I)I"⟩ : MethodName)) (z := (⟨"com/example/cliquework/cliquework/algorithms/Partition", "find", "(I)I"⟩ : MethodName)) hown (mvT hZ (hw _ (List.mem_of_getElem? (i := 39) rfl))) (mvT hZ (hw _ (List.mem_of_getElem? (i := 28) rfl))) (notFace_of_selects (args := #[]) (mvT hZ (hw _ (List.mem_of_getElem? (i := 30) rfl)))) (mvT hZ (hw _ (List.mem_of_getElem? (i := 30) rfl))) (mvT hZ (hw _ (List.mem_of_getElem? (i := 29) rfl))) (by decide) (backOf (W := 0) (rmF l Z a0 hw [] ob7 (own_n kq) rr10 kq fm25 (own_mrg (own_mrg (own_mrg (fun i => i) ka kb) kc kd) ke kf) T25.heap n0 (Nat.le_trans (Nat.le_trans (Nat.le_trans (Nat.le_trans (Nat.le_trans (Nat.le_trans (Nat.le_trans (Nat.le_trans (Nat.le_trans (Nat.le_trans Z0 E1.1) K2.1) K3.1) K4.1) E7.1) K10.1) K13.1) K17.1) K21.1) K25.1) rfl hkq f27 f28 V25 PR25 g_rr10) hZ (hw _ (List.mem_of_getElem? (i := 31) rfl)) (hw _ (List.mem_of_getElem? (i := 13) rfl)) (by decide) (by decide)) q29a q29c (g := (mkF m 151 #[.val (.int a1), .val (.int b1), .val (.int c1), .val (.int d1), .val (.int (own_n ka)), .val (.int (own_n kb)), .val (.int (own_n kc)), .val (.int (own_n kd)), .val (.int (own_n ke)), .val (.int (own_n kf)), .val (.int (own_n kq)), .val (.int (own_n kr)), .val (.ref ob1), .val (.int (own_n (own_smN (own_lkN (own_lkN (own_lkN (fun _ => 0) ka kb) kc kd) ke kf) kq))), .val (.int (own_n (own_smN (own_lkN (own_lkN (own_lkN (fun _ => 0) ka kb) kc kd) ke kf) kr))), .val (.ref ob7), .val (.int (own_n ((own_mrg (own_mrg (own_mrg (fun i => i) ka kb) kc kd) ke kf) kq))), .unset, .unset] [(.int (own_n kq)), (.ref ob7)])) rfl (by rw [hml]; rfl) (Steps.refl _) (argsL := [(.int (own_n kq))]) (rest := []) (lenOf own_pd1 rfl) rfl (by show 2 * 0 + _ ≤ _; exact Nat.le_of_eq rfl) (hb hby at_151) (fun _ _ => ⟨rfl, (rfl : T25.heap = T25.heap), (by decide : 3 + 0 ≤ _), (by decide : 9 + 0 ≤ _)⟩)
  dsimp only [Pt.U, Pt.locs, Pt.cells, Pt.slots] at X29 l29 y29 z29 st29 hQ29
  subst l29 y29 z29
  obtain ⟨rfl, N29q, K29, fm29, V29, PR29⟩ := hQ29
  have N29 := Fr.app N25 N29q
  have f30 := f26.keep K29 (ninS ne_ob1_rr10 nin0)
  have f31 := f27.keep K29
  have f32 := f28.keep K29 (ninS ne_ob7_rr10 nin0)
  refine own_tr st29 ?_
  show own_Run p e below s _ _ _ (T29.setTop (mkF m 154 #[.val (.int a1), .val (.int b1), .val (.int c1), .val (.int d1), .val (.int (own_n ka)), .val (.int (own_n kb)), .val (.int (own_n kc)), .val (.int (own_n kd)), .val (.int (own_n ke)), .val (.int (own_n kf)), .val (.int (own_n kq)), .val (.int (own_n kr)), .val (.ref ob1), .val (.int (own_n (own_smN (own_lkN (own_lkN (own_lkN (fun _ => 0) ka kb) kc kd) ke kf) kq))), .val (.int (own_n (own_smN (own_lkN (own_lkN (own_lkN (fun _ => 0) ka kb) kc kd) ke kf) kr))), .val (.ref ob7), .val (.int (own_n ((own_mrg (own_mrg (own_mrg (fun i => i) ka kb) kc kd) ke kf) kq))), .unset, .unset] [(.int (own_n ((own_mrg (own_mrg (own_mrg (fun i => i) ka kb) kc kd) ke kf) kq)))]))
  refine own_of (fun _ hh_ => XS.istore X29.here hx rfl (hb hby at_154) rfl (l' := #[.val (.int a1), .val (.int b1), .val (.int c1), .val (.int d1), .val (.int (own_n ka)), .val (.int (own_n kb)), .val (.int (own_n kc)), .val (.int (own_n kd)), .val (.int (own_n ke)), .val (.int (own_n kf)), .val (.int (own_n kq)), .val (.int (own_n kr)), .val (.ref ob1), .val (.int (own_n (own_smN (own_lkN (own_lkN (own_lkN (fun _ => 0) ka kb) kc kd) ke kf) kq))), .val (.int (own_n (own_smN (own_lkN (own_lkN (own_lkN (fun _ => 0) ka kb) kc kd) ke kf) kr))), .val (.ref ob7), .val (.int (own_n ((own_mrg (own_mrg (own_mrg (fun i => i) ka kb) kc kd) ke kf) kq))), .val (.int (own_n ((own_mrg (own_mrg (own_mrg (fun i => i) ka kb) kc kd) ke kf) kq))), .unset]) rfl hh_) ?_
  show own_Run p e below s _ _ _ (T29.setTop (mkF m 156 #[.val (.int a1), .val (.int b1), .val (.int c1), .val (.int d1), .val (.int (own_n ka)), .val (.int (own_n kb)), .val (.int (own_n kc)), .val (.int (own_n kd)), .val (.int (own_n ke)), .val (.int (own_n kf)), .val (.int (own_n kq)), .val (.int (own_n kr)), .val (.ref ob1), .val (.int (own_n (own_smN (own_lkN (own_lkN (own_lkN (fun _ => 0) ka kb) kc kd) ke kf) kq))), .val (.int (own_n (own_smN (own_lkN (own_lkN (own_lkN (fun _ => 0) ka kb) kc kd) ke kf) kr))), .val (.ref ob7), .val (.int (own_n ((own_mrg (own_mrg (own_mrg (fun i => i) ka kb) kc kd) ke kf) kq))), .val (.int (own_n ((own_mrg (own_mrg (own_mrg (fun i => i) ka kb) kc kd) ke kf) kq))), .unset] []))
  refine own_of (fun _ hh_ => XS.aload X29.here hx rfl (hb hby at_156) rfl rfl hh_) ?_
  show own_Run p e below s _ _ _ (T29.setTop (mkF m 158 #[.val (.int a1), .val (.int b1), .val (.int c1), .val (.int d1), .val (.int (own_n ka)), .val (.int (own_n kb)), .val (.int (own_n kc)), .val (.int (own_n kd)), .val (.int (own_n ke)), .val (.int (own_n kf)), .val (.int (own_n kq)), .val (.int (own_n kr)), .val (.ref ob1), .val (.int (own_n (own_smN (own_lkN (own_lkN (own_lkN (fun _ => 0) ka kb) kc kd) ke kf) kq))), .val (.int (own_n (own_smN (own_lkN (own_lkN (own_lkN (fun _ => 0) ka kb) kc kd) ke kf) kr))), .val (.ref ob7), .val (.int (own_n ((own_mrg (own_mrg (own_mrg (fun i => i) ka kb) kc kd) ke kf) kq))), .val (.int (own_n ((own_mrg (own_mrg (own_mrg (fun i => i) ka kb) kc kd) ke kf) kq))), .unset] [(.ref ob7)]))
  refine own_of (fun _ hh_ => XS.iload X29.here hx rfl (hb hby at_158) rfl hh_) ?_
  show own_Run p e below s _ _ _ (T29.setTop (mkF m 160 #[.val (.int a1), .val (.int b1), .val (.int c1), .val (.int d1), .val (.int (own_n ka)), .val (.int (own_n kb)), .val (.int (own_n kc)), .val (.int (own_n kd)), .val (.int (own_n ke)), .val (.int (own_n kf)), .val (.int (own_n kq)), .val (.int (own_n kr)), .val (.ref ob1), .val (.int (own_n (own_smN (own_lkN (own_lkN (own_lkN (fun _ => 0) ka kb) kc kd) ke kf) kq))), .val (.int (own_n (own_smN (own_lkN (own_lkN (own_lkN (fun _ => 0) ka kb) kc kd) ke kf) kr))), .val (.ref ob7), .val (.int (own_n ((own_mrg (own_mrg (own_mrg (fun i => i) ka kb) kc kd) ke kf) kq))), .val (.int (own_n ((own_mrg (own_mrg (own_mrg (fun i => i) ka kb) kc kd) ke kf) kq))), .unset] [(.int (own_n kr)), (.ref ob7)]))
  obtain ⟨cq33, kq33, q33a, q33b, q33c⟩ := isOf hZ (rfl : T29.heap = T29.heap) f31
  obtain ⟨_, _, ⟨T33, L33, k33, n33⟩, -, X33, ⟨Lc33, hQ33, l33, y33, z33⟩, st33⟩ := X29.virtualBack hx (y := (⟨"com/example/cliquework/cliquework/algorithms/Partition", "find", "(I)I"⟩ : MethodName)) (z := (⟨"com/example/cliquework/cliquework/algorithms/Partition", "find", "(I)I"⟩ : MethodName)) hown (mvT hZ (hw _ (List.mem_of_getElem? (i := 39) rfl))) (mvT hZ (hw _ (List.mem_of_getElem? (i := 28) rfl))) (notFace_of_selects (args := #[]) (mvT hZ (hw _ (List.mem_of_getElem? (i := 30) rfl)))) (mvT hZ (hw _ (List.mem_of_getElem? (i := 30) rfl))) (mvT hZ (hw _ (List.mem_of_getElem? (i := 29) rfl))) (by decide) (backOf (W := 0) (rmF l Z a0 hw [] ob7 (own_n kr) rr10 kr fm29 (own_mrg (own_mrg (own_mrg (fun i => i) ka kb) kc kd) ke kf) T29.heap n0 (Nat.le_trans (Nat.le_trans (Nat.le_trans (Nat.le_trans (Nat.le_trans (Nat.le_trans (Nat.le_trans (Nat.le_trans (Nat.le_trans (Nat.le_trans (Nat.le_trans Z0 E1.1) K2.1) K3.1) K4.1) E7.1) K10.1) K13.1) K17.1) K21.1) K25.1) K29.1) rfl hkr f31 f32 V29 PR29 g_rr10) hZ (hw _ (List.mem_of_getElem? (i := 31) rfl)) (hw _ (List.mem_of_getElem? (i := 13) rfl)) (by decide) (by decide)) q33a q33c (g := (mkF m 160 #[.val (.int a1), .val (.int b1), .val (.int c1), .val (.int d1), .val (.int (own_n ka)), .val (.int (own_n kb)), .val (.int (own_n kc)), .val (.int (own_n kd)), .val (.int (own_n ke)), .val (.int (own_n kf)), .val (.int (own_n kq)), .val (.int (own_n kr)), .val (.ref ob1), .val (.int (own_n (own_smN (own_lkN (own_lkN (own_lkN (fun _ => 0) ka kb) kc kd) ke kf) kq))), .val (.int (own_n (own_smN (own_lkN (own_lkN (own_lkN (fun _ => 0) ka kb) kc kd) ke kf) kr))), .val (.ref ob7), .val (.int (own_n ((own_mrg (own_mrg (own_mrg (fun i => i) ka kb) kc kd) ke kf) kq))), .val (.int (own_n ((own_mrg (own_mrg (own_mrg (fun i => i) ka kb) kc kd) ke kf) kq))), .unset] [(.int (own_n kr)), (.ref ob7)])) rfl (by rw [hml]; rfl) (Steps.refl _) (argsL := [(.int (own_n kr))]) (rest := []) (lenOf own_pd1 rfl) rfl (by show 2 * 0 + _ ≤ _; exact Nat.le_of_eq rfl) (hb hby at_160) (fun _ _ => ⟨rfl, (rfl : T29.heap = T29.heap), (by decide : 3 + 0 ≤ _), (by decide : 9 + 0 ≤ _)⟩)
  dsimp only [Pt.U, Pt.locs, Pt.cells, Pt.slots] at X33 l33 y33 z33 st33 hQ33
  subst l33 y33 z33
  obtain ⟨rfl, N33q, K33, fm33, V33, PR33⟩ := hQ33
  have N33 := Fr.app N29 N33q
  have f34 := f30.keep K33 (ninS ne_ob1_rr10 nin0)
  have f35 := f31.keep K33
  have f36 := f32.keep K33 (ninS ne_ob7_rr10 nin0)
  refine own_tr st33 ?_
  show own_Run p e below s _ _ _ (T33.setTop (mkF m 163 #[.val (.int a1), .val (.int b1), .val (.int c1), .val (.int d1), .val (.int (own_n ka)), .val (.int (own_n kb)), .val (.int (own_n kc)), .val (.int (own_n kd)), .val (.int (own_n ke)), .val (.int (own_n kf)), .val (.int (own_n kq)), .val (.int (own_n kr)), .val (.ref ob1), .val (.int (own_n (own_smN (own_lkN (own_lkN (own_lkN (fun _ => 0) ka kb) kc kd) ke kf) kq))), .val (.int (own_n (own_smN (own_lkN (own_lkN (own_lkN (fun _ => 0) ka kb) kc kd) ke kf) kr))), .val (.ref ob7), .val (.int (own_n ((own_mrg (own_mrg (own_mrg (fun i => i) ka kb) kc kd) ke kf) kq))), .val (.int (own_n ((own_mrg (own_mrg (own_mrg (fun i => i) ka kb) kc kd) ke kf) kq))), .unset] [(.int (own_n ((own_mrg (own_mrg (own_mrg (fun i => i) ka kb) kc kd) ke kf) kr)))]))
  refine own_of (fun _ hh_ => XS.istore X33.here hx rfl (hb hby at_163) rfl (l' := #[.val (.int a1), .val (.int b1), .val (.int c1), .val (.int d1), .val (.int (own_n ka)), .val (.int (own_n kb)), .val (.int (own_n kc)), .val (.int (own_n kd)), .val (.int (own_n ke)), .val (.int (own_n kf)), .val (.int (own_n kq)), .val (.int (own_n kr)), .val (.ref ob1), .val (.int (own_n (own_smN (own_lkN (own_lkN (own_lkN (fun _ => 0) ka kb) kc kd) ke kf) kq))), .val (.int (own_n (own_smN (own_lkN (own_lkN (own_lkN (fun _ => 0) ka kb) kc kd) ke kf) kr))), .val (.ref ob7), .val (.int (own_n ((own_mrg (own_mrg (own_mrg (fun i => i) ka kb) kc kd) ke kf) kq))), .val (.int (own_n ((own_mrg (own_mrg (own_mrg (fun i => i) ka kb) kc kd) ke kf) kq))), .val (.int (own_n ((own_mrg (own_mrg (own_mrg (fun i => i) ka kb) kc kd) ke kf) kr)))]) rfl hh_) ?_
  show own_Run p e below s _ _ _ (T33.setTop (mkF m 165 #[.val (.int a1), .val (.int b1), .val (.int c1), .val (.int d1), .val (.int (own_n ka)), .val (.int (own_n kb)), .val (.int (own_n kc)), .val (.int (own_n kd)), .val (.int (own_n ke)), .val (.int (own_n kf)), .val (.int (own_n kq)), .val (.int (own_n kr)), .val (.ref ob1), .val (.int (own_n (own_smN (own_lkN (own_lkN (own_lkN (fun _ => 0) ka kb) kc kd) ke kf) kq))), .val (.int (own_n (own_smN (own_lkN (own_lkN (own_lkN (fun _ => 0) ka kb) kc kd) ke kf) kr))), .val (.ref ob7), .val (.int (own_n ((own_mrg (own_mrg (own_mrg (fun i => i) ka kb) kc kd) ke kf) kq))), .val (.int (own_n ((own_mrg (own_mrg (own_mrg (fun i => i) ka kb) kc kd) ke kf) kq))), .val (.int (own_n ((own_mrg (own_mrg (own_mrg (fun i => i) ka kb) kc kd) ke kf) kr)))] []))
  refine own_of (fun _ hh_ => XS.iload X33.here hx rfl (hb hby at_165) rfl hh_) ?_
  show own_Run p e below s _ _ _ (T33.setTop (mkF m 167 #[.val (.int a1), .val (.int b1), .val (.int c1), .val (.int d1), .val (.int (own_n ka)), .val (.int (own_n kb)), .val (.int (own_n kc)), .val (.int (own_n kd)), .val (.int (own_n ke)), .val (.int (own_n kf)), .val (.int (own_n kq)), .val (.int (own_n kr)), .val (.ref ob1), .val (.int (own_n (own_smN (own_lkN (own_lkN (own_lkN (fun _ => 0) ka kb) kc kd) ke kf) kq))), .val (.int (own_n (own_smN (own_lkN (own_lkN (own_lkN (fun _ => 0) ka kb) kc kd) ke kf) kr))), .val (.ref ob7), .val (.int (own_n ((own_mrg (own_mrg (own_mrg (fun i => i) ka kb) kc kd) ke kf) kq))), .val (.int (own_n ((own_mrg (own_mrg (own_mrg (fun i => i) ka kb) kc kd) ke kf) kq))), .val (.int (own_n ((own_mrg (own_mrg (own_mrg (fun i => i) ka kb) kc kd) ke kf) kr)))] [(.int (own_n ((own_mrg (own_mrg (own_mrg (fun i => i) ka kb) kc kd) ke kf) kq)))]))
  refine own_of (fun _ hh_ => XS.iload X33.here hx rfl (hb hby at_167) rfl hh_) ?_
  show own_Run p e below s _ _ _ (T33.setTop (mkF m 169 #[.val (.int a1), .val (.int b1), .val (.int c1), .val (.int d1), .val (.int (own_n ka)), .val (.int (own_n kb)), .val (.int (own_n kc)), .val (.int (own_n kd)), .val (.int (own_n ke)), .val (.int (own_n kf)), .val (.int (own_n kq)), .val (.int (own_n kr)), .val (.ref ob1), .val (.int (own_n (own_smN (own_lkN (own_lkN (own_lkN (fun _ => 0) ka kb) kc kd) ke kf) kq))), .val (.int (own_n (own_smN (own_lkN (own_lkN (own_lkN (fun _ => 0) ka kb) kc kd) ke kf) kr))), .val (.ref ob7), .val (.int (own_n ((own_mrg (own_mrg (own_mrg (fun i => i) ka kb) kc kd) ke kf) kq))), .val (.int (own_n ((own_mrg (own_mrg (own_mrg (fun i => i) ka kb) kc kd) ke kf) kq))), .val (.int (own_n ((own_mrg (own_mrg (own_mrg (fun i => i) ka kb) kc kd) ke kf) kr)))] [(.int (own_n (own_smN (own_lkN (own_lkN (own_lkN (fun _ => 0) ka kb) kc kd) ke kf) kq))), (.int (own_n ((own_mrg (own_mrg (own_mrg (fun i => i) ka kb) kc kd) ke kf) kq)))]))
  have hc169_37 : (own_n ((own_mrg (own_mrg (own_mrg (fun i => i) ka kb) kc kd) ke kf) kq)) = (own_n (own_smN (own_lkN (own_lkN (own_lkN (fun _ => 0) ka kb) kc kd) ke kf) kq)) := congrArg own_n (own_fin ka hka kb hkb kc hkc kd hkd ke hke kf hkf kq hkq)
  refine own_of (fun _ hh_ => XS.icmpNo X33.here hx rfl (hb hby at_169) rfl (teq hc169_37).2 hh_) ?_
  show own_Run p e below s _ _ _ (T33.setTop (mkF m 172 #[.val (.int a1), .val (.int b1), .val (.int c1), .val (.int d1), .val (.int (own_n ka)), .val (.int (own_n kb)), .val (.int (own_n kc)), .val (.int (own_n kd)), .val (.int (own_n ke)), .val (.int (own_n kf)), .val (.int (own_n kq)), .val (.int (own_n kr)), .val (.ref ob1), .val (.int (own_n (own_smN (own_lkN (own_lkN (own_lkN (fun _ => 0) ka kb) kc kd) ke kf) kq))), .val (.int (own_n (own_smN (own_lkN (own_lkN (own_lkN (fun _ => 0) ka kb) kc kd) ke kf) kr))), .val (.ref ob7), .val (.int (own_n ((own_mrg (own_mrg (own_mrg (fun i => i) ka kb) kc kd) ke kf) kq))), .val (.int (own_n ((own_mrg (own_mrg (own_mrg (fun i => i) ka kb) kc kd) ke kf) kq))), .val (.int (own_n ((own_mrg (own_mrg (own_mrg (fun i => i) ka kb) kc kd) ke kf) kr)))] []))
  refine own_of (fun _ hh_ => XS.iload X33.here hx rfl (hb hby at_172) rfl hh_) ?_
  show own_Run p e below s _ _ _ (T33.setTop (mkF m 174 #[.val (.int a1), .val (.int b1), .val (.int c1), .val (.int d1), .val (.int (own_n ka)), .val (.int (own_n kb)), .val (.int (own_n kc)), .val (.int (own_n kd)), .val (.int (own_n ke)), .val (.int (own_n kf)), .val (.int (own_n kq)), .val (.int (own_n kr)), .val (.ref ob1), .val (.int (own_n (own_smN (own_lkN (own_lkN (own_lkN (fun _ => 0) ka kb) kc kd) ke kf) kq))), .val (.int (own_n (own_smN (own_lkN (own_lkN (own_lkN (fun _ => 0) ka kb) kc kd) ke kf) kr))), .val (.ref ob7), .val (.int (own_n ((own_mrg (own_mrg (own_mrg (fun i => i) ka kb) kc kd) ke kf) kq))), .val (.int (own_n ((own_mrg (own_mrg (own_mrg (fun i => i) ka kb) kc kd) ke kf) kq))), .val (.int (own_n ((own_mrg (own_mrg (own_mrg (fun i => i) ka kb) kc kd) ke kf) kr)))] [(.int (own_n ((own_mrg (own_mrg (own_mrg (fun i => i) ka kb) kc kd) ke kf) kq)))]))
  refine own_of (fun _ hh_ => XS.iload X33.here hx rfl (hb hby at_174) rfl hh_) ?_
  show own_Run p e below s _ _ _ (T33.setTop (mkF m 176 #[.val (.int a1), .val (.int b1), .val (.int c1), .val (.int d1), .val (.int (own_n ka)), .val (.int (own_n kb)), .val (.int (own_n kc)), .val (.int (own_n kd)), .val (.int (own_n ke)), .val (.int (own_n kf)), .val (.int (own_n kq)), .val (.int (own_n kr)), .val (.ref ob1), .val (.int (own_n (own_smN (own_lkN (own_lkN (own_lkN (fun _ => 0) ka kb) kc kd) ke kf) kq))), .val (.int (own_n (own_smN (own_lkN (own_lkN (own_lkN (fun _ => 0) ka kb) kc kd) ke kf) kr))), .val (.ref ob7), .val (.int (own_n ((own_mrg (own_mrg (own_mrg (fun i => i) ka kb) kc kd) ke kf) kq))), .val (.int (own_n ((own_mrg (own_mrg (own_mrg (fun i => i) ka kb) kc kd) ke kf) kq))), .val (.int (own_n ((own_mrg (own_mrg (own_mrg (fun i => i) ka kb) kc kd) ke kf) kr)))] [(.int (own_n (own_smN (own_lkN (own_lkN (own_lkN (fun _ => 0) ka kb) kc kd) ke kf) kq))), (.int (own_n ((own_mrg (own_mrg (own_mrg (fun i => i) ka kb) kc kd) ke kf) kq)))]))
  have hc176_38 : (own_n ((own_mrg (own_mrg (own_mrg (fun i => i) ka kb) kc kd) ke kf) kq)) = (own_n (own_smN (own_lkN (own_lkN (own_lkN (fun _ => 0) ka kb) kc kd) ke kf) kq)) := congrArg own_n (own_fin ka hka kb hkb kc hkc kd hkd ke hke kf hkf kq hkq)
  refine own_of (fun _ hh_ => XS.icmpNo X33.here hx rfl (hb hby at_176) rfl (teq hc176_38).2 hh_) ?_
  show own_Run p e below s _ _ _ (T33.setTop (mkF m 179 #[.val (.int a1), .val (.int b1), .val (.int c1), .val (.int d1), .val (.int (own_n ka)), .val (.int (own_n kb)), .val (.int (own_n kc)), .val (.int (own_n kd)), .val (.int (own_n ke)), .val (.int (own_n kf)), .val (.int (own_n kq)), .val (.int (own_n kr)), .val (.ref ob1), .val (.int (own_n (own_smN (own_lkN (own_lkN (own_lkN (fun _ => 0) ka kb) kc kd) ke kf) kq))), .val (.int (own_n (own_smN (own_lkN (own_lkN (own_lkN (fun _ => 0) ka kb) kc kd) ke kf) kr))), .val (.ref ob7), .val (.int (own_n ((own_mrg (own_mrg (own_mrg (fun i => i) ka kb) kc kd) ke kf) kq))), .val (.int (own_n ((own_mrg (own_mrg (own_mrg (fun i => i) ka kb) kc kd) ke kf) kq))), .val (.int (own_n ((own_mrg (own_mrg (own_mrg (fun i => i) ka kb) kc kd) ke kf) kr)))] []))
  refine own_of (fun _ hh_ => XS.iload X33.here hx rfl (hb hby at_179) rfl hh_) ?_
  show own_Run p e below s _ _ _ (T33.setTop (mkF m 181 #[.val (.int a1), .val (.int b1), .val (.int c1), .val (.int d1), .val (.int (own_n ka)), .val (.int (own_n kb)), .val (.int (own_n kc)), .val (.int (own_n kd)), .val (.int (own_n ke)), .val (.int (own_n kf)), .val (.int (own_n kq)), .val (.int (own_n kr)), .val (.ref ob1), .val (.int (own_n (own_smN (own_lkN (own_lkN (own_lkN (fun _ => 0) ka kb) kc kd) ke kf) kq))), .val (.int (own_n (own_smN (own_lkN (own_lkN (own_lkN (fun _ => 0) ka kb) kc kd) ke kf) kr))), .val (.ref ob7), .val (.int (own_n ((own_mrg (own_mrg (own_mrg (fun i => i) ka kb) kc kd) ke kf) kq))), .val (.int (own_n ((own_mrg (own_mrg (own_mrg (fun i => i) ka kb) kc kd) ke kf) kq))), .val (.int (own_n ((own_mrg (own_mrg (own_mrg (fun i => i) ka kb) kc kd) ke kf) kr)))] [(.int (own_n ((own_mrg (own_mrg (own_mrg (fun i => i) ka kb) kc kd) ke kf) kr)))]))
  refine own_of (fun _ hh_ => XS.iload X33.here hx rfl (hb hby at_181) rfl hh_) ?_
  show own_Run p e below s _ _ _ (T33.setTop (mkF m 183 #[.val (.int a1), .val (.int b1), .val (.int c1), .val (.int d1), .val (.int (own_n ka)), .val (.int (own_n kb)), .val (.int (own_n kc)), .val (.int (own_n kd)), .val (.int (own_n ke)), .val (.int (own_n kf)), .val (.int (own_n kq)), .val (.int (own_n kr)), .val (.ref ob1), .val (.int (own_n (own_smN (own_lkN (own_lkN (own_lkN (fun _ => 0) ka kb) kc kd) ke kf) kq))), .val (.int (own_n (own_smN (own_lkN (own_lkN (own_lkN (fun _ => 0) ka kb) kc kd) ke kf) kr))), .val (.ref ob7), .val (.int (own_n ((own_mrg (own_mrg (own_mrg (fun i => i) ka kb) kc kd) ke kf) kq))), .val (.int (own_n ((own_mrg (own_mrg (own_mrg (fun i => i) ka kb) kc kd) ke kf) kq))), .val (.int (own_n ((own_mrg (own_mrg (own_mrg (fun i => i) ka kb) kc kd) ke kf) kr)))] [(.int (own_n (own_smN (own_lkN (own_lkN (own_lkN (fun _ => 0) ka kb) kc kd) ke kf) kr))), (.int (own_n ((own_mrg (own_mrg (own_mrg (fun i => i) ka kb) kc kd) ke kf) kr)))]))
  have hc183_39 : (own_n ((own_mrg (own_mrg (own_mrg (fun i => i) ka kb) kc kd) ke kf) kr)) = (own_n (own_smN (own_lkN (own_lkN (own_lkN (fun _ => 0) ka kb) kc kd) ke kf) kr)) := congrArg own_n (own_fin ka hka kb hkb kc hkc kd hkd ke hke kf hkf kr hkr)
  refine own_of (fun _ hh_ => XS.icmpNo X33.here hx rfl (hb hby at_183) rfl (teq hc183_39).2 hh_) ?_
  show own_Run p e below s _ _ _ (T33.setTop (mkF m 186 #[.val (.int a1), .val (.int b1), .val (.int c1), .val (.int d1), .val (.int (own_n ka)), .val (.int (own_n kb)), .val (.int (own_n kc)), .val (.int (own_n kd)), .val (.int (own_n ke)), .val (.int (own_n kf)), .val (.int (own_n kq)), .val (.int (own_n kr)), .val (.ref ob1), .val (.int (own_n (own_smN (own_lkN (own_lkN (own_lkN (fun _ => 0) ka kb) kc kd) ke kf) kq))), .val (.int (own_n (own_smN (own_lkN (own_lkN (own_lkN (fun _ => 0) ka kb) kc kd) ke kf) kr))), .val (.ref ob7), .val (.int (own_n ((own_mrg (own_mrg (own_mrg (fun i => i) ka kb) kc kd) ke kf) kq))), .val (.int (own_n ((own_mrg (own_mrg (own_mrg (fun i => i) ka kb) kc kd) ke kf) kq))), .val (.int (own_n ((own_mrg (own_mrg (own_mrg (fun i => i) ka kb) kc kd) ke kf) kr)))] []))
  refine own_of (fun _ hh_ => XS.iconst X33.here hx rfl (hb hby at_186) hh_) ?_
  show own_Run p e below s _ _ _ (T33.setTop (mkF m 187 #[.val (.int a1), .val (.int b1), .val (.int c1), .val (.int d1), .val (.int (own_n ka)), .val (.int (own_n kb)), .val (.int (own_n kc)), .val (.int (own_n kd)), .val (.int (own_n ke)), .val (.int (own_n kf)), .val (.int (own_n kq)), .val (.int (own_n kr)), .val (.ref ob1), .val (.int (own_n (own_smN (own_lkN (own_lkN (own_lkN (fun _ => 0) ka kb) kc kd) ke kf) kq))), .val (.int (own_n (own_smN (own_lkN (own_lkN (own_lkN (fun _ => 0) ka kb) kc kd) ke kf) kr))), .val (.ref ob7), .val (.int (own_n ((own_mrg (own_mrg (own_mrg (fun i => i) ka kb) kc kd) ke kf) kq))), .val (.int (own_n ((own_mrg (own_mrg (own_mrg (fun i => i) ka kb) kc kd) ke kf) kq))), .val (.int (own_n ((own_mrg (own_mrg (own_mrg (fun i => i) ka kb) kc kd) ke kf) kr)))] [(.int (1 : Int32))]))
  refine own_of (fun _ hh_ => XS.goto X33.here hx rfl (pc0 := 187) (pc' := 191) rfl (hb hby at_187) (by decide) (by decide) hh_) ?_
  show own_Run p e below s _ _ _ (T33.setTop (mkF m 191 #[.val (.int a1), .val (.int b1), .val (.int c1), .val (.int d1), .val (.int (own_n ka)), .val (.int (own_n kb)), .val (.int (own_n kc)), .val (.int (own_n kd)), .val (.int (own_n ke)), .val (.int (own_n kf)), .val (.int (own_n kq)), .val (.int (own_n kr)), .val (.ref ob1), .val (.int (own_n (own_smN (own_lkN (own_lkN (own_lkN (fun _ => 0) ka kb) kc kd) ke kf) kq))), .val (.int (own_n (own_smN (own_lkN (own_lkN (own_lkN (fun _ => 0) ka kb) kc kd) ke kf) kr))), .val (.ref ob7), .val (.int (own_n ((own_mrg (own_mrg (own_mrg (fun i => i) ka kb) kc kd) ke kf) kq))), .val (.int (own_n ((own_mrg (own_mrg (own_mrg (fun i => i) ka kb) kc kd) ke kf) kq))), .val (.int (own_n ((own_mrg (own_mrg (own_mrg (fun i => i) ka kb) kc kd) ke kf) kr)))] [(.int (1 : Int32))]))
  exact own_retN X33 hx (t := .boolean) hret hlk (by simp) (hb hby at_191) ⟨rfl, N33⟩ (by decide) (by decide)
set_option maxRecDepth 65536 in
set_option maxHeartbeats 40000000 in
theorem comes_1 {Post : Tables → Env → Array Value → State → Outcome → State → Prop} (hpost : ∀ tb e args s v u, (limb_1_1.after args s (.returned v) u = true ∧ limb_1_2.after args s (.returned v) u = true ∧ True) → FrameEnd s (.returned v) u (Jvm.fieldLocs frame_1_writes args s ++ Jvm.arrayLocs frame_1_arrays args s ++ Jvm.staticLocs frame_1_statics s) 16 128 → Post tb e args s (.returned v) u) :
    ArmFor flags0 classFile x code maxLocals ret World_1 tables_1 room_1 Calls_1 rest_1 Pre_1 Post := by
  intro l hfl _ _ p e ha hc hk s m args below hf hA hF happ hP
  obtain ⟨hcalls, hrest, hpre⟩ := hP
  obtain ⟨-, -, -, hnamed, -, -, -, hat⟩ := (Spec.applies_iff hf).mp happ
  obtain ⟨hg, hn⟩ := and_e (Cond.before_iff.mp (show (Jvm.Cond.and given_1 narrow_1).before args s = true from hpre))
  obtain ⟨gg1, gg2⟩ := and_e hg
  obtain ⟨gg3, gg4⟩ := and_e gg2
  obtain ⟨gg5, gg6⟩ := and_e gg4
  obtain ⟨gg7, gg8⟩ := and_e gg6
  obtain ⟨w0, w1, w2, w3, rfl⟩ : ∃ w0 w1 w2 w3 : Value, args = #[w0, w1, w2, w3] := by
    have hs : args.size = 4 := by simpa [Cond.value, given_1] using gg1
    obtain ⟨L⟩ := args
    match L, hs with
    | [w0, w1, w2, w3], _ => exact ⟨w0, w1, w2, w3, rfl⟩
  have hw := fun d (hd : d ∈ tables_1) => atoms_spec (ws := Jvm.Cond.code x code maxLocals ret :: tables_1) hat d (List.mem_cons_of_mem _ hd)
  obtain ⟨i0, ei0⟩ := is_v gg3
  obtain rfl : w0 = (.int i0) := Option.some.inj ei0
  obtain ⟨i1, ei1⟩ := is_v gg5
  obtain rfl : w1 = (.int i1) := Option.some.inj ei1
  obtain ⟨i2, ei2⟩ := is_v gg7
  obtain rfl : w2 = (.int i2) := Option.some.inj ei2
  obtain ⟨i3, ei3⟩ := is_v gg8
  obtain rfl : w3 = (.int i3) := Option.some.inj ei3
  obtain ⟨n, o, h1, h2, h3, _, L, rfl, ⟨rfl, N⟩, hq⟩ := rm0 l s _ hw tables_1 i0 i1 i2 i3  s.heap s.heap.size (Nat.le_refl _)  p e ha hc hk s m _ below hf ((Spec.applies_iff_loose hf).mp happ).1 ⟨rfl, State.Warmed39.refl s, rfl⟩ trivial
  refine ⟨n, _, h1, h2, h3, hpost _ _ _ _ _ _ ⟨Cond.after_iff.mpr rfl, Cond.after_iff.mpr (eq_i res_at (Term.int_eval (1)) rfl), trivial⟩ ⟨hq.1, hq.2.1, (hq.2.2.sift fun y hy => Or.inr (N y hy)).mono (by decide) (by decide)⟩⟩
theorem main_1_1 : Claimed_1_1 := comes_1 fun _ _ _ _ _ _ h hF => ⟨h.1, hF⟩
theorem main_1_2 : Claimed_1_2 := comes_1 fun _ _ _ _ _ _ h hF => ⟨h.2.1, hF⟩
end Jvm.Pilot.@@N@@
namespace Jvm.Pilot.@@N@@
open Jvm Jvm.ClassFile Sem Op Lib Jvm.Free Jvm.Stand Jvm.Pilot.@@N@@.Jvm.D
/-! MADE BY PROGRAM (witnessworld.py) out of the Statement's table words and the real class files: 10 classes; the members and pool entries that the words name. The judged class is class 1, her method 1. -/
namespace start1
open Jvm.ClassFile
def u (s : String) : CpInfo := .utf8 (stringToUtf16 s)
/-- a pool by its gaps: so many unusable entries, then the entry; so many at the end -/
def gap : Nat → List CpInfo → List CpInfo
  | 0, r => r
  | n + 1, r => .unusable :: gap n r
def poolList (es : List (Nat × CpInfo)) (last : Nat) : List CpInfo := es.foldr (fun e r => gap e.1 (e.2 :: r)) (gap last [])
def pool (es : List (Nat × CpInfo)) (last : Nat) : Array CpInfo := ⟨poolList es last⟩
def fileOf (pool : Array CpInfo) (this : Nat) (attrs : Array Attribute := #[]) (ms : Array MethodInfo := #[]) (fl : Nat := 33) (sup : Nat := 0) (ifs : Array Nat := #[]) (fds : Array FieldInfo := #[]) : ClassFile where
  minorVersion := 0
  majorVersion := 65
  constantPool := pool
  accessFlags := fl
  thisClass := this
  superClass := sup
  interfaces := ifs
  fields := fds
  methods := ms
  attributes := attrs
def plain (name : String) (sup : Option ClassId) : Class where
  name := name
  kind := .ordinary
  loader := none
  accessFlags := 33
  super := sup
  interfaces := #[]
  cf := none
  fields := #[]
  methods := #[]
  instanceTypes := #[]
  staticTypes := #[]
  resolved := #[]
  callSites := []
  init := .initialized
  statics := none
  mirror := none

def pool0 : Array CpInfo := pool [(5, u "<init>"), (0, u "()V"), (1, .class_ 10), (1, u "java/lang/Object")] 113

def k0c0 : Code := { maxStack := 0, maxLocals := 1, code := object_method_1_code, exceptionTable := #[], attributes := #[] }
def k0m0 : Method := { name := "<init>", desc := "()V", sig := { parameters := [], returnType := none }, accessFlags := 1, code := some k0c0 }
/-- java/lang/Object -/
def k0 : Class := { plain "java/lang/Object" none with
  accessFlags := 33
  interfaces := #[]
  cf := some (fileOf pool0 8 #[] #[{ accessFlags := 1, nameIndex := 5, descriptorIndex := 6, attributes := #[] }] 33 0 #[] #[])
  fields := #[]
  methods := #[k0m0]
  instanceTypes := #[]
  staticTypes := #[]
  resolved := Array.replicate 124 none
  statics := none }

def pool1 : Array CpInfo := pool [(2, .class_ 4), (1, u "java/lang/Object"), (0, u "<init>"), (0, u "()V"), (0, .methodref 8 9), (0, .class_ 10), (0, .nameAndType 11 12), (0, u "com/example/cliquework/cliquework/algorithms/PartitionFindPinLaw"), (0, u "link"), (0, u "([III)V"), (0, .methodref 8 14), (0, .nameAndType 15 16), (0, u "smallest"), (0, u "([II)I"), (0, .class_ 18), (0, u "com/example/cliquework/cliquework/algorithms/Partition"), (0, .methodref 17 20), (0, .nameAndType 5 21), (0, u "(I)V"), (0, .methodref 17 23), (0, .nameAndType 24 25), (0, u "union"), (0, u "(II)Z"), (0, .methodref 17 27), (0, .nameAndType 28 29), (0, u "find"), (0, u "(I)I"), (0, .methodref 8 31), (0, .nameAndType 32 16), (0, u "grow"), (2, u "law"), (0, u "(IIII)Z")] 5

def k1m0 : Method := { name := "<init>", desc := "()V", sig := { parameters := [], returnType := none }, accessFlags := 1, code := none }
def k1c1 : Code := { maxStack := 3, maxLocals := 19, code := code, exceptionTable := #[], attributes := #[] }
def k1m1 : Method := { name := "law", desc := "(IIII)Z", sig := { parameters := [.int, .int, .int, .int], returnType := some .boolean }, accessFlags := 9, code := some k1c1 }
def k1c2 : Code := { maxStack := 5, maxLocals := 3, code := method_3_code, exceptionTable := #[], attributes := #[] }
def k1m2 : Method := { name := "link", desc := "([III)V", sig := { parameters := [(.array .int), .int, .int], returnType := none }, accessFlags := 10, code := some k1c2 }
def k1c3 : Code := { maxStack := 3, maxLocals := 3, code := method_4_code, exceptionTable := #[], attributes := #[] }
def k1m3 : Method := { name := "grow", desc := "([II)I", sig := { parameters := [(.array .int), .int], returnType := some .int }, accessFlags := 10, code := some k1c3 }
def k1c4 : Code := { maxStack := 2, maxLocals := 3, code := method_5_code, exceptionTable := #[], attributes := #[] }
def k1m4 : Method := { name := "smallest", desc := "([II)I", sig := { parameters := [(.array .int), .int], returnType := some .int }, accessFlags := 10, code := some k1c4 }
/-- com/example/cliquework/cliquework/algorithms/PartitionFindPinLaw -/
def k1 : Class := { plain "com/example/cliquework/cliquework/algorithms/PartitionFindPinLaw" (some 0) with
  accessFlags := 49
  interfaces := #[]
  cf := some (fileOf pool1 8 #[] #[{ accessFlags := 1, nameIndex := 5, descriptorIndex := 6, attributes := #[] }, { accessFlags := 9, nameIndex := 35, descriptorIndex := 36, attributes := #[] }, { accessFlags := 10, nameIndex := 11, descriptorIndex := 12, attributes := #[] }, { accessFlags := 10, nameIndex := 32, descriptorIndex := 16, attributes := #[] }, { accessFlags := 10, nameIndex := 15, descriptorIndex := 16, attributes := #[] }] 49 2 #[] #[])
  fields := #[]
  methods := #[k1m0, k1m1, k1m2, k1m3, k1m4]
  instanceTypes := #[]
  staticTypes := #[]
  resolved := Array.replicate 42 none
  statics := none }

def pool2 : Array CpInfo := pool [(1, .methodref 2 3), (0, .class_ 4), (0, .nameAndType 5 6), (0, u "java/lang/Object"), (0, u "<init>"), (0, u "()V"), (0, .fieldref 8 9), (0, .class_ 10), (0, .nameAndType 11 12), (0, u "com/example/cliquework/cliquework/algorithms/Partition"), (0, u "parent"), (0, u "[I"), (0, .methodref 8 14), (0, .nameAndType 15 16), (0, u "find"), (0, u "(I)I"), (0, .methodref 18 19), (0, .class_ 20), (0, .nameAndType 21 22), (0, u "java/lang/Math"), (0, u "max"), (0, u "(II)I"), (0, .methodref 18 24), (0, .nameAndType 25 22), (0, u "min"), (0, u "(I)V"), (3, u "union"), (0, u "(II)Z")] 3

def k2c0 : Code := { maxStack := 3, maxLocals := 3, code := prog_28_method_1_code, exceptionTable := #[], attributes := #[] }
def k2m0 : Method := { name := "<init>", desc := "(I)V", sig := { parameters := [.int], returnType := none }, accessFlags := 0, code := some k2c0 }
def k2c1 : Code := { maxStack := 5, maxLocals := 3, code := prog_28_method_2_code, exceptionTable := #[], attributes := #[] }
def k2m1 : Method := { name := "find", desc := "(I)I", sig := { parameters := [.int], returnType := some .int }, accessFlags := 0, code := some k2c1 }
def k2c2 : Code := { maxStack := 4, maxLocals := 5, code := prog_28_method_3_code, exceptionTable := #[], attributes := #[] }
def k2m2 : Method := { name := "union", desc := "(II)Z", sig := { parameters := [.int, .int], returnType := some .boolean }, accessFlags := 0, code := some k2c2 }
/-- com/example/cliquework/cliquework/algorithms/Partition -/
def k2 : Class := { plain "com/example/cliquework/cliquework/algorithms/Partition" (some 0) with
  accessFlags := 48
  interfaces := #[]
  cf := some (fileOf pool2 8 #[] #[{ accessFlags := 0, nameIndex := 5, descriptorIndex := 26, attributes := #[] }, { accessFlags := 0, nameIndex := 15, descriptorIndex := 16, attributes := #[] }, { accessFlags := 0, nameIndex := 30, descriptorIndex := 31, attributes := #[] }] 48 2 #[] #[{ accessFlags := 18, nameIndex := 11, descriptorIndex := 12, attributes := #[] }])
  fields := #[{ name := "parent", type := (.array .int), accessFlags := 18, slot := 0, constantValue := 0 }]
  methods := #[k2m0, k2m1, k2m2]
  instanceTypes := #[(.array .int)]
  staticTypes := #[]
  resolved := Array.replicate 35 none
  statics := none }

def pool3 : Array CpInfo := pool [(1, .class_ 2), (0, u "java/lang/Math"), (1, .class_ 6), (1, u "java/lang/Object"), (0, u "<init>"), (0, u "()V"), (89, .class_ 100), (1, u "java/lang/Math$RandomNumberGeneratorHolder"), (71, u "negativeZeroFloatBits"), (0, u "J"), (2, u "negativeZeroDoubleBits"), (21, u "max"), (2, u "min"), (43, u "$assertionsDisabled"), (0, u "Z"), (88, u "(II)I"), (2, u "twoToTheDoubleScaleDown"), (0, u "D"), (4, u "twoToTheDoubleScaleUp"), (9, u "E"), (3, u "PI"), (2, u "TAU"), (2, u "DEGREES_TO_RADIANS"), (0, u "RADIANS_TO_DEGREES")] 94

def k3m0 : Method := { name := "<init>", desc := "()V", sig := { parameters := [], returnType := none }, accessFlags := 2, code := none }
def k3c1 : Code := { maxStack := 2, maxLocals := 2, code := jdk_29_method_65_code, exceptionTable := #[], attributes := #[] }
def k3m1 : Method := { name := "max", desc := "(II)I", sig := { parameters := [.int, .int], returnType := some .int }, accessFlags := 9, code := some k3c1 }
def k3c2 : Code := { maxStack := 2, maxLocals := 2, code := jdk_29_method_69_code, exceptionTable := #[], attributes := #[] }
def k3m2 : Method := { name := "min", desc := "(II)I", sig := { parameters := [.int, .int], returnType := some .int }, accessFlags := 9, code := some k3c2 }
/-- java/lang/Math -/
def k3 : Class := { plain "java/lang/Math" (some 0) with
  accessFlags := 49
  interfaces := #[]
  cf := some (fileOf pool3 1 #[.nestMembers #[98]] #[{ accessFlags := 2, nameIndex := 7, descriptorIndex := 8, attributes := #[] }, { accessFlags := 9, nameIndex := 198, descriptorIndex := 335, attributes := #[] }, { accessFlags := 9, nameIndex := 201, descriptorIndex := 335, attributes := #[] }] 49 4 #[] #[{ accessFlags := 25, nameIndex := 354, descriptorIndex := 339, attributes := #[] }, { accessFlags := 25, nameIndex := 358, descriptorIndex := 339, attributes := #[] }, { accessFlags := 25, nameIndex := 361, descriptorIndex := 339, attributes := #[] }, { accessFlags := 26, nameIndex := 364, descriptorIndex := 339, attributes := #[] }, { accessFlags := 26, nameIndex := 365, descriptorIndex := 339, attributes := #[] }, { accessFlags := 26, nameIndex := 172, descriptorIndex := 173, attributes := #[] }, { accessFlags := 26, nameIndex := 176, descriptorIndex := 173, attributes := #[] }, { accessFlags := 8, nameIndex := 344, descriptorIndex := 339, attributes := #[] }, { accessFlags := 8, nameIndex := 338, descriptorIndex := 339, attributes := #[] }, { accessFlags := 4120, nameIndex := 245, descriptorIndex := 246, attributes := #[] }])
  fields := #[{ name := "E", type := .double, accessFlags := 25, slot := 0, constantValue := 0 }, { name := "PI", type := .double, accessFlags := 25, slot := 1, constantValue := 0 }, { name := "TAU", type := .double, accessFlags := 25, slot := 2, constantValue := 0 }, { name := "DEGREES_TO_RADIANS", type := .double, accessFlags := 26, slot := 3, constantValue := 0 }, { name := "RADIANS_TO_DEGREES", type := .double, accessFlags := 26, slot := 4, constantValue := 0 }, { name := "negativeZeroFloatBits", type := .long, accessFlags := 26, slot := 5, constantValue := 0 }, { name := "negativeZeroDoubleBits", type := .long, accessFlags := 26, slot := 6, constantValue := 0 }, { name := "twoToTheDoubleScaleUp", type := .double, accessFlags := 8, slot := 7, constantValue := 0 }, { name := "twoToTheDoubleScaleDown", type := .double, accessFlags := 8, slot := 8, constantValue := 0 }, { name := "$assertionsDisabled", type := .boolean, accessFlags := 4120, slot := 9, constantValue := 0 }]
  methods := #[k3m0, k3m1, k3m2]
  instanceTypes := #[]
  staticTypes := #[.double, .double, .double, .double, .double, .long, .long, .double, .double, .boolean]
  resolved := Array.replicate 460 none
  statics := none }

def pool4 : Array CpInfo := pool [(1, u "java/lang/Cloneable"), (0, .class_ 1), (0, u "java/lang/Object"), (0, .class_ 3)] 3

/-- java/lang/Cloneable -/
def k4 : Class := { plain "java/lang/Cloneable" (some 0) with
  accessFlags := 1537
  interfaces := #[]
  cf := some (fileOf pool4 2 #[] #[] 1537 4 #[] #[])
  fields := #[]
  methods := #[]
  instanceTypes := #[]
  staticTypes := #[]
  resolved := Array.replicate 8 none
  statics := none }

def pool5 : Array CpInfo := pool [(1, u "java/io/Serializable"), (0, .class_ 1), (0, u "java/lang/Object"), (0, .class_ 3)] 3

/-- java/io/Serializable -/
def k5 : Class := { plain "java/io/Serializable" (some 0) with
  accessFlags := 1537
  interfaces := #[]
  cf := some (fileOf pool5 2 #[] #[] 1537 4 #[] #[])
  fields := #[]
  methods := #[]
  instanceTypes := #[]
  staticTypes := #[]
  resolved := Array.replicate 8 none
  statics := none }

/-- the primitive byte -/
def k6 : Class := { plain "byte" none with kind := .primitive 'B', accessFlags := 0x411 }
/-- [B -/
def k7 : Class := { plain "[B" (some 0) with kind := .array 6 .byte, interfaces := #[4, 5], accessFlags := 1041 }

/-- the primitive int -/
def k8 : Class := { plain "int" none with kind := .primitive 'I', accessFlags := 0x411 }
/-- [I -/
def k9 : Class := { plain "[I" (some 0) with kind := .array 8 .int, interfaces := #[4, 5], accessFlags := 1041 }

def heap : Heap := #[]
def classes : Array Class := #[k0, k1, k2, k3, k4, k5, k6, k7, k8, k9]
def interned : List (Array UInt16 × Addr) := []
def slotsUsed : Nat := 0
def theMethod : MethodId := ⟨1, 1⟩
def args0 : Array Value := #[.int 5, .int 5, .int 5, .int 5]
def aboutOver (below : List Frame) : State where
  vm := { classes := classes, interned := interned.toArray }
  heap := heap
  slotsUsed := slotsUsed
  threads := #[{ frames := .invoking theMethod args0 :: below }]
def below0 : List Frame := [.native { method := ⟨0, 0⟩, args := #[] }]
def about1 : State := aboutOver below0
def p0 : Program := .bare "" "" ""
def e0 : Env := launch0.env 0 0 0
theorem w_frames : about1.frames = Frame.invoking theMethod args0 :: below0 := rfl
set_option maxRecDepth 65536 in
theorem w_args : argsFit about1.vm theMethod args0 = true := by decide +kernel
set_option maxRecDepth 65536 in
theorem w_heap : heapFits about1 = true := by decide +kernel
set_option maxRecDepth 65536 in
theorem w_runnable : about1.curStatus? = some .runnable := by decide +kernel
set_option maxRecDepth 65536 in
theorem w_alone : about1.alone = true := by decide +kernel
set_option maxRecDepth 65536 in
theorem w_named : about1.methodNamed? x = some theMethod := by decide +kernel
set_option maxRecDepth 65536 in
theorem w_hears : about1.hears theMethod below0 = true := by decide +kernel
set_option maxRecDepth 65536 in
theorem w_ripe : about1.ripe theMethod args0 below0 = true := by decide +kernel
theorem w_running : about1.status = .running := rfl
set_option maxRecDepth 65536 in
theorem w_room : about1.hasRoom e0.platform room_1 = true :=
  launch0.hasRoom_least _ room_1 (by decide +kernel) (by decide +kernel) (by decide +kernel) (by decide +kernel) (by decide +kernel) (by decide +kernel)
theorem allAtoms_all (ts : List Jvm.Cond) (a : Array Jvm.Value) (st : Jvm.State) : (allAtoms ts).before a st = ts.all (fun c => c.before a st) := by
  induction ts with
  | nil => rfl
  | cons c t ih =>
    show (Jvm.Cond.and c (allAtoms t)).before a st = _
    rw [Jvm.Cond.before_and, ih, List.all_cons]
def words1 : List Jvm.Cond := Jvm.Cond.code x code maxLocals ret :: tables_1
/-- a 'code' word, met by the world's own term for the bytes: nothing is compared byte by byte -/
theorem code_word {y : MethodName} {bytes : ByteArray} {mx : Nat} {rt : Option FieldType} {a : Array Value} {s : State} {m : MethodId} {meth : Method} {c : Code} (h1 : s.methodNamed? y = some m) (h2 : s.vm.method? m = some meth) (h3 : meth.code = some c) (h4 : c.code = bytes)
    (h5 : (c.maxLocals == mx && c.exceptionTable.isEmpty && decide (c.maxStack ≤ mostOperands) && decide (meth.sig.returnType = rt) && !meth.locks && decide (parseMethodDescriptor y.desc = some meth.sig)) = true) : (Jvm.Cond.code y bytes mx rt).before a s = true := by
  simp only [Bool.and_eq_true, beq_iff_eq, Bool.not_eq_true', decide_eq_true_eq] at h5
  obtain ⟨⟨⟨⟨⟨g1, g2⟩, g3⟩, g4⟩, g5⟩, g6⟩ := h5
  simp [Cond.before, Cond.holds, Cond.value, h1, h2, h3, h4, g1, g2, g3, g4, g5, g6]
def isCode : Jvm.Cond → Bool
  | .code _ _ _ _ => true
  | _ => false
theorem all_split {L : List Jvm.Cond} {P : Jvm.Cond → Bool} (h1 : L.all (fun c => isCode c || P c) = true) (h2 : ∀ c ∈ L.filter isCode, P c = true) : L.all P = true := by
  refine List.all_eq_true.mpr fun c hc => ?_
  have h := List.all_eq_true.mp h1 c hc
  rcases Bool.eq_false_or_eq_true (isCode c) with hi | hi
  · exact h2 c (List.mem_filter.mpr ⟨hc, hi⟩)
  · simpa [hi] using h
set_option maxRecDepth 65536 in
theorem w_c0 : (Jvm.Cond.code x code maxLocals ret).before args0 about1 = true := code_word (m := ⟨1, 1⟩) (meth := k1m1) (c := k1c1) (by decide +kernel) rfl rfl rfl (by decide +kernel)
set_option maxRecDepth 65536 in
theorem w_c1 : (Jvm.Cond.code ({ cls := "com/example/cliquework/cliquework/algorithms/PartitionFindPinLaw", name := "link", desc := "([III)V" } : Jvm.MethodName) method_3_code (3 : Nat) (Option.none : Option Jvm.ClassFile.FieldType)).before args0 about1 = true := code_word (m := ⟨1, 2⟩) (meth := k1m2) (c := k1c2) (by decide +kernel) rfl rfl rfl (by decide +kernel)
set_option maxRecDepth 65536 in
theorem w_c2 : (Jvm.Cond.code ({ cls := "com/example/cliquework/cliquework/algorithms/PartitionFindPinLaw", name := "smallest", desc := "([II)I" } : Jvm.MethodName) method_5_code (3 : Nat) (Option.some Jvm.ClassFile.FieldType.int)).before args0 about1 = true := code_word (m := ⟨1, 4⟩) (meth := k1m4) (c := k1c4) (by decide +kernel) rfl rfl rfl (by decide +kernel)
set_option maxRecDepth 65536 in
theorem w_c3 : (Jvm.Cond.code ({ cls := "com/example/cliquework/cliquework/algorithms/PartitionFindPinLaw", name := "grow", desc := "([II)I" } : Jvm.MethodName) method_4_code (3 : Nat) (Option.some Jvm.ClassFile.FieldType.int)).before args0 about1 = true := code_word (m := ⟨1, 3⟩) (meth := k1m3) (c := k1c3) (by decide +kernel) rfl rfl rfl (by decide +kernel)
set_option maxRecDepth 65536 in
theorem w_c4 : (Jvm.Cond.code ({ cls := "com/example/cliquework/cliquework/algorithms/Partition", name := "<init>", desc := "(I)V" } : Jvm.MethodName) prog_28_method_1_code (3 : Nat) (Option.none : Option Jvm.ClassFile.FieldType)).before args0 about1 = true := code_word (m := ⟨2, 0⟩) (meth := k2m0) (c := k2c0) (by decide +kernel) rfl rfl rfl (by decide +kernel)
set_option maxRecDepth 65536 in
theorem w_c5 : (Jvm.Cond.code ({ cls := "java/lang/Object", name := "<init>", desc := "()V" } : Jvm.MethodName) object_method_1_code (1 : Nat) (Option.none : Option Jvm.ClassFile.FieldType)).before args0 about1 = true := code_word (m := ⟨0, 0⟩) (meth := k0m0) (c := k0c0) (by decide +kernel) rfl rfl rfl (by decide +kernel)
set_option maxRecDepth 65536 in
theorem w_c6 : (Jvm.Cond.code ({ cls := "com/example/cliquework/cliquework/algorithms/Partition", name := "union", desc := "(II)Z" } : Jvm.MethodName) prog_28_method_3_code (5 : Nat) (Option.some Jvm.ClassFile.FieldType.boolean)).before args0 about1 = true := code_word (m := ⟨2, 2⟩) (meth := k2m2) (c := k2c2) (by decide +kernel) rfl rfl rfl (by decide +kernel)
set_option maxRecDepth 65536 in
theorem w_c7 : (Jvm.Cond.code ({ cls := "com/example/cliquework/cliquework/algorithms/Partition", name := "find", desc := "(I)I" } : Jvm.MethodName) prog_28_method_2_code (3 : Nat) (Option.some Jvm.ClassFile.FieldType.int)).before args0 about1 = true := code_word (m := ⟨2, 1⟩) (meth := k2m1) (c := k2c1) (by decide +kernel) rfl rfl rfl (by decide +kernel)
set_option maxRecDepth 65536 in
theorem w_c8 : (Jvm.Cond.code ({ cls := "java/lang/Math", name := "max", desc := "(II)I" } : Jvm.MethodName) jdk_29_method_65_code (2 : Nat) (Option.some Jvm.ClassFile.FieldType.int)).before args0 about1 = true := code_word (m := ⟨3, 1⟩) (meth := k3m1) (c := k3c1) (by decide +kernel) rfl rfl rfl (by decide +kernel)
set_option maxRecDepth 65536 in
theorem w_c9 : (Jvm.Cond.code ({ cls := "java/lang/Math", name := "min", desc := "(II)I" } : Jvm.MethodName) jdk_29_method_69_code (2 : Nat) (Option.some Jvm.ClassFile.FieldType.int)).before args0 about1 = true := code_word (m := ⟨3, 2⟩) (meth := k3m2) (c := k3c2) (by decide +kernel) rfl rfl rfl (by decide +kernel)
def codes1 : List Jvm.Cond := [Jvm.Cond.code x code maxLocals ret, Jvm.Cond.code ({ cls := "com/example/cliquework/cliquework/algorithms/PartitionFindPinLaw", name := "link", desc := "([III)V" } : Jvm.MethodName) method_3_code (3 : Nat) (Option.none : Option Jvm.ClassFile.FieldType), Jvm.Cond.code ({ cls := "com/example/cliquework/cliquework/algorithms/PartitionFindPinLaw", name := "smallest", desc := "([II)I" } : Jvm.MethodName) method_5_code (3 : Nat) (Option.some Jvm.ClassFile.FieldType.int), Jvm.Cond.code ({ cls := "com/example/cliquework/cliquework/algorithms/PartitionFindPinLaw", name := "grow", desc := "([II)I" } : Jvm.MethodName) method_4_code (3 : Nat) (Option.some Jvm.ClassFile.FieldType.int), Jvm.Cond.code ({ cls := "com/example/cliquework/cliquework/algorithms/Partition", name := "<init>", desc := "(I)V" } : Jvm.MethodName) prog_28_method_1_code (3 : Nat) (Option.none : Option Jvm.ClassFile.FieldType), Jvm.Cond.code ({ cls := "java/lang/Object", name := "<init>", desc := "()V" } : Jvm.MethodName) object_method_1_code (1 : Nat) (Option.none : Option Jvm.ClassFile.FieldType), Jvm.Cond.code ({ cls := "com/example/cliquework/cliquework/algorithms/Partition", name := "union", desc := "(II)Z" } : Jvm.MethodName) prog_28_method_3_code (5 : Nat) (Option.some Jvm.ClassFile.FieldType.boolean), Jvm.Cond.code ({ cls := "com/example/cliquework/cliquework/algorithms/Partition", name := "find", desc := "(I)I" } : Jvm.MethodName) prog_28_method_2_code (3 : Nat) (Option.some Jvm.ClassFile.FieldType.int), Jvm.Cond.code ({ cls := "java/lang/Math", name := "max", desc := "(II)I" } : Jvm.MethodName) jdk_29_method_65_code (2 : Nat) (Option.some Jvm.ClassFile.FieldType.int), Jvm.Cond.code ({ cls := "java/lang/Math", name := "min", desc := "(II)I" } : Jvm.MethodName) jdk_29_method_69_code (2 : Nat) (Option.some Jvm.ClassFile.FieldType.int)]
set_option maxRecDepth 65536 in
theorem codes_eq : words1.filter isCode = codes1 := rfl
theorem w_codes : ∀ c ∈ words1.filter isCode, c.before args0 about1 = true := by
  rw [codes_eq]
  intro c hc
  simp only [codes1, List.mem_cons, List.not_mem_nil, or_false] at hc
  rcases hc with rfl | rfl | rfl | rfl | rfl | rfl | rfl | rfl | rfl | rfl
  · exact w_c0
  · exact w_c1
  · exact w_c2
  · exact w_c3
  · exact w_c4
  · exact w_c5
  · exact w_c6
  · exact w_c7
  · exact w_c8
  · exact w_c9
set_option maxRecDepth 65536 in
theorem w_t1 : (words1.take 24).all (fun c => isCode c || c.before args0 about1) = true := by decide +kernel
set_option maxRecDepth 65536 in
theorem w_t2 : (words1.drop 24).all (fun c => isCode c || c.before args0 about1) = true := by decide +kernel
theorem w_tables : (allAtoms (Jvm.Cond.code x code maxLocals ret :: tables_1)).before args0 about1 = true := by
  rw [allAtoms_all]
  show words1.all (fun c => c.before args0 about1) = true
  refine all_split ?_ w_codes
  rw [← List.take_append_drop 24 words1, List.all_append, w_t1, w_t2]
  rfl
set_option maxRecDepth 65536 in
theorem w_case : (Jvm.Cond.and given_1 narrow_1).before args0 about1 = true := by decide +kernel
theorem w_applies : (headSpec (Jvm.Cond.code x code maxLocals ret :: tables_1) room_1).applies x e0.platform about1 = true :=
  (Spec.applies_iff w_frames).mpr ⟨w_running, w_runnable, w_alone, w_named, w_hears, w_ripe, w_room, w_tables⟩
theorem atStart : AtStart classFile x code maxLocals ret World_1 tables_1 room_1 Calls_1 rest_1 Pre_1 launch0 p0 e0 about1 theMethod args0 below0 :=
  ⟨lists_1, trivial, launch0.admits_env _ _ _, launch0.least_env, fairChoices_fair.cas, fairChoices_fair.clock, w_frames, w_args, w_heap, w_applies, trivial, trivial, w_case⟩
end start1
theorem witness_1 : WitnessClaimed_1 := ⟨start1.p0, start1.e0, start1.about1, start1.theMethod, start1.args0, start1.below0, start1.atStart⟩
end Jvm.Pilot.@@N@@
