import JvmDerived
import JvmDerived.Pilot.@@N@@Statement
import JvmDerived.Pilot.@@N@@Code
set_option linter.unusedVariables false
set_option linter.unusedSimpArgs false
namespace Jvm.Pilot.@@N@@
open Jvm Jvm.ClassFile Sem Op Lib Jvm.Free Jvm.Stand Jvm.LawKit Jvm.RoadKit Bundle Jvm.Pilot.@@N@@.Jvm.D
section Own
variable {p : Program} {l : Launch} {e : Env} {R : Room} {s : State} {m : MethodId} {args : Array Value} {below : List Frame} {meth : Method} {c : Code} {T : State} {locs : List Loc} {cells slots : Nat} {C N : Nat} {Q : Option Value → Heap → List Loc → Prop} {V V' : State}
/-- from the state V the method comes to its return, and leaves what Q says -/
def own_Run (p : Program) (e : Env) (below : List Frame) (s : State) (C N : Nat) (Q : Option Value → Heap → List Loc → Prop) (V : State) : Prop :=
  ∃ s₂ o, Steps p.tables e below V s₂ ∧ s₂.status = .running ∧ Ended s₂ below o ∧ ∃ v L, o = .returned v ∧ Q v s₂.heap L ∧ FrameEnd s o s₂ L C N
theorem own_of (k : ∀ t, Steps p.tables e below V' t → Steps p.tables e below V t) (r : own_Run p e below s C N Q V') : own_Run p e below s C N Q V := by
  obtain ⟨s₂, o, h, q⟩ := r
  exact ⟨s₂, o, k _ h, q⟩
theorem own_tr (k : Steps p.tables e below V V') (r : own_Run p e below s C N Q V') : own_Run p e below s C N Q V := own_of (fun _ h => k.trans h) r
/-- the places written so far get a name: what counts is that they are new -/
theorem own_abs {k : Nat} (X : Stand p l e R s m args below meth c T locs cells slots) (F : Fr k locs) : ∃ lc, Stand p l e R s m args below meth c T lc cells slots ∧ Fr k lc := ⟨_, X, F⟩
theorem own_cast {g g' : JFrame} (q : g = g') (r : own_Run p e below s C N Q (T.setTop g')) : own_Run p e below s C N Q (T.setTop g) := q ▸ r
theorem own_ret (X : Stand p l e R s m args below meth c T locs cells slots) (hx : p.tables.exec = Jvm.exec) {pc : Nat} {Ls : Array Slot} {w : Value} {t : FieldType} {i : Instr} {rest : List Value} (hret : meth.sig.returnType = some t) (hlk : meth.locks = false) (hn : narrow t w = w)
    (hi : (i = .ireturn ∧ (t = .int ∨ t = .boolean ∨ t = .byte ∨ t = .char ∨ t = .short) ∧ ∃ z, w = .int z) ∨ (i = .lreturn ∧ t = .long ∧ ∃ z, w = .long z) ∨ (i = .dreturn ∧ t = .double ∧ ∃ z, w = .double z) ∨ (i = .freturn ∧ t = .float ∧ ∃ z, w = .float z) ∨ (i = .areturn ∧ t.isReference = true ∧ w.isRef = true))
    (hd : decode c.code pc = .ok (i, 1)) (q : Q (some w) T.heap locs) (hc : cells ≤ C) (hs : slots ≤ N) : own_Run p e below s C N Q (T.setTop (mkF m pc Ls (w :: rest))) := by
  obtain ⟨fs, hr, hrun, hended, hW, hsame⟩ := X.leave (v := some w) (fun h => by rw [hret] at h; cases h) hlk
  exact ⟨_, _, retOut X hx hret hn hi hd hr, hrun, hended, _, _, rfl, q, ⟨_, rfl⟩, hW, hsame.mono hc hs⟩
theorem own_retI (X : Stand p l e R s m args below meth c T locs cells slots) (hx : p.tables.exec = Jvm.exec) {pc : Nat} {Ls : Array Slot} {z : Int32} {rest : List Value} (hret : meth.sig.returnType = some .int) (hlk : meth.locks = false)
    (hd : decode c.code pc = .ok (.ireturn, 1)) (q : Q (some (.int z)) T.heap locs) (hc : cells ≤ C) (hs : slots ≤ N) : own_Run p e below s C N Q (T.setTop (mkF m pc Ls (.int z :: rest))) :=
  own_ret X hx hret hlk rfl (Or.inl ⟨rfl, Or.inl rfl, z, rfl⟩) hd q hc hs
theorem own_retJ (X : Stand p l e R s m args below meth c T locs cells slots) (hx : p.tables.exec = Jvm.exec) {pc : Nat} {Ls : Array Slot} {z : Int64} {rest : List Value} (hret : meth.sig.returnType = some .long) (hlk : meth.locks = false)
    (hd : decode c.code pc = .ok (.lreturn, 1)) (q : Q (some (.long z)) T.heap locs) (hc : cells ≤ C) (hs : slots ≤ N) : own_Run p e below s C N Q (T.setTop (mkF m pc Ls (.long z :: rest))) :=
  own_ret X hx hret hlk rfl (Or.inr (Or.inl ⟨rfl, rfl, z, rfl⟩)) hd q hc hs
theorem own_retN (X : Stand p l e R s m args below meth c T locs cells slots) (hx : p.tables.exec = Jvm.exec) {pc : Nat} {Ls : Array Slot} {z : Int32} {t : FieldType} {rest : List Value} (hret : meth.sig.returnType = some t) (hlk : meth.locks = false) (ht : t = .boolean ∨ t = .byte ∨ t = .char ∨ t = .short)
    (hd : decode c.code pc = .ok (.ireturn, 1)) (q : Q (some (.int (nar t z))) T.heap locs) (hc : cells ≤ C) (hs : slots ≤ N) : own_Run p e below s C N Q (T.setTop (mkF m pc Ls (.int z :: rest))) := by
  obtain ⟨fs, hr, hrun, hended, hW, hsame⟩ := X.leave (v := some (.int (nar t z))) (fun h => by rw [hret] at h; cases h) hlk
  exact ⟨_, _, retN X hx hret ht hd hr, hrun, hended, _, _, rfl, q, ⟨_, rfl⟩, hW, hsame.mono hc hs⟩
theorem own_retV (X : Stand p l e R s m args below meth c T locs cells slots) (hx : p.tables.exec = Jvm.exec) {pc : Nat} {Ls : Array Slot} (hret : meth.sig.returnType = none) (hlk : meth.locks = false)
    (hd : decode c.code pc = .ok (.return_, 1)) (q : Q none T.heap locs) (hc : cells ≤ C) (hs : slots ≤ N) : own_Run p e below s C N Q (T.setTop (mkF m pc Ls [])) := by
  obtain ⟨fs, hr, hrun, hended, hW, hsame⟩ := X.leave (v := none) (fun _ => rfl) hlk
  exact ⟨_, _, X.returnOut hx hret hd hr, hrun, hended, _, _, rfl, q, ⟨_, rfl⟩, hW, hsame.mono hc hs⟩
end Own
section OwnArrays
variable {p : Program} {l : Launch} {e : Env} {R : Room} {s : State} {m : MethodId} {args : Array Value} {below : List Frame} {meth : Method} {c : Code} {T : State} {locs : List Loc} {cells slots : Nat} {C N : Nat} {Q : Option Value → Heap → List Loc → Prop} {Z : State} {h h' : Heap} {a b : Addr} {ty : FieldType} {n : Nat} {f g : Nat → Int32} {v : Value} {sl : Nat} {ws : List Addr}
/-- in the heap h, at a, an array of the kind ty and n places; its place i holds the int f i -/
def own_Ar (Z : State) (h : Heap) (a : Addr) (ty : FieldType) (n : Nat) (f : Nat → Int32) : Prop := ∃ c : Cell, Arr Z h a c ty ∧ c.slots.size = n ∧ ∀ i, i < n → c.slots[i]? = some (.int (f i))
def own_up (f : Nat → Int32) (j : Nat) (v : Int32) : Nat → Int32 := fun i => if i = j then v else f i
theorem own_Ar.lt (F : own_Ar Z h a ty n f) : a < h.size := by obtain ⟨c, A, -⟩ := F; exact A.lt
theorem own_Ar.ext (F : own_Ar Z h a ty n f) (E : Ext h h') : own_Ar Z h' a ty n f := by obtain ⟨c, A, r⟩ := F; exact ⟨c, A.ext E, r⟩
theorem own_Ar.other (F : own_Ar Z h b ty n f) (W : Wr h h' a sl v) (q : b ≠ a) : own_Ar Z h' b ty n f := by obtain ⟨c, A, r⟩ := F; exact ⟨c, A.other W q, r⟩
theorem own_Ar.keep (F : own_Ar Z h a ty n f) (K : Keep h h' ws) (q : a ∉ ws) : own_Ar Z h' a ty n f := by obtain ⟨c, A, r⟩ := F; exact ⟨c, ⟨K.2.1 a c A.1 q, A.2⟩, r⟩
theorem own_Ar.congr (F : own_Ar Z h a ty n f) (q : ∀ i, i < n → f i = g i) : own_Ar Z h a ty n g := by obtain ⟨c, A, r, H⟩ := F; exact ⟨c, A, r, fun i hi => by rw [← q i hi]; exact H i hi⟩
theorem own_Ar.new {k : ClassId} {z : Int32} (A : Arr Z h a (newA k ty z) ty) (hd : defaultValue ty = .int 0) (hn : z.toNatClampNeg = n) : own_Ar Z h a ty n (fun _ => 0) :=
  ⟨_, A, by rw [sz_new, hn], fun i hi => by simp [newA, hd, hn, hi]⟩
theorem own_Ar.set {w : Int32} {j : Nat} (F : own_Ar Z h a ty n f) (W : Wr h h' a j (.int w)) (hj : j < n) : own_Ar Z h' a ty n (own_up f j w) := by
  obtain ⟨c, A, r, H⟩ := F
  refine ⟨_, A.same W, by rw [sz_set]; exact r, fun i hi => ?_⟩
  by_cases q : i = j
  · subst q
    simp [own_up, Cell.setSlot, r, hi]
  · rw [show (c.setSlot j (.int w)).slots[i]? = c.slots[i]? from Array.getElem?_setIfInBounds_ne (Ne.symm q)]
    simp [own_up, q, H i hi]
theorem own_bal (X : Stand p l e R s m args below meth c T locs cells slots) (hx : p.tables.exec = Jvm.exec) (hZ : Z.Warmed39 s.vm) (eT : T.heap = h) (A : own_Ar Z h a .byte n f) {j w : Int32} (h1 : ¬ j < 0) (h2 : j.toNatClampNeg < n) (hv : f j.toNatClampNeg = w)
    {pc : Nat} {Ls : Array Slot} {rest : List Value} (hd : decode c.code pc = .ok (.baload, 1)) (r : own_Run p e below s C N Q (T.setTop (mkF m (pc + 1) Ls (.int w :: rest)))) : own_Run p e below s C N Q (T.setTop (mkF m pc Ls (.int j :: .ref a :: rest))) := by
  obtain ⟨c, A, S, H⟩ := A
  subst hv
  exact own_of (fun t k => X.baloadBytes hx (j := j) (v := .int (f j.toNatClampNeg)) (by rw [eT]; exact A.1) (State.isArrayOf_alike hZ.alike A.2.1) A.2.2 (by rw [S]; exact fun q => q.elim h1 (Nat.not_le.mpr h2)) (H _ h2) (g := mkF m pc Ls (.int j :: .ref a :: rest)) rfl rfl hd t k) r
theorem own_ial (X : Stand p l e R s m args below meth c T locs cells slots) (hx : p.tables.exec = Jvm.exec) (hZ : Z.Warmed39 s.vm) (eT : T.heap = h) (A : own_Ar Z h a .int n f) {j w : Int32} (h1 : ¬ j < 0) (h2 : j.toNatClampNeg < n) (hv : f j.toNatClampNeg = w)
    {pc : Nat} {Ls : Array Slot} {rest : List Value} (hd : decode c.code pc = .ok (.iaload, 1)) (r : own_Run p e below s C N Q (T.setTop (mkF m (pc + 1) Ls (.int w :: rest)))) : own_Run p e below s C N Q (T.setTop (mkF m pc Ls (.int j :: .ref a :: rest))) := by
  obtain ⟨c, A, S, H⟩ := A
  subst hv
  exact own_of (fun t k => X.iaload hx (j := j) (v := .int (f j.toNatClampNeg)) (by rw [eT]; exact A.1) (State.isArrayOf_alike hZ.alike A.2.1) A.2.2 (by rw [S]; exact fun q => q.elim h1 (Nat.not_le.mpr h2)) (H _ h2) (g := mkF m pc Ls (.int j :: .ref a :: rest)) rfl rfl hd t k) r
theorem own_alen (X : Stand p l e R s m args below meth c T locs cells slots) (hx : p.tables.exec = Jvm.exec) (hZ : Z.Warmed39 s.vm) (eT : T.heap = h) (A : own_Ar Z h a ty n f) {w : Int32} (hv : n.toInt32 = w)
    {pc : Nat} {Ls : Array Slot} {rest : List Value} (hd : decode c.code pc = .ok (.arraylength, 1)) (r : own_Run p e below s C N Q (T.setTop (mkF m (pc + 1) Ls (.int w :: rest)))) : own_Run p e below s C N Q (T.setTop (mkF m pc Ls (.ref a :: rest))) := by
  obtain ⟨c, A, S, H⟩ := A
  subst hv S
  exact own_of (fun t k => X.arraylength hx (by rw [eT]; exact A.1) (State.isArrayOf_alike hZ.alike A.2.1) (g := mkF m pc Ls (.ref a :: rest)) rfl rfl hd t k) r
theorem own_bas (X : Stand p l e R s m args below meth c T locs cells slots) (hx : p.tables.exec = Jvm.exec) (hZ : Z.Warmed39 s.vm) (eT : T.heap = h) (A : own_Ar Z h a .byte n f) {j x : Int32} (h1 : ¬ j < 0) (h2 : j.toNatClampNeg < n)
    {pc : Nat} {Ls : Array Slot} {rest : List Value} (hd : decode c.code pc = .ok (.bastore, 1)) :
    ∃ T' h', Stand p l e R s m args below meth c T' (locs ++ [⟨a, j.toNatClampNeg⟩]) cells slots ∧ T'.heap = h' ∧ Wr h h' a j.toNatClampNeg (.int x.toInt8.toInt32) ∧ own_Ar Z h' a .byte n (own_up f j.toNatClampNeg x.toInt8.toInt32) ∧
      ∀ t, Steps p.tables e below (T'.setTop (mkF m (pc + 1) Ls rest)) t → Steps p.tables e below (T.setTop (mkF m pc Ls (.int x :: .int j :: .ref a :: rest))) t := by
  obtain ⟨c, A, S, H⟩ := id A
  obtain ⟨T', h', X', e', W, st⟩ := stB X hx hZ eT A (j := j) (x := x) (by rw [S]; exact fun q => q.elim h1 (Nat.not_le.mpr h2)) (g := mkF m pc Ls (.int x :: .int j :: .ref a :: rest)) rfl rfl hd
  exact ⟨T', h', X', e', W, own_Ar.set ⟨c, A, S, H⟩ W h2, st⟩
theorem own_ias (X : Stand p l e R s m args below meth c T locs cells slots) (hx : p.tables.exec = Jvm.exec) (hZ : Z.Warmed39 s.vm) (eT : T.heap = h) (A : own_Ar Z h a .int n f) {j x : Int32} (h1 : ¬ j < 0) (h2 : j.toNatClampNeg < n)
    {pc : Nat} {Ls : Array Slot} {rest : List Value} (hd : decode c.code pc = .ok (.iastore, 1)) :
    ∃ T' h', Stand p l e R s m args below meth c T' (locs ++ [⟨a, j.toNatClampNeg⟩]) cells slots ∧ T'.heap = h' ∧ Wr h h' a j.toNatClampNeg (.int x) ∧ own_Ar Z h' a .int n (own_up f j.toNatClampNeg x) ∧
      ∀ t, Steps p.tables e below (T'.setTop (mkF m (pc + 1) Ls rest)) t → Steps p.tables e below (T.setTop (mkF m pc Ls (.int x :: .int j :: .ref a :: rest))) t := by
  obtain ⟨c, A, S, H⟩ := id A
  obtain ⟨T', h', X', e', W, st⟩ := stI X hx hZ eT A (j := j) (x := x) (by rw [S]; exact fun q => q.elim h1 (Nat.not_le.mpr h2)) (g := mkF m pc Ls (.int x :: .int j :: .ref a :: rest)) rfl rfl hd
  exact ⟨T', h', X', e', W, own_Ar.set ⟨c, A, S, H⟩ W h2, st⟩
end OwnArrays
section OwnLongs
variable {p : Program} {l : Launch} {e : Env} {R : Room} {s : State} {m : MethodId} {args : Array Value} {below : List Frame} {meth : Method} {c : Code} {T : State} {locs : List Loc} {cells slots : Nat} {C N : Nat} {Q : Option Value → Heap → List Loc → Prop} {Z : State} {h h' : Heap} {a b : Addr} {n : Nat} {f g : Nat → Int64} {v : Value} {sl : Nat} {ws : List Addr}
/-- the same of longs -/
def own_ArJ (Z : State) (h : Heap) (a : Addr) (n : Nat) (f : Nat → Int64) : Prop := ∃ c : Cell, Arr Z h a c .long ∧ c.slots.size = n ∧ ∀ i, i < n → c.slots[i]? = some (.long (f i))
def own_upJ (f : Nat → Int64) (j : Nat) (v : Int64) : Nat → Int64 := fun i => if i = j then v else f i
theorem own_ArJ.lt (F : own_ArJ Z h a n f) : a < h.size := by obtain ⟨c, A, -⟩ := F; exact A.lt
theorem own_ArJ.ext (F : own_ArJ Z h a n f) (E : Ext h h') : own_ArJ Z h' a n f := by obtain ⟨c, A, r⟩ := F; exact ⟨c, A.ext E, r⟩
theorem own_ArJ.other (F : own_ArJ Z h b n f) (W : Wr h h' a sl v) (q : b ≠ a) : own_ArJ Z h' b n f := by obtain ⟨c, A, r⟩ := F; exact ⟨c, A.other W q, r⟩
theorem own_ArJ.keep (F : own_ArJ Z h a n f) (K : Keep h h' ws) (q : a ∉ ws) : own_ArJ Z h' a n f := by obtain ⟨c, A, r⟩ := F; exact ⟨c, ⟨K.2.1 a c A.1 q, A.2⟩, r⟩
theorem own_ArJ.congr (F : own_ArJ Z h a n f) (q : ∀ i, i < n → f i = g i) : own_ArJ Z h a n g := by obtain ⟨c, A, r, H⟩ := F; exact ⟨c, A, r, fun i hi => by rw [← q i hi]; exact H i hi⟩
theorem own_ArJ.new {k : ClassId} {z : Int32} (A : Arr Z h a (newA k .long z) .long) (hd : defaultValue .long = .long 0) (hn : z.toNatClampNeg = n) : own_ArJ Z h a n (fun _ => 0) :=
  ⟨_, A, by rw [sz_new, hn], fun i hi => by simp [newA, hd, hn, hi]⟩
theorem own_ArJ.set {w : Int64} {j : Nat} (F : own_ArJ Z h a n f) (W : Wr h h' a j (.long w)) (hj : j < n) : own_ArJ Z h' a n (own_upJ f j w) := by
  obtain ⟨c, A, r, H⟩ := F
  refine ⟨_, A.same W, by rw [sz_set]; exact r, fun i hi => ?_⟩
  by_cases q : i = j
  · subst q
    simp [own_upJ, Cell.setSlot, r, hi]
  · rw [show (c.setSlot j (.long w)).slots[i]? = c.slots[i]? from Array.getElem?_setIfInBounds_ne (Ne.symm q)]
    simp [own_upJ, q, H i hi]
theorem own_lal (X : Stand p l e R s m args below meth c T locs cells slots) (hx : p.tables.exec = Jvm.exec) (hZ : Z.Warmed39 s.vm) (eT : T.heap = h) (A : own_ArJ Z h a n f) {j : Int32} {w : Int64} (h1 : ¬ j < 0) (h2 : j.toNatClampNeg < n) (hv : f j.toNatClampNeg = w)
    {pc : Nat} {Ls : Array Slot} {rest : List Value} (hd : decode c.code pc = .ok (.laload, 1)) (r : own_Run p e below s C N Q (T.setTop (mkF m (pc + 1) Ls (.long w :: rest)))) : own_Run p e below s C N Q (T.setTop (mkF m pc Ls (.int j :: .ref a :: rest))) := by
  obtain ⟨c, A, S, H⟩ := A
  subst hv
  exact own_of (fun t k => X.laload hx (j := j) (v := .long (f j.toNatClampNeg)) (by rw [eT]; exact A.1) (State.isArrayOf_alike hZ.alike A.2.1) A.2.2 (by rw [S]; exact fun q => q.elim h1 (Nat.not_le.mpr h2)) (H _ h2) (g := mkF m pc Ls (.int j :: .ref a :: rest)) rfl rfl hd t k) r
theorem own_las (X : Stand p l e R s m args below meth c T locs cells slots) (hx : p.tables.exec = Jvm.exec) (hZ : Z.Warmed39 s.vm) (eT : T.heap = h) (A : own_ArJ Z h a n f) {j : Int32} {x : Int64} (h1 : ¬ j < 0) (h2 : j.toNatClampNeg < n)
    {pc : Nat} {Ls : Array Slot} {rest : List Value} (hd : decode c.code pc = .ok (.lastore, 1)) :
    ∃ T' h', Stand p l e R s m args below meth c T' (locs ++ [⟨a, j.toNatClampNeg⟩]) cells slots ∧ T'.heap = h' ∧ Wr h h' a j.toNatClampNeg (.long x) ∧ own_ArJ Z h' a n (own_upJ f j.toNatClampNeg x) ∧
      ∀ t, Steps p.tables e below (T'.setTop (mkF m (pc + 1) Ls rest)) t → Steps p.tables e below (T.setTop (mkF m pc Ls (.long x :: .int j :: .ref a :: rest))) t := by
  obtain ⟨c, A, S, H⟩ := id A
  obtain ⟨T', h', X', e', W, st⟩ := stJ X hx hZ eT A (j := j) (x := x) (by rw [S]; exact fun q => q.elim h1 (Nat.not_le.mpr h2)) (g := mkF m pc Ls (.long x :: .int j :: .ref a :: rest)) rfl rfl hd
  exact ⟨T', h', X', e', W, own_ArJ.set ⟨c, A, S, H⟩ W h2, st⟩
end OwnLongs
def own_minI (a b : Int32) : Int32 := if b < a then b else a
def own_maxI (a b : Int32) : Int32 := if a < b then b else a
theorem own_minI_i (a b : Int32) : (own_minI a b).toInt = if b.toInt < a.toInt then b.toInt else a.toInt := by
  unfold own_minI
  by_cases h : b < a
  · rw [if_pos h, if_pos (Int32.lt_iff_toInt_lt.mp h)]
  · rw [if_neg h, if_neg (mt Int32.lt_iff_toInt_lt.mpr h)]
theorem own_maxI_i (a b : Int32) : (own_maxI a b).toInt = if a.toInt < b.toInt then b.toInt else a.toInt := by
  unfold own_maxI
  by_cases h : a < b
  · rw [if_pos h, if_pos (Int32.lt_iff_toInt_lt.mp h)]
  · rw [if_neg h, if_neg (mt Int32.lt_iff_toInt_lt.mpr h)]
theorem own_pos {j : Int32} (h0 : 0 ≤ j.toInt) : ¬ j < 0 := by
  apply mt Int32.lt_iff_toInt_lt.mp
  have l : (0 : Int32).toInt = 0 := rfl
  omega
theorem own_clamp {j : Int32} (h0 : 0 ≤ j.toInt) : (j.toNatClampNeg : Int) = j.toInt := (nat_of (own_pos h0)).symm
theorem own_nat {j : Int32} {n : Nat} (h0 : 0 ≤ j.toInt) (h1 : j.toInt < n) : j.toNatClampNeg < n := by
  have a := own_clamp h0
  omega
/-- the powers of ten, as longs -/
def own_p10 (j : Nat) : Int64 := Int64.ofNat (10 ^ j)
theorem own_p10_i : ∀ j, j < 19 → (own_p10 j).toInt = ((10 ^ j : Nat) : Int) := by decide +kernel
theorem own_p10_pos (j : Nat) : (0 : Int) < ((10 ^ j : Nat) : Int) := Int.natCast_pos.mpr (Nat.pow_pos (by decide))
theorem own_p10_nz (j : Nat) (h : j < 19) : own_p10 j ≠ 0 := fun q => by
  have a := own_p10_i j h
  have b := own_p10_pos j
  rw [q] at a
  have : (0 : Int64).toInt = 0 := rfl
  omega
theorem own_p10_m1 (j : Nat) (h : j < 19) : own_p10 j ≠ -1 := fun q => by
  have a := own_p10_i j h
  have b := own_p10_pos j
  rw [q] at a
  have : (-1 : Int64).toInt = -1 := rfl
  omega
theorem own_div (n : Int64) (j : Nat) (h : j < 19) (h0 : 0 ≤ n.toInt) : (n / own_p10 j).toInt = n.toInt / ((10 ^ j : Nat) : Int) := (c_ldiv n (own_p10 j) _ (own_p10_i j h) (own_p10_m1 j h)).1 h0
theorem own_quot (n : Int64) (j : Nat) (h : j < 19) (h0 : 0 ≤ n.toInt) : (n / own_p10 j).toInt = ((n.toInt.toNat / 10 ^ j : Nat) : Int) := by
  rw [own_div n j h h0, Int.natCast_ediv, Int.toNat_of_nonneg h0]
theorem own_rem (n : Int64) (j : Nat) (h : j < 19) (h0 : 0 ≤ n.toInt) : (n - (n / own_p10 j) * own_p10 j).toInt = ((n.toInt.toNat % 10 ^ j : Nat) : Int) := by
  rw [(c_lrem n (own_p10 j) _ (own_p10_i j h)).1 h0, Int.natCast_emod, Int.toNat_of_nonneg h0]
/-- the digit at the place j of the 18 of n -/
def own_dg (n j : Nat) : Nat := n / 10 ^ (17 - j) % 10
theorem own_dg_lt (n j : Nat) : own_dg n j < 10 := Nat.mod_lt _ (by decide)
/-- so many digits of n stand in the array from o on -/
def own_dig (f : Nat → Int32) (n o k : Nat) : Prop := ∀ j, j < k → (f (o + j)).toInt = 48 + (own_dg n j : Int)
theorem own_dig0 (f : Nat → Int32) (n o : Nat) : own_dig f n o 0 := fun j h => absurd h (Nat.not_lt_zero j)
theorem own_dstep {f : Nat → Int32} {n o k ix : Nat} {z : Int32} (D : own_dig f n o k) (hz : z.toInt = 48 + (own_dg n k : Int)) (hix : ix = o + k) : own_dig (own_up f ix z.toInt8.toInt32) n o (k + 1) := by
  subst hix
  have b := c_i2b z
  have q := own_dg_lt n k
  intro j hj
  by_cases e : j = k
  · subst e
    have : own_up f (o + j) z.toInt8.toInt32 (o + j) = z.toInt8.toInt32 := if_pos rfl
    rw [this]
    omega
  · have : own_up f (o + k) z.toInt8.toInt32 (o + j) = f (o + j) := if_neg (by omega)
    rw [this]
    exact D j (by omega)
theorem own_ix (off : Int32) (h : 0 ≤ off.toInt ∧ off.toInt ≤ 3) (k : Int32) (K : Nat) (hk : k.toInt = K) (hK : K ≤ 18) : 0 ≤ (off + k).toInt ∧ (off + k).toInt < (22 : Nat) ∧ (off + k).toNatClampNeg = off.toNatClampNeg + K ∧ (off + k).toInt = off.toInt + K := by
  obtain ⟨h1, h2⟩ := h
  have a := c_iadd off k
  have r := rng32 (off + k)
  have e : (off + k).toInt = off.toInt + K := by omega
  have c1 := own_clamp (j := off + k) (by omega)
  have c2 := own_clamp h1
  refine ⟨by omega, by omega, by omega, e⟩
/-- what the digits from a on are worth -/
def own_val (f : Nat → Int32) (a : Nat) : Nat → Int
  | 0 => 0
  | k + 1 => own_val f a k * 10 + ((f (a + k)).toInt - 48)
theorem own_val_b {f : Nat → Int32} {a : Nat} : ∀ k, (∀ j, j < k → 48 ≤ (f (a + j)).toInt ∧ (f (a + j)).toInt ≤ 57) → 0 ≤ own_val f a k ∧ own_val f a k < ((10 ^ k : Nat) : Int)
  | 0, _ => ⟨Int.le_refl _, (by decide : (0 : Int) < ((10 ^ 0 : Nat) : Int))⟩
  | k + 1, h => by
    have i := own_val_b k (fun j hj => h j (by omega))
    have d := h k (by omega)
    have e : ((10 ^ (k + 1) : Nat) : Int) = ((10 ^ k : Nat) : Int) * 10 := by rw [Nat.pow_succ]; push_cast; rfl
    rw [e]
    show 0 ≤ own_val f a k * 10 + _ ∧ own_val f a k * 10 + _ < _
    omega
theorem own_val_b17 {f : Nat → Int32} {a : Nat} (k : Nat) (hk : k ≤ 17) (h : ∀ j, j < k → 48 ≤ (f (a + j)).toInt ∧ (f (a + j)).toInt ≤ 57) : 0 ≤ own_val f a k ∧ own_val f a k < 100000000000000000 := by
  have i := own_val_b k h
  have p : 10 ^ k ≤ 10 ^ 17 := Nat.pow_le_pow_right (by decide) hk
  have p' : ((10 ^ k : Nat) : Int) ≤ ((10 ^ 17 : Nat) : Int) := Int.ofNat_le.mpr p
  have e : ((10 ^ 17 : Nat) : Int) = 100000000000000000 := by decide
  omega
theorem own_vs (w : Int64) (x : Int32) (h1 : 0 ≤ w.toInt) (h2 : w.toInt < 100000000000000000) (h3 : 48 ≤ x.toInt) (h4 : x.toInt ≤ 57) : (((w * (10 : Int64)) + (x.toInt64)) - (48 : Int64)).toInt = w.toInt * 10 + (x.toInt - 48) := by
  have a := c_lmul w (10 : Int64)
  have l1 : (10 : Int64).toInt = 10 := rfl
  have l2 : (48 : Int64).toInt = 48 := rfl
  rw [l1] at a
  have r1 := rng64 (w * (10 : Int64))
  have b := c_ladd (w * (10 : Int64)) x.toInt64
  have r2 := rng64 ((w * (10 : Int64)) + x.toInt64)
  have d := c_lsub ((w * (10 : Int64)) + x.toInt64) (48 : Int64)
  have r3 := rng64 (((w * (10 : Int64)) + x.toInt64) - (48 : Int64))
  have e := c_i2l x
  omega
/-- the law's own reckoning: the digits lo .. lo + k of n -/
theorem own_sum {f : Nat → Int32} {n o : Nat} (D : own_dig f n o 18) (lo : Nat) : ∀ k, lo + k ≤ 18 → own_val f (o + lo) k = ((n / 10 ^ (18 - lo - k) % 10 ^ k : Nat) : Int)
  | 0, _ => by show (0 : Int) = _; rw [Nat.pow_zero, Nat.mod_one]; rfl
  | k + 1, h => by
    have i := own_sum D lo k (by omega)
    have d := D (lo + k) (by omega)
    show own_val f (o + lo) k * 10 + ((f (o + lo + k)).toInt - 48) = _
    rw [i, Nat.add_assoc, d]
    unfold own_dg
    have e1 : 18 - lo - k = (17 - (lo + k)) + 1 := by omega
    have e2 : 18 - lo - (k + 1) = 17 - (lo + k) := by omega
    rw [e1, e2, Nat.pow_succ, ← Nat.div_div_eq_div_mul, Nat.pow_succ, Nat.mul_comm (10 ^ k) 10, Nat.mod_mul]
    generalize n / 10 ^ (17 - (lo + k)) % 10 = u
    generalize n / 10 ^ (17 - (lo + k)) / 10 % 10 ^ k = w
    omega
theorem own_dgt {f : Nat → Int32} {n o : Nat} (D : own_dig f n o 18) (j : Nat) (h1 : o ≤ j) (h2 : j < o + 18) : 48 ≤ (f j).toInt ∧ (f j).toInt ≤ 57 := by
  have d := D (j - o) (by omega)
  rw [Nat.add_sub_cancel' h1] at d
  have q := own_dg_lt n (j - o)
  omega
theorem own_last (nn : Int64) (h0 : 0 ≤ nn.toInt) (a b : Nat) (ha : a < 19) (hb : b < 19) : ((nn / own_p10 a) - ((nn / own_p10 a) / own_p10 b) * own_p10 b).toInt = ((nn.toInt.toNat / 10 ^ a % 10 ^ b : Nat) : Int) := by
  have q := own_quot nn a ha h0
  have z : 0 ≤ (nn / own_p10 a).toInt := by rw [q]; exact Int.natCast_nonneg _
  rw [own_rem _ b hb z, q]
  rfl
theorem own_digit (nn : Int64) (h0 : 0 ≤ nn.toInt) (j : Nat) (hj : j ≤ 17) : ((((48 : Int64) + ((nn / own_p10 (17 - j)) - ((nn / own_p10 (17 - j)) / (10 : Int64)) * (10 : Int64))).toInt32).toInt8.toInt32.toInt8.toInt32).toInt = 48 + (own_dg nn.toInt.toNat j : Int) := by
  have q := own_quot nn (17 - j) (by omega) h0
  have z : 0 ≤ (nn / own_p10 (17 - j)).toInt := by rw [q]; exact Int.natCast_nonneg _
  have r := (c_lrem (nn / own_p10 (17 - j)) (10 : Int64) 10 rfl).1 z
  have d : ((own_dg nn.toInt.toNat j : Nat) : Int) = (nn / own_p10 (17 - j)).toInt % 10 := by rw [q]; rfl
  rw [d]
  generalize (nn / own_p10 (17 - j)) - ((nn / own_p10 (17 - j)) / (10 : Int64)) * (10 : Int64) = w at r ⊢
  have a := c_ladd (48 : Int64) w
  have l : (48 : Int64).toInt = 48 := rfl
  have ra := rng64 ((48 : Int64) + w)
  have b := c_l2i ((48 : Int64) + w)
  have rb := rng32 ((48 : Int64) + w).toInt32
  have c1 := c_i2b ((48 : Int64) + w).toInt32
  have c2 := c_i2b ((48 : Int64) + w).toInt32.toInt8.toInt32
  omega
theorem own_mk (x : Int32) : 0 ≤ (x &&& (2147483647 : Int32)).toInt := by
  have a : (x &&& (2147483647 : Int32)).toInt = x.toInt % 2147483648 := c_mask x (2147483647 : Int32) 31 (by decide) (by decide)
  omega
theorem own_mkL (x : Int64) : 0 ≤ (x &&& (9223372036854775807 : Int64)).toInt := by
  have a : (x &&& (9223372036854775807 : Int64)).toInt = x.toInt % 9223372036854775808 := c_maskL x (9223372036854775807 : Int64) 63 (by decide) (by decide)
  omega
theorem own_m19 (x : Int32) : 0 ≤ ((x &&& (2147483647 : Int32)) % (19 : Int32)).toInt ∧ ((x &&& (2147483647 : Int32)) % (19 : Int32)).toInt ≤ 18 := by
  have a := (c_irem (x &&& (2147483647 : Int32)) (19 : Int32) 19 rfl).1 (own_mk x)
  omega
theorem own_m3 (x : Int32) : 0 ≤ (x &&& (3 : Int32)).toInt ∧ (x &&& (3 : Int32)).toInt ≤ 3 := by
  have a : (x &&& (3 : Int32)).toInt = x.toInt % 4 := c_mask x (3 : Int32) 2 (by decide) (by decide)
  omega
theorem dm_0 : decode jdk_29_method_69_code 0 = .ok (.iload_n 0, 1) := by decide +kernel
theorem dm_1 : decode jdk_29_method_69_code 1 = .ok (.iload_n 1, 1) := by decide +kernel
theorem dm_2 : decode jdk_29_method_69_code 2 = .ok (.if_icmp .gt 7, 3) := by decide +kernel
theorem dm_5 : decode jdk_29_method_69_code 5 = .ok (.iload_n 0, 1) := by decide +kernel
theorem dm_6 : decode jdk_29_method_69_code 6 = .ok (.goto 4, 3) := by decide +kernel
theorem dm_9 : decode jdk_29_method_69_code 9 = .ok (.iload_n 1, 1) := by decide +kernel
theorem dm_10 : decode jdk_29_method_69_code 10 = .ok (.ireturn, 1) := by decide +kernel
theorem efm (m : MethodId) (p1 : Int32) (p2 : Int32) : entryFrame m #[(.int p1), (.int p2)] 2 = mkF m 0 #[.val (.int p1), .val (.int p2)] [] := by first | (simp [entryFrame, mkF, argsToLocals, Value.category]; done) | rfl
def Qm (Z : State) (p1 : Int32) (p2 : Int32) (h0 : Heap) (n0 : Nat) (v : Option Value) (h : Heap) (L : List Loc) : Prop := v = some (.int (own_minI p1 p2)) ∧ Fr n0 L ∧ h = h0
set_option maxRecDepth 65536 in
set_option maxHeartbeats 40000000 in
theorem rmm (l : Launch) (Z : State) (a0 : Array Value) (hw : ∀ d ∈ tables_1, d.before a0 Z = true) (ws : List Jvm.Cond) (p1 : Int32) (p2 : Int32) (h0 : Heap) (n0 : Nat) (Z0 : n0 ≤ h0.size)  :
    MetFree l (⟨"java/lang/Math", "min", "(II)I"⟩ : MethodName) (head1 (Jvm.Cond.code (⟨"java/lang/Math", "min", "(II)I"⟩ : MethodName) jdk_29_method_69_code 2 (some .int) :: ws) ({ frames := 0, cells := 0, slots := 0, locals := 0 } : Room)) (fun a U => a = #[(.int p1), (.int p2)] ∧ Z.Warmed39 U.vm ∧ U.heap = h0) (fun _ _ _ _ _ => True) (fun _ U o U' => ∃ v L, o = .returned v ∧ Qm Z p1 p2 h0 n0 v U'.heap L ∧ FrameEnd U o U' L ({ frames := 0, cells := 0, slots := 0, locals := 0 } : Room).cells ({ frames := 0, cells := 0, slots := 0, locals := 0 } : Room).slots) := by
  refine MetFree.of_bodySF (Jvm.Free.JP.mathPlain rfl (by decide +kernel)) hisR ?_
  intro p e s m args below meth c s₁ Bd hml0 hP hK
  obtain ⟨rfl, hZ, hh⟩ := hP
  have hx := Bd.exec
  have hby := Bd.bytes
  have hml : c.maxLocals = 2 := hml0
  have hown : s.vm.findClass "java/lang/Math" = some m.cls := findClass_of_methodNamed Bd.named
  have hnm := (name_of_methodNamed Bd.named Bd.method).1
  have hlk := Bd.notSynchronized
  have hret := Bd.returns
  have X0 : Stand p l e ({ frames := 0, cells := 0, slots := 0, locals := 0 } : Room) s m #[(.int p1), (.int p2)] below meth c s₁ [] 0 0 := Stand.of_body Bd
  have e0 : s₁.heap = h0 := by rw [← hh, Bd.state]; rfl
  have N0 := Fr.nil n0
  show own_Run p e below s 0 0 (Qm Z p1 p2 h0 n0) (s₁.setTop (entryFrame m #[(.int p1), (.int p2)] 2))
  refine own_cast (efm m p1 p2) ?_
  show own_Run p e below s _ _ _ (s₁.setTop (mkF m 0 #[.val (.int p1), .val (.int p2)] []))
  refine own_of (fun _ hh_ => XS.iloadN X0.here hx rfl (hb hby dm_0) rfl hh_) ?_
  show own_Run p e below s _ _ _ (s₁.setTop (mkF m 1 #[.val (.int p1), .val (.int p2)] [(.int p1)]))
  refine own_of (fun _ hh_ => XS.iloadN X0.here hx rfl (hb hby dm_1) rfl hh_) ?_
  show own_Run p e below s _ _ _ (s₁.setTop (mkF m 2 #[.val (.int p1), .val (.int p2)] [(.int p2), (.int p1)]))
  by_cases hc2_1 : p2 < p1
  · refine own_of (fun _ hh_ => XS.icmpYes X0.here hx rfl (pc0 := 2) (pc' := 9) rfl (hb hby dm_2) rfl (tlt hc2_1).2.2.1 (by decide) (by decide) hh_) ?_
    show own_Run p e below s _ _ _ (s₁.setTop (mkF m 9 #[.val (.int p1), .val (.int p2)] []))
    refine own_of (fun _ hh_ => XS.iloadN X0.here hx rfl (hb hby dm_9) rfl hh_) ?_
    show own_Run p e below s _ _ _ (s₁.setTop (mkF m 10 #[.val (.int p1), .val (.int p2)] [(.int p2)]))
    exact own_retI X0 hx hret hlk (hb hby dm_10) ⟨by unfold own_minI; rw [if_pos hc2_1], N0, e0⟩ (by decide) (by decide)
  · refine own_of (fun _ hh_ => XS.icmpNo X0.here hx rfl (hb hby dm_2) rfl (flt hc2_1).2.2.1 hh_) ?_
    show own_Run p e below s _ _ _ (s₁.setTop (mkF m 5 #[.val (.int p1), .val (.int p2)] []))
    refine own_of (fun _ hh_ => XS.iloadN X0.here hx rfl (hb hby dm_5) rfl hh_) ?_
    show own_Run p e below s _ _ _ (s₁.setTop (mkF m 6 #[.val (.int p1), .val (.int p2)] [(.int p1)]))
    refine own_of (fun _ hh_ => XS.goto X0.here hx rfl (pc0 := 6) (pc' := 10) rfl (hb hby dm_6) (by decide) (by decide) hh_) ?_
    show own_Run p e below s _ _ _ (s₁.setTop (mkF m 10 #[.val (.int p1), .val (.int p2)] [(.int p1)]))
    exact own_retI X0 hx hret hlk (hb hby dm_10) ⟨by unfold own_minI; rw [if_neg hc2_1], N0, e0⟩ (by decide) (by decide)
theorem dM_0 : decode jdk_29_method_65_code 0 = .ok (.iload_n 0, 1) := by decide +kernel
theorem dM_1 : decode jdk_29_method_65_code 1 = .ok (.iload_n 1, 1) := by decide +kernel
theorem dM_2 : decode jdk_29_method_65_code 2 = .ok (.if_icmp .lt 7, 3) := by decide +kernel
theorem dM_5 : decode jdk_29_method_65_code 5 = .ok (.iload_n 0, 1) := by decide +kernel
theorem dM_6 : decode jdk_29_method_65_code 6 = .ok (.goto 4, 3) := by decide +kernel
theorem dM_9 : decode jdk_29_method_65_code 9 = .ok (.iload_n 1, 1) := by decide +kernel
theorem dM_10 : decode jdk_29_method_65_code 10 = .ok (.ireturn, 1) := by decide +kernel
theorem efM (m : MethodId) (p1 : Int32) (p2 : Int32) : entryFrame m #[(.int p1), (.int p2)] 2 = mkF m 0 #[.val (.int p1), .val (.int p2)] [] := by first | (simp [entryFrame, mkF, argsToLocals, Value.category]; done) | rfl
def QM (Z : State) (p1 : Int32) (p2 : Int32) (h0 : Heap) (n0 : Nat) (v : Option Value) (h : Heap) (L : List Loc) : Prop := v = some (.int (own_maxI p1 p2)) ∧ Fr n0 L ∧ h = h0
set_option maxRecDepth 65536 in
set_option maxHeartbeats 40000000 in
theorem rmM (l : Launch) (Z : State) (a0 : Array Value) (hw : ∀ d ∈ tables_1, d.before a0 Z = true) (ws : List Jvm.Cond) (p1 : Int32) (p2 : Int32) (h0 : Heap) (n0 : Nat) (Z0 : n0 ≤ h0.size)  :
    MetFree l (⟨"java/lang/Math", "max", "(II)I"⟩ : MethodName) (head1 (Jvm.Cond.code (⟨"java/lang/Math", "max", "(II)I"⟩ : MethodName) jdk_29_method_65_code 2 (some .int) :: ws) ({ frames := 0, cells := 0, slots := 0, locals := 0 } : Room)) (fun a U => a = #[(.int p1), (.int p2)] ∧ Z.Warmed39 U.vm ∧ U.heap = h0) (fun _ _ _ _ _ => True) (fun _ U o U' => ∃ v L, o = .returned v ∧ QM Z p1 p2 h0 n0 v U'.heap L ∧ FrameEnd U o U' L ({ frames := 0, cells := 0, slots := 0, locals := 0 } : Room).cells ({ frames := 0, cells := 0, slots := 0, locals := 0 } : Room).slots) := by
  refine MetFree.of_bodySF (Jvm.Free.JP.mathPlain rfl (by decide +kernel)) hisR ?_
  intro p e s m args below meth c s₁ Bd hml0 hP hK
  obtain ⟨rfl, hZ, hh⟩ := hP
  have hx := Bd.exec
  have hby := Bd.bytes
  have hml : c.maxLocals = 2 := hml0
  have hown : s.vm.findClass "java/lang/Math" = some m.cls := findClass_of_methodNamed Bd.named
  have hnm := (name_of_methodNamed Bd.named Bd.method).1
  have hlk := Bd.notSynchronized
  have hret := Bd.returns
  have X0 : Stand p l e ({ frames := 0, cells := 0, slots := 0, locals := 0 } : Room) s m #[(.int p1), (.int p2)] below meth c s₁ [] 0 0 := Stand.of_body Bd
  have e0 : s₁.heap = h0 := by rw [← hh, Bd.state]; rfl
  have N0 := Fr.nil n0
  show own_Run p e below s 0 0 (QM Z p1 p2 h0 n0) (s₁.setTop (entryFrame m #[(.int p1), (.int p2)] 2))
  refine own_cast (efM m p1 p2) ?_
  show own_Run p e below s _ _ _ (s₁.setTop (mkF m 0 #[.val (.int p1), .val (.int p2)] []))
  refine own_of (fun _ hh_ => XS.iloadN X0.here hx rfl (hb hby dM_0) rfl hh_) ?_
  show own_Run p e below s _ _ _ (s₁.setTop (mkF m 1 #[.val (.int p1), .val (.int p2)] [(.int p1)]))
  refine own_of (fun _ hh_ => XS.iloadN X0.here hx rfl (hb hby dM_1) rfl hh_) ?_
  show own_Run p e below s _ _ _ (s₁.setTop (mkF m 2 #[.val (.int p1), .val (.int p2)] [(.int p2), (.int p1)]))
  by_cases hc2_1 : p1 < p2
  · refine own_of (fun _ hh_ => XS.icmpYes X0.here hx rfl (pc0 := 2) (pc' := 9) rfl (hb hby dM_2) rfl (tlt hc2_1).1 (by decide) (by decide) hh_) ?_
    show own_Run p e below s _ _ _ (s₁.setTop (mkF m 9 #[.val (.int p1), .val (.int p2)] []))
    refine own_of (fun _ hh_ => XS.iloadN X0.here hx rfl (hb hby dM_9) rfl hh_) ?_
    show own_Run p e below s _ _ _ (s₁.setTop (mkF m 10 #[.val (.int p1), .val (.int p2)] [(.int p2)]))
    exact own_retI X0 hx hret hlk (hb hby dM_10) ⟨by unfold own_maxI; rw [if_pos hc2_1], N0, e0⟩ (by decide) (by decide)
  · refine own_of (fun _ hh_ => XS.icmpNo X0.here hx rfl (hb hby dM_2) rfl (flt hc2_1).1 hh_) ?_
    show own_Run p e below s _ _ _ (s₁.setTop (mkF m 5 #[.val (.int p1), .val (.int p2)] []))
    refine own_of (fun _ hh_ => XS.iloadN X0.here hx rfl (hb hby dM_5) rfl hh_) ?_
    show own_Run p e below s _ _ _ (s₁.setTop (mkF m 6 #[.val (.int p1), .val (.int p2)] [(.int p1)]))
    refine own_of (fun _ hh_ => XS.goto X0.here hx rfl (pc0 := 6) (pc' := 10) rfl (hb hby dM_6) (by decide) (by decide) hh_) ?_
    show own_Run p e below s _ _ _ (s₁.setTop (mkF m 10 #[.val (.int p1), .val (.int p2)] [(.int p1)]))
    exact own_retI X0 hx hret hlk (hb hby dM_10) ⟨by unfold own_maxI; rw [if_neg hc2_1], N0, e0⟩ (by decide) (by decide)
theorem own_pn0 : plainName "com/example/lanchid/lanchid/records/WholeNumberValuePinLaw" = true := by first | (simp [plainName, overriddenIn]; done) | decide +kernel
theorem dD_0 : decode method_3_code 0 = .ok (.ldc2_w 69, 3) := by decide +kernel
theorem dD_3 : decode method_3_code 3 = .ok (.lload_n 0, 1) := by decide +kernel
theorem dD_4 : decode method_3_code 4 = .ok (.aload_n 2, 1) := by decide +kernel
theorem dD_5 : decode method_3_code 5 = .ok (.bipush 17, 2) := by decide +kernel
theorem dD_7 : decode method_3_code 7 = .ok (.iload_n 3, 1) := by decide +kernel
theorem dD_8 : decode method_3_code 8 = .ok (.isub, 1) := by decide +kernel
theorem dD_9 : decode method_3_code 9 = .ok (.laload, 1) := by decide +kernel
theorem dD_10 : decode method_3_code 10 = .ok (.ldiv, 1) := by decide +kernel
theorem dD_11 : decode method_3_code 11 = .ok (.ldc2_w 7, 3) := by decide +kernel
theorem dD_14 : decode method_3_code 14 = .ok (.lrem, 1) := by decide +kernel
theorem dD_15 : decode method_3_code 15 = .ok (.ladd, 1) := by decide +kernel
theorem dD_16 : decode method_3_code 16 = .ok (.l2i, 1) := by decide +kernel
theorem dD_17 : decode method_3_code 17 = .ok (.i2b, 1) := by decide +kernel
theorem dD_18 : decode method_3_code 18 = .ok (.ireturn, 1) := by decide +kernel
theorem efD (m : MethodId) (u1 : Int64) (r1 : Addr) (p1 : Int32) : entryFrame m #[(.long u1), (.ref r1), (.int p1)] 4 = mkF m 0 #[.val (.long u1), .second, .val (.ref r1), .val (.int p1)] [] := by first | (simp [entryFrame, mkF, argsToLocals, Value.category]; done) | rfl
def QD (Z : State) (u1 : Int64) (r1 : Addr) (p1 : Int32) (k : Nat) (h0 : Heap) (n0 : Nat) (v : Option Value) (h : Heap) (L : List Loc) : Prop := ∃ z : Int32, v = some (.int z) ∧ z.toInt = 48 + (own_dg u1.toInt.toNat k : Int) ∧ Fr n0 L ∧ h = h0
set_option maxRecDepth 65536 in
set_option maxHeartbeats 40000000 in
theorem rmD (l : Launch) (Z : State) (a0 : Array Value) (hw : ∀ d ∈ tables_1, d.before a0 Z = true) (ws : List Jvm.Cond) (u1 : Int64) (r1 : Addr) (p1 : Int32) (k : Nat) (h0 : Heap) (n0 : Nat) (Z0 : n0 ≤ h0.size) (A : own_ArJ Z h0 r1 19 own_p10) (hu : 0 ≤ u1.toInt) (hk : p1.toInt = (k : Int)) (hk17 : k ≤ 17) :
    MetFree l (⟨"com/example/lanchid/lanchid/records/WholeNumberValuePinLaw", "digit", "(J[JI)B"⟩ : MethodName) (head1 (Jvm.Cond.code (⟨"com/example/lanchid/lanchid/records/WholeNumberValuePinLaw", "digit", "(J[JI)B"⟩ : MethodName) method_3_code 4 (some .byte) :: ws) ({ frames := 0, cells := 0, slots := 0, locals := 0 } : Room)) (fun a U => a = #[(.long u1), (.ref r1), (.int p1)] ∧ Z.Warmed39 U.vm ∧ U.heap = h0) (fun _ _ _ _ _ => True) (fun _ U o U' => ∃ v L, o = .returned v ∧ QD Z u1 r1 p1 k h0 n0 v U'.heap L ∧ FrameEnd U o U' L ({ frames := 0, cells := 0, slots := 0, locals := 0 } : Room).cells ({ frames := 0, cells := 0, slots := 0, locals := 0 } : Room).slots) := by
  refine MetFree.of_bodySF (plainFor_of_name own_pn0) hisR ?_
  intro p e s m args below meth c s₁ Bd hml0 hP hK
  obtain ⟨rfl, hZ, hh⟩ := hP
  have hx := Bd.exec
  have hby := Bd.bytes
  have hml : c.maxLocals = 4 := hml0
  have hown : s.vm.findClass "com/example/lanchid/lanchid/records/WholeNumberValuePinLaw" = some m.cls := findClass_of_methodNamed Bd.named
  have hnm := (name_of_methodNamed Bd.named Bd.method).1
  have hlk := Bd.notSynchronized
  have hret := Bd.returns
  have X0 : Stand p l e ({ frames := 0, cells := 0, slots := 0, locals := 0 } : Room) s m #[(.long u1), (.ref r1), (.int p1)] below meth c s₁ [] 0 0 := Stand.of_body Bd
  have e0 : s₁.heap = h0 := by rw [← hh, Bd.state]; rfl
  have N0 := Fr.nil n0
  show own_Run p e below s 0 0 (QD Z u1 r1 p1 k h0 n0) (s₁.setTop (entryFrame m #[(.long u1), (.ref r1), (.int p1)] 4))
  refine own_cast (efD m u1 r1 p1) ?_
  have hsub : ((17 : Int32) - p1).toInt = 17 - (k : Int) := by have z1 := c_isub (17 : Int32) p1; have z2 := rng32 ((17 : Int32) - p1); have z3 : (17 : Int32).toInt = 17 := rfl; omega
  have hs1 : ¬ ((17 : Int32) - p1) < 0 := own_pos (by omega)
  have hs2 : ((17 : Int32) - p1).toNatClampNeg < 19 := own_nat (by omega) (by omega)
  have hs3 : own_p10 ((17 : Int32) - p1).toNatClampNeg = own_p10 (17 - k) := by have z1 := own_clamp (j := (17 : Int32) - p1) (by omega); congr 1; omega
  show own_Run p e below s _ _ _ (s₁.setTop (mkF m 0 #[.val (.long u1), .second, .val (.ref r1), .val (.int p1)] []))
  refine own_of (X0.ldc2Long hx hown (mvT hZ (hw _ (List.mem_of_getElem? (i := 25) rfl))) (g := (mkF m 0 #[.val (.long u1), .second, .val (.ref r1), .val (.int p1)] [])) rfl (hb hby dD_0)) ?_
  show own_Run p e below s _ _ _ (s₁.setTop (mkF m 3 #[.val (.long u1), .second, .val (.ref r1), .val (.int p1)] [(.long (48 : Int64))]))
  refine own_of (fun _ hh_ => XS.lloadN X0.here hx rfl (hb hby dD_3) rfl hh_) ?_
  show own_Run p e below s _ _ _ (s₁.setTop (mkF m 4 #[.val (.long u1), .second, .val (.ref r1), .val (.int p1)] [(.long u1), (.long (48 : Int64))]))
  refine own_of (fun _ hh_ => XS.aloadN X0.here hx rfl (hb hby dD_4) rfl rfl hh_) ?_
  show own_Run p e below s _ _ _ (s₁.setTop (mkF m 5 #[.val (.long u1), .second, .val (.ref r1), .val (.int p1)] [(.ref r1), (.long u1), (.long (48 : Int64))]))
  refine own_of (fun _ hh_ => XS.bipush X0.here hx rfl (hb hby dD_5) hh_) ?_
  show own_Run p e below s _ _ _ (s₁.setTop (mkF m 7 #[.val (.long u1), .second, .val (.ref r1), .val (.int p1)] [(.int (17 : Int32)), (.ref r1), (.long u1), (.long (48 : Int64))]))
  refine own_of (fun _ hh_ => XS.iloadN X0.here hx rfl (hb hby dD_7) rfl hh_) ?_
  show own_Run p e below s _ _ _ (s₁.setTop (mkF m 8 #[.val (.long u1), .second, .val (.ref r1), .val (.int p1)] [(.int p1), (.int (17 : Int32)), (.ref r1), (.long u1), (.long (48 : Int64))]))
  refine own_of (fun _ hh_ => XS.isub X0.here hx rfl (hb hby dD_8) rfl hh_) ?_
  show own_Run p e below s _ _ _ (s₁.setTop (mkF m 9 #[.val (.long u1), .second, .val (.ref r1), .val (.int p1)] [(.int ((17 : Int32) - p1)), (.ref r1), (.long u1), (.long (48 : Int64))]))
  refine own_lal X0 hx hZ e0 A (j := ((17 : Int32) - p1)) (w := (own_p10 (17 - k))) hs1 hs2 hs3 (hb hby dD_9) ?_
  show own_Run p e below s _ _ _ (s₁.setTop (mkF m 10 #[.val (.long u1), .second, .val (.ref r1), .val (.int p1)] [(.long (own_p10 (17 - k))), (.long u1), (.long (48 : Int64))]))
  refine own_of (fun _ hh_ => XS.ldiv X0.here hx rfl (hb hby dD_10) rfl (own_p10_nz _ (by omega)) hh_) ?_
  show own_Run p e below s _ _ _ (s₁.setTop (mkF m 11 #[.val (.long u1), .second, .val (.ref r1), .val (.int p1)] [(.long (u1 / (own_p10 (17 - k)))), (.long (48 : Int64))]))
  refine own_of (X0.ldc2Long hx hown (mvT hZ (hw _ (List.mem_of_getElem? (i := 1) rfl))) (g := (mkF m 11 #[.val (.long u1), .second, .val (.ref r1), .val (.int p1)] [(.long (u1 / (own_p10 (17 - k)))), (.long (48 : Int64))])) rfl (hb hby dD_11)) ?_
  show own_Run p e below s _ _ _ (s₁.setTop (mkF m 14 #[.val (.long u1), .second, .val (.ref r1), .val (.int p1)] [(.long (10 : Int64)), (.long (u1 / (own_p10 (17 - k)))), (.long (48 : Int64))]))
  refine own_of (fun _ hh_ => XS.lrem X0.here hx rfl (hb hby dD_14) rfl (by decide) hh_) ?_
  show own_Run p e below s _ _ _ (s₁.setTop (mkF m 15 #[.val (.long u1), .second, .val (.ref r1), .val (.int p1)] [(.long ((u1 / (own_p10 (17 - k))) - ((u1 / (own_p10 (17 - k))) / (10 : Int64)) * (10 : Int64))), (.long (48 : Int64))]))
  refine own_of (fun _ hh_ => XS.ladd X0.here hx rfl (hb hby dD_15) rfl hh_) ?_
  show own_Run p e below s _ _ _ (s₁.setTop (mkF m 16 #[.val (.long u1), .second, .val (.ref r1), .val (.int p1)] [(.long ((48 : Int64) + ((u1 / (own_p10 (17 - k))) - ((u1 / (own_p10 (17 - k))) / (10 : Int64)) * (10 : Int64))))]))
  refine own_of (fun _ hh_ => XS.l2i X0.here hx rfl (hb hby dD_16) rfl hh_) ?_
  show own_Run p e below s _ _ _ (s₁.setTop (mkF m 17 #[.val (.long u1), .second, .val (.ref r1), .val (.int p1)] [(.int (((48 : Int64) + ((u1 / (own_p10 (17 - k))) - ((u1 / (own_p10 (17 - k))) / (10 : Int64)) * (10 : Int64))).toInt32))]))
  refine own_of (fun _ hh_ => XS.i2b X0.here hx rfl (hb hby dD_17) rfl hh_) ?_
  show own_Run p e below s _ _ _ (s₁.setTop (mkF m 18 #[.val (.long u1), .second, .val (.ref r1), .val (.int p1)] [(.int ((((48 : Int64) + ((u1 / (own_p10 (17 - k))) - ((u1 / (own_p10 (17 - k))) / (10 : Int64)) * (10 : Int64))).toInt32).toInt8.toInt32))]))
  exact own_retN X0 hx (t := .byte) hret hlk (by simp) (hb hby dD_18) ⟨_, rfl, own_digit u1 hu k hk17, N0, e0⟩ (by decide) (by decide)
theorem own_pn1 : plainName "com/example/lanchid/lanchid/records/WholeNumber" = true := by first | (simp [plainName, overriddenIn]; done) | decide +kernel
theorem dV_0 : decode prog_127_method_4_code 0 = .ok (.lconst 0, 1) := by decide +kernel
theorem dV_1 : decode prog_127_method_4_code 1 = .ok (.lstore_n 3, 1) := by decide +kernel
theorem dV_2 : decode prog_127_method_4_code 2 = .ok (.iload_n 1, 1) := by decide +kernel
theorem dV_3 : decode prog_127_method_4_code 3 = .ok (.istore 5, 2) := by decide +kernel
theorem dV_5 : decode prog_127_method_4_code 5 = .ok (.iload 5, 2) := by decide +kernel
theorem dV_7 : decode prog_127_method_4_code 7 = .ok (.iload_n 2, 1) := by decide +kernel
theorem dV_8 : decode prog_127_method_4_code 8 = .ok (.if_icmp .ge 25, 3) := by decide +kernel
theorem dV_11 : decode prog_127_method_4_code 11 = .ok (.lload_n 3, 1) := by decide +kernel
theorem dV_12 : decode prog_127_method_4_code 12 = .ok (.ldc2_w 31, 3) := by decide +kernel
theorem dV_15 : decode prog_127_method_4_code 15 = .ok (.lmul, 1) := by decide +kernel
theorem dV_16 : decode prog_127_method_4_code 16 = .ok (.aload_n 0, 1) := by decide +kernel
theorem dV_17 : decode prog_127_method_4_code 17 = .ok (.iload 5, 2) := by decide +kernel
theorem dV_19 : decode prog_127_method_4_code 19 = .ok (.baload, 1) := by decide +kernel
theorem dV_20 : decode prog_127_method_4_code 20 = .ok (.i2l, 1) := by decide +kernel
theorem dV_21 : decode prog_127_method_4_code 21 = .ok (.ladd, 1) := by decide +kernel
theorem dV_22 : decode prog_127_method_4_code 22 = .ok (.ldc2_w 33, 3) := by decide +kernel
theorem dV_25 : decode prog_127_method_4_code 25 = .ok (.lsub, 1) := by decide +kernel
theorem dV_26 : decode prog_127_method_4_code 26 = .ok (.lstore_n 3, 1) := by decide +kernel
theorem dV_27 : decode prog_127_method_4_code 27 = .ok (.iinc 5 1, 3) := by decide +kernel
theorem dV_30 : decode prog_127_method_4_code 30 = .ok (.goto (-25), 3) := by decide +kernel
theorem dV_33 : decode prog_127_method_4_code 33 = .ok (.lload_n 3, 1) := by decide +kernel
theorem dV_34 : decode prog_127_method_4_code 34 = .ok (.lreturn, 1) := by decide +kernel
theorem efV (m : MethodId) (r1 : Addr) (p1 : Int32) (p2 : Int32) : entryFrame m #[(.ref r1), (.int p1), (.int p2)] 6 = mkF m 0 #[.val (.ref r1), .val (.int p1), .val (.int p2), .unset, .unset, .unset] [] := by first | (simp [entryFrame, mkF, argsToLocals, Value.category]; done) | rfl
def QV (Z : State) (r1 : Addr) (p1 : Int32) (p2 : Int32) (n : Nat) (f : Nat → Int32) (h0 : Heap) (n0 : Nat) (v : Option Value) (h : Heap) (L : List Loc) : Prop := ∃ r : Int64, v = some (.long r) ∧ r.toInt = own_val f p1.toNatClampNeg (p2.toNatClampNeg - p1.toNatClampNeg) ∧ Fr n0 L ∧ h = h0
set_option maxRecDepth 65536 in
set_option maxHeartbeats 40000000 in
theorem rmV (l : Launch) (Z : State) (a0 : Array Value) (hw : ∀ d ∈ tables_1, d.before a0 Z = true) (ws : List Jvm.Cond) (r1 : Addr) (p1 : Int32) (p2 : Int32) (n : Nat) (f : Nat → Int32) (h0 : Heap) (n0 : Nat) (Z0 : n0 ≤ h0.size) (A : own_Ar Z h0 r1 .byte n f) (ha : 0 ≤ p1.toInt) (hab : p1.toInt ≤ p2.toInt) (hbn : p2.toInt ≤ (n : Int)) (h18 : p2.toInt - p1.toInt ≤ 18) (hdg : ∀ j, p1.toNatClampNeg ≤ j → j < p2.toNatClampNeg → 48 ≤ (f j).toInt ∧ (f j).toInt ≤ 57) :
    MetFree l (⟨"com/example/lanchid/lanchid/records/WholeNumber", "value", "([BII)J"⟩ : MethodName) (head1 (Jvm.Cond.code (⟨"com/example/lanchid/lanchid/records/WholeNumber", "value", "([BII)J"⟩ : MethodName) prog_127_method_4_code 6 (some .long) :: ws) ({ frames := 0, cells := 0, slots := 0, locals := 0 } : Room)) (fun a U => a = #[(.ref r1), (.int p1), (.int p2)] ∧ Z.Warmed39 U.vm ∧ U.heap = h0) (fun _ _ _ _ _ => True) (fun _ U o U' => ∃ v L, o = .returned v ∧ QV Z r1 p1 p2 n f h0 n0 v U'.heap L ∧ FrameEnd U o U' L ({ frames := 0, cells := 0, slots := 0, locals := 0 } : Room).cells ({ frames := 0, cells := 0, slots := 0, locals := 0 } : Room).slots) := by
  refine MetFree.of_bodySF (plainFor_of_name own_pn1) hisR ?_
  intro p e s m args below meth c s₁ Bd hml0 hP hK
  obtain ⟨rfl, hZ, hh⟩ := hP
  have hx := Bd.exec
  have hby := Bd.bytes
  have hml : c.maxLocals = 6 := hml0
  have hown : s.vm.findClass "com/example/lanchid/lanchid/records/WholeNumber" = some m.cls := findClass_of_methodNamed Bd.named
  have hnm := (name_of_methodNamed Bd.named Bd.method).1
  have hlk := Bd.notSynchronized
  have hret := Bd.returns
  have X0 : Stand p l e ({ frames := 0, cells := 0, slots := 0, locals := 0 } : Room) s m #[(.ref r1), (.int p1), (.int p2)] below meth c s₁ [] 0 0 := Stand.of_body Bd
  have e0 : s₁.heap = h0 := by rw [← hh, Bd.state]; rfl
  have N0 := Fr.nil n0
  show own_Run p e below s 0 0 (QV Z r1 p1 p2 n f h0 n0) (s₁.setTop (entryFrame m #[(.ref r1), (.int p1), (.int p2)] 6))
  refine own_cast (efV m r1 p1 p2) ?_
  show own_Run p e below s _ _ _ (s₁.setTop (mkF m 0 #[.val (.ref r1), .val (.int p1), .val (.int p2), .unset, .unset, .unset] []))
  refine own_of (fun _ hh_ => XS.lconst X0.here hx rfl (hb hby dV_0) hh_) ?_
  show own_Run p e below s _ _ _ (s₁.setTop (mkF m 1 #[.val (.ref r1), .val (.int p1), .val (.int p2), .unset, .unset, .unset] [(.long (0 : Int64))]))
  refine own_of (fun _ hh_ => XS.lstoreN X0.here hx rfl (hb hby dV_1) rfl (l' := #[.val (.ref r1), .val (.int p1), .val (.int p2), .val (.long (0 : Int64)), .second, .unset]) rfl hh_) ?_
  show own_Run p e below s _ _ _ (s₁.setTop (mkF m 2 #[.val (.ref r1), .val (.int p1), .val (.int p2), .val (.long (0 : Int64)), .second, .unset] []))
  refine own_of (fun _ hh_ => XS.iloadN X0.here hx rfl (hb hby dV_2) rfl hh_) ?_
  show own_Run p e below s _ _ _ (s₁.setTop (mkF m 3 #[.val (.ref r1), .val (.int p1), .val (.int p2), .val (.long (0 : Int64)), .second, .unset] [(.int p1)]))
  refine own_of (fun _ hh_ => XS.istore X0.here hx rfl (hb hby dV_3) rfl (l' := #[.val (.ref r1), .val (.int p1), .val (.int p2), .val (.long (0 : Int64)), .second, .val (.int p1)]) rfl hh_) ?_
  show own_Run p e below s _ _ _ (s₁.setTop (mkF m 5 #[.val (.ref r1), .val (.int p1), .val (.int p2), .val (.long (0 : Int64)), .second, .val (.int p1)] []))
  have loop : ∀ (k : Nat) (w : Int64) (i : Int32), p1.toInt ≤ i.toInt → i.toInt ≤ p2.toInt → (p2.toInt - i.toInt).toNat ≤ k → w.toInt = own_val f p1.toNatClampNeg (i.toNatClampNeg - p1.toNatClampNeg) → own_Run p e below s 0 0 (QV Z r1 p1 p2 n f h0 n0) (s₁.setTop (mkF m 5 #[.val (.ref r1), .val (.int p1), .val (.int p2), .val (.long w), .second, .val (.int i)] [])) := by
    intro k
    induction k with
    | zero =>
      intro w i h1 h2 hk hacc
      show own_Run p e below s _ _ _ (s₁.setTop (mkF m 5 #[.val (.ref r1), .val (.int p1), .val (.int p2), .val (.long w), .second, .val (.int i)] []))
      refine own_of (fun _ hh_ => XS.iload X0.here hx rfl (hb hby dV_5) rfl hh_) ?_
      show own_Run p e below s _ _ _ (s₁.setTop (mkF m 7 #[.val (.ref r1), .val (.int p1), .val (.int p2), .val (.long w), .second, .val (.int i)] [(.int i)]))
      refine own_of (fun _ hh_ => XS.iloadN X0.here hx rfl (hb hby dV_7) rfl hh_) ?_
      show own_Run p e below s _ _ _ (s₁.setTop (mkF m 8 #[.val (.ref r1), .val (.int p1), .val (.int p2), .val (.long w), .second, .val (.int i)] [(.int p2), (.int i)]))
      have hc8_1 : ¬ (i < p2) := by apply mt Int32.lt_iff_toInt_lt.mp; omega
      refine own_of (fun _ hh_ => XS.icmpYes X0.here hx rfl (pc0 := 8) (pc' := 33) rfl (hb hby dV_8) rfl (flt hc8_1).2.1 (by decide) (by decide) hh_) ?_
      show own_Run p e below s _ _ _ (s₁.setTop (mkF m 33 #[.val (.ref r1), .val (.int p1), .val (.int p2), .val (.long w), .second, .val (.int i)] []))
      refine own_of (fun _ hh_ => XS.lloadN X0.here hx rfl (hb hby dV_33) rfl hh_) ?_
      show own_Run p e below s _ _ _ (s₁.setTop (mkF m 34 #[.val (.ref r1), .val (.int p1), .val (.int p2), .val (.long w), .second, .val (.int i)] [(.long w)]))
      exact own_retJ X0 hx hret hlk (hb hby dV_34) ⟨_, rfl, (by have g0 := mt Int32.lt_iff_toInt_lt.mpr hc8_1; have ge : i = p2 := Int32.toInt_inj.mp (by omega); rw [hacc, ge]), N0, e0⟩ (by decide) (by decide)
    | succ k ih =>
      intro w i h1 h2 hk hacc
      show own_Run p e below s _ _ _ (s₁.setTop (mkF m 5 #[.val (.ref r1), .val (.int p1), .val (.int p2), .val (.long w), .second, .val (.int i)] []))
      refine own_of (fun _ hh_ => XS.iload X0.here hx rfl (hb hby dV_5) rfl hh_) ?_
      show own_Run p e below s _ _ _ (s₁.setTop (mkF m 7 #[.val (.ref r1), .val (.int p1), .val (.int p2), .val (.long w), .second, .val (.int i)] [(.int i)]))
      refine own_of (fun _ hh_ => XS.iloadN X0.here hx rfl (hb hby dV_7) rfl hh_) ?_
      show own_Run p e below s _ _ _ (s₁.setTop (mkF m 8 #[.val (.ref r1), .val (.int p1), .val (.int p2), .val (.long w), .second, .val (.int i)] [(.int p2), (.int i)]))
      by_cases hc8_2 : i < p2
      · refine own_of (fun _ hh_ => XS.icmpNo X0.here hx rfl (hb hby dV_8) rfl (tlt hc8_2).2.1 hh_) ?_
        show own_Run p e below s _ _ _ (s₁.setTop (mkF m 11 #[.val (.ref r1), .val (.int p1), .val (.int p2), .val (.long w), .second, .val (.int i)] []))
        have g0 := Int32.lt_iff_toInt_lt.mp hc8_2
        have ci := own_clamp (j := i) (by omega)
        have cp := own_clamp ha
        have cq := own_clamp (j := p2) (by omega)
        have hi1 := own_pos (j := i) (by omega)
        have hi2 : i.toNatClampNeg < n := by omega
        have gd := hdg i.toNatClampNeg (by omega) (by omega)
        have gi := c_iadd i (1 : Int32)
        have gr := rng32 (i + (1 : Int32))
        have gl : (1 : Int32).toInt = 1 := rfl
        have gi' : (i + (1 : Int32)).toInt = i.toInt + 1 := by have := rng32 p2; omega
        have ci' := own_clamp (j := i + (1 : Int32)) (by omega)
        have gb := own_val_b17 (f := f) (a := p1.toNatClampNeg) (i.toNatClampNeg - p1.toNatClampNeg) (by omega) (fun j hj => hdg _ (by omega) (by omega))
        have hnext : (i + (1 : Int32)).toNatClampNeg - p1.toNatClampNeg = (i.toNatClampNeg - p1.toNatClampNeg) + 1 := by omega
        have hacc' : (((w * (10 : Int64)) + ((f i.toNatClampNeg).toInt64)) - (48 : Int64)).toInt = own_val f p1.toNatClampNeg ((i.toNatClampNeg - p1.toNatClampNeg) + 1) := by
          rw [own_vs w _ (by omega) (by omega) gd.1 gd.2]
          show _ = own_val f p1.toNatClampNeg (i.toNatClampNeg - p1.toNatClampNeg) * 10 + ((f (p1.toNatClampNeg + (i.toNatClampNeg - p1.toNatClampNeg))).toInt - 48)
          rw [show p1.toNatClampNeg + (i.toNatClampNeg - p1.toNatClampNeg) = i.toNatClampNeg from by omega, hacc]
        refine own_of (fun _ hh_ => XS.lloadN X0.here hx rfl (hb hby dV_11) rfl hh_) ?_
        show own_Run p e below s _ _ _ (s₁.setTop (mkF m 12 #[.val (.ref r1), .val (.int p1), .val (.int p2), .val (.long w), .second, .val (.int i)] [(.long w)]))
        refine own_of (X0.ldc2Long hx hown (mvT hZ (hw _ (List.mem_of_getElem? (i := 38) rfl))) (g := (mkF m 12 #[.val (.ref r1), .val (.int p1), .val (.int p2), .val (.long w), .second, .val (.int i)] [(.long w)])) rfl (hb hby dV_12)) ?_
        show own_Run p e below s _ _ _ (s₁.setTop (mkF m 15 #[.val (.ref r1), .val (.int p1), .val (.int p2), .val (.long w), .second, .val (.int i)] [(.long (10 : Int64)), (.long w)]))
        refine own_of (fun _ hh_ => XS.lmul X0.here hx rfl (hb hby dV_15) rfl hh_) ?_
        show own_Run p e below s _ _ _ (s₁.setTop (mkF m 16 #[.val (.ref r1), .val (.int p1), .val (.int p2), .val (.long w), .second, .val (.int i)] [(.long (w * (10 : Int64)))]))
        refine own_of (fun _ hh_ => XS.aloadN X0.here hx rfl (hb hby dV_16) rfl rfl hh_) ?_
        show own_Run p e below s _ _ _ (s₁.setTop (mkF m 17 #[.val (.ref r1), .val (.int p1), .val (.int p2), .val (.long w), .second, .val (.int i)] [(.ref r1), (.long (w * (10 : Int64)))]))
        refine own_of (fun _ hh_ => XS.iload X0.here hx rfl (hb hby dV_17) rfl hh_) ?_
        show own_Run p e below s _ _ _ (s₁.setTop (mkF m 19 #[.val (.ref r1), .val (.int p1), .val (.int p2), .val (.long w), .second, .val (.int i)] [(.int i), (.ref r1), (.long (w * (10 : Int64)))]))
        refine own_bal X0 hx hZ e0 A (j := i) (w := (f i.toNatClampNeg)) hi1 hi2 rfl (hb hby dV_19) ?_
        show own_Run p e below s _ _ _ (s₁.setTop (mkF m 20 #[.val (.ref r1), .val (.int p1), .val (.int p2), .val (.long w), .second, .val (.int i)] [(.int (f i.toNatClampNeg)), (.long (w * (10 : Int64)))]))
        refine own_of (fun _ hh_ => XS.i2l X0.here hx rfl (hb hby dV_20) rfl hh_) ?_
        show own_Run p e below s _ _ _ (s₁.setTop (mkF m 21 #[.val (.ref r1), .val (.int p1), .val (.int p2), .val (.long w), .second, .val (.int i)] [(.long ((f i.toNatClampNeg).toInt64)), (.long (w * (10 : Int64)))]))
        refine own_of (fun _ hh_ => XS.ladd X0.here hx rfl (hb hby dV_21) rfl hh_) ?_
        show own_Run p e below s _ _ _ (s₁.setTop (mkF m 22 #[.val (.ref r1), .val (.int p1), .val (.int p2), .val (.long w), .second, .val (.int i)] [(.long ((w * (10 : Int64)) + ((f i.toNatClampNeg).toInt64)))]))
        refine own_of (X0.ldc2Long hx hown (mvT hZ (hw _ (List.mem_of_getElem? (i := 39) rfl))) (g := (mkF m 22 #[.val (.ref r1), .val (.int p1), .val (.int p2), .val (.long w), .second, .val (.int i)] [(.long ((w * (10 : Int64)) + ((f i.toNatClampNeg).toInt64)))])) rfl (hb hby dV_22)) ?_
        show own_Run p e below s _ _ _ (s₁.setTop (mkF m 25 #[.val (.ref r1), .val (.int p1), .val (.int p2), .val (.long w), .second, .val (.int i)] [(.long (48 : Int64)), (.long ((w * (10 : Int64)) + ((f i.toNatClampNeg).toInt64)))]))
        refine own_of (fun _ hh_ => XS.lsub X0.here hx rfl (hb hby dV_25) rfl hh_) ?_
        show own_Run p e below s _ _ _ (s₁.setTop (mkF m 26 #[.val (.ref r1), .val (.int p1), .val (.int p2), .val (.long w), .second, .val (.int i)] [(.long (((w * (10 : Int64)) + ((f i.toNatClampNeg).toInt64)) - (48 : Int64)))]))
        refine own_of (fun _ hh_ => XS.lstoreN X0.here hx rfl (hb hby dV_26) rfl (l' := #[.val (.ref r1), .val (.int p1), .val (.int p2), .val (.long (((w * (10 : Int64)) + ((f i.toNatClampNeg).toInt64)) - (48 : Int64))), .second, .val (.int i)]) rfl hh_) ?_
        show own_Run p e below s _ _ _ (s₁.setTop (mkF m 27 #[.val (.ref r1), .val (.int p1), .val (.int p2), .val (.long (((w * (10 : Int64)) + ((f i.toNatClampNeg).toInt64)) - (48 : Int64))), .second, .val (.int i)] []))
        refine own_of (fun _ hh_ => XS.iinc X0.here hx rfl (hb hby dV_27) rfl (l' := #[.val (.ref r1), .val (.int p1), .val (.int p2), .val (.long (((w * (10 : Int64)) + ((f i.toNatClampNeg).toInt64)) - (48 : Int64))), .second, .val (.int (i + (1 : Int32)))]) rfl hh_) ?_
        show own_Run p e below s _ _ _ (s₁.setTop (mkF m 30 #[.val (.ref r1), .val (.int p1), .val (.int p2), .val (.long (((w * (10 : Int64)) + ((f i.toNatClampNeg).toInt64)) - (48 : Int64))), .second, .val (.int (i + (1 : Int32)))] []))
        refine own_of (fun _ hh_ => XS.goto X0.here hx rfl (pc0 := 30) (pc' := 5) rfl (hb hby dV_30) (by decide) (by decide) hh_) ?_
        show own_Run p e below s _ _ _ (s₁.setTop (mkF m 5 #[.val (.ref r1), .val (.int p1), .val (.int p2), .val (.long (((w * (10 : Int64)) + ((f i.toNatClampNeg).toInt64)) - (48 : Int64))), .second, .val (.int (i + (1 : Int32)))] []))
        have g1 := Int32.lt_iff_toInt_lt.mp hc8_2
        exact ih _ _ (by omega) (by omega) (by omega) (by rw [hnext]; exact hacc')
      · refine own_of (fun _ hh_ => XS.icmpYes X0.here hx rfl (pc0 := 8) (pc' := 33) rfl (hb hby dV_8) rfl (flt hc8_2).2.1 (by decide) (by decide) hh_) ?_
        show own_Run p e below s _ _ _ (s₁.setTop (mkF m 33 #[.val (.ref r1), .val (.int p1), .val (.int p2), .val (.long w), .second, .val (.int i)] []))
        refine own_of (fun _ hh_ => XS.lloadN X0.here hx rfl (hb hby dV_33) rfl hh_) ?_
        show own_Run p e below s _ _ _ (s₁.setTop (mkF m 34 #[.val (.ref r1), .val (.int p1), .val (.int p2), .val (.long w), .second, .val (.int i)] [(.long w)]))
        exact own_retJ X0 hx hret hlk (hb hby dV_34) ⟨_, rfl, (by have g0 := mt Int32.lt_iff_toInt_lt.mpr hc8_2; have ge : i = p2 := Int32.toInt_inj.mp (by omega); rw [hacc, ge]), N0, e0⟩ (by decide) (by decide)
  exact loop _ _ _ (Int.le_refl _) hab (Nat.le_refl _) (by rw [Nat.sub_self]; rfl)
theorem own_pd0 : parseMethodDescriptor "(J[JI)B" = some ⟨[.long, (.array .long), .int], some .byte⟩ := by decide +kernel
theorem own_pd1 : parseMethodDescriptor "(II)I" = some ⟨[.int, .int], some .int⟩ := by decide +kernel
theorem own_pd2 : parseMethodDescriptor "([BII)J" = some ⟨[(.array .byte), .int, .int], some .long⟩ := by decide +kernel
theorem ef0 (m : MethodId) (x1 : Int64) (jk : Int64) (a1 : Int32) (b1 : Int32) (c1 : Int32) : entryFrame m #[(.long x1), (.long jk), (.int a1), (.int b1), (.int c1)] maxLocals = mkF m 0 #[.val (.long x1), .second, .val (.long jk), .second, .val (.int a1), .val (.int b1), .val (.int c1), .unset, .unset, .unset, .unset, .unset, .unset, .unset, .unset, .unset, .unset, .unset] [] := by first | (simp [entryFrame, mkF, argsToLocals, Value.category, maxLocals]; done) | rfl
def Q0 (Z : State) (x1 : Int64) (jk : Int64) (a1 : Int32) (b1 : Int32) (c1 : Int32) (h0 : Heap) (n0 : Nat) (v : Option Value) (h : Heap) (L : List Loc) : Prop := v = some (.int 1) ∧ Fr n0 L
set_option maxRecDepth 65536 in
set_option maxHeartbeats 40000000 in
theorem rm0 (l : Launch) (Z : State) (a0 : Array Value) (hw : ∀ d ∈ tables_1, d.before a0 Z = true) (ws : List Jvm.Cond) (x1 : Int64) (jk : Int64) (a1 : Int32) (b1 : Int32) (c1 : Int32) (h0 : Heap) (n0 : Nat) (Z0 : n0 ≤ h0.size)  :
    MetFree l x (head1 (Jvm.Cond.code x code maxLocals ret :: ws) room_1) (fun a U => a = #[(.long x1), (.long jk), (.int a1), (.int b1), (.int c1)] ∧ Z.Warmed39 U.vm ∧ U.heap = h0) (fun _ _ _ _ _ => True) (fun _ U o U' => ∃ v L, o = .returned v ∧ Q0 Z x1 jk a1 b1 c1 h0 n0 v U'.heap L ∧ FrameEnd U o U' L 16 192) := by
  refine MetFree.of_bodySF (plainFor_of_name own_pn0) hisR ?_
  intro p e s m args below meth c s₁ Bd hml0 hP hK
  obtain ⟨rfl, hZ, hh⟩ := hP
  have hx := Bd.exec
  have hby := Bd.bytes
  have hml : c.maxLocals = 18 := hml0
  have hown : s.vm.findClass "com/example/lanchid/lanchid/records/WholeNumberValuePinLaw" = some m.cls := findClass_of_methodNamed Bd.named
  have hnm := (name_of_methodNamed Bd.named Bd.method).1
  have hlk := Bd.notSynchronized
  have hret := Bd.returns
  have X0 : Stand p l e room_1 s m #[(.long x1), (.long jk), (.int a1), (.int b1), (.int c1)] below meth c s₁ [] 0 0 := Stand.of_body Bd
  have e0 : s₁.heap = h0 := by rw [← hh, Bd.state]; rfl
  have N0 := Fr.nil n0
  show own_Run p e below s 16 192 (Q0 Z x1 jk a1 b1 c1 h0 n0) (s₁.setTop (entryFrame m #[(.long x1), (.long jk), (.int a1), (.int b1), (.int c1)] maxLocals))
  refine own_cast (ef0 m x1 jk a1 b1 c1) ?_
  show own_Run p e below s _ _ _ (s₁.setTop (mkF m 0 #[.val (.long x1), .second, .val (.long jk), .second, .val (.int a1), .val (.int b1), .val (.int c1), .unset, .unset, .unset, .unset, .unset, .unset, .unset, .unset, .unset, .unset, .unset] []))
  refine own_of (fun _ hh_ => XS.bipush X0.here hx rfl (hb hby at_0) hh_) ?_
  show own_Run p e below s _ _ _ (s₁.setTop (mkF m 2 #[.val (.long x1), .second, .val (.long jk), .second, .val (.int a1), .val (.int b1), .val (.int c1), .unset, .unset, .unset, .unset, .unset, .unset, .unset, .unset, .unset, .unset, .unset] [(.int (19 : Int32))]))
  obtain ⟨T1, h1, k1, X1, e1, E1, A1, st1⟩ := newP X0 hx hZ (hw _ (List.mem_of_getElem? (i := 0) rfl)) e0 (g := (mkF m 2 #[.val (.long x1), .second, .val (.long jk), .second, .val (.int a1), .val (.int b1), .val (.int c1), .unset, .unset, .unset, .unset, .unset, .unset, .unset, .unset, .unset, .unset, .unset] [(.int (19 : Int32))])) rfl (hb hby at_2) rfl (by decide) (cap := 19) (by decide) (by decide) (by decide) (by decide)
  obtain ⟨ob1, g1⟩ : ∃ z, z = h0.size := ⟨_, rfl⟩
  rw [← g1] at A1 st1
  have g_ob1 : n0 ≤ ob1 := Nat.le_trans Z0 (Nat.le_of_eq g1.symm)
  have Zz2 := Nat.le_trans Z0 E1.1
  have V1 : own_ArJ Z h1 ob1 19 (fun _ => 0) := own_ArJ.new A1 rfl rfl
  refine own_of st1 ?_
  show own_Run p e below s _ _ _ (T1.setTop (mkF m 4 #[.val (.long x1), .second, .val (.long jk), .second, .val (.int a1), .val (.int b1), .val (.int c1), .unset, .unset, .unset, .unset, .unset, .unset, .unset, .unset, .unset, .unset, .unset] [(.ref ob1)]))
  refine own_of (fun _ hh_ => XS.dup X1.here hx rfl (hb hby at_4) rfl rfl hh_) ?_
  show own_Run p e below s _ _ _ (T1.setTop (mkF m 5 #[.val (.long x1), .second, .val (.long jk), .second, .val (.int a1), .val (.int b1), .val (.int c1), .unset, .unset, .unset, .unset, .unset, .unset, .unset, .unset, .unset, .unset, .unset] [(.ref ob1), (.ref ob1)]))
  refine own_of (fun _ hh_ => XS.iconst X1.here hx rfl (hb hby at_5) hh_) ?_
  show own_Run p e below s _ _ _ (T1.setTop (mkF m 6 #[.val (.long x1), .second, .val (.long jk), .second, .val (.int a1), .val (.int b1), .val (.int c1), .unset, .unset, .unset, .unset, .unset, .unset, .unset, .unset, .unset, .unset, .unset] [(.int (0 : Int32)), (.ref ob1), (.ref ob1)]))
  refine own_of (fun _ hh_ => XS.lconst X1.here hx rfl (hb hby at_6) hh_) ?_
  show own_Run p e below s _ _ _ (T1.setTop (mkF m 7 #[.val (.long x1), .second, .val (.long jk), .second, .val (.int a1), .val (.int b1), .val (.int c1), .unset, .unset, .unset, .unset, .unset, .unset, .unset, .unset, .unset, .unset, .unset] [(.long (1 : Int64)), (.int (0 : Int32)), (.ref ob1), (.ref ob1)]))
  obtain ⟨T3, h3, X3, e3, W3, V3, st3⟩ := own_las X1 hx hZ e1 V1 (j := (0 : Int32)) (x := (1 : Int64)) (by decide) (by decide) (pc := 7) (Ls := #[.val (.long x1), .second, .val (.long jk), .second, .val (.int a1), .val (.int b1), .val (.int c1), .unset, .unset, .unset, .unset, .unset, .unset, .unset, .unset, .unset, .unset, .unset]) (rest := [(.ref ob1)]) (hb hby at_7)
  have N3 := Fr.snoc X3 N0 g_ob1
  obtain ⟨lc3, X3, N3⟩ := own_abs X3 N3
  have Zz4 := Nat.le_trans Zz2 (Nat.le_of_eq W3.size.symm)
  replace V3 : own_ArJ Z h3 ob1 19 (own_upJ (fun _ => 0) 0 (1 : Int64)) := V3
  refine own_of st3 ?_
  show own_Run p e below s _ _ _ (T3.setTop (mkF m 8 #[.val (.long x1), .second, .val (.long jk), .second, .val (.int a1), .val (.int b1), .val (.int c1), .unset, .unset, .unset, .unset, .unset, .unset, .unset, .unset, .unset, .unset, .unset] [(.ref ob1)]))
  refine own_of (fun _ hh_ => XS.dup X3.here hx rfl (hb hby at_8) rfl rfl hh_) ?_
  show own_Run p e below s _ _ _ (T3.setTop (mkF m 9 #[.val (.long x1), .second, .val (.long jk), .second, .val (.int a1), .val (.int b1), .val (.int c1), .unset, .unset, .unset, .unset, .unset, .unset, .unset, .unset, .unset, .unset, .unset] [(.ref ob1), (.ref ob1)]))
  refine own_of (fun _ hh_ => XS.iconst X3.here hx rfl (hb hby at_9) hh_) ?_
  show own_Run p e below s _ _ _ (T3.setTop (mkF m 10 #[.val (.long x1), .second, .val (.long jk), .second, .val (.int a1), .val (.int b1), .val (.int c1), .unset, .unset, .unset, .unset, .unset, .unset, .unset, .unset, .unset, .unset, .unset] [(.int (1 : Int32)), (.ref ob1), (.ref ob1)]))
  refine own_of (X3.ldc2Long hx hown (mvT hZ (hw _ (List.mem_of_getElem? (i := 1) rfl))) (g := (mkF m 10 #[.val (.long x1), .second, .val (.long jk), .second, .val (.int a1), .val (.int b1), .val (.int c1), .unset, .unset, .unset, .unset, .unset, .unset, .unset, .unset, .unset, .unset, .unset] [(.int (1 : Int32)), (.ref ob1), (.ref ob1)])) rfl (hb hby at_10)) ?_
  show own_Run p e below s _ _ _ (T3.setTop (mkF m 13 #[.val (.long x1), .second, .val (.long jk), .second, .val (.int a1), .val (.int b1), .val (.int c1), .unset, .unset, .unset, .unset, .unset, .unset, .unset, .unset, .unset, .unset, .unset] [(.long (10 : Int64)), (.int (1 : Int32)), (.ref ob1), (.ref ob1)]))
  obtain ⟨T5, h5, X5, e5, W5, V5, st5⟩ := own_las X3 hx hZ e3 V3 (j := (1 : Int32)) (x := (10 : Int64)) (by decide) (by decide) (pc := 13) (Ls := #[.val (.long x1), .second, .val (.long jk), .second, .val (.int a1), .val (.int b1), .val (.int c1), .unset, .unset, .unset, .unset, .unset, .unset, .unset, .unset, .unset, .unset, .unset]) (rest := [(.ref ob1)]) (hb hby at_13)
  have N5 := Fr.snoc X5 N3 g_ob1
  obtain ⟨lc5, X5, N5⟩ := own_abs X5 N5
  have Zz6 := Nat.le_trans Zz4 (Nat.le_of_eq W5.size.symm)
  replace V5 : own_ArJ Z h5 ob1 19 (own_upJ (own_upJ (fun _ => 0) 0 (1 : Int64)) 1 (10 : Int64)) := V5
  refine own_of st5 ?_
  show own_Run p e below s _ _ _ (T5.setTop (mkF m 14 #[.val (.long x1), .second, .val (.long jk), .second, .val (.int a1), .val (.int b1), .val (.int c1), .unset, .unset, .unset, .unset, .unset, .unset, .unset, .unset, .unset, .unset, .unset] [(.ref ob1)]))
  refine own_of (fun _ hh_ => XS.dup X5.here hx rfl (hb hby at_14) rfl rfl hh_) ?_
  show own_Run p e below s _ _ _ (T5.setTop (mkF m 15 #[.val (.long x1), .second, .val (.long jk), .second, .val (.int a1), .val (.int b1), .val (.int c1), .unset, .unset, .unset, .unset, .unset, .unset, .unset, .unset, .unset, .unset, .unset] [(.ref ob1), (.ref ob1)]))
  refine own_of (fun _ hh_ => XS.iconst X5.here hx rfl (hb hby at_15) hh_) ?_
  show own_Run p e below s _ _ _ (T5.setTop (mkF m 16 #[.val (.long x1), .second, .val (.long jk), .second, .val (.int a1), .val (.int b1), .val (.int c1), .unset, .unset, .unset, .unset, .unset, .unset, .unset, .unset, .unset, .unset, .unset] [(.int (2 : Int32)), (.ref ob1), (.ref ob1)]))
  refine own_of (X5.ldc2Long hx hown (mvT hZ (hw _ (List.mem_of_getElem? (i := 2) rfl))) (g := (mkF m 16 #[.val (.long x1), .second, .val (.long jk), .second, .val (.int a1), .val (.int b1), .val (.int c1), .unset, .unset, .unset, .unset, .unset, .unset, .unset, .unset, .unset, .unset, .unset] [(.int (2 : Int32)), (.ref ob1), (.ref ob1)])) rfl (hb hby at_16)) ?_
  show own_Run p e below s _ _ _ (T5.setTop (mkF m 19 #[.val (.long x1), .second, .val (.long jk), .second, .val (.int a1), .val (.int b1), .val (.int c1), .unset, .unset, .unset, .unset, .unset, .unset, .unset, .unset, .unset, .unset, .unset] [(.long (100 : Int64)), (.int (2 : Int32)), (.ref ob1), (.ref ob1)]))
  obtain ⟨T7, h7, X7, e7, W7, V7, st7⟩ := own_las X5 hx hZ e5 V5 (j := (2 : Int32)) (x := (100 : Int64)) (by decide) (by decide) (pc := 19) (Ls := #[.val (.long x1), .second, .val (.long jk), .second, .val (.int a1), .val (.int b1), .val (.int c1), .unset, .unset, .unset, .unset, .unset, .unset, .unset, .unset, .unset, .unset, .unset]) (rest := [(.ref ob1)]) (hb hby at_19)
  have N7 := Fr.snoc X7 N5 g_ob1
  obtain ⟨lc7, X7, N7⟩ := own_abs X7 N7
  have Zz8 := Nat.le_trans Zz6 (Nat.le_of_eq W7.size.symm)
  replace V7 : own_ArJ Z h7 ob1 19 (own_upJ (own_upJ (own_upJ (fun _ => 0) 0 (1 : Int64)) 1 (10 : Int64)) 2 (100 : Int64)) := V7
  refine own_of st7 ?_
  show own_Run p e below s _ _ _ (T7.setTop (mkF m 20 #[.val (.long x1), .second, .val (.long jk), .second, .val (.int a1), .val (.int b1), .val (.int c1), .unset, .unset, .unset, .unset, .unset, .unset, .unset, .unset, .unset, .unset, .unset] [(.ref ob1)]))
  refine own_of (fun _ hh_ => XS.dup X7.here hx rfl (hb hby at_20) rfl rfl hh_) ?_
  show own_Run p e below s _ _ _ (T7.setTop (mkF m 21 #[.val (.long x1), .second, .val (.long jk), .second, .val (.int a1), .val (.int b1), .val (.int c1), .unset, .unset, .unset, .unset, .unset, .unset, .unset, .unset, .unset, .unset, .unset] [(.ref ob1), (.ref ob1)]))
  refine own_of (fun _ hh_ => XS.iconst X7.here hx rfl (hb hby at_21) hh_) ?_
  show own_Run p e below s _ _ _ (T7.setTop (mkF m 22 #[.val (.long x1), .second, .val (.long jk), .second, .val (.int a1), .val (.int b1), .val (.int c1), .unset, .unset, .unset, .unset, .unset, .unset, .unset, .unset, .unset, .unset, .unset] [(.int (3 : Int32)), (.ref ob1), (.ref ob1)]))
  refine own_of (X7.ldc2Long hx hown (mvT hZ (hw _ (List.mem_of_getElem? (i := 3) rfl))) (g := (mkF m 22 #[.val (.long x1), .second, .val (.long jk), .second, .val (.int a1), .val (.int b1), .val (.int c1), .unset, .unset, .unset, .unset, .unset, .unset, .unset, .unset, .unset, .unset, .unset] [(.int (3 : Int32)), (.ref ob1), (.ref ob1)])) rfl (hb hby at_22)) ?_
  show own_Run p e below s _ _ _ (T7.setTop (mkF m 25 #[.val (.long x1), .second, .val (.long jk), .second, .val (.int a1), .val (.int b1), .val (.int c1), .unset, .unset, .unset, .unset, .unset, .unset, .unset, .unset, .unset, .unset, .unset] [(.long (1000 : Int64)), (.int (3 : Int32)), (.ref ob1), (.ref ob1)]))
  obtain ⟨T9, h9, X9, e9, W9, V9, st9⟩ := own_las X7 hx hZ e7 V7 (j := (3 : Int32)) (x := (1000 : Int64)) (by decide) (by decide) (pc := 25) (Ls := #[.val (.long x1), .second, .val (.long jk), .second, .val (.int a1), .val (.int b1), .val (.int c1), .unset, .unset, .unset, .unset, .unset, .unset, .unset, .unset, .unset, .unset, .unset]) (rest := [(.ref ob1)]) (hb hby at_25)
  have N9 := Fr.snoc X9 N7 g_ob1
  obtain ⟨lc9, X9, N9⟩ := own_abs X9 N9
  have Zz10 := Nat.le_trans Zz8 (Nat.le_of_eq W9.size.symm)
  replace V9 : own_ArJ Z h9 ob1 19 (own_upJ (own_upJ (own_upJ (own_upJ (fun _ => 0) 0 (1 : Int64)) 1 (10 : Int64)) 2 (100 : Int64)) 3 (1000 : Int64)) := V9
  refine own_of st9 ?_
  show own_Run p e below s _ _ _ (T9.setTop (mkF m 26 #[.val (.long x1), .second, .val (.long jk), .second, .val (.int a1), .val (.int b1), .val (.int c1), .unset, .unset, .unset, .unset, .unset, .unset, .unset, .unset, .unset, .unset, .unset] [(.ref ob1)]))
  refine own_of (fun _ hh_ => XS.dup X9.here hx rfl (hb hby at_26) rfl rfl hh_) ?_
  show own_Run p e below s _ _ _ (T9.setTop (mkF m 27 #[.val (.long x1), .second, .val (.long jk), .second, .val (.int a1), .val (.int b1), .val (.int c1), .unset, .unset, .unset, .unset, .unset, .unset, .unset, .unset, .unset, .unset, .unset] [(.ref ob1), (.ref ob1)]))
  refine own_of (fun _ hh_ => XS.iconst X9.here hx rfl (hb hby at_27) hh_) ?_
  show own_Run p e below s _ _ _ (T9.setTop (mkF m 28 #[.val (.long x1), .second, .val (.long jk), .second, .val (.int a1), .val (.int b1), .val (.int c1), .unset, .unset, .unset, .unset, .unset, .unset, .unset, .unset, .unset, .unset, .unset] [(.int (4 : Int32)), (.ref ob1), (.ref ob1)]))
  refine own_of (X9.ldc2Long hx hown (mvT hZ (hw _ (List.mem_of_getElem? (i := 4) rfl))) (g := (mkF m 28 #[.val (.long x1), .second, .val (.long jk), .second, .val (.int a1), .val (.int b1), .val (.int c1), .unset, .unset, .unset, .unset, .unset, .unset, .unset, .unset, .unset, .unset, .unset] [(.int (4 : Int32)), (.ref ob1), (.ref ob1)])) rfl (hb hby at_28)) ?_
  show own_Run p e below s _ _ _ (T9.setTop (mkF m 31 #[.val (.long x1), .second, .val (.long jk), .second, .val (.int a1), .val (.int b1), .val (.int c1), .unset, .unset, .unset, .unset, .unset, .unset, .unset, .unset, .unset, .unset, .unset] [(.long (10000 : Int64)), (.int (4 : Int32)), (.ref ob1), (.ref ob1)]))
  obtain ⟨T11, h11, X11, e11, W11, V11, st11⟩ := own_las X9 hx hZ e9 V9 (j := (4 : Int32)) (x := (10000 : Int64)) (by decide) (by decide) (pc := 31) (Ls := #[.val (.long x1), .second, .val (.long jk), .second, .val (.int a1), .val (.int b1), .val (.int c1), .unset, .unset, .unset, .unset, .unset, .unset, .unset, .unset, .unset, .unset, .unset]) (rest := [(.ref ob1)]) (hb hby at_31)
  have N11 := Fr.snoc X11 N9 g_ob1
  obtain ⟨lc11, X11, N11⟩ := own_abs X11 N11
  have Zz12 := Nat.le_trans Zz10 (Nat.le_of_eq W11.size.symm)
  replace V11 : own_ArJ Z h11 ob1 19 (own_upJ (own_upJ (own_upJ (own_upJ (own_upJ (fun _ => 0) 0 (1 : Int64)) 1 (10 : Int64)) 2 (100 : Int64)) 3 (1000 : Int64)) 4 (10000 : Int64)) := V11
  refine own_of st11 ?_
  show own_Run p e below s _ _ _ (T11.setTop (mkF m 32 #[.val (.long x1), .second, .val (.long jk), .second, .val (.int a1), .val (.int b1), .val (.int c1), .unset, .unset, .unset, .unset, .unset, .unset, .unset, .unset, .unset, .unset, .unset] [(.ref ob1)]))
  refine own_of (fun _ hh_ => XS.dup X11.here hx rfl (hb hby at_32) rfl rfl hh_) ?_
  show own_Run p e below s _ _ _ (T11.setTop (mkF m 33 #[.val (.long x1), .second, .val (.long jk), .second, .val (.int a1), .val (.int b1), .val (.int c1), .unset, .unset, .unset, .unset, .unset, .unset, .unset, .unset, .unset, .unset, .unset] [(.ref ob1), (.ref ob1)]))
  refine own_of (fun _ hh_ => XS.iconst X11.here hx rfl (hb hby at_33) hh_) ?_
  show own_Run p e below s _ _ _ (T11.setTop (mkF m 34 #[.val (.long x1), .second, .val (.long jk), .second, .val (.int a1), .val (.int b1), .val (.int c1), .unset, .unset, .unset, .unset, .unset, .unset, .unset, .unset, .unset, .unset, .unset] [(.int (5 : Int32)), (.ref ob1), (.ref ob1)]))
  refine own_of (X11.ldc2Long hx hown (mvT hZ (hw _ (List.mem_of_getElem? (i := 5) rfl))) (g := (mkF m 34 #[.val (.long x1), .second, .val (.long jk), .second, .val (.int a1), .val (.int b1), .val (.int c1), .unset, .unset, .unset, .unset, .unset, .unset, .unset, .unset, .unset, .unset, .unset] [(.int (5 : Int32)), (.ref ob1), (.ref ob1)])) rfl (hb hby at_34)) ?_
  show own_Run p e below s _ _ _ (T11.setTop (mkF m 37 #[.val (.long x1), .second, .val (.long jk), .second, .val (.int a1), .val (.int b1), .val (.int c1), .unset, .unset, .unset, .unset, .unset, .unset, .unset, .unset, .unset, .unset, .unset] [(.long (100000 : Int64)), (.int (5 : Int32)), (.ref ob1), (.ref ob1)]))
  obtain ⟨T13, h13, X13, e13, W13, V13, st13⟩ := own_las X11 hx hZ e11 V11 (j := (5 : Int32)) (x := (100000 : Int64)) (by decide) (by decide) (pc := 37) (Ls := #[.val (.long x1), .second, .val (.long jk), .second, .val (.int a1), .val (.int b1), .val (.int c1), .unset, .unset, .unset, .unset, .unset, .unset, .unset, .unset, .unset, .unset, .unset]) (rest := [(.ref ob1)]) (hb hby at_37)
  have N13 := Fr.snoc X13 N11 g_ob1
  obtain ⟨lc13, X13, N13⟩ := own_abs X13 N13
  have Zz14 := Nat.le_trans Zz12 (Nat.le_of_eq W13.size.symm)
  replace V13 : own_ArJ Z h13 ob1 19 (own_upJ (own_upJ (own_upJ (own_upJ (own_upJ (own_upJ (fun _ => 0) 0 (1 : Int64)) 1 (10 : Int64)) 2 (100 : Int64)) 3 (1000 : Int64)) 4 (10000 : Int64)) 5 (100000 : Int64)) := V13
  refine own_of st13 ?_
  show own_Run p e below s _ _ _ (T13.setTop (mkF m 38 #[.val (.long x1), .second, .val (.long jk), .second, .val (.int a1), .val (.int b1), .val (.int c1), .unset, .unset, .unset, .unset, .unset, .unset, .unset, .unset, .unset, .unset, .unset] [(.ref ob1)]))
  refine own_of (fun _ hh_ => XS.dup X13.here hx rfl (hb hby at_38) rfl rfl hh_) ?_
  show own_Run p e below s _ _ _ (T13.setTop (mkF m 39 #[.val (.long x1), .second, .val (.long jk), .second, .val (.int a1), .val (.int b1), .val (.int c1), .unset, .unset, .unset, .unset, .unset, .unset, .unset, .unset, .unset, .unset, .unset] [(.ref ob1), (.ref ob1)]))
  refine own_of (fun _ hh_ => XS.bipush X13.here hx rfl (hb hby at_39) hh_) ?_
  show own_Run p e below s _ _ _ (T13.setTop (mkF m 41 #[.val (.long x1), .second, .val (.long jk), .second, .val (.int a1), .val (.int b1), .val (.int c1), .unset, .unset, .unset, .unset, .unset, .unset, .unset, .unset, .unset, .unset, .unset] [(.int (6 : Int32)), (.ref ob1), (.ref ob1)]))
  refine own_of (X13.ldc2Long hx hown (mvT hZ (hw _ (List.mem_of_getElem? (i := 6) rfl))) (g := (mkF m 41 #[.val (.long x1), .second, .val (.long jk), .second, .val (.int a1), .val (.int b1), .val (.int c1), .unset, .unset, .unset, .unset, .unset, .unset, .unset, .unset, .unset, .unset, .unset] [(.int (6 : Int32)), (.ref ob1), (.ref ob1)])) rfl (hb hby at_41)) ?_
  show own_Run p e below s _ _ _ (T13.setTop (mkF m 44 #[.val (.long x1), .second, .val (.long jk), .second, .val (.int a1), .val (.int b1), .val (.int c1), .unset, .unset, .unset, .unset, .unset, .unset, .unset, .unset, .unset, .unset, .unset] [(.long (1000000 : Int64)), (.int (6 : Int32)), (.ref ob1), (.ref ob1)]))
  obtain ⟨T15, h15, X15, e15, W15, V15, st15⟩ := own_las X13 hx hZ e13 V13 (j := (6 : Int32)) (x := (1000000 : Int64)) (by decide) (by decide) (pc := 44) (Ls := #[.val (.long x1), .second, .val (.long jk), .second, .val (.int a1), .val (.int b1), .val (.int c1), .unset, .unset, .unset, .unset, .unset, .unset, .unset, .unset, .unset, .unset, .unset]) (rest := [(.ref ob1)]) (hb hby at_44)
  have N15 := Fr.snoc X15 N13 g_ob1
  obtain ⟨lc15, X15, N15⟩ := own_abs X15 N15
  have Zz16 := Nat.le_trans Zz14 (Nat.le_of_eq W15.size.symm)
  replace V15 : own_ArJ Z h15 ob1 19 (own_upJ (own_upJ (own_upJ (own_upJ (own_upJ (own_upJ (own_upJ (fun _ => 0) 0 (1 : Int64)) 1 (10 : Int64)) 2 (100 : Int64)) 3 (1000 : Int64)) 4 (10000 : Int64)) 5 (100000 : Int64)) 6 (1000000 : Int64)) := V15
  refine own_of st15 ?_
  show own_Run p e below s _ _ _ (T15.setTop (mkF m 45 #[.val (.long x1), .second, .val (.long jk), .second, .val (.int a1), .val (.int b1), .val (.int c1), .unset, .unset, .unset, .unset, .unset, .unset, .unset, .unset, .unset, .unset, .unset] [(.ref ob1)]))
  refine own_of (fun _ hh_ => XS.dup X15.here hx rfl (hb hby at_45) rfl rfl hh_) ?_
  show own_Run p e below s _ _ _ (T15.setTop (mkF m 46 #[.val (.long x1), .second, .val (.long jk), .second, .val (.int a1), .val (.int b1), .val (.int c1), .unset, .unset, .unset, .unset, .unset, .unset, .unset, .unset, .unset, .unset, .unset] [(.ref ob1), (.ref ob1)]))
  refine own_of (fun _ hh_ => XS.bipush X15.here hx rfl (hb hby at_46) hh_) ?_
  show own_Run p e below s _ _ _ (T15.setTop (mkF m 48 #[.val (.long x1), .second, .val (.long jk), .second, .val (.int a1), .val (.int b1), .val (.int c1), .unset, .unset, .unset, .unset, .unset, .unset, .unset, .unset, .unset, .unset, .unset] [(.int (7 : Int32)), (.ref ob1), (.ref ob1)]))
  refine own_of (X15.ldc2Long hx hown (mvT hZ (hw _ (List.mem_of_getElem? (i := 7) rfl))) (g := (mkF m 48 #[.val (.long x1), .second, .val (.long jk), .second, .val (.int a1), .val (.int b1), .val (.int c1), .unset, .unset, .unset, .unset, .unset, .unset, .unset, .unset, .unset, .unset, .unset] [(.int (7 : Int32)), (.ref ob1), (.ref ob1)])) rfl (hb hby at_48)) ?_
  show own_Run p e below s _ _ _ (T15.setTop (mkF m 51 #[.val (.long x1), .second, .val (.long jk), .second, .val (.int a1), .val (.int b1), .val (.int c1), .unset, .unset, .unset, .unset, .unset, .unset, .unset, .unset, .unset, .unset, .unset] [(.long (10000000 : Int64)), (.int (7 : Int32)), (.ref ob1), (.ref ob1)]))
  obtain ⟨T17, h17, X17, e17, W17, V17, st17⟩ := own_las X15 hx hZ e15 V15 (j := (7 : Int32)) (x := (10000000 : Int64)) (by decide) (by decide) (pc := 51) (Ls := #[.val (.long x1), .second, .val (.long jk), .second, .val (.int a1), .val (.int b1), .val (.int c1), .unset, .unset, .unset, .unset, .unset, .unset, .unset, .unset, .unset, .unset, .unset]) (rest := [(.ref ob1)]) (hb hby at_51)
  have N17 := Fr.snoc X17 N15 g_ob1
  obtain ⟨lc17, X17, N17⟩ := own_abs X17 N17
  have Zz18 := Nat.le_trans Zz16 (Nat.le_of_eq W17.size.symm)
  replace V17 : own_ArJ Z h17 ob1 19 (own_upJ (own_upJ (own_upJ (own_upJ (own_upJ (own_upJ (own_upJ (own_upJ (fun _ => 0) 0 (1 : Int64)) 1 (10 : Int64)) 2 (100 : Int64)) 3 (1000 : Int64)) 4 (10000 : Int64)) 5 (100000 : Int64)) 6 (1000000 : Int64)) 7 (10000000 : Int64)) := V17
  refine own_of st17 ?_
  show own_Run p e below s _ _ _ (T17.setTop (mkF m 52 #[.val (.long x1), .second, .val (.long jk), .second, .val (.int a1), .val (.int b1), .val (.int c1), .unset, .unset, .unset, .unset, .unset, .unset, .unset, .unset, .unset, .unset, .unset] [(.ref ob1)]))
  refine own_of (fun _ hh_ => XS.dup X17.here hx rfl (hb hby at_52) rfl rfl hh_) ?_
  show own_Run p e below s _ _ _ (T17.setTop (mkF m 53 #[.val (.long x1), .second, .val (.long jk), .second, .val (.int a1), .val (.int b1), .val (.int c1), .unset, .unset, .unset, .unset, .unset, .unset, .unset, .unset, .unset, .unset, .unset] [(.ref ob1), (.ref ob1)]))
  refine own_of (fun _ hh_ => XS.bipush X17.here hx rfl (hb hby at_53) hh_) ?_
  show own_Run p e below s _ _ _ (T17.setTop (mkF m 55 #[.val (.long x1), .second, .val (.long jk), .second, .val (.int a1), .val (.int b1), .val (.int c1), .unset, .unset, .unset, .unset, .unset, .unset, .unset, .unset, .unset, .unset, .unset] [(.int (8 : Int32)), (.ref ob1), (.ref ob1)]))
  refine own_of (X17.ldc2Long hx hown (mvT hZ (hw _ (List.mem_of_getElem? (i := 8) rfl))) (g := (mkF m 55 #[.val (.long x1), .second, .val (.long jk), .second, .val (.int a1), .val (.int b1), .val (.int c1), .unset, .unset, .unset, .unset, .unset, .unset, .unset, .unset, .unset, .unset, .unset] [(.int (8 : Int32)), (.ref ob1), (.ref ob1)])) rfl (hb hby at_55)) ?_
  show own_Run p e below s _ _ _ (T17.setTop (mkF m 58 #[.val (.long x1), .second, .val (.long jk), .second, .val (.int a1), .val (.int b1), .val (.int c1), .unset, .unset, .unset, .unset, .unset, .unset, .unset, .unset, .unset, .unset, .unset] [(.long (100000000 : Int64)), (.int (8 : Int32)), (.ref ob1), (.ref ob1)]))
  obtain ⟨T19, h19, X19, e19, W19, V19, st19⟩ := own_las X17 hx hZ e17 V17 (j := (8 : Int32)) (x := (100000000 : Int64)) (by decide) (by decide) (pc := 58) (Ls := #[.val (.long x1), .second, .val (.long jk), .second, .val (.int a1), .val (.int b1), .val (.int c1), .unset, .unset, .unset, .unset, .unset, .unset, .unset, .unset, .unset, .unset, .unset]) (rest := [(.ref ob1)]) (hb hby at_58)
  have N19 := Fr.snoc X19 N17 g_ob1
  obtain ⟨lc19, X19, N19⟩ := own_abs X19 N19
  have Zz20 := Nat.le_trans Zz18 (Nat.le_of_eq W19.size.symm)
  replace V19 : own_ArJ Z h19 ob1 19 (own_upJ (own_upJ (own_upJ (own_upJ (own_upJ (own_upJ (own_upJ (own_upJ (own_upJ (fun _ => 0) 0 (1 : Int64)) 1 (10 : Int64)) 2 (100 : Int64)) 3 (1000 : Int64)) 4 (10000 : Int64)) 5 (100000 : Int64)) 6 (1000000 : Int64)) 7 (10000000 : Int64)) 8 (100000000 : Int64)) := V19
  refine own_of st19 ?_
  show own_Run p e below s _ _ _ (T19.setTop (mkF m 59 #[.val (.long x1), .second, .val (.long jk), .second, .val (.int a1), .val (.int b1), .val (.int c1), .unset, .unset, .unset, .unset, .unset, .unset, .unset, .unset, .unset, .unset, .unset] [(.ref ob1)]))
  refine own_of (fun _ hh_ => XS.dup X19.here hx rfl (hb hby at_59) rfl rfl hh_) ?_
  show own_Run p e below s _ _ _ (T19.setTop (mkF m 60 #[.val (.long x1), .second, .val (.long jk), .second, .val (.int a1), .val (.int b1), .val (.int c1), .unset, .unset, .unset, .unset, .unset, .unset, .unset, .unset, .unset, .unset, .unset] [(.ref ob1), (.ref ob1)]))
  refine own_of (fun _ hh_ => XS.bipush X19.here hx rfl (hb hby at_60) hh_) ?_
  show own_Run p e below s _ _ _ (T19.setTop (mkF m 62 #[.val (.long x1), .second, .val (.long jk), .second, .val (.int a1), .val (.int b1), .val (.int c1), .unset, .unset, .unset, .unset, .unset, .unset, .unset, .unset, .unset, .unset, .unset] [(.int (9 : Int32)), (.ref ob1), (.ref ob1)]))
  refine own_of (X19.ldc2Long hx hown (mvT hZ (hw _ (List.mem_of_getElem? (i := 9) rfl))) (g := (mkF m 62 #[.val (.long x1), .second, .val (.long jk), .second, .val (.int a1), .val (.int b1), .val (.int c1), .unset, .unset, .unset, .unset, .unset, .unset, .unset, .unset, .unset, .unset, .unset] [(.int (9 : Int32)), (.ref ob1), (.ref ob1)])) rfl (hb hby at_62)) ?_
  show own_Run p e below s _ _ _ (T19.setTop (mkF m 65 #[.val (.long x1), .second, .val (.long jk), .second, .val (.int a1), .val (.int b1), .val (.int c1), .unset, .unset, .unset, .unset, .unset, .unset, .unset, .unset, .unset, .unset, .unset] [(.long (1000000000 : Int64)), (.int (9 : Int32)), (.ref ob1), (.ref ob1)]))
  obtain ⟨T21, h21, X21, e21, W21, V21, st21⟩ := own_las X19 hx hZ e19 V19 (j := (9 : Int32)) (x := (1000000000 : Int64)) (by decide) (by decide) (pc := 65) (Ls := #[.val (.long x1), .second, .val (.long jk), .second, .val (.int a1), .val (.int b1), .val (.int c1), .unset, .unset, .unset, .unset, .unset, .unset, .unset, .unset, .unset, .unset, .unset]) (rest := [(.ref ob1)]) (hb hby at_65)
  have N21 := Fr.snoc X21 N19 g_ob1
  obtain ⟨lc21, X21, N21⟩ := own_abs X21 N21
  have Zz22 := Nat.le_trans Zz20 (Nat.le_of_eq W21.size.symm)
  replace V21 : own_ArJ Z h21 ob1 19 (own_upJ (own_upJ (own_upJ (own_upJ (own_upJ (own_upJ (own_upJ (own_upJ (own_upJ (own_upJ (fun _ => 0) 0 (1 : Int64)) 1 (10 : Int64)) 2 (100 : Int64)) 3 (1000 : Int64)) 4 (10000 : Int64)) 5 (100000 : Int64)) 6 (1000000 : Int64)) 7 (10000000 : Int64)) 8 (100000000 : Int64)) 9 (1000000000 : Int64)) := V21
  refine own_of st21 ?_
  show own_Run p e below s _ _ _ (T21.setTop (mkF m 66 #[.val (.long x1), .second, .val (.long jk), .second, .val (.int a1), .val (.int b1), .val (.int c1), .unset, .unset, .unset, .unset, .unset, .unset, .unset, .unset, .unset, .unset, .unset] [(.ref ob1)]))
  refine own_of (fun _ hh_ => XS.dup X21.here hx rfl (hb hby at_66) rfl rfl hh_) ?_
  show own_Run p e below s _ _ _ (T21.setTop (mkF m 67 #[.val (.long x1), .second, .val (.long jk), .second, .val (.int a1), .val (.int b1), .val (.int c1), .unset, .unset, .unset, .unset, .unset, .unset, .unset, .unset, .unset, .unset, .unset] [(.ref ob1), (.ref ob1)]))
  refine own_of (fun _ hh_ => XS.bipush X21.here hx rfl (hb hby at_67) hh_) ?_
  show own_Run p e below s _ _ _ (T21.setTop (mkF m 69 #[.val (.long x1), .second, .val (.long jk), .second, .val (.int a1), .val (.int b1), .val (.int c1), .unset, .unset, .unset, .unset, .unset, .unset, .unset, .unset, .unset, .unset, .unset] [(.int (10 : Int32)), (.ref ob1), (.ref ob1)]))
  refine own_of (X21.ldc2Long hx hown (mvT hZ (hw _ (List.mem_of_getElem? (i := 10) rfl))) (g := (mkF m 69 #[.val (.long x1), .second, .val (.long jk), .second, .val (.int a1), .val (.int b1), .val (.int c1), .unset, .unset, .unset, .unset, .unset, .unset, .unset, .unset, .unset, .unset, .unset] [(.int (10 : Int32)), (.ref ob1), (.ref ob1)])) rfl (hb hby at_69)) ?_
  show own_Run p e below s _ _ _ (T21.setTop (mkF m 72 #[.val (.long x1), .second, .val (.long jk), .second, .val (.int a1), .val (.int b1), .val (.int c1), .unset, .unset, .unset, .unset, .unset, .unset, .unset, .unset, .unset, .unset, .unset] [(.long (10000000000 : Int64)), (.int (10 : Int32)), (.ref ob1), (.ref ob1)]))
  obtain ⟨T23, h23, X23, e23, W23, V23, st23⟩ := own_las X21 hx hZ e21 V21 (j := (10 : Int32)) (x := (10000000000 : Int64)) (by decide) (by decide) (pc := 72) (Ls := #[.val (.long x1), .second, .val (.long jk), .second, .val (.int a1), .val (.int b1), .val (.int c1), .unset, .unset, .unset, .unset, .unset, .unset, .unset, .unset, .unset, .unset, .unset]) (rest := [(.ref ob1)]) (hb hby at_72)
  have N23 := Fr.snoc X23 N21 g_ob1
  obtain ⟨lc23, X23, N23⟩ := own_abs X23 N23
  have Zz24 := Nat.le_trans Zz22 (Nat.le_of_eq W23.size.symm)
  replace V23 : own_ArJ Z h23 ob1 19 (own_upJ (own_upJ (own_upJ (own_upJ (own_upJ (own_upJ (own_upJ (own_upJ (own_upJ (own_upJ (own_upJ (fun _ => 0) 0 (1 : Int64)) 1 (10 : Int64)) 2 (100 : Int64)) 3 (1000 : Int64)) 4 (10000 : Int64)) 5 (100000 : Int64)) 6 (1000000 : Int64)) 7 (10000000 : Int64)) 8 (100000000 : Int64)) 9 (1000000000 : Int64)) 10 (10000000000 : Int64)) := V23
  refine own_of st23 ?_
  show own_Run p e below s _ _ _ (T23.setTop (mkF m 73 #[.val (.long x1), .second, .val (.long jk), .second, .val (.int a1), .val (.int b1), .val (.int c1), .unset, .unset, .unset, .unset, .unset, .unset, .unset, .unset, .unset, .unset, .unset] [(.ref ob1)]))
  refine own_of (fun _ hh_ => XS.dup X23.here hx rfl (hb hby at_73) rfl rfl hh_) ?_
  show own_Run p e below s _ _ _ (T23.setTop (mkF m 74 #[.val (.long x1), .second, .val (.long jk), .second, .val (.int a1), .val (.int b1), .val (.int c1), .unset, .unset, .unset, .unset, .unset, .unset, .unset, .unset, .unset, .unset, .unset] [(.ref ob1), (.ref ob1)]))
  refine own_of (fun _ hh_ => XS.bipush X23.here hx rfl (hb hby at_74) hh_) ?_
  show own_Run p e below s _ _ _ (T23.setTop (mkF m 76 #[.val (.long x1), .second, .val (.long jk), .second, .val (.int a1), .val (.int b1), .val (.int c1), .unset, .unset, .unset, .unset, .unset, .unset, .unset, .unset, .unset, .unset, .unset] [(.int (11 : Int32)), (.ref ob1), (.ref ob1)]))
  refine own_of (X23.ldc2Long hx hown (mvT hZ (hw _ (List.mem_of_getElem? (i := 11) rfl))) (g := (mkF m 76 #[.val (.long x1), .second, .val (.long jk), .second, .val (.int a1), .val (.int b1), .val (.int c1), .unset, .unset, .unset, .unset, .unset, .unset, .unset, .unset, .unset, .unset, .unset] [(.int (11 : Int32)), (.ref ob1), (.ref ob1)])) rfl (hb hby at_76)) ?_
  show own_Run p e below s _ _ _ (T23.setTop (mkF m 79 #[.val (.long x1), .second, .val (.long jk), .second, .val (.int a1), .val (.int b1), .val (.int c1), .unset, .unset, .unset, .unset, .unset, .unset, .unset, .unset, .unset, .unset, .unset] [(.long (100000000000 : Int64)), (.int (11 : Int32)), (.ref ob1), (.ref ob1)]))
  obtain ⟨T25, h25, X25, e25, W25, V25, st25⟩ := own_las X23 hx hZ e23 V23 (j := (11 : Int32)) (x := (100000000000 : Int64)) (by decide) (by decide) (pc := 79) (Ls := #[.val (.long x1), .second, .val (.long jk), .second, .val (.int a1), .val (.int b1), .val (.int c1), .unset, .unset, .unset, .unset, .unset, .unset, .unset, .unset, .unset, .unset, .unset]) (rest := [(.ref ob1)]) (hb hby at_79)
  have N25 := Fr.snoc X25 N23 g_ob1
  obtain ⟨lc25, X25, N25⟩ := own_abs X25 N25
  have Zz26 := Nat.le_trans Zz24 (Nat.le_of_eq W25.size.symm)
  replace V25 : own_ArJ Z h25 ob1 19 (own_upJ (own_upJ (own_upJ (own_upJ (own_upJ (own_upJ (own_upJ (own_upJ (own_upJ (own_upJ (own_upJ (own_upJ (fun _ => 0) 0 (1 : Int64)) 1 (10 : Int64)) 2 (100 : Int64)) 3 (1000 : Int64)) 4 (10000 : Int64)) 5 (100000 : Int64)) 6 (1000000 : Int64)) 7 (10000000 : Int64)) 8 (100000000 : Int64)) 9 (1000000000 : Int64)) 10 (10000000000 : Int64)) 11 (100000000000 : Int64)) := V25
  refine own_of st25 ?_
  show own_Run p e below s _ _ _ (T25.setTop (mkF m 80 #[.val (.long x1), .second, .val (.long jk), .second, .val (.int a1), .val (.int b1), .val (.int c1), .unset, .unset, .unset, .unset, .unset, .unset, .unset, .unset, .unset, .unset, .unset] [(.ref ob1)]))
  refine own_of (fun _ hh_ => XS.dup X25.here hx rfl (hb hby at_80) rfl rfl hh_) ?_
  show own_Run p e below s _ _ _ (T25.setTop (mkF m 81 #[.val (.long x1), .second, .val (.long jk), .second, .val (.int a1), .val (.int b1), .val (.int c1), .unset, .unset, .unset, .unset, .unset, .unset, .unset, .unset, .unset, .unset, .unset] [(.ref ob1), (.ref ob1)]))
  refine own_of (fun _ hh_ => XS.bipush X25.here hx rfl (hb hby at_81) hh_) ?_
  show own_Run p e below s _ _ _ (T25.setTop (mkF m 83 #[.val (.long x1), .second, .val (.long jk), .second, .val (.int a1), .val (.int b1), .val (.int c1), .unset, .unset, .unset, .unset, .unset, .unset, .unset, .unset, .unset, .unset, .unset] [(.int (12 : Int32)), (.ref ob1), (.ref ob1)]))
  refine own_of (X25.ldc2Long hx hown (mvT hZ (hw _ (List.mem_of_getElem? (i := 12) rfl))) (g := (mkF m 83 #[.val (.long x1), .second, .val (.long jk), .second, .val (.int a1), .val (.int b1), .val (.int c1), .unset, .unset, .unset, .unset, .unset, .unset, .unset, .unset, .unset, .unset, .unset] [(.int (12 : Int32)), (.ref ob1), (.ref ob1)])) rfl (hb hby at_83)) ?_
  show own_Run p e below s _ _ _ (T25.setTop (mkF m 86 #[.val (.long x1), .second, .val (.long jk), .second, .val (.int a1), .val (.int b1), .val (.int c1), .unset, .unset, .unset, .unset, .unset, .unset, .unset, .unset, .unset, .unset, .unset] [(.long (1000000000000 : Int64)), (.int (12 : Int32)), (.ref ob1), (.ref ob1)]))
  obtain ⟨T27, h27, X27, e27, W27, V27, st27⟩ := own_las X25 hx hZ e25 V25 (j := (12 : Int32)) (x := (1000000000000 : Int64)) (by decide) (by decide) (pc := 86) (Ls := #[.val (.long x1), .second, .val (.long jk), .second, .val (.int a1), .val (.int b1), .val (.int c1), .unset, .unset, .unset, .unset, .unset, .unset, .unset, .unset, .unset, .unset, .unset]) (rest := [(.ref ob1)]) (hb hby at_86)
  have N27 := Fr.snoc X27 N25 g_ob1
  obtain ⟨lc27, X27, N27⟩ := own_abs X27 N27
  have Zz28 := Nat.le_trans Zz26 (Nat.le_of_eq W27.size.symm)
  replace V27 : own_ArJ Z h27 ob1 19 (own_upJ (own_upJ (own_upJ (own_upJ (own_upJ (own_upJ (own_upJ (own_upJ (own_upJ (own_upJ (own_upJ (own_upJ (own_upJ (fun _ => 0) 0 (1 : Int64)) 1 (10 : Int64)) 2 (100 : Int64)) 3 (1000 : Int64)) 4 (10000 : Int64)) 5 (100000 : Int64)) 6 (1000000 : Int64)) 7 (10000000 : Int64)) 8 (100000000 : Int64)) 9 (1000000000 : Int64)) 10 (10000000000 : Int64)) 11 (100000000000 : Int64)) 12 (1000000000000 : Int64)) := V27
  refine own_of st27 ?_
  show own_Run p e below s _ _ _ (T27.setTop (mkF m 87 #[.val (.long x1), .second, .val (.long jk), .second, .val (.int a1), .val (.int b1), .val (.int c1), .unset, .unset, .unset, .unset, .unset, .unset, .unset, .unset, .unset, .unset, .unset] [(.ref ob1)]))
  refine own_of (fun _ hh_ => XS.dup X27.here hx rfl (hb hby at_87) rfl rfl hh_) ?_
  show own_Run p e below s _ _ _ (T27.setTop (mkF m 88 #[.val (.long x1), .second, .val (.long jk), .second, .val (.int a1), .val (.int b1), .val (.int c1), .unset, .unset, .unset, .unset, .unset, .unset, .unset, .unset, .unset, .unset, .unset] [(.ref ob1), (.ref ob1)]))
  refine own_of (fun _ hh_ => XS.bipush X27.here hx rfl (hb hby at_88) hh_) ?_
  show own_Run p e below s _ _ _ (T27.setTop (mkF m 90 #[.val (.long x1), .second, .val (.long jk), .second, .val (.int a1), .val (.int b1), .val (.int c1), .unset, .unset, .unset, .unset, .unset, .unset, .unset, .unset, .unset, .unset, .unset] [(.int (13 : Int32)), (.ref ob1), (.ref ob1)]))
  refine own_of (X27.ldc2Long hx hown (mvT hZ (hw _ (List.mem_of_getElem? (i := 13) rfl))) (g := (mkF m 90 #[.val (.long x1), .second, .val (.long jk), .second, .val (.int a1), .val (.int b1), .val (.int c1), .unset, .unset, .unset, .unset, .unset, .unset, .unset, .unset, .unset, .unset, .unset] [(.int (13 : Int32)), (.ref ob1), (.ref ob1)])) rfl (hb hby at_90)) ?_
  show own_Run p e below s _ _ _ (T27.setTop (mkF m 93 #[.val (.long x1), .second, .val (.long jk), .second, .val (.int a1), .val (.int b1), .val (.int c1), .unset, .unset, .unset, .unset, .unset, .unset, .unset, .unset, .unset, .unset, .unset] [(.long (10000000000000 : Int64)), (.int (13 : Int32)), (.ref ob1), (.ref ob1)]))
  obtain ⟨T29, h29, X29, e29, W29, V29, st29⟩ := own_las X27 hx hZ e27 V27 (j := (13 : Int32)) (x := (10000000000000 : Int64)) (by decide) (by decide) (pc := 93) (Ls := #[.val (.long x1), .second, .val (.long jk), .second, .val (.int a1), .val (.int b1), .val (.int c1), .unset, .unset, .unset, .unset, .unset, .unset, .unset, .unset, .unset, .unset, .unset]) (rest := [(.ref ob1)]) (hb hby at_93)
  have N29 := Fr.snoc X29 N27 g_ob1
  obtain ⟨lc29, X29, N29⟩ := own_abs X29 N29
  have Zz30 := Nat.le_trans Zz28 (Nat.le_of_eq W29.size.symm)
  replace V29 : own_ArJ Z h29 ob1 19 (own_upJ (own_upJ (own_upJ (own_upJ (own_upJ (own_upJ (own_upJ (own_upJ (own_upJ (own_upJ (own_upJ (own_upJ (own_upJ (own_upJ (fun _ => 0) 0 (1 : Int64)) 1 (10 : Int64)) 2 (100 : Int64)) 3 (1000 : Int64)) 4 (10000 : Int64)) 5 (100000 : Int64)) 6 (1000000 : Int64)) 7 (10000000 : Int64)) 8 (100000000 : Int64)) 9 (1000000000 : Int64)) 10 (10000000000 : Int64)) 11 (100000000000 : Int64)) 12 (1000000000000 : Int64)) 13 (10000000000000 : Int64)) := V29
  refine own_of st29 ?_
  show own_Run p e below s _ _ _ (T29.setTop (mkF m 94 #[.val (.long x1), .second, .val (.long jk), .second, .val (.int a1), .val (.int b1), .val (.int c1), .unset, .unset, .unset, .unset, .unset, .unset, .unset, .unset, .unset, .unset, .unset] [(.ref ob1)]))
  refine own_of (fun _ hh_ => XS.dup X29.here hx rfl (hb hby at_94) rfl rfl hh_) ?_
  show own_Run p e below s _ _ _ (T29.setTop (mkF m 95 #[.val (.long x1), .second, .val (.long jk), .second, .val (.int a1), .val (.int b1), .val (.int c1), .unset, .unset, .unset, .unset, .unset, .unset, .unset, .unset, .unset, .unset, .unset] [(.ref ob1), (.ref ob1)]))
  refine own_of (fun _ hh_ => XS.bipush X29.here hx rfl (hb hby at_95) hh_) ?_
  show own_Run p e below s _ _ _ (T29.setTop (mkF m 97 #[.val (.long x1), .second, .val (.long jk), .second, .val (.int a1), .val (.int b1), .val (.int c1), .unset, .unset, .unset, .unset, .unset, .unset, .unset, .unset, .unset, .unset, .unset] [(.int (14 : Int32)), (.ref ob1), (.ref ob1)]))
  refine own_of (X29.ldc2Long hx hown (mvT hZ (hw _ (List.mem_of_getElem? (i := 14) rfl))) (g := (mkF m 97 #[.val (.long x1), .second, .val (.long jk), .second, .val (.int a1), .val (.int b1), .val (.int c1), .unset, .unset, .unset, .unset, .unset, .unset, .unset, .unset, .unset, .unset, .unset] [(.int (14 : Int32)), (.ref ob1), (.ref ob1)])) rfl (hb hby at_97)) ?_
  show own_Run p e below s _ _ _ (T29.setTop (mkF m 100 #[.val (.long x1), .second, .val (.long jk), .second, .val (.int a1), .val (.int b1), .val (.int c1), .unset, .unset, .unset, .unset, .unset, .unset, .unset, .unset, .unset, .unset, .unset] [(.long (100000000000000 : Int64)), (.int (14 : Int32)), (.ref ob1), (.ref ob1)]))
  obtain ⟨T31, h31, X31, e31, W31, V31, st31⟩ := own_las X29 hx hZ e29 V29 (j := (14 : Int32)) (x := (100000000000000 : Int64)) (by decide) (by decide) (pc := 100) (Ls := #[.val (.long x1), .second, .val (.long jk), .second, .val (.int a1), .val (.int b1), .val (.int c1), .unset, .unset, .unset, .unset, .unset, .unset, .unset, .unset, .unset, .unset, .unset]) (rest := [(.ref ob1)]) (hb hby at_100)
  have N31 := Fr.snoc X31 N29 g_ob1
  obtain ⟨lc31, X31, N31⟩ := own_abs X31 N31
  have Zz32 := Nat.le_trans Zz30 (Nat.le_of_eq W31.size.symm)
  replace V31 : own_ArJ Z h31 ob1 19 (own_upJ (own_upJ (own_upJ (own_upJ (own_upJ (own_upJ (own_upJ (own_upJ (own_upJ (own_upJ (own_upJ (own_upJ (own_upJ (own_upJ (own_upJ (fun _ => 0) 0 (1 : Int64)) 1 (10 : Int64)) 2 (100 : Int64)) 3 (1000 : Int64)) 4 (10000 : Int64)) 5 (100000 : Int64)) 6 (1000000 : Int64)) 7 (10000000 : Int64)) 8 (100000000 : Int64)) 9 (1000000000 : Int64)) 10 (10000000000 : Int64)) 11 (100000000000 : Int64)) 12 (1000000000000 : Int64)) 13 (10000000000000 : Int64)) 14 (100000000000000 : Int64)) := V31
  refine own_of st31 ?_
  show own_Run p e below s _ _ _ (T31.setTop (mkF m 101 #[.val (.long x1), .second, .val (.long jk), .second, .val (.int a1), .val (.int b1), .val (.int c1), .unset, .unset, .unset, .unset, .unset, .unset, .unset, .unset, .unset, .unset, .unset] [(.ref ob1)]))
  refine own_of (fun _ hh_ => XS.dup X31.here hx rfl (hb hby at_101) rfl rfl hh_) ?_
  show own_Run p e below s _ _ _ (T31.setTop (mkF m 102 #[.val (.long x1), .second, .val (.long jk), .second, .val (.int a1), .val (.int b1), .val (.int c1), .unset, .unset, .unset, .unset, .unset, .unset, .unset, .unset, .unset, .unset, .unset] [(.ref ob1), (.ref ob1)]))
  refine own_of (fun _ hh_ => XS.bipush X31.here hx rfl (hb hby at_102) hh_) ?_
  show own_Run p e below s _ _ _ (T31.setTop (mkF m 104 #[.val (.long x1), .second, .val (.long jk), .second, .val (.int a1), .val (.int b1), .val (.int c1), .unset, .unset, .unset, .unset, .unset, .unset, .unset, .unset, .unset, .unset, .unset] [(.int (15 : Int32)), (.ref ob1), (.ref ob1)]))
  refine own_of (X31.ldc2Long hx hown (mvT hZ (hw _ (List.mem_of_getElem? (i := 15) rfl))) (g := (mkF m 104 #[.val (.long x1), .second, .val (.long jk), .second, .val (.int a1), .val (.int b1), .val (.int c1), .unset, .unset, .unset, .unset, .unset, .unset, .unset, .unset, .unset, .unset, .unset] [(.int (15 : Int32)), (.ref ob1), (.ref ob1)])) rfl (hb hby at_104)) ?_
  show own_Run p e below s _ _ _ (T31.setTop (mkF m 107 #[.val (.long x1), .second, .val (.long jk), .second, .val (.int a1), .val (.int b1), .val (.int c1), .unset, .unset, .unset, .unset, .unset, .unset, .unset, .unset, .unset, .unset, .unset] [(.long (1000000000000000 : Int64)), (.int (15 : Int32)), (.ref ob1), (.ref ob1)]))
  obtain ⟨T33, h33, X33, e33, W33, V33, st33⟩ := own_las X31 hx hZ e31 V31 (j := (15 : Int32)) (x := (1000000000000000 : Int64)) (by decide) (by decide) (pc := 107) (Ls := #[.val (.long x1), .second, .val (.long jk), .second, .val (.int a1), .val (.int b1), .val (.int c1), .unset, .unset, .unset, .unset, .unset, .unset, .unset, .unset, .unset, .unset, .unset]) (rest := [(.ref ob1)]) (hb hby at_107)
  have N33 := Fr.snoc X33 N31 g_ob1
  obtain ⟨lc33, X33, N33⟩ := own_abs X33 N33
  have Zz34 := Nat.le_trans Zz32 (Nat.le_of_eq W33.size.symm)
  replace V33 : own_ArJ Z h33 ob1 19 (own_upJ (own_upJ (own_upJ (own_upJ (own_upJ (own_upJ (own_upJ (own_upJ (own_upJ (own_upJ (own_upJ (own_upJ (own_upJ (own_upJ (own_upJ (own_upJ (fun _ => 0) 0 (1 : Int64)) 1 (10 : Int64)) 2 (100 : Int64)) 3 (1000 : Int64)) 4 (10000 : Int64)) 5 (100000 : Int64)) 6 (1000000 : Int64)) 7 (10000000 : Int64)) 8 (100000000 : Int64)) 9 (1000000000 : Int64)) 10 (10000000000 : Int64)) 11 (100000000000 : Int64)) 12 (1000000000000 : Int64)) 13 (10000000000000 : Int64)) 14 (100000000000000 : Int64)) 15 (1000000000000000 : Int64)) := V33
  refine own_of st33 ?_
  show own_Run p e below s _ _ _ (T33.setTop (mkF m 108 #[.val (.long x1), .second, .val (.long jk), .second, .val (.int a1), .val (.int b1), .val (.int c1), .unset, .unset, .unset, .unset, .unset, .unset, .unset, .unset, .unset, .unset, .unset] [(.ref ob1)]))
  refine own_of (fun _ hh_ => XS.dup X33.here hx rfl (hb hby at_108) rfl rfl hh_) ?_
  show own_Run p e below s _ _ _ (T33.setTop (mkF m 109 #[.val (.long x1), .second, .val (.long jk), .second, .val (.int a1), .val (.int b1), .val (.int c1), .unset, .unset, .unset, .unset, .unset, .unset, .unset, .unset, .unset, .unset, .unset] [(.ref ob1), (.ref ob1)]))
  refine own_of (fun _ hh_ => XS.bipush X33.here hx rfl (hb hby at_109) hh_) ?_
  show own_Run p e below s _ _ _ (T33.setTop (mkF m 111 #[.val (.long x1), .second, .val (.long jk), .second, .val (.int a1), .val (.int b1), .val (.int c1), .unset, .unset, .unset, .unset, .unset, .unset, .unset, .unset, .unset, .unset, .unset] [(.int (16 : Int32)), (.ref ob1), (.ref ob1)]))
  refine own_of (X33.ldc2Long hx hown (mvT hZ (hw _ (List.mem_of_getElem? (i := 16) rfl))) (g := (mkF m 111 #[.val (.long x1), .second, .val (.long jk), .second, .val (.int a1), .val (.int b1), .val (.int c1), .unset, .unset, .unset, .unset, .unset, .unset, .unset, .unset, .unset, .unset, .unset] [(.int (16 : Int32)), (.ref ob1), (.ref ob1)])) rfl (hb hby at_111)) ?_
  show own_Run p e below s _ _ _ (T33.setTop (mkF m 114 #[.val (.long x1), .second, .val (.long jk), .second, .val (.int a1), .val (.int b1), .val (.int c1), .unset, .unset, .unset, .unset, .unset, .unset, .unset, .unset, .unset, .unset, .unset] [(.long (10000000000000000 : Int64)), (.int (16 : Int32)), (.ref ob1), (.ref ob1)]))
  obtain ⟨T35, h35, X35, e35, W35, V35, st35⟩ := own_las X33 hx hZ e33 V33 (j := (16 : Int32)) (x := (10000000000000000 : Int64)) (by decide) (by decide) (pc := 114) (Ls := #[.val (.long x1), .second, .val (.long jk), .second, .val (.int a1), .val (.int b1), .val (.int c1), .unset, .unset, .unset, .unset, .unset, .unset, .unset, .unset, .unset, .unset, .unset]) (rest := [(.ref ob1)]) (hb hby at_114)
  have N35 := Fr.snoc X35 N33 g_ob1
  obtain ⟨lc35, X35, N35⟩ := own_abs X35 N35
  have Zz36 := Nat.le_trans Zz34 (Nat.le_of_eq W35.size.symm)
  replace V35 : own_ArJ Z h35 ob1 19 (own_upJ (own_upJ (own_upJ (own_upJ (own_upJ (own_upJ (own_upJ (own_upJ (own_upJ (own_upJ (own_upJ (own_upJ (own_upJ (own_upJ (own_upJ (own_upJ (own_upJ (fun _ => 0) 0 (1 : Int64)) 1 (10 : Int64)) 2 (100 : Int64)) 3 (1000 : Int64)) 4 (10000 : Int64)) 5 (100000 : Int64)) 6 (1000000 : Int64)) 7 (10000000 : Int64)) 8 (100000000 : Int64)) 9 (1000000000 : Int64)) 10 (10000000000 : Int64)) 11 (100000000000 : Int64)) 12 (1000000000000 : Int64)) 13 (10000000000000 : Int64)) 14 (100000000000000 : Int64)) 15 (1000000000000000 : Int64)) 16 (10000000000000000 : Int64)) := V35
  refine own_of st35 ?_
  show own_Run p e below s _ _ _ (T35.setTop (mkF m 115 #[.val (.long x1), .second, .val (.long jk), .second, .val (.int a1), .val (.int b1), .val (.int c1), .unset, .unset, .unset, .unset, .unset, .unset, .unset, .unset, .unset, .unset, .unset] [(.ref ob1)]))
  refine own_of (fun _ hh_ => XS.dup X35.here hx rfl (hb hby at_115) rfl rfl hh_) ?_
  show own_Run p e below s _ _ _ (T35.setTop (mkF m 116 #[.val (.long x1), .second, .val (.long jk), .second, .val (.int a1), .val (.int b1), .val (.int c1), .unset, .unset, .unset, .unset, .unset, .unset, .unset, .unset, .unset, .unset, .unset] [(.ref ob1), (.ref ob1)]))
  refine own_of (fun _ hh_ => XS.bipush X35.here hx rfl (hb hby at_116) hh_) ?_
  show own_Run p e below s _ _ _ (T35.setTop (mkF m 118 #[.val (.long x1), .second, .val (.long jk), .second, .val (.int a1), .val (.int b1), .val (.int c1), .unset, .unset, .unset, .unset, .unset, .unset, .unset, .unset, .unset, .unset, .unset] [(.int (17 : Int32)), (.ref ob1), (.ref ob1)]))
  refine own_of (X35.ldc2Long hx hown (mvT hZ (hw _ (List.mem_of_getElem? (i := 17) rfl))) (g := (mkF m 118 #[.val (.long x1), .second, .val (.long jk), .second, .val (.int a1), .val (.int b1), .val (.int c1), .unset, .unset, .unset, .unset, .unset, .unset, .unset, .unset, .unset, .unset, .unset] [(.int (17 : Int32)), (.ref ob1), (.ref ob1)])) rfl (hb hby at_118)) ?_
  show own_Run p e below s _ _ _ (T35.setTop (mkF m 121 #[.val (.long x1), .second, .val (.long jk), .second, .val (.int a1), .val (.int b1), .val (.int c1), .unset, .unset, .unset, .unset, .unset, .unset, .unset, .unset, .unset, .unset, .unset] [(.long (100000000000000000 : Int64)), (.int (17 : Int32)), (.ref ob1), (.ref ob1)]))
  obtain ⟨T37, h37, X37, e37, W37, V37, st37⟩ := own_las X35 hx hZ e35 V35 (j := (17 : Int32)) (x := (100000000000000000 : Int64)) (by decide) (by decide) (pc := 121) (Ls := #[.val (.long x1), .second, .val (.long jk), .second, .val (.int a1), .val (.int b1), .val (.int c1), .unset, .unset, .unset, .unset, .unset, .unset, .unset, .unset, .unset, .unset, .unset]) (rest := [(.ref ob1)]) (hb hby at_121)
  have N37 := Fr.snoc X37 N35 g_ob1
  obtain ⟨lc37, X37, N37⟩ := own_abs X37 N37
  have Zz38 := Nat.le_trans Zz36 (Nat.le_of_eq W37.size.symm)
  replace V37 : own_ArJ Z h37 ob1 19 (own_upJ (own_upJ (own_upJ (own_upJ (own_upJ (own_upJ (own_upJ (own_upJ (own_upJ (own_upJ (own_upJ (own_upJ (own_upJ (own_upJ (own_upJ (own_upJ (own_upJ (own_upJ (fun _ => 0) 0 (1 : Int64)) 1 (10 : Int64)) 2 (100 : Int64)) 3 (1000 : Int64)) 4 (10000 : Int64)) 5 (100000 : Int64)) 6 (1000000 : Int64)) 7 (10000000 : Int64)) 8 (100000000 : Int64)) 9 (1000000000 : Int64)) 10 (10000000000 : Int64)) 11 (100000000000 : Int64)) 12 (1000000000000 : Int64)) 13 (10000000000000 : Int64)) 14 (100000000000000 : Int64)) 15 (1000000000000000 : Int64)) 16 (10000000000000000 : Int64)) 17 (100000000000000000 : Int64)) := V37
  refine own_of st37 ?_
  show own_Run p e below s _ _ _ (T37.setTop (mkF m 122 #[.val (.long x1), .second, .val (.long jk), .second, .val (.int a1), .val (.int b1), .val (.int c1), .unset, .unset, .unset, .unset, .unset, .unset, .unset, .unset, .unset, .unset, .unset] [(.ref ob1)]))
  refine own_of (fun _ hh_ => XS.dup X37.here hx rfl (hb hby at_122) rfl rfl hh_) ?_
  show own_Run p e below s _ _ _ (T37.setTop (mkF m 123 #[.val (.long x1), .second, .val (.long jk), .second, .val (.int a1), .val (.int b1), .val (.int c1), .unset, .unset, .unset, .unset, .unset, .unset, .unset, .unset, .unset, .unset, .unset] [(.ref ob1), (.ref ob1)]))
  refine own_of (fun _ hh_ => XS.bipush X37.here hx rfl (hb hby at_123) hh_) ?_
  show own_Run p e below s _ _ _ (T37.setTop (mkF m 125 #[.val (.long x1), .second, .val (.long jk), .second, .val (.int a1), .val (.int b1), .val (.int c1), .unset, .unset, .unset, .unset, .unset, .unset, .unset, .unset, .unset, .unset, .unset] [(.int (18 : Int32)), (.ref ob1), (.ref ob1)]))
  refine own_of (X37.ldc2Long hx hown (mvT hZ (hw _ (List.mem_of_getElem? (i := 18) rfl))) (g := (mkF m 125 #[.val (.long x1), .second, .val (.long jk), .second, .val (.int a1), .val (.int b1), .val (.int c1), .unset, .unset, .unset, .unset, .unset, .unset, .unset, .unset, .unset, .unset, .unset] [(.int (18 : Int32)), (.ref ob1), (.ref ob1)])) rfl (hb hby at_125)) ?_
  show own_Run p e below s _ _ _ (T37.setTop (mkF m 128 #[.val (.long x1), .second, .val (.long jk), .second, .val (.int a1), .val (.int b1), .val (.int c1), .unset, .unset, .unset, .unset, .unset, .unset, .unset, .unset, .unset, .unset, .unset] [(.long (1000000000000000000 : Int64)), (.int (18 : Int32)), (.ref ob1), (.ref ob1)]))
  obtain ⟨T39, h39, X39, e39, W39, V39, st39⟩ := own_las X37 hx hZ e37 V37 (j := (18 : Int32)) (x := (1000000000000000000 : Int64)) (by decide) (by decide) (pc := 128) (Ls := #[.val (.long x1), .second, .val (.long jk), .second, .val (.int a1), .val (.int b1), .val (.int c1), .unset, .unset, .unset, .unset, .unset, .unset, .unset, .unset, .unset, .unset, .unset]) (rest := [(.ref ob1)]) (hb hby at_128)
  have N39 := Fr.snoc X39 N37 g_ob1
  obtain ⟨lc39, X39, N39⟩ := own_abs X39 N39
  have Zz40 := Nat.le_trans Zz38 (Nat.le_of_eq W39.size.symm)
  replace V39 : own_ArJ Z h39 ob1 19 (own_upJ (own_upJ (own_upJ (own_upJ (own_upJ (own_upJ (own_upJ (own_upJ (own_upJ (own_upJ (own_upJ (own_upJ (own_upJ (own_upJ (own_upJ (own_upJ (own_upJ (own_upJ (own_upJ (fun _ => 0) 0 (1 : Int64)) 1 (10 : Int64)) 2 (100 : Int64)) 3 (1000 : Int64)) 4 (10000 : Int64)) 5 (100000 : Int64)) 6 (1000000 : Int64)) 7 (10000000 : Int64)) 8 (100000000 : Int64)) 9 (1000000000 : Int64)) 10 (10000000000 : Int64)) 11 (100000000000 : Int64)) 12 (1000000000000 : Int64)) 13 (10000000000000 : Int64)) 14 (100000000000000 : Int64)) 15 (1000000000000000 : Int64)) 16 (10000000000000000 : Int64)) 17 (100000000000000000 : Int64)) 18 (1000000000000000000 : Int64)) := V39
  refine own_of st39 ?_
  show own_Run p e below s _ _ _ (T39.setTop (mkF m 129 #[.val (.long x1), .second, .val (.long jk), .second, .val (.int a1), .val (.int b1), .val (.int c1), .unset, .unset, .unset, .unset, .unset, .unset, .unset, .unset, .unset, .unset, .unset] [(.ref ob1)]))
  have V41 : own_ArJ Z h39 ob1 19 own_p10 := V39.congr (by decide +kernel)
  refine own_of (fun _ hh_ => XS.astore X39.here hx rfl (hb hby at_129) rfl rfl (l' := #[.val (.long x1), .second, .val (.long jk), .second, .val (.int a1), .val (.int b1), .val (.int c1), .val (.ref ob1), .unset, .unset, .unset, .unset, .unset, .unset, .unset, .unset, .unset, .unset]) rfl hh_) ?_
  show own_Run p e below s _ _ _ (T39.setTop (mkF m 131 #[.val (.long x1), .second, .val (.long jk), .second, .val (.int a1), .val (.int b1), .val (.int c1), .val (.ref ob1), .unset, .unset, .unset, .unset, .unset, .unset, .unset, .unset, .unset, .unset] []))
  refine own_of (fun _ hh_ => XS.lloadN X39.here hx rfl (hb hby at_131) rfl hh_) ?_
  show own_Run p e below s _ _ _ (T39.setTop (mkF m 132 #[.val (.long x1), .second, .val (.long jk), .second, .val (.int a1), .val (.int b1), .val (.int c1), .val (.ref ob1), .unset, .unset, .unset, .unset, .unset, .unset, .unset, .unset, .unset, .unset] [(.long x1)]))
  refine own_of (X39.ldc2Long hx hown (mvT hZ (hw _ (List.mem_of_getElem? (i := 19) rfl))) (g := (mkF m 132 #[.val (.long x1), .second, .val (.long jk), .second, .val (.int a1), .val (.int b1), .val (.int c1), .val (.ref ob1), .unset, .unset, .unset, .unset, .unset, .unset, .unset, .unset, .unset, .unset] [(.long x1)])) rfl (hb hby at_132)) ?_
  show own_Run p e below s _ _ _ (T39.setTop (mkF m 135 #[.val (.long x1), .second, .val (.long jk), .second, .val (.int a1), .val (.int b1), .val (.int c1), .val (.ref ob1), .unset, .unset, .unset, .unset, .unset, .unset, .unset, .unset, .unset, .unset] [(.long (9223372036854775807 : Int64)), (.long x1)]))
  refine own_of (fun _ hh_ => XS.land X39.here hx rfl (hb hby at_135) rfl hh_) ?_
  show own_Run p e below s _ _ _ (T39.setTop (mkF m 136 #[.val (.long x1), .second, .val (.long jk), .second, .val (.int a1), .val (.int b1), .val (.int c1), .val (.ref ob1), .unset, .unset, .unset, .unset, .unset, .unset, .unset, .unset, .unset, .unset] [(.long (x1 &&& (9223372036854775807 : Int64)))]))
  refine own_of (fun _ hh_ => XS.aload X39.here hx rfl (hb hby at_136) rfl rfl hh_) ?_
  show own_Run p e below s _ _ _ (T39.setTop (mkF m 138 #[.val (.long x1), .second, .val (.long jk), .second, .val (.int a1), .val (.int b1), .val (.int c1), .val (.ref ob1), .unset, .unset, .unset, .unset, .unset, .unset, .unset, .unset, .unset, .unset] [(.ref ob1), (.long (x1 &&& (9223372036854775807 : Int64)))]))
  refine own_of (fun _ hh_ => XS.bipush X39.here hx rfl (hb hby at_138) hh_) ?_
  show own_Run p e below s _ _ _ (T39.setTop (mkF m 140 #[.val (.long x1), .second, .val (.long jk), .second, .val (.int a1), .val (.int b1), .val (.int c1), .val (.ref ob1), .unset, .unset, .unset, .unset, .unset, .unset, .unset, .unset, .unset, .unset] [(.int (18 : Int32)), (.ref ob1), (.long (x1 &&& (9223372036854775807 : Int64)))]))
  refine own_lal X39 hx hZ e39 V41 (j := (18 : Int32)) (w := (own_p10 18)) (by decide) (by decide) rfl (hb hby at_140) ?_
  show own_Run p e below s _ _ _ (T39.setTop (mkF m 141 #[.val (.long x1), .second, .val (.long jk), .second, .val (.int a1), .val (.int b1), .val (.int c1), .val (.ref ob1), .unset, .unset, .unset, .unset, .unset, .unset, .unset, .unset, .unset, .unset] [(.long (own_p10 18)), (.long (x1 &&& (9223372036854775807 : Int64)))]))
  refine own_of (fun _ hh_ => XS.lrem X39.here hx rfl (hb hby at_141) rfl (own_p10_nz 18 (by decide)) hh_) ?_
  show own_Run p e below s _ _ _ (T39.setTop (mkF m 142 #[.val (.long x1), .second, .val (.long jk), .second, .val (.int a1), .val (.int b1), .val (.int c1), .val (.ref ob1), .unset, .unset, .unset, .unset, .unset, .unset, .unset, .unset, .unset, .unset] [(.long ((x1 &&& (9223372036854775807 : Int64)) - ((x1 &&& (9223372036854775807 : Int64)) / (own_p10 18)) * (own_p10 18)))]))
  generalize hnn : ((x1 &&& (9223372036854775807 : Int64)) - ((x1 &&& (9223372036854775807 : Int64)) / (own_p10 18)) * (own_p10 18)) = nn
  have rnn : 0 ≤ nn.toInt := by rw [← hnn, own_rem _ 18 (by decide) (own_mkL _)]; exact Int.natCast_nonneg _
  replace rnn : 0 ≤ nn.toInt ∧ True := ⟨rnn, trivial⟩
  show own_Run p e below s _ _ _ (T39.setTop (mkF m 142 #[.val (.long x1), .second, .val (.long jk), .second, .val (.int a1), .val (.int b1), .val (.int c1), .val (.ref ob1), .unset, .unset, .unset, .unset, .unset, .unset, .unset, .unset, .unset, .unset] [(.long nn)]))
  refine own_of (fun _ hh_ => XS.lstore X39.here hx rfl (hb hby at_142) rfl (l' := #[.val (.long x1), .second, .val (.long jk), .second, .val (.int a1), .val (.int b1), .val (.int c1), .val (.ref ob1), .val (.long nn), .second, .unset, .unset, .unset, .unset, .unset, .unset, .unset, .unset]) rfl hh_) ?_
  show own_Run p e below s _ _ _ (T39.setTop (mkF m 144 #[.val (.long x1), .second, .val (.long jk), .second, .val (.int a1), .val (.int b1), .val (.int c1), .val (.ref ob1), .val (.long nn), .second, .unset, .unset, .unset, .unset, .unset, .unset, .unset, .unset] []))
  refine own_of (fun _ hh_ => XS.iload X39.here hx rfl (hb hby at_144) rfl hh_) ?_
  show own_Run p e below s _ _ _ (T39.setTop (mkF m 146 #[.val (.long x1), .second, .val (.long jk), .second, .val (.int a1), .val (.int b1), .val (.int c1), .val (.ref ob1), .val (.long nn), .second, .unset, .unset, .unset, .unset, .unset, .unset, .unset, .unset] [(.int c1)]))
  refine own_of (fun _ hh_ => XS.iconst X39.here hx rfl (hb hby at_146) hh_) ?_
  show own_Run p e below s _ _ _ (T39.setTop (mkF m 147 #[.val (.long x1), .second, .val (.long jk), .second, .val (.int a1), .val (.int b1), .val (.int c1), .val (.ref ob1), .val (.long nn), .second, .unset, .unset, .unset, .unset, .unset, .unset, .unset, .unset] [(.int (3 : Int32)), (.int c1)]))
  refine own_of (fun _ hh_ => XS.iand X39.here hx rfl (hb hby at_147) rfl hh_) ?_
  show own_Run p e below s _ _ _ (T39.setTop (mkF m 148 #[.val (.long x1), .second, .val (.long jk), .second, .val (.int a1), .val (.int b1), .val (.int c1), .val (.ref ob1), .val (.long nn), .second, .unset, .unset, .unset, .unset, .unset, .unset, .unset, .unset] [(.int (c1 &&& (3 : Int32)))]))
  generalize hoff : (c1 &&& (3 : Int32)) = off
  have roff : 0 ≤ off.toInt ∧ off.toInt ≤ 3 := by rw [← hoff]; exact own_m3 _
  have coff := own_clamp roff.1
  show own_Run p e below s _ _ _ (T39.setTop (mkF m 148 #[.val (.long x1), .second, .val (.long jk), .second, .val (.int a1), .val (.int b1), .val (.int c1), .val (.ref ob1), .val (.long nn), .second, .unset, .unset, .unset, .unset, .unset, .unset, .unset, .unset] [(.int off)]))
  refine own_of (fun _ hh_ => XS.istore X39.here hx rfl (hb hby at_148) rfl (l' := #[.val (.long x1), .second, .val (.long jk), .second, .val (.int a1), .val (.int b1), .val (.int c1), .val (.ref ob1), .val (.long nn), .second, .val (.int off), .unset, .unset, .unset, .unset, .unset, .unset, .unset]) rfl hh_) ?_
  show own_Run p e below s _ _ _ (T39.setTop (mkF m 150 #[.val (.long x1), .second, .val (.long jk), .second, .val (.int a1), .val (.int b1), .val (.int c1), .val (.ref ob1), .val (.long nn), .second, .val (.int off), .unset, .unset, .unset, .unset, .unset, .unset, .unset] []))
  refine own_of (fun _ hh_ => XS.bipush X39.here hx rfl (hb hby at_150) hh_) ?_
  show own_Run p e below s _ _ _ (T39.setTop (mkF m 152 #[.val (.long x1), .second, .val (.long jk), .second, .val (.int a1), .val (.int b1), .val (.int c1), .val (.ref ob1), .val (.long nn), .second, .val (.int off), .unset, .unset, .unset, .unset, .unset, .unset, .unset] [(.int (22 : Int32))]))
  obtain ⟨T42, h42, k42, X42, e42, E42, A42, st42⟩ := newP X39 hx hZ (hw _ (List.mem_of_getElem? (i := 20) rfl)) e39 (g := (mkF m 152 #[.val (.long x1), .second, .val (.long jk), .second, .val (.int a1), .val (.int b1), .val (.int c1), .val (.ref ob1), .val (.long nn), .second, .val (.int off), .unset, .unset, .unset, .unset, .unset, .unset, .unset] [(.int (22 : Int32))])) rfl (hb hby at_152) rfl (by decide) (cap := 22) (by decide) (by decide) (by decide) (by decide)
  obtain ⟨ob42, g42⟩ : ∃ z, z = h39.size := ⟨_, rfl⟩
  rw [← g42] at A42 st42
  have ne_ob1_ob42 : ob1 ≠ ob42 := Nat.ne_of_lt (Nat.lt_of_lt_of_le V41.lt (Nat.le_of_eq g42.symm))
  have g_ob42 : n0 ≤ ob42 := Nat.le_trans Zz40 (Nat.le_of_eq g42.symm)
  have f43 := V41.ext E42
  have Zz44 := Nat.le_trans Zz40 E42.1
  have V42 : own_Ar Z h42 ob42 .byte 22 (fun _ => 0) := own_Ar.new A42 rfl rfl
  refine own_of st42 ?_
  show own_Run p e below s _ _ _ (T42.setTop (mkF m 154 #[.val (.long x1), .second, .val (.long jk), .second, .val (.int a1), .val (.int b1), .val (.int c1), .val (.ref ob1), .val (.long nn), .second, .val (.int off), .unset, .unset, .unset, .unset, .unset, .unset, .unset] [(.ref ob42)]))
  refine own_of (fun _ hh_ => XS.astore X42.here hx rfl (hb hby at_154) rfl rfl (l' := #[.val (.long x1), .second, .val (.long jk), .second, .val (.int a1), .val (.int b1), .val (.int c1), .val (.ref ob1), .val (.long nn), .second, .val (.int off), .val (.ref ob42), .unset, .unset, .unset, .unset, .unset, .unset]) rfl hh_) ?_
  show own_Run p e below s _ _ _ (T42.setTop (mkF m 156 #[.val (.long x1), .second, .val (.long jk), .second, .val (.int a1), .val (.int b1), .val (.int c1), .val (.ref ob1), .val (.long nn), .second, .val (.int off), .val (.ref ob42), .unset, .unset, .unset, .unset, .unset, .unset] []))
  refine own_of (fun _ hh_ => XS.aload X42.here hx rfl (hb hby at_156) rfl rfl hh_) ?_
  show own_Run p e below s _ _ _ (T42.setTop (mkF m 158 #[.val (.long x1), .second, .val (.long jk), .second, .val (.int a1), .val (.int b1), .val (.int c1), .val (.ref ob1), .val (.long nn), .second, .val (.int off), .val (.ref ob42), .unset, .unset, .unset, .unset, .unset, .unset] [(.ref ob42)]))
  refine own_of (fun _ hh_ => XS.iconst X42.here hx rfl (hb hby at_158) hh_) ?_
  show own_Run p e below s _ _ _ (T42.setTop (mkF m 159 #[.val (.long x1), .second, .val (.long jk), .second, .val (.int a1), .val (.int b1), .val (.int c1), .val (.ref ob1), .val (.long nn), .second, .val (.int off), .val (.ref ob42), .unset, .unset, .unset, .unset, .unset, .unset] [(.int (0 : Int32)), (.ref ob42)]))
  refine own_of (fun _ hh_ => XS.lloadN X42.here hx rfl (hb hby at_159) rfl hh_) ?_
  show own_Run p e below s _ _ _ (T42.setTop (mkF m 160 #[.val (.long x1), .second, .val (.long jk), .second, .val (.int a1), .val (.int b1), .val (.int c1), .val (.ref ob1), .val (.long nn), .second, .val (.int off), .val (.ref ob42), .unset, .unset, .unset, .unset, .unset, .unset] [(.long jk), (.int (0 : Int32)), (.ref ob42)]))
  refine own_of (fun _ hh_ => XS.l2i X42.here hx rfl (hb hby at_160) rfl hh_) ?_
  show own_Run p e below s _ _ _ (T42.setTop (mkF m 161 #[.val (.long x1), .second, .val (.long jk), .second, .val (.int a1), .val (.int b1), .val (.int c1), .val (.ref ob1), .val (.long nn), .second, .val (.int off), .val (.ref ob42), .unset, .unset, .unset, .unset, .unset, .unset] [(.int (jk.toInt32)), (.int (0 : Int32)), (.ref ob42)]))
  refine own_of (fun _ hh_ => XS.i2b X42.here hx rfl (hb hby at_161) rfl hh_) ?_
  show own_Run p e below s _ _ _ (T42.setTop (mkF m 162 #[.val (.long x1), .second, .val (.long jk), .second, .val (.int a1), .val (.int b1), .val (.int c1), .val (.ref ob1), .val (.long nn), .second, .val (.int off), .val (.ref ob42), .unset, .unset, .unset, .unset, .unset, .unset] [(.int ((jk.toInt32).toInt8.toInt32)), (.int (0 : Int32)), (.ref ob42)]))
  obtain ⟨T45, h45, X45, e45, W45, V45, st45⟩ := own_bas X42 hx hZ e42 V42 (j := (0 : Int32)) (x := ((jk.toInt32).toInt8.toInt32)) (by decide) (by decide) (pc := 162) (Ls := #[.val (.long x1), .second, .val (.long jk), .second, .val (.int a1), .val (.int b1), .val (.int c1), .val (.ref ob1), .val (.long nn), .second, .val (.int off), .val (.ref ob42), .unset, .unset, .unset, .unset, .unset, .unset]) (rest := []) (hb hby at_162)
  have N45 := Fr.snoc X45 N39 g_ob42
  obtain ⟨lc45, X45, N45⟩ := own_abs X45 N45
  have f46 := f43.other W45 ne_ob1_ob42
  have Zz47 := Nat.le_trans Zz44 (Nat.le_of_eq W45.size.symm)
  replace V45 : own_Ar Z h45 ob42 .byte 22 (own_up (fun _ => 0) 0 ((jk.toInt32).toInt8.toInt32).toInt8.toInt32) := V45
  refine own_of st45 ?_
  show own_Run p e below s _ _ _ (T45.setTop (mkF m 163 #[.val (.long x1), .second, .val (.long jk), .second, .val (.int a1), .val (.int b1), .val (.int c1), .val (.ref ob1), .val (.long nn), .second, .val (.int off), .val (.ref ob42), .unset, .unset, .unset, .unset, .unset, .unset] []))
  refine own_of (fun _ hh_ => XS.aload X45.here hx rfl (hb hby at_163) rfl rfl hh_) ?_
  show own_Run p e below s _ _ _ (T45.setTop (mkF m 165 #[.val (.long x1), .second, .val (.long jk), .second, .val (.int a1), .val (.int b1), .val (.int c1), .val (.ref ob1), .val (.long nn), .second, .val (.int off), .val (.ref ob42), .unset, .unset, .unset, .unset, .unset, .unset] [(.ref ob42)]))
  refine own_of (fun _ hh_ => XS.iconst X45.here hx rfl (hb hby at_165) hh_) ?_
  show own_Run p e below s _ _ _ (T45.setTop (mkF m 166 #[.val (.long x1), .second, .val (.long jk), .second, .val (.int a1), .val (.int b1), .val (.int c1), .val (.ref ob1), .val (.long nn), .second, .val (.int off), .val (.ref ob42), .unset, .unset, .unset, .unset, .unset, .unset] [(.int (1 : Int32)), (.ref ob42)]))
  refine own_of (fun _ hh_ => XS.lloadN X45.here hx rfl (hb hby at_166) rfl hh_) ?_
  show own_Run p e below s _ _ _ (T45.setTop (mkF m 167 #[.val (.long x1), .second, .val (.long jk), .second, .val (.int a1), .val (.int b1), .val (.int c1), .val (.ref ob1), .val (.long nn), .second, .val (.int off), .val (.ref ob42), .unset, .unset, .unset, .unset, .unset, .unset] [(.long jk), (.int (1 : Int32)), (.ref ob42)]))
  refine own_of (fun _ hh_ => XS.bipush X45.here hx rfl (hb hby at_167) hh_) ?_
  show own_Run p e below s _ _ _ (T45.setTop (mkF m 169 #[.val (.long x1), .second, .val (.long jk), .second, .val (.int a1), .val (.int b1), .val (.int c1), .val (.ref ob1), .val (.long nn), .second, .val (.int off), .val (.ref ob42), .unset, .unset, .unset, .unset, .unset, .unset] [(.int (8 : Int32)), (.long jk), (.int (1 : Int32)), (.ref ob42)]))
  refine own_of (fun _ hh_ => XS.lushr X45.here hx rfl (hb hby at_169) rfl hh_) ?_
  show own_Run p e below s _ _ _ (T45.setTop (mkF m 170 #[.val (.long x1), .second, .val (.long jk), .second, .val (.int a1), .val (.int b1), .val (.int c1), .val (.ref ob1), .val (.long nn), .second, .val (.int off), .val (.ref ob42), .unset, .unset, .unset, .unset, .unset, .unset] [(.long ((jk.toUInt64 >>> ((8 : Int32) &&& 0x3f).toInt64.toUInt64).toInt64)), (.int (1 : Int32)), (.ref ob42)]))
  refine own_of (fun _ hh_ => XS.l2i X45.here hx rfl (hb hby at_170) rfl hh_) ?_
  show own_Run p e below s _ _ _ (T45.setTop (mkF m 171 #[.val (.long x1), .second, .val (.long jk), .second, .val (.int a1), .val (.int b1), .val (.int c1), .val (.ref ob1), .val (.long nn), .second, .val (.int off), .val (.ref ob42), .unset, .unset, .unset, .unset, .unset, .unset] [(.int (((jk.toUInt64 >>> ((8 : Int32) &&& 0x3f).toInt64.toUInt64).toInt64).toInt32)), (.int (1 : Int32)), (.ref ob42)]))
  refine own_of (fun _ hh_ => XS.i2b X45.here hx rfl (hb hby at_171) rfl hh_) ?_
  show own_Run p e below s _ _ _ (T45.setTop (mkF m 172 #[.val (.long x1), .second, .val (.long jk), .second, .val (.int a1), .val (.int b1), .val (.int c1), .val (.ref ob1), .val (.long nn), .second, .val (.int off), .val (.ref ob42), .unset, .unset, .unset, .unset, .unset, .unset] [(.int ((((jk.toUInt64 >>> ((8 : Int32) &&& 0x3f).toInt64.toUInt64).toInt64).toInt32).toInt8.toInt32)), (.int (1 : Int32)), (.ref ob42)]))
  obtain ⟨T48, h48, X48, e48, W48, V48, st48⟩ := own_bas X45 hx hZ e45 V45 (j := (1 : Int32)) (x := ((((jk.toUInt64 >>> ((8 : Int32) &&& 0x3f).toInt64.toUInt64).toInt64).toInt32).toInt8.toInt32)) (by decide) (by decide) (pc := 172) (Ls := #[.val (.long x1), .second, .val (.long jk), .second, .val (.int a1), .val (.int b1), .val (.int c1), .val (.ref ob1), .val (.long nn), .second, .val (.int off), .val (.ref ob42), .unset, .unset, .unset, .unset, .unset, .unset]) (rest := []) (hb hby at_172)
  have N48 := Fr.snoc X48 N45 g_ob42
  obtain ⟨lc48, X48, N48⟩ := own_abs X48 N48
  have f49 := f46.other W48 ne_ob1_ob42
  have Zz50 := Nat.le_trans Zz47 (Nat.le_of_eq W48.size.symm)
  replace V48 : own_Ar Z h48 ob42 .byte 22 (own_up (own_up (fun _ => 0) 0 ((jk.toInt32).toInt8.toInt32).toInt8.toInt32) 1 ((((jk.toUInt64 >>> ((8 : Int32) &&& 0x3f).toInt64.toUInt64).toInt64).toInt32).toInt8.toInt32).toInt8.toInt32) := V48
  refine own_of st48 ?_
  show own_Run p e below s _ _ _ (T48.setTop (mkF m 173 #[.val (.long x1), .second, .val (.long jk), .second, .val (.int a1), .val (.int b1), .val (.int c1), .val (.ref ob1), .val (.long nn), .second, .val (.int off), .val (.ref ob42), .unset, .unset, .unset, .unset, .unset, .unset] []))
  refine own_of (fun _ hh_ => XS.aload X48.here hx rfl (hb hby at_173) rfl rfl hh_) ?_
  show own_Run p e below s _ _ _ (T48.setTop (mkF m 175 #[.val (.long x1), .second, .val (.long jk), .second, .val (.int a1), .val (.int b1), .val (.int c1), .val (.ref ob1), .val (.long nn), .second, .val (.int off), .val (.ref ob42), .unset, .unset, .unset, .unset, .unset, .unset] [(.ref ob42)]))
  refine own_of (fun _ hh_ => XS.iconst X48.here hx rfl (hb hby at_175) hh_) ?_
  show own_Run p e below s _ _ _ (T48.setTop (mkF m 176 #[.val (.long x1), .second, .val (.long jk), .second, .val (.int a1), .val (.int b1), .val (.int c1), .val (.ref ob1), .val (.long nn), .second, .val (.int off), .val (.ref ob42), .unset, .unset, .unset, .unset, .unset, .unset] [(.int (2 : Int32)), (.ref ob42)]))
  refine own_of (fun _ hh_ => XS.lloadN X48.here hx rfl (hb hby at_176) rfl hh_) ?_
  show own_Run p e below s _ _ _ (T48.setTop (mkF m 177 #[.val (.long x1), .second, .val (.long jk), .second, .val (.int a1), .val (.int b1), .val (.int c1), .val (.ref ob1), .val (.long nn), .second, .val (.int off), .val (.ref ob42), .unset, .unset, .unset, .unset, .unset, .unset] [(.long jk), (.int (2 : Int32)), (.ref ob42)]))
  refine own_of (fun _ hh_ => XS.bipush X48.here hx rfl (hb hby at_177) hh_) ?_
  show own_Run p e below s _ _ _ (T48.setTop (mkF m 179 #[.val (.long x1), .second, .val (.long jk), .second, .val (.int a1), .val (.int b1), .val (.int c1), .val (.ref ob1), .val (.long nn), .second, .val (.int off), .val (.ref ob42), .unset, .unset, .unset, .unset, .unset, .unset] [(.int (16 : Int32)), (.long jk), (.int (2 : Int32)), (.ref ob42)]))
  refine own_of (fun _ hh_ => XS.lushr X48.here hx rfl (hb hby at_179) rfl hh_) ?_
  show own_Run p e below s _ _ _ (T48.setTop (mkF m 180 #[.val (.long x1), .second, .val (.long jk), .second, .val (.int a1), .val (.int b1), .val (.int c1), .val (.ref ob1), .val (.long nn), .second, .val (.int off), .val (.ref ob42), .unset, .unset, .unset, .unset, .unset, .unset] [(.long ((jk.toUInt64 >>> ((16 : Int32) &&& 0x3f).toInt64.toUInt64).toInt64)), (.int (2 : Int32)), (.ref ob42)]))
  refine own_of (fun _ hh_ => XS.l2i X48.here hx rfl (hb hby at_180) rfl hh_) ?_
  show own_Run p e below s _ _ _ (T48.setTop (mkF m 181 #[.val (.long x1), .second, .val (.long jk), .second, .val (.int a1), .val (.int b1), .val (.int c1), .val (.ref ob1), .val (.long nn), .second, .val (.int off), .val (.ref ob42), .unset, .unset, .unset, .unset, .unset, .unset] [(.int (((jk.toUInt64 >>> ((16 : Int32) &&& 0x3f).toInt64.toUInt64).toInt64).toInt32)), (.int (2 : Int32)), (.ref ob42)]))
  refine own_of (fun _ hh_ => XS.i2b X48.here hx rfl (hb hby at_181) rfl hh_) ?_
  show own_Run p e below s _ _ _ (T48.setTop (mkF m 182 #[.val (.long x1), .second, .val (.long jk), .second, .val (.int a1), .val (.int b1), .val (.int c1), .val (.ref ob1), .val (.long nn), .second, .val (.int off), .val (.ref ob42), .unset, .unset, .unset, .unset, .unset, .unset] [(.int ((((jk.toUInt64 >>> ((16 : Int32) &&& 0x3f).toInt64.toUInt64).toInt64).toInt32).toInt8.toInt32)), (.int (2 : Int32)), (.ref ob42)]))
  obtain ⟨T51, h51, X51, e51, W51, V51, st51⟩ := own_bas X48 hx hZ e48 V48 (j := (2 : Int32)) (x := ((((jk.toUInt64 >>> ((16 : Int32) &&& 0x3f).toInt64.toUInt64).toInt64).toInt32).toInt8.toInt32)) (by decide) (by decide) (pc := 182) (Ls := #[.val (.long x1), .second, .val (.long jk), .second, .val (.int a1), .val (.int b1), .val (.int c1), .val (.ref ob1), .val (.long nn), .second, .val (.int off), .val (.ref ob42), .unset, .unset, .unset, .unset, .unset, .unset]) (rest := []) (hb hby at_182)
  have N51 := Fr.snoc X51 N48 g_ob42
  obtain ⟨lc51, X51, N51⟩ := own_abs X51 N51
  have f52 := f49.other W51 ne_ob1_ob42
  have Zz53 := Nat.le_trans Zz50 (Nat.le_of_eq W51.size.symm)
  replace V51 : own_Ar Z h51 ob42 .byte 22 (own_up (own_up (own_up (fun _ => 0) 0 ((jk.toInt32).toInt8.toInt32).toInt8.toInt32) 1 ((((jk.toUInt64 >>> ((8 : Int32) &&& 0x3f).toInt64.toUInt64).toInt64).toInt32).toInt8.toInt32).toInt8.toInt32) 2 ((((jk.toUInt64 >>> ((16 : Int32) &&& 0x3f).toInt64.toUInt64).toInt64).toInt32).toInt8.toInt32).toInt8.toInt32) := V51
  refine own_of st51 ?_
  show own_Run p e below s _ _ _ (T51.setTop (mkF m 183 #[.val (.long x1), .second, .val (.long jk), .second, .val (.int a1), .val (.int b1), .val (.int c1), .val (.ref ob1), .val (.long nn), .second, .val (.int off), .val (.ref ob42), .unset, .unset, .unset, .unset, .unset, .unset] []))
  refine own_of (fun _ hh_ => XS.aload X51.here hx rfl (hb hby at_183) rfl rfl hh_) ?_
  show own_Run p e below s _ _ _ (T51.setTop (mkF m 185 #[.val (.long x1), .second, .val (.long jk), .second, .val (.int a1), .val (.int b1), .val (.int c1), .val (.ref ob1), .val (.long nn), .second, .val (.int off), .val (.ref ob42), .unset, .unset, .unset, .unset, .unset, .unset] [(.ref ob42)]))
  refine own_of (fun _ hh_ => XS.iconst X51.here hx rfl (hb hby at_185) hh_) ?_
  show own_Run p e below s _ _ _ (T51.setTop (mkF m 186 #[.val (.long x1), .second, .val (.long jk), .second, .val (.int a1), .val (.int b1), .val (.int c1), .val (.ref ob1), .val (.long nn), .second, .val (.int off), .val (.ref ob42), .unset, .unset, .unset, .unset, .unset, .unset] [(.int (3 : Int32)), (.ref ob42)]))
  refine own_of (fun _ hh_ => XS.lloadN X51.here hx rfl (hb hby at_186) rfl hh_) ?_
  show own_Run p e below s _ _ _ (T51.setTop (mkF m 187 #[.val (.long x1), .second, .val (.long jk), .second, .val (.int a1), .val (.int b1), .val (.int c1), .val (.ref ob1), .val (.long nn), .second, .val (.int off), .val (.ref ob42), .unset, .unset, .unset, .unset, .unset, .unset] [(.long jk), (.int (3 : Int32)), (.ref ob42)]))
  refine own_of (fun _ hh_ => XS.bipush X51.here hx rfl (hb hby at_187) hh_) ?_
  show own_Run p e below s _ _ _ (T51.setTop (mkF m 189 #[.val (.long x1), .second, .val (.long jk), .second, .val (.int a1), .val (.int b1), .val (.int c1), .val (.ref ob1), .val (.long nn), .second, .val (.int off), .val (.ref ob42), .unset, .unset, .unset, .unset, .unset, .unset] [(.int (24 : Int32)), (.long jk), (.int (3 : Int32)), (.ref ob42)]))
  refine own_of (fun _ hh_ => XS.lushr X51.here hx rfl (hb hby at_189) rfl hh_) ?_
  show own_Run p e below s _ _ _ (T51.setTop (mkF m 190 #[.val (.long x1), .second, .val (.long jk), .second, .val (.int a1), .val (.int b1), .val (.int c1), .val (.ref ob1), .val (.long nn), .second, .val (.int off), .val (.ref ob42), .unset, .unset, .unset, .unset, .unset, .unset] [(.long ((jk.toUInt64 >>> ((24 : Int32) &&& 0x3f).toInt64.toUInt64).toInt64)), (.int (3 : Int32)), (.ref ob42)]))
  refine own_of (fun _ hh_ => XS.l2i X51.here hx rfl (hb hby at_190) rfl hh_) ?_
  show own_Run p e below s _ _ _ (T51.setTop (mkF m 191 #[.val (.long x1), .second, .val (.long jk), .second, .val (.int a1), .val (.int b1), .val (.int c1), .val (.ref ob1), .val (.long nn), .second, .val (.int off), .val (.ref ob42), .unset, .unset, .unset, .unset, .unset, .unset] [(.int (((jk.toUInt64 >>> ((24 : Int32) &&& 0x3f).toInt64.toUInt64).toInt64).toInt32)), (.int (3 : Int32)), (.ref ob42)]))
  refine own_of (fun _ hh_ => XS.i2b X51.here hx rfl (hb hby at_191) rfl hh_) ?_
  show own_Run p e below s _ _ _ (T51.setTop (mkF m 192 #[.val (.long x1), .second, .val (.long jk), .second, .val (.int a1), .val (.int b1), .val (.int c1), .val (.ref ob1), .val (.long nn), .second, .val (.int off), .val (.ref ob42), .unset, .unset, .unset, .unset, .unset, .unset] [(.int ((((jk.toUInt64 >>> ((24 : Int32) &&& 0x3f).toInt64.toUInt64).toInt64).toInt32).toInt8.toInt32)), (.int (3 : Int32)), (.ref ob42)]))
  obtain ⟨T54, h54, X54, e54, W54, V54, st54⟩ := own_bas X51 hx hZ e51 V51 (j := (3 : Int32)) (x := ((((jk.toUInt64 >>> ((24 : Int32) &&& 0x3f).toInt64.toUInt64).toInt64).toInt32).toInt8.toInt32)) (by decide) (by decide) (pc := 192) (Ls := #[.val (.long x1), .second, .val (.long jk), .second, .val (.int a1), .val (.int b1), .val (.int c1), .val (.ref ob1), .val (.long nn), .second, .val (.int off), .val (.ref ob42), .unset, .unset, .unset, .unset, .unset, .unset]) (rest := []) (hb hby at_192)
  have N54 := Fr.snoc X54 N51 g_ob42
  obtain ⟨lc54, X54, N54⟩ := own_abs X54 N54
  have f55 := f52.other W54 ne_ob1_ob42
  have Zz56 := Nat.le_trans Zz53 (Nat.le_of_eq W54.size.symm)
  replace V54 : own_Ar Z h54 ob42 .byte 22 (own_up (own_up (own_up (own_up (fun _ => 0) 0 ((jk.toInt32).toInt8.toInt32).toInt8.toInt32) 1 ((((jk.toUInt64 >>> ((8 : Int32) &&& 0x3f).toInt64.toUInt64).toInt64).toInt32).toInt8.toInt32).toInt8.toInt32) 2 ((((jk.toUInt64 >>> ((16 : Int32) &&& 0x3f).toInt64.toUInt64).toInt64).toInt32).toInt8.toInt32).toInt8.toInt32) 3 ((((jk.toUInt64 >>> ((24 : Int32) &&& 0x3f).toInt64.toUInt64).toInt64).toInt32).toInt8.toInt32).toInt8.toInt32) := V54
  refine own_of st54 ?_
  show own_Run p e below s _ _ _ (T54.setTop (mkF m 193 #[.val (.long x1), .second, .val (.long jk), .second, .val (.int a1), .val (.int b1), .val (.int c1), .val (.ref ob1), .val (.long nn), .second, .val (.int off), .val (.ref ob42), .unset, .unset, .unset, .unset, .unset, .unset] []))
  refine own_of (fun _ hh_ => XS.aload X54.here hx rfl (hb hby at_193) rfl rfl hh_) ?_
  show own_Run p e below s _ _ _ (T54.setTop (mkF m 195 #[.val (.long x1), .second, .val (.long jk), .second, .val (.int a1), .val (.int b1), .val (.int c1), .val (.ref ob1), .val (.long nn), .second, .val (.int off), .val (.ref ob42), .unset, .unset, .unset, .unset, .unset, .unset] [(.ref ob42)]))
  refine own_of (fun _ hh_ => XS.bipush X54.here hx rfl (hb hby at_195) hh_) ?_
  show own_Run p e below s _ _ _ (T54.setTop (mkF m 197 #[.val (.long x1), .second, .val (.long jk), .second, .val (.int a1), .val (.int b1), .val (.int c1), .val (.ref ob1), .val (.long nn), .second, .val (.int off), .val (.ref ob42), .unset, .unset, .unset, .unset, .unset, .unset] [(.int (18 : Int32)), (.ref ob42)]))
  refine own_of (fun _ hh_ => XS.lloadN X54.here hx rfl (hb hby at_197) rfl hh_) ?_
  show own_Run p e below s _ _ _ (T54.setTop (mkF m 198 #[.val (.long x1), .second, .val (.long jk), .second, .val (.int a1), .val (.int b1), .val (.int c1), .val (.ref ob1), .val (.long nn), .second, .val (.int off), .val (.ref ob42), .unset, .unset, .unset, .unset, .unset, .unset] [(.long jk), (.int (18 : Int32)), (.ref ob42)]))
  refine own_of (fun _ hh_ => XS.bipush X54.here hx rfl (hb hby at_198) hh_) ?_
  show own_Run p e below s _ _ _ (T54.setTop (mkF m 200 #[.val (.long x1), .second, .val (.long jk), .second, .val (.int a1), .val (.int b1), .val (.int c1), .val (.ref ob1), .val (.long nn), .second, .val (.int off), .val (.ref ob42), .unset, .unset, .unset, .unset, .unset, .unset] [(.int (32 : Int32)), (.long jk), (.int (18 : Int32)), (.ref ob42)]))
  refine own_of (fun _ hh_ => XS.lushr X54.here hx rfl (hb hby at_200) rfl hh_) ?_
  show own_Run p e below s _ _ _ (T54.setTop (mkF m 201 #[.val (.long x1), .second, .val (.long jk), .second, .val (.int a1), .val (.int b1), .val (.int c1), .val (.ref ob1), .val (.long nn), .second, .val (.int off), .val (.ref ob42), .unset, .unset, .unset, .unset, .unset, .unset] [(.long ((jk.toUInt64 >>> ((32 : Int32) &&& 0x3f).toInt64.toUInt64).toInt64)), (.int (18 : Int32)), (.ref ob42)]))
  refine own_of (fun _ hh_ => XS.l2i X54.here hx rfl (hb hby at_201) rfl hh_) ?_
  show own_Run p e below s _ _ _ (T54.setTop (mkF m 202 #[.val (.long x1), .second, .val (.long jk), .second, .val (.int a1), .val (.int b1), .val (.int c1), .val (.ref ob1), .val (.long nn), .second, .val (.int off), .val (.ref ob42), .unset, .unset, .unset, .unset, .unset, .unset] [(.int (((jk.toUInt64 >>> ((32 : Int32) &&& 0x3f).toInt64.toUInt64).toInt64).toInt32)), (.int (18 : Int32)), (.ref ob42)]))
  refine own_of (fun _ hh_ => XS.i2b X54.here hx rfl (hb hby at_202) rfl hh_) ?_
  show own_Run p e below s _ _ _ (T54.setTop (mkF m 203 #[.val (.long x1), .second, .val (.long jk), .second, .val (.int a1), .val (.int b1), .val (.int c1), .val (.ref ob1), .val (.long nn), .second, .val (.int off), .val (.ref ob42), .unset, .unset, .unset, .unset, .unset, .unset] [(.int ((((jk.toUInt64 >>> ((32 : Int32) &&& 0x3f).toInt64.toUInt64).toInt64).toInt32).toInt8.toInt32)), (.int (18 : Int32)), (.ref ob42)]))
  obtain ⟨T57, h57, X57, e57, W57, V57, st57⟩ := own_bas X54 hx hZ e54 V54 (j := (18 : Int32)) (x := ((((jk.toUInt64 >>> ((32 : Int32) &&& 0x3f).toInt64.toUInt64).toInt64).toInt32).toInt8.toInt32)) (by decide) (by decide) (pc := 203) (Ls := #[.val (.long x1), .second, .val (.long jk), .second, .val (.int a1), .val (.int b1), .val (.int c1), .val (.ref ob1), .val (.long nn), .second, .val (.int off), .val (.ref ob42), .unset, .unset, .unset, .unset, .unset, .unset]) (rest := []) (hb hby at_203)
  have N57 := Fr.snoc X57 N54 g_ob42
  obtain ⟨lc57, X57, N57⟩ := own_abs X57 N57
  have f58 := f55.other W57 ne_ob1_ob42
  have Zz59 := Nat.le_trans Zz56 (Nat.le_of_eq W57.size.symm)
  replace V57 : own_Ar Z h57 ob42 .byte 22 (own_up (own_up (own_up (own_up (own_up (fun _ => 0) 0 ((jk.toInt32).toInt8.toInt32).toInt8.toInt32) 1 ((((jk.toUInt64 >>> ((8 : Int32) &&& 0x3f).toInt64.toUInt64).toInt64).toInt32).toInt8.toInt32).toInt8.toInt32) 2 ((((jk.toUInt64 >>> ((16 : Int32) &&& 0x3f).toInt64.toUInt64).toInt64).toInt32).toInt8.toInt32).toInt8.toInt32) 3 ((((jk.toUInt64 >>> ((24 : Int32) &&& 0x3f).toInt64.toUInt64).toInt64).toInt32).toInt8.toInt32).toInt8.toInt32) 18 ((((jk.toUInt64 >>> ((32 : Int32) &&& 0x3f).toInt64.toUInt64).toInt64).toInt32).toInt8.toInt32).toInt8.toInt32) := V57
  refine own_of st57 ?_
  show own_Run p e below s _ _ _ (T57.setTop (mkF m 204 #[.val (.long x1), .second, .val (.long jk), .second, .val (.int a1), .val (.int b1), .val (.int c1), .val (.ref ob1), .val (.long nn), .second, .val (.int off), .val (.ref ob42), .unset, .unset, .unset, .unset, .unset, .unset] []))
  refine own_of (fun _ hh_ => XS.aload X57.here hx rfl (hb hby at_204) rfl rfl hh_) ?_
  show own_Run p e below s _ _ _ (T57.setTop (mkF m 206 #[.val (.long x1), .second, .val (.long jk), .second, .val (.int a1), .val (.int b1), .val (.int c1), .val (.ref ob1), .val (.long nn), .second, .val (.int off), .val (.ref ob42), .unset, .unset, .unset, .unset, .unset, .unset] [(.ref ob42)]))
  refine own_of (fun _ hh_ => XS.bipush X57.here hx rfl (hb hby at_206) hh_) ?_
  show own_Run p e below s _ _ _ (T57.setTop (mkF m 208 #[.val (.long x1), .second, .val (.long jk), .second, .val (.int a1), .val (.int b1), .val (.int c1), .val (.ref ob1), .val (.long nn), .second, .val (.int off), .val (.ref ob42), .unset, .unset, .unset, .unset, .unset, .unset] [(.int (19 : Int32)), (.ref ob42)]))
  refine own_of (fun _ hh_ => XS.lloadN X57.here hx rfl (hb hby at_208) rfl hh_) ?_
  show own_Run p e below s _ _ _ (T57.setTop (mkF m 209 #[.val (.long x1), .second, .val (.long jk), .second, .val (.int a1), .val (.int b1), .val (.int c1), .val (.ref ob1), .val (.long nn), .second, .val (.int off), .val (.ref ob42), .unset, .unset, .unset, .unset, .unset, .unset] [(.long jk), (.int (19 : Int32)), (.ref ob42)]))
  refine own_of (fun _ hh_ => XS.bipush X57.here hx rfl (hb hby at_209) hh_) ?_
  show own_Run p e below s _ _ _ (T57.setTop (mkF m 211 #[.val (.long x1), .second, .val (.long jk), .second, .val (.int a1), .val (.int b1), .val (.int c1), .val (.ref ob1), .val (.long nn), .second, .val (.int off), .val (.ref ob42), .unset, .unset, .unset, .unset, .unset, .unset] [(.int (40 : Int32)), (.long jk), (.int (19 : Int32)), (.ref ob42)]))
  refine own_of (fun _ hh_ => XS.lushr X57.here hx rfl (hb hby at_211) rfl hh_) ?_
  show own_Run p e below s _ _ _ (T57.setTop (mkF m 212 #[.val (.long x1), .second, .val (.long jk), .second, .val (.int a1), .val (.int b1), .val (.int c1), .val (.ref ob1), .val (.long nn), .second, .val (.int off), .val (.ref ob42), .unset, .unset, .unset, .unset, .unset, .unset] [(.long ((jk.toUInt64 >>> ((40 : Int32) &&& 0x3f).toInt64.toUInt64).toInt64)), (.int (19 : Int32)), (.ref ob42)]))
  refine own_of (fun _ hh_ => XS.l2i X57.here hx rfl (hb hby at_212) rfl hh_) ?_
  show own_Run p e below s _ _ _ (T57.setTop (mkF m 213 #[.val (.long x1), .second, .val (.long jk), .second, .val (.int a1), .val (.int b1), .val (.int c1), .val (.ref ob1), .val (.long nn), .second, .val (.int off), .val (.ref ob42), .unset, .unset, .unset, .unset, .unset, .unset] [(.int (((jk.toUInt64 >>> ((40 : Int32) &&& 0x3f).toInt64.toUInt64).toInt64).toInt32)), (.int (19 : Int32)), (.ref ob42)]))
  refine own_of (fun _ hh_ => XS.i2b X57.here hx rfl (hb hby at_213) rfl hh_) ?_
  show own_Run p e below s _ _ _ (T57.setTop (mkF m 214 #[.val (.long x1), .second, .val (.long jk), .second, .val (.int a1), .val (.int b1), .val (.int c1), .val (.ref ob1), .val (.long nn), .second, .val (.int off), .val (.ref ob42), .unset, .unset, .unset, .unset, .unset, .unset] [(.int ((((jk.toUInt64 >>> ((40 : Int32) &&& 0x3f).toInt64.toUInt64).toInt64).toInt32).toInt8.toInt32)), (.int (19 : Int32)), (.ref ob42)]))
  obtain ⟨T60, h60, X60, e60, W60, V60, st60⟩ := own_bas X57 hx hZ e57 V57 (j := (19 : Int32)) (x := ((((jk.toUInt64 >>> ((40 : Int32) &&& 0x3f).toInt64.toUInt64).toInt64).toInt32).toInt8.toInt32)) (by decide) (by decide) (pc := 214) (Ls := #[.val (.long x1), .second, .val (.long jk), .second, .val (.int a1), .val (.int b1), .val (.int c1), .val (.ref ob1), .val (.long nn), .second, .val (.int off), .val (.ref ob42), .unset, .unset, .unset, .unset, .unset, .unset]) (rest := []) (hb hby at_214)
  have N60 := Fr.snoc X60 N57 g_ob42
  obtain ⟨lc60, X60, N60⟩ := own_abs X60 N60
  have f61 := f58.other W60 ne_ob1_ob42
  have Zz62 := Nat.le_trans Zz59 (Nat.le_of_eq W60.size.symm)
  replace V60 : own_Ar Z h60 ob42 .byte 22 (own_up (own_up (own_up (own_up (own_up (own_up (fun _ => 0) 0 ((jk.toInt32).toInt8.toInt32).toInt8.toInt32) 1 ((((jk.toUInt64 >>> ((8 : Int32) &&& 0x3f).toInt64.toUInt64).toInt64).toInt32).toInt8.toInt32).toInt8.toInt32) 2 ((((jk.toUInt64 >>> ((16 : Int32) &&& 0x3f).toInt64.toUInt64).toInt64).toInt32).toInt8.toInt32).toInt8.toInt32) 3 ((((jk.toUInt64 >>> ((24 : Int32) &&& 0x3f).toInt64.toUInt64).toInt64).toInt32).toInt8.toInt32).toInt8.toInt32) 18 ((((jk.toUInt64 >>> ((32 : Int32) &&& 0x3f).toInt64.toUInt64).toInt64).toInt32).toInt8.toInt32).toInt8.toInt32) 19 ((((jk.toUInt64 >>> ((40 : Int32) &&& 0x3f).toInt64.toUInt64).toInt64).toInt32).toInt8.toInt32).toInt8.toInt32) := V60
  refine own_of st60 ?_
  show own_Run p e below s _ _ _ (T60.setTop (mkF m 215 #[.val (.long x1), .second, .val (.long jk), .second, .val (.int a1), .val (.int b1), .val (.int c1), .val (.ref ob1), .val (.long nn), .second, .val (.int off), .val (.ref ob42), .unset, .unset, .unset, .unset, .unset, .unset] []))
  refine own_of (fun _ hh_ => XS.aload X60.here hx rfl (hb hby at_215) rfl rfl hh_) ?_
  show own_Run p e below s _ _ _ (T60.setTop (mkF m 217 #[.val (.long x1), .second, .val (.long jk), .second, .val (.int a1), .val (.int b1), .val (.int c1), .val (.ref ob1), .val (.long nn), .second, .val (.int off), .val (.ref ob42), .unset, .unset, .unset, .unset, .unset, .unset] [(.ref ob42)]))
  refine own_of (fun _ hh_ => XS.bipush X60.here hx rfl (hb hby at_217) hh_) ?_
  show own_Run p e below s _ _ _ (T60.setTop (mkF m 219 #[.val (.long x1), .second, .val (.long jk), .second, .val (.int a1), .val (.int b1), .val (.int c1), .val (.ref ob1), .val (.long nn), .second, .val (.int off), .val (.ref ob42), .unset, .unset, .unset, .unset, .unset, .unset] [(.int (20 : Int32)), (.ref ob42)]))
  refine own_of (fun _ hh_ => XS.lloadN X60.here hx rfl (hb hby at_219) rfl hh_) ?_
  show own_Run p e below s _ _ _ (T60.setTop (mkF m 220 #[.val (.long x1), .second, .val (.long jk), .second, .val (.int a1), .val (.int b1), .val (.int c1), .val (.ref ob1), .val (.long nn), .second, .val (.int off), .val (.ref ob42), .unset, .unset, .unset, .unset, .unset, .unset] [(.long jk), (.int (20 : Int32)), (.ref ob42)]))
  refine own_of (fun _ hh_ => XS.bipush X60.here hx rfl (hb hby at_220) hh_) ?_
  show own_Run p e below s _ _ _ (T60.setTop (mkF m 222 #[.val (.long x1), .second, .val (.long jk), .second, .val (.int a1), .val (.int b1), .val (.int c1), .val (.ref ob1), .val (.long nn), .second, .val (.int off), .val (.ref ob42), .unset, .unset, .unset, .unset, .unset, .unset] [(.int (48 : Int32)), (.long jk), (.int (20 : Int32)), (.ref ob42)]))
  refine own_of (fun _ hh_ => XS.lushr X60.here hx rfl (hb hby at_222) rfl hh_) ?_
  show own_Run p e below s _ _ _ (T60.setTop (mkF m 223 #[.val (.long x1), .second, .val (.long jk), .second, .val (.int a1), .val (.int b1), .val (.int c1), .val (.ref ob1), .val (.long nn), .second, .val (.int off), .val (.ref ob42), .unset, .unset, .unset, .unset, .unset, .unset] [(.long ((jk.toUInt64 >>> ((48 : Int32) &&& 0x3f).toInt64.toUInt64).toInt64)), (.int (20 : Int32)), (.ref ob42)]))
  refine own_of (fun _ hh_ => XS.l2i X60.here hx rfl (hb hby at_223) rfl hh_) ?_
  show own_Run p e below s _ _ _ (T60.setTop (mkF m 224 #[.val (.long x1), .second, .val (.long jk), .second, .val (.int a1), .val (.int b1), .val (.int c1), .val (.ref ob1), .val (.long nn), .second, .val (.int off), .val (.ref ob42), .unset, .unset, .unset, .unset, .unset, .unset] [(.int (((jk.toUInt64 >>> ((48 : Int32) &&& 0x3f).toInt64.toUInt64).toInt64).toInt32)), (.int (20 : Int32)), (.ref ob42)]))
  refine own_of (fun _ hh_ => XS.i2b X60.here hx rfl (hb hby at_224) rfl hh_) ?_
  show own_Run p e below s _ _ _ (T60.setTop (mkF m 225 #[.val (.long x1), .second, .val (.long jk), .second, .val (.int a1), .val (.int b1), .val (.int c1), .val (.ref ob1), .val (.long nn), .second, .val (.int off), .val (.ref ob42), .unset, .unset, .unset, .unset, .unset, .unset] [(.int ((((jk.toUInt64 >>> ((48 : Int32) &&& 0x3f).toInt64.toUInt64).toInt64).toInt32).toInt8.toInt32)), (.int (20 : Int32)), (.ref ob42)]))
  obtain ⟨T63, h63, X63, e63, W63, V63, st63⟩ := own_bas X60 hx hZ e60 V60 (j := (20 : Int32)) (x := ((((jk.toUInt64 >>> ((48 : Int32) &&& 0x3f).toInt64.toUInt64).toInt64).toInt32).toInt8.toInt32)) (by decide) (by decide) (pc := 225) (Ls := #[.val (.long x1), .second, .val (.long jk), .second, .val (.int a1), .val (.int b1), .val (.int c1), .val (.ref ob1), .val (.long nn), .second, .val (.int off), .val (.ref ob42), .unset, .unset, .unset, .unset, .unset, .unset]) (rest := []) (hb hby at_225)
  have N63 := Fr.snoc X63 N60 g_ob42
  obtain ⟨lc63, X63, N63⟩ := own_abs X63 N63
  have f64 := f61.other W63 ne_ob1_ob42
  have Zz65 := Nat.le_trans Zz62 (Nat.le_of_eq W63.size.symm)
  replace V63 : own_Ar Z h63 ob42 .byte 22 (own_up (own_up (own_up (own_up (own_up (own_up (own_up (fun _ => 0) 0 ((jk.toInt32).toInt8.toInt32).toInt8.toInt32) 1 ((((jk.toUInt64 >>> ((8 : Int32) &&& 0x3f).toInt64.toUInt64).toInt64).toInt32).toInt8.toInt32).toInt8.toInt32) 2 ((((jk.toUInt64 >>> ((16 : Int32) &&& 0x3f).toInt64.toUInt64).toInt64).toInt32).toInt8.toInt32).toInt8.toInt32) 3 ((((jk.toUInt64 >>> ((24 : Int32) &&& 0x3f).toInt64.toUInt64).toInt64).toInt32).toInt8.toInt32).toInt8.toInt32) 18 ((((jk.toUInt64 >>> ((32 : Int32) &&& 0x3f).toInt64.toUInt64).toInt64).toInt32).toInt8.toInt32).toInt8.toInt32) 19 ((((jk.toUInt64 >>> ((40 : Int32) &&& 0x3f).toInt64.toUInt64).toInt64).toInt32).toInt8.toInt32).toInt8.toInt32) 20 ((((jk.toUInt64 >>> ((48 : Int32) &&& 0x3f).toInt64.toUInt64).toInt64).toInt32).toInt8.toInt32).toInt8.toInt32) := V63
  refine own_of st63 ?_
  show own_Run p e below s _ _ _ (T63.setTop (mkF m 226 #[.val (.long x1), .second, .val (.long jk), .second, .val (.int a1), .val (.int b1), .val (.int c1), .val (.ref ob1), .val (.long nn), .second, .val (.int off), .val (.ref ob42), .unset, .unset, .unset, .unset, .unset, .unset] []))
  refine own_of (fun _ hh_ => XS.aload X63.here hx rfl (hb hby at_226) rfl rfl hh_) ?_
  show own_Run p e below s _ _ _ (T63.setTop (mkF m 228 #[.val (.long x1), .second, .val (.long jk), .second, .val (.int a1), .val (.int b1), .val (.int c1), .val (.ref ob1), .val (.long nn), .second, .val (.int off), .val (.ref ob42), .unset, .unset, .unset, .unset, .unset, .unset] [(.ref ob42)]))
  refine own_of (fun _ hh_ => XS.bipush X63.here hx rfl (hb hby at_228) hh_) ?_
  show own_Run p e below s _ _ _ (T63.setTop (mkF m 230 #[.val (.long x1), .second, .val (.long jk), .second, .val (.int a1), .val (.int b1), .val (.int c1), .val (.ref ob1), .val (.long nn), .second, .val (.int off), .val (.ref ob42), .unset, .unset, .unset, .unset, .unset, .unset] [(.int (21 : Int32)), (.ref ob42)]))
  refine own_of (fun _ hh_ => XS.lloadN X63.here hx rfl (hb hby at_230) rfl hh_) ?_
  show own_Run p e below s _ _ _ (T63.setTop (mkF m 231 #[.val (.long x1), .second, .val (.long jk), .second, .val (.int a1), .val (.int b1), .val (.int c1), .val (.ref ob1), .val (.long nn), .second, .val (.int off), .val (.ref ob42), .unset, .unset, .unset, .unset, .unset, .unset] [(.long jk), (.int (21 : Int32)), (.ref ob42)]))
  refine own_of (fun _ hh_ => XS.bipush X63.here hx rfl (hb hby at_231) hh_) ?_
  show own_Run p e below s _ _ _ (T63.setTop (mkF m 233 #[.val (.long x1), .second, .val (.long jk), .second, .val (.int a1), .val (.int b1), .val (.int c1), .val (.ref ob1), .val (.long nn), .second, .val (.int off), .val (.ref ob42), .unset, .unset, .unset, .unset, .unset, .unset] [(.int (56 : Int32)), (.long jk), (.int (21 : Int32)), (.ref ob42)]))
  refine own_of (fun _ hh_ => XS.lushr X63.here hx rfl (hb hby at_233) rfl hh_) ?_
  show own_Run p e below s _ _ _ (T63.setTop (mkF m 234 #[.val (.long x1), .second, .val (.long jk), .second, .val (.int a1), .val (.int b1), .val (.int c1), .val (.ref ob1), .val (.long nn), .second, .val (.int off), .val (.ref ob42), .unset, .unset, .unset, .unset, .unset, .unset] [(.long ((jk.toUInt64 >>> ((56 : Int32) &&& 0x3f).toInt64.toUInt64).toInt64)), (.int (21 : Int32)), (.ref ob42)]))
  refine own_of (fun _ hh_ => XS.l2i X63.here hx rfl (hb hby at_234) rfl hh_) ?_
  show own_Run p e below s _ _ _ (T63.setTop (mkF m 235 #[.val (.long x1), .second, .val (.long jk), .second, .val (.int a1), .val (.int b1), .val (.int c1), .val (.ref ob1), .val (.long nn), .second, .val (.int off), .val (.ref ob42), .unset, .unset, .unset, .unset, .unset, .unset] [(.int (((jk.toUInt64 >>> ((56 : Int32) &&& 0x3f).toInt64.toUInt64).toInt64).toInt32)), (.int (21 : Int32)), (.ref ob42)]))
  refine own_of (fun _ hh_ => XS.i2b X63.here hx rfl (hb hby at_235) rfl hh_) ?_
  show own_Run p e below s _ _ _ (T63.setTop (mkF m 236 #[.val (.long x1), .second, .val (.long jk), .second, .val (.int a1), .val (.int b1), .val (.int c1), .val (.ref ob1), .val (.long nn), .second, .val (.int off), .val (.ref ob42), .unset, .unset, .unset, .unset, .unset, .unset] [(.int ((((jk.toUInt64 >>> ((56 : Int32) &&& 0x3f).toInt64.toUInt64).toInt64).toInt32).toInt8.toInt32)), (.int (21 : Int32)), (.ref ob42)]))
  obtain ⟨T66, h66, X66, e66, W66, V66, st66⟩ := own_bas X63 hx hZ e63 V63 (j := (21 : Int32)) (x := ((((jk.toUInt64 >>> ((56 : Int32) &&& 0x3f).toInt64.toUInt64).toInt64).toInt32).toInt8.toInt32)) (by decide) (by decide) (pc := 236) (Ls := #[.val (.long x1), .second, .val (.long jk), .second, .val (.int a1), .val (.int b1), .val (.int c1), .val (.ref ob1), .val (.long nn), .second, .val (.int off), .val (.ref ob42), .unset, .unset, .unset, .unset, .unset, .unset]) (rest := []) (hb hby at_236)
  have N66 := Fr.snoc X66 N63 g_ob42
  obtain ⟨lc66, X66, N66⟩ := own_abs X66 N66
  have f67 := f64.other W66 ne_ob1_ob42
  have Zz68 := Nat.le_trans Zz65 (Nat.le_of_eq W66.size.symm)
  replace V66 : own_Ar Z h66 ob42 .byte 22 (own_up (own_up (own_up (own_up (own_up (own_up (own_up (own_up (fun _ => 0) 0 ((jk.toInt32).toInt8.toInt32).toInt8.toInt32) 1 ((((jk.toUInt64 >>> ((8 : Int32) &&& 0x3f).toInt64.toUInt64).toInt64).toInt32).toInt8.toInt32).toInt8.toInt32) 2 ((((jk.toUInt64 >>> ((16 : Int32) &&& 0x3f).toInt64.toUInt64).toInt64).toInt32).toInt8.toInt32).toInt8.toInt32) 3 ((((jk.toUInt64 >>> ((24 : Int32) &&& 0x3f).toInt64.toUInt64).toInt64).toInt32).toInt8.toInt32).toInt8.toInt32) 18 ((((jk.toUInt64 >>> ((32 : Int32) &&& 0x3f).toInt64.toUInt64).toInt64).toInt32).toInt8.toInt32).toInt8.toInt32) 19 ((((jk.toUInt64 >>> ((40 : Int32) &&& 0x3f).toInt64.toUInt64).toInt64).toInt32).toInt8.toInt32).toInt8.toInt32) 20 ((((jk.toUInt64 >>> ((48 : Int32) &&& 0x3f).toInt64.toUInt64).toInt64).toInt32).toInt8.toInt32).toInt8.toInt32) 21 ((((jk.toUInt64 >>> ((56 : Int32) &&& 0x3f).toInt64.toUInt64).toInt64).toInt32).toInt8.toInt32).toInt8.toInt32) := V66
  refine own_of st66 ?_
  show own_Run p e below s _ _ _ (T66.setTop (mkF m 237 #[.val (.long x1), .second, .val (.long jk), .second, .val (.int a1), .val (.int b1), .val (.int c1), .val (.ref ob1), .val (.long nn), .second, .val (.int off), .val (.ref ob42), .unset, .unset, .unset, .unset, .unset, .unset] []))
  obtain ⟨fd0, hfd0⟩ : ∃ z, z = (own_up (own_up (own_up (own_up (own_up (own_up (own_up (own_up (fun _ => 0) 0 ((jk.toInt32).toInt8.toInt32).toInt8.toInt32) 1 ((((jk.toUInt64 >>> ((8 : Int32) &&& 0x3f).toInt64.toUInt64).toInt64).toInt32).toInt8.toInt32).toInt8.toInt32) 2 ((((jk.toUInt64 >>> ((16 : Int32) &&& 0x3f).toInt64.toUInt64).toInt64).toInt32).toInt8.toInt32).toInt8.toInt32) 3 ((((jk.toUInt64 >>> ((24 : Int32) &&& 0x3f).toInt64.toUInt64).toInt64).toInt32).toInt8.toInt32).toInt8.toInt32) 18 ((((jk.toUInt64 >>> ((32 : Int32) &&& 0x3f).toInt64.toUInt64).toInt64).toInt32).toInt8.toInt32).toInt8.toInt32) 19 ((((jk.toUInt64 >>> ((40 : Int32) &&& 0x3f).toInt64.toUInt64).toInt64).toInt32).toInt8.toInt32).toInt8.toInt32) 20 ((((jk.toUInt64 >>> ((48 : Int32) &&& 0x3f).toInt64.toUInt64).toInt64).toInt32).toInt8.toInt32).toInt8.toInt32) 21 ((((jk.toUInt64 >>> ((56 : Int32) &&& 0x3f).toInt64.toUInt64).toInt64).toInt32).toInt8.toInt32).toInt8.toInt32) := ⟨_, rfl⟩
  have Vd0 : own_Ar Z h66 ob42 .byte 22 fd0 := by rw [hfd0]; exact V66
  have D0 := own_dig0 fd0 nn.toInt.toNat off.toNatClampNeg
  refine own_of (fun _ hh_ => XS.aload X66.here hx rfl (hb hby at_237) rfl rfl hh_) ?_
  show own_Run p e below s _ _ _ (T66.setTop (mkF m 239 #[.val (.long x1), .second, .val (.long jk), .second, .val (.int a1), .val (.int b1), .val (.int c1), .val (.ref ob1), .val (.long nn), .second, .val (.int off), .val (.ref ob42), .unset, .unset, .unset, .unset, .unset, .unset] [(.ref ob42)]))
  refine own_of (fun _ hh_ => XS.iload X66.here hx rfl (hb hby at_239) rfl hh_) ?_
  show own_Run p e below s _ _ _ (T66.setTop (mkF m 241 #[.val (.long x1), .second, .val (.long jk), .second, .val (.int a1), .val (.int b1), .val (.int c1), .val (.ref ob1), .val (.long nn), .second, .val (.int off), .val (.ref ob42), .unset, .unset, .unset, .unset, .unset, .unset] [(.int off), (.ref ob42)]))
  refine own_of (fun _ hh_ => XS.lload X66.here hx rfl (hb hby at_241) rfl hh_) ?_
  show own_Run p e below s _ _ _ (T66.setTop (mkF m 243 #[.val (.long x1), .second, .val (.long jk), .second, .val (.int a1), .val (.int b1), .val (.int c1), .val (.ref ob1), .val (.long nn), .second, .val (.int off), .val (.ref ob42), .unset, .unset, .unset, .unset, .unset, .unset] [(.long nn), (.int off), (.ref ob42)]))
  refine own_of (fun _ hh_ => XS.aload X66.here hx rfl (hb hby at_243) rfl rfl hh_) ?_
  show own_Run p e below s _ _ _ (T66.setTop (mkF m 245 #[.val (.long x1), .second, .val (.long jk), .second, .val (.int a1), .val (.int b1), .val (.int c1), .val (.ref ob1), .val (.long nn), .second, .val (.int off), .val (.ref ob42), .unset, .unset, .unset, .unset, .unset, .unset] [(.ref ob1), (.long nn), (.int off), (.ref ob42)]))
  refine own_of (fun _ hh_ => XS.iconst X66.here hx rfl (hb hby at_245) hh_) ?_
  show own_Run p e below s _ _ _ (T66.setTop (mkF m 246 #[.val (.long x1), .second, .val (.long jk), .second, .val (.int a1), .val (.int b1), .val (.int c1), .val (.ref ob1), .val (.long nn), .second, .val (.int off), .val (.ref ob42), .unset, .unset, .unset, .unset, .unset, .unset] [(.int (0 : Int32)), (.ref ob1), (.long nn), (.int off), (.ref ob42)]))
  obtain ⟨_, _, ⟨T69, L69, k69, n69⟩, -, X69, ⟨Lc69, hQ69, l69, y69, z69⟩, st69⟩ := Jvm.LawKit.callS X66 hx (y := (⟨"com/example/lanchid/lanchid/records/WholeNumberValuePinLaw", "digit", "(J[JI)B"⟩ : MethodName)) hown (mvT hZ (hw _ (List.mem_of_getElem? (i := 21) rfl))) (mvT hZ (hw _ (List.mem_of_getElem? (i := 22) rfl))) (mvT hZ (hw _ (List.mem_of_getElem? (i := 23) rfl))) (mvT hZ (hw _ (List.mem_of_getElem? (i := 24) rfl))) (by decide) (backOf (W := 2) (rmD l Z a0 hw [] nn ob1 (0 : Int32) 0 h66 n0 Zz68 f67 rnn.1 rfl (by decide)) hZ (hw _ (List.mem_of_getElem? (i := 24) rfl)) (hw _ (List.mem_of_getElem? (i := 23) rfl)) (by decide) (by decide)) (g := (mkF m 246 #[.val (.long x1), .second, .val (.long jk), .second, .val (.int a1), .val (.int b1), .val (.int c1), .val (.ref ob1), .val (.long nn), .second, .val (.int off), .val (.ref ob42), .unset, .unset, .unset, .unset, .unset, .unset] [(.int (0 : Int32)), (.ref ob1), (.long nn), (.int off), (.ref ob42)])) rfl (by rw [hml]; rfl) (argsL := [(.long nn), (.ref ob1), (.int (0 : Int32))]) (rest := [(.int off), (.ref ob42)]) (lenOf own_pd0 rfl) rfl (by show 2 * 0 + _ ≤ _; exact Nat.le_of_eq rfl) (hb hby at_246) (fun _ _ => ⟨rfl, e66, (by decide : 2 + 0 ≤ _), (by decide : 41 + 0 ≤ _)⟩)
  dsimp only [Pt.U, Pt.locs, Pt.cells, Pt.slots] at X69 l69 y69 z69 st69 hQ69
  subst l69 y69 z69
  obtain ⟨zz69, rfl, F69, N69q, e69⟩ := hQ69
  have N69 := Fr.app N66 N69q
  obtain ⟨lc69, X69, N69⟩ := own_abs X69 N69
  refine own_of st69 ?_
  show own_Run p e below s _ _ _ (T69.setTop (mkF m 249 #[.val (.long x1), .second, .val (.long jk), .second, .val (.int a1), .val (.int b1), .val (.int c1), .val (.ref ob1), .val (.long nn), .second, .val (.int off), .val (.ref ob42), .unset, .unset, .unset, .unset, .unset, .unset] [(.int zz69), (.int off), (.ref ob42)]))
  obtain ⟨T70, h70, X70, e70, W70, V70, st70⟩ := own_bas X69 hx hZ e69 Vd0 (j := off) (x := zz69) (own_pos roff.1) (own_nat roff.1 (by have := roff.2; omega)) (pc := 249) (Ls := #[.val (.long x1), .second, .val (.long jk), .second, .val (.int a1), .val (.int b1), .val (.int c1), .val (.ref ob1), .val (.long nn), .second, .val (.int off), .val (.ref ob42), .unset, .unset, .unset, .unset, .unset, .unset]) (rest := []) (hb hby at_249)
  have N70 := Fr.snoc X70 N69 g_ob42
  obtain ⟨lc70, X70, N70⟩ := own_abs X70 N70
  have f71 := f67.other W70 ne_ob1_ob42
  have Zz72 := Nat.le_trans Zz68 (Nat.le_of_eq W70.size.symm)
  refine own_of st70 ?_
  show own_Run p e below s _ _ _ (T70.setTop (mkF m 250 #[.val (.long x1), .second, .val (.long jk), .second, .val (.int a1), .val (.int b1), .val (.int c1), .val (.ref ob1), .val (.long nn), .second, .val (.int off), .val (.ref ob42), .unset, .unset, .unset, .unset, .unset, .unset] []))
  obtain ⟨fd1, hfd1⟩ : ∃ z, z = (own_up fd0 (off).toNatClampNeg zz69.toInt8.toInt32) := ⟨_, rfl⟩
  have Vd1 : own_Ar Z h70 ob42 .byte 22 fd1 := by rw [hfd1]; exact V70
  have D1 : own_dig fd1 nn.toInt.toNat off.toNatClampNeg 1 := by rw [hfd1]; exact own_dstep D0 F69 rfl
  refine own_of (fun _ hh_ => XS.aload X70.here hx rfl (hb hby at_250) rfl rfl hh_) ?_
  show own_Run p e below s _ _ _ (T70.setTop (mkF m 252 #[.val (.long x1), .second, .val (.long jk), .second, .val (.int a1), .val (.int b1), .val (.int c1), .val (.ref ob1), .val (.long nn), .second, .val (.int off), .val (.ref ob42), .unset, .unset, .unset, .unset, .unset, .unset] [(.ref ob42)]))
  refine own_of (fun _ hh_ => XS.iload X70.here hx rfl (hb hby at_252) rfl hh_) ?_
  show own_Run p e below s _ _ _ (T70.setTop (mkF m 254 #[.val (.long x1), .second, .val (.long jk), .second, .val (.int a1), .val (.int b1), .val (.int c1), .val (.ref ob1), .val (.long nn), .second, .val (.int off), .val (.ref ob42), .unset, .unset, .unset, .unset, .unset, .unset] [(.int off), (.ref ob42)]))
  refine own_of (fun _ hh_ => XS.iconst X70.here hx rfl (hb hby at_254) hh_) ?_
  show own_Run p e below s _ _ _ (T70.setTop (mkF m 255 #[.val (.long x1), .second, .val (.long jk), .second, .val (.int a1), .val (.int b1), .val (.int c1), .val (.ref ob1), .val (.long nn), .second, .val (.int off), .val (.ref ob42), .unset, .unset, .unset, .unset, .unset, .unset] [(.int (1 : Int32)), (.int off), (.ref ob42)]))
  refine own_of (fun _ hh_ => XS.iadd X70.here hx rfl (hb hby at_255) rfl hh_) ?_
  show own_Run p e below s _ _ _ (T70.setTop (mkF m 256 #[.val (.long x1), .second, .val (.long jk), .second, .val (.int a1), .val (.int b1), .val (.int c1), .val (.ref ob1), .val (.long nn), .second, .val (.int off), .val (.ref ob42), .unset, .unset, .unset, .unset, .unset, .unset] [(.int (off + (1 : Int32))), (.ref ob42)]))
  refine own_of (fun _ hh_ => XS.lload X70.here hx rfl (hb hby at_256) rfl hh_) ?_
  show own_Run p e below s _ _ _ (T70.setTop (mkF m 258 #[.val (.long x1), .second, .val (.long jk), .second, .val (.int a1), .val (.int b1), .val (.int c1), .val (.ref ob1), .val (.long nn), .second, .val (.int off), .val (.ref ob42), .unset, .unset, .unset, .unset, .unset, .unset] [(.long nn), (.int (off + (1 : Int32))), (.ref ob42)]))
  refine own_of (fun _ hh_ => XS.aload X70.here hx rfl (hb hby at_258) rfl rfl hh_) ?_
  show own_Run p e below s _ _ _ (T70.setTop (mkF m 260 #[.val (.long x1), .second, .val (.long jk), .second, .val (.int a1), .val (.int b1), .val (.int c1), .val (.ref ob1), .val (.long nn), .second, .val (.int off), .val (.ref ob42), .unset, .unset, .unset, .unset, .unset, .unset] [(.ref ob1), (.long nn), (.int (off + (1 : Int32))), (.ref ob42)]))
  refine own_of (fun _ hh_ => XS.iconst X70.here hx rfl (hb hby at_260) hh_) ?_
  show own_Run p e below s _ _ _ (T70.setTop (mkF m 261 #[.val (.long x1), .second, .val (.long jk), .second, .val (.int a1), .val (.int b1), .val (.int c1), .val (.ref ob1), .val (.long nn), .second, .val (.int off), .val (.ref ob42), .unset, .unset, .unset, .unset, .unset, .unset] [(.int (1 : Int32)), (.ref ob1), (.long nn), (.int (off + (1 : Int32))), (.ref ob42)]))
  obtain ⟨_, _, ⟨T73, L73, k73, n73⟩, -, X73, ⟨Lc73, hQ73, l73, y73, z73⟩, st73⟩ := Jvm.LawKit.callS X70 hx (y := (⟨"com/example/lanchid/lanchid/records/WholeNumberValuePinLaw", "digit", "(J[JI)B"⟩ : MethodName)) hown (mvT hZ (hw _ (List.mem_of_getElem? (i := 21) rfl))) (mvT hZ (hw _ (List.mem_of_getElem? (i := 22) rfl))) (mvT hZ (hw _ (List.mem_of_getElem? (i := 23) rfl))) (mvT hZ (hw _ (List.mem_of_getElem? (i := 24) rfl))) (by decide) (backOf (W := 2) (rmD l Z a0 hw [] nn ob1 (1 : Int32) 1 h70 n0 Zz72 f71 rnn.1 rfl (by decide)) hZ (hw _ (List.mem_of_getElem? (i := 24) rfl)) (hw _ (List.mem_of_getElem? (i := 23) rfl)) (by decide) (by decide)) (g := (mkF m 261 #[.val (.long x1), .second, .val (.long jk), .second, .val (.int a1), .val (.int b1), .val (.int c1), .val (.ref ob1), .val (.long nn), .second, .val (.int off), .val (.ref ob42), .unset, .unset, .unset, .unset, .unset, .unset] [(.int (1 : Int32)), (.ref ob1), (.long nn), (.int (off + (1 : Int32))), (.ref ob42)])) rfl (by rw [hml]; rfl) (argsL := [(.long nn), (.ref ob1), (.int (1 : Int32))]) (rest := [(.int (off + (1 : Int32))), (.ref ob42)]) (lenOf own_pd0 rfl) rfl (by show 2 * 0 + _ ≤ _; exact Nat.le_of_eq rfl) (hb hby at_261) (fun _ _ => ⟨rfl, e70, (by decide : 2 + 0 ≤ _), (by decide : 41 + 0 ≤ _)⟩)
  dsimp only [Pt.U, Pt.locs, Pt.cells, Pt.slots] at X73 l73 y73 z73 st73 hQ73
  subst l73 y73 z73
  obtain ⟨zz73, rfl, F73, N73q, e73⟩ := hQ73
  have N73 := Fr.app N70 N73q
  obtain ⟨lc73, X73, N73⟩ := own_abs X73 N73
  refine own_of st73 ?_
  show own_Run p e below s _ _ _ (T73.setTop (mkF m 264 #[.val (.long x1), .second, .val (.long jk), .second, .val (.int a1), .val (.int b1), .val (.int c1), .val (.ref ob1), .val (.long nn), .second, .val (.int off), .val (.ref ob42), .unset, .unset, .unset, .unset, .unset, .unset] [(.int zz73), (.int (off + (1 : Int32))), (.ref ob42)]))
  obtain ⟨T74, h74, X74, e74, W74, V74, st74⟩ := own_bas X73 hx hZ e73 Vd1 (j := (off + (1 : Int32))) (x := zz73) (own_pos (own_ix off roff (1 : Int32) 1 rfl (by decide)).1) (own_nat (own_ix off roff (1 : Int32) 1 rfl (by decide)).1 (own_ix off roff (1 : Int32) 1 rfl (by decide)).2.1) (pc := 264) (Ls := #[.val (.long x1), .second, .val (.long jk), .second, .val (.int a1), .val (.int b1), .val (.int c1), .val (.ref ob1), .val (.long nn), .second, .val (.int off), .val (.ref ob42), .unset, .unset, .unset, .unset, .unset, .unset]) (rest := []) (hb hby at_264)
  have N74 := Fr.snoc X74 N73 g_ob42
  obtain ⟨lc74, X74, N74⟩ := own_abs X74 N74
  have f75 := f71.other W74 ne_ob1_ob42
  have Zz76 := Nat.le_trans Zz72 (Nat.le_of_eq W74.size.symm)
  refine own_of st74 ?_
  show own_Run p e below s _ _ _ (T74.setTop (mkF m 265 #[.val (.long x1), .second, .val (.long jk), .second, .val (.int a1), .val (.int b1), .val (.int c1), .val (.ref ob1), .val (.long nn), .second, .val (.int off), .val (.ref ob42), .unset, .unset, .unset, .unset, .unset, .unset] []))
  obtain ⟨fd2, hfd2⟩ : ∃ z, z = (own_up fd1 ((off + (1 : Int32))).toNatClampNeg zz73.toInt8.toInt32) := ⟨_, rfl⟩
  have Vd2 : own_Ar Z h74 ob42 .byte 22 fd2 := by rw [hfd2]; exact V74
  have D2 : own_dig fd2 nn.toInt.toNat off.toNatClampNeg 2 := by rw [hfd2]; exact own_dstep D1 F73 (own_ix off roff (1 : Int32) 1 rfl (by decide)).2.2.1
  refine own_of (fun _ hh_ => XS.aload X74.here hx rfl (hb hby at_265) rfl rfl hh_) ?_
  show own_Run p e below s _ _ _ (T74.setTop (mkF m 267 #[.val (.long x1), .second, .val (.long jk), .second, .val (.int a1), .val (.int b1), .val (.int c1), .val (.ref ob1), .val (.long nn), .second, .val (.int off), .val (.ref ob42), .unset, .unset, .unset, .unset, .unset, .unset] [(.ref ob42)]))
  refine own_of (fun _ hh_ => XS.iload X74.here hx rfl (hb hby at_267) rfl hh_) ?_
  show own_Run p e below s _ _ _ (T74.setTop (mkF m 269 #[.val (.long x1), .second, .val (.long jk), .second, .val (.int a1), .val (.int b1), .val (.int c1), .val (.ref ob1), .val (.long nn), .second, .val (.int off), .val (.ref ob42), .unset, .unset, .unset, .unset, .unset, .unset] [(.int off), (.ref ob42)]))
  refine own_of (fun _ hh_ => XS.iconst X74.here hx rfl (hb hby at_269) hh_) ?_
  show own_Run p e below s _ _ _ (T74.setTop (mkF m 270 #[.val (.long x1), .second, .val (.long jk), .second, .val (.int a1), .val (.int b1), .val (.int c1), .val (.ref ob1), .val (.long nn), .second, .val (.int off), .val (.ref ob42), .unset, .unset, .unset, .unset, .unset, .unset] [(.int (2 : Int32)), (.int off), (.ref ob42)]))
  refine own_of (fun _ hh_ => XS.iadd X74.here hx rfl (hb hby at_270) rfl hh_) ?_
  show own_Run p e below s _ _ _ (T74.setTop (mkF m 271 #[.val (.long x1), .second, .val (.long jk), .second, .val (.int a1), .val (.int b1), .val (.int c1), .val (.ref ob1), .val (.long nn), .second, .val (.int off), .val (.ref ob42), .unset, .unset, .unset, .unset, .unset, .unset] [(.int (off + (2 : Int32))), (.ref ob42)]))
  refine own_of (fun _ hh_ => XS.lload X74.here hx rfl (hb hby at_271) rfl hh_) ?_
  show own_Run p e below s _ _ _ (T74.setTop (mkF m 273 #[.val (.long x1), .second, .val (.long jk), .second, .val (.int a1), .val (.int b1), .val (.int c1), .val (.ref ob1), .val (.long nn), .second, .val (.int off), .val (.ref ob42), .unset, .unset, .unset, .unset, .unset, .unset] [(.long nn), (.int (off + (2 : Int32))), (.ref ob42)]))
  refine own_of (fun _ hh_ => XS.aload X74.here hx rfl (hb hby at_273) rfl rfl hh_) ?_
  show own_Run p e below s _ _ _ (T74.setTop (mkF m 275 #[.val (.long x1), .second, .val (.long jk), .second, .val (.int a1), .val (.int b1), .val (.int c1), .val (.ref ob1), .val (.long nn), .second, .val (.int off), .val (.ref ob42), .unset, .unset, .unset, .unset, .unset, .unset] [(.ref ob1), (.long nn), (.int (off + (2 : Int32))), (.ref ob42)]))
  refine own_of (fun _ hh_ => XS.iconst X74.here hx rfl (hb hby at_275) hh_) ?_
  show own_Run p e below s _ _ _ (T74.setTop (mkF m 276 #[.val (.long x1), .second, .val (.long jk), .second, .val (.int a1), .val (.int b1), .val (.int c1), .val (.ref ob1), .val (.long nn), .second, .val (.int off), .val (.ref ob42), .unset, .unset, .unset, .unset, .unset, .unset] [(.int (2 : Int32)), (.ref ob1), (.long nn), (.int (off + (2 : Int32))), (.ref ob42)]))
  obtain ⟨_, _, ⟨T77, L77, k77, n77⟩, -, X77, ⟨Lc77, hQ77, l77, y77, z77⟩, st77⟩ := Jvm.LawKit.callS X74 hx (y := (⟨"com/example/lanchid/lanchid/records/WholeNumberValuePinLaw", "digit", "(J[JI)B"⟩ : MethodName)) hown (mvT hZ (hw _ (List.mem_of_getElem? (i := 21) rfl))) (mvT hZ (hw _ (List.mem_of_getElem? (i := 22) rfl))) (mvT hZ (hw _ (List.mem_of_getElem? (i := 23) rfl))) (mvT hZ (hw _ (List.mem_of_getElem? (i := 24) rfl))) (by decide) (backOf (W := 2) (rmD l Z a0 hw [] nn ob1 (2 : Int32) 2 h74 n0 Zz76 f75 rnn.1 rfl (by decide)) hZ (hw _ (List.mem_of_getElem? (i := 24) rfl)) (hw _ (List.mem_of_getElem? (i := 23) rfl)) (by decide) (by decide)) (g := (mkF m 276 #[.val (.long x1), .second, .val (.long jk), .second, .val (.int a1), .val (.int b1), .val (.int c1), .val (.ref ob1), .val (.long nn), .second, .val (.int off), .val (.ref ob42), .unset, .unset, .unset, .unset, .unset, .unset] [(.int (2 : Int32)), (.ref ob1), (.long nn), (.int (off + (2 : Int32))), (.ref ob42)])) rfl (by rw [hml]; rfl) (argsL := [(.long nn), (.ref ob1), (.int (2 : Int32))]) (rest := [(.int (off + (2 : Int32))), (.ref ob42)]) (lenOf own_pd0 rfl) rfl (by show 2 * 0 + _ ≤ _; exact Nat.le_of_eq rfl) (hb hby at_276) (fun _ _ => ⟨rfl, e74, (by decide : 2 + 0 ≤ _), (by decide : 41 + 0 ≤ _)⟩)
  dsimp only [Pt.U, Pt.locs, Pt.cells, Pt.slots] at X77 l77 y77 z77 st77 hQ77
  subst l77 y77 z77
  obtain ⟨zz77, rfl, F77, N77q, e77⟩ := hQ77
  have N77 := Fr.app N74 N77q
  obtain ⟨lc77, X77, N77⟩ := own_abs X77 N77
  refine own_of st77 ?_
  show own_Run p e below s _ _ _ (T77.setTop (mkF m 279 #[.val (.long x1), .second, .val (.long jk), .second, .val (.int a1), .val (.int b1), .val (.int c1), .val (.ref ob1), .val (.long nn), .second, .val (.int off), .val (.ref ob42), .unset, .unset, .unset, .unset, .unset, .unset] [(.int zz77), (.int (off + (2 : Int32))), (.ref ob42)]))
  obtain ⟨T78, h78, X78, e78, W78, V78, st78⟩ := own_bas X77 hx hZ e77 Vd2 (j := (off + (2 : Int32))) (x := zz77) (own_pos (own_ix off roff (2 : Int32) 2 rfl (by decide)).1) (own_nat (own_ix off roff (2 : Int32) 2 rfl (by decide)).1 (own_ix off roff (2 : Int32) 2 rfl (by decide)).2.1) (pc := 279) (Ls := #[.val (.long x1), .second, .val (.long jk), .second, .val (.int a1), .val (.int b1), .val (.int c1), .val (.ref ob1), .val (.long nn), .second, .val (.int off), .val (.ref ob42), .unset, .unset, .unset, .unset, .unset, .unset]) (rest := []) (hb hby at_279)
  have N78 := Fr.snoc X78 N77 g_ob42
  obtain ⟨lc78, X78, N78⟩ := own_abs X78 N78
  have f79 := f75.other W78 ne_ob1_ob42
  have Zz80 := Nat.le_trans Zz76 (Nat.le_of_eq W78.size.symm)
  refine own_of st78 ?_
  show own_Run p e below s _ _ _ (T78.setTop (mkF m 280 #[.val (.long x1), .second, .val (.long jk), .second, .val (.int a1), .val (.int b1), .val (.int c1), .val (.ref ob1), .val (.long nn), .second, .val (.int off), .val (.ref ob42), .unset, .unset, .unset, .unset, .unset, .unset] []))
  obtain ⟨fd3, hfd3⟩ : ∃ z, z = (own_up fd2 ((off + (2 : Int32))).toNatClampNeg zz77.toInt8.toInt32) := ⟨_, rfl⟩
  have Vd3 : own_Ar Z h78 ob42 .byte 22 fd3 := by rw [hfd3]; exact V78
  have D3 : own_dig fd3 nn.toInt.toNat off.toNatClampNeg 3 := by rw [hfd3]; exact own_dstep D2 F77 (own_ix off roff (2 : Int32) 2 rfl (by decide)).2.2.1
  refine own_of (fun _ hh_ => XS.aload X78.here hx rfl (hb hby at_280) rfl rfl hh_) ?_
  show own_Run p e below s _ _ _ (T78.setTop (mkF m 282 #[.val (.long x1), .second, .val (.long jk), .second, .val (.int a1), .val (.int b1), .val (.int c1), .val (.ref ob1), .val (.long nn), .second, .val (.int off), .val (.ref ob42), .unset, .unset, .unset, .unset, .unset, .unset] [(.ref ob42)]))
  refine own_of (fun _ hh_ => XS.iload X78.here hx rfl (hb hby at_282) rfl hh_) ?_
  show own_Run p e below s _ _ _ (T78.setTop (mkF m 284 #[.val (.long x1), .second, .val (.long jk), .second, .val (.int a1), .val (.int b1), .val (.int c1), .val (.ref ob1), .val (.long nn), .second, .val (.int off), .val (.ref ob42), .unset, .unset, .unset, .unset, .unset, .unset] [(.int off), (.ref ob42)]))
  refine own_of (fun _ hh_ => XS.iconst X78.here hx rfl (hb hby at_284) hh_) ?_
  show own_Run p e below s _ _ _ (T78.setTop (mkF m 285 #[.val (.long x1), .second, .val (.long jk), .second, .val (.int a1), .val (.int b1), .val (.int c1), .val (.ref ob1), .val (.long nn), .second, .val (.int off), .val (.ref ob42), .unset, .unset, .unset, .unset, .unset, .unset] [(.int (3 : Int32)), (.int off), (.ref ob42)]))
  refine own_of (fun _ hh_ => XS.iadd X78.here hx rfl (hb hby at_285) rfl hh_) ?_
  show own_Run p e below s _ _ _ (T78.setTop (mkF m 286 #[.val (.long x1), .second, .val (.long jk), .second, .val (.int a1), .val (.int b1), .val (.int c1), .val (.ref ob1), .val (.long nn), .second, .val (.int off), .val (.ref ob42), .unset, .unset, .unset, .unset, .unset, .unset] [(.int (off + (3 : Int32))), (.ref ob42)]))
  refine own_of (fun _ hh_ => XS.lload X78.here hx rfl (hb hby at_286) rfl hh_) ?_
  show own_Run p e below s _ _ _ (T78.setTop (mkF m 288 #[.val (.long x1), .second, .val (.long jk), .second, .val (.int a1), .val (.int b1), .val (.int c1), .val (.ref ob1), .val (.long nn), .second, .val (.int off), .val (.ref ob42), .unset, .unset, .unset, .unset, .unset, .unset] [(.long nn), (.int (off + (3 : Int32))), (.ref ob42)]))
  refine own_of (fun _ hh_ => XS.aload X78.here hx rfl (hb hby at_288) rfl rfl hh_) ?_
  show own_Run p e below s _ _ _ (T78.setTop (mkF m 290 #[.val (.long x1), .second, .val (.long jk), .second, .val (.int a1), .val (.int b1), .val (.int c1), .val (.ref ob1), .val (.long nn), .second, .val (.int off), .val (.ref ob42), .unset, .unset, .unset, .unset, .unset, .unset] [(.ref ob1), (.long nn), (.int (off + (3 : Int32))), (.ref ob42)]))
  refine own_of (fun _ hh_ => XS.iconst X78.here hx rfl (hb hby at_290) hh_) ?_
  show own_Run p e below s _ _ _ (T78.setTop (mkF m 291 #[.val (.long x1), .second, .val (.long jk), .second, .val (.int a1), .val (.int b1), .val (.int c1), .val (.ref ob1), .val (.long nn), .second, .val (.int off), .val (.ref ob42), .unset, .unset, .unset, .unset, .unset, .unset] [(.int (3 : Int32)), (.ref ob1), (.long nn), (.int (off + (3 : Int32))), (.ref ob42)]))
  obtain ⟨_, _, ⟨T81, L81, k81, n81⟩, -, X81, ⟨Lc81, hQ81, l81, y81, z81⟩, st81⟩ := Jvm.LawKit.callS X78 hx (y := (⟨"com/example/lanchid/lanchid/records/WholeNumberValuePinLaw", "digit", "(J[JI)B"⟩ : MethodName)) hown (mvT hZ (hw _ (List.mem_of_getElem? (i := 21) rfl))) (mvT hZ (hw _ (List.mem_of_getElem? (i := 22) rfl))) (mvT hZ (hw _ (List.mem_of_getElem? (i := 23) rfl))) (mvT hZ (hw _ (List.mem_of_getElem? (i := 24) rfl))) (by decide) (backOf (W := 2) (rmD l Z a0 hw [] nn ob1 (3 : Int32) 3 h78 n0 Zz80 f79 rnn.1 rfl (by decide)) hZ (hw _ (List.mem_of_getElem? (i := 24) rfl)) (hw _ (List.mem_of_getElem? (i := 23) rfl)) (by decide) (by decide)) (g := (mkF m 291 #[.val (.long x1), .second, .val (.long jk), .second, .val (.int a1), .val (.int b1), .val (.int c1), .val (.ref ob1), .val (.long nn), .second, .val (.int off), .val (.ref ob42), .unset, .unset, .unset, .unset, .unset, .unset] [(.int (3 : Int32)), (.ref ob1), (.long nn), (.int (off + (3 : Int32))), (.ref ob42)])) rfl (by rw [hml]; rfl) (argsL := [(.long nn), (.ref ob1), (.int (3 : Int32))]) (rest := [(.int (off + (3 : Int32))), (.ref ob42)]) (lenOf own_pd0 rfl) rfl (by show 2 * 0 + _ ≤ _; exact Nat.le_of_eq rfl) (hb hby at_291) (fun _ _ => ⟨rfl, e78, (by decide : 2 + 0 ≤ _), (by decide : 41 + 0 ≤ _)⟩)
  dsimp only [Pt.U, Pt.locs, Pt.cells, Pt.slots] at X81 l81 y81 z81 st81 hQ81
  subst l81 y81 z81
  obtain ⟨zz81, rfl, F81, N81q, e81⟩ := hQ81
  have N81 := Fr.app N78 N81q
  obtain ⟨lc81, X81, N81⟩ := own_abs X81 N81
  refine own_of st81 ?_
  show own_Run p e below s _ _ _ (T81.setTop (mkF m 294 #[.val (.long x1), .second, .val (.long jk), .second, .val (.int a1), .val (.int b1), .val (.int c1), .val (.ref ob1), .val (.long nn), .second, .val (.int off), .val (.ref ob42), .unset, .unset, .unset, .unset, .unset, .unset] [(.int zz81), (.int (off + (3 : Int32))), (.ref ob42)]))
  obtain ⟨T82, h82, X82, e82, W82, V82, st82⟩ := own_bas X81 hx hZ e81 Vd3 (j := (off + (3 : Int32))) (x := zz81) (own_pos (own_ix off roff (3 : Int32) 3 rfl (by decide)).1) (own_nat (own_ix off roff (3 : Int32) 3 rfl (by decide)).1 (own_ix off roff (3 : Int32) 3 rfl (by decide)).2.1) (pc := 294) (Ls := #[.val (.long x1), .second, .val (.long jk), .second, .val (.int a1), .val (.int b1), .val (.int c1), .val (.ref ob1), .val (.long nn), .second, .val (.int off), .val (.ref ob42), .unset, .unset, .unset, .unset, .unset, .unset]) (rest := []) (hb hby at_294)
  have N82 := Fr.snoc X82 N81 g_ob42
  obtain ⟨lc82, X82, N82⟩ := own_abs X82 N82
  have f83 := f79.other W82 ne_ob1_ob42
  have Zz84 := Nat.le_trans Zz80 (Nat.le_of_eq W82.size.symm)
  refine own_of st82 ?_
  show own_Run p e below s _ _ _ (T82.setTop (mkF m 295 #[.val (.long x1), .second, .val (.long jk), .second, .val (.int a1), .val (.int b1), .val (.int c1), .val (.ref ob1), .val (.long nn), .second, .val (.int off), .val (.ref ob42), .unset, .unset, .unset, .unset, .unset, .unset] []))
  obtain ⟨fd4, hfd4⟩ : ∃ z, z = (own_up fd3 ((off + (3 : Int32))).toNatClampNeg zz81.toInt8.toInt32) := ⟨_, rfl⟩
  have Vd4 : own_Ar Z h82 ob42 .byte 22 fd4 := by rw [hfd4]; exact V82
  have D4 : own_dig fd4 nn.toInt.toNat off.toNatClampNeg 4 := by rw [hfd4]; exact own_dstep D3 F81 (own_ix off roff (3 : Int32) 3 rfl (by decide)).2.2.1
  refine own_of (fun _ hh_ => XS.aload X82.here hx rfl (hb hby at_295) rfl rfl hh_) ?_
  show own_Run p e below s _ _ _ (T82.setTop (mkF m 297 #[.val (.long x1), .second, .val (.long jk), .second, .val (.int a1), .val (.int b1), .val (.int c1), .val (.ref ob1), .val (.long nn), .second, .val (.int off), .val (.ref ob42), .unset, .unset, .unset, .unset, .unset, .unset] [(.ref ob42)]))
  refine own_of (fun _ hh_ => XS.iload X82.here hx rfl (hb hby at_297) rfl hh_) ?_
  show own_Run p e below s _ _ _ (T82.setTop (mkF m 299 #[.val (.long x1), .second, .val (.long jk), .second, .val (.int a1), .val (.int b1), .val (.int c1), .val (.ref ob1), .val (.long nn), .second, .val (.int off), .val (.ref ob42), .unset, .unset, .unset, .unset, .unset, .unset] [(.int off), (.ref ob42)]))
  refine own_of (fun _ hh_ => XS.iconst X82.here hx rfl (hb hby at_299) hh_) ?_
  show own_Run p e below s _ _ _ (T82.setTop (mkF m 300 #[.val (.long x1), .second, .val (.long jk), .second, .val (.int a1), .val (.int b1), .val (.int c1), .val (.ref ob1), .val (.long nn), .second, .val (.int off), .val (.ref ob42), .unset, .unset, .unset, .unset, .unset, .unset] [(.int (4 : Int32)), (.int off), (.ref ob42)]))
  refine own_of (fun _ hh_ => XS.iadd X82.here hx rfl (hb hby at_300) rfl hh_) ?_
  show own_Run p e below s _ _ _ (T82.setTop (mkF m 301 #[.val (.long x1), .second, .val (.long jk), .second, .val (.int a1), .val (.int b1), .val (.int c1), .val (.ref ob1), .val (.long nn), .second, .val (.int off), .val (.ref ob42), .unset, .unset, .unset, .unset, .unset, .unset] [(.int (off + (4 : Int32))), (.ref ob42)]))
  refine own_of (fun _ hh_ => XS.lload X82.here hx rfl (hb hby at_301) rfl hh_) ?_
  show own_Run p e below s _ _ _ (T82.setTop (mkF m 303 #[.val (.long x1), .second, .val (.long jk), .second, .val (.int a1), .val (.int b1), .val (.int c1), .val (.ref ob1), .val (.long nn), .second, .val (.int off), .val (.ref ob42), .unset, .unset, .unset, .unset, .unset, .unset] [(.long nn), (.int (off + (4 : Int32))), (.ref ob42)]))
  refine own_of (fun _ hh_ => XS.aload X82.here hx rfl (hb hby at_303) rfl rfl hh_) ?_
  show own_Run p e below s _ _ _ (T82.setTop (mkF m 305 #[.val (.long x1), .second, .val (.long jk), .second, .val (.int a1), .val (.int b1), .val (.int c1), .val (.ref ob1), .val (.long nn), .second, .val (.int off), .val (.ref ob42), .unset, .unset, .unset, .unset, .unset, .unset] [(.ref ob1), (.long nn), (.int (off + (4 : Int32))), (.ref ob42)]))
  refine own_of (fun _ hh_ => XS.iconst X82.here hx rfl (hb hby at_305) hh_) ?_
  show own_Run p e below s _ _ _ (T82.setTop (mkF m 306 #[.val (.long x1), .second, .val (.long jk), .second, .val (.int a1), .val (.int b1), .val (.int c1), .val (.ref ob1), .val (.long nn), .second, .val (.int off), .val (.ref ob42), .unset, .unset, .unset, .unset, .unset, .unset] [(.int (4 : Int32)), (.ref ob1), (.long nn), (.int (off + (4 : Int32))), (.ref ob42)]))
  obtain ⟨_, _, ⟨T85, L85, k85, n85⟩, -, X85, ⟨Lc85, hQ85, l85, y85, z85⟩, st85⟩ := Jvm.LawKit.callS X82 hx (y := (⟨"com/example/lanchid/lanchid/records/WholeNumberValuePinLaw", "digit", "(J[JI)B"⟩ : MethodName)) hown (mvT hZ (hw _ (List.mem_of_getElem? (i := 21) rfl))) (mvT hZ (hw _ (List.mem_of_getElem? (i := 22) rfl))) (mvT hZ (hw _ (List.mem_of_getElem? (i := 23) rfl))) (mvT hZ (hw _ (List.mem_of_getElem? (i := 24) rfl))) (by decide) (backOf (W := 2) (rmD l Z a0 hw [] nn ob1 (4 : Int32) 4 h82 n0 Zz84 f83 rnn.1 rfl (by decide)) hZ (hw _ (List.mem_of_getElem? (i := 24) rfl)) (hw _ (List.mem_of_getElem? (i := 23) rfl)) (by decide) (by decide)) (g := (mkF m 306 #[.val (.long x1), .second, .val (.long jk), .second, .val (.int a1), .val (.int b1), .val (.int c1), .val (.ref ob1), .val (.long nn), .second, .val (.int off), .val (.ref ob42), .unset, .unset, .unset, .unset, .unset, .unset] [(.int (4 : Int32)), (.ref ob1), (.long nn), (.int (off + (4 : Int32))), (.ref ob42)])) rfl (by rw [hml]; rfl) (argsL := [(.long nn), (.ref ob1), (.int (4 : Int32))]) (rest := [(.int (off + (4 : Int32))), (.ref ob42)]) (lenOf own_pd0 rfl) rfl (by show 2 * 0 + _ ≤ _; exact Nat.le_of_eq rfl) (hb hby at_306) (fun _ _ => ⟨rfl, e82, (by decide : 2 + 0 ≤ _), (by decide : 41 + 0 ≤ _)⟩)
  dsimp only [Pt.U, Pt.locs, Pt.cells, Pt.slots] at X85 l85 y85 z85 st85 hQ85
  subst l85 y85 z85
  obtain ⟨zz85, rfl, F85, N85q, e85⟩ := hQ85
  have N85 := Fr.app N82 N85q
  obtain ⟨lc85, X85, N85⟩ := own_abs X85 N85
  refine own_of st85 ?_
  show own_Run p e below s _ _ _ (T85.setTop (mkF m 309 #[.val (.long x1), .second, .val (.long jk), .second, .val (.int a1), .val (.int b1), .val (.int c1), .val (.ref ob1), .val (.long nn), .second, .val (.int off), .val (.ref ob42), .unset, .unset, .unset, .unset, .unset, .unset] [(.int zz85), (.int (off + (4 : Int32))), (.ref ob42)]))
  obtain ⟨T86, h86, X86, e86, W86, V86, st86⟩ := own_bas X85 hx hZ e85 Vd4 (j := (off + (4 : Int32))) (x := zz85) (own_pos (own_ix off roff (4 : Int32) 4 rfl (by decide)).1) (own_nat (own_ix off roff (4 : Int32) 4 rfl (by decide)).1 (own_ix off roff (4 : Int32) 4 rfl (by decide)).2.1) (pc := 309) (Ls := #[.val (.long x1), .second, .val (.long jk), .second, .val (.int a1), .val (.int b1), .val (.int c1), .val (.ref ob1), .val (.long nn), .second, .val (.int off), .val (.ref ob42), .unset, .unset, .unset, .unset, .unset, .unset]) (rest := []) (hb hby at_309)
  have N86 := Fr.snoc X86 N85 g_ob42
  obtain ⟨lc86, X86, N86⟩ := own_abs X86 N86
  have f87 := f83.other W86 ne_ob1_ob42
  have Zz88 := Nat.le_trans Zz84 (Nat.le_of_eq W86.size.symm)
  refine own_of st86 ?_
  show own_Run p e below s _ _ _ (T86.setTop (mkF m 310 #[.val (.long x1), .second, .val (.long jk), .second, .val (.int a1), .val (.int b1), .val (.int c1), .val (.ref ob1), .val (.long nn), .second, .val (.int off), .val (.ref ob42), .unset, .unset, .unset, .unset, .unset, .unset] []))
  obtain ⟨fd5, hfd5⟩ : ∃ z, z = (own_up fd4 ((off + (4 : Int32))).toNatClampNeg zz85.toInt8.toInt32) := ⟨_, rfl⟩
  have Vd5 : own_Ar Z h86 ob42 .byte 22 fd5 := by rw [hfd5]; exact V86
  have D5 : own_dig fd5 nn.toInt.toNat off.toNatClampNeg 5 := by rw [hfd5]; exact own_dstep D4 F85 (own_ix off roff (4 : Int32) 4 rfl (by decide)).2.2.1
  refine own_of (fun _ hh_ => XS.aload X86.here hx rfl (hb hby at_310) rfl rfl hh_) ?_
  show own_Run p e below s _ _ _ (T86.setTop (mkF m 312 #[.val (.long x1), .second, .val (.long jk), .second, .val (.int a1), .val (.int b1), .val (.int c1), .val (.ref ob1), .val (.long nn), .second, .val (.int off), .val (.ref ob42), .unset, .unset, .unset, .unset, .unset, .unset] [(.ref ob42)]))
  refine own_of (fun _ hh_ => XS.iload X86.here hx rfl (hb hby at_312) rfl hh_) ?_
  show own_Run p e below s _ _ _ (T86.setTop (mkF m 314 #[.val (.long x1), .second, .val (.long jk), .second, .val (.int a1), .val (.int b1), .val (.int c1), .val (.ref ob1), .val (.long nn), .second, .val (.int off), .val (.ref ob42), .unset, .unset, .unset, .unset, .unset, .unset] [(.int off), (.ref ob42)]))
  refine own_of (fun _ hh_ => XS.iconst X86.here hx rfl (hb hby at_314) hh_) ?_
  show own_Run p e below s _ _ _ (T86.setTop (mkF m 315 #[.val (.long x1), .second, .val (.long jk), .second, .val (.int a1), .val (.int b1), .val (.int c1), .val (.ref ob1), .val (.long nn), .second, .val (.int off), .val (.ref ob42), .unset, .unset, .unset, .unset, .unset, .unset] [(.int (5 : Int32)), (.int off), (.ref ob42)]))
  refine own_of (fun _ hh_ => XS.iadd X86.here hx rfl (hb hby at_315) rfl hh_) ?_
  show own_Run p e below s _ _ _ (T86.setTop (mkF m 316 #[.val (.long x1), .second, .val (.long jk), .second, .val (.int a1), .val (.int b1), .val (.int c1), .val (.ref ob1), .val (.long nn), .second, .val (.int off), .val (.ref ob42), .unset, .unset, .unset, .unset, .unset, .unset] [(.int (off + (5 : Int32))), (.ref ob42)]))
  refine own_of (fun _ hh_ => XS.lload X86.here hx rfl (hb hby at_316) rfl hh_) ?_
  show own_Run p e below s _ _ _ (T86.setTop (mkF m 318 #[.val (.long x1), .second, .val (.long jk), .second, .val (.int a1), .val (.int b1), .val (.int c1), .val (.ref ob1), .val (.long nn), .second, .val (.int off), .val (.ref ob42), .unset, .unset, .unset, .unset, .unset, .unset] [(.long nn), (.int (off + (5 : Int32))), (.ref ob42)]))
  refine own_of (fun _ hh_ => XS.aload X86.here hx rfl (hb hby at_318) rfl rfl hh_) ?_
  show own_Run p e below s _ _ _ (T86.setTop (mkF m 320 #[.val (.long x1), .second, .val (.long jk), .second, .val (.int a1), .val (.int b1), .val (.int c1), .val (.ref ob1), .val (.long nn), .second, .val (.int off), .val (.ref ob42), .unset, .unset, .unset, .unset, .unset, .unset] [(.ref ob1), (.long nn), (.int (off + (5 : Int32))), (.ref ob42)]))
  refine own_of (fun _ hh_ => XS.iconst X86.here hx rfl (hb hby at_320) hh_) ?_
  show own_Run p e below s _ _ _ (T86.setTop (mkF m 321 #[.val (.long x1), .second, .val (.long jk), .second, .val (.int a1), .val (.int b1), .val (.int c1), .val (.ref ob1), .val (.long nn), .second, .val (.int off), .val (.ref ob42), .unset, .unset, .unset, .unset, .unset, .unset] [(.int (5 : Int32)), (.ref ob1), (.long nn), (.int (off + (5 : Int32))), (.ref ob42)]))
  obtain ⟨_, _, ⟨T89, L89, k89, n89⟩, -, X89, ⟨Lc89, hQ89, l89, y89, z89⟩, st89⟩ := Jvm.LawKit.callS X86 hx (y := (⟨"com/example/lanchid/lanchid/records/WholeNumberValuePinLaw", "digit", "(J[JI)B"⟩ : MethodName)) hown (mvT hZ (hw _ (List.mem_of_getElem? (i := 21) rfl))) (mvT hZ (hw _ (List.mem_of_getElem? (i := 22) rfl))) (mvT hZ (hw _ (List.mem_of_getElem? (i := 23) rfl))) (mvT hZ (hw _ (List.mem_of_getElem? (i := 24) rfl))) (by decide) (backOf (W := 2) (rmD l Z a0 hw [] nn ob1 (5 : Int32) 5 h86 n0 Zz88 f87 rnn.1 rfl (by decide)) hZ (hw _ (List.mem_of_getElem? (i := 24) rfl)) (hw _ (List.mem_of_getElem? (i := 23) rfl)) (by decide) (by decide)) (g := (mkF m 321 #[.val (.long x1), .second, .val (.long jk), .second, .val (.int a1), .val (.int b1), .val (.int c1), .val (.ref ob1), .val (.long nn), .second, .val (.int off), .val (.ref ob42), .unset, .unset, .unset, .unset, .unset, .unset] [(.int (5 : Int32)), (.ref ob1), (.long nn), (.int (off + (5 : Int32))), (.ref ob42)])) rfl (by rw [hml]; rfl) (argsL := [(.long nn), (.ref ob1), (.int (5 : Int32))]) (rest := [(.int (off + (5 : Int32))), (.ref ob42)]) (lenOf own_pd0 rfl) rfl (by show 2 * 0 + _ ≤ _; exact Nat.le_of_eq rfl) (hb hby at_321) (fun _ _ => ⟨rfl, e86, (by decide : 2 + 0 ≤ _), (by decide : 41 + 0 ≤ _)⟩)
  dsimp only [Pt.U, Pt.locs, Pt.cells, Pt.slots] at X89 l89 y89 z89 st89 hQ89
  subst l89 y89 z89
  obtain ⟨zz89, rfl, F89, N89q, e89⟩ := hQ89
  have N89 := Fr.app N86 N89q
  obtain ⟨lc89, X89, N89⟩ := own_abs X89 N89
  refine own_of st89 ?_
  show own_Run p e below s _ _ _ (T89.setTop (mkF m 324 #[.val (.long x1), .second, .val (.long jk), .second, .val (.int a1), .val (.int b1), .val (.int c1), .val (.ref ob1), .val (.long nn), .second, .val (.int off), .val (.ref ob42), .unset, .unset, .unset, .unset, .unset, .unset] [(.int zz89), (.int (off + (5 : Int32))), (.ref ob42)]))
  obtain ⟨T90, h90, X90, e90, W90, V90, st90⟩ := own_bas X89 hx hZ e89 Vd5 (j := (off + (5 : Int32))) (x := zz89) (own_pos (own_ix off roff (5 : Int32) 5 rfl (by decide)).1) (own_nat (own_ix off roff (5 : Int32) 5 rfl (by decide)).1 (own_ix off roff (5 : Int32) 5 rfl (by decide)).2.1) (pc := 324) (Ls := #[.val (.long x1), .second, .val (.long jk), .second, .val (.int a1), .val (.int b1), .val (.int c1), .val (.ref ob1), .val (.long nn), .second, .val (.int off), .val (.ref ob42), .unset, .unset, .unset, .unset, .unset, .unset]) (rest := []) (hb hby at_324)
  have N90 := Fr.snoc X90 N89 g_ob42
  obtain ⟨lc90, X90, N90⟩ := own_abs X90 N90
  have f91 := f87.other W90 ne_ob1_ob42
  have Zz92 := Nat.le_trans Zz88 (Nat.le_of_eq W90.size.symm)
  refine own_of st90 ?_
  show own_Run p e below s _ _ _ (T90.setTop (mkF m 325 #[.val (.long x1), .second, .val (.long jk), .second, .val (.int a1), .val (.int b1), .val (.int c1), .val (.ref ob1), .val (.long nn), .second, .val (.int off), .val (.ref ob42), .unset, .unset, .unset, .unset, .unset, .unset] []))
  obtain ⟨fd6, hfd6⟩ : ∃ z, z = (own_up fd5 ((off + (5 : Int32))).toNatClampNeg zz89.toInt8.toInt32) := ⟨_, rfl⟩
  have Vd6 : own_Ar Z h90 ob42 .byte 22 fd6 := by rw [hfd6]; exact V90
  have D6 : own_dig fd6 nn.toInt.toNat off.toNatClampNeg 6 := by rw [hfd6]; exact own_dstep D5 F89 (own_ix off roff (5 : Int32) 5 rfl (by decide)).2.2.1
  refine own_of (fun _ hh_ => XS.aload X90.here hx rfl (hb hby at_325) rfl rfl hh_) ?_
  show own_Run p e below s _ _ _ (T90.setTop (mkF m 327 #[.val (.long x1), .second, .val (.long jk), .second, .val (.int a1), .val (.int b1), .val (.int c1), .val (.ref ob1), .val (.long nn), .second, .val (.int off), .val (.ref ob42), .unset, .unset, .unset, .unset, .unset, .unset] [(.ref ob42)]))
  refine own_of (fun _ hh_ => XS.iload X90.here hx rfl (hb hby at_327) rfl hh_) ?_
  show own_Run p e below s _ _ _ (T90.setTop (mkF m 329 #[.val (.long x1), .second, .val (.long jk), .second, .val (.int a1), .val (.int b1), .val (.int c1), .val (.ref ob1), .val (.long nn), .second, .val (.int off), .val (.ref ob42), .unset, .unset, .unset, .unset, .unset, .unset] [(.int off), (.ref ob42)]))
  refine own_of (fun _ hh_ => XS.bipush X90.here hx rfl (hb hby at_329) hh_) ?_
  show own_Run p e below s _ _ _ (T90.setTop (mkF m 331 #[.val (.long x1), .second, .val (.long jk), .second, .val (.int a1), .val (.int b1), .val (.int c1), .val (.ref ob1), .val (.long nn), .second, .val (.int off), .val (.ref ob42), .unset, .unset, .unset, .unset, .unset, .unset] [(.int (6 : Int32)), (.int off), (.ref ob42)]))
  refine own_of (fun _ hh_ => XS.iadd X90.here hx rfl (hb hby at_331) rfl hh_) ?_
  show own_Run p e below s _ _ _ (T90.setTop (mkF m 332 #[.val (.long x1), .second, .val (.long jk), .second, .val (.int a1), .val (.int b1), .val (.int c1), .val (.ref ob1), .val (.long nn), .second, .val (.int off), .val (.ref ob42), .unset, .unset, .unset, .unset, .unset, .unset] [(.int (off + (6 : Int32))), (.ref ob42)]))
  refine own_of (fun _ hh_ => XS.lload X90.here hx rfl (hb hby at_332) rfl hh_) ?_
  show own_Run p e below s _ _ _ (T90.setTop (mkF m 334 #[.val (.long x1), .second, .val (.long jk), .second, .val (.int a1), .val (.int b1), .val (.int c1), .val (.ref ob1), .val (.long nn), .second, .val (.int off), .val (.ref ob42), .unset, .unset, .unset, .unset, .unset, .unset] [(.long nn), (.int (off + (6 : Int32))), (.ref ob42)]))
  refine own_of (fun _ hh_ => XS.aload X90.here hx rfl (hb hby at_334) rfl rfl hh_) ?_
  show own_Run p e below s _ _ _ (T90.setTop (mkF m 336 #[.val (.long x1), .second, .val (.long jk), .second, .val (.int a1), .val (.int b1), .val (.int c1), .val (.ref ob1), .val (.long nn), .second, .val (.int off), .val (.ref ob42), .unset, .unset, .unset, .unset, .unset, .unset] [(.ref ob1), (.long nn), (.int (off + (6 : Int32))), (.ref ob42)]))
  refine own_of (fun _ hh_ => XS.bipush X90.here hx rfl (hb hby at_336) hh_) ?_
  show own_Run p e below s _ _ _ (T90.setTop (mkF m 338 #[.val (.long x1), .second, .val (.long jk), .second, .val (.int a1), .val (.int b1), .val (.int c1), .val (.ref ob1), .val (.long nn), .second, .val (.int off), .val (.ref ob42), .unset, .unset, .unset, .unset, .unset, .unset] [(.int (6 : Int32)), (.ref ob1), (.long nn), (.int (off + (6 : Int32))), (.ref ob42)]))
  obtain ⟨_, _, ⟨T93, L93, k93, n93⟩, -, X93, ⟨Lc93, hQ93, l93, y93, z93⟩, st93⟩ := Jvm.LawKit.callS X90 hx (y := (⟨"com/example/lanchid/lanchid/records/WholeNumberValuePinLaw", "digit", "(J[JI)B"⟩ : MethodName)) hown (mvT hZ (hw _ (List.mem_of_getElem? (i := 21) rfl))) (mvT hZ (hw _ (List.mem_of_getElem? (i := 22) rfl))) (mvT hZ (hw _ (List.mem_of_getElem? (i := 23) rfl))) (mvT hZ (hw _ (List.mem_of_getElem? (i := 24) rfl))) (by decide) (backOf (W := 2) (rmD l Z a0 hw [] nn ob1 (6 : Int32) 6 h90 n0 Zz92 f91 rnn.1 rfl (by decide)) hZ (hw _ (List.mem_of_getElem? (i := 24) rfl)) (hw _ (List.mem_of_getElem? (i := 23) rfl)) (by decide) (by decide)) (g := (mkF m 338 #[.val (.long x1), .second, .val (.long jk), .second, .val (.int a1), .val (.int b1), .val (.int c1), .val (.ref ob1), .val (.long nn), .second, .val (.int off), .val (.ref ob42), .unset, .unset, .unset, .unset, .unset, .unset] [(.int (6 : Int32)), (.ref ob1), (.long nn), (.int (off + (6 : Int32))), (.ref ob42)])) rfl (by rw [hml]; rfl) (argsL := [(.long nn), (.ref ob1), (.int (6 : Int32))]) (rest := [(.int (off + (6 : Int32))), (.ref ob42)]) (lenOf own_pd0 rfl) rfl (by show 2 * 0 + _ ≤ _; exact Nat.le_of_eq rfl) (hb hby at_338) (fun _ _ => ⟨rfl, e90, (by decide : 2 + 0 ≤ _), (by decide : 41 + 0 ≤ _)⟩)
  dsimp only [Pt.U, Pt.locs, Pt.cells, Pt.slots] at X93 l93 y93 z93 st93 hQ93
  subst l93 y93 z93
  obtain ⟨zz93, rfl, F93, N93q, e93⟩ := hQ93
  have N93 := Fr.app N90 N93q
  obtain ⟨lc93, X93, N93⟩ := own_abs X93 N93
  refine own_of st93 ?_
  show own_Run p e below s _ _ _ (T93.setTop (mkF m 341 #[.val (.long x1), .second, .val (.long jk), .second, .val (.int a1), .val (.int b1), .val (.int c1), .val (.ref ob1), .val (.long nn), .second, .val (.int off), .val (.ref ob42), .unset, .unset, .unset, .unset, .unset, .unset] [(.int zz93), (.int (off + (6 : Int32))), (.ref ob42)]))
  obtain ⟨T94, h94, X94, e94, W94, V94, st94⟩ := own_bas X93 hx hZ e93 Vd6 (j := (off + (6 : Int32))) (x := zz93) (own_pos (own_ix off roff (6 : Int32) 6 rfl (by decide)).1) (own_nat (own_ix off roff (6 : Int32) 6 rfl (by decide)).1 (own_ix off roff (6 : Int32) 6 rfl (by decide)).2.1) (pc := 341) (Ls := #[.val (.long x1), .second, .val (.long jk), .second, .val (.int a1), .val (.int b1), .val (.int c1), .val (.ref ob1), .val (.long nn), .second, .val (.int off), .val (.ref ob42), .unset, .unset, .unset, .unset, .unset, .unset]) (rest := []) (hb hby at_341)
  have N94 := Fr.snoc X94 N93 g_ob42
  obtain ⟨lc94, X94, N94⟩ := own_abs X94 N94
  have f95 := f91.other W94 ne_ob1_ob42
  have Zz96 := Nat.le_trans Zz92 (Nat.le_of_eq W94.size.symm)
  refine own_of st94 ?_
  show own_Run p e below s _ _ _ (T94.setTop (mkF m 342 #[.val (.long x1), .second, .val (.long jk), .second, .val (.int a1), .val (.int b1), .val (.int c1), .val (.ref ob1), .val (.long nn), .second, .val (.int off), .val (.ref ob42), .unset, .unset, .unset, .unset, .unset, .unset] []))
  obtain ⟨fd7, hfd7⟩ : ∃ z, z = (own_up fd6 ((off + (6 : Int32))).toNatClampNeg zz93.toInt8.toInt32) := ⟨_, rfl⟩
  have Vd7 : own_Ar Z h94 ob42 .byte 22 fd7 := by rw [hfd7]; exact V94
  have D7 : own_dig fd7 nn.toInt.toNat off.toNatClampNeg 7 := by rw [hfd7]; exact own_dstep D6 F93 (own_ix off roff (6 : Int32) 6 rfl (by decide)).2.2.1
  refine own_of (fun _ hh_ => XS.aload X94.here hx rfl (hb hby at_342) rfl rfl hh_) ?_
  show own_Run p e below s _ _ _ (T94.setTop (mkF m 344 #[.val (.long x1), .second, .val (.long jk), .second, .val (.int a1), .val (.int b1), .val (.int c1), .val (.ref ob1), .val (.long nn), .second, .val (.int off), .val (.ref ob42), .unset, .unset, .unset, .unset, .unset, .unset] [(.ref ob42)]))
  refine own_of (fun _ hh_ => XS.iload X94.here hx rfl (hb hby at_344) rfl hh_) ?_
  show own_Run p e below s _ _ _ (T94.setTop (mkF m 346 #[.val (.long x1), .second, .val (.long jk), .second, .val (.int a1), .val (.int b1), .val (.int c1), .val (.ref ob1), .val (.long nn), .second, .val (.int off), .val (.ref ob42), .unset, .unset, .unset, .unset, .unset, .unset] [(.int off), (.ref ob42)]))
  refine own_of (fun _ hh_ => XS.bipush X94.here hx rfl (hb hby at_346) hh_) ?_
  show own_Run p e below s _ _ _ (T94.setTop (mkF m 348 #[.val (.long x1), .second, .val (.long jk), .second, .val (.int a1), .val (.int b1), .val (.int c1), .val (.ref ob1), .val (.long nn), .second, .val (.int off), .val (.ref ob42), .unset, .unset, .unset, .unset, .unset, .unset] [(.int (7 : Int32)), (.int off), (.ref ob42)]))
  refine own_of (fun _ hh_ => XS.iadd X94.here hx rfl (hb hby at_348) rfl hh_) ?_
  show own_Run p e below s _ _ _ (T94.setTop (mkF m 349 #[.val (.long x1), .second, .val (.long jk), .second, .val (.int a1), .val (.int b1), .val (.int c1), .val (.ref ob1), .val (.long nn), .second, .val (.int off), .val (.ref ob42), .unset, .unset, .unset, .unset, .unset, .unset] [(.int (off + (7 : Int32))), (.ref ob42)]))
  refine own_of (fun _ hh_ => XS.lload X94.here hx rfl (hb hby at_349) rfl hh_) ?_
  show own_Run p e below s _ _ _ (T94.setTop (mkF m 351 #[.val (.long x1), .second, .val (.long jk), .second, .val (.int a1), .val (.int b1), .val (.int c1), .val (.ref ob1), .val (.long nn), .second, .val (.int off), .val (.ref ob42), .unset, .unset, .unset, .unset, .unset, .unset] [(.long nn), (.int (off + (7 : Int32))), (.ref ob42)]))
  refine own_of (fun _ hh_ => XS.aload X94.here hx rfl (hb hby at_351) rfl rfl hh_) ?_
  show own_Run p e below s _ _ _ (T94.setTop (mkF m 353 #[.val (.long x1), .second, .val (.long jk), .second, .val (.int a1), .val (.int b1), .val (.int c1), .val (.ref ob1), .val (.long nn), .second, .val (.int off), .val (.ref ob42), .unset, .unset, .unset, .unset, .unset, .unset] [(.ref ob1), (.long nn), (.int (off + (7 : Int32))), (.ref ob42)]))
  refine own_of (fun _ hh_ => XS.bipush X94.here hx rfl (hb hby at_353) hh_) ?_
  show own_Run p e below s _ _ _ (T94.setTop (mkF m 355 #[.val (.long x1), .second, .val (.long jk), .second, .val (.int a1), .val (.int b1), .val (.int c1), .val (.ref ob1), .val (.long nn), .second, .val (.int off), .val (.ref ob42), .unset, .unset, .unset, .unset, .unset, .unset] [(.int (7 : Int32)), (.ref ob1), (.long nn), (.int (off + (7 : Int32))), (.ref ob42)]))
  obtain ⟨_, _, ⟨T97, L97, k97, n97⟩, -, X97, ⟨Lc97, hQ97, l97, y97, z97⟩, st97⟩ := Jvm.LawKit.callS X94 hx (y := (⟨"com/example/lanchid/lanchid/records/WholeNumberValuePinLaw", "digit", "(J[JI)B"⟩ : MethodName)) hown (mvT hZ (hw _ (List.mem_of_getElem? (i := 21) rfl))) (mvT hZ (hw _ (List.mem_of_getElem? (i := 22) rfl))) (mvT hZ (hw _ (List.mem_of_getElem? (i := 23) rfl))) (mvT hZ (hw _ (List.mem_of_getElem? (i := 24) rfl))) (by decide) (backOf (W := 2) (rmD l Z a0 hw [] nn ob1 (7 : Int32) 7 h94 n0 Zz96 f95 rnn.1 rfl (by decide)) hZ (hw _ (List.mem_of_getElem? (i := 24) rfl)) (hw _ (List.mem_of_getElem? (i := 23) rfl)) (by decide) (by decide)) (g := (mkF m 355 #[.val (.long x1), .second, .val (.long jk), .second, .val (.int a1), .val (.int b1), .val (.int c1), .val (.ref ob1), .val (.long nn), .second, .val (.int off), .val (.ref ob42), .unset, .unset, .unset, .unset, .unset, .unset] [(.int (7 : Int32)), (.ref ob1), (.long nn), (.int (off + (7 : Int32))), (.ref ob42)])) rfl (by rw [hml]; rfl) (argsL := [(.long nn), (.ref ob1), (.int (7 : Int32))]) (rest := [(.int (off + (7 : Int32))), (.ref ob42)]) (lenOf own_pd0 rfl) rfl (by show 2 * 0 + _ ≤ _; exact Nat.le_of_eq rfl) (hb hby at_355) (fun _ _ => ⟨rfl, e94, (by decide : 2 + 0 ≤ _), (by decide : 41 + 0 ≤ _)⟩)
  dsimp only [Pt.U, Pt.locs, Pt.cells, Pt.slots] at X97 l97 y97 z97 st97 hQ97
  subst l97 y97 z97
  obtain ⟨zz97, rfl, F97, N97q, e97⟩ := hQ97
  have N97 := Fr.app N94 N97q
  obtain ⟨lc97, X97, N97⟩ := own_abs X97 N97
  refine own_of st97 ?_
  show own_Run p e below s _ _ _ (T97.setTop (mkF m 358 #[.val (.long x1), .second, .val (.long jk), .second, .val (.int a1), .val (.int b1), .val (.int c1), .val (.ref ob1), .val (.long nn), .second, .val (.int off), .val (.ref ob42), .unset, .unset, .unset, .unset, .unset, .unset] [(.int zz97), (.int (off + (7 : Int32))), (.ref ob42)]))
  obtain ⟨T98, h98, X98, e98, W98, V98, st98⟩ := own_bas X97 hx hZ e97 Vd7 (j := (off + (7 : Int32))) (x := zz97) (own_pos (own_ix off roff (7 : Int32) 7 rfl (by decide)).1) (own_nat (own_ix off roff (7 : Int32) 7 rfl (by decide)).1 (own_ix off roff (7 : Int32) 7 rfl (by decide)).2.1) (pc := 358) (Ls := #[.val (.long x1), .second, .val (.long jk), .second, .val (.int a1), .val (.int b1), .val (.int c1), .val (.ref ob1), .val (.long nn), .second, .val (.int off), .val (.ref ob42), .unset, .unset, .unset, .unset, .unset, .unset]) (rest := []) (hb hby at_358)
  have N98 := Fr.snoc X98 N97 g_ob42
  obtain ⟨lc98, X98, N98⟩ := own_abs X98 N98
  have f99 := f95.other W98 ne_ob1_ob42
  have Zz100 := Nat.le_trans Zz96 (Nat.le_of_eq W98.size.symm)
  refine own_of st98 ?_
  show own_Run p e below s _ _ _ (T98.setTop (mkF m 359 #[.val (.long x1), .second, .val (.long jk), .second, .val (.int a1), .val (.int b1), .val (.int c1), .val (.ref ob1), .val (.long nn), .second, .val (.int off), .val (.ref ob42), .unset, .unset, .unset, .unset, .unset, .unset] []))
  obtain ⟨fd8, hfd8⟩ : ∃ z, z = (own_up fd7 ((off + (7 : Int32))).toNatClampNeg zz97.toInt8.toInt32) := ⟨_, rfl⟩
  have Vd8 : own_Ar Z h98 ob42 .byte 22 fd8 := by rw [hfd8]; exact V98
  have D8 : own_dig fd8 nn.toInt.toNat off.toNatClampNeg 8 := by rw [hfd8]; exact own_dstep D7 F97 (own_ix off roff (7 : Int32) 7 rfl (by decide)).2.2.1
  refine own_of (fun _ hh_ => XS.aload X98.here hx rfl (hb hby at_359) rfl rfl hh_) ?_
  show own_Run p e below s _ _ _ (T98.setTop (mkF m 361 #[.val (.long x1), .second, .val (.long jk), .second, .val (.int a1), .val (.int b1), .val (.int c1), .val (.ref ob1), .val (.long nn), .second, .val (.int off), .val (.ref ob42), .unset, .unset, .unset, .unset, .unset, .unset] [(.ref ob42)]))
  refine own_of (fun _ hh_ => XS.iload X98.here hx rfl (hb hby at_361) rfl hh_) ?_
  show own_Run p e below s _ _ _ (T98.setTop (mkF m 363 #[.val (.long x1), .second, .val (.long jk), .second, .val (.int a1), .val (.int b1), .val (.int c1), .val (.ref ob1), .val (.long nn), .second, .val (.int off), .val (.ref ob42), .unset, .unset, .unset, .unset, .unset, .unset] [(.int off), (.ref ob42)]))
  refine own_of (fun _ hh_ => XS.bipush X98.here hx rfl (hb hby at_363) hh_) ?_
  show own_Run p e below s _ _ _ (T98.setTop (mkF m 365 #[.val (.long x1), .second, .val (.long jk), .second, .val (.int a1), .val (.int b1), .val (.int c1), .val (.ref ob1), .val (.long nn), .second, .val (.int off), .val (.ref ob42), .unset, .unset, .unset, .unset, .unset, .unset] [(.int (8 : Int32)), (.int off), (.ref ob42)]))
  refine own_of (fun _ hh_ => XS.iadd X98.here hx rfl (hb hby at_365) rfl hh_) ?_
  show own_Run p e below s _ _ _ (T98.setTop (mkF m 366 #[.val (.long x1), .second, .val (.long jk), .second, .val (.int a1), .val (.int b1), .val (.int c1), .val (.ref ob1), .val (.long nn), .second, .val (.int off), .val (.ref ob42), .unset, .unset, .unset, .unset, .unset, .unset] [(.int (off + (8 : Int32))), (.ref ob42)]))
  refine own_of (fun _ hh_ => XS.lload X98.here hx rfl (hb hby at_366) rfl hh_) ?_
  show own_Run p e below s _ _ _ (T98.setTop (mkF m 368 #[.val (.long x1), .second, .val (.long jk), .second, .val (.int a1), .val (.int b1), .val (.int c1), .val (.ref ob1), .val (.long nn), .second, .val (.int off), .val (.ref ob42), .unset, .unset, .unset, .unset, .unset, .unset] [(.long nn), (.int (off + (8 : Int32))), (.ref ob42)]))
  refine own_of (fun _ hh_ => XS.aload X98.here hx rfl (hb hby at_368) rfl rfl hh_) ?_
  show own_Run p e below s _ _ _ (T98.setTop (mkF m 370 #[.val (.long x1), .second, .val (.long jk), .second, .val (.int a1), .val (.int b1), .val (.int c1), .val (.ref ob1), .val (.long nn), .second, .val (.int off), .val (.ref ob42), .unset, .unset, .unset, .unset, .unset, .unset] [(.ref ob1), (.long nn), (.int (off + (8 : Int32))), (.ref ob42)]))
  refine own_of (fun _ hh_ => XS.bipush X98.here hx rfl (hb hby at_370) hh_) ?_
  show own_Run p e below s _ _ _ (T98.setTop (mkF m 372 #[.val (.long x1), .second, .val (.long jk), .second, .val (.int a1), .val (.int b1), .val (.int c1), .val (.ref ob1), .val (.long nn), .second, .val (.int off), .val (.ref ob42), .unset, .unset, .unset, .unset, .unset, .unset] [(.int (8 : Int32)), (.ref ob1), (.long nn), (.int (off + (8 : Int32))), (.ref ob42)]))
  obtain ⟨_, _, ⟨T101, L101, k101, n101⟩, -, X101, ⟨Lc101, hQ101, l101, y101, z101⟩, st101⟩ := Jvm.LawKit.callS X98 hx (y := (⟨"com/example/lanchid/lanchid/records/WholeNumberValuePinLaw", "digit", "(J[JI)B"⟩ : MethodName)) hown (mvT hZ (hw _ (List.mem_of_getElem? (i := 21) rfl))) (mvT hZ (hw _ (List.mem_of_getElem? (i := 22) rfl))) (mvT hZ (hw _ (List.mem_of_getElem? (i := 23) rfl))) (mvT hZ (hw _ (List.mem_of_getElem? (i := 24) rfl))) (by decide) (backOf (W := 2) (rmD l Z a0 hw [] nn ob1 (8 : Int32) 8 h98 n0 Zz100 f99 rnn.1 rfl (by decide)) hZ (hw _ (List.mem_of_getElem? (i := 24) rfl)) (hw _ (List.mem_of_getElem? (i := 23) rfl)) (by decide) (by decide)) (g := (mkF m 372 #[.val (.long x1), .second, .val (.long jk), .second, .val (.int a1), .val (.int b1), .val (.int c1), .val (.ref ob1), .val (.long nn), .second, .val (.int off), .val (.ref ob42), .unset, .unset, .unset, .unset, .unset, .unset] [(.int (8 : Int32)), (.ref ob1), (.long nn), (.int (off + (8 : Int32))), (.ref ob42)])) rfl (by rw [hml]; rfl) (argsL := [(.long nn), (.ref ob1), (.int (8 : Int32))]) (rest := [(.int (off + (8 : Int32))), (.ref ob42)]) (lenOf own_pd0 rfl) rfl (by show 2 * 0 + _ ≤ _; exact Nat.le_of_eq rfl) (hb hby at_372) (fun _ _ => ⟨rfl, e98, (by decide : 2 + 0 ≤ _), (by decide : 41 + 0 ≤ _)⟩)
  dsimp only [Pt.U, Pt.locs, Pt.cells, Pt.slots] at X101 l101 y101 z101 st101 hQ101
  subst l101 y101 z101
  obtain ⟨zz101, rfl, F101, N101q, e101⟩ := hQ101
  have N101 := Fr.app N98 N101q
  obtain ⟨lc101, X101, N101⟩ := own_abs X101 N101
  refine own_of st101 ?_
  show own_Run p e below s _ _ _ (T101.setTop (mkF m 375 #[.val (.long x1), .second, .val (.long jk), .second, .val (.int a1), .val (.int b1), .val (.int c1), .val (.ref ob1), .val (.long nn), .second, .val (.int off), .val (.ref ob42), .unset, .unset, .unset, .unset, .unset, .unset] [(.int zz101), (.int (off + (8 : Int32))), (.ref ob42)]))
  obtain ⟨T102, h102, X102, e102, W102, V102, st102⟩ := own_bas X101 hx hZ e101 Vd8 (j := (off + (8 : Int32))) (x := zz101) (own_pos (own_ix off roff (8 : Int32) 8 rfl (by decide)).1) (own_nat (own_ix off roff (8 : Int32) 8 rfl (by decide)).1 (own_ix off roff (8 : Int32) 8 rfl (by decide)).2.1) (pc := 375) (Ls := #[.val (.long x1), .second, .val (.long jk), .second, .val (.int a1), .val (.int b1), .val (.int c1), .val (.ref ob1), .val (.long nn), .second, .val (.int off), .val (.ref ob42), .unset, .unset, .unset, .unset, .unset, .unset]) (rest := []) (hb hby at_375)
  have N102 := Fr.snoc X102 N101 g_ob42
  obtain ⟨lc102, X102, N102⟩ := own_abs X102 N102
  have f103 := f99.other W102 ne_ob1_ob42
  have Zz104 := Nat.le_trans Zz100 (Nat.le_of_eq W102.size.symm)
  refine own_of st102 ?_
  show own_Run p e below s _ _ _ (T102.setTop (mkF m 376 #[.val (.long x1), .second, .val (.long jk), .second, .val (.int a1), .val (.int b1), .val (.int c1), .val (.ref ob1), .val (.long nn), .second, .val (.int off), .val (.ref ob42), .unset, .unset, .unset, .unset, .unset, .unset] []))
  obtain ⟨fd9, hfd9⟩ : ∃ z, z = (own_up fd8 ((off + (8 : Int32))).toNatClampNeg zz101.toInt8.toInt32) := ⟨_, rfl⟩
  have Vd9 : own_Ar Z h102 ob42 .byte 22 fd9 := by rw [hfd9]; exact V102
  have D9 : own_dig fd9 nn.toInt.toNat off.toNatClampNeg 9 := by rw [hfd9]; exact own_dstep D8 F101 (own_ix off roff (8 : Int32) 8 rfl (by decide)).2.2.1
  refine own_of (fun _ hh_ => XS.aload X102.here hx rfl (hb hby at_376) rfl rfl hh_) ?_
  show own_Run p e below s _ _ _ (T102.setTop (mkF m 378 #[.val (.long x1), .second, .val (.long jk), .second, .val (.int a1), .val (.int b1), .val (.int c1), .val (.ref ob1), .val (.long nn), .second, .val (.int off), .val (.ref ob42), .unset, .unset, .unset, .unset, .unset, .unset] [(.ref ob42)]))
  refine own_of (fun _ hh_ => XS.iload X102.here hx rfl (hb hby at_378) rfl hh_) ?_
  show own_Run p e below s _ _ _ (T102.setTop (mkF m 380 #[.val (.long x1), .second, .val (.long jk), .second, .val (.int a1), .val (.int b1), .val (.int c1), .val (.ref ob1), .val (.long nn), .second, .val (.int off), .val (.ref ob42), .unset, .unset, .unset, .unset, .unset, .unset] [(.int off), (.ref ob42)]))
  refine own_of (fun _ hh_ => XS.bipush X102.here hx rfl (hb hby at_380) hh_) ?_
  show own_Run p e below s _ _ _ (T102.setTop (mkF m 382 #[.val (.long x1), .second, .val (.long jk), .second, .val (.int a1), .val (.int b1), .val (.int c1), .val (.ref ob1), .val (.long nn), .second, .val (.int off), .val (.ref ob42), .unset, .unset, .unset, .unset, .unset, .unset] [(.int (9 : Int32)), (.int off), (.ref ob42)]))
  refine own_of (fun _ hh_ => XS.iadd X102.here hx rfl (hb hby at_382) rfl hh_) ?_
  show own_Run p e below s _ _ _ (T102.setTop (mkF m 383 #[.val (.long x1), .second, .val (.long jk), .second, .val (.int a1), .val (.int b1), .val (.int c1), .val (.ref ob1), .val (.long nn), .second, .val (.int off), .val (.ref ob42), .unset, .unset, .unset, .unset, .unset, .unset] [(.int (off + (9 : Int32))), (.ref ob42)]))
  refine own_of (fun _ hh_ => XS.lload X102.here hx rfl (hb hby at_383) rfl hh_) ?_
  show own_Run p e below s _ _ _ (T102.setTop (mkF m 385 #[.val (.long x1), .second, .val (.long jk), .second, .val (.int a1), .val (.int b1), .val (.int c1), .val (.ref ob1), .val (.long nn), .second, .val (.int off), .val (.ref ob42), .unset, .unset, .unset, .unset, .unset, .unset] [(.long nn), (.int (off + (9 : Int32))), (.ref ob42)]))
  refine own_of (fun _ hh_ => XS.aload X102.here hx rfl (hb hby at_385) rfl rfl hh_) ?_
  show own_Run p e below s _ _ _ (T102.setTop (mkF m 387 #[.val (.long x1), .second, .val (.long jk), .second, .val (.int a1), .val (.int b1), .val (.int c1), .val (.ref ob1), .val (.long nn), .second, .val (.int off), .val (.ref ob42), .unset, .unset, .unset, .unset, .unset, .unset] [(.ref ob1), (.long nn), (.int (off + (9 : Int32))), (.ref ob42)]))
  refine own_of (fun _ hh_ => XS.bipush X102.here hx rfl (hb hby at_387) hh_) ?_
  show own_Run p e below s _ _ _ (T102.setTop (mkF m 389 #[.val (.long x1), .second, .val (.long jk), .second, .val (.int a1), .val (.int b1), .val (.int c1), .val (.ref ob1), .val (.long nn), .second, .val (.int off), .val (.ref ob42), .unset, .unset, .unset, .unset, .unset, .unset] [(.int (9 : Int32)), (.ref ob1), (.long nn), (.int (off + (9 : Int32))), (.ref ob42)]))
  obtain ⟨_, _, ⟨T105, L105, k105, n105⟩, -, X105, ⟨Lc105, hQ105, l105, y105, z105⟩, st105⟩ := Jvm.LawKit.callS X102 hx (y := (⟨"com/example/lanchid/lanchid/records/WholeNumberValuePinLaw", "digit", "(J[JI)B"⟩ : MethodName)) hown (mvT hZ (hw _ (List.mem_of_getElem? (i := 21) rfl))) (mvT hZ (hw _ (List.mem_of_getElem? (i := 22) rfl))) (mvT hZ (hw _ (List.mem_of_getElem? (i := 23) rfl))) (mvT hZ (hw _ (List.mem_of_getElem? (i := 24) rfl))) (by decide) (backOf (W := 2) (rmD l Z a0 hw [] nn ob1 (9 : Int32) 9 h102 n0 Zz104 f103 rnn.1 rfl (by decide)) hZ (hw _ (List.mem_of_getElem? (i := 24) rfl)) (hw _ (List.mem_of_getElem? (i := 23) rfl)) (by decide) (by decide)) (g := (mkF m 389 #[.val (.long x1), .second, .val (.long jk), .second, .val (.int a1), .val (.int b1), .val (.int c1), .val (.ref ob1), .val (.long nn), .second, .val (.int off), .val (.ref ob42), .unset, .unset, .unset, .unset, .unset, .unset] [(.int (9 : Int32)), (.ref ob1), (.long nn), (.int (off + (9 : Int32))), (.ref ob42)])) rfl (by rw [hml]; rfl) (argsL := [(.long nn), (.ref ob1), (.int (9 : Int32))]) (rest := [(.int (off + (9 : Int32))), (.ref ob42)]) (lenOf own_pd0 rfl) rfl (by show 2 * 0 + _ ≤ _; exact Nat.le_of_eq rfl) (hb hby at_389) (fun _ _ => ⟨rfl, e102, (by decide : 2 + 0 ≤ _), (by decide : 41 + 0 ≤ _)⟩)
  dsimp only [Pt.U, Pt.locs, Pt.cells, Pt.slots] at X105 l105 y105 z105 st105 hQ105
  subst l105 y105 z105
  obtain ⟨zz105, rfl, F105, N105q, e105⟩ := hQ105
  have N105 := Fr.app N102 N105q
  obtain ⟨lc105, X105, N105⟩ := own_abs X105 N105
  refine own_of st105 ?_
  show own_Run p e below s _ _ _ (T105.setTop (mkF m 392 #[.val (.long x1), .second, .val (.long jk), .second, .val (.int a1), .val (.int b1), .val (.int c1), .val (.ref ob1), .val (.long nn), .second, .val (.int off), .val (.ref ob42), .unset, .unset, .unset, .unset, .unset, .unset] [(.int zz105), (.int (off + (9 : Int32))), (.ref ob42)]))
  obtain ⟨T106, h106, X106, e106, W106, V106, st106⟩ := own_bas X105 hx hZ e105 Vd9 (j := (off + (9 : Int32))) (x := zz105) (own_pos (own_ix off roff (9 : Int32) 9 rfl (by decide)).1) (own_nat (own_ix off roff (9 : Int32) 9 rfl (by decide)).1 (own_ix off roff (9 : Int32) 9 rfl (by decide)).2.1) (pc := 392) (Ls := #[.val (.long x1), .second, .val (.long jk), .second, .val (.int a1), .val (.int b1), .val (.int c1), .val (.ref ob1), .val (.long nn), .second, .val (.int off), .val (.ref ob42), .unset, .unset, .unset, .unset, .unset, .unset]) (rest := []) (hb hby at_392)
  have N106 := Fr.snoc X106 N105 g_ob42
  obtain ⟨lc106, X106, N106⟩ := own_abs X106 N106
  have f107 := f103.other W106 ne_ob1_ob42
  have Zz108 := Nat.le_trans Zz104 (Nat.le_of_eq W106.size.symm)
  refine own_of st106 ?_
  show own_Run p e below s _ _ _ (T106.setTop (mkF m 393 #[.val (.long x1), .second, .val (.long jk), .second, .val (.int a1), .val (.int b1), .val (.int c1), .val (.ref ob1), .val (.long nn), .second, .val (.int off), .val (.ref ob42), .unset, .unset, .unset, .unset, .unset, .unset] []))
  obtain ⟨fd10, hfd10⟩ : ∃ z, z = (own_up fd9 ((off + (9 : Int32))).toNatClampNeg zz105.toInt8.toInt32) := ⟨_, rfl⟩
  have Vd10 : own_Ar Z h106 ob42 .byte 22 fd10 := by rw [hfd10]; exact V106
  have D10 : own_dig fd10 nn.toInt.toNat off.toNatClampNeg 10 := by rw [hfd10]; exact own_dstep D9 F105 (own_ix off roff (9 : Int32) 9 rfl (by decide)).2.2.1
  refine own_of (fun _ hh_ => XS.aload X106.here hx rfl (hb hby at_393) rfl rfl hh_) ?_
  show own_Run p e below s _ _ _ (T106.setTop (mkF m 395 #[.val (.long x1), .second, .val (.long jk), .second, .val (.int a1), .val (.int b1), .val (.int c1), .val (.ref ob1), .val (.long nn), .second, .val (.int off), .val (.ref ob42), .unset, .unset, .unset, .unset, .unset, .unset] [(.ref ob42)]))
  refine own_of (fun _ hh_ => XS.iload X106.here hx rfl (hb hby at_395) rfl hh_) ?_
  show own_Run p e below s _ _ _ (T106.setTop (mkF m 397 #[.val (.long x1), .second, .val (.long jk), .second, .val (.int a1), .val (.int b1), .val (.int c1), .val (.ref ob1), .val (.long nn), .second, .val (.int off), .val (.ref ob42), .unset, .unset, .unset, .unset, .unset, .unset] [(.int off), (.ref ob42)]))
  refine own_of (fun _ hh_ => XS.bipush X106.here hx rfl (hb hby at_397) hh_) ?_
  show own_Run p e below s _ _ _ (T106.setTop (mkF m 399 #[.val (.long x1), .second, .val (.long jk), .second, .val (.int a1), .val (.int b1), .val (.int c1), .val (.ref ob1), .val (.long nn), .second, .val (.int off), .val (.ref ob42), .unset, .unset, .unset, .unset, .unset, .unset] [(.int (10 : Int32)), (.int off), (.ref ob42)]))
  refine own_of (fun _ hh_ => XS.iadd X106.here hx rfl (hb hby at_399) rfl hh_) ?_
  show own_Run p e below s _ _ _ (T106.setTop (mkF m 400 #[.val (.long x1), .second, .val (.long jk), .second, .val (.int a1), .val (.int b1), .val (.int c1), .val (.ref ob1), .val (.long nn), .second, .val (.int off), .val (.ref ob42), .unset, .unset, .unset, .unset, .unset, .unset] [(.int (off + (10 : Int32))), (.ref ob42)]))
  refine own_of (fun _ hh_ => XS.lload X106.here hx rfl (hb hby at_400) rfl hh_) ?_
  show own_Run p e below s _ _ _ (T106.setTop (mkF m 402 #[.val (.long x1), .second, .val (.long jk), .second, .val (.int a1), .val (.int b1), .val (.int c1), .val (.ref ob1), .val (.long nn), .second, .val (.int off), .val (.ref ob42), .unset, .unset, .unset, .unset, .unset, .unset] [(.long nn), (.int (off + (10 : Int32))), (.ref ob42)]))
  refine own_of (fun _ hh_ => XS.aload X106.here hx rfl (hb hby at_402) rfl rfl hh_) ?_
  show own_Run p e below s _ _ _ (T106.setTop (mkF m 404 #[.val (.long x1), .second, .val (.long jk), .second, .val (.int a1), .val (.int b1), .val (.int c1), .val (.ref ob1), .val (.long nn), .second, .val (.int off), .val (.ref ob42), .unset, .unset, .unset, .unset, .unset, .unset] [(.ref ob1), (.long nn), (.int (off + (10 : Int32))), (.ref ob42)]))
  refine own_of (fun _ hh_ => XS.bipush X106.here hx rfl (hb hby at_404) hh_) ?_
  show own_Run p e below s _ _ _ (T106.setTop (mkF m 406 #[.val (.long x1), .second, .val (.long jk), .second, .val (.int a1), .val (.int b1), .val (.int c1), .val (.ref ob1), .val (.long nn), .second, .val (.int off), .val (.ref ob42), .unset, .unset, .unset, .unset, .unset, .unset] [(.int (10 : Int32)), (.ref ob1), (.long nn), (.int (off + (10 : Int32))), (.ref ob42)]))
  obtain ⟨_, _, ⟨T109, L109, k109, n109⟩, -, X109, ⟨Lc109, hQ109, l109, y109, z109⟩, st109⟩ := Jvm.LawKit.callS X106 hx (y := (⟨"com/example/lanchid/lanchid/records/WholeNumberValuePinLaw", "digit", "(J[JI)B"⟩ : MethodName)) hown (mvT hZ (hw _ (List.mem_of_getElem? (i := 21) rfl))) (mvT hZ (hw _ (List.mem_of_getElem? (i := 22) rfl))) (mvT hZ (hw _ (List.mem_of_getElem? (i := 23) rfl))) (mvT hZ (hw _ (List.mem_of_getElem? (i := 24) rfl))) (by decide) (backOf (W := 2) (rmD l Z a0 hw [] nn ob1 (10 : Int32) 10 h106 n0 Zz108 f107 rnn.1 rfl (by decide)) hZ (hw _ (List.mem_of_getElem? (i := 24) rfl)) (hw _ (List.mem_of_getElem? (i := 23) rfl)) (by decide) (by decide)) (g := (mkF m 406 #[.val (.long x1), .second, .val (.long jk), .second, .val (.int a1), .val (.int b1), .val (.int c1), .val (.ref ob1), .val (.long nn), .second, .val (.int off), .val (.ref ob42), .unset, .unset, .unset, .unset, .unset, .unset] [(.int (10 : Int32)), (.ref ob1), (.long nn), (.int (off + (10 : Int32))), (.ref ob42)])) rfl (by rw [hml]; rfl) (argsL := [(.long nn), (.ref ob1), (.int (10 : Int32))]) (rest := [(.int (off + (10 : Int32))), (.ref ob42)]) (lenOf own_pd0 rfl) rfl (by show 2 * 0 + _ ≤ _; exact Nat.le_of_eq rfl) (hb hby at_406) (fun _ _ => ⟨rfl, e106, (by decide : 2 + 0 ≤ _), (by decide : 41 + 0 ≤ _)⟩)
  dsimp only [Pt.U, Pt.locs, Pt.cells, Pt.slots] at X109 l109 y109 z109 st109 hQ109
  subst l109 y109 z109
  obtain ⟨zz109, rfl, F109, N109q, e109⟩ := hQ109
  have N109 := Fr.app N106 N109q
  obtain ⟨lc109, X109, N109⟩ := own_abs X109 N109
  refine own_of st109 ?_
  show own_Run p e below s _ _ _ (T109.setTop (mkF m 409 #[.val (.long x1), .second, .val (.long jk), .second, .val (.int a1), .val (.int b1), .val (.int c1), .val (.ref ob1), .val (.long nn), .second, .val (.int off), .val (.ref ob42), .unset, .unset, .unset, .unset, .unset, .unset] [(.int zz109), (.int (off + (10 : Int32))), (.ref ob42)]))
  obtain ⟨T110, h110, X110, e110, W110, V110, st110⟩ := own_bas X109 hx hZ e109 Vd10 (j := (off + (10 : Int32))) (x := zz109) (own_pos (own_ix off roff (10 : Int32) 10 rfl (by decide)).1) (own_nat (own_ix off roff (10 : Int32) 10 rfl (by decide)).1 (own_ix off roff (10 : Int32) 10 rfl (by decide)).2.1) (pc := 409) (Ls := #[.val (.long x1), .second, .val (.long jk), .second, .val (.int a1), .val (.int b1), .val (.int c1), .val (.ref ob1), .val (.long nn), .second, .val (.int off), .val (.ref ob42), .unset, .unset, .unset, .unset, .unset, .unset]) (rest := []) (hb hby at_409)
  have N110 := Fr.snoc X110 N109 g_ob42
  obtain ⟨lc110, X110, N110⟩ := own_abs X110 N110
  have f111 := f107.other W110 ne_ob1_ob42
  have Zz112 := Nat.le_trans Zz108 (Nat.le_of_eq W110.size.symm)
  refine own_of st110 ?_
  show own_Run p e below s _ _ _ (T110.setTop (mkF m 410 #[.val (.long x1), .second, .val (.long jk), .second, .val (.int a1), .val (.int b1), .val (.int c1), .val (.ref ob1), .val (.long nn), .second, .val (.int off), .val (.ref ob42), .unset, .unset, .unset, .unset, .unset, .unset] []))
  obtain ⟨fd11, hfd11⟩ : ∃ z, z = (own_up fd10 ((off + (10 : Int32))).toNatClampNeg zz109.toInt8.toInt32) := ⟨_, rfl⟩
  have Vd11 : own_Ar Z h110 ob42 .byte 22 fd11 := by rw [hfd11]; exact V110
  have D11 : own_dig fd11 nn.toInt.toNat off.toNatClampNeg 11 := by rw [hfd11]; exact own_dstep D10 F109 (own_ix off roff (10 : Int32) 10 rfl (by decide)).2.2.1
  refine own_of (fun _ hh_ => XS.aload X110.here hx rfl (hb hby at_410) rfl rfl hh_) ?_
  show own_Run p e below s _ _ _ (T110.setTop (mkF m 412 #[.val (.long x1), .second, .val (.long jk), .second, .val (.int a1), .val (.int b1), .val (.int c1), .val (.ref ob1), .val (.long nn), .second, .val (.int off), .val (.ref ob42), .unset, .unset, .unset, .unset, .unset, .unset] [(.ref ob42)]))
  refine own_of (fun _ hh_ => XS.iload X110.here hx rfl (hb hby at_412) rfl hh_) ?_
  show own_Run p e below s _ _ _ (T110.setTop (mkF m 414 #[.val (.long x1), .second, .val (.long jk), .second, .val (.int a1), .val (.int b1), .val (.int c1), .val (.ref ob1), .val (.long nn), .second, .val (.int off), .val (.ref ob42), .unset, .unset, .unset, .unset, .unset, .unset] [(.int off), (.ref ob42)]))
  refine own_of (fun _ hh_ => XS.bipush X110.here hx rfl (hb hby at_414) hh_) ?_
  show own_Run p e below s _ _ _ (T110.setTop (mkF m 416 #[.val (.long x1), .second, .val (.long jk), .second, .val (.int a1), .val (.int b1), .val (.int c1), .val (.ref ob1), .val (.long nn), .second, .val (.int off), .val (.ref ob42), .unset, .unset, .unset, .unset, .unset, .unset] [(.int (11 : Int32)), (.int off), (.ref ob42)]))
  refine own_of (fun _ hh_ => XS.iadd X110.here hx rfl (hb hby at_416) rfl hh_) ?_
  show own_Run p e below s _ _ _ (T110.setTop (mkF m 417 #[.val (.long x1), .second, .val (.long jk), .second, .val (.int a1), .val (.int b1), .val (.int c1), .val (.ref ob1), .val (.long nn), .second, .val (.int off), .val (.ref ob42), .unset, .unset, .unset, .unset, .unset, .unset] [(.int (off + (11 : Int32))), (.ref ob42)]))
  refine own_of (fun _ hh_ => XS.lload X110.here hx rfl (hb hby at_417) rfl hh_) ?_
  show own_Run p e below s _ _ _ (T110.setTop (mkF m 419 #[.val (.long x1), .second, .val (.long jk), .second, .val (.int a1), .val (.int b1), .val (.int c1), .val (.ref ob1), .val (.long nn), .second, .val (.int off), .val (.ref ob42), .unset, .unset, .unset, .unset, .unset, .unset] [(.long nn), (.int (off + (11 : Int32))), (.ref ob42)]))
  refine own_of (fun _ hh_ => XS.aload X110.here hx rfl (hb hby at_419) rfl rfl hh_) ?_
  show own_Run p e below s _ _ _ (T110.setTop (mkF m 421 #[.val (.long x1), .second, .val (.long jk), .second, .val (.int a1), .val (.int b1), .val (.int c1), .val (.ref ob1), .val (.long nn), .second, .val (.int off), .val (.ref ob42), .unset, .unset, .unset, .unset, .unset, .unset] [(.ref ob1), (.long nn), (.int (off + (11 : Int32))), (.ref ob42)]))
  refine own_of (fun _ hh_ => XS.bipush X110.here hx rfl (hb hby at_421) hh_) ?_
  show own_Run p e below s _ _ _ (T110.setTop (mkF m 423 #[.val (.long x1), .second, .val (.long jk), .second, .val (.int a1), .val (.int b1), .val (.int c1), .val (.ref ob1), .val (.long nn), .second, .val (.int off), .val (.ref ob42), .unset, .unset, .unset, .unset, .unset, .unset] [(.int (11 : Int32)), (.ref ob1), (.long nn), (.int (off + (11 : Int32))), (.ref ob42)]))
  obtain ⟨_, _, ⟨T113, L113, k113, n113⟩, -, X113, ⟨Lc113, hQ113, l113, y113, z113⟩, st113⟩ := Jvm.LawKit.callS X110 hx (y := (⟨"com/example/lanchid/lanchid/records/WholeNumberValuePinLaw", "digit", "(J[JI)B"⟩ : MethodName)) hown (mvT hZ (hw _ (List.mem_of_getElem? (i := 21) rfl))) (mvT hZ (hw _ (List.mem_of_getElem? (i := 22) rfl))) (mvT hZ (hw _ (List.mem_of_getElem? (i := 23) rfl))) (mvT hZ (hw _ (List.mem_of_getElem? (i := 24) rfl))) (by decide) (backOf (W := 2) (rmD l Z a0 hw [] nn ob1 (11 : Int32) 11 h110 n0 Zz112 f111 rnn.1 rfl (by decide)) hZ (hw _ (List.mem_of_getElem? (i := 24) rfl)) (hw _ (List.mem_of_getElem? (i := 23) rfl)) (by decide) (by decide)) (g := (mkF m 423 #[.val (.long x1), .second, .val (.long jk), .second, .val (.int a1), .val (.int b1), .val (.int c1), .val (.ref ob1), .val (.long nn), .second, .val (.int off), .val (.ref ob42), .unset, .unset, .unset, .unset, .unset, .unset] [(.int (11 : Int32)), (.ref ob1), (.long nn), (.int (off + (11 : Int32))), (.ref ob42)])) rfl (by rw [hml]; rfl) (argsL := [(.long nn), (.ref ob1), (.int (11 : Int32))]) (rest := [(.int (off + (11 : Int32))), (.ref ob42)]) (lenOf own_pd0 rfl) rfl (by show 2 * 0 + _ ≤ _; exact Nat.le_of_eq rfl) (hb hby at_423) (fun _ _ => ⟨rfl, e110, (by decide : 2 + 0 ≤ _), (by decide : 41 + 0 ≤ _)⟩)
  dsimp only [Pt.U, Pt.locs, Pt.cells, Pt.slots] at X113 l113 y113 z113 st113 hQ113
  subst l113 y113 z113
  obtain ⟨zz113, rfl, F113, N113q, e113⟩ := hQ113
  have N113 := Fr.app N110 N113q
  obtain ⟨lc113, X113, N113⟩ := own_abs X113 N113
  refine own_of st113 ?_
  show own_Run p e below s _ _ _ (T113.setTop (mkF m 426 #[.val (.long x1), .second, .val (.long jk), .second, .val (.int a1), .val (.int b1), .val (.int c1), .val (.ref ob1), .val (.long nn), .second, .val (.int off), .val (.ref ob42), .unset, .unset, .unset, .unset, .unset, .unset] [(.int zz113), (.int (off + (11 : Int32))), (.ref ob42)]))
  obtain ⟨T114, h114, X114, e114, W114, V114, st114⟩ := own_bas X113 hx hZ e113 Vd11 (j := (off + (11 : Int32))) (x := zz113) (own_pos (own_ix off roff (11 : Int32) 11 rfl (by decide)).1) (own_nat (own_ix off roff (11 : Int32) 11 rfl (by decide)).1 (own_ix off roff (11 : Int32) 11 rfl (by decide)).2.1) (pc := 426) (Ls := #[.val (.long x1), .second, .val (.long jk), .second, .val (.int a1), .val (.int b1), .val (.int c1), .val (.ref ob1), .val (.long nn), .second, .val (.int off), .val (.ref ob42), .unset, .unset, .unset, .unset, .unset, .unset]) (rest := []) (hb hby at_426)
  have N114 := Fr.snoc X114 N113 g_ob42
  obtain ⟨lc114, X114, N114⟩ := own_abs X114 N114
  have f115 := f111.other W114 ne_ob1_ob42
  have Zz116 := Nat.le_trans Zz112 (Nat.le_of_eq W114.size.symm)
  refine own_of st114 ?_
  show own_Run p e below s _ _ _ (T114.setTop (mkF m 427 #[.val (.long x1), .second, .val (.long jk), .second, .val (.int a1), .val (.int b1), .val (.int c1), .val (.ref ob1), .val (.long nn), .second, .val (.int off), .val (.ref ob42), .unset, .unset, .unset, .unset, .unset, .unset] []))
  obtain ⟨fd12, hfd12⟩ : ∃ z, z = (own_up fd11 ((off + (11 : Int32))).toNatClampNeg zz113.toInt8.toInt32) := ⟨_, rfl⟩
  have Vd12 : own_Ar Z h114 ob42 .byte 22 fd12 := by rw [hfd12]; exact V114
  have D12 : own_dig fd12 nn.toInt.toNat off.toNatClampNeg 12 := by rw [hfd12]; exact own_dstep D11 F113 (own_ix off roff (11 : Int32) 11 rfl (by decide)).2.2.1
  refine own_of (fun _ hh_ => XS.aload X114.here hx rfl (hb hby at_427) rfl rfl hh_) ?_
  show own_Run p e below s _ _ _ (T114.setTop (mkF m 429 #[.val (.long x1), .second, .val (.long jk), .second, .val (.int a1), .val (.int b1), .val (.int c1), .val (.ref ob1), .val (.long nn), .second, .val (.int off), .val (.ref ob42), .unset, .unset, .unset, .unset, .unset, .unset] [(.ref ob42)]))
  refine own_of (fun _ hh_ => XS.iload X114.here hx rfl (hb hby at_429) rfl hh_) ?_
  show own_Run p e below s _ _ _ (T114.setTop (mkF m 431 #[.val (.long x1), .second, .val (.long jk), .second, .val (.int a1), .val (.int b1), .val (.int c1), .val (.ref ob1), .val (.long nn), .second, .val (.int off), .val (.ref ob42), .unset, .unset, .unset, .unset, .unset, .unset] [(.int off), (.ref ob42)]))
  refine own_of (fun _ hh_ => XS.bipush X114.here hx rfl (hb hby at_431) hh_) ?_
  show own_Run p e below s _ _ _ (T114.setTop (mkF m 433 #[.val (.long x1), .second, .val (.long jk), .second, .val (.int a1), .val (.int b1), .val (.int c1), .val (.ref ob1), .val (.long nn), .second, .val (.int off), .val (.ref ob42), .unset, .unset, .unset, .unset, .unset, .unset] [(.int (12 : Int32)), (.int off), (.ref ob42)]))
  refine own_of (fun _ hh_ => XS.iadd X114.here hx rfl (hb hby at_433) rfl hh_) ?_
  show own_Run p e below s _ _ _ (T114.setTop (mkF m 434 #[.val (.long x1), .second, .val (.long jk), .second, .val (.int a1), .val (.int b1), .val (.int c1), .val (.ref ob1), .val (.long nn), .second, .val (.int off), .val (.ref ob42), .unset, .unset, .unset, .unset, .unset, .unset] [(.int (off + (12 : Int32))), (.ref ob42)]))
  refine own_of (fun _ hh_ => XS.lload X114.here hx rfl (hb hby at_434) rfl hh_) ?_
  show own_Run p e below s _ _ _ (T114.setTop (mkF m 436 #[.val (.long x1), .second, .val (.long jk), .second, .val (.int a1), .val (.int b1), .val (.int c1), .val (.ref ob1), .val (.long nn), .second, .val (.int off), .val (.ref ob42), .unset, .unset, .unset, .unset, .unset, .unset] [(.long nn), (.int (off + (12 : Int32))), (.ref ob42)]))
  refine own_of (fun _ hh_ => XS.aload X114.here hx rfl (hb hby at_436) rfl rfl hh_) ?_
  show own_Run p e below s _ _ _ (T114.setTop (mkF m 438 #[.val (.long x1), .second, .val (.long jk), .second, .val (.int a1), .val (.int b1), .val (.int c1), .val (.ref ob1), .val (.long nn), .second, .val (.int off), .val (.ref ob42), .unset, .unset, .unset, .unset, .unset, .unset] [(.ref ob1), (.long nn), (.int (off + (12 : Int32))), (.ref ob42)]))
  refine own_of (fun _ hh_ => XS.bipush X114.here hx rfl (hb hby at_438) hh_) ?_
  show own_Run p e below s _ _ _ (T114.setTop (mkF m 440 #[.val (.long x1), .second, .val (.long jk), .second, .val (.int a1), .val (.int b1), .val (.int c1), .val (.ref ob1), .val (.long nn), .second, .val (.int off), .val (.ref ob42), .unset, .unset, .unset, .unset, .unset, .unset] [(.int (12 : Int32)), (.ref ob1), (.long nn), (.int (off + (12 : Int32))), (.ref ob42)]))
  obtain ⟨_, _, ⟨T117, L117, k117, n117⟩, -, X117, ⟨Lc117, hQ117, l117, y117, z117⟩, st117⟩ := Jvm.LawKit.callS X114 hx (y := (⟨"com/example/lanchid/lanchid/records/WholeNumberValuePinLaw", "digit", "(J[JI)B"⟩ : MethodName)) hown (mvT hZ (hw _ (List.mem_of_getElem? (i := 21) rfl))) (mvT hZ (hw _ (List.mem_of_getElem? (i := 22) rfl))) (mvT hZ (hw _ (List.mem_of_getElem? (i := 23) rfl))) (mvT hZ (hw _ (List.mem_of_getElem? (i := 24) rfl))) (by decide) (backOf (W := 2) (rmD l Z a0 hw [] nn ob1 (12 : Int32) 12 h114 n0 Zz116 f115 rnn.1 rfl (by decide)) hZ (hw _ (List.mem_of_getElem? (i := 24) rfl)) (hw _ (List.mem_of_getElem? (i := 23) rfl)) (by decide) (by decide)) (g := (mkF m 440 #[.val (.long x1), .second, .val (.long jk), .second, .val (.int a1), .val (.int b1), .val (.int c1), .val (.ref ob1), .val (.long nn), .second, .val (.int off), .val (.ref ob42), .unset, .unset, .unset, .unset, .unset, .unset] [(.int (12 : Int32)), (.ref ob1), (.long nn), (.int (off + (12 : Int32))), (.ref ob42)])) rfl (by rw [hml]; rfl) (argsL := [(.long nn), (.ref ob1), (.int (12 : Int32))]) (rest := [(.int (off + (12 : Int32))), (.ref ob42)]) (lenOf own_pd0 rfl) rfl (by show 2 * 0 + _ ≤ _; exact Nat.le_of_eq rfl) (hb hby at_440) (fun _ _ => ⟨rfl, e114, (by decide : 2 + 0 ≤ _), (by decide : 41 + 0 ≤ _)⟩)
  dsimp only [Pt.U, Pt.locs, Pt.cells, Pt.slots] at X117 l117 y117 z117 st117 hQ117
  subst l117 y117 z117
  obtain ⟨zz117, rfl, F117, N117q, e117⟩ := hQ117
  have N117 := Fr.app N114 N117q
  obtain ⟨lc117, X117, N117⟩ := own_abs X117 N117
  refine own_of st117 ?_
  show own_Run p e below s _ _ _ (T117.setTop (mkF m 443 #[.val (.long x1), .second, .val (.long jk), .second, .val (.int a1), .val (.int b1), .val (.int c1), .val (.ref ob1), .val (.long nn), .second, .val (.int off), .val (.ref ob42), .unset, .unset, .unset, .unset, .unset, .unset] [(.int zz117), (.int (off + (12 : Int32))), (.ref ob42)]))
  obtain ⟨T118, h118, X118, e118, W118, V118, st118⟩ := own_bas X117 hx hZ e117 Vd12 (j := (off + (12 : Int32))) (x := zz117) (own_pos (own_ix off roff (12 : Int32) 12 rfl (by decide)).1) (own_nat (own_ix off roff (12 : Int32) 12 rfl (by decide)).1 (own_ix off roff (12 : Int32) 12 rfl (by decide)).2.1) (pc := 443) (Ls := #[.val (.long x1), .second, .val (.long jk), .second, .val (.int a1), .val (.int b1), .val (.int c1), .val (.ref ob1), .val (.long nn), .second, .val (.int off), .val (.ref ob42), .unset, .unset, .unset, .unset, .unset, .unset]) (rest := []) (hb hby at_443)
  have N118 := Fr.snoc X118 N117 g_ob42
  obtain ⟨lc118, X118, N118⟩ := own_abs X118 N118
  have f119 := f115.other W118 ne_ob1_ob42
  have Zz120 := Nat.le_trans Zz116 (Nat.le_of_eq W118.size.symm)
  refine own_of st118 ?_
  show own_Run p e below s _ _ _ (T118.setTop (mkF m 444 #[.val (.long x1), .second, .val (.long jk), .second, .val (.int a1), .val (.int b1), .val (.int c1), .val (.ref ob1), .val (.long nn), .second, .val (.int off), .val (.ref ob42), .unset, .unset, .unset, .unset, .unset, .unset] []))
  obtain ⟨fd13, hfd13⟩ : ∃ z, z = (own_up fd12 ((off + (12 : Int32))).toNatClampNeg zz117.toInt8.toInt32) := ⟨_, rfl⟩
  have Vd13 : own_Ar Z h118 ob42 .byte 22 fd13 := by rw [hfd13]; exact V118
  have D13 : own_dig fd13 nn.toInt.toNat off.toNatClampNeg 13 := by rw [hfd13]; exact own_dstep D12 F117 (own_ix off roff (12 : Int32) 12 rfl (by decide)).2.2.1
  refine own_of (fun _ hh_ => XS.aload X118.here hx rfl (hb hby at_444) rfl rfl hh_) ?_
  show own_Run p e below s _ _ _ (T118.setTop (mkF m 446 #[.val (.long x1), .second, .val (.long jk), .second, .val (.int a1), .val (.int b1), .val (.int c1), .val (.ref ob1), .val (.long nn), .second, .val (.int off), .val (.ref ob42), .unset, .unset, .unset, .unset, .unset, .unset] [(.ref ob42)]))
  refine own_of (fun _ hh_ => XS.iload X118.here hx rfl (hb hby at_446) rfl hh_) ?_
  show own_Run p e below s _ _ _ (T118.setTop (mkF m 448 #[.val (.long x1), .second, .val (.long jk), .second, .val (.int a1), .val (.int b1), .val (.int c1), .val (.ref ob1), .val (.long nn), .second, .val (.int off), .val (.ref ob42), .unset, .unset, .unset, .unset, .unset, .unset] [(.int off), (.ref ob42)]))
  refine own_of (fun _ hh_ => XS.bipush X118.here hx rfl (hb hby at_448) hh_) ?_
  show own_Run p e below s _ _ _ (T118.setTop (mkF m 450 #[.val (.long x1), .second, .val (.long jk), .second, .val (.int a1), .val (.int b1), .val (.int c1), .val (.ref ob1), .val (.long nn), .second, .val (.int off), .val (.ref ob42), .unset, .unset, .unset, .unset, .unset, .unset] [(.int (13 : Int32)), (.int off), (.ref ob42)]))
  refine own_of (fun _ hh_ => XS.iadd X118.here hx rfl (hb hby at_450) rfl hh_) ?_
  show own_Run p e below s _ _ _ (T118.setTop (mkF m 451 #[.val (.long x1), .second, .val (.long jk), .second, .val (.int a1), .val (.int b1), .val (.int c1), .val (.ref ob1), .val (.long nn), .second, .val (.int off), .val (.ref ob42), .unset, .unset, .unset, .unset, .unset, .unset] [(.int (off + (13 : Int32))), (.ref ob42)]))
  refine own_of (fun _ hh_ => XS.lload X118.here hx rfl (hb hby at_451) rfl hh_) ?_
  show own_Run p e below s _ _ _ (T118.setTop (mkF m 453 #[.val (.long x1), .second, .val (.long jk), .second, .val (.int a1), .val (.int b1), .val (.int c1), .val (.ref ob1), .val (.long nn), .second, .val (.int off), .val (.ref ob42), .unset, .unset, .unset, .unset, .unset, .unset] [(.long nn), (.int (off + (13 : Int32))), (.ref ob42)]))
  refine own_of (fun _ hh_ => XS.aload X118.here hx rfl (hb hby at_453) rfl rfl hh_) ?_
  show own_Run p e below s _ _ _ (T118.setTop (mkF m 455 #[.val (.long x1), .second, .val (.long jk), .second, .val (.int a1), .val (.int b1), .val (.int c1), .val (.ref ob1), .val (.long nn), .second, .val (.int off), .val (.ref ob42), .unset, .unset, .unset, .unset, .unset, .unset] [(.ref ob1), (.long nn), (.int (off + (13 : Int32))), (.ref ob42)]))
  refine own_of (fun _ hh_ => XS.bipush X118.here hx rfl (hb hby at_455) hh_) ?_
  show own_Run p e below s _ _ _ (T118.setTop (mkF m 457 #[.val (.long x1), .second, .val (.long jk), .second, .val (.int a1), .val (.int b1), .val (.int c1), .val (.ref ob1), .val (.long nn), .second, .val (.int off), .val (.ref ob42), .unset, .unset, .unset, .unset, .unset, .unset] [(.int (13 : Int32)), (.ref ob1), (.long nn), (.int (off + (13 : Int32))), (.ref ob42)]))
  obtain ⟨_, _, ⟨T121, L121, k121, n121⟩, -, X121, ⟨Lc121, hQ121, l121, y121, z121⟩, st121⟩ := Jvm.LawKit.callS X118 hx (y := (⟨"com/example/lanchid/lanchid/records/WholeNumberValuePinLaw", "digit", "(J[JI)B"⟩ : MethodName)) hown (mvT hZ (hw _ (List.mem_of_getElem? (i := 21) rfl))) (mvT hZ (hw _ (List.mem_of_getElem? (i := 22) rfl))) (mvT hZ (hw _ (List.mem_of_getElem? (i := 23) rfl))) (mvT hZ (hw _ (List.mem_of_getElem? (i := 24) rfl))) (by decide) (backOf (W := 2) (rmD l Z a0 hw [] nn ob1 (13 : Int32) 13 h118 n0 Zz120 f119 rnn.1 rfl (by decide)) hZ (hw _ (List.mem_of_getElem? (i := 24) rfl)) (hw _ (List.mem_of_getElem? (i := 23) rfl)) (by decide) (by decide)) (g := (mkF m 457 #[.val (.long x1), .second, .val (.long jk), .second, .val (.int a1), .val (.int b1), .val (.int c1), .val (.ref ob1), .val (.long nn), .second, .val (.int off), .val (.ref ob42), .unset, .unset, .unset, .unset, .unset, .unset] [(.int (13 : Int32)), (.ref ob1), (.long nn), (.int (off + (13 : Int32))), (.ref ob42)])) rfl (by rw [hml]; rfl) (argsL := [(.long nn), (.ref ob1), (.int (13 : Int32))]) (rest := [(.int (off + (13 : Int32))), (.ref ob42)]) (lenOf own_pd0 rfl) rfl (by show 2 * 0 + _ ≤ _; exact Nat.le_of_eq rfl) (hb hby at_457) (fun _ _ => ⟨rfl, e118, (by decide : 2 + 0 ≤ _), (by decide : 41 + 0 ≤ _)⟩)
  dsimp only [Pt.U, Pt.locs, Pt.cells, Pt.slots] at X121 l121 y121 z121 st121 hQ121
  subst l121 y121 z121
  obtain ⟨zz121, rfl, F121, N121q, e121⟩ := hQ121
  have N121 := Fr.app N118 N121q
  obtain ⟨lc121, X121, N121⟩ := own_abs X121 N121
  refine own_of st121 ?_
  show own_Run p e below s _ _ _ (T121.setTop (mkF m 460 #[.val (.long x1), .second, .val (.long jk), .second, .val (.int a1), .val (.int b1), .val (.int c1), .val (.ref ob1), .val (.long nn), .second, .val (.int off), .val (.ref ob42), .unset, .unset, .unset, .unset, .unset, .unset] [(.int zz121), (.int (off + (13 : Int32))), (.ref ob42)]))
  obtain ⟨T122, h122, X122, e122, W122, V122, st122⟩ := own_bas X121 hx hZ e121 Vd13 (j := (off + (13 : Int32))) (x := zz121) (own_pos (own_ix off roff (13 : Int32) 13 rfl (by decide)).1) (own_nat (own_ix off roff (13 : Int32) 13 rfl (by decide)).1 (own_ix off roff (13 : Int32) 13 rfl (by decide)).2.1) (pc := 460) (Ls := #[.val (.long x1), .second, .val (.long jk), .second, .val (.int a1), .val (.int b1), .val (.int c1), .val (.ref ob1), .val (.long nn), .second, .val (.int off), .val (.ref ob42), .unset, .unset, .unset, .unset, .unset, .unset]) (rest := []) (hb hby at_460)
  have N122 := Fr.snoc X122 N121 g_ob42
  obtain ⟨lc122, X122, N122⟩ := own_abs X122 N122
  have f123 := f119.other W122 ne_ob1_ob42
  have Zz124 := Nat.le_trans Zz120 (Nat.le_of_eq W122.size.symm)
  refine own_of st122 ?_
  show own_Run p e below s _ _ _ (T122.setTop (mkF m 461 #[.val (.long x1), .second, .val (.long jk), .second, .val (.int a1), .val (.int b1), .val (.int c1), .val (.ref ob1), .val (.long nn), .second, .val (.int off), .val (.ref ob42), .unset, .unset, .unset, .unset, .unset, .unset] []))
  obtain ⟨fd14, hfd14⟩ : ∃ z, z = (own_up fd13 ((off + (13 : Int32))).toNatClampNeg zz121.toInt8.toInt32) := ⟨_, rfl⟩
  have Vd14 : own_Ar Z h122 ob42 .byte 22 fd14 := by rw [hfd14]; exact V122
  have D14 : own_dig fd14 nn.toInt.toNat off.toNatClampNeg 14 := by rw [hfd14]; exact own_dstep D13 F121 (own_ix off roff (13 : Int32) 13 rfl (by decide)).2.2.1
  refine own_of (fun _ hh_ => XS.aload X122.here hx rfl (hb hby at_461) rfl rfl hh_) ?_
  show own_Run p e below s _ _ _ (T122.setTop (mkF m 463 #[.val (.long x1), .second, .val (.long jk), .second, .val (.int a1), .val (.int b1), .val (.int c1), .val (.ref ob1), .val (.long nn), .second, .val (.int off), .val (.ref ob42), .unset, .unset, .unset, .unset, .unset, .unset] [(.ref ob42)]))
  refine own_of (fun _ hh_ => XS.iload X122.here hx rfl (hb hby at_463) rfl hh_) ?_
  show own_Run p e below s _ _ _ (T122.setTop (mkF m 465 #[.val (.long x1), .second, .val (.long jk), .second, .val (.int a1), .val (.int b1), .val (.int c1), .val (.ref ob1), .val (.long nn), .second, .val (.int off), .val (.ref ob42), .unset, .unset, .unset, .unset, .unset, .unset] [(.int off), (.ref ob42)]))
  refine own_of (fun _ hh_ => XS.bipush X122.here hx rfl (hb hby at_465) hh_) ?_
  show own_Run p e below s _ _ _ (T122.setTop (mkF m 467 #[.val (.long x1), .second, .val (.long jk), .second, .val (.int a1), .val (.int b1), .val (.int c1), .val (.ref ob1), .val (.long nn), .second, .val (.int off), .val (.ref ob42), .unset, .unset, .unset, .unset, .unset, .unset] [(.int (14 : Int32)), (.int off), (.ref ob42)]))
  refine own_of (fun _ hh_ => XS.iadd X122.here hx rfl (hb hby at_467) rfl hh_) ?_
  show own_Run p e below s _ _ _ (T122.setTop (mkF m 468 #[.val (.long x1), .second, .val (.long jk), .second, .val (.int a1), .val (.int b1), .val (.int c1), .val (.ref ob1), .val (.long nn), .second, .val (.int off), .val (.ref ob42), .unset, .unset, .unset, .unset, .unset, .unset] [(.int (off + (14 : Int32))), (.ref ob42)]))
  refine own_of (fun _ hh_ => XS.lload X122.here hx rfl (hb hby at_468) rfl hh_) ?_
  show own_Run p e below s _ _ _ (T122.setTop (mkF m 470 #[.val (.long x1), .second, .val (.long jk), .second, .val (.int a1), .val (.int b1), .val (.int c1), .val (.ref ob1), .val (.long nn), .second, .val (.int off), .val (.ref ob42), .unset, .unset, .unset, .unset, .unset, .unset] [(.long nn), (.int (off + (14 : Int32))), (.ref ob42)]))
  refine own_of (fun _ hh_ => XS.aload X122.here hx rfl (hb hby at_470) rfl rfl hh_) ?_
  show own_Run p e below s _ _ _ (T122.setTop (mkF m 472 #[.val (.long x1), .second, .val (.long jk), .second, .val (.int a1), .val (.int b1), .val (.int c1), .val (.ref ob1), .val (.long nn), .second, .val (.int off), .val (.ref ob42), .unset, .unset, .unset, .unset, .unset, .unset] [(.ref ob1), (.long nn), (.int (off + (14 : Int32))), (.ref ob42)]))
  refine own_of (fun _ hh_ => XS.bipush X122.here hx rfl (hb hby at_472) hh_) ?_
  show own_Run p e below s _ _ _ (T122.setTop (mkF m 474 #[.val (.long x1), .second, .val (.long jk), .second, .val (.int a1), .val (.int b1), .val (.int c1), .val (.ref ob1), .val (.long nn), .second, .val (.int off), .val (.ref ob42), .unset, .unset, .unset, .unset, .unset, .unset] [(.int (14 : Int32)), (.ref ob1), (.long nn), (.int (off + (14 : Int32))), (.ref ob42)]))
  obtain ⟨_, _, ⟨T125, L125, k125, n125⟩, -, X125, ⟨Lc125, hQ125, l125, y125, z125⟩, st125⟩ := Jvm.LawKit.callS X122 hx (y := (⟨"com/example/lanchid/lanchid/records/WholeNumberValuePinLaw", "digit", "(J[JI)B"⟩ : MethodName)) hown (mvT hZ (hw _ (List.mem_of_getElem? (i := 21) rfl))) (mvT hZ (hw _ (List.mem_of_getElem? (i := 22) rfl))) (mvT hZ (hw _ (List.mem_of_getElem? (i := 23) rfl))) (mvT hZ (hw _ (List.mem_of_getElem? (i := 24) rfl))) (by decide) (backOf (W := 2) (rmD l Z a0 hw [] nn ob1 (14 : Int32) 14 h122 n0 Zz124 f123 rnn.1 rfl (by decide)) hZ (hw _ (List.mem_of_getElem? (i := 24) rfl)) (hw _ (List.mem_of_getElem? (i := 23) rfl)) (by decide) (by decide)) (g := (mkF m 474 #[.val (.long x1), .second, .val (.long jk), .second, .val (.int a1), .val (.int b1), .val (.int c1), .val (.ref ob1), .val (.long nn), .second, .val (.int off), .val (.ref ob42), .unset, .unset, .unset, .unset, .unset, .unset] [(.int (14 : Int32)), (.ref ob1), (.long nn), (.int (off + (14 : Int32))), (.ref ob42)])) rfl (by rw [hml]; rfl) (argsL := [(.long nn), (.ref ob1), (.int (14 : Int32))]) (rest := [(.int (off + (14 : Int32))), (.ref ob42)]) (lenOf own_pd0 rfl) rfl (by show 2 * 0 + _ ≤ _; exact Nat.le_of_eq rfl) (hb hby at_474) (fun _ _ => ⟨rfl, e122, (by decide : 2 + 0 ≤ _), (by decide : 41 + 0 ≤ _)⟩)
  dsimp only [Pt.U, Pt.locs, Pt.cells, Pt.slots] at X125 l125 y125 z125 st125 hQ125
  subst l125 y125 z125
  obtain ⟨zz125, rfl, F125, N125q, e125⟩ := hQ125
  have N125 := Fr.app N122 N125q
  obtain ⟨lc125, X125, N125⟩ := own_abs X125 N125
  refine own_of st125 ?_
  show own_Run p e below s _ _ _ (T125.setTop (mkF m 477 #[.val (.long x1), .second, .val (.long jk), .second, .val (.int a1), .val (.int b1), .val (.int c1), .val (.ref ob1), .val (.long nn), .second, .val (.int off), .val (.ref ob42), .unset, .unset, .unset, .unset, .unset, .unset] [(.int zz125), (.int (off + (14 : Int32))), (.ref ob42)]))
  obtain ⟨T126, h126, X126, e126, W126, V126, st126⟩ := own_bas X125 hx hZ e125 Vd14 (j := (off + (14 : Int32))) (x := zz125) (own_pos (own_ix off roff (14 : Int32) 14 rfl (by decide)).1) (own_nat (own_ix off roff (14 : Int32) 14 rfl (by decide)).1 (own_ix off roff (14 : Int32) 14 rfl (by decide)).2.1) (pc := 477) (Ls := #[.val (.long x1), .second, .val (.long jk), .second, .val (.int a1), .val (.int b1), .val (.int c1), .val (.ref ob1), .val (.long nn), .second, .val (.int off), .val (.ref ob42), .unset, .unset, .unset, .unset, .unset, .unset]) (rest := []) (hb hby at_477)
  have N126 := Fr.snoc X126 N125 g_ob42
  obtain ⟨lc126, X126, N126⟩ := own_abs X126 N126
  have f127 := f123.other W126 ne_ob1_ob42
  have Zz128 := Nat.le_trans Zz124 (Nat.le_of_eq W126.size.symm)
  refine own_of st126 ?_
  show own_Run p e below s _ _ _ (T126.setTop (mkF m 478 #[.val (.long x1), .second, .val (.long jk), .second, .val (.int a1), .val (.int b1), .val (.int c1), .val (.ref ob1), .val (.long nn), .second, .val (.int off), .val (.ref ob42), .unset, .unset, .unset, .unset, .unset, .unset] []))
  obtain ⟨fd15, hfd15⟩ : ∃ z, z = (own_up fd14 ((off + (14 : Int32))).toNatClampNeg zz125.toInt8.toInt32) := ⟨_, rfl⟩
  have Vd15 : own_Ar Z h126 ob42 .byte 22 fd15 := by rw [hfd15]; exact V126
  have D15 : own_dig fd15 nn.toInt.toNat off.toNatClampNeg 15 := by rw [hfd15]; exact own_dstep D14 F125 (own_ix off roff (14 : Int32) 14 rfl (by decide)).2.2.1
  refine own_of (fun _ hh_ => XS.aload X126.here hx rfl (hb hby at_478) rfl rfl hh_) ?_
  show own_Run p e below s _ _ _ (T126.setTop (mkF m 480 #[.val (.long x1), .second, .val (.long jk), .second, .val (.int a1), .val (.int b1), .val (.int c1), .val (.ref ob1), .val (.long nn), .second, .val (.int off), .val (.ref ob42), .unset, .unset, .unset, .unset, .unset, .unset] [(.ref ob42)]))
  refine own_of (fun _ hh_ => XS.iload X126.here hx rfl (hb hby at_480) rfl hh_) ?_
  show own_Run p e below s _ _ _ (T126.setTop (mkF m 482 #[.val (.long x1), .second, .val (.long jk), .second, .val (.int a1), .val (.int b1), .val (.int c1), .val (.ref ob1), .val (.long nn), .second, .val (.int off), .val (.ref ob42), .unset, .unset, .unset, .unset, .unset, .unset] [(.int off), (.ref ob42)]))
  refine own_of (fun _ hh_ => XS.bipush X126.here hx rfl (hb hby at_482) hh_) ?_
  show own_Run p e below s _ _ _ (T126.setTop (mkF m 484 #[.val (.long x1), .second, .val (.long jk), .second, .val (.int a1), .val (.int b1), .val (.int c1), .val (.ref ob1), .val (.long nn), .second, .val (.int off), .val (.ref ob42), .unset, .unset, .unset, .unset, .unset, .unset] [(.int (15 : Int32)), (.int off), (.ref ob42)]))
  refine own_of (fun _ hh_ => XS.iadd X126.here hx rfl (hb hby at_484) rfl hh_) ?_
  show own_Run p e below s _ _ _ (T126.setTop (mkF m 485 #[.val (.long x1), .second, .val (.long jk), .second, .val (.int a1), .val (.int b1), .val (.int c1), .val (.ref ob1), .val (.long nn), .second, .val (.int off), .val (.ref ob42), .unset, .unset, .unset, .unset, .unset, .unset] [(.int (off + (15 : Int32))), (.ref ob42)]))
  refine own_of (fun _ hh_ => XS.lload X126.here hx rfl (hb hby at_485) rfl hh_) ?_
  show own_Run p e below s _ _ _ (T126.setTop (mkF m 487 #[.val (.long x1), .second, .val (.long jk), .second, .val (.int a1), .val (.int b1), .val (.int c1), .val (.ref ob1), .val (.long nn), .second, .val (.int off), .val (.ref ob42), .unset, .unset, .unset, .unset, .unset, .unset] [(.long nn), (.int (off + (15 : Int32))), (.ref ob42)]))
  refine own_of (fun _ hh_ => XS.aload X126.here hx rfl (hb hby at_487) rfl rfl hh_) ?_
  show own_Run p e below s _ _ _ (T126.setTop (mkF m 489 #[.val (.long x1), .second, .val (.long jk), .second, .val (.int a1), .val (.int b1), .val (.int c1), .val (.ref ob1), .val (.long nn), .second, .val (.int off), .val (.ref ob42), .unset, .unset, .unset, .unset, .unset, .unset] [(.ref ob1), (.long nn), (.int (off + (15 : Int32))), (.ref ob42)]))
  refine own_of (fun _ hh_ => XS.bipush X126.here hx rfl (hb hby at_489) hh_) ?_
  show own_Run p e below s _ _ _ (T126.setTop (mkF m 491 #[.val (.long x1), .second, .val (.long jk), .second, .val (.int a1), .val (.int b1), .val (.int c1), .val (.ref ob1), .val (.long nn), .second, .val (.int off), .val (.ref ob42), .unset, .unset, .unset, .unset, .unset, .unset] [(.int (15 : Int32)), (.ref ob1), (.long nn), (.int (off + (15 : Int32))), (.ref ob42)]))
  obtain ⟨_, _, ⟨T129, L129, k129, n129⟩, -, X129, ⟨Lc129, hQ129, l129, y129, z129⟩, st129⟩ := Jvm.LawKit.callS X126 hx (y := (⟨"com/example/lanchid/lanchid/records/WholeNumberValuePinLaw", "digit", "(J[JI)B"⟩ : MethodName)) hown (mvT hZ (hw _ (List.mem_of_getElem? (i := 21) rfl))) (mvT hZ (hw _ (List.mem_of_getElem? (i := 22) rfl))) (mvT hZ (hw _ (List.mem_of_getElem? (i := 23) rfl))) (mvT hZ (hw _ (List.mem_of_getElem? (i := 24) rfl))) (by decide) (backOf (W := 2) (rmD l Z a0 hw [] nn ob1 (15 : Int32) 15 h126 n0 Zz128 f127 rnn.1 rfl (by decide)) hZ (hw _ (List.mem_of_getElem? (i := 24) rfl)) (hw _ (List.mem_of_getElem? (i := 23) rfl)) (by decide) (by decide)) (g := (mkF m 491 #[.val (.long x1), .second, .val (.long jk), .second, .val (.int a1), .val (.int b1), .val (.int c1), .val (.ref ob1), .val (.long nn), .second, .val (.int off), .val (.ref ob42), .unset, .unset, .unset, .unset, .unset, .unset] [(.int (15 : Int32)), (.ref ob1), (.long nn), (.int (off + (15 : Int32))), (.ref ob42)])) rfl (by rw [hml]; rfl) (argsL := [(.long nn), (.ref ob1), (.int (15 : Int32))]) (rest := [(.int (off + (15 : Int32))), (.ref ob42)]) (lenOf own_pd0 rfl) rfl (by show 2 * 0 + _ ≤ _; exact Nat.le_of_eq rfl) (hb hby at_491) (fun _ _ => ⟨rfl, e126, (by decide : 2 + 0 ≤ _), (by decide : 41 + 0 ≤ _)⟩)
  dsimp only [Pt.U, Pt.locs, Pt.cells, Pt.slots] at X129 l129 y129 z129 st129 hQ129
  subst l129 y129 z129
  obtain ⟨zz129, rfl, F129, N129q, e129⟩ := hQ129
  have N129 := Fr.app N126 N129q
  obtain ⟨lc129, X129, N129⟩ := own_abs X129 N129
  refine own_of st129 ?_
  show own_Run p e below s _ _ _ (T129.setTop (mkF m 494 #[.val (.long x1), .second, .val (.long jk), .second, .val (.int a1), .val (.int b1), .val (.int c1), .val (.ref ob1), .val (.long nn), .second, .val (.int off), .val (.ref ob42), .unset, .unset, .unset, .unset, .unset, .unset] [(.int zz129), (.int (off + (15 : Int32))), (.ref ob42)]))
  obtain ⟨T130, h130, X130, e130, W130, V130, st130⟩ := own_bas X129 hx hZ e129 Vd15 (j := (off + (15 : Int32))) (x := zz129) (own_pos (own_ix off roff (15 : Int32) 15 rfl (by decide)).1) (own_nat (own_ix off roff (15 : Int32) 15 rfl (by decide)).1 (own_ix off roff (15 : Int32) 15 rfl (by decide)).2.1) (pc := 494) (Ls := #[.val (.long x1), .second, .val (.long jk), .second, .val (.int a1), .val (.int b1), .val (.int c1), .val (.ref ob1), .val (.long nn), .second, .val (.int off), .val (.ref ob42), .unset, .unset, .unset, .unset, .unset, .unset]) (rest := []) (hb hby at_494)
  have N130 := Fr.snoc X130 N129 g_ob42
  obtain ⟨lc130, X130, N130⟩ := own_abs X130 N130
  have f131 := f127.other W130 ne_ob1_ob42
  have Zz132 := Nat.le_trans Zz128 (Nat.le_of_eq W130.size.symm)
  refine own_of st130 ?_
  show own_Run p e below s _ _ _ (T130.setTop (mkF m 495 #[.val (.long x1), .second, .val (.long jk), .second, .val (.int a1), .val (.int b1), .val (.int c1), .val (.ref ob1), .val (.long nn), .second, .val (.int off), .val (.ref ob42), .unset, .unset, .unset, .unset, .unset, .unset] []))
  obtain ⟨fd16, hfd16⟩ : ∃ z, z = (own_up fd15 ((off + (15 : Int32))).toNatClampNeg zz129.toInt8.toInt32) := ⟨_, rfl⟩
  have Vd16 : own_Ar Z h130 ob42 .byte 22 fd16 := by rw [hfd16]; exact V130
  have D16 : own_dig fd16 nn.toInt.toNat off.toNatClampNeg 16 := by rw [hfd16]; exact own_dstep D15 F129 (own_ix off roff (15 : Int32) 15 rfl (by decide)).2.2.1
  refine own_of (fun _ hh_ => XS.aload X130.here hx rfl (hb hby at_495) rfl rfl hh_) ?_
  show own_Run p e below s _ _ _ (T130.setTop (mkF m 497 #[.val (.long x1), .second, .val (.long jk), .second, .val (.int a1), .val (.int b1), .val (.int c1), .val (.ref ob1), .val (.long nn), .second, .val (.int off), .val (.ref ob42), .unset, .unset, .unset, .unset, .unset, .unset] [(.ref ob42)]))
  refine own_of (fun _ hh_ => XS.iload X130.here hx rfl (hb hby at_497) rfl hh_) ?_
  show own_Run p e below s _ _ _ (T130.setTop (mkF m 499 #[.val (.long x1), .second, .val (.long jk), .second, .val (.int a1), .val (.int b1), .val (.int c1), .val (.ref ob1), .val (.long nn), .second, .val (.int off), .val (.ref ob42), .unset, .unset, .unset, .unset, .unset, .unset] [(.int off), (.ref ob42)]))
  refine own_of (fun _ hh_ => XS.bipush X130.here hx rfl (hb hby at_499) hh_) ?_
  show own_Run p e below s _ _ _ (T130.setTop (mkF m 501 #[.val (.long x1), .second, .val (.long jk), .second, .val (.int a1), .val (.int b1), .val (.int c1), .val (.ref ob1), .val (.long nn), .second, .val (.int off), .val (.ref ob42), .unset, .unset, .unset, .unset, .unset, .unset] [(.int (16 : Int32)), (.int off), (.ref ob42)]))
  refine own_of (fun _ hh_ => XS.iadd X130.here hx rfl (hb hby at_501) rfl hh_) ?_
  show own_Run p e below s _ _ _ (T130.setTop (mkF m 502 #[.val (.long x1), .second, .val (.long jk), .second, .val (.int a1), .val (.int b1), .val (.int c1), .val (.ref ob1), .val (.long nn), .second, .val (.int off), .val (.ref ob42), .unset, .unset, .unset, .unset, .unset, .unset] [(.int (off + (16 : Int32))), (.ref ob42)]))
  refine own_of (fun _ hh_ => XS.lload X130.here hx rfl (hb hby at_502) rfl hh_) ?_
  show own_Run p e below s _ _ _ (T130.setTop (mkF m 504 #[.val (.long x1), .second, .val (.long jk), .second, .val (.int a1), .val (.int b1), .val (.int c1), .val (.ref ob1), .val (.long nn), .second, .val (.int off), .val (.ref ob42), .unset, .unset, .unset, .unset, .unset, .unset] [(.long nn), (.int (off + (16 : Int32))), (.ref ob42)]))
  refine own_of (fun _ hh_ => XS.aload X130.here hx rfl (hb hby at_504) rfl rfl hh_) ?_
  show own_Run p e below s _ _ _ (T130.setTop (mkF m 506 #[.val (.long x1), .second, .val (.long jk), .second, .val (.int a1), .val (.int b1), .val (.int c1), .val (.ref ob1), .val (.long nn), .second, .val (.int off), .val (.ref ob42), .unset, .unset, .unset, .unset, .unset, .unset] [(.ref ob1), (.long nn), (.int (off + (16 : Int32))), (.ref ob42)]))
  refine own_of (fun _ hh_ => XS.bipush X130.here hx rfl (hb hby at_506) hh_) ?_
  show own_Run p e below s _ _ _ (T130.setTop (mkF m 508 #[.val (.long x1), .second, .val (.long jk), .second, .val (.int a1), .val (.int b1), .val (.int c1), .val (.ref ob1), .val (.long nn), .second, .val (.int off), .val (.ref ob42), .unset, .unset, .unset, .unset, .unset, .unset] [(.int (16 : Int32)), (.ref ob1), (.long nn), (.int (off + (16 : Int32))), (.ref ob42)]))
  obtain ⟨_, _, ⟨T133, L133, k133, n133⟩, -, X133, ⟨Lc133, hQ133, l133, y133, z133⟩, st133⟩ := Jvm.LawKit.callS X130 hx (y := (⟨"com/example/lanchid/lanchid/records/WholeNumberValuePinLaw", "digit", "(J[JI)B"⟩ : MethodName)) hown (mvT hZ (hw _ (List.mem_of_getElem? (i := 21) rfl))) (mvT hZ (hw _ (List.mem_of_getElem? (i := 22) rfl))) (mvT hZ (hw _ (List.mem_of_getElem? (i := 23) rfl))) (mvT hZ (hw _ (List.mem_of_getElem? (i := 24) rfl))) (by decide) (backOf (W := 2) (rmD l Z a0 hw [] nn ob1 (16 : Int32) 16 h130 n0 Zz132 f131 rnn.1 rfl (by decide)) hZ (hw _ (List.mem_of_getElem? (i := 24) rfl)) (hw _ (List.mem_of_getElem? (i := 23) rfl)) (by decide) (by decide)) (g := (mkF m 508 #[.val (.long x1), .second, .val (.long jk), .second, .val (.int a1), .val (.int b1), .val (.int c1), .val (.ref ob1), .val (.long nn), .second, .val (.int off), .val (.ref ob42), .unset, .unset, .unset, .unset, .unset, .unset] [(.int (16 : Int32)), (.ref ob1), (.long nn), (.int (off + (16 : Int32))), (.ref ob42)])) rfl (by rw [hml]; rfl) (argsL := [(.long nn), (.ref ob1), (.int (16 : Int32))]) (rest := [(.int (off + (16 : Int32))), (.ref ob42)]) (lenOf own_pd0 rfl) rfl (by show 2 * 0 + _ ≤ _; exact Nat.le_of_eq rfl) (hb hby at_508) (fun _ _ => ⟨rfl, e130, (by decide : 2 + 0 ≤ _), (by decide : 41 + 0 ≤ _)⟩)
  dsimp only [Pt.U, Pt.locs, Pt.cells, Pt.slots] at X133 l133 y133 z133 st133 hQ133
  subst l133 y133 z133
  obtain ⟨zz133, rfl, F133, N133q, e133⟩ := hQ133
  have N133 := Fr.app N130 N133q
  obtain ⟨lc133, X133, N133⟩ := own_abs X133 N133
  refine own_of st133 ?_
  show own_Run p e below s _ _ _ (T133.setTop (mkF m 511 #[.val (.long x1), .second, .val (.long jk), .second, .val (.int a1), .val (.int b1), .val (.int c1), .val (.ref ob1), .val (.long nn), .second, .val (.int off), .val (.ref ob42), .unset, .unset, .unset, .unset, .unset, .unset] [(.int zz133), (.int (off + (16 : Int32))), (.ref ob42)]))
  obtain ⟨T134, h134, X134, e134, W134, V134, st134⟩ := own_bas X133 hx hZ e133 Vd16 (j := (off + (16 : Int32))) (x := zz133) (own_pos (own_ix off roff (16 : Int32) 16 rfl (by decide)).1) (own_nat (own_ix off roff (16 : Int32) 16 rfl (by decide)).1 (own_ix off roff (16 : Int32) 16 rfl (by decide)).2.1) (pc := 511) (Ls := #[.val (.long x1), .second, .val (.long jk), .second, .val (.int a1), .val (.int b1), .val (.int c1), .val (.ref ob1), .val (.long nn), .second, .val (.int off), .val (.ref ob42), .unset, .unset, .unset, .unset, .unset, .unset]) (rest := []) (hb hby at_511)
  have N134 := Fr.snoc X134 N133 g_ob42
  obtain ⟨lc134, X134, N134⟩ := own_abs X134 N134
  have f135 := f131.other W134 ne_ob1_ob42
  have Zz136 := Nat.le_trans Zz132 (Nat.le_of_eq W134.size.symm)
  refine own_of st134 ?_
  show own_Run p e below s _ _ _ (T134.setTop (mkF m 512 #[.val (.long x1), .second, .val (.long jk), .second, .val (.int a1), .val (.int b1), .val (.int c1), .val (.ref ob1), .val (.long nn), .second, .val (.int off), .val (.ref ob42), .unset, .unset, .unset, .unset, .unset, .unset] []))
  obtain ⟨fd17, hfd17⟩ : ∃ z, z = (own_up fd16 ((off + (16 : Int32))).toNatClampNeg zz133.toInt8.toInt32) := ⟨_, rfl⟩
  have Vd17 : own_Ar Z h134 ob42 .byte 22 fd17 := by rw [hfd17]; exact V134
  have D17 : own_dig fd17 nn.toInt.toNat off.toNatClampNeg 17 := by rw [hfd17]; exact own_dstep D16 F133 (own_ix off roff (16 : Int32) 16 rfl (by decide)).2.2.1
  refine own_of (fun _ hh_ => XS.aload X134.here hx rfl (hb hby at_512) rfl rfl hh_) ?_
  show own_Run p e below s _ _ _ (T134.setTop (mkF m 514 #[.val (.long x1), .second, .val (.long jk), .second, .val (.int a1), .val (.int b1), .val (.int c1), .val (.ref ob1), .val (.long nn), .second, .val (.int off), .val (.ref ob42), .unset, .unset, .unset, .unset, .unset, .unset] [(.ref ob42)]))
  refine own_of (fun _ hh_ => XS.iload X134.here hx rfl (hb hby at_514) rfl hh_) ?_
  show own_Run p e below s _ _ _ (T134.setTop (mkF m 516 #[.val (.long x1), .second, .val (.long jk), .second, .val (.int a1), .val (.int b1), .val (.int c1), .val (.ref ob1), .val (.long nn), .second, .val (.int off), .val (.ref ob42), .unset, .unset, .unset, .unset, .unset, .unset] [(.int off), (.ref ob42)]))
  refine own_of (fun _ hh_ => XS.bipush X134.here hx rfl (hb hby at_516) hh_) ?_
  show own_Run p e below s _ _ _ (T134.setTop (mkF m 518 #[.val (.long x1), .second, .val (.long jk), .second, .val (.int a1), .val (.int b1), .val (.int c1), .val (.ref ob1), .val (.long nn), .second, .val (.int off), .val (.ref ob42), .unset, .unset, .unset, .unset, .unset, .unset] [(.int (17 : Int32)), (.int off), (.ref ob42)]))
  refine own_of (fun _ hh_ => XS.iadd X134.here hx rfl (hb hby at_518) rfl hh_) ?_
  show own_Run p e below s _ _ _ (T134.setTop (mkF m 519 #[.val (.long x1), .second, .val (.long jk), .second, .val (.int a1), .val (.int b1), .val (.int c1), .val (.ref ob1), .val (.long nn), .second, .val (.int off), .val (.ref ob42), .unset, .unset, .unset, .unset, .unset, .unset] [(.int (off + (17 : Int32))), (.ref ob42)]))
  refine own_of (fun _ hh_ => XS.lload X134.here hx rfl (hb hby at_519) rfl hh_) ?_
  show own_Run p e below s _ _ _ (T134.setTop (mkF m 521 #[.val (.long x1), .second, .val (.long jk), .second, .val (.int a1), .val (.int b1), .val (.int c1), .val (.ref ob1), .val (.long nn), .second, .val (.int off), .val (.ref ob42), .unset, .unset, .unset, .unset, .unset, .unset] [(.long nn), (.int (off + (17 : Int32))), (.ref ob42)]))
  refine own_of (fun _ hh_ => XS.aload X134.here hx rfl (hb hby at_521) rfl rfl hh_) ?_
  show own_Run p e below s _ _ _ (T134.setTop (mkF m 523 #[.val (.long x1), .second, .val (.long jk), .second, .val (.int a1), .val (.int b1), .val (.int c1), .val (.ref ob1), .val (.long nn), .second, .val (.int off), .val (.ref ob42), .unset, .unset, .unset, .unset, .unset, .unset] [(.ref ob1), (.long nn), (.int (off + (17 : Int32))), (.ref ob42)]))
  refine own_of (fun _ hh_ => XS.bipush X134.here hx rfl (hb hby at_523) hh_) ?_
  show own_Run p e below s _ _ _ (T134.setTop (mkF m 525 #[.val (.long x1), .second, .val (.long jk), .second, .val (.int a1), .val (.int b1), .val (.int c1), .val (.ref ob1), .val (.long nn), .second, .val (.int off), .val (.ref ob42), .unset, .unset, .unset, .unset, .unset, .unset] [(.int (17 : Int32)), (.ref ob1), (.long nn), (.int (off + (17 : Int32))), (.ref ob42)]))
  obtain ⟨_, _, ⟨T137, L137, k137, n137⟩, -, X137, ⟨Lc137, hQ137, l137, y137, z137⟩, st137⟩ := Jvm.LawKit.callS X134 hx (y := (⟨"com/example/lanchid/lanchid/records/WholeNumberValuePinLaw", "digit", "(J[JI)B"⟩ : MethodName)) hown (mvT hZ (hw _ (List.mem_of_getElem? (i := 21) rfl))) (mvT hZ (hw _ (List.mem_of_getElem? (i := 22) rfl))) (mvT hZ (hw _ (List.mem_of_getElem? (i := 23) rfl))) (mvT hZ (hw _ (List.mem_of_getElem? (i := 24) rfl))) (by decide) (backOf (W := 2) (rmD l Z a0 hw [] nn ob1 (17 : Int32) 17 h134 n0 Zz136 f135 rnn.1 rfl (by decide)) hZ (hw _ (List.mem_of_getElem? (i := 24) rfl)) (hw _ (List.mem_of_getElem? (i := 23) rfl)) (by decide) (by decide)) (g := (mkF m 525 #[.val (.long x1), .second, .val (.long jk), .second, .val (.int a1), .val (.int b1), .val (.int c1), .val (.ref ob1), .val (.long nn), .second, .val (.int off), .val (.ref ob42), .unset, .unset, .unset, .unset, .unset, .unset] [(.int (17 : Int32)), (.ref ob1), (.long nn), (.int (off + (17 : Int32))), (.ref ob42)])) rfl (by rw [hml]; rfl) (argsL := [(.long nn), (.ref ob1), (.int (17 : Int32))]) (rest := [(.int (off + (17 : Int32))), (.ref ob42)]) (lenOf own_pd0 rfl) rfl (by show 2 * 0 + _ ≤ _; exact Nat.le_of_eq rfl) (hb hby at_525) (fun _ _ => ⟨rfl, e134, (by decide : 2 + 0 ≤ _), (by decide : 41 + 0 ≤ _)⟩)
  dsimp only [Pt.U, Pt.locs, Pt.cells, Pt.slots] at X137 l137 y137 z137 st137 hQ137
  subst l137 y137 z137
  obtain ⟨zz137, rfl, F137, N137q, e137⟩ := hQ137
  have N137 := Fr.app N134 N137q
  obtain ⟨lc137, X137, N137⟩ := own_abs X137 N137
  refine own_of st137 ?_
  show own_Run p e below s _ _ _ (T137.setTop (mkF m 528 #[.val (.long x1), .second, .val (.long jk), .second, .val (.int a1), .val (.int b1), .val (.int c1), .val (.ref ob1), .val (.long nn), .second, .val (.int off), .val (.ref ob42), .unset, .unset, .unset, .unset, .unset, .unset] [(.int zz137), (.int (off + (17 : Int32))), (.ref ob42)]))
  obtain ⟨T138, h138, X138, e138, W138, V138, st138⟩ := own_bas X137 hx hZ e137 Vd17 (j := (off + (17 : Int32))) (x := zz137) (own_pos (own_ix off roff (17 : Int32) 17 rfl (by decide)).1) (own_nat (own_ix off roff (17 : Int32) 17 rfl (by decide)).1 (own_ix off roff (17 : Int32) 17 rfl (by decide)).2.1) (pc := 528) (Ls := #[.val (.long x1), .second, .val (.long jk), .second, .val (.int a1), .val (.int b1), .val (.int c1), .val (.ref ob1), .val (.long nn), .second, .val (.int off), .val (.ref ob42), .unset, .unset, .unset, .unset, .unset, .unset]) (rest := []) (hb hby at_528)
  have N138 := Fr.snoc X138 N137 g_ob42
  obtain ⟨lc138, X138, N138⟩ := own_abs X138 N138
  have f139 := f135.other W138 ne_ob1_ob42
  have Zz140 := Nat.le_trans Zz136 (Nat.le_of_eq W138.size.symm)
  refine own_of st138 ?_
  show own_Run p e below s _ _ _ (T138.setTop (mkF m 529 #[.val (.long x1), .second, .val (.long jk), .second, .val (.int a1), .val (.int b1), .val (.int c1), .val (.ref ob1), .val (.long nn), .second, .val (.int off), .val (.ref ob42), .unset, .unset, .unset, .unset, .unset, .unset] []))
  obtain ⟨fd18, hfd18⟩ : ∃ z, z = (own_up fd17 ((off + (17 : Int32))).toNatClampNeg zz137.toInt8.toInt32) := ⟨_, rfl⟩
  have Vd18 : own_Ar Z h138 ob42 .byte 22 fd18 := by rw [hfd18]; exact V138
  have D18 : own_dig fd18 nn.toInt.toNat off.toNatClampNeg 18 := by rw [hfd18]; exact own_dstep D17 F137 (own_ix off roff (17 : Int32) 17 rfl (by decide)).2.2.1
  refine own_of (fun _ hh_ => XS.iload X138.here hx rfl (hb hby at_529) rfl hh_) ?_
  show own_Run p e below s _ _ _ (T138.setTop (mkF m 531 #[.val (.long x1), .second, .val (.long jk), .second, .val (.int a1), .val (.int b1), .val (.int c1), .val (.ref ob1), .val (.long nn), .second, .val (.int off), .val (.ref ob42), .unset, .unset, .unset, .unset, .unset, .unset] [(.int a1)]))
  refine own_of (X138.ldcInt hx hown (mvT hZ (hw _ (List.mem_of_getElem? (i := 26) rfl))) (g := (mkF m 531 #[.val (.long x1), .second, .val (.long jk), .second, .val (.int a1), .val (.int b1), .val (.int c1), .val (.ref ob1), .val (.long nn), .second, .val (.int off), .val (.ref ob42), .unset, .unset, .unset, .unset, .unset, .unset] [(.int a1)])) rfl (hb hby at_531)) ?_
  show own_Run p e below s _ _ _ (T138.setTop (mkF m 533 #[.val (.long x1), .second, .val (.long jk), .second, .val (.int a1), .val (.int b1), .val (.int c1), .val (.ref ob1), .val (.long nn), .second, .val (.int off), .val (.ref ob42), .unset, .unset, .unset, .unset, .unset, .unset] [(.int (2147483647 : Int32)), (.int a1)]))
  refine own_of (fun _ hh_ => XS.iand X138.here hx rfl (hb hby at_533) rfl hh_) ?_
  show own_Run p e below s _ _ _ (T138.setTop (mkF m 534 #[.val (.long x1), .second, .val (.long jk), .second, .val (.int a1), .val (.int b1), .val (.int c1), .val (.ref ob1), .val (.long nn), .second, .val (.int off), .val (.ref ob42), .unset, .unset, .unset, .unset, .unset, .unset] [(.int (a1 &&& (2147483647 : Int32)))]))
  refine own_of (fun _ hh_ => XS.bipush X138.here hx rfl (hb hby at_534) hh_) ?_
  show own_Run p e below s _ _ _ (T138.setTop (mkF m 536 #[.val (.long x1), .second, .val (.long jk), .second, .val (.int a1), .val (.int b1), .val (.int c1), .val (.ref ob1), .val (.long nn), .second, .val (.int off), .val (.ref ob42), .unset, .unset, .unset, .unset, .unset, .unset] [(.int (19 : Int32)), (.int (a1 &&& (2147483647 : Int32)))]))
  refine own_of (fun _ hh_ => Jvm.RoadKit.iremM (g := (mkF m 536 #[.val (.long x1), .second, .val (.long jk), .second, .val (.int a1), .val (.int b1), .val (.int c1), .val (.ref ob1), .val (.long nn), .second, .val (.int off), .val (.ref ob42), .unset, .unset, .unset, .unset, .unset, .unset] [(.int (19 : Int32)), (.int (a1 &&& (2147483647 : Int32)))])) X138 hx rfl (hb hby at_536) rfl (by decide) hh_) ?_
  show own_Run p e below s _ _ _ (T138.setTop (mkF m 537 #[.val (.long x1), .second, .val (.long jk), .second, .val (.int a1), .val (.int b1), .val (.int c1), .val (.ref ob1), .val (.long nn), .second, .val (.int off), .val (.ref ob42), .unset, .unset, .unset, .unset, .unset, .unset] [(.int ((a1 &&& (2147483647 : Int32)) % (19 : Int32)))]))
  refine own_of (fun _ hh_ => XS.istore X138.here hx rfl (hb hby at_537) rfl (l' := #[.val (.long x1), .second, .val (.long jk), .second, .val (.int a1), .val (.int b1), .val (.int c1), .val (.ref ob1), .val (.long nn), .second, .val (.int off), .val (.ref ob42), .val (.int ((a1 &&& (2147483647 : Int32)) % (19 : Int32))), .unset, .unset, .unset, .unset, .unset]) rfl hh_) ?_
  show own_Run p e below s _ _ _ (T138.setTop (mkF m 539 #[.val (.long x1), .second, .val (.long jk), .second, .val (.int a1), .val (.int b1), .val (.int c1), .val (.ref ob1), .val (.long nn), .second, .val (.int off), .val (.ref ob42), .val (.int ((a1 &&& (2147483647 : Int32)) % (19 : Int32))), .unset, .unset, .unset, .unset, .unset] []))
  refine own_of (fun _ hh_ => XS.iload X138.here hx rfl (hb hby at_539) rfl hh_) ?_
  show own_Run p e below s _ _ _ (T138.setTop (mkF m 541 #[.val (.long x1), .second, .val (.long jk), .second, .val (.int a1), .val (.int b1), .val (.int c1), .val (.ref ob1), .val (.long nn), .second, .val (.int off), .val (.ref ob42), .val (.int ((a1 &&& (2147483647 : Int32)) % (19 : Int32))), .unset, .unset, .unset, .unset, .unset] [(.int b1)]))
  refine own_of (X138.ldcInt hx hown (mvT hZ (hw _ (List.mem_of_getElem? (i := 26) rfl))) (g := (mkF m 541 #[.val (.long x1), .second, .val (.long jk), .second, .val (.int a1), .val (.int b1), .val (.int c1), .val (.ref ob1), .val (.long nn), .second, .val (.int off), .val (.ref ob42), .val (.int ((a1 &&& (2147483647 : Int32)) % (19 : Int32))), .unset, .unset, .unset, .unset, .unset] [(.int b1)])) rfl (hb hby at_541)) ?_
  show own_Run p e below s _ _ _ (T138.setTop (mkF m 543 #[.val (.long x1), .second, .val (.long jk), .second, .val (.int a1), .val (.int b1), .val (.int c1), .val (.ref ob1), .val (.long nn), .second, .val (.int off), .val (.ref ob42), .val (.int ((a1 &&& (2147483647 : Int32)) % (19 : Int32))), .unset, .unset, .unset, .unset, .unset] [(.int (2147483647 : Int32)), (.int b1)]))
  refine own_of (fun _ hh_ => XS.iand X138.here hx rfl (hb hby at_543) rfl hh_) ?_
  show own_Run p e below s _ _ _ (T138.setTop (mkF m 544 #[.val (.long x1), .second, .val (.long jk), .second, .val (.int a1), .val (.int b1), .val (.int c1), .val (.ref ob1), .val (.long nn), .second, .val (.int off), .val (.ref ob42), .val (.int ((a1 &&& (2147483647 : Int32)) % (19 : Int32))), .unset, .unset, .unset, .unset, .unset] [(.int (b1 &&& (2147483647 : Int32)))]))
  refine own_of (fun _ hh_ => XS.bipush X138.here hx rfl (hb hby at_544) hh_) ?_
  show own_Run p e below s _ _ _ (T138.setTop (mkF m 546 #[.val (.long x1), .second, .val (.long jk), .second, .val (.int a1), .val (.int b1), .val (.int c1), .val (.ref ob1), .val (.long nn), .second, .val (.int off), .val (.ref ob42), .val (.int ((a1 &&& (2147483647 : Int32)) % (19 : Int32))), .unset, .unset, .unset, .unset, .unset] [(.int (19 : Int32)), (.int (b1 &&& (2147483647 : Int32)))]))
  refine own_of (fun _ hh_ => Jvm.RoadKit.iremM (g := (mkF m 546 #[.val (.long x1), .second, .val (.long jk), .second, .val (.int a1), .val (.int b1), .val (.int c1), .val (.ref ob1), .val (.long nn), .second, .val (.int off), .val (.ref ob42), .val (.int ((a1 &&& (2147483647 : Int32)) % (19 : Int32))), .unset, .unset, .unset, .unset, .unset] [(.int (19 : Int32)), (.int (b1 &&& (2147483647 : Int32)))])) X138 hx rfl (hb hby at_546) rfl (by decide) hh_) ?_
  show own_Run p e below s _ _ _ (T138.setTop (mkF m 547 #[.val (.long x1), .second, .val (.long jk), .second, .val (.int a1), .val (.int b1), .val (.int c1), .val (.ref ob1), .val (.long nn), .second, .val (.int off), .val (.ref ob42), .val (.int ((a1 &&& (2147483647 : Int32)) % (19 : Int32))), .unset, .unset, .unset, .unset, .unset] [(.int ((b1 &&& (2147483647 : Int32)) % (19 : Int32)))]))
  refine own_of (fun _ hh_ => XS.istore X138.here hx rfl (hb hby at_547) rfl (l' := #[.val (.long x1), .second, .val (.long jk), .second, .val (.int a1), .val (.int b1), .val (.int c1), .val (.ref ob1), .val (.long nn), .second, .val (.int off), .val (.ref ob42), .val (.int ((a1 &&& (2147483647 : Int32)) % (19 : Int32))), .val (.int ((b1 &&& (2147483647 : Int32)) % (19 : Int32))), .unset, .unset, .unset, .unset]) rfl hh_) ?_
  show own_Run p e below s _ _ _ (T138.setTop (mkF m 549 #[.val (.long x1), .second, .val (.long jk), .second, .val (.int a1), .val (.int b1), .val (.int c1), .val (.ref ob1), .val (.long nn), .second, .val (.int off), .val (.ref ob42), .val (.int ((a1 &&& (2147483647 : Int32)) % (19 : Int32))), .val (.int ((b1 &&& (2147483647 : Int32)) % (19 : Int32))), .unset, .unset, .unset, .unset] []))
  refine own_of (fun _ hh_ => XS.iload X138.here hx rfl (hb hby at_549) rfl hh_) ?_
  show own_Run p e below s _ _ _ (T138.setTop (mkF m 551 #[.val (.long x1), .second, .val (.long jk), .second, .val (.int a1), .val (.int b1), .val (.int c1), .val (.ref ob1), .val (.long nn), .second, .val (.int off), .val (.ref ob42), .val (.int ((a1 &&& (2147483647 : Int32)) % (19 : Int32))), .val (.int ((b1 &&& (2147483647 : Int32)) % (19 : Int32))), .unset, .unset, .unset, .unset] [(.int ((a1 &&& (2147483647 : Int32)) % (19 : Int32)))]))
  refine own_of (fun _ hh_ => XS.iload X138.here hx rfl (hb hby at_551) rfl hh_) ?_
  show own_Run p e below s _ _ _ (T138.setTop (mkF m 553 #[.val (.long x1), .second, .val (.long jk), .second, .val (.int a1), .val (.int b1), .val (.int c1), .val (.ref ob1), .val (.long nn), .second, .val (.int off), .val (.ref ob42), .val (.int ((a1 &&& (2147483647 : Int32)) % (19 : Int32))), .val (.int ((b1 &&& (2147483647 : Int32)) % (19 : Int32))), .unset, .unset, .unset, .unset] [(.int ((b1 &&& (2147483647 : Int32)) % (19 : Int32))), (.int ((a1 &&& (2147483647 : Int32)) % (19 : Int32)))]))
  obtain ⟨_, _, ⟨T141, L141, k141, n141⟩, -, X141, ⟨Lc141, hQ141, l141, y141, z141⟩, st141⟩ := Jvm.LawKit.callS X138 hx (y := (⟨"java/lang/Math", "min", "(II)I"⟩ : MethodName)) hown (mvT hZ (hw _ (List.mem_of_getElem? (i := 27) rfl))) (mvT hZ (hw _ (List.mem_of_getElem? (i := 28) rfl))) (mvT hZ (hw _ (List.mem_of_getElem? (i := 29) rfl))) (mvT hZ (hw _ (List.mem_of_getElem? (i := 30) rfl))) (by decide) (backOf (W := 0) (rmm l Z a0 hw [] ((a1 &&& (2147483647 : Int32)) % (19 : Int32)) ((b1 &&& (2147483647 : Int32)) % (19 : Int32)) h138 n0 Zz140) hZ (hw _ (List.mem_of_getElem? (i := 30) rfl)) (hw _ (List.mem_of_getElem? (i := 29) rfl)) (by decide) (by decide)) (g := (mkF m 553 #[.val (.long x1), .second, .val (.long jk), .second, .val (.int a1), .val (.int b1), .val (.int c1), .val (.ref ob1), .val (.long nn), .second, .val (.int off), .val (.ref ob42), .val (.int ((a1 &&& (2147483647 : Int32)) % (19 : Int32))), .val (.int ((b1 &&& (2147483647 : Int32)) % (19 : Int32))), .unset, .unset, .unset, .unset] [(.int ((b1 &&& (2147483647 : Int32)) % (19 : Int32))), (.int ((a1 &&& (2147483647 : Int32)) % (19 : Int32)))])) rfl (by rw [hml]; rfl) (argsL := [(.int ((a1 &&& (2147483647 : Int32)) % (19 : Int32))), (.int ((b1 &&& (2147483647 : Int32)) % (19 : Int32)))]) (rest := []) (lenOf own_pd1 rfl) rfl (by show 2 * 0 + _ ≤ _; exact Nat.le_of_eq rfl) (hb hby at_553) (fun _ _ => ⟨rfl, e138, (by decide : 2 + 0 ≤ _), (by decide : 41 + 0 ≤ _)⟩)
  dsimp only [Pt.U, Pt.locs, Pt.cells, Pt.slots] at X141 l141 y141 z141 st141 hQ141
  subst l141 y141 z141
  obtain ⟨rfl, N141q, e141⟩ := hQ141
  have N141 := Fr.app N138 N141q
  obtain ⟨lc141, X141, N141⟩ := own_abs X141 N141
  refine own_of st141 ?_
  show own_Run p e below s _ _ _ (T141.setTop (mkF m 556 #[.val (.long x1), .second, .val (.long jk), .second, .val (.int a1), .val (.int b1), .val (.int c1), .val (.ref ob1), .val (.long nn), .second, .val (.int off), .val (.ref ob42), .val (.int ((a1 &&& (2147483647 : Int32)) % (19 : Int32))), .val (.int ((b1 &&& (2147483647 : Int32)) % (19 : Int32))), .unset, .unset, .unset, .unset] [(.int (own_minI ((a1 &&& (2147483647 : Int32)) % (19 : Int32)) ((b1 &&& (2147483647 : Int32)) % (19 : Int32))))]))
  generalize hlo : (own_minI ((a1 &&& (2147483647 : Int32)) % (19 : Int32)) ((b1 &&& (2147483647 : Int32)) % (19 : Int32))) = lo
  show own_Run p e below s _ _ _ (T141.setTop (mkF m 556 #[.val (.long x1), .second, .val (.long jk), .second, .val (.int a1), .val (.int b1), .val (.int c1), .val (.ref ob1), .val (.long nn), .second, .val (.int off), .val (.ref ob42), .val (.int ((a1 &&& (2147483647 : Int32)) % (19 : Int32))), .val (.int ((b1 &&& (2147483647 : Int32)) % (19 : Int32))), .unset, .unset, .unset, .unset] [(.int lo)]))
  refine own_of (fun _ hh_ => XS.istore X141.here hx rfl (hb hby at_556) rfl (l' := #[.val (.long x1), .second, .val (.long jk), .second, .val (.int a1), .val (.int b1), .val (.int c1), .val (.ref ob1), .val (.long nn), .second, .val (.int off), .val (.ref ob42), .val (.int ((a1 &&& (2147483647 : Int32)) % (19 : Int32))), .val (.int ((b1 &&& (2147483647 : Int32)) % (19 : Int32))), .val (.int lo), .unset, .unset, .unset]) rfl hh_) ?_
  show own_Run p e below s _ _ _ (T141.setTop (mkF m 558 #[.val (.long x1), .second, .val (.long jk), .second, .val (.int a1), .val (.int b1), .val (.int c1), .val (.ref ob1), .val (.long nn), .second, .val (.int off), .val (.ref ob42), .val (.int ((a1 &&& (2147483647 : Int32)) % (19 : Int32))), .val (.int ((b1 &&& (2147483647 : Int32)) % (19 : Int32))), .val (.int lo), .unset, .unset, .unset] []))
  refine own_of (fun _ hh_ => XS.iload X141.here hx rfl (hb hby at_558) rfl hh_) ?_
  show own_Run p e below s _ _ _ (T141.setTop (mkF m 560 #[.val (.long x1), .second, .val (.long jk), .second, .val (.int a1), .val (.int b1), .val (.int c1), .val (.ref ob1), .val (.long nn), .second, .val (.int off), .val (.ref ob42), .val (.int ((a1 &&& (2147483647 : Int32)) % (19 : Int32))), .val (.int ((b1 &&& (2147483647 : Int32)) % (19 : Int32))), .val (.int lo), .unset, .unset, .unset] [(.int ((a1 &&& (2147483647 : Int32)) % (19 : Int32)))]))
  refine own_of (fun _ hh_ => XS.iload X141.here hx rfl (hb hby at_560) rfl hh_) ?_
  show own_Run p e below s _ _ _ (T141.setTop (mkF m 562 #[.val (.long x1), .second, .val (.long jk), .second, .val (.int a1), .val (.int b1), .val (.int c1), .val (.ref ob1), .val (.long nn), .second, .val (.int off), .val (.ref ob42), .val (.int ((a1 &&& (2147483647 : Int32)) % (19 : Int32))), .val (.int ((b1 &&& (2147483647 : Int32)) % (19 : Int32))), .val (.int lo), .unset, .unset, .unset] [(.int ((b1 &&& (2147483647 : Int32)) % (19 : Int32))), (.int ((a1 &&& (2147483647 : Int32)) % (19 : Int32)))]))
  obtain ⟨_, _, ⟨T142, L142, k142, n142⟩, -, X142, ⟨Lc142, hQ142, l142, y142, z142⟩, st142⟩ := Jvm.LawKit.callS X141 hx (y := (⟨"java/lang/Math", "max", "(II)I"⟩ : MethodName)) hown (mvT hZ (hw _ (List.mem_of_getElem? (i := 31) rfl))) (mvT hZ (hw _ (List.mem_of_getElem? (i := 32) rfl))) (mvT hZ (hw _ (List.mem_of_getElem? (i := 29) rfl))) (mvT hZ (hw _ (List.mem_of_getElem? (i := 33) rfl))) (by decide) (backOf (W := 0) (rmM l Z a0 hw [] ((a1 &&& (2147483647 : Int32)) % (19 : Int32)) ((b1 &&& (2147483647 : Int32)) % (19 : Int32)) h138 n0 Zz140) hZ (hw _ (List.mem_of_getElem? (i := 33) rfl)) (hw _ (List.mem_of_getElem? (i := 29) rfl)) (by decide) (by decide)) (g := (mkF m 562 #[.val (.long x1), .second, .val (.long jk), .second, .val (.int a1), .val (.int b1), .val (.int c1), .val (.ref ob1), .val (.long nn), .second, .val (.int off), .val (.ref ob42), .val (.int ((a1 &&& (2147483647 : Int32)) % (19 : Int32))), .val (.int ((b1 &&& (2147483647 : Int32)) % (19 : Int32))), .val (.int lo), .unset, .unset, .unset] [(.int ((b1 &&& (2147483647 : Int32)) % (19 : Int32))), (.int ((a1 &&& (2147483647 : Int32)) % (19 : Int32)))])) rfl (by rw [hml]; rfl) (argsL := [(.int ((a1 &&& (2147483647 : Int32)) % (19 : Int32))), (.int ((b1 &&& (2147483647 : Int32)) % (19 : Int32)))]) (rest := []) (lenOf own_pd1 rfl) rfl (by show 2 * 0 + _ ≤ _; exact Nat.le_of_eq rfl) (hb hby at_562) (fun _ _ => ⟨rfl, e141, (by decide : 2 + 0 ≤ _), (by decide : 41 + 0 ≤ _)⟩)
  dsimp only [Pt.U, Pt.locs, Pt.cells, Pt.slots] at X142 l142 y142 z142 st142 hQ142
  subst l142 y142 z142
  obtain ⟨rfl, N142q, e142⟩ := hQ142
  have N142 := Fr.app N141 N142q
  obtain ⟨lc142, X142, N142⟩ := own_abs X142 N142
  refine own_of st142 ?_
  show own_Run p e below s _ _ _ (T142.setTop (mkF m 565 #[.val (.long x1), .second, .val (.long jk), .second, .val (.int a1), .val (.int b1), .val (.int c1), .val (.ref ob1), .val (.long nn), .second, .val (.int off), .val (.ref ob42), .val (.int ((a1 &&& (2147483647 : Int32)) % (19 : Int32))), .val (.int ((b1 &&& (2147483647 : Int32)) % (19 : Int32))), .val (.int lo), .unset, .unset, .unset] [(.int (own_maxI ((a1 &&& (2147483647 : Int32)) % (19 : Int32)) ((b1 &&& (2147483647 : Int32)) % (19 : Int32))))]))
  generalize hhi : (own_maxI ((a1 &&& (2147483647 : Int32)) % (19 : Int32)) ((b1 &&& (2147483647 : Int32)) % (19 : Int32))) = hi
  have rlh : 0 ≤ lo.toInt ∧ lo.toInt ≤ hi.toInt ∧ hi.toInt ≤ 18 := by
    have z1 := own_minI_i ((a1 &&& (2147483647 : Int32)) % (19 : Int32)) ((b1 &&& (2147483647 : Int32)) % (19 : Int32)); have z2 := own_maxI_i ((a1 &&& (2147483647 : Int32)) % (19 : Int32)) ((b1 &&& (2147483647 : Int32)) % (19 : Int32)); have z3 := own_m19 a1; have z4 := own_m19 b1
    rw [hlo] at z1; rw [hhi] at z2; split at z1 <;> split at z2 <;> omega
  have clo := own_clamp rlh.1
  have chi := own_clamp (j := hi) (by omega)
  have s1 : ((18 : Int32) - hi).toInt = 18 - hi.toInt := by have z1 := c_isub (18 : Int32) hi; have z2 := rng32 ((18 : Int32) - hi); have z3 : (18 : Int32).toInt = 18 := rfl; omega
  have s2 : (hi - lo).toInt = hi.toInt - lo.toInt := by have z1 := c_isub hi lo; have z2 := rng32 (hi - lo); omega
  have cs1 := own_clamp (j := (18 : Int32) - hi) (by omega)
  have cs2 := own_clamp (j := hi - lo) (by omega)
  show own_Run p e below s _ _ _ (T142.setTop (mkF m 565 #[.val (.long x1), .second, .val (.long jk), .second, .val (.int a1), .val (.int b1), .val (.int c1), .val (.ref ob1), .val (.long nn), .second, .val (.int off), .val (.ref ob42), .val (.int ((a1 &&& (2147483647 : Int32)) % (19 : Int32))), .val (.int ((b1 &&& (2147483647 : Int32)) % (19 : Int32))), .val (.int lo), .unset, .unset, .unset] [(.int hi)]))
  refine own_of (fun _ hh_ => XS.istore X142.here hx rfl (hb hby at_565) rfl (l' := #[.val (.long x1), .second, .val (.long jk), .second, .val (.int a1), .val (.int b1), .val (.int c1), .val (.ref ob1), .val (.long nn), .second, .val (.int off), .val (.ref ob42), .val (.int ((a1 &&& (2147483647 : Int32)) % (19 : Int32))), .val (.int ((b1 &&& (2147483647 : Int32)) % (19 : Int32))), .val (.int lo), .val (.int hi), .unset, .unset]) rfl hh_) ?_
  show own_Run p e below s _ _ _ (T142.setTop (mkF m 567 #[.val (.long x1), .second, .val (.long jk), .second, .val (.int a1), .val (.int b1), .val (.int c1), .val (.ref ob1), .val (.long nn), .second, .val (.int off), .val (.ref ob42), .val (.int ((a1 &&& (2147483647 : Int32)) % (19 : Int32))), .val (.int ((b1 &&& (2147483647 : Int32)) % (19 : Int32))), .val (.int lo), .val (.int hi), .unset, .unset] []))
  refine own_of (fun _ hh_ => XS.lload X142.here hx rfl (hb hby at_567) rfl hh_) ?_
  show own_Run p e below s _ _ _ (T142.setTop (mkF m 569 #[.val (.long x1), .second, .val (.long jk), .second, .val (.int a1), .val (.int b1), .val (.int c1), .val (.ref ob1), .val (.long nn), .second, .val (.int off), .val (.ref ob42), .val (.int ((a1 &&& (2147483647 : Int32)) % (19 : Int32))), .val (.int ((b1 &&& (2147483647 : Int32)) % (19 : Int32))), .val (.int lo), .val (.int hi), .unset, .unset] [(.long nn)]))
  refine own_of (fun _ hh_ => XS.aload X142.here hx rfl (hb hby at_569) rfl rfl hh_) ?_
  show own_Run p e below s _ _ _ (T142.setTop (mkF m 571 #[.val (.long x1), .second, .val (.long jk), .second, .val (.int a1), .val (.int b1), .val (.int c1), .val (.ref ob1), .val (.long nn), .second, .val (.int off), .val (.ref ob42), .val (.int ((a1 &&& (2147483647 : Int32)) % (19 : Int32))), .val (.int ((b1 &&& (2147483647 : Int32)) % (19 : Int32))), .val (.int lo), .val (.int hi), .unset, .unset] [(.ref ob1), (.long nn)]))
  refine own_of (fun _ hh_ => XS.bipush X142.here hx rfl (hb hby at_571) hh_) ?_
  show own_Run p e below s _ _ _ (T142.setTop (mkF m 573 #[.val (.long x1), .second, .val (.long jk), .second, .val (.int a1), .val (.int b1), .val (.int c1), .val (.ref ob1), .val (.long nn), .second, .val (.int off), .val (.ref ob42), .val (.int ((a1 &&& (2147483647 : Int32)) % (19 : Int32))), .val (.int ((b1 &&& (2147483647 : Int32)) % (19 : Int32))), .val (.int lo), .val (.int hi), .unset, .unset] [(.int (18 : Int32)), (.ref ob1), (.long nn)]))
  refine own_of (fun _ hh_ => XS.iload X142.here hx rfl (hb hby at_573) rfl hh_) ?_
  show own_Run p e below s _ _ _ (T142.setTop (mkF m 575 #[.val (.long x1), .second, .val (.long jk), .second, .val (.int a1), .val (.int b1), .val (.int c1), .val (.ref ob1), .val (.long nn), .second, .val (.int off), .val (.ref ob42), .val (.int ((a1 &&& (2147483647 : Int32)) % (19 : Int32))), .val (.int ((b1 &&& (2147483647 : Int32)) % (19 : Int32))), .val (.int lo), .val (.int hi), .unset, .unset] [(.int hi), (.int (18 : Int32)), (.ref ob1), (.long nn)]))
  refine own_of (fun _ hh_ => XS.isub X142.here hx rfl (hb hby at_575) rfl hh_) ?_
  show own_Run p e below s _ _ _ (T142.setTop (mkF m 576 #[.val (.long x1), .second, .val (.long jk), .second, .val (.int a1), .val (.int b1), .val (.int c1), .val (.ref ob1), .val (.long nn), .second, .val (.int off), .val (.ref ob42), .val (.int ((a1 &&& (2147483647 : Int32)) % (19 : Int32))), .val (.int ((b1 &&& (2147483647 : Int32)) % (19 : Int32))), .val (.int lo), .val (.int hi), .unset, .unset] [(.int ((18 : Int32) - hi)), (.ref ob1), (.long nn)]))
  refine own_lal X142 hx hZ e142 f139 (j := ((18 : Int32) - hi)) (w := (own_p10 ((18 : Int32) - hi).toNatClampNeg)) (own_pos (by omega)) (own_nat (by omega) (by omega)) rfl (hb hby at_576) ?_
  show own_Run p e below s _ _ _ (T142.setTop (mkF m 577 #[.val (.long x1), .second, .val (.long jk), .second, .val (.int a1), .val (.int b1), .val (.int c1), .val (.ref ob1), .val (.long nn), .second, .val (.int off), .val (.ref ob42), .val (.int ((a1 &&& (2147483647 : Int32)) % (19 : Int32))), .val (.int ((b1 &&& (2147483647 : Int32)) % (19 : Int32))), .val (.int lo), .val (.int hi), .unset, .unset] [(.long (own_p10 ((18 : Int32) - hi).toNatClampNeg)), (.long nn)]))
  refine own_of (fun _ hh_ => XS.ldiv X142.here hx rfl (hb hby at_577) rfl (own_p10_nz _ (by omega)) hh_) ?_
  show own_Run p e below s _ _ _ (T142.setTop (mkF m 578 #[.val (.long x1), .second, .val (.long jk), .second, .val (.int a1), .val (.int b1), .val (.int c1), .val (.ref ob1), .val (.long nn), .second, .val (.int off), .val (.ref ob42), .val (.int ((a1 &&& (2147483647 : Int32)) % (19 : Int32))), .val (.int ((b1 &&& (2147483647 : Int32)) % (19 : Int32))), .val (.int lo), .val (.int hi), .unset, .unset] [(.long (nn / (own_p10 ((18 : Int32) - hi).toNatClampNeg)))]))
  refine own_of (fun _ hh_ => XS.aload X142.here hx rfl (hb hby at_578) rfl rfl hh_) ?_
  show own_Run p e below s _ _ _ (T142.setTop (mkF m 580 #[.val (.long x1), .second, .val (.long jk), .second, .val (.int a1), .val (.int b1), .val (.int c1), .val (.ref ob1), .val (.long nn), .second, .val (.int off), .val (.ref ob42), .val (.int ((a1 &&& (2147483647 : Int32)) % (19 : Int32))), .val (.int ((b1 &&& (2147483647 : Int32)) % (19 : Int32))), .val (.int lo), .val (.int hi), .unset, .unset] [(.ref ob1), (.long (nn / (own_p10 ((18 : Int32) - hi).toNatClampNeg)))]))
  refine own_of (fun _ hh_ => XS.iload X142.here hx rfl (hb hby at_580) rfl hh_) ?_
  show own_Run p e below s _ _ _ (T142.setTop (mkF m 582 #[.val (.long x1), .second, .val (.long jk), .second, .val (.int a1), .val (.int b1), .val (.int c1), .val (.ref ob1), .val (.long nn), .second, .val (.int off), .val (.ref ob42), .val (.int ((a1 &&& (2147483647 : Int32)) % (19 : Int32))), .val (.int ((b1 &&& (2147483647 : Int32)) % (19 : Int32))), .val (.int lo), .val (.int hi), .unset, .unset] [(.int hi), (.ref ob1), (.long (nn / (own_p10 ((18 : Int32) - hi).toNatClampNeg)))]))
  refine own_of (fun _ hh_ => XS.iload X142.here hx rfl (hb hby at_582) rfl hh_) ?_
  show own_Run p e below s _ _ _ (T142.setTop (mkF m 584 #[.val (.long x1), .second, .val (.long jk), .second, .val (.int a1), .val (.int b1), .val (.int c1), .val (.ref ob1), .val (.long nn), .second, .val (.int off), .val (.ref ob42), .val (.int ((a1 &&& (2147483647 : Int32)) % (19 : Int32))), .val (.int ((b1 &&& (2147483647 : Int32)) % (19 : Int32))), .val (.int lo), .val (.int hi), .unset, .unset] [(.int lo), (.int hi), (.ref ob1), (.long (nn / (own_p10 ((18 : Int32) - hi).toNatClampNeg)))]))
  refine own_of (fun _ hh_ => XS.isub X142.here hx rfl (hb hby at_584) rfl hh_) ?_
  show own_Run p e below s _ _ _ (T142.setTop (mkF m 585 #[.val (.long x1), .second, .val (.long jk), .second, .val (.int a1), .val (.int b1), .val (.int c1), .val (.ref ob1), .val (.long nn), .second, .val (.int off), .val (.ref ob42), .val (.int ((a1 &&& (2147483647 : Int32)) % (19 : Int32))), .val (.int ((b1 &&& (2147483647 : Int32)) % (19 : Int32))), .val (.int lo), .val (.int hi), .unset, .unset] [(.int (hi - lo)), (.ref ob1), (.long (nn / (own_p10 ((18 : Int32) - hi).toNatClampNeg)))]))
  refine own_lal X142 hx hZ e142 f139 (j := (hi - lo)) (w := (own_p10 (hi - lo).toNatClampNeg)) (own_pos (by omega)) (own_nat (by omega) (by omega)) rfl (hb hby at_585) ?_
  show own_Run p e below s _ _ _ (T142.setTop (mkF m 586 #[.val (.long x1), .second, .val (.long jk), .second, .val (.int a1), .val (.int b1), .val (.int c1), .val (.ref ob1), .val (.long nn), .second, .val (.int off), .val (.ref ob42), .val (.int ((a1 &&& (2147483647 : Int32)) % (19 : Int32))), .val (.int ((b1 &&& (2147483647 : Int32)) % (19 : Int32))), .val (.int lo), .val (.int hi), .unset, .unset] [(.long (own_p10 (hi - lo).toNatClampNeg)), (.long (nn / (own_p10 ((18 : Int32) - hi).toNatClampNeg)))]))
  refine own_of (fun _ hh_ => XS.lrem X142.here hx rfl (hb hby at_586) rfl (own_p10_nz _ (by omega)) hh_) ?_
  show own_Run p e below s _ _ _ (T142.setTop (mkF m 587 #[.val (.long x1), .second, .val (.long jk), .second, .val (.int a1), .val (.int b1), .val (.int c1), .val (.ref ob1), .val (.long nn), .second, .val (.int off), .val (.ref ob42), .val (.int ((a1 &&& (2147483647 : Int32)) % (19 : Int32))), .val (.int ((b1 &&& (2147483647 : Int32)) % (19 : Int32))), .val (.int lo), .val (.int hi), .unset, .unset] [(.long ((nn / (own_p10 ((18 : Int32) - hi).toNatClampNeg)) - ((nn / (own_p10 ((18 : Int32) - hi).toNatClampNeg)) / (own_p10 (hi - lo).toNatClampNeg)) * (own_p10 (hi - lo).toNatClampNeg)))]))
  refine own_of (fun _ hh_ => XS.lstore X142.here hx rfl (hb hby at_587) rfl (l' := #[.val (.long x1), .second, .val (.long jk), .second, .val (.int a1), .val (.int b1), .val (.int c1), .val (.ref ob1), .val (.long nn), .second, .val (.int off), .val (.ref ob42), .val (.int ((a1 &&& (2147483647 : Int32)) % (19 : Int32))), .val (.int ((b1 &&& (2147483647 : Int32)) % (19 : Int32))), .val (.int lo), .val (.int hi), .val (.long ((nn / (own_p10 ((18 : Int32) - hi).toNatClampNeg)) - ((nn / (own_p10 ((18 : Int32) - hi).toNatClampNeg)) / (own_p10 (hi - lo).toNatClampNeg)) * (own_p10 (hi - lo).toNatClampNeg))), .second]) rfl hh_) ?_
  show own_Run p e below s _ _ _ (T142.setTop (mkF m 589 #[.val (.long x1), .second, .val (.long jk), .second, .val (.int a1), .val (.int b1), .val (.int c1), .val (.ref ob1), .val (.long nn), .second, .val (.int off), .val (.ref ob42), .val (.int ((a1 &&& (2147483647 : Int32)) % (19 : Int32))), .val (.int ((b1 &&& (2147483647 : Int32)) % (19 : Int32))), .val (.int lo), .val (.int hi), .val (.long ((nn / (own_p10 ((18 : Int32) - hi).toNatClampNeg)) - ((nn / (own_p10 ((18 : Int32) - hi).toNatClampNeg)) / (own_p10 (hi - lo).toNatClampNeg)) * (own_p10 (hi - lo).toNatClampNeg))), .second] []))
  refine own_of (fun _ hh_ => XS.aload X142.here hx rfl (hb hby at_589) rfl rfl hh_) ?_
  show own_Run p e below s _ _ _ (T142.setTop (mkF m 591 #[.val (.long x1), .second, .val (.long jk), .second, .val (.int a1), .val (.int b1), .val (.int c1), .val (.ref ob1), .val (.long nn), .second, .val (.int off), .val (.ref ob42), .val (.int ((a1 &&& (2147483647 : Int32)) % (19 : Int32))), .val (.int ((b1 &&& (2147483647 : Int32)) % (19 : Int32))), .val (.int lo), .val (.int hi), .val (.long ((nn / (own_p10 ((18 : Int32) - hi).toNatClampNeg)) - ((nn / (own_p10 ((18 : Int32) - hi).toNatClampNeg)) / (own_p10 (hi - lo).toNatClampNeg)) * (own_p10 (hi - lo).toNatClampNeg))), .second] [(.ref ob42)]))
  refine own_of (fun _ hh_ => XS.iload X142.here hx rfl (hb hby at_591) rfl hh_) ?_
  show own_Run p e below s _ _ _ (T142.setTop (mkF m 593 #[.val (.long x1), .second, .val (.long jk), .second, .val (.int a1), .val (.int b1), .val (.int c1), .val (.ref ob1), .val (.long nn), .second, .val (.int off), .val (.ref ob42), .val (.int ((a1 &&& (2147483647 : Int32)) % (19 : Int32))), .val (.int ((b1 &&& (2147483647 : Int32)) % (19 : Int32))), .val (.int lo), .val (.int hi), .val (.long ((nn / (own_p10 ((18 : Int32) - hi).toNatClampNeg)) - ((nn / (own_p10 ((18 : Int32) - hi).toNatClampNeg)) / (own_p10 (hi - lo).toNatClampNeg)) * (own_p10 (hi - lo).toNatClampNeg))), .second] [(.int off), (.ref ob42)]))
  refine own_of (fun _ hh_ => XS.iload X142.here hx rfl (hb hby at_593) rfl hh_) ?_
  show own_Run p e below s _ _ _ (T142.setTop (mkF m 595 #[.val (.long x1), .second, .val (.long jk), .second, .val (.int a1), .val (.int b1), .val (.int c1), .val (.ref ob1), .val (.long nn), .second, .val (.int off), .val (.ref ob42), .val (.int ((a1 &&& (2147483647 : Int32)) % (19 : Int32))), .val (.int ((b1 &&& (2147483647 : Int32)) % (19 : Int32))), .val (.int lo), .val (.int hi), .val (.long ((nn / (own_p10 ((18 : Int32) - hi).toNatClampNeg)) - ((nn / (own_p10 ((18 : Int32) - hi).toNatClampNeg)) / (own_p10 (hi - lo).toNatClampNeg)) * (own_p10 (hi - lo).toNatClampNeg))), .second] [(.int lo), (.int off), (.ref ob42)]))
  refine own_of (fun _ hh_ => XS.iadd X142.here hx rfl (hb hby at_595) rfl hh_) ?_
  show own_Run p e below s _ _ _ (T142.setTop (mkF m 596 #[.val (.long x1), .second, .val (.long jk), .second, .val (.int a1), .val (.int b1), .val (.int c1), .val (.ref ob1), .val (.long nn), .second, .val (.int off), .val (.ref ob42), .val (.int ((a1 &&& (2147483647 : Int32)) % (19 : Int32))), .val (.int ((b1 &&& (2147483647 : Int32)) % (19 : Int32))), .val (.int lo), .val (.int hi), .val (.long ((nn / (own_p10 ((18 : Int32) - hi).toNatClampNeg)) - ((nn / (own_p10 ((18 : Int32) - hi).toNatClampNeg)) / (own_p10 (hi - lo).toNatClampNeg)) * (own_p10 (hi - lo).toNatClampNeg))), .second] [(.int (off + lo)), (.ref ob42)]))
  refine own_of (fun _ hh_ => XS.iload X142.here hx rfl (hb hby at_596) rfl hh_) ?_
  show own_Run p e below s _ _ _ (T142.setTop (mkF m 598 #[.val (.long x1), .second, .val (.long jk), .second, .val (.int a1), .val (.int b1), .val (.int c1), .val (.ref ob1), .val (.long nn), .second, .val (.int off), .val (.ref ob42), .val (.int ((a1 &&& (2147483647 : Int32)) % (19 : Int32))), .val (.int ((b1 &&& (2147483647 : Int32)) % (19 : Int32))), .val (.int lo), .val (.int hi), .val (.long ((nn / (own_p10 ((18 : Int32) - hi).toNatClampNeg)) - ((nn / (own_p10 ((18 : Int32) - hi).toNatClampNeg)) / (own_p10 (hi - lo).toNatClampNeg)) * (own_p10 (hi - lo).toNatClampNeg))), .second] [(.int off), (.int (off + lo)), (.ref ob42)]))
  refine own_of (fun _ hh_ => XS.iload X142.here hx rfl (hb hby at_598) rfl hh_) ?_
  show own_Run p e below s _ _ _ (T142.setTop (mkF m 600 #[.val (.long x1), .second, .val (.long jk), .second, .val (.int a1), .val (.int b1), .val (.int c1), .val (.ref ob1), .val (.long nn), .second, .val (.int off), .val (.ref ob42), .val (.int ((a1 &&& (2147483647 : Int32)) % (19 : Int32))), .val (.int ((b1 &&& (2147483647 : Int32)) % (19 : Int32))), .val (.int lo), .val (.int hi), .val (.long ((nn / (own_p10 ((18 : Int32) - hi).toNatClampNeg)) - ((nn / (own_p10 ((18 : Int32) - hi).toNatClampNeg)) / (own_p10 (hi - lo).toNatClampNeg)) * (own_p10 (hi - lo).toNatClampNeg))), .second] [(.int hi), (.int off), (.int (off + lo)), (.ref ob42)]))
  refine own_of (fun _ hh_ => XS.iadd X142.here hx rfl (hb hby at_600) rfl hh_) ?_
  show own_Run p e below s _ _ _ (T142.setTop (mkF m 601 #[.val (.long x1), .second, .val (.long jk), .second, .val (.int a1), .val (.int b1), .val (.int c1), .val (.ref ob1), .val (.long nn), .second, .val (.int off), .val (.ref ob42), .val (.int ((a1 &&& (2147483647 : Int32)) % (19 : Int32))), .val (.int ((b1 &&& (2147483647 : Int32)) % (19 : Int32))), .val (.int lo), .val (.int hi), .val (.long ((nn / (own_p10 ((18 : Int32) - hi).toNatClampNeg)) - ((nn / (own_p10 ((18 : Int32) - hi).toNatClampNeg)) / (own_p10 (hi - lo).toNatClampNeg)) * (own_p10 (hi - lo).toNatClampNeg))), .second] [(.int (off + hi)), (.int (off + lo)), (.ref ob42)]))
  have j1 := own_ix off roff lo lo.toNatClampNeg clo.symm (by omega)
  have j2 := own_ix off roff hi hi.toNatClampNeg chi.symm (by omega)
  have hv1 := j1.1
  have hv2 : (off + lo).toInt ≤ (off + hi).toInt := by omega
  have hv3 : (off + hi).toInt ≤ ((22 : Nat) : Int) := by omega
  have hv4 : (off + hi).toInt - (off + lo).toInt ≤ 18 := by omega
  have hv5 : ∀ j, (off + lo).toNatClampNeg ≤ j → j < (off + hi).toNatClampNeg → 48 ≤ (fd18 j).toInt ∧ (fd18 j).toInt ≤ 57 := fun j q1 q2 => own_dgt D18 j (by omega) (by omega)
  obtain ⟨_, _, ⟨T143, L143, k143, n143⟩, -, X143, ⟨Lc143, hQ143, l143, y143, z143⟩, st143⟩ := Jvm.LawKit.callS X142 hx (y := (⟨"com/example/lanchid/lanchid/records/WholeNumber", "value", "([BII)J"⟩ : MethodName)) hown (mvT hZ (hw _ (List.mem_of_getElem? (i := 34) rfl))) (mvT hZ (hw _ (List.mem_of_getElem? (i := 35) rfl))) (mvT hZ (hw _ (List.mem_of_getElem? (i := 36) rfl))) (mvT hZ (hw _ (List.mem_of_getElem? (i := 37) rfl))) (by decide) (backOf (W := 0) (rmV l Z a0 hw [] ob42 (off + lo) (off + hi) 22 fd18 h138 n0 Zz140 Vd18 hv1 hv2 hv3 hv4 hv5) hZ (hw _ (List.mem_of_getElem? (i := 37) rfl)) (hw _ (List.mem_of_getElem? (i := 36) rfl)) (by decide) (by decide)) (g := (mkF m 601 #[.val (.long x1), .second, .val (.long jk), .second, .val (.int a1), .val (.int b1), .val (.int c1), .val (.ref ob1), .val (.long nn), .second, .val (.int off), .val (.ref ob42), .val (.int ((a1 &&& (2147483647 : Int32)) % (19 : Int32))), .val (.int ((b1 &&& (2147483647 : Int32)) % (19 : Int32))), .val (.int lo), .val (.int hi), .val (.long ((nn / (own_p10 ((18 : Int32) - hi).toNatClampNeg)) - ((nn / (own_p10 ((18 : Int32) - hi).toNatClampNeg)) / (own_p10 (hi - lo).toNatClampNeg)) * (own_p10 (hi - lo).toNatClampNeg))), .second] [(.int (off + hi)), (.int (off + lo)), (.ref ob42)])) rfl (by rw [hml]; rfl) (argsL := [(.ref ob42), (.int (off + lo)), (.int (off + hi))]) (rest := []) (lenOf own_pd2 rfl) rfl (by show 2 * 0 + _ ≤ _; exact Nat.le_of_eq rfl) (hb hby at_601) (fun _ _ => ⟨rfl, e142, (by decide : 2 + 0 ≤ _), (by decide : 41 + 0 ≤ _)⟩)
  dsimp only [Pt.U, Pt.locs, Pt.cells, Pt.slots] at X143 l143 y143 z143 st143 hQ143
  subst l143 y143 z143
  obtain ⟨zz143, rfl, F143, N143q, e143⟩ := hQ143
  have N143 := Fr.app N142 N143q
  obtain ⟨lc143, X143, N143⟩ := own_abs X143 N143
  refine own_of st143 ?_
  show own_Run p e below s _ _ _ (T143.setTop (mkF m 604 #[.val (.long x1), .second, .val (.long jk), .second, .val (.int a1), .val (.int b1), .val (.int c1), .val (.ref ob1), .val (.long nn), .second, .val (.int off), .val (.ref ob42), .val (.int ((a1 &&& (2147483647 : Int32)) % (19 : Int32))), .val (.int ((b1 &&& (2147483647 : Int32)) % (19 : Int32))), .val (.int lo), .val (.int hi), .val (.long ((nn / (own_p10 ((18 : Int32) - hi).toNatClampNeg)) - ((nn / (own_p10 ((18 : Int32) - hi).toNatClampNeg)) / (own_p10 (hi - lo).toNatClampNeg)) * (own_p10 (hi - lo).toNatClampNeg))), .second] [(.long zz143)]))
  refine own_of (fun _ hh_ => XS.lload X143.here hx rfl (hb hby at_604) rfl hh_) ?_
  show own_Run p e below s _ _ _ (T143.setTop (mkF m 606 #[.val (.long x1), .second, .val (.long jk), .second, .val (.int a1), .val (.int b1), .val (.int c1), .val (.ref ob1), .val (.long nn), .second, .val (.int off), .val (.ref ob42), .val (.int ((a1 &&& (2147483647 : Int32)) % (19 : Int32))), .val (.int ((b1 &&& (2147483647 : Int32)) % (19 : Int32))), .val (.int lo), .val (.int hi), .val (.long ((nn / (own_p10 ((18 : Int32) - hi).toNatClampNeg)) - ((nn / (own_p10 ((18 : Int32) - hi).toNatClampNeg)) / (own_p10 (hi - lo).toNatClampNeg)) * (own_p10 (hi - lo).toNatClampNeg))), .second] [(.long ((nn / (own_p10 ((18 : Int32) - hi).toNatClampNeg)) - ((nn / (own_p10 ((18 : Int32) - hi).toNatClampNeg)) / (own_p10 (hi - lo).toNatClampNeg)) * (own_p10 (hi - lo).toNatClampNeg))), (.long zz143)]))
  refine own_of (fun _ hh_ => XS.lcmp X143.here hx rfl (hb hby at_606) rfl hh_) ?_
  show own_Run p e below s _ _ _ (T143.setTop (mkF m 607 #[.val (.long x1), .second, .val (.long jk), .second, .val (.int a1), .val (.int b1), .val (.int c1), .val (.ref ob1), .val (.long nn), .second, .val (.int off), .val (.ref ob42), .val (.int ((a1 &&& (2147483647 : Int32)) % (19 : Int32))), .val (.int ((b1 &&& (2147483647 : Int32)) % (19 : Int32))), .val (.int lo), .val (.int hi), .val (.long ((nn / (own_p10 ((18 : Int32) - hi).toNatClampNeg)) - ((nn / (own_p10 ((18 : Int32) - hi).toNatClampNeg)) / (own_p10 (hi - lo).toNatClampNeg)) * (own_p10 (hi - lo).toNatClampNeg))), .second] [(.int (lcmpW zz143 ((nn / (own_p10 ((18 : Int32) - hi).toNatClampNeg)) - ((nn / (own_p10 ((18 : Int32) - hi).toNatClampNeg)) / (own_p10 (hi - lo).toNatClampNeg)) * (own_p10 (hi - lo).toNatClampNeg))))]))
  have hc607_144 : zz143 = ((nn / (own_p10 ((18 : Int32) - hi).toNatClampNeg)) - ((nn / (own_p10 ((18 : Int32) - hi).toNatClampNeg)) / (own_p10 (hi - lo).toNatClampNeg)) * (own_p10 (hi - lo).toNatClampNeg)) := by apply Int64.toInt_inj.mp; rw [F143, own_last nn rnn.1 _ _ (by omega) (by omega), j1.2.2.1, j2.2.2.1, show (off.toNatClampNeg + hi.toNatClampNeg) - (off.toNatClampNeg + lo.toNatClampNeg) = hi.toNatClampNeg - lo.toNatClampNeg from by omega, own_sum D18 _ _ (by omega), show 18 - lo.toNatClampNeg - (hi.toNatClampNeg - lo.toNatClampNeg) = ((18 : Int32) - hi).toNatClampNeg from by omega, show hi.toNatClampNeg - lo.toNatClampNeg = (hi - lo).toNatClampNeg from by omega]
  refine own_of (fun _ hh_ => XS.ifNo X143.here hx rfl (hb hby at_607) rfl ((if0 _ _).trans (teq ((lw_eq _ _).mpr hc607_144)).2) hh_) ?_
  show own_Run p e below s _ _ _ (T143.setTop (mkF m 610 #[.val (.long x1), .second, .val (.long jk), .second, .val (.int a1), .val (.int b1), .val (.int c1), .val (.ref ob1), .val (.long nn), .second, .val (.int off), .val (.ref ob42), .val (.int ((a1 &&& (2147483647 : Int32)) % (19 : Int32))), .val (.int ((b1 &&& (2147483647 : Int32)) % (19 : Int32))), .val (.int lo), .val (.int hi), .val (.long ((nn / (own_p10 ((18 : Int32) - hi).toNatClampNeg)) - ((nn / (own_p10 ((18 : Int32) - hi).toNatClampNeg)) / (own_p10 (hi - lo).toNatClampNeg)) * (own_p10 (hi - lo).toNatClampNeg))), .second] []))
  refine own_of (fun _ hh_ => XS.iconst X143.here hx rfl (hb hby at_610) hh_) ?_
  show own_Run p e below s _ _ _ (T143.setTop (mkF m 611 #[.val (.long x1), .second, .val (.long jk), .second, .val (.int a1), .val (.int b1), .val (.int c1), .val (.ref ob1), .val (.long nn), .second, .val (.int off), .val (.ref ob42), .val (.int ((a1 &&& (2147483647 : Int32)) % (19 : Int32))), .val (.int ((b1 &&& (2147483647 : Int32)) % (19 : Int32))), .val (.int lo), .val (.int hi), .val (.long ((nn / (own_p10 ((18 : Int32) - hi).toNatClampNeg)) - ((nn / (own_p10 ((18 : Int32) - hi).toNatClampNeg)) / (own_p10 (hi - lo).toNatClampNeg)) * (own_p10 (hi - lo).toNatClampNeg))), .second] [(.int (1 : Int32))]))
  refine own_of (fun _ hh_ => XS.goto X143.here hx rfl (pc0 := 611) (pc' := 615) rfl (hb hby at_611) (by decide) (by decide) hh_) ?_
  show own_Run p e below s _ _ _ (T143.setTop (mkF m 615 #[.val (.long x1), .second, .val (.long jk), .second, .val (.int a1), .val (.int b1), .val (.int c1), .val (.ref ob1), .val (.long nn), .second, .val (.int off), .val (.ref ob42), .val (.int ((a1 &&& (2147483647 : Int32)) % (19 : Int32))), .val (.int ((b1 &&& (2147483647 : Int32)) % (19 : Int32))), .val (.int lo), .val (.int hi), .val (.long ((nn / (own_p10 ((18 : Int32) - hi).toNatClampNeg)) - ((nn / (own_p10 ((18 : Int32) - hi).toNatClampNeg)) / (own_p10 (hi - lo).toNatClampNeg)) * (own_p10 (hi - lo).toNatClampNeg))), .second] [(.int (1 : Int32))]))
  exact own_retN X143 hx (t := .boolean) hret hlk (by simp) (hb hby at_615) ⟨rfl, N143⟩ (by decide) (by decide)
set_option maxRecDepth 65536 in
set_option maxHeartbeats 40000000 in
theorem comes_1 {Post : Tables → Env → Array Value → State → Outcome → State → Prop} (hpost : ∀ tb e args s v u, (limb_1_1.after args s (.returned v) u = true ∧ limb_1_2.after args s (.returned v) u = true ∧ True) → FrameEnd s (.returned v) u (Jvm.fieldLocs frame_1_writes args s ++ Jvm.arrayLocs frame_1_arrays args s ++ Jvm.staticLocs frame_1_statics s) 16 192 → Post tb e args s (.returned v) u) :
    ArmFor flags0 classFile x code maxLocals ret World_1 tables_1 room_1 Calls_1 rest_1 Pre_1 Post := by
  intro l hfl _ _ p e ha hc hk s m args below hf hA hF happ hP
  obtain ⟨hcalls, hrest, hpre⟩ := hP
  obtain ⟨-, -, -, hnamed, -, -, -, hat⟩ := (Spec.applies_iff hf).mp happ
  obtain ⟨hg, hn⟩ := and_e (Cond.before_iff.mp (show (Jvm.Cond.and given_1 narrow_1).before args s = true from hpre))
  obtain ⟨gg1, gg2⟩ := and_e hg
  obtain ⟨gg3, gg4⟩ := and_e gg2
  obtain ⟨gg5, gg6⟩ := and_e gg4
  obtain ⟨gg7, gg8⟩ := and_e gg6
  obtain ⟨gg9, gg10⟩ := and_e gg8
  obtain ⟨w0, w1, w2, w3, w4, rfl⟩ : ∃ w0 w1 w2 w3 w4 : Value, args = #[w0, w1, w2, w3, w4] := by
    have hs : args.size = 5 := by simpa [Cond.value, given_1] using gg1
    obtain ⟨L⟩ := args
    match L, hs with
    | [w0, w1, w2, w3, w4], _ => exact ⟨w0, w1, w2, w3, w4, rfl⟩
  have hw := fun d (hd : d ∈ tables_1) => atoms_spec (ws := Jvm.Cond.code x code maxLocals ret :: tables_1) hat d (List.mem_cons_of_mem _ hd)
  obtain ⟨i0, ei0⟩ := isL_v gg3
  obtain rfl : w0 = (.long i0) := Option.some.inj ei0
  obtain ⟨i1, ei1⟩ := isL_v gg5
  obtain rfl : w1 = (.long i1) := Option.some.inj ei1
  obtain ⟨i2, ei2⟩ := is_v gg7
  obtain rfl : w2 = (.int i2) := Option.some.inj ei2
  obtain ⟨i3, ei3⟩ := is_v gg9
  obtain rfl : w3 = (.int i3) := Option.some.inj ei3
  obtain ⟨i4, ei4⟩ := is_v gg10
  obtain rfl : w4 = (.int i4) := Option.some.inj ei4
  obtain ⟨n, o, h1, h2, h3, _, L, rfl, ⟨rfl, N⟩, hq⟩ := rm0 l s _ hw tables_1 i0 i1 i2 i3 i4  s.heap s.heap.size (Nat.le_refl _)  p e ha hc hk s m _ below hf ((Spec.applies_iff_loose hf).mp happ).1 ⟨rfl, State.Warmed39.refl s, rfl⟩ trivial
  refine ⟨n, _, h1, h2, h3, hpost _ _ _ _ _ _ ⟨Cond.after_iff.mpr rfl, Cond.after_iff.mpr (eq_i res_at (Term.int_eval (1)) rfl), trivial⟩ ⟨hq.1, hq.2.1, (hq.2.2.sift fun y hy => Or.inr (N y hy)).mono (by decide) (by decide)⟩⟩
theorem main_1_1 : Claimed_1_1 := comes_1 fun _ _ _ _ _ _ h hF => ⟨h.1, hF⟩
theorem main_1_2 : Claimed_1_2 := comes_1 fun _ _ _ _ _ _ h hF => ⟨h.2.1, hF⟩
end Jvm.Pilot.@@N@@
namespace Jvm.Pilot.@@N@@
open Jvm Jvm.ClassFile Sem Op Lib Jvm.Free Jvm.Stand Jvm.Pilot.@@N@@.Jvm.D
/-! MADE BY PROGRAM (witnessworld.py) out of the Statement's table words and the real class files: 12 classes; the members and pool entries that the words name. The judged class is class 1, her method 1. -/
namespace start1
open Jvm.ClassFile
def u (s : String) : CpInfo := .utf8 (stringToUtf16 s)
/-- a pool by its gaps: so many unusable entries, then the entry; so many at the end -/
def gap : Nat → List CpInfo → List CpInfo
  | 0, r => r
  | n + 1, r => .unusable :: gap n r
def poolList (es : List (Nat × CpInfo)) (last : Nat) : List CpInfo := es.foldr (fun e r => gap e.1 (e.2 :: r)) (gap last [])
def pool (es : List (Nat × CpInfo)) (last : Nat) : Array CpInfo := ⟨poolList es last⟩
def fileOf (pool : Array CpInfo) (this : Nat) (attrs : Array Attribute := #[]) (ms : Array MethodInfo := #[]) (fl : Nat := 33) (sup : Nat := 0) (ifs : Array Nat := #[]) (fds : Array FieldInfo := #[]) : ClassFile where
  minorVersion := 0
  majorVersion := 65
  constantPool := pool
  accessFlags := fl
  thisClass := this
  superClass := sup
  interfaces := ifs
  fields := fds
  methods := ms
  attributes := attrs
def plain (name : String) (sup : Option ClassId) : Class where
  name := name
  kind := .ordinary
  loader := none
  accessFlags := 33
  super := sup
  interfaces := #[]
  cf := none
  fields := #[]
  methods := #[]
  instanceTypes := #[]
  staticTypes := #[]
  resolved := #[]
  callSites := []
  init := .initialized
  statics := none
  mirror := none

def pool0 : Array CpInfo := pool [(5, u "<init>"), (0, u "()V"), (1, .class_ 10), (1, u "java/lang/Object")] 113

def k0m0 : Method := { name := "<init>", desc := "()V", sig := { parameters := [], returnType := none }, accessFlags := 1, code := none }
/-- java/lang/Object -/
def k0 : Class := { plain "java/lang/Object" none with
  accessFlags := 33
  interfaces := #[]
  cf := some (fileOf pool0 8 #[] #[{ accessFlags := 1, nameIndex := 5, descriptorIndex := 6, attributes := #[] }] 33 0 #[] #[])
  fields := #[]
  methods := #[k0m0]
  instanceTypes := #[]
  staticTypes := #[]
  resolved := Array.replicate 124 none
  statics := none }

def pool1 : Array CpInfo := pool [(2, .class_ 4), (1, u "java/lang/Object"), (0, u "<init>"), (0, u "()V"), (0, .long 10), (1, .long 100), (1, .long 1000), (1, .long 10000), (1, .long 100000), (1, .long 1000000), (1, .long 10000000), (1, .long 100000000), (1, .long 1000000000), (1, .long 10000000000), (1, .long 100000000000), (1, .long 1000000000000), (1, .long 10000000000000), (1, .long 100000000000000), (1, .long 1000000000000000), (1, .long 10000000000000000), (1, .long 100000000000000000), (1, .long 1000000000000000000), (3, .long 9223372036854775807), (1, .methodref 48 49), (0, .class_ 50), (0, .nameAndType 51 52), (0, u "com/example/lanchid/lanchid/records/WholeNumberValuePinLaw"), (0, u "digit"), (0, u "(J[JI)B"), (0, .integer 2147483647), (0, .methodref 55 56), (0, .class_ 57), (0, .nameAndType 58 59), (0, u "java/lang/Math"), (0, u "min"), (0, u "(II)I"), (0, .methodref 55 61), (0, .nameAndType 62 59), (0, u "max"), (0, .methodref 64 65), (0, .class_ 66), (0, .nameAndType 67 68), (0, u "com/example/lanchid/lanchid/records/WholeNumber"), (0, u "value"), (0, u "([BII)J"), (0, .long 48), (3, u "law"), (0, u "(JJIII)Z")] 7

def k1m0 : Method := { name := "<init>", desc := "()V", sig := { parameters := [], returnType := none }, accessFlags := 1, code := none }
def k1c1 : Code := { maxStack := 6, maxLocals := 18, code := code, exceptionTable := #[], attributes := #[] }
def k1m1 : Method := { name := "law", desc := "(JJIII)Z", sig := { parameters := [.long, .long, .int, .int, .int], returnType := some .boolean }, accessFlags := 9, code := some k1c1 }
def k1c2 : Code := { maxStack := 7, maxLocals := 4, code := method_3_code, exceptionTable := #[], attributes := #[] }
def k1m2 : Method := { name := "digit", desc := "(J[JI)B", sig := { parameters := [.long, (.array .long), .int], returnType := some .byte }, accessFlags := 10, code := some k1c2 }
/-- com/example/lanchid/lanchid/records/WholeNumberValuePinLaw -/
def k1 : Class := { plain "com/example/lanchid/lanchid/records/WholeNumberValuePinLaw" (some 0) with
  accessFlags := 49
  interfaces := #[]
  cf := some (fileOf pool1 48 #[] #[{ accessFlags := 1, nameIndex := 5, descriptorIndex := 6, attributes := #[] }, { accessFlags := 9, nameIndex := 73, descriptorIndex := 74, attributes := #[] }, { accessFlags := 10, nameIndex := 51, descriptorIndex := 52, attributes := #[] }] 49 2 #[] #[])
  fields := #[]
  methods := #[k1m0, k1m1, k1m2]
  instanceTypes := #[]
  staticTypes := #[]
  resolved := Array.replicate 82 none
  statics := none }

def pool2 : Array CpInfo := pool [(1, .class_ 2), (0, u "java/lang/Math"), (1, .class_ 6), (1, u "java/lang/Object"), (0, u "<init>"), (0, u "()V"), (89, .class_ 100), (1, u "java/lang/Math$RandomNumberGeneratorHolder"), (71, u "negativeZeroFloatBits"), (0, u "J"), (2, u "negativeZeroDoubleBits"), (21, u "max"), (2, u "min"), (43, u "$assertionsDisabled"), (0, u "Z"), (88, u "(II)I"), (2, u "twoToTheDoubleScaleDown"), (0, u "D"), (4, u "twoToTheDoubleScaleUp"), (9, u "E"), (3, u "PI"), (2, u "TAU"), (2, u "DEGREES_TO_RADIANS"), (0, u "RADIANS_TO_DEGREES")] 94

def k2m0 : Method := { name := "<init>", desc := "()V", sig := { parameters := [], returnType := none }, accessFlags := 2, code := none }
def k2c1 : Code := { maxStack := 2, maxLocals := 2, code := jdk_29_method_65_code, exceptionTable := #[], attributes := #[] }
def k2m1 : Method := { name := "max", desc := "(II)I", sig := { parameters := [.int, .int], returnType := some .int }, accessFlags := 9, code := some k2c1 }
def k2c2 : Code := { maxStack := 2, maxLocals := 2, code := jdk_29_method_69_code, exceptionTable := #[], attributes := #[] }
def k2m2 : Method := { name := "min", desc := "(II)I", sig := { parameters := [.int, .int], returnType := some .int }, accessFlags := 9, code := some k2c2 }
/-- java/lang/Math -/
def k2 : Class := { plain "java/lang/Math" (some 0) with
  accessFlags := 49
  interfaces := #[]
  cf := some (fileOf pool2 1 #[.nestMembers #[98]] #[{ accessFlags := 2, nameIndex := 7, descriptorIndex := 8, attributes := #[] }, { accessFlags := 9, nameIndex := 198, descriptorIndex := 335, attributes := #[] }, { accessFlags := 9, nameIndex := 201, descriptorIndex := 335, attributes := #[] }] 49 4 #[] #[{ accessFlags := 25, nameIndex := 354, descriptorIndex := 339, attributes := #[] }, { accessFlags := 25, nameIndex := 358, descriptorIndex := 339, attributes := #[] }, { accessFlags := 25, nameIndex := 361, descriptorIndex := 339, attributes := #[] }, { accessFlags := 26, nameIndex := 364, descriptorIndex := 339, attributes := #[] }, { accessFlags := 26, nameIndex := 365, descriptorIndex := 339, attributes := #[] }, { accessFlags := 26, nameIndex := 172, descriptorIndex := 173, attributes := #[] }, { accessFlags := 26, nameIndex := 176, descriptorIndex := 173, attributes := #[] }, { accessFlags := 8, nameIndex := 344, descriptorIndex := 339, attributes := #[] }, { accessFlags := 8, nameIndex := 338, descriptorIndex := 339, attributes := #[] }, { accessFlags := 4120, nameIndex := 245, descriptorIndex := 246, attributes := #[] }])
  fields := #[{ name := "E", type := .double, accessFlags := 25, slot := 0, constantValue := 0 }, { name := "PI", type := .double, accessFlags := 25, slot := 1, constantValue := 0 }, { name := "TAU", type := .double, accessFlags := 25, slot := 2, constantValue := 0 }, { name := "DEGREES_TO_RADIANS", type := .double, accessFlags := 26, slot := 3, constantValue := 0 }, { name := "RADIANS_TO_DEGREES", type := .double, accessFlags := 26, slot := 4, constantValue := 0 }, { name := "negativeZeroFloatBits", type := .long, accessFlags := 26, slot := 5, constantValue := 0 }, { name := "negativeZeroDoubleBits", type := .long, accessFlags := 26, slot := 6, constantValue := 0 }, { name := "twoToTheDoubleScaleUp", type := .double, accessFlags := 8, slot := 7, constantValue := 0 }, { name := "twoToTheDoubleScaleDown", type := .double, accessFlags := 8, slot := 8, constantValue := 0 }, { name := "$assertionsDisabled", type := .boolean, accessFlags := 4120, slot := 9, constantValue := 0 }]
  methods := #[k2m0, k2m1, k2m2]
  instanceTypes := #[]
  staticTypes := #[.double, .double, .double, .double, .double, .long, .long, .double, .double, .boolean]
  resolved := Array.replicate 460 none
  statics := none }

def pool3 : Array CpInfo := pool [(2, .class_ 4), (1, u "java/lang/Object"), (0, u "<init>"), (0, u "()V"), (13, .class_ 22), (1, u "com/example/lanchid/lanchid/records/WholeNumber"), (8, .long 10), (1, .long 48), (1, u "RULE"), (0, u "Ljava/lang/String;"), (10, u "value"), (0, u "([BII)J")] 2

def k3m0 : Method := { name := "<init>", desc := "()V", sig := { parameters := [], returnType := none }, accessFlags := 2, code := none }
def k3c1 : Code := { maxStack := 4, maxLocals := 6, code := prog_127_method_4_code, exceptionTable := #[], attributes := #[] }
def k3m1 : Method := { name := "value", desc := "([BII)J", sig := { parameters := [(.array .byte), .int, .int], returnType := some .long }, accessFlags := 9, code := some k3c1 }
/-- com/example/lanchid/lanchid/records/WholeNumber -/
def k3 : Class := { plain "com/example/lanchid/lanchid/records/WholeNumber" (some 0) with
  accessFlags := 49
  interfaces := #[]
  cf := some (fileOf pool3 20 #[] #[{ accessFlags := 2, nameIndex := 5, descriptorIndex := 6, attributes := #[] }, { accessFlags := 9, nameIndex := 47, descriptorIndex := 48, attributes := #[] }] 49 2 #[] #[{ accessFlags := 25, nameIndex := 35, descriptorIndex := 36, attributes := #[] }])
  fields := #[{ name := "RULE", type := (.object "java/lang/String"), accessFlags := 25, slot := 0, constantValue := 0 }]
  methods := #[k3m0, k3m1]
  instanceTypes := #[]
  staticTypes := #[(.object "java/lang/String")]
  resolved := Array.replicate 51 none
  statics := none }

def pool4 : Array CpInfo := pool [(1, u "java/lang/Cloneable"), (0, .class_ 1), (0, u "java/lang/Object"), (0, .class_ 3)] 3

/-- java/lang/Cloneable -/
def k4 : Class := { plain "java/lang/Cloneable" (some 0) with
  accessFlags := 1537
  interfaces := #[]
  cf := some (fileOf pool4 2 #[] #[] 1537 4 #[] #[])
  fields := #[]
  methods := #[]
  instanceTypes := #[]
  staticTypes := #[]
  resolved := Array.replicate 8 none
  statics := none }

def pool5 : Array CpInfo := pool [(1, u "java/io/Serializable"), (0, .class_ 1), (0, u "java/lang/Object"), (0, .class_ 3)] 3

/-- java/io/Serializable -/
def k5 : Class := { plain "java/io/Serializable" (some 0) with
  accessFlags := 1537
  interfaces := #[]
  cf := some (fileOf pool5 2 #[] #[] 1537 4 #[] #[])
  fields := #[]
  methods := #[]
  instanceTypes := #[]
  staticTypes := #[]
  resolved := Array.replicate 8 none
  statics := none }

/-- the primitive byte -/
def k6 : Class := { plain "byte" none with kind := .primitive 'B', accessFlags := 0x411 }
/-- [B -/
def k7 : Class := { plain "[B" (some 0) with kind := .array 6 .byte, interfaces := #[4, 5], accessFlags := 1041 }

/-- the primitive int -/
def k8 : Class := { plain "int" none with kind := .primitive 'I', accessFlags := 0x411 }
/-- [I -/
def k9 : Class := { plain "[I" (some 0) with kind := .array 8 .int, interfaces := #[4, 5], accessFlags := 1041 }

/-- the primitive long -/
def k10 : Class := { plain "long" none with kind := .primitive 'J', accessFlags := 0x411 }
/-- [J -/
def k11 : Class := { plain "[J" (some 0) with kind := .array 10 .long, interfaces := #[4, 5], accessFlags := 1041 }

def heap : Heap := #[]
def classes : Array Class := #[k0, k1, k2, k3, k4, k5, k6, k7, k8, k9, k10, k11]
def interned : List (Array UInt16 × Addr) := []
def slotsUsed : Nat := 0
def theMethod : MethodId := ⟨1, 1⟩
def args0 : Array Value := #[.long 5, .long 5, .int 5, .int 5, .int 5]
def aboutOver (below : List Frame) : State where
  vm := { classes := classes, interned := interned.toArray }
  heap := heap
  slotsUsed := slotsUsed
  threads := #[{ frames := .invoking theMethod args0 :: below }]
def below0 : List Frame := [.native { method := ⟨0, 0⟩, args := #[] }]
def about1 : State := aboutOver below0
def p0 : Program := .bare "" "" ""
def e0 : Env := launch0.env 0 0 0
theorem w_frames : about1.frames = Frame.invoking theMethod args0 :: below0 := rfl
set_option maxRecDepth 65536 in
theorem w_args : argsFit about1.vm theMethod args0 = true := by decide +kernel
set_option maxRecDepth 65536 in
theorem w_heap : heapFits about1 = true := by decide +kernel
set_option maxRecDepth 65536 in
theorem w_runnable : about1.curStatus? = some .runnable := by decide +kernel
set_option maxRecDepth 65536 in
theorem w_alone : about1.alone = true := by decide +kernel
set_option maxRecDepth 65536 in
theorem w_named : about1.methodNamed? x = some theMethod := by decide +kernel
set_option maxRecDepth 65536 in
theorem w_hears : about1.hears theMethod below0 = true := by decide +kernel
set_option maxRecDepth 65536 in
theorem w_ripe : about1.ripe theMethod args0 below0 = true := by decide +kernel
theorem w_running : about1.status = .running := rfl
set_option maxRecDepth 65536 in
theorem w_room : about1.hasRoom e0.platform room_1 = true :=
  launch0.hasRoom_least _ room_1 (by decide +kernel) (by decide +kernel) (by decide +kernel) (by decide +kernel) (by decide +kernel) (by decide +kernel)
theorem allAtoms_all (ts : List Jvm.Cond) (a : Array Jvm.Value) (st : Jvm.State) : (allAtoms ts).before a st = ts.all (fun c => c.before a st) := by
  induction ts with
  | nil => rfl
  | cons c t ih =>
    show (Jvm.Cond.and c (allAtoms t)).before a st = _
    rw [Jvm.Cond.before_and, ih, List.all_cons]
def words1 : List Jvm.Cond := Jvm.Cond.code x code maxLocals ret :: tables_1
/-- a 'code' word, met by the world's own term for the bytes: nothing is compared byte by byte -/
theorem code_word {y : MethodName} {bytes : ByteArray} {mx : Nat} {rt : Option FieldType} {a : Array Value} {s : State} {m : MethodId} {meth : Method} {c : Code} (h1 : s.methodNamed? y = some m) (h2 : s.vm.method? m = some meth) (h3 : meth.code = some c) (h4 : c.code = bytes)
    (h5 : (c.maxLocals == mx && c.exceptionTable.isEmpty && decide (c.maxStack ≤ mostOperands) && decide (meth.sig.returnType = rt) && !meth.locks && decide (parseMethodDescriptor y.desc = some meth.sig)) = true) : (Jvm.Cond.code y bytes mx rt).before a s = true := by
  simp only [Bool.and_eq_true, beq_iff_eq, Bool.not_eq_true', decide_eq_true_eq] at h5
  obtain ⟨⟨⟨⟨⟨g1, g2⟩, g3⟩, g4⟩, g5⟩, g6⟩ := h5
  simp [Cond.before, Cond.holds, Cond.value, h1, h2, h3, h4, g1, g2, g3, g4, g5, g6]
def isCode : Jvm.Cond → Bool
  | .code _ _ _ _ => true
  | _ => false
theorem all_split {L : List Jvm.Cond} {P : Jvm.Cond → Bool} (h1 : L.all (fun c => isCode c || P c) = true) (h2 : ∀ c ∈ L.filter isCode, P c = true) : L.all P = true := by
  refine List.all_eq_true.mpr fun c hc => ?_
  have h := List.all_eq_true.mp h1 c hc
  rcases Bool.eq_false_or_eq_true (isCode c) with hi | hi
  · exact h2 c (List.mem_filter.mpr ⟨hc, hi⟩)
  · simpa [hi] using h
set_option maxRecDepth 65536 in
theorem w_c0 : (Jvm.Cond.code x code maxLocals ret).before args0 about1 = true := code_word (m := ⟨1, 1⟩) (meth := k1m1) (c := k1c1) (by decide +kernel) rfl rfl rfl (by decide +kernel)
set_option maxRecDepth 65536 in
theorem w_c1 : (Jvm.Cond.code ({ cls := "com/example/lanchid/lanchid/records/WholeNumberValuePinLaw", name := "digit", desc := "(J[JI)B" } : Jvm.MethodName) method_3_code (4 : Nat) (Option.some Jvm.ClassFile.FieldType.byte)).before args0 about1 = true := code_word (m := ⟨1, 2⟩) (meth := k1m2) (c := k1c2) (by decide +kernel) rfl rfl rfl (by decide +kernel)
set_option maxRecDepth 65536 in
theorem w_c2 : (Jvm.Cond.code ({ cls := "java/lang/Math", name := "min", desc := "(II)I" } : Jvm.MethodName) jdk_29_method_69_code (2 : Nat) (Option.some Jvm.ClassFile.FieldType.int)).before args0 about1 = true := code_word (m := ⟨2, 2⟩) (meth := k2m2) (c := k2c2) (by decide +kernel) rfl rfl rfl (by decide +kernel)
set_option maxRecDepth 65536 in
theorem w_c3 : (Jvm.Cond.code ({ cls := "java/lang/Math", name := "max", desc := "(II)I" } : Jvm.MethodName) jdk_29_method_65_code (2 : Nat) (Option.some Jvm.ClassFile.FieldType.int)).before args0 about1 = true := code_word (m := ⟨2, 1⟩) (meth := k2m1) (c := k2c1) (by decide +kernel) rfl rfl rfl (by decide +kernel)
set_option maxRecDepth 65536 in
theorem w_c4 : (Jvm.Cond.code ({ cls := "com/example/lanchid/lanchid/records/WholeNumber", name := "value", desc := "([BII)J" } : Jvm.MethodName) prog_127_method_4_code (6 : Nat) (Option.some Jvm.ClassFile.FieldType.long)).before args0 about1 = true := code_word (m := ⟨3, 1⟩) (meth := k3m1) (c := k3c1) (by decide +kernel) rfl rfl rfl (by decide +kernel)
def codes1 : List Jvm.Cond := [Jvm.Cond.code x code maxLocals ret, Jvm.Cond.code ({ cls := "com/example/lanchid/lanchid/records/WholeNumberValuePinLaw", name := "digit", desc := "(J[JI)B" } : Jvm.MethodName) method_3_code (4 : Nat) (Option.some Jvm.ClassFile.FieldType.byte), Jvm.Cond.code ({ cls := "java/lang/Math", name := "min", desc := "(II)I" } : Jvm.MethodName) jdk_29_method_69_code (2 : Nat) (Option.some Jvm.ClassFile.FieldType.int), Jvm.Cond.code ({ cls := "java/lang/Math", name := "max", desc := "(II)I" } : Jvm.MethodName) jdk_29_method_65_code (2 : Nat) (Option.some Jvm.ClassFile.FieldType.int), Jvm.Cond.code ({ cls := "com/example/lanchid/lanchid/records/WholeNumber", name := "value", desc := "([BII)J" } : Jvm.MethodName) prog_127_method_4_code (6 : Nat) (Option.some Jvm.ClassFile.FieldType.long)]
set_option maxRecDepth 65536 in
theorem codes_eq : words1.filter isCode = codes1 := rfl
theorem w_codes : ∀ c ∈ words1.filter isCode, c.before args0 about1 = true := by
  rw [codes_eq]
  intro c hc
  simp only [codes1, List.mem_cons, List.not_mem_nil, or_false] at hc
  rcases hc with rfl | rfl | rfl | rfl | rfl
  · exact w_c0
  · exact w_c1
  · exact w_c2
  · exact w_c3
  · exact w_c4
set_option maxRecDepth 65536 in
theorem w_t1 : (words1.take 24).all (fun c => isCode c || c.before args0 about1) = true := by decide +kernel
set_option maxRecDepth 65536 in
theorem w_t2 : (words1.drop 24).all (fun c => isCode c || c.before args0 about1) = true := by decide +kernel
theorem w_tables : (allAtoms (Jvm.Cond.code x code maxLocals ret :: tables_1)).before args0 about1 = true := by
  rw [allAtoms_all]
  show words1.all (fun c => c.before args0 about1) = true
  refine all_split ?_ w_codes
  rw [← List.take_append_drop 24 words1, List.all_append, w_t1, w_t2]
  rfl
set_option maxRecDepth 65536 in
theorem w_case : (Jvm.Cond.and given_1 narrow_1).before args0 about1 = true := by decide +kernel
theorem w_applies : (headSpec (Jvm.Cond.code x code maxLocals ret :: tables_1) room_1).applies x e0.platform about1 = true :=
  (Spec.applies_iff w_frames).mpr ⟨w_running, w_runnable, w_alone, w_named, w_hears, w_ripe, w_room, w_tables⟩
theorem atStart : AtStart classFile x code maxLocals ret World_1 tables_1 room_1 Calls_1 rest_1 Pre_1 launch0 p0 e0 about1 theMethod args0 below0 :=
  ⟨lists_1, trivial, launch0.admits_env _ _ _, launch0.least_env, fairChoices_fair.cas, fairChoices_fair.clock, w_frames, w_args, w_heap, w_applies, trivial, trivial, w_case⟩
end start1
theorem witness_1 : WitnessClaimed_1 := ⟨start1.p0, start1.e0, start1.about1, start1.theMethod, start1.args0, start1.below0, start1.atStart⟩
end Jvm.Pilot.@@N@@
