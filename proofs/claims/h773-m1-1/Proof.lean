import JvmDerived
import JvmDerived.Pilot.@@N@@Statement
import JvmDerived.Pilot.@@N@@Code
set_option linter.unusedVariables false
set_option linter.unusedSimpArgs false
namespace Jvm.Pilot.@@N@@
open Jvm Jvm.ClassFile Sem Op Lib Jvm.Free Jvm.Stand Jvm.LawKit Jvm.RoadKit Bundle Jvm.Pilot.@@N@@.Jvm.D
section Own
variable {p : Program} {l : Launch} {e : Env} {R : Room} {s : State} {m : MethodId} {args : Array Value} {below : List Frame} {meth : Method} {c : Code} {T : State} {locs : List Loc} {cells slots : Nat} {C N : Nat} {Q : Option Value → Heap → List Loc → Prop} {V V' : State}
/-- from the state V the method comes to its return, and leaves what Q says -/
def own_Run (p : Program) (e : Env) (below : List Frame) (s : State) (C N : Nat) (Q : Option Value → Heap → List Loc → Prop) (V : State) : Prop :=
  ∃ s₂ o, Steps p.tables e below V s₂ ∧ s₂.status = .running ∧ Ended s₂ below o ∧ ∃ v L, o = .returned v ∧ Q v s₂.heap L ∧ FrameEnd s o s₂ L C N
theorem own_of (k : ∀ t, Steps p.tables e below V' t → Steps p.tables e below V t) (r : own_Run p e below s C N Q V') : own_Run p e below s C N Q V := by
  obtain ⟨s₂, o, h, q⟩ := r
  exact ⟨s₂, o, k _ h, q⟩
theorem own_tr (k : Steps p.tables e below V V') (r : own_Run p e below s C N Q V') : own_Run p e below s C N Q V := own_of (fun _ h => k.trans h) r
theorem own_cast {g g' : JFrame} (q : g = g') (r : own_Run p e below s C N Q (T.setTop g')) : own_Run p e below s C N Q (T.setTop g) := q ▸ r
theorem own_ret (X : Stand p l e R s m args below meth c T locs cells slots) (hx : p.tables.exec = Jvm.exec) {pc : Nat} {Ls : Array Slot} {w : Value} {t : FieldType} {i : Instr} {rest : List Value} (hret : meth.sig.returnType = some t) (hlk : meth.locks = false) (hn : narrow t w = w)
    (hi : (i = .ireturn ∧ (t = .int ∨ t = .boolean ∨ t = .byte ∨ t = .char ∨ t = .short) ∧ ∃ z, w = .int z) ∨ (i = .lreturn ∧ t = .long ∧ ∃ z, w = .long z) ∨ (i = .dreturn ∧ t = .double ∧ ∃ z, w = .double z) ∨ (i = .freturn ∧ t = .float ∧ ∃ z, w = .float z) ∨ (i = .areturn ∧ t.isReference = true ∧ w.isRef = true))
    (hd : decode c.code pc = .ok (i, 1)) (q : Q (some w) T.heap locs) (hc : cells ≤ C) (hs : slots ≤ N) : own_Run p e below s C N Q (T.setTop (mkF m pc Ls (w :: rest))) := by
  obtain ⟨fs, hr, hrun, hended, hW, hsame⟩ := X.leave (v := some w) (fun h => by rw [hret] at h; cases h) hlk
  exact ⟨_, _, retOut X hx hret hn hi hd hr, hrun, hended, _, _, rfl, q, ⟨_, rfl⟩, hW, hsame.mono hc hs⟩
theorem own_retI (X : Stand p l e R s m args below meth c T locs cells slots) (hx : p.tables.exec = Jvm.exec) {pc : Nat} {Ls : Array Slot} {z : Int32} {rest : List Value} (hret : meth.sig.returnType = some .int) (hlk : meth.locks = false)
    (hd : decode c.code pc = .ok (.ireturn, 1)) (q : Q (some (.int z)) T.heap locs) (hc : cells ≤ C) (hs : slots ≤ N) : own_Run p e below s C N Q (T.setTop (mkF m pc Ls (.int z :: rest))) :=
  own_ret X hx hret hlk rfl (Or.inl ⟨rfl, Or.inl rfl, z, rfl⟩) hd q hc hs
theorem own_retJ (X : Stand p l e R s m args below meth c T locs cells slots) (hx : p.tables.exec = Jvm.exec) {pc : Nat} {Ls : Array Slot} {z : Int64} {rest : List Value} (hret : meth.sig.returnType = some .long) (hlk : meth.locks = false)
    (hd : decode c.code pc = .ok (.lreturn, 1)) (q : Q (some (.long z)) T.heap locs) (hc : cells ≤ C) (hs : slots ≤ N) : own_Run p e below s C N Q (T.setTop (mkF m pc Ls (.long z :: rest))) :=
  own_ret X hx hret hlk rfl (Or.inr (Or.inl ⟨rfl, rfl, z, rfl⟩)) hd q hc hs
theorem own_retN (X : Stand p l e R s m args below meth c T locs cells slots) (hx : p.tables.exec = Jvm.exec) {pc : Nat} {Ls : Array Slot} {z : Int32} {t : FieldType} {rest : List Value} (hret : meth.sig.returnType = some t) (hlk : meth.locks = false) (ht : t = .boolean ∨ t = .byte ∨ t = .char ∨ t = .short)
    (hd : decode c.code pc = .ok (.ireturn, 1)) (q : Q (some (.int (nar t z))) T.heap locs) (hc : cells ≤ C) (hs : slots ≤ N) : own_Run p e below s C N Q (T.setTop (mkF m pc Ls (.int z :: rest))) := by
  obtain ⟨fs, hr, hrun, hended, hW, hsame⟩ := X.leave (v := some (.int (nar t z))) (fun h => by rw [hret] at h; cases h) hlk
  exact ⟨_, _, retN X hx hret ht hd hr, hrun, hended, _, _, rfl, q, ⟨_, rfl⟩, hW, hsame.mono hc hs⟩
theorem own_retV (X : Stand p l e R s m args below meth c T locs cells slots) (hx : p.tables.exec = Jvm.exec) {pc : Nat} {Ls : Array Slot} (hret : meth.sig.returnType = none) (hlk : meth.locks = false)
    (hd : decode c.code pc = .ok (.return_, 1)) (q : Q none T.heap locs) (hc : cells ≤ C) (hs : slots ≤ N) : own_Run p e below s C N Q (T.setTop (mkF m pc Ls [])) := by
  obtain ⟨fs, hr, hrun, hended, hW, hsame⟩ := X.leave (v := none) (fun _ => rfl) hlk
  exact ⟨_, _, X.returnOut hx hret hd hr, hrun, hended, _, _, rfl, q, ⟨_, rfl⟩, hW, hsame.mono hc hs⟩
end Own
section OwnArrays
variable {p : Program} {l : Launch} {e : Env} {R : Room} {s : State} {m : MethodId} {args : Array Value} {below : List Frame} {meth : Method} {c : Code} {T : State} {locs : List Loc} {cells slots : Nat} {C N : Nat} {Q : Option Value → Heap → List Loc → Prop} {Z : State} {h h' : Heap} {a b : Addr} {ty : FieldType} {n : Nat} {f g : Nat → Int32} {v : Value} {sl : Nat} {ws : List Addr}
/-- in the heap h, at a, an array of the kind ty and n places; its place i holds the int f i -/
def own_Ar (Z : State) (h : Heap) (a : Addr) (ty : FieldType) (n : Nat) (f : Nat → Int32) : Prop := ∃ c : Cell, Arr Z h a c ty ∧ c.slots.size = n ∧ ∀ i, i < n → c.slots[i]? = some (.int (f i))
def own_up (f : Nat → Int32) (j : Nat) (v : Int32) : Nat → Int32 := fun i => if i = j then v else f i
theorem own_Ar.lt (F : own_Ar Z h a ty n f) : a < h.size := by obtain ⟨c, A, -⟩ := F; exact A.lt
theorem own_Ar.ext (F : own_Ar Z h a ty n f) (E : Ext h h') : own_Ar Z h' a ty n f := by obtain ⟨c, A, r⟩ := F; exact ⟨c, A.ext E, r⟩
theorem own_Ar.other (F : own_Ar Z h b ty n f) (W : Wr h h' a sl v) (q : b ≠ a) : own_Ar Z h' b ty n f := by obtain ⟨c, A, r⟩ := F; exact ⟨c, A.other W q, r⟩
theorem own_Ar.keep (F : own_Ar Z h a ty n f) (K : Keep h h' ws) (q : a ∉ ws) : own_Ar Z h' a ty n f := by obtain ⟨c, A, r⟩ := F; exact ⟨c, ⟨K.2.1 a c A.1 q, A.2⟩, r⟩
theorem own_Ar.congr (F : own_Ar Z h a ty n f) (q : ∀ i, i < n → f i = g i) : own_Ar Z h a ty n g := by obtain ⟨c, A, r, H⟩ := F; exact ⟨c, A, r, fun i hi => by rw [← q i hi]; exact H i hi⟩
theorem own_Ar.new {k : ClassId} {z : Int32} (A : Arr Z h a (newA k ty z) ty) (hd : defaultValue ty = .int 0) (hn : z.toNatClampNeg = n) : own_Ar Z h a ty n (fun _ => 0) :=
  ⟨_, A, by rw [sz_new, hn], fun i hi => by simp [newA, hd, hn, hi]⟩
theorem own_Ar.set {w : Int32} {j : Nat} (F : own_Ar Z h a ty n f) (W : Wr h h' a j (.int w)) (hj : j < n) : own_Ar Z h' a ty n (own_up f j w) := by
  obtain ⟨c, A, r, H⟩ := F
  refine ⟨_, A.same W, by rw [sz_set]; exact r, fun i hi => ?_⟩
  by_cases q : i = j
  · subst q
    simp [own_up, Cell.setSlot, r, hi]
  · rw [show (c.setSlot j (.int w)).slots[i]? = c.slots[i]? from Array.getElem?_setIfInBounds_ne (Ne.symm q)]
    simp [own_up, q, H i hi]
theorem own_bal (X : Stand p l e R s m args below meth c T locs cells slots) (hx : p.tables.exec = Jvm.exec) (hZ : Z.Warmed39 s.vm) (eT : T.heap = h) (A : own_Ar Z h a .byte n f) {j w : Int32} (h1 : ¬ j < 0) (h2 : j.toNatClampNeg < n) (hv : f j.toNatClampNeg = w)
    {pc : Nat} {Ls : Array Slot} {rest : List Value} (hd : decode c.code pc = .ok (.baload, 1)) (r : own_Run p e below s C N Q (T.setTop (mkF m (pc + 1) Ls (.int w :: rest)))) : own_Run p e below s C N Q (T.setTop (mkF m pc Ls (.int j :: .ref a :: rest))) := by
  obtain ⟨c, A, S, H⟩ := A
  subst hv
  exact own_of (fun t k => X.baloadBytes hx (j := j) (v := .int (f j.toNatClampNeg)) (by rw [eT]; exact A.1) (State.isArrayOf_alike hZ.alike A.2.1) A.2.2 (by rw [S]; exact fun q => q.elim h1 (Nat.not_le.mpr h2)) (H _ h2) (g := mkF m pc Ls (.int j :: .ref a :: rest)) rfl rfl hd t k) r
theorem own_ial (X : Stand p l e R s m args below meth c T locs cells slots) (hx : p.tables.exec = Jvm.exec) (hZ : Z.Warmed39 s.vm) (eT : T.heap = h) (A : own_Ar Z h a .int n f) {j w : Int32} (h1 : ¬ j < 0) (h2 : j.toNatClampNeg < n) (hv : f j.toNatClampNeg = w)
    {pc : Nat} {Ls : Array Slot} {rest : List Value} (hd : decode c.code pc = .ok (.iaload, 1)) (r : own_Run p e below s C N Q (T.setTop (mkF m (pc + 1) Ls (.int w :: rest)))) : own_Run p e below s C N Q (T.setTop (mkF m pc Ls (.int j :: .ref a :: rest))) := by
  obtain ⟨c, A, S, H⟩ := A
  subst hv
  exact own_of (fun t k => X.iaload hx (j := j) (v := .int (f j.toNatClampNeg)) (by rw [eT]; exact A.1) (State.isArrayOf_alike hZ.alike A.2.1) A.2.2 (by rw [S]; exact fun q => q.elim h1 (Nat.not_le.mpr h2)) (H _ h2) (g := mkF m pc Ls (.int j :: .ref a :: rest)) rfl rfl hd t k) r
theorem own_alen (X : Stand p l e R s m args below meth c T locs cells slots) (hx : p.tables.exec = Jvm.exec) (hZ : Z.Warmed39 s.vm) (eT : T.heap = h) (A : own_Ar Z h a ty n f) {w : Int32} (hv : n.toInt32 = w)
    {pc : Nat} {Ls : Array Slot} {rest : List Value} (hd : decode c.code pc = .ok (.arraylength, 1)) (r : own_Run p e below s C N Q (T.setTop (mkF m (pc + 1) Ls (.int w :: rest)))) : own_Run p e below s C N Q (T.setTop (mkF m pc Ls (.ref a :: rest))) := by
  obtain ⟨c, A, S, H⟩ := A
  subst hv S
  exact own_of (fun t k => X.arraylength hx (by rw [eT]; exact A.1) (State.isArrayOf_alike hZ.alike A.2.1) (g := mkF m pc Ls (.ref a :: rest)) rfl rfl hd t k) r
theorem own_bas (X : Stand p l e R s m args below meth c T locs cells slots) (hx : p.tables.exec = Jvm.exec) (hZ : Z.Warmed39 s.vm) (eT : T.heap = h) (A : own_Ar Z h a .byte n f) {j x : Int32} (h1 : ¬ j < 0) (h2 : j.toNatClampNeg < n)
    {pc : Nat} {Ls : Array Slot} {rest : List Value} (hd : decode c.code pc = .ok (.bastore, 1)) :
    ∃ T' h', Stand p l e R s m args below meth c T' (locs ++ [⟨a, j.toNatClampNeg⟩]) cells slots ∧ T'.heap = h' ∧ Wr h h' a j.toNatClampNeg (.int x.toInt8.toInt32) ∧ own_Ar Z h' a .byte n (own_up f j.toNatClampNeg x.toInt8.toInt32) ∧
      ∀ t, Steps p.tables e below (T'.setTop (mkF m (pc + 1) Ls rest)) t → Steps p.tables e below (T.setTop (mkF m pc Ls (.int x :: .int j :: .ref a :: rest))) t := by
  obtain ⟨c, A, S, H⟩ := id A
  obtain ⟨T', h', X', e', W, st⟩ := stB X hx hZ eT A (j := j) (x := x) (by rw [S]; exact fun q => q.elim h1 (Nat.not_le.mpr h2)) (g := mkF m pc Ls (.int x :: .int j :: .ref a :: rest)) rfl rfl hd
  exact ⟨T', h', X', e', W, own_Ar.set ⟨c, A, S, H⟩ W h2, st⟩
theorem own_ias (X : Stand p l e R s m args below meth c T locs cells slots) (hx : p.tables.exec = Jvm.exec) (hZ : Z.Warmed39 s.vm) (eT : T.heap = h) (A : own_Ar Z h a .int n f) {j x : Int32} (h1 : ¬ j < 0) (h2 : j.toNatClampNeg < n)
    {pc : Nat} {Ls : Array Slot} {rest : List Value} (hd : decode c.code pc = .ok (.iastore, 1)) :
    ∃ T' h', Stand p l e R s m args below meth c T' (locs ++ [⟨a, j.toNatClampNeg⟩]) cells slots ∧ T'.heap = h' ∧ Wr h h' a j.toNatClampNeg (.int x) ∧ own_Ar Z h' a .int n (own_up f j.toNatClampNeg x) ∧
      ∀ t, Steps p.tables e below (T'.setTop (mkF m (pc + 1) Ls rest)) t → Steps p.tables e below (T.setTop (mkF m pc Ls (.int x :: .int j :: .ref a :: rest))) t := by
  obtain ⟨c, A, S, H⟩ := id A
  obtain ⟨T', h', X', e', W, st⟩ := stI X hx hZ eT A (j := j) (x := x) (by rw [S]; exact fun q => q.elim h1 (Nat.not_le.mpr h2)) (g := mkF m pc Ls (.int x :: .int j :: .ref a :: rest)) rfl rfl hd
  exact ⟨T', h', X', e', W, own_Ar.set ⟨c, A, S, H⟩ W h2, st⟩
end OwnArrays
def own_minI (a b : Int32) : Int32 := if b < a then b else a
def own_maxI (a b : Int32) : Int32 := if a < b then b else a
theorem own_minI_i (a b : Int32) : (own_minI a b).toInt = if b.toInt < a.toInt then b.toInt else a.toInt := by
  unfold own_minI
  by_cases h : b < a
  · rw [if_pos h, if_pos (Int32.lt_iff_toInt_lt.mp h)]
  · rw [if_neg h, if_neg (mt Int32.lt_iff_toInt_lt.mpr h)]
theorem own_maxI_i (a b : Int32) : (own_maxI a b).toInt = if a.toInt < b.toInt then b.toInt else a.toInt := by
  unfold own_maxI
  by_cases h : a < b
  · rw [if_pos h, if_pos (Int32.lt_iff_toInt_lt.mp h)]
  · rw [if_neg h, if_neg (mt Int32.lt_iff_toInt_lt.mpr h)]
theorem own_pos {j : Int32} (h0 : 0 ≤ j.toInt) : ¬ j < 0 := by
  apply mt Int32.lt_iff_toInt_lt.mp
  have l : (0 : Int32).toInt = 0 := rfl
  omega
theorem own_clamp {j : Int32} (h0 : 0 ≤ j.toInt) : (j.toNatClampNeg : Int) = j.toInt := (nat_of (own_pos h0)).symm
abbrev own_D (x : Int32) : Prop := 48 ≤ x.toInt ∧ x.toInt ≤ 57
abbrev own_F (x i a b : Int32) : Prop := i.toInt < a.toInt ∨ b.toInt ≤ i.toInt ∨ (48 ≤ x.toInt ∧ x.toInt ≤ 57)
abbrev own_N (x i a b : Int32) : Prop := a.toInt ≤ i.toInt ∧ i.toInt < b.toInt ∧ x.toInt ≠ 48
/-- r is what firstDigit says of the places a .. b of g -/
def own_FD (g : Nat → Int32) (a b r : Int) : Prop :=
  (a = b ∧ r = -1) ∨ (a < b ∧ (((∃ j : Nat, a ≤ j ∧ (j : Int) < b ∧ ¬ own_D (g j)) ∧ r = -1) ∨
    ((∀ j : Nat, a ≤ j → (j : Int) < b → own_D (g j)) ∧ a ≤ r ∧ r ≤ b ∧ (∀ j : Nat, a ≤ j → (j : Int) < r → (g j).toInt = 48) ∧ (∀ j : Nat, (j : Int) = r → r < b → (g j).toInt ≠ 48))))
theorem own_uniq {g : Nat → Int32} {a b r t : Int} (ha : 0 ≤ a) (h1 : own_FD g a b r) (h2 : own_FD g a b t) : r = t := by
  rcases h1 with ⟨p1, p2⟩ | ⟨p1, h1⟩
  · rcases h2 with ⟨q1, q2⟩ | ⟨q1, h2⟩
    · omega
    · omega
  · rcases h2 with ⟨q1, q2⟩ | ⟨q1, h2⟩
    · omega
    · rcases h1 with ⟨⟨j, j1, j2, j3⟩, e1⟩ | ⟨u1, u2, u3, u4, u5⟩
      · rcases h2 with ⟨_, e2⟩ | ⟨v1, _⟩
        · omega
        · exact absurd (v1 j j1 j2) j3
      · rcases h2 with ⟨⟨j, j1, j2, j3⟩, e2⟩ | ⟨v1, v2, v3, v4, v5⟩
        · exact absurd (u1 j j1 j2) j3
        · by_cases c1 : r < t
          · have z := v4 r.toNat (by omega) (by omega)
            exact absurd z (u5 r.toNat (by omega) (by omega))
          · by_cases c2 : t < r
            · have z := u4 t.toNat (by omega) (by omega)
              exact absurd z (v5 t.toNat (by omega) (by omega))
            · omega
theorem own_five {j : Nat} {b : Int} (h : (j : Int) < b) (hb : b ≤ 5) : j = 0 ∨ j = 1 ∨ j = 2 ∨ j = 3 ∨ j = 4 := by omega
theorem own_bad {g : Nat → Int32} {a b i : Int32} (k : Nat) (hi : i.toInt = (k : Int)) (h : ¬ own_F (g k) i a b) : own_FD g a.toInt b.toInt (-1) :=
  Or.inr ⟨by omega, Or.inl ⟨⟨k, by omega, by omega, fun q => h (Or.inr (Or.inr q))⟩, rfl⟩⟩
theorem own_good {g : Nat → Int32} {a b x : Int32} (h0 : 0 ≤ a.toInt) (h1 : a.toInt < b.toInt) (h5 : b.toInt ≤ 5)
    (f0 : own_F (g 0) (0 : Int32) a b) (f1 : own_F (g 1) (1 : Int32) a b) (f2 : own_F (g 2) (2 : Int32) a b) (f3 : own_F (g 3) (3 : Int32) a b) (f4 : own_F (g 4) (4 : Int32) a b)
    (hx : x = (if own_N (g 0) (0 : Int32) a b then (0 : Int32) else if own_N (g 1) (1 : Int32) a b then (1 : Int32) else if own_N (g 2) (2 : Int32) a b then (2 : Int32) else if own_N (g 3) (3 : Int32) a b then (3 : Int32) else if own_N (g 4) (4 : Int32) a b then (4 : Int32) else b)) : own_FD g a.toInt b.toInt x.toInt := by
  have l0 : (0 : Int32).toInt = 0 := rfl
  have l1 : (1 : Int32).toInt = 1 := rfl
  have l2 : (2 : Int32).toInt = 2 := rfl
  have l3 : (3 : Int32).toInt = 3 := rfl
  have l4 : (4 : Int32).toInt = 4 := rfl
  refine Or.inr ⟨h1, Or.inr ⟨?_, ?_⟩⟩
  · intro j j1 j2
    rcases own_five j2 h5 with rfl | rfl | rfl | rfl | rfl
    · unfold own_D; unfold own_F at f0; omega
    · unfold own_D; unfold own_F at f1; omega
    · unfold own_D; unfold own_F at f2; omega
    · unfold own_D; unfold own_F at f3; omega
    · unfold own_D; unfold own_F at f4; omega
  · have key : ∀ j : Nat, j ≤ 4 → (a.toInt ≤ (j : Int) → (j : Int) < x.toInt → (g j).toInt = 48) ∧ ((j : Int) = x.toInt → x.toInt < b.toInt → (g j).toInt ≠ 48) := by
      intro j hj
      have hj' : j = 0 ∨ j = 1 ∨ j = 2 ∨ j = 3 ∨ j = 4 := by omega
      unfold own_N at hx
      split at hx
      · subst hx
        rcases hj' with rfl | rfl | rfl | rfl | rfl <;> constructor <;> intro p1 p2 <;> omega
      · split at hx
        · subst hx
          rcases hj' with rfl | rfl | rfl | rfl | rfl <;> constructor <;> intro p1 p2 <;> omega
        · split at hx
          · subst hx
            rcases hj' with rfl | rfl | rfl | rfl | rfl <;> constructor <;> intro p1 p2 <;> omega
          · split at hx
            · subst hx
              rcases hj' with rfl | rfl | rfl | rfl | rfl <;> constructor <;> intro p1 p2 <;> omega
            · split at hx
              · subst hx
                rcases hj' with rfl | rfl | rfl | rfl | rfl <;> constructor <;> intro p1 p2 <;> omega
              · subst hx
                rcases hj' with rfl | rfl | rfl | rfl | rfl <;> constructor <;> intro p1 p2 <;> omega
    have rx : a.toInt ≤ x.toInt ∧ x.toInt ≤ b.toInt := by
      unfold own_N at hx
      split at hx
      · subst hx; omega
      · split at hx
        · subst hx; omega
        · split at hx
          · subst hx; omega
          · split at hx
            · subst hx; omega
            · split at hx
              · subst hx; omega
              · subst hx; omega
    exact ⟨rx.1, rx.2, fun j j1 j2 => (key j (by omega)).1 j1 j2, fun j j1 j2 => (key j (by omega)).2 j1 j2⟩
theorem own_m6 (x : Int32) : 0 ≤ ((x &&& (7 : Int32)) % (6 : Int32)).toInt ∧ ((x &&& (7 : Int32)) % (6 : Int32)).toInt ≤ 5 := by
  have a : (x &&& (7 : Int32)).toInt = x.toInt % 8 := c_mask x (7 : Int32) 3 (by decide) (by decide)
  have b := (c_irem (x &&& (7 : Int32)) (6 : Int32) 6 rfl).1 (by omega)
  omega
theorem dm_0 : decode jdk_29_method_69_code 0 = .ok (.iload_n 0, 1) := by decide +kernel
theorem dm_1 : decode jdk_29_method_69_code 1 = .ok (.iload_n 1, 1) := by decide +kernel
theorem dm_2 : decode jdk_29_method_69_code 2 = .ok (.if_icmp .gt 7, 3) := by decide +kernel
theorem dm_5 : decode jdk_29_method_69_code 5 = .ok (.iload_n 0, 1) := by decide +kernel
theorem dm_6 : decode jdk_29_method_69_code 6 = .ok (.goto 4, 3) := by decide +kernel
theorem dm_9 : decode jdk_29_method_69_code 9 = .ok (.iload_n 1, 1) := by decide +kernel
theorem dm_10 : decode jdk_29_method_69_code 10 = .ok (.ireturn, 1) := by decide +kernel
theorem efm (m : MethodId) (p1 : Int32) (p2 : Int32) : entryFrame m #[(.int p1), (.int p2)] 2 = mkF m 0 #[.val (.int p1), .val (.int p2)] [] := by first | (simp [entryFrame, mkF, argsToLocals, Value.category]; done) | rfl
def Qm (Z : State) (p1 : Int32) (p2 : Int32) (h0 : Heap) (n0 : Nat) (v : Option Value) (h : Heap) (L : List Loc) : Prop := v = some (.int (own_minI p1 p2)) ∧ Fr n0 L ∧ h = h0
set_option maxRecDepth 65536 in
set_option maxHeartbeats 40000000 in
theorem rmm (l : Launch) (Z : State) (a0 : Array Value) (hw : ∀ d ∈ tables_1, d.before a0 Z = true) (ws : List Jvm.Cond) (p1 : Int32) (p2 : Int32) (h0 : Heap) (n0 : Nat) (Z0 : n0 ≤ h0.size)  :
    MetFree l (⟨"java/lang/Math", "min", "(II)I"⟩ : MethodName) (head1 (Jvm.Cond.code (⟨"java/lang/Math", "min", "(II)I"⟩ : MethodName) jdk_29_method_69_code 2 (some .int) :: ws) ({ frames := 0, cells := 0, slots := 0, locals := 0 } : Room)) (fun a U => a = #[(.int p1), (.int p2)] ∧ Z.Warmed39 U.vm ∧ U.heap = h0) (fun _ _ _ _ _ => True) (fun _ U o U' => ∃ v L, o = .returned v ∧ Qm Z p1 p2 h0 n0 v U'.heap L ∧ FrameEnd U o U' L ({ frames := 0, cells := 0, slots := 0, locals := 0 } : Room).cells ({ frames := 0, cells := 0, slots := 0, locals := 0 } : Room).slots) := by
  refine MetFree.of_bodySF (Jvm.Free.JP.mathPlain rfl (by decide +kernel)) hisR ?_
  intro p e s m args below meth c s₁ Bd hml0 hP hK
  obtain ⟨rfl, hZ, hh⟩ := hP
  have hx := Bd.exec
  have hby := Bd.bytes
  have hml : c.maxLocals = 2 := hml0
  have hown : s.vm.findClass "java/lang/Math" = some m.cls := findClass_of_methodNamed Bd.named
  have hnm := (name_of_methodNamed Bd.named Bd.method).1
  have hlk := Bd.notSynchronized
  have hret := Bd.returns
  have X0 : Stand p l e ({ frames := 0, cells := 0, slots := 0, locals := 0 } : Room) s m #[(.int p1), (.int p2)] below meth c s₁ [] 0 0 := Stand.of_body Bd
  have e0 : s₁.heap = h0 := by rw [← hh, Bd.state]; rfl
  have N0 := Fr.nil n0
  show own_Run p e below s 0 0 (Qm Z p1 p2 h0 n0) (s₁.setTop (entryFrame m #[(.int p1), (.int p2)] 2))
  refine own_cast (efm m p1 p2) ?_
  show own_Run p e below s _ _ _ (s₁.setTop (mkF m 0 #[.val (.int p1), .val (.int p2)] []))
  refine own_of (fun _ hh_ => XS.iloadN X0.here hx rfl (hb hby dm_0) rfl hh_) ?_
  show own_Run p e below s _ _ _ (s₁.setTop (mkF m 1 #[.val (.int p1), .val (.int p2)] [(.int p1)]))
  refine own_of (fun _ hh_ => XS.iloadN X0.here hx rfl (hb hby dm_1) rfl hh_) ?_
  show own_Run p e below s _ _ _ (s₁.setTop (mkF m 2 #[.val (.int p1), .val (.int p2)] [(.int p2), (.int p1)]))
  by_cases hc2_1 : p2 < p1
  · refine own_of (fun _ hh_ => XS.icmpYes X0.here hx rfl (pc0 := 2) (pc' := 9) rfl (hb hby dm_2) rfl (tlt hc2_1).2.2.1 (by decide) (by decide) hh_) ?_
    show own_Run p e below s _ _ _ (s₁.setTop (mkF m 9 #[.val (.int p1), .val (.int p2)] []))
    refine own_of (fun _ hh_ => XS.iloadN X0.here hx rfl (hb hby dm_9) rfl hh_) ?_
    show own_Run p e below s _ _ _ (s₁.setTop (mkF m 10 #[.val (.int p1), .val (.int p2)] [(.int p2)]))
    exact own_retI X0 hx hret hlk (hb hby dm_10) ⟨by unfold own_minI; rw [if_pos hc2_1], N0, e0⟩ (by decide) (by decide)
  · refine own_of (fun _ hh_ => XS.icmpNo X0.here hx rfl (hb hby dm_2) rfl (flt hc2_1).2.2.1 hh_) ?_
    show own_Run p e below s _ _ _ (s₁.setTop (mkF m 5 #[.val (.int p1), .val (.int p2)] []))
    refine own_of (fun _ hh_ => XS.iloadN X0.here hx rfl (hb hby dm_5) rfl hh_) ?_
    show own_Run p e below s _ _ _ (s₁.setTop (mkF m 6 #[.val (.int p1), .val (.int p2)] [(.int p1)]))
    refine own_of (fun _ hh_ => XS.goto X0.here hx rfl (pc0 := 6) (pc' := 10) rfl (hb hby dm_6) (by decide) (by decide) hh_) ?_
    show own_Run p e below s _ _ _ (s₁.setTop (mkF m 10 #[.val (.int p1), .val (.int p2)] [(.int p1)]))
    exact own_retI X0 hx hret hlk (hb hby dm_10) ⟨by unfold own_minI; rw [if_neg hc2_1], N0, e0⟩ (by decide) (by decide)
theorem dM_0 : decode jdk_29_method_65_code 0 = .ok (.iload_n 0, 1) := by decide +kernel
theorem dM_1 : decode jdk_29_method_65_code 1 = .ok (.iload_n 1, 1) := by decide +kernel
theorem dM_2 : decode jdk_29_method_65_code 2 = .ok (.if_icmp .lt 7, 3) := by decide +kernel
theorem dM_5 : decode jdk_29_method_65_code 5 = .ok (.iload_n 0, 1) := by decide +kernel
theorem dM_6 : decode jdk_29_method_65_code 6 = .ok (.goto 4, 3) := by decide +kernel
theorem dM_9 : decode jdk_29_method_65_code 9 = .ok (.iload_n 1, 1) := by decide +kernel
theorem dM_10 : decode jdk_29_method_65_code 10 = .ok (.ireturn, 1) := by decide +kernel
theorem efM (m : MethodId) (p1 : Int32) (p2 : Int32) : entryFrame m #[(.int p1), (.int p2)] 2 = mkF m 0 #[.val (.int p1), .val (.int p2)] [] := by first | (simp [entryFrame, mkF, argsToLocals, Value.category]; done) | rfl
def QM (Z : State) (p1 : Int32) (p2 : Int32) (h0 : Heap) (n0 : Nat) (v : Option Value) (h : Heap) (L : List Loc) : Prop := v = some (.int (own_maxI p1 p2)) ∧ Fr n0 L ∧ h = h0
set_option maxRecDepth 65536 in
set_option maxHeartbeats 40000000 in
theorem rmM (l : Launch) (Z : State) (a0 : Array Value) (hw : ∀ d ∈ tables_1, d.before a0 Z = true) (ws : List Jvm.Cond) (p1 : Int32) (p2 : Int32) (h0 : Heap) (n0 : Nat) (Z0 : n0 ≤ h0.size)  :
    MetFree l (⟨"java/lang/Math", "max", "(II)I"⟩ : MethodName) (head1 (Jvm.Cond.code (⟨"java/lang/Math", "max", "(II)I"⟩ : MethodName) jdk_29_method_65_code 2 (some .int) :: ws) ({ frames := 0, cells := 0, slots := 0, locals := 0 } : Room)) (fun a U => a = #[(.int p1), (.int p2)] ∧ Z.Warmed39 U.vm ∧ U.heap = h0) (fun _ _ _ _ _ => True) (fun _ U o U' => ∃ v L, o = .returned v ∧ QM Z p1 p2 h0 n0 v U'.heap L ∧ FrameEnd U o U' L ({ frames := 0, cells := 0, slots := 0, locals := 0 } : Room).cells ({ frames := 0, cells := 0, slots := 0, locals := 0 } : Room).slots) := by
  refine MetFree.of_bodySF (Jvm.Free.JP.mathPlain rfl (by decide +kernel)) hisR ?_
  intro p e s m args below meth c s₁ Bd hml0 hP hK
  obtain ⟨rfl, hZ, hh⟩ := hP
  have hx := Bd.exec
  have hby := Bd.bytes
  have hml : c.maxLocals = 2 := hml0
  have hown : s.vm.findClass "java/lang/Math" = some m.cls := findClass_of_methodNamed Bd.named
  have hnm := (name_of_methodNamed Bd.named Bd.method).1
  have hlk := Bd.notSynchronized
  have hret := Bd.returns
  have X0 : Stand p l e ({ frames := 0, cells := 0, slots := 0, locals := 0 } : Room) s m #[(.int p1), (.int p2)] below meth c s₁ [] 0 0 := Stand.of_body Bd
  have e0 : s₁.heap = h0 := by rw [← hh, Bd.state]; rfl
  have N0 := Fr.nil n0
  show own_Run p e below s 0 0 (QM Z p1 p2 h0 n0) (s₁.setTop (entryFrame m #[(.int p1), (.int p2)] 2))
  refine own_cast (efM m p1 p2) ?_
  show own_Run p e below s _ _ _ (s₁.setTop (mkF m 0 #[.val (.int p1), .val (.int p2)] []))
  refine own_of (fun _ hh_ => XS.iloadN X0.here hx rfl (hb hby dM_0) rfl hh_) ?_
  show own_Run p e below s _ _ _ (s₁.setTop (mkF m 1 #[.val (.int p1), .val (.int p2)] [(.int p1)]))
  refine own_of (fun _ hh_ => XS.iloadN X0.here hx rfl (hb hby dM_1) rfl hh_) ?_
  show own_Run p e below s _ _ _ (s₁.setTop (mkF m 2 #[.val (.int p1), .val (.int p2)] [(.int p2), (.int p1)]))
  by_cases hc2_1 : p1 < p2
  · refine own_of (fun _ hh_ => XS.icmpYes X0.here hx rfl (pc0 := 2) (pc' := 9) rfl (hb hby dM_2) rfl (tlt hc2_1).1 (by decide) (by decide) hh_) ?_
    show own_Run p e below s _ _ _ (s₁.setTop (mkF m 9 #[.val (.int p1), .val (.int p2)] []))
    refine own_of (fun _ hh_ => XS.iloadN X0.here hx rfl (hb hby dM_9) rfl hh_) ?_
    show own_Run p e below s _ _ _ (s₁.setTop (mkF m 10 #[.val (.int p1), .val (.int p2)] [(.int p2)]))
    exact own_retI X0 hx hret hlk (hb hby dM_10) ⟨by unfold own_maxI; rw [if_pos hc2_1], N0, e0⟩ (by decide) (by decide)
  · refine own_of (fun _ hh_ => XS.icmpNo X0.here hx rfl (hb hby dM_2) rfl (flt hc2_1).1 hh_) ?_
    show own_Run p e below s _ _ _ (s₁.setTop (mkF m 5 #[.val (.int p1), .val (.int p2)] []))
    refine own_of (fun _ hh_ => XS.iloadN X0.here hx rfl (hb hby dM_5) rfl hh_) ?_
    show own_Run p e below s _ _ _ (s₁.setTop (mkF m 6 #[.val (.int p1), .val (.int p2)] [(.int p1)]))
    refine own_of (fun _ hh_ => XS.goto X0.here hx rfl (pc0 := 6) (pc' := 10) rfl (hb hby dM_6) (by decide) (by decide) hh_) ?_
    show own_Run p e below s _ _ _ (s₁.setTop (mkF m 10 #[.val (.int p1), .val (.int p2)] [(.int p1)]))
    exact own_retI X0 hx hret hlk (hb hby dM_10) ⟨by unfold own_maxI; rw [if_neg hc2_1], N0, e0⟩ (by decide) (by decide)
theorem own_pn0 : plainName "com/example/lanchid/lanchid/records/WholeNumberFirstDigitPinLaw" = true := by first | (simp [plainName, overriddenIn]; done) | decide +kernel
theorem dK_0 : decode method_3_code 0 = .ok (.iload_n 0, 1) := by decide +kernel
theorem dK_1 : decode method_3_code 1 = .ok (.iconst 3, 1) := by decide +kernel
theorem dK_2 : decode method_3_code 2 = .ok (.iand, 1) := by decide +kernel
theorem dK_3 : decode method_3_code 3 = .ok (.istore_n 1, 1) := by decide +kernel
theorem dK_4 : decode method_3_code 4 = .ok (.iload_n 1, 1) := by decide +kernel
theorem dK_5 : decode method_3_code 5 = .ok (.ifCond .ne 6, 3) := by decide +kernel
theorem dK_8 : decode method_3_code 8 = .ok (.bipush 48, 2) := by decide +kernel
theorem dK_10 : decode method_3_code 10 = .ok (.ireturn, 1) := by decide +kernel
theorem dK_11 : decode method_3_code 11 = .ok (.iload_n 1, 1) := by decide +kernel
theorem dK_12 : decode method_3_code 12 = .ok (.iconst 1, 1) := by decide +kernel
theorem dK_13 : decode method_3_code 13 = .ok (.if_icmp .ne 14, 3) := by decide +kernel
theorem dK_16 : decode method_3_code 16 = .ok (.bipush 48, 2) := by decide +kernel
theorem dK_18 : decode method_3_code 18 = .ok (.iload_n 0, 1) := by decide +kernel
theorem dK_19 : decode method_3_code 19 = .ok (.iconst 2, 1) := by decide +kernel
theorem dK_20 : decode method_3_code 20 = .ok (.iushr, 1) := by decide +kernel
theorem dK_21 : decode method_3_code 21 = .ok (.bipush 10, 2) := by decide +kernel
theorem dK_23 : decode method_3_code 23 = .ok (.irem, 1) := by decide +kernel
theorem dK_24 : decode method_3_code 24 = .ok (.iadd, 1) := by decide +kernel
theorem dK_25 : decode method_3_code 25 = .ok (.i2b, 1) := by decide +kernel
theorem dK_26 : decode method_3_code 26 = .ok (.ireturn, 1) := by decide +kernel
theorem dK_27 : decode method_3_code 27 = .ok (.iload_n 0, 1) := by decide +kernel
theorem dK_28 : decode method_3_code 28 = .ok (.iconst 2, 1) := by decide +kernel
theorem dK_29 : decode method_3_code 29 = .ok (.iushr, 1) := by decide +kernel
theorem dK_30 : decode method_3_code 30 = .ok (.i2b, 1) := by decide +kernel
theorem dK_31 : decode method_3_code 31 = .ok (.ireturn, 1) := by decide +kernel
theorem efK (m : MethodId) (p1 : Int32) : entryFrame m #[(.int p1)] 2 = mkF m 0 #[.val (.int p1), .unset] [] := by first | (simp [entryFrame, mkF, argsToLocals, Value.category]; done) | rfl
def QK (Z : State) (p1 : Int32) (h0 : Heap) (n0 : Nat) (v : Option Value) (h : Heap) (L : List Loc) : Prop := ∃ z : Int32, v = some (.int z) ∧ Fr n0 L ∧ h = h0
set_option maxRecDepth 65536 in
set_option maxHeartbeats 40000000 in
theorem rmK (l : Launch) (Z : State) (a0 : Array Value) (hw : ∀ d ∈ tables_1, d.before a0 Z = true) (ws : List Jvm.Cond) (p1 : Int32) (h0 : Heap) (n0 : Nat) (Z0 : n0 ≤ h0.size)  :
    MetFree l (⟨"com/example/lanchid/lanchid/records/WholeNumberFirstDigitPinLaw", "mk", "(I)B"⟩ : MethodName) (head1 (Jvm.Cond.code (⟨"com/example/lanchid/lanchid/records/WholeNumberFirstDigitPinLaw", "mk", "(I)B"⟩ : MethodName) method_3_code 2 (some .byte) :: ws) ({ frames := 0, cells := 0, slots := 0, locals := 0 } : Room)) (fun a U => a = #[(.int p1)] ∧ Z.Warmed39 U.vm ∧ U.heap = h0) (fun _ _ _ _ _ => True) (fun _ U o U' => ∃ v L, o = .returned v ∧ QK Z p1 h0 n0 v U'.heap L ∧ FrameEnd U o U' L ({ frames := 0, cells := 0, slots := 0, locals := 0 } : Room).cells ({ frames := 0, cells := 0, slots := 0, locals := 0 } : Room).slots) := by
  refine MetFree.of_bodySF (plainFor_of_name own_pn0) hisR ?_
  intro p e s m args below meth c s₁ Bd hml0 hP hK
  obtain ⟨rfl, hZ, hh⟩ := hP
  have hx := Bd.exec
  have hby := Bd.bytes
  have hml : c.maxLocals = 2 := hml0
  have hown : s.vm.findClass "com/example/lanchid/lanchid/records/WholeNumberFirstDigitPinLaw" = some m.cls := findClass_of_methodNamed Bd.named
  have hnm := (name_of_methodNamed Bd.named Bd.method).1
  have hlk := Bd.notSynchronized
  have hret := Bd.returns
  have X0 : Stand p l e ({ frames := 0, cells := 0, slots := 0, locals := 0 } : Room) s m #[(.int p1)] below meth c s₁ [] 0 0 := Stand.of_body Bd
  have e0 : s₁.heap = h0 := by rw [← hh, Bd.state]; rfl
  have N0 := Fr.nil n0
  show own_Run p e below s 0 0 (QK Z p1 h0 n0) (s₁.setTop (entryFrame m #[(.int p1)] 2))
  refine own_cast (efK m p1) ?_
  show own_Run p e below s _ _ _ (s₁.setTop (mkF m 0 #[.val (.int p1), .unset] []))
  refine own_of (fun _ hh_ => XS.iloadN X0.here hx rfl (hb hby dK_0) rfl hh_) ?_
  show own_Run p e below s _ _ _ (s₁.setTop (mkF m 1 #[.val (.int p1), .unset] [(.int p1)]))
  refine own_of (fun _ hh_ => XS.iconst X0.here hx rfl (hb hby dK_1) hh_) ?_
  show own_Run p e below s _ _ _ (s₁.setTop (mkF m 2 #[.val (.int p1), .unset] [(.int (3 : Int32)), (.int p1)]))
  refine own_of (fun _ hh_ => XS.iand X0.here hx rfl (hb hby dK_2) rfl hh_) ?_
  show own_Run p e below s _ _ _ (s₁.setTop (mkF m 3 #[.val (.int p1), .unset] [(.int (p1 &&& (3 : Int32)))]))
  refine own_of (fun _ hh_ => XS.istoreN X0.here hx rfl (hb hby dK_3) rfl (l' := #[.val (.int p1), .val (.int (p1 &&& (3 : Int32)))]) rfl hh_) ?_
  show own_Run p e below s _ _ _ (s₁.setTop (mkF m 4 #[.val (.int p1), .val (.int (p1 &&& (3 : Int32)))] []))
  refine own_of (fun _ hh_ => XS.iloadN X0.here hx rfl (hb hby dK_4) rfl hh_) ?_
  show own_Run p e below s _ _ _ (s₁.setTop (mkF m 5 #[.val (.int p1), .val (.int (p1 &&& (3 : Int32)))] [(.int (p1 &&& (3 : Int32)))]))
  by_cases hc5_1 : (p1 &&& (3 : Int32)) = (0 : Int32)
  · refine own_of (fun _ hh_ => XS.ifNo X0.here hx rfl (hb hby dK_5) rfl ((if0 _ _).trans (teq hc5_1).2) hh_) ?_
    show own_Run p e below s _ _ _ (s₁.setTop (mkF m 8 #[.val (.int p1), .val (.int (p1 &&& (3 : Int32)))] []))
    refine own_of (fun _ hh_ => XS.bipush X0.here hx rfl (hb hby dK_8) hh_) ?_
    show own_Run p e below s _ _ _ (s₁.setTop (mkF m 10 #[.val (.int p1), .val (.int (p1 &&& (3 : Int32)))] [(.int (48 : Int32))]))
    exact own_retN X0 hx (t := .byte) hret hlk (by simp) (hb hby dK_10) ⟨_, rfl, N0, e0⟩ (by decide) (by decide)
  · refine own_of (fun _ hh_ => XS.ifYes X0.here hx rfl (pc0 := 5) (pc' := 11) rfl (hb hby dK_5) rfl ((if0 _ _).trans (feq hc5_1).2) (by decide) (by decide) hh_) ?_
    show own_Run p e below s _ _ _ (s₁.setTop (mkF m 11 #[.val (.int p1), .val (.int (p1 &&& (3 : Int32)))] []))
    refine own_of (fun _ hh_ => XS.iloadN X0.here hx rfl (hb hby dK_11) rfl hh_) ?_
    show own_Run p e below s _ _ _ (s₁.setTop (mkF m 12 #[.val (.int p1), .val (.int (p1 &&& (3 : Int32)))] [(.int (p1 &&& (3 : Int32)))]))
    refine own_of (fun _ hh_ => XS.iconst X0.here hx rfl (hb hby dK_12) hh_) ?_
    show own_Run p e below s _ _ _ (s₁.setTop (mkF m 13 #[.val (.int p1), .val (.int (p1 &&& (3 : Int32)))] [(.int (1 : Int32)), (.int (p1 &&& (3 : Int32)))]))
    by_cases hc13_2 : (p1 &&& (3 : Int32)) = (1 : Int32)
    · refine own_of (fun _ hh_ => XS.icmpNo X0.here hx rfl (hb hby dK_13) rfl (teq hc13_2).2 hh_) ?_
      show own_Run p e below s _ _ _ (s₁.setTop (mkF m 16 #[.val (.int p1), .val (.int (p1 &&& (3 : Int32)))] []))
      refine own_of (fun _ hh_ => XS.bipush X0.here hx rfl (hb hby dK_16) hh_) ?_
      show own_Run p e below s _ _ _ (s₁.setTop (mkF m 18 #[.val (.int p1), .val (.int (p1 &&& (3 : Int32)))] [(.int (48 : Int32))]))
      refine own_of (fun _ hh_ => XS.iloadN X0.here hx rfl (hb hby dK_18) rfl hh_) ?_
      show own_Run p e below s _ _ _ (s₁.setTop (mkF m 19 #[.val (.int p1), .val (.int (p1 &&& (3 : Int32)))] [(.int p1), (.int (48 : Int32))]))
      refine own_of (fun _ hh_ => XS.iconst X0.here hx rfl (hb hby dK_19) hh_) ?_
      show own_Run p e below s _ _ _ (s₁.setTop (mkF m 20 #[.val (.int p1), .val (.int (p1 &&& (3 : Int32)))] [(.int (2 : Int32)), (.int p1), (.int (48 : Int32))]))
      refine own_of (fun _ hh_ => XS.iushr X0.here hx rfl (hb hby dK_20) rfl hh_) ?_
      show own_Run p e below s _ _ _ (s₁.setTop (mkF m 21 #[.val (.int p1), .val (.int (p1 &&& (3 : Int32)))] [(.int ((p1.toUInt32 >>> ((2 : Int32) &&& 31).toUInt32).toInt32)), (.int (48 : Int32))]))
      refine own_of (fun _ hh_ => XS.bipush X0.here hx rfl (hb hby dK_21) hh_) ?_
      show own_Run p e below s _ _ _ (s₁.setTop (mkF m 23 #[.val (.int p1), .val (.int (p1 &&& (3 : Int32)))] [(.int (10 : Int32)), (.int ((p1.toUInt32 >>> ((2 : Int32) &&& 31).toUInt32).toInt32)), (.int (48 : Int32))]))
      refine own_of (fun _ hh_ => Jvm.RoadKit.iremM (g := (mkF m 23 #[.val (.int p1), .val (.int (p1 &&& (3 : Int32)))] [(.int (10 : Int32)), (.int ((p1.toUInt32 >>> ((2 : Int32) &&& 31).toUInt32).toInt32)), (.int (48 : Int32))])) X0 hx rfl (hb hby dK_23) rfl (by decide) hh_) ?_
      show own_Run p e below s _ _ _ (s₁.setTop (mkF m 24 #[.val (.int p1), .val (.int (p1 &&& (3 : Int32)))] [(.int (((p1.toUInt32 >>> ((2 : Int32) &&& 31).toUInt32).toInt32) % (10 : Int32))), (.int (48 : Int32))]))
      refine own_of (fun _ hh_ => XS.iadd X0.here hx rfl (hb hby dK_24) rfl hh_) ?_
      show own_Run p e below s _ _ _ (s₁.setTop (mkF m 25 #[.val (.int p1), .val (.int (p1 &&& (3 : Int32)))] [(.int ((48 : Int32) + (((p1.toUInt32 >>> ((2 : Int32) &&& 31).toUInt32).toInt32) % (10 : Int32))))]))
      refine own_of (fun _ hh_ => XS.i2b X0.here hx rfl (hb hby dK_25) rfl hh_) ?_
      show own_Run p e below s _ _ _ (s₁.setTop (mkF m 26 #[.val (.int p1), .val (.int (p1 &&& (3 : Int32)))] [(.int (((48 : Int32) + (((p1.toUInt32 >>> ((2 : Int32) &&& 31).toUInt32).toInt32) % (10 : Int32))).toInt8.toInt32))]))
      exact own_retN X0 hx (t := .byte) hret hlk (by simp) (hb hby dK_26) ⟨_, rfl, N0, e0⟩ (by decide) (by decide)
    · refine own_of (fun _ hh_ => XS.icmpYes X0.here hx rfl (pc0 := 13) (pc' := 27) rfl (hb hby dK_13) rfl (feq hc13_2).2 (by decide) (by decide) hh_) ?_
      show own_Run p e below s _ _ _ (s₁.setTop (mkF m 27 #[.val (.int p1), .val (.int (p1 &&& (3 : Int32)))] []))
      refine own_of (fun _ hh_ => XS.iloadN X0.here hx rfl (hb hby dK_27) rfl hh_) ?_
      show own_Run p e below s _ _ _ (s₁.setTop (mkF m 28 #[.val (.int p1), .val (.int (p1 &&& (3 : Int32)))] [(.int p1)]))
      refine own_of (fun _ hh_ => XS.iconst X0.here hx rfl (hb hby dK_28) hh_) ?_
      show own_Run p e below s _ _ _ (s₁.setTop (mkF m 29 #[.val (.int p1), .val (.int (p1 &&& (3 : Int32)))] [(.int (2 : Int32)), (.int p1)]))
      refine own_of (fun _ hh_ => XS.iushr X0.here hx rfl (hb hby dK_29) rfl hh_) ?_
      show own_Run p e below s _ _ _ (s₁.setTop (mkF m 30 #[.val (.int p1), .val (.int (p1 &&& (3 : Int32)))] [(.int ((p1.toUInt32 >>> ((2 : Int32) &&& 31).toUInt32).toInt32))]))
      refine own_of (fun _ hh_ => XS.i2b X0.here hx rfl (hb hby dK_30) rfl hh_) ?_
      show own_Run p e below s _ _ _ (s₁.setTop (mkF m 31 #[.val (.int p1), .val (.int (p1 &&& (3 : Int32)))] [(.int (((p1.toUInt32 >>> ((2 : Int32) &&& 31).toUInt32).toInt32).toInt8.toInt32))]))
      exact own_retN X0 hx (t := .byte) hret hlk (by simp) (hb hby dK_31) ⟨_, rfl, N0, e0⟩ (by decide) (by decide)
theorem dD_0 : decode method_4_code 0 = .ok (.iload_n 0, 1) := by decide +kernel
theorem dD_1 : decode method_4_code 1 = .ok (.bipush 48, 2) := by decide +kernel
theorem dD_3 : decode method_4_code 3 = .ok (.if_icmp .lt 13, 3) := by decide +kernel
theorem dD_6 : decode method_4_code 6 = .ok (.iload_n 0, 1) := by decide +kernel
theorem dD_7 : decode method_4_code 7 = .ok (.bipush 57, 2) := by decide +kernel
theorem dD_9 : decode method_4_code 9 = .ok (.if_icmp .gt 7, 3) := by decide +kernel
theorem dD_12 : decode method_4_code 12 = .ok (.iconst 1, 1) := by decide +kernel
theorem dD_13 : decode method_4_code 13 = .ok (.goto 4, 3) := by decide +kernel
theorem dD_16 : decode method_4_code 16 = .ok (.iconst 0, 1) := by decide +kernel
theorem dD_17 : decode method_4_code 17 = .ok (.ireturn, 1) := by decide +kernel
theorem efD (m : MethodId) (x1 : Int32) : entryFrame m #[(.int x1)] 1 = mkF m 0 #[.val (.int x1)] [] := by first | (simp [entryFrame, mkF, argsToLocals, Value.category]; done) | rfl
def QD (Z : State) (x1 : Int32) (h0 : Heap) (n0 : Nat) (v : Option Value) (h : Heap) (L : List Loc) : Prop := v = some (.int (if own_D x1 then 1 else 0)) ∧ Fr n0 L ∧ h = h0
set_option maxRecDepth 65536 in
set_option maxHeartbeats 40000000 in
theorem rmD (l : Launch) (Z : State) (a0 : Array Value) (hw : ∀ d ∈ tables_1, d.before a0 Z = true) (ws : List Jvm.Cond) (x1 : Int32) (h0 : Heap) (n0 : Nat) (Z0 : n0 ≤ h0.size)  :
    MetFree l (⟨"com/example/lanchid/lanchid/records/WholeNumberFirstDigitPinLaw", "isDig", "(B)Z"⟩ : MethodName) (head1 (Jvm.Cond.code (⟨"com/example/lanchid/lanchid/records/WholeNumberFirstDigitPinLaw", "isDig", "(B)Z"⟩ : MethodName) method_4_code 1 (some .boolean) :: ws) ({ frames := 0, cells := 0, slots := 0, locals := 0 } : Room)) (fun a U => a = #[(.int x1)] ∧ Z.Warmed39 U.vm ∧ U.heap = h0) (fun _ _ _ _ _ => True) (fun _ U o U' => ∃ v L, o = .returned v ∧ QD Z x1 h0 n0 v U'.heap L ∧ FrameEnd U o U' L ({ frames := 0, cells := 0, slots := 0, locals := 0 } : Room).cells ({ frames := 0, cells := 0, slots := 0, locals := 0 } : Room).slots) := by
  refine MetFree.of_bodySF (plainFor_of_name own_pn0) hisR ?_
  intro p e s m args below meth c s₁ Bd hml0 hP hK
  obtain ⟨rfl, hZ, hh⟩ := hP
  have hx := Bd.exec
  have hby := Bd.bytes
  have hml : c.maxLocals = 1 := hml0
  have hown : s.vm.findClass "com/example/lanchid/lanchid/records/WholeNumberFirstDigitPinLaw" = some m.cls := findClass_of_methodNamed Bd.named
  have hnm := (name_of_methodNamed Bd.named Bd.method).1
  have hlk := Bd.notSynchronized
  have hret := Bd.returns
  have X0 : Stand p l e ({ frames := 0, cells := 0, slots := 0, locals := 0 } : Room) s m #[(.int x1)] below meth c s₁ [] 0 0 := Stand.of_body Bd
  have e0 : s₁.heap = h0 := by rw [← hh, Bd.state]; rfl
  have N0 := Fr.nil n0
  show own_Run p e below s 0 0 (QD Z x1 h0 n0) (s₁.setTop (entryFrame m #[(.int x1)] 1))
  refine own_cast (efD m x1) ?_
  show own_Run p e below s _ _ _ (s₁.setTop (mkF m 0 #[.val (.int x1)] []))
  refine own_of (fun _ hh_ => XS.iloadN X0.here hx rfl (hb hby dD_0) rfl hh_) ?_
  show own_Run p e below s _ _ _ (s₁.setTop (mkF m 1 #[.val (.int x1)] [(.int x1)]))
  refine own_of (fun _ hh_ => XS.bipush X0.here hx rfl (hb hby dD_1) hh_) ?_
  show own_Run p e below s _ _ _ (s₁.setTop (mkF m 3 #[.val (.int x1)] [(.int (48 : Int32)), (.int x1)]))
  by_cases hc3_1 : x1 < (48 : Int32)
  · refine own_of (fun _ hh_ => XS.icmpYes X0.here hx rfl (pc0 := 3) (pc' := 16) rfl (hb hby dD_3) rfl (tlt hc3_1).1 (by decide) (by decide) hh_) ?_
    show own_Run p e below s _ _ _ (s₁.setTop (mkF m 16 #[.val (.int x1)] []))
    refine own_of (fun _ hh_ => XS.iconst X0.here hx rfl (hb hby dD_16) hh_) ?_
    show own_Run p e below s _ _ _ (s₁.setTop (mkF m 17 #[.val (.int x1)] [(.int (0 : Int32))]))
    exact own_retN X0 hx (t := .boolean) hret hlk (by simp) (hb hby dD_17) ⟨by rw [if_neg (show ¬ (own_D x1) from by have a_hc3_1 := Int32.lt_iff_toInt_lt.mp hc3_1; have l_0 : (48 : Int32).toInt = 48 := rfl; omega)]; rfl, N0, e0⟩ (by decide) (by decide)
  · refine own_of (fun _ hh_ => XS.icmpNo X0.here hx rfl (hb hby dD_3) rfl (flt hc3_1).1 hh_) ?_
    show own_Run p e below s _ _ _ (s₁.setTop (mkF m 6 #[.val (.int x1)] []))
    refine own_of (fun _ hh_ => XS.iloadN X0.here hx rfl (hb hby dD_6) rfl hh_) ?_
    show own_Run p e below s _ _ _ (s₁.setTop (mkF m 7 #[.val (.int x1)] [(.int x1)]))
    refine own_of (fun _ hh_ => XS.bipush X0.here hx rfl (hb hby dD_7) hh_) ?_
    show own_Run p e below s _ _ _ (s₁.setTop (mkF m 9 #[.val (.int x1)] [(.int (57 : Int32)), (.int x1)]))
    by_cases hc9_2 : (57 : Int32) < x1
    · refine own_of (fun _ hh_ => XS.icmpYes X0.here hx rfl (pc0 := 9) (pc' := 16) rfl (hb hby dD_9) rfl (tlt hc9_2).2.2.1 (by decide) (by decide) hh_) ?_
      show own_Run p e below s _ _ _ (s₁.setTop (mkF m 16 #[.val (.int x1)] []))
      refine own_of (fun _ hh_ => XS.iconst X0.here hx rfl (hb hby dD_16) hh_) ?_
      show own_Run p e below s _ _ _ (s₁.setTop (mkF m 17 #[.val (.int x1)] [(.int (0 : Int32))]))
      exact own_retN X0 hx (t := .boolean) hret hlk (by simp) (hb hby dD_17) ⟨by rw [if_neg (show ¬ (own_D x1) from by have a_hc3_1 := mt Int32.lt_iff_toInt_lt.mpr hc3_1; have a_hc9_2 := Int32.lt_iff_toInt_lt.mp hc9_2; have l_0 : (48 : Int32).toInt = 48 := rfl; have l_1 : (57 : Int32).toInt = 57 := rfl; omega)]; rfl, N0, e0⟩ (by decide) (by decide)
    · refine own_of (fun _ hh_ => XS.icmpNo X0.here hx rfl (hb hby dD_9) rfl (flt hc9_2).2.2.1 hh_) ?_
      show own_Run p e below s _ _ _ (s₁.setTop (mkF m 12 #[.val (.int x1)] []))
      refine own_of (fun _ hh_ => XS.iconst X0.here hx rfl (hb hby dD_12) hh_) ?_
      show own_Run p e below s _ _ _ (s₁.setTop (mkF m 13 #[.val (.int x1)] [(.int (1 : Int32))]))
      refine own_of (fun _ hh_ => XS.goto X0.here hx rfl (pc0 := 13) (pc' := 17) rfl (hb hby dD_13) (by decide) (by decide) hh_) ?_
      show own_Run p e below s _ _ _ (s₁.setTop (mkF m 17 #[.val (.int x1)] [(.int (1 : Int32))]))
      exact own_retN X0 hx (t := .boolean) hret hlk (by simp) (hb hby dD_17) ⟨by rw [if_pos (show own_D x1 from by have a_hc3_1 := mt Int32.lt_iff_toInt_lt.mpr hc3_1; have a_hc9_2 := mt Int32.lt_iff_toInt_lt.mpr hc9_2; have l_0 : (48 : Int32).toInt = 48 := rfl; have l_1 : (57 : Int32).toInt = 57 := rfl; omega)]; rfl, N0, e0⟩ (by decide) (by decide)
theorem own_pd0 : parseMethodDescriptor "(B)Z" = some ⟨[.byte], some .boolean⟩ := by decide +kernel
theorem dF_0 : decode method_5_code 0 = .ok (.iload_n 1, 1) := by decide +kernel
theorem dF_1 : decode method_5_code 1 = .ok (.iload_n 2, 1) := by decide +kernel
theorem dF_2 : decode method_5_code 2 = .ok (.if_icmp .lt 17, 3) := by decide +kernel
theorem dF_5 : decode method_5_code 5 = .ok (.iload_n 1, 1) := by decide +kernel
theorem dF_6 : decode method_5_code 6 = .ok (.iload_n 3, 1) := by decide +kernel
theorem dF_7 : decode method_5_code 7 = .ok (.if_icmp .ge 12, 3) := by decide +kernel
theorem dF_10 : decode method_5_code 10 = .ok (.aload_n 0, 1) := by decide +kernel
theorem dF_11 : decode method_5_code 11 = .ok (.iload_n 1, 1) := by decide +kernel
theorem dF_12 : decode method_5_code 12 = .ok (.baload, 1) := by decide +kernel
theorem dF_13 : decode method_5_code 13 = .ok (.invokestatic 35, 3) := by decide +kernel
theorem dF_16 : decode method_5_code 16 = .ok (.ifCond .eq 7, 3) := by decide +kernel
theorem dF_19 : decode method_5_code 19 = .ok (.iconst 1, 1) := by decide +kernel
theorem dF_20 : decode method_5_code 20 = .ok (.goto 4, 3) := by decide +kernel
theorem dF_23 : decode method_5_code 23 = .ok (.iconst 0, 1) := by decide +kernel
theorem dF_24 : decode method_5_code 24 = .ok (.ireturn, 1) := by decide +kernel
theorem efF (m : MethodId) (r1 : Addr) (p1 : Int32) (p2 : Int32) (p3 : Int32) : entryFrame m #[(.ref r1), (.int p1), (.int p2), (.int p3)] 4 = mkF m 0 #[.val (.ref r1), .val (.int p1), .val (.int p2), .val (.int p3)] [] := by first | (simp [entryFrame, mkF, argsToLocals, Value.category]; done) | rfl
def QF (Z : State) (r1 : Addr) (p1 : Int32) (p2 : Int32) (p3 : Int32) (n : Nat) (g : Nat → Int32) (x : Int32) (h0 : Heap) (n0 : Nat) (v : Option Value) (h : Heap) (L : List Loc) : Prop := v = some (.int (if own_F x p1 p2 p3 then 1 else 0)) ∧ Fr n0 L ∧ h = h0
set_option maxRecDepth 65536 in
set_option maxHeartbeats 40000000 in
theorem rmF (l : Launch) (Z : State) (a0 : Array Value) (hw : ∀ d ∈ tables_1, d.before a0 Z = true) (ws : List Jvm.Cond) (r1 : Addr) (p1 : Int32) (p2 : Int32) (p3 : Int32) (n : Nat) (g : Nat → Int32) (x : Int32) (h0 : Heap) (n0 : Nat) (Z0 : n0 ≤ h0.size) (A : own_Ar Z h0 r1 .byte n g) (hp1 : ¬ p1 < 0) (hp2 : p1.toNatClampNeg < n) (hp3 : g p1.toNatClampNeg = x) :
    MetFree l (⟨"com/example/lanchid/lanchid/records/WholeNumberFirstDigitPinLaw", "fine", "([BIII)Z"⟩ : MethodName) (head1 (Jvm.Cond.code (⟨"com/example/lanchid/lanchid/records/WholeNumberFirstDigitPinLaw", "fine", "([BIII)Z"⟩ : MethodName) method_5_code 4 (some .boolean) :: ws) ({ frames := 1, cells := 0, slots := 0, locals := 12 } : Room)) (fun a U => a = #[(.ref r1), (.int p1), (.int p2), (.int p3)] ∧ Z.Warmed39 U.vm ∧ U.heap = h0) (fun _ _ _ _ _ => True) (fun _ U o U' => ∃ v L, o = .returned v ∧ QF Z r1 p1 p2 p3 n g x h0 n0 v U'.heap L ∧ FrameEnd U o U' L ({ frames := 1, cells := 0, slots := 0, locals := 12 } : Room).cells ({ frames := 1, cells := 0, slots := 0, locals := 12 } : Room).slots) := by
  refine MetFree.of_bodySF (plainFor_of_name own_pn0) hisR ?_
  intro p e s m args below meth c s₁ Bd hml0 hP hK
  obtain ⟨rfl, hZ, hh⟩ := hP
  have hx := Bd.exec
  have hby := Bd.bytes
  have hml : c.maxLocals = 4 := hml0
  have hown : s.vm.findClass "com/example/lanchid/lanchid/records/WholeNumberFirstDigitPinLaw" = some m.cls := findClass_of_methodNamed Bd.named
  have hnm := (name_of_methodNamed Bd.named Bd.method).1
  have hlk := Bd.notSynchronized
  have hret := Bd.returns
  have X0 : Stand p l e ({ frames := 1, cells := 0, slots := 0, locals := 12 } : Room) s m #[(.ref r1), (.int p1), (.int p2), (.int p3)] below meth c s₁ [] 0 0 := Stand.of_body Bd
  have e0 : s₁.heap = h0 := by rw [← hh, Bd.state]; rfl
  have N0 := Fr.nil n0
  show own_Run p e below s 0 0 (QF Z r1 p1 p2 p3 n g x h0 n0) (s₁.setTop (entryFrame m #[(.ref r1), (.int p1), (.int p2), (.int p3)] 4))
  refine own_cast (efF m r1 p1 p2 p3) ?_
  show own_Run p e below s _ _ _ (s₁.setTop (mkF m 0 #[.val (.ref r1), .val (.int p1), .val (.int p2), .val (.int p3)] []))
  refine own_of (fun _ hh_ => XS.iloadN X0.here hx rfl (hb hby dF_0) rfl hh_) ?_
  show own_Run p e below s _ _ _ (s₁.setTop (mkF m 1 #[.val (.ref r1), .val (.int p1), .val (.int p2), .val (.int p3)] [(.int p1)]))
  refine own_of (fun _ hh_ => XS.iloadN X0.here hx rfl (hb hby dF_1) rfl hh_) ?_
  show own_Run p e below s _ _ _ (s₁.setTop (mkF m 2 #[.val (.ref r1), .val (.int p1), .val (.int p2), .val (.int p3)] [(.int p2), (.int p1)]))
  by_cases hc2_1 : p1 < p2
  · refine own_of (fun _ hh_ => XS.icmpYes X0.here hx rfl (pc0 := 2) (pc' := 19) rfl (hb hby dF_2) rfl (tlt hc2_1).1 (by decide) (by decide) hh_) ?_
    show own_Run p e below s _ _ _ (s₁.setTop (mkF m 19 #[.val (.ref r1), .val (.int p1), .val (.int p2), .val (.int p3)] []))
    refine own_of (fun _ hh_ => XS.iconst X0.here hx rfl (hb hby dF_19) hh_) ?_
    show own_Run p e below s _ _ _ (s₁.setTop (mkF m 20 #[.val (.ref r1), .val (.int p1), .val (.int p2), .val (.int p3)] [(.int (1 : Int32))]))
    refine own_of (fun _ hh_ => XS.goto X0.here hx rfl (pc0 := 20) (pc' := 24) rfl (hb hby dF_20) (by decide) (by decide) hh_) ?_
    show own_Run p e below s _ _ _ (s₁.setTop (mkF m 24 #[.val (.ref r1), .val (.int p1), .val (.int p2), .val (.int p3)] [(.int (1 : Int32))]))
    exact own_retN X0 hx (t := .boolean) hret hlk (by simp) (hb hby dF_24) ⟨by rw [if_pos (show own_F x p1 p2 p3 from by have a_hc2_1 := Int32.lt_iff_toInt_lt.mp hc2_1; omega)]; rfl, N0, e0⟩ (by decide) (by decide)
  · refine own_of (fun _ hh_ => XS.icmpNo X0.here hx rfl (hb hby dF_2) rfl (flt hc2_1).1 hh_) ?_
    show own_Run p e below s _ _ _ (s₁.setTop (mkF m 5 #[.val (.ref r1), .val (.int p1), .val (.int p2), .val (.int p3)] []))
    refine own_of (fun _ hh_ => XS.iloadN X0.here hx rfl (hb hby dF_5) rfl hh_) ?_
    show own_Run p e below s _ _ _ (s₁.setTop (mkF m 6 #[.val (.ref r1), .val (.int p1), .val (.int p2), .val (.int p3)] [(.int p1)]))
    refine own_of (fun _ hh_ => XS.iloadN X0.here hx rfl (hb hby dF_6) rfl hh_) ?_
    show own_Run p e below s _ _ _ (s₁.setTop (mkF m 7 #[.val (.ref r1), .val (.int p1), .val (.int p2), .val (.int p3)] [(.int p3), (.int p1)]))
    by_cases hc7_2 : p1 < p3
    · refine own_of (fun _ hh_ => XS.icmpNo X0.here hx rfl (hb hby dF_7) rfl (tlt hc7_2).2.1 hh_) ?_
      show own_Run p e below s _ _ _ (s₁.setTop (mkF m 10 #[.val (.ref r1), .val (.int p1), .val (.int p2), .val (.int p3)] []))
      refine own_of (fun _ hh_ => XS.aloadN X0.here hx rfl (hb hby dF_10) rfl rfl hh_) ?_
      show own_Run p e below s _ _ _ (s₁.setTop (mkF m 11 #[.val (.ref r1), .val (.int p1), .val (.int p2), .val (.int p3)] [(.ref r1)]))
      refine own_of (fun _ hh_ => XS.iloadN X0.here hx rfl (hb hby dF_11) rfl hh_) ?_
      show own_Run p e below s _ _ _ (s₁.setTop (mkF m 12 #[.val (.ref r1), .val (.int p1), .val (.int p2), .val (.int p3)] [(.int p1), (.ref r1)]))
      refine own_bal X0 hx hZ e0 A (j := p1) (w := x) hp1 hp2 hp3 (hb hby dF_12) ?_
      show own_Run p e below s _ _ _ (s₁.setTop (mkF m 13 #[.val (.ref r1), .val (.int p1), .val (.int p2), .val (.int p3)] [(.int x)]))
      obtain ⟨_, _, ⟨T3, L3, k3, n3⟩, -, X3, ⟨Lc3, hQ3, l3, y3, z3⟩, st3⟩ := Jvm.LawKit.callS X0 hx (y := (⟨"com/example/lanchid/lanchid/records/WholeNumberFirstDigitPinLaw", "isDig", "(B)Z"⟩ : MethodName)) hown (mvT hZ (hw _ (List.mem_of_getElem? (i := 19) rfl))) (mvT hZ (hw _ (List.mem_of_getElem? (i := 20) rfl))) (mvT hZ (hw _ (List.mem_of_getElem? (i := 3) rfl))) (mvT hZ (hw _ (List.mem_of_getElem? (i := 21) rfl))) (by decide) (backOf (W := 0) (rmD l Z a0 hw [] x h0 n0 Z0) hZ (hw _ (List.mem_of_getElem? (i := 21) rfl)) (hw _ (List.mem_of_getElem? (i := 3) rfl)) (by decide) (by decide)) (g := (mkF m 13 #[.val (.ref r1), .val (.int p1), .val (.int p2), .val (.int p3)] [(.int x)])) rfl (by rw [hml]; rfl) (argsL := [(.int x)]) (rest := []) (lenOf own_pd0 rfl) rfl (by show 2 * 0 + _ ≤ _; exact Nat.le_of_eq rfl) (hb hby dF_13) (fun _ _ => ⟨rfl, e0, (by decide : 0 + 0 ≤ _), (by decide : 0 + 0 ≤ _)⟩)
      dsimp only [Pt.U, Pt.locs, Pt.cells, Pt.slots] at X3 l3 y3 z3 st3 hQ3
      subst l3 y3 z3
      obtain ⟨rfl, N3q, e3⟩ := hQ3
      have N3 := Fr.app N0 N3q
      refine own_of st3 ?_
      show own_Run p e below s _ _ _ (T3.setTop (mkF m 16 #[.val (.ref r1), .val (.int p1), .val (.int p2), .val (.int p3)] [(.int (if own_D x then 1 else 0 : Int32))]))
      by_cases hc16_4 : own_D x
      · refine own_of (fun _ hh_ => XS.ifNo X3.here hx rfl (hb hby dF_16) rfl ((if0 _ _).trans (feq (show ¬ ((if own_D x then 1 else 0 : Int32) = 0) from by rw [if_pos hc16_4]; decide)).1) hh_) ?_
        show own_Run p e below s _ _ _ (T3.setTop (mkF m 19 #[.val (.ref r1), .val (.int p1), .val (.int p2), .val (.int p3)] []))
        refine own_of (fun _ hh_ => XS.iconst X3.here hx rfl (hb hby dF_19) hh_) ?_
        show own_Run p e below s _ _ _ (T3.setTop (mkF m 20 #[.val (.ref r1), .val (.int p1), .val (.int p2), .val (.int p3)] [(.int (1 : Int32))]))
        refine own_of (fun _ hh_ => XS.goto X3.here hx rfl (pc0 := 20) (pc' := 24) rfl (hb hby dF_20) (by decide) (by decide) hh_) ?_
        show own_Run p e below s _ _ _ (T3.setTop (mkF m 24 #[.val (.ref r1), .val (.int p1), .val (.int p2), .val (.int p3)] [(.int (1 : Int32))]))
        exact own_retN X3 hx (t := .boolean) hret hlk (by simp) (hb hby dF_24) ⟨by rw [if_pos (show own_F x p1 p2 p3 from by have a_hc2_1 := mt Int32.lt_iff_toInt_lt.mpr hc2_1; have a_hc7_2 := Int32.lt_iff_toInt_lt.mp hc7_2; omega)]; rfl, N3, e3⟩ (by decide) (by decide)
      · refine own_of (fun _ hh_ => XS.ifYes X3.here hx rfl (pc0 := 16) (pc' := 23) rfl (hb hby dF_16) rfl ((if0 _ _).trans (teq (show (if own_D x then 1 else 0 : Int32) = 0 from if_neg hc16_4)).1) (by decide) (by decide) hh_) ?_
        show own_Run p e below s _ _ _ (T3.setTop (mkF m 23 #[.val (.ref r1), .val (.int p1), .val (.int p2), .val (.int p3)] []))
        refine own_of (fun _ hh_ => XS.iconst X3.here hx rfl (hb hby dF_23) hh_) ?_
        show own_Run p e below s _ _ _ (T3.setTop (mkF m 24 #[.val (.ref r1), .val (.int p1), .val (.int p2), .val (.int p3)] [(.int (0 : Int32))]))
        exact own_retN X3 hx (t := .boolean) hret hlk (by simp) (hb hby dF_24) ⟨by rw [if_neg (show ¬ (own_F x p1 p2 p3) from by have a_hc2_1 := mt Int32.lt_iff_toInt_lt.mpr hc2_1; have a_hc7_2 := Int32.lt_iff_toInt_lt.mp hc7_2; omega)]; rfl, N3, e3⟩ (by decide) (by decide)
    · refine own_of (fun _ hh_ => XS.icmpYes X0.here hx rfl (pc0 := 7) (pc' := 19) rfl (hb hby dF_7) rfl (flt hc7_2).2.1 (by decide) (by decide) hh_) ?_
      show own_Run p e below s _ _ _ (s₁.setTop (mkF m 19 #[.val (.ref r1), .val (.int p1), .val (.int p2), .val (.int p3)] []))
      refine own_of (fun _ hh_ => XS.iconst X0.here hx rfl (hb hby dF_19) hh_) ?_
      show own_Run p e below s _ _ _ (s₁.setTop (mkF m 20 #[.val (.ref r1), .val (.int p1), .val (.int p2), .val (.int p3)] [(.int (1 : Int32))]))
      refine own_of (fun _ hh_ => XS.goto X0.here hx rfl (pc0 := 20) (pc' := 24) rfl (hb hby dF_20) (by decide) (by decide) hh_) ?_
      show own_Run p e below s _ _ _ (s₁.setTop (mkF m 24 #[.val (.ref r1), .val (.int p1), .val (.int p2), .val (.int p3)] [(.int (1 : Int32))]))
      exact own_retN X0 hx (t := .boolean) hret hlk (by simp) (hb hby dF_24) ⟨by rw [if_pos (show own_F x p1 p2 p3 from by have a_hc2_1 := mt Int32.lt_iff_toInt_lt.mpr hc2_1; have a_hc7_2 := mt Int32.lt_iff_toInt_lt.mpr hc7_2; omega)]; rfl, N0, e0⟩ (by decide) (by decide)
theorem dN_0 : decode method_6_code 0 = .ok (.iload_n 1, 1) := by decide +kernel
theorem dN_1 : decode method_6_code 1 = .ok (.iload_n 2, 1) := by decide +kernel
theorem dN_2 : decode method_6_code 2 = .ok (.if_icmp .lt 20, 3) := by decide +kernel
theorem dN_5 : decode method_6_code 5 = .ok (.iload_n 1, 1) := by decide +kernel
theorem dN_6 : decode method_6_code 6 = .ok (.iload_n 3, 1) := by decide +kernel
theorem dN_7 : decode method_6_code 7 = .ok (.if_icmp .ge 15, 3) := by decide +kernel
theorem dN_10 : decode method_6_code 10 = .ok (.aload_n 0, 1) := by decide +kernel
theorem dN_11 : decode method_6_code 11 = .ok (.iload_n 1, 1) := by decide +kernel
theorem dN_12 : decode method_6_code 12 = .ok (.baload, 1) := by decide +kernel
theorem dN_13 : decode method_6_code 13 = .ok (.bipush 48, 2) := by decide +kernel
theorem dN_15 : decode method_6_code 15 = .ok (.if_icmp .eq 7, 3) := by decide +kernel
theorem dN_18 : decode method_6_code 18 = .ok (.iconst 1, 1) := by decide +kernel
theorem dN_19 : decode method_6_code 19 = .ok (.goto 4, 3) := by decide +kernel
theorem dN_22 : decode method_6_code 22 = .ok (.iconst 0, 1) := by decide +kernel
theorem dN_23 : decode method_6_code 23 = .ok (.ireturn, 1) := by decide +kernel
theorem efN (m : MethodId) (r1 : Addr) (p1 : Int32) (p2 : Int32) (p3 : Int32) : entryFrame m #[(.ref r1), (.int p1), (.int p2), (.int p3)] 4 = mkF m 0 #[.val (.ref r1), .val (.int p1), .val (.int p2), .val (.int p3)] [] := by first | (simp [entryFrame, mkF, argsToLocals, Value.category]; done) | rfl
def QN (Z : State) (r1 : Addr) (p1 : Int32) (p2 : Int32) (p3 : Int32) (n : Nat) (g : Nat → Int32) (x : Int32) (h0 : Heap) (n0 : Nat) (v : Option Value) (h : Heap) (L : List Loc) : Prop := v = some (.int (if own_N x p1 p2 p3 then 1 else 0)) ∧ Fr n0 L ∧ h = h0
set_option maxRecDepth 65536 in
set_option maxHeartbeats 40000000 in
theorem rmN (l : Launch) (Z : State) (a0 : Array Value) (hw : ∀ d ∈ tables_1, d.before a0 Z = true) (ws : List Jvm.Cond) (r1 : Addr) (p1 : Int32) (p2 : Int32) (p3 : Int32) (n : Nat) (g : Nat → Int32) (x : Int32) (h0 : Heap) (n0 : Nat) (Z0 : n0 ≤ h0.size) (A : own_Ar Z h0 r1 .byte n g) (hp1 : ¬ p1 < 0) (hp2 : p1.toNatClampNeg < n) (hp3 : g p1.toNatClampNeg = x) :
    MetFree l (⟨"com/example/lanchid/lanchid/records/WholeNumberFirstDigitPinLaw", "nz", "([BIII)Z"⟩ : MethodName) (head1 (Jvm.Cond.code (⟨"com/example/lanchid/lanchid/records/WholeNumberFirstDigitPinLaw", "nz", "([BIII)Z"⟩ : MethodName) method_6_code 4 (some .boolean) :: ws) ({ frames := 0, cells := 0, slots := 0, locals := 0 } : Room)) (fun a U => a = #[(.ref r1), (.int p1), (.int p2), (.int p3)] ∧ Z.Warmed39 U.vm ∧ U.heap = h0) (fun _ _ _ _ _ => True) (fun _ U o U' => ∃ v L, o = .returned v ∧ QN Z r1 p1 p2 p3 n g x h0 n0 v U'.heap L ∧ FrameEnd U o U' L ({ frames := 0, cells := 0, slots := 0, locals := 0 } : Room).cells ({ frames := 0, cells := 0, slots := 0, locals := 0 } : Room).slots) := by
  refine MetFree.of_bodySF (plainFor_of_name own_pn0) hisR ?_
  intro p e s m args below meth c s₁ Bd hml0 hP hK
  obtain ⟨rfl, hZ, hh⟩ := hP
  have hx := Bd.exec
  have hby := Bd.bytes
  have hml : c.maxLocals = 4 := hml0
  have hown : s.vm.findClass "com/example/lanchid/lanchid/records/WholeNumberFirstDigitPinLaw" = some m.cls := findClass_of_methodNamed Bd.named
  have hnm := (name_of_methodNamed Bd.named Bd.method).1
  have hlk := Bd.notSynchronized
  have hret := Bd.returns
  have X0 : Stand p l e ({ frames := 0, cells := 0, slots := 0, locals := 0 } : Room) s m #[(.ref r1), (.int p1), (.int p2), (.int p3)] below meth c s₁ [] 0 0 := Stand.of_body Bd
  have e0 : s₁.heap = h0 := by rw [← hh, Bd.state]; rfl
  have N0 := Fr.nil n0
  show own_Run p e below s 0 0 (QN Z r1 p1 p2 p3 n g x h0 n0) (s₁.setTop (entryFrame m #[(.ref r1), (.int p1), (.int p2), (.int p3)] 4))
  refine own_cast (efN m r1 p1 p2 p3) ?_
  show own_Run p e below s _ _ _ (s₁.setTop (mkF m 0 #[.val (.ref r1), .val (.int p1), .val (.int p2), .val (.int p3)] []))
  refine own_of (fun _ hh_ => XS.iloadN X0.here hx rfl (hb hby dN_0) rfl hh_) ?_
  show own_Run p e below s _ _ _ (s₁.setTop (mkF m 1 #[.val (.ref r1), .val (.int p1), .val (.int p2), .val (.int p3)] [(.int p1)]))
  refine own_of (fun _ hh_ => XS.iloadN X0.here hx rfl (hb hby dN_1) rfl hh_) ?_
  show own_Run p e below s _ _ _ (s₁.setTop (mkF m 2 #[.val (.ref r1), .val (.int p1), .val (.int p2), .val (.int p3)] [(.int p2), (.int p1)]))
  by_cases hc2_1 : p1 < p2
  · refine own_of (fun _ hh_ => XS.icmpYes X0.here hx rfl (pc0 := 2) (pc' := 22) rfl (hb hby dN_2) rfl (tlt hc2_1).1 (by decide) (by decide) hh_) ?_
    show own_Run p e below s _ _ _ (s₁.setTop (mkF m 22 #[.val (.ref r1), .val (.int p1), .val (.int p2), .val (.int p3)] []))
    refine own_of (fun _ hh_ => XS.iconst X0.here hx rfl (hb hby dN_22) hh_) ?_
    show own_Run p e below s _ _ _ (s₁.setTop (mkF m 23 #[.val (.ref r1), .val (.int p1), .val (.int p2), .val (.int p3)] [(.int (0 : Int32))]))
    exact own_retN X0 hx (t := .boolean) hret hlk (by simp) (hb hby dN_23) ⟨by rw [if_neg (show ¬ (own_N x p1 p2 p3) from by have a_hc2_1 := Int32.lt_iff_toInt_lt.mp hc2_1; omega)]; rfl, N0, e0⟩ (by decide) (by decide)
  · refine own_of (fun _ hh_ => XS.icmpNo X0.here hx rfl (hb hby dN_2) rfl (flt hc2_1).1 hh_) ?_
    show own_Run p e below s _ _ _ (s₁.setTop (mkF m 5 #[.val (.ref r1), .val (.int p1), .val (.int p2), .val (.int p3)] []))
    refine own_of (fun _ hh_ => XS.iloadN X0.here hx rfl (hb hby dN_5) rfl hh_) ?_
    show own_Run p e below s _ _ _ (s₁.setTop (mkF m 6 #[.val (.ref r1), .val (.int p1), .val (.int p2), .val (.int p3)] [(.int p1)]))
    refine own_of (fun _ hh_ => XS.iloadN X0.here hx rfl (hb hby dN_6) rfl hh_) ?_
    show own_Run p e below s _ _ _ (s₁.setTop (mkF m 7 #[.val (.ref r1), .val (.int p1), .val (.int p2), .val (.int p3)] [(.int p3), (.int p1)]))
    by_cases hc7_2 : p1 < p3
    · refine own_of (fun _ hh_ => XS.icmpNo X0.here hx rfl (hb hby dN_7) rfl (tlt hc7_2).2.1 hh_) ?_
      show own_Run p e below s _ _ _ (s₁.setTop (mkF m 10 #[.val (.ref r1), .val (.int p1), .val (.int p2), .val (.int p3)] []))
      refine own_of (fun _ hh_ => XS.aloadN X0.here hx rfl (hb hby dN_10) rfl rfl hh_) ?_
      show own_Run p e below s _ _ _ (s₁.setTop (mkF m 11 #[.val (.ref r1), .val (.int p1), .val (.int p2), .val (.int p3)] [(.ref r1)]))
      refine own_of (fun _ hh_ => XS.iloadN X0.here hx rfl (hb hby dN_11) rfl hh_) ?_
      show own_Run p e below s _ _ _ (s₁.setTop (mkF m 12 #[.val (.ref r1), .val (.int p1), .val (.int p2), .val (.int p3)] [(.int p1), (.ref r1)]))
      refine own_bal X0 hx hZ e0 A (j := p1) (w := x) hp1 hp2 hp3 (hb hby dN_12) ?_
      show own_Run p e below s _ _ _ (s₁.setTop (mkF m 13 #[.val (.ref r1), .val (.int p1), .val (.int p2), .val (.int p3)] [(.int x)]))
      refine own_of (fun _ hh_ => XS.bipush X0.here hx rfl (hb hby dN_13) hh_) ?_
      show own_Run p e below s _ _ _ (s₁.setTop (mkF m 15 #[.val (.ref r1), .val (.int p1), .val (.int p2), .val (.int p3)] [(.int (48 : Int32)), (.int x)]))
      by_cases hc15_3 : x = (48 : Int32)
      · refine own_of (fun _ hh_ => XS.icmpYes X0.here hx rfl (pc0 := 15) (pc' := 22) rfl (hb hby dN_15) rfl (teq hc15_3).1 (by decide) (by decide) hh_) ?_
        show own_Run p e below s _ _ _ (s₁.setTop (mkF m 22 #[.val (.ref r1), .val (.int p1), .val (.int p2), .val (.int p3)] []))
        refine own_of (fun _ hh_ => XS.iconst X0.here hx rfl (hb hby dN_22) hh_) ?_
        show own_Run p e below s _ _ _ (s₁.setTop (mkF m 23 #[.val (.ref r1), .val (.int p1), .val (.int p2), .val (.int p3)] [(.int (0 : Int32))]))
        exact own_retN X0 hx (t := .boolean) hret hlk (by simp) (hb hby dN_23) ⟨by rw [if_neg (show ¬ (own_N x p1 p2 p3) from by have a_hc2_1 := mt Int32.lt_iff_toInt_lt.mpr hc2_1; have a_hc7_2 := Int32.lt_iff_toInt_lt.mp hc7_2; have a_hc15_3 := Int32.toInt_inj.mpr hc15_3; have l_0 : (48 : Int32).toInt = 48 := rfl; omega)]; rfl, N0, e0⟩ (by decide) (by decide)
      · refine own_of (fun _ hh_ => XS.icmpNo X0.here hx rfl (hb hby dN_15) rfl (feq hc15_3).1 hh_) ?_
        show own_Run p e below s _ _ _ (s₁.setTop (mkF m 18 #[.val (.ref r1), .val (.int p1), .val (.int p2), .val (.int p3)] []))
        refine own_of (fun _ hh_ => XS.iconst X0.here hx rfl (hb hby dN_18) hh_) ?_
        show own_Run p e below s _ _ _ (s₁.setTop (mkF m 19 #[.val (.ref r1), .val (.int p1), .val (.int p2), .val (.int p3)] [(.int (1 : Int32))]))
        refine own_of (fun _ hh_ => XS.goto X0.here hx rfl (pc0 := 19) (pc' := 23) rfl (hb hby dN_19) (by decide) (by decide) hh_) ?_
        show own_Run p e below s _ _ _ (s₁.setTop (mkF m 23 #[.val (.ref r1), .val (.int p1), .val (.int p2), .val (.int p3)] [(.int (1 : Int32))]))
        exact own_retN X0 hx (t := .boolean) hret hlk (by simp) (hb hby dN_23) ⟨by rw [if_pos (show own_N x p1 p2 p3 from by have a_hc2_1 := mt Int32.lt_iff_toInt_lt.mpr hc2_1; have a_hc7_2 := Int32.lt_iff_toInt_lt.mp hc7_2; have a_hc15_3 := mt Int32.toInt_inj.mp hc15_3; have l_0 : (48 : Int32).toInt = 48 := rfl; omega)]; rfl, N0, e0⟩ (by decide) (by decide)
    · refine own_of (fun _ hh_ => XS.icmpYes X0.here hx rfl (pc0 := 7) (pc' := 22) rfl (hb hby dN_7) rfl (flt hc7_2).2.1 (by decide) (by decide) hh_) ?_
      show own_Run p e below s _ _ _ (s₁.setTop (mkF m 22 #[.val (.ref r1), .val (.int p1), .val (.int p2), .val (.int p3)] []))
      refine own_of (fun _ hh_ => XS.iconst X0.here hx rfl (hb hby dN_22) hh_) ?_
      show own_Run p e below s _ _ _ (s₁.setTop (mkF m 23 #[.val (.ref r1), .val (.int p1), .val (.int p2), .val (.int p3)] [(.int (0 : Int32))]))
      exact own_retN X0 hx (t := .boolean) hret hlk (by simp) (hb hby dN_23) ⟨by rw [if_neg (show ¬ (own_N x p1 p2 p3) from by have a_hc2_1 := mt Int32.lt_iff_toInt_lt.mpr hc2_1; have a_hc7_2 := mt Int32.lt_iff_toInt_lt.mpr hc7_2; omega)]; rfl, N0, e0⟩ (by decide) (by decide)
theorem own_pn1 : plainName "com/example/lanchid/lanchid/records/WholeNumber" = true := by first | (simp [plainName, overriddenIn]; done) | decide +kernel
theorem dV_0 : decode prog_127_method_3_code 0 = .ok (.iload_n 1, 1) := by decide +kernel
theorem dV_1 : decode prog_127_method_3_code 1 = .ok (.iload_n 2, 1) := by decide +kernel
theorem dV_2 : decode prog_127_method_3_code 2 = .ok (.if_icmp .ne 5, 3) := by decide +kernel
theorem dV_5 : decode prog_127_method_3_code 5 = .ok (.iconst (-1), 1) := by decide +kernel
theorem dV_6 : decode prog_127_method_3_code 6 = .ok (.ireturn, 1) := by decide +kernel
theorem dV_7 : decode prog_127_method_3_code 7 = .ok (.iload_n 1, 1) := by decide +kernel
theorem dV_8 : decode prog_127_method_3_code 8 = .ok (.istore_n 3, 1) := by decide +kernel
theorem dV_9 : decode prog_127_method_3_code 9 = .ok (.iload_n 3, 1) := by decide +kernel
theorem dV_10 : decode prog_127_method_3_code 10 = .ok (.iload_n 2, 1) := by decide +kernel
theorem dV_11 : decode prog_127_method_3_code 11 = .ok (.if_icmp .ge 17, 3) := by decide +kernel
theorem dV_14 : decode prog_127_method_3_code 14 = .ok (.aload_n 0, 1) := by decide +kernel
theorem dV_15 : decode prog_127_method_3_code 15 = .ok (.iload_n 3, 1) := by decide +kernel
theorem dV_16 : decode prog_127_method_3_code 16 = .ok (.baload, 1) := by decide +kernel
theorem dV_17 : decode prog_127_method_3_code 17 = .ok (.bipush 48, 2) := by decide +kernel
theorem dV_19 : decode prog_127_method_3_code 19 = .ok (.if_icmp .ne 9, 3) := by decide +kernel
theorem dV_22 : decode prog_127_method_3_code 22 = .ok (.iinc 3 1, 3) := by decide +kernel
theorem dV_25 : decode prog_127_method_3_code 25 = .ok (.goto (-16), 3) := by decide +kernel
theorem dV_28 : decode prog_127_method_3_code 28 = .ok (.iload_n 3, 1) := by decide +kernel
theorem dV_29 : decode prog_127_method_3_code 29 = .ok (.istore 4, 2) := by decide +kernel
theorem dV_31 : decode prog_127_method_3_code 31 = .ok (.iload 4, 2) := by decide +kernel
theorem dV_33 : decode prog_127_method_3_code 33 = .ok (.iload_n 2, 1) := by decide +kernel
theorem dV_34 : decode prog_127_method_3_code 34 = .ok (.if_icmp .ge 29, 3) := by decide +kernel
theorem dV_37 : decode prog_127_method_3_code 37 = .ok (.aload_n 0, 1) := by decide +kernel
theorem dV_38 : decode prog_127_method_3_code 38 = .ok (.iload 4, 2) := by decide +kernel
theorem dV_40 : decode prog_127_method_3_code 40 = .ok (.baload, 1) := by decide +kernel
theorem dV_41 : decode prog_127_method_3_code 41 = .ok (.bipush 48, 2) := by decide +kernel
theorem dV_43 : decode prog_127_method_3_code 43 = .ok (.if_icmp .lt 12, 3) := by decide +kernel
theorem dV_46 : decode prog_127_method_3_code 46 = .ok (.aload_n 0, 1) := by decide +kernel
theorem dV_47 : decode prog_127_method_3_code 47 = .ok (.iload 4, 2) := by decide +kernel
theorem dV_49 : decode prog_127_method_3_code 49 = .ok (.baload, 1) := by decide +kernel
theorem dV_50 : decode prog_127_method_3_code 50 = .ok (.bipush 57, 2) := by decide +kernel
theorem dV_52 : decode prog_127_method_3_code 52 = .ok (.if_icmp .le 5, 3) := by decide +kernel
theorem dV_55 : decode prog_127_method_3_code 55 = .ok (.iconst (-1), 1) := by decide +kernel
theorem dV_56 : decode prog_127_method_3_code 56 = .ok (.ireturn, 1) := by decide +kernel
theorem dV_57 : decode prog_127_method_3_code 57 = .ok (.iinc 4 1, 3) := by decide +kernel
theorem dV_60 : decode prog_127_method_3_code 60 = .ok (.goto (-29), 3) := by decide +kernel
theorem dV_63 : decode prog_127_method_3_code 63 = .ok (.iload_n 3, 1) := by decide +kernel
theorem dV_64 : decode prog_127_method_3_code 64 = .ok (.ireturn, 1) := by decide +kernel
theorem efV (m : MethodId) (r1 : Addr) (p1 : Int32) (p2 : Int32) : entryFrame m #[(.ref r1), (.int p1), (.int p2)] 5 = mkF m 0 #[.val (.ref r1), .val (.int p1), .val (.int p2), .unset, .unset] [] := by first | (simp [entryFrame, mkF, argsToLocals, Value.category]; done) | rfl
def QV (Z : State) (r1 : Addr) (p1 : Int32) (p2 : Int32) (n : Nat) (g : Nat → Int32) (h0 : Heap) (n0 : Nat) (v : Option Value) (h : Heap) (L : List Loc) : Prop := ∃ r : Int32, v = some (.int r) ∧ own_FD g p1.toInt p2.toInt r.toInt ∧ Fr n0 L ∧ h = h0
set_option maxRecDepth 65536 in
set_option maxHeartbeats 40000000 in
theorem rmV (l : Launch) (Z : State) (a0 : Array Value) (hw : ∀ d ∈ tables_1, d.before a0 Z = true) (ws : List Jvm.Cond) (r1 : Addr) (p1 : Int32) (p2 : Int32) (n : Nat) (g : Nat → Int32) (h0 : Heap) (n0 : Nat) (Z0 : n0 ≤ h0.size) (A : own_Ar Z h0 r1 .byte n g) (ha : 0 ≤ p1.toInt) (hab : p1.toInt ≤ p2.toInt) (hbn : p2.toInt ≤ (n : Int)) :
    MetFree l (⟨"com/example/lanchid/lanchid/records/WholeNumber", "firstDigit", "([BII)I"⟩ : MethodName) (head1 (Jvm.Cond.code (⟨"com/example/lanchid/lanchid/records/WholeNumber", "firstDigit", "([BII)I"⟩ : MethodName) prog_127_method_3_code 5 (some .int) :: ws) ({ frames := 0, cells := 0, slots := 0, locals := 0 } : Room)) (fun a U => a = #[(.ref r1), (.int p1), (.int p2)] ∧ Z.Warmed39 U.vm ∧ U.heap = h0) (fun _ _ _ _ _ => True) (fun _ U o U' => ∃ v L, o = .returned v ∧ QV Z r1 p1 p2 n g h0 n0 v U'.heap L ∧ FrameEnd U o U' L ({ frames := 0, cells := 0, slots := 0, locals := 0 } : Room).cells ({ frames := 0, cells := 0, slots := 0, locals := 0 } : Room).slots) := by
  refine MetFree.of_bodySF (plainFor_of_name own_pn1) hisR ?_
  intro p e s m args below meth c s₁ Bd hml0 hP hK
  obtain ⟨rfl, hZ, hh⟩ := hP
  have hx := Bd.exec
  have hby := Bd.bytes
  have hml : c.maxLocals = 5 := hml0
  have hown : s.vm.findClass "com/example/lanchid/lanchid/records/WholeNumber" = some m.cls := findClass_of_methodNamed Bd.named
  have hnm := (name_of_methodNamed Bd.named Bd.method).1
  have hlk := Bd.notSynchronized
  have hret := Bd.returns
  have X0 : Stand p l e ({ frames := 0, cells := 0, slots := 0, locals := 0 } : Room) s m #[(.ref r1), (.int p1), (.int p2)] below meth c s₁ [] 0 0 := Stand.of_body Bd
  have e0 : s₁.heap = h0 := by rw [← hh, Bd.state]; rfl
  have N0 := Fr.nil n0
  show own_Run p e below s 0 0 (QV Z r1 p1 p2 n g h0 n0) (s₁.setTop (entryFrame m #[(.ref r1), (.int p1), (.int p2)] 5))
  refine own_cast (efV m r1 p1 p2) ?_
  show own_Run p e below s _ _ _ (s₁.setTop (mkF m 0 #[.val (.ref r1), .val (.int p1), .val (.int p2), .unset, .unset] []))
  refine own_of (fun _ hh_ => XS.iloadN X0.here hx rfl (hb hby dV_0) rfl hh_) ?_
  show own_Run p e below s _ _ _ (s₁.setTop (mkF m 1 #[.val (.ref r1), .val (.int p1), .val (.int p2), .unset, .unset] [(.int p1)]))
  refine own_of (fun _ hh_ => XS.iloadN X0.here hx rfl (hb hby dV_1) rfl hh_) ?_
  show own_Run p e below s _ _ _ (s₁.setTop (mkF m 2 #[.val (.ref r1), .val (.int p1), .val (.int p2), .unset, .unset] [(.int p2), (.int p1)]))
  by_cases hc2_1 : p1 = p2
  · refine own_of (fun _ hh_ => XS.icmpNo X0.here hx rfl (hb hby dV_2) rfl (teq hc2_1).2 hh_) ?_
    show own_Run p e below s _ _ _ (s₁.setTop (mkF m 5 #[.val (.ref r1), .val (.int p1), .val (.int p2), .unset, .unset] []))
    refine own_of (fun _ hh_ => XS.iconst X0.here hx rfl (hb hby dV_5) hh_) ?_
    show own_Run p e below s _ _ _ (s₁.setTop (mkF m 6 #[.val (.ref r1), .val (.int p1), .val (.int p2), .unset, .unset] [(.int (-1 : Int32))]))
    exact own_retI X0 hx hret hlk (hb hby dV_6) ⟨_, rfl, (Or.inl ⟨congrArg Int32.toInt hc2_1, rfl⟩), N0, e0⟩ (by decide) (by decide)
  · refine own_of (fun _ hh_ => XS.icmpYes X0.here hx rfl (pc0 := 2) (pc' := 7) rfl (hb hby dV_2) rfl (feq hc2_1).2 (by decide) (by decide) hh_) ?_
    show own_Run p e below s _ _ _ (s₁.setTop (mkF m 7 #[.val (.ref r1), .val (.int p1), .val (.int p2), .unset, .unset] []))
    have hlt : p1.toInt < p2.toInt := by have z := mt Int32.toInt_inj.mp hc2_1; omega
    refine own_of (fun _ hh_ => XS.iloadN X0.here hx rfl (hb hby dV_7) rfl hh_) ?_
    show own_Run p e below s _ _ _ (s₁.setTop (mkF m 8 #[.val (.ref r1), .val (.int p1), .val (.int p2), .unset, .unset] [(.int p1)]))
    refine own_of (fun _ hh_ => XS.istoreN X0.here hx rfl (hb hby dV_8) rfl (l' := #[.val (.ref r1), .val (.int p1), .val (.int p2), .val (.int p1), .unset]) rfl hh_) ?_
    show own_Run p e below s _ _ _ (s₁.setTop (mkF m 9 #[.val (.ref r1), .val (.int p1), .val (.int p2), .val (.int p1), .unset] []))
    have J28 : ∀ (i : Int32), p1.toInt ≤ i.toInt → i.toInt ≤ p2.toInt → (∀ j : Nat, p1.toInt ≤ j → (j : Int) < i.toInt → (g j).toInt = 48) → (i.toInt < p2.toInt → (g i.toNatClampNeg).toInt ≠ 48) → own_Run p e below s 0 0 (QV Z r1 p1 p2 n g h0 n0) (s₁.setTop (mkF m 28 #[.val (.ref r1), .val (.int p1), .val (.int p2), .val (.int i), .unset] [])) := by
      intro i g1 g2 hz hnz
      show own_Run p e below s _ _ _ (s₁.setTop (mkF m 28 #[.val (.ref r1), .val (.int p1), .val (.int p2), .val (.int i), .unset] []))
      refine own_of (fun _ hh_ => XS.iloadN X0.here hx rfl (hb hby dV_28) rfl hh_) ?_
      show own_Run p e below s _ _ _ (s₁.setTop (mkF m 29 #[.val (.ref r1), .val (.int p1), .val (.int p2), .val (.int i), .unset] [(.int i)]))
      refine own_of (fun _ hh_ => XS.istore X0.here hx rfl (hb hby dV_29) rfl (l' := #[.val (.ref r1), .val (.int p1), .val (.int p2), .val (.int i), .val (.int i)]) rfl hh_) ?_
      show own_Run p e below s _ _ _ (s₁.setTop (mkF m 31 #[.val (.ref r1), .val (.int p1), .val (.int p2), .val (.int i), .val (.int i)] []))
      have loop2 : ∀ (k : Nat) (j : Int32), i.toInt ≤ j.toInt → j.toInt ≤ p2.toInt → (p2.toInt - j.toInt).toNat ≤ k → (∀ t : Nat, i.toInt ≤ t → (t : Int) < j.toInt → own_D (g t)) → own_Run p e below s 0 0 (QV Z r1 p1 p2 n g h0 n0) (s₁.setTop (mkF m 31 #[.val (.ref r1), .val (.int p1), .val (.int p2), .val (.int i), .val (.int j)] [])) := by
        intro k
        induction k with
        | zero =>
          intro j g3 g4 hk hd
          have cj := own_clamp (j := j) (by omega)
          show own_Run p e below s _ _ _ (s₁.setTop (mkF m 31 #[.val (.ref r1), .val (.int p1), .val (.int p2), .val (.int i), .val (.int j)] []))
          refine own_of (fun _ hh_ => XS.iload X0.here hx rfl (hb hby dV_31) rfl hh_) ?_
          show own_Run p e below s _ _ _ (s₁.setTop (mkF m 33 #[.val (.ref r1), .val (.int p1), .val (.int p2), .val (.int i), .val (.int j)] [(.int j)]))
          refine own_of (fun _ hh_ => XS.iloadN X0.here hx rfl (hb hby dV_33) rfl hh_) ?_
          show own_Run p e below s _ _ _ (s₁.setTop (mkF m 34 #[.val (.ref r1), .val (.int p1), .val (.int p2), .val (.int i), .val (.int j)] [(.int p2), (.int j)]))
          have hc34_3 : ¬ (j < p2) := by apply mt Int32.lt_iff_toInt_lt.mp; omega
          refine own_of (fun _ hh_ => XS.icmpYes X0.here hx rfl (pc0 := 34) (pc' := 63) rfl (hb hby dV_34) rfl (flt hc34_3).2.1 (by decide) (by decide) hh_) ?_
          show own_Run p e below s _ _ _ (s₁.setTop (mkF m 63 #[.val (.ref r1), .val (.int p1), .val (.int p2), .val (.int i), .val (.int j)] []))
          refine own_of (fun _ hh_ => XS.iloadN X0.here hx rfl (hb hby dV_63) rfl hh_) ?_
          show own_Run p e below s _ _ _ (s₁.setTop (mkF m 64 #[.val (.ref r1), .val (.int p1), .val (.int p2), .val (.int i), .val (.int j)] [(.int i)]))
          exact own_retI X0 hx hret hlk (hb hby dV_64) ⟨_, rfl, (Or.inr ⟨hlt, Or.inr ⟨fun t t1 t2 => by by_cases q : (t : Int) < i.toInt; exact (by have z := hz t t1 q; unfold own_D; omega); exact hd t (by omega) (by have z := mt Int32.lt_iff_toInt_lt.mpr hc34_3; omega), g1, g2, hz, fun t t1 t2 => by rw [show t = i.toNatClampNeg from by have z := own_clamp (j := i) (by omega); omega]; exact hnz t2⟩⟩), N0, e0⟩ (by decide) (by decide)
        | succ k ih =>
          intro j g3 g4 hk hd
          have cj := own_clamp (j := j) (by omega)
          show own_Run p e below s _ _ _ (s₁.setTop (mkF m 31 #[.val (.ref r1), .val (.int p1), .val (.int p2), .val (.int i), .val (.int j)] []))
          refine own_of (fun _ hh_ => XS.iload X0.here hx rfl (hb hby dV_31) rfl hh_) ?_
          show own_Run p e below s _ _ _ (s₁.setTop (mkF m 33 #[.val (.ref r1), .val (.int p1), .val (.int p2), .val (.int i), .val (.int j)] [(.int j)]))
          refine own_of (fun _ hh_ => XS.iloadN X0.here hx rfl (hb hby dV_33) rfl hh_) ?_
          show own_Run p e below s _ _ _ (s₁.setTop (mkF m 34 #[.val (.ref r1), .val (.int p1), .val (.int p2), .val (.int i), .val (.int j)] [(.int p2), (.int j)]))
          by_cases hc34_4 : j < p2
          · refine own_of (fun _ hh_ => XS.icmpNo X0.here hx rfl (hb hby dV_34) rfl (tlt hc34_4).2.1 hh_) ?_
            show own_Run p e below s _ _ _ (s₁.setTop (mkF m 37 #[.val (.ref r1), .val (.int p1), .val (.int p2), .val (.int i), .val (.int j)] []))
            have q0 := Int32.lt_iff_toInt_lt.mp hc34_4
            have hj1 := own_pos (j := j) (by omega)
            have hj2 : j.toNatClampNeg < n := by omega
            refine own_of (fun _ hh_ => XS.aloadN X0.here hx rfl (hb hby dV_37) rfl rfl hh_) ?_
            show own_Run p e below s _ _ _ (s₁.setTop (mkF m 38 #[.val (.ref r1), .val (.int p1), .val (.int p2), .val (.int i), .val (.int j)] [(.ref r1)]))
            refine own_of (fun _ hh_ => XS.iload X0.here hx rfl (hb hby dV_38) rfl hh_) ?_
            show own_Run p e below s _ _ _ (s₁.setTop (mkF m 40 #[.val (.ref r1), .val (.int p1), .val (.int p2), .val (.int i), .val (.int j)] [(.int j), (.ref r1)]))
            refine own_bal X0 hx hZ e0 A (j := j) (w := (g j.toNatClampNeg)) hj1 hj2 rfl (hb hby dV_40) ?_
            show own_Run p e below s _ _ _ (s₁.setTop (mkF m 41 #[.val (.ref r1), .val (.int p1), .val (.int p2), .val (.int i), .val (.int j)] [(.int (g j.toNatClampNeg))]))
            refine own_of (fun _ hh_ => XS.bipush X0.here hx rfl (hb hby dV_41) hh_) ?_
            show own_Run p e below s _ _ _ (s₁.setTop (mkF m 43 #[.val (.ref r1), .val (.int p1), .val (.int p2), .val (.int i), .val (.int j)] [(.int (48 : Int32)), (.int (g j.toNatClampNeg))]))
            by_cases hc43_5 : (g j.toNatClampNeg) < (48 : Int32)
            · refine own_of (fun _ hh_ => XS.icmpYes X0.here hx rfl (pc0 := 43) (pc' := 55) rfl (hb hby dV_43) rfl (tlt hc43_5).1 (by decide) (by decide) hh_) ?_
              show own_Run p e below s _ _ _ (s₁.setTop (mkF m 55 #[.val (.ref r1), .val (.int p1), .val (.int p2), .val (.int i), .val (.int j)] []))
              refine own_of (fun _ hh_ => XS.iconst X0.here hx rfl (hb hby dV_55) hh_) ?_
              show own_Run p e below s _ _ _ (s₁.setTop (mkF m 56 #[.val (.ref r1), .val (.int p1), .val (.int p2), .val (.int i), .val (.int j)] [(.int (-1 : Int32))]))
              exact own_retI X0 hx hret hlk (hb hby dV_56) ⟨_, rfl, (Or.inr ⟨by omega, Or.inl ⟨⟨j.toNatClampNeg, by omega, by omega, by have a_hc43_5 := Int32.lt_iff_toInt_lt.mp hc43_5; have l_0 : (48 : Int32).toInt = 48 := rfl; have l_1 : (57 : Int32).toInt = 57 := rfl; unfold own_D; omega⟩, rfl⟩⟩), N0, e0⟩ (by decide) (by decide)
            · refine own_of (fun _ hh_ => XS.icmpNo X0.here hx rfl (hb hby dV_43) rfl (flt hc43_5).1 hh_) ?_
              show own_Run p e below s _ _ _ (s₁.setTop (mkF m 46 #[.val (.ref r1), .val (.int p1), .val (.int p2), .val (.int i), .val (.int j)] []))
              refine own_of (fun _ hh_ => XS.aloadN X0.here hx rfl (hb hby dV_46) rfl rfl hh_) ?_
              show own_Run p e below s _ _ _ (s₁.setTop (mkF m 47 #[.val (.ref r1), .val (.int p1), .val (.int p2), .val (.int i), .val (.int j)] [(.ref r1)]))
              refine own_of (fun _ hh_ => XS.iload X0.here hx rfl (hb hby dV_47) rfl hh_) ?_
              show own_Run p e below s _ _ _ (s₁.setTop (mkF m 49 #[.val (.ref r1), .val (.int p1), .val (.int p2), .val (.int i), .val (.int j)] [(.int j), (.ref r1)]))
              refine own_bal X0 hx hZ e0 A (j := j) (w := (g j.toNatClampNeg)) hj1 hj2 rfl (hb hby dV_49) ?_
              show own_Run p e below s _ _ _ (s₁.setTop (mkF m 50 #[.val (.ref r1), .val (.int p1), .val (.int p2), .val (.int i), .val (.int j)] [(.int (g j.toNatClampNeg))]))
              refine own_of (fun _ hh_ => XS.bipush X0.here hx rfl (hb hby dV_50) hh_) ?_
              show own_Run p e below s _ _ _ (s₁.setTop (mkF m 52 #[.val (.ref r1), .val (.int p1), .val (.int p2), .val (.int i), .val (.int j)] [(.int (57 : Int32)), (.int (g j.toNatClampNeg))]))
              by_cases hc52_6 : (57 : Int32) < (g j.toNatClampNeg)
              · refine own_of (fun _ hh_ => XS.icmpNo X0.here hx rfl (hb hby dV_52) rfl (tlt hc52_6).2.2.2 hh_) ?_
                show own_Run p e below s _ _ _ (s₁.setTop (mkF m 55 #[.val (.ref r1), .val (.int p1), .val (.int p2), .val (.int i), .val (.int j)] []))
                refine own_of (fun _ hh_ => XS.iconst X0.here hx rfl (hb hby dV_55) hh_) ?_
                show own_Run p e below s _ _ _ (s₁.setTop (mkF m 56 #[.val (.ref r1), .val (.int p1), .val (.int p2), .val (.int i), .val (.int j)] [(.int (-1 : Int32))]))
                exact own_retI X0 hx hret hlk (hb hby dV_56) ⟨_, rfl, (Or.inr ⟨by omega, Or.inl ⟨⟨j.toNatClampNeg, by omega, by omega, by have a_hc43_5 := mt Int32.lt_iff_toInt_lt.mpr hc43_5; have a_hc52_6 := Int32.lt_iff_toInt_lt.mp hc52_6; have l_0 : (48 : Int32).toInt = 48 := rfl; have l_1 : (57 : Int32).toInt = 57 := rfl; unfold own_D; omega⟩, rfl⟩⟩), N0, e0⟩ (by decide) (by decide)
              · refine own_of (fun _ hh_ => XS.icmpYes X0.here hx rfl (pc0 := 52) (pc' := 57) rfl (hb hby dV_52) rfl (flt hc52_6).2.2.2 (by decide) (by decide) hh_) ?_
                show own_Run p e below s _ _ _ (s₁.setTop (mkF m 57 #[.val (.ref r1), .val (.int p1), .val (.int p2), .val (.int i), .val (.int j)] []))
                refine own_of (fun _ hh_ => XS.iinc X0.here hx rfl (hb hby dV_57) rfl (l' := #[.val (.ref r1), .val (.int p1), .val (.int p2), .val (.int i), .val (.int (j + (1 : Int32)))]) rfl hh_) ?_
                show own_Run p e below s _ _ _ (s₁.setTop (mkF m 60 #[.val (.ref r1), .val (.int p1), .val (.int p2), .val (.int i), .val (.int (j + (1 : Int32)))] []))
                refine own_of (fun _ hh_ => XS.goto X0.here hx rfl (pc0 := 60) (pc' := 31) rfl (hb hby dV_60) (by decide) (by decide) hh_) ?_
                show own_Run p e below s _ _ _ (s₁.setTop (mkF m 31 #[.val (.ref r1), .val (.int p1), .val (.int p2), .val (.int i), .val (.int (j + (1 : Int32)))] []))
                have q1 := Int32.lt_iff_toInt_lt.mp hc34_4
                have q2 := mt Int32.lt_iff_toInt_lt.mpr hc43_5
                have q9 := mt Int32.lt_iff_toInt_lt.mpr hc52_6
                have q3 : (48 : Int32).toInt = 48 := rfl
                have qa : (57 : Int32).toInt = 57 := rfl
                have q4 := c_iadd j (1 : Int32)
                have q5 := rng32 (j + (1 : Int32))
                have q6 : (1 : Int32).toInt = 1 := rfl
                have q7 := rng32 p2
                exact ih _ (by omega) (by omega) (by omega) (fun t t1 t2 => by by_cases q8 : (t : Int) < j.toInt; exact hd t t1 q8; rw [show t = j.toNatClampNeg from by omega]; unfold own_D; omega)
          · refine own_of (fun _ hh_ => XS.icmpYes X0.here hx rfl (pc0 := 34) (pc' := 63) rfl (hb hby dV_34) rfl (flt hc34_4).2.1 (by decide) (by decide) hh_) ?_
            show own_Run p e below s _ _ _ (s₁.setTop (mkF m 63 #[.val (.ref r1), .val (.int p1), .val (.int p2), .val (.int i), .val (.int j)] []))
            refine own_of (fun _ hh_ => XS.iloadN X0.here hx rfl (hb hby dV_63) rfl hh_) ?_
            show own_Run p e below s _ _ _ (s₁.setTop (mkF m 64 #[.val (.ref r1), .val (.int p1), .val (.int p2), .val (.int i), .val (.int j)] [(.int i)]))
            exact own_retI X0 hx hret hlk (hb hby dV_64) ⟨_, rfl, (Or.inr ⟨hlt, Or.inr ⟨fun t t1 t2 => by by_cases q : (t : Int) < i.toInt; exact (by have z := hz t t1 q; unfold own_D; omega); exact hd t (by omega) (by have z := mt Int32.lt_iff_toInt_lt.mpr hc34_4; omega), g1, g2, hz, fun t t1 t2 => by rw [show t = i.toNatClampNeg from by have z := own_clamp (j := i) (by omega); omega]; exact hnz t2⟩⟩), N0, e0⟩ (by decide) (by decide)
      exact loop2 _ _ (Int.le_refl _) g2 (Nat.le_refl _) (fun t t1 t2 => absurd t2 (by omega))
    have loop : ∀ (k : Nat) (i : Int32), p1.toInt ≤ i.toInt → i.toInt ≤ p2.toInt → (p2.toInt - i.toInt).toNat ≤ k → (∀ j : Nat, p1.toInt ≤ j → (j : Int) < i.toInt → (g j).toInt = 48) → own_Run p e below s 0 0 (QV Z r1 p1 p2 n g h0 n0) (s₁.setTop (mkF m 9 #[.val (.ref r1), .val (.int p1), .val (.int p2), .val (.int i), .unset] [])) := by
      intro k
      induction k with
      | zero =>
        intro i g1 g2 hk hz
        have ci := own_clamp (j := i) (by omega)
        show own_Run p e below s _ _ _ (s₁.setTop (mkF m 9 #[.val (.ref r1), .val (.int p1), .val (.int p2), .val (.int i), .unset] []))
        refine own_of (fun _ hh_ => XS.iloadN X0.here hx rfl (hb hby dV_9) rfl hh_) ?_
        show own_Run p e below s _ _ _ (s₁.setTop (mkF m 10 #[.val (.ref r1), .val (.int p1), .val (.int p2), .val (.int i), .unset] [(.int i)]))
        refine own_of (fun _ hh_ => XS.iloadN X0.here hx rfl (hb hby dV_10) rfl hh_) ?_
        show own_Run p e below s _ _ _ (s₁.setTop (mkF m 11 #[.val (.ref r1), .val (.int p1), .val (.int p2), .val (.int i), .unset] [(.int p2), (.int i)]))
        have hc11_7 : ¬ (i < p2) := by apply mt Int32.lt_iff_toInt_lt.mp; omega
        refine own_of (fun _ hh_ => XS.icmpYes X0.here hx rfl (pc0 := 11) (pc' := 28) rfl (hb hby dV_11) rfl (flt hc11_7).2.1 (by decide) (by decide) hh_) ?_
        show own_Run p e below s _ _ _ (s₁.setTop (mkF m 28 #[.val (.ref r1), .val (.int p1), .val (.int p2), .val (.int i), .unset] []))
        exact J28 i g1 g2 hz (fun q => absurd (Int32.lt_iff_toInt_lt.mpr q) hc11_7)
      | succ k ih =>
        intro i g1 g2 hk hz
        have ci := own_clamp (j := i) (by omega)
        show own_Run p e below s _ _ _ (s₁.setTop (mkF m 9 #[.val (.ref r1), .val (.int p1), .val (.int p2), .val (.int i), .unset] []))
        refine own_of (fun _ hh_ => XS.iloadN X0.here hx rfl (hb hby dV_9) rfl hh_) ?_
        show own_Run p e below s _ _ _ (s₁.setTop (mkF m 10 #[.val (.ref r1), .val (.int p1), .val (.int p2), .val (.int i), .unset] [(.int i)]))
        refine own_of (fun _ hh_ => XS.iloadN X0.here hx rfl (hb hby dV_10) rfl hh_) ?_
        show own_Run p e below s _ _ _ (s₁.setTop (mkF m 11 #[.val (.ref r1), .val (.int p1), .val (.int p2), .val (.int i), .unset] [(.int p2), (.int i)]))
        by_cases hc11_8 : i < p2
        · refine own_of (fun _ hh_ => XS.icmpNo X0.here hx rfl (hb hby dV_11) rfl (tlt hc11_8).2.1 hh_) ?_
          show own_Run p e below s _ _ _ (s₁.setTop (mkF m 14 #[.val (.ref r1), .val (.int p1), .val (.int p2), .val (.int i), .unset] []))
          have q0 := Int32.lt_iff_toInt_lt.mp hc11_8
          have hi1 := own_pos (j := i) (by omega)
          have hi2 : i.toNatClampNeg < n := by omega
          refine own_of (fun _ hh_ => XS.aloadN X0.here hx rfl (hb hby dV_14) rfl rfl hh_) ?_
          show own_Run p e below s _ _ _ (s₁.setTop (mkF m 15 #[.val (.ref r1), .val (.int p1), .val (.int p2), .val (.int i), .unset] [(.ref r1)]))
          refine own_of (fun _ hh_ => XS.iloadN X0.here hx rfl (hb hby dV_15) rfl hh_) ?_
          show own_Run p e below s _ _ _ (s₁.setTop (mkF m 16 #[.val (.ref r1), .val (.int p1), .val (.int p2), .val (.int i), .unset] [(.int i), (.ref r1)]))
          refine own_bal X0 hx hZ e0 A (j := i) (w := (g i.toNatClampNeg)) hi1 hi2 rfl (hb hby dV_16) ?_
          show own_Run p e below s _ _ _ (s₁.setTop (mkF m 17 #[.val (.ref r1), .val (.int p1), .val (.int p2), .val (.int i), .unset] [(.int (g i.toNatClampNeg))]))
          refine own_of (fun _ hh_ => XS.bipush X0.here hx rfl (hb hby dV_17) hh_) ?_
          show own_Run p e below s _ _ _ (s₁.setTop (mkF m 19 #[.val (.ref r1), .val (.int p1), .val (.int p2), .val (.int i), .unset] [(.int (48 : Int32)), (.int (g i.toNatClampNeg))]))
          by_cases hc19_9 : (g i.toNatClampNeg) = (48 : Int32)
          · refine own_of (fun _ hh_ => XS.icmpNo X0.here hx rfl (hb hby dV_19) rfl (teq hc19_9).2 hh_) ?_
            show own_Run p e below s _ _ _ (s₁.setTop (mkF m 22 #[.val (.ref r1), .val (.int p1), .val (.int p2), .val (.int i), .unset] []))
            refine own_of (fun _ hh_ => XS.iinc X0.here hx rfl (hb hby dV_22) rfl (l' := #[.val (.ref r1), .val (.int p1), .val (.int p2), .val (.int (i + (1 : Int32))), .unset]) rfl hh_) ?_
            show own_Run p e below s _ _ _ (s₁.setTop (mkF m 25 #[.val (.ref r1), .val (.int p1), .val (.int p2), .val (.int (i + (1 : Int32))), .unset] []))
            refine own_of (fun _ hh_ => XS.goto X0.here hx rfl (pc0 := 25) (pc' := 9) rfl (hb hby dV_25) (by decide) (by decide) hh_) ?_
            show own_Run p e below s _ _ _ (s₁.setTop (mkF m 9 #[.val (.ref r1), .val (.int p1), .val (.int p2), .val (.int (i + (1 : Int32))), .unset] []))
            have q1 := Int32.lt_iff_toInt_lt.mp hc11_8
            have q2 := Int32.toInt_inj.mpr hc19_9
            have q3 : (48 : Int32).toInt = 48 := rfl
            have q4 := c_iadd i (1 : Int32)
            have q5 := rng32 (i + (1 : Int32))
            have q6 : (1 : Int32).toInt = 1 := rfl
            have q7 := rng32 p2
            exact ih _ (by omega) (by omega) (by omega) (fun j j1 j2 => by by_cases q8 : (j : Int) < i.toInt; exact hz j j1 q8; rw [show j = i.toNatClampNeg from by omega]; omega)
          · refine own_of (fun _ hh_ => XS.icmpYes X0.here hx rfl (pc0 := 19) (pc' := 28) rfl (hb hby dV_19) rfl (feq hc19_9).2 (by decide) (by decide) hh_) ?_
            show own_Run p e below s _ _ _ (s₁.setTop (mkF m 28 #[.val (.ref r1), .val (.int p1), .val (.int p2), .val (.int i), .unset] []))
            exact J28 i g1 g2 hz (fun _ q => hc19_9 (Int32.toInt_inj.mp q))
        · refine own_of (fun _ hh_ => XS.icmpYes X0.here hx rfl (pc0 := 11) (pc' := 28) rfl (hb hby dV_11) rfl (flt hc11_8).2.1 (by decide) (by decide) hh_) ?_
          show own_Run p e below s _ _ _ (s₁.setTop (mkF m 28 #[.val (.ref r1), .val (.int p1), .val (.int p2), .val (.int i), .unset] []))
          exact J28 i g1 g2 hz (fun q => absurd (Int32.lt_iff_toInt_lt.mpr q) hc11_8)
    exact loop _ _ (Int.le_refl _) hab (Nat.le_refl _) (fun j j1 j2 => absurd j2 (by omega))
theorem own_pd1 : parseMethodDescriptor "(I)B" = some ⟨[.int], some .byte⟩ := by decide +kernel
theorem own_pd2 : parseMethodDescriptor "(II)I" = some ⟨[.int, .int], some .int⟩ := by decide +kernel
theorem own_pd3 : parseMethodDescriptor "([BII)I" = some ⟨[(.array .byte), .int, .int], some .int⟩ := by decide +kernel
theorem own_pd4 : parseMethodDescriptor "([BIII)Z" = some ⟨[(.array .byte), .int, .int, .int], some .boolean⟩ := by decide +kernel
theorem ef0 (m : MethodId) (r1 : Int32) (p0 : Int32) (p1 : Int32) (p2 : Int32) (p3 : Int32) (p4 : Int32) : entryFrame m #[(.int r1), (.int p0), (.int p1), (.int p2), (.int p3), (.int p4)] maxLocals = mkF m 0 #[.val (.int r1), .val (.int p0), .val (.int p1), .val (.int p2), .val (.int p3), .val (.int p4), .unset, .unset, .unset, .unset, .unset, .unset, .unset, .unset] [] := by first | (simp [entryFrame, mkF, argsToLocals, Value.category, maxLocals]; done) | rfl
def Q0 (Z : State) (r1 : Int32) (p0 : Int32) (p1 : Int32) (p2 : Int32) (p3 : Int32) (p4 : Int32) (h0 : Heap) (n0 : Nat) (v : Option Value) (h : Heap) (L : List Loc) : Prop := v = some (.int 1) ∧ Fr n0 L
set_option maxRecDepth 65536 in
set_option maxHeartbeats 40000000 in
theorem rm0 (l : Launch) (Z : State) (a0 : Array Value) (hw : ∀ d ∈ tables_1, d.before a0 Z = true) (ws : List Jvm.Cond) (r1 : Int32) (p0 : Int32) (p1 : Int32) (p2 : Int32) (p3 : Int32) (p4 : Int32) (h0 : Heap) (n0 : Nat) (Z0 : n0 ≤ h0.size)  :
    MetFree l x (head1 (Jvm.Cond.code x code maxLocals ret :: ws) room_1) (fun a U => a = #[(.int r1), (.int p0), (.int p1), (.int p2), (.int p3), (.int p4)] ∧ Z.Warmed39 U.vm ∧ U.heap = h0) (fun _ _ _ _ _ => True) (fun _ U o U' => ∃ v L, o = .returned v ∧ Q0 Z r1 p0 p1 p2 p3 p4 h0 n0 v U'.heap L ∧ FrameEnd U o U' L 16 128) := by
  refine MetFree.of_bodySF (plainFor_of_name own_pn0) hisR ?_
  intro p e s m args below meth c s₁ Bd hml0 hP hK
  obtain ⟨rfl, hZ, hh⟩ := hP
  have hx := Bd.exec
  have hby := Bd.bytes
  have hml : c.maxLocals = 14 := hml0
  have hown : s.vm.findClass "com/example/lanchid/lanchid/records/WholeNumberFirstDigitPinLaw" = some m.cls := findClass_of_methodNamed Bd.named
  have hnm := (name_of_methodNamed Bd.named Bd.method).1
  have hlk := Bd.notSynchronized
  have hret := Bd.returns
  have X0 : Stand p l e room_1 s m #[(.int r1), (.int p0), (.int p1), (.int p2), (.int p3), (.int p4)] below meth c s₁ [] 0 0 := Stand.of_body Bd
  have e0 : s₁.heap = h0 := by rw [← hh, Bd.state]; rfl
  have N0 := Fr.nil n0
  show own_Run p e below s 16 128 (Q0 Z r1 p0 p1 p2 p3 p4 h0 n0) (s₁.setTop (entryFrame m #[(.int r1), (.int p0), (.int p1), (.int p2), (.int p3), (.int p4)] maxLocals))
  refine own_cast (ef0 m r1 p0 p1 p2 p3 p4) ?_
  show own_Run p e below s _ _ _ (s₁.setTop (mkF m 0 #[.val (.int r1), .val (.int p0), .val (.int p1), .val (.int p2), .val (.int p3), .val (.int p4), .unset, .unset, .unset, .unset, .unset, .unset, .unset, .unset] []))
  refine own_of (fun _ hh_ => XS.iconst X0.here hx rfl (hb hby at_0) hh_) ?_
  show own_Run p e below s _ _ _ (s₁.setTop (mkF m 1 #[.val (.int r1), .val (.int p0), .val (.int p1), .val (.int p2), .val (.int p3), .val (.int p4), .unset, .unset, .unset, .unset, .unset, .unset, .unset, .unset] [(.int (5 : Int32))]))
  obtain ⟨T1, h1, k1, X1, e1, E1, A1, st1⟩ := newP X0 hx hZ (hw _ (List.mem_of_getElem? (i := 0) rfl)) e0 (g := (mkF m 1 #[.val (.int r1), .val (.int p0), .val (.int p1), .val (.int p2), .val (.int p3), .val (.int p4), .unset, .unset, .unset, .unset, .unset, .unset, .unset, .unset] [(.int (5 : Int32))])) rfl (hb hby at_1) rfl (by decide) (cap := 5) (by decide) (by decide) (by decide) (by decide)
  obtain ⟨ob1, g1⟩ : ∃ z, z = h0.size := ⟨_, rfl⟩
  rw [← g1] at A1 st1
  have g_ob1 : n0 ≤ ob1 := Nat.le_trans Z0 (Nat.le_of_eq g1.symm)
  have V1 : own_Ar Z h1 ob1 .byte 5 (fun _ => 0) := own_Ar.new A1 rfl rfl
  refine own_of st1 ?_
  show own_Run p e below s _ _ _ (T1.setTop (mkF m 3 #[.val (.int r1), .val (.int p0), .val (.int p1), .val (.int p2), .val (.int p3), .val (.int p4), .unset, .unset, .unset, .unset, .unset, .unset, .unset, .unset] [(.ref ob1)]))
  refine own_of (fun _ hh_ => XS.astore X1.here hx rfl (hb hby at_3) rfl rfl (l' := #[.val (.int r1), .val (.int p0), .val (.int p1), .val (.int p2), .val (.int p3), .val (.int p4), .val (.ref ob1), .unset, .unset, .unset, .unset, .unset, .unset, .unset]) rfl hh_) ?_
  show own_Run p e below s _ _ _ (T1.setTop (mkF m 5 #[.val (.int r1), .val (.int p0), .val (.int p1), .val (.int p2), .val (.int p3), .val (.int p4), .val (.ref ob1), .unset, .unset, .unset, .unset, .unset, .unset, .unset] []))
  refine own_of (fun _ hh_ => XS.aload X1.here hx rfl (hb hby at_5) rfl rfl hh_) ?_
  show own_Run p e below s _ _ _ (T1.setTop (mkF m 7 #[.val (.int r1), .val (.int p0), .val (.int p1), .val (.int p2), .val (.int p3), .val (.int p4), .val (.ref ob1), .unset, .unset, .unset, .unset, .unset, .unset, .unset] [(.ref ob1)]))
  refine own_of (fun _ hh_ => XS.iconst X1.here hx rfl (hb hby at_7) hh_) ?_
  show own_Run p e below s _ _ _ (T1.setTop (mkF m 8 #[.val (.int r1), .val (.int p0), .val (.int p1), .val (.int p2), .val (.int p3), .val (.int p4), .val (.ref ob1), .unset, .unset, .unset, .unset, .unset, .unset, .unset] [(.int (0 : Int32)), (.ref ob1)]))
  refine own_of (fun _ hh_ => XS.iloadN X1.here hx rfl (hb hby at_8) rfl hh_) ?_
  show own_Run p e below s _ _ _ (T1.setTop (mkF m 9 #[.val (.int r1), .val (.int p0), .val (.int p1), .val (.int p2), .val (.int p3), .val (.int p4), .val (.ref ob1), .unset, .unset, .unset, .unset, .unset, .unset, .unset] [(.int p0), (.int (0 : Int32)), (.ref ob1)]))
  obtain ⟨_, _, ⟨T2, L2, k2, n2⟩, -, X2, ⟨Lc2, hQ2, l2, y2, z2⟩, st2⟩ := Jvm.LawKit.callS X1 hx (y := (⟨"com/example/lanchid/lanchid/records/WholeNumberFirstDigitPinLaw", "mk", "(I)B"⟩ : MethodName)) hown (mvT hZ (hw _ (List.mem_of_getElem? (i := 1) rfl))) (mvT hZ (hw _ (List.mem_of_getElem? (i := 2) rfl))) (mvT hZ (hw _ (List.mem_of_getElem? (i := 3) rfl))) (mvT hZ (hw _ (List.mem_of_getElem? (i := 4) rfl))) (by decide) (backOf (W := 2) (rmK l Z a0 hw [] p0 h1 n0 (Nat.le_trans Z0 E1.1)) hZ (hw _ (List.mem_of_getElem? (i := 4) rfl)) (hw _ (List.mem_of_getElem? (i := 3) rfl)) (by decide) (by decide)) (g := (mkF m 9 #[.val (.int r1), .val (.int p0), .val (.int p1), .val (.int p2), .val (.int p3), .val (.int p4), .val (.ref ob1), .unset, .unset, .unset, .unset, .unset, .unset, .unset] [(.int p0), (.int (0 : Int32)), (.ref ob1)])) rfl (by rw [hml]; rfl) (argsL := [(.int p0)]) (rest := [(.int (0 : Int32)), (.ref ob1)]) (lenOf own_pd1 rfl) rfl (by show 2 * 0 + _ ≤ _; exact Nat.le_of_eq rfl) (hb hby at_9) (fun _ _ => ⟨rfl, e1, (by decide : 1 + 0 ≤ _), (by decide : 5 + 0 ≤ _)⟩)
  dsimp only [Pt.U, Pt.locs, Pt.cells, Pt.slots] at X2 l2 y2 z2 st2 hQ2
  subst l2 y2 z2
  obtain ⟨zz2, rfl, N2q, e2⟩ := hQ2
  have N2 := Fr.app N0 N2q
  refine own_of st2 ?_
  show own_Run p e below s _ _ _ (T2.setTop (mkF m 12 #[.val (.int r1), .val (.int p0), .val (.int p1), .val (.int p2), .val (.int p3), .val (.int p4), .val (.ref ob1), .unset, .unset, .unset, .unset, .unset, .unset, .unset] [(.int zz2), (.int (0 : Int32)), (.ref ob1)]))
  obtain ⟨T3, h3, X3, e3, W3, V3, st3⟩ := own_bas X2 hx hZ e2 V1 (j := (0 : Int32)) (x := zz2) (by decide) (by decide) (pc := 12) (Ls := #[.val (.int r1), .val (.int p0), .val (.int p1), .val (.int p2), .val (.int p3), .val (.int p4), .val (.ref ob1), .unset, .unset, .unset, .unset, .unset, .unset, .unset]) (rest := []) (hb hby at_12)
  have N3 := Fr.snoc X3 N2 g_ob1
  replace V3 : own_Ar Z h3 ob1 .byte 5 (own_up (fun _ => 0) 0 zz2.toInt8.toInt32) := V3
  refine own_of st3 ?_
  show own_Run p e below s _ _ _ (T3.setTop (mkF m 13 #[.val (.int r1), .val (.int p0), .val (.int p1), .val (.int p2), .val (.int p3), .val (.int p4), .val (.ref ob1), .unset, .unset, .unset, .unset, .unset, .unset, .unset] []))
  refine own_of (fun _ hh_ => XS.aload X3.here hx rfl (hb hby at_13) rfl rfl hh_) ?_
  show own_Run p e below s _ _ _ (T3.setTop (mkF m 15 #[.val (.int r1), .val (.int p0), .val (.int p1), .val (.int p2), .val (.int p3), .val (.int p4), .val (.ref ob1), .unset, .unset, .unset, .unset, .unset, .unset, .unset] [(.ref ob1)]))
  refine own_of (fun _ hh_ => XS.iconst X3.here hx rfl (hb hby at_15) hh_) ?_
  show own_Run p e below s _ _ _ (T3.setTop (mkF m 16 #[.val (.int r1), .val (.int p0), .val (.int p1), .val (.int p2), .val (.int p3), .val (.int p4), .val (.ref ob1), .unset, .unset, .unset, .unset, .unset, .unset, .unset] [(.int (1 : Int32)), (.ref ob1)]))
  refine own_of (fun _ hh_ => XS.iloadN X3.here hx rfl (hb hby at_16) rfl hh_) ?_
  show own_Run p e below s _ _ _ (T3.setTop (mkF m 17 #[.val (.int r1), .val (.int p0), .val (.int p1), .val (.int p2), .val (.int p3), .val (.int p4), .val (.ref ob1), .unset, .unset, .unset, .unset, .unset, .unset, .unset] [(.int p1), (.int (1 : Int32)), (.ref ob1)]))
  obtain ⟨_, _, ⟨T4, L4, k4, n4⟩, -, X4, ⟨Lc4, hQ4, l4, y4, z4⟩, st4⟩ := Jvm.LawKit.callS X3 hx (y := (⟨"com/example/lanchid/lanchid/records/WholeNumberFirstDigitPinLaw", "mk", "(I)B"⟩ : MethodName)) hown (mvT hZ (hw _ (List.mem_of_getElem? (i := 1) rfl))) (mvT hZ (hw _ (List.mem_of_getElem? (i := 2) rfl))) (mvT hZ (hw _ (List.mem_of_getElem? (i := 3) rfl))) (mvT hZ (hw _ (List.mem_of_getElem? (i := 4) rfl))) (by decide) (backOf (W := 2) (rmK l Z a0 hw [] p1 h3 n0 (Nat.le_trans (Nat.le_trans Z0 E1.1) (Nat.le_of_eq W3.size.symm))) hZ (hw _ (List.mem_of_getElem? (i := 4) rfl)) (hw _ (List.mem_of_getElem? (i := 3) rfl)) (by decide) (by decide)) (g := (mkF m 17 #[.val (.int r1), .val (.int p0), .val (.int p1), .val (.int p2), .val (.int p3), .val (.int p4), .val (.ref ob1), .unset, .unset, .unset, .unset, .unset, .unset, .unset] [(.int p1), (.int (1 : Int32)), (.ref ob1)])) rfl (by rw [hml]; rfl) (argsL := [(.int p1)]) (rest := [(.int (1 : Int32)), (.ref ob1)]) (lenOf own_pd1 rfl) rfl (by show 2 * 0 + _ ≤ _; exact Nat.le_of_eq rfl) (hb hby at_17) (fun _ _ => ⟨rfl, e3, (by decide : 1 + 0 ≤ _), (by decide : 5 + 0 ≤ _)⟩)
  dsimp only [Pt.U, Pt.locs, Pt.cells, Pt.slots] at X4 l4 y4 z4 st4 hQ4
  subst l4 y4 z4
  obtain ⟨zz4, rfl, N4q, e4⟩ := hQ4
  have N4 := Fr.app N3 N4q
  refine own_of st4 ?_
  show own_Run p e below s _ _ _ (T4.setTop (mkF m 20 #[.val (.int r1), .val (.int p0), .val (.int p1), .val (.int p2), .val (.int p3), .val (.int p4), .val (.ref ob1), .unset, .unset, .unset, .unset, .unset, .unset, .unset] [(.int zz4), (.int (1 : Int32)), (.ref ob1)]))
  obtain ⟨T5, h5, X5, e5, W5, V5, st5⟩ := own_bas X4 hx hZ e4 V3 (j := (1 : Int32)) (x := zz4) (by decide) (by decide) (pc := 20) (Ls := #[.val (.int r1), .val (.int p0), .val (.int p1), .val (.int p2), .val (.int p3), .val (.int p4), .val (.ref ob1), .unset, .unset, .unset, .unset, .unset, .unset, .unset]) (rest := []) (hb hby at_20)
  have N5 := Fr.snoc X5 N4 g_ob1
  replace V5 : own_Ar Z h5 ob1 .byte 5 (own_up (own_up (fun _ => 0) 0 zz2.toInt8.toInt32) 1 zz4.toInt8.toInt32) := V5
  refine own_of st5 ?_
  show own_Run p e below s _ _ _ (T5.setTop (mkF m 21 #[.val (.int r1), .val (.int p0), .val (.int p1), .val (.int p2), .val (.int p3), .val (.int p4), .val (.ref ob1), .unset, .unset, .unset, .unset, .unset, .unset, .unset] []))
  refine own_of (fun _ hh_ => XS.aload X5.here hx rfl (hb hby at_21) rfl rfl hh_) ?_
  show own_Run p e below s _ _ _ (T5.setTop (mkF m 23 #[.val (.int r1), .val (.int p0), .val (.int p1), .val (.int p2), .val (.int p3), .val (.int p4), .val (.ref ob1), .unset, .unset, .unset, .unset, .unset, .unset, .unset] [(.ref ob1)]))
  refine own_of (fun _ hh_ => XS.iconst X5.here hx rfl (hb hby at_23) hh_) ?_
  show own_Run p e below s _ _ _ (T5.setTop (mkF m 24 #[.val (.int r1), .val (.int p0), .val (.int p1), .val (.int p2), .val (.int p3), .val (.int p4), .val (.ref ob1), .unset, .unset, .unset, .unset, .unset, .unset, .unset] [(.int (2 : Int32)), (.ref ob1)]))
  refine own_of (fun _ hh_ => XS.iloadN X5.here hx rfl (hb hby at_24) rfl hh_) ?_
  show own_Run p e below s _ _ _ (T5.setTop (mkF m 25 #[.val (.int r1), .val (.int p0), .val (.int p1), .val (.int p2), .val (.int p3), .val (.int p4), .val (.ref ob1), .unset, .unset, .unset, .unset, .unset, .unset, .unset] [(.int p2), (.int (2 : Int32)), (.ref ob1)]))
  obtain ⟨_, _, ⟨T6, L6, k6, n6⟩, -, X6, ⟨Lc6, hQ6, l6, y6, z6⟩, st6⟩ := Jvm.LawKit.callS X5 hx (y := (⟨"com/example/lanchid/lanchid/records/WholeNumberFirstDigitPinLaw", "mk", "(I)B"⟩ : MethodName)) hown (mvT hZ (hw _ (List.mem_of_getElem? (i := 1) rfl))) (mvT hZ (hw _ (List.mem_of_getElem? (i := 2) rfl))) (mvT hZ (hw _ (List.mem_of_getElem? (i := 3) rfl))) (mvT hZ (hw _ (List.mem_of_getElem? (i := 4) rfl))) (by decide) (backOf (W := 2) (rmK l Z a0 hw [] p2 h5 n0 (Nat.le_trans (Nat.le_trans (Nat.le_trans Z0 E1.1) (Nat.le_of_eq W3.size.symm)) (Nat.le_of_eq W5.size.symm))) hZ (hw _ (List.mem_of_getElem? (i := 4) rfl)) (hw _ (List.mem_of_getElem? (i := 3) rfl)) (by decide) (by decide)) (g := (mkF m 25 #[.val (.int r1), .val (.int p0), .val (.int p1), .val (.int p2), .val (.int p3), .val (.int p4), .val (.ref ob1), .unset, .unset, .unset, .unset, .unset, .unset, .unset] [(.int p2), (.int (2 : Int32)), (.ref ob1)])) rfl (by rw [hml]; rfl) (argsL := [(.int p2)]) (rest := [(.int (2 : Int32)), (.ref ob1)]) (lenOf own_pd1 rfl) rfl (by show 2 * 0 + _ ≤ _; exact Nat.le_of_eq rfl) (hb hby at_25) (fun _ _ => ⟨rfl, e5, (by decide : 1 + 0 ≤ _), (by decide : 5 + 0 ≤ _)⟩)
  dsimp only [Pt.U, Pt.locs, Pt.cells, Pt.slots] at X6 l6 y6 z6 st6 hQ6
  subst l6 y6 z6
  obtain ⟨zz6, rfl, N6q, e6⟩ := hQ6
  have N6 := Fr.app N5 N6q
  refine own_of st6 ?_
  show own_Run p e below s _ _ _ (T6.setTop (mkF m 28 #[.val (.int r1), .val (.int p0), .val (.int p1), .val (.int p2), .val (.int p3), .val (.int p4), .val (.ref ob1), .unset, .unset, .unset, .unset, .unset, .unset, .unset] [(.int zz6), (.int (2 : Int32)), (.ref ob1)]))
  obtain ⟨T7, h7, X7, e7, W7, V7, st7⟩ := own_bas X6 hx hZ e6 V5 (j := (2 : Int32)) (x := zz6) (by decide) (by decide) (pc := 28) (Ls := #[.val (.int r1), .val (.int p0), .val (.int p1), .val (.int p2), .val (.int p3), .val (.int p4), .val (.ref ob1), .unset, .unset, .unset, .unset, .unset, .unset, .unset]) (rest := []) (hb hby at_28)
  have N7 := Fr.snoc X7 N6 g_ob1
  replace V7 : own_Ar Z h7 ob1 .byte 5 (own_up (own_up (own_up (fun _ => 0) 0 zz2.toInt8.toInt32) 1 zz4.toInt8.toInt32) 2 zz6.toInt8.toInt32) := V7
  refine own_of st7 ?_
  show own_Run p e below s _ _ _ (T7.setTop (mkF m 29 #[.val (.int r1), .val (.int p0), .val (.int p1), .val (.int p2), .val (.int p3), .val (.int p4), .val (.ref ob1), .unset, .unset, .unset, .unset, .unset, .unset, .unset] []))
  refine own_of (fun _ hh_ => XS.aload X7.here hx rfl (hb hby at_29) rfl rfl hh_) ?_
  show own_Run p e below s _ _ _ (T7.setTop (mkF m 31 #[.val (.int r1), .val (.int p0), .val (.int p1), .val (.int p2), .val (.int p3), .val (.int p4), .val (.ref ob1), .unset, .unset, .unset, .unset, .unset, .unset, .unset] [(.ref ob1)]))
  refine own_of (fun _ hh_ => XS.iconst X7.here hx rfl (hb hby at_31) hh_) ?_
  show own_Run p e below s _ _ _ (T7.setTop (mkF m 32 #[.val (.int r1), .val (.int p0), .val (.int p1), .val (.int p2), .val (.int p3), .val (.int p4), .val (.ref ob1), .unset, .unset, .unset, .unset, .unset, .unset, .unset] [(.int (3 : Int32)), (.ref ob1)]))
  refine own_of (fun _ hh_ => XS.iload X7.here hx rfl (hb hby at_32) rfl hh_) ?_
  show own_Run p e below s _ _ _ (T7.setTop (mkF m 34 #[.val (.int r1), .val (.int p0), .val (.int p1), .val (.int p2), .val (.int p3), .val (.int p4), .val (.ref ob1), .unset, .unset, .unset, .unset, .unset, .unset, .unset] [(.int p3), (.int (3 : Int32)), (.ref ob1)]))
  obtain ⟨_, _, ⟨T8, L8, k8, n8⟩, -, X8, ⟨Lc8, hQ8, l8, y8, z8⟩, st8⟩ := Jvm.LawKit.callS X7 hx (y := (⟨"com/example/lanchid/lanchid/records/WholeNumberFirstDigitPinLaw", "mk", "(I)B"⟩ : MethodName)) hown (mvT hZ (hw _ (List.mem_of_getElem? (i := 1) rfl))) (mvT hZ (hw _ (List.mem_of_getElem? (i := 2) rfl))) (mvT hZ (hw _ (List.mem_of_getElem? (i := 3) rfl))) (mvT hZ (hw _ (List.mem_of_getElem? (i := 4) rfl))) (by decide) (backOf (W := 2) (rmK l Z a0 hw [] p3 h7 n0 (Nat.le_trans (Nat.le_trans (Nat.le_trans (Nat.le_trans Z0 E1.1) (Nat.le_of_eq W3.size.symm)) (Nat.le_of_eq W5.size.symm)) (Nat.le_of_eq W7.size.symm))) hZ (hw _ (List.mem_of_getElem? (i := 4) rfl)) (hw _ (List.mem_of_getElem? (i := 3) rfl)) (by decide) (by decide)) (g := (mkF m 34 #[.val (.int r1), .val (.int p0), .val (.int p1), .val (.int p2), .val (.int p3), .val (.int p4), .val (.ref ob1), .unset, .unset, .unset, .unset, .unset, .unset, .unset] [(.int p3), (.int (3 : Int32)), (.ref ob1)])) rfl (by rw [hml]; rfl) (argsL := [(.int p3)]) (rest := [(.int (3 : Int32)), (.ref ob1)]) (lenOf own_pd1 rfl) rfl (by show 2 * 0 + _ ≤ _; exact Nat.le_of_eq rfl) (hb hby at_34) (fun _ _ => ⟨rfl, e7, (by decide : 1 + 0 ≤ _), (by decide : 5 + 0 ≤ _)⟩)
  dsimp only [Pt.U, Pt.locs, Pt.cells, Pt.slots] at X8 l8 y8 z8 st8 hQ8
  subst l8 y8 z8
  obtain ⟨zz8, rfl, N8q, e8⟩ := hQ8
  have N8 := Fr.app N7 N8q
  refine own_of st8 ?_
  show own_Run p e below s _ _ _ (T8.setTop (mkF m 37 #[.val (.int r1), .val (.int p0), .val (.int p1), .val (.int p2), .val (.int p3), .val (.int p4), .val (.ref ob1), .unset, .unset, .unset, .unset, .unset, .unset, .unset] [(.int zz8), (.int (3 : Int32)), (.ref ob1)]))
  obtain ⟨T9, h9, X9, e9, W9, V9, st9⟩ := own_bas X8 hx hZ e8 V7 (j := (3 : Int32)) (x := zz8) (by decide) (by decide) (pc := 37) (Ls := #[.val (.int r1), .val (.int p0), .val (.int p1), .val (.int p2), .val (.int p3), .val (.int p4), .val (.ref ob1), .unset, .unset, .unset, .unset, .unset, .unset, .unset]) (rest := []) (hb hby at_37)
  have N9 := Fr.snoc X9 N8 g_ob1
  replace V9 : own_Ar Z h9 ob1 .byte 5 (own_up (own_up (own_up (own_up (fun _ => 0) 0 zz2.toInt8.toInt32) 1 zz4.toInt8.toInt32) 2 zz6.toInt8.toInt32) 3 zz8.toInt8.toInt32) := V9
  refine own_of st9 ?_
  show own_Run p e below s _ _ _ (T9.setTop (mkF m 38 #[.val (.int r1), .val (.int p0), .val (.int p1), .val (.int p2), .val (.int p3), .val (.int p4), .val (.ref ob1), .unset, .unset, .unset, .unset, .unset, .unset, .unset] []))
  refine own_of (fun _ hh_ => XS.aload X9.here hx rfl (hb hby at_38) rfl rfl hh_) ?_
  show own_Run p e below s _ _ _ (T9.setTop (mkF m 40 #[.val (.int r1), .val (.int p0), .val (.int p1), .val (.int p2), .val (.int p3), .val (.int p4), .val (.ref ob1), .unset, .unset, .unset, .unset, .unset, .unset, .unset] [(.ref ob1)]))
  refine own_of (fun _ hh_ => XS.iconst X9.here hx rfl (hb hby at_40) hh_) ?_
  show own_Run p e below s _ _ _ (T9.setTop (mkF m 41 #[.val (.int r1), .val (.int p0), .val (.int p1), .val (.int p2), .val (.int p3), .val (.int p4), .val (.ref ob1), .unset, .unset, .unset, .unset, .unset, .unset, .unset] [(.int (4 : Int32)), (.ref ob1)]))
  refine own_of (fun _ hh_ => XS.iload X9.here hx rfl (hb hby at_41) rfl hh_) ?_
  show own_Run p e below s _ _ _ (T9.setTop (mkF m 43 #[.val (.int r1), .val (.int p0), .val (.int p1), .val (.int p2), .val (.int p3), .val (.int p4), .val (.ref ob1), .unset, .unset, .unset, .unset, .unset, .unset, .unset] [(.int p4), (.int (4 : Int32)), (.ref ob1)]))
  obtain ⟨_, _, ⟨T10, L10, k10, n10⟩, -, X10, ⟨Lc10, hQ10, l10, y10, z10⟩, st10⟩ := Jvm.LawKit.callS X9 hx (y := (⟨"com/example/lanchid/lanchid/records/WholeNumberFirstDigitPinLaw", "mk", "(I)B"⟩ : MethodName)) hown (mvT hZ (hw _ (List.mem_of_getElem? (i := 1) rfl))) (mvT hZ (hw _ (List.mem_of_getElem? (i := 2) rfl))) (mvT hZ (hw _ (List.mem_of_getElem? (i := 3) rfl))) (mvT hZ (hw _ (List.mem_of_getElem? (i := 4) rfl))) (by decide) (backOf (W := 2) (rmK l Z a0 hw [] p4 h9 n0 (Nat.le_trans (Nat.le_trans (Nat.le_trans (Nat.le_trans (Nat.le_trans Z0 E1.1) (Nat.le_of_eq W3.size.symm)) (Nat.le_of_eq W5.size.symm)) (Nat.le_of_eq W7.size.symm)) (Nat.le_of_eq W9.size.symm))) hZ (hw _ (List.mem_of_getElem? (i := 4) rfl)) (hw _ (List.mem_of_getElem? (i := 3) rfl)) (by decide) (by decide)) (g := (mkF m 43 #[.val (.int r1), .val (.int p0), .val (.int p1), .val (.int p2), .val (.int p3), .val (.int p4), .val (.ref ob1), .unset, .unset, .unset, .unset, .unset, .unset, .unset] [(.int p4), (.int (4 : Int32)), (.ref ob1)])) rfl (by rw [hml]; rfl) (argsL := [(.int p4)]) (rest := [(.int (4 : Int32)), (.ref ob1)]) (lenOf own_pd1 rfl) rfl (by show 2 * 0 + _ ≤ _; exact Nat.le_of_eq rfl) (hb hby at_43) (fun _ _ => ⟨rfl, e9, (by decide : 1 + 0 ≤ _), (by decide : 5 + 0 ≤ _)⟩)
  dsimp only [Pt.U, Pt.locs, Pt.cells, Pt.slots] at X10 l10 y10 z10 st10 hQ10
  subst l10 y10 z10
  obtain ⟨zz10, rfl, N10q, e10⟩ := hQ10
  have N10 := Fr.app N9 N10q
  refine own_of st10 ?_
  show own_Run p e below s _ _ _ (T10.setTop (mkF m 46 #[.val (.int r1), .val (.int p0), .val (.int p1), .val (.int p2), .val (.int p3), .val (.int p4), .val (.ref ob1), .unset, .unset, .unset, .unset, .unset, .unset, .unset] [(.int zz10), (.int (4 : Int32)), (.ref ob1)]))
  obtain ⟨T11, h11, X11, e11, W11, V11, st11⟩ := own_bas X10 hx hZ e10 V9 (j := (4 : Int32)) (x := zz10) (by decide) (by decide) (pc := 46) (Ls := #[.val (.int r1), .val (.int p0), .val (.int p1), .val (.int p2), .val (.int p3), .val (.int p4), .val (.ref ob1), .unset, .unset, .unset, .unset, .unset, .unset, .unset]) (rest := []) (hb hby at_46)
  have N11 := Fr.snoc X11 N10 g_ob1
  replace V11 : own_Ar Z h11 ob1 .byte 5 (own_up (own_up (own_up (own_up (own_up (fun _ => 0) 0 zz2.toInt8.toInt32) 1 zz4.toInt8.toInt32) 2 zz6.toInt8.toInt32) 3 zz8.toInt8.toInt32) 4 zz10.toInt8.toInt32) := V11
  refine own_of st11 ?_
  show own_Run p e below s _ _ _ (T11.setTop (mkF m 47 #[.val (.int r1), .val (.int p0), .val (.int p1), .val (.int p2), .val (.int p3), .val (.int p4), .val (.ref ob1), .unset, .unset, .unset, .unset, .unset, .unset, .unset] []))
  obtain ⟨gg, hgg⟩ : ∃ z, z = (own_up (own_up (own_up (own_up (own_up (fun _ => 0) 0 zz2.toInt8.toInt32) 1 zz4.toInt8.toInt32) 2 zz6.toInt8.toInt32) 3 zz8.toInt8.toInt32) 4 zz10.toInt8.toInt32) := ⟨_, rfl⟩
  have Vg : own_Ar Z h11 ob1 .byte 5 gg := by rw [hgg]; exact V11
  refine own_of (fun _ hh_ => XS.iloadN X11.here hx rfl (hb hby at_47) rfl hh_) ?_
  show own_Run p e below s _ _ _ (T11.setTop (mkF m 48 #[.val (.int r1), .val (.int p0), .val (.int p1), .val (.int p2), .val (.int p3), .val (.int p4), .val (.ref ob1), .unset, .unset, .unset, .unset, .unset, .unset, .unset] [(.int r1)]))
  refine own_of (fun _ hh_ => XS.bipush X11.here hx rfl (hb hby at_48) hh_) ?_
  show own_Run p e below s _ _ _ (T11.setTop (mkF m 50 #[.val (.int r1), .val (.int p0), .val (.int p1), .val (.int p2), .val (.int p3), .val (.int p4), .val (.ref ob1), .unset, .unset, .unset, .unset, .unset, .unset, .unset] [(.int (7 : Int32)), (.int r1)]))
  refine own_of (fun _ hh_ => XS.iand X11.here hx rfl (hb hby at_50) rfl hh_) ?_
  show own_Run p e below s _ _ _ (T11.setTop (mkF m 51 #[.val (.int r1), .val (.int p0), .val (.int p1), .val (.int p2), .val (.int p3), .val (.int p4), .val (.ref ob1), .unset, .unset, .unset, .unset, .unset, .unset, .unset] [(.int (r1 &&& (7 : Int32)))]))
  refine own_of (fun _ hh_ => XS.bipush X11.here hx rfl (hb hby at_51) hh_) ?_
  show own_Run p e below s _ _ _ (T11.setTop (mkF m 53 #[.val (.int r1), .val (.int p0), .val (.int p1), .val (.int p2), .val (.int p3), .val (.int p4), .val (.ref ob1), .unset, .unset, .unset, .unset, .unset, .unset, .unset] [(.int (6 : Int32)), (.int (r1 &&& (7 : Int32)))]))
  refine own_of (fun _ hh_ => Jvm.RoadKit.iremM (g := (mkF m 53 #[.val (.int r1), .val (.int p0), .val (.int p1), .val (.int p2), .val (.int p3), .val (.int p4), .val (.ref ob1), .unset, .unset, .unset, .unset, .unset, .unset, .unset] [(.int (6 : Int32)), (.int (r1 &&& (7 : Int32)))])) X11 hx rfl (hb hby at_53) rfl (by decide) hh_) ?_
  show own_Run p e below s _ _ _ (T11.setTop (mkF m 54 #[.val (.int r1), .val (.int p0), .val (.int p1), .val (.int p2), .val (.int p3), .val (.int p4), .val (.ref ob1), .unset, .unset, .unset, .unset, .unset, .unset, .unset] [(.int ((r1 &&& (7 : Int32)) % (6 : Int32)))]))
  refine own_of (fun _ hh_ => XS.istore X11.here hx rfl (hb hby at_54) rfl (l' := #[.val (.int r1), .val (.int p0), .val (.int p1), .val (.int p2), .val (.int p3), .val (.int p4), .val (.ref ob1), .val (.int ((r1 &&& (7 : Int32)) % (6 : Int32))), .unset, .unset, .unset, .unset, .unset, .unset]) rfl hh_) ?_
  show own_Run p e below s _ _ _ (T11.setTop (mkF m 56 #[.val (.int r1), .val (.int p0), .val (.int p1), .val (.int p2), .val (.int p3), .val (.int p4), .val (.ref ob1), .val (.int ((r1 &&& (7 : Int32)) % (6 : Int32))), .unset, .unset, .unset, .unset, .unset, .unset] []))
  refine own_of (fun _ hh_ => XS.iloadN X11.here hx rfl (hb hby at_56) rfl hh_) ?_
  show own_Run p e below s _ _ _ (T11.setTop (mkF m 57 #[.val (.int r1), .val (.int p0), .val (.int p1), .val (.int p2), .val (.int p3), .val (.int p4), .val (.ref ob1), .val (.int ((r1 &&& (7 : Int32)) % (6 : Int32))), .unset, .unset, .unset, .unset, .unset, .unset] [(.int r1)]))
  refine own_of (fun _ hh_ => XS.iconst X11.here hx rfl (hb hby at_57) hh_) ?_
  show own_Run p e below s _ _ _ (T11.setTop (mkF m 58 #[.val (.int r1), .val (.int p0), .val (.int p1), .val (.int p2), .val (.int p3), .val (.int p4), .val (.ref ob1), .val (.int ((r1 &&& (7 : Int32)) % (6 : Int32))), .unset, .unset, .unset, .unset, .unset, .unset] [(.int (3 : Int32)), (.int r1)]))
  refine own_of (fun _ hh_ => XS.iushr X11.here hx rfl (hb hby at_58) rfl hh_) ?_
  show own_Run p e below s _ _ _ (T11.setTop (mkF m 59 #[.val (.int r1), .val (.int p0), .val (.int p1), .val (.int p2), .val (.int p3), .val (.int p4), .val (.ref ob1), .val (.int ((r1 &&& (7 : Int32)) % (6 : Int32))), .unset, .unset, .unset, .unset, .unset, .unset] [(.int ((r1.toUInt32 >>> ((3 : Int32) &&& 31).toUInt32).toInt32))]))
  refine own_of (fun _ hh_ => XS.bipush X11.here hx rfl (hb hby at_59) hh_) ?_
  show own_Run p e below s _ _ _ (T11.setTop (mkF m 61 #[.val (.int r1), .val (.int p0), .val (.int p1), .val (.int p2), .val (.int p3), .val (.int p4), .val (.ref ob1), .val (.int ((r1 &&& (7 : Int32)) % (6 : Int32))), .unset, .unset, .unset, .unset, .unset, .unset] [(.int (7 : Int32)), (.int ((r1.toUInt32 >>> ((3 : Int32) &&& 31).toUInt32).toInt32))]))
  refine own_of (fun _ hh_ => XS.iand X11.here hx rfl (hb hby at_61) rfl hh_) ?_
  show own_Run p e below s _ _ _ (T11.setTop (mkF m 62 #[.val (.int r1), .val (.int p0), .val (.int p1), .val (.int p2), .val (.int p3), .val (.int p4), .val (.ref ob1), .val (.int ((r1 &&& (7 : Int32)) % (6 : Int32))), .unset, .unset, .unset, .unset, .unset, .unset] [(.int (((r1.toUInt32 >>> ((3 : Int32) &&& 31).toUInt32).toInt32) &&& (7 : Int32)))]))
  refine own_of (fun _ hh_ => XS.bipush X11.here hx rfl (hb hby at_62) hh_) ?_
  show own_Run p e below s _ _ _ (T11.setTop (mkF m 64 #[.val (.int r1), .val (.int p0), .val (.int p1), .val (.int p2), .val (.int p3), .val (.int p4), .val (.ref ob1), .val (.int ((r1 &&& (7 : Int32)) % (6 : Int32))), .unset, .unset, .unset, .unset, .unset, .unset] [(.int (6 : Int32)), (.int (((r1.toUInt32 >>> ((3 : Int32) &&& 31).toUInt32).toInt32) &&& (7 : Int32)))]))
  refine own_of (fun _ hh_ => Jvm.RoadKit.iremM (g := (mkF m 64 #[.val (.int r1), .val (.int p0), .val (.int p1), .val (.int p2), .val (.int p3), .val (.int p4), .val (.ref ob1), .val (.int ((r1 &&& (7 : Int32)) % (6 : Int32))), .unset, .unset, .unset, .unset, .unset, .unset] [(.int (6 : Int32)), (.int (((r1.toUInt32 >>> ((3 : Int32) &&& 31).toUInt32).toInt32) &&& (7 : Int32)))])) X11 hx rfl (hb hby at_64) rfl (by decide) hh_) ?_
  show own_Run p e below s _ _ _ (T11.setTop (mkF m 65 #[.val (.int r1), .val (.int p0), .val (.int p1), .val (.int p2), .val (.int p3), .val (.int p4), .val (.ref ob1), .val (.int ((r1 &&& (7 : Int32)) % (6 : Int32))), .unset, .unset, .unset, .unset, .unset, .unset] [(.int ((((r1.toUInt32 >>> ((3 : Int32) &&& 31).toUInt32).toInt32) &&& (7 : Int32)) % (6 : Int32)))]))
  refine own_of (fun _ hh_ => XS.istore X11.here hx rfl (hb hby at_65) rfl (l' := #[.val (.int r1), .val (.int p0), .val (.int p1), .val (.int p2), .val (.int p3), .val (.int p4), .val (.ref ob1), .val (.int ((r1 &&& (7 : Int32)) % (6 : Int32))), .val (.int ((((r1.toUInt32 >>> ((3 : Int32) &&& 31).toUInt32).toInt32) &&& (7 : Int32)) % (6 : Int32))), .unset, .unset, .unset, .unset, .unset]) rfl hh_) ?_
  show own_Run p e below s _ _ _ (T11.setTop (mkF m 67 #[.val (.int r1), .val (.int p0), .val (.int p1), .val (.int p2), .val (.int p3), .val (.int p4), .val (.ref ob1), .val (.int ((r1 &&& (7 : Int32)) % (6 : Int32))), .val (.int ((((r1.toUInt32 >>> ((3 : Int32) &&& 31).toUInt32).toInt32) &&& (7 : Int32)) % (6 : Int32))), .unset, .unset, .unset, .unset, .unset] []))
  refine own_of (fun _ hh_ => XS.iload X11.here hx rfl (hb hby at_67) rfl hh_) ?_
  show own_Run p e below s _ _ _ (T11.setTop (mkF m 69 #[.val (.int r1), .val (.int p0), .val (.int p1), .val (.int p2), .val (.int p3), .val (.int p4), .val (.ref ob1), .val (.int ((r1 &&& (7 : Int32)) % (6 : Int32))), .val (.int ((((r1.toUInt32 >>> ((3 : Int32) &&& 31).toUInt32).toInt32) &&& (7 : Int32)) % (6 : Int32))), .unset, .unset, .unset, .unset, .unset] [(.int ((r1 &&& (7 : Int32)) % (6 : Int32)))]))
  refine own_of (fun _ hh_ => XS.iload X11.here hx rfl (hb hby at_69) rfl hh_) ?_
  show own_Run p e below s _ _ _ (T11.setTop (mkF m 71 #[.val (.int r1), .val (.int p0), .val (.int p1), .val (.int p2), .val (.int p3), .val (.int p4), .val (.ref ob1), .val (.int ((r1 &&& (7 : Int32)) % (6 : Int32))), .val (.int ((((r1.toUInt32 >>> ((3 : Int32) &&& 31).toUInt32).toInt32) &&& (7 : Int32)) % (6 : Int32))), .unset, .unset, .unset, .unset, .unset] [(.int ((((r1.toUInt32 >>> ((3 : Int32) &&& 31).toUInt32).toInt32) &&& (7 : Int32)) % (6 : Int32))), (.int ((r1 &&& (7 : Int32)) % (6 : Int32)))]))
  obtain ⟨_, _, ⟨T12, L12, k12, n12⟩, -, X12, ⟨Lc12, hQ12, l12, y12, z12⟩, st12⟩ := Jvm.LawKit.callS X11 hx (y := (⟨"java/lang/Math", "min", "(II)I"⟩ : MethodName)) hown (mvT hZ (hw _ (List.mem_of_getElem? (i := 5) rfl))) (mvT hZ (hw _ (List.mem_of_getElem? (i := 6) rfl))) (mvT hZ (hw _ (List.mem_of_getElem? (i := 7) rfl))) (mvT hZ (hw _ (List.mem_of_getElem? (i := 8) rfl))) (by decide) (backOf (W := 0) (rmm l Z a0 hw [] ((r1 &&& (7 : Int32)) % (6 : Int32)) ((((r1.toUInt32 >>> ((3 : Int32) &&& 31).toUInt32).toInt32) &&& (7 : Int32)) % (6 : Int32)) h11 n0 (Nat.le_trans (Nat.le_trans (Nat.le_trans (Nat.le_trans (Nat.le_trans (Nat.le_trans Z0 E1.1) (Nat.le_of_eq W3.size.symm)) (Nat.le_of_eq W5.size.symm)) (Nat.le_of_eq W7.size.symm)) (Nat.le_of_eq W9.size.symm)) (Nat.le_of_eq W11.size.symm))) hZ (hw _ (List.mem_of_getElem? (i := 8) rfl)) (hw _ (List.mem_of_getElem? (i := 7) rfl)) (by decide) (by decide)) (g := (mkF m 71 #[.val (.int r1), .val (.int p0), .val (.int p1), .val (.int p2), .val (.int p3), .val (.int p4), .val (.ref ob1), .val (.int ((r1 &&& (7 : Int32)) % (6 : Int32))), .val (.int ((((r1.toUInt32 >>> ((3 : Int32) &&& 31).toUInt32).toInt32) &&& (7 : Int32)) % (6 : Int32))), .unset, .unset, .unset, .unset, .unset] [(.int ((((r1.toUInt32 >>> ((3 : Int32) &&& 31).toUInt32).toInt32) &&& (7 : Int32)) % (6 : Int32))), (.int ((r1 &&& (7 : Int32)) % (6 : Int32)))])) rfl (by rw [hml]; rfl) (argsL := [(.int ((r1 &&& (7 : Int32)) % (6 : Int32))), (.int ((((r1.toUInt32 >>> ((3 : Int32) &&& 31).toUInt32).toInt32) &&& (7 : Int32)) % (6 : Int32)))]) (rest := []) (lenOf own_pd2 rfl) rfl (by show 2 * 0 + _ ≤ _; exact Nat.le_of_eq rfl) (hb hby at_71) (fun _ _ => ⟨rfl, e11, (by decide : 1 + 0 ≤ _), (by decide : 5 + 0 ≤ _)⟩)
  dsimp only [Pt.U, Pt.locs, Pt.cells, Pt.slots] at X12 l12 y12 z12 st12 hQ12
  subst l12 y12 z12
  obtain ⟨rfl, N12q, e12⟩ := hQ12
  have N12 := Fr.app N11 N12q
  refine own_of st12 ?_
  show own_Run p e below s _ _ _ (T12.setTop (mkF m 74 #[.val (.int r1), .val (.int p0), .val (.int p1), .val (.int p2), .val (.int p3), .val (.int p4), .val (.ref ob1), .val (.int ((r1 &&& (7 : Int32)) % (6 : Int32))), .val (.int ((((r1.toUInt32 >>> ((3 : Int32) &&& 31).toUInt32).toInt32) &&& (7 : Int32)) % (6 : Int32))), .unset, .unset, .unset, .unset, .unset] [(.int (own_minI ((r1 &&& (7 : Int32)) % (6 : Int32)) ((((r1.toUInt32 >>> ((3 : Int32) &&& 31).toUInt32).toInt32) &&& (7 : Int32)) % (6 : Int32))))]))
  generalize hlo : (own_minI ((r1 &&& (7 : Int32)) % (6 : Int32)) ((((r1.toUInt32 >>> ((3 : Int32) &&& 31).toUInt32).toInt32) &&& (7 : Int32)) % (6 : Int32))) = lo
  show own_Run p e below s _ _ _ (T12.setTop (mkF m 74 #[.val (.int r1), .val (.int p0), .val (.int p1), .val (.int p2), .val (.int p3), .val (.int p4), .val (.ref ob1), .val (.int ((r1 &&& (7 : Int32)) % (6 : Int32))), .val (.int ((((r1.toUInt32 >>> ((3 : Int32) &&& 31).toUInt32).toInt32) &&& (7 : Int32)) % (6 : Int32))), .unset, .unset, .unset, .unset, .unset] [(.int lo)]))
  refine own_of (fun _ hh_ => XS.istore X12.here hx rfl (hb hby at_74) rfl (l' := #[.val (.int r1), .val (.int p0), .val (.int p1), .val (.int p2), .val (.int p3), .val (.int p4), .val (.ref ob1), .val (.int ((r1 &&& (7 : Int32)) % (6 : Int32))), .val (.int ((((r1.toUInt32 >>> ((3 : Int32) &&& 31).toUInt32).toInt32) &&& (7 : Int32)) % (6 : Int32))), .val (.int lo), .unset, .unset, .unset, .unset]) rfl hh_) ?_
  show own_Run p e below s _ _ _ (T12.setTop (mkF m 76 #[.val (.int r1), .val (.int p0), .val (.int p1), .val (.int p2), .val (.int p3), .val (.int p4), .val (.ref ob1), .val (.int ((r1 &&& (7 : Int32)) % (6 : Int32))), .val (.int ((((r1.toUInt32 >>> ((3 : Int32) &&& 31).toUInt32).toInt32) &&& (7 : Int32)) % (6 : Int32))), .val (.int lo), .unset, .unset, .unset, .unset] []))
  refine own_of (fun _ hh_ => XS.iload X12.here hx rfl (hb hby at_76) rfl hh_) ?_
  show own_Run p e below s _ _ _ (T12.setTop (mkF m 78 #[.val (.int r1), .val (.int p0), .val (.int p1), .val (.int p2), .val (.int p3), .val (.int p4), .val (.ref ob1), .val (.int ((r1 &&& (7 : Int32)) % (6 : Int32))), .val (.int ((((r1.toUInt32 >>> ((3 : Int32) &&& 31).toUInt32).toInt32) &&& (7 : Int32)) % (6 : Int32))), .val (.int lo), .unset, .unset, .unset, .unset] [(.int ((r1 &&& (7 : Int32)) % (6 : Int32)))]))
  refine own_of (fun _ hh_ => XS.iload X12.here hx rfl (hb hby at_78) rfl hh_) ?_
  show own_Run p e below s _ _ _ (T12.setTop (mkF m 80 #[.val (.int r1), .val (.int p0), .val (.int p1), .val (.int p2), .val (.int p3), .val (.int p4), .val (.ref ob1), .val (.int ((r1 &&& (7 : Int32)) % (6 : Int32))), .val (.int ((((r1.toUInt32 >>> ((3 : Int32) &&& 31).toUInt32).toInt32) &&& (7 : Int32)) % (6 : Int32))), .val (.int lo), .unset, .unset, .unset, .unset] [(.int ((((r1.toUInt32 >>> ((3 : Int32) &&& 31).toUInt32).toInt32) &&& (7 : Int32)) % (6 : Int32))), (.int ((r1 &&& (7 : Int32)) % (6 : Int32)))]))
  obtain ⟨_, _, ⟨T13, L13, k13, n13⟩, -, X13, ⟨Lc13, hQ13, l13, y13, z13⟩, st13⟩ := Jvm.LawKit.callS X12 hx (y := (⟨"java/lang/Math", "max", "(II)I"⟩ : MethodName)) hown (mvT hZ (hw _ (List.mem_of_getElem? (i := 9) rfl))) (mvT hZ (hw _ (List.mem_of_getElem? (i := 10) rfl))) (mvT hZ (hw _ (List.mem_of_getElem? (i := 7) rfl))) (mvT hZ (hw _ (List.mem_of_getElem? (i := 11) rfl))) (by decide) (backOf (W := 0) (rmM l Z a0 hw [] ((r1 &&& (7 : Int32)) % (6 : Int32)) ((((r1.toUInt32 >>> ((3 : Int32) &&& 31).toUInt32).toInt32) &&& (7 : Int32)) % (6 : Int32)) h11 n0 (Nat.le_trans (Nat.le_trans (Nat.le_trans (Nat.le_trans (Nat.le_trans (Nat.le_trans Z0 E1.1) (Nat.le_of_eq W3.size.symm)) (Nat.le_of_eq W5.size.symm)) (Nat.le_of_eq W7.size.symm)) (Nat.le_of_eq W9.size.symm)) (Nat.le_of_eq W11.size.symm))) hZ (hw _ (List.mem_of_getElem? (i := 11) rfl)) (hw _ (List.mem_of_getElem? (i := 7) rfl)) (by decide) (by decide)) (g := (mkF m 80 #[.val (.int r1), .val (.int p0), .val (.int p1), .val (.int p2), .val (.int p3), .val (.int p4), .val (.ref ob1), .val (.int ((r1 &&& (7 : Int32)) % (6 : Int32))), .val (.int ((((r1.toUInt32 >>> ((3 : Int32) &&& 31).toUInt32).toInt32) &&& (7 : Int32)) % (6 : Int32))), .val (.int lo), .unset, .unset, .unset, .unset] [(.int ((((r1.toUInt32 >>> ((3 : Int32) &&& 31).toUInt32).toInt32) &&& (7 : Int32)) % (6 : Int32))), (.int ((r1 &&& (7 : Int32)) % (6 : Int32)))])) rfl (by rw [hml]; rfl) (argsL := [(.int ((r1 &&& (7 : Int32)) % (6 : Int32))), (.int ((((r1.toUInt32 >>> ((3 : Int32) &&& 31).toUInt32).toInt32) &&& (7 : Int32)) % (6 : Int32)))]) (rest := []) (lenOf own_pd2 rfl) rfl (by show 2 * 0 + _ ≤ _; exact Nat.le_of_eq rfl) (hb hby at_80) (fun _ _ => ⟨rfl, e12, (by decide : 1 + 0 ≤ _), (by decide : 5 + 0 ≤ _)⟩)
  dsimp only [Pt.U, Pt.locs, Pt.cells, Pt.slots] at X13 l13 y13 z13 st13 hQ13
  subst l13 y13 z13
  obtain ⟨rfl, N13q, e13⟩ := hQ13
  have N13 := Fr.app N12 N13q
  refine own_of st13 ?_
  show own_Run p e below s _ _ _ (T13.setTop (mkF m 83 #[.val (.int r1), .val (.int p0), .val (.int p1), .val (.int p2), .val (.int p3), .val (.int p4), .val (.ref ob1), .val (.int ((r1 &&& (7 : Int32)) % (6 : Int32))), .val (.int ((((r1.toUInt32 >>> ((3 : Int32) &&& 31).toUInt32).toInt32) &&& (7 : Int32)) % (6 : Int32))), .val (.int lo), .unset, .unset, .unset, .unset] [(.int (own_maxI ((r1 &&& (7 : Int32)) % (6 : Int32)) ((((r1.toUInt32 >>> ((3 : Int32) &&& 31).toUInt32).toInt32) &&& (7 : Int32)) % (6 : Int32))))]))
  generalize hhi : (own_maxI ((r1 &&& (7 : Int32)) % (6 : Int32)) ((((r1.toUInt32 >>> ((3 : Int32) &&& 31).toUInt32).toInt32) &&& (7 : Int32)) % (6 : Int32))) = hi
  have rlh : 0 ≤ lo.toInt ∧ lo.toInt ≤ hi.toInt ∧ hi.toInt ≤ ((5 : Nat) : Int) := by
    have z3 := own_m6 r1; have z4 := own_m6 ((r1.toUInt32 >>> ((3 : Int32) &&& 31).toUInt32).toInt32)
    have z1 := own_minI_i ((r1 &&& (7 : Int32)) % (6 : Int32)) ((((r1.toUInt32 >>> ((3 : Int32) &&& 31).toUInt32).toInt32) &&& (7 : Int32)) % (6 : Int32)); have z2 := own_maxI_i ((r1 &&& (7 : Int32)) % (6 : Int32)) ((((r1.toUInt32 >>> ((3 : Int32) &&& 31).toUInt32).toInt32) &&& (7 : Int32)) % (6 : Int32))
    rw [hlo] at z1; rw [hhi] at z2; split at z1 <;> split at z2 <;> omega
  show own_Run p e below s _ _ _ (T13.setTop (mkF m 83 #[.val (.int r1), .val (.int p0), .val (.int p1), .val (.int p2), .val (.int p3), .val (.int p4), .val (.ref ob1), .val (.int ((r1 &&& (7 : Int32)) % (6 : Int32))), .val (.int ((((r1.toUInt32 >>> ((3 : Int32) &&& 31).toUInt32).toInt32) &&& (7 : Int32)) % (6 : Int32))), .val (.int lo), .unset, .unset, .unset, .unset] [(.int hi)]))
  refine own_of (fun _ hh_ => XS.istore X13.here hx rfl (hb hby at_83) rfl (l' := #[.val (.int r1), .val (.int p0), .val (.int p1), .val (.int p2), .val (.int p3), .val (.int p4), .val (.ref ob1), .val (.int ((r1 &&& (7 : Int32)) % (6 : Int32))), .val (.int ((((r1.toUInt32 >>> ((3 : Int32) &&& 31).toUInt32).toInt32) &&& (7 : Int32)) % (6 : Int32))), .val (.int lo), .val (.int hi), .unset, .unset, .unset]) rfl hh_) ?_
  show own_Run p e below s _ _ _ (T13.setTop (mkF m 85 #[.val (.int r1), .val (.int p0), .val (.int p1), .val (.int p2), .val (.int p3), .val (.int p4), .val (.ref ob1), .val (.int ((r1 &&& (7 : Int32)) % (6 : Int32))), .val (.int ((((r1.toUInt32 >>> ((3 : Int32) &&& 31).toUInt32).toInt32) &&& (7 : Int32)) % (6 : Int32))), .val (.int lo), .val (.int hi), .unset, .unset, .unset] []))
  have J269 : ∀ (Tc14 : State) (lc14 : List Loc), Stand p l e room_1 s m #[(.int r1), (.int p0), (.int p1), (.int p2), (.int p3), (.int p4)] below meth c Tc14 lc14 1 5 → Tc14.heap = h11 → Fr n0 lc14 → ∀ (xx : Int32) (s12 : Slot) (s13 : Slot), own_FD gg lo.toInt hi.toInt xx.toInt → own_Run p e below s 16 128 (Q0 Z r1 p0 p1 p2 p3 p4 h0 n0) (Tc14.setTop (mkF m 269 #[.val (.int r1), .val (.int p0), .val (.int p1), .val (.int p2), .val (.int p3), .val (.int p4), .val (.ref ob1), .val (.int ((r1 &&& (7 : Int32)) % (6 : Int32))), .val (.int ((((r1.toUInt32 >>> ((3 : Int32) &&& 31).toUInt32).toInt32) &&& (7 : Int32)) % (6 : Int32))), .val (.int lo), .val (.int hi), .val (.int xx), s12, s13] [])) := by
    intro Tc14 lc14 Xc14 ec14 Nc14 xx s12 s13 hxx
    show own_Run p e below s _ _ _ (Tc14.setTop (mkF m 269 #[.val (.int r1), .val (.int p0), .val (.int p1), .val (.int p2), .val (.int p3), .val (.int p4), .val (.ref ob1), .val (.int ((r1 &&& (7 : Int32)) % (6 : Int32))), .val (.int ((((r1.toUInt32 >>> ((3 : Int32) &&& 31).toUInt32).toInt32) &&& (7 : Int32)) % (6 : Int32))), .val (.int lo), .val (.int hi), .val (.int xx), s12, s13] []))
    refine own_of (fun _ hh_ => XS.aload Xc14.here hx rfl (hb hby at_269) rfl rfl hh_) ?_
    show own_Run p e below s _ _ _ (Tc14.setTop (mkF m 271 #[.val (.int r1), .val (.int p0), .val (.int p1), .val (.int p2), .val (.int p3), .val (.int p4), .val (.ref ob1), .val (.int ((r1 &&& (7 : Int32)) % (6 : Int32))), .val (.int ((((r1.toUInt32 >>> ((3 : Int32) &&& 31).toUInt32).toInt32) &&& (7 : Int32)) % (6 : Int32))), .val (.int lo), .val (.int hi), .val (.int xx), s12, s13] [(.ref ob1)]))
    refine own_of (fun _ hh_ => XS.iload Xc14.here hx rfl (hb hby at_271) rfl hh_) ?_
    show own_Run p e below s _ _ _ (Tc14.setTop (mkF m 273 #[.val (.int r1), .val (.int p0), .val (.int p1), .val (.int p2), .val (.int p3), .val (.int p4), .val (.ref ob1), .val (.int ((r1 &&& (7 : Int32)) % (6 : Int32))), .val (.int ((((r1.toUInt32 >>> ((3 : Int32) &&& 31).toUInt32).toInt32) &&& (7 : Int32)) % (6 : Int32))), .val (.int lo), .val (.int hi), .val (.int xx), s12, s13] [(.int lo), (.ref ob1)]))
    refine own_of (fun _ hh_ => XS.iload Xc14.here hx rfl (hb hby at_273) rfl hh_) ?_
    show own_Run p e below s _ _ _ (Tc14.setTop (mkF m 275 #[.val (.int r1), .val (.int p0), .val (.int p1), .val (.int p2), .val (.int p3), .val (.int p4), .val (.ref ob1), .val (.int ((r1 &&& (7 : Int32)) % (6 : Int32))), .val (.int ((((r1.toUInt32 >>> ((3 : Int32) &&& 31).toUInt32).toInt32) &&& (7 : Int32)) % (6 : Int32))), .val (.int lo), .val (.int hi), .val (.int xx), s12, s13] [(.int hi), (.int lo), (.ref ob1)]))
    obtain ⟨_, _, ⟨T15, L15, k15, n15⟩, -, X15, ⟨Lc15, hQ15, l15, y15, z15⟩, st15⟩ := Jvm.LawKit.callS Xc14 hx (y := (⟨"com/example/lanchid/lanchid/records/WholeNumber", "firstDigit", "([BII)I"⟩ : MethodName)) hown (mvT hZ (hw _ (List.mem_of_getElem? (i := 12) rfl))) (mvT hZ (hw _ (List.mem_of_getElem? (i := 13) rfl))) (mvT hZ (hw _ (List.mem_of_getElem? (i := 14) rfl))) (mvT hZ (hw _ (List.mem_of_getElem? (i := 15) rfl))) (by decide) (backOf (W := 0) (rmV l Z a0 hw [] ob1 lo hi 5 gg h11 n0 (Nat.le_trans (Nat.le_trans (Nat.le_trans (Nat.le_trans (Nat.le_trans (Nat.le_trans Z0 E1.1) (Nat.le_of_eq W3.size.symm)) (Nat.le_of_eq W5.size.symm)) (Nat.le_of_eq W7.size.symm)) (Nat.le_of_eq W9.size.symm)) (Nat.le_of_eq W11.size.symm)) Vg rlh.1 rlh.2.1 rlh.2.2) hZ (hw _ (List.mem_of_getElem? (i := 15) rfl)) (hw _ (List.mem_of_getElem? (i := 14) rfl)) (by decide) (by decide)) (g := (mkF m 275 #[.val (.int r1), .val (.int p0), .val (.int p1), .val (.int p2), .val (.int p3), .val (.int p4), .val (.ref ob1), .val (.int ((r1 &&& (7 : Int32)) % (6 : Int32))), .val (.int ((((r1.toUInt32 >>> ((3 : Int32) &&& 31).toUInt32).toInt32) &&& (7 : Int32)) % (6 : Int32))), .val (.int lo), .val (.int hi), .val (.int xx), s12, s13] [(.int hi), (.int lo), (.ref ob1)])) rfl (by rw [hml]; rfl) (argsL := [(.ref ob1), (.int lo), (.int hi)]) (rest := []) (lenOf own_pd3 rfl) rfl (by show 2 * 0 + _ ≤ _; exact Nat.le_of_eq rfl) (hb hby at_275) (fun _ _ => ⟨rfl, ec14, (by decide : 1 + 0 ≤ _), (by decide : 5 + 0 ≤ _)⟩)
    dsimp only [Pt.U, Pt.locs, Pt.cells, Pt.slots] at X15 l15 y15 z15 st15 hQ15
    subst l15 y15 z15
    obtain ⟨zz15, rfl, F15, N15q, e15⟩ := hQ15
    have N15 := Fr.app Nc14 N15q
    refine own_of st15 ?_
    show own_Run p e below s _ _ _ (T15.setTop (mkF m 278 #[.val (.int r1), .val (.int p0), .val (.int p1), .val (.int p2), .val (.int p3), .val (.int p4), .val (.ref ob1), .val (.int ((r1 &&& (7 : Int32)) % (6 : Int32))), .val (.int ((((r1.toUInt32 >>> ((3 : Int32) &&& 31).toUInt32).toInt32) &&& (7 : Int32)) % (6 : Int32))), .val (.int lo), .val (.int hi), .val (.int xx), s12, s13] [(.int zz15)]))
    refine own_of (fun _ hh_ => XS.iload X15.here hx rfl (hb hby at_278) rfl hh_) ?_
    show own_Run p e below s _ _ _ (T15.setTop (mkF m 280 #[.val (.int r1), .val (.int p0), .val (.int p1), .val (.int p2), .val (.int p3), .val (.int p4), .val (.ref ob1), .val (.int ((r1 &&& (7 : Int32)) % (6 : Int32))), .val (.int ((((r1.toUInt32 >>> ((3 : Int32) &&& 31).toUInt32).toInt32) &&& (7 : Int32)) % (6 : Int32))), .val (.int lo), .val (.int hi), .val (.int xx), s12, s13] [(.int xx), (.int zz15)]))
    have hc280_16 : zz15 = xx := Int32.toInt_inj.mp (own_uniq rlh.1 F15 hxx)
    refine own_of (fun _ hh_ => XS.icmpNo X15.here hx rfl (hb hby at_280) rfl (teq hc280_16).2 hh_) ?_
    show own_Run p e below s _ _ _ (T15.setTop (mkF m 283 #[.val (.int r1), .val (.int p0), .val (.int p1), .val (.int p2), .val (.int p3), .val (.int p4), .val (.ref ob1), .val (.int ((r1 &&& (7 : Int32)) % (6 : Int32))), .val (.int ((((r1.toUInt32 >>> ((3 : Int32) &&& 31).toUInt32).toInt32) &&& (7 : Int32)) % (6 : Int32))), .val (.int lo), .val (.int hi), .val (.int xx), s12, s13] []))
    refine own_of (fun _ hh_ => XS.iconst X15.here hx rfl (hb hby at_283) hh_) ?_
    show own_Run p e below s _ _ _ (T15.setTop (mkF m 284 #[.val (.int r1), .val (.int p0), .val (.int p1), .val (.int p2), .val (.int p3), .val (.int p4), .val (.ref ob1), .val (.int ((r1 &&& (7 : Int32)) % (6 : Int32))), .val (.int ((((r1.toUInt32 >>> ((3 : Int32) &&& 31).toUInt32).toInt32) &&& (7 : Int32)) % (6 : Int32))), .val (.int lo), .val (.int hi), .val (.int xx), s12, s13] [(.int (1 : Int32))]))
    refine own_of (fun _ hh_ => XS.goto X15.here hx rfl (pc0 := 284) (pc' := 288) rfl (hb hby at_284) (by decide) (by decide) hh_) ?_
    show own_Run p e below s _ _ _ (T15.setTop (mkF m 288 #[.val (.int r1), .val (.int p0), .val (.int p1), .val (.int p2), .val (.int p3), .val (.int p4), .val (.ref ob1), .val (.int ((r1 &&& (7 : Int32)) % (6 : Int32))), .val (.int ((((r1.toUInt32 >>> ((3 : Int32) &&& 31).toUInt32).toInt32) &&& (7 : Int32)) % (6 : Int32))), .val (.int lo), .val (.int hi), .val (.int xx), s12, s13] [(.int (1 : Int32))]))
    exact own_retN X15 hx (t := .boolean) hret hlk (by simp) (hb hby at_288) ⟨rfl, N15⟩ (by decide) (by decide)
  refine own_of (fun _ hh_ => XS.iload X13.here hx rfl (hb hby at_85) rfl hh_) ?_
  show own_Run p e below s _ _ _ (T13.setTop (mkF m 87 #[.val (.int r1), .val (.int p0), .val (.int p1), .val (.int p2), .val (.int p3), .val (.int p4), .val (.ref ob1), .val (.int ((r1 &&& (7 : Int32)) % (6 : Int32))), .val (.int ((((r1.toUInt32 >>> ((3 : Int32) &&& 31).toUInt32).toInt32) &&& (7 : Int32)) % (6 : Int32))), .val (.int lo), .val (.int hi), .unset, .unset, .unset] [(.int lo)]))
  refine own_of (fun _ hh_ => XS.iload X13.here hx rfl (hb hby at_87) rfl hh_) ?_
  show own_Run p e below s _ _ _ (T13.setTop (mkF m 89 #[.val (.int r1), .val (.int p0), .val (.int p1), .val (.int p2), .val (.int p3), .val (.int p4), .val (.ref ob1), .val (.int ((r1 &&& (7 : Int32)) % (6 : Int32))), .val (.int ((((r1.toUInt32 >>> ((3 : Int32) &&& 31).toUInt32).toInt32) &&& (7 : Int32)) % (6 : Int32))), .val (.int lo), .val (.int hi), .unset, .unset, .unset] [(.int hi), (.int lo)]))
  by_cases hc89_17 : lo = hi
  · refine own_of (fun _ hh_ => XS.icmpNo X13.here hx rfl (hb hby at_89) rfl (teq hc89_17).2 hh_) ?_
    show own_Run p e below s _ _ _ (T13.setTop (mkF m 92 #[.val (.int r1), .val (.int p0), .val (.int p1), .val (.int p2), .val (.int p3), .val (.int p4), .val (.ref ob1), .val (.int ((r1 &&& (7 : Int32)) % (6 : Int32))), .val (.int ((((r1.toUInt32 >>> ((3 : Int32) &&& 31).toUInt32).toInt32) &&& (7 : Int32)) % (6 : Int32))), .val (.int lo), .val (.int hi), .unset, .unset, .unset] []))
    refine own_of (fun _ hh_ => XS.iconst X13.here hx rfl (hb hby at_92) hh_) ?_
    show own_Run p e below s _ _ _ (T13.setTop (mkF m 93 #[.val (.int r1), .val (.int p0), .val (.int p1), .val (.int p2), .val (.int p3), .val (.int p4), .val (.ref ob1), .val (.int ((r1 &&& (7 : Int32)) % (6 : Int32))), .val (.int ((((r1.toUInt32 >>> ((3 : Int32) &&& 31).toUInt32).toInt32) &&& (7 : Int32)) % (6 : Int32))), .val (.int lo), .val (.int hi), .unset, .unset, .unset] [(.int (-1 : Int32))]))
    refine own_of (fun _ hh_ => XS.istore X13.here hx rfl (hb hby at_93) rfl (l' := #[.val (.int r1), .val (.int p0), .val (.int p1), .val (.int p2), .val (.int p3), .val (.int p4), .val (.ref ob1), .val (.int ((r1 &&& (7 : Int32)) % (6 : Int32))), .val (.int ((((r1.toUInt32 >>> ((3 : Int32) &&& 31).toUInt32).toInt32) &&& (7 : Int32)) % (6 : Int32))), .val (.int lo), .val (.int hi), .val (.int (-1 : Int32)), .unset, .unset]) rfl hh_) ?_
    show own_Run p e below s _ _ _ (T13.setTop (mkF m 95 #[.val (.int r1), .val (.int p0), .val (.int p1), .val (.int p2), .val (.int p3), .val (.int p4), .val (.ref ob1), .val (.int ((r1 &&& (7 : Int32)) % (6 : Int32))), .val (.int ((((r1.toUInt32 >>> ((3 : Int32) &&& 31).toUInt32).toInt32) &&& (7 : Int32)) % (6 : Int32))), .val (.int lo), .val (.int hi), .val (.int (-1 : Int32)), .unset, .unset] []))
    refine own_of (fun _ hh_ => XS.goto X13.here hx rfl (pc0 := 95) (pc' := 269) rfl (hb hby at_95) (by decide) (by decide) hh_) ?_
    show own_Run p e below s _ _ _ (T13.setTop (mkF m 269 #[.val (.int r1), .val (.int p0), .val (.int p1), .val (.int p2), .val (.int p3), .val (.int p4), .val (.ref ob1), .val (.int ((r1 &&& (7 : Int32)) % (6 : Int32))), .val (.int ((((r1.toUInt32 >>> ((3 : Int32) &&& 31).toUInt32).toInt32) &&& (7 : Int32)) % (6 : Int32))), .val (.int lo), .val (.int hi), .val (.int (-1 : Int32)), .unset, .unset] []))
    exact J269 _ _ X13 e13 N13 _ _ _ (Or.inl ⟨congrArg Int32.toInt hc89_17, rfl⟩)
  · refine own_of (fun _ hh_ => XS.icmpYes X13.here hx rfl (pc0 := 89) (pc' := 98) rfl (hb hby at_89) rfl (feq hc89_17).2 (by decide) (by decide) hh_) ?_
    show own_Run p e below s _ _ _ (T13.setTop (mkF m 98 #[.val (.int r1), .val (.int p0), .val (.int p1), .val (.int p2), .val (.int p3), .val (.int p4), .val (.ref ob1), .val (.int ((r1 &&& (7 : Int32)) % (6 : Int32))), .val (.int ((((r1.toUInt32 >>> ((3 : Int32) &&& 31).toUInt32).toInt32) &&& (7 : Int32)) % (6 : Int32))), .val (.int lo), .val (.int hi), .unset, .unset, .unset] []))
    refine own_of (fun _ hh_ => XS.aload X13.here hx rfl (hb hby at_98) rfl rfl hh_) ?_
    show own_Run p e below s _ _ _ (T13.setTop (mkF m 100 #[.val (.int r1), .val (.int p0), .val (.int p1), .val (.int p2), .val (.int p3), .val (.int p4), .val (.ref ob1), .val (.int ((r1 &&& (7 : Int32)) % (6 : Int32))), .val (.int ((((r1.toUInt32 >>> ((3 : Int32) &&& 31).toUInt32).toInt32) &&& (7 : Int32)) % (6 : Int32))), .val (.int lo), .val (.int hi), .unset, .unset, .unset] [(.ref ob1)]))
    refine own_of (fun _ hh_ => XS.iconst X13.here hx rfl (hb hby at_100) hh_) ?_
    show own_Run p e below s _ _ _ (T13.setTop (mkF m 101 #[.val (.int r1), .val (.int p0), .val (.int p1), .val (.int p2), .val (.int p3), .val (.int p4), .val (.ref ob1), .val (.int ((r1 &&& (7 : Int32)) % (6 : Int32))), .val (.int ((((r1.toUInt32 >>> ((3 : Int32) &&& 31).toUInt32).toInt32) &&& (7 : Int32)) % (6 : Int32))), .val (.int lo), .val (.int hi), .unset, .unset, .unset] [(.int (0 : Int32)), (.ref ob1)]))
    refine own_of (fun _ hh_ => XS.iload X13.here hx rfl (hb hby at_101) rfl hh_) ?_
    show own_Run p e below s _ _ _ (T13.setTop (mkF m 103 #[.val (.int r1), .val (.int p0), .val (.int p1), .val (.int p2), .val (.int p3), .val (.int p4), .val (.ref ob1), .val (.int ((r1 &&& (7 : Int32)) % (6 : Int32))), .val (.int ((((r1.toUInt32 >>> ((3 : Int32) &&& 31).toUInt32).toInt32) &&& (7 : Int32)) % (6 : Int32))), .val (.int lo), .val (.int hi), .unset, .unset, .unset] [(.int lo), (.int (0 : Int32)), (.ref ob1)]))
    refine own_of (fun _ hh_ => XS.iload X13.here hx rfl (hb hby at_103) rfl hh_) ?_
    show own_Run p e below s _ _ _ (T13.setTop (mkF m 105 #[.val (.int r1), .val (.int p0), .val (.int p1), .val (.int p2), .val (.int p3), .val (.int p4), .val (.ref ob1), .val (.int ((r1 &&& (7 : Int32)) % (6 : Int32))), .val (.int ((((r1.toUInt32 >>> ((3 : Int32) &&& 31).toUInt32).toInt32) &&& (7 : Int32)) % (6 : Int32))), .val (.int lo), .val (.int hi), .unset, .unset, .unset] [(.int hi), (.int lo), (.int (0 : Int32)), (.ref ob1)]))
    obtain ⟨_, _, ⟨T18, L18, k18, n18⟩, -, X18, ⟨Lc18, hQ18, l18, y18, z18⟩, st18⟩ := Jvm.LawKit.callS X13 hx (y := (⟨"com/example/lanchid/lanchid/records/WholeNumberFirstDigitPinLaw", "fine", "([BIII)Z"⟩ : MethodName)) hown (mvT hZ (hw _ (List.mem_of_getElem? (i := 16) rfl))) (mvT hZ (hw _ (List.mem_of_getElem? (i := 17) rfl))) (mvT hZ (hw _ (List.mem_of_getElem? (i := 3) rfl))) (mvT hZ (hw _ (List.mem_of_getElem? (i := 18) rfl))) (by decide) (backOf (W := 0) (rmF l Z a0 hw [] ob1 (0 : Int32) lo hi 5 gg (gg 0) h11 n0 (Nat.le_trans (Nat.le_trans (Nat.le_trans (Nat.le_trans (Nat.le_trans (Nat.le_trans Z0 E1.1) (Nat.le_of_eq W3.size.symm)) (Nat.le_of_eq W5.size.symm)) (Nat.le_of_eq W7.size.symm)) (Nat.le_of_eq W9.size.symm)) (Nat.le_of_eq W11.size.symm)) Vg (by decide) (by decide) rfl) hZ (hw _ (List.mem_of_getElem? (i := 18) rfl)) (hw _ (List.mem_of_getElem? (i := 3) rfl)) (by decide) (by decide)) (g := (mkF m 105 #[.val (.int r1), .val (.int p0), .val (.int p1), .val (.int p2), .val (.int p3), .val (.int p4), .val (.ref ob1), .val (.int ((r1 &&& (7 : Int32)) % (6 : Int32))), .val (.int ((((r1.toUInt32 >>> ((3 : Int32) &&& 31).toUInt32).toInt32) &&& (7 : Int32)) % (6 : Int32))), .val (.int lo), .val (.int hi), .unset, .unset, .unset] [(.int hi), (.int lo), (.int (0 : Int32)), (.ref ob1)])) rfl (by rw [hml]; rfl) (argsL := [(.ref ob1), (.int (0 : Int32)), (.int lo), (.int hi)]) (rest := []) (lenOf own_pd4 rfl) rfl (by show 2 * 0 + _ ≤ _; exact Nat.le_of_eq rfl) (hb hby at_105) (fun _ _ => ⟨rfl, e13, (by decide : 1 + 0 ≤ _), (by decide : 5 + 0 ≤ _)⟩)
    dsimp only [Pt.U, Pt.locs, Pt.cells, Pt.slots] at X18 l18 y18 z18 st18 hQ18
    subst l18 y18 z18
    obtain ⟨rfl, N18q, e18⟩ := hQ18
    have N18 := Fr.app N13 N18q
    refine own_of st18 ?_
    show own_Run p e below s _ _ _ (T18.setTop (mkF m 108 #[.val (.int r1), .val (.int p0), .val (.int p1), .val (.int p2), .val (.int p3), .val (.int p4), .val (.ref ob1), .val (.int ((r1 &&& (7 : Int32)) % (6 : Int32))), .val (.int ((((r1.toUInt32 >>> ((3 : Int32) &&& 31).toUInt32).toInt32) &&& (7 : Int32)) % (6 : Int32))), .val (.int lo), .val (.int hi), .unset, .unset, .unset] [(.int (if own_F (gg 0) (0 : Int32) lo hi then 1 else 0 : Int32))]))
    by_cases hc108_19 : own_F (gg 0) (0 : Int32) lo hi
    · refine own_of (fun _ hh_ => XS.ifNo X18.here hx rfl (hb hby at_108) rfl ((if0 _ _).trans (feq (show ¬ ((if own_F (gg 0) (0 : Int32) lo hi then 1 else 0 : Int32) = 0) from by rw [if_pos hc108_19]; decide)).1) hh_) ?_
      show own_Run p e below s _ _ _ (T18.setTop (mkF m 111 #[.val (.int r1), .val (.int p0), .val (.int p1), .val (.int p2), .val (.int p3), .val (.int p4), .val (.ref ob1), .val (.int ((r1 &&& (7 : Int32)) % (6 : Int32))), .val (.int ((((r1.toUInt32 >>> ((3 : Int32) &&& 31).toUInt32).toInt32) &&& (7 : Int32)) % (6 : Int32))), .val (.int lo), .val (.int hi), .unset, .unset, .unset] []))
      refine own_of (fun _ hh_ => XS.aload X18.here hx rfl (hb hby at_111) rfl rfl hh_) ?_
      show own_Run p e below s _ _ _ (T18.setTop (mkF m 113 #[.val (.int r1), .val (.int p0), .val (.int p1), .val (.int p2), .val (.int p3), .val (.int p4), .val (.ref ob1), .val (.int ((r1 &&& (7 : Int32)) % (6 : Int32))), .val (.int ((((r1.toUInt32 >>> ((3 : Int32) &&& 31).toUInt32).toInt32) &&& (7 : Int32)) % (6 : Int32))), .val (.int lo), .val (.int hi), .unset, .unset, .unset] [(.ref ob1)]))
      refine own_of (fun _ hh_ => XS.iconst X18.here hx rfl (hb hby at_113) hh_) ?_
      show own_Run p e below s _ _ _ (T18.setTop (mkF m 114 #[.val (.int r1), .val (.int p0), .val (.int p1), .val (.int p2), .val (.int p3), .val (.int p4), .val (.ref ob1), .val (.int ((r1 &&& (7 : Int32)) % (6 : Int32))), .val (.int ((((r1.toUInt32 >>> ((3 : Int32) &&& 31).toUInt32).toInt32) &&& (7 : Int32)) % (6 : Int32))), .val (.int lo), .val (.int hi), .unset, .unset, .unset] [(.int (1 : Int32)), (.ref ob1)]))
      refine own_of (fun _ hh_ => XS.iload X18.here hx rfl (hb hby at_114) rfl hh_) ?_
      show own_Run p e below s _ _ _ (T18.setTop (mkF m 116 #[.val (.int r1), .val (.int p0), .val (.int p1), .val (.int p2), .val (.int p3), .val (.int p4), .val (.ref ob1), .val (.int ((r1 &&& (7 : Int32)) % (6 : Int32))), .val (.int ((((r1.toUInt32 >>> ((3 : Int32) &&& 31).toUInt32).toInt32) &&& (7 : Int32)) % (6 : Int32))), .val (.int lo), .val (.int hi), .unset, .unset, .unset] [(.int lo), (.int (1 : Int32)), (.ref ob1)]))
      refine own_of (fun _ hh_ => XS.iload X18.here hx rfl (hb hby at_116) rfl hh_) ?_
      show own_Run p e below s _ _ _ (T18.setTop (mkF m 118 #[.val (.int r1), .val (.int p0), .val (.int p1), .val (.int p2), .val (.int p3), .val (.int p4), .val (.ref ob1), .val (.int ((r1 &&& (7 : Int32)) % (6 : Int32))), .val (.int ((((r1.toUInt32 >>> ((3 : Int32) &&& 31).toUInt32).toInt32) &&& (7 : Int32)) % (6 : Int32))), .val (.int lo), .val (.int hi), .unset, .unset, .unset] [(.int hi), (.int lo), (.int (1 : Int32)), (.ref ob1)]))
      obtain ⟨_, _, ⟨T20, L20, k20, n20⟩, -, X20, ⟨Lc20, hQ20, l20, y20, z20⟩, st20⟩ := Jvm.LawKit.callS X18 hx (y := (⟨"com/example/lanchid/lanchid/records/WholeNumberFirstDigitPinLaw", "fine", "([BIII)Z"⟩ : MethodName)) hown (mvT hZ (hw _ (List.mem_of_getElem? (i := 16) rfl))) (mvT hZ (hw _ (List.mem_of_getElem? (i := 17) rfl))) (mvT hZ (hw _ (List.mem_of_getElem? (i := 3) rfl))) (mvT hZ (hw _ (List.mem_of_getElem? (i := 18) rfl))) (by decide) (backOf (W := 0) (rmF l Z a0 hw [] ob1 (1 : Int32) lo hi 5 gg (gg 1) h11 n0 (Nat.le_trans (Nat.le_trans (Nat.le_trans (Nat.le_trans (Nat.le_trans (Nat.le_trans Z0 E1.1) (Nat.le_of_eq W3.size.symm)) (Nat.le_of_eq W5.size.symm)) (Nat.le_of_eq W7.size.symm)) (Nat.le_of_eq W9.size.symm)) (Nat.le_of_eq W11.size.symm)) Vg (by decide) (by decide) rfl) hZ (hw _ (List.mem_of_getElem? (i := 18) rfl)) (hw _ (List.mem_of_getElem? (i := 3) rfl)) (by decide) (by decide)) (g := (mkF m 118 #[.val (.int r1), .val (.int p0), .val (.int p1), .val (.int p2), .val (.int p3), .val (.int p4), .val (.ref ob1), .val (.int ((r1 &&& (7 : Int32)) % (6 : Int32))), .val (.int ((((r1.toUInt32 >>> ((3 : Int32) &&& 31).toUInt32).toInt32) &&& (7 : Int32)) % (6 : Int32))), .val (.int lo), .val (.int hi), .unset, .unset, .unset] [(.int hi), (.int lo), (.int (1 : Int32)), (.ref ob1)])) rfl (by rw [hml]; rfl) (argsL := [(.ref ob1), (.int (1 : Int32)), (.int lo), (.int hi)]) (rest := []) (lenOf own_pd4 rfl) rfl (by show 2 * 0 + _ ≤ _; exact Nat.le_of_eq rfl) (hb hby at_118) (fun _ _ => ⟨rfl, e18, (by decide : 1 + 0 ≤ _), (by decide : 5 + 0 ≤ _)⟩)
      dsimp only [Pt.U, Pt.locs, Pt.cells, Pt.slots] at X20 l20 y20 z20 st20 hQ20
      subst l20 y20 z20
      obtain ⟨rfl, N20q, e20⟩ := hQ20
      have N20 := Fr.app N18 N20q
      refine own_of st20 ?_
      show own_Run p e below s _ _ _ (T20.setTop (mkF m 121 #[.val (.int r1), .val (.int p0), .val (.int p1), .val (.int p2), .val (.int p3), .val (.int p4), .val (.ref ob1), .val (.int ((r1 &&& (7 : Int32)) % (6 : Int32))), .val (.int ((((r1.toUInt32 >>> ((3 : Int32) &&& 31).toUInt32).toInt32) &&& (7 : Int32)) % (6 : Int32))), .val (.int lo), .val (.int hi), .unset, .unset, .unset] [(.int (if own_F (gg 1) (1 : Int32) lo hi then 1 else 0 : Int32))]))
      by_cases hc121_21 : own_F (gg 1) (1 : Int32) lo hi
      · refine own_of (fun _ hh_ => XS.ifNo X20.here hx rfl (hb hby at_121) rfl ((if0 _ _).trans (feq (show ¬ ((if own_F (gg 1) (1 : Int32) lo hi then 1 else 0 : Int32) = 0) from by rw [if_pos hc121_21]; decide)).1) hh_) ?_
        show own_Run p e below s _ _ _ (T20.setTop (mkF m 124 #[.val (.int r1), .val (.int p0), .val (.int p1), .val (.int p2), .val (.int p3), .val (.int p4), .val (.ref ob1), .val (.int ((r1 &&& (7 : Int32)) % (6 : Int32))), .val (.int ((((r1.toUInt32 >>> ((3 : Int32) &&& 31).toUInt32).toInt32) &&& (7 : Int32)) % (6 : Int32))), .val (.int lo), .val (.int hi), .unset, .unset, .unset] []))
        refine own_of (fun _ hh_ => XS.aload X20.here hx rfl (hb hby at_124) rfl rfl hh_) ?_
        show own_Run p e below s _ _ _ (T20.setTop (mkF m 126 #[.val (.int r1), .val (.int p0), .val (.int p1), .val (.int p2), .val (.int p3), .val (.int p4), .val (.ref ob1), .val (.int ((r1 &&& (7 : Int32)) % (6 : Int32))), .val (.int ((((r1.toUInt32 >>> ((3 : Int32) &&& 31).toUInt32).toInt32) &&& (7 : Int32)) % (6 : Int32))), .val (.int lo), .val (.int hi), .unset, .unset, .unset] [(.ref ob1)]))
        refine own_of (fun _ hh_ => XS.iconst X20.here hx rfl (hb hby at_126) hh_) ?_
        show own_Run p e below s _ _ _ (T20.setTop (mkF m 127 #[.val (.int r1), .val (.int p0), .val (.int p1), .val (.int p2), .val (.int p3), .val (.int p4), .val (.ref ob1), .val (.int ((r1 &&& (7 : Int32)) % (6 : Int32))), .val (.int ((((r1.toUInt32 >>> ((3 : Int32) &&& 31).toUInt32).toInt32) &&& (7 : Int32)) % (6 : Int32))), .val (.int lo), .val (.int hi), .unset, .unset, .unset] [(.int (2 : Int32)), (.ref ob1)]))
        refine own_of (fun _ hh_ => XS.iload X20.here hx rfl (hb hby at_127) rfl hh_) ?_
        show own_Run p e below s _ _ _ (T20.setTop (mkF m 129 #[.val (.int r1), .val (.int p0), .val (.int p1), .val (.int p2), .val (.int p3), .val (.int p4), .val (.ref ob1), .val (.int ((r1 &&& (7 : Int32)) % (6 : Int32))), .val (.int ((((r1.toUInt32 >>> ((3 : Int32) &&& 31).toUInt32).toInt32) &&& (7 : Int32)) % (6 : Int32))), .val (.int lo), .val (.int hi), .unset, .unset, .unset] [(.int lo), (.int (2 : Int32)), (.ref ob1)]))
        refine own_of (fun _ hh_ => XS.iload X20.here hx rfl (hb hby at_129) rfl hh_) ?_
        show own_Run p e below s _ _ _ (T20.setTop (mkF m 131 #[.val (.int r1), .val (.int p0), .val (.int p1), .val (.int p2), .val (.int p3), .val (.int p4), .val (.ref ob1), .val (.int ((r1 &&& (7 : Int32)) % (6 : Int32))), .val (.int ((((r1.toUInt32 >>> ((3 : Int32) &&& 31).toUInt32).toInt32) &&& (7 : Int32)) % (6 : Int32))), .val (.int lo), .val (.int hi), .unset, .unset, .unset] [(.int hi), (.int lo), (.int (2 : Int32)), (.ref ob1)]))
        obtain ⟨_, _, ⟨T22, L22, k22, n22⟩, -, X22, ⟨Lc22, hQ22, l22, y22, z22⟩, st22⟩ := Jvm.LawKit.callS X20 hx (y := (⟨"com/example/lanchid/lanchid/records/WholeNumberFirstDigitPinLaw", "fine", "([BIII)Z"⟩ : MethodName)) hown (mvT hZ (hw _ (List.mem_of_getElem? (i := 16) rfl))) (mvT hZ (hw _ (List.mem_of_getElem? (i := 17) rfl))) (mvT hZ (hw _ (List.mem_of_getElem? (i := 3) rfl))) (mvT hZ (hw _ (List.mem_of_getElem? (i := 18) rfl))) (by decide) (backOf (W := 0) (rmF l Z a0 hw [] ob1 (2 : Int32) lo hi 5 gg (gg 2) h11 n0 (Nat.le_trans (Nat.le_trans (Nat.le_trans (Nat.le_trans (Nat.le_trans (Nat.le_trans Z0 E1.1) (Nat.le_of_eq W3.size.symm)) (Nat.le_of_eq W5.size.symm)) (Nat.le_of_eq W7.size.symm)) (Nat.le_of_eq W9.size.symm)) (Nat.le_of_eq W11.size.symm)) Vg (by decide) (by decide) rfl) hZ (hw _ (List.mem_of_getElem? (i := 18) rfl)) (hw _ (List.mem_of_getElem? (i := 3) rfl)) (by decide) (by decide)) (g := (mkF m 131 #[.val (.int r1), .val (.int p0), .val (.int p1), .val (.int p2), .val (.int p3), .val (.int p4), .val (.ref ob1), .val (.int ((r1 &&& (7 : Int32)) % (6 : Int32))), .val (.int ((((r1.toUInt32 >>> ((3 : Int32) &&& 31).toUInt32).toInt32) &&& (7 : Int32)) % (6 : Int32))), .val (.int lo), .val (.int hi), .unset, .unset, .unset] [(.int hi), (.int lo), (.int (2 : Int32)), (.ref ob1)])) rfl (by rw [hml]; rfl) (argsL := [(.ref ob1), (.int (2 : Int32)), (.int lo), (.int hi)]) (rest := []) (lenOf own_pd4 rfl) rfl (by show 2 * 0 + _ ≤ _; exact Nat.le_of_eq rfl) (hb hby at_131) (fun _ _ => ⟨rfl, e20, (by decide : 1 + 0 ≤ _), (by decide : 5 + 0 ≤ _)⟩)
        dsimp only [Pt.U, Pt.locs, Pt.cells, Pt.slots] at X22 l22 y22 z22 st22 hQ22
        subst l22 y22 z22
        obtain ⟨rfl, N22q, e22⟩ := hQ22
        have N22 := Fr.app N20 N22q
        refine own_of st22 ?_
        show own_Run p e below s _ _ _ (T22.setTop (mkF m 134 #[.val (.int r1), .val (.int p0), .val (.int p1), .val (.int p2), .val (.int p3), .val (.int p4), .val (.ref ob1), .val (.int ((r1 &&& (7 : Int32)) % (6 : Int32))), .val (.int ((((r1.toUInt32 >>> ((3 : Int32) &&& 31).toUInt32).toInt32) &&& (7 : Int32)) % (6 : Int32))), .val (.int lo), .val (.int hi), .unset, .unset, .unset] [(.int (if own_F (gg 2) (2 : Int32) lo hi then 1 else 0 : Int32))]))
        by_cases hc134_23 : own_F (gg 2) (2 : Int32) lo hi
        · refine own_of (fun _ hh_ => XS.ifNo X22.here hx rfl (hb hby at_134) rfl ((if0 _ _).trans (feq (show ¬ ((if own_F (gg 2) (2 : Int32) lo hi then 1 else 0 : Int32) = 0) from by rw [if_pos hc134_23]; decide)).1) hh_) ?_
          show own_Run p e below s _ _ _ (T22.setTop (mkF m 137 #[.val (.int r1), .val (.int p0), .val (.int p1), .val (.int p2), .val (.int p3), .val (.int p4), .val (.ref ob1), .val (.int ((r1 &&& (7 : Int32)) % (6 : Int32))), .val (.int ((((r1.toUInt32 >>> ((3 : Int32) &&& 31).toUInt32).toInt32) &&& (7 : Int32)) % (6 : Int32))), .val (.int lo), .val (.int hi), .unset, .unset, .unset] []))
          refine own_of (fun _ hh_ => XS.aload X22.here hx rfl (hb hby at_137) rfl rfl hh_) ?_
          show own_Run p e below s _ _ _ (T22.setTop (mkF m 139 #[.val (.int r1), .val (.int p0), .val (.int p1), .val (.int p2), .val (.int p3), .val (.int p4), .val (.ref ob1), .val (.int ((r1 &&& (7 : Int32)) % (6 : Int32))), .val (.int ((((r1.toUInt32 >>> ((3 : Int32) &&& 31).toUInt32).toInt32) &&& (7 : Int32)) % (6 : Int32))), .val (.int lo), .val (.int hi), .unset, .unset, .unset] [(.ref ob1)]))
          refine own_of (fun _ hh_ => XS.iconst X22.here hx rfl (hb hby at_139) hh_) ?_
          show own_Run p e below s _ _ _ (T22.setTop (mkF m 140 #[.val (.int r1), .val (.int p0), .val (.int p1), .val (.int p2), .val (.int p3), .val (.int p4), .val (.ref ob1), .val (.int ((r1 &&& (7 : Int32)) % (6 : Int32))), .val (.int ((((r1.toUInt32 >>> ((3 : Int32) &&& 31).toUInt32).toInt32) &&& (7 : Int32)) % (6 : Int32))), .val (.int lo), .val (.int hi), .unset, .unset, .unset] [(.int (3 : Int32)), (.ref ob1)]))
          refine own_of (fun _ hh_ => XS.iload X22.here hx rfl (hb hby at_140) rfl hh_) ?_
          show own_Run p e below s _ _ _ (T22.setTop (mkF m 142 #[.val (.int r1), .val (.int p0), .val (.int p1), .val (.int p2), .val (.int p3), .val (.int p4), .val (.ref ob1), .val (.int ((r1 &&& (7 : Int32)) % (6 : Int32))), .val (.int ((((r1.toUInt32 >>> ((3 : Int32) &&& 31).toUInt32).toInt32) &&& (7 : Int32)) % (6 : Int32))), .val (.int lo), .val (.int hi), .unset, .unset, .unset] [(.int lo), (.int (3 : Int32)), (.ref ob1)]))
          refine own_of (fun _ hh_ => XS.iload X22.here hx rfl (hb hby at_142) rfl hh_) ?_
          show own_Run p e below s _ _ _ (T22.setTop (mkF m 144 #[.val (.int r1), .val (.int p0), .val (.int p1), .val (.int p2), .val (.int p3), .val (.int p4), .val (.ref ob1), .val (.int ((r1 &&& (7 : Int32)) % (6 : Int32))), .val (.int ((((r1.toUInt32 >>> ((3 : Int32) &&& 31).toUInt32).toInt32) &&& (7 : Int32)) % (6 : Int32))), .val (.int lo), .val (.int hi), .unset, .unset, .unset] [(.int hi), (.int lo), (.int (3 : Int32)), (.ref ob1)]))
          obtain ⟨_, _, ⟨T24, L24, k24, n24⟩, -, X24, ⟨Lc24, hQ24, l24, y24, z24⟩, st24⟩ := Jvm.LawKit.callS X22 hx (y := (⟨"com/example/lanchid/lanchid/records/WholeNumberFirstDigitPinLaw", "fine", "([BIII)Z"⟩ : MethodName)) hown (mvT hZ (hw _ (List.mem_of_getElem? (i := 16) rfl))) (mvT hZ (hw _ (List.mem_of_getElem? (i := 17) rfl))) (mvT hZ (hw _ (List.mem_of_getElem? (i := 3) rfl))) (mvT hZ (hw _ (List.mem_of_getElem? (i := 18) rfl))) (by decide) (backOf (W := 0) (rmF l Z a0 hw [] ob1 (3 : Int32) lo hi 5 gg (gg 3) h11 n0 (Nat.le_trans (Nat.le_trans (Nat.le_trans (Nat.le_trans (Nat.le_trans (Nat.le_trans Z0 E1.1) (Nat.le_of_eq W3.size.symm)) (Nat.le_of_eq W5.size.symm)) (Nat.le_of_eq W7.size.symm)) (Nat.le_of_eq W9.size.symm)) (Nat.le_of_eq W11.size.symm)) Vg (by decide) (by decide) rfl) hZ (hw _ (List.mem_of_getElem? (i := 18) rfl)) (hw _ (List.mem_of_getElem? (i := 3) rfl)) (by decide) (by decide)) (g := (mkF m 144 #[.val (.int r1), .val (.int p0), .val (.int p1), .val (.int p2), .val (.int p3), .val (.int p4), .val (.ref ob1), .val (.int ((r1 &&& (7 : Int32)) % (6 : Int32))), .val (.int ((((r1.toUInt32 >>> ((3 : Int32) &&& 31).toUInt32).toInt32) &&& (7 : Int32)) % (6 : Int32))), .val (.int lo), .val (.int hi), .unset, .unset, .unset] [(.int hi), (.int lo), (.int (3 : Int32)), (.ref ob1)])) rfl (by rw [hml]; rfl) (argsL := [(.ref ob1), (.int (3 : Int32)), (.int lo), (.int hi)]) (rest := []) (lenOf own_pd4 rfl) rfl (by show 2 * 0 + _ ≤ _; exact Nat.le_of_eq rfl) (hb hby at_144) (fun _ _ => ⟨rfl, e22, (by decide : 1 + 0 ≤ _), (by decide : 5 + 0 ≤ _)⟩)
          dsimp only [Pt.U, Pt.locs, Pt.cells, Pt.slots] at X24 l24 y24 z24 st24 hQ24
          subst l24 y24 z24
          obtain ⟨rfl, N24q, e24⟩ := hQ24
          have N24 := Fr.app N22 N24q
          refine own_of st24 ?_
          show own_Run p e below s _ _ _ (T24.setTop (mkF m 147 #[.val (.int r1), .val (.int p0), .val (.int p1), .val (.int p2), .val (.int p3), .val (.int p4), .val (.ref ob1), .val (.int ((r1 &&& (7 : Int32)) % (6 : Int32))), .val (.int ((((r1.toUInt32 >>> ((3 : Int32) &&& 31).toUInt32).toInt32) &&& (7 : Int32)) % (6 : Int32))), .val (.int lo), .val (.int hi), .unset, .unset, .unset] [(.int (if own_F (gg 3) (3 : Int32) lo hi then 1 else 0 : Int32))]))
          by_cases hc147_25 : own_F (gg 3) (3 : Int32) lo hi
          · refine own_of (fun _ hh_ => XS.ifNo X24.here hx rfl (hb hby at_147) rfl ((if0 _ _).trans (feq (show ¬ ((if own_F (gg 3) (3 : Int32) lo hi then 1 else 0 : Int32) = 0) from by rw [if_pos hc147_25]; decide)).1) hh_) ?_
            show own_Run p e below s _ _ _ (T24.setTop (mkF m 150 #[.val (.int r1), .val (.int p0), .val (.int p1), .val (.int p2), .val (.int p3), .val (.int p4), .val (.ref ob1), .val (.int ((r1 &&& (7 : Int32)) % (6 : Int32))), .val (.int ((((r1.toUInt32 >>> ((3 : Int32) &&& 31).toUInt32).toInt32) &&& (7 : Int32)) % (6 : Int32))), .val (.int lo), .val (.int hi), .unset, .unset, .unset] []))
            refine own_of (fun _ hh_ => XS.aload X24.here hx rfl (hb hby at_150) rfl rfl hh_) ?_
            show own_Run p e below s _ _ _ (T24.setTop (mkF m 152 #[.val (.int r1), .val (.int p0), .val (.int p1), .val (.int p2), .val (.int p3), .val (.int p4), .val (.ref ob1), .val (.int ((r1 &&& (7 : Int32)) % (6 : Int32))), .val (.int ((((r1.toUInt32 >>> ((3 : Int32) &&& 31).toUInt32).toInt32) &&& (7 : Int32)) % (6 : Int32))), .val (.int lo), .val (.int hi), .unset, .unset, .unset] [(.ref ob1)]))
            refine own_of (fun _ hh_ => XS.iconst X24.here hx rfl (hb hby at_152) hh_) ?_
            show own_Run p e below s _ _ _ (T24.setTop (mkF m 153 #[.val (.int r1), .val (.int p0), .val (.int p1), .val (.int p2), .val (.int p3), .val (.int p4), .val (.ref ob1), .val (.int ((r1 &&& (7 : Int32)) % (6 : Int32))), .val (.int ((((r1.toUInt32 >>> ((3 : Int32) &&& 31).toUInt32).toInt32) &&& (7 : Int32)) % (6 : Int32))), .val (.int lo), .val (.int hi), .unset, .unset, .unset] [(.int (4 : Int32)), (.ref ob1)]))
            refine own_of (fun _ hh_ => XS.iload X24.here hx rfl (hb hby at_153) rfl hh_) ?_
            show own_Run p e below s _ _ _ (T24.setTop (mkF m 155 #[.val (.int r1), .val (.int p0), .val (.int p1), .val (.int p2), .val (.int p3), .val (.int p4), .val (.ref ob1), .val (.int ((r1 &&& (7 : Int32)) % (6 : Int32))), .val (.int ((((r1.toUInt32 >>> ((3 : Int32) &&& 31).toUInt32).toInt32) &&& (7 : Int32)) % (6 : Int32))), .val (.int lo), .val (.int hi), .unset, .unset, .unset] [(.int lo), (.int (4 : Int32)), (.ref ob1)]))
            refine own_of (fun _ hh_ => XS.iload X24.here hx rfl (hb hby at_155) rfl hh_) ?_
            show own_Run p e below s _ _ _ (T24.setTop (mkF m 157 #[.val (.int r1), .val (.int p0), .val (.int p1), .val (.int p2), .val (.int p3), .val (.int p4), .val (.ref ob1), .val (.int ((r1 &&& (7 : Int32)) % (6 : Int32))), .val (.int ((((r1.toUInt32 >>> ((3 : Int32) &&& 31).toUInt32).toInt32) &&& (7 : Int32)) % (6 : Int32))), .val (.int lo), .val (.int hi), .unset, .unset, .unset] [(.int hi), (.int lo), (.int (4 : Int32)), (.ref ob1)]))
            obtain ⟨_, _, ⟨T26, L26, k26, n26⟩, -, X26, ⟨Lc26, hQ26, l26, y26, z26⟩, st26⟩ := Jvm.LawKit.callS X24 hx (y := (⟨"com/example/lanchid/lanchid/records/WholeNumberFirstDigitPinLaw", "fine", "([BIII)Z"⟩ : MethodName)) hown (mvT hZ (hw _ (List.mem_of_getElem? (i := 16) rfl))) (mvT hZ (hw _ (List.mem_of_getElem? (i := 17) rfl))) (mvT hZ (hw _ (List.mem_of_getElem? (i := 3) rfl))) (mvT hZ (hw _ (List.mem_of_getElem? (i := 18) rfl))) (by decide) (backOf (W := 0) (rmF l Z a0 hw [] ob1 (4 : Int32) lo hi 5 gg (gg 4) h11 n0 (Nat.le_trans (Nat.le_trans (Nat.le_trans (Nat.le_trans (Nat.le_trans (Nat.le_trans Z0 E1.1) (Nat.le_of_eq W3.size.symm)) (Nat.le_of_eq W5.size.symm)) (Nat.le_of_eq W7.size.symm)) (Nat.le_of_eq W9.size.symm)) (Nat.le_of_eq W11.size.symm)) Vg (by decide) (by decide) rfl) hZ (hw _ (List.mem_of_getElem? (i := 18) rfl)) (hw _ (List.mem_of_getElem? (i := 3) rfl)) (by decide) (by decide)) (g := (mkF m 157 #[.val (.int r1), .val (.int p0), .val (.int p1), .val (.int p2), .val (.int p3), .val (.int p4), .val (.ref ob1), .val (.int ((r1 &&& (7 : Int32)) % (6 : Int32))), .val (.int ((((r1.toUInt32 >>> ((3 : Int32) &&& 31).toUInt32).toInt32) &&& (7 : Int32)) % (6 : Int32))), .val (.int lo), .val (.int hi), .unset, .unset, .unset] [(.int hi), (.int lo), (.int (4 : Int32)), (.ref ob1)])) rfl (by rw [hml]; rfl) (argsL := [(.ref ob1), (.int (4 : Int32)), (.int lo), (.int hi)]) (rest := []) (lenOf own_pd4 rfl) rfl (by show 2 * 0 + _ ≤ _; exact Nat.le_of_eq rfl) (hb hby at_157) (fun _ _ => ⟨rfl, e24, (by decide : 1 + 0 ≤ _), (by decide : 5 + 0 ≤ _)⟩)
            dsimp only [Pt.U, Pt.locs, Pt.cells, Pt.slots] at X26 l26 y26 z26 st26 hQ26
            subst l26 y26 z26
            obtain ⟨rfl, N26q, e26⟩ := hQ26
            have N26 := Fr.app N24 N26q
            refine own_of st26 ?_
            show own_Run p e below s _ _ _ (T26.setTop (mkF m 160 #[.val (.int r1), .val (.int p0), .val (.int p1), .val (.int p2), .val (.int p3), .val (.int p4), .val (.ref ob1), .val (.int ((r1 &&& (7 : Int32)) % (6 : Int32))), .val (.int ((((r1.toUInt32 >>> ((3 : Int32) &&& 31).toUInt32).toInt32) &&& (7 : Int32)) % (6 : Int32))), .val (.int lo), .val (.int hi), .unset, .unset, .unset] [(.int (if own_F (gg 4) (4 : Int32) lo hi then 1 else 0 : Int32))]))
            by_cases hc160_27 : own_F (gg 4) (4 : Int32) lo hi
            · refine own_of (fun _ hh_ => XS.ifNo X26.here hx rfl (hb hby at_160) rfl ((if0 _ _).trans (feq (show ¬ ((if own_F (gg 4) (4 : Int32) lo hi then 1 else 0 : Int32) = 0) from by rw [if_pos hc160_27]; decide)).1) hh_) ?_
              show own_Run p e below s _ _ _ (T26.setTop (mkF m 163 #[.val (.int r1), .val (.int p0), .val (.int p1), .val (.int p2), .val (.int p3), .val (.int p4), .val (.ref ob1), .val (.int ((r1 &&& (7 : Int32)) % (6 : Int32))), .val (.int ((((r1.toUInt32 >>> ((3 : Int32) &&& 31).toUInt32).toInt32) &&& (7 : Int32)) % (6 : Int32))), .val (.int lo), .val (.int hi), .unset, .unset, .unset] []))
              refine own_of (fun _ hh_ => XS.iconst X26.here hx rfl (hb hby at_163) hh_) ?_
              show own_Run p e below s _ _ _ (T26.setTop (mkF m 164 #[.val (.int r1), .val (.int p0), .val (.int p1), .val (.int p2), .val (.int p3), .val (.int p4), .val (.ref ob1), .val (.int ((r1 &&& (7 : Int32)) % (6 : Int32))), .val (.int ((((r1.toUInt32 >>> ((3 : Int32) &&& 31).toUInt32).toInt32) &&& (7 : Int32)) % (6 : Int32))), .val (.int lo), .val (.int hi), .unset, .unset, .unset] [(.int (1 : Int32))]))
              refine own_of (fun _ hh_ => XS.goto X26.here hx rfl (pc0 := 164) (pc' := 168) rfl (hb hby at_164) (by decide) (by decide) hh_) ?_
              show own_Run p e below s _ _ _ (T26.setTop (mkF m 168 #[.val (.int r1), .val (.int p0), .val (.int p1), .val (.int p2), .val (.int p3), .val (.int p4), .val (.ref ob1), .val (.int ((r1 &&& (7 : Int32)) % (6 : Int32))), .val (.int ((((r1.toUInt32 >>> ((3 : Int32) &&& 31).toUInt32).toInt32) &&& (7 : Int32)) % (6 : Int32))), .val (.int lo), .val (.int hi), .unset, .unset, .unset] [(.int (1 : Int32))]))
              refine own_of (fun _ hh_ => XS.istore X26.here hx rfl (hb hby at_168) rfl (l' := #[.val (.int r1), .val (.int p0), .val (.int p1), .val (.int p2), .val (.int p3), .val (.int p4), .val (.ref ob1), .val (.int ((r1 &&& (7 : Int32)) % (6 : Int32))), .val (.int ((((r1.toUInt32 >>> ((3 : Int32) &&& 31).toUInt32).toInt32) &&& (7 : Int32)) % (6 : Int32))), .val (.int lo), .val (.int hi), .unset, .val (.int (1 : Int32)), .unset]) rfl hh_) ?_
              show own_Run p e below s _ _ _ (T26.setTop (mkF m 170 #[.val (.int r1), .val (.int p0), .val (.int p1), .val (.int p2), .val (.int p3), .val (.int p4), .val (.ref ob1), .val (.int ((r1 &&& (7 : Int32)) % (6 : Int32))), .val (.int ((((r1.toUInt32 >>> ((3 : Int32) &&& 31).toUInt32).toInt32) &&& (7 : Int32)) % (6 : Int32))), .val (.int lo), .val (.int hi), .unset, .val (.int (1 : Int32)), .unset] []))
              refine own_of (fun _ hh_ => XS.iload X26.here hx rfl (hb hby at_170) rfl hh_) ?_
              show own_Run p e below s _ _ _ (T26.setTop (mkF m 172 #[.val (.int r1), .val (.int p0), .val (.int p1), .val (.int p2), .val (.int p3), .val (.int p4), .val (.ref ob1), .val (.int ((r1 &&& (7 : Int32)) % (6 : Int32))), .val (.int ((((r1.toUInt32 >>> ((3 : Int32) &&& 31).toUInt32).toInt32) &&& (7 : Int32)) % (6 : Int32))), .val (.int lo), .val (.int hi), .unset, .val (.int (1 : Int32)), .unset] [(.int (1 : Int32))]))
              refine own_of (fun _ hh_ => XS.ifYes X26.here hx rfl (pc0 := 172) (pc' := 181) rfl (hb hby at_172) rfl ((if0 _ _).trans (by decide)) (by decide) (by decide) hh_) ?_
              show own_Run p e below s _ _ _ (T26.setTop (mkF m 181 #[.val (.int r1), .val (.int p0), .val (.int p1), .val (.int p2), .val (.int p3), .val (.int p4), .val (.ref ob1), .val (.int ((r1 &&& (7 : Int32)) % (6 : Int32))), .val (.int ((((r1.toUInt32 >>> ((3 : Int32) &&& 31).toUInt32).toInt32) &&& (7 : Int32)) % (6 : Int32))), .val (.int lo), .val (.int hi), .unset, .val (.int (1 : Int32)), .unset] []))
              refine own_of (fun _ hh_ => XS.iload X26.here hx rfl (hb hby at_181) rfl hh_) ?_
              show own_Run p e below s _ _ _ (T26.setTop (mkF m 183 #[.val (.int r1), .val (.int p0), .val (.int p1), .val (.int p2), .val (.int p3), .val (.int p4), .val (.ref ob1), .val (.int ((r1 &&& (7 : Int32)) % (6 : Int32))), .val (.int ((((r1.toUInt32 >>> ((3 : Int32) &&& 31).toUInt32).toInt32) &&& (7 : Int32)) % (6 : Int32))), .val (.int lo), .val (.int hi), .unset, .val (.int (1 : Int32)), .unset] [(.int hi)]))
              refine own_of (fun _ hh_ => XS.istore X26.here hx rfl (hb hby at_183) rfl (l' := #[.val (.int r1), .val (.int p0), .val (.int p1), .val (.int p2), .val (.int p3), .val (.int p4), .val (.ref ob1), .val (.int ((r1 &&& (7 : Int32)) % (6 : Int32))), .val (.int ((((r1.toUInt32 >>> ((3 : Int32) &&& 31).toUInt32).toInt32) &&& (7 : Int32)) % (6 : Int32))), .val (.int lo), .val (.int hi), .unset, .val (.int (1 : Int32)), .val (.int hi)]) rfl hh_) ?_
              show own_Run p e below s _ _ _ (T26.setTop (mkF m 185 #[.val (.int r1), .val (.int p0), .val (.int p1), .val (.int p2), .val (.int p3), .val (.int p4), .val (.ref ob1), .val (.int ((r1 &&& (7 : Int32)) % (6 : Int32))), .val (.int ((((r1.toUInt32 >>> ((3 : Int32) &&& 31).toUInt32).toInt32) &&& (7 : Int32)) % (6 : Int32))), .val (.int lo), .val (.int hi), .unset, .val (.int (1 : Int32)), .val (.int hi)] []))
              have J201 : ∀ (Tc28 : State) (lc28 : List Loc), Stand p l e room_1 s m #[(.int r1), (.int p0), (.int p1), (.int p2), (.int p3), (.int p4)] below meth c Tc28 lc28 1 5 → Tc28.heap = h11 → Fr n0 lc28 → ∀ (v1 : Int32), v1 = (if own_N (gg 4) (4 : Int32) lo hi then (4 : Int32) else hi) → own_Run p e below s 16 128 (Q0 Z r1 p0 p1 p2 p3 p4 h0 n0) (Tc28.setTop (mkF m 201 #[.val (.int r1), .val (.int p0), .val (.int p1), .val (.int p2), .val (.int p3), .val (.int p4), .val (.ref ob1), .val (.int ((r1 &&& (7 : Int32)) % (6 : Int32))), .val (.int ((((r1.toUInt32 >>> ((3 : Int32) &&& 31).toUInt32).toInt32) &&& (7 : Int32)) % (6 : Int32))), .val (.int lo), .val (.int hi), .unset, .val (.int (1 : Int32)), .val (.int v1)] [])) := by
                intro Tc28 lc28 Xc28 ec28 Nc28 v1 hv1
                show own_Run p e below s _ _ _ (Tc28.setTop (mkF m 201 #[.val (.int r1), .val (.int p0), .val (.int p1), .val (.int p2), .val (.int p3), .val (.int p4), .val (.ref ob1), .val (.int ((r1 &&& (7 : Int32)) % (6 : Int32))), .val (.int ((((r1.toUInt32 >>> ((3 : Int32) &&& 31).toUInt32).toInt32) &&& (7 : Int32)) % (6 : Int32))), .val (.int lo), .val (.int hi), .unset, .val (.int (1 : Int32)), .val (.int v1)] []))
                have J217 : ∀ (Tc29 : State) (lc29 : List Loc), Stand p l e room_1 s m #[(.int r1), (.int p0), (.int p1), (.int p2), (.int p3), (.int p4)] below meth c Tc29 lc29 1 5 → Tc29.heap = h11 → Fr n0 lc29 → ∀ (v2 : Int32), v2 = (if own_N (gg 3) (3 : Int32) lo hi then (3 : Int32) else (if own_N (gg 4) (4 : Int32) lo hi then (4 : Int32) else hi)) → own_Run p e below s 16 128 (Q0 Z r1 p0 p1 p2 p3 p4 h0 n0) (Tc29.setTop (mkF m 217 #[.val (.int r1), .val (.int p0), .val (.int p1), .val (.int p2), .val (.int p3), .val (.int p4), .val (.ref ob1), .val (.int ((r1 &&& (7 : Int32)) % (6 : Int32))), .val (.int ((((r1.toUInt32 >>> ((3 : Int32) &&& 31).toUInt32).toInt32) &&& (7 : Int32)) % (6 : Int32))), .val (.int lo), .val (.int hi), .unset, .val (.int (1 : Int32)), .val (.int v2)] [])) := by
                  intro Tc29 lc29 Xc29 ec29 Nc29 v2 hv2
                  show own_Run p e below s _ _ _ (Tc29.setTop (mkF m 217 #[.val (.int r1), .val (.int p0), .val (.int p1), .val (.int p2), .val (.int p3), .val (.int p4), .val (.ref ob1), .val (.int ((r1 &&& (7 : Int32)) % (6 : Int32))), .val (.int ((((r1.toUInt32 >>> ((3 : Int32) &&& 31).toUInt32).toInt32) &&& (7 : Int32)) % (6 : Int32))), .val (.int lo), .val (.int hi), .unset, .val (.int (1 : Int32)), .val (.int v2)] []))
                  have J233 : ∀ (Tc30 : State) (lc30 : List Loc), Stand p l e room_1 s m #[(.int r1), (.int p0), (.int p1), (.int p2), (.int p3), (.int p4)] below meth c Tc30 lc30 1 5 → Tc30.heap = h11 → Fr n0 lc30 → ∀ (v3 : Int32), v3 = (if own_N (gg 2) (2 : Int32) lo hi then (2 : Int32) else (if own_N (gg 3) (3 : Int32) lo hi then (3 : Int32) else (if own_N (gg 4) (4 : Int32) lo hi then (4 : Int32) else hi))) → own_Run p e below s 16 128 (Q0 Z r1 p0 p1 p2 p3 p4 h0 n0) (Tc30.setTop (mkF m 233 #[.val (.int r1), .val (.int p0), .val (.int p1), .val (.int p2), .val (.int p3), .val (.int p4), .val (.ref ob1), .val (.int ((r1 &&& (7 : Int32)) % (6 : Int32))), .val (.int ((((r1.toUInt32 >>> ((3 : Int32) &&& 31).toUInt32).toInt32) &&& (7 : Int32)) % (6 : Int32))), .val (.int lo), .val (.int hi), .unset, .val (.int (1 : Int32)), .val (.int v3)] [])) := by
                    intro Tc30 lc30 Xc30 ec30 Nc30 v3 hv3
                    show own_Run p e below s _ _ _ (Tc30.setTop (mkF m 233 #[.val (.int r1), .val (.int p0), .val (.int p1), .val (.int p2), .val (.int p3), .val (.int p4), .val (.ref ob1), .val (.int ((r1 &&& (7 : Int32)) % (6 : Int32))), .val (.int ((((r1.toUInt32 >>> ((3 : Int32) &&& 31).toUInt32).toInt32) &&& (7 : Int32)) % (6 : Int32))), .val (.int lo), .val (.int hi), .unset, .val (.int (1 : Int32)), .val (.int v3)] []))
                    have J249 : ∀ (Tc31 : State) (lc31 : List Loc), Stand p l e room_1 s m #[(.int r1), (.int p0), (.int p1), (.int p2), (.int p3), (.int p4)] below meth c Tc31 lc31 1 5 → Tc31.heap = h11 → Fr n0 lc31 → ∀ (v4 : Int32), v4 = (if own_N (gg 1) (1 : Int32) lo hi then (1 : Int32) else (if own_N (gg 2) (2 : Int32) lo hi then (2 : Int32) else (if own_N (gg 3) (3 : Int32) lo hi then (3 : Int32) else (if own_N (gg 4) (4 : Int32) lo hi then (4 : Int32) else hi)))) → own_Run p e below s 16 128 (Q0 Z r1 p0 p1 p2 p3 p4 h0 n0) (Tc31.setTop (mkF m 249 #[.val (.int r1), .val (.int p0), .val (.int p1), .val (.int p2), .val (.int p3), .val (.int p4), .val (.ref ob1), .val (.int ((r1 &&& (7 : Int32)) % (6 : Int32))), .val (.int ((((r1.toUInt32 >>> ((3 : Int32) &&& 31).toUInt32).toInt32) &&& (7 : Int32)) % (6 : Int32))), .val (.int lo), .val (.int hi), .unset, .val (.int (1 : Int32)), .val (.int v4)] [])) := by
                      intro Tc31 lc31 Xc31 ec31 Nc31 v4 hv4
                      show own_Run p e below s _ _ _ (Tc31.setTop (mkF m 249 #[.val (.int r1), .val (.int p0), .val (.int p1), .val (.int p2), .val (.int p3), .val (.int p4), .val (.ref ob1), .val (.int ((r1 &&& (7 : Int32)) % (6 : Int32))), .val (.int ((((r1.toUInt32 >>> ((3 : Int32) &&& 31).toUInt32).toInt32) &&& (7 : Int32)) % (6 : Int32))), .val (.int lo), .val (.int hi), .unset, .val (.int (1 : Int32)), .val (.int v4)] []))
                      have J265 : ∀ (Tc32 : State) (lc32 : List Loc), Stand p l e room_1 s m #[(.int r1), (.int p0), (.int p1), (.int p2), (.int p3), (.int p4)] below meth c Tc32 lc32 1 5 → Tc32.heap = h11 → Fr n0 lc32 → ∀ (v5 : Int32), v5 = (if own_N (gg 0) (0 : Int32) lo hi then (0 : Int32) else (if own_N (gg 1) (1 : Int32) lo hi then (1 : Int32) else (if own_N (gg 2) (2 : Int32) lo hi then (2 : Int32) else (if own_N (gg 3) (3 : Int32) lo hi then (3 : Int32) else (if own_N (gg 4) (4 : Int32) lo hi then (4 : Int32) else hi))))) → own_Run p e below s 16 128 (Q0 Z r1 p0 p1 p2 p3 p4 h0 n0) (Tc32.setTop (mkF m 265 #[.val (.int r1), .val (.int p0), .val (.int p1), .val (.int p2), .val (.int p3), .val (.int p4), .val (.ref ob1), .val (.int ((r1 &&& (7 : Int32)) % (6 : Int32))), .val (.int ((((r1.toUInt32 >>> ((3 : Int32) &&& 31).toUInt32).toInt32) &&& (7 : Int32)) % (6 : Int32))), .val (.int lo), .val (.int hi), .unset, .val (.int (1 : Int32)), .val (.int v5)] [])) := by
                        intro Tc32 lc32 Xc32 ec32 Nc32 v5 hv5
                        show own_Run p e below s _ _ _ (Tc32.setTop (mkF m 265 #[.val (.int r1), .val (.int p0), .val (.int p1), .val (.int p2), .val (.int p3), .val (.int p4), .val (.ref ob1), .val (.int ((r1 &&& (7 : Int32)) % (6 : Int32))), .val (.int ((((r1.toUInt32 >>> ((3 : Int32) &&& 31).toUInt32).toInt32) &&& (7 : Int32)) % (6 : Int32))), .val (.int lo), .val (.int hi), .unset, .val (.int (1 : Int32)), .val (.int v5)] []))
                        have hfd := own_good rlh.1 (by have z := mt Int32.toInt_inj.mp hc89_17; have z2 := rlh.2.1; omega) rlh.2.2 hc108_19 hc121_21 hc134_23 hc147_25 hc160_27 hv5
                        refine own_of (fun _ hh_ => XS.iload Xc32.here hx rfl (hb hby at_265) rfl hh_) ?_
                        show own_Run p e below s _ _ _ (Tc32.setTop (mkF m 267 #[.val (.int r1), .val (.int p0), .val (.int p1), .val (.int p2), .val (.int p3), .val (.int p4), .val (.ref ob1), .val (.int ((r1 &&& (7 : Int32)) % (6 : Int32))), .val (.int ((((r1.toUInt32 >>> ((3 : Int32) &&& 31).toUInt32).toInt32) &&& (7 : Int32)) % (6 : Int32))), .val (.int lo), .val (.int hi), .unset, .val (.int (1 : Int32)), .val (.int v5)] [(.int v5)]))
                        refine own_of (fun _ hh_ => XS.istore Xc32.here hx rfl (hb hby at_267) rfl (l' := #[.val (.int r1), .val (.int p0), .val (.int p1), .val (.int p2), .val (.int p3), .val (.int p4), .val (.ref ob1), .val (.int ((r1 &&& (7 : Int32)) % (6 : Int32))), .val (.int ((((r1.toUInt32 >>> ((3 : Int32) &&& 31).toUInt32).toInt32) &&& (7 : Int32)) % (6 : Int32))), .val (.int lo), .val (.int hi), .val (.int v5), .val (.int (1 : Int32)), .val (.int v5)]) rfl hh_) ?_
                        show own_Run p e below s _ _ _ (Tc32.setTop (mkF m 269 #[.val (.int r1), .val (.int p0), .val (.int p1), .val (.int p2), .val (.int p3), .val (.int p4), .val (.ref ob1), .val (.int ((r1 &&& (7 : Int32)) % (6 : Int32))), .val (.int ((((r1.toUInt32 >>> ((3 : Int32) &&& 31).toUInt32).toInt32) &&& (7 : Int32)) % (6 : Int32))), .val (.int lo), .val (.int hi), .val (.int v5), .val (.int (1 : Int32)), .val (.int v5)] []))
                        exact J269 _ _ Xc32 ec32 Nc32 _ _ _ hfd
                      refine own_of (fun _ hh_ => XS.aload Xc31.here hx rfl (hb hby at_249) rfl rfl hh_) ?_
                      show own_Run p e below s _ _ _ (Tc31.setTop (mkF m 251 #[.val (.int r1), .val (.int p0), .val (.int p1), .val (.int p2), .val (.int p3), .val (.int p4), .val (.ref ob1), .val (.int ((r1 &&& (7 : Int32)) % (6 : Int32))), .val (.int ((((r1.toUInt32 >>> ((3 : Int32) &&& 31).toUInt32).toInt32) &&& (7 : Int32)) % (6 : Int32))), .val (.int lo), .val (.int hi), .unset, .val (.int (1 : Int32)), .val (.int v4)] [(.ref ob1)]))
                      refine own_of (fun _ hh_ => XS.iconst Xc31.here hx rfl (hb hby at_251) hh_) ?_
                      show own_Run p e below s _ _ _ (Tc31.setTop (mkF m 252 #[.val (.int r1), .val (.int p0), .val (.int p1), .val (.int p2), .val (.int p3), .val (.int p4), .val (.ref ob1), .val (.int ((r1 &&& (7 : Int32)) % (6 : Int32))), .val (.int ((((r1.toUInt32 >>> ((3 : Int32) &&& 31).toUInt32).toInt32) &&& (7 : Int32)) % (6 : Int32))), .val (.int lo), .val (.int hi), .unset, .val (.int (1 : Int32)), .val (.int v4)] [(.int (0 : Int32)), (.ref ob1)]))
                      refine own_of (fun _ hh_ => XS.iload Xc31.here hx rfl (hb hby at_252) rfl hh_) ?_
                      show own_Run p e below s _ _ _ (Tc31.setTop (mkF m 254 #[.val (.int r1), .val (.int p0), .val (.int p1), .val (.int p2), .val (.int p3), .val (.int p4), .val (.ref ob1), .val (.int ((r1 &&& (7 : Int32)) % (6 : Int32))), .val (.int ((((r1.toUInt32 >>> ((3 : Int32) &&& 31).toUInt32).toInt32) &&& (7 : Int32)) % (6 : Int32))), .val (.int lo), .val (.int hi), .unset, .val (.int (1 : Int32)), .val (.int v4)] [(.int lo), (.int (0 : Int32)), (.ref ob1)]))
                      refine own_of (fun _ hh_ => XS.iload Xc31.here hx rfl (hb hby at_254) rfl hh_) ?_
                      show own_Run p e below s _ _ _ (Tc31.setTop (mkF m 256 #[.val (.int r1), .val (.int p0), .val (.int p1), .val (.int p2), .val (.int p3), .val (.int p4), .val (.ref ob1), .val (.int ((r1 &&& (7 : Int32)) % (6 : Int32))), .val (.int ((((r1.toUInt32 >>> ((3 : Int32) &&& 31).toUInt32).toInt32) &&& (7 : Int32)) % (6 : Int32))), .val (.int lo), .val (.int hi), .unset, .val (.int (1 : Int32)), .val (.int v4)] [(.int hi), (.int lo), (.int (0 : Int32)), (.ref ob1)]))
                      obtain ⟨_, _, ⟨T33, L33, k33, n33⟩, -, X33, ⟨Lc33, hQ33, l33, y33, z33⟩, st33⟩ := Jvm.LawKit.callS Xc31 hx (y := (⟨"com/example/lanchid/lanchid/records/WholeNumberFirstDigitPinLaw", "nz", "([BIII)Z"⟩ : MethodName)) hown (mvT hZ (hw _ (List.mem_of_getElem? (i := 22) rfl))) (mvT hZ (hw _ (List.mem_of_getElem? (i := 23) rfl))) (mvT hZ (hw _ (List.mem_of_getElem? (i := 3) rfl))) (mvT hZ (hw _ (List.mem_of_getElem? (i := 24) rfl))) (by decide) (backOf (W := 0) (rmN l Z a0 hw [] ob1 (0 : Int32) lo hi 5 gg (gg 0) h11 n0 (Nat.le_trans (Nat.le_trans (Nat.le_trans (Nat.le_trans (Nat.le_trans (Nat.le_trans Z0 E1.1) (Nat.le_of_eq W3.size.symm)) (Nat.le_of_eq W5.size.symm)) (Nat.le_of_eq W7.size.symm)) (Nat.le_of_eq W9.size.symm)) (Nat.le_of_eq W11.size.symm)) Vg (by decide) (by decide) rfl) hZ (hw _ (List.mem_of_getElem? (i := 24) rfl)) (hw _ (List.mem_of_getElem? (i := 3) rfl)) (by decide) (by decide)) (g := (mkF m 256 #[.val (.int r1), .val (.int p0), .val (.int p1), .val (.int p2), .val (.int p3), .val (.int p4), .val (.ref ob1), .val (.int ((r1 &&& (7 : Int32)) % (6 : Int32))), .val (.int ((((r1.toUInt32 >>> ((3 : Int32) &&& 31).toUInt32).toInt32) &&& (7 : Int32)) % (6 : Int32))), .val (.int lo), .val (.int hi), .unset, .val (.int (1 : Int32)), .val (.int v4)] [(.int hi), (.int lo), (.int (0 : Int32)), (.ref ob1)])) rfl (by rw [hml]; rfl) (argsL := [(.ref ob1), (.int (0 : Int32)), (.int lo), (.int hi)]) (rest := []) (lenOf own_pd4 rfl) rfl (by show 2 * 0 + _ ≤ _; exact Nat.le_of_eq rfl) (hb hby at_256) (fun _ _ => ⟨rfl, ec31, (by decide : 1 + 0 ≤ _), (by decide : 5 + 0 ≤ _)⟩)
                      dsimp only [Pt.U, Pt.locs, Pt.cells, Pt.slots] at X33 l33 y33 z33 st33 hQ33
                      subst l33 y33 z33
                      obtain ⟨rfl, N33q, e33⟩ := hQ33
                      have N33 := Fr.app Nc31 N33q
                      refine own_of st33 ?_
                      show own_Run p e below s _ _ _ (T33.setTop (mkF m 259 #[.val (.int r1), .val (.int p0), .val (.int p1), .val (.int p2), .val (.int p3), .val (.int p4), .val (.ref ob1), .val (.int ((r1 &&& (7 : Int32)) % (6 : Int32))), .val (.int ((((r1.toUInt32 >>> ((3 : Int32) &&& 31).toUInt32).toInt32) &&& (7 : Int32)) % (6 : Int32))), .val (.int lo), .val (.int hi), .unset, .val (.int (1 : Int32)), .val (.int v4)] [(.int (if own_N (gg 0) (0 : Int32) lo hi then 1 else 0 : Int32))]))
                      by_cases hc259_34 : own_N (gg 0) (0 : Int32) lo hi
                      · refine own_of (fun _ hh_ => XS.ifNo X33.here hx rfl (hb hby at_259) rfl ((if0 _ _).trans (feq (show ¬ ((if own_N (gg 0) (0 : Int32) lo hi then 1 else 0 : Int32) = 0) from by rw [if_pos hc259_34]; decide)).1) hh_) ?_
                        show own_Run p e below s _ _ _ (T33.setTop (mkF m 262 #[.val (.int r1), .val (.int p0), .val (.int p1), .val (.int p2), .val (.int p3), .val (.int p4), .val (.ref ob1), .val (.int ((r1 &&& (7 : Int32)) % (6 : Int32))), .val (.int ((((r1.toUInt32 >>> ((3 : Int32) &&& 31).toUInt32).toInt32) &&& (7 : Int32)) % (6 : Int32))), .val (.int lo), .val (.int hi), .unset, .val (.int (1 : Int32)), .val (.int v4)] []))
                        refine own_of (fun _ hh_ => XS.iconst X33.here hx rfl (hb hby at_262) hh_) ?_
                        show own_Run p e below s _ _ _ (T33.setTop (mkF m 263 #[.val (.int r1), .val (.int p0), .val (.int p1), .val (.int p2), .val (.int p3), .val (.int p4), .val (.ref ob1), .val (.int ((r1 &&& (7 : Int32)) % (6 : Int32))), .val (.int ((((r1.toUInt32 >>> ((3 : Int32) &&& 31).toUInt32).toInt32) &&& (7 : Int32)) % (6 : Int32))), .val (.int lo), .val (.int hi), .unset, .val (.int (1 : Int32)), .val (.int v4)] [(.int (0 : Int32))]))
                        refine own_of (fun _ hh_ => XS.istore X33.here hx rfl (hb hby at_263) rfl (l' := #[.val (.int r1), .val (.int p0), .val (.int p1), .val (.int p2), .val (.int p3), .val (.int p4), .val (.ref ob1), .val (.int ((r1 &&& (7 : Int32)) % (6 : Int32))), .val (.int ((((r1.toUInt32 >>> ((3 : Int32) &&& 31).toUInt32).toInt32) &&& (7 : Int32)) % (6 : Int32))), .val (.int lo), .val (.int hi), .unset, .val (.int (1 : Int32)), .val (.int (0 : Int32))]) rfl hh_) ?_
                        show own_Run p e below s _ _ _ (T33.setTop (mkF m 265 #[.val (.int r1), .val (.int p0), .val (.int p1), .val (.int p2), .val (.int p3), .val (.int p4), .val (.ref ob1), .val (.int ((r1 &&& (7 : Int32)) % (6 : Int32))), .val (.int ((((r1.toUInt32 >>> ((3 : Int32) &&& 31).toUInt32).toInt32) &&& (7 : Int32)) % (6 : Int32))), .val (.int lo), .val (.int hi), .unset, .val (.int (1 : Int32)), .val (.int (0 : Int32))] []))
                        exact J265 _ _ X33 e33 N33 _ (by rw [if_pos hc259_34])
                      · refine own_of (fun _ hh_ => XS.ifYes X33.here hx rfl (pc0 := 259) (pc' := 265) rfl (hb hby at_259) rfl ((if0 _ _).trans (teq (show (if own_N (gg 0) (0 : Int32) lo hi then 1 else 0 : Int32) = 0 from if_neg hc259_34)).1) (by decide) (by decide) hh_) ?_
                        show own_Run p e below s _ _ _ (T33.setTop (mkF m 265 #[.val (.int r1), .val (.int p0), .val (.int p1), .val (.int p2), .val (.int p3), .val (.int p4), .val (.ref ob1), .val (.int ((r1 &&& (7 : Int32)) % (6 : Int32))), .val (.int ((((r1.toUInt32 >>> ((3 : Int32) &&& 31).toUInt32).toInt32) &&& (7 : Int32)) % (6 : Int32))), .val (.int lo), .val (.int hi), .unset, .val (.int (1 : Int32)), .val (.int v4)] []))
                        exact J265 _ _ X33 e33 N33 _ (by rw [if_neg hc259_34]; exact hv4)
                    refine own_of (fun _ hh_ => XS.aload Xc30.here hx rfl (hb hby at_233) rfl rfl hh_) ?_
                    show own_Run p e below s _ _ _ (Tc30.setTop (mkF m 235 #[.val (.int r1), .val (.int p0), .val (.int p1), .val (.int p2), .val (.int p3), .val (.int p4), .val (.ref ob1), .val (.int ((r1 &&& (7 : Int32)) % (6 : Int32))), .val (.int ((((r1.toUInt32 >>> ((3 : Int32) &&& 31).toUInt32).toInt32) &&& (7 : Int32)) % (6 : Int32))), .val (.int lo), .val (.int hi), .unset, .val (.int (1 : Int32)), .val (.int v3)] [(.ref ob1)]))
                    refine own_of (fun _ hh_ => XS.iconst Xc30.here hx rfl (hb hby at_235) hh_) ?_
                    show own_Run p e below s _ _ _ (Tc30.setTop (mkF m 236 #[.val (.int r1), .val (.int p0), .val (.int p1), .val (.int p2), .val (.int p3), .val (.int p4), .val (.ref ob1), .val (.int ((r1 &&& (7 : Int32)) % (6 : Int32))), .val (.int ((((r1.toUInt32 >>> ((3 : Int32) &&& 31).toUInt32).toInt32) &&& (7 : Int32)) % (6 : Int32))), .val (.int lo), .val (.int hi), .unset, .val (.int (1 : Int32)), .val (.int v3)] [(.int (1 : Int32)), (.ref ob1)]))
                    refine own_of (fun _ hh_ => XS.iload Xc30.here hx rfl (hb hby at_236) rfl hh_) ?_
                    show own_Run p e below s _ _ _ (Tc30.setTop (mkF m 238 #[.val (.int r1), .val (.int p0), .val (.int p1), .val (.int p2), .val (.int p3), .val (.int p4), .val (.ref ob1), .val (.int ((r1 &&& (7 : Int32)) % (6 : Int32))), .val (.int ((((r1.toUInt32 >>> ((3 : Int32) &&& 31).toUInt32).toInt32) &&& (7 : Int32)) % (6 : Int32))), .val (.int lo), .val (.int hi), .unset, .val (.int (1 : Int32)), .val (.int v3)] [(.int lo), (.int (1 : Int32)), (.ref ob1)]))
                    refine own_of (fun _ hh_ => XS.iload Xc30.here hx rfl (hb hby at_238) rfl hh_) ?_
                    show own_Run p e below s _ _ _ (Tc30.setTop (mkF m 240 #[.val (.int r1), .val (.int p0), .val (.int p1), .val (.int p2), .val (.int p3), .val (.int p4), .val (.ref ob1), .val (.int ((r1 &&& (7 : Int32)) % (6 : Int32))), .val (.int ((((r1.toUInt32 >>> ((3 : Int32) &&& 31).toUInt32).toInt32) &&& (7 : Int32)) % (6 : Int32))), .val (.int lo), .val (.int hi), .unset, .val (.int (1 : Int32)), .val (.int v3)] [(.int hi), (.int lo), (.int (1 : Int32)), (.ref ob1)]))
                    obtain ⟨_, _, ⟨T35, L35, k35, n35⟩, -, X35, ⟨Lc35, hQ35, l35, y35, z35⟩, st35⟩ := Jvm.LawKit.callS Xc30 hx (y := (⟨"com/example/lanchid/lanchid/records/WholeNumberFirstDigitPinLaw", "nz", "([BIII)Z"⟩ : MethodName)) hown (mvT hZ (hw _ (List.mem_of_getElem? (i := 22) rfl))) (mvT hZ (hw _ (List.mem_of_getElem? (i := 23) rfl))) (mvT hZ (hw _ (List.mem_of_getElem? (i := 3) rfl))) (mvT hZ (hw _ (List.mem_of_getElem? (i := 24) rfl))) (by decide) (backOf (W := 0) (rmN l Z a0 hw [] ob1 (1 : Int32) lo hi 5 gg (gg 1) h11 n0 (Nat.le_trans (Nat.le_trans (Nat.le_trans (Nat.le_trans (Nat.le_trans (Nat.le_trans Z0 E1.1) (Nat.le_of_eq W3.size.symm)) (Nat.le_of_eq W5.size.symm)) (Nat.le_of_eq W7.size.symm)) (Nat.le_of_eq W9.size.symm)) (Nat.le_of_eq W11.size.symm)) Vg (by decide) (by decide) rfl) hZ (hw _ (List.mem_of_getElem? (i := 24) rfl)) (hw _ (List.mem_of_getElem? (i := 3) rfl)) (by decide) (by decide)) (g := (mkF m 240 #[.val (.int r1), .val (.int p0), .val (.int p1), .val (.int p2), .val (.int p3), .val (.int p4), .val (.ref ob1), .val (.int ((r1 &&& (7 : Int32)) % (6 : Int32))), .val (.int ((((r1.toUInt32 >>> ((3 : Int32) &&& 31).toUInt32).toInt32) &&& (7 : Int32)) % (6 : Int32))), .val (.int lo), .val (.int hi), .unset, .val (.int (1 : Int32)), .val (.int v3)] [(.int hi), (.int lo), (.int (1 : Int32)), (.ref ob1)])) rfl (by rw [hml]; rfl) (argsL := [(.ref ob1), (.int (1 : Int32)), (.int lo), (.int hi)]) (rest := []) (lenOf own_pd4 rfl) rfl (by show 2 * 0 + _ ≤ _; exact Nat.le_of_eq rfl) (hb hby at_240) (fun _ _ => ⟨rfl, ec30, (by decide : 1 + 0 ≤ _), (by decide : 5 + 0 ≤ _)⟩)
                    dsimp only [Pt.U, Pt.locs, Pt.cells, Pt.slots] at X35 l35 y35 z35 st35 hQ35
                    subst l35 y35 z35
                    obtain ⟨rfl, N35q, e35⟩ := hQ35
                    have N35 := Fr.app Nc30 N35q
                    refine own_of st35 ?_
                    show own_Run p e below s _ _ _ (T35.setTop (mkF m 243 #[.val (.int r1), .val (.int p0), .val (.int p1), .val (.int p2), .val (.int p3), .val (.int p4), .val (.ref ob1), .val (.int ((r1 &&& (7 : Int32)) % (6 : Int32))), .val (.int ((((r1.toUInt32 >>> ((3 : Int32) &&& 31).toUInt32).toInt32) &&& (7 : Int32)) % (6 : Int32))), .val (.int lo), .val (.int hi), .unset, .val (.int (1 : Int32)), .val (.int v3)] [(.int (if own_N (gg 1) (1 : Int32) lo hi then 1 else 0 : Int32))]))
                    by_cases hc243_36 : own_N (gg 1) (1 : Int32) lo hi
                    · refine own_of (fun _ hh_ => XS.ifNo X35.here hx rfl (hb hby at_243) rfl ((if0 _ _).trans (feq (show ¬ ((if own_N (gg 1) (1 : Int32) lo hi then 1 else 0 : Int32) = 0) from by rw [if_pos hc243_36]; decide)).1) hh_) ?_
                      show own_Run p e below s _ _ _ (T35.setTop (mkF m 246 #[.val (.int r1), .val (.int p0), .val (.int p1), .val (.int p2), .val (.int p3), .val (.int p4), .val (.ref ob1), .val (.int ((r1 &&& (7 : Int32)) % (6 : Int32))), .val (.int ((((r1.toUInt32 >>> ((3 : Int32) &&& 31).toUInt32).toInt32) &&& (7 : Int32)) % (6 : Int32))), .val (.int lo), .val (.int hi), .unset, .val (.int (1 : Int32)), .val (.int v3)] []))
                      refine own_of (fun _ hh_ => XS.iconst X35.here hx rfl (hb hby at_246) hh_) ?_
                      show own_Run p e below s _ _ _ (T35.setTop (mkF m 247 #[.val (.int r1), .val (.int p0), .val (.int p1), .val (.int p2), .val (.int p3), .val (.int p4), .val (.ref ob1), .val (.int ((r1 &&& (7 : Int32)) % (6 : Int32))), .val (.int ((((r1.toUInt32 >>> ((3 : Int32) &&& 31).toUInt32).toInt32) &&& (7 : Int32)) % (6 : Int32))), .val (.int lo), .val (.int hi), .unset, .val (.int (1 : Int32)), .val (.int v3)] [(.int (1 : Int32))]))
                      refine own_of (fun _ hh_ => XS.istore X35.here hx rfl (hb hby at_247) rfl (l' := #[.val (.int r1), .val (.int p0), .val (.int p1), .val (.int p2), .val (.int p3), .val (.int p4), .val (.ref ob1), .val (.int ((r1 &&& (7 : Int32)) % (6 : Int32))), .val (.int ((((r1.toUInt32 >>> ((3 : Int32) &&& 31).toUInt32).toInt32) &&& (7 : Int32)) % (6 : Int32))), .val (.int lo), .val (.int hi), .unset, .val (.int (1 : Int32)), .val (.int (1 : Int32))]) rfl hh_) ?_
                      show own_Run p e below s _ _ _ (T35.setTop (mkF m 249 #[.val (.int r1), .val (.int p0), .val (.int p1), .val (.int p2), .val (.int p3), .val (.int p4), .val (.ref ob1), .val (.int ((r1 &&& (7 : Int32)) % (6 : Int32))), .val (.int ((((r1.toUInt32 >>> ((3 : Int32) &&& 31).toUInt32).toInt32) &&& (7 : Int32)) % (6 : Int32))), .val (.int lo), .val (.int hi), .unset, .val (.int (1 : Int32)), .val (.int (1 : Int32))] []))
                      exact J249 _ _ X35 e35 N35 _ (by rw [if_pos hc243_36])
                    · refine own_of (fun _ hh_ => XS.ifYes X35.here hx rfl (pc0 := 243) (pc' := 249) rfl (hb hby at_243) rfl ((if0 _ _).trans (teq (show (if own_N (gg 1) (1 : Int32) lo hi then 1 else 0 : Int32) = 0 from if_neg hc243_36)).1) (by decide) (by decide) hh_) ?_
                      show own_Run p e below s _ _ _ (T35.setTop (mkF m 249 #[.val (.int r1), .val (.int p0), .val (.int p1), .val (.int p2), .val (.int p3), .val (.int p4), .val (.ref ob1), .val (.int ((r1 &&& (7 : Int32)) % (6 : Int32))), .val (.int ((((r1.toUInt32 >>> ((3 : Int32) &&& 31).toUInt32).toInt32) &&& (7 : Int32)) % (6 : Int32))), .val (.int lo), .val (.int hi), .unset, .val (.int (1 : Int32)), .val (.int v3)] []))
                      exact J249 _ _ X35 e35 N35 _ (by rw [if_neg hc243_36]; exact hv3)
                  refine own_of (fun _ hh_ => XS.aload Xc29.here hx rfl (hb hby at_217) rfl rfl hh_) ?_
                  show own_Run p e below s _ _ _ (Tc29.setTop (mkF m 219 #[.val (.int r1), .val (.int p0), .val (.int p1), .val (.int p2), .val (.int p3), .val (.int p4), .val (.ref ob1), .val (.int ((r1 &&& (7 : Int32)) % (6 : Int32))), .val (.int ((((r1.toUInt32 >>> ((3 : Int32) &&& 31).toUInt32).toInt32) &&& (7 : Int32)) % (6 : Int32))), .val (.int lo), .val (.int hi), .unset, .val (.int (1 : Int32)), .val (.int v2)] [(.ref ob1)]))
                  refine own_of (fun _ hh_ => XS.iconst Xc29.here hx rfl (hb hby at_219) hh_) ?_
                  show own_Run p e below s _ _ _ (Tc29.setTop (mkF m 220 #[.val (.int r1), .val (.int p0), .val (.int p1), .val (.int p2), .val (.int p3), .val (.int p4), .val (.ref ob1), .val (.int ((r1 &&& (7 : Int32)) % (6 : Int32))), .val (.int ((((r1.toUInt32 >>> ((3 : Int32) &&& 31).toUInt32).toInt32) &&& (7 : Int32)) % (6 : Int32))), .val (.int lo), .val (.int hi), .unset, .val (.int (1 : Int32)), .val (.int v2)] [(.int (2 : Int32)), (.ref ob1)]))
                  refine own_of (fun _ hh_ => XS.iload Xc29.here hx rfl (hb hby at_220) rfl hh_) ?_
                  show own_Run p e below s _ _ _ (Tc29.setTop (mkF m 222 #[.val (.int r1), .val (.int p0), .val (.int p1), .val (.int p2), .val (.int p3), .val (.int p4), .val (.ref ob1), .val (.int ((r1 &&& (7 : Int32)) % (6 : Int32))), .val (.int ((((r1.toUInt32 >>> ((3 : Int32) &&& 31).toUInt32).toInt32) &&& (7 : Int32)) % (6 : Int32))), .val (.int lo), .val (.int hi), .unset, .val (.int (1 : Int32)), .val (.int v2)] [(.int lo), (.int (2 : Int32)), (.ref ob1)]))
                  refine own_of (fun _ hh_ => XS.iload Xc29.here hx rfl (hb hby at_222) rfl hh_) ?_
                  show own_Run p e below s _ _ _ (Tc29.setTop (mkF m 224 #[.val (.int r1), .val (.int p0), .val (.int p1), .val (.int p2), .val (.int p3), .val (.int p4), .val (.ref ob1), .val (.int ((r1 &&& (7 : Int32)) % (6 : Int32))), .val (.int ((((r1.toUInt32 >>> ((3 : Int32) &&& 31).toUInt32).toInt32) &&& (7 : Int32)) % (6 : Int32))), .val (.int lo), .val (.int hi), .unset, .val (.int (1 : Int32)), .val (.int v2)] [(.int hi), (.int lo), (.int (2 : Int32)), (.ref ob1)]))
                  obtain ⟨_, _, ⟨T37, L37, k37, n37⟩, -, X37, ⟨Lc37, hQ37, l37, y37, z37⟩, st37⟩ := Jvm.LawKit.callS Xc29 hx (y := (⟨"com/example/lanchid/lanchid/records/WholeNumberFirstDigitPinLaw", "nz", "([BIII)Z"⟩ : MethodName)) hown (mvT hZ (hw _ (List.mem_of_getElem? (i := 22) rfl))) (mvT hZ (hw _ (List.mem_of_getElem? (i := 23) rfl))) (mvT hZ (hw _ (List.mem_of_getElem? (i := 3) rfl))) (mvT hZ (hw _ (List.mem_of_getElem? (i := 24) rfl))) (by decide) (backOf (W := 0) (rmN l Z a0 hw [] ob1 (2 : Int32) lo hi 5 gg (gg 2) h11 n0 (Nat.le_trans (Nat.le_trans (Nat.le_trans (Nat.le_trans (Nat.le_trans (Nat.le_trans Z0 E1.1) (Nat.le_of_eq W3.size.symm)) (Nat.le_of_eq W5.size.symm)) (Nat.le_of_eq W7.size.symm)) (Nat.le_of_eq W9.size.symm)) (Nat.le_of_eq W11.size.symm)) Vg (by decide) (by decide) rfl) hZ (hw _ (List.mem_of_getElem? (i := 24) rfl)) (hw _ (List.mem_of_getElem? (i := 3) rfl)) (by decide) (by decide)) (g := (mkF m 224 #[.val (.int r1), .val (.int p0), .val (.int p1), .val (.int p2), .val (.int p3), .val (.int p4), .val (.ref ob1), .val (.int ((r1 &&& (7 : Int32)) % (6 : Int32))), .val (.int ((((r1.toUInt32 >>> ((3 : Int32) &&& 31).toUInt32).toInt32) &&& (7 : Int32)) % (6 : Int32))), .val (.int lo), .val (.int hi), .unset, .val (.int (1 : Int32)), .val (.int v2)] [(.int hi), (.int lo), (.int (2 : Int32)), (.ref ob1)])) rfl (by rw [hml]; rfl) (argsL := [(.ref ob1), (.int (2 : Int32)), (.int lo), (.int hi)]) (rest := []) (lenOf own_pd4 rfl) rfl (by show 2 * 0 + _ ≤ _; exact Nat.le_of_eq rfl) (hb hby at_224) (fun _ _ => ⟨rfl, ec29, (by decide : 1 + 0 ≤ _), (by decide : 5 + 0 ≤ _)⟩)
                  dsimp only [Pt.U, Pt.locs, Pt.cells, Pt.slots] at X37 l37 y37 z37 st37 hQ37
                  subst l37 y37 z37
                  obtain ⟨rfl, N37q, e37⟩ := hQ37
                  have N37 := Fr.app Nc29 N37q
                  refine own_of st37 ?_
                  show own_Run p e below s _ _ _ (T37.setTop (mkF m 227 #[.val (.int r1), .val (.int p0), .val (.int p1), .val (.int p2), .val (.int p3), .val (.int p4), .val (.ref ob1), .val (.int ((r1 &&& (7 : Int32)) % (6 : Int32))), .val (.int ((((r1.toUInt32 >>> ((3 : Int32) &&& 31).toUInt32).toInt32) &&& (7 : Int32)) % (6 : Int32))), .val (.int lo), .val (.int hi), .unset, .val (.int (1 : Int32)), .val (.int v2)] [(.int (if own_N (gg 2) (2 : Int32) lo hi then 1 else 0 : Int32))]))
                  by_cases hc227_38 : own_N (gg 2) (2 : Int32) lo hi
                  · refine own_of (fun _ hh_ => XS.ifNo X37.here hx rfl (hb hby at_227) rfl ((if0 _ _).trans (feq (show ¬ ((if own_N (gg 2) (2 : Int32) lo hi then 1 else 0 : Int32) = 0) from by rw [if_pos hc227_38]; decide)).1) hh_) ?_
                    show own_Run p e below s _ _ _ (T37.setTop (mkF m 230 #[.val (.int r1), .val (.int p0), .val (.int p1), .val (.int p2), .val (.int p3), .val (.int p4), .val (.ref ob1), .val (.int ((r1 &&& (7 : Int32)) % (6 : Int32))), .val (.int ((((r1.toUInt32 >>> ((3 : Int32) &&& 31).toUInt32).toInt32) &&& (7 : Int32)) % (6 : Int32))), .val (.int lo), .val (.int hi), .unset, .val (.int (1 : Int32)), .val (.int v2)] []))
                    refine own_of (fun _ hh_ => XS.iconst X37.here hx rfl (hb hby at_230) hh_) ?_
                    show own_Run p e below s _ _ _ (T37.setTop (mkF m 231 #[.val (.int r1), .val (.int p0), .val (.int p1), .val (.int p2), .val (.int p3), .val (.int p4), .val (.ref ob1), .val (.int ((r1 &&& (7 : Int32)) % (6 : Int32))), .val (.int ((((r1.toUInt32 >>> ((3 : Int32) &&& 31).toUInt32).toInt32) &&& (7 : Int32)) % (6 : Int32))), .val (.int lo), .val (.int hi), .unset, .val (.int (1 : Int32)), .val (.int v2)] [(.int (2 : Int32))]))
                    refine own_of (fun _ hh_ => XS.istore X37.here hx rfl (hb hby at_231) rfl (l' := #[.val (.int r1), .val (.int p0), .val (.int p1), .val (.int p2), .val (.int p3), .val (.int p4), .val (.ref ob1), .val (.int ((r1 &&& (7 : Int32)) % (6 : Int32))), .val (.int ((((r1.toUInt32 >>> ((3 : Int32) &&& 31).toUInt32).toInt32) &&& (7 : Int32)) % (6 : Int32))), .val (.int lo), .val (.int hi), .unset, .val (.int (1 : Int32)), .val (.int (2 : Int32))]) rfl hh_) ?_
                    show own_Run p e below s _ _ _ (T37.setTop (mkF m 233 #[.val (.int r1), .val (.int p0), .val (.int p1), .val (.int p2), .val (.int p3), .val (.int p4), .val (.ref ob1), .val (.int ((r1 &&& (7 : Int32)) % (6 : Int32))), .val (.int ((((r1.toUInt32 >>> ((3 : Int32) &&& 31).toUInt32).toInt32) &&& (7 : Int32)) % (6 : Int32))), .val (.int lo), .val (.int hi), .unset, .val (.int (1 : Int32)), .val (.int (2 : Int32))] []))
                    exact J233 _ _ X37 e37 N37 _ (by rw [if_pos hc227_38])
                  · refine own_of (fun _ hh_ => XS.ifYes X37.here hx rfl (pc0 := 227) (pc' := 233) rfl (hb hby at_227) rfl ((if0 _ _).trans (teq (show (if own_N (gg 2) (2 : Int32) lo hi then 1 else 0 : Int32) = 0 from if_neg hc227_38)).1) (by decide) (by decide) hh_) ?_
                    show own_Run p e below s _ _ _ (T37.setTop (mkF m 233 #[.val (.int r1), .val (.int p0), .val (.int p1), .val (.int p2), .val (.int p3), .val (.int p4), .val (.ref ob1), .val (.int ((r1 &&& (7 : Int32)) % (6 : Int32))), .val (.int ((((r1.toUInt32 >>> ((3 : Int32) &&& 31).toUInt32).toInt32) &&& (7 : Int32)) % (6 : Int32))), .val (.int lo), .val (.int hi), .unset, .val (.int (1 : Int32)), .val (.int v2)] []))
                    exact J233 _ _ X37 e37 N37 _ (by rw [if_neg hc227_38]; exact hv2)
                refine own_of (fun _ hh_ => XS.aload Xc28.here hx rfl (hb hby at_201) rfl rfl hh_) ?_
                show own_Run p e below s _ _ _ (Tc28.setTop (mkF m 203 #[.val (.int r1), .val (.int p0), .val (.int p1), .val (.int p2), .val (.int p3), .val (.int p4), .val (.ref ob1), .val (.int ((r1 &&& (7 : Int32)) % (6 : Int32))), .val (.int ((((r1.toUInt32 >>> ((3 : Int32) &&& 31).toUInt32).toInt32) &&& (7 : Int32)) % (6 : Int32))), .val (.int lo), .val (.int hi), .unset, .val (.int (1 : Int32)), .val (.int v1)] [(.ref ob1)]))
                refine own_of (fun _ hh_ => XS.iconst Xc28.here hx rfl (hb hby at_203) hh_) ?_
                show own_Run p e below s _ _ _ (Tc28.setTop (mkF m 204 #[.val (.int r1), .val (.int p0), .val (.int p1), .val (.int p2), .val (.int p3), .val (.int p4), .val (.ref ob1), .val (.int ((r1 &&& (7 : Int32)) % (6 : Int32))), .val (.int ((((r1.toUInt32 >>> ((3 : Int32) &&& 31).toUInt32).toInt32) &&& (7 : Int32)) % (6 : Int32))), .val (.int lo), .val (.int hi), .unset, .val (.int (1 : Int32)), .val (.int v1)] [(.int (3 : Int32)), (.ref ob1)]))
                refine own_of (fun _ hh_ => XS.iload Xc28.here hx rfl (hb hby at_204) rfl hh_) ?_
                show own_Run p e below s _ _ _ (Tc28.setTop (mkF m 206 #[.val (.int r1), .val (.int p0), .val (.int p1), .val (.int p2), .val (.int p3), .val (.int p4), .val (.ref ob1), .val (.int ((r1 &&& (7 : Int32)) % (6 : Int32))), .val (.int ((((r1.toUInt32 >>> ((3 : Int32) &&& 31).toUInt32).toInt32) &&& (7 : Int32)) % (6 : Int32))), .val (.int lo), .val (.int hi), .unset, .val (.int (1 : Int32)), .val (.int v1)] [(.int lo), (.int (3 : Int32)), (.ref ob1)]))
                refine own_of (fun _ hh_ => XS.iload Xc28.here hx rfl (hb hby at_206) rfl hh_) ?_
                show own_Run p e below s _ _ _ (Tc28.setTop (mkF m 208 #[.val (.int r1), .val (.int p0), .val (.int p1), .val (.int p2), .val (.int p3), .val (.int p4), .val (.ref ob1), .val (.int ((r1 &&& (7 : Int32)) % (6 : Int32))), .val (.int ((((r1.toUInt32 >>> ((3 : Int32) &&& 31).toUInt32).toInt32) &&& (7 : Int32)) % (6 : Int32))), .val (.int lo), .val (.int hi), .unset, .val (.int (1 : Int32)), .val (.int v1)] [(.int hi), (.int lo), (.int (3 : Int32)), (.ref ob1)]))
                obtain ⟨_, _, ⟨T39, L39, k39, n39⟩, -, X39, ⟨Lc39, hQ39, l39, y39, z39⟩, st39⟩ := Jvm.LawKit.callS Xc28 hx (y := (⟨"com/example/lanchid/lanchid/records/WholeNumberFirstDigitPinLaw", "nz", "([BIII)Z"⟩ : MethodName)) hown (mvT hZ (hw _ (List.mem_of_getElem? (i := 22) rfl))) (mvT hZ (hw _ (List.mem_of_getElem? (i := 23) rfl))) (mvT hZ (hw _ (List.mem_of_getElem? (i := 3) rfl))) (mvT hZ (hw _ (List.mem_of_getElem? (i := 24) rfl))) (by decide) (backOf (W := 0) (rmN l Z a0 hw [] ob1 (3 : Int32) lo hi 5 gg (gg 3) h11 n0 (Nat.le_trans (Nat.le_trans (Nat.le_trans (Nat.le_trans (Nat.le_trans (Nat.le_trans Z0 E1.1) (Nat.le_of_eq W3.size.symm)) (Nat.le_of_eq W5.size.symm)) (Nat.le_of_eq W7.size.symm)) (Nat.le_of_eq W9.size.symm)) (Nat.le_of_eq W11.size.symm)) Vg (by decide) (by decide) rfl) hZ (hw _ (List.mem_of_getElem? (i := 24) rfl)) (hw _ (List.mem_of_getElem? (i := 3) rfl)) (by decide) (by decide)) (g := (mkF m 208 #[.val (.int r1), .val (.int p0), .val (.int p1), .val (.int p2), .val (.int p3), .val (.int p4), .val (.ref ob1), .val (.int ((r1 &&& (7 : Int32)) % (6 : Int32))), .val (.int ((((r1.toUInt32 >>> ((3 : Int32) &&& 31).toUInt32).toInt32) &&& (7 : Int32)) % (6 : Int32))), .val (.int lo), .val (.int hi), .unset, .val (.int (1 : Int32)), .val (.int v1)] [(.int hi), (.int lo), (.int (3 : Int32)), (.ref ob1)])) rfl (by rw [hml]; rfl) (argsL := [(.ref ob1), (.int (3 : Int32)), (.int lo), (.int hi)]) (rest := []) (lenOf own_pd4 rfl) rfl (by show 2 * 0 + _ ≤ _; exact Nat.le_of_eq rfl) (hb hby at_208) (fun _ _ => ⟨rfl, ec28, (by decide : 1 + 0 ≤ _), (by decide : 5 + 0 ≤ _)⟩)
                dsimp only [Pt.U, Pt.locs, Pt.cells, Pt.slots] at X39 l39 y39 z39 st39 hQ39
                subst l39 y39 z39
                obtain ⟨rfl, N39q, e39⟩ := hQ39
                have N39 := Fr.app Nc28 N39q
                refine own_of st39 ?_
                show own_Run p e below s _ _ _ (T39.setTop (mkF m 211 #[.val (.int r1), .val (.int p0), .val (.int p1), .val (.int p2), .val (.int p3), .val (.int p4), .val (.ref ob1), .val (.int ((r1 &&& (7 : Int32)) % (6 : Int32))), .val (.int ((((r1.toUInt32 >>> ((3 : Int32) &&& 31).toUInt32).toInt32) &&& (7 : Int32)) % (6 : Int32))), .val (.int lo), .val (.int hi), .unset, .val (.int (1 : Int32)), .val (.int v1)] [(.int (if own_N (gg 3) (3 : Int32) lo hi then 1 else 0 : Int32))]))
                by_cases hc211_40 : own_N (gg 3) (3 : Int32) lo hi
                · refine own_of (fun _ hh_ => XS.ifNo X39.here hx rfl (hb hby at_211) rfl ((if0 _ _).trans (feq (show ¬ ((if own_N (gg 3) (3 : Int32) lo hi then 1 else 0 : Int32) = 0) from by rw [if_pos hc211_40]; decide)).1) hh_) ?_
                  show own_Run p e below s _ _ _ (T39.setTop (mkF m 214 #[.val (.int r1), .val (.int p0), .val (.int p1), .val (.int p2), .val (.int p3), .val (.int p4), .val (.ref ob1), .val (.int ((r1 &&& (7 : Int32)) % (6 : Int32))), .val (.int ((((r1.toUInt32 >>> ((3 : Int32) &&& 31).toUInt32).toInt32) &&& (7 : Int32)) % (6 : Int32))), .val (.int lo), .val (.int hi), .unset, .val (.int (1 : Int32)), .val (.int v1)] []))
                  refine own_of (fun _ hh_ => XS.iconst X39.here hx rfl (hb hby at_214) hh_) ?_
                  show own_Run p e below s _ _ _ (T39.setTop (mkF m 215 #[.val (.int r1), .val (.int p0), .val (.int p1), .val (.int p2), .val (.int p3), .val (.int p4), .val (.ref ob1), .val (.int ((r1 &&& (7 : Int32)) % (6 : Int32))), .val (.int ((((r1.toUInt32 >>> ((3 : Int32) &&& 31).toUInt32).toInt32) &&& (7 : Int32)) % (6 : Int32))), .val (.int lo), .val (.int hi), .unset, .val (.int (1 : Int32)), .val (.int v1)] [(.int (3 : Int32))]))
                  refine own_of (fun _ hh_ => XS.istore X39.here hx rfl (hb hby at_215) rfl (l' := #[.val (.int r1), .val (.int p0), .val (.int p1), .val (.int p2), .val (.int p3), .val (.int p4), .val (.ref ob1), .val (.int ((r1 &&& (7 : Int32)) % (6 : Int32))), .val (.int ((((r1.toUInt32 >>> ((3 : Int32) &&& 31).toUInt32).toInt32) &&& (7 : Int32)) % (6 : Int32))), .val (.int lo), .val (.int hi), .unset, .val (.int (1 : Int32)), .val (.int (3 : Int32))]) rfl hh_) ?_
                  show own_Run p e below s _ _ _ (T39.setTop (mkF m 217 #[.val (.int r1), .val (.int p0), .val (.int p1), .val (.int p2), .val (.int p3), .val (.int p4), .val (.ref ob1), .val (.int ((r1 &&& (7 : Int32)) % (6 : Int32))), .val (.int ((((r1.toUInt32 >>> ((3 : Int32) &&& 31).toUInt32).toInt32) &&& (7 : Int32)) % (6 : Int32))), .val (.int lo), .val (.int hi), .unset, .val (.int (1 : Int32)), .val (.int (3 : Int32))] []))
                  exact J217 _ _ X39 e39 N39 _ (by rw [if_pos hc211_40])
                · refine own_of (fun _ hh_ => XS.ifYes X39.here hx rfl (pc0 := 211) (pc' := 217) rfl (hb hby at_211) rfl ((if0 _ _).trans (teq (show (if own_N (gg 3) (3 : Int32) lo hi then 1 else 0 : Int32) = 0 from if_neg hc211_40)).1) (by decide) (by decide) hh_) ?_
                  show own_Run p e below s _ _ _ (T39.setTop (mkF m 217 #[.val (.int r1), .val (.int p0), .val (.int p1), .val (.int p2), .val (.int p3), .val (.int p4), .val (.ref ob1), .val (.int ((r1 &&& (7 : Int32)) % (6 : Int32))), .val (.int ((((r1.toUInt32 >>> ((3 : Int32) &&& 31).toUInt32).toInt32) &&& (7 : Int32)) % (6 : Int32))), .val (.int lo), .val (.int hi), .unset, .val (.int (1 : Int32)), .val (.int v1)] []))
                  exact J217 _ _ X39 e39 N39 _ (by rw [if_neg hc211_40]; exact hv1)
              refine own_of (fun _ hh_ => XS.aload X26.here hx rfl (hb hby at_185) rfl rfl hh_) ?_
              show own_Run p e below s _ _ _ (T26.setTop (mkF m 187 #[.val (.int r1), .val (.int p0), .val (.int p1), .val (.int p2), .val (.int p3), .val (.int p4), .val (.ref ob1), .val (.int ((r1 &&& (7 : Int32)) % (6 : Int32))), .val (.int ((((r1.toUInt32 >>> ((3 : Int32) &&& 31).toUInt32).toInt32) &&& (7 : Int32)) % (6 : Int32))), .val (.int lo), .val (.int hi), .unset, .val (.int (1 : Int32)), .val (.int hi)] [(.ref ob1)]))
              refine own_of (fun _ hh_ => XS.iconst X26.here hx rfl (hb hby at_187) hh_) ?_
              show own_Run p e below s _ _ _ (T26.setTop (mkF m 188 #[.val (.int r1), .val (.int p0), .val (.int p1), .val (.int p2), .val (.int p3), .val (.int p4), .val (.ref ob1), .val (.int ((r1 &&& (7 : Int32)) % (6 : Int32))), .val (.int ((((r1.toUInt32 >>> ((3 : Int32) &&& 31).toUInt32).toInt32) &&& (7 : Int32)) % (6 : Int32))), .val (.int lo), .val (.int hi), .unset, .val (.int (1 : Int32)), .val (.int hi)] [(.int (4 : Int32)), (.ref ob1)]))
              refine own_of (fun _ hh_ => XS.iload X26.here hx rfl (hb hby at_188) rfl hh_) ?_
              show own_Run p e below s _ _ _ (T26.setTop (mkF m 190 #[.val (.int r1), .val (.int p0), .val (.int p1), .val (.int p2), .val (.int p3), .val (.int p4), .val (.ref ob1), .val (.int ((r1 &&& (7 : Int32)) % (6 : Int32))), .val (.int ((((r1.toUInt32 >>> ((3 : Int32) &&& 31).toUInt32).toInt32) &&& (7 : Int32)) % (6 : Int32))), .val (.int lo), .val (.int hi), .unset, .val (.int (1 : Int32)), .val (.int hi)] [(.int lo), (.int (4 : Int32)), (.ref ob1)]))
              refine own_of (fun _ hh_ => XS.iload X26.here hx rfl (hb hby at_190) rfl hh_) ?_
              show own_Run p e below s _ _ _ (T26.setTop (mkF m 192 #[.val (.int r1), .val (.int p0), .val (.int p1), .val (.int p2), .val (.int p3), .val (.int p4), .val (.ref ob1), .val (.int ((r1 &&& (7 : Int32)) % (6 : Int32))), .val (.int ((((r1.toUInt32 >>> ((3 : Int32) &&& 31).toUInt32).toInt32) &&& (7 : Int32)) % (6 : Int32))), .val (.int lo), .val (.int hi), .unset, .val (.int (1 : Int32)), .val (.int hi)] [(.int hi), (.int lo), (.int (4 : Int32)), (.ref ob1)]))
              obtain ⟨_, _, ⟨T41, L41, k41, n41⟩, -, X41, ⟨Lc41, hQ41, l41, y41, z41⟩, st41⟩ := Jvm.LawKit.callS X26 hx (y := (⟨"com/example/lanchid/lanchid/records/WholeNumberFirstDigitPinLaw", "nz", "([BIII)Z"⟩ : MethodName)) hown (mvT hZ (hw _ (List.mem_of_getElem? (i := 22) rfl))) (mvT hZ (hw _ (List.mem_of_getElem? (i := 23) rfl))) (mvT hZ (hw _ (List.mem_of_getElem? (i := 3) rfl))) (mvT hZ (hw _ (List.mem_of_getElem? (i := 24) rfl))) (by decide) (backOf (W := 0) (rmN l Z a0 hw [] ob1 (4 : Int32) lo hi 5 gg (gg 4) h11 n0 (Nat.le_trans (Nat.le_trans (Nat.le_trans (Nat.le_trans (Nat.le_trans (Nat.le_trans Z0 E1.1) (Nat.le_of_eq W3.size.symm)) (Nat.le_of_eq W5.size.symm)) (Nat.le_of_eq W7.size.symm)) (Nat.le_of_eq W9.size.symm)) (Nat.le_of_eq W11.size.symm)) Vg (by decide) (by decide) rfl) hZ (hw _ (List.mem_of_getElem? (i := 24) rfl)) (hw _ (List.mem_of_getElem? (i := 3) rfl)) (by decide) (by decide)) (g := (mkF m 192 #[.val (.int r1), .val (.int p0), .val (.int p1), .val (.int p2), .val (.int p3), .val (.int p4), .val (.ref ob1), .val (.int ((r1 &&& (7 : Int32)) % (6 : Int32))), .val (.int ((((r1.toUInt32 >>> ((3 : Int32) &&& 31).toUInt32).toInt32) &&& (7 : Int32)) % (6 : Int32))), .val (.int lo), .val (.int hi), .unset, .val (.int (1 : Int32)), .val (.int hi)] [(.int hi), (.int lo), (.int (4 : Int32)), (.ref ob1)])) rfl (by rw [hml]; rfl) (argsL := [(.ref ob1), (.int (4 : Int32)), (.int lo), (.int hi)]) (rest := []) (lenOf own_pd4 rfl) rfl (by show 2 * 0 + _ ≤ _; exact Nat.le_of_eq rfl) (hb hby at_192) (fun _ _ => ⟨rfl, e26, (by decide : 1 + 0 ≤ _), (by decide : 5 + 0 ≤ _)⟩)
              dsimp only [Pt.U, Pt.locs, Pt.cells, Pt.slots] at X41 l41 y41 z41 st41 hQ41
              subst l41 y41 z41
              obtain ⟨rfl, N41q, e41⟩ := hQ41
              have N41 := Fr.app N26 N41q
              refine own_of st41 ?_
              show own_Run p e below s _ _ _ (T41.setTop (mkF m 195 #[.val (.int r1), .val (.int p0), .val (.int p1), .val (.int p2), .val (.int p3), .val (.int p4), .val (.ref ob1), .val (.int ((r1 &&& (7 : Int32)) % (6 : Int32))), .val (.int ((((r1.toUInt32 >>> ((3 : Int32) &&& 31).toUInt32).toInt32) &&& (7 : Int32)) % (6 : Int32))), .val (.int lo), .val (.int hi), .unset, .val (.int (1 : Int32)), .val (.int hi)] [(.int (if own_N (gg 4) (4 : Int32) lo hi then 1 else 0 : Int32))]))
              by_cases hc195_42 : own_N (gg 4) (4 : Int32) lo hi
              · refine own_of (fun _ hh_ => XS.ifNo X41.here hx rfl (hb hby at_195) rfl ((if0 _ _).trans (feq (show ¬ ((if own_N (gg 4) (4 : Int32) lo hi then 1 else 0 : Int32) = 0) from by rw [if_pos hc195_42]; decide)).1) hh_) ?_
                show own_Run p e below s _ _ _ (T41.setTop (mkF m 198 #[.val (.int r1), .val (.int p0), .val (.int p1), .val (.int p2), .val (.int p3), .val (.int p4), .val (.ref ob1), .val (.int ((r1 &&& (7 : Int32)) % (6 : Int32))), .val (.int ((((r1.toUInt32 >>> ((3 : Int32) &&& 31).toUInt32).toInt32) &&& (7 : Int32)) % (6 : Int32))), .val (.int lo), .val (.int hi), .unset, .val (.int (1 : Int32)), .val (.int hi)] []))
                refine own_of (fun _ hh_ => XS.iconst X41.here hx rfl (hb hby at_198) hh_) ?_
                show own_Run p e below s _ _ _ (T41.setTop (mkF m 199 #[.val (.int r1), .val (.int p0), .val (.int p1), .val (.int p2), .val (.int p3), .val (.int p4), .val (.ref ob1), .val (.int ((r1 &&& (7 : Int32)) % (6 : Int32))), .val (.int ((((r1.toUInt32 >>> ((3 : Int32) &&& 31).toUInt32).toInt32) &&& (7 : Int32)) % (6 : Int32))), .val (.int lo), .val (.int hi), .unset, .val (.int (1 : Int32)), .val (.int hi)] [(.int (4 : Int32))]))
                refine own_of (fun _ hh_ => XS.istore X41.here hx rfl (hb hby at_199) rfl (l' := #[.val (.int r1), .val (.int p0), .val (.int p1), .val (.int p2), .val (.int p3), .val (.int p4), .val (.ref ob1), .val (.int ((r1 &&& (7 : Int32)) % (6 : Int32))), .val (.int ((((r1.toUInt32 >>> ((3 : Int32) &&& 31).toUInt32).toInt32) &&& (7 : Int32)) % (6 : Int32))), .val (.int lo), .val (.int hi), .unset, .val (.int (1 : Int32)), .val (.int (4 : Int32))]) rfl hh_) ?_
                show own_Run p e below s _ _ _ (T41.setTop (mkF m 201 #[.val (.int r1), .val (.int p0), .val (.int p1), .val (.int p2), .val (.int p3), .val (.int p4), .val (.ref ob1), .val (.int ((r1 &&& (7 : Int32)) % (6 : Int32))), .val (.int ((((r1.toUInt32 >>> ((3 : Int32) &&& 31).toUInt32).toInt32) &&& (7 : Int32)) % (6 : Int32))), .val (.int lo), .val (.int hi), .unset, .val (.int (1 : Int32)), .val (.int (4 : Int32))] []))
                exact J201 _ _ X41 e41 N41 _ (by rw [if_pos hc195_42])
              · refine own_of (fun _ hh_ => XS.ifYes X41.here hx rfl (pc0 := 195) (pc' := 201) rfl (hb hby at_195) rfl ((if0 _ _).trans (teq (show (if own_N (gg 4) (4 : Int32) lo hi then 1 else 0 : Int32) = 0 from if_neg hc195_42)).1) (by decide) (by decide) hh_) ?_
                show own_Run p e below s _ _ _ (T41.setTop (mkF m 201 #[.val (.int r1), .val (.int p0), .val (.int p1), .val (.int p2), .val (.int p3), .val (.int p4), .val (.ref ob1), .val (.int ((r1 &&& (7 : Int32)) % (6 : Int32))), .val (.int ((((r1.toUInt32 >>> ((3 : Int32) &&& 31).toUInt32).toInt32) &&& (7 : Int32)) % (6 : Int32))), .val (.int lo), .val (.int hi), .unset, .val (.int (1 : Int32)), .val (.int hi)] []))
                exact J201 _ _ X41 e41 N41 _ (by rw [if_neg hc195_42])
            · refine own_of (fun _ hh_ => XS.ifYes X26.here hx rfl (pc0 := 160) (pc' := 167) rfl (hb hby at_160) rfl ((if0 _ _).trans (teq (show (if own_F (gg 4) (4 : Int32) lo hi then 1 else 0 : Int32) = 0 from if_neg hc160_27)).1) (by decide) (by decide) hh_) ?_
              show own_Run p e below s _ _ _ (T26.setTop (mkF m 167 #[.val (.int r1), .val (.int p0), .val (.int p1), .val (.int p2), .val (.int p3), .val (.int p4), .val (.ref ob1), .val (.int ((r1 &&& (7 : Int32)) % (6 : Int32))), .val (.int ((((r1.toUInt32 >>> ((3 : Int32) &&& 31).toUInt32).toInt32) &&& (7 : Int32)) % (6 : Int32))), .val (.int lo), .val (.int hi), .unset, .unset, .unset] []))
              refine own_of (fun _ hh_ => XS.iconst X26.here hx rfl (hb hby at_167) hh_) ?_
              show own_Run p e below s _ _ _ (T26.setTop (mkF m 168 #[.val (.int r1), .val (.int p0), .val (.int p1), .val (.int p2), .val (.int p3), .val (.int p4), .val (.ref ob1), .val (.int ((r1 &&& (7 : Int32)) % (6 : Int32))), .val (.int ((((r1.toUInt32 >>> ((3 : Int32) &&& 31).toUInt32).toInt32) &&& (7 : Int32)) % (6 : Int32))), .val (.int lo), .val (.int hi), .unset, .unset, .unset] [(.int (0 : Int32))]))
              refine own_of (fun _ hh_ => XS.istore X26.here hx rfl (hb hby at_168) rfl (l' := #[.val (.int r1), .val (.int p0), .val (.int p1), .val (.int p2), .val (.int p3), .val (.int p4), .val (.ref ob1), .val (.int ((r1 &&& (7 : Int32)) % (6 : Int32))), .val (.int ((((r1.toUInt32 >>> ((3 : Int32) &&& 31).toUInt32).toInt32) &&& (7 : Int32)) % (6 : Int32))), .val (.int lo), .val (.int hi), .unset, .val (.int (0 : Int32)), .unset]) rfl hh_) ?_
              show own_Run p e below s _ _ _ (T26.setTop (mkF m 170 #[.val (.int r1), .val (.int p0), .val (.int p1), .val (.int p2), .val (.int p3), .val (.int p4), .val (.ref ob1), .val (.int ((r1 &&& (7 : Int32)) % (6 : Int32))), .val (.int ((((r1.toUInt32 >>> ((3 : Int32) &&& 31).toUInt32).toInt32) &&& (7 : Int32)) % (6 : Int32))), .val (.int lo), .val (.int hi), .unset, .val (.int (0 : Int32)), .unset] []))
              refine own_of (fun _ hh_ => XS.iload X26.here hx rfl (hb hby at_170) rfl hh_) ?_
              show own_Run p e below s _ _ _ (T26.setTop (mkF m 172 #[.val (.int r1), .val (.int p0), .val (.int p1), .val (.int p2), .val (.int p3), .val (.int p4), .val (.ref ob1), .val (.int ((r1 &&& (7 : Int32)) % (6 : Int32))), .val (.int ((((r1.toUInt32 >>> ((3 : Int32) &&& 31).toUInt32).toInt32) &&& (7 : Int32)) % (6 : Int32))), .val (.int lo), .val (.int hi), .unset, .val (.int (0 : Int32)), .unset] [(.int (0 : Int32))]))
              refine own_of (fun _ hh_ => XS.ifNo X26.here hx rfl (hb hby at_172) rfl ((if0 _ _).trans (by decide)) hh_) ?_
              show own_Run p e below s _ _ _ (T26.setTop (mkF m 175 #[.val (.int r1), .val (.int p0), .val (.int p1), .val (.int p2), .val (.int p3), .val (.int p4), .val (.ref ob1), .val (.int ((r1 &&& (7 : Int32)) % (6 : Int32))), .val (.int ((((r1.toUInt32 >>> ((3 : Int32) &&& 31).toUInt32).toInt32) &&& (7 : Int32)) % (6 : Int32))), .val (.int lo), .val (.int hi), .unset, .val (.int (0 : Int32)), .unset] []))
              refine own_of (fun _ hh_ => XS.iconst X26.here hx rfl (hb hby at_175) hh_) ?_
              show own_Run p e below s _ _ _ (T26.setTop (mkF m 176 #[.val (.int r1), .val (.int p0), .val (.int p1), .val (.int p2), .val (.int p3), .val (.int p4), .val (.ref ob1), .val (.int ((r1 &&& (7 : Int32)) % (6 : Int32))), .val (.int ((((r1.toUInt32 >>> ((3 : Int32) &&& 31).toUInt32).toInt32) &&& (7 : Int32)) % (6 : Int32))), .val (.int lo), .val (.int hi), .unset, .val (.int (0 : Int32)), .unset] [(.int (-1 : Int32))]))
              refine own_of (fun _ hh_ => XS.istore X26.here hx rfl (hb hby at_176) rfl (l' := #[.val (.int r1), .val (.int p0), .val (.int p1), .val (.int p2), .val (.int p3), .val (.int p4), .val (.ref ob1), .val (.int ((r1 &&& (7 : Int32)) % (6 : Int32))), .val (.int ((((r1.toUInt32 >>> ((3 : Int32) &&& 31).toUInt32).toInt32) &&& (7 : Int32)) % (6 : Int32))), .val (.int lo), .val (.int hi), .val (.int (-1 : Int32)), .val (.int (0 : Int32)), .unset]) rfl hh_) ?_
              show own_Run p e below s _ _ _ (T26.setTop (mkF m 178 #[.val (.int r1), .val (.int p0), .val (.int p1), .val (.int p2), .val (.int p3), .val (.int p4), .val (.ref ob1), .val (.int ((r1 &&& (7 : Int32)) % (6 : Int32))), .val (.int ((((r1.toUInt32 >>> ((3 : Int32) &&& 31).toUInt32).toInt32) &&& (7 : Int32)) % (6 : Int32))), .val (.int lo), .val (.int hi), .val (.int (-1 : Int32)), .val (.int (0 : Int32)), .unset] []))
              refine own_of (fun _ hh_ => XS.goto X26.here hx rfl (pc0 := 178) (pc' := 269) rfl (hb hby at_178) (by decide) (by decide) hh_) ?_
              show own_Run p e below s _ _ _ (T26.setTop (mkF m 269 #[.val (.int r1), .val (.int p0), .val (.int p1), .val (.int p2), .val (.int p3), .val (.int p4), .val (.ref ob1), .val (.int ((r1 &&& (7 : Int32)) % (6 : Int32))), .val (.int ((((r1.toUInt32 >>> ((3 : Int32) &&& 31).toUInt32).toInt32) &&& (7 : Int32)) % (6 : Int32))), .val (.int lo), .val (.int hi), .val (.int (-1 : Int32)), .val (.int (0 : Int32)), .unset] []))
              exact J269 _ _ X26 e26 N26 _ _ _ (own_bad 4 rfl hc160_27)
          · refine own_of (fun _ hh_ => XS.ifYes X24.here hx rfl (pc0 := 147) (pc' := 167) rfl (hb hby at_147) rfl ((if0 _ _).trans (teq (show (if own_F (gg 3) (3 : Int32) lo hi then 1 else 0 : Int32) = 0 from if_neg hc147_25)).1) (by decide) (by decide) hh_) ?_
            show own_Run p e below s _ _ _ (T24.setTop (mkF m 167 #[.val (.int r1), .val (.int p0), .val (.int p1), .val (.int p2), .val (.int p3), .val (.int p4), .val (.ref ob1), .val (.int ((r1 &&& (7 : Int32)) % (6 : Int32))), .val (.int ((((r1.toUInt32 >>> ((3 : Int32) &&& 31).toUInt32).toInt32) &&& (7 : Int32)) % (6 : Int32))), .val (.int lo), .val (.int hi), .unset, .unset, .unset] []))
            refine own_of (fun _ hh_ => XS.iconst X24.here hx rfl (hb hby at_167) hh_) ?_
            show own_Run p e below s _ _ _ (T24.setTop (mkF m 168 #[.val (.int r1), .val (.int p0), .val (.int p1), .val (.int p2), .val (.int p3), .val (.int p4), .val (.ref ob1), .val (.int ((r1 &&& (7 : Int32)) % (6 : Int32))), .val (.int ((((r1.toUInt32 >>> ((3 : Int32) &&& 31).toUInt32).toInt32) &&& (7 : Int32)) % (6 : Int32))), .val (.int lo), .val (.int hi), .unset, .unset, .unset] [(.int (0 : Int32))]))
            refine own_of (fun _ hh_ => XS.istore X24.here hx rfl (hb hby at_168) rfl (l' := #[.val (.int r1), .val (.int p0), .val (.int p1), .val (.int p2), .val (.int p3), .val (.int p4), .val (.ref ob1), .val (.int ((r1 &&& (7 : Int32)) % (6 : Int32))), .val (.int ((((r1.toUInt32 >>> ((3 : Int32) &&& 31).toUInt32).toInt32) &&& (7 : Int32)) % (6 : Int32))), .val (.int lo), .val (.int hi), .unset, .val (.int (0 : Int32)), .unset]) rfl hh_) ?_
            show own_Run p e below s _ _ _ (T24.setTop (mkF m 170 #[.val (.int r1), .val (.int p0), .val (.int p1), .val (.int p2), .val (.int p3), .val (.int p4), .val (.ref ob1), .val (.int ((r1 &&& (7 : Int32)) % (6 : Int32))), .val (.int ((((r1.toUInt32 >>> ((3 : Int32) &&& 31).toUInt32).toInt32) &&& (7 : Int32)) % (6 : Int32))), .val (.int lo), .val (.int hi), .unset, .val (.int (0 : Int32)), .unset] []))
            refine own_of (fun _ hh_ => XS.iload X24.here hx rfl (hb hby at_170) rfl hh_) ?_
            show own_Run p e below s _ _ _ (T24.setTop (mkF m 172 #[.val (.int r1), .val (.int p0), .val (.int p1), .val (.int p2), .val (.int p3), .val (.int p4), .val (.ref ob1), .val (.int ((r1 &&& (7 : Int32)) % (6 : Int32))), .val (.int ((((r1.toUInt32 >>> ((3 : Int32) &&& 31).toUInt32).toInt32) &&& (7 : Int32)) % (6 : Int32))), .val (.int lo), .val (.int hi), .unset, .val (.int (0 : Int32)), .unset] [(.int (0 : Int32))]))
            refine own_of (fun _ hh_ => XS.ifNo X24.here hx rfl (hb hby at_172) rfl ((if0 _ _).trans (by decide)) hh_) ?_
            show own_Run p e below s _ _ _ (T24.setTop (mkF m 175 #[.val (.int r1), .val (.int p0), .val (.int p1), .val (.int p2), .val (.int p3), .val (.int p4), .val (.ref ob1), .val (.int ((r1 &&& (7 : Int32)) % (6 : Int32))), .val (.int ((((r1.toUInt32 >>> ((3 : Int32) &&& 31).toUInt32).toInt32) &&& (7 : Int32)) % (6 : Int32))), .val (.int lo), .val (.int hi), .unset, .val (.int (0 : Int32)), .unset] []))
            refine own_of (fun _ hh_ => XS.iconst X24.here hx rfl (hb hby at_175) hh_) ?_
            show own_Run p e below s _ _ _ (T24.setTop (mkF m 176 #[.val (.int r1), .val (.int p0), .val (.int p1), .val (.int p2), .val (.int p3), .val (.int p4), .val (.ref ob1), .val (.int ((r1 &&& (7 : Int32)) % (6 : Int32))), .val (.int ((((r1.toUInt32 >>> ((3 : Int32) &&& 31).toUInt32).toInt32) &&& (7 : Int32)) % (6 : Int32))), .val (.int lo), .val (.int hi), .unset, .val (.int (0 : Int32)), .unset] [(.int (-1 : Int32))]))
            refine own_of (fun _ hh_ => XS.istore X24.here hx rfl (hb hby at_176) rfl (l' := #[.val (.int r1), .val (.int p0), .val (.int p1), .val (.int p2), .val (.int p3), .val (.int p4), .val (.ref ob1), .val (.int ((r1 &&& (7 : Int32)) % (6 : Int32))), .val (.int ((((r1.toUInt32 >>> ((3 : Int32) &&& 31).toUInt32).toInt32) &&& (7 : Int32)) % (6 : Int32))), .val (.int lo), .val (.int hi), .val (.int (-1 : Int32)), .val (.int (0 : Int32)), .unset]) rfl hh_) ?_
            show own_Run p e below s _ _ _ (T24.setTop (mkF m 178 #[.val (.int r1), .val (.int p0), .val (.int p1), .val (.int p2), .val (.int p3), .val (.int p4), .val (.ref ob1), .val (.int ((r1 &&& (7 : Int32)) % (6 : Int32))), .val (.int ((((r1.toUInt32 >>> ((3 : Int32) &&& 31).toUInt32).toInt32) &&& (7 : Int32)) % (6 : Int32))), .val (.int lo), .val (.int hi), .val (.int (-1 : Int32)), .val (.int (0 : Int32)), .unset] []))
            refine own_of (fun _ hh_ => XS.goto X24.here hx rfl (pc0 := 178) (pc' := 269) rfl (hb hby at_178) (by decide) (by decide) hh_) ?_
            show own_Run p e below s _ _ _ (T24.setTop (mkF m 269 #[.val (.int r1), .val (.int p0), .val (.int p1), .val (.int p2), .val (.int p3), .val (.int p4), .val (.ref ob1), .val (.int ((r1 &&& (7 : Int32)) % (6 : Int32))), .val (.int ((((r1.toUInt32 >>> ((3 : Int32) &&& 31).toUInt32).toInt32) &&& (7 : Int32)) % (6 : Int32))), .val (.int lo), .val (.int hi), .val (.int (-1 : Int32)), .val (.int (0 : Int32)), .unset] []))
            exact J269 _ _ X24 e24 N24 _ _ _ (own_bad 3 rfl hc147_25)
        · refine own_of (fun _ hh_ => XS.ifYes X22.here hx rfl (pc0 := 134) (pc' := 167) rfl (hb hby at_134) rfl ((if0 _ _).trans (teq (show (if own_F (gg 2) (2 : Int32) lo hi then 1 else 0 : Int32) = 0 from if_neg hc134_23)).1) (by decide) (by decide) hh_) ?_
          show own_Run p e below s _ _ _ (T22.setTop (mkF m 167 #[.val (.int r1), .val (.int p0), .val (.int p1), .val (.int p2), .val (.int p3), .val (.int p4), .val (.ref ob1), .val (.int ((r1 &&& (7 : Int32)) % (6 : Int32))), .val (.int ((((r1.toUInt32 >>> ((3 : Int32) &&& 31).toUInt32).toInt32) &&& (7 : Int32)) % (6 : Int32))), .val (.int lo), .val (.int hi), .unset, .unset, .unset] []))
          refine own_of (fun _ hh_ => XS.iconst X22.here hx rfl (hb hby at_167) hh_) ?_
          show own_Run p e below s _ _ _ (T22.setTop (mkF m 168 #[.val (.int r1), .val (.int p0), .val (.int p1), .val (.int p2), .val (.int p3), .val (.int p4), .val (.ref ob1), .val (.int ((r1 &&& (7 : Int32)) % (6 : Int32))), .val (.int ((((r1.toUInt32 >>> ((3 : Int32) &&& 31).toUInt32).toInt32) &&& (7 : Int32)) % (6 : Int32))), .val (.int lo), .val (.int hi), .unset, .unset, .unset] [(.int (0 : Int32))]))
          refine own_of (fun _ hh_ => XS.istore X22.here hx rfl (hb hby at_168) rfl (l' := #[.val (.int r1), .val (.int p0), .val (.int p1), .val (.int p2), .val (.int p3), .val (.int p4), .val (.ref ob1), .val (.int ((r1 &&& (7 : Int32)) % (6 : Int32))), .val (.int ((((r1.toUInt32 >>> ((3 : Int32) &&& 31).toUInt32).toInt32) &&& (7 : Int32)) % (6 : Int32))), .val (.int lo), .val (.int hi), .unset, .val (.int (0 : Int32)), .unset]) rfl hh_) ?_
          show own_Run p e below s _ _ _ (T22.setTop (mkF m 170 #[.val (.int r1), .val (.int p0), .val (.int p1), .val (.int p2), .val (.int p3), .val (.int p4), .val (.ref ob1), .val (.int ((r1 &&& (7 : Int32)) % (6 : Int32))), .val (.int ((((r1.toUInt32 >>> ((3 : Int32) &&& 31).toUInt32).toInt32) &&& (7 : Int32)) % (6 : Int32))), .val (.int lo), .val (.int hi), .unset, .val (.int (0 : Int32)), .unset] []))
          refine own_of (fun _ hh_ => XS.iload X22.here hx rfl (hb hby at_170) rfl hh_) ?_
          show own_Run p e below s _ _ _ (T22.setTop (mkF m 172 #[.val (.int r1), .val (.int p0), .val (.int p1), .val (.int p2), .val (.int p3), .val (.int p4), .val (.ref ob1), .val (.int ((r1 &&& (7 : Int32)) % (6 : Int32))), .val (.int ((((r1.toUInt32 >>> ((3 : Int32) &&& 31).toUInt32).toInt32) &&& (7 : Int32)) % (6 : Int32))), .val (.int lo), .val (.int hi), .unset, .val (.int (0 : Int32)), .unset] [(.int (0 : Int32))]))
          refine own_of (fun _ hh_ => XS.ifNo X22.here hx rfl (hb hby at_172) rfl ((if0 _ _).trans (by decide)) hh_) ?_
          show own_Run p e below s _ _ _ (T22.setTop (mkF m 175 #[.val (.int r1), .val (.int p0), .val (.int p1), .val (.int p2), .val (.int p3), .val (.int p4), .val (.ref ob1), .val (.int ((r1 &&& (7 : Int32)) % (6 : Int32))), .val (.int ((((r1.toUInt32 >>> ((3 : Int32) &&& 31).toUInt32).toInt32) &&& (7 : Int32)) % (6 : Int32))), .val (.int lo), .val (.int hi), .unset, .val (.int (0 : Int32)), .unset] []))
          refine own_of (fun _ hh_ => XS.iconst X22.here hx rfl (hb hby at_175) hh_) ?_
          show own_Run p e below s _ _ _ (T22.setTop (mkF m 176 #[.val (.int r1), .val (.int p0), .val (.int p1), .val (.int p2), .val (.int p3), .val (.int p4), .val (.ref ob1), .val (.int ((r1 &&& (7 : Int32)) % (6 : Int32))), .val (.int ((((r1.toUInt32 >>> ((3 : Int32) &&& 31).toUInt32).toInt32) &&& (7 : Int32)) % (6 : Int32))), .val (.int lo), .val (.int hi), .unset, .val (.int (0 : Int32)), .unset] [(.int (-1 : Int32))]))
          refine own_of (fun _ hh_ => XS.istore X22.here hx rfl (hb hby at_176) rfl (l' := #[.val (.int r1), .val (.int p0), .val (.int p1), .val (.int p2), .val (.int p3), .val (.int p4), .val (.ref ob1), .val (.int ((r1 &&& (7 : Int32)) % (6 : Int32))), .val (.int ((((r1.toUInt32 >>> ((3 : Int32) &&& 31).toUInt32).toInt32) &&& (7 : Int32)) % (6 : Int32))), .val (.int lo), .val (.int hi), .val (.int (-1 : Int32)), .val (.int (0 : Int32)), .unset]) rfl hh_) ?_
          show own_Run p e below s _ _ _ (T22.setTop (mkF m 178 #[.val (.int r1), .val (.int p0), .val (.int p1), .val (.int p2), .val (.int p3), .val (.int p4), .val (.ref ob1), .val (.int ((r1 &&& (7 : Int32)) % (6 : Int32))), .val (.int ((((r1.toUInt32 >>> ((3 : Int32) &&& 31).toUInt32).toInt32) &&& (7 : Int32)) % (6 : Int32))), .val (.int lo), .val (.int hi), .val (.int (-1 : Int32)), .val (.int (0 : Int32)), .unset] []))
          refine own_of (fun _ hh_ => XS.goto X22.here hx rfl (pc0 := 178) (pc' := 269) rfl (hb hby at_178) (by decide) (by decide) hh_) ?_
          show own_Run p e below s _ _ _ (T22.setTop (mkF m 269 #[.val (.int r1), .val (.int p0), .val (.int p1), .val (.int p2), .val (.int p3), .val (.int p4), .val (.ref ob1), .val (.int ((r1 &&& (7 : Int32)) % (6 : Int32))), .val (.int ((((r1.toUInt32 >>> ((3 : Int32) &&& 31).toUInt32).toInt32) &&& (7 : Int32)) % (6 : Int32))), .val (.int lo), .val (.int hi), .val (.int (-1 : Int32)), .val (.int (0 : Int32)), .unset] []))
          exact J269 _ _ X22 e22 N22 _ _ _ (own_bad 2 rfl hc134_23)
      · refine own_of (fun _ hh_ => XS.ifYes X20.here hx rfl (pc0 := 121) (pc' := 167) rfl (hb hby at_121) rfl ((if0 _ _).trans (teq (show (if own_F (gg 1) (1 : Int32) lo hi then 1 else 0 : Int32) = 0 from if_neg hc121_21)).1) (by decide) (by decide) hh_) ?_
        show own_Run p e below s _ _ _ (T20.setTop (mkF m 167 #[.val (.int r1), .val (.int p0), .val (.int p1), .val (.int p2), .val (.int p3), .val (.int p4), .val (.ref ob1), .val (.int ((r1 &&& (7 : Int32)) % (6 : Int32))), .val (.int ((((r1.toUInt32 >>> ((3 : Int32) &&& 31).toUInt32).toInt32) &&& (7 : Int32)) % (6 : Int32))), .val (.int lo), .val (.int hi), .unset, .unset, .unset] []))
        refine own_of (fun _ hh_ => XS.iconst X20.here hx rfl (hb hby at_167) hh_) ?_
        show own_Run p e below s _ _ _ (T20.setTop (mkF m 168 #[.val (.int r1), .val (.int p0), .val (.int p1), .val (.int p2), .val (.int p3), .val (.int p4), .val (.ref ob1), .val (.int ((r1 &&& (7 : Int32)) % (6 : Int32))), .val (.int ((((r1.toUInt32 >>> ((3 : Int32) &&& 31).toUInt32).toInt32) &&& (7 : Int32)) % (6 : Int32))), .val (.int lo), .val (.int hi), .unset, .unset, .unset] [(.int (0 : Int32))]))
        refine own_of (fun _ hh_ => XS.istore X20.here hx rfl (hb hby at_168) rfl (l' := #[.val (.int r1), .val (.int p0), .val (.int p1), .val (.int p2), .val (.int p3), .val (.int p4), .val (.ref ob1), .val (.int ((r1 &&& (7 : Int32)) % (6 : Int32))), .val (.int ((((r1.toUInt32 >>> ((3 : Int32) &&& 31).toUInt32).toInt32) &&& (7 : Int32)) % (6 : Int32))), .val (.int lo), .val (.int hi), .unset, .val (.int (0 : Int32)), .unset]) rfl hh_) ?_
        show own_Run p e below s _ _ _ (T20.setTop (mkF m 170 #[.val (.int r1), .val (.int p0), .val (.int p1), .val (.int p2), .val (.int p3), .val (.int p4), .val (.ref ob1), .val (.int ((r1 &&& (7 : Int32)) % (6 : Int32))), .val (.int ((((r1.toUInt32 >>> ((3 : Int32) &&& 31).toUInt32).toInt32) &&& (7 : Int32)) % (6 : Int32))), .val (.int lo), .val (.int hi), .unset, .val (.int (0 : Int32)), .unset] []))
        refine own_of (fun _ hh_ => XS.iload X20.here hx rfl (hb hby at_170) rfl hh_) ?_
        show own_Run p e below s _ _ _ (T20.setTop (mkF m 172 #[.val (.int r1), .val (.int p0), .val (.int p1), .val (.int p2), .val (.int p3), .val (.int p4), .val (.ref ob1), .val (.int ((r1 &&& (7 : Int32)) % (6 : Int32))), .val (.int ((((r1.toUInt32 >>> ((3 : Int32) &&& 31).toUInt32).toInt32) &&& (7 : Int32)) % (6 : Int32))), .val (.int lo), .val (.int hi), .unset, .val (.int (0 : Int32)), .unset] [(.int (0 : Int32))]))
        refine own_of (fun _ hh_ => XS.ifNo X20.here hx rfl (hb hby at_172) rfl ((if0 _ _).trans (by decide)) hh_) ?_
        show own_Run p e below s _ _ _ (T20.setTop (mkF m 175 #[.val (.int r1), .val (.int p0), .val (.int p1), .val (.int p2), .val (.int p3), .val (.int p4), .val (.ref ob1), .val (.int ((r1 &&& (7 : Int32)) % (6 : Int32))), .val (.int ((((r1.toUInt32 >>> ((3 : Int32) &&& 31).toUInt32).toInt32) &&& (7 : Int32)) % (6 : Int32))), .val (.int lo), .val (.int hi), .unset, .val (.int (0 : Int32)), .unset] []))
        refine own_of (fun _ hh_ => XS.iconst X20.here hx rfl (hb hby at_175) hh_) ?_
        show own_Run p e below s _ _ _ (T20.setTop (mkF m 176 #[.val (.int r1), .val (.int p0), .val (.int p1), .val (.int p2), .val (.int p3), .val (.int p4), .val (.ref ob1), .val (.int ((r1 &&& (7 : Int32)) % (6 : Int32))), .val (.int ((((r1.toUInt32 >>> ((3 : Int32) &&& 31).toUInt32).toInt32) &&& (7 : Int32)) % (6 : Int32))), .val (.int lo), .val (.int hi), .unset, .val (.int (0 : Int32)), .unset] [(.int (-1 : Int32))]))
        refine own_of (fun _ hh_ => XS.istore X20.here hx rfl (hb hby at_176) rfl (l' := #[.val (.int r1), .val (.int p0), .val (.int p1), .val (.int p2), .val (.int p3), .val (.int p4), .val (.ref ob1), .val (.int ((r1 &&& (7 : Int32)) % (6 : Int32))), .val (.int ((((r1.toUInt32 >>> ((3 : Int32) &&& 31).toUInt32).toInt32) &&& (7 : Int32)) % (6 : Int32))), .val (.int lo), .val (.int hi), .val (.int (-1 : Int32)), .val (.int (0 : Int32)), .unset]) rfl hh_) ?_
        show own_Run p e below s _ _ _ (T20.setTop (mkF m 178 #[.val (.int r1), .val (.int p0), .val (.int p1), .val (.int p2), .val (.int p3), .val (.int p4), .val (.ref ob1), .val (.int ((r1 &&& (7 : Int32)) % (6 : Int32))), .val (.int ((((r1.toUInt32 >>> ((3 : Int32) &&& 31).toUInt32).toInt32) &&& (7 : Int32)) % (6 : Int32))), .val (.int lo), .val (.int hi), .val (.int (-1 : Int32)), .val (.int (0 : Int32)), .unset] []))
        refine own_of (fun _ hh_ => XS.goto X20.here hx rfl (pc0 := 178) (pc' := 269) rfl (hb hby at_178) (by decide) (by decide) hh_) ?_
        show own_Run p e below s _ _ _ (T20.setTop (mkF m 269 #[.val (.int r1), .val (.int p0), .val (.int p1), .val (.int p2), .val (.int p3), .val (.int p4), .val (.ref ob1), .val (.int ((r1 &&& (7 : Int32)) % (6 : Int32))), .val (.int ((((r1.toUInt32 >>> ((3 : Int32) &&& 31).toUInt32).toInt32) &&& (7 : Int32)) % (6 : Int32))), .val (.int lo), .val (.int hi), .val (.int (-1 : Int32)), .val (.int (0 : Int32)), .unset] []))
        exact J269 _ _ X20 e20 N20 _ _ _ (own_bad 1 rfl hc121_21)
    · refine own_of (fun _ hh_ => XS.ifYes X18.here hx rfl (pc0 := 108) (pc' := 167) rfl (hb hby at_108) rfl ((if0 _ _).trans (teq (show (if own_F (gg 0) (0 : Int32) lo hi then 1 else 0 : Int32) = 0 from if_neg hc108_19)).1) (by decide) (by decide) hh_) ?_
      show own_Run p e below s _ _ _ (T18.setTop (mkF m 167 #[.val (.int r1), .val (.int p0), .val (.int p1), .val (.int p2), .val (.int p3), .val (.int p4), .val (.ref ob1), .val (.int ((r1 &&& (7 : Int32)) % (6 : Int32))), .val (.int ((((r1.toUInt32 >>> ((3 : Int32) &&& 31).toUInt32).toInt32) &&& (7 : Int32)) % (6 : Int32))), .val (.int lo), .val (.int hi), .unset, .unset, .unset] []))
      refine own_of (fun _ hh_ => XS.iconst X18.here hx rfl (hb hby at_167) hh_) ?_
      show own_Run p e below s _ _ _ (T18.setTop (mkF m 168 #[.val (.int r1), .val (.int p0), .val (.int p1), .val (.int p2), .val (.int p3), .val (.int p4), .val (.ref ob1), .val (.int ((r1 &&& (7 : Int32)) % (6 : Int32))), .val (.int ((((r1.toUInt32 >>> ((3 : Int32) &&& 31).toUInt32).toInt32) &&& (7 : Int32)) % (6 : Int32))), .val (.int lo), .val (.int hi), .unset, .unset, .unset] [(.int (0 : Int32))]))
      refine own_of (fun _ hh_ => XS.istore X18.here hx rfl (hb hby at_168) rfl (l' := #[.val (.int r1), .val (.int p0), .val (.int p1), .val (.int p2), .val (.int p3), .val (.int p4), .val (.ref ob1), .val (.int ((r1 &&& (7 : Int32)) % (6 : Int32))), .val (.int ((((r1.toUInt32 >>> ((3 : Int32) &&& 31).toUInt32).toInt32) &&& (7 : Int32)) % (6 : Int32))), .val (.int lo), .val (.int hi), .unset, .val (.int (0 : Int32)), .unset]) rfl hh_) ?_
      show own_Run p e below s _ _ _ (T18.setTop (mkF m 170 #[.val (.int r1), .val (.int p0), .val (.int p1), .val (.int p2), .val (.int p3), .val (.int p4), .val (.ref ob1), .val (.int ((r1 &&& (7 : Int32)) % (6 : Int32))), .val (.int ((((r1.toUInt32 >>> ((3 : Int32) &&& 31).toUInt32).toInt32) &&& (7 : Int32)) % (6 : Int32))), .val (.int lo), .val (.int hi), .unset, .val (.int (0 : Int32)), .unset] []))
      refine own_of (fun _ hh_ => XS.iload X18.here hx rfl (hb hby at_170) rfl hh_) ?_
      show own_Run p e below s _ _ _ (T18.setTop (mkF m 172 #[.val (.int r1), .val (.int p0), .val (.int p1), .val (.int p2), .val (.int p3), .val (.int p4), .val (.ref ob1), .val (.int ((r1 &&& (7 : Int32)) % (6 : Int32))), .val (.int ((((r1.toUInt32 >>> ((3 : Int32) &&& 31).toUInt32).toInt32) &&& (7 : Int32)) % (6 : Int32))), .val (.int lo), .val (.int hi), .unset, .val (.int (0 : Int32)), .unset] [(.int (0 : Int32))]))
      refine own_of (fun _ hh_ => XS.ifNo X18.here hx rfl (hb hby at_172) rfl ((if0 _ _).trans (by decide)) hh_) ?_
      show own_Run p e below s _ _ _ (T18.setTop (mkF m 175 #[.val (.int r1), .val (.int p0), .val (.int p1), .val (.int p2), .val (.int p3), .val (.int p4), .val (.ref ob1), .val (.int ((r1 &&& (7 : Int32)) % (6 : Int32))), .val (.int ((((r1.toUInt32 >>> ((3 : Int32) &&& 31).toUInt32).toInt32) &&& (7 : Int32)) % (6 : Int32))), .val (.int lo), .val (.int hi), .unset, .val (.int (0 : Int32)), .unset] []))
      refine own_of (fun _ hh_ => XS.iconst X18.here hx rfl (hb hby at_175) hh_) ?_
      show own_Run p e below s _ _ _ (T18.setTop (mkF m 176 #[.val (.int r1), .val (.int p0), .val (.int p1), .val (.int p2), .val (.int p3), .val (.int p4), .val (.ref ob1), .val (.int ((r1 &&& (7 : Int32)) % (6 : Int32))), .val (.int ((((r1.toUInt32 >>> ((3 : Int32) &&& 31).toUInt32).toInt32) &&& (7 : Int32)) % (6 : Int32))), .val (.int lo), .val (.int hi), .unset, .val (.int (0 : Int32)), .unset] [(.int (-1 : Int32))]))
      refine own_of (fun _ hh_ => XS.istore X18.here hx rfl (hb hby at_176) rfl (l' := #[.val (.int r1), .val (.int p0), .val (.int p1), .val (.int p2), .val (.int p3), .val (.int p4), .val (.ref ob1), .val (.int ((r1 &&& (7 : Int32)) % (6 : Int32))), .val (.int ((((r1.toUInt32 >>> ((3 : Int32) &&& 31).toUInt32).toInt32) &&& (7 : Int32)) % (6 : Int32))), .val (.int lo), .val (.int hi), .val (.int (-1 : Int32)), .val (.int (0 : Int32)), .unset]) rfl hh_) ?_
      show own_Run p e below s _ _ _ (T18.setTop (mkF m 178 #[.val (.int r1), .val (.int p0), .val (.int p1), .val (.int p2), .val (.int p3), .val (.int p4), .val (.ref ob1), .val (.int ((r1 &&& (7 : Int32)) % (6 : Int32))), .val (.int ((((r1.toUInt32 >>> ((3 : Int32) &&& 31).toUInt32).toInt32) &&& (7 : Int32)) % (6 : Int32))), .val (.int lo), .val (.int hi), .val (.int (-1 : Int32)), .val (.int (0 : Int32)), .unset] []))
      refine own_of (fun _ hh_ => XS.goto X18.here hx rfl (pc0 := 178) (pc' := 269) rfl (hb hby at_178) (by decide) (by decide) hh_) ?_
      show own_Run p e below s _ _ _ (T18.setTop (mkF m 269 #[.val (.int r1), .val (.int p0), .val (.int p1), .val (.int p2), .val (.int p3), .val (.int p4), .val (.ref ob1), .val (.int ((r1 &&& (7 : Int32)) % (6 : Int32))), .val (.int ((((r1.toUInt32 >>> ((3 : Int32) &&& 31).toUInt32).toInt32) &&& (7 : Int32)) % (6 : Int32))), .val (.int lo), .val (.int hi), .val (.int (-1 : Int32)), .val (.int (0 : Int32)), .unset] []))
      exact J269 _ _ X18 e18 N18 _ _ _ (own_bad 0 rfl hc108_19)
set_option maxRecDepth 65536 in
set_option maxHeartbeats 40000000 in
theorem comes_1 {Post : Tables → Env → Array Value → State → Outcome → State → Prop} (hpost : ∀ tb e args s v u, (limb_1_1.after args s (.returned v) u = true ∧ limb_1_2.after args s (.returned v) u = true ∧ True) → FrameEnd s (.returned v) u (Jvm.fieldLocs frame_1_writes args s ++ Jvm.arrayLocs frame_1_arrays args s ++ Jvm.staticLocs frame_1_statics s) 16 128 → Post tb e args s (.returned v) u) :
    ArmFor flags0 classFile x code maxLocals ret World_1 tables_1 room_1 Calls_1 rest_1 Pre_1 Post := by
  intro l hfl _ _ p e ha hc hk s m args below hf hA hF happ hP
  obtain ⟨hcalls, hrest, hpre⟩ := hP
  obtain ⟨-, -, -, hnamed, -, -, -, hat⟩ := (Spec.applies_iff hf).mp happ
  obtain ⟨hg, hn⟩ := and_e (Cond.before_iff.mp (show (Jvm.Cond.and given_1 narrow_1).before args s = true from hpre))
  obtain ⟨gg1, gg2⟩ := and_e hg
  obtain ⟨gg3, gg4⟩ := and_e gg2
  obtain ⟨gg5, gg6⟩ := and_e gg4
  obtain ⟨gg7, gg8⟩ := and_e gg6
  obtain ⟨gg9, gg10⟩ := and_e gg8
  obtain ⟨gg11, gg12⟩ := and_e gg10
  obtain ⟨w0, w1, w2, w3, w4, w5, rfl⟩ : ∃ w0 w1 w2 w3 w4 w5 : Value, args = #[w0, w1, w2, w3, w4, w5] := by
    have hs : args.size = 6 := by simpa [Cond.value, given_1] using gg1
    obtain ⟨L⟩ := args
    match L, hs with
    | [w0, w1, w2, w3, w4, w5], _ => exact ⟨w0, w1, w2, w3, w4, w5, rfl⟩
  have hw := fun d (hd : d ∈ tables_1) => atoms_spec (ws := Jvm.Cond.code x code maxLocals ret :: tables_1) hat d (List.mem_cons_of_mem _ hd)
  obtain ⟨i0, ei0⟩ := is_v gg3
  obtain rfl : w0 = (.int i0) := Option.some.inj ei0
  obtain ⟨i1, ei1⟩ := is_v gg5
  obtain rfl : w1 = (.int i1) := Option.some.inj ei1
  obtain ⟨i2, ei2⟩ := is_v gg7
  obtain rfl : w2 = (.int i2) := Option.some.inj ei2
  obtain ⟨i3, ei3⟩ := is_v gg9
  obtain rfl : w3 = (.int i3) := Option.some.inj ei3
  obtain ⟨i4, ei4⟩ := is_v gg11
  obtain rfl : w4 = (.int i4) := Option.some.inj ei4
  obtain ⟨i5, ei5⟩ := is_v gg12
  obtain rfl : w5 = (.int i5) := Option.some.inj ei5
  obtain ⟨n, o, h1, h2, h3, _, L, rfl, ⟨rfl, N⟩, hq⟩ := rm0 l s _ hw tables_1 i0 i1 i2 i3 i4 i5  s.heap s.heap.size (Nat.le_refl _)  p e ha hc hk s m _ below hf ((Spec.applies_iff_loose hf).mp happ).1 ⟨rfl, State.Warmed39.refl s, rfl⟩ trivial
  refine ⟨n, _, h1, h2, h3, hpost _ _ _ _ _ _ ⟨Cond.after_iff.mpr rfl, Cond.after_iff.mpr (eq_i res_at (Term.int_eval (1)) rfl), trivial⟩ ⟨hq.1, hq.2.1, (hq.2.2.sift fun y hy => Or.inr (N y hy)).mono (by decide) (by decide)⟩⟩
theorem main_1_1 : Claimed_1_1 := comes_1 fun _ _ _ _ _ _ h hF => ⟨h.1, hF⟩
theorem main_1_2 : Claimed_1_2 := comes_1 fun _ _ _ _ _ _ h hF => ⟨h.2.1, hF⟩
end Jvm.Pilot.@@N@@
namespace Jvm.Pilot.@@N@@
open Jvm Jvm.ClassFile Sem Op Lib Jvm.Free Jvm.Stand Jvm.Pilot.@@N@@.Jvm.D
/-! MADE BY PROGRAM (witnessworld.py) out of the Statement's table words and the real class files: 10 classes; the members and pool entries that the words name. The judged class is class 1, her method 1. -/
namespace start1
open Jvm.ClassFile
def u (s : String) : CpInfo := .utf8 (stringToUtf16 s)
/-- a pool by its gaps: so many unusable entries, then the entry; so many at the end -/
def gap : Nat → List CpInfo → List CpInfo
  | 0, r => r
  | n + 1, r => .unusable :: gap n r
def poolList (es : List (Nat × CpInfo)) (last : Nat) : List CpInfo := es.foldr (fun e r => gap e.1 (e.2 :: r)) (gap last [])
def pool (es : List (Nat × CpInfo)) (last : Nat) : Array CpInfo := ⟨poolList es last⟩
def fileOf (pool : Array CpInfo) (this : Nat) (attrs : Array Attribute := #[]) (ms : Array MethodInfo := #[]) (fl : Nat := 33) (sup : Nat := 0) (ifs : Array Nat := #[]) (fds : Array FieldInfo := #[]) : ClassFile where
  minorVersion := 0
  majorVersion := 65
  constantPool := pool
  accessFlags := fl
  thisClass := this
  superClass := sup
  interfaces := ifs
  fields := fds
  methods := ms
  attributes := attrs
def plain (name : String) (sup : Option ClassId) : Class where
  name := name
  kind := .ordinary
  loader := none
  accessFlags := 33
  super := sup
  interfaces := #[]
  cf := none
  fields := #[]
  methods := #[]
  instanceTypes := #[]
  staticTypes := #[]
  resolved := #[]
  callSites := []
  init := .initialized
  statics := none
  mirror := none

def pool0 : Array CpInfo := pool [(5, u "<init>"), (0, u "()V"), (1, .class_ 10), (1, u "java/lang/Object")] 113

def k0m0 : Method := { name := "<init>", desc := "()V", sig := { parameters := [], returnType := none }, accessFlags := 1, code := none }
/-- java/lang/Object -/
def k0 : Class := { plain "java/lang/Object" none with
  accessFlags := 33
  interfaces := #[]
  cf := some (fileOf pool0 8 #[] #[{ accessFlags := 1, nameIndex := 5, descriptorIndex := 6, attributes := #[] }] 33 0 #[] #[])
  fields := #[]
  methods := #[k0m0]
  instanceTypes := #[]
  staticTypes := #[]
  resolved := Array.replicate 124 none
  statics := none }

def pool1 : Array CpInfo := pool [(2, .class_ 4), (1, u "java/lang/Object"), (0, u "<init>"), (0, u "()V"), (0, .methodref 8 9), (0, .class_ 10), (0, .nameAndType 11 12), (0, u "com/example/lanchid/lanchid/records/WholeNumberFirstDigitPinLaw"), (0, u "mk"), (0, u "(I)B"), (0, .methodref 14 15), (0, .class_ 16), (0, .nameAndType 17 18), (0, u "java/lang/Math"), (0, u "min"), (0, u "(II)I"), (0, .methodref 14 20), (0, .nameAndType 21 18), (0, u "max"), (0, .methodref 8 23), (0, .nameAndType 24 25), (0, u "fine"), (0, u "([BIII)Z"), (0, .methodref 8 27), (0, .nameAndType 28 25), (0, u "nz"), (0, .methodref 30 31), (0, .class_ 32), (0, .nameAndType 33 34), (0, u "com/example/lanchid/lanchid/records/WholeNumber"), (0, u "firstDigit"), (0, u "([BII)I"), (0, .methodref 8 36), (0, .nameAndType 37 38), (0, u "isDig"), (0, u "(B)Z"), (2, u "law"), (0, u "(IIIIII)Z")] 5

def k1m0 : Method := { name := "<init>", desc := "()V", sig := { parameters := [], returnType := none }, accessFlags := 2, code := none }
def k1c1 : Code := { maxStack := 4, maxLocals := 14, code := code, exceptionTable := #[], attributes := #[] }
def k1m1 : Method := { name := "law", desc := "(IIIIII)Z", sig := { parameters := [.int, .int, .int, .int, .int, .int], returnType := some .boolean }, accessFlags := 9, code := some k1c1 }
def k1c2 : Code := { maxStack := 3, maxLocals := 2, code := method_3_code, exceptionTable := #[], attributes := #[] }
def k1m2 : Method := { name := "mk", desc := "(I)B", sig := { parameters := [.int], returnType := some .byte }, accessFlags := 10, code := some k1c2 }
def k1c3 : Code := { maxStack := 2, maxLocals := 1, code := method_4_code, exceptionTable := #[], attributes := #[] }
def k1m3 : Method := { name := "isDig", desc := "(B)Z", sig := { parameters := [.byte], returnType := some .boolean }, accessFlags := 10, code := some k1c3 }
def k1c4 : Code := { maxStack := 2, maxLocals := 4, code := method_5_code, exceptionTable := #[], attributes := #[] }
def k1m4 : Method := { name := "fine", desc := "([BIII)Z", sig := { parameters := [(.array .byte), .int, .int, .int], returnType := some .boolean }, accessFlags := 10, code := some k1c4 }
def k1c5 : Code := { maxStack := 2, maxLocals := 4, code := method_6_code, exceptionTable := #[], attributes := #[] }
def k1m5 : Method := { name := "nz", desc := "([BIII)Z", sig := { parameters := [(.array .byte), .int, .int, .int], returnType := some .boolean }, accessFlags := 10, code := some k1c5 }
/-- com/example/lanchid/lanchid/records/WholeNumberFirstDigitPinLaw -/
def k1 : Class := { plain "com/example/lanchid/lanchid/records/WholeNumberFirstDigitPinLaw" (some 0) with
  accessFlags := 49
  interfaces := #[]
  cf := some (fileOf pool1 8 #[] #[{ accessFlags := 2, nameIndex := 5, descriptorIndex := 6, attributes := #[] }, { accessFlags := 9, nameIndex := 41, descriptorIndex := 42, attributes := #[] }, { accessFlags := 10, nameIndex := 11, descriptorIndex := 12, attributes := #[] }, { accessFlags := 10, nameIndex := 37, descriptorIndex := 38, attributes := #[] }, { accessFlags := 10, nameIndex := 24, descriptorIndex := 25, attributes := #[] }, { accessFlags := 10, nameIndex := 28, descriptorIndex := 25, attributes := #[] }] 49 2 #[] #[])
  fields := #[]
  methods := #[k1m0, k1m1, k1m2, k1m3, k1m4, k1m5]
  instanceTypes := #[]
  staticTypes := #[]
  resolved := Array.replicate 48 none
  statics := none }

def pool2 : Array CpInfo := pool [(1, .class_ 2), (0, u "java/lang/Math"), (1, .class_ 6), (1, u "java/lang/Object"), (0, u "<init>"), (0, u "()V"), (89, .class_ 100), (1, u "java/lang/Math$RandomNumberGeneratorHolder"), (71, u "negativeZeroFloatBits"), (0, u "J"), (2, u "negativeZeroDoubleBits"), (21, u "max"), (2, u "min"), (43, u "$assertionsDisabled"), (0, u "Z"), (88, u "(II)I"), (2, u "twoToTheDoubleScaleDown"), (0, u "D"), (4, u "twoToTheDoubleScaleUp"), (9, u "E"), (3, u "PI"), (2, u "TAU"), (2, u "DEGREES_TO_RADIANS"), (0, u "RADIANS_TO_DEGREES")] 94

def k2m0 : Method := { name := "<init>", desc := "()V", sig := { parameters := [], returnType := none }, accessFlags := 2, code := none }
def k2c1 : Code := { maxStack := 2, maxLocals := 2, code := jdk_29_method_65_code, exceptionTable := #[], attributes := #[] }
def k2m1 : Method := { name := "max", desc := "(II)I", sig := { parameters := [.int, .int], returnType := some .int }, accessFlags := 9, code := some k2c1 }
def k2c2 : Code := { maxStack := 2, maxLocals := 2, code := jdk_29_method_69_code, exceptionTable := #[], attributes := #[] }
def k2m2 : Method := { name := "min", desc := "(II)I", sig := { parameters := [.int, .int], returnType := some .int }, accessFlags := 9, code := some k2c2 }
/-- java/lang/Math -/
def k2 : Class := { plain "java/lang/Math" (some 0) with
  accessFlags := 49
  interfaces := #[]
  cf := some (fileOf pool2 1 #[.nestMembers #[98]] #[{ accessFlags := 2, nameIndex := 7, descriptorIndex := 8, attributes := #[] }, { accessFlags := 9, nameIndex := 198, descriptorIndex := 335, attributes := #[] }, { accessFlags := 9, nameIndex := 201, descriptorIndex := 335, attributes := #[] }] 49 4 #[] #[{ accessFlags := 25, nameIndex := 354, descriptorIndex := 339, attributes := #[] }, { accessFlags := 25, nameIndex := 358, descriptorIndex := 339, attributes := #[] }, { accessFlags := 25, nameIndex := 361, descriptorIndex := 339, attributes := #[] }, { accessFlags := 26, nameIndex := 364, descriptorIndex := 339, attributes := #[] }, { accessFlags := 26, nameIndex := 365, descriptorIndex := 339, attributes := #[] }, { accessFlags := 26, nameIndex := 172, descriptorIndex := 173, attributes := #[] }, { accessFlags := 26, nameIndex := 176, descriptorIndex := 173, attributes := #[] }, { accessFlags := 8, nameIndex := 344, descriptorIndex := 339, attributes := #[] }, { accessFlags := 8, nameIndex := 338, descriptorIndex := 339, attributes := #[] }, { accessFlags := 4120, nameIndex := 245, descriptorIndex := 246, attributes := #[] }])
  fields := #[{ name := "E", type := .double, accessFlags := 25, slot := 0, constantValue := 0 }, { name := "PI", type := .double, accessFlags := 25, slot := 1, constantValue := 0 }, { name := "TAU", type := .double, accessFlags := 25, slot := 2, constantValue := 0 }, { name := "DEGREES_TO_RADIANS", type := .double, accessFlags := 26, slot := 3, constantValue := 0 }, { name := "RADIANS_TO_DEGREES", type := .double, accessFlags := 26, slot := 4, constantValue := 0 }, { name := "negativeZeroFloatBits", type := .long, accessFlags := 26, slot := 5, constantValue := 0 }, { name := "negativeZeroDoubleBits", type := .long, accessFlags := 26, slot := 6, constantValue := 0 }, { name := "twoToTheDoubleScaleUp", type := .double, accessFlags := 8, slot := 7, constantValue := 0 }, { name := "twoToTheDoubleScaleDown", type := .double, accessFlags := 8, slot := 8, constantValue := 0 }, { name := "$assertionsDisabled", type := .boolean, accessFlags := 4120, slot := 9, constantValue := 0 }]
  methods := #[k2m0, k2m1, k2m2]
  instanceTypes := #[]
  staticTypes := #[.double, .double, .double, .double, .double, .long, .long, .double, .double, .boolean]
  resolved := Array.replicate 460 none
  statics := none }

def pool3 : Array CpInfo := pool [(2, .class_ 4), (1, u "java/lang/Object"), (0, u "<init>"), (0, u "()V"), (13, .class_ 22), (1, u "com/example/lanchid/lanchid/records/WholeNumber"), (0, u "firstDigit"), (0, u "([BII)I"), (10, u "RULE"), (0, u "Ljava/lang/String;")] 14

def k3m0 : Method := { name := "<init>", desc := "()V", sig := { parameters := [], returnType := none }, accessFlags := 2, code := none }
def k3c1 : Code := { maxStack := 2, maxLocals := 5, code := prog_127_method_3_code, exceptionTable := #[], attributes := #[] }
def k3m1 : Method := { name := "firstDigit", desc := "([BII)I", sig := { parameters := [(.array .byte), .int, .int], returnType := some .int }, accessFlags := 9, code := some k3c1 }
/-- com/example/lanchid/lanchid/records/WholeNumber -/
def k3 : Class := { plain "com/example/lanchid/lanchid/records/WholeNumber" (some 0) with
  accessFlags := 49
  interfaces := #[]
  cf := some (fileOf pool3 20 #[] #[{ accessFlags := 2, nameIndex := 5, descriptorIndex := 6, attributes := #[] }, { accessFlags := 9, nameIndex := 23, descriptorIndex := 24, attributes := #[] }] 49 2 #[] #[{ accessFlags := 25, nameIndex := 35, descriptorIndex := 36, attributes := #[] }])
  fields := #[{ name := "RULE", type := (.object "java/lang/String"), accessFlags := 25, slot := 0, constantValue := 0 }]
  methods := #[k3m0, k3m1]
  instanceTypes := #[]
  staticTypes := #[(.object "java/lang/String")]
  resolved := Array.replicate 51 none
  statics := none }

def pool4 : Array CpInfo := pool [(1, u "java/lang/Cloneable"), (0, .class_ 1), (0, u "java/lang/Object"), (0, .class_ 3)] 3

/-- java/lang/Cloneable -/
def k4 : Class := { plain "java/lang/Cloneable" (some 0) with
  accessFlags := 1537
  interfaces := #[]
  cf := some (fileOf pool4 2 #[] #[] 1537 4 #[] #[])
  fields := #[]
  methods := #[]
  instanceTypes := #[]
  staticTypes := #[]
  resolved := Array.replicate 8 none
  statics := none }

def pool5 : Array CpInfo := pool [(1, u "java/io/Serializable"), (0, .class_ 1), (0, u "java/lang/Object"), (0, .class_ 3)] 3

/-- java/io/Serializable -/
def k5 : Class := { plain "java/io/Serializable" (some 0) with
  accessFlags := 1537
  interfaces := #[]
  cf := some (fileOf pool5 2 #[] #[] 1537 4 #[] #[])
  fields := #[]
  methods := #[]
  instanceTypes := #[]
  staticTypes := #[]
  resolved := Array.replicate 8 none
  statics := none }

/-- the primitive byte -/
def k6 : Class := { plain "byte" none with kind := .primitive 'B', accessFlags := 0x411 }
/-- [B -/
def k7 : Class := { plain "[B" (some 0) with kind := .array 6 .byte, interfaces := #[4, 5], accessFlags := 1041 }

/-- the primitive int -/
def k8 : Class := { plain "int" none with kind := .primitive 'I', accessFlags := 0x411 }
/-- [I -/
def k9 : Class := { plain "[I" (some 0) with kind := .array 8 .int, interfaces := #[4, 5], accessFlags := 1041 }

def heap : Heap := #[]
def classes : Array Class := #[k0, k1, k2, k3, k4, k5, k6, k7, k8, k9]
def interned : List (Array UInt16 × Addr) := []
def slotsUsed : Nat := 0
def theMethod : MethodId := ⟨1, 1⟩
def args0 : Array Value := #[.int 5, .int 5, .int 5, .int 5, .int 5, .int 5]
def aboutOver (below : List Frame) : State where
  vm := { classes := classes, interned := interned.toArray }
  heap := heap
  slotsUsed := slotsUsed
  threads := #[{ frames := .invoking theMethod args0 :: below }]
def below0 : List Frame := [.native { method := ⟨0, 0⟩, args := #[] }]
def about1 : State := aboutOver below0
def p0 : Program := .bare "" "" ""
def e0 : Env := launch0.env 0 0 0
theorem w_frames : about1.frames = Frame.invoking theMethod args0 :: below0 := rfl
set_option maxRecDepth 65536 in
theorem w_args : argsFit about1.vm theMethod args0 = true := by decide +kernel
set_option maxRecDepth 65536 in
theorem w_heap : heapFits about1 = true := by decide +kernel
set_option maxRecDepth 65536 in
theorem w_runnable : about1.curStatus? = some .runnable := by decide +kernel
set_option maxRecDepth 65536 in
theorem w_alone : about1.alone = true := by decide +kernel
set_option maxRecDepth 65536 in
theorem w_named : about1.methodNamed? x = some theMethod := by decide +kernel
set_option maxRecDepth 65536 in
theorem w_hears : about1.hears theMethod below0 = true := by decide +kernel
set_option maxRecDepth 65536 in
theorem w_ripe : about1.ripe theMethod args0 below0 = true := by decide +kernel
theorem w_running : about1.status = .running := rfl
set_option maxRecDepth 65536 in
theorem w_room : about1.hasRoom e0.platform room_1 = true :=
  launch0.hasRoom_least _ room_1 (by decide +kernel) (by decide +kernel) (by decide +kernel) (by decide +kernel) (by decide +kernel) (by decide +kernel)
theorem allAtoms_all (ts : List Jvm.Cond) (a : Array Jvm.Value) (st : Jvm.State) : (allAtoms ts).before a st = ts.all (fun c => c.before a st) := by
  induction ts with
  | nil => rfl
  | cons c t ih =>
    show (Jvm.Cond.and c (allAtoms t)).before a st = _
    rw [Jvm.Cond.before_and, ih, List.all_cons]
def words1 : List Jvm.Cond := Jvm.Cond.code x code maxLocals ret :: tables_1
/-- a 'code' word, met by the world's own term for the bytes: nothing is compared byte by byte -/
theorem code_word {y : MethodName} {bytes : ByteArray} {mx : Nat} {rt : Option FieldType} {a : Array Value} {s : State} {m : MethodId} {meth : Method} {c : Code} (h1 : s.methodNamed? y = some m) (h2 : s.vm.method? m = some meth) (h3 : meth.code = some c) (h4 : c.code = bytes)
    (h5 : (c.maxLocals == mx && c.exceptionTable.isEmpty && decide (c.maxStack ≤ mostOperands) && decide (meth.sig.returnType = rt) && !meth.locks && decide (parseMethodDescriptor y.desc = some meth.sig)) = true) : (Jvm.Cond.code y bytes mx rt).before a s = true := by
  simp only [Bool.and_eq_true, beq_iff_eq, Bool.not_eq_true', decide_eq_true_eq] at h5
  obtain ⟨⟨⟨⟨⟨g1, g2⟩, g3⟩, g4⟩, g5⟩, g6⟩ := h5
  simp [Cond.before, Cond.holds, Cond.value, h1, h2, h3, h4, g1, g2, g3, g4, g5, g6]
def isCode : Jvm.Cond → Bool
  | .code _ _ _ _ => true
  | _ => false
theorem all_split {L : List Jvm.Cond} {P : Jvm.Cond → Bool} (h1 : L.all (fun c => isCode c || P c) = true) (h2 : ∀ c ∈ L.filter isCode, P c = true) : L.all P = true := by
  refine List.all_eq_true.mpr fun c hc => ?_
  have h := List.all_eq_true.mp h1 c hc
  rcases Bool.eq_false_or_eq_true (isCode c) with hi | hi
  · exact h2 c (List.mem_filter.mpr ⟨hc, hi⟩)
  · simpa [hi] using h
set_option maxRecDepth 65536 in
theorem w_c0 : (Jvm.Cond.code x code maxLocals ret).before args0 about1 = true := code_word (m := ⟨1, 1⟩) (meth := k1m1) (c := k1c1) (by decide +kernel) rfl rfl rfl (by decide +kernel)
set_option maxRecDepth 65536 in
theorem w_c1 : (Jvm.Cond.code ({ cls := "com/example/lanchid/lanchid/records/WholeNumberFirstDigitPinLaw", name := "mk", desc := "(I)B" } : Jvm.MethodName) method_3_code (2 : Nat) (Option.some Jvm.ClassFile.FieldType.byte)).before args0 about1 = true := code_word (m := ⟨1, 2⟩) (meth := k1m2) (c := k1c2) (by decide +kernel) rfl rfl rfl (by decide +kernel)
set_option maxRecDepth 65536 in
theorem w_c2 : (Jvm.Cond.code ({ cls := "java/lang/Math", name := "min", desc := "(II)I" } : Jvm.MethodName) jdk_29_method_69_code (2 : Nat) (Option.some Jvm.ClassFile.FieldType.int)).before args0 about1 = true := code_word (m := ⟨2, 2⟩) (meth := k2m2) (c := k2c2) (by decide +kernel) rfl rfl rfl (by decide +kernel)
set_option maxRecDepth 65536 in
theorem w_c3 : (Jvm.Cond.code ({ cls := "java/lang/Math", name := "max", desc := "(II)I" } : Jvm.MethodName) jdk_29_method_65_code (2 : Nat) (Option.some Jvm.ClassFile.FieldType.int)).before args0 about1 = true := code_word (m := ⟨2, 1⟩) (meth := k2m1) (c := k2c1) (by decide +kernel) rfl rfl rfl (by decide +kernel)
set_option maxRecDepth 65536 in
theorem w_c4 : (Jvm.Cond.code ({ cls := "com/example/lanchid/lanchid/records/WholeNumber", name := "firstDigit", desc := "([BII)I" } : Jvm.MethodName) prog_127_method_3_code (5 : Nat) (Option.some Jvm.ClassFile.FieldType.int)).before args0 about1 = true := code_word (m := ⟨3, 1⟩) (meth := k3m1) (c := k3c1) (by decide +kernel) rfl rfl rfl (by decide +kernel)
set_option maxRecDepth 65536 in
theorem w_c5 : (Jvm.Cond.code ({ cls := "com/example/lanchid/lanchid/records/WholeNumberFirstDigitPinLaw", name := "fine", desc := "([BIII)Z" } : Jvm.MethodName) method_5_code (4 : Nat) (Option.some Jvm.ClassFile.FieldType.boolean)).before args0 about1 = true := code_word (m := ⟨1, 4⟩) (meth := k1m4) (c := k1c4) (by decide +kernel) rfl rfl rfl (by decide +kernel)
set_option maxRecDepth 65536 in
theorem w_c6 : (Jvm.Cond.code ({ cls := "com/example/lanchid/lanchid/records/WholeNumberFirstDigitPinLaw", name := "isDig", desc := "(B)Z" } : Jvm.MethodName) method_4_code (1 : Nat) (Option.some Jvm.ClassFile.FieldType.boolean)).before args0 about1 = true := code_word (m := ⟨1, 3⟩) (meth := k1m3) (c := k1c3) (by decide +kernel) rfl rfl rfl (by decide +kernel)
set_option maxRecDepth 65536 in
theorem w_c7 : (Jvm.Cond.code ({ cls := "com/example/lanchid/lanchid/records/WholeNumberFirstDigitPinLaw", name := "nz", desc := "([BIII)Z" } : Jvm.MethodName) method_6_code (4 : Nat) (Option.some Jvm.ClassFile.FieldType.boolean)).before args0 about1 = true := code_word (m := ⟨1, 5⟩) (meth := k1m5) (c := k1c5) (by decide +kernel) rfl rfl rfl (by decide +kernel)
def codes1 : List Jvm.Cond := [Jvm.Cond.code x code maxLocals ret, Jvm.Cond.code ({ cls := "com/example/lanchid/lanchid/records/WholeNumberFirstDigitPinLaw", name := "mk", desc := "(I)B" } : Jvm.MethodName) method_3_code (2 : Nat) (Option.some Jvm.ClassFile.FieldType.byte), Jvm.Cond.code ({ cls := "java/lang/Math", name := "min", desc := "(II)I" } : Jvm.MethodName) jdk_29_method_69_code (2 : Nat) (Option.some Jvm.ClassFile.FieldType.int), Jvm.Cond.code ({ cls := "java/lang/Math", name := "max", desc := "(II)I" } : Jvm.MethodName) jdk_29_method_65_code (2 : Nat) (Option.some Jvm.ClassFile.FieldType.int), Jvm.Cond.code ({ cls := "com/example/lanchid/lanchid/records/WholeNumber", name := "firstDigit", desc := "([BII)I" } : Jvm.MethodName) prog_127_method_3_code (5 : Nat) (Option.some Jvm.ClassFile.FieldType.int), Jvm.Cond.code ({ cls := "com/example/lanchid/lanchid/records/WholeNumberFirstDigitPinLaw", name := "fine", desc := "([BIII)Z" } : Jvm.MethodName) method_5_code (4 : Nat) (Option.some Jvm.ClassFile.FieldType.boolean), Jvm.Cond.code ({ cls := "com/example/lanchid/lanchid/records/WholeNumberFirstDigitPinLaw", name := "isDig", desc := "(B)Z" } : Jvm.MethodName) method_4_code (1 : Nat) (Option.some Jvm.ClassFile.FieldType.boolean), Jvm.Cond.code ({ cls := "com/example/lanchid/lanchid/records/WholeNumberFirstDigitPinLaw", name := "nz", desc := "([BIII)Z" } : Jvm.MethodName) method_6_code (4 : Nat) (Option.some Jvm.ClassFile.FieldType.boolean)]
set_option maxRecDepth 65536 in
theorem codes_eq : words1.filter isCode = codes1 := rfl
theorem w_codes : ∀ c ∈ words1.filter isCode, c.before args0 about1 = true := by
  rw [codes_eq]
  intro c hc
  simp only [codes1, List.mem_cons, List.not_mem_nil, or_false] at hc
  rcases hc with rfl | rfl | rfl | rfl | rfl | rfl | rfl | rfl
  · exact w_c0
  · exact w_c1
  · exact w_c2
  · exact w_c3
  · exact w_c4
  · exact w_c5
  · exact w_c6
  · exact w_c7
set_option maxRecDepth 65536 in
theorem w_t1 : (words1.take 24).all (fun c => isCode c || c.before args0 about1) = true := by decide +kernel
set_option maxRecDepth 65536 in
theorem w_t2 : (words1.drop 24).all (fun c => isCode c || c.before args0 about1) = true := by decide +kernel
theorem w_tables : (allAtoms (Jvm.Cond.code x code maxLocals ret :: tables_1)).before args0 about1 = true := by
  rw [allAtoms_all]
  show words1.all (fun c => c.before args0 about1) = true
  refine all_split ?_ w_codes
  rw [← List.take_append_drop 24 words1, List.all_append, w_t1, w_t2]
  rfl
set_option maxRecDepth 65536 in
theorem w_case : (Jvm.Cond.and given_1 narrow_1).before args0 about1 = true := by decide +kernel
theorem w_applies : (headSpec (Jvm.Cond.code x code maxLocals ret :: tables_1) room_1).applies x e0.platform about1 = true :=
  (Spec.applies_iff w_frames).mpr ⟨w_running, w_runnable, w_alone, w_named, w_hears, w_ripe, w_room, w_tables⟩
theorem atStart : AtStart classFile x code maxLocals ret World_1 tables_1 room_1 Calls_1 rest_1 Pre_1 launch0 p0 e0 about1 theMethod args0 below0 :=
  ⟨lists_1, trivial, launch0.admits_env _ _ _, launch0.least_env, fairChoices_fair.cas, fairChoices_fair.clock, w_frames, w_args, w_heap, w_applies, trivial, trivial, w_case⟩
end start1
theorem witness_1 : WitnessClaimed_1 := ⟨start1.p0, start1.e0, start1.about1, start1.theMethod, start1.args0, start1.below0, start1.atStart⟩
end Jvm.Pilot.@@N@@
