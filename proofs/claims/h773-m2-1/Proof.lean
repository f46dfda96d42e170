import JvmDerived
import JvmDerived.Pilot.@@N@@Statement
import JvmDerived.Pilot.@@N@@Code
set_option linter.unusedVariables false
set_option linter.unusedSimpArgs false
namespace Jvm.Pilot.@@N@@
open Jvm Jvm.ClassFile Sem Op Lib Jvm.Free Jvm.Stand Jvm.LawKit Jvm.RoadKit Bundle Jvm.Pilot.@@N@@.Jvm.D
section Own
variable {p : Program} {l : Launch} {e : Env} {R : Room} {s : State} {m : MethodId} {args : Array Value} {below : List Frame} {meth : Method} {c : Code} {T : State} {locs : List Loc} {cells slots : Nat} {C N : Nat} {Q : Option Value → Heap → List Loc → Prop} {V V' : State}
/-- from the state V the method comes to its return, and leaves what Q says -/
def own_Run (p : Program) (e : Env) (below : List Frame) (s : State) (C N : Nat) (Q : Option Value → Heap → List Loc → Prop) (V : State) : Prop :=
  ∃ s₂ o, Steps p.tables e below V s₂ ∧ s₂.status = .running ∧ Ended s₂ below o ∧ ∃ v L, o = .returned v ∧ Q v s₂.heap L ∧ FrameEnd s o s₂ L C N
theorem own_of (k : ∀ t, Steps p.tables e below V' t → Steps p.tables e below V t) (r : own_Run p e below s C N Q V') : own_Run p e below s C N Q V := by
  obtain ⟨s₂, o, h, q⟩ := r
  exact ⟨s₂, o, k _ h, q⟩
theorem own_tr (k : Steps p.tables e below V V') (r : own_Run p e below s C N Q V') : own_Run p e below s C N Q V := own_of (fun _ h => k.trans h) r
theorem own_cast {g g' : JFrame} (q : g = g') (r : own_Run p e below s C N Q (T.setTop g')) : own_Run p e below s C N Q (T.setTop g) := q ▸ r
theorem own_ret (X : Stand p l e R s m args below meth c T locs cells slots) (hx : p.tables.exec = Jvm.exec) {pc : Nat} {Ls : Array Slot} {w : Value} {t : FieldType} {i : Instr} {rest : List Value} (hret : meth.sig.returnType = some t) (hlk : meth.locks = false) (hn : narrow t w = w)
    (hi : (i = .ireturn ∧ (t = .int ∨ t = .boolean ∨ t = .byte ∨ t = .char ∨ t = .short) ∧ ∃ z, w = .int z) ∨ (i = .lreturn ∧ t = .long ∧ ∃ z, w = .long z) ∨ (i = .dreturn ∧ t = .double ∧ ∃ z, w = .double z) ∨ (i = .freturn ∧ t = .float ∧ ∃ z, w = .float z) ∨ (i = .areturn ∧ t.isReference = true ∧ w.isRef = true))
    (hd : decode c.code pc = .ok (i, 1)) (q : Q (some w) T.heap locs) (hc : cells ≤ C) (hs : slots ≤ N) : own_Run p e below s C N Q (T.setTop (mkF m pc Ls (w :: rest))) := by
  obtain ⟨fs, hr, hrun, hended, hW, hsame⟩ := X.leave (v := some w) (fun h => by rw [hret] at h; cases h) hlk
  exact ⟨_, _, retOut X hx hret hn hi hd hr, hrun, hended, _, _, rfl, q, ⟨_, rfl⟩, hW, hsame.mono hc hs⟩
theorem own_retI (X : Stand p l e R s m args below meth c T locs cells slots) (hx : p.tables.exec = Jvm.exec) {pc : Nat} {Ls : Array Slot} {z : Int32} {rest : List Value} (hret : meth.sig.returnType = some .int) (hlk : meth.locks = false)
    (hd : decode c.code pc = .ok (.ireturn, 1)) (q : Q (some (.int z)) T.heap locs) (hc : cells ≤ C) (hs : slots ≤ N) : own_Run p e below s C N Q (T.setTop (mkF m pc Ls (.int z :: rest))) :=
  own_ret X hx hret hlk rfl (Or.inl ⟨rfl, Or.inl rfl, z, rfl⟩) hd q hc hs
theorem own_retJ (X : Stand p l e R s m args below meth c T locs cells slots) (hx : p.tables.exec = Jvm.exec) {pc : Nat} {Ls : Array Slot} {z : Int64} {rest : List Value} (hret : meth.sig.returnType = some .long) (hlk : meth.locks = false)
    (hd : decode c.code pc = .ok (.lreturn, 1)) (q : Q (some (.long z)) T.heap locs) (hc : cells ≤ C) (hs : slots ≤ N) : own_Run p e below s C N Q (T.setTop (mkF m pc Ls (.long z :: rest))) :=
  own_ret X hx hret hlk rfl (Or.inr (Or.inl ⟨rfl, rfl, z, rfl⟩)) hd q hc hs
theorem own_retN (X : Stand p l e R s m args below meth c T locs cells slots) (hx : p.tables.exec = Jvm.exec) {pc : Nat} {Ls : Array Slot} {z : Int32} {t : FieldType} {rest : List Value} (hret : meth.sig.returnType = some t) (hlk : meth.locks = false) (ht : t = .boolean ∨ t = .byte ∨ t = .char ∨ t = .short)
    (hd : decode c.code pc = .ok (.ireturn, 1)) (q : Q (some (.int (nar t z))) T.heap locs) (hc : cells ≤ C) (hs : slots ≤ N) : own_Run p e below s C N Q (T.setTop (mkF m pc Ls (.int z :: rest))) := by
  obtain ⟨fs, hr, hrun, hended, hW, hsame⟩ := X.leave (v := some (.int (nar t z))) (fun h => by rw [hret] at h; cases h) hlk
  exact ⟨_, _, retN X hx hret ht hd hr, hrun, hended, _, _, rfl, q, ⟨_, rfl⟩, hW, hsame.mono hc hs⟩
theorem own_retV (X : Stand p l e R s m args below meth c T locs cells slots) (hx : p.tables.exec = Jvm.exec) {pc : Nat} {Ls : Array Slot} (hret : meth.sig.returnType = none) (hlk : meth.locks = false)
    (hd : decode c.code pc = .ok (.return_, 1)) (q : Q none T.heap locs) (hc : cells ≤ C) (hs : slots ≤ N) : own_Run p e below s C N Q (T.setTop (mkF m pc Ls [])) := by
  obtain ⟨fs, hr, hrun, hended, hW, hsame⟩ := X.leave (v := none) (fun _ => rfl) hlk
  exact ⟨_, _, X.returnOut hx hret hd hr, hrun, hended, _, _, rfl, q, ⟨_, rfl⟩, hW, hsame.mono hc hs⟩
end Own
section OwnArrays
variable {p : Program} {l : Launch} {e : Env} {R : Room} {s : State} {m : MethodId} {args : Array Value} {below : List Frame} {meth : Method} {c : Code} {T : State} {locs : List Loc} {cells slots : Nat} {C N : Nat} {Q : Option Value → Heap → List Loc → Prop} {Z : State} {h h' : Heap} {a b : Addr} {ty : FieldType} {n : Nat} {f g : Nat → Int32} {v : Value} {sl : Nat} {ws : List Addr}
/-- in the heap h, at a, an array of the kind ty and n places; its place i holds the int f i -/
def own_Ar (Z : State) (h : Heap) (a : Addr) (ty : FieldType) (n : Nat) (f : Nat → Int32) : Prop := ∃ c : Cell, Arr Z h a c ty ∧ c.slots.size = n ∧ ∀ i, i < n → c.slots[i]? = some (.int (f i))
def own_up (f : Nat → Int32) (j : Nat) (v : Int32) : Nat → Int32 := fun i => if i = j then v else f i
theorem own_Ar.lt (F : own_Ar Z h a ty n f) : a < h.size := by obtain ⟨c, A, -⟩ := F; exact A.lt
theorem own_Ar.ext (F : own_Ar Z h a ty n f) (E : Ext h h') : own_Ar Z h' a ty n f := by obtain ⟨c, A, r⟩ := F; exact ⟨c, A.ext E, r⟩
theorem own_Ar.other (F : own_Ar Z h b ty n f) (W : Wr h h' a sl v) (q : b ≠ a) : own_Ar Z h' b ty n f := by obtain ⟨c, A, r⟩ := F; exact ⟨c, A.other W q, r⟩
theorem own_Ar.keep (F : own_Ar Z h a ty n f) (K : Keep h h' ws) (q : a ∉ ws) : own_Ar Z h' a ty n f := by obtain ⟨c, A, r⟩ := F; exact ⟨c, ⟨K.2.1 a c A.1 q, A.2⟩, r⟩
theorem own_Ar.congr (F : own_Ar Z h a ty n f) (q : ∀ i, i < n → f i = g i) : own_Ar Z h a ty n g := by obtain ⟨c, A, r, H⟩ := F; exact ⟨c, A, r, fun i hi => by rw [← q i hi]; exact H i hi⟩
theorem own_Ar.new {k : ClassId} {z : Int32} (A : Arr Z h a (newA k ty z) ty) (hd : defaultValue ty = .int 0) (hn : z.toNatClampNeg = n) : own_Ar Z h a ty n (fun _ => 0) :=
  ⟨_, A, by rw [sz_new, hn], fun i hi => by simp [newA, hd, hn, hi]⟩
theorem own_Ar.set {w : Int32} {j : Nat} (F : own_Ar Z h a ty n f) (W : Wr h h' a j (.int w)) (hj : j < n) : own_Ar Z h' a ty n (own_up f j w) := by
  obtain ⟨c, A, r, H⟩ := F
  refine ⟨_, A.same W, by rw [sz_set]; exact r, fun i hi => ?_⟩
  by_cases q : i = j
  · subst q
    simp [own_up, Cell.setSlot, r, hi]
  · rw [show (c.setSlot j (.int w)).slots[i]? = c.slots[i]? from Array.getElem?_setIfInBounds_ne (Ne.symm q)]
    simp [own_up, q, H i hi]
theorem own_bal (X : Stand p l e R s m args below meth c T locs cells slots) (hx : p.tables.exec = Jvm.exec) (hZ : Z.Warmed39 s.vm) (eT : T.heap = h) (A : own_Ar Z h a .byte n f) {j w : Int32} (h1 : ¬ j < 0) (h2 : j.toNatClampNeg < n) (hv : f j.toNatClampNeg = w)
    {pc : Nat} {Ls : Array Slot} {rest : List Value} (hd : decode c.code pc = .ok (.baload, 1)) (r : own_Run p e below s C N Q (T.setTop (mkF m (pc + 1) Ls (.int w :: rest)))) : own_Run p e below s C N Q (T.setTop (mkF m pc Ls (.int j :: .ref a :: rest))) := by
  obtain ⟨c, A, S, H⟩ := A
  subst hv
  exact own_of (fun t k => X.baloadBytes hx (j := j) (v := .int (f j.toNatClampNeg)) (by rw [eT]; exact A.1) (State.isArrayOf_alike hZ.alike A.2.1) A.2.2 (by rw [S]; exact fun q => q.elim h1 (Nat.not_le.mpr h2)) (H _ h2) (g := mkF m pc Ls (.int j :: .ref a :: rest)) rfl rfl hd t k) r
theorem own_ial (X : Stand p l e R s m args below meth c T locs cells slots) (hx : p.tables.exec = Jvm.exec) (hZ : Z.Warmed39 s.vm) (eT : T.heap = h) (A : own_Ar Z h a .int n f) {j w : Int32} (h1 : ¬ j < 0) (h2 : j.toNatClampNeg < n) (hv : f j.toNatClampNeg = w)
    {pc : Nat} {Ls : Array Slot} {rest : List Value} (hd : decode c.code pc = .ok (.iaload, 1)) (r : own_Run p e below s C N Q (T.setTop (mkF m (pc + 1) Ls (.int w :: rest)))) : own_Run p e below s C N Q (T.setTop (mkF m pc Ls (.int j :: .ref a :: rest))) := by
  obtain ⟨c, A, S, H⟩ := A
  subst hv
  exact own_of (fun t k => X.iaload hx (j := j) (v := .int (f j.toNatClampNeg)) (by rw [eT]; exact A.1) (State.isArrayOf_alike hZ.alike A.2.1) A.2.2 (by rw [S]; exact fun q => q.elim h1 (Nat.not_le.mpr h2)) (H _ h2) (g := mkF m pc Ls (.int j :: .ref a :: rest)) rfl rfl hd t k) r
theorem own_alen (X : Stand p l e R s m args below meth c T locs cells slots) (hx : p.tables.exec = Jvm.exec) (hZ : Z.Warmed39 s.vm) (eT : T.heap = h) (A : own_Ar Z h a ty n f) {w : Int32} (hv : n.toInt32 = w)
    {pc : Nat} {Ls : Array Slot} {rest : List Value} (hd : decode c.code pc = .ok (.arraylength, 1)) (r : own_Run p e below s C N Q (T.setTop (mkF m (pc + 1) Ls (.int w :: rest)))) : own_Run p e below s C N Q (T.setTop (mkF m pc Ls (.ref a :: rest))) := by
  obtain ⟨c, A, S, H⟩ := A
  subst hv S
  exact own_of (fun t k => X.arraylength hx (by rw [eT]; exact A.1) (State.isArrayOf_alike hZ.alike A.2.1) (g := mkF m pc Ls (.ref a :: rest)) rfl rfl hd t k) r
theorem own_bas (X : Stand p l e R s m args below meth c T locs cells slots) (hx : p.tables.exec = Jvm.exec) (hZ : Z.Warmed39 s.vm) (eT : T.heap = h) (A : own_Ar Z h a .byte n f) {j x : Int32} (h1 : ¬ j < 0) (h2 : j.toNatClampNeg < n)
    {pc : Nat} {Ls : Array Slot} {rest : List Value} (hd : decode c.code pc = .ok (.bastore, 1)) :
    ∃ T' h', Stand p l e R s m args below meth c T' (locs ++ [⟨a, j.toNatClampNeg⟩]) cells slots ∧ T'.heap = h' ∧ Wr h h' a j.toNatClampNeg (.int x.toInt8.toInt32) ∧ own_Ar Z h' a .byte n (own_up f j.toNatClampNeg x.toInt8.toInt32) ∧
      ∀ t, Steps p.tables e below (T'.setTop (mkF m (pc + 1) Ls rest)) t → Steps p.tables e below (T.setTop (mkF m pc Ls (.int x :: .int j :: .ref a :: rest))) t := by
  obtain ⟨c, A, S, H⟩ := id A
  obtain ⟨T', h', X', e', W, st⟩ := stB X hx hZ eT A (j := j) (x := x) (by rw [S]; exact fun q => q.elim h1 (Nat.not_le.mpr h2)) (g := mkF m pc Ls (.int x :: .int j :: .ref a :: rest)) rfl rfl hd
  exact ⟨T', h', X', e', W, own_Ar.set ⟨c, A, S, H⟩ W h2, st⟩
theorem own_ias (X : Stand p l e R s m args below meth c T locs cells slots) (hx : p.tables.exec = Jvm.exec) (hZ : Z.Warmed39 s.vm) (eT : T.heap = h) (A : own_Ar Z h a .int n f) {j x : Int32} (h1 : ¬ j < 0) (h2 : j.toNatClampNeg < n)
    {pc : Nat} {Ls : Array Slot} {rest : List Value} (hd : decode c.code pc = .ok (.iastore, 1)) :
    ∃ T' h', Stand p l e R s m args below meth c T' (locs ++ [⟨a, j.toNatClampNeg⟩]) cells slots ∧ T'.heap = h' ∧ Wr h h' a j.toNatClampNeg (.int x) ∧ own_Ar Z h' a .int n (own_up f j.toNatClampNeg x) ∧
      ∀ t, Steps p.tables e below (T'.setTop (mkF m (pc + 1) Ls rest)) t → Steps p.tables e below (T.setTop (mkF m pc Ls (.int x :: .int j :: .ref a :: rest))) t := by
  obtain ⟨c, A, S, H⟩ := id A
  obtain ⟨T', h', X', e', W, st⟩ := stI X hx hZ eT A (j := j) (x := x) (by rw [S]; exact fun q => q.elim h1 (Nat.not_le.mpr h2)) (g := mkF m pc Ls (.int x :: .int j :: .ref a :: rest)) rfl rfl hd
  exact ⟨T', h', X', e', W, own_Ar.set ⟨c, A, S, H⟩ W h2, st⟩
end OwnArrays
section OwnWide
variable {p : Program} {l : Launch} {e : Env} {R : Room} {s : State} {m : MethodId} {args : Array Value} {below : List Frame} {meth : Method} {c : Code} {T : State} {locs : List Loc} {cells slots : Nat} {C N : Nat} {Q : Option Value → Heap → List Loc → Prop} {V V' : State} {Z : State} {h : Heap} {a : Addr} {n : Nat} {f : Nat → Int32}
/-- own_Run of a method that may intern its literals -/
def own_RunW (p : Program) (e : Env) (below : List Frame) (s : State) (C N : Nat) (Q : Option Value → Heap → List Loc → Prop) (V : State) : Prop :=
  ∃ s₂ o, Steps p.tables e below V s₂ ∧ s₂.status = .running ∧ Ended s₂ below o ∧ ∃ v L, o = .returned v ∧ Q v s₂.heap L ∧ ReturnedEndW s o s₂ L C N
theorem own_ofW (k : ∀ t, Steps p.tables e below V' t → Steps p.tables e below V t) (r : own_RunW p e below s C N Q V') : own_RunW p e below s C N Q V := by
  obtain ⟨s₂, o, h, q⟩ := r
  exact ⟨s₂, o, k _ h, q⟩
theorem own_trW (k : Steps p.tables e below V V') (r : own_RunW p e below s C N Q V') : own_RunW p e below s C N Q V := own_ofW (fun _ h => k.trans h) r
theorem own_castW {g g' : JFrame} (q : g = g') (r : own_RunW p e below s C N Q (T.setTop g')) : own_RunW p e below s C N Q (T.setTop g) := q ▸ r
theorem own_balW (X : Stand p l e R s m args below meth c T locs cells slots) (hx : p.tables.exec = Jvm.exec) (hZ : Z.Warmed39 s.vm) (eT : T.heap = h) (A : own_Ar Z h a .byte n f) {j w : Int32} (h1 : ¬ j < 0) (h2 : j.toNatClampNeg < n) (hv : f j.toNatClampNeg = w)
    {pc : Nat} {Ls : Array Slot} {rest : List Value} (hd : decode c.code pc = .ok (.baload, 1)) (r : own_RunW p e below s C N Q (T.setTop (mkF m (pc + 1) Ls (.int w :: rest)))) : own_RunW p e below s C N Q (T.setTop (mkF m pc Ls (.int j :: .ref a :: rest))) := by
  obtain ⟨c, A, S, H⟩ := A
  subst hv
  exact own_ofW (fun t k => X.baloadBytes hx (j := j) (v := .int (f j.toNatClampNeg)) (by rw [eT]; exact A.1) (State.isArrayOf_alike hZ.alike A.2.1) A.2.2 (by rw [S]; exact fun q => q.elim h1 (Nat.not_le.mpr h2)) (H _ h2) (g := mkF m pc Ls (.int j :: .ref a :: rest)) rfl rfl hd t k) r
theorem own_retNW {vm₁ : Vm} {k : Nat} (X : Stand p l e R (s.setVm vm₁) m args below meth c T locs cells slots) (hS : s.Since vm₁ k) (hk : k ≤ T.heap.size) (hx : p.tables.exec = Jvm.exec) {pc : Nat} {Ls : Array Slot} {z : Int32} {t : FieldType} {rest : List Value} (hret : meth.sig.returnType = some t) (hlk : meth.locks = false) (ht : t = .boolean ∨ t = .byte ∨ t = .char ∨ t = .short)
    (hd : decode c.code pc = .ok (.ireturn, 1)) (q : Q (some (.int (nar t z))) T.heap locs) (hc : cells ≤ C) (hs : slots ≤ N) : own_RunW p e below s C N Q (T.setTop (mkF m pc Ls (.int z :: rest))) := by
  obtain ⟨fs, hr, hrun, hended, hq⟩ := X.leaveW hS hk (v := some (.int (nar t z))) (fun h => by rw [hret] at h; cases h) hlk
  exact ⟨_, _, retN X hx hret ht hd hr, hrun, hended, _, _, rfl, q, ⟨_, rfl⟩, hq.2.1, hq.2.2.1, hq.2.2.2.mono hc hs⟩
end OwnWide
theorem own_pos {j : Int32} (h0 : 0 ≤ j.toInt) : ¬ j < 0 := by
  apply mt Int32.lt_iff_toInt_lt.mp
  have l : (0 : Int32).toInt = 0 := rfl
  omega
theorem own_clamp {j : Int32} (h0 : 0 ≤ j.toInt) : (j.toNatClampNeg : Int) = j.toInt := (nat_of (own_pos h0)).symm
abbrev own_C (x i a b : Int32) : Prop := a.toInt ≤ i.toInt ∧ i.toInt < b.toInt ∧ x.toInt ≠ 32 ∧ x.toInt ≠ 48
/-- z is 1 where one of the places a .. b of g holds neither 32 nor 48, else 0 -/
def own_FL (g : Nat → Int32) (a b : Int) (z : Int32) : Prop :=
  (z = 1 ∧ ∃ j : Nat, a ≤ j ∧ (j : Int) < b ∧ (g j).toInt ≠ 32 ∧ (g j).toInt ≠ 48) ∨ (z = 0 ∧ ∀ j : Nat, a ≤ j → (j : Int) < b → (g j).toInt = 32 ∨ (g j).toInt = 48)
theorem own_uniq {g : Nat → Int32} {a b : Int} {z w : Int32} (h1 : own_FL g a b z) (h2 : own_FL g a b w) : z = w := by
  rcases h1 with ⟨e1, j, j1, j2, j3, j4⟩ | ⟨e1, h1⟩
  · rcases h2 with ⟨e2, _⟩ | ⟨e2, h2⟩
    · rw [e1, e2]
    · rcases h2 j j1 j2 with q | q
      · exact absurd q j3
      · exact absurd q j4
  · rcases h2 with ⟨e2, j, j1, j2, j3, j4⟩ | ⟨e2, h2⟩
    · rcases h1 j j1 j2 with q | q
      · exact absurd q j3
      · exact absurd q j4
    · rw [e1, e2]
theorem own_yes {g : Nat → Int32} {a b i : Int32} (k : Nat) (hi : i.toInt = (k : Int)) (h : own_C (g k) i a b) : own_FL g a.toInt b.toInt 1 :=
  Or.inl ⟨rfl, k, by omega, by omega, h.2.2.1, h.2.2.2⟩
theorem own_six {j : Nat} {b : Int} (h : (j : Int) < b) (hb : b ≤ 6) : j = 0 ∨ j = 1 ∨ j = 2 ∨ j = 3 ∨ j = 4 ∨ j = 5 := by omega
theorem own_no {g : Nat → Int32} {a b : Int32} (hb : b.toInt ≤ 6) (f0 : ¬ own_C (g 0) (0 : Int32) a b) (f1 : ¬ own_C (g 1) (1 : Int32) a b) (f2 : ¬ own_C (g 2) (2 : Int32) a b) (f3 : ¬ own_C (g 3) (3 : Int32) a b) (f4 : ¬ own_C (g 4) (4 : Int32) a b) (f5 : ¬ own_C (g 5) (5 : Int32) a b) : own_FL g a.toInt b.toInt 0 := by
  have l0 : (0 : Int32).toInt = 0 := rfl
  have l1 : (1 : Int32).toInt = 1 := rfl
  have l2 : (2 : Int32).toInt = 2 := rfl
  have l3 : (3 : Int32).toInt = 3 := rfl
  have l4 : (4 : Int32).toInt = 4 := rfl
  have l5 : (5 : Int32).toInt = 5 := rfl
  refine Or.inr ⟨rfl, fun j j1 j2 => ?_⟩
  unfold own_C at f0 f1 f2 f3 f4 f5
  rcases own_six j2 hb with rfl | rfl | rfl | rfl | rfl | rfl <;> omega
theorem own_pn0 : plainName "com/example/lanchid/lanchid/records/FieldFilledPinLaw" = true := by first | (simp [plainName, overriddenIn]; done) | decide +kernel
theorem dK_0 : decode method_2_code 0 = .ok (.lload_n 0, 1) := by decide +kernel
theorem dK_1 : decode method_2_code 1 = .ok (.bipush 10, 2) := by decide +kernel
theorem dK_3 : decode method_2_code 3 = .ok (.iload_n 2, 1) := by decide +kernel
theorem dK_4 : decode method_2_code 4 = .ok (.imul, 1) := by decide +kernel
theorem dK_5 : decode method_2_code 5 = .ok (.lushr, 1) := by decide +kernel
theorem dK_6 : decode method_2_code 6 = .ok (.lstore_n 3, 1) := by decide +kernel
theorem dK_7 : decode method_2_code 7 = .ok (.lload_n 3, 1) := by decide +kernel
theorem dK_8 : decode method_2_code 8 = .ok (.ldc2_w 7, 3) := by decide +kernel
theorem dK_11 : decode method_2_code 11 = .ok (.land, 1) := by decide +kernel
theorem dK_12 : decode method_2_code 12 = .ok (.l2i, 1) := by decide +kernel
theorem dK_13 : decode method_2_code 13 = .ok (.istore 5, 2) := by decide +kernel
theorem dK_15 : decode method_2_code 15 = .ok (.iload 5, 2) := by decide +kernel
theorem dK_17 : decode method_2_code 17 = .ok (.ifCond .ne 6, 3) := by decide +kernel
theorem dK_20 : decode method_2_code 20 = .ok (.bipush 32, 2) := by decide +kernel
theorem dK_22 : decode method_2_code 22 = .ok (.ireturn, 1) := by decide +kernel
theorem dK_23 : decode method_2_code 23 = .ok (.iload 5, 2) := by decide +kernel
theorem dK_25 : decode method_2_code 25 = .ok (.iconst 1, 1) := by decide +kernel
theorem dK_26 : decode method_2_code 26 = .ok (.if_icmp .ne 6, 3) := by decide +kernel
theorem dK_29 : decode method_2_code 29 = .ok (.bipush 48, 2) := by decide +kernel
theorem dK_31 : decode method_2_code 31 = .ok (.ireturn, 1) := by decide +kernel
theorem dK_32 : decode method_2_code 32 = .ok (.lload_n 3, 1) := by decide +kernel
theorem dK_33 : decode method_2_code 33 = .ok (.iconst 2, 1) := by decide +kernel
theorem dK_34 : decode method_2_code 34 = .ok (.lushr, 1) := by decide +kernel
theorem dK_35 : decode method_2_code 35 = .ok (.l2i, 1) := by decide +kernel
theorem dK_36 : decode method_2_code 36 = .ok (.i2b, 1) := by decide +kernel
theorem dK_37 : decode method_2_code 37 = .ok (.ireturn, 1) := by decide +kernel
theorem efK (m : MethodId) (u1 : Int64) (p1 : Int32) : entryFrame m #[(.long u1), (.int p1)] 6 = mkF m 0 #[.val (.long u1), .second, .val (.int p1), .unset, .unset, .unset] [] := by first | (simp [entryFrame, mkF, argsToLocals, Value.category]; done) | rfl
def QK (Z : State) (u1 : Int64) (p1 : Int32) (h0 : Heap) (n0 : Nat) (v : Option Value) (h : Heap) (L : List Loc) : Prop := ∃ z : Int32, v = some (.int z) ∧ Fr n0 L ∧ h = h0
set_option maxRecDepth 65536 in
set_option maxHeartbeats 40000000 in
theorem rmK (l : Launch) (Z : State) (a0 : Array Value) (hw : ∀ d ∈ tables_1, d.before a0 Z = true) (ws : List Jvm.Cond) (u1 : Int64) (p1 : Int32) (h0 : Heap) (n0 : Nat) (Z0 : n0 ≤ h0.size)  :
    MetFree l (⟨"com/example/lanchid/lanchid/records/FieldFilledPinLaw", "pick", "(JI)B"⟩ : MethodName) (head1 (Jvm.Cond.code (⟨"com/example/lanchid/lanchid/records/FieldFilledPinLaw", "pick", "(JI)B"⟩ : MethodName) method_2_code 6 (some .byte) :: ws) ({ frames := 0, cells := 0, slots := 0, locals := 0 } : Room)) (fun a U => a = #[(.long u1), (.int p1)] ∧ Z.Warmed39 U.vm ∧ U.heap = h0) (fun _ _ _ _ _ => True) (fun _ U o U' => ∃ v L, o = .returned v ∧ QK Z u1 p1 h0 n0 v U'.heap L ∧ FrameEnd U o U' L ({ frames := 0, cells := 0, slots := 0, locals := 0 } : Room).cells ({ frames := 0, cells := 0, slots := 0, locals := 0 } : Room).slots) := by
  refine MetFree.of_bodySF (plainFor_of_name own_pn0) hisR ?_
  intro p e s m args below meth c s₁ Bd hml0 hP hK
  obtain ⟨rfl, hZ, hh⟩ := hP
  have hx := Bd.exec
  have hby := Bd.bytes
  have hml : c.maxLocals = 6 := hml0
  have hown : s.vm.findClass "com/example/lanchid/lanchid/records/FieldFilledPinLaw" = some m.cls := findClass_of_methodNamed Bd.named
  have hnm := (name_of_methodNamed Bd.named Bd.method).1
  have hlk := Bd.notSynchronized
  have hret := Bd.returns
  have X0 : Stand p l e ({ frames := 0, cells := 0, slots := 0, locals := 0 } : Room) s m #[(.long u1), (.int p1)] below meth c s₁ [] 0 0 := Stand.of_body Bd
  have e0 : s₁.heap = h0 := by rw [← hh, Bd.state]; rfl
  have N0 := Fr.nil n0
  show own_Run p e below s 0 0 (QK Z u1 p1 h0 n0) (s₁.setTop (entryFrame m #[(.long u1), (.int p1)] 6))
  refine own_cast (efK m u1 p1) ?_
  show own_Run p e below s _ _ _ (s₁.setTop (mkF m 0 #[.val (.long u1), .second, .val (.int p1), .unset, .unset, .unset] []))
  refine own_of (fun _ hh_ => XS.lloadN X0.here hx rfl (hb hby dK_0) rfl hh_) ?_
  show own_Run p e below s _ _ _ (s₁.setTop (mkF m 1 #[.val (.long u1), .second, .val (.int p1), .unset, .unset, .unset] [(.long u1)]))
  refine own_of (fun _ hh_ => XS.bipush X0.here hx rfl (hb hby dK_1) hh_) ?_
  show own_Run p e below s _ _ _ (s₁.setTop (mkF m 3 #[.val (.long u1), .second, .val (.int p1), .unset, .unset, .unset] [(.int (10 : Int32)), (.long u1)]))
  refine own_of (fun _ hh_ => XS.iloadN X0.here hx rfl (hb hby dK_3) rfl hh_) ?_
  show own_Run p e below s _ _ _ (s₁.setTop (mkF m 4 #[.val (.long u1), .second, .val (.int p1), .unset, .unset, .unset] [(.int p1), (.int (10 : Int32)), (.long u1)]))
  refine own_of (fun _ hh_ => XS.imul X0.here hx rfl (hb hby dK_4) rfl hh_) ?_
  show own_Run p e below s _ _ _ (s₁.setTop (mkF m 5 #[.val (.long u1), .second, .val (.int p1), .unset, .unset, .unset] [(.int ((10 : Int32) * p1)), (.long u1)]))
  refine own_of (fun _ hh_ => XS.lushr X0.here hx rfl (hb hby dK_5) rfl hh_) ?_
  show own_Run p e below s _ _ _ (s₁.setTop (mkF m 6 #[.val (.long u1), .second, .val (.int p1), .unset, .unset, .unset] [(.long ((u1.toUInt64 >>> (((10 : Int32) * p1) &&& 0x3f).toInt64.toUInt64).toInt64))]))
  refine own_of (fun _ hh_ => XS.lstoreN X0.here hx rfl (hb hby dK_6) rfl (l' := #[.val (.long u1), .second, .val (.int p1), .val (.long ((u1.toUInt64 >>> (((10 : Int32) * p1) &&& 0x3f).toInt64.toUInt64).toInt64)), .second, .unset]) rfl hh_) ?_
  show own_Run p e below s _ _ _ (s₁.setTop (mkF m 7 #[.val (.long u1), .second, .val (.int p1), .val (.long ((u1.toUInt64 >>> (((10 : Int32) * p1) &&& 0x3f).toInt64.toUInt64).toInt64)), .second, .unset] []))
  refine own_of (fun _ hh_ => XS.lloadN X0.here hx rfl (hb hby dK_7) rfl hh_) ?_
  show own_Run p e below s _ _ _ (s₁.setTop (mkF m 8 #[.val (.long u1), .second, .val (.int p1), .val (.long ((u1.toUInt64 >>> (((10 : Int32) * p1) &&& 0x3f).toInt64.toUInt64).toInt64)), .second, .unset] [(.long ((u1.toUInt64 >>> (((10 : Int32) * p1) &&& 0x3f).toInt64.toUInt64).toInt64))]))
  refine own_of (X0.ldc2Long hx hown (mvT hZ (hw _ (List.mem_of_getElem? (i := 5) rfl))) (g := (mkF m 8 #[.val (.long u1), .second, .val (.int p1), .val (.long ((u1.toUInt64 >>> (((10 : Int32) * p1) &&& 0x3f).toInt64.toUInt64).toInt64)), .second, .unset] [(.long ((u1.toUInt64 >>> (((10 : Int32) * p1) &&& 0x3f).toInt64.toUInt64).toInt64))])) rfl (hb hby dK_8)) ?_
  show own_Run p e below s _ _ _ (s₁.setTop (mkF m 11 #[.val (.long u1), .second, .val (.int p1), .val (.long ((u1.toUInt64 >>> (((10 : Int32) * p1) &&& 0x3f).toInt64.toUInt64).toInt64)), .second, .unset] [(.long (3 : Int64)), (.long ((u1.toUInt64 >>> (((10 : Int32) * p1) &&& 0x3f).toInt64.toUInt64).toInt64))]))
  refine own_of (fun _ hh_ => XS.land X0.here hx rfl (hb hby dK_11) rfl hh_) ?_
  show own_Run p e below s _ _ _ (s₁.setTop (mkF m 12 #[.val (.long u1), .second, .val (.int p1), .val (.long ((u1.toUInt64 >>> (((10 : Int32) * p1) &&& 0x3f).toInt64.toUInt64).toInt64)), .second, .unset] [(.long (((u1.toUInt64 >>> (((10 : Int32) * p1) &&& 0x3f).toInt64.toUInt64).toInt64) &&& (3 : Int64)))]))
  refine own_of (fun _ hh_ => XS.l2i X0.here hx rfl (hb hby dK_12) rfl hh_) ?_
  show own_Run p e below s _ _ _ (s₁.setTop (mkF m 13 #[.val (.long u1), .second, .val (.int p1), .val (.long ((u1.toUInt64 >>> (((10 : Int32) * p1) &&& 0x3f).toInt64.toUInt64).toInt64)), .second, .unset] [(.int ((((u1.toUInt64 >>> (((10 : Int32) * p1) &&& 0x3f).toInt64.toUInt64).toInt64) &&& (3 : Int64)).toInt32))]))
  refine own_of (fun _ hh_ => XS.istore X0.here hx rfl (hb hby dK_13) rfl (l' := #[.val (.long u1), .second, .val (.int p1), .val (.long ((u1.toUInt64 >>> (((10 : Int32) * p1) &&& 0x3f).toInt64.toUInt64).toInt64)), .second, .val (.int ((((u1.toUInt64 >>> (((10 : Int32) * p1) &&& 0x3f).toInt64.toUInt64).toInt64) &&& (3 : Int64)).toInt32))]) rfl hh_) ?_
  show own_Run p e below s _ _ _ (s₁.setTop (mkF m 15 #[.val (.long u1), .second, .val (.int p1), .val (.long ((u1.toUInt64 >>> (((10 : Int32) * p1) &&& 0x3f).toInt64.toUInt64).toInt64)), .second, .val (.int ((((u1.toUInt64 >>> (((10 : Int32) * p1) &&& 0x3f).toInt64.toUInt64).toInt64) &&& (3 : Int64)).toInt32))] []))
  refine own_of (fun _ hh_ => XS.iload X0.here hx rfl (hb hby dK_15) rfl hh_) ?_
  show own_Run p e below s _ _ _ (s₁.setTop (mkF m 17 #[.val (.long u1), .second, .val (.int p1), .val (.long ((u1.toUInt64 >>> (((10 : Int32) * p1) &&& 0x3f).toInt64.toUInt64).toInt64)), .second, .val (.int ((((u1.toUInt64 >>> (((10 : Int32) * p1) &&& 0x3f).toInt64.toUInt64).toInt64) &&& (3 : Int64)).toInt32))] [(.int ((((u1.toUInt64 >>> (((10 : Int32) * p1) &&& 0x3f).toInt64.toUInt64).toInt64) &&& (3 : Int64)).toInt32))]))
  by_cases hc17_1 : ((((u1.toUInt64 >>> (((10 : Int32) * p1) &&& 0x3f).toInt64.toUInt64).toInt64) &&& (3 : Int64)).toInt32) = (0 : Int32)
  · refine own_of (fun _ hh_ => XS.ifNo X0.here hx rfl (hb hby dK_17) rfl ((if0 _ _).trans (teq hc17_1).2) hh_) ?_
    show own_Run p e below s _ _ _ (s₁.setTop (mkF m 20 #[.val (.long u1), .second, .val (.int p1), .val (.long ((u1.toUInt64 >>> (((10 : Int32) * p1) &&& 0x3f).toInt64.toUInt64).toInt64)), .second, .val (.int ((((u1.toUInt64 >>> (((10 : Int32) * p1) &&& 0x3f).toInt64.toUInt64).toInt64) &&& (3 : Int64)).toInt32))] []))
    refine own_of (fun _ hh_ => XS.bipush X0.here hx rfl (hb hby dK_20) hh_) ?_
    show own_Run p e below s _ _ _ (s₁.setTop (mkF m 22 #[.val (.long u1), .second, .val (.int p1), .val (.long ((u1.toUInt64 >>> (((10 : Int32) * p1) &&& 0x3f).toInt64.toUInt64).toInt64)), .second, .val (.int ((((u1.toUInt64 >>> (((10 : Int32) * p1) &&& 0x3f).toInt64.toUInt64).toInt64) &&& (3 : Int64)).toInt32))] [(.int (32 : Int32))]))
    exact own_retN X0 hx (t := .byte) hret hlk (by simp) (hb hby dK_22) ⟨_, rfl, N0, e0⟩ (by decide) (by decide)
  · refine own_of (fun _ hh_ => XS.ifYes X0.here hx rfl (pc0 := 17) (pc' := 23) rfl (hb hby dK_17) rfl ((if0 _ _).trans (feq hc17_1).2) (by decide) (by decide) hh_) ?_
    show own_Run p e below s _ _ _ (s₁.setTop (mkF m 23 #[.val (.long u1), .second, .val (.int p1), .val (.long ((u1.toUInt64 >>> (((10 : Int32) * p1) &&& 0x3f).toInt64.toUInt64).toInt64)), .second, .val (.int ((((u1.toUInt64 >>> (((10 : Int32) * p1) &&& 0x3f).toInt64.toUInt64).toInt64) &&& (3 : Int64)).toInt32))] []))
    refine own_of (fun _ hh_ => XS.iload X0.here hx rfl (hb hby dK_23) rfl hh_) ?_
    show own_Run p e below s _ _ _ (s₁.setTop (mkF m 25 #[.val (.long u1), .second, .val (.int p1), .val (.long ((u1.toUInt64 >>> (((10 : Int32) * p1) &&& 0x3f).toInt64.toUInt64).toInt64)), .second, .val (.int ((((u1.toUInt64 >>> (((10 : Int32) * p1) &&& 0x3f).toInt64.toUInt64).toInt64) &&& (3 : Int64)).toInt32))] [(.int ((((u1.toUInt64 >>> (((10 : Int32) * p1) &&& 0x3f).toInt64.toUInt64).toInt64) &&& (3 : Int64)).toInt32))]))
    refine own_of (fun _ hh_ => XS.iconst X0.here hx rfl (hb hby dK_25) hh_) ?_
    show own_Run p e below s _ _ _ (s₁.setTop (mkF m 26 #[.val (.long u1), .second, .val (.int p1), .val (.long ((u1.toUInt64 >>> (((10 : Int32) * p1) &&& 0x3f).toInt64.toUInt64).toInt64)), .second, .val (.int ((((u1.toUInt64 >>> (((10 : Int32) * p1) &&& 0x3f).toInt64.toUInt64).toInt64) &&& (3 : Int64)).toInt32))] [(.int (1 : Int32)), (.int ((((u1.toUInt64 >>> (((10 : Int32) * p1) &&& 0x3f).toInt64.toUInt64).toInt64) &&& (3 : Int64)).toInt32))]))
    by_cases hc26_2 : ((((u1.toUInt64 >>> (((10 : Int32) * p1) &&& 0x3f).toInt64.toUInt64).toInt64) &&& (3 : Int64)).toInt32) = (1 : Int32)
    · refine own_of (fun _ hh_ => XS.icmpNo X0.here hx rfl (hb hby dK_26) rfl (teq hc26_2).2 hh_) ?_
      show own_Run p e below s _ _ _ (s₁.setTop (mkF m 29 #[.val (.long u1), .second, .val (.int p1), .val (.long ((u1.toUInt64 >>> (((10 : Int32) * p1) &&& 0x3f).toInt64.toUInt64).toInt64)), .second, .val (.int ((((u1.toUInt64 >>> (((10 : Int32) * p1) &&& 0x3f).toInt64.toUInt64).toInt64) &&& (3 : Int64)).toInt32))] []))
      refine own_of (fun _ hh_ => XS.bipush X0.here hx rfl (hb hby dK_29) hh_) ?_
      show own_Run p e below s _ _ _ (s₁.setTop (mkF m 31 #[.val (.long u1), .second, .val (.int p1), .val (.long ((u1.toUInt64 >>> (((10 : Int32) * p1) &&& 0x3f).toInt64.toUInt64).toInt64)), .second, .val (.int ((((u1.toUInt64 >>> (((10 : Int32) * p1) &&& 0x3f).toInt64.toUInt64).toInt64) &&& (3 : Int64)).toInt32))] [(.int (48 : Int32))]))
      exact own_retN X0 hx (t := .byte) hret hlk (by simp) (hb hby dK_31) ⟨_, rfl, N0, e0⟩ (by decide) (by decide)
    · refine own_of (fun _ hh_ => XS.icmpYes X0.here hx rfl (pc0 := 26) (pc' := 32) rfl (hb hby dK_26) rfl (feq hc26_2).2 (by decide) (by decide) hh_) ?_
      show own_Run p e below s _ _ _ (s₁.setTop (mkF m 32 #[.val (.long u1), .second, .val (.int p1), .val (.long ((u1.toUInt64 >>> (((10 : Int32) * p1) &&& 0x3f).toInt64.toUInt64).toInt64)), .second, .val (.int ((((u1.toUInt64 >>> (((10 : Int32) * p1) &&& 0x3f).toInt64.toUInt64).toInt64) &&& (3 : Int64)).toInt32))] []))
      refine own_of (fun _ hh_ => XS.lloadN X0.here hx rfl (hb hby dK_32) rfl hh_) ?_
      show own_Run p e below s _ _ _ (s₁.setTop (mkF m 33 #[.val (.long u1), .second, .val (.int p1), .val (.long ((u1.toUInt64 >>> (((10 : Int32) * p1) &&& 0x3f).toInt64.toUInt64).toInt64)), .second, .val (.int ((((u1.toUInt64 >>> (((10 : Int32) * p1) &&& 0x3f).toInt64.toUInt64).toInt64) &&& (3 : Int64)).toInt32))] [(.long ((u1.toUInt64 >>> (((10 : Int32) * p1) &&& 0x3f).toInt64.toUInt64).toInt64))]))
      refine own_of (fun _ hh_ => XS.iconst X0.here hx rfl (hb hby dK_33) hh_) ?_
      show own_Run p e below s _ _ _ (s₁.setTop (mkF m 34 #[.val (.long u1), .second, .val (.int p1), .val (.long ((u1.toUInt64 >>> (((10 : Int32) * p1) &&& 0x3f).toInt64.toUInt64).toInt64)), .second, .val (.int ((((u1.toUInt64 >>> (((10 : Int32) * p1) &&& 0x3f).toInt64.toUInt64).toInt64) &&& (3 : Int64)).toInt32))] [(.int (2 : Int32)), (.long ((u1.toUInt64 >>> (((10 : Int32) * p1) &&& 0x3f).toInt64.toUInt64).toInt64))]))
      refine own_of (fun _ hh_ => XS.lushr X0.here hx rfl (hb hby dK_34) rfl hh_) ?_
      show own_Run p e below s _ _ _ (s₁.setTop (mkF m 35 #[.val (.long u1), .second, .val (.int p1), .val (.long ((u1.toUInt64 >>> (((10 : Int32) * p1) &&& 0x3f).toInt64.toUInt64).toInt64)), .second, .val (.int ((((u1.toUInt64 >>> (((10 : Int32) * p1) &&& 0x3f).toInt64.toUInt64).toInt64) &&& (3 : Int64)).toInt32))] [(.long ((((u1.toUInt64 >>> (((10 : Int32) * p1) &&& 0x3f).toInt64.toUInt64).toInt64).toUInt64 >>> ((2 : Int32) &&& 0x3f).toInt64.toUInt64).toInt64))]))
      refine own_of (fun _ hh_ => XS.l2i X0.here hx rfl (hb hby dK_35) rfl hh_) ?_
      show own_Run p e below s _ _ _ (s₁.setTop (mkF m 36 #[.val (.long u1), .second, .val (.int p1), .val (.long ((u1.toUInt64 >>> (((10 : Int32) * p1) &&& 0x3f).toInt64.toUInt64).toInt64)), .second, .val (.int ((((u1.toUInt64 >>> (((10 : Int32) * p1) &&& 0x3f).toInt64.toUInt64).toInt64) &&& (3 : Int64)).toInt32))] [(.int (((((u1.toUInt64 >>> (((10 : Int32) * p1) &&& 0x3f).toInt64.toUInt64).toInt64).toUInt64 >>> ((2 : Int32) &&& 0x3f).toInt64.toUInt64).toInt64).toInt32))]))
      refine own_of (fun _ hh_ => XS.i2b X0.here hx rfl (hb hby dK_36) rfl hh_) ?_
      show own_Run p e below s _ _ _ (s₁.setTop (mkF m 37 #[.val (.long u1), .second, .val (.int p1), .val (.long ((u1.toUInt64 >>> (((10 : Int32) * p1) &&& 0x3f).toInt64.toUInt64).toInt64)), .second, .val (.int ((((u1.toUInt64 >>> (((10 : Int32) * p1) &&& 0x3f).toInt64.toUInt64).toInt64) &&& (3 : Int64)).toInt32))] [(.int ((((((u1.toUInt64 >>> (((10 : Int32) * p1) &&& 0x3f).toInt64.toUInt64).toInt64).toUInt64 >>> ((2 : Int32) &&& 0x3f).toInt64.toUInt64).toInt64).toInt32).toInt8.toInt32))]))
      exact own_retN X0 hx (t := .byte) hret hlk (by simp) (hb hby dK_37) ⟨_, rfl, N0, e0⟩ (by decide) (by decide)
theorem dC_0 : decode method_3_code 0 = .ok (.iload_n 1, 1) := by decide +kernel
theorem dC_1 : decode method_3_code 1 = .ok (.iload_n 2, 1) := by decide +kernel
theorem dC_2 : decode method_3_code 2 = .ok (.if_icmp .lt 24, 3) := by decide +kernel
theorem dC_5 : decode method_3_code 5 = .ok (.iload_n 1, 1) := by decide +kernel
theorem dC_6 : decode method_3_code 6 = .ok (.iload_n 3, 1) := by decide +kernel
theorem dC_7 : decode method_3_code 7 = .ok (.if_icmp .ge 19, 3) := by decide +kernel
theorem dC_10 : decode method_3_code 10 = .ok (.iload_n 0, 1) := by decide +kernel
theorem dC_11 : decode method_3_code 11 = .ok (.bipush 32, 2) := by decide +kernel
theorem dC_13 : decode method_3_code 13 = .ok (.if_icmp .eq 13, 3) := by decide +kernel
theorem dC_16 : decode method_3_code 16 = .ok (.iload_n 0, 1) := by decide +kernel
theorem dC_17 : decode method_3_code 17 = .ok (.bipush 48, 2) := by decide +kernel
theorem dC_19 : decode method_3_code 19 = .ok (.if_icmp .eq 7, 3) := by decide +kernel
theorem dC_22 : decode method_3_code 22 = .ok (.iconst 1, 1) := by decide +kernel
theorem dC_23 : decode method_3_code 23 = .ok (.goto 4, 3) := by decide +kernel
theorem dC_26 : decode method_3_code 26 = .ok (.iconst 0, 1) := by decide +kernel
theorem dC_27 : decode method_3_code 27 = .ok (.ireturn, 1) := by decide +kernel
theorem efC (m : MethodId) (p0 : Int32) (p1 : Int32) (p2 : Int32) (p3 : Int32) : entryFrame m #[(.int p0), (.int p1), (.int p2), (.int p3)] 4 = mkF m 0 #[.val (.int p0), .val (.int p1), .val (.int p2), .val (.int p3)] [] := by first | (simp [entryFrame, mkF, argsToLocals, Value.category]; done) | rfl
def QC (Z : State) (p0 : Int32) (p1 : Int32) (p2 : Int32) (p3 : Int32) (h0 : Heap) (n0 : Nat) (v : Option Value) (h : Heap) (L : List Loc) : Prop := v = some (.int (if own_C p0 p1 p2 p3 then 1 else 0)) ∧ Fr n0 L ∧ h = h0
set_option maxRecDepth 65536 in
set_option maxHeartbeats 40000000 in
theorem rmC (l : Launch) (Z : State) (a0 : Array Value) (hw : ∀ d ∈ tables_1, d.before a0 Z = true) (ws : List Jvm.Cond) (p0 : Int32) (p1 : Int32) (p2 : Int32) (p3 : Int32) (h0 : Heap) (n0 : Nat) (Z0 : n0 ≤ h0.size)  :
    MetFree l (⟨"com/example/lanchid/lanchid/records/FieldFilledPinLaw", "counts", "(BIII)Z"⟩ : MethodName) (head1 (Jvm.Cond.code (⟨"com/example/lanchid/lanchid/records/FieldFilledPinLaw", "counts", "(BIII)Z"⟩ : MethodName) method_3_code 4 (some .boolean) :: ws) ({ frames := 0, cells := 0, slots := 0, locals := 0 } : Room)) (fun a U => a = #[(.int p0), (.int p1), (.int p2), (.int p3)] ∧ Z.Warmed39 U.vm ∧ U.heap = h0) (fun _ _ _ _ _ => True) (fun _ U o U' => ∃ v L, o = .returned v ∧ QC Z p0 p1 p2 p3 h0 n0 v U'.heap L ∧ FrameEnd U o U' L ({ frames := 0, cells := 0, slots := 0, locals := 0 } : Room).cells ({ frames := 0, cells := 0, slots := 0, locals := 0 } : Room).slots) := by
  refine MetFree.of_bodySF (plainFor_of_name own_pn0) hisR ?_
  intro p e s m args below meth c s₁ Bd hml0 hP hK
  obtain ⟨rfl, hZ, hh⟩ := hP
  have hx := Bd.exec
  have hby := Bd.bytes
  have hml : c.maxLocals = 4 := hml0
  have hown : s.vm.findClass "com/example/lanchid/lanchid/records/FieldFilledPinLaw" = some m.cls := findClass_of_methodNamed Bd.named
  have hnm := (name_of_methodNamed Bd.named Bd.method).1
  have hlk := Bd.notSynchronized
  have hret := Bd.returns
  have X0 : Stand p l e ({ frames := 0, cells := 0, slots := 0, locals := 0 } : Room) s m #[(.int p0), (.int p1), (.int p2), (.int p3)] below meth c s₁ [] 0 0 := Stand.of_body Bd
  have e0 : s₁.heap = h0 := by rw [← hh, Bd.state]; rfl
  have N0 := Fr.nil n0
  show own_Run p e below s 0 0 (QC Z p0 p1 p2 p3 h0 n0) (s₁.setTop (entryFrame m #[(.int p0), (.int p1), (.int p2), (.int p3)] 4))
  refine own_cast (efC m p0 p1 p2 p3) ?_
  show own_Run p e below s _ _ _ (s₁.setTop (mkF m 0 #[.val (.int p0), .val (.int p1), .val (.int p2), .val (.int p3)] []))
  refine own_of (fun _ hh_ => XS.iloadN X0.here hx rfl (hb hby dC_0) rfl hh_) ?_
  show own_Run p e below s _ _ _ (s₁.setTop (mkF m 1 #[.val (.int p0), .val (.int p1), .val (.int p2), .val (.int p3)] [(.int p1)]))
  refine own_of (fun _ hh_ => XS.iloadN X0.here hx rfl (hb hby dC_1) rfl hh_) ?_
  show own_Run p e below s _ _ _ (s₁.setTop (mkF m 2 #[.val (.int p0), .val (.int p1), .val (.int p2), .val (.int p3)] [(.int p2), (.int p1)]))
  by_cases hc2_1 : p1 < p2
  · refine own_of (fun _ hh_ => XS.icmpYes X0.here hx rfl (pc0 := 2) (pc' := 26) rfl (hb hby dC_2) rfl (tlt hc2_1).1 (by decide) (by decide) hh_) ?_
    show own_Run p e below s _ _ _ (s₁.setTop (mkF m 26 #[.val (.int p0), .val (.int p1), .val (.int p2), .val (.int p3)] []))
    refine own_of (fun _ hh_ => XS.iconst X0.here hx rfl (hb hby dC_26) hh_) ?_
    show own_Run p e below s _ _ _ (s₁.setTop (mkF m 27 #[.val (.int p0), .val (.int p1), .val (.int p2), .val (.int p3)] [(.int (0 : Int32))]))
    exact own_retN X0 hx (t := .boolean) hret hlk (by simp) (hb hby dC_27) ⟨by rw [if_neg (show ¬ (own_C p0 p1 p2 p3) from by have a_hc2_1 := Int32.lt_iff_toInt_lt.mp hc2_1; omega)]; rfl, N0, e0⟩ (by decide) (by decide)
  · refine own_of (fun _ hh_ => XS.icmpNo X0.here hx rfl (hb hby dC_2) rfl (flt hc2_1).1 hh_) ?_
    show own_Run p e below s _ _ _ (s₁.setTop (mkF m 5 #[.val (.int p0), .val (.int p1), .val (.int p2), .val (.int p3)] []))
    refine own_of (fun _ hh_ => XS.iloadN X0.here hx rfl (hb hby dC_5) rfl hh_) ?_
    show own_Run p e below s _ _ _ (s₁.setTop (mkF m 6 #[.val (.int p0), .val (.int p1), .val (.int p2), .val (.int p3)] [(.int p1)]))
    refine own_of (fun _ hh_ => XS.iloadN X0.here hx rfl (hb hby dC_6) rfl hh_) ?_
    show own_Run p e below s _ _ _ (s₁.setTop (mkF m 7 #[.val (.int p0), .val (.int p1), .val (.int p2), .val (.int p3)] [(.int p3), (.int p1)]))
    by_cases hc7_2 : p1 < p3
    · refine own_of (fun _ hh_ => XS.icmpNo X0.here hx rfl (hb hby dC_7) rfl (tlt hc7_2).2.1 hh_) ?_
      show own_Run p e below s _ _ _ (s₁.setTop (mkF m 10 #[.val (.int p0), .val (.int p1), .val (.int p2), .val (.int p3)] []))
      refine own_of (fun _ hh_ => XS.iloadN X0.here hx rfl (hb hby dC_10) rfl hh_) ?_
      show own_Run p e below s _ _ _ (s₁.setTop (mkF m 11 #[.val (.int p0), .val (.int p1), .val (.int p2), .val (.int p3)] [(.int p0)]))
      refine own_of (fun _ hh_ => XS.bipush X0.here hx rfl (hb hby dC_11) hh_) ?_
      show own_Run p e below s _ _ _ (s₁.setTop (mkF m 13 #[.val (.int p0), .val (.int p1), .val (.int p2), .val (.int p3)] [(.int (32 : Int32)), (.int p0)]))
      by_cases hc13_3 : p0 = (32 : Int32)
      · refine own_of (fun _ hh_ => XS.icmpYes X0.here hx rfl (pc0 := 13) (pc' := 26) rfl (hb hby dC_13) rfl (teq hc13_3).1 (by decide) (by decide) hh_) ?_
        show own_Run p e below s _ _ _ (s₁.setTop (mkF m 26 #[.val (.int p0), .val (.int p1), .val (.int p2), .val (.int p3)] []))
        refine own_of (fun _ hh_ => XS.iconst X0.here hx rfl (hb hby dC_26) hh_) ?_
        show own_Run p e below s _ _ _ (s₁.setTop (mkF m 27 #[.val (.int p0), .val (.int p1), .val (.int p2), .val (.int p3)] [(.int (0 : Int32))]))
        exact own_retN X0 hx (t := .boolean) hret hlk (by simp) (hb hby dC_27) ⟨by rw [if_neg (show ¬ (own_C p0 p1 p2 p3) from by have a_hc2_1 := mt Int32.lt_iff_toInt_lt.mpr hc2_1; have a_hc7_2 := Int32.lt_iff_toInt_lt.mp hc7_2; have a_hc13_3 := Int32.toInt_inj.mpr hc13_3; have l_0 : (32 : Int32).toInt = 32 := rfl; omega)]; rfl, N0, e0⟩ (by decide) (by decide)
      · refine own_of (fun _ hh_ => XS.icmpNo X0.here hx rfl (hb hby dC_13) rfl (feq hc13_3).1 hh_) ?_
        show own_Run p e below s _ _ _ (s₁.setTop (mkF m 16 #[.val (.int p0), .val (.int p1), .val (.int p2), .val (.int p3)] []))
        refine own_of (fun _ hh_ => XS.iloadN X0.here hx rfl (hb hby dC_16) rfl hh_) ?_
        show own_Run p e below s _ _ _ (s₁.setTop (mkF m 17 #[.val (.int p0), .val (.int p1), .val (.int p2), .val (.int p3)] [(.int p0)]))
        refine own_of (fun _ hh_ => XS.bipush X0.here hx rfl (hb hby dC_17) hh_) ?_
        show own_Run p e below s _ _ _ (s₁.setTop (mkF m 19 #[.val (.int p0), .val (.int p1), .val (.int p2), .val (.int p3)] [(.int (48 : Int32)), (.int p0)]))
        by_cases hc19_4 : p0 = (48 : Int32)
        · refine own_of (fun _ hh_ => XS.icmpYes X0.here hx rfl (pc0 := 19) (pc' := 26) rfl (hb hby dC_19) rfl (teq hc19_4).1 (by decide) (by decide) hh_) ?_
          show own_Run p e below s _ _ _ (s₁.setTop (mkF m 26 #[.val (.int p0), .val (.int p1), .val (.int p2), .val (.int p3)] []))
          refine own_of (fun _ hh_ => XS.iconst X0.here hx rfl (hb hby dC_26) hh_) ?_
          show own_Run p e below s _ _ _ (s₁.setTop (mkF m 27 #[.val (.int p0), .val (.int p1), .val (.int p2), .val (.int p3)] [(.int (0 : Int32))]))
          exact own_retN X0 hx (t := .boolean) hret hlk (by simp) (hb hby dC_27) ⟨by rw [if_neg (show ¬ (own_C p0 p1 p2 p3) from by have a_hc2_1 := mt Int32.lt_iff_toInt_lt.mpr hc2_1; have a_hc7_2 := Int32.lt_iff_toInt_lt.mp hc7_2; have a_hc13_3 := mt Int32.toInt_inj.mp hc13_3; have a_hc19_4 := Int32.toInt_inj.mpr hc19_4; have l_0 : (32 : Int32).toInt = 32 := rfl; have l_1 : (48 : Int32).toInt = 48 := rfl; omega)]; rfl, N0, e0⟩ (by decide) (by decide)
        · refine own_of (fun _ hh_ => XS.icmpNo X0.here hx rfl (hb hby dC_19) rfl (feq hc19_4).1 hh_) ?_
          show own_Run p e below s _ _ _ (s₁.setTop (mkF m 22 #[.val (.int p0), .val (.int p1), .val (.int p2), .val (.int p3)] []))
          refine own_of (fun _ hh_ => XS.iconst X0.here hx rfl (hb hby dC_22) hh_) ?_
          show own_Run p e below s _ _ _ (s₁.setTop (mkF m 23 #[.val (.int p0), .val (.int p1), .val (.int p2), .val (.int p3)] [(.int (1 : Int32))]))
          refine own_of (fun _ hh_ => XS.goto X0.here hx rfl (pc0 := 23) (pc' := 27) rfl (hb hby dC_23) (by decide) (by decide) hh_) ?_
          show own_Run p e below s _ _ _ (s₁.setTop (mkF m 27 #[.val (.int p0), .val (.int p1), .val (.int p2), .val (.int p3)] [(.int (1 : Int32))]))
          exact own_retN X0 hx (t := .boolean) hret hlk (by simp) (hb hby dC_27) ⟨by rw [if_pos (show own_C p0 p1 p2 p3 from by have a_hc2_1 := mt Int32.lt_iff_toInt_lt.mpr hc2_1; have a_hc7_2 := Int32.lt_iff_toInt_lt.mp hc7_2; have a_hc13_3 := mt Int32.toInt_inj.mp hc13_3; have a_hc19_4 := mt Int32.toInt_inj.mp hc19_4; have l_0 : (32 : Int32).toInt = 32 := rfl; have l_1 : (48 : Int32).toInt = 48 := rfl; omega)]; rfl, N0, e0⟩ (by decide) (by decide)
    · refine own_of (fun _ hh_ => XS.icmpYes X0.here hx rfl (pc0 := 7) (pc' := 26) rfl (hb hby dC_7) rfl (flt hc7_2).2.1 (by decide) (by decide) hh_) ?_
      show own_Run p e below s _ _ _ (s₁.setTop (mkF m 26 #[.val (.int p0), .val (.int p1), .val (.int p2), .val (.int p3)] []))
      refine own_of (fun _ hh_ => XS.iconst X0.here hx rfl (hb hby dC_26) hh_) ?_
      show own_Run p e below s _ _ _ (s₁.setTop (mkF m 27 #[.val (.int p0), .val (.int p1), .val (.int p2), .val (.int p3)] [(.int (0 : Int32))]))
      exact own_retN X0 hx (t := .boolean) hret hlk (by simp) (hb hby dC_27) ⟨by rw [if_neg (show ¬ (own_C p0 p1 p2 p3) from by have a_hc2_1 := mt Int32.lt_iff_toInt_lt.mpr hc2_1; have a_hc7_2 := mt Int32.lt_iff_toInt_lt.mpr hc7_2; omega)]; rfl, N0, e0⟩ (by decide) (by decide)
theorem own_pn1 : plainName "java/lang/Record" = true := by first | (simp [plainName, overriddenIn]; done) | decide +kernel
theorem dR_0 : decode jdk_30_method_1_code 0 = .ok (.aload_n 0, 1) := by decide +kernel
theorem dR_1 : decode jdk_30_method_1_code 1 = .ok (.invokespecial 1, 3) := by decide +kernel
theorem dR_4 : decode jdk_30_method_1_code 4 = .ok (.return_, 1) := by decide +kernel
theorem efR (m : MethodId) (t1 : Addr) : entryFrame m #[(.ref t1)] 1 = mkF m 0 #[.val (.ref t1)] [] := by first | (simp [entryFrame, mkF, argsToLocals, Value.category]; done) | rfl
def QR (Z : State) (t1 : Addr) (h0 : Heap) (n0 : Nat) (v : Option Value) (h : Heap) (L : List Loc) : Prop := v = none ∧ Fr n0 L ∧ h = h0
set_option maxRecDepth 65536 in
set_option maxHeartbeats 40000000 in
theorem rmR (l : Launch) (Z : State) (a0 : Array Value) (hw : ∀ d ∈ tables_1, d.before a0 Z = true) (ws : List Jvm.Cond) (t1 : Addr) (h0 : Heap) (n0 : Nat) (Z0 : n0 ≤ h0.size)  :
    MetFree l (⟨"java/lang/Record", "<init>", "()V"⟩ : MethodName) (head1 (Jvm.Cond.code (⟨"java/lang/Record", "<init>", "()V"⟩ : MethodName) jdk_30_method_1_code 1 none :: ws) ({ frames := 1, cells := 0, slots := 0, locals := 12 } : Room)) (fun a U => a = #[(.ref t1)] ∧ Z.Warmed39 U.vm ∧ U.heap = h0) (fun _ _ _ _ _ => True) (fun _ U o U' => ∃ v L, o = .returned v ∧ QR Z t1 h0 n0 v U'.heap L ∧ FrameEnd U o U' L ({ frames := 1, cells := 0, slots := 0, locals := 12 } : Room).cells ({ frames := 1, cells := 0, slots := 0, locals := 12 } : Room).slots) := by
  refine MetFree.of_bodySF (plainFor_of_name own_pn1) hisR ?_
  intro p e s m args below meth c s₁ Bd hml0 hP hK
  obtain ⟨rfl, hZ, hh⟩ := hP
  have hx := Bd.exec
  have hby := Bd.bytes
  have hml : c.maxLocals = 1 := hml0
  have hown : s.vm.findClass "java/lang/Record" = some m.cls := findClass_of_methodNamed Bd.named
  have hnm := (name_of_methodNamed Bd.named Bd.method).1
  have hlk := Bd.notSynchronized
  have hret := Bd.returns
  have X0 : Stand p l e ({ frames := 1, cells := 0, slots := 0, locals := 12 } : Room) s m #[(.ref t1)] below meth c s₁ [] 0 0 := Stand.of_body Bd
  have e0 : s₁.heap = h0 := by rw [← hh, Bd.state]; rfl
  have N0 := Fr.nil n0
  show own_Run p e below s 0 0 (QR Z t1 h0 n0) (s₁.setTop (entryFrame m #[(.ref t1)] 1))
  refine own_cast (efR m t1) ?_
  show own_Run p e below s _ _ _ (s₁.setTop (mkF m 0 #[.val (.ref t1)] []))
  refine own_of (fun _ hh_ => XS.aloadN X0.here hx rfl (hb hby dR_0) rfl rfl hh_) ?_
  show own_Run p e below s _ _ _ (s₁.setTop (mkF m 1 #[.val (.ref t1)] [(.ref t1)]))
  obtain ⟨T1, X1, e1, st1⟩ := initO X0 hx hZ hown (hw _ (List.mem_of_getElem? (i := 27) rfl)) (hw _ (List.mem_of_getElem? (i := 28) rfl)) (hw _ (List.mem_of_getElem? (i := 29) rfl)) e0 (g := (mkF m 1 #[.val (.ref t1)] [(.ref t1)])) rfl (by rw [hml]; rfl) rfl (hb hby dR_1) (by decide) (W := 0) (by show 2 * 0 + _ ≤ _; exact Nat.le_of_eq rfl) (by decide)
  refine own_of st1 ?_
  show own_Run p e below s _ _ _ (T1.setTop (mkF m 4 #[.val (.ref t1)] []))
  exact own_retV X1 hx hret hlk (hb hby dR_4) ⟨rfl, N0, e1⟩ (by decide) (by decide)
theorem own_pd0 : parseMethodDescriptor "()V" = some ⟨[], none⟩ := by decide +kernel
theorem own_pn2 : plainName "com/example/lanchid/lanchid/records/Field" = true := by first | (simp [plainName, overriddenIn]; done) | decide +kernel
theorem dI_0 : decode prog_117_method_1_code 0 = .ok (.aload_n 0, 1) := by decide +kernel
theorem dI_1 : decode prog_117_method_1_code 1 = .ok (.invokespecial 1, 3) := by decide +kernel
theorem dI_4 : decode prog_117_method_1_code 4 = .ok (.aload_n 0, 1) := by decide +kernel
theorem dI_5 : decode prog_117_method_1_code 5 = .ok (.aload_n 1, 1) := by decide +kernel
theorem dI_6 : decode prog_117_method_1_code 6 = .ok (.putfield 7, 3) := by decide +kernel
theorem dI_9 : decode prog_117_method_1_code 9 = .ok (.aload_n 0, 1) := by decide +kernel
theorem dI_10 : decode prog_117_method_1_code 10 = .ok (.iload_n 2, 1) := by decide +kernel
theorem dI_11 : decode prog_117_method_1_code 11 = .ok (.putfield 13, 3) := by decide +kernel
theorem dI_14 : decode prog_117_method_1_code 14 = .ok (.aload_n 0, 1) := by decide +kernel
theorem dI_15 : decode prog_117_method_1_code 15 = .ok (.iload_n 3, 1) := by decide +kernel
theorem dI_16 : decode prog_117_method_1_code 16 = .ok (.putfield 17, 3) := by decide +kernel
theorem dI_19 : decode prog_117_method_1_code 19 = .ok (.return_, 1) := by decide +kernel
theorem efI (m : MethodId) (t1 : Addr) (r1 : Addr) (p1 : Int32) (p2 : Int32) : entryFrame m #[(.ref t1), (.ref r1), (.int p1), (.int p2)] 4 = mkF m 0 #[.val (.ref t1), .val (.ref r1), .val (.int p1), .val (.int p2)] [] := by first | (simp [entryFrame, mkF, argsToLocals, Value.category]; done) | rfl
def QI (Z : State) (t1 : Addr) (r1 : Addr) (p1 : Int32) (p2 : Int32) (h0 : Heap) (n0 : Nat) (v : Option Value) (h : Heap) (L : List Loc) : Prop := v = none ∧ Fr n0 L ∧ Keep h0 h [t1] ∧ Fld Z h t1 "com/example/lanchid/lanchid/records/Field" "first" "I" (.int p1) ∧ Fld Z h t1 "com/example/lanchid/lanchid/records/Field" "last" "I" (.int p2)
set_option maxRecDepth 65536 in
set_option maxHeartbeats 40000000 in
theorem rmI (l : Launch) (Z : State) (a0 : Array Value) (hw : ∀ d ∈ tables_1, d.before a0 Z = true) (ws : List Jvm.Cond) (t1 : Addr) (r1 : Addr) (p1 : Int32) (p2 : Int32) (h0 : Heap) (n0 : Nat) (Z0 : n0 ≤ h0.size) (Ex : Exa Z h0 t1 "com/example/lanchid/lanchid/records/Field") (Fname : Fld Z h0 t1 "com/example/lanchid/lanchid/records/Field" "name" "Ljava/lang/String;" .null) (Ffirst : Fld Z h0 t1 "com/example/lanchid/lanchid/records/Field" "first" "I" (.int (0 : Int32))) (Flast : Fld Z h0 t1 "com/example/lanchid/lanchid/records/Field" "last" "I" (.int (0 : Int32))) (g_t1 : n0 ≤ t1) :
    MetFree l (⟨"com/example/lanchid/lanchid/records/Field", "<init>", "(Ljava/lang/String;II)V"⟩ : MethodName) (head1 (Jvm.Cond.code (⟨"com/example/lanchid/lanchid/records/Field", "<init>", "(Ljava/lang/String;II)V"⟩ : MethodName) prog_117_method_1_code 4 none :: ws) ({ frames := 2, cells := 0, slots := 0, locals := 24 } : Room)) (fun a U => a = #[(.ref t1), (.ref r1), (.int p1), (.int p2)] ∧ Z.Warmed39 U.vm ∧ U.heap = h0) (fun _ _ _ _ _ => True) (fun _ U o U' => ∃ v L, o = .returned v ∧ QI Z t1 r1 p1 p2 h0 n0 v U'.heap L ∧ FrameEnd U o U' L ({ frames := 2, cells := 0, slots := 0, locals := 24 } : Room).cells ({ frames := 2, cells := 0, slots := 0, locals := 24 } : Room).slots) := by
  refine MetFree.of_bodySF (plainFor_of_name own_pn2) hisR ?_
  intro p e s m args below meth c s₁ Bd hml0 hP hK
  obtain ⟨rfl, hZ, hh⟩ := hP
  have hx := Bd.exec
  have hby := Bd.bytes
  have hml : c.maxLocals = 4 := hml0
  have hown : s.vm.findClass "com/example/lanchid/lanchid/records/Field" = some m.cls := findClass_of_methodNamed Bd.named
  have hnm := (name_of_methodNamed Bd.named Bd.method).1
  have hlk := Bd.notSynchronized
  have hret := Bd.returns
  have X0 : Stand p l e ({ frames := 2, cells := 0, slots := 0, locals := 24 } : Room) s m #[(.ref t1), (.ref r1), (.int p1), (.int p2)] below meth c s₁ [] 0 0 := Stand.of_body Bd
  have e0 : s₁.heap = h0 := by rw [← hh, Bd.state]; rfl
  have N0 := Fr.nil n0
  have K0 : Keep h0 h0 [t1] := Keep.refl _ _
  show own_Run p e below s 0 0 (QI Z t1 r1 p1 p2 h0 n0) (s₁.setTop (entryFrame m #[(.ref t1), (.ref r1), (.int p1), (.int p2)] 4))
  refine own_cast (efI m t1 r1 p1 p2) ?_
  show own_Run p e below s _ _ _ (s₁.setTop (mkF m 0 #[.val (.ref t1), .val (.ref r1), .val (.int p1), .val (.int p2)] []))
  refine own_of (fun _ hh_ => XS.aloadN X0.here hx rfl (hb hby dI_0) rfl rfl hh_) ?_
  show own_Run p e below s _ _ _ (s₁.setTop (mkF m 1 #[.val (.ref t1), .val (.ref r1), .val (.int p1), .val (.int p2)] [(.ref t1)]))
  obtain ⟨_, _, ⟨T1, L1, k1, n1⟩, -, X1, ⟨Lc1, hQ1, l1, y1, z1⟩, st1⟩ := X0.specialBack hx (y := (⟨"java/lang/Record", "<init>", "()V"⟩ : MethodName)) rfl hown (mvT hZ (hw _ (List.mem_of_getElem? (i := 22) rfl))) (mvT hZ (hw _ (List.mem_of_getElem? (i := 23) rfl))) (mvT hZ (hw _ (List.mem_of_getElem? (i := 26) rfl))) (by decide) (backOf (W := 0) (rmR l Z a0 hw [] t1 h0 n0 Z0) hZ (hw _ (List.mem_of_getElem? (i := 26) rfl)) (hw _ (List.mem_of_getElem? (i := 25) rfl)) (by decide) (by decide)) (g := (mkF m 1 #[.val (.ref t1), .val (.ref r1), .val (.int p1), .val (.int p2)] [(.ref t1)])) rfl (by rw [hml]; rfl) (Steps.refl _) (a := t1) (argsL := []) (rest := []) (lenOf own_pd0 rfl) rfl (by show 2 * 0 + _ ≤ _; exact Nat.le_of_eq rfl) (hb hby dI_1) (fun _ _ => ⟨rfl, e0, (by decide : 0 + 0 ≤ _), (by decide : 0 + 0 ≤ _)⟩)
  dsimp only [Pt.U, Pt.locs, Pt.cells, Pt.slots] at X1 l1 y1 z1 st1 hQ1
  subst l1 y1 z1
  obtain ⟨rfl, N1q, e1⟩ := hQ1
  have N1 := Fr.app N0 N1q
  refine own_tr st1 ?_
  show own_Run p e below s _ _ _ (T1.setTop (mkF m 4 #[.val (.ref t1), .val (.ref r1), .val (.int p1), .val (.int p2)] []))
  refine own_of (fun _ hh_ => XS.aloadN X1.here hx rfl (hb hby dI_4) rfl rfl hh_) ?_
  show own_Run p e below s _ _ _ (T1.setTop (mkF m 5 #[.val (.ref t1), .val (.ref r1), .val (.int p1), .val (.int p2)] [(.ref t1)]))
  refine own_of (fun _ hh_ => XS.aloadN X1.here hx rfl (hb hby dI_5) rfl rfl hh_) ?_
  show own_Run p e below s _ _ _ (T1.setTop (mkF m 6 #[.val (.ref t1), .val (.ref r1), .val (.int p1), .val (.int p2)] [(.ref r1), (.ref t1)]))
  obtain ⟨T2, h2, X2, e2, W2, st2⟩ := putF X1 hx hZ hown (host := "") (Or.inl (hw _ (List.mem_of_getElem? (i := 30) rfl))) Via.refl e1 Fname Ex (Or.inr ⟨(hw _ (List.mem_of_getElem? (i := 31) rfl)), rfl, hnm⟩) (hw _ (List.mem_of_getElem? (i := 10) rfl)) (ty := (.object "java/lang/String")) (by decide) rfl rfl (g := (mkF m 6 #[.val (.ref t1), .val (.ref r1), .val (.int p1), .val (.int p2)] [(.ref r1), (.ref t1)])) rfl rfl (hb hby dI_6)
  have f2 := Fname.same W2
  have N2 := Fr.snoc X2 N1 g_t1
  have f3 := Ex.wr W2
  have f4 := Ffirst.other W2 (Or.inr (slot_ne (Or.inr (hw _ (List.mem_of_getElem? (i := 33) rfl))) (Or.inr (hw _ (List.mem_of_getElem? (i := 31) rfl))) (by decide) (t := .int) (t' := (.object "java/lang/String")) (by decide) (by decide)))
  have f5 := Flast.other W2 (Or.inr (slot_ne (Or.inr (hw _ (List.mem_of_getElem? (i := 35) rfl))) (Or.inr (hw _ (List.mem_of_getElem? (i := 31) rfl))) (by decide) (t := .int) (t' := (.object "java/lang/String")) (by decide) (by decide)))
  have K6 := K0.wr W2 (Or.inl (List.mem_of_getElem? (i := 0) rfl))
  refine own_of st2 ?_
  show own_Run p e below s _ _ _ (T2.setTop (mkF m 9 #[.val (.ref t1), .val (.ref r1), .val (.int p1), .val (.int p2)] []))
  refine own_of (fun _ hh_ => XS.aloadN X2.here hx rfl (hb hby dI_9) rfl rfl hh_) ?_
  show own_Run p e below s _ _ _ (T2.setTop (mkF m 10 #[.val (.ref t1), .val (.ref r1), .val (.int p1), .val (.int p2)] [(.ref t1)]))
  refine own_of (fun _ hh_ => XS.iloadN X2.here hx rfl (hb hby dI_10) rfl hh_) ?_
  show own_Run p e below s _ _ _ (T2.setTop (mkF m 11 #[.val (.ref t1), .val (.ref r1), .val (.int p1), .val (.int p2)] [(.int p1), (.ref t1)]))
  obtain ⟨T7, h7, X7, e7, W7, st7⟩ := putF X2 hx hZ hown (host := "") (Or.inl (hw _ (List.mem_of_getElem? (i := 32) rfl))) Via.refl e2 f4 f3 (Or.inr ⟨(hw _ (List.mem_of_getElem? (i := 33) rfl)), rfl, hnm⟩) (hw _ (List.mem_of_getElem? (i := 10) rfl)) (ty := .int) (by decide) rfl rfl (g := (mkF m 11 #[.val (.ref t1), .val (.ref r1), .val (.int p1), .val (.int p2)] [(.int p1), (.ref t1)])) rfl rfl (hb hby dI_11)
  have f7 := f4.same W7
  have N7 := Fr.snoc X7 N2 g_t1
  have f8 := f3.wr W7
  have f9 := f2.other W7 (Or.inr (slot_ne (Or.inr (hw _ (List.mem_of_getElem? (i := 31) rfl))) (Or.inr (hw _ (List.mem_of_getElem? (i := 33) rfl))) (by decide) (t := (.object "java/lang/String")) (t' := .int) (by decide) (by decide)))
  have f10 := f5.other W7 (Or.inr (slot_ne (Or.inr (hw _ (List.mem_of_getElem? (i := 35) rfl))) (Or.inr (hw _ (List.mem_of_getElem? (i := 33) rfl))) (by decide) (t := .int) (t' := .int) (by decide) (by decide)))
  have K11 := K6.wr W7 (Or.inl (List.mem_of_getElem? (i := 0) rfl))
  refine own_of st7 ?_
  show own_Run p e below s _ _ _ (T7.setTop (mkF m 14 #[.val (.ref t1), .val (.ref r1), .val (.int p1), .val (.int p2)] []))
  refine own_of (fun _ hh_ => XS.aloadN X7.here hx rfl (hb hby dI_14) rfl rfl hh_) ?_
  show own_Run p e below s _ _ _ (T7.setTop (mkF m 15 #[.val (.ref t1), .val (.ref r1), .val (.int p1), .val (.int p2)] [(.ref t1)]))
  refine own_of (fun _ hh_ => XS.iloadN X7.here hx rfl (hb hby dI_15) rfl hh_) ?_
  show own_Run p e below s _ _ _ (T7.setTop (mkF m 16 #[.val (.ref t1), .val (.ref r1), .val (.int p1), .val (.int p2)] [(.int p2), (.ref t1)]))
  obtain ⟨T12, h12, X12, e12, W12, st12⟩ := putF X7 hx hZ hown (host := "") (Or.inl (hw _ (List.mem_of_getElem? (i := 34) rfl))) Via.refl e7 f10 f8 (Or.inr ⟨(hw _ (List.mem_of_getElem? (i := 35) rfl)), rfl, hnm⟩) (hw _ (List.mem_of_getElem? (i := 10) rfl)) (ty := .int) (by decide) rfl rfl (g := (mkF m 16 #[.val (.ref t1), .val (.ref r1), .val (.int p1), .val (.int p2)] [(.int p2), (.ref t1)])) rfl rfl (hb hby dI_16)
  have f12 := f10.same W12
  have N12 := Fr.snoc X12 N7 g_t1
  have f13 := f8.wr W12
  have f14 := f9.other W12 (Or.inr (slot_ne (Or.inr (hw _ (List.mem_of_getElem? (i := 31) rfl))) (Or.inr (hw _ (List.mem_of_getElem? (i := 35) rfl))) (by decide) (t := (.object "java/lang/String")) (t' := .int) (by decide) (by decide)))
  have f15 := f7.other W12 (Or.inr (slot_ne (Or.inr (hw _ (List.mem_of_getElem? (i := 33) rfl))) (Or.inr (hw _ (List.mem_of_getElem? (i := 35) rfl))) (by decide) (t := .int) (t' := .int) (by decide) (by decide)))
  have K16 := K11.wr W12 (Or.inl (List.mem_of_getElem? (i := 0) rfl))
  refine own_of st12 ?_
  show own_Run p e below s _ _ _ (T12.setTop (mkF m 19 #[.val (.ref t1), .val (.ref r1), .val (.int p1), .val (.int p2)] []))
  exact own_retV X12 hx hret hlk (hb hby dI_19) (by rw [e12]; exact ⟨rfl, N12, K16, f15, f12⟩) (by decide) (by decide)
theorem dV_0 : decode prog_117_method_9_code 0 = .ok (.aload_n 0, 1) := by decide +kernel
theorem dV_1 : decode prog_117_method_9_code 1 = .ok (.getfield 13, 3) := by decide +kernel
theorem dV_4 : decode prog_117_method_9_code 4 = .ok (.iconst 1, 1) := by decide +kernel
theorem dV_5 : decode prog_117_method_9_code 5 = .ok (.isub, 1) := by decide +kernel
theorem dV_6 : decode prog_117_method_9_code 6 = .ok (.istore_n 2, 1) := by decide +kernel
theorem dV_7 : decode prog_117_method_9_code 7 = .ok (.iload_n 2, 1) := by decide +kernel
theorem dV_8 : decode prog_117_method_9_code 8 = .ok (.aload_n 0, 1) := by decide +kernel
theorem dV_9 : decode prog_117_method_9_code 9 = .ok (.getfield 17, 3) := by decide +kernel
theorem dV_12 : decode prog_117_method_9_code 12 = .ok (.if_icmp .ge 27, 3) := by decide +kernel
theorem dV_15 : decode prog_117_method_9_code 15 = .ok (.aload_n 1, 1) := by decide +kernel
theorem dV_16 : decode prog_117_method_9_code 16 = .ok (.iload_n 2, 1) := by decide +kernel
theorem dV_17 : decode prog_117_method_9_code 17 = .ok (.baload, 1) := by decide +kernel
theorem dV_18 : decode prog_117_method_9_code 18 = .ok (.bipush 32, 2) := by decide +kernel
theorem dV_20 : decode prog_117_method_9_code 20 = .ok (.if_icmp .eq 13, 3) := by decide +kernel
theorem dV_23 : decode prog_117_method_9_code 23 = .ok (.aload_n 1, 1) := by decide +kernel
theorem dV_24 : decode prog_117_method_9_code 24 = .ok (.iload_n 2, 1) := by decide +kernel
theorem dV_25 : decode prog_117_method_9_code 25 = .ok (.baload, 1) := by decide +kernel
theorem dV_26 : decode prog_117_method_9_code 26 = .ok (.bipush 48, 2) := by decide +kernel
theorem dV_28 : decode prog_117_method_9_code 28 = .ok (.if_icmp .eq 5, 3) := by decide +kernel
theorem dV_31 : decode prog_117_method_9_code 31 = .ok (.iconst 1, 1) := by decide +kernel
theorem dV_32 : decode prog_117_method_9_code 32 = .ok (.ireturn, 1) := by decide +kernel
theorem dV_33 : decode prog_117_method_9_code 33 = .ok (.iinc 2 1, 3) := by decide +kernel
theorem dV_36 : decode prog_117_method_9_code 36 = .ok (.goto (-29), 3) := by decide +kernel
theorem dV_39 : decode prog_117_method_9_code 39 = .ok (.iconst 0, 1) := by decide +kernel
theorem dV_40 : decode prog_117_method_9_code 40 = .ok (.ireturn, 1) := by decide +kernel
theorem efV (m : MethodId) (t1 : Addr) (r1 : Addr) : entryFrame m #[(.ref t1), (.ref r1)] 3 = mkF m 0 #[.val (.ref t1), .val (.ref r1), .unset] [] := by first | (simp [entryFrame, mkF, argsToLocals, Value.category]; done) | rfl
def QV (Z : State) (t1 : Addr) (r1 : Addr) (vf : Int32) (vl : Int32) (n : Nat) (g : Nat → Int32) (h0 : Heap) (n0 : Nat) (v : Option Value) (h : Heap) (L : List Loc) : Prop := ∃ z : Int32, v = some (.int z) ∧ own_FL g (vf.toInt - 1) vl.toInt z ∧ Fr n0 L ∧ h = h0
set_option maxRecDepth 65536 in
set_option maxHeartbeats 40000000 in
theorem rmV (l : Launch) (Z : State) (a0 : Array Value) (hw : ∀ d ∈ tables_1, d.before a0 Z = true) (ws : List Jvm.Cond) (t1 : Addr) (r1 : Addr) (vf : Int32) (vl : Int32) (n : Nat) (g : Nat → Int32) (h0 : Heap) (n0 : Nat) (Z0 : n0 ≤ h0.size) (Ff : Fld Z h0 t1 "com/example/lanchid/lanchid/records/Field" "first" "I" (.int vf)) (Fl : Fld Z h0 t1 "com/example/lanchid/lanchid/records/Field" "last" "I" (.int vl)) (A : own_Ar Z h0 r1 .byte n g) (hf1 : 1 ≤ vf.toInt) (hln : vl.toInt ≤ (n : Int)) :
    MetFree l (⟨"com/example/lanchid/lanchid/records/Field", "filled", "([B)Z"⟩ : MethodName) (head1 (Jvm.Cond.code (⟨"com/example/lanchid/lanchid/records/Field", "filled", "([B)Z"⟩ : MethodName) prog_117_method_9_code 3 (some .boolean) :: ws) ({ frames := 0, cells := 0, slots := 0, locals := 0 } : Room)) (fun a U => a = #[(.ref t1), (.ref r1)] ∧ Z.Warmed39 U.vm ∧ U.heap = h0) (fun _ _ _ _ _ => True) (fun _ U o U' => ∃ v L, o = .returned v ∧ QV Z t1 r1 vf vl n g h0 n0 v U'.heap L ∧ FrameEnd U o U' L ({ frames := 0, cells := 0, slots := 0, locals := 0 } : Room).cells ({ frames := 0, cells := 0, slots := 0, locals := 0 } : Room).slots) := by
  refine MetFree.of_bodySF (plainFor_of_name own_pn2) hisR ?_
  intro p e s m args below meth c s₁ Bd hml0 hP hK
  obtain ⟨rfl, hZ, hh⟩ := hP
  have hx := Bd.exec
  have hby := Bd.bytes
  have hml : c.maxLocals = 3 := hml0
  have hown : s.vm.findClass "com/example/lanchid/lanchid/records/Field" = some m.cls := findClass_of_methodNamed Bd.named
  have hnm := (name_of_methodNamed Bd.named Bd.method).1
  have hlk := Bd.notSynchronized
  have hret := Bd.returns
  have X0 : Stand p l e ({ frames := 0, cells := 0, slots := 0, locals := 0 } : Room) s m #[(.ref t1), (.ref r1)] below meth c s₁ [] 0 0 := Stand.of_body Bd
  have e0 : s₁.heap = h0 := by rw [← hh, Bd.state]; rfl
  have N0 := Fr.nil n0
  show own_Run p e below s 0 0 (QV Z t1 r1 vf vl n g h0 n0) (s₁.setTop (entryFrame m #[(.ref t1), (.ref r1)] 3))
  refine own_cast (efV m t1 r1) ?_
  have hs1 : (vf - (1 : Int32)).toInt = vf.toInt - 1 := by have z1 := c_isub vf (1 : Int32); have z2 := rng32 (vf - (1 : Int32)); have z3 := rng32 vf; have z4 : (1 : Int32).toInt = 1 := rfl; omega
  show own_Run p e below s _ _ _ (s₁.setTop (mkF m 0 #[.val (.ref t1), .val (.ref r1), .unset] []))
  refine own_of (fun _ hh_ => XS.aloadN X0.here hx rfl (hb hby dV_0) rfl rfl hh_) ?_
  show own_Run p e below s _ _ _ (s₁.setTop (mkF m 1 #[.val (.ref t1), .val (.ref r1), .unset] [(.ref t1)]))
  obtain ⟨T1, X1, e1, st1⟩ := getF X0 hx hZ hown (host := "") (Or.inl (hw _ (List.mem_of_getElem? (i := 32) rfl))) Via.refl e0 Ff (g := (mkF m 1 #[.val (.ref t1), .val (.ref r1), .unset] [(.ref t1)])) rfl rfl (hb hby dV_1)
  refine own_of st1 ?_
  show own_Run p e below s _ _ _ (T1.setTop (mkF m 4 #[.val (.ref t1), .val (.ref r1), .unset] [(.int vf)]))
  refine own_of (fun _ hh_ => XS.iconst X1.here hx rfl (hb hby dV_4) hh_) ?_
  show own_Run p e below s _ _ _ (T1.setTop (mkF m 5 #[.val (.ref t1), .val (.ref r1), .unset] [(.int (1 : Int32)), (.int vf)]))
  refine own_of (fun _ hh_ => XS.isub X1.here hx rfl (hb hby dV_5) rfl hh_) ?_
  show own_Run p e below s _ _ _ (T1.setTop (mkF m 6 #[.val (.ref t1), .val (.ref r1), .unset] [(.int (vf - (1 : Int32)))]))
  refine own_of (fun _ hh_ => XS.istoreN X1.here hx rfl (hb hby dV_6) rfl (l' := #[.val (.ref t1), .val (.ref r1), .val (.int (vf - (1 : Int32)))]) rfl hh_) ?_
  show own_Run p e below s _ _ _ (T1.setTop (mkF m 7 #[.val (.ref t1), .val (.ref r1), .val (.int (vf - (1 : Int32)))] []))
  have loop : ∀ (k : Nat) (i : Int32) (Tc : State), Stand p l e ({ frames := 0, cells := 0, slots := 0, locals := 0 } : Room) s m #[(.ref t1), (.ref r1)] below meth c Tc [] 0 0 → Tc.heap = h0 → vf.toInt - 1 ≤ i.toInt → (vl.toInt - i.toInt).toNat ≤ k → (∀ j : Nat, vf.toInt - 1 ≤ j → (j : Int) < i.toInt → (g j).toInt = 32 ∨ (g j).toInt = 48) → own_Run p e below s 0 0 (QV Z t1 r1 vf vl n g h0 n0) (Tc.setTop (mkF m 7 #[.val (.ref t1), .val (.ref r1), .val (.int i)] [])) := by
    intro k
    induction k with
    | zero =>
      intro i Tc Xc ec g1 hk hz
      have ci := own_clamp (j := i) (by omega)
      show own_Run p e below s _ _ _ (Tc.setTop (mkF m 7 #[.val (.ref t1), .val (.ref r1), .val (.int i)] []))
      refine own_of (fun _ hh_ => XS.iloadN Xc.here hx rfl (hb hby dV_7) rfl hh_) ?_
      show own_Run p e below s _ _ _ (Tc.setTop (mkF m 8 #[.val (.ref t1), .val (.ref r1), .val (.int i)] [(.int i)]))
      refine own_of (fun _ hh_ => XS.aloadN Xc.here hx rfl (hb hby dV_8) rfl rfl hh_) ?_
      show own_Run p e below s _ _ _ (Tc.setTop (mkF m 9 #[.val (.ref t1), .val (.ref r1), .val (.int i)] [(.ref t1), (.int i)]))
      obtain ⟨T2, X2, e2, st2⟩ := getF Xc hx hZ hown (host := "") (Or.inl (hw _ (List.mem_of_getElem? (i := 34) rfl))) Via.refl ec Fl (g := (mkF m 9 #[.val (.ref t1), .val (.ref r1), .val (.int i)] [(.ref t1), (.int i)])) rfl rfl (hb hby dV_9)
      refine own_of st2 ?_
      show own_Run p e below s _ _ _ (T2.setTop (mkF m 12 #[.val (.ref t1), .val (.ref r1), .val (.int i)] [(.int vl), (.int i)]))
      have hc12_3 : ¬ (i < vl) := by apply mt Int32.lt_iff_toInt_lt.mp; omega
      refine own_of (fun _ hh_ => XS.icmpYes X2.here hx rfl (pc0 := 12) (pc' := 39) rfl (hb hby dV_12) rfl (flt hc12_3).2.1 (by decide) (by decide) hh_) ?_
      show own_Run p e below s _ _ _ (T2.setTop (mkF m 39 #[.val (.ref t1), .val (.ref r1), .val (.int i)] []))
      refine own_of (fun _ hh_ => XS.iconst X2.here hx rfl (hb hby dV_39) hh_) ?_
      show own_Run p e below s _ _ _ (T2.setTop (mkF m 40 #[.val (.ref t1), .val (.ref r1), .val (.int i)] [(.int (0 : Int32))]))
      exact own_retN X2 hx (t := .boolean) hret hlk (by simp) (hb hby dV_40) ⟨_, rfl, Or.inr ⟨rfl, fun j j1 j2 => hz j j1 (by have z := mt Int32.lt_iff_toInt_lt.mpr hc12_3; omega)⟩, N0, e2⟩ (by decide) (by decide)
    | succ k ih =>
      intro i Tc Xc ec g1 hk hz
      have ci := own_clamp (j := i) (by omega)
      show own_Run p e below s _ _ _ (Tc.setTop (mkF m 7 #[.val (.ref t1), .val (.ref r1), .val (.int i)] []))
      refine own_of (fun _ hh_ => XS.iloadN Xc.here hx rfl (hb hby dV_7) rfl hh_) ?_
      show own_Run p e below s _ _ _ (Tc.setTop (mkF m 8 #[.val (.ref t1), .val (.ref r1), .val (.int i)] [(.int i)]))
      refine own_of (fun _ hh_ => XS.aloadN Xc.here hx rfl (hb hby dV_8) rfl rfl hh_) ?_
      show own_Run p e below s _ _ _ (Tc.setTop (mkF m 9 #[.val (.ref t1), .val (.ref r1), .val (.int i)] [(.ref t1), (.int i)]))
      obtain ⟨T4, X4, e4, st4⟩ := getF Xc hx hZ hown (host := "") (Or.inl (hw _ (List.mem_of_getElem? (i := 34) rfl))) Via.refl ec Fl (g := (mkF m 9 #[.val (.ref t1), .val (.ref r1), .val (.int i)] [(.ref t1), (.int i)])) rfl rfl (hb hby dV_9)
      refine own_of st4 ?_
      show own_Run p e below s _ _ _ (T4.setTop (mkF m 12 #[.val (.ref t1), .val (.ref r1), .val (.int i)] [(.int vl), (.int i)]))
      by_cases hc12_5 : i < vl
      · refine own_of (fun _ hh_ => XS.icmpNo X4.here hx rfl (hb hby dV_12) rfl (tlt hc12_5).2.1 hh_) ?_
        show own_Run p e below s _ _ _ (T4.setTop (mkF m 15 #[.val (.ref t1), .val (.ref r1), .val (.int i)] []))
        have q0 := Int32.lt_iff_toInt_lt.mp hc12_5
        have hi1 := own_pos (j := i) (by omega)
        have hi2 : i.toNatClampNeg < n := by omega
        refine own_of (fun _ hh_ => XS.aloadN X4.here hx rfl (hb hby dV_15) rfl rfl hh_) ?_
        show own_Run p e below s _ _ _ (T4.setTop (mkF m 16 #[.val (.ref t1), .val (.ref r1), .val (.int i)] [(.ref r1)]))
        refine own_of (fun _ hh_ => XS.iloadN X4.here hx rfl (hb hby dV_16) rfl hh_) ?_
        show own_Run p e below s _ _ _ (T4.setTop (mkF m 17 #[.val (.ref t1), .val (.ref r1), .val (.int i)] [(.int i), (.ref r1)]))
        refine own_bal X4 hx hZ e4 A (j := i) (w := (g i.toNatClampNeg)) hi1 hi2 rfl (hb hby dV_17) ?_
        show own_Run p e below s _ _ _ (T4.setTop (mkF m 18 #[.val (.ref t1), .val (.ref r1), .val (.int i)] [(.int (g i.toNatClampNeg))]))
        refine own_of (fun _ hh_ => XS.bipush X4.here hx rfl (hb hby dV_18) hh_) ?_
        show own_Run p e below s _ _ _ (T4.setTop (mkF m 20 #[.val (.ref t1), .val (.ref r1), .val (.int i)] [(.int (32 : Int32)), (.int (g i.toNatClampNeg))]))
        by_cases hc20_6 : (g i.toNatClampNeg) = (32 : Int32)
        · refine own_of (fun _ hh_ => XS.icmpYes X4.here hx rfl (pc0 := 20) (pc' := 33) rfl (hb hby dV_20) rfl (teq hc20_6).1 (by decide) (by decide) hh_) ?_
          show own_Run p e below s _ _ _ (T4.setTop (mkF m 33 #[.val (.ref t1), .val (.ref r1), .val (.int i)] []))
          refine own_of (fun _ hh_ => XS.iinc X4.here hx rfl (hb hby dV_33) rfl (l' := #[.val (.ref t1), .val (.ref r1), .val (.int (i + (1 : Int32)))]) rfl hh_) ?_
          show own_Run p e below s _ _ _ (T4.setTop (mkF m 36 #[.val (.ref t1), .val (.ref r1), .val (.int (i + (1 : Int32)))] []))
          refine own_of (fun _ hh_ => XS.goto X4.here hx rfl (pc0 := 36) (pc' := 7) rfl (hb hby dV_36) (by decide) (by decide) hh_) ?_
          show own_Run p e below s _ _ _ (T4.setTop (mkF m 7 #[.val (.ref t1), .val (.ref r1), .val (.int (i + (1 : Int32)))] []))
          have a_hc12_5 := Int32.lt_iff_toInt_lt.mp hc12_5
          have a_hc20_6 := Int32.toInt_inj.mpr hc20_6
          have l_0 : (32 : Int32).toInt = 32 := rfl
          have l_1 : (48 : Int32).toInt = 48 := rfl
          have q4 := c_iadd i (1 : Int32)
          have q5 := rng32 (i + (1 : Int32))
          have q6 : (1 : Int32).toInt = 1 := rfl
          have q7 := rng32 vl
          exact ih _ _ X4 e4 (by omega) (by omega) (fun j j1 j2 => by by_cases q8 : (j : Int) < i.toInt; exact hz j j1 q8; rw [show j = i.toNatClampNeg from by omega]; omega)
        · refine own_of (fun _ hh_ => XS.icmpNo X4.here hx rfl (hb hby dV_20) rfl (feq hc20_6).1 hh_) ?_
          show own_Run p e below s _ _ _ (T4.setTop (mkF m 23 #[.val (.ref t1), .val (.ref r1), .val (.int i)] []))
          refine own_of (fun _ hh_ => XS.aloadN X4.here hx rfl (hb hby dV_23) rfl rfl hh_) ?_
          show own_Run p e below s _ _ _ (T4.setTop (mkF m 24 #[.val (.ref t1), .val (.ref r1), .val (.int i)] [(.ref r1)]))
          refine own_of (fun _ hh_ => XS.iloadN X4.here hx rfl (hb hby dV_24) rfl hh_) ?_
          show own_Run p e below s _ _ _ (T4.setTop (mkF m 25 #[.val (.ref t1), .val (.ref r1), .val (.int i)] [(.int i), (.ref r1)]))
          refine own_bal X4 hx hZ e4 A (j := i) (w := (g i.toNatClampNeg)) hi1 hi2 rfl (hb hby dV_25) ?_
          show own_Run p e below s _ _ _ (T4.setTop (mkF m 26 #[.val (.ref t1), .val (.ref r1), .val (.int i)] [(.int (g i.toNatClampNeg))]))
          refine own_of (fun _ hh_ => XS.bipush X4.here hx rfl (hb hby dV_26) hh_) ?_
          show own_Run p e below s _ _ _ (T4.setTop (mkF m 28 #[.val (.ref t1), .val (.ref r1), .val (.int i)] [(.int (48 : Int32)), (.int (g i.toNatClampNeg))]))
          by_cases hc28_7 : (g i.toNatClampNeg) = (48 : Int32)
          · refine own_of (fun _ hh_ => XS.icmpYes X4.here hx rfl (pc0 := 28) (pc' := 33) rfl (hb hby dV_28) rfl (teq hc28_7).1 (by decide) (by decide) hh_) ?_
            show own_Run p e below s _ _ _ (T4.setTop (mkF m 33 #[.val (.ref t1), .val (.ref r1), .val (.int i)] []))
            refine own_of (fun _ hh_ => XS.iinc X4.here hx rfl (hb hby dV_33) rfl (l' := #[.val (.ref t1), .val (.ref r1), .val (.int (i + (1 : Int32)))]) rfl hh_) ?_
            show own_Run p e below s _ _ _ (T4.setTop (mkF m 36 #[.val (.ref t1), .val (.ref r1), .val (.int (i + (1 : Int32)))] []))
            refine own_of (fun _ hh_ => XS.goto X4.here hx rfl (pc0 := 36) (pc' := 7) rfl (hb hby dV_36) (by decide) (by decide) hh_) ?_
            show own_Run p e below s _ _ _ (T4.setTop (mkF m 7 #[.val (.ref t1), .val (.ref r1), .val (.int (i + (1 : Int32)))] []))
            have a_hc12_5 := Int32.lt_iff_toInt_lt.mp hc12_5
            have a_hc20_6 := mt Int32.toInt_inj.mp hc20_6
            have a_hc28_7 := Int32.toInt_inj.mpr hc28_7
            have l_0 : (32 : Int32).toInt = 32 := rfl
            have l_1 : (48 : Int32).toInt = 48 := rfl
            have q4 := c_iadd i (1 : Int32)
            have q5 := rng32 (i + (1 : Int32))
            have q6 : (1 : Int32).toInt = 1 := rfl
            have q7 := rng32 vl
            exact ih _ _ X4 e4 (by omega) (by omega) (fun j j1 j2 => by by_cases q8 : (j : Int) < i.toInt; exact hz j j1 q8; rw [show j = i.toNatClampNeg from by omega]; omega)
          · refine own_of (fun _ hh_ => XS.icmpNo X4.here hx rfl (hb hby dV_28) rfl (feq hc28_7).1 hh_) ?_
            show own_Run p e below s _ _ _ (T4.setTop (mkF m 31 #[.val (.ref t1), .val (.ref r1), .val (.int i)] []))
            refine own_of (fun _ hh_ => XS.iconst X4.here hx rfl (hb hby dV_31) hh_) ?_
            show own_Run p e below s _ _ _ (T4.setTop (mkF m 32 #[.val (.ref t1), .val (.ref r1), .val (.int i)] [(.int (1 : Int32))]))
            exact own_retN X4 hx (t := .boolean) hret hlk (by simp) (hb hby dV_32) ⟨_, rfl, Or.inl ⟨rfl, i.toNatClampNeg, by omega, by omega, by have a_hc20_6 := mt Int32.toInt_inj.mp hc20_6; have a_hc28_7 := mt Int32.toInt_inj.mp hc28_7; have l_0 : (32 : Int32).toInt = 32 := rfl; have l_1 : (48 : Int32).toInt = 48 := rfl; omega, by have a_hc20_6 := mt Int32.toInt_inj.mp hc20_6; have a_hc28_7 := mt Int32.toInt_inj.mp hc28_7; have l_0 : (32 : Int32).toInt = 32 := rfl; have l_1 : (48 : Int32).toInt = 48 := rfl; omega⟩, N0, e4⟩ (by decide) (by decide)
      · refine own_of (fun _ hh_ => XS.icmpYes X4.here hx rfl (pc0 := 12) (pc' := 39) rfl (hb hby dV_12) rfl (flt hc12_5).2.1 (by decide) (by decide) hh_) ?_
        show own_Run p e below s _ _ _ (T4.setTop (mkF m 39 #[.val (.ref t1), .val (.ref r1), .val (.int i)] []))
        refine own_of (fun _ hh_ => XS.iconst X4.here hx rfl (hb hby dV_39) hh_) ?_
        show own_Run p e below s _ _ _ (T4.setTop (mkF m 40 #[.val (.ref t1), .val (.ref r1), .val (.int i)] [(.int (0 : Int32))]))
        exact own_retN X4 hx (t := .boolean) hret hlk (by simp) (hb hby dV_40) ⟨_, rfl, Or.inr ⟨rfl, fun j j1 j2 => hz j j1 (by have z := mt Int32.lt_iff_toInt_lt.mpr hc12_5; omega)⟩, N0, e4⟩ (by decide) (by decide)
  exact loop _ _ _ X1 e1 (by omega) (Nat.le_refl _) (fun j j1 j2 => absurd j2 (by omega))
theorem own_pd1 : parseMethodDescriptor "(JI)B" = some ⟨[.long, .int], some .byte⟩ := by decide +kernel
theorem own_pd2 : parseMethodDescriptor "(Ljava/lang/String;II)V" = some ⟨[(.object "java/lang/String"), .int, .int], none⟩ := by decide +kernel
theorem own_pd3 : parseMethodDescriptor "([B)Z" = some ⟨[(.array .byte)], some .boolean⟩ := by decide +kernel
theorem own_pd4 : parseMethodDescriptor "(BIII)Z" = some ⟨[.byte, .int, .int, .int], some .boolean⟩ := by decide +kernel
theorem ef0 (m : MethodId) (sh : Int32) (by1 : Int64) : entryFrame m #[(.int sh), (.long by1)] maxLocals = mkF m 0 #[.val (.int sh), .val (.long by1), .second, .unset, .unset, .unset, .unset, .unset, .unset, .unset, .unset] [] := by first | (simp [entryFrame, mkF, argsToLocals, Value.category, maxLocals]; done) | rfl
def Q0 (Z : State) (sh : Int32) (by1 : Int64) (h0 : Heap) (n0 : Nat) (v : Option Value) (h : Heap) (L : List Loc) : Prop := v = some (.int 1) ∧ Fr n0 L
set_option maxRecDepth 65536 in
set_option maxHeartbeats 40000000 in
theorem rm0 (l : Launch) (Z : State) (a0 : Array Value) (hw : ∀ d ∈ tables_1, d.before a0 Z = true) (ws : List Jvm.Cond) (sh : Int32) (by1 : Int64) (h0 : Heap) (n0 : Nat) (Z0 : n0 ≤ h0.size)  :
    MetFree l x (head1 (Jvm.Cond.code x code maxLocals ret :: ws) room_1) (fun a U => a = #[(.int sh), (.long by1)] ∧ Z.Warmed39 U.vm ∧ U.heap = h0) (fun _ _ _ _ _ => True) (fun _ U o U' => ∃ v L, o = .returned v ∧ Q0 Z sh by1 h0 n0 v U'.heap L ∧ ReturnedEndW U o U' L 16 1152) := by
  refine MetFree.of_bodySF (plainFor_of_name own_pn0) hisR ?_
  intro p e s m args below meth c s₁ Bd hml0 hP hK
  obtain ⟨rfl, hZ, hh⟩ := hP
  have hx := Bd.exec
  have hby := Bd.bytes
  have hml : c.maxLocals = 11 := hml0
  have hown : s.vm.findClass "com/example/lanchid/lanchid/records/FieldFilledPinLaw" = some m.cls := findClass_of_methodNamed Bd.named
  have hnm := (name_of_methodNamed Bd.named Bd.method).1
  have hlk := Bd.notSynchronized
  have hret := Bd.returns
  have X0 : Stand p l e room_1 s m #[(.int sh), (.long by1)] below meth c s₁ [] 0 0 := Stand.of_body Bd
  have e0 : s₁.heap = h0 := by rw [← hh, Bd.state]; rfl
  have N0 := Fr.nil n0
  show own_RunW p e below s 16 1152 (Q0 Z sh by1 h0 n0) (s₁.setTop (entryFrame m #[(.int sh), (.long by1)] maxLocals))
  refine own_castW (ef0 m sh by1) ?_
  show own_RunW p e below s _ _ _ (s₁.setTop (mkF m 0 #[.val (.int sh), .val (.long by1), .second, .unset, .unset, .unset, .unset, .unset, .unset, .unset, .unset] []))
  refine own_ofW (fun _ hh_ => XS.iconst X0.here hx rfl (hb hby at_0) hh_) ?_
  show own_RunW p e below s _ _ _ (s₁.setTop (mkF m 1 #[.val (.int sh), .val (.long by1), .second, .unset, .unset, .unset, .unset, .unset, .unset, .unset, .unset] [(.int (1 : Int32))]))
  refine own_ofW (fun _ hh_ => XS.iloadN X0.here hx rfl (hb hby at_1) rfl hh_) ?_
  show own_RunW p e below s _ _ _ (s₁.setTop (mkF m 2 #[.val (.int sh), .val (.long by1), .second, .unset, .unset, .unset, .unset, .unset, .unset, .unset, .unset] [(.int sh), (.int (1 : Int32))]))
  refine own_ofW (fun _ hh_ => XS.iconst X0.here hx rfl (hb hby at_2) hh_) ?_
  show own_RunW p e below s _ _ _ (s₁.setTop (mkF m 3 #[.val (.int sh), .val (.long by1), .second, .unset, .unset, .unset, .unset, .unset, .unset, .unset, .unset] [(.int (3 : Int32)), (.int sh), (.int (1 : Int32))]))
  refine own_ofW (fun _ hh_ => XS.iand X0.here hx rfl (hb hby at_3) rfl hh_) ?_
  show own_RunW p e below s _ _ _ (s₁.setTop (mkF m 4 #[.val (.int sh), .val (.long by1), .second, .unset, .unset, .unset, .unset, .unset, .unset, .unset, .unset] [(.int (sh &&& (3 : Int32))), (.int (1 : Int32))]))
  refine own_ofW (fun _ hh_ => XS.iadd X0.here hx rfl (hb hby at_4) rfl hh_) ?_
  show own_RunW p e below s _ _ _ (s₁.setTop (mkF m 5 #[.val (.int sh), .val (.long by1), .second, .unset, .unset, .unset, .unset, .unset, .unset, .unset, .unset] [(.int ((1 : Int32) + (sh &&& (3 : Int32))))]))
  generalize hfi : ((1 : Int32) + (sh &&& (3 : Int32))) = fi
  have rfi : 1 ≤ fi.toInt ∧ fi.toInt ≤ 4 := by
    have z1 : (sh &&& (3 : Int32)).toInt = sh.toInt % 4 := c_mask sh (3 : Int32) 2 (by decide) (by decide)
    have z2 := c_iadd (1 : Int32) (sh &&& (3 : Int32)); have z3 := rng32 ((1 : Int32) + (sh &&& (3 : Int32))); have z4 : (1 : Int32).toInt = 1 := rfl
    rw [hfi] at z2 z3; omega
  show own_RunW p e below s _ _ _ (s₁.setTop (mkF m 5 #[.val (.int sh), .val (.long by1), .second, .unset, .unset, .unset, .unset, .unset, .unset, .unset, .unset] [(.int fi)]))
  refine own_ofW (fun _ hh_ => XS.istoreN X0.here hx rfl (hb hby at_5) rfl (l' := #[.val (.int sh), .val (.long by1), .second, .val (.int fi), .unset, .unset, .unset, .unset, .unset, .unset, .unset]) rfl hh_) ?_
  show own_RunW p e below s _ _ _ (s₁.setTop (mkF m 6 #[.val (.int sh), .val (.long by1), .second, .val (.int fi), .unset, .unset, .unset, .unset, .unset, .unset, .unset] []))
  refine own_ofW (fun _ hh_ => XS.iloadN X0.here hx rfl (hb hby at_6) rfl hh_) ?_
  show own_RunW p e below s _ _ _ (s₁.setTop (mkF m 7 #[.val (.int sh), .val (.long by1), .second, .val (.int fi), .unset, .unset, .unset, .unset, .unset, .unset, .unset] [(.int sh)]))
  refine own_ofW (fun _ hh_ => XS.iconst X0.here hx rfl (hb hby at_7) hh_) ?_
  show own_RunW p e below s _ _ _ (s₁.setTop (mkF m 8 #[.val (.int sh), .val (.long by1), .second, .val (.int fi), .unset, .unset, .unset, .unset, .unset, .unset, .unset] [(.int (2 : Int32)), (.int sh)]))
  refine own_ofW (fun _ hh_ => XS.iushr X0.here hx rfl (hb hby at_8) rfl hh_) ?_
  show own_RunW p e below s _ _ _ (s₁.setTop (mkF m 9 #[.val (.int sh), .val (.long by1), .second, .val (.int fi), .unset, .unset, .unset, .unset, .unset, .unset, .unset] [(.int ((sh.toUInt32 >>> ((2 : Int32) &&& 31).toUInt32).toInt32))]))
  refine own_ofW (fun _ hh_ => XS.iconst X0.here hx rfl (hb hby at_9) hh_) ?_
  show own_RunW p e below s _ _ _ (s₁.setTop (mkF m 10 #[.val (.int sh), .val (.long by1), .second, .val (.int fi), .unset, .unset, .unset, .unset, .unset, .unset, .unset] [(.int (3 : Int32)), (.int ((sh.toUInt32 >>> ((2 : Int32) &&& 31).toUInt32).toInt32))]))
  refine own_ofW (fun _ hh_ => XS.iand X0.here hx rfl (hb hby at_10) rfl hh_) ?_
  show own_RunW p e below s _ _ _ (s₁.setTop (mkF m 11 #[.val (.int sh), .val (.long by1), .second, .val (.int fi), .unset, .unset, .unset, .unset, .unset, .unset, .unset] [(.int (((sh.toUInt32 >>> ((2 : Int32) &&& 31).toUInt32).toInt32) &&& (3 : Int32)))]))
  generalize hln : (((sh.toUInt32 >>> ((2 : Int32) &&& 31).toUInt32).toInt32) &&& (3 : Int32)) = ln
  have rln : 0 ≤ ln.toInt ∧ ln.toInt ≤ 3 := by
    have z1 : (((sh.toUInt32 >>> ((2 : Int32) &&& 31).toUInt32).toInt32) &&& (3 : Int32)).toInt = ((sh.toUInt32 >>> ((2 : Int32) &&& 31).toUInt32).toInt32).toInt % 4 := c_mask ((sh.toUInt32 >>> ((2 : Int32) &&& 31).toUInt32).toInt32) (3 : Int32) 2 (by decide) (by decide)
    rw [hln] at z1; omega
  show own_RunW p e below s _ _ _ (s₁.setTop (mkF m 11 #[.val (.int sh), .val (.long by1), .second, .val (.int fi), .unset, .unset, .unset, .unset, .unset, .unset, .unset] [(.int ln)]))
  refine own_ofW (fun _ hh_ => XS.istore X0.here hx rfl (hb hby at_11) rfl (l' := #[.val (.int sh), .val (.long by1), .second, .val (.int fi), .val (.int ln), .unset, .unset, .unset, .unset, .unset, .unset]) rfl hh_) ?_
  show own_RunW p e below s _ _ _ (s₁.setTop (mkF m 13 #[.val (.int sh), .val (.long by1), .second, .val (.int fi), .val (.int ln), .unset, .unset, .unset, .unset, .unset, .unset] []))
  refine own_ofW (fun _ hh_ => XS.iloadN X0.here hx rfl (hb hby at_13) rfl hh_) ?_
  show own_RunW p e below s _ _ _ (s₁.setTop (mkF m 14 #[.val (.int sh), .val (.long by1), .second, .val (.int fi), .val (.int ln), .unset, .unset, .unset, .unset, .unset, .unset] [(.int fi)]))
  refine own_ofW (fun _ hh_ => XS.iload X0.here hx rfl (hb hby at_14) rfl hh_) ?_
  show own_RunW p e below s _ _ _ (s₁.setTop (mkF m 16 #[.val (.int sh), .val (.long by1), .second, .val (.int fi), .val (.int ln), .unset, .unset, .unset, .unset, .unset, .unset] [(.int ln), (.int fi)]))
  refine own_ofW (fun _ hh_ => XS.iadd X0.here hx rfl (hb hby at_16) rfl hh_) ?_
  show own_RunW p e below s _ _ _ (s₁.setTop (mkF m 17 #[.val (.int sh), .val (.long by1), .second, .val (.int fi), .val (.int ln), .unset, .unset, .unset, .unset, .unset, .unset] [(.int (fi + ln))]))
  refine own_ofW (fun _ hh_ => XS.iconst X0.here hx rfl (hb hby at_17) hh_) ?_
  show own_RunW p e below s _ _ _ (s₁.setTop (mkF m 18 #[.val (.int sh), .val (.long by1), .second, .val (.int fi), .val (.int ln), .unset, .unset, .unset, .unset, .unset, .unset] [(.int (1 : Int32)), (.int (fi + ln))]))
  refine own_ofW (fun _ hh_ => XS.isub X0.here hx rfl (hb hby at_18) rfl hh_) ?_
  show own_RunW p e below s _ _ _ (s₁.setTop (mkF m 19 #[.val (.int sh), .val (.long by1), .second, .val (.int fi), .val (.int ln), .unset, .unset, .unset, .unset, .unset, .unset] [(.int ((fi + ln) - (1 : Int32)))]))
  generalize hla : ((fi + ln) - (1 : Int32)) = la
  have rla : 0 ≤ la.toInt ∧ la.toInt ≤ ((6 : Nat) : Int) := by
    have z1 := c_iadd fi ln; have z2 := rng32 (fi + ln); have z3 := c_isub (fi + ln) (1 : Int32); have z5 := rng32 ((fi + ln) - (1 : Int32)); have z4 : (1 : Int32).toInt = 1 := rfl
    rw [hla] at z3 z5; omega
  show own_RunW p e below s _ _ _ (s₁.setTop (mkF m 19 #[.val (.int sh), .val (.long by1), .second, .val (.int fi), .val (.int ln), .unset, .unset, .unset, .unset, .unset, .unset] [(.int la)]))
  refine own_ofW (fun _ hh_ => XS.istore X0.here hx rfl (hb hby at_19) rfl (l' := #[.val (.int sh), .val (.long by1), .second, .val (.int fi), .val (.int ln), .val (.int la), .unset, .unset, .unset, .unset, .unset]) rfl hh_) ?_
  show own_RunW p e below s _ _ _ (s₁.setTop (mkF m 21 #[.val (.int sh), .val (.long by1), .second, .val (.int fi), .val (.int ln), .val (.int la), .unset, .unset, .unset, .unset, .unset] []))
  refine own_ofW (fun _ hh_ => XS.bipush X0.here hx rfl (hb hby at_21) hh_) ?_
  show own_RunW p e below s _ _ _ (s₁.setTop (mkF m 23 #[.val (.int sh), .val (.long by1), .second, .val (.int fi), .val (.int ln), .val (.int la), .unset, .unset, .unset, .unset, .unset] [(.int (6 : Int32))]))
  obtain ⟨T1, h1, k1, X1, e1, E1, A1, st1⟩ := newP X0 hx hZ (hw _ (List.mem_of_getElem? (i := 0) rfl)) e0 (g := (mkF m 23 #[.val (.int sh), .val (.long by1), .second, .val (.int fi), .val (.int ln), .val (.int la), .unset, .unset, .unset, .unset, .unset] [(.int (6 : Int32))])) rfl (hb hby at_23) rfl (by decide) (cap := 6) (by decide) (by decide) (by decide) (by decide)
  obtain ⟨ob1, g1⟩ : ∃ z, z = h0.size := ⟨_, rfl⟩
  rw [← g1] at A1 st1
  have g_ob1 : n0 ≤ ob1 := Nat.le_trans Z0 (Nat.le_of_eq g1.symm)
  have V1 : own_Ar Z h1 ob1 .byte 6 (fun _ => 0) := own_Ar.new A1 rfl rfl
  refine own_ofW st1 ?_
  show own_RunW p e below s _ _ _ (T1.setTop (mkF m 25 #[.val (.int sh), .val (.long by1), .second, .val (.int fi), .val (.int ln), .val (.int la), .unset, .unset, .unset, .unset, .unset] [(.ref ob1)]))
  refine own_ofW (fun _ hh_ => XS.astore X1.here hx rfl (hb hby at_25) rfl rfl (l' := #[.val (.int sh), .val (.long by1), .second, .val (.int fi), .val (.int ln), .val (.int la), .val (.ref ob1), .unset, .unset, .unset, .unset]) rfl hh_) ?_
  show own_RunW p e below s _ _ _ (T1.setTop (mkF m 27 #[.val (.int sh), .val (.long by1), .second, .val (.int fi), .val (.int ln), .val (.int la), .val (.ref ob1), .unset, .unset, .unset, .unset] []))
  refine own_ofW (fun _ hh_ => XS.aload X1.here hx rfl (hb hby at_27) rfl rfl hh_) ?_
  show own_RunW p e below s _ _ _ (T1.setTop (mkF m 29 #[.val (.int sh), .val (.long by1), .second, .val (.int fi), .val (.int ln), .val (.int la), .val (.ref ob1), .unset, .unset, .unset, .unset] [(.ref ob1)]))
  refine own_ofW (fun _ hh_ => XS.iconst X1.here hx rfl (hb hby at_29) hh_) ?_
  show own_RunW p e below s _ _ _ (T1.setTop (mkF m 30 #[.val (.int sh), .val (.long by1), .second, .val (.int fi), .val (.int ln), .val (.int la), .val (.ref ob1), .unset, .unset, .unset, .unset] [(.int (0 : Int32)), (.ref ob1)]))
  refine own_ofW (fun _ hh_ => XS.lloadN X1.here hx rfl (hb hby at_30) rfl hh_) ?_
  show own_RunW p e below s _ _ _ (T1.setTop (mkF m 31 #[.val (.int sh), .val (.long by1), .second, .val (.int fi), .val (.int ln), .val (.int la), .val (.ref ob1), .unset, .unset, .unset, .unset] [(.long by1), (.int (0 : Int32)), (.ref ob1)]))
  refine own_ofW (fun _ hh_ => XS.iconst X1.here hx rfl (hb hby at_31) hh_) ?_
  show own_RunW p e below s _ _ _ (T1.setTop (mkF m 32 #[.val (.int sh), .val (.long by1), .second, .val (.int fi), .val (.int ln), .val (.int la), .val (.ref ob1), .unset, .unset, .unset, .unset] [(.int (0 : Int32)), (.long by1), (.int (0 : Int32)), (.ref ob1)]))
  obtain ⟨_, _, ⟨T2, L2, k2, n2⟩, -, X2, ⟨Lc2, hQ2, l2, y2, z2⟩, st2⟩ := Jvm.LawKit.callS X1 hx (y := (⟨"com/example/lanchid/lanchid/records/FieldFilledPinLaw", "pick", "(JI)B"⟩ : MethodName)) hown (mvT hZ (hw _ (List.mem_of_getElem? (i := 1) rfl))) (mvT hZ (hw _ (List.mem_of_getElem? (i := 2) rfl))) (mvT hZ (hw _ (List.mem_of_getElem? (i := 3) rfl))) (mvT hZ (hw _ (List.mem_of_getElem? (i := 4) rfl))) (by decide) (backOf (W := 2) (rmK l Z a0 hw [] by1 (0 : Int32) h1 n0 (Nat.le_trans Z0 E1.1)) hZ (hw _ (List.mem_of_getElem? (i := 4) rfl)) (hw _ (List.mem_of_getElem? (i := 3) rfl)) (by decide) (by decide)) (g := (mkF m 32 #[.val (.int sh), .val (.long by1), .second, .val (.int fi), .val (.int ln), .val (.int la), .val (.ref ob1), .unset, .unset, .unset, .unset] [(.int (0 : Int32)), (.long by1), (.int (0 : Int32)), (.ref ob1)])) rfl (by rw [hml]; rfl) (argsL := [(.long by1), (.int (0 : Int32))]) (rest := [(.int (0 : Int32)), (.ref ob1)]) (lenOf own_pd1 rfl) rfl (by show 2 * 0 + _ ≤ _; exact Nat.le_of_eq rfl) (hb hby at_32) (fun _ _ => ⟨rfl, e1, (by decide : 1 + 0 ≤ _), (by decide : 6 + 0 ≤ _)⟩)
  dsimp only [Pt.U, Pt.locs, Pt.cells, Pt.slots] at X2 l2 y2 z2 st2 hQ2
  subst l2 y2 z2
  obtain ⟨zz2, rfl, N2q, e2⟩ := hQ2
  have N2 := Fr.app N0 N2q
  refine own_ofW st2 ?_
  show own_RunW p e below s _ _ _ (T2.setTop (mkF m 35 #[.val (.int sh), .val (.long by1), .second, .val (.int fi), .val (.int ln), .val (.int la), .val (.ref ob1), .unset, .unset, .unset, .unset] [(.int zz2), (.int (0 : Int32)), (.ref ob1)]))
  obtain ⟨T3, h3, X3, e3, W3, V3, st3⟩ := own_bas X2 hx hZ e2 V1 (j := (0 : Int32)) (x := zz2) (by decide) (by decide) (pc := 35) (Ls := #[.val (.int sh), .val (.long by1), .second, .val (.int fi), .val (.int ln), .val (.int la), .val (.ref ob1), .unset, .unset, .unset, .unset]) (rest := []) (hb hby at_35)
  have N3 := Fr.snoc X3 N2 g_ob1
  replace V3 : own_Ar Z h3 ob1 .byte 6 (own_up (fun _ => 0) 0 zz2.toInt8.toInt32) := V3
  refine own_ofW st3 ?_
  show own_RunW p e below s _ _ _ (T3.setTop (mkF m 36 #[.val (.int sh), .val (.long by1), .second, .val (.int fi), .val (.int ln), .val (.int la), .val (.ref ob1), .unset, .unset, .unset, .unset] []))
  refine own_ofW (fun _ hh_ => XS.aload X3.here hx rfl (hb hby at_36) rfl rfl hh_) ?_
  show own_RunW p e below s _ _ _ (T3.setTop (mkF m 38 #[.val (.int sh), .val (.long by1), .second, .val (.int fi), .val (.int ln), .val (.int la), .val (.ref ob1), .unset, .unset, .unset, .unset] [(.ref ob1)]))
  refine own_ofW (fun _ hh_ => XS.iconst X3.here hx rfl (hb hby at_38) hh_) ?_
  show own_RunW p e below s _ _ _ (T3.setTop (mkF m 39 #[.val (.int sh), .val (.long by1), .second, .val (.int fi), .val (.int ln), .val (.int la), .val (.ref ob1), .unset, .unset, .unset, .unset] [(.int (1 : Int32)), (.ref ob1)]))
  refine own_ofW (fun _ hh_ => XS.lloadN X3.here hx rfl (hb hby at_39) rfl hh_) ?_
  show own_RunW p e below s _ _ _ (T3.setTop (mkF m 40 #[.val (.int sh), .val (.long by1), .second, .val (.int fi), .val (.int ln), .val (.int la), .val (.ref ob1), .unset, .unset, .unset, .unset] [(.long by1), (.int (1 : Int32)), (.ref ob1)]))
  refine own_ofW (fun _ hh_ => XS.iconst X3.here hx rfl (hb hby at_40) hh_) ?_
  show own_RunW p e below s _ _ _ (T3.setTop (mkF m 41 #[.val (.int sh), .val (.long by1), .second, .val (.int fi), .val (.int ln), .val (.int la), .val (.ref ob1), .unset, .unset, .unset, .unset] [(.int (1 : Int32)), (.long by1), (.int (1 : Int32)), (.ref ob1)]))
  obtain ⟨_, _, ⟨T4, L4, k4, n4⟩, -, X4, ⟨Lc4, hQ4, l4, y4, z4⟩, st4⟩ := Jvm.LawKit.callS X3 hx (y := (⟨"com/example/lanchid/lanchid/records/FieldFilledPinLaw", "pick", "(JI)B"⟩ : MethodName)) hown (mvT hZ (hw _ (List.mem_of_getElem? (i := 1) rfl))) (mvT hZ (hw _ (List.mem_of_getElem? (i := 2) rfl))) (mvT hZ (hw _ (List.mem_of_getElem? (i := 3) rfl))) (mvT hZ (hw _ (List.mem_of_getElem? (i := 4) rfl))) (by decide) (backOf (W := 2) (rmK l Z a0 hw [] by1 (1 : Int32) h3 n0 (Nat.le_trans (Nat.le_trans Z0 E1.1) (Nat.le_of_eq W3.size.symm))) hZ (hw _ (List.mem_of_getElem? (i := 4) rfl)) (hw _ (List.mem_of_getElem? (i := 3) rfl)) (by decide) (by decide)) (g := (mkF m 41 #[.val (.int sh), .val (.long by1), .second, .val (.int fi), .val (.int ln), .val (.int la), .val (.ref ob1), .unset, .unset, .unset, .unset] [(.int (1 : Int32)), (.long by1), (.int (1 : Int32)), (.ref ob1)])) rfl (by rw [hml]; rfl) (argsL := [(.long by1), (.int (1 : Int32))]) (rest := [(.int (1 : Int32)), (.ref ob1)]) (lenOf own_pd1 rfl) rfl (by show 2 * 0 + _ ≤ _; exact Nat.le_of_eq rfl) (hb hby at_41) (fun _ _ => ⟨rfl, e3, (by decide : 1 + 0 ≤ _), (by decide : 6 + 0 ≤ _)⟩)
  dsimp only [Pt.U, Pt.locs, Pt.cells, Pt.slots] at X4 l4 y4 z4 st4 hQ4
  subst l4 y4 z4
  obtain ⟨zz4, rfl, N4q, e4⟩ := hQ4
  have N4 := Fr.app N3 N4q
  refine own_ofW st4 ?_
  show own_RunW p e below s _ _ _ (T4.setTop (mkF m 44 #[.val (.int sh), .val (.long by1), .second, .val (.int fi), .val (.int ln), .val (.int la), .val (.ref ob1), .unset, .unset, .unset, .unset] [(.int zz4), (.int (1 : Int32)), (.ref ob1)]))
  obtain ⟨T5, h5, X5, e5, W5, V5, st5⟩ := own_bas X4 hx hZ e4 V3 (j := (1 : Int32)) (x := zz4) (by decide) (by decide) (pc := 44) (Ls := #[.val (.int sh), .val (.long by1), .second, .val (.int fi), .val (.int ln), .val (.int la), .val (.ref ob1), .unset, .unset, .unset, .unset]) (rest := []) (hb hby at_44)
  have N5 := Fr.snoc X5 N4 g_ob1
  replace V5 : own_Ar Z h5 ob1 .byte 6 (own_up (own_up (fun _ => 0) 0 zz2.toInt8.toInt32) 1 zz4.toInt8.toInt32) := V5
  refine own_ofW st5 ?_
  show own_RunW p e below s _ _ _ (T5.setTop (mkF m 45 #[.val (.int sh), .val (.long by1), .second, .val (.int fi), .val (.int ln), .val (.int la), .val (.ref ob1), .unset, .unset, .unset, .unset] []))
  refine own_ofW (fun _ hh_ => XS.aload X5.here hx rfl (hb hby at_45) rfl rfl hh_) ?_
  show own_RunW p e below s _ _ _ (T5.setTop (mkF m 47 #[.val (.int sh), .val (.long by1), .second, .val (.int fi), .val (.int ln), .val (.int la), .val (.ref ob1), .unset, .unset, .unset, .unset] [(.ref ob1)]))
  refine own_ofW (fun _ hh_ => XS.iconst X5.here hx rfl (hb hby at_47) hh_) ?_
  show own_RunW p e below s _ _ _ (T5.setTop (mkF m 48 #[.val (.int sh), .val (.long by1), .second, .val (.int fi), .val (.int ln), .val (.int la), .val (.ref ob1), .unset, .unset, .unset, .unset] [(.int (2 : Int32)), (.ref ob1)]))
  refine own_ofW (fun _ hh_ => XS.lloadN X5.here hx rfl (hb hby at_48) rfl hh_) ?_
  show own_RunW p e below s _ _ _ (T5.setTop (mkF m 49 #[.val (.int sh), .val (.long by1), .second, .val (.int fi), .val (.int ln), .val (.int la), .val (.ref ob1), .unset, .unset, .unset, .unset] [(.long by1), (.int (2 : Int32)), (.ref ob1)]))
  refine own_ofW (fun _ hh_ => XS.iconst X5.here hx rfl (hb hby at_49) hh_) ?_
  show own_RunW p e below s _ _ _ (T5.setTop (mkF m 50 #[.val (.int sh), .val (.long by1), .second, .val (.int fi), .val (.int ln), .val (.int la), .val (.ref ob1), .unset, .unset, .unset, .unset] [(.int (2 : Int32)), (.long by1), (.int (2 : Int32)), (.ref ob1)]))
  obtain ⟨_, _, ⟨T6, L6, k6, n6⟩, -, X6, ⟨Lc6, hQ6, l6, y6, z6⟩, st6⟩ := Jvm.LawKit.callS X5 hx (y := (⟨"com/example/lanchid/lanchid/records/FieldFilledPinLaw", "pick", "(JI)B"⟩ : MethodName)) hown (mvT hZ (hw _ (List.mem_of_getElem? (i := 1) rfl))) (mvT hZ (hw _ (List.mem_of_getElem? (i := 2) rfl))) (mvT hZ (hw _ (List.mem_of_getElem? (i := 3) rfl))) (mvT hZ (hw _ (List.mem_of_getElem? (i := 4) rfl))) (by decide) (backOf (W := 2) (rmK l Z a0 hw [] by1 (2 : Int32) h5 n0 (Nat.le_trans (Nat.le_trans (Nat.le_trans Z0 E1.1) (Nat.le_of_eq W3.size.symm)) (Nat.le_of_eq W5.size.symm))) hZ (hw _ (List.mem_of_getElem? (i := 4) rfl)) (hw _ (List.mem_of_getElem? (i := 3) rfl)) (by decide) (by decide)) (g := (mkF m 50 #[.val (.int sh), .val (.long by1), .second, .val (.int fi), .val (.int ln), .val (.int la), .val (.ref ob1), .unset, .unset, .unset, .unset] [(.int (2 : Int32)), (.long by1), (.int (2 : Int32)), (.ref ob1)])) rfl (by rw [hml]; rfl) (argsL := [(.long by1), (.int (2 : Int32))]) (rest := [(.int (2 : Int32)), (.ref ob1)]) (lenOf own_pd1 rfl) rfl (by show 2 * 0 + _ ≤ _; exact Nat.le_of_eq rfl) (hb hby at_50) (fun _ _ => ⟨rfl, e5, (by decide : 1 + 0 ≤ _), (by decide : 6 + 0 ≤ _)⟩)
  dsimp only [Pt.U, Pt.locs, Pt.cells, Pt.slots] at X6 l6 y6 z6 st6 hQ6
  subst l6 y6 z6
  obtain ⟨zz6, rfl, N6q, e6⟩ := hQ6
  have N6 := Fr.app N5 N6q
  refine own_ofW st6 ?_
  show own_RunW p e below s _ _ _ (T6.setTop (mkF m 53 #[.val (.int sh), .val (.long by1), .second, .val (.int fi), .val (.int ln), .val (.int la), .val (.ref ob1), .unset, .unset, .unset, .unset] [(.int zz6), (.int (2 : Int32)), (.ref ob1)]))
  obtain ⟨T7, h7, X7, e7, W7, V7, st7⟩ := own_bas X6 hx hZ e6 V5 (j := (2 : Int32)) (x := zz6) (by decide) (by decide) (pc := 53) (Ls := #[.val (.int sh), .val (.long by1), .second, .val (.int fi), .val (.int ln), .val (.int la), .val (.ref ob1), .unset, .unset, .unset, .unset]) (rest := []) (hb hby at_53)
  have N7 := Fr.snoc X7 N6 g_ob1
  replace V7 : own_Ar Z h7 ob1 .byte 6 (own_up (own_up (own_up (fun _ => 0) 0 zz2.toInt8.toInt32) 1 zz4.toInt8.toInt32) 2 zz6.toInt8.toInt32) := V7
  refine own_ofW st7 ?_
  show own_RunW p e below s _ _ _ (T7.setTop (mkF m 54 #[.val (.int sh), .val (.long by1), .second, .val (.int fi), .val (.int ln), .val (.int la), .val (.ref ob1), .unset, .unset, .unset, .unset] []))
  refine own_ofW (fun _ hh_ => XS.aload X7.here hx rfl (hb hby at_54) rfl rfl hh_) ?_
  show own_RunW p e below s _ _ _ (T7.setTop (mkF m 56 #[.val (.int sh), .val (.long by1), .second, .val (.int fi), .val (.int ln), .val (.int la), .val (.ref ob1), .unset, .unset, .unset, .unset] [(.ref ob1)]))
  refine own_ofW (fun _ hh_ => XS.iconst X7.here hx rfl (hb hby at_56) hh_) ?_
  show own_RunW p e below s _ _ _ (T7.setTop (mkF m 57 #[.val (.int sh), .val (.long by1), .second, .val (.int fi), .val (.int ln), .val (.int la), .val (.ref ob1), .unset, .unset, .unset, .unset] [(.int (3 : Int32)), (.ref ob1)]))
  refine own_ofW (fun _ hh_ => XS.lloadN X7.here hx rfl (hb hby at_57) rfl hh_) ?_
  show own_RunW p e below s _ _ _ (T7.setTop (mkF m 58 #[.val (.int sh), .val (.long by1), .second, .val (.int fi), .val (.int ln), .val (.int la), .val (.ref ob1), .unset, .unset, .unset, .unset] [(.long by1), (.int (3 : Int32)), (.ref ob1)]))
  refine own_ofW (fun _ hh_ => XS.iconst X7.here hx rfl (hb hby at_58) hh_) ?_
  show own_RunW p e below s _ _ _ (T7.setTop (mkF m 59 #[.val (.int sh), .val (.long by1), .second, .val (.int fi), .val (.int ln), .val (.int la), .val (.ref ob1), .unset, .unset, .unset, .unset] [(.int (3 : Int32)), (.long by1), (.int (3 : Int32)), (.ref ob1)]))
  obtain ⟨_, _, ⟨T8, L8, k8, n8⟩, -, X8, ⟨Lc8, hQ8, l8, y8, z8⟩, st8⟩ := Jvm.LawKit.callS X7 hx (y := (⟨"com/example/lanchid/lanchid/records/FieldFilledPinLaw", "pick", "(JI)B"⟩ : MethodName)) hown (mvT hZ (hw _ (List.mem_of_getElem? (i := 1) rfl))) (mvT hZ (hw _ (List.mem_of_getElem? (i := 2) rfl))) (mvT hZ (hw _ (List.mem_of_getElem? (i := 3) rfl))) (mvT hZ (hw _ (List.mem_of_getElem? (i := 4) rfl))) (by decide) (backOf (W := 2) (rmK l Z a0 hw [] by1 (3 : Int32) h7 n0 (Nat.le_trans (Nat.le_trans (Nat.le_trans (Nat.le_trans Z0 E1.1) (Nat.le_of_eq W3.size.symm)) (Nat.le_of_eq W5.size.symm)) (Nat.le_of_eq W7.size.symm))) hZ (hw _ (List.mem_of_getElem? (i := 4) rfl)) (hw _ (List.mem_of_getElem? (i := 3) rfl)) (by decide) (by decide)) (g := (mkF m 59 #[.val (.int sh), .val (.long by1), .second, .val (.int fi), .val (.int ln), .val (.int la), .val (.ref ob1), .unset, .unset, .unset, .unset] [(.int (3 : Int32)), (.long by1), (.int (3 : Int32)), (.ref ob1)])) rfl (by rw [hml]; rfl) (argsL := [(.long by1), (.int (3 : Int32))]) (rest := [(.int (3 : Int32)), (.ref ob1)]) (lenOf own_pd1 rfl) rfl (by show 2 * 0 + _ ≤ _; exact Nat.le_of_eq rfl) (hb hby at_59) (fun _ _ => ⟨rfl, e7, (by decide : 1 + 0 ≤ _), (by decide : 6 + 0 ≤ _)⟩)
  dsimp only [Pt.U, Pt.locs, Pt.cells, Pt.slots] at X8 l8 y8 z8 st8 hQ8
  subst l8 y8 z8
  obtain ⟨zz8, rfl, N8q, e8⟩ := hQ8
  have N8 := Fr.app N7 N8q
  refine own_ofW st8 ?_
  show own_RunW p e below s _ _ _ (T8.setTop (mkF m 62 #[.val (.int sh), .val (.long by1), .second, .val (.int fi), .val (.int ln), .val (.int la), .val (.ref ob1), .unset, .unset, .unset, .unset] [(.int zz8), (.int (3 : Int32)), (.ref ob1)]))
  obtain ⟨T9, h9, X9, e9, W9, V9, st9⟩ := own_bas X8 hx hZ e8 V7 (j := (3 : Int32)) (x := zz8) (by decide) (by decide) (pc := 62) (Ls := #[.val (.int sh), .val (.long by1), .second, .val (.int fi), .val (.int ln), .val (.int la), .val (.ref ob1), .unset, .unset, .unset, .unset]) (rest := []) (hb hby at_62)
  have N9 := Fr.snoc X9 N8 g_ob1
  replace V9 : own_Ar Z h9 ob1 .byte 6 (own_up (own_up (own_up (own_up (fun _ => 0) 0 zz2.toInt8.toInt32) 1 zz4.toInt8.toInt32) 2 zz6.toInt8.toInt32) 3 zz8.toInt8.toInt32) := V9
  refine own_ofW st9 ?_
  show own_RunW p e below s _ _ _ (T9.setTop (mkF m 63 #[.val (.int sh), .val (.long by1), .second, .val (.int fi), .val (.int ln), .val (.int la), .val (.ref ob1), .unset, .unset, .unset, .unset] []))
  refine own_ofW (fun _ hh_ => XS.aload X9.here hx rfl (hb hby at_63) rfl rfl hh_) ?_
  show own_RunW p e below s _ _ _ (T9.setTop (mkF m 65 #[.val (.int sh), .val (.long by1), .second, .val (.int fi), .val (.int ln), .val (.int la), .val (.ref ob1), .unset, .unset, .unset, .unset] [(.ref ob1)]))
  refine own_ofW (fun _ hh_ => XS.iconst X9.here hx rfl (hb hby at_65) hh_) ?_
  show own_RunW p e below s _ _ _ (T9.setTop (mkF m 66 #[.val (.int sh), .val (.long by1), .second, .val (.int fi), .val (.int ln), .val (.int la), .val (.ref ob1), .unset, .unset, .unset, .unset] [(.int (4 : Int32)), (.ref ob1)]))
  refine own_ofW (fun _ hh_ => XS.lloadN X9.here hx rfl (hb hby at_66) rfl hh_) ?_
  show own_RunW p e below s _ _ _ (T9.setTop (mkF m 67 #[.val (.int sh), .val (.long by1), .second, .val (.int fi), .val (.int ln), .val (.int la), .val (.ref ob1), .unset, .unset, .unset, .unset] [(.long by1), (.int (4 : Int32)), (.ref ob1)]))
  refine own_ofW (fun _ hh_ => XS.iconst X9.here hx rfl (hb hby at_67) hh_) ?_
  show own_RunW p e below s _ _ _ (T9.setTop (mkF m 68 #[.val (.int sh), .val (.long by1), .second, .val (.int fi), .val (.int ln), .val (.int la), .val (.ref ob1), .unset, .unset, .unset, .unset] [(.int (4 : Int32)), (.long by1), (.int (4 : Int32)), (.ref ob1)]))
  obtain ⟨_, _, ⟨T10, L10, k10, n10⟩, -, X10, ⟨Lc10, hQ10, l10, y10, z10⟩, st10⟩ := Jvm.LawKit.callS X9 hx (y := (⟨"com/example/lanchid/lanchid/records/FieldFilledPinLaw", "pick", "(JI)B"⟩ : MethodName)) hown (mvT hZ (hw _ (List.mem_of_getElem? (i := 1) rfl))) (mvT hZ (hw _ (List.mem_of_getElem? (i := 2) rfl))) (mvT hZ (hw _ (List.mem_of_getElem? (i := 3) rfl))) (mvT hZ (hw _ (List.mem_of_getElem? (i := 4) rfl))) (by decide) (backOf (W := 2) (rmK l Z a0 hw [] by1 (4 : Int32) h9 n0 (Nat.le_trans (Nat.le_trans (Nat.le_trans (Nat.le_trans (Nat.le_trans Z0 E1.1) (Nat.le_of_eq W3.size.symm)) (Nat.le_of_eq W5.size.symm)) (Nat.le_of_eq W7.size.symm)) (Nat.le_of_eq W9.size.symm))) hZ (hw _ (List.mem_of_getElem? (i := 4) rfl)) (hw _ (List.mem_of_getElem? (i := 3) rfl)) (by decide) (by decide)) (g := (mkF m 68 #[.val (.int sh), .val (.long by1), .second, .val (.int fi), .val (.int ln), .val (.int la), .val (.ref ob1), .unset, .unset, .unset, .unset] [(.int (4 : Int32)), (.long by1), (.int (4 : Int32)), (.ref ob1)])) rfl (by rw [hml]; rfl) (argsL := [(.long by1), (.int (4 : Int32))]) (rest := [(.int (4 : Int32)), (.ref ob1)]) (lenOf own_pd1 rfl) rfl (by show 2 * 0 + _ ≤ _; exact Nat.le_of_eq rfl) (hb hby at_68) (fun _ _ => ⟨rfl, e9, (by decide : 1 + 0 ≤ _), (by decide : 6 + 0 ≤ _)⟩)
  dsimp only [Pt.U, Pt.locs, Pt.cells, Pt.slots] at X10 l10 y10 z10 st10 hQ10
  subst l10 y10 z10
  obtain ⟨zz10, rfl, N10q, e10⟩ := hQ10
  have N10 := Fr.app N9 N10q
  refine own_ofW st10 ?_
  show own_RunW p e below s _ _ _ (T10.setTop (mkF m 71 #[.val (.int sh), .val (.long by1), .second, .val (.int fi), .val (.int ln), .val (.int la), .val (.ref ob1), .unset, .unset, .unset, .unset] [(.int zz10), (.int (4 : Int32)), (.ref ob1)]))
  obtain ⟨T11, h11, X11, e11, W11, V11, st11⟩ := own_bas X10 hx hZ e10 V9 (j := (4 : Int32)) (x := zz10) (by decide) (by decide) (pc := 71) (Ls := #[.val (.int sh), .val (.long by1), .second, .val (.int fi), .val (.int ln), .val (.int la), .val (.ref ob1), .unset, .unset, .unset, .unset]) (rest := []) (hb hby at_71)
  have N11 := Fr.snoc X11 N10 g_ob1
  replace V11 : own_Ar Z h11 ob1 .byte 6 (own_up (own_up (own_up (own_up (own_up (fun _ => 0) 0 zz2.toInt8.toInt32) 1 zz4.toInt8.toInt32) 2 zz6.toInt8.toInt32) 3 zz8.toInt8.toInt32) 4 zz10.toInt8.toInt32) := V11
  refine own_ofW st11 ?_
  show own_RunW p e below s _ _ _ (T11.setTop (mkF m 72 #[.val (.int sh), .val (.long by1), .second, .val (.int fi), .val (.int ln), .val (.int la), .val (.ref ob1), .unset, .unset, .unset, .unset] []))
  refine own_ofW (fun _ hh_ => XS.aload X11.here hx rfl (hb hby at_72) rfl rfl hh_) ?_
  show own_RunW p e below s _ _ _ (T11.setTop (mkF m 74 #[.val (.int sh), .val (.long by1), .second, .val (.int fi), .val (.int ln), .val (.int la), .val (.ref ob1), .unset, .unset, .unset, .unset] [(.ref ob1)]))
  refine own_ofW (fun _ hh_ => XS.iconst X11.here hx rfl (hb hby at_74) hh_) ?_
  show own_RunW p e below s _ _ _ (T11.setTop (mkF m 75 #[.val (.int sh), .val (.long by1), .second, .val (.int fi), .val (.int ln), .val (.int la), .val (.ref ob1), .unset, .unset, .unset, .unset] [(.int (5 : Int32)), (.ref ob1)]))
  refine own_ofW (fun _ hh_ => XS.lloadN X11.here hx rfl (hb hby at_75) rfl hh_) ?_
  show own_RunW p e below s _ _ _ (T11.setTop (mkF m 76 #[.val (.int sh), .val (.long by1), .second, .val (.int fi), .val (.int ln), .val (.int la), .val (.ref ob1), .unset, .unset, .unset, .unset] [(.long by1), (.int (5 : Int32)), (.ref ob1)]))
  refine own_ofW (fun _ hh_ => XS.iconst X11.here hx rfl (hb hby at_76) hh_) ?_
  show own_RunW p e below s _ _ _ (T11.setTop (mkF m 77 #[.val (.int sh), .val (.long by1), .second, .val (.int fi), .val (.int ln), .val (.int la), .val (.ref ob1), .unset, .unset, .unset, .unset] [(.int (5 : Int32)), (.long by1), (.int (5 : Int32)), (.ref ob1)]))
  obtain ⟨_, _, ⟨T12, L12, k12, n12⟩, -, X12, ⟨Lc12, hQ12, l12, y12, z12⟩, st12⟩ := Jvm.LawKit.callS X11 hx (y := (⟨"com/example/lanchid/lanchid/records/FieldFilledPinLaw", "pick", "(JI)B"⟩ : MethodName)) hown (mvT hZ (hw _ (List.mem_of_getElem? (i := 1) rfl))) (mvT hZ (hw _ (List.mem_of_getElem? (i := 2) rfl))) (mvT hZ (hw _ (List.mem_of_getElem? (i := 3) rfl))) (mvT hZ (hw _ (List.mem_of_getElem? (i := 4) rfl))) (by decide) (backOf (W := 2) (rmK l Z a0 hw [] by1 (5 : Int32) h11 n0 (Nat.le_trans (Nat.le_trans (Nat.le_trans (Nat.le_trans (Nat.le_trans (Nat.le_trans Z0 E1.1) (Nat.le_of_eq W3.size.symm)) (Nat.le_of_eq W5.size.symm)) (Nat.le_of_eq W7.size.symm)) (Nat.le_of_eq W9.size.symm)) (Nat.le_of_eq W11.size.symm))) hZ (hw _ (List.mem_of_getElem? (i := 4) rfl)) (hw _ (List.mem_of_getElem? (i := 3) rfl)) (by decide) (by decide)) (g := (mkF m 77 #[.val (.int sh), .val (.long by1), .second, .val (.int fi), .val (.int ln), .val (.int la), .val (.ref ob1), .unset, .unset, .unset, .unset] [(.int (5 : Int32)), (.long by1), (.int (5 : Int32)), (.ref ob1)])) rfl (by rw [hml]; rfl) (argsL := [(.long by1), (.int (5 : Int32))]) (rest := [(.int (5 : Int32)), (.ref ob1)]) (lenOf own_pd1 rfl) rfl (by show 2 * 0 + _ ≤ _; exact Nat.le_of_eq rfl) (hb hby at_77) (fun _ _ => ⟨rfl, e11, (by decide : 1 + 0 ≤ _), (by decide : 6 + 0 ≤ _)⟩)
  dsimp only [Pt.U, Pt.locs, Pt.cells, Pt.slots] at X12 l12 y12 z12 st12 hQ12
  subst l12 y12 z12
  obtain ⟨zz12, rfl, N12q, e12⟩ := hQ12
  have N12 := Fr.app N11 N12q
  refine own_ofW st12 ?_
  show own_RunW p e below s _ _ _ (T12.setTop (mkF m 80 #[.val (.int sh), .val (.long by1), .second, .val (.int fi), .val (.int ln), .val (.int la), .val (.ref ob1), .unset, .unset, .unset, .unset] [(.int zz12), (.int (5 : Int32)), (.ref ob1)]))
  obtain ⟨T13, h13, X13, e13, W13, V13, st13⟩ := own_bas X12 hx hZ e12 V11 (j := (5 : Int32)) (x := zz12) (by decide) (by decide) (pc := 80) (Ls := #[.val (.int sh), .val (.long by1), .second, .val (.int fi), .val (.int ln), .val (.int la), .val (.ref ob1), .unset, .unset, .unset, .unset]) (rest := []) (hb hby at_80)
  have N13 := Fr.snoc X13 N12 g_ob1
  replace V13 : own_Ar Z h13 ob1 .byte 6 (own_up (own_up (own_up (own_up (own_up (own_up (fun _ => 0) 0 zz2.toInt8.toInt32) 1 zz4.toInt8.toInt32) 2 zz6.toInt8.toInt32) 3 zz8.toInt8.toInt32) 4 zz10.toInt8.toInt32) 5 zz12.toInt8.toInt32) := V13
  refine own_ofW st13 ?_
  show own_RunW p e below s _ _ _ (T13.setTop (mkF m 81 #[.val (.int sh), .val (.long by1), .second, .val (.int fi), .val (.int ln), .val (.int la), .val (.ref ob1), .unset, .unset, .unset, .unset] []))
  obtain ⟨gg, hgg⟩ : ∃ z, z = (own_up (own_up (own_up (own_up (own_up (own_up (fun _ => 0) 0 zz2.toInt8.toInt32) 1 zz4.toInt8.toInt32) 2 zz6.toInt8.toInt32) 3 zz8.toInt8.toInt32) 4 zz10.toInt8.toInt32) 5 zz12.toInt8.toInt32) := ⟨_, rfl⟩
  have Vg : own_Ar Z h13 ob1 .byte 6 gg := by rw [hgg]; exact V13
  refine own_ofW (fun _ hh_ => XS.iloadN X13.here hx rfl (hb hby at_81) rfl hh_) ?_
  show own_RunW p e below s _ _ _ (T13.setTop (mkF m 82 #[.val (.int sh), .val (.long by1), .second, .val (.int fi), .val (.int ln), .val (.int la), .val (.ref ob1), .unset, .unset, .unset, .unset] [(.int fi)]))
  refine own_ofW (fun _ hh_ => XS.iconst X13.here hx rfl (hb hby at_82) hh_) ?_
  show own_RunW p e below s _ _ _ (T13.setTop (mkF m 83 #[.val (.int sh), .val (.long by1), .second, .val (.int fi), .val (.int ln), .val (.int la), .val (.ref ob1), .unset, .unset, .unset, .unset] [(.int (1 : Int32)), (.int fi)]))
  refine own_ofW (fun _ hh_ => XS.isub X13.here hx rfl (hb hby at_83) rfl hh_) ?_
  show own_RunW p e below s _ _ _ (T13.setTop (mkF m 84 #[.val (.int sh), .val (.long by1), .second, .val (.int fi), .val (.int ln), .val (.int la), .val (.ref ob1), .unset, .unset, .unset, .unset] [(.int (fi - (1 : Int32)))]))
  generalize hlo : (fi - (1 : Int32)) = lo
  have rlo : lo.toInt = fi.toInt - 1 := by have z1 := c_isub fi (1 : Int32); have z2 := rng32 (fi - (1 : Int32)); have z4 : (1 : Int32).toInt = 1 := rfl; rw [hlo] at z1 z2; omega
  show own_RunW p e below s _ _ _ (T13.setTop (mkF m 84 #[.val (.int sh), .val (.long by1), .second, .val (.int fi), .val (.int ln), .val (.int la), .val (.ref ob1), .unset, .unset, .unset, .unset] [(.int lo)]))
  refine own_ofW (fun _ hh_ => XS.istore X13.here hx rfl (hb hby at_84) rfl (l' := #[.val (.int sh), .val (.long by1), .second, .val (.int fi), .val (.int ln), .val (.int la), .val (.ref ob1), .val (.int lo), .unset, .unset, .unset]) rfl hh_) ?_
  show own_RunW p e below s _ _ _ (T13.setTop (mkF m 86 #[.val (.int sh), .val (.long by1), .second, .val (.int fi), .val (.int ln), .val (.int la), .val (.ref ob1), .val (.int lo), .unset, .unset, .unset] []))
  have J181 : ∀ (Tc14 : State) (lc14 : List Loc), Stand p l e room_1 s m #[(.int sh), (.long by1)] below meth c Tc14 lc14 1 6 → Tc14.heap = h13 → Fr n0 lc14 → ∀ (xx : Int32), own_FL gg lo.toInt la.toInt xx → own_RunW p e below s 16 1152 (Q0 Z sh by1 h0 n0) (Tc14.setTop (mkF m 181 #[.val (.int sh), .val (.long by1), .second, .val (.int fi), .val (.int ln), .val (.int la), .val (.ref ob1), .val (.int lo), .unset, .unset, .unset] [(.int xx)])) := by
    intro Tc14 lc14 Xc14 ec14 Nc14 xx hxx
    show own_RunW p e below s _ _ _ (Tc14.setTop (mkF m 181 #[.val (.int sh), .val (.long by1), .second, .val (.int fi), .val (.int ln), .val (.int la), .val (.ref ob1), .val (.int lo), .unset, .unset, .unset] [(.int xx)]))
    refine own_ofW (fun _ hh_ => XS.istore Xc14.here hx rfl (hb hby at_181) rfl (l' := #[.val (.int sh), .val (.long by1), .second, .val (.int fi), .val (.int ln), .val (.int la), .val (.ref ob1), .val (.int lo), .val (.int xx), .unset, .unset]) rfl hh_) ?_
    show own_RunW p e below s _ _ _ (Tc14.setTop (mkF m 183 #[.val (.int sh), .val (.long by1), .second, .val (.int fi), .val (.int ln), .val (.int la), .val (.ref ob1), .val (.int lo), .val (.int xx), .unset, .unset] []))
    obtain ⟨T15, h15, X15, e15, E15, A15, D15, -, st15⟩ := newO Xc14 hx hZ hown (hw _ (List.mem_of_getElem? (i := 9) rfl)) (hw _ (List.mem_of_getElem? (i := 10) rfl)) (hw _ (List.mem_of_getElem? (i := 11) rfl)) ec14 (g := (mkF m 183 #[.val (.int sh), .val (.long by1), .second, .val (.int fi), .val (.int ln), .val (.int la), .val (.ref ob1), .val (.int lo), .val (.int xx), .unset, .unset] [])) rfl (hb hby at_183) (by decide) (by decide)
    obtain ⟨ob15, g15⟩ : ∃ z, z = h13.size := ⟨_, rfl⟩
    rw [← g15] at A15 D15 st15
    have ne_ob1_ob15 : ob1 ≠ ob15 := Nat.ne_of_lt (Nat.lt_of_lt_of_le Vg.lt (Nat.le_of_eq g15.symm))
    have g_ob15 : n0 ≤ ob15 := Nat.le_trans (Nat.le_trans (Nat.le_trans (Nat.le_trans (Nat.le_trans (Nat.le_trans (Nat.le_trans (Nat.le_trans Z0 E1.1) (Nat.le_of_eq W3.size.symm)) (Nat.le_of_eq W5.size.symm)) (Nat.le_of_eq W7.size.symm)) (Nat.le_of_eq W9.size.symm)) (Nat.le_of_eq W11.size.symm)) (Nat.le_of_eq W13.size.symm)) (Nat.le_of_eq g15.symm)
    have f16 := Vg.ext E15
    have f17 : Fld Z h15 ob15 "com/example/lanchid/lanchid/records/Field" "name" "Ljava/lang/String;" .null := D15 (Or.inr (hw _ (List.mem_of_getElem? (i := 31) rfl))) (ty := (.object "java/lang/String")) (by decide)
    have f18 : Fld Z h15 ob15 "com/example/lanchid/lanchid/records/Field" "first" "I" (.int (0 : Int32)) := D15 (Or.inr (hw _ (List.mem_of_getElem? (i := 33) rfl))) (ty := .int) (by decide)
    have f19 : Fld Z h15 ob15 "com/example/lanchid/lanchid/records/Field" "last" "I" (.int (0 : Int32)) := D15 (Or.inr (hw _ (List.mem_of_getElem? (i := 35) rfl))) (ty := .int) (by decide)
    refine own_ofW st15 ?_
    show own_RunW p e below s _ _ _ (T15.setTop (mkF m 186 #[.val (.int sh), .val (.long by1), .second, .val (.int fi), .val (.int ln), .val (.int la), .val (.ref ob1), .val (.int lo), .val (.int xx), .unset, .unset] [(.ref ob15)]))
    refine own_ofW (fun _ hh_ => XS.dup X15.here hx rfl (hb hby at_186) rfl rfl hh_) ?_
    show own_RunW p e below s _ _ _ (T15.setTop (mkF m 187 #[.val (.int sh), .val (.long by1), .second, .val (.int fi), .val (.int ln), .val (.int la), .val (.ref ob1), .val (.int lo), .val (.int xx), .unset, .unset] [(.ref ob15), (.ref ob15)]))
    have wS : ∀ a ∈ Bundle.stringAtoms, a.before a0 Z = true := by
      intro a ha
      simp only [Bundle.stringAtoms, List.mem_cons, List.not_mem_nil, or_false] at ha
      rcases ha with rfl | rfl | rfl | rfl | rfl | rfl | rfl
      · exact (hw _ (List.mem_of_getElem? (i := 13) rfl))
      · exact (hw _ (List.mem_of_getElem? (i := 14) rfl))
      · exact (hw _ (List.mem_of_getElem? (i := 0) rfl))
      · exact (hw _ (List.mem_of_getElem? (i := 15) rfl))
      · exact (hw _ (List.mem_of_getElem? (i := 16) rfl))
      · exact (hw _ (List.mem_of_getElem? (i := 17) rfl))
      · exact (hw _ (List.mem_of_getElem? (i := 18) rfl))
    obtain ⟨sa, T20, h20, k20, X20, e20, E20, hS, hk20, hZ, hown, st20⟩ := ldcS (s := s) (vm0 := s.vm) X15 hx hZ hown (hw _ (List.mem_of_getElem? (i := 12) rfl)) wS e15 (State.WarmedH.since (State.WarmedH.refl s) h15.size) (Nat.le_refl _) (g := (mkF m 187 #[.val (.int sh), .val (.long by1), .second, .val (.int fi), .val (.int ln), .val (.int la), .val (.ref ob1), .val (.int lo), .val (.int xx), .unset, .unset] [(.ref ob15), (.ref ob15)])) rfl (hb hby at_187) (n := 4) (by decide) (by decide) (by decide) (by decide)
    have f21 := f16.ext E20
    have f22 := A15.ext E20
    have f23 := f17.ext E20
    have f24 := f18.ext E20
    have f25 := f19.ext E20
    refine own_ofW st20 ?_
    show own_RunW p e below s _ _ _ (T20.setTop (mkF m 189 #[.val (.int sh), .val (.long by1), .second, .val (.int fi), .val (.int ln), .val (.int la), .val (.ref ob1), .val (.int lo), .val (.int xx), .unset, .unset] [(.ref sa), (.ref ob15), (.ref ob15)]))
    refine own_ofW (fun _ hh_ => XS.iloadN X20.here hx rfl (hb hby at_189) rfl hh_) ?_
    show own_RunW p e below s _ _ _ (T20.setTop (mkF m 190 #[.val (.int sh), .val (.long by1), .second, .val (.int fi), .val (.int ln), .val (.int la), .val (.ref ob1), .val (.int lo), .val (.int xx), .unset, .unset] [(.int fi), (.ref sa), (.ref ob15), (.ref ob15)]))
    refine own_ofW (fun _ hh_ => XS.iload X20.here hx rfl (hb hby at_190) rfl hh_) ?_
    show own_RunW p e below s _ _ _ (T20.setTop (mkF m 192 #[.val (.int sh), .val (.long by1), .second, .val (.int fi), .val (.int ln), .val (.int la), .val (.ref ob1), .val (.int lo), .val (.int xx), .unset, .unset] [(.int la), (.int fi), (.ref sa), (.ref ob15), (.ref ob15)]))
    obtain ⟨_, _, ⟨T26, L26, k26, n26⟩, -, X26, ⟨Lc26, hQ26, l26, y26, z26⟩, st26⟩ := X20.specialBack hx (y := (⟨"com/example/lanchid/lanchid/records/Field", "<init>", "(Ljava/lang/String;II)V"⟩ : MethodName)) rfl hown (mvT hZ (hw _ (List.mem_of_getElem? (i := 19) rfl))) (mvT hZ (hw _ (List.mem_of_getElem? (i := 20) rfl))) (mvT hZ (hw _ (List.mem_of_getElem? (i := 21) rfl))) (by decide) (backOf (W := 1) (rmI l Z a0 hw [] ob15 sa fi la h20 n0 (Nat.le_trans (Nat.le_trans (Nat.le_trans (Nat.le_trans (Nat.le_trans (Nat.le_trans (Nat.le_trans (Nat.le_trans (Nat.le_trans Z0 E1.1) (Nat.le_of_eq W3.size.symm)) (Nat.le_of_eq W5.size.symm)) (Nat.le_of_eq W7.size.symm)) (Nat.le_of_eq W9.size.symm)) (Nat.le_of_eq W11.size.symm)) (Nat.le_of_eq W13.size.symm)) E15.1) E20.1) f22 f23 f24 f25 g_ob15) hZ (hw _ (List.mem_of_getElem? (i := 21) rfl)) (hw _ (List.mem_of_getElem? (i := 11) rfl)) (by decide) (by decide)) (g := (mkF m 192 #[.val (.int sh), .val (.long by1), .second, .val (.int fi), .val (.int ln), .val (.int la), .val (.ref ob1), .val (.int lo), .val (.int xx), .unset, .unset] [(.int la), (.int fi), (.ref sa), (.ref ob15), (.ref ob15)])) rfl (by rw [hml]; rfl) (Steps.refl _) (a := ob15) (argsL := [(.ref sa), (.int fi), (.int la)]) (rest := [(.ref ob15)]) (lenOf own_pd2 rfl) rfl (by show 2 * 0 + _ ≤ _; exact Nat.le_of_eq rfl) (hb hby at_192) (fun _ _ => ⟨rfl, e20, (by decide : 4 + 0 ≤ _), (by decide : 17 + 0 ≤ _)⟩)
    dsimp only [Pt.U, Pt.locs, Pt.cells, Pt.slots] at X26 l26 y26 z26 st26 hQ26
    subst l26 y26 z26
    obtain ⟨rfl, N26q, K26, ff26, fl26⟩ := hQ26
    have N26 := Fr.app Nc14 N26q
    have f27 := f21.keep K26 (ninS ne_ob1_ob15 nin0)
    have f28 := f22.keep K26
    refine own_trW st26 ?_
    show own_RunW p e below s _ _ _ (T26.setTop (mkF m 195 #[.val (.int sh), .val (.long by1), .second, .val (.int fi), .val (.int ln), .val (.int la), .val (.ref ob1), .val (.int lo), .val (.int xx), .unset, .unset] [(.ref ob15)]))
    refine own_ofW (fun _ hh_ => XS.astore X26.here hx rfl (hb hby at_195) rfl rfl (l' := #[.val (.int sh), .val (.long by1), .second, .val (.int fi), .val (.int ln), .val (.int la), .val (.ref ob1), .val (.int lo), .val (.int xx), .val (.ref ob15), .unset]) rfl hh_) ?_
    show own_RunW p e below s _ _ _ (T26.setTop (mkF m 197 #[.val (.int sh), .val (.long by1), .second, .val (.int fi), .val (.int ln), .val (.int la), .val (.ref ob1), .val (.int lo), .val (.int xx), .val (.ref ob15), .unset] []))
    refine own_ofW (fun _ hh_ => XS.aload X26.here hx rfl (hb hby at_197) rfl rfl hh_) ?_
    show own_RunW p e below s _ _ _ (T26.setTop (mkF m 199 #[.val (.int sh), .val (.long by1), .second, .val (.int fi), .val (.int ln), .val (.int la), .val (.ref ob1), .val (.int lo), .val (.int xx), .val (.ref ob15), .unset] [(.ref ob15)]))
    refine own_ofW (fun _ hh_ => XS.aload X26.here hx rfl (hb hby at_199) rfl rfl hh_) ?_
    show own_RunW p e below s _ _ _ (T26.setTop (mkF m 201 #[.val (.int sh), .val (.long by1), .second, .val (.int fi), .val (.int ln), .val (.int la), .val (.ref ob1), .val (.int lo), .val (.int xx), .val (.ref ob15), .unset] [(.ref ob1), (.ref ob15)]))
    obtain ⟨cq29, kq29, q29a, q29b, q29c⟩ := isOf hZ (rfl : T26.heap = T26.heap) f28
    obtain ⟨_, _, ⟨T29, L29, k29, n29⟩, -, X29, ⟨Lc29, hQ29, l29, y29, z29⟩, st29⟩ := X26.virtualBack hx (y := (⟨"com/example/lanchid/lanchid/records/Field", "filled", "([B)Z"⟩ : MethodName)) (z := (⟨"com/example/lanchid/lanchid/records/Field", "filled", "([B)Z"⟩ : MethodName)) hown (mvT hZ (hw _ (List.mem_of_getElem? (i := 36) rfl))) (mvT hZ (hw _ (List.mem_of_getElem? (i := 37) rfl))) (notFace_of_selects (args := #[]) (mvT hZ (hw _ (List.mem_of_getElem? (i := 39) rfl)))) (mvT hZ (hw _ (List.mem_of_getElem? (i := 39) rfl))) (mvT hZ (hw _ (List.mem_of_getElem? (i := 38) rfl))) (by decide) (backOf (W := 0) (rmV l Z a0 hw [] ob15 ob1 fi la 6 gg T26.heap n0 (Nat.le_trans (Nat.le_trans (Nat.le_trans (Nat.le_trans (Nat.le_trans (Nat.le_trans (Nat.le_trans (Nat.le_trans (Nat.le_trans (Nat.le_trans Z0 E1.1) (Nat.le_of_eq W3.size.symm)) (Nat.le_of_eq W5.size.symm)) (Nat.le_of_eq W7.size.symm)) (Nat.le_of_eq W9.size.symm)) (Nat.le_of_eq W11.size.symm)) (Nat.le_of_eq W13.size.symm)) E15.1) E20.1) K26.1) ff26 fl26 f27 rfi.1 rla.2) hZ (hw _ (List.mem_of_getElem? (i := 40) rfl)) (hw _ (List.mem_of_getElem? (i := 11) rfl)) (by decide) (by decide)) q29a q29c (g := (mkF m 201 #[.val (.int sh), .val (.long by1), .second, .val (.int fi), .val (.int ln), .val (.int la), .val (.ref ob1), .val (.int lo), .val (.int xx), .val (.ref ob15), .unset] [(.ref ob1), (.ref ob15)])) rfl (by rw [hml]; rfl) (Steps.refl _) (argsL := [(.ref ob1)]) (rest := []) (lenOf own_pd3 rfl) rfl (by show 2 * 0 + _ ≤ _; exact Nat.le_of_eq rfl) (hb hby at_201) (fun _ _ => ⟨rfl, (rfl : T26.heap = T26.heap), (by decide : 4 + 0 ≤ _), (by decide : 17 + 0 ≤ _)⟩)
    dsimp only [Pt.U, Pt.locs, Pt.cells, Pt.slots] at X29 l29 y29 z29 st29 hQ29
    subst l29 y29 z29
    obtain ⟨zz29, rfl, F29, N29q, e29⟩ := hQ29
    have N29 := Fr.app N26 N29q
    refine own_trW st29 ?_
    show own_RunW p e below s _ _ _ (T29.setTop (mkF m 204 #[.val (.int sh), .val (.long by1), .second, .val (.int fi), .val (.int ln), .val (.int la), .val (.ref ob1), .val (.int lo), .val (.int xx), .val (.ref ob15), .unset] [(.int zz29)]))
    refine own_ofW (fun _ hh_ => XS.istore X29.here hx rfl (hb hby at_204) rfl (l' := #[.val (.int sh), .val (.long by1), .second, .val (.int fi), .val (.int ln), .val (.int la), .val (.ref ob1), .val (.int lo), .val (.int xx), .val (.ref ob15), .val (.int zz29)]) rfl hh_) ?_
    show own_RunW p e below s _ _ _ (T29.setTop (mkF m 206 #[.val (.int sh), .val (.long by1), .second, .val (.int fi), .val (.int ln), .val (.int la), .val (.ref ob1), .val (.int lo), .val (.int xx), .val (.ref ob15), .val (.int zz29)] []))
    refine own_ofW (fun _ hh_ => XS.iload X29.here hx rfl (hb hby at_206) rfl hh_) ?_
    show own_RunW p e below s _ _ _ (T29.setTop (mkF m 208 #[.val (.int sh), .val (.long by1), .second, .val (.int fi), .val (.int ln), .val (.int la), .val (.ref ob1), .val (.int lo), .val (.int xx), .val (.ref ob15), .val (.int zz29)] [(.int zz29)]))
    refine own_ofW (fun _ hh_ => XS.iload X29.here hx rfl (hb hby at_208) rfl hh_) ?_
    show own_RunW p e below s _ _ _ (T29.setTop (mkF m 210 #[.val (.int sh), .val (.long by1), .second, .val (.int fi), .val (.int ln), .val (.int la), .val (.ref ob1), .val (.int lo), .val (.int xx), .val (.ref ob15), .val (.int zz29)] [(.int xx), (.int zz29)]))
    have hc210_30 : zz29 = xx := own_uniq (by rw [rlo]; exact F29) hxx
    refine own_ofW (fun _ hh_ => XS.icmpNo X29.here hx rfl (hb hby at_210) rfl (teq hc210_30).2 hh_) ?_
    show own_RunW p e below s _ _ _ (T29.setTop (mkF m 213 #[.val (.int sh), .val (.long by1), .second, .val (.int fi), .val (.int ln), .val (.int la), .val (.ref ob1), .val (.int lo), .val (.int xx), .val (.ref ob15), .val (.int zz29)] []))
    refine own_ofW (fun _ hh_ => XS.iconst X29.here hx rfl (hb hby at_213) hh_) ?_
    show own_RunW p e below s _ _ _ (T29.setTop (mkF m 214 #[.val (.int sh), .val (.long by1), .second, .val (.int fi), .val (.int ln), .val (.int la), .val (.ref ob1), .val (.int lo), .val (.int xx), .val (.ref ob15), .val (.int zz29)] [(.int (1 : Int32))]))
    refine own_ofW (fun _ hh_ => XS.goto X29.here hx rfl (pc0 := 214) (pc' := 218) rfl (hb hby at_214) (by decide) (by decide) hh_) ?_
    show own_RunW p e below s _ _ _ (T29.setTop (mkF m 218 #[.val (.int sh), .val (.long by1), .second, .val (.int fi), .val (.int ln), .val (.int la), .val (.ref ob1), .val (.int lo), .val (.int xx), .val (.ref ob15), .val (.int zz29)] [(.int (1 : Int32))]))
    exact own_retNW X29 hS (Nat.le_trans hk20 (Nat.le_trans K26.1 (Nat.le_of_eq (congrArg Array.size e29.symm)))) hx (t := .boolean) hret hlk (by simp) (hb hby at_218) ⟨rfl, N29⟩ (by decide) (by decide)
  refine own_ofW (fun _ hh_ => XS.aload X13.here hx rfl (hb hby at_86) rfl rfl hh_) ?_
  show own_RunW p e below s _ _ _ (T13.setTop (mkF m 88 #[.val (.int sh), .val (.long by1), .second, .val (.int fi), .val (.int ln), .val (.int la), .val (.ref ob1), .val (.int lo), .unset, .unset, .unset] [(.ref ob1)]))
  refine own_ofW (fun _ hh_ => XS.iconst X13.here hx rfl (hb hby at_88) hh_) ?_
  show own_RunW p e below s _ _ _ (T13.setTop (mkF m 89 #[.val (.int sh), .val (.long by1), .second, .val (.int fi), .val (.int ln), .val (.int la), .val (.ref ob1), .val (.int lo), .unset, .unset, .unset] [(.int (0 : Int32)), (.ref ob1)]))
  refine own_balW X13 hx hZ e13 Vg (j := (0 : Int32)) (w := (gg 0)) (by decide) (by decide) rfl (hb hby at_89) ?_
  show own_RunW p e below s _ _ _ (T13.setTop (mkF m 90 #[.val (.int sh), .val (.long by1), .second, .val (.int fi), .val (.int ln), .val (.int la), .val (.ref ob1), .val (.int lo), .unset, .unset, .unset] [(.int (gg 0))]))
  refine own_ofW (fun _ hh_ => XS.iconst X13.here hx rfl (hb hby at_90) hh_) ?_
  show own_RunW p e below s _ _ _ (T13.setTop (mkF m 91 #[.val (.int sh), .val (.long by1), .second, .val (.int fi), .val (.int ln), .val (.int la), .val (.ref ob1), .val (.int lo), .unset, .unset, .unset] [(.int (0 : Int32)), (.int (gg 0))]))
  refine own_ofW (fun _ hh_ => XS.iload X13.here hx rfl (hb hby at_91) rfl hh_) ?_
  show own_RunW p e below s _ _ _ (T13.setTop (mkF m 93 #[.val (.int sh), .val (.long by1), .second, .val (.int fi), .val (.int ln), .val (.int la), .val (.ref ob1), .val (.int lo), .unset, .unset, .unset] [(.int lo), (.int (0 : Int32)), (.int (gg 0))]))
  refine own_ofW (fun _ hh_ => XS.iload X13.here hx rfl (hb hby at_93) rfl hh_) ?_
  show own_RunW p e below s _ _ _ (T13.setTop (mkF m 95 #[.val (.int sh), .val (.long by1), .second, .val (.int fi), .val (.int ln), .val (.int la), .val (.ref ob1), .val (.int lo), .unset, .unset, .unset] [(.int la), (.int lo), (.int (0 : Int32)), (.int (gg 0))]))
  obtain ⟨_, _, ⟨T31, L31, k31, n31⟩, -, X31, ⟨Lc31, hQ31, l31, y31, z31⟩, st31⟩ := Jvm.LawKit.callS X13 hx (y := (⟨"com/example/lanchid/lanchid/records/FieldFilledPinLaw", "counts", "(BIII)Z"⟩ : MethodName)) hown (mvT hZ (hw _ (List.mem_of_getElem? (i := 6) rfl))) (mvT hZ (hw _ (List.mem_of_getElem? (i := 7) rfl))) (mvT hZ (hw _ (List.mem_of_getElem? (i := 3) rfl))) (mvT hZ (hw _ (List.mem_of_getElem? (i := 8) rfl))) (by decide) (backOf (W := 0) (rmC l Z a0 hw [] (gg 0) (0 : Int32) lo la h13 n0 (Nat.le_trans (Nat.le_trans (Nat.le_trans (Nat.le_trans (Nat.le_trans (Nat.le_trans (Nat.le_trans Z0 E1.1) (Nat.le_of_eq W3.size.symm)) (Nat.le_of_eq W5.size.symm)) (Nat.le_of_eq W7.size.symm)) (Nat.le_of_eq W9.size.symm)) (Nat.le_of_eq W11.size.symm)) (Nat.le_of_eq W13.size.symm))) hZ (hw _ (List.mem_of_getElem? (i := 8) rfl)) (hw _ (List.mem_of_getElem? (i := 3) rfl)) (by decide) (by decide)) (g := (mkF m 95 #[.val (.int sh), .val (.long by1), .second, .val (.int fi), .val (.int ln), .val (.int la), .val (.ref ob1), .val (.int lo), .unset, .unset, .unset] [(.int la), (.int lo), (.int (0 : Int32)), (.int (gg 0))])) rfl (by rw [hml]; rfl) (argsL := [(.int (gg 0)), (.int (0 : Int32)), (.int lo), (.int la)]) (rest := []) (lenOf own_pd4 rfl) rfl (by show 2 * 0 + _ ≤ _; exact Nat.le_of_eq rfl) (hb hby at_95) (fun _ _ => ⟨rfl, e13, (by decide : 1 + 0 ≤ _), (by decide : 6 + 0 ≤ _)⟩)
  dsimp only [Pt.U, Pt.locs, Pt.cells, Pt.slots] at X31 l31 y31 z31 st31 hQ31
  subst l31 y31 z31
  obtain ⟨rfl, N31q, e31⟩ := hQ31
  have N31 := Fr.app N13 N31q
  refine own_ofW st31 ?_
  show own_RunW p e below s _ _ _ (T31.setTop (mkF m 98 #[.val (.int sh), .val (.long by1), .second, .val (.int fi), .val (.int ln), .val (.int la), .val (.ref ob1), .val (.int lo), .unset, .unset, .unset] [(.int (if own_C (gg 0) (0 : Int32) lo la then 1 else 0 : Int32))]))
  by_cases hc98_32 : own_C (gg 0) (0 : Int32) lo la
  · refine own_ofW (fun _ hh_ => XS.ifYes X31.here hx rfl (pc0 := 98) (pc' := 176) rfl (hb hby at_98) rfl ((if0 _ _).trans (feq (show ¬ ((if own_C (gg 0) (0 : Int32) lo la then 1 else 0 : Int32) = 0) from by rw [if_pos hc98_32]; decide)).2) (by decide) (by decide) hh_) ?_
    show own_RunW p e below s _ _ _ (T31.setTop (mkF m 176 #[.val (.int sh), .val (.long by1), .second, .val (.int fi), .val (.int ln), .val (.int la), .val (.ref ob1), .val (.int lo), .unset, .unset, .unset] []))
    refine own_ofW (fun _ hh_ => XS.iconst X31.here hx rfl (hb hby at_176) hh_) ?_
    show own_RunW p e below s _ _ _ (T31.setTop (mkF m 177 #[.val (.int sh), .val (.long by1), .second, .val (.int fi), .val (.int ln), .val (.int la), .val (.ref ob1), .val (.int lo), .unset, .unset, .unset] [(.int (1 : Int32))]))
    refine own_ofW (fun _ hh_ => XS.goto X31.here hx rfl (pc0 := 177) (pc' := 181) rfl (hb hby at_177) (by decide) (by decide) hh_) ?_
    show own_RunW p e below s _ _ _ (T31.setTop (mkF m 181 #[.val (.int sh), .val (.long by1), .second, .val (.int fi), .val (.int ln), .val (.int la), .val (.ref ob1), .val (.int lo), .unset, .unset, .unset] [(.int (1 : Int32))]))
    exact J181 _ _ X31 e31 N31 _ (own_yes 0 rfl hc98_32)
  · refine own_ofW (fun _ hh_ => XS.ifNo X31.here hx rfl (hb hby at_98) rfl ((if0 _ _).trans (teq (show (if own_C (gg 0) (0 : Int32) lo la then 1 else 0 : Int32) = 0 from if_neg hc98_32)).2) hh_) ?_
    show own_RunW p e below s _ _ _ (T31.setTop (mkF m 101 #[.val (.int sh), .val (.long by1), .second, .val (.int fi), .val (.int ln), .val (.int la), .val (.ref ob1), .val (.int lo), .unset, .unset, .unset] []))
    refine own_ofW (fun _ hh_ => XS.aload X31.here hx rfl (hb hby at_101) rfl rfl hh_) ?_
    show own_RunW p e below s _ _ _ (T31.setTop (mkF m 103 #[.val (.int sh), .val (.long by1), .second, .val (.int fi), .val (.int ln), .val (.int la), .val (.ref ob1), .val (.int lo), .unset, .unset, .unset] [(.ref ob1)]))
    refine own_ofW (fun _ hh_ => XS.iconst X31.here hx rfl (hb hby at_103) hh_) ?_
    show own_RunW p e below s _ _ _ (T31.setTop (mkF m 104 #[.val (.int sh), .val (.long by1), .second, .val (.int fi), .val (.int ln), .val (.int la), .val (.ref ob1), .val (.int lo), .unset, .unset, .unset] [(.int (1 : Int32)), (.ref ob1)]))
    refine own_balW X31 hx hZ e31 Vg (j := (1 : Int32)) (w := (gg 1)) (by decide) (by decide) rfl (hb hby at_104) ?_
    show own_RunW p e below s _ _ _ (T31.setTop (mkF m 105 #[.val (.int sh), .val (.long by1), .second, .val (.int fi), .val (.int ln), .val (.int la), .val (.ref ob1), .val (.int lo), .unset, .unset, .unset] [(.int (gg 1))]))
    refine own_ofW (fun _ hh_ => XS.iconst X31.here hx rfl (hb hby at_105) hh_) ?_
    show own_RunW p e below s _ _ _ (T31.setTop (mkF m 106 #[.val (.int sh), .val (.long by1), .second, .val (.int fi), .val (.int ln), .val (.int la), .val (.ref ob1), .val (.int lo), .unset, .unset, .unset] [(.int (1 : Int32)), (.int (gg 1))]))
    refine own_ofW (fun _ hh_ => XS.iload X31.here hx rfl (hb hby at_106) rfl hh_) ?_
    show own_RunW p e below s _ _ _ (T31.setTop (mkF m 108 #[.val (.int sh), .val (.long by1), .second, .val (.int fi), .val (.int ln), .val (.int la), .val (.ref ob1), .val (.int lo), .unset, .unset, .unset] [(.int lo), (.int (1 : Int32)), (.int (gg 1))]))
    refine own_ofW (fun _ hh_ => XS.iload X31.here hx rfl (hb hby at_108) rfl hh_) ?_
    show own_RunW p e below s _ _ _ (T31.setTop (mkF m 110 #[.val (.int sh), .val (.long by1), .second, .val (.int fi), .val (.int ln), .val (.int la), .val (.ref ob1), .val (.int lo), .unset, .unset, .unset] [(.int la), (.int lo), (.int (1 : Int32)), (.int (gg 1))]))
    obtain ⟨_, _, ⟨T33, L33, k33, n33⟩, -, X33, ⟨Lc33, hQ33, l33, y33, z33⟩, st33⟩ := Jvm.LawKit.callS X31 hx (y := (⟨"com/example/lanchid/lanchid/records/FieldFilledPinLaw", "counts", "(BIII)Z"⟩ : MethodName)) hown (mvT hZ (hw _ (List.mem_of_getElem? (i := 6) rfl))) (mvT hZ (hw _ (List.mem_of_getElem? (i := 7) rfl))) (mvT hZ (hw _ (List.mem_of_getElem? (i := 3) rfl))) (mvT hZ (hw _ (List.mem_of_getElem? (i := 8) rfl))) (by decide) (backOf (W := 0) (rmC l Z a0 hw [] (gg 1) (1 : Int32) lo la h13 n0 (Nat.le_trans (Nat.le_trans (Nat.le_trans (Nat.le_trans (Nat.le_trans (Nat.le_trans (Nat.le_trans Z0 E1.1) (Nat.le_of_eq W3.size.symm)) (Nat.le_of_eq W5.size.symm)) (Nat.le_of_eq W7.size.symm)) (Nat.le_of_eq W9.size.symm)) (Nat.le_of_eq W11.size.symm)) (Nat.le_of_eq W13.size.symm))) hZ (hw _ (List.mem_of_getElem? (i := 8) rfl)) (hw _ (List.mem_of_getElem? (i := 3) rfl)) (by decide) (by decide)) (g := (mkF m 110 #[.val (.int sh), .val (.long by1), .second, .val (.int fi), .val (.int ln), .val (.int la), .val (.ref ob1), .val (.int lo), .unset, .unset, .unset] [(.int la), (.int lo), (.int (1 : Int32)), (.int (gg 1))])) rfl (by rw [hml]; rfl) (argsL := [(.int (gg 1)), (.int (1 : Int32)), (.int lo), (.int la)]) (rest := []) (lenOf own_pd4 rfl) rfl (by show 2 * 0 + _ ≤ _; exact Nat.le_of_eq rfl) (hb hby at_110) (fun _ _ => ⟨rfl, e31, (by decide : 1 + 0 ≤ _), (by decide : 6 + 0 ≤ _)⟩)
    dsimp only [Pt.U, Pt.locs, Pt.cells, Pt.slots] at X33 l33 y33 z33 st33 hQ33
    subst l33 y33 z33
    obtain ⟨rfl, N33q, e33⟩ := hQ33
    have N33 := Fr.app N31 N33q
    refine own_ofW st33 ?_
    show own_RunW p e below s _ _ _ (T33.setTop (mkF m 113 #[.val (.int sh), .val (.long by1), .second, .val (.int fi), .val (.int ln), .val (.int la), .val (.ref ob1), .val (.int lo), .unset, .unset, .unset] [(.int (if own_C (gg 1) (1 : Int32) lo la then 1 else 0 : Int32))]))
    by_cases hc113_34 : own_C (gg 1) (1 : Int32) lo la
    · refine own_ofW (fun _ hh_ => XS.ifYes X33.here hx rfl (pc0 := 113) (pc' := 176) rfl (hb hby at_113) rfl ((if0 _ _).trans (feq (show ¬ ((if own_C (gg 1) (1 : Int32) lo la then 1 else 0 : Int32) = 0) from by rw [if_pos hc113_34]; decide)).2) (by decide) (by decide) hh_) ?_
      show own_RunW p e below s _ _ _ (T33.setTop (mkF m 176 #[.val (.int sh), .val (.long by1), .second, .val (.int fi), .val (.int ln), .val (.int la), .val (.ref ob1), .val (.int lo), .unset, .unset, .unset] []))
      refine own_ofW (fun _ hh_ => XS.iconst X33.here hx rfl (hb hby at_176) hh_) ?_
      show own_RunW p e below s _ _ _ (T33.setTop (mkF m 177 #[.val (.int sh), .val (.long by1), .second, .val (.int fi), .val (.int ln), .val (.int la), .val (.ref ob1), .val (.int lo), .unset, .unset, .unset] [(.int (1 : Int32))]))
      refine own_ofW (fun _ hh_ => XS.goto X33.here hx rfl (pc0 := 177) (pc' := 181) rfl (hb hby at_177) (by decide) (by decide) hh_) ?_
      show own_RunW p e below s _ _ _ (T33.setTop (mkF m 181 #[.val (.int sh), .val (.long by1), .second, .val (.int fi), .val (.int ln), .val (.int la), .val (.ref ob1), .val (.int lo), .unset, .unset, .unset] [(.int (1 : Int32))]))
      exact J181 _ _ X33 e33 N33 _ (own_yes 1 rfl hc113_34)
    · refine own_ofW (fun _ hh_ => XS.ifNo X33.here hx rfl (hb hby at_113) rfl ((if0 _ _).trans (teq (show (if own_C (gg 1) (1 : Int32) lo la then 1 else 0 : Int32) = 0 from if_neg hc113_34)).2) hh_) ?_
      show own_RunW p e below s _ _ _ (T33.setTop (mkF m 116 #[.val (.int sh), .val (.long by1), .second, .val (.int fi), .val (.int ln), .val (.int la), .val (.ref ob1), .val (.int lo), .unset, .unset, .unset] []))
      refine own_ofW (fun _ hh_ => XS.aload X33.here hx rfl (hb hby at_116) rfl rfl hh_) ?_
      show own_RunW p e below s _ _ _ (T33.setTop (mkF m 118 #[.val (.int sh), .val (.long by1), .second, .val (.int fi), .val (.int ln), .val (.int la), .val (.ref ob1), .val (.int lo), .unset, .unset, .unset] [(.ref ob1)]))
      refine own_ofW (fun _ hh_ => XS.iconst X33.here hx rfl (hb hby at_118) hh_) ?_
      show own_RunW p e below s _ _ _ (T33.setTop (mkF m 119 #[.val (.int sh), .val (.long by1), .second, .val (.int fi), .val (.int ln), .val (.int la), .val (.ref ob1), .val (.int lo), .unset, .unset, .unset] [(.int (2 : Int32)), (.ref ob1)]))
      refine own_balW X33 hx hZ e33 Vg (j := (2 : Int32)) (w := (gg 2)) (by decide) (by decide) rfl (hb hby at_119) ?_
      show own_RunW p e below s _ _ _ (T33.setTop (mkF m 120 #[.val (.int sh), .val (.long by1), .second, .val (.int fi), .val (.int ln), .val (.int la), .val (.ref ob1), .val (.int lo), .unset, .unset, .unset] [(.int (gg 2))]))
      refine own_ofW (fun _ hh_ => XS.iconst X33.here hx rfl (hb hby at_120) hh_) ?_
      show own_RunW p e below s _ _ _ (T33.setTop (mkF m 121 #[.val (.int sh), .val (.long by1), .second, .val (.int fi), .val (.int ln), .val (.int la), .val (.ref ob1), .val (.int lo), .unset, .unset, .unset] [(.int (2 : Int32)), (.int (gg 2))]))
      refine own_ofW (fun _ hh_ => XS.iload X33.here hx rfl (hb hby at_121) rfl hh_) ?_
      show own_RunW p e below s _ _ _ (T33.setTop (mkF m 123 #[.val (.int sh), .val (.long by1), .second, .val (.int fi), .val (.int ln), .val (.int la), .val (.ref ob1), .val (.int lo), .unset, .unset, .unset] [(.int lo), (.int (2 : Int32)), (.int (gg 2))]))
      refine own_ofW (fun _ hh_ => XS.iload X33.here hx rfl (hb hby at_123) rfl hh_) ?_
      show own_RunW p e below s _ _ _ (T33.setTop (mkF m 125 #[.val (.int sh), .val (.long by1), .second, .val (.int fi), .val (.int ln), .val (.int la), .val (.ref ob1), .val (.int lo), .unset, .unset, .unset] [(.int la), (.int lo), (.int (2 : Int32)), (.int (gg 2))]))
      obtain ⟨_, _, ⟨T35, L35, k35, n35⟩, -, X35, ⟨Lc35, hQ35, l35, y35, z35⟩, st35⟩ := Jvm.LawKit.callS X33 hx (y := (⟨"com/example/lanchid/lanchid/records/FieldFilledPinLaw", "counts", "(BIII)Z"⟩ : MethodName)) hown (mvT hZ (hw _ (List.mem_of_getElem? (i := 6) rfl))) (mvT hZ (hw _ (List.mem_of_getElem? (i := 7) rfl))) (mvT hZ (hw _ (List.mem_of_getElem? (i := 3) rfl))) (mvT hZ (hw _ (List.mem_of_getElem? (i := 8) rfl))) (by decide) (backOf (W := 0) (rmC l Z a0 hw [] (gg 2) (2 : Int32) lo la h13 n0 (Nat.le_trans (Nat.le_trans (Nat.le_trans (Nat.le_trans (Nat.le_trans (Nat.le_trans (Nat.le_trans Z0 E1.1) (Nat.le_of_eq W3.size.symm)) (Nat.le_of_eq W5.size.symm)) (Nat.le_of_eq W7.size.symm)) (Nat.le_of_eq W9.size.symm)) (Nat.le_of_eq W11.size.symm)) (Nat.le_of_eq W13.size.symm))) hZ (hw _ (List.mem_of_getElem? (i := 8) rfl)) (hw _ (List.mem_of_getElem? (i := 3) rfl)) (by decide) (by decide)) (g := (mkF m 125 #[.val (.int sh), .val (.long by1), .second, .val (.int fi), .val (.int ln), .val (.int la), .val (.ref ob1), .val (.int lo), .unset, .unset, .unset] [(.int la), (.int lo), (.int (2 : Int32)), (.int (gg 2))])) rfl (by rw [hml]; rfl) (argsL := [(.int (gg 2)), (.int (2 : Int32)), (.int lo), (.int la)]) (rest := []) (lenOf own_pd4 rfl) rfl (by show 2 * 0 + _ ≤ _; exact Nat.le_of_eq rfl) (hb hby at_125) (fun _ _ => ⟨rfl, e33, (by decide : 1 + 0 ≤ _), (by decide : 6 + 0 ≤ _)⟩)
      dsimp only [Pt.U, Pt.locs, Pt.cells, Pt.slots] at X35 l35 y35 z35 st35 hQ35
      subst l35 y35 z35
      obtain ⟨rfl, N35q, e35⟩ := hQ35
      have N35 := Fr.app N33 N35q
      refine own_ofW st35 ?_
      show own_RunW p e below s _ _ _ (T35.setTop (mkF m 128 #[.val (.int sh), .val (.long by1), .second, .val (.int fi), .val (.int ln), .val (.int la), .val (.ref ob1), .val (.int lo), .unset, .unset, .unset] [(.int (if own_C (gg 2) (2 : Int32) lo la then 1 else 0 : Int32))]))
      by_cases hc128_36 : own_C (gg 2) (2 : Int32) lo la
      · refine own_ofW (fun _ hh_ => XS.ifYes X35.here hx rfl (pc0 := 128) (pc' := 176) rfl (hb hby at_128) rfl ((if0 _ _).trans (feq (show ¬ ((if own_C (gg 2) (2 : Int32) lo la then 1 else 0 : Int32) = 0) from by rw [if_pos hc128_36]; decide)).2) (by decide) (by decide) hh_) ?_
        show own_RunW p e below s _ _ _ (T35.setTop (mkF m 176 #[.val (.int sh), .val (.long by1), .second, .val (.int fi), .val (.int ln), .val (.int la), .val (.ref ob1), .val (.int lo), .unset, .unset, .unset] []))
        refine own_ofW (fun _ hh_ => XS.iconst X35.here hx rfl (hb hby at_176) hh_) ?_
        show own_RunW p e below s _ _ _ (T35.setTop (mkF m 177 #[.val (.int sh), .val (.long by1), .second, .val (.int fi), .val (.int ln), .val (.int la), .val (.ref ob1), .val (.int lo), .unset, .unset, .unset] [(.int (1 : Int32))]))
        refine own_ofW (fun _ hh_ => XS.goto X35.here hx rfl (pc0 := 177) (pc' := 181) rfl (hb hby at_177) (by decide) (by decide) hh_) ?_
        show own_RunW p e below s _ _ _ (T35.setTop (mkF m 181 #[.val (.int sh), .val (.long by1), .second, .val (.int fi), .val (.int ln), .val (.int la), .val (.ref ob1), .val (.int lo), .unset, .unset, .unset] [(.int (1 : Int32))]))
        exact J181 _ _ X35 e35 N35 _ (own_yes 2 rfl hc128_36)
      · refine own_ofW (fun _ hh_ => XS.ifNo X35.here hx rfl (hb hby at_128) rfl ((if0 _ _).trans (teq (show (if own_C (gg 2) (2 : Int32) lo la then 1 else 0 : Int32) = 0 from if_neg hc128_36)).2) hh_) ?_
        show own_RunW p e below s _ _ _ (T35.setTop (mkF m 131 #[.val (.int sh), .val (.long by1), .second, .val (.int fi), .val (.int ln), .val (.int la), .val (.ref ob1), .val (.int lo), .unset, .unset, .unset] []))
        refine own_ofW (fun _ hh_ => XS.aload X35.here hx rfl (hb hby at_131) rfl rfl hh_) ?_
        show own_RunW p e below s _ _ _ (T35.setTop (mkF m 133 #[.val (.int sh), .val (.long by1), .second, .val (.int fi), .val (.int ln), .val (.int la), .val (.ref ob1), .val (.int lo), .unset, .unset, .unset] [(.ref ob1)]))
        refine own_ofW (fun _ hh_ => XS.iconst X35.here hx rfl (hb hby at_133) hh_) ?_
        show own_RunW p e below s _ _ _ (T35.setTop (mkF m 134 #[.val (.int sh), .val (.long by1), .second, .val (.int fi), .val (.int ln), .val (.int la), .val (.ref ob1), .val (.int lo), .unset, .unset, .unset] [(.int (3 : Int32)), (.ref ob1)]))
        refine own_balW X35 hx hZ e35 Vg (j := (3 : Int32)) (w := (gg 3)) (by decide) (by decide) rfl (hb hby at_134) ?_
        show own_RunW p e below s _ _ _ (T35.setTop (mkF m 135 #[.val (.int sh), .val (.long by1), .second, .val (.int fi), .val (.int ln), .val (.int la), .val (.ref ob1), .val (.int lo), .unset, .unset, .unset] [(.int (gg 3))]))
        refine own_ofW (fun _ hh_ => XS.iconst X35.here hx rfl (hb hby at_135) hh_) ?_
        show own_RunW p e below s _ _ _ (T35.setTop (mkF m 136 #[.val (.int sh), .val (.long by1), .second, .val (.int fi), .val (.int ln), .val (.int la), .val (.ref ob1), .val (.int lo), .unset, .unset, .unset] [(.int (3 : Int32)), (.int (gg 3))]))
        refine own_ofW (fun _ hh_ => XS.iload X35.here hx rfl (hb hby at_136) rfl hh_) ?_
        show own_RunW p e below s _ _ _ (T35.setTop (mkF m 138 #[.val (.int sh), .val (.long by1), .second, .val (.int fi), .val (.int ln), .val (.int la), .val (.ref ob1), .val (.int lo), .unset, .unset, .unset] [(.int lo), (.int (3 : Int32)), (.int (gg 3))]))
        refine own_ofW (fun _ hh_ => XS.iload X35.here hx rfl (hb hby at_138) rfl hh_) ?_
        show own_RunW p e below s _ _ _ (T35.setTop (mkF m 140 #[.val (.int sh), .val (.long by1), .second, .val (.int fi), .val (.int ln), .val (.int la), .val (.ref ob1), .val (.int lo), .unset, .unset, .unset] [(.int la), (.int lo), (.int (3 : Int32)), (.int (gg 3))]))
        obtain ⟨_, _, ⟨T37, L37, k37, n37⟩, -, X37, ⟨Lc37, hQ37, l37, y37, z37⟩, st37⟩ := Jvm.LawKit.callS X35 hx (y := (⟨"com/example/lanchid/lanchid/records/FieldFilledPinLaw", "counts", "(BIII)Z"⟩ : MethodName)) hown (mvT hZ (hw _ (List.mem_of_getElem? (i := 6) rfl))) (mvT hZ (hw _ (List.mem_of_getElem? (i := 7) rfl))) (mvT hZ (hw _ (List.mem_of_getElem? (i := 3) rfl))) (mvT hZ (hw _ (List.mem_of_getElem? (i := 8) rfl))) (by decide) (backOf (W := 0) (rmC l Z a0 hw [] (gg 3) (3 : Int32) lo la h13 n0 (Nat.le_trans (Nat.le_trans (Nat.le_trans (Nat.le_trans (Nat.le_trans (Nat.le_trans (Nat.le_trans Z0 E1.1) (Nat.le_of_eq W3.size.symm)) (Nat.le_of_eq W5.size.symm)) (Nat.le_of_eq W7.size.symm)) (Nat.le_of_eq W9.size.symm)) (Nat.le_of_eq W11.size.symm)) (Nat.le_of_eq W13.size.symm))) hZ (hw _ (List.mem_of_getElem? (i := 8) rfl)) (hw _ (List.mem_of_getElem? (i := 3) rfl)) (by decide) (by decide)) (g := (mkF m 140 #[.val (.int sh), .val (.long by1), .second, .val (.int fi), .val (.int ln), .val (.int la), .val (.ref ob1), .val (.int lo), .unset, .unset, .unset] [(.int la), (.int lo), (.int (3 : Int32)), (.int (gg 3))])) rfl (by rw [hml]; rfl) (argsL := [(.int (gg 3)), (.int (3 : Int32)), (.int lo), (.int la)]) (rest := []) (lenOf own_pd4 rfl) rfl (by show 2 * 0 + _ ≤ _; exact Nat.le_of_eq rfl) (hb hby at_140) (fun _ _ => ⟨rfl, e35, (by decide : 1 + 0 ≤ _), (by decide : 6 + 0 ≤ _)⟩)
        dsimp only [Pt.U, Pt.locs, Pt.cells, Pt.slots] at X37 l37 y37 z37 st37 hQ37
        subst l37 y37 z37
        obtain ⟨rfl, N37q, e37⟩ := hQ37
        have N37 := Fr.app N35 N37q
        refine own_ofW st37 ?_
        show own_RunW p e below s _ _ _ (T37.setTop (mkF m 143 #[.val (.int sh), .val (.long by1), .second, .val (.int fi), .val (.int ln), .val (.int la), .val (.ref ob1), .val (.int lo), .unset, .unset, .unset] [(.int (if own_C (gg 3) (3 : Int32) lo la then 1 else 0 : Int32))]))
        by_cases hc143_38 : own_C (gg 3) (3 : Int32) lo la
        · refine own_ofW (fun _ hh_ => XS.ifYes X37.here hx rfl (pc0 := 143) (pc' := 176) rfl (hb hby at_143) rfl ((if0 _ _).trans (feq (show ¬ ((if own_C (gg 3) (3 : Int32) lo la then 1 else 0 : Int32) = 0) from by rw [if_pos hc143_38]; decide)).2) (by decide) (by decide) hh_) ?_
          show own_RunW p e below s _ _ _ (T37.setTop (mkF m 176 #[.val (.int sh), .val (.long by1), .second, .val (.int fi), .val (.int ln), .val (.int la), .val (.ref ob1), .val (.int lo), .unset, .unset, .unset] []))
          refine own_ofW (fun _ hh_ => XS.iconst X37.here hx rfl (hb hby at_176) hh_) ?_
          show own_RunW p e below s _ _ _ (T37.setTop (mkF m 177 #[.val (.int sh), .val (.long by1), .second, .val (.int fi), .val (.int ln), .val (.int la), .val (.ref ob1), .val (.int lo), .unset, .unset, .unset] [(.int (1 : Int32))]))
          refine own_ofW (fun _ hh_ => XS.goto X37.here hx rfl (pc0 := 177) (pc' := 181) rfl (hb hby at_177) (by decide) (by decide) hh_) ?_
          show own_RunW p e below s _ _ _ (T37.setTop (mkF m 181 #[.val (.int sh), .val (.long by1), .second, .val (.int fi), .val (.int ln), .val (.int la), .val (.ref ob1), .val (.int lo), .unset, .unset, .unset] [(.int (1 : Int32))]))
          exact J181 _ _ X37 e37 N37 _ (own_yes 3 rfl hc143_38)
        · refine own_ofW (fun _ hh_ => XS.ifNo X37.here hx rfl (hb hby at_143) rfl ((if0 _ _).trans (teq (show (if own_C (gg 3) (3 : Int32) lo la then 1 else 0 : Int32) = 0 from if_neg hc143_38)).2) hh_) ?_
          show own_RunW p e below s _ _ _ (T37.setTop (mkF m 146 #[.val (.int sh), .val (.long by1), .second, .val (.int fi), .val (.int ln), .val (.int la), .val (.ref ob1), .val (.int lo), .unset, .unset, .unset] []))
          refine own_ofW (fun _ hh_ => XS.aload X37.here hx rfl (hb hby at_146) rfl rfl hh_) ?_
          show own_RunW p e below s _ _ _ (T37.setTop (mkF m 148 #[.val (.int sh), .val (.long by1), .second, .val (.int fi), .val (.int ln), .val (.int la), .val (.ref ob1), .val (.int lo), .unset, .unset, .unset] [(.ref ob1)]))
          refine own_ofW (fun _ hh_ => XS.iconst X37.here hx rfl (hb hby at_148) hh_) ?_
          show own_RunW p e below s _ _ _ (T37.setTop (mkF m 149 #[.val (.int sh), .val (.long by1), .second, .val (.int fi), .val (.int ln), .val (.int la), .val (.ref ob1), .val (.int lo), .unset, .unset, .unset] [(.int (4 : Int32)), (.ref ob1)]))
          refine own_balW X37 hx hZ e37 Vg (j := (4 : Int32)) (w := (gg 4)) (by decide) (by decide) rfl (hb hby at_149) ?_
          show own_RunW p e below s _ _ _ (T37.setTop (mkF m 150 #[.val (.int sh), .val (.long by1), .second, .val (.int fi), .val (.int ln), .val (.int la), .val (.ref ob1), .val (.int lo), .unset, .unset, .unset] [(.int (gg 4))]))
          refine own_ofW (fun _ hh_ => XS.iconst X37.here hx rfl (hb hby at_150) hh_) ?_
          show own_RunW p e below s _ _ _ (T37.setTop (mkF m 151 #[.val (.int sh), .val (.long by1), .second, .val (.int fi), .val (.int ln), .val (.int la), .val (.ref ob1), .val (.int lo), .unset, .unset, .unset] [(.int (4 : Int32)), (.int (gg 4))]))
          refine own_ofW (fun _ hh_ => XS.iload X37.here hx rfl (hb hby at_151) rfl hh_) ?_
          show own_RunW p e below s _ _ _ (T37.setTop (mkF m 153 #[.val (.int sh), .val (.long by1), .second, .val (.int fi), .val (.int ln), .val (.int la), .val (.ref ob1), .val (.int lo), .unset, .unset, .unset] [(.int lo), (.int (4 : Int32)), (.int (gg 4))]))
          refine own_ofW (fun _ hh_ => XS.iload X37.here hx rfl (hb hby at_153) rfl hh_) ?_
          show own_RunW p e below s _ _ _ (T37.setTop (mkF m 155 #[.val (.int sh), .val (.long by1), .second, .val (.int fi), .val (.int ln), .val (.int la), .val (.ref ob1), .val (.int lo), .unset, .unset, .unset] [(.int la), (.int lo), (.int (4 : Int32)), (.int (gg 4))]))
          obtain ⟨_, _, ⟨T39, L39, k39, n39⟩, -, X39, ⟨Lc39, hQ39, l39, y39, z39⟩, st39⟩ := Jvm.LawKit.callS X37 hx (y := (⟨"com/example/lanchid/lanchid/records/FieldFilledPinLaw", "counts", "(BIII)Z"⟩ : MethodName)) hown (mvT hZ (hw _ (List.mem_of_getElem? (i := 6) rfl))) (mvT hZ (hw _ (List.mem_of_getElem? (i := 7) rfl))) (mvT hZ (hw _ (List.mem_of_getElem? (i := 3) rfl))) (mvT hZ (hw _ (List.mem_of_getElem? (i := 8) rfl))) (by decide) (backOf (W := 0) (rmC l Z a0 hw [] (gg 4) (4 : Int32) lo la h13 n0 (Nat.le_trans (Nat.le_trans (Nat.le_trans (Nat.le_trans (Nat.le_trans (Nat.le_trans (Nat.le_trans Z0 E1.1) (Nat.le_of_eq W3.size.symm)) (Nat.le_of_eq W5.size.symm)) (Nat.le_of_eq W7.size.symm)) (Nat.le_of_eq W9.size.symm)) (Nat.le_of_eq W11.size.symm)) (Nat.le_of_eq W13.size.symm))) hZ (hw _ (List.mem_of_getElem? (i := 8) rfl)) (hw _ (List.mem_of_getElem? (i := 3) rfl)) (by decide) (by decide)) (g := (mkF m 155 #[.val (.int sh), .val (.long by1), .second, .val (.int fi), .val (.int ln), .val (.int la), .val (.ref ob1), .val (.int lo), .unset, .unset, .unset] [(.int la), (.int lo), (.int (4 : Int32)), (.int (gg 4))])) rfl (by rw [hml]; rfl) (argsL := [(.int (gg 4)), (.int (4 : Int32)), (.int lo), (.int la)]) (rest := []) (lenOf own_pd4 rfl) rfl (by show 2 * 0 + _ ≤ _; exact Nat.le_of_eq rfl) (hb hby at_155) (fun _ _ => ⟨rfl, e37, (by decide : 1 + 0 ≤ _), (by decide : 6 + 0 ≤ _)⟩)
          dsimp only [Pt.U, Pt.locs, Pt.cells, Pt.slots] at X39 l39 y39 z39 st39 hQ39
          subst l39 y39 z39
          obtain ⟨rfl, N39q, e39⟩ := hQ39
          have N39 := Fr.app N37 N39q
          refine own_ofW st39 ?_
          show own_RunW p e below s _ _ _ (T39.setTop (mkF m 158 #[.val (.int sh), .val (.long by1), .second, .val (.int fi), .val (.int ln), .val (.int la), .val (.ref ob1), .val (.int lo), .unset, .unset, .unset] [(.int (if own_C (gg 4) (4 : Int32) lo la then 1 else 0 : Int32))]))
          by_cases hc158_40 : own_C (gg 4) (4 : Int32) lo la
          · refine own_ofW (fun _ hh_ => XS.ifYes X39.here hx rfl (pc0 := 158) (pc' := 176) rfl (hb hby at_158) rfl ((if0 _ _).trans (feq (show ¬ ((if own_C (gg 4) (4 : Int32) lo la then 1 else 0 : Int32) = 0) from by rw [if_pos hc158_40]; decide)).2) (by decide) (by decide) hh_) ?_
            show own_RunW p e below s _ _ _ (T39.setTop (mkF m 176 #[.val (.int sh), .val (.long by1), .second, .val (.int fi), .val (.int ln), .val (.int la), .val (.ref ob1), .val (.int lo), .unset, .unset, .unset] []))
            refine own_ofW (fun _ hh_ => XS.iconst X39.here hx rfl (hb hby at_176) hh_) ?_
            show own_RunW p e below s _ _ _ (T39.setTop (mkF m 177 #[.val (.int sh), .val (.long by1), .second, .val (.int fi), .val (.int ln), .val (.int la), .val (.ref ob1), .val (.int lo), .unset, .unset, .unset] [(.int (1 : Int32))]))
            refine own_ofW (fun _ hh_ => XS.goto X39.here hx rfl (pc0 := 177) (pc' := 181) rfl (hb hby at_177) (by decide) (by decide) hh_) ?_
            show own_RunW p e below s _ _ _ (T39.setTop (mkF m 181 #[.val (.int sh), .val (.long by1), .second, .val (.int fi), .val (.int ln), .val (.int la), .val (.ref ob1), .val (.int lo), .unset, .unset, .unset] [(.int (1 : Int32))]))
            exact J181 _ _ X39 e39 N39 _ (own_yes 4 rfl hc158_40)
          · refine own_ofW (fun _ hh_ => XS.ifNo X39.here hx rfl (hb hby at_158) rfl ((if0 _ _).trans (teq (show (if own_C (gg 4) (4 : Int32) lo la then 1 else 0 : Int32) = 0 from if_neg hc158_40)).2) hh_) ?_
            show own_RunW p e below s _ _ _ (T39.setTop (mkF m 161 #[.val (.int sh), .val (.long by1), .second, .val (.int fi), .val (.int ln), .val (.int la), .val (.ref ob1), .val (.int lo), .unset, .unset, .unset] []))
            refine own_ofW (fun _ hh_ => XS.aload X39.here hx rfl (hb hby at_161) rfl rfl hh_) ?_
            show own_RunW p e below s _ _ _ (T39.setTop (mkF m 163 #[.val (.int sh), .val (.long by1), .second, .val (.int fi), .val (.int ln), .val (.int la), .val (.ref ob1), .val (.int lo), .unset, .unset, .unset] [(.ref ob1)]))
            refine own_ofW (fun _ hh_ => XS.iconst X39.here hx rfl (hb hby at_163) hh_) ?_
            show own_RunW p e below s _ _ _ (T39.setTop (mkF m 164 #[.val (.int sh), .val (.long by1), .second, .val (.int fi), .val (.int ln), .val (.int la), .val (.ref ob1), .val (.int lo), .unset, .unset, .unset] [(.int (5 : Int32)), (.ref ob1)]))
            refine own_balW X39 hx hZ e39 Vg (j := (5 : Int32)) (w := (gg 5)) (by decide) (by decide) rfl (hb hby at_164) ?_
            show own_RunW p e below s _ _ _ (T39.setTop (mkF m 165 #[.val (.int sh), .val (.long by1), .second, .val (.int fi), .val (.int ln), .val (.int la), .val (.ref ob1), .val (.int lo), .unset, .unset, .unset] [(.int (gg 5))]))
            refine own_ofW (fun _ hh_ => XS.iconst X39.here hx rfl (hb hby at_165) hh_) ?_
            show own_RunW p e below s _ _ _ (T39.setTop (mkF m 166 #[.val (.int sh), .val (.long by1), .second, .val (.int fi), .val (.int ln), .val (.int la), .val (.ref ob1), .val (.int lo), .unset, .unset, .unset] [(.int (5 : Int32)), (.int (gg 5))]))
            refine own_ofW (fun _ hh_ => XS.iload X39.here hx rfl (hb hby at_166) rfl hh_) ?_
            show own_RunW p e below s _ _ _ (T39.setTop (mkF m 168 #[.val (.int sh), .val (.long by1), .second, .val (.int fi), .val (.int ln), .val (.int la), .val (.ref ob1), .val (.int lo), .unset, .unset, .unset] [(.int lo), (.int (5 : Int32)), (.int (gg 5))]))
            refine own_ofW (fun _ hh_ => XS.iload X39.here hx rfl (hb hby at_168) rfl hh_) ?_
            show own_RunW p e below s _ _ _ (T39.setTop (mkF m 170 #[.val (.int sh), .val (.long by1), .second, .val (.int fi), .val (.int ln), .val (.int la), .val (.ref ob1), .val (.int lo), .unset, .unset, .unset] [(.int la), (.int lo), (.int (5 : Int32)), (.int (gg 5))]))
            obtain ⟨_, _, ⟨T41, L41, k41, n41⟩, -, X41, ⟨Lc41, hQ41, l41, y41, z41⟩, st41⟩ := Jvm.LawKit.callS X39 hx (y := (⟨"com/example/lanchid/lanchid/records/FieldFilledPinLaw", "counts", "(BIII)Z"⟩ : MethodName)) hown (mvT hZ (hw _ (List.mem_of_getElem? (i := 6) rfl))) (mvT hZ (hw _ (List.mem_of_getElem? (i := 7) rfl))) (mvT hZ (hw _ (List.mem_of_getElem? (i := 3) rfl))) (mvT hZ (hw _ (List.mem_of_getElem? (i := 8) rfl))) (by decide) (backOf (W := 0) (rmC l Z a0 hw [] (gg 5) (5 : Int32) lo la h13 n0 (Nat.le_trans (Nat.le_trans (Nat.le_trans (Nat.le_trans (Nat.le_trans (Nat.le_trans (Nat.le_trans Z0 E1.1) (Nat.le_of_eq W3.size.symm)) (Nat.le_of_eq W5.size.symm)) (Nat.le_of_eq W7.size.symm)) (Nat.le_of_eq W9.size.symm)) (Nat.le_of_eq W11.size.symm)) (Nat.le_of_eq W13.size.symm))) hZ (hw _ (List.mem_of_getElem? (i := 8) rfl)) (hw _ (List.mem_of_getElem? (i := 3) rfl)) (by decide) (by decide)) (g := (mkF m 170 #[.val (.int sh), .val (.long by1), .second, .val (.int fi), .val (.int ln), .val (.int la), .val (.ref ob1), .val (.int lo), .unset, .unset, .unset] [(.int la), (.int lo), (.int (5 : Int32)), (.int (gg 5))])) rfl (by rw [hml]; rfl) (argsL := [(.int (gg 5)), (.int (5 : Int32)), (.int lo), (.int la)]) (rest := []) (lenOf own_pd4 rfl) rfl (by show 2 * 0 + _ ≤ _; exact Nat.le_of_eq rfl) (hb hby at_170) (fun _ _ => ⟨rfl, e39, (by decide : 1 + 0 ≤ _), (by decide : 6 + 0 ≤ _)⟩)
            dsimp only [Pt.U, Pt.locs, Pt.cells, Pt.slots] at X41 l41 y41 z41 st41 hQ41
            subst l41 y41 z41
            obtain ⟨rfl, N41q, e41⟩ := hQ41
            have N41 := Fr.app N39 N41q
            refine own_ofW st41 ?_
            show own_RunW p e below s _ _ _ (T41.setTop (mkF m 173 #[.val (.int sh), .val (.long by1), .second, .val (.int fi), .val (.int ln), .val (.int la), .val (.ref ob1), .val (.int lo), .unset, .unset, .unset] [(.int (if own_C (gg 5) (5 : Int32) lo la then 1 else 0 : Int32))]))
            by_cases hc173_42 : own_C (gg 5) (5 : Int32) lo la
            · refine own_ofW (fun _ hh_ => XS.ifNo X41.here hx rfl (hb hby at_173) rfl ((if0 _ _).trans (feq (show ¬ ((if own_C (gg 5) (5 : Int32) lo la then 1 else 0 : Int32) = 0) from by rw [if_pos hc173_42]; decide)).1) hh_) ?_
              show own_RunW p e below s _ _ _ (T41.setTop (mkF m 176 #[.val (.int sh), .val (.long by1), .second, .val (.int fi), .val (.int ln), .val (.int la), .val (.ref ob1), .val (.int lo), .unset, .unset, .unset] []))
              refine own_ofW (fun _ hh_ => XS.iconst X41.here hx rfl (hb hby at_176) hh_) ?_
              show own_RunW p e below s _ _ _ (T41.setTop (mkF m 177 #[.val (.int sh), .val (.long by1), .second, .val (.int fi), .val (.int ln), .val (.int la), .val (.ref ob1), .val (.int lo), .unset, .unset, .unset] [(.int (1 : Int32))]))
              refine own_ofW (fun _ hh_ => XS.goto X41.here hx rfl (pc0 := 177) (pc' := 181) rfl (hb hby at_177) (by decide) (by decide) hh_) ?_
              show own_RunW p e below s _ _ _ (T41.setTop (mkF m 181 #[.val (.int sh), .val (.long by1), .second, .val (.int fi), .val (.int ln), .val (.int la), .val (.ref ob1), .val (.int lo), .unset, .unset, .unset] [(.int (1 : Int32))]))
              exact J181 _ _ X41 e41 N41 _ (own_yes 5 rfl hc173_42)
            · refine own_ofW (fun _ hh_ => XS.ifYes X41.here hx rfl (pc0 := 173) (pc' := 180) rfl (hb hby at_173) rfl ((if0 _ _).trans (teq (show (if own_C (gg 5) (5 : Int32) lo la then 1 else 0 : Int32) = 0 from if_neg hc173_42)).1) (by decide) (by decide) hh_) ?_
              show own_RunW p e below s _ _ _ (T41.setTop (mkF m 180 #[.val (.int sh), .val (.long by1), .second, .val (.int fi), .val (.int ln), .val (.int la), .val (.ref ob1), .val (.int lo), .unset, .unset, .unset] []))
              refine own_ofW (fun _ hh_ => XS.iconst X41.here hx rfl (hb hby at_180) hh_) ?_
              show own_RunW p e below s _ _ _ (T41.setTop (mkF m 181 #[.val (.int sh), .val (.long by1), .second, .val (.int fi), .val (.int ln), .val (.int la), .val (.ref ob1), .val (.int lo), .unset, .unset, .unset] [(.int (0 : Int32))]))
              exact J181 _ _ X41 e41 N41 _ (own_no rla.2 hc98_32 hc113_34 hc128_36 hc143_38 hc158_40 hc173_42)
set_option maxRecDepth 65536 in
set_option maxHeartbeats 40000000 in
theorem comes_1 {Post : Tables → Env → Array Value → State → Outcome → State → Prop} (hpost : ∀ tb e args s v u, (limb_1_1.after args s (.returned v) u = true ∧ limb_1_2.after args s (.returned v) u = true ∧ True) → ReturnedEndW s (.returned v) u (Jvm.fieldLocs frame_1_writes args s ++ Jvm.arrayLocs frame_1_arrays args s ++ Jvm.staticLocs frame_1_statics s) 16 1152 → Post tb e args s (.returned v) u) :
    ArmFor flags0 classFile x code maxLocals ret World_1 tables_1 room_1 Calls_1 rest_1 Pre_1 Post := by
  intro l hfl _ _ p e ha hc hk s m args below hf hA hF happ hP
  obtain ⟨hcalls, hrest, hpre⟩ := hP
  obtain ⟨-, -, -, hnamed, -, -, -, hat⟩ := (Spec.applies_iff hf).mp happ
  obtain ⟨hg, hn⟩ := and_e (Cond.before_iff.mp (show (Jvm.Cond.and given_1 narrow_1).before args s = true from hpre))
  obtain ⟨gg1, gg2⟩ := and_e hg
  obtain ⟨gg3, gg4⟩ := and_e gg2
  obtain ⟨w0, w1, rfl⟩ : ∃ w0 w1 : Value, args = #[w0, w1] := by
    have hs : args.size = 2 := by simpa [Cond.value, given_1] using gg1
    obtain ⟨L⟩ := args
    match L, hs with
    | [w0, w1], _ => exact ⟨w0, w1, rfl⟩
  have hw := fun d (hd : d ∈ tables_1) => atoms_spec (ws := Jvm.Cond.code x code maxLocals ret :: tables_1) hat d (List.mem_cons_of_mem _ hd)
  obtain ⟨i0, ei0⟩ := is_v gg3
  obtain rfl : w0 = (.int i0) := Option.some.inj ei0
  obtain ⟨i1, ei1⟩ := isL_v gg4
  obtain rfl : w1 = (.long i1) := Option.some.inj ei1
  obtain ⟨n, o, h1, h2, h3, _, L, rfl, ⟨rfl, N⟩, hq⟩ := rm0 l s _ hw tables_1 i0 i1  s.heap s.heap.size (Nat.le_refl _)  p e ha hc hk s m _ below hf ((Spec.applies_iff_loose hf).mp happ).1 ⟨rfl, State.Warmed39.refl s, rfl⟩ trivial
  refine ⟨n, _, h1, h2, h3, hpost _ _ _ _ _ _ ⟨Cond.after_iff.mpr rfl, Cond.after_iff.mpr (eq_i res_at (Term.int_eval (1)) rfl), trivial⟩ ⟨hq.1, hq.2.1, hq.2.2.1, (hq.2.2.2.sift fun y hy => Or.inr (N y hy)).mono (by decide) (by decide)⟩⟩
theorem main_1_1 : Claimed_1_1 := comes_1 fun _ _ _ _ _ _ h hF => ⟨h.1, hF⟩
theorem main_1_2 : Claimed_1_2 := comes_1 fun _ _ _ _ _ _ h hF => ⟨h.2.1, hF⟩
end Jvm.Pilot.@@N@@
namespace Jvm.Pilot.@@N@@
open Jvm Jvm.ClassFile Sem Op Lib Jvm.Free Jvm.Stand Jvm.Pilot.@@N@@.Jvm.D
/-! MADE BY PROGRAM (witnessworld.py) out of the Statement's table words and the real class files: 15 classes; the members and pool entries that the words name. The judged class is class 1, her method 3. -/
namespace start1
open Jvm.ClassFile
def u (s : String) : CpInfo := .utf8 (stringToUtf16 s)
/-- a pool by its gaps: so many unusable entries, then the entry; so many at the end -/
def gap : Nat → List CpInfo → List CpInfo
  | 0, r => r
  | n + 1, r => .unusable :: gap n r
def poolList (es : List (Nat × CpInfo)) (last : Nat) : List CpInfo := es.foldr (fun e r => gap e.1 (e.2 :: r)) (gap last [])
def pool (es : List (Nat × CpInfo)) (last : Nat) : Array CpInfo := ⟨poolList es last⟩
def fileOf (pool : Array CpInfo) (this : Nat) (attrs : Array Attribute := #[]) (ms : Array MethodInfo := #[]) (fl : Nat := 33) (sup : Nat := 0) (ifs : Array Nat := #[]) (fds : Array FieldInfo := #[]) : ClassFile where
  minorVersion := 0
  majorVersion := 65
  constantPool := pool
  accessFlags := fl
  thisClass := this
  superClass := sup
  interfaces := ifs
  fields := fds
  methods := ms
  attributes := attrs
def plain (name : String) (sup : Option ClassId) : Class where
  name := name
  kind := .ordinary
  loader := none
  accessFlags := 33
  super := sup
  interfaces := #[]
  cf := none
  fields := #[]
  methods := #[]
  instanceTypes := #[]
  staticTypes := #[]
  resolved := #[]
  callSites := []
  init := .initialized
  statics := none
  mirror := none

def pool0 : Array CpInfo := pool [(5, u "<init>"), (0, u "()V"), (1, .class_ 10), (1, u "java/lang/Object")] 113

def k0c0 : Code := { maxStack := 0, maxLocals := 1, code := object_method_1_code, exceptionTable := #[], attributes := #[] }
def k0m0 : Method := { name := "<init>", desc := "()V", sig := { parameters := [], returnType := none }, accessFlags := 1, code := some k0c0 }
/-- java/lang/Object -/
def k0 : Class := { plain "java/lang/Object" none with
  accessFlags := 33
  interfaces := #[]
  cf := some (fileOf pool0 8 #[] #[{ accessFlags := 1, nameIndex := 5, descriptorIndex := 6, attributes := #[] }] 33 0 #[] #[])
  fields := #[]
  methods := #[k0m0]
  instanceTypes := #[]
  staticTypes := #[]
  resolved := Array.replicate 124 none
  statics := none }

def pool1 : Array CpInfo := pool [(2, .class_ 4), (1, u "java/lang/Object"), (0, u "<init>"), (0, u "()V"), (0, .long 3), (1, .methodref 10 11), (0, .class_ 12), (0, .nameAndType 13 14), (0, u "com/example/lanchid/lanchid/records/FieldFilledPinLaw"), (0, u "pick"), (0, u "(JI)B"), (0, .methodref 10 16), (0, .nameAndType 17 18), (0, u "counts"), (0, u "(BIII)Z"), (0, .class_ 20), (0, u "com/example/lanchid/lanchid/records/Field"), (0, .string 22), (0, u "T"), (0, .methodref 19 24), (0, .nameAndType 5 25), (0, u "(Ljava/lang/String;II)V"), (0, .methodref 19 27), (0, .nameAndType 28 29), (0, u "filled"), (0, u "([B)Z"), (3, u "law"), (0, u "(IJ)Z")] 4

def k1m0 : Method := { name := "<init>", desc := "()V", sig := { parameters := [], returnType := none }, accessFlags := 1, code := none }
def k1c1 : Code := { maxStack := 4, maxLocals := 6, code := method_2_code, exceptionTable := #[], attributes := #[] }
def k1m1 : Method := { name := "pick", desc := "(JI)B", sig := { parameters := [.long, .int], returnType := some .byte }, accessFlags := 10, code := some k1c1 }
def k1c2 : Code := { maxStack := 2, maxLocals := 4, code := method_3_code, exceptionTable := #[], attributes := #[] }
def k1m2 : Method := { name := "counts", desc := "(BIII)Z", sig := { parameters := [.byte, .int, .int, .int], returnType := some .boolean }, accessFlags := 10, code := some k1c2 }
def k1c3 : Code := { maxStack := 5, maxLocals := 11, code := code, exceptionTable := #[], attributes := #[] }
def k1m3 : Method := { name := "law", desc := "(IJ)Z", sig := { parameters := [.int, .long], returnType := some .boolean }, accessFlags := 9, code := some k1c3 }
/-- com/example/lanchid/lanchid/records/FieldFilledPinLaw -/
def k1 : Class := { plain "com/example/lanchid/lanchid/records/FieldFilledPinLaw" (some 0) with
  accessFlags := 49
  interfaces := #[]
  cf := some (fileOf pool1 10 #[] #[{ accessFlags := 1, nameIndex := 5, descriptorIndex := 6, attributes := #[] }, { accessFlags := 10, nameIndex := 13, descriptorIndex := 14, attributes := #[] }, { accessFlags := 10, nameIndex := 17, descriptorIndex := 18, attributes := #[] }, { accessFlags := 9, nameIndex := 33, descriptorIndex := 34, attributes := #[] }] 49 2 #[] #[])
  fields := #[]
  methods := #[k1m0, k1m1, k1m2, k1m3]
  instanceTypes := #[]
  staticTypes := #[]
  resolved := Array.replicate 39 none
  statics := none }

def pool2 : Array CpInfo := pool [(1, .methodref 2 3), (0, .class_ 4), (0, .nameAndType 5 6), (0, u "java/lang/Object"), (0, u "<init>"), (0, u "()V"), (0, .class_ 8), (0, u "java/lang/Record")] 13

def k2c0 : Code := { maxStack := 1, maxLocals := 1, code := jdk_30_method_1_code, exceptionTable := #[], attributes := #[] }
def k2m0 : Method := { name := "<init>", desc := "()V", sig := { parameters := [], returnType := none }, accessFlags := 4, code := some k2c0 }
/-- java/lang/Record -/
def k2 : Class := { plain "java/lang/Record" (some 0) with
  accessFlags := 1057
  interfaces := #[]
  cf := some (fileOf pool2 7 #[] #[{ accessFlags := 4, nameIndex := 5, descriptorIndex := 6, attributes := #[] }] 1057 2 #[] #[])
  fields := #[]
  methods := #[k2m0]
  instanceTypes := #[]
  staticTypes := #[]
  resolved := Array.replicate 22 none
  statics := none }

def pool3 : Array CpInfo := pool [(1, .methodref 2 3), (0, .class_ 4), (0, .nameAndType 5 6), (0, u "java/lang/Record"), (0, u "<init>"), (0, u "()V"), (0, .fieldref 8 9), (0, .class_ 10), (0, .nameAndType 11 12), (0, u "com/example/lanchid/lanchid/records/Field"), (0, u "name"), (0, u "Ljava/lang/String;"), (0, .fieldref 8 14), (0, .nameAndType 15 16), (0, u "first"), (0, u "I"), (0, .fieldref 8 18), (0, .nameAndType 19 16), (0, u "last"), (85, u "(Ljava/lang/String;II)V"), (18, u "LONGEST_NUMBER"), (15, u "filled"), (0, u "([B)Z")] 45

def k3c0 : Code := { maxStack := 2, maxLocals := 4, code := prog_117_method_1_code, exceptionTable := #[], attributes := #[] }
def k3m0 : Method := { name := "<init>", desc := "(Ljava/lang/String;II)V", sig := { parameters := [(.object "java/lang/String"), .int, .int], returnType := none }, accessFlags := 1, code := some k3c0 }
def k3c1 : Code := { maxStack := 2, maxLocals := 3, code := prog_117_method_9_code, exceptionTable := #[], attributes := #[] }
def k3m1 : Method := { name := "filled", desc := "([B)Z", sig := { parameters := [(.array .byte)], returnType := some .boolean }, accessFlags := 1, code := some k3c1 }
/-- com/example/lanchid/lanchid/records/Field -/
def k3 : Class := { plain "com/example/lanchid/lanchid/records/Field" (some 2) with
  accessFlags := 49
  interfaces := #[]
  cf := some (fileOf pool3 8 #[] #[{ accessFlags := 1, nameIndex := 5, descriptorIndex := 105, attributes := #[] }, { accessFlags := 1, nameIndex := 140, descriptorIndex := 141, attributes := #[] }] 49 2 #[] #[{ accessFlags := 18, nameIndex := 11, descriptorIndex := 12, attributes := #[] }, { accessFlags := 18, nameIndex := 15, descriptorIndex := 16, attributes := #[] }, { accessFlags := 18, nameIndex := 19, descriptorIndex := 16, attributes := #[] }, { accessFlags := 26, nameIndex := 124, descriptorIndex := 16, attributes := #[] }])
  fields := #[{ name := "name", type := (.object "java/lang/String"), accessFlags := 18, slot := 0, constantValue := 0 }, { name := "first", type := .int, accessFlags := 18, slot := 1, constantValue := 0 }, { name := "last", type := .int, accessFlags := 18, slot := 2, constantValue := 0 }, { name := "LONGEST_NUMBER", type := .int, accessFlags := 26, slot := 0, constantValue := 0 }]
  methods := #[k3m0, k3m1]
  instanceTypes := #[(.object "java/lang/String"), .int, .int]
  staticTypes := #[.int]
  resolved := Array.replicate 187 none
  statics := none }

def pool4 : Array CpInfo := pool [(1, .class_ 2), (0, u "java/io/Serializable"), (0, .class_ 4), (0, u "java/lang/Object")] 2

/-- java/io/Serializable -/
def k4 : Class := { plain "java/io/Serializable" (some 0) with
  accessFlags := 1537
  interfaces := #[]
  cf := some (fileOf pool4 1 #[] #[] 1537 3 #[] #[])
  fields := #[]
  methods := #[]
  instanceTypes := #[]
  staticTypes := #[]
  resolved := Array.replicate 7 none
  statics := none }

def pool5 : Array CpInfo := pool [(1, .class_ 2), (0, u "java/lang/Comparable"), (0, .class_ 4), (0, u "java/lang/Object")] 7

/-- java/lang/Comparable -/
def k5 : Class := { plain "java/lang/Comparable" (some 0) with
  accessFlags := 1537
  interfaces := #[]
  cf := some (fileOf pool5 1 #[] #[] 1537 3 #[] #[])
  fields := #[]
  methods := #[]
  instanceTypes := #[]
  staticTypes := #[]
  resolved := Array.replicate 12 none
  statics := none }

def pool6 : Array CpInfo := pool [(2, .class_ 4), (1, u "java/lang/CharSequence"), (42, .class_ 48), (0, u "java/lang/CharSequence$1CodePointIterator"), (10, .class_ 60), (0, u "java/lang/CharSequence$1CharIterator"), (5, .class_ 67), (0, u "java/lang/Object")] 63

/-- java/lang/CharSequence -/
def k6 : Class := { plain "java/lang/CharSequence" (some 0) with
  accessFlags := 1537
  interfaces := #[]
  cf := some (fileOf pool6 2 #[.nestMembers #[47, 59]] #[] 1537 66 #[] #[])
  fields := #[]
  methods := #[]
  instanceTypes := #[]
  staticTypes := #[]
  resolved := Array.replicate 131 none
  statics := none }

def pool7 : Array CpInfo := pool [(1, .class_ 2), (0, u "java/lang/constant/Constable"), (0, .class_ 4), (0, u "java/lang/Object")] 6

/-- java/lang/constant/Constable -/
def k7 : Class := { plain "java/lang/constant/Constable" (some 0) with
  accessFlags := 1537
  interfaces := #[]
  cf := some (fileOf pool7 1 #[] #[] 1537 3 #[] #[])
  fields := #[]
  methods := #[]
  instanceTypes := #[]
  staticTypes := #[]
  resolved := Array.replicate 11 none
  statics := none }

def pool8 : Array CpInfo := pool [(1, .class_ 2), (0, u "java/lang/constant/ConstantDesc"), (0, .class_ 4), (0, u "java/lang/Object")] 32

/-- java/lang/constant/ConstantDesc -/
def k8 : Class := { plain "java/lang/constant/ConstantDesc" (some 0) with
  accessFlags := 1537
  interfaces := #[]
  cf := some (fileOf pool8 1 #[] #[] 1537 3 #[] #[])
  fields := #[]
  methods := #[]
  instanceTypes := #[]
  staticTypes := #[]
  resolved := Array.replicate 37 none
  statics := none }

def pool9 : Array CpInfo := pool [(2, .class_ 4), (1, u "java/lang/Object"), (0, u "<init>"), (0, u "()V"), (3, .class_ 12), (1, u "java/lang/String"), (0, u "value"), (0, u "[B"), (2, u "coder"), (0, u "B"), (2, u "hash"), (0, u "I"), (2, u "hashIsZero"), (0, u "Z"), (13, u "COMPACT_STRINGS"), (534, .class_ 576), (0, u "java/lang/CharSequence"), (22, u "CASE_INSENSITIVE_ORDER"), (0, u "Ljava/util/Comparator;"), (500, u "serialPersistentFields"), (0, u "[Ljava/io/ObjectStreamField;"), (0, .class_ 1104), (0, u "java/lang/String$CaseInsensitiveComparator"), (1, .class_ 1107), (0, u "java/io/Serializable"), (0, .class_ 1109), (0, u "java/lang/Comparable"), (0, .class_ 1111), (0, u "java/lang/constant/Constable"), (0, .class_ 1113), (0, u "java/lang/constant/ConstantDesc"), (2, u "serialVersionUID"), (0, u "J"), (3, u "REPL"), (0, u "C"), (2, u "LATIN1"), (1, u "UTF16")] 323

def k9m0 : Method := { name := "<init>", desc := "()V", sig := { parameters := [], returnType := none }, accessFlags := 1, code := none }
/-- java/lang/String -/
def k9 : Class := { plain "java/lang/String" (some 0) with
  accessFlags := 49
  interfaces := #[4, 5, 6, 7, 8]
  cf := some (fileOf pool9 10 #[.nestMembers #[1103]] #[{ accessFlags := 1, nameIndex := 5, descriptorIndex := 6, attributes := #[] }] 49 2 #[1106, 1108, 575, 1110, 1112] #[{ accessFlags := 18, nameIndex := 13, descriptorIndex := 14, attributes := #[] }, { accessFlags := 18, nameIndex := 17, descriptorIndex := 18, attributes := #[] }, { accessFlags := 2, nameIndex := 21, descriptorIndex := 22, attributes := #[] }, { accessFlags := 2, nameIndex := 25, descriptorIndex := 26, attributes := #[] }, { accessFlags := 26, nameIndex := 1116, descriptorIndex := 1117, attributes := #[] }, { accessFlags := 24, nameIndex := 40, descriptorIndex := 26, attributes := #[] }, { accessFlags := 26, nameIndex := 1101, descriptorIndex := 1102, attributes := #[] }, { accessFlags := 26, nameIndex := 1121, descriptorIndex := 1122, attributes := #[] }, { accessFlags := 25, nameIndex := 599, descriptorIndex := 600, attributes := #[] }, { accessFlags := 24, nameIndex := 1125, descriptorIndex := 18, attributes := #[] }, { accessFlags := 24, nameIndex := 1127, descriptorIndex := 18, attributes := #[] }])
  fields := #[{ name := "value", type := (.array .byte), accessFlags := 18, slot := 0, constantValue := 0 }, { name := "coder", type := .byte, accessFlags := 18, slot := 1, constantValue := 0 }, { name := "hash", type := .int, accessFlags := 2, slot := 2, constantValue := 0 }, { name := "hashIsZero", type := .boolean, accessFlags := 2, slot := 3, constantValue := 0 }, { name := "serialVersionUID", type := .long, accessFlags := 26, slot := 0, constantValue := 0 }, { name := "COMPACT_STRINGS", type := .boolean, accessFlags := 24, slot := 1, constantValue := 0 }, { name := "serialPersistentFields", type := (.array (.object "java/io/ObjectStreamField")), accessFlags := 26, slot := 2, constantValue := 0 }, { name := "REPL", type := .char, accessFlags := 26, slot := 3, constantValue := 0 }, { name := "CASE_INSENSITIVE_ORDER", type := (.object "java/util/Comparator"), accessFlags := 25, slot := 4, constantValue := 0 }, { name := "LATIN1", type := .byte, accessFlags := 24, slot := 5, constantValue := 0 }, { name := "UTF16", type := .byte, accessFlags := 24, slot := 6, constantValue := 0 }]
  methods := #[k9m0]
  instanceTypes := #[(.array .byte), .byte, .int, .boolean]
  staticTypes := #[.long, .boolean, (.array (.object "java/io/ObjectStreamField")), .char, (.object "java/util/Comparator"), .byte, .byte]
  resolved := Array.replicate 1451 none
  statics := none }

def pool10 : Array CpInfo := pool [(1, u "java/lang/Cloneable"), (0, .class_ 1), (0, u "java/lang/Object"), (0, .class_ 3)] 3

/-- java/lang/Cloneable -/
def k10 : Class := { plain "java/lang/Cloneable" (some 0) with
  accessFlags := 1537
  interfaces := #[]
  cf := some (fileOf pool10 2 #[] #[] 1537 4 #[] #[])
  fields := #[]
  methods := #[]
  instanceTypes := #[]
  staticTypes := #[]
  resolved := Array.replicate 8 none
  statics := none }

/-- the primitive byte -/
def k11 : Class := { plain "byte" none with kind := .primitive 'B', accessFlags := 0x411 }
/-- [B -/
def k12 : Class := { plain "[B" (some 0) with kind := .array 11 .byte, interfaces := #[10, 4], accessFlags := 1041 }

/-- the primitive int -/
def k13 : Class := { plain "int" none with kind := .primitive 'I', accessFlags := 0x411 }
/-- [I -/
def k14 : Class := { plain "[I" (some 0) with kind := .array 13 .int, interfaces := #[10, 4], accessFlags := 1041 }

def heap : Heap := #[]
def classes : Array Class := #[k0, k1, k2, k3, k4, k5, k6, k7, k8, k9, k10, k11, k12, k13, k14]
def interned : List (Array UInt16 × Addr) := []
def slotsUsed : Nat := 0
def theMethod : MethodId := ⟨1, 3⟩
def args0 : Array Value := #[.int 5, .long 5]
def aboutOver (below : List Frame) : State where
  vm := { classes := classes, interned := interned.toArray }
  heap := heap
  slotsUsed := slotsUsed
  threads := #[{ frames := .invoking theMethod args0 :: below }]
def below0 : List Frame := [.native { method := ⟨0, 0⟩, args := #[] }]
def about1 : State := aboutOver below0
def p0 : Program := .bare "" "" ""
def e0 : Env := launch0.env 0 0 0
theorem w_frames : about1.frames = Frame.invoking theMethod args0 :: below0 := rfl
set_option maxRecDepth 65536 in
theorem w_args : argsFit about1.vm theMethod args0 = true := by decide +kernel
set_option maxRecDepth 65536 in
theorem w_heap : heapFits about1 = true := by decide +kernel
set_option maxRecDepth 65536 in
theorem w_runnable : about1.curStatus? = some .runnable := by decide +kernel
set_option maxRecDepth 65536 in
theorem w_alone : about1.alone = true := by decide +kernel
set_option maxRecDepth 65536 in
theorem w_named : about1.methodNamed? x = some theMethod := by decide +kernel
set_option maxRecDepth 65536 in
theorem w_hears : about1.hears theMethod below0 = true := by decide +kernel
set_option maxRecDepth 65536 in
theorem w_ripe : about1.ripe theMethod args0 below0 = true := by decide +kernel
theorem w_running : about1.status = .running := rfl
set_option maxRecDepth 65536 in
theorem w_room : about1.hasRoom e0.platform room_1 = true :=
  launch0.hasRoom_least _ room_1 (by decide +kernel) (by decide +kernel) (by decide +kernel) (by decide +kernel) (by decide +kernel) (by decide +kernel)
theorem allAtoms_all (ts : List Jvm.Cond) (a : Array Jvm.Value) (st : Jvm.State) : (allAtoms ts).before a st = ts.all (fun c => c.before a st) := by
  induction ts with
  | nil => rfl
  | cons c t ih =>
    show (Jvm.Cond.and c (allAtoms t)).before a st = _
    rw [Jvm.Cond.before_and, ih, List.all_cons]
def words1 : List Jvm.Cond := Jvm.Cond.code x code maxLocals ret :: tables_1
/-- a 'code' word, met by the world's own term for the bytes: nothing is compared byte by byte -/
theorem code_word {y : MethodName} {bytes : ByteArray} {mx : Nat} {rt : Option FieldType} {a : Array Value} {s : State} {m : MethodId} {meth : Method} {c : Code} (h1 : s.methodNamed? y = some m) (h2 : s.vm.method? m = some meth) (h3 : meth.code = some c) (h4 : c.code = bytes)
    (h5 : (c.maxLocals == mx && c.exceptionTable.isEmpty && decide (c.maxStack ≤ mostOperands) && decide (meth.sig.returnType = rt) && !meth.locks && decide (parseMethodDescriptor y.desc = some meth.sig)) = true) : (Jvm.Cond.code y bytes mx rt).before a s = true := by
  simp only [Bool.and_eq_true, beq_iff_eq, Bool.not_eq_true', decide_eq_true_eq] at h5
  obtain ⟨⟨⟨⟨⟨g1, g2⟩, g3⟩, g4⟩, g5⟩, g6⟩ := h5
  simp [Cond.before, Cond.holds, Cond.value, h1, h2, h3, h4, g1, g2, g3, g4, g5, g6]
def isCode : Jvm.Cond → Bool
  | .code _ _ _ _ => true
  | _ => false
theorem all_split {L : List Jvm.Cond} {P : Jvm.Cond → Bool} (h1 : L.all (fun c => isCode c || P c) = true) (h2 : ∀ c ∈ L.filter isCode, P c = true) : L.all P = true := by
  refine List.all_eq_true.mpr fun c hc => ?_
  have h := List.all_eq_true.mp h1 c hc
  rcases Bool.eq_false_or_eq_true (isCode c) with hi | hi
  · exact h2 c (List.mem_filter.mpr ⟨hc, hi⟩)
  · simpa [hi] using h
set_option maxRecDepth 65536 in
theorem w_c0 : (Jvm.Cond.code x code maxLocals ret).before args0 about1 = true := code_word (m := ⟨1, 3⟩) (meth := k1m3) (c := k1c3) (by decide +kernel) rfl rfl rfl (by decide +kernel)
set_option maxRecDepth 65536 in
theorem w_c1 : (Jvm.Cond.code ({ cls := "com/example/lanchid/lanchid/records/FieldFilledPinLaw", name := "pick", desc := "(JI)B" } : Jvm.MethodName) method_2_code (6 : Nat) (Option.some Jvm.ClassFile.FieldType.byte)).before args0 about1 = true := code_word (m := ⟨1, 1⟩) (meth := k1m1) (c := k1c1) (by decide +kernel) rfl rfl rfl (by decide +kernel)
set_option maxRecDepth 65536 in
theorem w_c2 : (Jvm.Cond.code ({ cls := "com/example/lanchid/lanchid/records/FieldFilledPinLaw", name := "counts", desc := "(BIII)Z" } : Jvm.MethodName) method_3_code (4 : Nat) (Option.some Jvm.ClassFile.FieldType.boolean)).before args0 about1 = true := code_word (m := ⟨1, 2⟩) (meth := k1m2) (c := k1c2) (by decide +kernel) rfl rfl rfl (by decide +kernel)
set_option maxRecDepth 65536 in
theorem w_c3 : (Jvm.Cond.code ({ cls := "com/example/lanchid/lanchid/records/Field", name := "<init>", desc := "(Ljava/lang/String;II)V" } : Jvm.MethodName) prog_117_method_1_code (4 : Nat) (Option.none : Option Jvm.ClassFile.FieldType)).before args0 about1 = true := code_word (m := ⟨3, 0⟩) (meth := k3m0) (c := k3c0) (by decide +kernel) rfl rfl rfl (by decide +kernel)
set_option maxRecDepth 65536 in
theorem w_c4 : (Jvm.Cond.code ({ cls := "java/lang/Record", name := "<init>", desc := "()V" } : Jvm.MethodName) jdk_30_method_1_code (1 : Nat) (Option.none : Option Jvm.ClassFile.FieldType)).before args0 about1 = true := code_word (m := ⟨2, 0⟩) (meth := k2m0) (c := k2c0) (by decide +kernel) rfl rfl rfl (by decide +kernel)
set_option maxRecDepth 65536 in
theorem w_c5 : (Jvm.Cond.code ({ cls := "java/lang/Object", name := "<init>", desc := "()V" } : Jvm.MethodName) object_method_1_code (1 : Nat) (Option.none : Option Jvm.ClassFile.FieldType)).before args0 about1 = true := code_word (m := ⟨0, 0⟩) (meth := k0m0) (c := k0c0) (by decide +kernel) rfl rfl rfl (by decide +kernel)
set_option maxRecDepth 65536 in
theorem w_c6 : (Jvm.Cond.code ({ cls := "com/example/lanchid/lanchid/records/Field", name := "filled", desc := "([B)Z" } : Jvm.MethodName) prog_117_method_9_code (3 : Nat) (Option.some Jvm.ClassFile.FieldType.boolean)).before args0 about1 = true := code_word (m := ⟨3, 1⟩) (meth := k3m1) (c := k3c1) (by decide +kernel) rfl rfl rfl (by decide +kernel)
def codes1 : List Jvm.Cond := [Jvm.Cond.code x code maxLocals ret, Jvm.Cond.code ({ cls := "com/example/lanchid/lanchid/records/FieldFilledPinLaw", name := "pick", desc := "(JI)B" } : Jvm.MethodName) method_2_code (6 : Nat) (Option.some Jvm.ClassFile.FieldType.byte), Jvm.Cond.code ({ cls := "com/example/lanchid/lanchid/records/FieldFilledPinLaw", name := "counts", desc := "(BIII)Z" } : Jvm.MethodName) method_3_code (4 : Nat) (Option.some Jvm.ClassFile.FieldType.boolean), Jvm.Cond.code ({ cls := "com/example/lanchid/lanchid/records/Field", name := "<init>", desc := "(Ljava/lang/String;II)V" } : Jvm.MethodName) prog_117_method_1_code (4 : Nat) (Option.none : Option Jvm.ClassFile.FieldType), Jvm.Cond.code ({ cls := "java/lang/Record", name := "<init>", desc := "()V" } : Jvm.MethodName) jdk_30_method_1_code (1 : Nat) (Option.none : Option Jvm.ClassFile.FieldType), Jvm.Cond.code ({ cls := "java/lang/Object", name := "<init>", desc := "()V" } : Jvm.MethodName) object_method_1_code (1 : Nat) (Option.none : Option Jvm.ClassFile.FieldType), Jvm.Cond.code ({ cls := "com/example/lanchid/lanchid/records/Field", name := "filled", desc := "([B)Z" } : Jvm.MethodName) prog_117_method_9_code (3 : Nat) (Option.some Jvm.ClassFile.FieldType.boolean)]
set_option maxRecDepth 65536 in
theorem codes_eq : words1.filter isCode = codes1 := rfl
theorem w_codes : ∀ c ∈ words1.filter isCode, c.before args0 about1 = true := by
  rw [codes_eq]
  intro c hc
  simp only [codes1, List.mem_cons, List.not_mem_nil, or_false] at hc
  rcases hc with rfl | rfl | rfl | rfl | rfl | rfl | rfl
  · exact w_c0
  · exact w_c1
  · exact w_c2
  · exact w_c3
  · exact w_c4
  · exact w_c5
  · exact w_c6
set_option maxRecDepth 65536 in
theorem w_t1 : (words1.take 24).all (fun c => isCode c || c.before args0 about1) = true := by decide +kernel
set_option maxRecDepth 65536 in
theorem w_t2 : (words1.drop 24).all (fun c => isCode c || c.before args0 about1) = true := by decide +kernel
theorem w_tables : (allAtoms (Jvm.Cond.code x code maxLocals ret :: tables_1)).before args0 about1 = true := by
  rw [allAtoms_all]
  show words1.all (fun c => c.before args0 about1) = true
  refine all_split ?_ w_codes
  rw [← List.take_append_drop 24 words1, List.all_append, w_t1, w_t2]
  rfl
set_option maxRecDepth 65536 in
theorem w_case : (Jvm.Cond.and given_1 narrow_1).before args0 about1 = true := by decide +kernel
theorem w_applies : (headSpec (Jvm.Cond.code x code maxLocals ret :: tables_1) room_1).applies x e0.platform about1 = true :=
  (Spec.applies_iff w_frames).mpr ⟨w_running, w_runnable, w_alone, w_named, w_hears, w_ripe, w_room, w_tables⟩
theorem atStart : AtStart classFile x code maxLocals ret World_1 tables_1 room_1 Calls_1 rest_1 Pre_1 launch0 p0 e0 about1 theMethod args0 below0 :=
  ⟨lists_1, trivial, launch0.admits_env _ _ _, launch0.least_env, fairChoices_fair.cas, fairChoices_fair.clock, w_frames, w_args, w_heap, w_applies, trivial, trivial, w_case⟩
end start1
theorem witness_1 : WitnessClaimed_1 := ⟨start1.p0, start1.e0, start1.about1, start1.theMethod, start1.args0, start1.below0, start1.atStart⟩
end Jvm.Pilot.@@N@@
