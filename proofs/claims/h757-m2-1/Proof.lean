import JvmDerived
import JvmDerived.Pilot.@@N@@Statement
import JvmDerived.Pilot.@@N@@Code
set_option linter.unusedVariables false
set_option linter.unusedSimpArgs false
namespace Jvm.Pilot.@@N@@
open Jvm Jvm.ClassFile Sem Op Lib Jvm.Free Jvm.Stand Jvm.LawKit Jvm.RoadKit Bundle Jvm.Pilot.@@N@@.Jvm.D
section Own
variable {p : Program} {l : Launch} {e : Env} {R : Room} {s : State} {m : MethodId} {args : Array Value} {below : List Frame} {meth : Method} {c : Code} {T : State} {locs : List Loc} {cells slots : Nat} {C N : Nat} {Q : Option Value → Heap → List Loc → Prop} {V V' : State}
/-- from the state V the method comes to its return, and leaves what Q says -/
def own_Run (p : Program) (e : Env) (below : List Frame) (s : State) (C N : Nat) (Q : Option Value → Heap → List Loc → Prop) (V : State) : Prop :=
  ∃ s₂ o, Steps p.tables e below V s₂ ∧ s₂.status = .running ∧ Ended s₂ below o ∧ ∃ v L, o = .returned v ∧ Q v s₂.heap L ∧ FrameEnd s o s₂ L C N
theorem own_of (k : ∀ t, Steps p.tables e below V' t → Steps p.tables e below V t) (r : own_Run p e below s C N Q V') : own_Run p e below s C N Q V := by
  obtain ⟨s₂, o, h, q⟩ := r
  exact ⟨s₂, o, k _ h, q⟩
theorem own_tr (k : Steps p.tables e below V V') (r : own_Run p e below s C N Q V') : own_Run p e below s C N Q V := own_of (fun _ h => k.trans h) r
theorem own_cast {g g' : JFrame} (q : g = g') (r : own_Run p e below s C N Q (T.setTop g')) : own_Run p e below s C N Q (T.setTop g) := q ▸ r
theorem own_ret (X : Stand p l e R s m args below meth c T locs cells slots) (hx : p.tables.exec = Jvm.exec) {pc : Nat} {Ls : Array Slot} {w : Value} {t : FieldType} {i : Instr} {rest : List Value} (hret : meth.sig.returnType = some t) (hlk : meth.locks = false) (hn : narrow t w = w)
    (hi : (i = .ireturn ∧ (t = .int ∨ t = .boolean ∨ t = .byte ∨ t = .char ∨ t = .short) ∧ ∃ z, w = .int z) ∨ (i = .lreturn ∧ t = .long ∧ ∃ z, w = .long z) ∨ (i = .dreturn ∧ t = .double ∧ ∃ z, w = .double z) ∨ (i = .freturn ∧ t = .float ∧ ∃ z, w = .float z) ∨ (i = .areturn ∧ t.isReference = true ∧ w.isRef = true))
    (hd : decode c.code pc = .ok (i, 1)) (q : Q (some w) T.heap locs) (hc : cells ≤ C) (hs : slots ≤ N) : own_Run p e below s C N Q (T.setTop (mkF m pc Ls (w :: rest))) := by
  obtain ⟨fs, hr, hrun, hended, hW, hsame⟩ := X.leave (v := some w) (fun h => by rw [hret] at h; cases h) hlk
  exact ⟨_, _, retOut X hx hret hn hi hd hr, hrun, hended, _, _, rfl, q, ⟨_, rfl⟩, hW, hsame.mono hc hs⟩
theorem own_retI (X : Stand p l e R s m args below meth c T locs cells slots) (hx : p.tables.exec = Jvm.exec) {pc : Nat} {Ls : Array Slot} {z : Int32} {rest : List Value} (hret : meth.sig.returnType = some .int) (hlk : meth.locks = false)
    (hd : decode c.code pc = .ok (.ireturn, 1)) (q : Q (some (.int z)) T.heap locs) (hc : cells ≤ C) (hs : slots ≤ N) : own_Run p e below s C N Q (T.setTop (mkF m pc Ls (.int z :: rest))) :=
  own_ret X hx hret hlk rfl (Or.inl ⟨rfl, Or.inl rfl, z, rfl⟩) hd q hc hs
theorem own_retJ (X : Stand p l e R s m args below meth c T locs cells slots) (hx : p.tables.exec = Jvm.exec) {pc : Nat} {Ls : Array Slot} {z : Int64} {rest : List Value} (hret : meth.sig.returnType = some .long) (hlk : meth.locks = false)
    (hd : decode c.code pc = .ok (.lreturn, 1)) (q : Q (some (.long z)) T.heap locs) (hc : cells ≤ C) (hs : slots ≤ N) : own_Run p e below s C N Q (T.setTop (mkF m pc Ls (.long z :: rest))) :=
  own_ret X hx hret hlk rfl (Or.inr (Or.inl ⟨rfl, rfl, z, rfl⟩)) hd q hc hs
theorem own_retN (X : Stand p l e R s m args below meth c T locs cells slots) (hx : p.tables.exec = Jvm.exec) {pc : Nat} {Ls : Array Slot} {z : Int32} {t : FieldType} {rest : List Value} (hret : meth.sig.returnType = some t) (hlk : meth.locks = false) (ht : t = .boolean ∨ t = .byte ∨ t = .char ∨ t = .short)
    (hd : decode c.code pc = .ok (.ireturn, 1)) (q : Q (some (.int (nar t z))) T.heap locs) (hc : cells ≤ C) (hs : slots ≤ N) : own_Run p e below s C N Q (T.setTop (mkF m pc Ls (.int z :: rest))) := by
  obtain ⟨fs, hr, hrun, hended, hW, hsame⟩ := X.leave (v := some (.int (nar t z))) (fun h => by rw [hret] at h; cases h) hlk
  exact ⟨_, _, retN X hx hret ht hd hr, hrun, hended, _, _, rfl, q, ⟨_, rfl⟩, hW, hsame.mono hc hs⟩
theorem own_retV (X : Stand p l e R s m args below meth c T locs cells slots) (hx : p.tables.exec = Jvm.exec) {pc : Nat} {Ls : Array Slot} (hret : meth.sig.returnType = none) (hlk : meth.locks = false)
    (hd : decode c.code pc = .ok (.return_, 1)) (q : Q none T.heap locs) (hc : cells ≤ C) (hs : slots ≤ N) : own_Run p e below s C N Q (T.setTop (mkF m pc Ls [])) := by
  obtain ⟨fs, hr, hrun, hended, hW, hsame⟩ := X.leave (v := none) (fun _ => rfl) hlk
  exact ⟨_, _, X.returnOut hx hret hd hr, hrun, hended, _, _, rfl, q, ⟨_, rfl⟩, hW, hsame.mono hc hs⟩
end Own
section OwnArrays
variable {p : Program} {l : Launch} {e : Env} {R : Room} {s : State} {m : MethodId} {args : Array Value} {below : List Frame} {meth : Method} {c : Code} {T : State} {locs : List Loc} {cells slots : Nat} {C N : Nat} {Q : Option Value → Heap → List Loc → Prop} {Z : State} {h h' : Heap} {a b : Addr} {ty : FieldType} {n : Nat} {f g : Nat → Int32} {v : Value} {sl : Nat} {ws : List Addr}
/-- in the heap h, at a, an array of the kind ty and n places; its place i holds the int f i -/
def own_Ar (Z : State) (h : Heap) (a : Addr) (ty : FieldType) (n : Nat) (f : Nat → Int32) : Prop := ∃ c : Cell, Arr Z h a c ty ∧ c.slots.size = n ∧ ∀ i, i < n → c.slots[i]? = some (.int (f i))
def own_up (f : Nat → Int32) (j : Nat) (v : Int32) : Nat → Int32 := fun i => if i = j then v else f i
theorem own_Ar.lt (F : own_Ar Z h a ty n f) : a < h.size := by obtain ⟨c, A, -⟩ := F; exact A.lt
theorem own_Ar.ext (F : own_Ar Z h a ty n f) (E : Ext h h') : own_Ar Z h' a ty n f := by obtain ⟨c, A, r⟩ := F; exact ⟨c, A.ext E, r⟩
theorem own_Ar.other (F : own_Ar Z h b ty n f) (W : Wr h h' a sl v) (q : b ≠ a) : own_Ar Z h' b ty n f := by obtain ⟨c, A, r⟩ := F; exact ⟨c, A.other W q, r⟩
theorem own_Ar.keep (F : own_Ar Z h a ty n f) (K : Keep h h' ws) (q : a ∉ ws) : own_Ar Z h' a ty n f := by obtain ⟨c, A, r⟩ := F; exact ⟨c, ⟨K.2.1 a c A.1 q, A.2⟩, r⟩
theorem own_Ar.congr (F : own_Ar Z h a ty n f) (q : ∀ i, i < n → f i = g i) : own_Ar Z h a ty n g := by obtain ⟨c, A, r, H⟩ := F; exact ⟨c, A, r, fun i hi => by rw [← q i hi]; exact H i hi⟩
theorem own_Ar.new {k : ClassId} {z : Int32} (A : Arr Z h a (newA k ty z) ty) (hd : defaultValue ty = .int 0) (hn : z.toNatClampNeg = n) : own_Ar Z h a ty n (fun _ => 0) :=
  ⟨_, A, by rw [sz_new, hn], fun i hi => by simp [newA, hd, hn, hi]⟩
theorem own_Ar.set {w : Int32} {j : Nat} (F : own_Ar Z h a ty n f) (W : Wr h h' a j (.int w)) (hj : j < n) : own_Ar Z h' a ty n (own_up f j w) := by
  obtain ⟨c, A, r, H⟩ := F
  refine ⟨_, A.same W, by rw [sz_set]; exact r, fun i hi => ?_⟩
  by_cases q : i = j
  · subst q
    simp [own_up, Cell.setSlot, r, hi]
  · rw [show (c.setSlot j (.int w)).slots[i]? = c.slots[i]? from Array.getElem?_setIfInBounds_ne (Ne.symm q)]
    simp [own_up, q, H i hi]
theorem own_bal (X : Stand p l e R s m args below meth c T locs cells slots) (hx : p.tables.exec = Jvm.exec) (hZ : Z.Warmed39 s.vm) (eT : T.heap = h) (A : own_Ar Z h a .byte n f) {j w : Int32} (h1 : ¬ j < 0) (h2 : j.toNatClampNeg < n) (hv : f j.toNatClampNeg = w)
    {pc : Nat} {Ls : Array Slot} {rest : List Value} (hd : decode c.code pc = .ok (.baload, 1)) (r : own_Run p e below s C N Q (T.setTop (mkF m (pc + 1) Ls (.int w :: rest)))) : own_Run p e below s C N Q (T.setTop (mkF m pc Ls (.int j :: .ref a :: rest))) := by
  obtain ⟨c, A, S, H⟩ := A
  subst hv
  exact own_of (fun t k => X.baloadBytes hx (j := j) (v := .int (f j.toNatClampNeg)) (by rw [eT]; exact A.1) (State.isArrayOf_alike hZ.alike A.2.1) A.2.2 (by rw [S]; exact fun q => q.elim h1 (Nat.not_le.mpr h2)) (H _ h2) (g := mkF m pc Ls (.int j :: .ref a :: rest)) rfl rfl hd t k) r
theorem own_ial (X : Stand p l e R s m args below meth c T locs cells slots) (hx : p.tables.exec = Jvm.exec) (hZ : Z.Warmed39 s.vm) (eT : T.heap = h) (A : own_Ar Z h a .int n f) {j w : Int32} (h1 : ¬ j < 0) (h2 : j.toNatClampNeg < n) (hv : f j.toNatClampNeg = w)
    {pc : Nat} {Ls : Array Slot} {rest : List Value} (hd : decode c.code pc = .ok (.iaload, 1)) (r : own_Run p e below s C N Q (T.setTop (mkF m (pc + 1) Ls (.int w :: rest)))) : own_Run p e below s C N Q (T.setTop (mkF m pc Ls (.int j :: .ref a :: rest))) := by
  obtain ⟨c, A, S, H⟩ := A
  subst hv
  exact own_of (fun t k => X.iaload hx (j := j) (v := .int (f j.toNatClampNeg)) (by rw [eT]; exact A.1) (State.isArrayOf_alike hZ.alike A.2.1) A.2.2 (by rw [S]; exact fun q => q.elim h1 (Nat.not_le.mpr h2)) (H _ h2) (g := mkF m pc Ls (.int j :: .ref a :: rest)) rfl rfl hd t k) r
theorem own_alen (X : Stand p l e R s m args below meth c T locs cells slots) (hx : p.tables.exec = Jvm.exec) (hZ : Z.Warmed39 s.vm) (eT : T.heap = h) (A : own_Ar Z h a ty n f) {w : Int32} (hv : n.toInt32 = w)
    {pc : Nat} {Ls : Array Slot} {rest : List Value} (hd : decode c.code pc = .ok (.arraylength, 1)) (r : own_Run p e below s C N Q (T.setTop (mkF m (pc + 1) Ls (.int w :: rest)))) : own_Run p e below s C N Q (T.setTop (mkF m pc Ls (.ref a :: rest))) := by
  obtain ⟨c, A, S, H⟩ := A
  subst hv S
  exact own_of (fun t k => X.arraylength hx (by rw [eT]; exact A.1) (State.isArrayOf_alike hZ.alike A.2.1) (g := mkF m pc Ls (.ref a :: rest)) rfl rfl hd t k) r
theorem own_bas (X : Stand p l e R s m args below meth c T locs cells slots) (hx : p.tables.exec = Jvm.exec) (hZ : Z.Warmed39 s.vm) (eT : T.heap = h) (A : own_Ar Z h a .byte n f) {j x : Int32} (h1 : ¬ j < 0) (h2 : j.toNatClampNeg < n)
    {pc : Nat} {Ls : Array Slot} {rest : List Value} (hd : decode c.code pc = .ok (.bastore, 1)) :
    ∃ T' h', Stand p l e R s m args below meth c T' (locs ++ [⟨a, j.toNatClampNeg⟩]) cells slots ∧ T'.heap = h' ∧ Wr h h' a j.toNatClampNeg (.int x.toInt8.toInt32) ∧ own_Ar Z h' a .byte n (own_up f j.toNatClampNeg x.toInt8.toInt32) ∧
      ∀ t, Steps p.tables e below (T'.setTop (mkF m (pc + 1) Ls rest)) t → Steps p.tables e below (T.setTop (mkF m pc Ls (.int x :: .int j :: .ref a :: rest))) t := by
  obtain ⟨c, A, S, H⟩ := id A
  obtain ⟨T', h', X', e', W, st⟩ := stB X hx hZ eT A (j := j) (x := x) (by rw [S]; exact fun q => q.elim h1 (Nat.not_le.mpr h2)) (g := mkF m pc Ls (.int x :: .int j :: .ref a :: rest)) rfl rfl hd
  exact ⟨T', h', X', e', W, own_Ar.set ⟨c, A, S, H⟩ W h2, st⟩
theorem own_ias (X : Stand p l e R s m args below meth c T locs cells slots) (hx : p.tables.exec = Jvm.exec) (hZ : Z.Warmed39 s.vm) (eT : T.heap = h) (A : own_Ar Z h a .int n f) {j x : Int32} (h1 : ¬ j < 0) (h2 : j.toNatClampNeg < n)
    {pc : Nat} {Ls : Array Slot} {rest : List Value} (hd : decode c.code pc = .ok (.iastore, 1)) :
    ∃ T' h', Stand p l e R s m args below meth c T' (locs ++ [⟨a, j.toNatClampNeg⟩]) cells slots ∧ T'.heap = h' ∧ Wr h h' a j.toNatClampNeg (.int x) ∧ own_Ar Z h' a .int n (own_up f j.toNatClampNeg x) ∧
      ∀ t, Steps p.tables e below (T'.setTop (mkF m (pc + 1) Ls rest)) t → Steps p.tables e below (T.setTop (mkF m pc Ls (.int x :: .int j :: .ref a :: rest))) t := by
  obtain ⟨c, A, S, H⟩ := id A
  obtain ⟨T', h', X', e', W, st⟩ := stI X hx hZ eT A (j := j) (x := x) (by rw [S]; exact fun q => q.elim h1 (Nat.not_le.mpr h2)) (g := mkF m pc Ls (.int x :: .int j :: .ref a :: rest)) rfl rfl hd
  exact ⟨T', h', X', e', W, own_Ar.set ⟨c, A, S, H⟩ W h2, st⟩
end OwnArrays
theorem own_mvNM {Z s : State} {a0 args : Array Value} {own host : String} {index : Nat} {y : MethodName} (hZ : Z.Warmed39 s.vm) (w : (Cond.methodLinkNest own index y host).before a0 Z = true) : (Cond.methodLinkNest own index y host).before args s = true := (Cond.methodLinkNest_wide hZ w :)
def own_minI (a b : Int32) : Int32 := if b < a then b else a
def own_maxI (a b : Int32) : Int32 := if a < b then b else a
theorem own_minI_i (a b : Int32) : (own_minI a b).toInt = if b.toInt < a.toInt then b.toInt else a.toInt := by
  unfold own_minI
  by_cases h : b < a
  · rw [if_pos h, if_pos (Int32.lt_iff_toInt_lt.mp h)]
  · rw [if_neg h, if_neg (mt Int32.lt_iff_toInt_lt.mpr h)]
theorem own_maxI_i (a b : Int32) : (own_maxI a b).toInt = if a.toInt < b.toInt then b.toInt else a.toInt := by
  unfold own_maxI
  by_cases h : a < b
  · rw [if_pos h, if_pos (Int32.lt_iff_toInt_lt.mp h)]
  · rw [if_neg h, if_neg (mt Int32.lt_iff_toInt_lt.mpr h)]
theorem own_pos {j : Int32} (h0 : 0 ≤ j.toInt) : ¬ j < 0 := by
  apply mt Int32.lt_iff_toInt_lt.mp
  have l : (0 : Int32).toInt = 0 := rfl
  omega
theorem own_clamp {j : Int32} (h0 : 0 ≤ j.toInt) : (j.toNatClampNeg : Int) = j.toInt := (nat_of (own_pos h0)).symm
theorem own_nlen {n : Nat} (h : n ≤ 16385) : n.toInt32.toInt = (n : Int) := len_toInt (by omega)
def own_ls (n : Int32) : Int32 := if n < (128 : Int32) then (1 : Int32) else (2 : Int32)
theorem own_ls_i (n : Int32) : ((own_ls n).toInt = 1 ∧ n.toInt < 128) ∨ ((own_ls n).toInt = 2 ∧ 128 ≤ n.toInt) := by
  have l : (128 : Int32).toInt = 128 := rfl
  unfold own_ls
  by_cases h : n < (128 : Int32)
  · have h' := Int32.lt_iff_toInt_lt.mp h
    rw [if_pos h]
    exact Or.inl ⟨rfl, by omega⟩
  · have h' := mt Int32.lt_iff_toInt_lt.mpr h
    rw [if_neg h]
    exact Or.inr ⟨rfl, by omega⟩
/-- each of the n places holds a byte -/
def own_Fit (f : Nat → Int32) (n : Nat) : Prop := ∀ i, i < n → fits .byte (.int (f i)) = true
theorem own_Fit0 (n : Nat) : own_Fit (fun _ => 0) n := fun _ _ => (by decide : fits .byte (.int 0) = true)
theorem own_Fit_up {f : Nat → Int32} {n j : Nat} (h : own_Fit f n) (x : Int32) : own_Fit (own_up f j x.toInt8.toInt32) n := fun i hi => by
  unfold own_up
  by_cases e : i = j
  · rw [if_pos e]; exact fits_nar_byte x
  · rw [if_neg e]; exact h i hi
theorem own_toArv {Z : State} {h : Heap} {a : Addr} {n : Nat} {f : Nat → Int32} {z : Int32} (A : own_Ar Z h a .byte n f) (F : own_Fit f n) (hz : z.toNatClampNeg = n) (h0 : ¬ z < 0) : ∃ k, Arv Z h a k .byte z ((List.range n).map fun i => Value.int (f i)) (.int 0) := by
  obtain ⟨c, A1, S, H⟩ := A
  have g : ∀ i, i < n → ((List.range n).map fun i => Value.int (f i)).getD i (.int 0) = .int (f i) := fun i hi => by simp [List.getD_eq_getElem?_getD, hi]
  exact ⟨c.cls, c, A1, rfl, by rw [S, hz], h0, fun i hi => by rw [g i (by omega)]; exact H i (by omega), fun i hi => by rw [g i (by omega)]; exact F i (by omega)⟩
def own_iv (v : Value) : Int32 := match v with | .int x => x | _ => 0
theorem own_ofArv {Z : State} {h : Heap} {a : Addr} {k : ClassId} {z : Int32} {vs : List Value} {d : Value} {n : Nat} (A : Arv Z h a k .byte z vs d) (hz : z.toNatClampNeg = n) : ∃ f, own_Ar Z h a .byte n f ∧ own_Fit f n := by
  obtain ⟨c, A1, -, S, -, H, G⟩ := A
  have g : ∀ i, i < n → vs.getD i d = .int (own_iv (vs.getD i d)) ∧ fits .byte (.int (own_iv (vs.getD i d))) = true := fun i hi => by
    have q := G i (by omega)
    cases hv : vs.getD i d with
    | int x => rw [hv] at q; exact ⟨rfl, q⟩
    | _ => rw [hv] at q; simp [fits] at q
  exact ⟨fun i => own_iv (vs.getD i d), ⟨c, A1, by rw [S, hz], fun i hi => by rw [H i (by omega)]; exact congrArg some (g i hi).1⟩, fun i hi => (g i hi).2⟩
theorem own_bb (x : Int32) : (x.toInt8.toInt32).toInt8.toInt32 = x.toInt8.toInt32 := by
  have a := c_i2b x
  have b := c_i2b x.toInt8.toInt32
  apply Int32.toInt_inj.mp
  omega
theorem own_m (x : Int32) (k : Nat) (hk : k ≤ 31) (mk : Int32) (hm : mk.toBitVec.toNat = 2 ^ k - 1) (M : Nat) (hM : M = 2 ^ k) : 0 ≤ (x &&& mk).toInt ∧ (x &&& mk).toInt < (M : Int) := by
  have a := c_mask x mk k hk hm
  subst hM
  rw [a]
  have p : (0 : Int) < ((2 ^ k : Nat) : Int) := Int.natCast_pos.mpr (Nat.pow_pos (by decide))
  exact ⟨Int.emod_nonneg _ (by omega), Int.emod_lt_of_pos _ p⟩
theorem own_sh7 (x : Int32) (h0 : 0 ≤ x.toInt) : ((x.toUInt32 >>> ((7 : Int32) &&& 31).toUInt32).toInt32).toInt = x.toInt / 128 := by
  have a : ((x.toUInt32 >>> ((7 : Int32) &&& 31).toUInt32).toInt32).toInt = (x.toInt % 4294967296) / 128 := c_iushr x (7 : Int32) 7 (by decide) (by decide)
  have r := rng32 x
  omega
theorem dm_0 : decode jdk_29_method_69_code 0 = .ok (.iload_n 0, 1) := by decide +kernel
theorem dm_1 : decode jdk_29_method_69_code 1 = .ok (.iload_n 1, 1) := by decide +kernel
theorem dm_2 : decode jdk_29_method_69_code 2 = .ok (.if_icmp .gt 7, 3) := by decide +kernel
theorem dm_5 : decode jdk_29_method_69_code 5 = .ok (.iload_n 0, 1) := by decide +kernel
theorem dm_6 : decode jdk_29_method_69_code 6 = .ok (.goto 4, 3) := by decide +kernel
theorem dm_9 : decode jdk_29_method_69_code 9 = .ok (.iload_n 1, 1) := by decide +kernel
theorem dm_10 : decode jdk_29_method_69_code 10 = .ok (.ireturn, 1) := by decide +kernel
theorem efm (m : MethodId) (p1 : Int32) (p2 : Int32) : entryFrame m #[(.int p1), (.int p2)] 2 = mkF m 0 #[.val (.int p1), .val (.int p2)] [] := by first | (simp [entryFrame, mkF, argsToLocals, Value.category]; done) | rfl
def Qm (Z : State) (p1 : Int32) (p2 : Int32) (h0 : Heap) (n0 : Nat) (v : Option Value) (h : Heap) (L : List Loc) : Prop := v = some (.int (own_minI p1 p2)) ∧ Fr n0 L ∧ h = h0
set_option maxRecDepth 65536 in
set_option maxHeartbeats 40000000 in
theorem rmm (l : Launch) (Z : State) (a0 : Array Value) (hw : ∀ d ∈ tables_1, d.before a0 Z = true) (ws : List Jvm.Cond) (p1 : Int32) (p2 : Int32) (h0 : Heap) (n0 : Nat) (Z0 : n0 ≤ h0.size)  :
    MetFree l (⟨"java/lang/Math", "min", "(II)I"⟩ : MethodName) (head1 (Jvm.Cond.code (⟨"java/lang/Math", "min", "(II)I"⟩ : MethodName) jdk_29_method_69_code 2 (some .int) :: ws) ({ frames := 0, cells := 0, slots := 0, locals := 0 } : Room)) (fun a U => a = #[(.int p1), (.int p2)] ∧ Z.Warmed39 U.vm ∧ U.heap = h0) (fun _ _ _ _ _ => True) (fun _ U o U' => ∃ v L, o = .returned v ∧ Qm Z p1 p2 h0 n0 v U'.heap L ∧ FrameEnd U o U' L ({ frames := 0, cells := 0, slots := 0, locals := 0 } : Room).cells ({ frames := 0, cells := 0, slots := 0, locals := 0 } : Room).slots) := by
  refine MetFree.of_bodySF (Jvm.Free.JP.mathPlain rfl (by decide +kernel)) hisR ?_
  intro p e s m args below meth c s₁ Bd hml0 hP hK
  obtain ⟨rfl, hZ, hh⟩ := hP
  have hx := Bd.exec
  have hby := Bd.bytes
  have hml : c.maxLocals = 2 := hml0
  have hown : s.vm.findClass "java/lang/Math" = some m.cls := findClass_of_methodNamed Bd.named
  have hnm := (name_of_methodNamed Bd.named Bd.method).1
  have hlk := Bd.notSynchronized
  have hret := Bd.returns
  have X0 : Stand p l e ({ frames := 0, cells := 0, slots := 0, locals := 0 } : Room) s m #[(.int p1), (.int p2)] below meth c s₁ [] 0 0 := Stand.of_body Bd
  have e0 : s₁.heap = h0 := by rw [← hh, Bd.state]; rfl
  have N0 := Fr.nil n0
  show own_Run p e below s 0 0 (Qm Z p1 p2 h0 n0) (s₁.setTop (entryFrame m #[(.int p1), (.int p2)] 2))
  refine own_cast (efm m p1 p2) ?_
  show own_Run p e below s _ _ _ (s₁.setTop (mkF m 0 #[.val (.int p1), .val (.int p2)] []))
  refine own_of (fun _ hh_ => XS.iloadN X0.here hx rfl (hb hby dm_0) rfl hh_) ?_
  show own_Run p e below s _ _ _ (s₁.setTop (mkF m 1 #[.val (.int p1), .val (.int p2)] [(.int p1)]))
  refine own_of (fun _ hh_ => XS.iloadN X0.here hx rfl (hb hby dm_1) rfl hh_) ?_
  show own_Run p e below s _ _ _ (s₁.setTop (mkF m 2 #[.val (.int p1), .val (.int p2)] [(.int p2), (.int p1)]))
  by_cases hc2_1 : p2 < p1
  · refine own_of (fun _ hh_ => XS.icmpYes X0.here hx rfl (pc0 := 2) (pc' := 9) rfl (hb hby dm_2) rfl (tlt hc2_1).2.2.1 (by decide) (by decide) hh_) ?_
    show own_Run p e below s _ _ _ (s₁.setTop (mkF m 9 #[.val (.int p1), .val (.int p2)] []))
    refine own_of (fun _ hh_ => XS.iloadN X0.here hx rfl (hb hby dm_9) rfl hh_) ?_
    show own_Run p e below s _ _ _ (s₁.setTop (mkF m 10 #[.val (.int p1), .val (.int p2)] [(.int p2)]))
    exact own_retI X0 hx hret hlk (hb hby dm_10) ⟨by unfold own_minI; rw [if_pos hc2_1], N0, e0⟩ (by decide) (by decide)
  · refine own_of (fun _ hh_ => XS.icmpNo X0.here hx rfl (hb hby dm_2) rfl (flt hc2_1).2.2.1 hh_) ?_
    show own_Run p e below s _ _ _ (s₁.setTop (mkF m 5 #[.val (.int p1), .val (.int p2)] []))
    refine own_of (fun _ hh_ => XS.iloadN X0.here hx rfl (hb hby dm_5) rfl hh_) ?_
    show own_Run p e below s _ _ _ (s₁.setTop (mkF m 6 #[.val (.int p1), .val (.int p2)] [(.int p1)]))
    refine own_of (fun _ hh_ => XS.goto X0.here hx rfl (pc0 := 6) (pc' := 10) rfl (hb hby dm_6) (by decide) (by decide) hh_) ?_
    show own_Run p e below s _ _ _ (s₁.setTop (mkF m 10 #[.val (.int p1), .val (.int p2)] [(.int p1)]))
    exact own_retI X0 hx hret hlk (hb hby dm_10) ⟨by unfold own_minI; rw [if_neg hc2_1], N0, e0⟩ (by decide) (by decide)
theorem dM_0 : decode jdk_29_method_65_code 0 = .ok (.iload_n 0, 1) := by decide +kernel
theorem dM_1 : decode jdk_29_method_65_code 1 = .ok (.iload_n 1, 1) := by decide +kernel
theorem dM_2 : decode jdk_29_method_65_code 2 = .ok (.if_icmp .lt 7, 3) := by decide +kernel
theorem dM_5 : decode jdk_29_method_65_code 5 = .ok (.iload_n 0, 1) := by decide +kernel
theorem dM_6 : decode jdk_29_method_65_code 6 = .ok (.goto 4, 3) := by decide +kernel
theorem dM_9 : decode jdk_29_method_65_code 9 = .ok (.iload_n 1, 1) := by decide +kernel
theorem dM_10 : decode jdk_29_method_65_code 10 = .ok (.ireturn, 1) := by decide +kernel
theorem efM (m : MethodId) (p1 : Int32) (p2 : Int32) : entryFrame m #[(.int p1), (.int p2)] 2 = mkF m 0 #[.val (.int p1), .val (.int p2)] [] := by first | (simp [entryFrame, mkF, argsToLocals, Value.category]; done) | rfl
def QM (Z : State) (p1 : Int32) (p2 : Int32) (h0 : Heap) (n0 : Nat) (v : Option Value) (h : Heap) (L : List Loc) : Prop := v = some (.int (own_maxI p1 p2)) ∧ Fr n0 L ∧ h = h0
set_option maxRecDepth 65536 in
set_option maxHeartbeats 40000000 in
theorem rmM (l : Launch) (Z : State) (a0 : Array Value) (hw : ∀ d ∈ tables_1, d.before a0 Z = true) (ws : List Jvm.Cond) (p1 : Int32) (p2 : Int32) (h0 : Heap) (n0 : Nat) (Z0 : n0 ≤ h0.size)  :
    MetFree l (⟨"java/lang/Math", "max", "(II)I"⟩ : MethodName) (head1 (Jvm.Cond.code (⟨"java/lang/Math", "max", "(II)I"⟩ : MethodName) jdk_29_method_65_code 2 (some .int) :: ws) ({ frames := 0, cells := 0, slots := 0, locals := 0 } : Room)) (fun a U => a = #[(.int p1), (.int p2)] ∧ Z.Warmed39 U.vm ∧ U.heap = h0) (fun _ _ _ _ _ => True) (fun _ U o U' => ∃ v L, o = .returned v ∧ QM Z p1 p2 h0 n0 v U'.heap L ∧ FrameEnd U o U' L ({ frames := 0, cells := 0, slots := 0, locals := 0 } : Room).cells ({ frames := 0, cells := 0, slots := 0, locals := 0 } : Room).slots) := by
  refine MetFree.of_bodySF (Jvm.Free.JP.mathPlain rfl (by decide +kernel)) hisR ?_
  intro p e s m args below meth c s₁ Bd hml0 hP hK
  obtain ⟨rfl, hZ, hh⟩ := hP
  have hx := Bd.exec
  have hby := Bd.bytes
  have hml : c.maxLocals = 2 := hml0
  have hown : s.vm.findClass "java/lang/Math" = some m.cls := findClass_of_methodNamed Bd.named
  have hnm := (name_of_methodNamed Bd.named Bd.method).1
  have hlk := Bd.notSynchronized
  have hret := Bd.returns
  have X0 : Stand p l e ({ frames := 0, cells := 0, slots := 0, locals := 0 } : Room) s m #[(.int p1), (.int p2)] below meth c s₁ [] 0 0 := Stand.of_body Bd
  have e0 : s₁.heap = h0 := by rw [← hh, Bd.state]; rfl
  have N0 := Fr.nil n0
  show own_Run p e below s 0 0 (QM Z p1 p2 h0 n0) (s₁.setTop (entryFrame m #[(.int p1), (.int p2)] 2))
  refine own_cast (efM m p1 p2) ?_
  show own_Run p e below s _ _ _ (s₁.setTop (mkF m 0 #[.val (.int p1), .val (.int p2)] []))
  refine own_of (fun _ hh_ => XS.iloadN X0.here hx rfl (hb hby dM_0) rfl hh_) ?_
  show own_Run p e below s _ _ _ (s₁.setTop (mkF m 1 #[.val (.int p1), .val (.int p2)] [(.int p1)]))
  refine own_of (fun _ hh_ => XS.iloadN X0.here hx rfl (hb hby dM_1) rfl hh_) ?_
  show own_Run p e below s _ _ _ (s₁.setTop (mkF m 2 #[.val (.int p1), .val (.int p2)] [(.int p2), (.int p1)]))
  by_cases hc2_1 : p1 < p2
  · refine own_of (fun _ hh_ => XS.icmpYes X0.here hx rfl (pc0 := 2) (pc' := 9) rfl (hb hby dM_2) rfl (tlt hc2_1).1 (by decide) (by decide) hh_) ?_
    show own_Run p e below s _ _ _ (s₁.setTop (mkF m 9 #[.val (.int p1), .val (.int p2)] []))
    refine own_of (fun _ hh_ => XS.iloadN X0.here hx rfl (hb hby dM_9) rfl hh_) ?_
    show own_Run p e below s _ _ _ (s₁.setTop (mkF m 10 #[.val (.int p1), .val (.int p2)] [(.int p2)]))
    exact own_retI X0 hx hret hlk (hb hby dM_10) ⟨by unfold own_maxI; rw [if_pos hc2_1], N0, e0⟩ (by decide) (by decide)
  · refine own_of (fun _ hh_ => XS.icmpNo X0.here hx rfl (hb hby dM_2) rfl (flt hc2_1).1 hh_) ?_
    show own_Run p e below s _ _ _ (s₁.setTop (mkF m 5 #[.val (.int p1), .val (.int p2)] []))
    refine own_of (fun _ hh_ => XS.iloadN X0.here hx rfl (hb hby dM_5) rfl hh_) ?_
    show own_Run p e below s _ _ _ (s₁.setTop (mkF m 6 #[.val (.int p1), .val (.int p2)] [(.int p1)]))
    refine own_of (fun _ hh_ => XS.goto X0.here hx rfl (pc0 := 6) (pc' := 10) rfl (hb hby dM_6) (by decide) (by decide) hh_) ?_
    show own_Run p e below s _ _ _ (s₁.setTop (mkF m 10 #[.val (.int p1), .val (.int p2)] [(.int p1)]))
    exact own_retI X0 hx hret hlk (hb hby dM_10) ⟨by unfold own_maxI; rw [if_neg hc2_1], N0, e0⟩ (by decide) (by decide)
theorem own_pn0 : plainName "com/example/pagewright/pagewright/RecordCodec" = true := by first | (simp [plainName, overriddenIn]; done) | decide +kernel
theorem dS_0 : decode prog_58_method_8_code 0 = .ok (.iconst 1, 1) := by decide +kernel
theorem dS_1 : decode prog_58_method_8_code 1 = .ok (.istore_n 1, 1) := by decide +kernel
theorem dS_2 : decode prog_58_method_8_code 2 = .ok (.iload_n 0, 1) := by decide +kernel
theorem dS_3 : decode prog_58_method_8_code 3 = .ok (.istore_n 2, 1) := by decide +kernel
theorem dS_4 : decode prog_58_method_8_code 4 = .ok (.iload_n 2, 1) := by decide +kernel
theorem dS_5 : decode prog_58_method_8_code 5 = .ok (.sipush 128, 3) := by decide +kernel
theorem dS_8 : decode prog_58_method_8_code 8 = .ok (.if_icmp .lt 14, 3) := by decide +kernel
theorem dS_11 : decode prog_58_method_8_code 11 = .ok (.iinc 1 1, 3) := by decide +kernel
theorem dS_14 : decode prog_58_method_8_code 14 = .ok (.iload_n 2, 1) := by decide +kernel
theorem dS_15 : decode prog_58_method_8_code 15 = .ok (.bipush 7, 2) := by decide +kernel
theorem dS_17 : decode prog_58_method_8_code 17 = .ok (.iushr, 1) := by decide +kernel
theorem dS_18 : decode prog_58_method_8_code 18 = .ok (.istore_n 2, 1) := by decide +kernel
theorem dS_19 : decode prog_58_method_8_code 19 = .ok (.goto (-15), 3) := by decide +kernel
theorem dS_22 : decode prog_58_method_8_code 22 = .ok (.iload_n 1, 1) := by decide +kernel
theorem dS_23 : decode prog_58_method_8_code 23 = .ok (.ireturn, 1) := by decide +kernel
theorem efS (m : MethodId) (p1 : Int32) : entryFrame m #[(.int p1)] 3 = mkF m 0 #[.val (.int p1), .unset, .unset] [] := by first | (simp [entryFrame, mkF, argsToLocals, Value.category]; done) | rfl
def QS (Z : State) (p1 : Int32) (h0 : Heap) (n0 : Nat) (v : Option Value) (h : Heap) (L : List Loc) : Prop := v = some (.int (own_ls p1)) ∧ Fr n0 L ∧ h = h0
set_option maxRecDepth 65536 in
set_option maxHeartbeats 40000000 in
theorem rmS (l : Launch) (Z : State) (a0 : Array Value) (hw : ∀ d ∈ tables_1, d.before a0 Z = true) (ws : List Jvm.Cond) (p1 : Int32) (h0 : Heap) (n0 : Nat) (Z0 : n0 ≤ h0.size) (h0p : 0 ≤ p1.toInt) (h1p : p1.toInt ≤ 16383) :
    MetFree l (⟨"com/example/pagewright/pagewright/RecordCodec", "_lengthSize", "(I)I"⟩ : MethodName) (head1 (Jvm.Cond.code (⟨"com/example/pagewright/pagewright/RecordCodec", "_lengthSize", "(I)I"⟩ : MethodName) prog_58_method_8_code 3 (some .int) :: ws) ({ frames := 0, cells := 0, slots := 0, locals := 0 } : Room)) (fun a U => a = #[(.int p1)] ∧ Z.Warmed39 U.vm ∧ U.heap = h0) (fun _ _ _ _ _ => True) (fun _ U o U' => ∃ v L, o = .returned v ∧ QS Z p1 h0 n0 v U'.heap L ∧ FrameEnd U o U' L ({ frames := 0, cells := 0, slots := 0, locals := 0 } : Room).cells ({ frames := 0, cells := 0, slots := 0, locals := 0 } : Room).slots) := by
  refine MetFree.of_bodySF (plainFor_of_name own_pn0) hisR ?_
  intro p e s m args below meth c s₁ Bd hml0 hP hK
  obtain ⟨rfl, hZ, hh⟩ := hP
  have hx := Bd.exec
  have hby := Bd.bytes
  have hml : c.maxLocals = 3 := hml0
  have hown : s.vm.findClass "com/example/pagewright/pagewright/RecordCodec" = some m.cls := findClass_of_methodNamed Bd.named
  have hnm := (name_of_methodNamed Bd.named Bd.method).1
  have hlk := Bd.notSynchronized
  have hret := Bd.returns
  have X0 : Stand p l e ({ frames := 0, cells := 0, slots := 0, locals := 0 } : Room) s m #[(.int p1)] below meth c s₁ [] 0 0 := Stand.of_body Bd
  have e0 : s₁.heap = h0 := by rw [← hh, Bd.state]; rfl
  have N0 := Fr.nil n0
  show own_Run p e below s 0 0 (QS Z p1 h0 n0) (s₁.setTop (entryFrame m #[(.int p1)] 3))
  refine own_cast (efS m p1) ?_
  show own_Run p e below s _ _ _ (s₁.setTop (mkF m 0 #[.val (.int p1), .unset, .unset] []))
  refine own_of (fun _ hh_ => XS.iconst X0.here hx rfl (hb hby dS_0) hh_) ?_
  show own_Run p e below s _ _ _ (s₁.setTop (mkF m 1 #[.val (.int p1), .unset, .unset] [(.int (1 : Int32))]))
  refine own_of (fun _ hh_ => XS.istoreN X0.here hx rfl (hb hby dS_1) rfl (l' := #[.val (.int p1), .val (.int (1 : Int32)), .unset]) rfl hh_) ?_
  show own_Run p e below s _ _ _ (s₁.setTop (mkF m 2 #[.val (.int p1), .val (.int (1 : Int32)), .unset] []))
  refine own_of (fun _ hh_ => XS.iloadN X0.here hx rfl (hb hby dS_2) rfl hh_) ?_
  show own_Run p e below s _ _ _ (s₁.setTop (mkF m 3 #[.val (.int p1), .val (.int (1 : Int32)), .unset] [(.int p1)]))
  refine own_of (fun _ hh_ => XS.istoreN X0.here hx rfl (hb hby dS_3) rfl (l' := #[.val (.int p1), .val (.int (1 : Int32)), .val (.int p1)]) rfl hh_) ?_
  show own_Run p e below s _ _ _ (s₁.setTop (mkF m 4 #[.val (.int p1), .val (.int (1 : Int32)), .val (.int p1)] []))
  refine own_of (fun _ hh_ => XS.iloadN X0.here hx rfl (hb hby dS_4) rfl hh_) ?_
  show own_Run p e below s _ _ _ (s₁.setTop (mkF m 5 #[.val (.int p1), .val (.int (1 : Int32)), .val (.int p1)] [(.int p1)]))
  refine own_of (fun _ hh_ => XS.sipush X0.here hx rfl (hb hby dS_5) hh_) ?_
  show own_Run p e below s _ _ _ (s₁.setTop (mkF m 8 #[.val (.int p1), .val (.int (1 : Int32)), .val (.int p1)] [(.int (128 : Int32)), (.int p1)]))
  by_cases hc8_1 : p1 < (128 : Int32)
  · refine own_of (fun _ hh_ => XS.icmpYes X0.here hx rfl (pc0 := 8) (pc' := 22) rfl (hb hby dS_8) rfl (tlt hc8_1).1 (by decide) (by decide) hh_) ?_
    show own_Run p e below s _ _ _ (s₁.setTop (mkF m 22 #[.val (.int p1), .val (.int (1 : Int32)), .val (.int p1)] []))
    refine own_of (fun _ hh_ => XS.iloadN X0.here hx rfl (hb hby dS_22) rfl hh_) ?_
    show own_Run p e below s _ _ _ (s₁.setTop (mkF m 23 #[.val (.int p1), .val (.int (1 : Int32)), .val (.int p1)] [(.int (1 : Int32))]))
    exact own_retI X0 hx hret hlk (hb hby dS_23) ⟨by unfold own_ls; rw [if_pos hc8_1], N0, e0⟩ (by decide) (by decide)
  · refine own_of (fun _ hh_ => XS.icmpNo X0.here hx rfl (hb hby dS_8) rfl (flt hc8_1).1 hh_) ?_
    show own_Run p e below s _ _ _ (s₁.setTop (mkF m 11 #[.val (.int p1), .val (.int (1 : Int32)), .val (.int p1)] []))
    refine own_of (fun _ hh_ => XS.iinc X0.here hx rfl (hb hby dS_11) rfl (l' := #[.val (.int p1), .val (.int (2 : Int32)), .val (.int p1)]) rfl hh_) ?_
    show own_Run p e below s _ _ _ (s₁.setTop (mkF m 14 #[.val (.int p1), .val (.int (2 : Int32)), .val (.int p1)] []))
    refine own_of (fun _ hh_ => XS.iloadN X0.here hx rfl (hb hby dS_14) rfl hh_) ?_
    show own_Run p e below s _ _ _ (s₁.setTop (mkF m 15 #[.val (.int p1), .val (.int (2 : Int32)), .val (.int p1)] [(.int p1)]))
    refine own_of (fun _ hh_ => XS.bipush X0.here hx rfl (hb hby dS_15) hh_) ?_
    show own_Run p e below s _ _ _ (s₁.setTop (mkF m 17 #[.val (.int p1), .val (.int (2 : Int32)), .val (.int p1)] [(.int (7 : Int32)), (.int p1)]))
    refine own_of (fun _ hh_ => XS.iushr X0.here hx rfl (hb hby dS_17) rfl hh_) ?_
    show own_Run p e below s _ _ _ (s₁.setTop (mkF m 18 #[.val (.int p1), .val (.int (2 : Int32)), .val (.int p1)] [(.int ((p1.toUInt32 >>> ((7 : Int32) &&& 31).toUInt32).toInt32))]))
    refine own_of (fun _ hh_ => XS.istoreN X0.here hx rfl (hb hby dS_18) rfl (l' := #[.val (.int p1), .val (.int (2 : Int32)), .val (.int ((p1.toUInt32 >>> ((7 : Int32) &&& 31).toUInt32).toInt32))]) rfl hh_) ?_
    show own_Run p e below s _ _ _ (s₁.setTop (mkF m 19 #[.val (.int p1), .val (.int (2 : Int32)), .val (.int ((p1.toUInt32 >>> ((7 : Int32) &&& 31).toUInt32).toInt32))] []))
    refine own_of (fun _ hh_ => XS.goto X0.here hx rfl (pc0 := 19) (pc' := 4) rfl (hb hby dS_19) (by decide) (by decide) hh_) ?_
    show own_Run p e below s _ _ _ (s₁.setTop (mkF m 4 #[.val (.int p1), .val (.int (2 : Int32)), .val (.int ((p1.toUInt32 >>> ((7 : Int32) &&& 31).toUInt32).toInt32))] []))
    refine own_of (fun _ hh_ => XS.iloadN X0.here hx rfl (hb hby dS_4) rfl hh_) ?_
    show own_Run p e below s _ _ _ (s₁.setTop (mkF m 5 #[.val (.int p1), .val (.int (2 : Int32)), .val (.int ((p1.toUInt32 >>> ((7 : Int32) &&& 31).toUInt32).toInt32))] [(.int ((p1.toUInt32 >>> ((7 : Int32) &&& 31).toUInt32).toInt32))]))
    refine own_of (fun _ hh_ => XS.sipush X0.here hx rfl (hb hby dS_5) hh_) ?_
    show own_Run p e below s _ _ _ (s₁.setTop (mkF m 8 #[.val (.int p1), .val (.int (2 : Int32)), .val (.int ((p1.toUInt32 >>> ((7 : Int32) &&& 31).toUInt32).toInt32))] [(.int (128 : Int32)), (.int ((p1.toUInt32 >>> ((7 : Int32) &&& 31).toUInt32).toInt32))]))
    have hc8_2 : ((p1.toUInt32 >>> ((7 : Int32) &&& 31).toUInt32).toInt32) < (128 : Int32) := by apply Int32.lt_iff_toInt_lt.mpr; rw [own_sh7 p1 h0p]; have l : (128 : Int32).toInt = 128 := rfl; omega
    refine own_of (fun _ hh_ => XS.icmpYes X0.here hx rfl (pc0 := 8) (pc' := 22) rfl (hb hby dS_8) rfl (tlt hc8_2).1 (by decide) (by decide) hh_) ?_
    show own_Run p e below s _ _ _ (s₁.setTop (mkF m 22 #[.val (.int p1), .val (.int (2 : Int32)), .val (.int ((p1.toUInt32 >>> ((7 : Int32) &&& 31).toUInt32).toInt32))] []))
    refine own_of (fun _ hh_ => XS.iloadN X0.here hx rfl (hb hby dS_22) rfl hh_) ?_
    show own_Run p e below s _ _ _ (s₁.setTop (mkF m 23 #[.val (.int p1), .val (.int (2 : Int32)), .val (.int ((p1.toUInt32 >>> ((7 : Int32) &&& 31).toUInt32).toInt32))] [(.int (2 : Int32))]))
    exact own_retI X0 hx hret hlk (hb hby dS_23) ⟨by unfold own_ls; rw [if_neg hc8_1], N0, e0⟩ (by decide) (by decide)
theorem own_pd0 : parseMethodDescriptor "(II)I" = some ⟨[.int, .int], some .int⟩ := by decide +kernel
theorem own_pn1 : plainName "java/util/Arrays" = true := by first | (simp [plainName, overriddenIn]; done) | decide +kernel
theorem dC_0 : decode jdk_65_method_121_code 0 = .ok (.iload_n 1, 1) := by decide +kernel
theorem dC_1 : decode jdk_65_method_121_code 1 = .ok (.aload_n 0, 1) := by decide +kernel
theorem dC_2 : decode jdk_65_method_121_code 2 = .ok (.arraylength, 1) := by decide +kernel
theorem dC_3 : decode jdk_65_method_121_code 3 = .ok (.if_icmp .ne 11, 3) := by decide +kernel
theorem dC_14 : decode jdk_65_method_121_code 14 = .ok (.iload_n 1, 1) := by decide +kernel
theorem dC_15 : decode jdk_65_method_121_code 15 = .ok (.newarray .byte, 2) := by decide +kernel
theorem dC_17 : decode jdk_65_method_121_code 17 = .ok (.astore_n 2, 1) := by decide +kernel
theorem dC_18 : decode jdk_65_method_121_code 18 = .ok (.aload_n 0, 1) := by decide +kernel
theorem dC_19 : decode jdk_65_method_121_code 19 = .ok (.iconst 0, 1) := by decide +kernel
theorem dC_20 : decode jdk_65_method_121_code 20 = .ok (.aload_n 2, 1) := by decide +kernel
theorem dC_21 : decode jdk_65_method_121_code 21 = .ok (.iconst 0, 1) := by decide +kernel
theorem dC_22 : decode jdk_65_method_121_code 22 = .ok (.aload_n 0, 1) := by decide +kernel
theorem dC_23 : decode jdk_65_method_121_code 23 = .ok (.arraylength, 1) := by decide +kernel
theorem dC_24 : decode jdk_65_method_121_code 24 = .ok (.iload_n 1, 1) := by decide +kernel
theorem dC_25 : decode jdk_65_method_121_code 25 = .ok (.invokestatic 304, 3) := by decide +kernel
theorem dC_28 : decode jdk_65_method_121_code 28 = .ok (.invokestatic 150, 3) := by decide +kernel
theorem dC_31 : decode jdk_65_method_121_code 31 = .ok (.aload_n 2, 1) := by decide +kernel
theorem dC_32 : decode jdk_65_method_121_code 32 = .ok (.areturn, 1) := by decide +kernel
theorem efC (m : MethodId) (r1 : Addr) (p1 : Int32) : entryFrame m #[(.ref r1), (.int p1)] 3 = mkF m 0 #[.val (.ref r1), .val (.int p1), .unset] [] := by first | (simp [entryFrame, mkF, argsToLocals, Value.category]; done) | rfl
def QC (Z : State) (r1 : Addr) (p1 : Int32) (n : Nat) (f : Nat → Int32) (h0 : Heap) (n0 : Nat) (v : Option Value) (h : Heap) (L : List Loc) : Prop := ∃ b : Addr, v = some (.ref b) ∧ Fr n0 L ∧ Keep h0 h [] ∧ ∃ f' : Nat → Int32, h0.size ≤ b ∧ own_Ar Z h b .byte p1.toNatClampNeg f' ∧ own_Fit f' p1.toNatClampNeg
set_option maxRecDepth 65536 in
set_option maxHeartbeats 40000000 in
theorem rmC (l : Launch) (Z : State) (a0 : Array Value) (hw : ∀ d ∈ tables_1, d.before a0 Z = true) (ws : List Jvm.Cond) (r1 : Addr) (p1 : Int32) (n : Nat) (f : Nat → Int32) (h0 : Heap) (n0 : Nat) (Z0 : n0 ≤ h0.size) (A : own_Ar Z h0 r1 .byte n f) (Ft : own_Fit f n) (hlt : (n : Int) < p1.toInt) (hle : p1.toInt ≤ 16385) (hn1 : n ≤ 16385) :
    MetFree l (⟨"java/util/Arrays", "copyOf", "([BI)[B"⟩ : MethodName) (head1 (Jvm.Cond.code (⟨"java/util/Arrays", "copyOf", "([BI)[B"⟩ : MethodName) jdk_65_method_121_code 3 (some (.array .byte)) :: ws) ({ frames := 1, cells := 1, slots := 16385, locals := 18 } : Room)) (fun a U => a = #[(.ref r1), (.int p1)] ∧ Z.Warmed39 U.vm ∧ U.heap = h0) (fun _ _ _ _ _ => True) (fun _ U o U' => ∃ v L, o = .returned v ∧ QC Z r1 p1 n f h0 n0 v U'.heap L ∧ FrameEnd U o U' L ({ frames := 1, cells := 1, slots := 16385, locals := 18 } : Room).cells ({ frames := 1, cells := 1, slots := 16385, locals := 18 } : Room).slots) := by
  refine MetFree.of_bodySF (plainFor_of_name own_pn1) hisR ?_
  intro p e s m args below meth c s₁ Bd hml0 hP hK
  obtain ⟨rfl, hZ, hh⟩ := hP
  have hx := Bd.exec
  have hby := Bd.bytes
  have hml : c.maxLocals = 3 := hml0
  have hown : s.vm.findClass "java/util/Arrays" = some m.cls := findClass_of_methodNamed Bd.named
  have hnm := (name_of_methodNamed Bd.named Bd.method).1
  have hlk := Bd.notSynchronized
  have hret := Bd.returns
  have X0 : Stand p l e ({ frames := 1, cells := 1, slots := 16385, locals := 18 } : Room) s m #[(.ref r1), (.int p1)] below meth c s₁ [] 0 0 := Stand.of_body Bd
  have e0 : s₁.heap = h0 := by rw [← hh, Bd.state]; rfl
  have N0 := Fr.nil n0
  have K0 : Keep h0 h0 [] := Keep.refl _ _
  show own_Run p e below s 1 16385 (QC Z r1 p1 n f h0 n0) (s₁.setTop (entryFrame m #[(.ref r1), (.int p1)] 3))
  refine own_cast (efC m r1 p1) ?_
  have hnl := own_nlen hn1
  have hcn : n.toInt32.toNatClampNeg = n := by have z := own_clamp (j := n.toInt32) (by omega); omega
  have hp0 := own_pos (j := p1) (by omega)
  have hpc : p1.toNatClampNeg ≤ 16385 := by have z := own_clamp (j := p1) (by omega); omega
  show own_Run p e below s _ _ _ (s₁.setTop (mkF m 0 #[.val (.ref r1), .val (.int p1), .unset] []))
  refine own_of (fun _ hh_ => XS.iloadN X0.here hx rfl (hb hby dC_0) rfl hh_) ?_
  show own_Run p e below s _ _ _ (s₁.setTop (mkF m 1 #[.val (.ref r1), .val (.int p1), .unset] [(.int p1)]))
  refine own_of (fun _ hh_ => XS.aloadN X0.here hx rfl (hb hby dC_1) rfl rfl hh_) ?_
  show own_Run p e below s _ _ _ (s₁.setTop (mkF m 2 #[.val (.ref r1), .val (.int p1), .unset] [(.ref r1), (.int p1)]))
  refine own_alen X0 hx hZ e0 A (w := n.toInt32) rfl (hb hby dC_2) ?_
  show own_Run p e below s _ _ _ (s₁.setTop (mkF m 3 #[.val (.ref r1), .val (.int p1), .unset] [(.int n.toInt32), (.int p1)]))
  have hc3_1 : ¬ (p1 = n.toInt32) := fun q => by have z := congrArg Int32.toInt q; rw [hnl] at z; omega
  refine own_of (fun _ hh_ => XS.icmpYes X0.here hx rfl (pc0 := 3) (pc' := 14) rfl (hb hby dC_3) rfl (feq hc3_1).2 (by decide) (by decide) hh_) ?_
  show own_Run p e below s _ _ _ (s₁.setTop (mkF m 14 #[.val (.ref r1), .val (.int p1), .unset] []))
  refine own_of (fun _ hh_ => XS.iloadN X0.here hx rfl (hb hby dC_14) rfl hh_) ?_
  show own_Run p e below s _ _ _ (s₁.setTop (mkF m 15 #[.val (.ref r1), .val (.int p1), .unset] [(.int p1)]))
  obtain ⟨T2, h2, k2, X2, e2, E2, A2, st2⟩ := newP X0 hx hZ (hw _ (List.mem_of_getElem? (i := 13) rfl)) e0 (g := (mkF m 15 #[.val (.ref r1), .val (.int p1), .unset] [(.int p1)])) rfl (hb hby dC_15) rfl hp0 (cap := 16385) hpc (by decide) (by decide) (by decide)
  obtain ⟨ob2, g2⟩ : ∃ z, z = h0.size := ⟨_, rfl⟩
  rw [← g2] at A2 st2
  have ne_r1_ob2 : r1 ≠ ob2 := Nat.ne_of_lt (Nat.lt_of_lt_of_le A.lt (Nat.le_of_eq g2.symm))
  have g_ob2 : n0 ≤ ob2 := Nat.le_trans Z0 (Nat.le_of_eq g2.symm)
  have sz_ob2 : h0.size ≤ ob2 := Nat.le_trans K0.1 (Nat.le_of_eq g2.symm)
  have f3 := A.ext E2
  have K4 := K0.ext E2
  have V2 : own_Ar Z h2 ob2 .byte p1.toNatClampNeg (fun _ => 0) := own_Ar.new A2 rfl rfl
  refine own_of st2 ?_
  show own_Run p e below s _ _ _ (T2.setTop (mkF m 17 #[.val (.ref r1), .val (.int p1), .unset] [(.ref ob2)]))
  refine own_of (fun _ hh_ => XS.astoreN X2.here hx rfl (hb hby dC_17) rfl rfl (l' := #[.val (.ref r1), .val (.int p1), .val (.ref ob2)]) rfl hh_) ?_
  show own_Run p e below s _ _ _ (T2.setTop (mkF m 18 #[.val (.ref r1), .val (.int p1), .val (.ref ob2)] []))
  refine own_of (fun _ hh_ => XS.aloadN X2.here hx rfl (hb hby dC_18) rfl rfl hh_) ?_
  show own_Run p e below s _ _ _ (T2.setTop (mkF m 19 #[.val (.ref r1), .val (.int p1), .val (.ref ob2)] [(.ref r1)]))
  refine own_of (fun _ hh_ => XS.iconst X2.here hx rfl (hb hby dC_19) hh_) ?_
  show own_Run p e below s _ _ _ (T2.setTop (mkF m 20 #[.val (.ref r1), .val (.int p1), .val (.ref ob2)] [(.int (0 : Int32)), (.ref r1)]))
  refine own_of (fun _ hh_ => XS.aloadN X2.here hx rfl (hb hby dC_20) rfl rfl hh_) ?_
  show own_Run p e below s _ _ _ (T2.setTop (mkF m 21 #[.val (.ref r1), .val (.int p1), .val (.ref ob2)] [(.ref ob2), (.int (0 : Int32)), (.ref r1)]))
  refine own_of (fun _ hh_ => XS.iconst X2.here hx rfl (hb hby dC_21) hh_) ?_
  show own_Run p e below s _ _ _ (T2.setTop (mkF m 22 #[.val (.ref r1), .val (.int p1), .val (.ref ob2)] [(.int (0 : Int32)), (.ref ob2), (.int (0 : Int32)), (.ref r1)]))
  refine own_of (fun _ hh_ => XS.aloadN X2.here hx rfl (hb hby dC_22) rfl rfl hh_) ?_
  show own_Run p e below s _ _ _ (T2.setTop (mkF m 23 #[.val (.ref r1), .val (.int p1), .val (.ref ob2)] [(.ref r1), (.int (0 : Int32)), (.ref ob2), (.int (0 : Int32)), (.ref r1)]))
  refine own_alen X2 hx hZ e2 f3 (w := n.toInt32) rfl (hb hby dC_23) ?_
  show own_Run p e below s _ _ _ (T2.setTop (mkF m 24 #[.val (.ref r1), .val (.int p1), .val (.ref ob2)] [(.int n.toInt32), (.int (0 : Int32)), (.ref ob2), (.int (0 : Int32)), (.ref r1)]))
  refine own_of (fun _ hh_ => XS.iloadN X2.here hx rfl (hb hby dC_24) rfl hh_) ?_
  show own_Run p e below s _ _ _ (T2.setTop (mkF m 25 #[.val (.ref r1), .val (.int p1), .val (.ref ob2)] [(.int p1), (.int n.toInt32), (.int (0 : Int32)), (.ref ob2), (.int (0 : Int32)), (.ref r1)]))
  obtain ⟨_, _, ⟨T5, L5, k5, n5⟩, -, X5, ⟨Lc5, hQ5, l5, y5, z5⟩, st5⟩ := Jvm.LawKit.callS X2 hx (y := (⟨"java/lang/Math", "min", "(II)I"⟩ : MethodName)) hown (mvT hZ (hw _ (List.mem_of_getElem? (i := 50) rfl))) (mvT hZ (hw _ (List.mem_of_getElem? (i := 43) rfl))) (mvT hZ (hw _ (List.mem_of_getElem? (i := 11) rfl))) (mvT hZ (hw _ (List.mem_of_getElem? (i := 44) rfl))) (by decide) (backOf (W := 4) (rmm l Z a0 hw [] n.toInt32 p1 h2 n0 (Nat.le_trans Z0 E2.1)) hZ (hw _ (List.mem_of_getElem? (i := 44) rfl)) (hw _ (List.mem_of_getElem? (i := 11) rfl)) (by decide) (by decide)) (g := (mkF m 25 #[.val (.ref r1), .val (.int p1), .val (.ref ob2)] [(.int p1), (.int n.toInt32), (.int (0 : Int32)), (.ref ob2), (.int (0 : Int32)), (.ref r1)])) rfl (by rw [hml]; rfl) (argsL := [(.int n.toInt32), (.int p1)]) (rest := [(.int (0 : Int32)), (.ref ob2), (.int (0 : Int32)), (.ref r1)]) (lenOf own_pd0 rfl) rfl (by show 2 * 0 + _ ≤ _; exact Nat.le_of_eq rfl) (hb hby dC_25) (fun _ _ => ⟨rfl, e2, (by decide : 1 + 0 ≤ _), (by decide : 16385 + 0 ≤ _)⟩)
  dsimp only [Pt.U, Pt.locs, Pt.cells, Pt.slots] at X5 l5 y5 z5 st5 hQ5
  subst l5 y5 z5
  obtain ⟨rfl, N5q, e5⟩ := hQ5
  have N5 := Fr.app N0 N5q
  refine own_of st5 ?_
  show own_Run p e below s _ _ _ (T5.setTop (mkF m 28 #[.val (.ref r1), .val (.int p1), .val (.ref ob2)] [(.int (own_minI n.toInt32 p1)), (.int (0 : Int32)), (.ref ob2), (.int (0 : Int32)), (.ref r1)]))
  obtain ⟨ka, Wa⟩ := own_toArv f3 Ft (z := n.toInt32) hcn (own_pos (by rw [hnl]; omega))
  obtain ⟨kb, Wb⟩ := own_toArv V2 (own_Fit0 _) (z := p1) rfl hp0
  have hmi := own_minI_i n.toInt32 p1
  have hm1 : (own_minI n.toInt32 p1).toInt = (n : Int) := by rw [hmi, hnl]; split <;> omega
  have hm2 := own_clamp (j := own_minI n.toInt32 p1) (by omega)
  have hm3 := own_clamp (j := p1) (by omega)
  obtain ⟨T6, h6, L6, X6, e6, N6, K6, Wc, st6⟩ := cpA X5 hx hZ hown (hw _ (List.mem_of_getElem? (i := 51) rfl)) (hw _ (List.mem_of_getElem? (i := 54) rfl)) (hw _ (List.mem_of_getElem? (i := 52) rfl)) (hw _ (List.mem_of_getElem? (i := 53) rfl)) e5 Wa Wb (Or.inl ⟨rfl, rfl⟩) (by decide) (by decide) (own_pos (by omega)) (by rw [hcn]; show 0 + _ ≤ _; omega) (by show 0 + _ ≤ _; omega) rfl (by rw [List.length_map, List.length_range]; show 0 + _ ≤ _; omega) N5 g_ob2 (g := (mkF m 28 #[.val (.ref r1), .val (.int p1), .val (.ref ob2)] [(.int (own_minI n.toInt32 p1)), (.int (0 : Int32)), (.ref ob2), (.int (0 : Int32)), (.ref r1)])) rfl (by rw [hml]; rfl) rfl (hb hby dC_28) (by decide) (W := 0) (by show 2 * 0 + _ ≤ _; exact Nat.le_of_eq rfl) (by decide)
  obtain ⟨fc, Vc, Ftc⟩ := own_ofArv Wc (n := p1.toNatClampNeg) rfl
  have K7 := K4.trans K6 (allS (Or.inr sz_ob2) all0)
  refine own_of st6 ?_
  show own_Run p e below s _ _ _ (T6.setTop (mkF m 31 #[.val (.ref r1), .val (.int p1), .val (.ref ob2)] []))
  refine own_of (fun _ hh_ => XS.aloadN X6.here hx rfl (hb hby dC_31) rfl rfl hh_) ?_
  show own_Run p e below s _ _ _ (T6.setTop (mkF m 32 #[.val (.ref r1), .val (.int p1), .val (.ref ob2)] [(.ref ob2)]))
  exact own_ret X6 hx hret hlk rfl (Or.inr (Or.inr (Or.inr (Or.inr ⟨rfl, rfl, rfl⟩)))) (hb hby dC_32) (by rw [e6]; exact ⟨_, rfl, N6, K7, fc, sz_ob2, Vc, Ftc⟩) (by decide) (by decide)
theorem own_pn2 : plainName "com/example/pagewright/pagewright/RecordCodec$Writer" = true := by first | (simp [plainName, overriddenIn]; done) | decide +kernel
theorem dI_0 : decode prog_60_method_1_code 0 = .ok (.aload_n 0, 1) := by decide +kernel
theorem dI_1 : decode prog_60_method_1_code 1 = .ok (.invokespecial 1, 3) := by decide +kernel
theorem dI_4 : decode prog_60_method_1_code 4 = .ok (.aload_n 0, 1) := by decide +kernel
theorem dI_5 : decode prog_60_method_1_code 5 = .ok (.iload_n 1, 1) := by decide +kernel
theorem dI_6 : decode prog_60_method_1_code 6 = .ok (.bipush 16, 2) := by decide +kernel
theorem dI_8 : decode prog_60_method_1_code 8 = .ok (.invokestatic 7, 3) := by decide +kernel
theorem dI_11 : decode prog_60_method_1_code 11 = .ok (.newarray .byte, 2) := by decide +kernel
theorem dI_13 : decode prog_60_method_1_code 13 = .ok (.putfield 13, 3) := by decide +kernel
theorem dI_16 : decode prog_60_method_1_code 16 = .ok (.return_, 1) := by decide +kernel
theorem efI (m : MethodId) (t1 : Addr) (p1 : Int32) : entryFrame m #[(.ref t1), (.int p1)] 2 = mkF m 0 #[.val (.ref t1), .val (.int p1)] [] := by first | (simp [entryFrame, mkF, argsToLocals, Value.category]; done) | rfl
def QI (Z : State) (t1 : Addr) (p1 : Int32) (h0 : Heap) (n0 : Nat) (v : Option Value) (h : Heap) (L : List Loc) : Prop := v = none ∧ Fr n0 L ∧ Keep h0 h [t1] ∧ ∃ (r : Addr) (n : Nat), h0.size ≤ r ∧ 16 ≤ n ∧ n ≤ 255 ∧ Fld Z h t1 "com/example/pagewright/pagewright/RecordCodec$Writer" "m_aBytes" "[B" (.ref r) ∧ Fld Z h t1 "com/example/pagewright/pagewright/RecordCodec$Writer" "m_nSize" "I" (.int (0 : Int32)) ∧ own_Ar Z h r .byte n (fun _ => 0)
set_option maxRecDepth 65536 in
set_option maxHeartbeats 40000000 in
theorem rmI (l : Launch) (Z : State) (a0 : Array Value) (hw : ∀ d ∈ tables_1, d.before a0 Z = true) (ws : List Jvm.Cond) (t1 : Addr) (p1 : Int32) (h0 : Heap) (n0 : Nat) (Z0 : n0 ≤ h0.size) (Ex : Exa Z h0 t1 "com/example/pagewright/pagewright/RecordCodec$Writer") (Fb : Fld Z h0 t1 "com/example/pagewright/pagewright/RecordCodec$Writer" "m_aBytes" "[B" .null) (Fs : Fld Z h0 t1 "com/example/pagewright/pagewright/RecordCodec$Writer" "m_nSize" "I" (.int (0 : Int32))) (g_t1 : n0 ≤ t1) (h0p : 0 ≤ p1.toInt) (h1p : p1.toInt ≤ 255) :
    MetFree l (⟨"com/example/pagewright/pagewright/RecordCodec$Writer", "<init>", "(I)V"⟩ : MethodName) (head1 (Jvm.Cond.code (⟨"com/example/pagewright/pagewright/RecordCodec$Writer", "<init>", "(I)V"⟩ : MethodName) prog_60_method_1_code 2 none :: ws) ({ frames := 1, cells := 1, slots := 255, locals := 14 } : Room)) (fun a U => a = #[(.ref t1), (.int p1)] ∧ Z.Warmed39 U.vm ∧ U.heap = h0) (fun _ _ _ _ _ => True) (fun _ U o U' => ∃ v L, o = .returned v ∧ QI Z t1 p1 h0 n0 v U'.heap L ∧ FrameEnd U o U' L ({ frames := 1, cells := 1, slots := 255, locals := 14 } : Room).cells ({ frames := 1, cells := 1, slots := 255, locals := 14 } : Room).slots) := by
  refine MetFree.of_bodySF (plainFor_of_name own_pn2) hisR ?_
  intro p e s m args below meth c s₁ Bd hml0 hP hK
  obtain ⟨rfl, hZ, hh⟩ := hP
  have hx := Bd.exec
  have hby := Bd.bytes
  have hml : c.maxLocals = 2 := hml0
  have hown : s.vm.findClass "com/example/pagewright/pagewright/RecordCodec$Writer" = some m.cls := findClass_of_methodNamed Bd.named
  have hnm := (name_of_methodNamed Bd.named Bd.method).1
  have hlk := Bd.notSynchronized
  have hret := Bd.returns
  have X0 : Stand p l e ({ frames := 1, cells := 1, slots := 255, locals := 14 } : Room) s m #[(.ref t1), (.int p1)] below meth c s₁ [] 0 0 := Stand.of_body Bd
  have e0 : s₁.heap = h0 := by rw [← hh, Bd.state]; rfl
  have N0 := Fr.nil n0
  have K0 : Keep h0 h0 [t1] := Keep.refl _ _
  show own_Run p e below s 1 255 (QI Z t1 p1 h0 n0) (s₁.setTop (entryFrame m #[(.ref t1), (.int p1)] 2))
  refine own_cast (efI m t1 p1) ?_
  have hmx : 16 ≤ (own_maxI p1 (16 : Int32)).toInt ∧ (own_maxI p1 (16 : Int32)).toInt ≤ 255 := by have z := own_maxI_i p1 (16 : Int32); have l : (16 : Int32).toInt = 16 := rfl; rw [l] at z; split at z <;> omega
  have hmc := own_clamp (j := own_maxI p1 (16 : Int32)) (by omega)
  show own_Run p e below s _ _ _ (s₁.setTop (mkF m 0 #[.val (.ref t1), .val (.int p1)] []))
  refine own_of (fun _ hh_ => XS.aloadN X0.here hx rfl (hb hby dI_0) rfl rfl hh_) ?_
  show own_Run p e below s _ _ _ (s₁.setTop (mkF m 1 #[.val (.ref t1), .val (.int p1)] [(.ref t1)]))
  obtain ⟨T1, X1, e1, st1⟩ := initO X0 hx hZ hown (hw _ (List.mem_of_getElem? (i := 6) rfl)) (hw _ (List.mem_of_getElem? (i := 7) rfl)) (hw _ (List.mem_of_getElem? (i := 8) rfl)) e0 (g := (mkF m 1 #[.val (.ref t1), .val (.int p1)] [(.ref t1)])) rfl (by rw [hml]; rfl) rfl (hb hby dI_1) (by decide) (W := 0) (by show 2 * 0 + _ ≤ _; exact Nat.le_of_eq rfl) (by decide)
  refine own_of st1 ?_
  show own_Run p e below s _ _ _ (T1.setTop (mkF m 4 #[.val (.ref t1), .val (.int p1)] []))
  refine own_of (fun _ hh_ => XS.aloadN X1.here hx rfl (hb hby dI_4) rfl rfl hh_) ?_
  show own_Run p e below s _ _ _ (T1.setTop (mkF m 5 #[.val (.ref t1), .val (.int p1)] [(.ref t1)]))
  refine own_of (fun _ hh_ => XS.iloadN X1.here hx rfl (hb hby dI_5) rfl hh_) ?_
  show own_Run p e below s _ _ _ (T1.setTop (mkF m 6 #[.val (.ref t1), .val (.int p1)] [(.int p1), (.ref t1)]))
  refine own_of (fun _ hh_ => XS.bipush X1.here hx rfl (hb hby dI_6) hh_) ?_
  show own_Run p e below s _ _ _ (T1.setTop (mkF m 8 #[.val (.ref t1), .val (.int p1)] [(.int (16 : Int32)), (.int p1), (.ref t1)]))
  obtain ⟨_, _, ⟨T2, L2, k2, n2⟩, -, X2, ⟨Lc2, hQ2, l2, y2, z2⟩, st2⟩ := Jvm.LawKit.callS X1 hx (y := (⟨"java/lang/Math", "max", "(II)I"⟩ : MethodName)) hown (mvT hZ (hw _ (List.mem_of_getElem? (i := 9) rfl))) (mvT hZ (hw _ (List.mem_of_getElem? (i := 10) rfl))) (mvT hZ (hw _ (List.mem_of_getElem? (i := 11) rfl))) (mvT hZ (hw _ (List.mem_of_getElem? (i := 12) rfl))) (by decide) (backOf (W := 1) (rmM l Z a0 hw [] p1 (16 : Int32) h0 n0 Z0) hZ (hw _ (List.mem_of_getElem? (i := 12) rfl)) (hw _ (List.mem_of_getElem? (i := 11) rfl)) (by decide) (by decide)) (g := (mkF m 8 #[.val (.ref t1), .val (.int p1)] [(.int (16 : Int32)), (.int p1), (.ref t1)])) rfl (by rw [hml]; rfl) (argsL := [(.int p1), (.int (16 : Int32))]) (rest := [(.ref t1)]) (lenOf own_pd0 rfl) rfl (by show 2 * 0 + _ ≤ _; exact Nat.le_of_eq rfl) (hb hby dI_8) (fun _ _ => ⟨rfl, e1, (by decide : 0 + 0 ≤ _), (by decide : 0 + 0 ≤ _)⟩)
  dsimp only [Pt.U, Pt.locs, Pt.cells, Pt.slots] at X2 l2 y2 z2 st2 hQ2
  subst l2 y2 z2
  obtain ⟨rfl, N2q, e2⟩ := hQ2
  have N2 := Fr.app N0 N2q
  refine own_of st2 ?_
  show own_Run p e below s _ _ _ (T2.setTop (mkF m 11 #[.val (.ref t1), .val (.int p1)] [(.int (own_maxI p1 (16 : Int32))), (.ref t1)]))
  obtain ⟨T3, h3, k3, X3, e3, E3, A3, st3⟩ := newP X2 hx hZ (hw _ (List.mem_of_getElem? (i := 13) rfl)) e2 (g := (mkF m 11 #[.val (.ref t1), .val (.int p1)] [(.int (own_maxI p1 (16 : Int32))), (.ref t1)])) rfl (hb hby dI_11) rfl (own_pos (by omega)) (cap := 255) (by omega) (by decide) (by decide) (by decide)
  obtain ⟨ob3, g3⟩ : ∃ z, z = h0.size := ⟨_, rfl⟩
  rw [← g3] at A3 st3
  have ne_t1_ob3 : t1 ≠ ob3 := Nat.ne_of_lt (Nat.lt_of_lt_of_le Ex.lt (Nat.le_of_eq g3.symm))
  have g_ob3 : n0 ≤ ob3 := Nat.le_trans Z0 (Nat.le_of_eq g3.symm)
  have sz_ob3 : h0.size ≤ ob3 := Nat.le_trans K0.1 (Nat.le_of_eq g3.symm)
  have f4 := Ex.ext E3
  have f5 := Fb.ext E3
  have f6 := Fs.ext E3
  have K7 := K0.ext E3
  have V3 : own_Ar Z h3 ob3 .byte (own_maxI p1 (16 : Int32)).toNatClampNeg (fun _ => 0) := own_Ar.new A3 rfl rfl
  refine own_of st3 ?_
  show own_Run p e below s _ _ _ (T3.setTop (mkF m 13 #[.val (.ref t1), .val (.int p1)] [(.ref ob3), (.ref t1)]))
  obtain ⟨T8, h8, X8, e8, W8, st8⟩ := putF X3 hx hZ hown (host := "") (Or.inl (hw _ (List.mem_of_getElem? (i := 14) rfl))) Via.refl e3 f5 f4 (Or.inl (hw _ (List.mem_of_getElem? (i := 15) rfl))) (hw _ (List.mem_of_getElem? (i := 1) rfl)) (ty := (.array .byte)) (by decide) rfl rfl (g := (mkF m 13 #[.val (.ref t1), .val (.int p1)] [(.ref ob3), (.ref t1)])) rfl rfl (hb hby dI_13)
  have f8 := f5.same W8
  have N8 := Fr.snoc X8 N2 g_t1
  have f9 := f4.wr W8
  have f10 := f6.other W8 (Or.inr (slot_ne (Or.inl (hw _ (List.mem_of_getElem? (i := 22) rfl))) (Or.inl (hw _ (List.mem_of_getElem? (i := 15) rfl))) (by decide) (t := .int) (t' := (.array .byte)) (by decide) (by decide)))
  have f11 := V3.other W8 (Ne.symm ne_t1_ob3)
  have K12 := K7.wr W8 (Or.inl (List.mem_of_getElem? (i := 0) rfl))
  refine own_of st8 ?_
  show own_Run p e below s _ _ _ (T8.setTop (mkF m 16 #[.val (.ref t1), .val (.int p1)] []))
  exact own_retV X8 hx hret hlk (hb hby dI_16) (by rw [e8]; exact ⟨rfl, N8, K12, ob3, _, sz_ob3, by omega, by omega, f8, f10, f11⟩) (by decide) (by decide)
theorem dB_0 : decode prog_60_method_5_code 0 = .ok (.aload_n 0, 1) := by decide +kernel
theorem dB_1 : decode prog_60_method_5_code 1 = .ok (.getfield 13, 3) := by decide +kernel
theorem dB_4 : decode prog_60_method_5_code 4 = .ok (.areturn, 1) := by decide +kernel
theorem efB (m : MethodId) (t1 : Addr) : entryFrame m #[(.ref t1)] 1 = mkF m 0 #[.val (.ref t1)] [] := by first | (simp [entryFrame, mkF, argsToLocals, Value.category]; done) | rfl
def QB (Z : State) (t1 : Addr) (w : Addr) (h0 : Heap) (n0 : Nat) (v : Option Value) (h : Heap) (L : List Loc) : Prop := v = some (.ref w) ∧ Fr n0 L ∧ h = h0
set_option maxRecDepth 65536 in
set_option maxHeartbeats 40000000 in
theorem rmB (l : Launch) (Z : State) (a0 : Array Value) (hw : ∀ d ∈ tables_1, d.before a0 Z = true) (ws : List Jvm.Cond) (t1 : Addr) (w : Addr) (h0 : Heap) (n0 : Nat) (Z0 : n0 ≤ h0.size) (F : Fld Z h0 t1 "com/example/pagewright/pagewright/RecordCodec$Writer" "m_aBytes" "[B" (.ref w)) :
    MetFree l (⟨"com/example/pagewright/pagewright/RecordCodec$Writer", "bytes", "()[B"⟩ : MethodName) (head1 (Jvm.Cond.code (⟨"com/example/pagewright/pagewright/RecordCodec$Writer", "bytes", "()[B"⟩ : MethodName) prog_60_method_5_code 1 (some (.array .byte)) :: ws) ({ frames := 0, cells := 0, slots := 0, locals := 0 } : Room)) (fun a U => a = #[(.ref t1)] ∧ Z.Warmed39 U.vm ∧ U.heap = h0) (fun _ _ _ _ _ => True) (fun _ U o U' => ∃ v L, o = .returned v ∧ QB Z t1 w h0 n0 v U'.heap L ∧ FrameEnd U o U' L ({ frames := 0, cells := 0, slots := 0, locals := 0 } : Room).cells ({ frames := 0, cells := 0, slots := 0, locals := 0 } : Room).slots) := by
  refine MetFree.of_bodySF (plainFor_of_name own_pn2) hisR ?_
  intro p e s m args below meth c s₁ Bd hml0 hP hK
  obtain ⟨rfl, hZ, hh⟩ := hP
  have hx := Bd.exec
  have hby := Bd.bytes
  have hml : c.maxLocals = 1 := hml0
  have hown : s.vm.findClass "com/example/pagewright/pagewright/RecordCodec$Writer" = some m.cls := findClass_of_methodNamed Bd.named
  have hnm := (name_of_methodNamed Bd.named Bd.method).1
  have hlk := Bd.notSynchronized
  have hret := Bd.returns
  have X0 : Stand p l e ({ frames := 0, cells := 0, slots := 0, locals := 0 } : Room) s m #[(.ref t1)] below meth c s₁ [] 0 0 := Stand.of_body Bd
  have e0 : s₁.heap = h0 := by rw [← hh, Bd.state]; rfl
  have N0 := Fr.nil n0
  show own_Run p e below s 0 0 (QB Z t1 w h0 n0) (s₁.setTop (entryFrame m #[(.ref t1)] 1))
  refine own_cast (efB m t1) ?_
  show own_Run p e below s _ _ _ (s₁.setTop (mkF m 0 #[.val (.ref t1)] []))
  refine own_of (fun _ hh_ => XS.aloadN X0.here hx rfl (hb hby dB_0) rfl rfl hh_) ?_
  show own_Run p e below s _ _ _ (s₁.setTop (mkF m 1 #[.val (.ref t1)] [(.ref t1)]))
  obtain ⟨T1, X1, e1, st1⟩ := getF X0 hx hZ hown (host := "") (Or.inl (hw _ (List.mem_of_getElem? (i := 14) rfl))) Via.refl e0 F (g := (mkF m 1 #[.val (.ref t1)] [(.ref t1)])) rfl rfl (hb hby dB_1)
  refine own_of st1 ?_
  show own_Run p e below s _ _ _ (T1.setTop (mkF m 4 #[.val (.ref t1)] [(.ref w)]))
  exact own_ret X1 hx hret hlk rfl (Or.inr (Or.inr (Or.inr (Or.inr ⟨rfl, rfl, rfl⟩)))) (hb hby dB_4) ⟨rfl, N0, e1⟩ (by decide) (by decide)
theorem dZ_0 : decode prog_60_method_6_code 0 = .ok (.aload_n 0, 1) := by decide +kernel
theorem dZ_1 : decode prog_60_method_6_code 1 = .ok (.getfield 19, 3) := by decide +kernel
theorem dZ_4 : decode prog_60_method_6_code 4 = .ok (.ireturn, 1) := by decide +kernel
theorem efZ (m : MethodId) (t1 : Addr) : entryFrame m #[(.ref t1)] 1 = mkF m 0 #[.val (.ref t1)] [] := by first | (simp [entryFrame, mkF, argsToLocals, Value.category]; done) | rfl
def QZ (Z : State) (t1 : Addr) (w : Int32) (h0 : Heap) (n0 : Nat) (v : Option Value) (h : Heap) (L : List Loc) : Prop := v = some (.int w) ∧ Fr n0 L ∧ h = h0
set_option maxRecDepth 65536 in
set_option maxHeartbeats 40000000 in
theorem rmZ (l : Launch) (Z : State) (a0 : Array Value) (hw : ∀ d ∈ tables_1, d.before a0 Z = true) (ws : List Jvm.Cond) (t1 : Addr) (w : Int32) (h0 : Heap) (n0 : Nat) (Z0 : n0 ≤ h0.size) (F : Fld Z h0 t1 "com/example/pagewright/pagewright/RecordCodec$Writer" "m_nSize" "I" (.int w)) :
    MetFree l (⟨"com/example/pagewright/pagewright/RecordCodec$Writer", "size", "()I"⟩ : MethodName) (head1 (Jvm.Cond.code (⟨"com/example/pagewright/pagewright/RecordCodec$Writer", "size", "()I"⟩ : MethodName) prog_60_method_6_code 1 (some .int) :: ws) ({ frames := 0, cells := 0, slots := 0, locals := 0 } : Room)) (fun a U => a = #[(.ref t1)] ∧ Z.Warmed39 U.vm ∧ U.heap = h0) (fun _ _ _ _ _ => True) (fun _ U o U' => ∃ v L, o = .returned v ∧ QZ Z t1 w h0 n0 v U'.heap L ∧ FrameEnd U o U' L ({ frames := 0, cells := 0, slots := 0, locals := 0 } : Room).cells ({ frames := 0, cells := 0, slots := 0, locals := 0 } : Room).slots) := by
  refine MetFree.of_bodySF (plainFor_of_name own_pn2) hisR ?_
  intro p e s m args below meth c s₁ Bd hml0 hP hK
  obtain ⟨rfl, hZ, hh⟩ := hP
  have hx := Bd.exec
  have hby := Bd.bytes
  have hml : c.maxLocals = 1 := hml0
  have hown : s.vm.findClass "com/example/pagewright/pagewright/RecordCodec$Writer" = some m.cls := findClass_of_methodNamed Bd.named
  have hnm := (name_of_methodNamed Bd.named Bd.method).1
  have hlk := Bd.notSynchronized
  have hret := Bd.returns
  have X0 : Stand p l e ({ frames := 0, cells := 0, slots := 0, locals := 0 } : Room) s m #[(.ref t1)] below meth c s₁ [] 0 0 := Stand.of_body Bd
  have e0 : s₁.heap = h0 := by rw [← hh, Bd.state]; rfl
  have N0 := Fr.nil n0
  show own_Run p e below s 0 0 (QZ Z t1 w h0 n0) (s₁.setTop (entryFrame m #[(.ref t1)] 1))
  refine own_cast (efZ m t1) ?_
  show own_Run p e below s _ _ _ (s₁.setTop (mkF m 0 #[.val (.ref t1)] []))
  refine own_of (fun _ hh_ => XS.aloadN X0.here hx rfl (hb hby dZ_0) rfl rfl hh_) ?_
  show own_Run p e below s _ _ _ (s₁.setTop (mkF m 1 #[.val (.ref t1)] [(.ref t1)]))
  obtain ⟨T1, X1, e1, st1⟩ := getF X0 hx hZ hown (host := "") (Or.inl (hw _ (List.mem_of_getElem? (i := 21) rfl))) Via.refl e0 F (g := (mkF m 1 #[.val (.ref t1)] [(.ref t1)])) rfl rfl (hb hby dZ_1)
  refine own_of st1 ?_
  show own_Run p e below s _ _ _ (T1.setTop (mkF m 4 #[.val (.ref t1)] [(.int w)]))
  exact own_retI X1 hx hret hlk (hb hby dZ_4) ⟨rfl, N0, e1⟩ (by decide) (by decide)
theorem dK_0 : decode prog_60_method_2_code 0 = .ok (.aload_n 0, 1) := by decide +kernel
theorem dK_1 : decode prog_60_method_2_code 1 = .ok (.getfield 13, 3) := by decide +kernel
theorem dK_4 : decode prog_60_method_2_code 4 = .ok (.arraylength, 1) := by decide +kernel
theorem dK_5 : decode prog_60_method_2_code 5 = .ok (.iload_n 1, 1) := by decide +kernel
theorem dK_6 : decode prog_60_method_2_code 6 = .ok (.if_icmp .le 10, 3) := by decide +kernel
theorem dK_9 : decode prog_60_method_2_code 9 = .ok (.aload_n 0, 1) := by decide +kernel
theorem dK_10 : decode prog_60_method_2_code 10 = .ok (.iload_n 1, 1) := by decide +kernel
theorem dK_11 : decode prog_60_method_2_code 11 = .ok (.newarray .byte, 2) := by decide +kernel
theorem dK_13 : decode prog_60_method_2_code 13 = .ok (.putfield 13, 3) := by decide +kernel
theorem dK_16 : decode prog_60_method_2_code 16 = .ok (.aload_n 0, 1) := by decide +kernel
theorem dK_17 : decode prog_60_method_2_code 17 = .ok (.iconst 0, 1) := by decide +kernel
theorem dK_18 : decode prog_60_method_2_code 18 = .ok (.putfield 19, 3) := by decide +kernel
theorem dK_21 : decode prog_60_method_2_code 21 = .ok (.return_, 1) := by decide +kernel
theorem efK (m : MethodId) (t1 : Addr) (p1 : Int32) : entryFrame m #[(.ref t1), (.int p1)] 2 = mkF m 0 #[.val (.ref t1), .val (.int p1)] [] := by first | (simp [entryFrame, mkF, argsToLocals, Value.category]; done) | rfl
def QK (Z : State) (t1 : Addr) (p1 : Int32) (r : Addr) (sz : Int32) (n : Nat) (f : Nat → Int32) (h0 : Heap) (n0 : Nat) (v : Option Value) (h : Heap) (L : List Loc) : Prop := v = none ∧ Fr n0 L ∧ Keep h0 h [t1] ∧ ∃ (r' : Addr) (n' : Nat) (f' : Nat → Int32), Fld Z h t1 "com/example/pagewright/pagewright/RecordCodec$Writer" "m_aBytes" "[B" (.ref r') ∧ Fld Z h t1 "com/example/pagewright/pagewright/RecordCodec$Writer" "m_nSize" "I" (.int (0 : Int32)) ∧ own_Ar Z h r' .byte n' f' ∧ own_Fit f' n' ∧ n0 ≤ r' ∧ ((¬ p1 < n.toInt32 ∧ r' = r ∧ n' = n) ∨ (p1 < n.toInt32 ∧ h0.size ≤ r' ∧ n' = p1.toNatClampNeg))
set_option maxRecDepth 65536 in
set_option maxHeartbeats 40000000 in
theorem rmK (l : Launch) (Z : State) (a0 : Array Value) (hw : ∀ d ∈ tables_1, d.before a0 Z = true) (ws : List Jvm.Cond) (t1 : Addr) (p1 : Int32) (r : Addr) (sz : Int32) (n : Nat) (f : Nat → Int32) (h0 : Heap) (n0 : Nat) (Z0 : n0 ≤ h0.size) (Ex : Exa Z h0 t1 "com/example/pagewright/pagewright/RecordCodec$Writer") (Fb : Fld Z h0 t1 "com/example/pagewright/pagewright/RecordCodec$Writer" "m_aBytes" "[B" (.ref r)) (Fs : Fld Z h0 t1 "com/example/pagewright/pagewright/RecordCodec$Writer" "m_nSize" "I" (.int sz)) (A : own_Ar Z h0 r .byte n f) (Ft : own_Fit f n) (g_t1 : n0 ≤ t1) (g_r : n0 ≤ r) (h0p : 0 ≤ p1.toInt) (hn5 : n ≤ 513) :
    MetFree l (⟨"com/example/pagewright/pagewright/RecordCodec$Writer", "clear", "(I)V"⟩ : MethodName) (head1 (Jvm.Cond.code (⟨"com/example/pagewright/pagewright/RecordCodec$Writer", "clear", "(I)V"⟩ : MethodName) prog_60_method_2_code 2 none :: ws) ({ frames := 0, cells := 1, slots := 513, locals := 0 } : Room)) (fun a U => a = #[(.ref t1), (.int p1)] ∧ Z.Warmed39 U.vm ∧ U.heap = h0) (fun _ _ _ _ _ => True) (fun _ U o U' => ∃ v L, o = .returned v ∧ QK Z t1 p1 r sz n f h0 n0 v U'.heap L ∧ FrameEnd U o U' L ({ frames := 0, cells := 1, slots := 513, locals := 0 } : Room).cells ({ frames := 0, cells := 1, slots := 513, locals := 0 } : Room).slots) := by
  refine MetFree.of_bodySF (plainFor_of_name own_pn2) hisR ?_
  intro p e s m args below meth c s₁ Bd hml0 hP hK
  obtain ⟨rfl, hZ, hh⟩ := hP
  have hx := Bd.exec
  have hby := Bd.bytes
  have hml : c.maxLocals = 2 := hml0
  have hown : s.vm.findClass "com/example/pagewright/pagewright/RecordCodec$Writer" = some m.cls := findClass_of_methodNamed Bd.named
  have hnm := (name_of_methodNamed Bd.named Bd.method).1
  have hlk := Bd.notSynchronized
  have hret := Bd.returns
  have X0 : Stand p l e ({ frames := 0, cells := 1, slots := 513, locals := 0 } : Room) s m #[(.ref t1), (.int p1)] below meth c s₁ [] 0 0 := Stand.of_body Bd
  have e0 : s₁.heap = h0 := by rw [← hh, Bd.state]; rfl
  have N0 := Fr.nil n0
  have K0 : Keep h0 h0 [t1] := Keep.refl _ _
  show own_Run p e below s 1 513 (QK Z t1 p1 r sz n f h0 n0) (s₁.setTop (entryFrame m #[(.ref t1), (.int p1)] 2))
  refine own_cast (efK m t1 p1) ?_
  have hnl := own_nlen (n := n) (by omega)
  have hne : t1 ≠ r := by obtain ⟨ca, Aa, -⟩ := id A; exact ne_arr Ex (hw _ (List.mem_of_getElem? (i := 1) rfl)) Aa
  show own_Run p e below s _ _ _ (s₁.setTop (mkF m 0 #[.val (.ref t1), .val (.int p1)] []))
  refine own_of (fun _ hh_ => XS.aloadN X0.here hx rfl (hb hby dK_0) rfl rfl hh_) ?_
  show own_Run p e below s _ _ _ (s₁.setTop (mkF m 1 #[.val (.ref t1), .val (.int p1)] [(.ref t1)]))
  obtain ⟨T1, X1, e1, st1⟩ := getF X0 hx hZ hown (host := "") (Or.inl (hw _ (List.mem_of_getElem? (i := 14) rfl))) Via.refl e0 Fb (g := (mkF m 1 #[.val (.ref t1), .val (.int p1)] [(.ref t1)])) rfl rfl (hb hby dK_1)
  refine own_of st1 ?_
  show own_Run p e below s _ _ _ (T1.setTop (mkF m 4 #[.val (.ref t1), .val (.int p1)] [(.ref r)]))
  refine own_alen X1 hx hZ e1 A (w := n.toInt32) rfl (hb hby dK_4) ?_
  show own_Run p e below s _ _ _ (T1.setTop (mkF m 5 #[.val (.ref t1), .val (.int p1)] [(.int n.toInt32)]))
  refine own_of (fun _ hh_ => XS.iloadN X1.here hx rfl (hb hby dK_5) rfl hh_) ?_
  show own_Run p e below s _ _ _ (T1.setTop (mkF m 6 #[.val (.ref t1), .val (.int p1)] [(.int p1), (.int n.toInt32)]))
  by_cases hc6_2 : p1 < n.toInt32
  · refine own_of (fun _ hh_ => XS.icmpNo X1.here hx rfl (hb hby dK_6) rfl (tlt hc6_2).2.2.2 hh_) ?_
    show own_Run p e below s _ _ _ (T1.setTop (mkF m 9 #[.val (.ref t1), .val (.int p1)] []))
    have hl1 : p1.toInt < (n : Int) := by have z := Int32.lt_iff_toInt_lt.mp hc6_2; rw [hnl] at z; exact z
    have hpc : p1.toNatClampNeg ≤ 513 := by have z := own_clamp (j := p1) h0p; omega
    refine own_of (fun _ hh_ => XS.aloadN X1.here hx rfl (hb hby dK_9) rfl rfl hh_) ?_
    show own_Run p e below s _ _ _ (T1.setTop (mkF m 10 #[.val (.ref t1), .val (.int p1)] [(.ref t1)]))
    refine own_of (fun _ hh_ => XS.iloadN X1.here hx rfl (hb hby dK_10) rfl hh_) ?_
    show own_Run p e below s _ _ _ (T1.setTop (mkF m 11 #[.val (.ref t1), .val (.int p1)] [(.int p1), (.ref t1)]))
    obtain ⟨T3, h3, k3, X3, e3, E3, A3, st3⟩ := newP X1 hx hZ (hw _ (List.mem_of_getElem? (i := 13) rfl)) e1 (g := (mkF m 11 #[.val (.ref t1), .val (.int p1)] [(.int p1), (.ref t1)])) rfl (hb hby dK_11) rfl (own_pos h0p) (cap := 513) hpc (by decide) (by decide) (by decide)
    obtain ⟨ob3, g3⟩ : ∃ z, z = h0.size := ⟨_, rfl⟩
    rw [← g3] at A3 st3
    have ne_t1_ob3 : t1 ≠ ob3 := Nat.ne_of_lt (Nat.lt_of_lt_of_le Ex.lt (Nat.le_of_eq g3.symm))
    have ne_r_ob3 : r ≠ ob3 := Nat.ne_of_lt (Nat.lt_of_lt_of_le A.lt (Nat.le_of_eq g3.symm))
    have g_ob3 : n0 ≤ ob3 := Nat.le_trans Z0 (Nat.le_of_eq g3.symm)
    have sz_ob3 : h0.size ≤ ob3 := Nat.le_trans K0.1 (Nat.le_of_eq g3.symm)
    have f4 := Ex.ext E3
    have f5 := Fb.ext E3
    have f6 := Fs.ext E3
    have f7 := A.ext E3
    have K8 := K0.ext E3
    have V3 : own_Ar Z h3 ob3 .byte p1.toNatClampNeg (fun _ => 0) := own_Ar.new A3 rfl rfl
    refine own_of st3 ?_
    show own_Run p e below s _ _ _ (T3.setTop (mkF m 13 #[.val (.ref t1), .val (.int p1)] [(.ref ob3), (.ref t1)]))
    obtain ⟨T9, h9, X9, e9, W9, st9⟩ := putF X3 hx hZ hown (host := "") (Or.inl (hw _ (List.mem_of_getElem? (i := 14) rfl))) Via.refl e3 f5 f4 (Or.inl (hw _ (List.mem_of_getElem? (i := 15) rfl))) (hw _ (List.mem_of_getElem? (i := 1) rfl)) (ty := (.array .byte)) (by decide) rfl rfl (g := (mkF m 13 #[.val (.ref t1), .val (.int p1)] [(.ref ob3), (.ref t1)])) rfl rfl (hb hby dK_13)
    have f9 := f5.same W9
    have N9 := Fr.snoc X9 N0 g_t1
    have f10 := f4.wr W9
    have f11 := f6.other W9 (Or.inr (slot_ne (Or.inl (hw _ (List.mem_of_getElem? (i := 22) rfl))) (Or.inl (hw _ (List.mem_of_getElem? (i := 15) rfl))) (by decide) (t := .int) (t' := (.array .byte)) (by decide) (by decide)))
    have f12 := f7.other W9 (Ne.symm hne)
    have f13 := V3.other W9 (Ne.symm ne_t1_ob3)
    have K14 := K8.wr W9 (Or.inl (List.mem_of_getElem? (i := 0) rfl))
    refine own_of st9 ?_
    show own_Run p e below s _ _ _ (T9.setTop (mkF m 16 #[.val (.ref t1), .val (.int p1)] []))
    refine own_of (fun _ hh_ => XS.aloadN X9.here hx rfl (hb hby dK_16) rfl rfl hh_) ?_
    show own_Run p e below s _ _ _ (T9.setTop (mkF m 17 #[.val (.ref t1), .val (.int p1)] [(.ref t1)]))
    refine own_of (fun _ hh_ => XS.iconst X9.here hx rfl (hb hby dK_17) hh_) ?_
    show own_Run p e below s _ _ _ (T9.setTop (mkF m 18 #[.val (.ref t1), .val (.int p1)] [(.int (0 : Int32)), (.ref t1)]))
    obtain ⟨T15, h15, X15, e15, W15, st15⟩ := putF X9 hx hZ hown (host := "") (Or.inl (hw _ (List.mem_of_getElem? (i := 21) rfl))) Via.refl e9 f11 f10 (Or.inl (hw _ (List.mem_of_getElem? (i := 22) rfl))) (hw _ (List.mem_of_getElem? (i := 1) rfl)) (ty := .int) (by decide) rfl rfl (g := (mkF m 18 #[.val (.ref t1), .val (.int p1)] [(.int (0 : Int32)), (.ref t1)])) rfl rfl (hb hby dK_18)
    have f15 := f11.same W15
    have N15 := Fr.snoc X15 N9 g_t1
    have f16 := f10.wr W15
    have f17 := f9.other W15 (Or.inr (slot_ne (Or.inl (hw _ (List.mem_of_getElem? (i := 15) rfl))) (Or.inl (hw _ (List.mem_of_getElem? (i := 22) rfl))) (by decide) (t := (.array .byte)) (t' := .int) (by decide) (by decide)))
    have f18 := f12.other W15 (Ne.symm hne)
    have f19 := f13.other W15 (Ne.symm ne_t1_ob3)
    have K20 := K14.wr W15 (Or.inl (List.mem_of_getElem? (i := 0) rfl))
    refine own_of st15 ?_
    show own_Run p e below s _ _ _ (T15.setTop (mkF m 21 #[.val (.ref t1), .val (.int p1)] []))
    exact own_retV X15 hx hret hlk (hb hby dK_21) (by rw [e15]; exact ⟨rfl, N15, K20, ob3, _, _, f17, f15, f19, (own_Fit0 _), g_ob3, Or.inr ⟨hc6_2, sz_ob3, rfl⟩⟩) (by decide) (by decide)
  · refine own_of (fun _ hh_ => XS.icmpYes X1.here hx rfl (pc0 := 6) (pc' := 16) rfl (hb hby dK_6) rfl (flt hc6_2).2.2.2 (by decide) (by decide) hh_) ?_
    show own_Run p e below s _ _ _ (T1.setTop (mkF m 16 #[.val (.ref t1), .val (.int p1)] []))
    refine own_of (fun _ hh_ => XS.aloadN X1.here hx rfl (hb hby dK_16) rfl rfl hh_) ?_
    show own_Run p e below s _ _ _ (T1.setTop (mkF m 17 #[.val (.ref t1), .val (.int p1)] [(.ref t1)]))
    refine own_of (fun _ hh_ => XS.iconst X1.here hx rfl (hb hby dK_17) hh_) ?_
    show own_Run p e below s _ _ _ (T1.setTop (mkF m 18 #[.val (.ref t1), .val (.int p1)] [(.int (0 : Int32)), (.ref t1)]))
    obtain ⟨T21, h21, X21, e21, W21, st21⟩ := putF X1 hx hZ hown (host := "") (Or.inl (hw _ (List.mem_of_getElem? (i := 21) rfl))) Via.refl e1 Fs Ex (Or.inl (hw _ (List.mem_of_getElem? (i := 22) rfl))) (hw _ (List.mem_of_getElem? (i := 1) rfl)) (ty := .int) (by decide) rfl rfl (g := (mkF m 18 #[.val (.ref t1), .val (.int p1)] [(.int (0 : Int32)), (.ref t1)])) rfl rfl (hb hby dK_18)
    have f21 := Fs.same W21
    have N21 := Fr.snoc X21 N0 g_t1
    have f22 := Ex.wr W21
    have f23 := Fb.other W21 (Or.inr (slot_ne (Or.inl (hw _ (List.mem_of_getElem? (i := 15) rfl))) (Or.inl (hw _ (List.mem_of_getElem? (i := 22) rfl))) (by decide) (t := (.array .byte)) (t' := .int) (by decide) (by decide)))
    have f24 := A.other W21 (Ne.symm hne)
    have K25 := K0.wr W21 (Or.inl (List.mem_of_getElem? (i := 0) rfl))
    refine own_of st21 ?_
    show own_Run p e below s _ _ _ (T21.setTop (mkF m 21 #[.val (.ref t1), .val (.int p1)] []))
    exact own_retV X21 hx hret hlk (hb hby dK_21) (by rw [e21]; exact ⟨rfl, N21, K25, r, _, _, f23, f21, f24, Ft, g_r, Or.inl ⟨hc6_2, rfl, rfl⟩⟩) (by decide) (by decide)
theorem own_pd1 : parseMethodDescriptor "(I)I" = some ⟨[.int], some .int⟩ := by decide +kernel
theorem own_pd2 : parseMethodDescriptor "([BI)[B" = some ⟨[(.array .byte), .int], some (.array .byte)⟩ := by decide +kernel
theorem dF_0 : decode prog_60_method_3_code 0 = .ok (.aload_n 0, 1) := by decide +kernel
theorem dF_1 : decode prog_60_method_3_code 1 = .ok (.getfield 19, 3) := by decide +kernel
theorem dF_4 : decode prog_60_method_3_code 4 = .ok (.iload_n 1, 1) := by decide +kernel
theorem dF_5 : decode prog_60_method_3_code 5 = .ok (.invokestatic 23, 3) := by decide +kernel
theorem dF_8 : decode prog_60_method_3_code 8 = .ok (.iadd, 1) := by decide +kernel
theorem dF_9 : decode prog_60_method_3_code 9 = .ok (.iload_n 1, 1) := by decide +kernel
theorem dF_10 : decode prog_60_method_3_code 10 = .ok (.iadd, 1) := by decide +kernel
theorem dF_11 : decode prog_60_method_3_code 11 = .ok (.istore_n 2, 1) := by decide +kernel
theorem dF_12 : decode prog_60_method_3_code 12 = .ok (.iload_n 2, 1) := by decide +kernel
theorem dF_13 : decode prog_60_method_3_code 13 = .ok (.aload_n 0, 1) := by decide +kernel
theorem dF_14 : decode prog_60_method_3_code 14 = .ok (.getfield 13, 3) := by decide +kernel
theorem dF_17 : decode prog_60_method_3_code 17 = .ok (.arraylength, 1) := by decide +kernel
theorem dF_18 : decode prog_60_method_3_code 18 = .ok (.if_icmp .le 25, 3) := by decide +kernel
theorem dF_21 : decode prog_60_method_3_code 21 = .ok (.aload_n 0, 1) := by decide +kernel
theorem dF_22 : decode prog_60_method_3_code 22 = .ok (.aload_n 0, 1) := by decide +kernel
theorem dF_23 : decode prog_60_method_3_code 23 = .ok (.getfield 13, 3) := by decide +kernel
theorem dF_26 : decode prog_60_method_3_code 26 = .ok (.iload_n 2, 1) := by decide +kernel
theorem dF_27 : decode prog_60_method_3_code 27 = .ok (.iconst 2, 1) := by decide +kernel
theorem dF_28 : decode prog_60_method_3_code 28 = .ok (.aload_n 0, 1) := by decide +kernel
theorem dF_29 : decode prog_60_method_3_code 29 = .ok (.getfield 13, 3) := by decide +kernel
theorem dF_32 : decode prog_60_method_3_code 32 = .ok (.arraylength, 1) := by decide +kernel
theorem dF_33 : decode prog_60_method_3_code 33 = .ok (.imul, 1) := by decide +kernel
theorem dF_34 : decode prog_60_method_3_code 34 = .ok (.invokestatic 7, 3) := by decide +kernel
theorem dF_37 : decode prog_60_method_3_code 37 = .ok (.invokestatic 29, 3) := by decide +kernel
theorem dF_40 : decode prog_60_method_3_code 40 = .ok (.putfield 13, 3) := by decide +kernel
theorem dF_43 : decode prog_60_method_3_code 43 = .ok (.iload_n 1, 1) := by decide +kernel
theorem dF_44 : decode prog_60_method_3_code 44 = .ok (.istore_n 3, 1) := by decide +kernel
theorem dF_45 : decode prog_60_method_3_code 45 = .ok (.iload_n 3, 1) := by decide +kernel
theorem dF_46 : decode prog_60_method_3_code 46 = .ok (.sipush 128, 3) := by decide +kernel
theorem dF_49 : decode prog_60_method_3_code 49 = .ok (.if_icmp .lt 33, 3) := by decide +kernel
theorem dF_52 : decode prog_60_method_3_code 52 = .ok (.aload_n 0, 1) := by decide +kernel
theorem dF_53 : decode prog_60_method_3_code 53 = .ok (.getfield 13, 3) := by decide +kernel
theorem dF_56 : decode prog_60_method_3_code 56 = .ok (.aload_n 0, 1) := by decide +kernel
theorem dF_57 : decode prog_60_method_3_code 57 = .ok (.dup, 1) := by decide +kernel
theorem dF_58 : decode prog_60_method_3_code 58 = .ok (.getfield 19, 3) := by decide +kernel
theorem dF_61 : decode prog_60_method_3_code 61 = .ok (.dup_x1, 1) := by decide +kernel
theorem dF_62 : decode prog_60_method_3_code 62 = .ok (.iconst 1, 1) := by decide +kernel
theorem dF_63 : decode prog_60_method_3_code 63 = .ok (.iadd, 1) := by decide +kernel
theorem dF_64 : decode prog_60_method_3_code 64 = .ok (.putfield 19, 3) := by decide +kernel
theorem dF_67 : decode prog_60_method_3_code 67 = .ok (.iload_n 3, 1) := by decide +kernel
theorem dF_68 : decode prog_60_method_3_code 68 = .ok (.sipush 128, 3) := by decide +kernel
theorem dF_71 : decode prog_60_method_3_code 71 = .ok (.ior, 1) := by decide +kernel
theorem dF_72 : decode prog_60_method_3_code 72 = .ok (.i2b, 1) := by decide +kernel
theorem dF_73 : decode prog_60_method_3_code 73 = .ok (.bastore, 1) := by decide +kernel
theorem dF_74 : decode prog_60_method_3_code 74 = .ok (.iload_n 3, 1) := by decide +kernel
theorem dF_75 : decode prog_60_method_3_code 75 = .ok (.bipush 7, 2) := by decide +kernel
theorem dF_77 : decode prog_60_method_3_code 77 = .ok (.iushr, 1) := by decide +kernel
theorem dF_78 : decode prog_60_method_3_code 78 = .ok (.istore_n 3, 1) := by decide +kernel
theorem dF_79 : decode prog_60_method_3_code 79 = .ok (.goto (-34), 3) := by decide +kernel
theorem dF_82 : decode prog_60_method_3_code 82 = .ok (.aload_n 0, 1) := by decide +kernel
theorem dF_83 : decode prog_60_method_3_code 83 = .ok (.getfield 13, 3) := by decide +kernel
theorem dF_86 : decode prog_60_method_3_code 86 = .ok (.aload_n 0, 1) := by decide +kernel
theorem dF_87 : decode prog_60_method_3_code 87 = .ok (.dup, 1) := by decide +kernel
theorem dF_88 : decode prog_60_method_3_code 88 = .ok (.getfield 19, 3) := by decide +kernel
theorem dF_91 : decode prog_60_method_3_code 91 = .ok (.dup_x1, 1) := by decide +kernel
theorem dF_92 : decode prog_60_method_3_code 92 = .ok (.iconst 1, 1) := by decide +kernel
theorem dF_93 : decode prog_60_method_3_code 93 = .ok (.iadd, 1) := by decide +kernel
theorem dF_94 : decode prog_60_method_3_code 94 = .ok (.putfield 19, 3) := by decide +kernel
theorem dF_97 : decode prog_60_method_3_code 97 = .ok (.iload_n 3, 1) := by decide +kernel
theorem dF_98 : decode prog_60_method_3_code 98 = .ok (.i2b, 1) := by decide +kernel
theorem dF_99 : decode prog_60_method_3_code 99 = .ok (.bastore, 1) := by decide +kernel
theorem dF_100 : decode prog_60_method_3_code 100 = .ok (.aload_n 0, 1) := by decide +kernel
theorem dF_101 : decode prog_60_method_3_code 101 = .ok (.getfield 19, 3) := by decide +kernel
theorem dF_104 : decode prog_60_method_3_code 104 = .ok (.istore 4, 2) := by decide +kernel
theorem dF_106 : decode prog_60_method_3_code 106 = .ok (.aload_n 0, 1) := by decide +kernel
theorem dF_107 : decode prog_60_method_3_code 107 = .ok (.dup, 1) := by decide +kernel
theorem dF_108 : decode prog_60_method_3_code 108 = .ok (.getfield 19, 3) := by decide +kernel
theorem dF_111 : decode prog_60_method_3_code 111 = .ok (.iload_n 1, 1) := by decide +kernel
theorem dF_112 : decode prog_60_method_3_code 112 = .ok (.iadd, 1) := by decide +kernel
theorem dF_113 : decode prog_60_method_3_code 113 = .ok (.putfield 19, 3) := by decide +kernel
theorem dF_116 : decode prog_60_method_3_code 116 = .ok (.iload 4, 2) := by decide +kernel
theorem dF_118 : decode prog_60_method_3_code 118 = .ok (.ireturn, 1) := by decide +kernel
theorem efF (m : MethodId) (t1 : Addr) (p1 : Int32) : entryFrame m #[(.ref t1), (.int p1)] 5 = mkF m 0 #[.val (.ref t1), .val (.int p1), .unset, .unset, .unset] [] := by first | (simp [entryFrame, mkF, argsToLocals, Value.category]; done) | rfl
def QF (Z : State) (t1 : Addr) (p1 : Int32) (r : Addr) (n : Nat) (f : Nat → Int32) (h0 : Heap) (n0 : Nat) (v : Option Value) (h : Heap) (L : List Loc) : Prop := v = some (.int (own_ls p1)) ∧ Fr n0 L ∧ Keep h0 h [t1, r] ∧ ∃ (r' : Addr) (n' : Nat) (f' : Nat → Int32), Fld Z h t1 "com/example/pagewright/pagewright/RecordCodec$Writer" "m_aBytes" "[B" (.ref r') ∧ Fld Z h t1 "com/example/pagewright/pagewright/RecordCodec$Writer" "m_nSize" "I" (.int ((own_ls p1) + p1)) ∧ own_Ar Z h r' .byte n' f' ∧ own_Fit f' n' ∧ n0 ≤ r' ∧ ((own_ls p1).toInt + p1.toInt ≤ (n' : Int) ∧ ((n' : Int) ≤ p1.toInt + 2 ∨ (n' : Int) ≤ 2 * n)) ∧ ((p1 < (128 : Int32) ∧ f' 0 = (p1.toInt8.toInt32).toInt8.toInt32) ∨ (¬ p1 < (128 : Int32) ∧ f' 0 = ((p1 ||| (128 : Int32)).toInt8.toInt32).toInt8.toInt32 ∧ f' 1 = (((p1.toUInt32 >>> ((7 : Int32) &&& 31).toUInt32).toInt32).toInt8.toInt32).toInt8.toInt32))
set_option maxRecDepth 65536 in
set_option maxHeartbeats 40000000 in
theorem rmF (l : Launch) (Z : State) (a0 : Array Value) (hw : ∀ d ∈ tables_1, d.before a0 Z = true) (ws : List Jvm.Cond) (t1 : Addr) (p1 : Int32) (r : Addr) (n : Nat) (f : Nat → Int32) (h0 : Heap) (n0 : Nat) (Z0 : n0 ≤ h0.size) (Ex : Exa Z h0 t1 "com/example/pagewright/pagewright/RecordCodec$Writer") (Fb : Fld Z h0 t1 "com/example/pagewright/pagewright/RecordCodec$Writer" "m_aBytes" "[B" (.ref r)) (Fs : Fld Z h0 t1 "com/example/pagewright/pagewright/RecordCodec$Writer" "m_nSize" "I" (.int (0 : Int32))) (A : own_Ar Z h0 r .byte n f) (Ft : own_Fit f n) (g_t1 : n0 ≤ t1) (g_r : n0 ≤ r) (h0p : 0 ≤ p1.toInt) (h1p : p1.toInt ≤ 16383) (hn5 : n ≤ 513) :
    MetFree l (⟨"com/example/pagewright/pagewright/RecordCodec$Writer", "field", "(I)I"⟩ : MethodName) (head1 (Jvm.Cond.code (⟨"com/example/pagewright/pagewright/RecordCodec$Writer", "field", "(I)I"⟩ : MethodName) prog_60_method_3_code 5 (some .int) :: ws) ({ frames := 2, cells := 1, slots := 16385, locals := 33 } : Room)) (fun a U => a = #[(.ref t1), (.int p1)] ∧ Z.Warmed39 U.vm ∧ U.heap = h0) (fun _ _ _ _ _ => True) (fun _ U o U' => ∃ v L, o = .returned v ∧ QF Z t1 p1 r n f h0 n0 v U'.heap L ∧ FrameEnd U o U' L ({ frames := 2, cells := 1, slots := 16385, locals := 33 } : Room).cells ({ frames := 2, cells := 1, slots := 16385, locals := 33 } : Room).slots) := by
  refine MetFree.of_bodySF (plainFor_of_name own_pn2) hisR ?_
  intro p e s m args below meth c s₁ Bd hml0 hP hK
  obtain ⟨rfl, hZ, hh⟩ := hP
  have hx := Bd.exec
  have hby := Bd.bytes
  have hml : c.maxLocals = 5 := hml0
  have hown : s.vm.findClass "com/example/pagewright/pagewright/RecordCodec$Writer" = some m.cls := findClass_of_methodNamed Bd.named
  have hnm := (name_of_methodNamed Bd.named Bd.method).1
  have hlk := Bd.notSynchronized
  have hret := Bd.returns
  have X0 : Stand p l e ({ frames := 2, cells := 1, slots := 16385, locals := 33 } : Room) s m #[(.ref t1), (.int p1)] below meth c s₁ [] 0 0 := Stand.of_body Bd
  have e0 : s₁.heap = h0 := by rw [← hh, Bd.state]; rfl
  have N0 := Fr.nil n0
  have K0 : Keep h0 h0 [t1, r] := Keep.refl _ _
  show own_Run p e below s 1 16385 (QF Z t1 p1 r n f h0 n0) (s₁.setTop (entryFrame m #[(.ref t1), (.int p1)] 5))
  refine own_cast (efF m t1 p1) ?_
  have hnl := own_nlen (n := n) (by omega)
  have hne : t1 ≠ r := by obtain ⟨ca, Aa, -⟩ := id A; exact ne_arr Ex (hw _ (List.mem_of_getElem? (i := 1) rfl)) Aa
  show own_Run p e below s _ _ _ (s₁.setTop (mkF m 0 #[.val (.ref t1), .val (.int p1), .unset, .unset, .unset] []))
  refine own_of (fun _ hh_ => XS.aloadN X0.here hx rfl (hb hby dF_0) rfl rfl hh_) ?_
  show own_Run p e below s _ _ _ (s₁.setTop (mkF m 1 #[.val (.ref t1), .val (.int p1), .unset, .unset, .unset] [(.ref t1)]))
  obtain ⟨T1, X1, e1, st1⟩ := getF X0 hx hZ hown (host := "") (Or.inl (hw _ (List.mem_of_getElem? (i := 21) rfl))) Via.refl e0 Fs (g := (mkF m 1 #[.val (.ref t1), .val (.int p1), .unset, .unset, .unset] [(.ref t1)])) rfl rfl (hb hby dF_1)
  refine own_of st1 ?_
  show own_Run p e below s _ _ _ (T1.setTop (mkF m 4 #[.val (.ref t1), .val (.int p1), .unset, .unset, .unset] [(.int (0 : Int32))]))
  refine own_of (fun _ hh_ => XS.iloadN X1.here hx rfl (hb hby dF_4) rfl hh_) ?_
  show own_Run p e below s _ _ _ (T1.setTop (mkF m 5 #[.val (.ref t1), .val (.int p1), .unset, .unset, .unset] [(.int p1), (.int (0 : Int32))]))
  obtain ⟨_, _, ⟨T2, L2, k2, n2⟩, -, X2, ⟨Lc2, hQ2, l2, y2, z2⟩, st2⟩ := callSN X1 hx (y := (⟨"com/example/pagewright/pagewright/RecordCodec", "_lengthSize", "(I)I"⟩ : MethodName)) hown (own_mvNM hZ (hw _ (List.mem_of_getElem? (i := 23) rfl))) (mvT hZ (hw _ (List.mem_of_getElem? (i := 24) rfl))) (mvT hZ (hw _ (List.mem_of_getElem? (i := 25) rfl))) (mvT hZ (hw _ (List.mem_of_getElem? (i := 26) rfl))) (by decide) (backOf (W := 1) (rmS l Z a0 hw [] p1 h0 n0 Z0 h0p h1p) hZ (hw _ (List.mem_of_getElem? (i := 26) rfl)) (hw _ (List.mem_of_getElem? (i := 25) rfl)) (by decide) (by decide)) (g := (mkF m 5 #[.val (.ref t1), .val (.int p1), .unset, .unset, .unset] [(.int p1), (.int (0 : Int32))])) rfl (by rw [hml]; rfl) (argsL := [(.int p1)]) (rest := [(.int (0 : Int32))]) (lenOf own_pd1 rfl) rfl (by show 2 * 0 + _ ≤ _; exact Nat.le_of_eq rfl) (hb hby dF_5) (fun _ _ => ⟨rfl, e1, (by decide : 0 + 0 ≤ _), (by decide : 0 + 0 ≤ _)⟩)
  dsimp only [Pt.U, Pt.locs, Pt.cells, Pt.slots] at X2 l2 y2 z2 st2 hQ2
  subst l2 y2 z2
  obtain ⟨rfl, N2q, e2⟩ := hQ2
  have N2 := Fr.app N0 N2q
  refine own_tr st2 ?_
  show own_Run p e below s _ _ _ (T2.setTop (mkF m 8 #[.val (.ref t1), .val (.int p1), .unset, .unset, .unset] [(.int (own_ls p1)), (.int (0 : Int32))]))
  refine own_of (fun _ hh_ => XS.iadd X2.here hx rfl (hb hby dF_8) rfl hh_) ?_
  show own_Run p e below s _ _ _ (T2.setTop (mkF m 9 #[.val (.ref t1), .val (.int p1), .unset, .unset, .unset] [(.int ((0 : Int32) + (own_ls p1)))]))
  refine own_of (fun _ hh_ => XS.iloadN X2.here hx rfl (hb hby dF_9) rfl hh_) ?_
  show own_Run p e below s _ _ _ (T2.setTop (mkF m 10 #[.val (.ref t1), .val (.int p1), .unset, .unset, .unset] [(.int p1), (.int ((0 : Int32) + (own_ls p1)))]))
  refine own_of (fun _ hh_ => XS.iadd X2.here hx rfl (hb hby dF_10) rfl hh_) ?_
  show own_Run p e below s _ _ _ (T2.setTop (mkF m 11 #[.val (.ref t1), .val (.int p1), .unset, .unset, .unset] [(.int (((0 : Int32) + (own_ls p1)) + p1))]))
  generalize hnd : (((0 : Int32) + (own_ls p1)) + p1) = nd
  have hni : nd.toInt = (own_ls p1).toInt + p1.toInt := by
    have z1 := c_iadd (0 : Int32) (own_ls p1); have z2 := rng32 ((0 : Int32) + (own_ls p1)); have z3 := c_iadd ((0 : Int32) + (own_ls p1)) p1; have z4 := rng32 (((0 : Int32) + (own_ls p1)) + p1); have z5 : (0 : Int32).toInt = 0 := rfl; have z6 := own_ls_i p1
    rw [hnd] at z3 z4; omega
  show own_Run p e below s _ _ _ (T2.setTop (mkF m 11 #[.val (.ref t1), .val (.int p1), .unset, .unset, .unset] [(.int nd)]))
  refine own_of (fun _ hh_ => XS.istoreN X2.here hx rfl (hb hby dF_11) rfl (l' := #[.val (.ref t1), .val (.int p1), .val (.int nd), .unset, .unset]) rfl hh_) ?_
  show own_Run p e below s _ _ _ (T2.setTop (mkF m 12 #[.val (.ref t1), .val (.int p1), .val (.int nd), .unset, .unset] []))
  refine own_of (fun _ hh_ => XS.iloadN X2.here hx rfl (hb hby dF_12) rfl hh_) ?_
  show own_Run p e below s _ _ _ (T2.setTop (mkF m 13 #[.val (.ref t1), .val (.int p1), .val (.int nd), .unset, .unset] [(.int nd)]))
  refine own_of (fun _ hh_ => XS.aloadN X2.here hx rfl (hb hby dF_13) rfl rfl hh_) ?_
  show own_Run p e below s _ _ _ (T2.setTop (mkF m 14 #[.val (.ref t1), .val (.int p1), .val (.int nd), .unset, .unset] [(.ref t1), (.int nd)]))
  obtain ⟨T3, X3, e3, st3⟩ := getF X2 hx hZ hown (host := "") (Or.inl (hw _ (List.mem_of_getElem? (i := 14) rfl))) Via.refl e2 Fb (g := (mkF m 14 #[.val (.ref t1), .val (.int p1), .val (.int nd), .unset, .unset] [(.ref t1), (.int nd)])) rfl rfl (hb hby dF_14)
  refine own_of st3 ?_
  show own_Run p e below s _ _ _ (T3.setTop (mkF m 17 #[.val (.ref t1), .val (.int p1), .val (.int nd), .unset, .unset] [(.ref r), (.int nd)]))
  refine own_alen X3 hx hZ e3 A (w := n.toInt32) rfl (hb hby dF_17) ?_
  show own_Run p e below s _ _ _ (T3.setTop (mkF m 18 #[.val (.ref t1), .val (.int p1), .val (.int nd), .unset, .unset] [(.int n.toInt32), (.int nd)]))
  by_cases hc18_4 : n.toInt32 < nd
  · refine own_of (fun _ hh_ => XS.icmpNo X3.here hx rfl (hb hby dF_18) rfl (tlt hc18_4).2.2.2 hh_) ?_
    show own_Run p e below s _ _ _ (T3.setTop (mkF m 21 #[.val (.ref t1), .val (.int p1), .val (.int nd), .unset, .unset] []))
    refine own_of (fun _ hh_ => XS.aloadN X3.here hx rfl (hb hby dF_21) rfl rfl hh_) ?_
    show own_Run p e below s _ _ _ (T3.setTop (mkF m 22 #[.val (.ref t1), .val (.int p1), .val (.int nd), .unset, .unset] [(.ref t1)]))
    refine own_of (fun _ hh_ => XS.aloadN X3.here hx rfl (hb hby dF_22) rfl rfl hh_) ?_
    show own_Run p e below s _ _ _ (T3.setTop (mkF m 23 #[.val (.ref t1), .val (.int p1), .val (.int nd), .unset, .unset] [(.ref t1), (.ref t1)]))
    obtain ⟨T5, X5, e5, st5⟩ := getF X3 hx hZ hown (host := "") (Or.inl (hw _ (List.mem_of_getElem? (i := 14) rfl))) Via.refl e3 Fb (g := (mkF m 23 #[.val (.ref t1), .val (.int p1), .val (.int nd), .unset, .unset] [(.ref t1), (.ref t1)])) rfl rfl (hb hby dF_23)
    refine own_of st5 ?_
    show own_Run p e below s _ _ _ (T5.setTop (mkF m 26 #[.val (.ref t1), .val (.int p1), .val (.int nd), .unset, .unset] [(.ref r), (.ref t1)]))
    refine own_of (fun _ hh_ => XS.iloadN X5.here hx rfl (hb hby dF_26) rfl hh_) ?_
    show own_Run p e below s _ _ _ (T5.setTop (mkF m 27 #[.val (.ref t1), .val (.int p1), .val (.int nd), .unset, .unset] [(.int nd), (.ref r), (.ref t1)]))
    refine own_of (fun _ hh_ => XS.iconst X5.here hx rfl (hb hby dF_27) hh_) ?_
    show own_Run p e below s _ _ _ (T5.setTop (mkF m 28 #[.val (.ref t1), .val (.int p1), .val (.int nd), .unset, .unset] [(.int (2 : Int32)), (.int nd), (.ref r), (.ref t1)]))
    refine own_of (fun _ hh_ => XS.aloadN X5.here hx rfl (hb hby dF_28) rfl rfl hh_) ?_
    show own_Run p e below s _ _ _ (T5.setTop (mkF m 29 #[.val (.ref t1), .val (.int p1), .val (.int nd), .unset, .unset] [(.ref t1), (.int (2 : Int32)), (.int nd), (.ref r), (.ref t1)]))
    obtain ⟨T6, X6, e6, st6⟩ := getF X5 hx hZ hown (host := "") (Or.inl (hw _ (List.mem_of_getElem? (i := 14) rfl))) Via.refl e5 Fb (g := (mkF m 29 #[.val (.ref t1), .val (.int p1), .val (.int nd), .unset, .unset] [(.ref t1), (.int (2 : Int32)), (.int nd), (.ref r), (.ref t1)])) rfl rfl (hb hby dF_29)
    refine own_of st6 ?_
    show own_Run p e below s _ _ _ (T6.setTop (mkF m 32 #[.val (.ref t1), .val (.int p1), .val (.int nd), .unset, .unset] [(.ref r), (.int (2 : Int32)), (.int nd), (.ref r), (.ref t1)]))
    refine own_alen X6 hx hZ e6 A (w := n.toInt32) rfl (hb hby dF_32) ?_
    show own_Run p e below s _ _ _ (T6.setTop (mkF m 33 #[.val (.ref t1), .val (.int p1), .val (.int nd), .unset, .unset] [(.int n.toInt32), (.int (2 : Int32)), (.int nd), (.ref r), (.ref t1)]))
    refine own_of (fun _ hh_ => XS.imul X6.here hx rfl (hb hby dF_33) rfl hh_) ?_
    show own_Run p e below s _ _ _ (T6.setTop (mkF m 34 #[.val (.ref t1), .val (.int p1), .val (.int nd), .unset, .unset] [(.int ((2 : Int32) * n.toInt32)), (.int nd), (.ref r), (.ref t1)]))
    obtain ⟨_, _, ⟨T7, L7, k7, n7⟩, -, X7, ⟨Lc7, hQ7, l7, y7, z7⟩, st7⟩ := Jvm.LawKit.callS X6 hx (y := (⟨"java/lang/Math", "max", "(II)I"⟩ : MethodName)) hown (mvT hZ (hw _ (List.mem_of_getElem? (i := 9) rfl))) (mvT hZ (hw _ (List.mem_of_getElem? (i := 10) rfl))) (mvT hZ (hw _ (List.mem_of_getElem? (i := 11) rfl))) (mvT hZ (hw _ (List.mem_of_getElem? (i := 12) rfl))) (by decide) (backOf (W := 2) (rmM l Z a0 hw [] nd ((2 : Int32) * n.toInt32) h0 n0 Z0) hZ (hw _ (List.mem_of_getElem? (i := 12) rfl)) (hw _ (List.mem_of_getElem? (i := 11) rfl)) (by decide) (by decide)) (g := (mkF m 34 #[.val (.ref t1), .val (.int p1), .val (.int nd), .unset, .unset] [(.int ((2 : Int32) * n.toInt32)), (.int nd), (.ref r), (.ref t1)])) rfl (by rw [hml]; rfl) (argsL := [(.int nd), (.int ((2 : Int32) * n.toInt32))]) (rest := [(.ref r), (.ref t1)]) (lenOf own_pd0 rfl) rfl (by show 2 * 0 + _ ≤ _; exact Nat.le_of_eq rfl) (hb hby dF_34) (fun _ _ => ⟨rfl, e6, (by decide : 0 + 0 ≤ _), (by decide : 0 + 0 ≤ _)⟩)
    dsimp only [Pt.U, Pt.locs, Pt.cells, Pt.slots] at X7 l7 y7 z7 st7 hQ7
    subst l7 y7 z7
    obtain ⟨rfl, N7q, e7⟩ := hQ7
    have N7 := Fr.app N2 N7q
    refine own_of st7 ?_
    show own_Run p e below s _ _ _ (T7.setTop (mkF m 37 #[.val (.ref t1), .val (.int p1), .val (.int nd), .unset, .unset] [(.int (own_maxI nd ((2 : Int32) * n.toInt32))), (.ref r), (.ref t1)]))
    generalize hgl : (own_maxI nd ((2 : Int32) * n.toInt32)) = gl
    have hgi : nd.toInt ≤ gl.toInt ∧ 2 * (n : Int) ≤ gl.toInt ∧ (gl.toInt = nd.toInt ∨ gl.toInt = 2 * (n : Int)) := by
      have z1 := own_maxI_i nd ((2 : Int32) * n.toInt32); have z2 := c_imul (2 : Int32) n.toInt32; have z3 := rng32 ((2 : Int32) * n.toInt32); have z4 : (2 : Int32).toInt = 2 := rfl
      rw [hgl] at z1; rw [z4, hnl] at z2; split at z1 <;> omega
    have hnn : (n : Int) < nd.toInt := by have z := Int32.lt_iff_toInt_lt.mp hc18_4; rw [hnl] at z; exact z
    have hls := own_ls_i p1
    have hcl : (n : Int) < gl.toInt := by omega
    have hc0 : gl.toInt ≤ 16385 := by omega
    have hc1 : n ≤ 16385 := by omega
    have hgc := own_clamp (j := gl) (by omega)
    show own_Run p e below s _ _ _ (T7.setTop (mkF m 37 #[.val (.ref t1), .val (.int p1), .val (.int nd), .unset, .unset] [(.int gl), (.ref r), (.ref t1)]))
    obtain ⟨_, _, ⟨T8, L8, k8, n8⟩, -, X8, ⟨Lc8, hQ8, l8, y8, z8⟩, st8⟩ := Jvm.LawKit.callS X7 hx (y := (⟨"java/util/Arrays", "copyOf", "([BI)[B"⟩ : MethodName)) hown (mvT hZ (hw _ (List.mem_of_getElem? (i := 46) rfl))) (mvT hZ (hw _ (List.mem_of_getElem? (i := 47) rfl))) (mvT hZ (hw _ (List.mem_of_getElem? (i := 48) rfl))) (mvT hZ (hw _ (List.mem_of_getElem? (i := 49) rfl))) (by decide) (backOf (W := 1) (rmC l Z a0 hw [] r gl n f h0 n0 Z0 A Ft hcl hc0 hc1) hZ (hw _ (List.mem_of_getElem? (i := 49) rfl)) (hw _ (List.mem_of_getElem? (i := 48) rfl)) (by decide) (by decide)) (g := (mkF m 37 #[.val (.ref t1), .val (.int p1), .val (.int nd), .unset, .unset] [(.int gl), (.ref r), (.ref t1)])) rfl (by rw [hml]; rfl) (argsL := [(.ref r), (.int gl)]) (rest := [(.ref t1)]) (lenOf own_pd2 rfl) rfl (by show 2 * 0 + _ ≤ _; exact Nat.le_of_eq rfl) (hb hby dF_37) (fun _ _ => ⟨rfl, e7, (by decide : 0 + 1 ≤ _), (by decide : 0 + 16385 ≤ _)⟩)
    dsimp only [Pt.U, Pt.locs, Pt.cells, Pt.slots] at X8 l8 y8 z8 st8 hQ8
    subst l8 y8 z8
    obtain ⟨rc8, rfl, N8q, K8, fc8, sz_rc8, V8, Ft8⟩ := hQ8
    have N8 := Fr.app N7 N8q
    have ne_t1_rc8 : t1 ≠ rc8 := Nat.ne_of_lt (Nat.lt_of_lt_of_le Ex.lt sz_rc8)
    have ne_r_rc8 : r ≠ rc8 := Nat.ne_of_lt (Nat.lt_of_lt_of_le A.lt sz_rc8)
    have g_rc8 : n0 ≤ rc8 := Nat.le_trans Z0 sz_rc8
    have hz_rc8 := sz_rc8
    replace sz_rc8 : h0.size ≤ rc8 := Nat.le_trans K0.1 sz_rc8
    have f9 := Ex.keep K8
    have f10 := Fb.keep K8 nin0
    have f11 := Fs.keep K8 nin0
    have f12 := A.keep K8 nin0
    have K13 := K0.trans K8 all0
    refine own_of st8 ?_
    show own_Run p e below s _ _ _ (T8.setTop (mkF m 40 #[.val (.ref t1), .val (.int p1), .val (.int nd), .unset, .unset] [(.ref rc8), (.ref t1)]))
    obtain ⟨T14, h14, X14, e14, W14, st14⟩ := putF X8 hx hZ hown (host := "") (Or.inl (hw _ (List.mem_of_getElem? (i := 14) rfl))) Via.refl (rfl : T8.heap = T8.heap) f10 f9 (Or.inl (hw _ (List.mem_of_getElem? (i := 15) rfl))) (hw _ (List.mem_of_getElem? (i := 1) rfl)) (ty := (.array .byte)) (by decide) rfl rfl (g := (mkF m 40 #[.val (.ref t1), .val (.int p1), .val (.int nd), .unset, .unset] [(.ref rc8), (.ref t1)])) rfl rfl (hb hby dF_40)
    have f14 := f10.same W14
    have N14 := Fr.snoc X14 N8 g_t1
    have f15 := f9.wr W14
    have f16 := f11.other W14 (Or.inr (slot_ne (Or.inl (hw _ (List.mem_of_getElem? (i := 22) rfl))) (Or.inl (hw _ (List.mem_of_getElem? (i := 15) rfl))) (by decide) (t := .int) (t' := (.array .byte)) (by decide) (by decide)))
    have f17 := f12.other W14 (Ne.symm hne)
    have f18 := V8.other W14 (Ne.symm ne_t1_rc8)
    have K19 := K13.wr W14 (Or.inl (List.mem_of_getElem? (i := 0) rfl))
    refine own_of st14 ?_
    show own_Run p e below s _ _ _ (T14.setTop (mkF m 43 #[.val (.ref t1), .val (.int p1), .val (.int nd), .unset, .unset] []))
    have hlen : nd.toInt ≤ ((gl).toNatClampNeg : Int) := by omega
    have hls2 := own_ls_i p1
    have hl0 : (0 : Int32).toNatClampNeg < (gl).toNatClampNeg := by show 0 < (gl).toNatClampNeg; omega
    refine own_of (fun _ hh_ => XS.iloadN X14.here hx rfl (hb hby dF_43) rfl hh_) ?_
    show own_Run p e below s _ _ _ (T14.setTop (mkF m 44 #[.val (.ref t1), .val (.int p1), .val (.int nd), .unset, .unset] [(.int p1)]))
    refine own_of (fun _ hh_ => XS.istoreN X14.here hx rfl (hb hby dF_44) rfl (l' := #[.val (.ref t1), .val (.int p1), .val (.int nd), .val (.int p1), .unset]) rfl hh_) ?_
    show own_Run p e below s _ _ _ (T14.setTop (mkF m 45 #[.val (.ref t1), .val (.int p1), .val (.int nd), .val (.int p1), .unset] []))
    refine own_of (fun _ hh_ => XS.iloadN X14.here hx rfl (hb hby dF_45) rfl hh_) ?_
    show own_Run p e below s _ _ _ (T14.setTop (mkF m 46 #[.val (.ref t1), .val (.int p1), .val (.int nd), .val (.int p1), .unset] [(.int p1)]))
    refine own_of (fun _ hh_ => XS.sipush X14.here hx rfl (hb hby dF_46) hh_) ?_
    show own_Run p e below s _ _ _ (T14.setTop (mkF m 49 #[.val (.ref t1), .val (.int p1), .val (.int nd), .val (.int p1), .unset] [(.int (128 : Int32)), (.int p1)]))
    by_cases hc49_20 : p1 < (128 : Int32)
    · refine own_of (fun _ hh_ => XS.icmpYes X14.here hx rfl (pc0 := 49) (pc' := 82) rfl (hb hby dF_49) rfl (tlt hc49_20).1 (by decide) (by decide) hh_) ?_
      show own_Run p e below s _ _ _ (T14.setTop (mkF m 82 #[.val (.ref t1), .val (.int p1), .val (.int nd), .val (.int p1), .unset] []))
      refine own_of (fun _ hh_ => XS.aloadN X14.here hx rfl (hb hby dF_82) rfl rfl hh_) ?_
      show own_Run p e below s _ _ _ (T14.setTop (mkF m 83 #[.val (.ref t1), .val (.int p1), .val (.int nd), .val (.int p1), .unset] [(.ref t1)]))
      obtain ⟨T21, X21, e21, st21⟩ := getF X14 hx hZ hown (host := "") (Or.inl (hw _ (List.mem_of_getElem? (i := 14) rfl))) Via.refl e14 f14 (g := (mkF m 83 #[.val (.ref t1), .val (.int p1), .val (.int nd), .val (.int p1), .unset] [(.ref t1)])) rfl rfl (hb hby dF_83)
      refine own_of st21 ?_
      show own_Run p e below s _ _ _ (T21.setTop (mkF m 86 #[.val (.ref t1), .val (.int p1), .val (.int nd), .val (.int p1), .unset] [(.ref rc8)]))
      refine own_of (fun _ hh_ => XS.aloadN X21.here hx rfl (hb hby dF_86) rfl rfl hh_) ?_
      show own_Run p e below s _ _ _ (T21.setTop (mkF m 87 #[.val (.ref t1), .val (.int p1), .val (.int nd), .val (.int p1), .unset] [(.ref t1), (.ref rc8)]))
      refine own_of (fun _ hh_ => XS.dup X21.here hx rfl (hb hby dF_87) rfl rfl hh_) ?_
      show own_Run p e below s _ _ _ (T21.setTop (mkF m 88 #[.val (.ref t1), .val (.int p1), .val (.int nd), .val (.int p1), .unset] [(.ref t1), (.ref t1), (.ref rc8)]))
      obtain ⟨T22, X22, e22, st22⟩ := getF X21 hx hZ hown (host := "") (Or.inl (hw _ (List.mem_of_getElem? (i := 21) rfl))) Via.refl e21 f16 (g := (mkF m 88 #[.val (.ref t1), .val (.int p1), .val (.int nd), .val (.int p1), .unset] [(.ref t1), (.ref t1), (.ref rc8)])) rfl rfl (hb hby dF_88)
      refine own_of st22 ?_
      show own_Run p e below s _ _ _ (T22.setTop (mkF m 91 #[.val (.ref t1), .val (.int p1), .val (.int nd), .val (.int p1), .unset] [(.int (0 : Int32)), (.ref t1), (.ref rc8)]))
      refine own_of (fun _ hh_ => XS.dupX1 X22.here hx rfl (hb hby dF_91) rfl rfl rfl hh_) ?_
      show own_Run p e below s _ _ _ (T22.setTop (mkF m 92 #[.val (.ref t1), .val (.int p1), .val (.int nd), .val (.int p1), .unset] [(.int (0 : Int32)), (.ref t1), (.int (0 : Int32)), (.ref rc8)]))
      refine own_of (fun _ hh_ => XS.iconst X22.here hx rfl (hb hby dF_92) hh_) ?_
      show own_Run p e below s _ _ _ (T22.setTop (mkF m 93 #[.val (.ref t1), .val (.int p1), .val (.int nd), .val (.int p1), .unset] [(.int (1 : Int32)), (.int (0 : Int32)), (.ref t1), (.int (0 : Int32)), (.ref rc8)]))
      refine own_of (fun _ hh_ => XS.iadd X22.here hx rfl (hb hby dF_93) rfl hh_) ?_
      show own_Run p e below s _ _ _ (T22.setTop (mkF m 94 #[.val (.ref t1), .val (.int p1), .val (.int nd), .val (.int p1), .unset] [(.int (1 : Int32)), (.ref t1), (.int (0 : Int32)), (.ref rc8)]))
      obtain ⟨T23, h23, X23, e23, W23, st23⟩ := putF X22 hx hZ hown (host := "") (Or.inl (hw _ (List.mem_of_getElem? (i := 21) rfl))) Via.refl e22 f16 f15 (Or.inl (hw _ (List.mem_of_getElem? (i := 22) rfl))) (hw _ (List.mem_of_getElem? (i := 1) rfl)) (ty := .int) (by decide) rfl rfl (g := (mkF m 94 #[.val (.ref t1), .val (.int p1), .val (.int nd), .val (.int p1), .unset] [(.int (1 : Int32)), (.ref t1), (.int (0 : Int32)), (.ref rc8)])) rfl rfl (hb hby dF_94)
      have f23 := f16.same W23
      have N23 := Fr.snoc X23 N14 g_t1
      have f24 := f15.wr W23
      have f25 := f14.other W23 (Or.inr (slot_ne (Or.inl (hw _ (List.mem_of_getElem? (i := 15) rfl))) (Or.inl (hw _ (List.mem_of_getElem? (i := 22) rfl))) (by decide) (t := (.array .byte)) (t' := .int) (by decide) (by decide)))
      have f26 := f17.other W23 (Ne.symm hne)
      have f27 := f18.other W23 (Ne.symm ne_t1_rc8)
      have K28 := K19.wr W23 (Or.inl (List.mem_of_getElem? (i := 0) rfl))
      refine own_of st23 ?_
      show own_Run p e below s _ _ _ (T23.setTop (mkF m 97 #[.val (.ref t1), .val (.int p1), .val (.int nd), .val (.int p1), .unset] [(.int (0 : Int32)), (.ref rc8)]))
      refine own_of (fun _ hh_ => XS.iloadN X23.here hx rfl (hb hby dF_97) rfl hh_) ?_
      show own_Run p e below s _ _ _ (T23.setTop (mkF m 98 #[.val (.ref t1), .val (.int p1), .val (.int nd), .val (.int p1), .unset] [(.int p1), (.int (0 : Int32)), (.ref rc8)]))
      refine own_of (fun _ hh_ => XS.i2b X23.here hx rfl (hb hby dF_98) rfl hh_) ?_
      show own_Run p e below s _ _ _ (T23.setTop (mkF m 99 #[.val (.ref t1), .val (.int p1), .val (.int nd), .val (.int p1), .unset] [(.int (p1.toInt8.toInt32)), (.int (0 : Int32)), (.ref rc8)]))
      obtain ⟨T29, h29, X29, e29, W29, V29, st29⟩ := own_bas X23 hx hZ e23 f27 (j := (0 : Int32)) (x := (p1.toInt8.toInt32)) (by decide) hl0 (pc := 99) (Ls := #[.val (.ref t1), .val (.int p1), .val (.int nd), .val (.int p1), .unset]) (rest := []) (hb hby dF_99)
      have N29 := Fr.snoc X29 N23 g_rc8
      have f30 := f24.wr W29
      have f31 := f25.other W29 (Or.inl ne_t1_rc8)
      have f32 := f23.other W29 (Or.inl ne_t1_rc8)
      have f33 := f26.other W29 ne_r_rc8
      have K34 := K28.wr W29 (Or.inr sz_rc8)
      replace V29 : own_Ar Z h29 rc8 .byte (gl).toNatClampNeg (own_up fc8 0 (p1.toInt8.toInt32).toInt8.toInt32) := V29
      refine own_of st29 ?_
      show own_Run p e below s _ _ _ (T29.setTop (mkF m 100 #[.val (.ref t1), .val (.int p1), .val (.int nd), .val (.int p1), .unset] []))
      refine own_of (fun _ hh_ => XS.aloadN X29.here hx rfl (hb hby dF_100) rfl rfl hh_) ?_
      show own_Run p e below s _ _ _ (T29.setTop (mkF m 101 #[.val (.ref t1), .val (.int p1), .val (.int nd), .val (.int p1), .unset] [(.ref t1)]))
      obtain ⟨T35, X35, e35, st35⟩ := getF X29 hx hZ hown (host := "") (Or.inl (hw _ (List.mem_of_getElem? (i := 21) rfl))) Via.refl e29 f32 (g := (mkF m 101 #[.val (.ref t1), .val (.int p1), .val (.int nd), .val (.int p1), .unset] [(.ref t1)])) rfl rfl (hb hby dF_101)
      refine own_of st35 ?_
      show own_Run p e below s _ _ _ (T35.setTop (mkF m 104 #[.val (.ref t1), .val (.int p1), .val (.int nd), .val (.int p1), .unset] [(.int (1 : Int32))]))
      refine own_of (fun _ hh_ => XS.istore X35.here hx rfl (hb hby dF_104) rfl (l' := #[.val (.ref t1), .val (.int p1), .val (.int nd), .val (.int p1), .val (.int (1 : Int32))]) rfl hh_) ?_
      show own_Run p e below s _ _ _ (T35.setTop (mkF m 106 #[.val (.ref t1), .val (.int p1), .val (.int nd), .val (.int p1), .val (.int (1 : Int32))] []))
      refine own_of (fun _ hh_ => XS.aloadN X35.here hx rfl (hb hby dF_106) rfl rfl hh_) ?_
      show own_Run p e below s _ _ _ (T35.setTop (mkF m 107 #[.val (.ref t1), .val (.int p1), .val (.int nd), .val (.int p1), .val (.int (1 : Int32))] [(.ref t1)]))
      refine own_of (fun _ hh_ => XS.dup X35.here hx rfl (hb hby dF_107) rfl rfl hh_) ?_
      show own_Run p e below s _ _ _ (T35.setTop (mkF m 108 #[.val (.ref t1), .val (.int p1), .val (.int nd), .val (.int p1), .val (.int (1 : Int32))] [(.ref t1), (.ref t1)]))
      obtain ⟨T36, X36, e36, st36⟩ := getF X35 hx hZ hown (host := "") (Or.inl (hw _ (List.mem_of_getElem? (i := 21) rfl))) Via.refl e35 f32 (g := (mkF m 108 #[.val (.ref t1), .val (.int p1), .val (.int nd), .val (.int p1), .val (.int (1 : Int32))] [(.ref t1), (.ref t1)])) rfl rfl (hb hby dF_108)
      refine own_of st36 ?_
      show own_Run p e below s _ _ _ (T36.setTop (mkF m 111 #[.val (.ref t1), .val (.int p1), .val (.int nd), .val (.int p1), .val (.int (1 : Int32))] [(.int (1 : Int32)), (.ref t1)]))
      refine own_of (fun _ hh_ => XS.iloadN X36.here hx rfl (hb hby dF_111) rfl hh_) ?_
      show own_Run p e below s _ _ _ (T36.setTop (mkF m 112 #[.val (.ref t1), .val (.int p1), .val (.int nd), .val (.int p1), .val (.int (1 : Int32))] [(.int p1), (.int (1 : Int32)), (.ref t1)]))
      refine own_of (fun _ hh_ => XS.iadd X36.here hx rfl (hb hby dF_112) rfl hh_) ?_
      show own_Run p e below s _ _ _ (T36.setTop (mkF m 113 #[.val (.ref t1), .val (.int p1), .val (.int nd), .val (.int p1), .val (.int (1 : Int32))] [(.int ((1 : Int32) + p1)), (.ref t1)]))
      obtain ⟨T37, h37, X37, e37, W37, st37⟩ := putF X36 hx hZ hown (host := "") (Or.inl (hw _ (List.mem_of_getElem? (i := 21) rfl))) Via.refl e36 f32 f30 (Or.inl (hw _ (List.mem_of_getElem? (i := 22) rfl))) (hw _ (List.mem_of_getElem? (i := 1) rfl)) (ty := .int) (by decide) rfl rfl (g := (mkF m 113 #[.val (.ref t1), .val (.int p1), .val (.int nd), .val (.int p1), .val (.int (1 : Int32))] [(.int ((1 : Int32) + p1)), (.ref t1)])) rfl rfl (hb hby dF_113)
      have f37 := f32.same W37
      have N37 := Fr.snoc X37 N29 g_t1
      have f38 := f30.wr W37
      have f39 := f31.other W37 (Or.inr (slot_ne (Or.inl (hw _ (List.mem_of_getElem? (i := 15) rfl))) (Or.inl (hw _ (List.mem_of_getElem? (i := 22) rfl))) (by decide) (t := (.array .byte)) (t' := .int) (by decide) (by decide)))
      have f40 := f33.other W37 (Ne.symm hne)
      have f41 := V29.other W37 (Ne.symm ne_t1_rc8)
      have K42 := K34.wr W37 (Or.inl (List.mem_of_getElem? (i := 0) rfl))
      refine own_of st37 ?_
      show own_Run p e below s _ _ _ (T37.setTop (mkF m 116 #[.val (.ref t1), .val (.int p1), .val (.int nd), .val (.int p1), .val (.int (1 : Int32))] []))
      refine own_of (fun _ hh_ => XS.iload X37.here hx rfl (hb hby dF_116) rfl hh_) ?_
      show own_Run p e below s _ _ _ (T37.setTop (mkF m 118 #[.val (.ref t1), .val (.int p1), .val (.int nd), .val (.int p1), .val (.int (1 : Int32))] [(.int (1 : Int32))]))
      exact own_retI X37 hx hret hlk (hb hby dF_118) (by rw [e37]; exact ⟨by rw [(show own_ls p1 = (1 : Int32) from if_pos hc49_20)], N37, K42, rc8, _, _, f39, (by rw [(show own_ls p1 = (1 : Int32) from if_pos hc49_20)]; exact f37), f41, (own_Fit_up Ft8 _), g_rc8, (by omega), Or.inl ⟨hc49_20, rfl⟩⟩) (by decide) (by decide)
    · refine own_of (fun _ hh_ => XS.icmpNo X14.here hx rfl (hb hby dF_49) rfl (flt hc49_20).1 hh_) ?_
      show own_Run p e below s _ _ _ (T14.setTop (mkF m 52 #[.val (.ref t1), .val (.int p1), .val (.int nd), .val (.int p1), .unset] []))
      refine own_of (fun _ hh_ => XS.aloadN X14.here hx rfl (hb hby dF_52) rfl rfl hh_) ?_
      show own_Run p e below s _ _ _ (T14.setTop (mkF m 53 #[.val (.ref t1), .val (.int p1), .val (.int nd), .val (.int p1), .unset] [(.ref t1)]))
      obtain ⟨T43, X43, e43, st43⟩ := getF X14 hx hZ hown (host := "") (Or.inl (hw _ (List.mem_of_getElem? (i := 14) rfl))) Via.refl e14 f14 (g := (mkF m 53 #[.val (.ref t1), .val (.int p1), .val (.int nd), .val (.int p1), .unset] [(.ref t1)])) rfl rfl (hb hby dF_53)
      refine own_of st43 ?_
      show own_Run p e below s _ _ _ (T43.setTop (mkF m 56 #[.val (.ref t1), .val (.int p1), .val (.int nd), .val (.int p1), .unset] [(.ref rc8)]))
      refine own_of (fun _ hh_ => XS.aloadN X43.here hx rfl (hb hby dF_56) rfl rfl hh_) ?_
      show own_Run p e below s _ _ _ (T43.setTop (mkF m 57 #[.val (.ref t1), .val (.int p1), .val (.int nd), .val (.int p1), .unset] [(.ref t1), (.ref rc8)]))
      refine own_of (fun _ hh_ => XS.dup X43.here hx rfl (hb hby dF_57) rfl rfl hh_) ?_
      show own_Run p e below s _ _ _ (T43.setTop (mkF m 58 #[.val (.ref t1), .val (.int p1), .val (.int nd), .val (.int p1), .unset] [(.ref t1), (.ref t1), (.ref rc8)]))
      obtain ⟨T44, X44, e44, st44⟩ := getF X43 hx hZ hown (host := "") (Or.inl (hw _ (List.mem_of_getElem? (i := 21) rfl))) Via.refl e43 f16 (g := (mkF m 58 #[.val (.ref t1), .val (.int p1), .val (.int nd), .val (.int p1), .unset] [(.ref t1), (.ref t1), (.ref rc8)])) rfl rfl (hb hby dF_58)
      refine own_of st44 ?_
      show own_Run p e below s _ _ _ (T44.setTop (mkF m 61 #[.val (.ref t1), .val (.int p1), .val (.int nd), .val (.int p1), .unset] [(.int (0 : Int32)), (.ref t1), (.ref rc8)]))
      refine own_of (fun _ hh_ => XS.dupX1 X44.here hx rfl (hb hby dF_61) rfl rfl rfl hh_) ?_
      show own_Run p e below s _ _ _ (T44.setTop (mkF m 62 #[.val (.ref t1), .val (.int p1), .val (.int nd), .val (.int p1), .unset] [(.int (0 : Int32)), (.ref t1), (.int (0 : Int32)), (.ref rc8)]))
      refine own_of (fun _ hh_ => XS.iconst X44.here hx rfl (hb hby dF_62) hh_) ?_
      show own_Run p e below s _ _ _ (T44.setTop (mkF m 63 #[.val (.ref t1), .val (.int p1), .val (.int nd), .val (.int p1), .unset] [(.int (1 : Int32)), (.int (0 : Int32)), (.ref t1), (.int (0 : Int32)), (.ref rc8)]))
      refine own_of (fun _ hh_ => XS.iadd X44.here hx rfl (hb hby dF_63) rfl hh_) ?_
      show own_Run p e below s _ _ _ (T44.setTop (mkF m 64 #[.val (.ref t1), .val (.int p1), .val (.int nd), .val (.int p1), .unset] [(.int (1 : Int32)), (.ref t1), (.int (0 : Int32)), (.ref rc8)]))
      obtain ⟨T45, h45, X45, e45, W45, st45⟩ := putF X44 hx hZ hown (host := "") (Or.inl (hw _ (List.mem_of_getElem? (i := 21) rfl))) Via.refl e44 f16 f15 (Or.inl (hw _ (List.mem_of_getElem? (i := 22) rfl))) (hw _ (List.mem_of_getElem? (i := 1) rfl)) (ty := .int) (by decide) rfl rfl (g := (mkF m 64 #[.val (.ref t1), .val (.int p1), .val (.int nd), .val (.int p1), .unset] [(.int (1 : Int32)), (.ref t1), (.int (0 : Int32)), (.ref rc8)])) rfl rfl (hb hby dF_64)
      have f45 := f16.same W45
      have N45 := Fr.snoc X45 N14 g_t1
      have f46 := f15.wr W45
      have f47 := f14.other W45 (Or.inr (slot_ne (Or.inl (hw _ (List.mem_of_getElem? (i := 15) rfl))) (Or.inl (hw _ (List.mem_of_getElem? (i := 22) rfl))) (by decide) (t := (.array .byte)) (t' := .int) (by decide) (by decide)))
      have f48 := f17.other W45 (Ne.symm hne)
      have f49 := f18.other W45 (Ne.symm ne_t1_rc8)
      have K50 := K19.wr W45 (Or.inl (List.mem_of_getElem? (i := 0) rfl))
      refine own_of st45 ?_
      show own_Run p e below s _ _ _ (T45.setTop (mkF m 67 #[.val (.ref t1), .val (.int p1), .val (.int nd), .val (.int p1), .unset] [(.int (0 : Int32)), (.ref rc8)]))
      refine own_of (fun _ hh_ => XS.iloadN X45.here hx rfl (hb hby dF_67) rfl hh_) ?_
      show own_Run p e below s _ _ _ (T45.setTop (mkF m 68 #[.val (.ref t1), .val (.int p1), .val (.int nd), .val (.int p1), .unset] [(.int p1), (.int (0 : Int32)), (.ref rc8)]))
      refine own_of (fun _ hh_ => XS.sipush X45.here hx rfl (hb hby dF_68) hh_) ?_
      show own_Run p e below s _ _ _ (T45.setTop (mkF m 71 #[.val (.ref t1), .val (.int p1), .val (.int nd), .val (.int p1), .unset] [(.int (128 : Int32)), (.int p1), (.int (0 : Int32)), (.ref rc8)]))
      refine own_of (fun _ hh_ => XS.ior X45.here hx rfl (hb hby dF_71) rfl hh_) ?_
      show own_Run p e below s _ _ _ (T45.setTop (mkF m 72 #[.val (.ref t1), .val (.int p1), .val (.int nd), .val (.int p1), .unset] [(.int (p1 ||| (128 : Int32))), (.int (0 : Int32)), (.ref rc8)]))
      refine own_of (fun _ hh_ => XS.i2b X45.here hx rfl (hb hby dF_72) rfl hh_) ?_
      show own_Run p e below s _ _ _ (T45.setTop (mkF m 73 #[.val (.ref t1), .val (.int p1), .val (.int nd), .val (.int p1), .unset] [(.int ((p1 ||| (128 : Int32)).toInt8.toInt32)), (.int (0 : Int32)), (.ref rc8)]))
      obtain ⟨T51, h51, X51, e51, W51, V51, st51⟩ := own_bas X45 hx hZ e45 f49 (j := (0 : Int32)) (x := ((p1 ||| (128 : Int32)).toInt8.toInt32)) (by decide) hl0 (pc := 73) (Ls := #[.val (.ref t1), .val (.int p1), .val (.int nd), .val (.int p1), .unset]) (rest := []) (hb hby dF_73)
      have N51 := Fr.snoc X51 N45 g_rc8
      have f52 := f46.wr W51
      have f53 := f47.other W51 (Or.inl ne_t1_rc8)
      have f54 := f45.other W51 (Or.inl ne_t1_rc8)
      have f55 := f48.other W51 ne_r_rc8
      have K56 := K50.wr W51 (Or.inr sz_rc8)
      replace V51 : own_Ar Z h51 rc8 .byte (gl).toNatClampNeg (own_up fc8 0 ((p1 ||| (128 : Int32)).toInt8.toInt32).toInt8.toInt32) := V51
      refine own_of st51 ?_
      show own_Run p e below s _ _ _ (T51.setTop (mkF m 74 #[.val (.ref t1), .val (.int p1), .val (.int nd), .val (.int p1), .unset] []))
      have hl1 : (1 : Int32).toNatClampNeg < (gl).toNatClampNeg := by have z := mt Int32.lt_iff_toInt_lt.mpr hc49_20; have l : (128 : Int32).toInt = 128 := rfl; show 1 < (gl).toNatClampNeg; omega
      refine own_of (fun _ hh_ => XS.iloadN X51.here hx rfl (hb hby dF_74) rfl hh_) ?_
      show own_Run p e below s _ _ _ (T51.setTop (mkF m 75 #[.val (.ref t1), .val (.int p1), .val (.int nd), .val (.int p1), .unset] [(.int p1)]))
      refine own_of (fun _ hh_ => XS.bipush X51.here hx rfl (hb hby dF_75) hh_) ?_
      show own_Run p e below s _ _ _ (T51.setTop (mkF m 77 #[.val (.ref t1), .val (.int p1), .val (.int nd), .val (.int p1), .unset] [(.int (7 : Int32)), (.int p1)]))
      refine own_of (fun _ hh_ => XS.iushr X51.here hx rfl (hb hby dF_77) rfl hh_) ?_
      show own_Run p e below s _ _ _ (T51.setTop (mkF m 78 #[.val (.ref t1), .val (.int p1), .val (.int nd), .val (.int p1), .unset] [(.int ((p1.toUInt32 >>> ((7 : Int32) &&& 31).toUInt32).toInt32))]))
      refine own_of (fun _ hh_ => XS.istoreN X51.here hx rfl (hb hby dF_78) rfl (l' := #[.val (.ref t1), .val (.int p1), .val (.int nd), .val (.int ((p1.toUInt32 >>> ((7 : Int32) &&& 31).toUInt32).toInt32)), .unset]) rfl hh_) ?_
      show own_Run p e below s _ _ _ (T51.setTop (mkF m 79 #[.val (.ref t1), .val (.int p1), .val (.int nd), .val (.int ((p1.toUInt32 >>> ((7 : Int32) &&& 31).toUInt32).toInt32)), .unset] []))
      refine own_of (fun _ hh_ => XS.goto X51.here hx rfl (pc0 := 79) (pc' := 45) rfl (hb hby dF_79) (by decide) (by decide) hh_) ?_
      show own_Run p e below s _ _ _ (T51.setTop (mkF m 45 #[.val (.ref t1), .val (.int p1), .val (.int nd), .val (.int ((p1.toUInt32 >>> ((7 : Int32) &&& 31).toUInt32).toInt32)), .unset] []))
      refine own_of (fun _ hh_ => XS.iloadN X51.here hx rfl (hb hby dF_45) rfl hh_) ?_
      show own_Run p e below s _ _ _ (T51.setTop (mkF m 46 #[.val (.ref t1), .val (.int p1), .val (.int nd), .val (.int ((p1.toUInt32 >>> ((7 : Int32) &&& 31).toUInt32).toInt32)), .unset] [(.int ((p1.toUInt32 >>> ((7 : Int32) &&& 31).toUInt32).toInt32))]))
      refine own_of (fun _ hh_ => XS.sipush X51.here hx rfl (hb hby dF_46) hh_) ?_
      show own_Run p e below s _ _ _ (T51.setTop (mkF m 49 #[.val (.ref t1), .val (.int p1), .val (.int nd), .val (.int ((p1.toUInt32 >>> ((7 : Int32) &&& 31).toUInt32).toInt32)), .unset] [(.int (128 : Int32)), (.int ((p1.toUInt32 >>> ((7 : Int32) &&& 31).toUInt32).toInt32))]))
      have hc49_57 : ((p1.toUInt32 >>> ((7 : Int32) &&& 31).toUInt32).toInt32) < (128 : Int32) := by apply Int32.lt_iff_toInt_lt.mpr; rw [own_sh7 p1 h0p]; have l : (128 : Int32).toInt = 128 := rfl; omega
      refine own_of (fun _ hh_ => XS.icmpYes X51.here hx rfl (pc0 := 49) (pc' := 82) rfl (hb hby dF_49) rfl (tlt hc49_57).1 (by decide) (by decide) hh_) ?_
      show own_Run p e below s _ _ _ (T51.setTop (mkF m 82 #[.val (.ref t1), .val (.int p1), .val (.int nd), .val (.int ((p1.toUInt32 >>> ((7 : Int32) &&& 31).toUInt32).toInt32)), .unset] []))
      refine own_of (fun _ hh_ => XS.aloadN X51.here hx rfl (hb hby dF_82) rfl rfl hh_) ?_
      show own_Run p e below s _ _ _ (T51.setTop (mkF m 83 #[.val (.ref t1), .val (.int p1), .val (.int nd), .val (.int ((p1.toUInt32 >>> ((7 : Int32) &&& 31).toUInt32).toInt32)), .unset] [(.ref t1)]))
      obtain ⟨T58, X58, e58, st58⟩ := getF X51 hx hZ hown (host := "") (Or.inl (hw _ (List.mem_of_getElem? (i := 14) rfl))) Via.refl e51 f53 (g := (mkF m 83 #[.val (.ref t1), .val (.int p1), .val (.int nd), .val (.int ((p1.toUInt32 >>> ((7 : Int32) &&& 31).toUInt32).toInt32)), .unset] [(.ref t1)])) rfl rfl (hb hby dF_83)
      refine own_of st58 ?_
      show own_Run p e below s _ _ _ (T58.setTop (mkF m 86 #[.val (.ref t1), .val (.int p1), .val (.int nd), .val (.int ((p1.toUInt32 >>> ((7 : Int32) &&& 31).toUInt32).toInt32)), .unset] [(.ref rc8)]))
      refine own_of (fun _ hh_ => XS.aloadN X58.here hx rfl (hb hby dF_86) rfl rfl hh_) ?_
      show own_Run p e below s _ _ _ (T58.setTop (mkF m 87 #[.val (.ref t1), .val (.int p1), .val (.int nd), .val (.int ((p1.toUInt32 >>> ((7 : Int32) &&& 31).toUInt32).toInt32)), .unset] [(.ref t1), (.ref rc8)]))
      refine own_of (fun _ hh_ => XS.dup X58.here hx rfl (hb hby dF_87) rfl rfl hh_) ?_
      show own_Run p e below s _ _ _ (T58.setTop (mkF m 88 #[.val (.ref t1), .val (.int p1), .val (.int nd), .val (.int ((p1.toUInt32 >>> ((7 : Int32) &&& 31).toUInt32).toInt32)), .unset] [(.ref t1), (.ref t1), (.ref rc8)]))
      obtain ⟨T59, X59, e59, st59⟩ := getF X58 hx hZ hown (host := "") (Or.inl (hw _ (List.mem_of_getElem? (i := 21) rfl))) Via.refl e58 f54 (g := (mkF m 88 #[.val (.ref t1), .val (.int p1), .val (.int nd), .val (.int ((p1.toUInt32 >>> ((7 : Int32) &&& 31).toUInt32).toInt32)), .unset] [(.ref t1), (.ref t1), (.ref rc8)])) rfl rfl (hb hby dF_88)
      refine own_of st59 ?_
      show own_Run p e below s _ _ _ (T59.setTop (mkF m 91 #[.val (.ref t1), .val (.int p1), .val (.int nd), .val (.int ((p1.toUInt32 >>> ((7 : Int32) &&& 31).toUInt32).toInt32)), .unset] [(.int (1 : Int32)), (.ref t1), (.ref rc8)]))
      refine own_of (fun _ hh_ => XS.dupX1 X59.here hx rfl (hb hby dF_91) rfl rfl rfl hh_) ?_
      show own_Run p e below s _ _ _ (T59.setTop (mkF m 92 #[.val (.ref t1), .val (.int p1), .val (.int nd), .val (.int ((p1.toUInt32 >>> ((7 : Int32) &&& 31).toUInt32).toInt32)), .unset] [(.int (1 : Int32)), (.ref t1), (.int (1 : Int32)), (.ref rc8)]))
      refine own_of (fun _ hh_ => XS.iconst X59.here hx rfl (hb hby dF_92) hh_) ?_
      show own_Run p e below s _ _ _ (T59.setTop (mkF m 93 #[.val (.ref t1), .val (.int p1), .val (.int nd), .val (.int ((p1.toUInt32 >>> ((7 : Int32) &&& 31).toUInt32).toInt32)), .unset] [(.int (1 : Int32)), (.int (1 : Int32)), (.ref t1), (.int (1 : Int32)), (.ref rc8)]))
      refine own_of (fun _ hh_ => XS.iadd X59.here hx rfl (hb hby dF_93) rfl hh_) ?_
      show own_Run p e below s _ _ _ (T59.setTop (mkF m 94 #[.val (.ref t1), .val (.int p1), .val (.int nd), .val (.int ((p1.toUInt32 >>> ((7 : Int32) &&& 31).toUInt32).toInt32)), .unset] [(.int (2 : Int32)), (.ref t1), (.int (1 : Int32)), (.ref rc8)]))
      obtain ⟨T60, h60, X60, e60, W60, st60⟩ := putF X59 hx hZ hown (host := "") (Or.inl (hw _ (List.mem_of_getElem? (i := 21) rfl))) Via.refl e59 f54 f52 (Or.inl (hw _ (List.mem_of_getElem? (i := 22) rfl))) (hw _ (List.mem_of_getElem? (i := 1) rfl)) (ty := .int) (by decide) rfl rfl (g := (mkF m 94 #[.val (.ref t1), .val (.int p1), .val (.int nd), .val (.int ((p1.toUInt32 >>> ((7 : Int32) &&& 31).toUInt32).toInt32)), .unset] [(.int (2 : Int32)), (.ref t1), (.int (1 : Int32)), (.ref rc8)])) rfl rfl (hb hby dF_94)
      have f60 := f54.same W60
      have N60 := Fr.snoc X60 N51 g_t1
      have f61 := f52.wr W60
      have f62 := f53.other W60 (Or.inr (slot_ne (Or.inl (hw _ (List.mem_of_getElem? (i := 15) rfl))) (Or.inl (hw _ (List.mem_of_getElem? (i := 22) rfl))) (by decide) (t := (.array .byte)) (t' := .int) (by decide) (by decide)))
      have f63 := f55.other W60 (Ne.symm hne)
      have f64 := V51.other W60 (Ne.symm ne_t1_rc8)
      have K65 := K56.wr W60 (Or.inl (List.mem_of_getElem? (i := 0) rfl))
      refine own_of st60 ?_
      show own_Run p e below s _ _ _ (T60.setTop (mkF m 97 #[.val (.ref t1), .val (.int p1), .val (.int nd), .val (.int ((p1.toUInt32 >>> ((7 : Int32) &&& 31).toUInt32).toInt32)), .unset] [(.int (1 : Int32)), (.ref rc8)]))
      refine own_of (fun _ hh_ => XS.iloadN X60.here hx rfl (hb hby dF_97) rfl hh_) ?_
      show own_Run p e below s _ _ _ (T60.setTop (mkF m 98 #[.val (.ref t1), .val (.int p1), .val (.int nd), .val (.int ((p1.toUInt32 >>> ((7 : Int32) &&& 31).toUInt32).toInt32)), .unset] [(.int ((p1.toUInt32 >>> ((7 : Int32) &&& 31).toUInt32).toInt32)), (.int (1 : Int32)), (.ref rc8)]))
      refine own_of (fun _ hh_ => XS.i2b X60.here hx rfl (hb hby dF_98) rfl hh_) ?_
      show own_Run p e below s _ _ _ (T60.setTop (mkF m 99 #[.val (.ref t1), .val (.int p1), .val (.int nd), .val (.int ((p1.toUInt32 >>> ((7 : Int32) &&& 31).toUInt32).toInt32)), .unset] [(.int (((p1.toUInt32 >>> ((7 : Int32) &&& 31).toUInt32).toInt32).toInt8.toInt32)), (.int (1 : Int32)), (.ref rc8)]))
      obtain ⟨T66, h66, X66, e66, W66, V66, st66⟩ := own_bas X60 hx hZ e60 f64 (j := (1 : Int32)) (x := (((p1.toUInt32 >>> ((7 : Int32) &&& 31).toUInt32).toInt32).toInt8.toInt32)) (by decide) hl1 (pc := 99) (Ls := #[.val (.ref t1), .val (.int p1), .val (.int nd), .val (.int ((p1.toUInt32 >>> ((7 : Int32) &&& 31).toUInt32).toInt32)), .unset]) (rest := []) (hb hby dF_99)
      have N66 := Fr.snoc X66 N60 g_rc8
      have f67 := f61.wr W66
      have f68 := f62.other W66 (Or.inl ne_t1_rc8)
      have f69 := f60.other W66 (Or.inl ne_t1_rc8)
      have f70 := f63.other W66 ne_r_rc8
      have K71 := K65.wr W66 (Or.inr sz_rc8)
      replace V66 : own_Ar Z h66 rc8 .byte (gl).toNatClampNeg (own_up (own_up fc8 0 ((p1 ||| (128 : Int32)).toInt8.toInt32).toInt8.toInt32) 1 (((p1.toUInt32 >>> ((7 : Int32) &&& 31).toUInt32).toInt32).toInt8.toInt32).toInt8.toInt32) := V66
      refine own_of st66 ?_
      show own_Run p e below s _ _ _ (T66.setTop (mkF m 100 #[.val (.ref t1), .val (.int p1), .val (.int nd), .val (.int ((p1.toUInt32 >>> ((7 : Int32) &&& 31).toUInt32).toInt32)), .unset] []))
      refine own_of (fun _ hh_ => XS.aloadN X66.here hx rfl (hb hby dF_100) rfl rfl hh_) ?_
      show own_Run p e below s _ _ _ (T66.setTop (mkF m 101 #[.val (.ref t1), .val (.int p1), .val (.int nd), .val (.int ((p1.toUInt32 >>> ((7 : Int32) &&& 31).toUInt32).toInt32)), .unset] [(.ref t1)]))
      obtain ⟨T72, X72, e72, st72⟩ := getF X66 hx hZ hown (host := "") (Or.inl (hw _ (List.mem_of_getElem? (i := 21) rfl))) Via.refl e66 f69 (g := (mkF m 101 #[.val (.ref t1), .val (.int p1), .val (.int nd), .val (.int ((p1.toUInt32 >>> ((7 : Int32) &&& 31).toUInt32).toInt32)), .unset] [(.ref t1)])) rfl rfl (hb hby dF_101)
      refine own_of st72 ?_
      show own_Run p e below s _ _ _ (T72.setTop (mkF m 104 #[.val (.ref t1), .val (.int p1), .val (.int nd), .val (.int ((p1.toUInt32 >>> ((7 : Int32) &&& 31).toUInt32).toInt32)), .unset] [(.int (2 : Int32))]))
      refine own_of (fun _ hh_ => XS.istore X72.here hx rfl (hb hby dF_104) rfl (l' := #[.val (.ref t1), .val (.int p1), .val (.int nd), .val (.int ((p1.toUInt32 >>> ((7 : Int32) &&& 31).toUInt32).toInt32)), .val (.int (2 : Int32))]) rfl hh_) ?_
      show own_Run p e below s _ _ _ (T72.setTop (mkF m 106 #[.val (.ref t1), .val (.int p1), .val (.int nd), .val (.int ((p1.toUInt32 >>> ((7 : Int32) &&& 31).toUInt32).toInt32)), .val (.int (2 : Int32))] []))
      refine own_of (fun _ hh_ => XS.aloadN X72.here hx rfl (hb hby dF_106) rfl rfl hh_) ?_
      show own_Run p e below s _ _ _ (T72.setTop (mkF m 107 #[.val (.ref t1), .val (.int p1), .val (.int nd), .val (.int ((p1.toUInt32 >>> ((7 : Int32) &&& 31).toUInt32).toInt32)), .val (.int (2 : Int32))] [(.ref t1)]))
      refine own_of (fun _ hh_ => XS.dup X72.here hx rfl (hb hby dF_107) rfl rfl hh_) ?_
      show own_Run p e below s _ _ _ (T72.setTop (mkF m 108 #[.val (.ref t1), .val (.int p1), .val (.int nd), .val (.int ((p1.toUInt32 >>> ((7 : Int32) &&& 31).toUInt32).toInt32)), .val (.int (2 : Int32))] [(.ref t1), (.ref t1)]))
      obtain ⟨T73, X73, e73, st73⟩ := getF X72 hx hZ hown (host := "") (Or.inl (hw _ (List.mem_of_getElem? (i := 21) rfl))) Via.refl e72 f69 (g := (mkF m 108 #[.val (.ref t1), .val (.int p1), .val (.int nd), .val (.int ((p1.toUInt32 >>> ((7 : Int32) &&& 31).toUInt32).toInt32)), .val (.int (2 : Int32))] [(.ref t1), (.ref t1)])) rfl rfl (hb hby dF_108)
      refine own_of st73 ?_
      show own_Run p e below s _ _ _ (T73.setTop (mkF m 111 #[.val (.ref t1), .val (.int p1), .val (.int nd), .val (.int ((p1.toUInt32 >>> ((7 : Int32) &&& 31).toUInt32).toInt32)), .val (.int (2 : Int32))] [(.int (2 : Int32)), (.ref t1)]))
      refine own_of (fun _ hh_ => XS.iloadN X73.here hx rfl (hb hby dF_111) rfl hh_) ?_
      show own_Run p e below s _ _ _ (T73.setTop (mkF m 112 #[.val (.ref t1), .val (.int p1), .val (.int nd), .val (.int ((p1.toUInt32 >>> ((7 : Int32) &&& 31).toUInt32).toInt32)), .val (.int (2 : Int32))] [(.int p1), (.int (2 : Int32)), (.ref t1)]))
      refine own_of (fun _ hh_ => XS.iadd X73.here hx rfl (hb hby dF_112) rfl hh_) ?_
      show own_Run p e below s _ _ _ (T73.setTop (mkF m 113 #[.val (.ref t1), .val (.int p1), .val (.int nd), .val (.int ((p1.toUInt32 >>> ((7 : Int32) &&& 31).toUInt32).toInt32)), .val (.int (2 : Int32))] [(.int ((2 : Int32) + p1)), (.ref t1)]))
      obtain ⟨T74, h74, X74, e74, W74, st74⟩ := putF X73 hx hZ hown (host := "") (Or.inl (hw _ (List.mem_of_getElem? (i := 21) rfl))) Via.refl e73 f69 f67 (Or.inl (hw _ (List.mem_of_getElem? (i := 22) rfl))) (hw _ (List.mem_of_getElem? (i := 1) rfl)) (ty := .int) (by decide) rfl rfl (g := (mkF m 113 #[.val (.ref t1), .val (.int p1), .val (.int nd), .val (.int ((p1.toUInt32 >>> ((7 : Int32) &&& 31).toUInt32).toInt32)), .val (.int (2 : Int32))] [(.int ((2 : Int32) + p1)), (.ref t1)])) rfl rfl (hb hby dF_113)
      have f74 := f69.same W74
      have N74 := Fr.snoc X74 N66 g_t1
      have f75 := f67.wr W74
      have f76 := f68.other W74 (Or.inr (slot_ne (Or.inl (hw _ (List.mem_of_getElem? (i := 15) rfl))) (Or.inl (hw _ (List.mem_of_getElem? (i := 22) rfl))) (by decide) (t := (.array .byte)) (t' := .int) (by decide) (by decide)))
      have f77 := f70.other W74 (Ne.symm hne)
      have f78 := V66.other W74 (Ne.symm ne_t1_rc8)
      have K79 := K71.wr W74 (Or.inl (List.mem_of_getElem? (i := 0) rfl))
      refine own_of st74 ?_
      show own_Run p e below s _ _ _ (T74.setTop (mkF m 116 #[.val (.ref t1), .val (.int p1), .val (.int nd), .val (.int ((p1.toUInt32 >>> ((7 : Int32) &&& 31).toUInt32).toInt32)), .val (.int (2 : Int32))] []))
      refine own_of (fun _ hh_ => XS.iload X74.here hx rfl (hb hby dF_116) rfl hh_) ?_
      show own_Run p e below s _ _ _ (T74.setTop (mkF m 118 #[.val (.ref t1), .val (.int p1), .val (.int nd), .val (.int ((p1.toUInt32 >>> ((7 : Int32) &&& 31).toUInt32).toInt32)), .val (.int (2 : Int32))] [(.int (2 : Int32))]))
      exact own_retI X74 hx hret hlk (hb hby dF_118) (by rw [e74]; exact ⟨by rw [(show own_ls p1 = (2 : Int32) from if_neg hc49_20)], N74, K79, rc8, _, _, f76, (by rw [(show own_ls p1 = (2 : Int32) from if_neg hc49_20)]; exact f74), f78, (own_Fit_up (own_Fit_up Ft8 _) _), g_rc8, (by omega), Or.inr ⟨hc49_20, rfl, rfl⟩⟩) (by decide) (by decide)
  · refine own_of (fun _ hh_ => XS.icmpYes X3.here hx rfl (pc0 := 18) (pc' := 43) rfl (hb hby dF_18) rfl (flt hc18_4).2.2.2 (by decide) (by decide) hh_) ?_
    show own_Run p e below s _ _ _ (T3.setTop (mkF m 43 #[.val (.ref t1), .val (.int p1), .val (.int nd), .unset, .unset] []))
    have hlen : nd.toInt ≤ (n : Int) := by have z := mt Int32.lt_iff_toInt_lt.mpr hc18_4; rw [hnl] at z; omega
    have hls2 := own_ls_i p1
    have hl0 : (0 : Int32).toNatClampNeg < n := by show 0 < n; omega
    refine own_of (fun _ hh_ => XS.iloadN X3.here hx rfl (hb hby dF_43) rfl hh_) ?_
    show own_Run p e below s _ _ _ (T3.setTop (mkF m 44 #[.val (.ref t1), .val (.int p1), .val (.int nd), .unset, .unset] [(.int p1)]))
    refine own_of (fun _ hh_ => XS.istoreN X3.here hx rfl (hb hby dF_44) rfl (l' := #[.val (.ref t1), .val (.int p1), .val (.int nd), .val (.int p1), .unset]) rfl hh_) ?_
    show own_Run p e below s _ _ _ (T3.setTop (mkF m 45 #[.val (.ref t1), .val (.int p1), .val (.int nd), .val (.int p1), .unset] []))
    refine own_of (fun _ hh_ => XS.iloadN X3.here hx rfl (hb hby dF_45) rfl hh_) ?_
    show own_Run p e below s _ _ _ (T3.setTop (mkF m 46 #[.val (.ref t1), .val (.int p1), .val (.int nd), .val (.int p1), .unset] [(.int p1)]))
    refine own_of (fun _ hh_ => XS.sipush X3.here hx rfl (hb hby dF_46) hh_) ?_
    show own_Run p e below s _ _ _ (T3.setTop (mkF m 49 #[.val (.ref t1), .val (.int p1), .val (.int nd), .val (.int p1), .unset] [(.int (128 : Int32)), (.int p1)]))
    by_cases hc49_80 : p1 < (128 : Int32)
    · refine own_of (fun _ hh_ => XS.icmpYes X3.here hx rfl (pc0 := 49) (pc' := 82) rfl (hb hby dF_49) rfl (tlt hc49_80).1 (by decide) (by decide) hh_) ?_
      show own_Run p e below s _ _ _ (T3.setTop (mkF m 82 #[.val (.ref t1), .val (.int p1), .val (.int nd), .val (.int p1), .unset] []))
      refine own_of (fun _ hh_ => XS.aloadN X3.here hx rfl (hb hby dF_82) rfl rfl hh_) ?_
      show own_Run p e below s _ _ _ (T3.setTop (mkF m 83 #[.val (.ref t1), .val (.int p1), .val (.int nd), .val (.int p1), .unset] [(.ref t1)]))
      obtain ⟨T81, X81, e81, st81⟩ := getF X3 hx hZ hown (host := "") (Or.inl (hw _ (List.mem_of_getElem? (i := 14) rfl))) Via.refl e3 Fb (g := (mkF m 83 #[.val (.ref t1), .val (.int p1), .val (.int nd), .val (.int p1), .unset] [(.ref t1)])) rfl rfl (hb hby dF_83)
      refine own_of st81 ?_
      show own_Run p e below s _ _ _ (T81.setTop (mkF m 86 #[.val (.ref t1), .val (.int p1), .val (.int nd), .val (.int p1), .unset] [(.ref r)]))
      refine own_of (fun _ hh_ => XS.aloadN X81.here hx rfl (hb hby dF_86) rfl rfl hh_) ?_
      show own_Run p e below s _ _ _ (T81.setTop (mkF m 87 #[.val (.ref t1), .val (.int p1), .val (.int nd), .val (.int p1), .unset] [(.ref t1), (.ref r)]))
      refine own_of (fun _ hh_ => XS.dup X81.here hx rfl (hb hby dF_87) rfl rfl hh_) ?_
      show own_Run p e below s _ _ _ (T81.setTop (mkF m 88 #[.val (.ref t1), .val (.int p1), .val (.int nd), .val (.int p1), .unset] [(.ref t1), (.ref t1), (.ref r)]))
      obtain ⟨T82, X82, e82, st82⟩ := getF X81 hx hZ hown (host := "") (Or.inl (hw _ (List.mem_of_getElem? (i := 21) rfl))) Via.refl e81 Fs (g := (mkF m 88 #[.val (.ref t1), .val (.int p1), .val (.int nd), .val (.int p1), .unset] [(.ref t1), (.ref t1), (.ref r)])) rfl rfl (hb hby dF_88)
      refine own_of st82 ?_
      show own_Run p e below s _ _ _ (T82.setTop (mkF m 91 #[.val (.ref t1), .val (.int p1), .val (.int nd), .val (.int p1), .unset] [(.int (0 : Int32)), (.ref t1), (.ref r)]))
      refine own_of (fun _ hh_ => XS.dupX1 X82.here hx rfl (hb hby dF_91) rfl rfl rfl hh_) ?_
      show own_Run p e below s _ _ _ (T82.setTop (mkF m 92 #[.val (.ref t1), .val (.int p1), .val (.int nd), .val (.int p1), .unset] [(.int (0 : Int32)), (.ref t1), (.int (0 : Int32)), (.ref r)]))
      refine own_of (fun _ hh_ => XS.iconst X82.here hx rfl (hb hby dF_92) hh_) ?_
      show own_Run p e below s _ _ _ (T82.setTop (mkF m 93 #[.val (.ref t1), .val (.int p1), .val (.int nd), .val (.int p1), .unset] [(.int (1 : Int32)), (.int (0 : Int32)), (.ref t1), (.int (0 : Int32)), (.ref r)]))
      refine own_of (fun _ hh_ => XS.iadd X82.here hx rfl (hb hby dF_93) rfl hh_) ?_
      show own_Run p e below s _ _ _ (T82.setTop (mkF m 94 #[.val (.ref t1), .val (.int p1), .val (.int nd), .val (.int p1), .unset] [(.int (1 : Int32)), (.ref t1), (.int (0 : Int32)), (.ref r)]))
      obtain ⟨T83, h83, X83, e83, W83, st83⟩ := putF X82 hx hZ hown (host := "") (Or.inl (hw _ (List.mem_of_getElem? (i := 21) rfl))) Via.refl e82 Fs Ex (Or.inl (hw _ (List.mem_of_getElem? (i := 22) rfl))) (hw _ (List.mem_of_getElem? (i := 1) rfl)) (ty := .int) (by decide) rfl rfl (g := (mkF m 94 #[.val (.ref t1), .val (.int p1), .val (.int nd), .val (.int p1), .unset] [(.int (1 : Int32)), (.ref t1), (.int (0 : Int32)), (.ref r)])) rfl rfl (hb hby dF_94)
      have f83 := Fs.same W83
      have N83 := Fr.snoc X83 N2 g_t1
      have f84 := Ex.wr W83
      have f85 := Fb.other W83 (Or.inr (slot_ne (Or.inl (hw _ (List.mem_of_getElem? (i := 15) rfl))) (Or.inl (hw _ (List.mem_of_getElem? (i := 22) rfl))) (by decide) (t := (.array .byte)) (t' := .int) (by decide) (by decide)))
      have f86 := A.other W83 (Ne.symm hne)
      have K87 := K0.wr W83 (Or.inl (List.mem_of_getElem? (i := 0) rfl))
      refine own_of st83 ?_
      show own_Run p e below s _ _ _ (T83.setTop (mkF m 97 #[.val (.ref t1), .val (.int p1), .val (.int nd), .val (.int p1), .unset] [(.int (0 : Int32)), (.ref r)]))
      refine own_of (fun _ hh_ => XS.iloadN X83.here hx rfl (hb hby dF_97) rfl hh_) ?_
      show own_Run p e below s _ _ _ (T83.setTop (mkF m 98 #[.val (.ref t1), .val (.int p1), .val (.int nd), .val (.int p1), .unset] [(.int p1), (.int (0 : Int32)), (.ref r)]))
      refine own_of (fun _ hh_ => XS.i2b X83.here hx rfl (hb hby dF_98) rfl hh_) ?_
      show own_Run p e below s _ _ _ (T83.setTop (mkF m 99 #[.val (.ref t1), .val (.int p1), .val (.int nd), .val (.int p1), .unset] [(.int (p1.toInt8.toInt32)), (.int (0 : Int32)), (.ref r)]))
      obtain ⟨T88, h88, X88, e88, W88, V88, st88⟩ := own_bas X83 hx hZ e83 f86 (j := (0 : Int32)) (x := (p1.toInt8.toInt32)) (by decide) hl0 (pc := 99) (Ls := #[.val (.ref t1), .val (.int p1), .val (.int nd), .val (.int p1), .unset]) (rest := []) (hb hby dF_99)
      have N88 := Fr.snoc X88 N83 g_r
      have f89 := f84.wr W88
      have f90 := f85.other W88 (Or.inl hne)
      have f91 := f83.other W88 (Or.inl hne)
      have K92 := K87.wr W88 (Or.inl (List.mem_of_getElem? (i := 1) rfl))
      replace V88 : own_Ar Z h88 r .byte n (own_up f 0 (p1.toInt8.toInt32).toInt8.toInt32) := V88
      refine own_of st88 ?_
      show own_Run p e below s _ _ _ (T88.setTop (mkF m 100 #[.val (.ref t1), .val (.int p1), .val (.int nd), .val (.int p1), .unset] []))
      refine own_of (fun _ hh_ => XS.aloadN X88.here hx rfl (hb hby dF_100) rfl rfl hh_) ?_
      show own_Run p e below s _ _ _ (T88.setTop (mkF m 101 #[.val (.ref t1), .val (.int p1), .val (.int nd), .val (.int p1), .unset] [(.ref t1)]))
      obtain ⟨T93, X93, e93, st93⟩ := getF X88 hx hZ hown (host := "") (Or.inl (hw _ (List.mem_of_getElem? (i := 21) rfl))) Via.refl e88 f91 (g := (mkF m 101 #[.val (.ref t1), .val (.int p1), .val (.int nd), .val (.int p1), .unset] [(.ref t1)])) rfl rfl (hb hby dF_101)
      refine own_of st93 ?_
      show own_Run p e below s _ _ _ (T93.setTop (mkF m 104 #[.val (.ref t1), .val (.int p1), .val (.int nd), .val (.int p1), .unset] [(.int (1 : Int32))]))
      refine own_of (fun _ hh_ => XS.istore X93.here hx rfl (hb hby dF_104) rfl (l' := #[.val (.ref t1), .val (.int p1), .val (.int nd), .val (.int p1), .val (.int (1 : Int32))]) rfl hh_) ?_
      show own_Run p e below s _ _ _ (T93.setTop (mkF m 106 #[.val (.ref t1), .val (.int p1), .val (.int nd), .val (.int p1), .val (.int (1 : Int32))] []))
      refine own_of (fun _ hh_ => XS.aloadN X93.here hx rfl (hb hby dF_106) rfl rfl hh_) ?_
      show own_Run p e below s _ _ _ (T93.setTop (mkF m 107 #[.val (.ref t1), .val (.int p1), .val (.int nd), .val (.int p1), .val (.int (1 : Int32))] [(.ref t1)]))
      refine own_of (fun _ hh_ => XS.dup X93.here hx rfl (hb hby dF_107) rfl rfl hh_) ?_
      show own_Run p e below s _ _ _ (T93.setTop (mkF m 108 #[.val (.ref t1), .val (.int p1), .val (.int nd), .val (.int p1), .val (.int (1 : Int32))] [(.ref t1), (.ref t1)]))
      obtain ⟨T94, X94, e94, st94⟩ := getF X93 hx hZ hown (host := "") (Or.inl (hw _ (List.mem_of_getElem? (i := 21) rfl))) Via.refl e93 f91 (g := (mkF m 108 #[.val (.ref t1), .val (.int p1), .val (.int nd), .val (.int p1), .val (.int (1 : Int32))] [(.ref t1), (.ref t1)])) rfl rfl (hb hby dF_108)
      refine own_of st94 ?_
      show own_Run p e below s _ _ _ (T94.setTop (mkF m 111 #[.val (.ref t1), .val (.int p1), .val (.int nd), .val (.int p1), .val (.int (1 : Int32))] [(.int (1 : Int32)), (.ref t1)]))
      refine own_of (fun _ hh_ => XS.iloadN X94.here hx rfl (hb hby dF_111) rfl hh_) ?_
      show own_Run p e below s _ _ _ (T94.setTop (mkF m 112 #[.val (.ref t1), .val (.int p1), .val (.int nd), .val (.int p1), .val (.int (1 : Int32))] [(.int p1), (.int (1 : Int32)), (.ref t1)]))
      refine own_of (fun _ hh_ => XS.iadd X94.here hx rfl (hb hby dF_112) rfl hh_) ?_
      show own_Run p e below s _ _ _ (T94.setTop (mkF m 113 #[.val (.ref t1), .val (.int p1), .val (.int nd), .val (.int p1), .val (.int (1 : Int32))] [(.int ((1 : Int32) + p1)), (.ref t1)]))
      obtain ⟨T95, h95, X95, e95, W95, st95⟩ := putF X94 hx hZ hown (host := "") (Or.inl (hw _ (List.mem_of_getElem? (i := 21) rfl))) Via.refl e94 f91 f89 (Or.inl (hw _ (List.mem_of_getElem? (i := 22) rfl))) (hw _ (List.mem_of_getElem? (i := 1) rfl)) (ty := .int) (by decide) rfl rfl (g := (mkF m 113 #[.val (.ref t1), .val (.int p1), .val (.int nd), .val (.int p1), .val (.int (1 : Int32))] [(.int ((1 : Int32) + p1)), (.ref t1)])) rfl rfl (hb hby dF_113)
      have f95 := f91.same W95
      have N95 := Fr.snoc X95 N88 g_t1
      have f96 := f89.wr W95
      have f97 := f90.other W95 (Or.inr (slot_ne (Or.inl (hw _ (List.mem_of_getElem? (i := 15) rfl))) (Or.inl (hw _ (List.mem_of_getElem? (i := 22) rfl))) (by decide) (t := (.array .byte)) (t' := .int) (by decide) (by decide)))
      have f98 := V88.other W95 (Ne.symm hne)
      have K99 := K92.wr W95 (Or.inl (List.mem_of_getElem? (i := 0) rfl))
      refine own_of st95 ?_
      show own_Run p e below s _ _ _ (T95.setTop (mkF m 116 #[.val (.ref t1), .val (.int p1), .val (.int nd), .val (.int p1), .val (.int (1 : Int32))] []))
      refine own_of (fun _ hh_ => XS.iload X95.here hx rfl (hb hby dF_116) rfl hh_) ?_
      show own_Run p e below s _ _ _ (T95.setTop (mkF m 118 #[.val (.ref t1), .val (.int p1), .val (.int nd), .val (.int p1), .val (.int (1 : Int32))] [(.int (1 : Int32))]))
      exact own_retI X95 hx hret hlk (hb hby dF_118) (by rw [e95]; exact ⟨by rw [(show own_ls p1 = (1 : Int32) from if_pos hc49_80)], N95, K99, r, _, _, f97, (by rw [(show own_ls p1 = (1 : Int32) from if_pos hc49_80)]; exact f95), f98, (own_Fit_up Ft _), g_r, (by omega), Or.inl ⟨hc49_80, rfl⟩⟩) (by decide) (by decide)
    · refine own_of (fun _ hh_ => XS.icmpNo X3.here hx rfl (hb hby dF_49) rfl (flt hc49_80).1 hh_) ?_
      show own_Run p e below s _ _ _ (T3.setTop (mkF m 52 #[.val (.ref t1), .val (.int p1), .val (.int nd), .val (.int p1), .unset] []))
      refine own_of (fun _ hh_ => XS.aloadN X3.here hx rfl (hb hby dF_52) rfl rfl hh_) ?_
      show own_Run p e below s _ _ _ (T3.setTop (mkF m 53 #[.val (.ref t1), .val (.int p1), .val (.int nd), .val (.int p1), .unset] [(.ref t1)]))
      obtain ⟨T100, X100, e100, st100⟩ := getF X3 hx hZ hown (host := "") (Or.inl (hw _ (List.mem_of_getElem? (i := 14) rfl))) Via.refl e3 Fb (g := (mkF m 53 #[.val (.ref t1), .val (.int p1), .val (.int nd), .val (.int p1), .unset] [(.ref t1)])) rfl rfl (hb hby dF_53)
      refine own_of st100 ?_
      show own_Run p e below s _ _ _ (T100.setTop (mkF m 56 #[.val (.ref t1), .val (.int p1), .val (.int nd), .val (.int p1), .unset] [(.ref r)]))
      refine own_of (fun _ hh_ => XS.aloadN X100.here hx rfl (hb hby dF_56) rfl rfl hh_) ?_
      show own_Run p e below s _ _ _ (T100.setTop (mkF m 57 #[.val (.ref t1), .val (.int p1), .val (.int nd), .val (.int p1), .unset] [(.ref t1), (.ref r)]))
      refine own_of (fun _ hh_ => XS.dup X100.here hx rfl (hb hby dF_57) rfl rfl hh_) ?_
      show own_Run p e below s _ _ _ (T100.setTop (mkF m 58 #[.val (.ref t1), .val (.int p1), .val (.int nd), .val (.int p1), .unset] [(.ref t1), (.ref t1), (.ref r)]))
      obtain ⟨T101, X101, e101, st101⟩ := getF X100 hx hZ hown (host := "") (Or.inl (hw _ (List.mem_of_getElem? (i := 21) rfl))) Via.refl e100 Fs (g := (mkF m 58 #[.val (.ref t1), .val (.int p1), .val (.int nd), .val (.int p1), .unset] [(.ref t1), (.ref t1), (.ref r)])) rfl rfl (hb hby dF_58)
      refine own_of st101 ?_
      show own_Run p e below s _ _ _ (T101.setTop (mkF m 61 #[.val (.ref t1), .val (.int p1), .val (.int nd), .val (.int p1), .unset] [(.int (0 : Int32)), (.ref t1), (.ref r)]))
      refine own_of (fun _ hh_ => XS.dupX1 X101.here hx rfl (hb hby dF_61) rfl rfl rfl hh_) ?_
      show own_Run p e below s _ _ _ (T101.setTop (mkF m 62 #[.val (.ref t1), .val (.int p1), .val (.int nd), .val (.int p1), .unset] [(.int (0 : Int32)), (.ref t1), (.int (0 : Int32)), (.ref r)]))
      refine own_of (fun _ hh_ => XS.iconst X101.here hx rfl (hb hby dF_62) hh_) ?_
      show own_Run p e below s _ _ _ (T101.setTop (mkF m 63 #[.val (.ref t1), .val (.int p1), .val (.int nd), .val (.int p1), .unset] [(.int (1 : Int32)), (.int (0 : Int32)), (.ref t1), (.int (0 : Int32)), (.ref r)]))
      refine own_of (fun _ hh_ => XS.iadd X101.here hx rfl (hb hby dF_63) rfl hh_) ?_
      show own_Run p e below s _ _ _ (T101.setTop (mkF m 64 #[.val (.ref t1), .val (.int p1), .val (.int nd), .val (.int p1), .unset] [(.int (1 : Int32)), (.ref t1), (.int (0 : Int32)), (.ref r)]))
      obtain ⟨T102, h102, X102, e102, W102, st102⟩ := putF X101 hx hZ hown (host := "") (Or.inl (hw _ (List.mem_of_getElem? (i := 21) rfl))) Via.refl e101 Fs Ex (Or.inl (hw _ (List.mem_of_getElem? (i := 22) rfl))) (hw _ (List.mem_of_getElem? (i := 1) rfl)) (ty := .int) (by decide) rfl rfl (g := (mkF m 64 #[.val (.ref t1), .val (.int p1), .val (.int nd), .val (.int p1), .unset] [(.int (1 : Int32)), (.ref t1), (.int (0 : Int32)), (.ref r)])) rfl rfl (hb hby dF_64)
      have f102 := Fs.same W102
      have N102 := Fr.snoc X102 N2 g_t1
      have f103 := Ex.wr W102
      have f104 := Fb.other W102 (Or.inr (slot_ne (Or.inl (hw _ (List.mem_of_getElem? (i := 15) rfl))) (Or.inl (hw _ (List.mem_of_getElem? (i := 22) rfl))) (by decide) (t := (.array .byte)) (t' := .int) (by decide) (by decide)))
      have f105 := A.other W102 (Ne.symm hne)
      have K106 := K0.wr W102 (Or.inl (List.mem_of_getElem? (i := 0) rfl))
      refine own_of st102 ?_
      show own_Run p e below s _ _ _ (T102.setTop (mkF m 67 #[.val (.ref t1), .val (.int p1), .val (.int nd), .val (.int p1), .unset] [(.int (0 : Int32)), (.ref r)]))
      refine own_of (fun _ hh_ => XS.iloadN X102.here hx rfl (hb hby dF_67) rfl hh_) ?_
      show own_Run p e below s _ _ _ (T102.setTop (mkF m 68 #[.val (.ref t1), .val (.int p1), .val (.int nd), .val (.int p1), .unset] [(.int p1), (.int (0 : Int32)), (.ref r)]))
      refine own_of (fun _ hh_ => XS.sipush X102.here hx rfl (hb hby dF_68) hh_) ?_
      show own_Run p e below s _ _ _ (T102.setTop (mkF m 71 #[.val (.ref t1), .val (.int p1), .val (.int nd), .val (.int p1), .unset] [(.int (128 : Int32)), (.int p1), (.int (0 : Int32)), (.ref r)]))
      refine own_of (fun _ hh_ => XS.ior X102.here hx rfl (hb hby dF_71) rfl hh_) ?_
      show own_Run p e below s _ _ _ (T102.setTop (mkF m 72 #[.val (.ref t1), .val (.int p1), .val (.int nd), .val (.int p1), .unset] [(.int (p1 ||| (128 : Int32))), (.int (0 : Int32)), (.ref r)]))
      refine own_of (fun _ hh_ => XS.i2b X102.here hx rfl (hb hby dF_72) rfl hh_) ?_
      show own_Run p e below s _ _ _ (T102.setTop (mkF m 73 #[.val (.ref t1), .val (.int p1), .val (.int nd), .val (.int p1), .unset] [(.int ((p1 ||| (128 : Int32)).toInt8.toInt32)), (.int (0 : Int32)), (.ref r)]))
      obtain ⟨T107, h107, X107, e107, W107, V107, st107⟩ := own_bas X102 hx hZ e102 f105 (j := (0 : Int32)) (x := ((p1 ||| (128 : Int32)).toInt8.toInt32)) (by decide) hl0 (pc := 73) (Ls := #[.val (.ref t1), .val (.int p1), .val (.int nd), .val (.int p1), .unset]) (rest := []) (hb hby dF_73)
      have N107 := Fr.snoc X107 N102 g_r
      have f108 := f103.wr W107
      have f109 := f104.other W107 (Or.inl hne)
      have f110 := f102.other W107 (Or.inl hne)
      have K111 := K106.wr W107 (Or.inl (List.mem_of_getElem? (i := 1) rfl))
      replace V107 : own_Ar Z h107 r .byte n (own_up f 0 ((p1 ||| (128 : Int32)).toInt8.toInt32).toInt8.toInt32) := V107
      refine own_of st107 ?_
      show own_Run p e below s _ _ _ (T107.setTop (mkF m 74 #[.val (.ref t1), .val (.int p1), .val (.int nd), .val (.int p1), .unset] []))
      have hl1 : (1 : Int32).toNatClampNeg < n := by have z := mt Int32.lt_iff_toInt_lt.mpr hc49_80; have l : (128 : Int32).toInt = 128 := rfl; show 1 < n; omega
      refine own_of (fun _ hh_ => XS.iloadN X107.here hx rfl (hb hby dF_74) rfl hh_) ?_
      show own_Run p e below s _ _ _ (T107.setTop (mkF m 75 #[.val (.ref t1), .val (.int p1), .val (.int nd), .val (.int p1), .unset] [(.int p1)]))
      refine own_of (fun _ hh_ => XS.bipush X107.here hx rfl (hb hby dF_75) hh_) ?_
      show own_Run p e below s _ _ _ (T107.setTop (mkF m 77 #[.val (.ref t1), .val (.int p1), .val (.int nd), .val (.int p1), .unset] [(.int (7 : Int32)), (.int p1)]))
      refine own_of (fun _ hh_ => XS.iushr X107.here hx rfl (hb hby dF_77) rfl hh_) ?_
      show own_Run p e below s _ _ _ (T107.setTop (mkF m 78 #[.val (.ref t1), .val (.int p1), .val (.int nd), .val (.int p1), .unset] [(.int ((p1.toUInt32 >>> ((7 : Int32) &&& 31).toUInt32).toInt32))]))
      refine own_of (fun _ hh_ => XS.istoreN X107.here hx rfl (hb hby dF_78) rfl (l' := #[.val (.ref t1), .val (.int p1), .val (.int nd), .val (.int ((p1.toUInt32 >>> ((7 : Int32) &&& 31).toUInt32).toInt32)), .unset]) rfl hh_) ?_
      show own_Run p e below s _ _ _ (T107.setTop (mkF m 79 #[.val (.ref t1), .val (.int p1), .val (.int nd), .val (.int ((p1.toUInt32 >>> ((7 : Int32) &&& 31).toUInt32).toInt32)), .unset] []))
      refine own_of (fun _ hh_ => XS.goto X107.here hx rfl (pc0 := 79) (pc' := 45) rfl (hb hby dF_79) (by decide) (by decide) hh_) ?_
      show own_Run p e below s _ _ _ (T107.setTop (mkF m 45 #[.val (.ref t1), .val (.int p1), .val (.int nd), .val (.int ((p1.toUInt32 >>> ((7 : Int32) &&& 31).toUInt32).toInt32)), .unset] []))
      refine own_of (fun _ hh_ => XS.iloadN X107.here hx rfl (hb hby dF_45) rfl hh_) ?_
      show own_Run p e below s _ _ _ (T107.setTop (mkF m 46 #[.val (.ref t1), .val (.int p1), .val (.int nd), .val (.int ((p1.toUInt32 >>> ((7 : Int32) &&& 31).toUInt32).toInt32)), .unset] [(.int ((p1.toUInt32 >>> ((7 : Int32) &&& 31).toUInt32).toInt32))]))
      refine own_of (fun _ hh_ => XS.sipush X107.here hx rfl (hb hby dF_46) hh_) ?_
      show own_Run p e below s _ _ _ (T107.setTop (mkF m 49 #[.val (.ref t1), .val (.int p1), .val (.int nd), .val (.int ((p1.toUInt32 >>> ((7 : Int32) &&& 31).toUInt32).toInt32)), .unset] [(.int (128 : Int32)), (.int ((p1.toUInt32 >>> ((7 : Int32) &&& 31).toUInt32).toInt32))]))
      have hc49_112 : ((p1.toUInt32 >>> ((7 : Int32) &&& 31).toUInt32).toInt32) < (128 : Int32) := by apply Int32.lt_iff_toInt_lt.mpr; rw [own_sh7 p1 h0p]; have l : (128 : Int32).toInt = 128 := rfl; omega
      refine own_of (fun _ hh_ => XS.icmpYes X107.here hx rfl (pc0 := 49) (pc' := 82) rfl (hb hby dF_49) rfl (tlt hc49_112).1 (by decide) (by decide) hh_) ?_
      show own_Run p e below s _ _ _ (T107.setTop (mkF m 82 #[.val (.ref t1), .val (.int p1), .val (.int nd), .val (.int ((p1.toUInt32 >>> ((7 : Int32) &&& 31).toUInt32).toInt32)), .unset] []))
      refine own_of (fun _ hh_ => XS.aloadN X107.here hx rfl (hb hby dF_82) rfl rfl hh_) ?_
      show own_Run p e below s _ _ _ (T107.setTop (mkF m 83 #[.val (.ref t1), .val (.int p1), .val (.int nd), .val (.int ((p1.toUInt32 >>> ((7 : Int32) &&& 31).toUInt32).toInt32)), .unset] [(.ref t1)]))
      obtain ⟨T113, X113, e113, st113⟩ := getF X107 hx hZ hown (host := "") (Or.inl (hw _ (List.mem_of_getElem? (i := 14) rfl))) Via.refl e107 f109 (g := (mkF m 83 #[.val (.ref t1), .val (.int p1), .val (.int nd), .val (.int ((p1.toUInt32 >>> ((7 : Int32) &&& 31).toUInt32).toInt32)), .unset] [(.ref t1)])) rfl rfl (hb hby dF_83)
      refine own_of st113 ?_
      show own_Run p e below s _ _ _ (T113.setTop (mkF m 86 #[.val (.ref t1), .val (.int p1), .val (.int nd), .val (.int ((p1.toUInt32 >>> ((7 : Int32) &&& 31).toUInt32).toInt32)), .unset] [(.ref r)]))
      refine own_of (fun _ hh_ => XS.aloadN X113.here hx rfl (hb hby dF_86) rfl rfl hh_) ?_
      show own_Run p e below s _ _ _ (T113.setTop (mkF m 87 #[.val (.ref t1), .val (.int p1), .val (.int nd), .val (.int ((p1.toUInt32 >>> ((7 : Int32) &&& 31).toUInt32).toInt32)), .unset] [(.ref t1), (.ref r)]))
      refine own_of (fun _ hh_ => XS.dup X113.here hx rfl (hb hby dF_87) rfl rfl hh_) ?_
      show own_Run p e below s _ _ _ (T113.setTop (mkF m 88 #[.val (.ref t1), .val (.int p1), .val (.int nd), .val (.int ((p1.toUInt32 >>> ((7 : Int32) &&& 31).toUInt32).toInt32)), .unset] [(.ref t1), (.ref t1), (.ref r)]))
      obtain ⟨T114, X114, e114, st114⟩ := getF X113 hx hZ hown (host := "") (Or.inl (hw _ (List.mem_of_getElem? (i := 21) rfl))) Via.refl e113 f110 (g := (mkF m 88 #[.val (.ref t1), .val (.int p1), .val (.int nd), .val (.int ((p1.toUInt32 >>> ((7 : Int32) &&& 31).toUInt32).toInt32)), .unset] [(.ref t1), (.ref t1), (.ref r)])) rfl rfl (hb hby dF_88)
      refine own_of st114 ?_
      show own_Run p e below s _ _ _ (T114.setTop (mkF m 91 #[.val (.ref t1), .val (.int p1), .val (.int nd), .val (.int ((p1.toUInt32 >>> ((7 : Int32) &&& 31).toUInt32).toInt32)), .unset] [(.int (1 : Int32)), (.ref t1), (.ref r)]))
      refine own_of (fun _ hh_ => XS.dupX1 X114.here hx rfl (hb hby dF_91) rfl rfl rfl hh_) ?_
      show own_Run p e below s _ _ _ (T114.setTop (mkF m 92 #[.val (.ref t1), .val (.int p1), .val (.int nd), .val (.int ((p1.toUInt32 >>> ((7 : Int32) &&& 31).toUInt32).toInt32)), .unset] [(.int (1 : Int32)), (.ref t1), (.int (1 : Int32)), (.ref r)]))
      refine own_of (fun _ hh_ => XS.iconst X114.here hx rfl (hb hby dF_92) hh_) ?_
      show own_Run p e below s _ _ _ (T114.setTop (mkF m 93 #[.val (.ref t1), .val (.int p1), .val (.int nd), .val (.int ((p1.toUInt32 >>> ((7 : Int32) &&& 31).toUInt32).toInt32)), .unset] [(.int (1 : Int32)), (.int (1 : Int32)), (.ref t1), (.int (1 : Int32)), (.ref r)]))
      refine own_of (fun _ hh_ => XS.iadd X114.here hx rfl (hb hby dF_93) rfl hh_) ?_
      show own_Run p e below s _ _ _ (T114.setTop (mkF m 94 #[.val (.ref t1), .val (.int p1), .val (.int nd), .val (.int ((p1.toUInt32 >>> ((7 : Int32) &&& 31).toUInt32).toInt32)), .unset] [(.int (2 : Int32)), (.ref t1), (.int (1 : Int32)), (.ref r)]))
      obtain ⟨T115, h115, X115, e115, W115, st115⟩ := putF X114 hx hZ hown (host := "") (Or.inl (hw _ (List.mem_of_getElem? (i := 21) rfl))) Via.refl e114 f110 f108 (Or.inl (hw _ (List.mem_of_getElem? (i := 22) rfl))) (hw _ (List.mem_of_getElem? (i := 1) rfl)) (ty := .int) (by decide) rfl rfl (g := (mkF m 94 #[.val (.ref t1), .val (.int p1), .val (.int nd), .val (.int ((p1.toUInt32 >>> ((7 : Int32) &&& 31).toUInt32).toInt32)), .unset] [(.int (2 : Int32)), (.ref t1), (.int (1 : Int32)), (.ref r)])) rfl rfl (hb hby dF_94)
      have f115 := f110.same W115
      have N115 := Fr.snoc X115 N107 g_t1
      have f116 := f108.wr W115
      have f117 := f109.other W115 (Or.inr (slot_ne (Or.inl (hw _ (List.mem_of_getElem? (i := 15) rfl))) (Or.inl (hw _ (List.mem_of_getElem? (i := 22) rfl))) (by decide) (t := (.array .byte)) (t' := .int) (by decide) (by decide)))
      have f118 := V107.other W115 (Ne.symm hne)
      have K119 := K111.wr W115 (Or.inl (List.mem_of_getElem? (i := 0) rfl))
      refine own_of st115 ?_
      show own_Run p e below s _ _ _ (T115.setTop (mkF m 97 #[.val (.ref t1), .val (.int p1), .val (.int nd), .val (.int ((p1.toUInt32 >>> ((7 : Int32) &&& 31).toUInt32).toInt32)), .unset] [(.int (1 : Int32)), (.ref r)]))
      refine own_of (fun _ hh_ => XS.iloadN X115.here hx rfl (hb hby dF_97) rfl hh_) ?_
      show own_Run p e below s _ _ _ (T115.setTop (mkF m 98 #[.val (.ref t1), .val (.int p1), .val (.int nd), .val (.int ((p1.toUInt32 >>> ((7 : Int32) &&& 31).toUInt32).toInt32)), .unset] [(.int ((p1.toUInt32 >>> ((7 : Int32) &&& 31).toUInt32).toInt32)), (.int (1 : Int32)), (.ref r)]))
      refine own_of (fun _ hh_ => XS.i2b X115.here hx rfl (hb hby dF_98) rfl hh_) ?_
      show own_Run p e below s _ _ _ (T115.setTop (mkF m 99 #[.val (.ref t1), .val (.int p1), .val (.int nd), .val (.int ((p1.toUInt32 >>> ((7 : Int32) &&& 31).toUInt32).toInt32)), .unset] [(.int (((p1.toUInt32 >>> ((7 : Int32) &&& 31).toUInt32).toInt32).toInt8.toInt32)), (.int (1 : Int32)), (.ref r)]))
      obtain ⟨T120, h120, X120, e120, W120, V120, st120⟩ := own_bas X115 hx hZ e115 f118 (j := (1 : Int32)) (x := (((p1.toUInt32 >>> ((7 : Int32) &&& 31).toUInt32).toInt32).toInt8.toInt32)) (by decide) hl1 (pc := 99) (Ls := #[.val (.ref t1), .val (.int p1), .val (.int nd), .val (.int ((p1.toUInt32 >>> ((7 : Int32) &&& 31).toUInt32).toInt32)), .unset]) (rest := []) (hb hby dF_99)
      have N120 := Fr.snoc X120 N115 g_r
      have f121 := f116.wr W120
      have f122 := f117.other W120 (Or.inl hne)
      have f123 := f115.other W120 (Or.inl hne)
      have K124 := K119.wr W120 (Or.inl (List.mem_of_getElem? (i := 1) rfl))
      replace V120 : own_Ar Z h120 r .byte n (own_up (own_up f 0 ((p1 ||| (128 : Int32)).toInt8.toInt32).toInt8.toInt32) 1 (((p1.toUInt32 >>> ((7 : Int32) &&& 31).toUInt32).toInt32).toInt8.toInt32).toInt8.toInt32) := V120
      refine own_of st120 ?_
      show own_Run p e below s _ _ _ (T120.setTop (mkF m 100 #[.val (.ref t1), .val (.int p1), .val (.int nd), .val (.int ((p1.toUInt32 >>> ((7 : Int32) &&& 31).toUInt32).toInt32)), .unset] []))
      refine own_of (fun _ hh_ => XS.aloadN X120.here hx rfl (hb hby dF_100) rfl rfl hh_) ?_
      show own_Run p e below s _ _ _ (T120.setTop (mkF m 101 #[.val (.ref t1), .val (.int p1), .val (.int nd), .val (.int ((p1.toUInt32 >>> ((7 : Int32) &&& 31).toUInt32).toInt32)), .unset] [(.ref t1)]))
      obtain ⟨T125, X125, e125, st125⟩ := getF X120 hx hZ hown (host := "") (Or.inl (hw _ (List.mem_of_getElem? (i := 21) rfl))) Via.refl e120 f123 (g := (mkF m 101 #[.val (.ref t1), .val (.int p1), .val (.int nd), .val (.int ((p1.toUInt32 >>> ((7 : Int32) &&& 31).toUInt32).toInt32)), .unset] [(.ref t1)])) rfl rfl (hb hby dF_101)
      refine own_of st125 ?_
      show own_Run p e below s _ _ _ (T125.setTop (mkF m 104 #[.val (.ref t1), .val (.int p1), .val (.int nd), .val (.int ((p1.toUInt32 >>> ((7 : Int32) &&& 31).toUInt32).toInt32)), .unset] [(.int (2 : Int32))]))
      refine own_of (fun _ hh_ => XS.istore X125.here hx rfl (hb hby dF_104) rfl (l' := #[.val (.ref t1), .val (.int p1), .val (.int nd), .val (.int ((p1.toUInt32 >>> ((7 : Int32) &&& 31).toUInt32).toInt32)), .val (.int (2 : Int32))]) rfl hh_) ?_
      show own_Run p e below s _ _ _ (T125.setTop (mkF m 106 #[.val (.ref t1), .val (.int p1), .val (.int nd), .val (.int ((p1.toUInt32 >>> ((7 : Int32) &&& 31).toUInt32).toInt32)), .val (.int (2 : Int32))] []))
      refine own_of (fun _ hh_ => XS.aloadN X125.here hx rfl (hb hby dF_106) rfl rfl hh_) ?_
      show own_Run p e below s _ _ _ (T125.setTop (mkF m 107 #[.val (.ref t1), .val (.int p1), .val (.int nd), .val (.int ((p1.toUInt32 >>> ((7 : Int32) &&& 31).toUInt32).toInt32)), .val (.int (2 : Int32))] [(.ref t1)]))
      refine own_of (fun _ hh_ => XS.dup X125.here hx rfl (hb hby dF_107) rfl rfl hh_) ?_
      show own_Run p e below s _ _ _ (T125.setTop (mkF m 108 #[.val (.ref t1), .val (.int p1), .val (.int nd), .val (.int ((p1.toUInt32 >>> ((7 : Int32) &&& 31).toUInt32).toInt32)), .val (.int (2 : Int32))] [(.ref t1), (.ref t1)]))
      obtain ⟨T126, X126, e126, st126⟩ := getF X125 hx hZ hown (host := "") (Or.inl (hw _ (List.mem_of_getElem? (i := 21) rfl))) Via.refl e125 f123 (g := (mkF m 108 #[.val (.ref t1), .val (.int p1), .val (.int nd), .val (.int ((p1.toUInt32 >>> ((7 : Int32) &&& 31).toUInt32).toInt32)), .val (.int (2 : Int32))] [(.ref t1), (.ref t1)])) rfl rfl (hb hby dF_108)
      refine own_of st126 ?_
      show own_Run p e below s _ _ _ (T126.setTop (mkF m 111 #[.val (.ref t1), .val (.int p1), .val (.int nd), .val (.int ((p1.toUInt32 >>> ((7 : Int32) &&& 31).toUInt32).toInt32)), .val (.int (2 : Int32))] [(.int (2 : Int32)), (.ref t1)]))
      refine own_of (fun _ hh_ => XS.iloadN X126.here hx rfl (hb hby dF_111) rfl hh_) ?_
      show own_Run p e below s _ _ _ (T126.setTop (mkF m 112 #[.val (.ref t1), .val (.int p1), .val (.int nd), .val (.int ((p1.toUInt32 >>> ((7 : Int32) &&& 31).toUInt32).toInt32)), .val (.int (2 : Int32))] [(.int p1), (.int (2 : Int32)), (.ref t1)]))
      refine own_of (fun _ hh_ => XS.iadd X126.here hx rfl (hb hby dF_112) rfl hh_) ?_
      show own_Run p e below s _ _ _ (T126.setTop (mkF m 113 #[.val (.ref t1), .val (.int p1), .val (.int nd), .val (.int ((p1.toUInt32 >>> ((7 : Int32) &&& 31).toUInt32).toInt32)), .val (.int (2 : Int32))] [(.int ((2 : Int32) + p1)), (.ref t1)]))
      obtain ⟨T127, h127, X127, e127, W127, st127⟩ := putF X126 hx hZ hown (host := "") (Or.inl (hw _ (List.mem_of_getElem? (i := 21) rfl))) Via.refl e126 f123 f121 (Or.inl (hw _ (List.mem_of_getElem? (i := 22) rfl))) (hw _ (List.mem_of_getElem? (i := 1) rfl)) (ty := .int) (by decide) rfl rfl (g := (mkF m 113 #[.val (.ref t1), .val (.int p1), .val (.int nd), .val (.int ((p1.toUInt32 >>> ((7 : Int32) &&& 31).toUInt32).toInt32)), .val (.int (2 : Int32))] [(.int ((2 : Int32) + p1)), (.ref t1)])) rfl rfl (hb hby dF_113)
      have f127 := f123.same W127
      have N127 := Fr.snoc X127 N120 g_t1
      have f128 := f121.wr W127
      have f129 := f122.other W127 (Or.inr (slot_ne (Or.inl (hw _ (List.mem_of_getElem? (i := 15) rfl))) (Or.inl (hw _ (List.mem_of_getElem? (i := 22) rfl))) (by decide) (t := (.array .byte)) (t' := .int) (by decide) (by decide)))
      have f130 := V120.other W127 (Ne.symm hne)
      have K131 := K124.wr W127 (Or.inl (List.mem_of_getElem? (i := 0) rfl))
      refine own_of st127 ?_
      show own_Run p e below s _ _ _ (T127.setTop (mkF m 116 #[.val (.ref t1), .val (.int p1), .val (.int nd), .val (.int ((p1.toUInt32 >>> ((7 : Int32) &&& 31).toUInt32).toInt32)), .val (.int (2 : Int32))] []))
      refine own_of (fun _ hh_ => XS.iload X127.here hx rfl (hb hby dF_116) rfl hh_) ?_
      show own_Run p e below s _ _ _ (T127.setTop (mkF m 118 #[.val (.ref t1), .val (.int p1), .val (.int nd), .val (.int ((p1.toUInt32 >>> ((7 : Int32) &&& 31).toUInt32).toInt32)), .val (.int (2 : Int32))] [(.int (2 : Int32))]))
      exact own_retI X127 hx hret hlk (hb hby dF_118) (by rw [e127]; exact ⟨by rw [(show own_ls p1 = (2 : Int32) from if_neg hc49_80)], N127, K131, r, _, _, f129, (by rw [(show own_ls p1 = (2 : Int32) from if_neg hc49_80)]; exact f127), f130, (own_Fit_up (own_Fit_up Ft _) _), g_r, (by omega), Or.inr ⟨hc49_80, rfl, rfl⟩⟩) (by decide) (by decide)
theorem own_pd3 : parseMethodDescriptor "(I)V" = some ⟨[.int], none⟩ := by decide +kernel
theorem own_pd4 : parseMethodDescriptor "()[B" = some ⟨[], some (.array .byte)⟩ := by decide +kernel
theorem own_pd5 : parseMethodDescriptor "()I" = some ⟨[], some .int⟩ := by decide +kernel
theorem own_pn3 : plainName "com/example/pagewright/pagewright/WriterClearPinLaw" = true := by first | (simp [plainName, overriddenIn]; done) | decide +kernel
theorem ef0 (m : MethodId) (v0 : Int32) (v1 : Int32) (v2 : Int32) (v3 : Int32) (v4 : Int32) : entryFrame m #[(.int v0), (.int v1), (.int v2), (.int v3), (.int v4)] maxLocals = mkF m 0 #[.val (.int v0), .val (.int v1), .val (.int v2), .val (.int v3), .val (.int v4), .unset, .unset, .unset, .unset, .unset, .unset, .unset, .unset, .unset] [] := by first | (simp [entryFrame, mkF, argsToLocals, Value.category, maxLocals]; done) | rfl
def Q0 (Z : State) (v0 : Int32) (v1 : Int32) (v2 : Int32) (v3 : Int32) (v4 : Int32) (h0 : Heap) (n0 : Nat) (v : Option Value) (h : Heap) (L : List Loc) : Prop := v = some (.int 1) ∧ Fr n0 L
set_option maxRecDepth 65536 in
set_option maxHeartbeats 40000000 in
theorem rm0 (l : Launch) (Z : State) (a0 : Array Value) (hw : ∀ d ∈ tables_1, d.before a0 Z = true) (ws : List Jvm.Cond) (v0 : Int32) (v1 : Int32) (v2 : Int32) (v3 : Int32) (v4 : Int32) (h0 : Heap) (n0 : Nat) (Z0 : n0 ≤ h0.size)  :
    MetFree l x (head1 (Jvm.Cond.code x code maxLocals ret :: ws) room_1) (fun a U => a = #[(.int v0), (.int v1), (.int v2), (.int v3), (.int v4)] ∧ Z.Warmed39 U.vm ∧ U.heap = h0) (fun _ _ _ _ _ => True) (fun _ U o U' => ∃ v L, o = .returned v ∧ Q0 Z v0 v1 v2 v3 v4 h0 n0 v U'.heap L ∧ FrameEnd U o U' L 24 34432) := by
  refine MetFree.of_bodySF (plainFor_of_name own_pn3) hisR ?_
  intro p e s m args below meth c s₁ Bd hml0 hP hK
  obtain ⟨rfl, hZ, hh⟩ := hP
  have hx := Bd.exec
  have hby := Bd.bytes
  have hml : c.maxLocals = 14 := hml0
  have hown : s.vm.findClass "com/example/pagewright/pagewright/WriterClearPinLaw" = some m.cls := findClass_of_methodNamed Bd.named
  have hnm := (name_of_methodNamed Bd.named Bd.method).1
  have hlk := Bd.notSynchronized
  have hret := Bd.returns
  have X0 : Stand p l e room_1 s m #[(.int v0), (.int v1), (.int v2), (.int v3), (.int v4)] below meth c s₁ [] 0 0 := Stand.of_body Bd
  have e0 : s₁.heap = h0 := by rw [← hh, Bd.state]; rfl
  have N0 := Fr.nil n0
  show own_Run p e below s 24 34432 (Q0 Z v0 v1 v2 v3 v4 h0 n0) (s₁.setTop (entryFrame m #[(.int v0), (.int v1), (.int v2), (.int v3), (.int v4)] maxLocals))
  refine own_cast (ef0 m v0 v1 v2 v3 v4) ?_
  show own_Run p e below s _ _ _ (s₁.setTop (mkF m 0 #[.val (.int v0), .val (.int v1), .val (.int v2), .val (.int v3), .val (.int v4), .unset, .unset, .unset, .unset, .unset, .unset, .unset, .unset, .unset] []))
  obtain ⟨T1, h1, X1, e1, E1, A1, D1, -, st1⟩ := newO X0 hx hZ hown (hw _ (List.mem_of_getElem? (i := 0) rfl)) (hw _ (List.mem_of_getElem? (i := 1) rfl)) (hw _ (List.mem_of_getElem? (i := 2) rfl)) e0 (g := (mkF m 0 #[.val (.int v0), .val (.int v1), .val (.int v2), .val (.int v3), .val (.int v4), .unset, .unset, .unset, .unset, .unset, .unset, .unset, .unset, .unset] [])) rfl (hb hby at_0) (by decide) (by decide)
  obtain ⟨ob1, g1⟩ : ∃ z, z = h0.size := ⟨_, rfl⟩
  rw [← g1] at A1 D1 st1
  have g_ob1 : n0 ≤ ob1 := Nat.le_trans Z0 (Nat.le_of_eq g1.symm)
  have f2 : Fld Z h1 ob1 "com/example/pagewright/pagewright/RecordCodec$Writer" "m_aBytes" "[B" .null := D1 (Or.inl (hw _ (List.mem_of_getElem? (i := 15) rfl))) (ty := (.array .byte)) (by decide)
  have f3 : Fld Z h1 ob1 "com/example/pagewright/pagewright/RecordCodec$Writer" "m_nSize" "I" (.int (0 : Int32)) := D1 (Or.inl (hw _ (List.mem_of_getElem? (i := 22) rfl))) (ty := .int) (by decide)
  refine own_of st1 ?_
  show own_Run p e below s _ _ _ (T1.setTop (mkF m 3 #[.val (.int v0), .val (.int v1), .val (.int v2), .val (.int v3), .val (.int v4), .unset, .unset, .unset, .unset, .unset, .unset, .unset, .unset, .unset] [(.ref ob1)]))
  refine own_of (fun _ hh_ => XS.dup X1.here hx rfl (hb hby at_3) rfl rfl hh_) ?_
  show own_Run p e below s _ _ _ (T1.setTop (mkF m 4 #[.val (.int v0), .val (.int v1), .val (.int v2), .val (.int v3), .val (.int v4), .unset, .unset, .unset, .unset, .unset, .unset, .unset, .unset, .unset] [(.ref ob1), (.ref ob1)]))
  refine own_of (fun _ hh_ => XS.iloadN X1.here hx rfl (hb hby at_4) rfl hh_) ?_
  show own_Run p e below s _ _ _ (T1.setTop (mkF m 5 #[.val (.int v0), .val (.int v1), .val (.int v2), .val (.int v3), .val (.int v4), .unset, .unset, .unset, .unset, .unset, .unset, .unset, .unset, .unset] [(.int v0), (.ref ob1), (.ref ob1)]))
  refine own_of (fun _ hh_ => XS.sipush X1.here hx rfl (hb hby at_5) hh_) ?_
  show own_Run p e below s _ _ _ (T1.setTop (mkF m 8 #[.val (.int v0), .val (.int v1), .val (.int v2), .val (.int v3), .val (.int v4), .unset, .unset, .unset, .unset, .unset, .unset, .unset, .unset, .unset] [(.int (255 : Int32)), (.int v0), (.ref ob1), (.ref ob1)]))
  refine own_of (fun _ hh_ => XS.iand X1.here hx rfl (hb hby at_8) rfl hh_) ?_
  show own_Run p e below s _ _ _ (T1.setTop (mkF m 9 #[.val (.int v0), .val (.int v1), .val (.int v2), .val (.int v3), .val (.int v4), .unset, .unset, .unset, .unset, .unset, .unset, .unset, .unset, .unset] [(.int (v0 &&& (255 : Int32))), (.ref ob1), (.ref ob1)]))
  generalize hca : (v0 &&& (255 : Int32)) = ca
  have rca : 0 ≤ ca.toInt ∧ ca.toInt ≤ 255 := by have z := own_m v0 8 (by decide) (255 : Int32) (by decide) 256 rfl; rw [hca] at z; omega
  show own_Run p e below s _ _ _ (T1.setTop (mkF m 9 #[.val (.int v0), .val (.int v1), .val (.int v2), .val (.int v3), .val (.int v4), .unset, .unset, .unset, .unset, .unset, .unset, .unset, .unset, .unset] [(.int ca), (.ref ob1), (.ref ob1)]))
  obtain ⟨_, _, ⟨T4, L4, k4, n4⟩, -, X4, ⟨Lc4, hQ4, l4, y4, z4⟩, st4⟩ := X1.specialBack hx (y := (⟨"com/example/pagewright/pagewright/RecordCodec$Writer", "<init>", "(I)V"⟩ : MethodName)) rfl hown (mvT hZ (hw _ (List.mem_of_getElem? (i := 3) rfl))) (mvT hZ (hw _ (List.mem_of_getElem? (i := 4) rfl))) (mvT hZ (hw _ (List.mem_of_getElem? (i := 5) rfl))) (by decide) (backOf (W := 1) (rmI l Z a0 hw [] ob1 ca h1 n0 (Nat.le_trans Z0 E1.1) A1 f2 f3 g_ob1 rca.1 rca.2) hZ (hw _ (List.mem_of_getElem? (i := 5) rfl)) (hw _ (List.mem_of_getElem? (i := 2) rfl)) (by decide) (by decide)) (g := (mkF m 9 #[.val (.int v0), .val (.int v1), .val (.int v2), .val (.int v3), .val (.int v4), .unset, .unset, .unset, .unset, .unset, .unset, .unset, .unset, .unset] [(.int ca), (.ref ob1), (.ref ob1)])) rfl (by rw [hml]; rfl) (Steps.refl _) (a := ob1) (argsL := [(.int ca)]) (rest := [(.ref ob1)]) (lenOf own_pd3 rfl) rfl (by show 2 * 0 + _ ≤ _; exact Nat.le_of_eq rfl) (hb hby at_9) (fun _ _ => ⟨rfl, e1, (by decide : 1 + 1 ≤ _), (by decide : 2 + 255 ≤ _)⟩)
  dsimp only [Pt.U, Pt.locs, Pt.cells, Pt.slots] at X4 l4 y4 z4 st4 hQ4
  subst l4 y4 z4
  obtain ⟨rfl, N4q, K4, ra, na, hz_ra, hna1, hna2, fb4, fs4, V4⟩ := hQ4
  have N4 := Fr.app N0 N4q
  have ne_ob1_ra : ob1 ≠ ra := Nat.ne_of_lt (Nat.lt_of_lt_of_le A1.lt hz_ra)
  have g_ra : n0 ≤ ra := Nat.le_trans (Nat.le_trans Z0 E1.1) hz_ra
  have Ft0 := own_Fit0 na
  have f5 := A1.keep K4
  refine own_tr st4 ?_
  show own_Run p e below s _ _ _ (T4.setTop (mkF m 12 #[.val (.int v0), .val (.int v1), .val (.int v2), .val (.int v3), .val (.int v4), .unset, .unset, .unset, .unset, .unset, .unset, .unset, .unset, .unset] [(.ref ob1)]))
  refine own_of (fun _ hh_ => XS.astore X4.here hx rfl (hb hby at_12) rfl rfl (l' := #[.val (.int v0), .val (.int v1), .val (.int v2), .val (.int v3), .val (.int v4), .val (.ref ob1), .unset, .unset, .unset, .unset, .unset, .unset, .unset, .unset]) rfl hh_) ?_
  show own_Run p e below s _ _ _ (T4.setTop (mkF m 14 #[.val (.int v0), .val (.int v1), .val (.int v2), .val (.int v3), .val (.int v4), .val (.ref ob1), .unset, .unset, .unset, .unset, .unset, .unset, .unset, .unset] []))
  refine own_of (fun _ hh_ => XS.aload X4.here hx rfl (hb hby at_14) rfl rfl hh_) ?_
  show own_Run p e below s _ _ _ (T4.setTop (mkF m 16 #[.val (.int v0), .val (.int v1), .val (.int v2), .val (.int v3), .val (.int v4), .val (.ref ob1), .unset, .unset, .unset, .unset, .unset, .unset, .unset, .unset] [(.ref ob1)]))
  refine own_of (fun _ hh_ => XS.iloadN X4.here hx rfl (hb hby at_16) rfl hh_) ?_
  show own_Run p e below s _ _ _ (T4.setTop (mkF m 17 #[.val (.int v0), .val (.int v1), .val (.int v2), .val (.int v3), .val (.int v4), .val (.ref ob1), .unset, .unset, .unset, .unset, .unset, .unset, .unset, .unset] [(.int v1), (.ref ob1)]))
  refine own_of (fun _ hh_ => XS.sipush X4.here hx rfl (hb hby at_17) hh_) ?_
  show own_Run p e below s _ _ _ (T4.setTop (mkF m 20 #[.val (.int v0), .val (.int v1), .val (.int v2), .val (.int v3), .val (.int v4), .val (.ref ob1), .unset, .unset, .unset, .unset, .unset, .unset, .unset, .unset] [(.int (511 : Int32)), (.int v1), (.ref ob1)]))
  refine own_of (fun _ hh_ => XS.iand X4.here hx rfl (hb hby at_20) rfl hh_) ?_
  show own_Run p e below s _ _ _ (T4.setTop (mkF m 21 #[.val (.int v0), .val (.int v1), .val (.int v2), .val (.int v3), .val (.int v4), .val (.ref ob1), .unset, .unset, .unset, .unset, .unset, .unset, .unset, .unset] [(.int (v1 &&& (511 : Int32))), (.ref ob1)]))
  generalize hm1 : (v1 &&& (511 : Int32)) = m1
  have rm1_ : 0 ≤ m1.toInt ∧ m1.toInt < ((512 : Nat) : Int) := by rw [← hm1]; exact own_m v1 9 (by decide) _ (by decide) _ rfl
  have hf1a := rm1_.1
  have hf1b : m1.toInt ≤ 16383 := by omega
  have hf1c : na ≤ 513 := by omega
  show own_Run p e below s _ _ _ (T4.setTop (mkF m 21 #[.val (.int v0), .val (.int v1), .val (.int v2), .val (.int v3), .val (.int v4), .val (.ref ob1), .unset, .unset, .unset, .unset, .unset, .unset, .unset, .unset] [(.int m1), (.ref ob1)]))
  obtain ⟨cq6, kq6, q6a, q6b, q6c⟩ := isOf hZ (rfl : T4.heap = T4.heap) f5
  obtain ⟨_, _, ⟨T6, L6, k6, n6⟩, -, X6, ⟨Lc6, hQ6, l6, y6, z6⟩, st6⟩ := X4.virtualBack hx (y := (⟨"com/example/pagewright/pagewright/RecordCodec$Writer", "field", "(I)I"⟩ : MethodName)) (z := (⟨"com/example/pagewright/pagewright/RecordCodec$Writer", "field", "(I)I"⟩ : MethodName)) hown (mvT hZ (hw _ (List.mem_of_getElem? (i := 16) rfl))) (mvT hZ (hw _ (List.mem_of_getElem? (i := 17) rfl))) (notFace_of_selects (args := #[]) (mvT hZ (hw _ (List.mem_of_getElem? (i := 19) rfl)))) (mvT hZ (hw _ (List.mem_of_getElem? (i := 19) rfl))) (mvT hZ (hw _ (List.mem_of_getElem? (i := 18) rfl))) (by decide) (backOf (W := 0) (rmF l Z a0 hw [] ob1 m1 ra na (fun _ => 0) T4.heap n0 (Nat.le_trans (Nat.le_trans Z0 E1.1) K4.1) f5 fb4 fs4 V4 Ft0 g_ob1 g_ra hf1a hf1b hf1c) hZ (hw _ (List.mem_of_getElem? (i := 20) rfl)) (hw _ (List.mem_of_getElem? (i := 2) rfl)) (by decide) (by decide)) q6a q6c (g := (mkF m 21 #[.val (.int v0), .val (.int v1), .val (.int v2), .val (.int v3), .val (.int v4), .val (.ref ob1), .unset, .unset, .unset, .unset, .unset, .unset, .unset, .unset] [(.int m1), (.ref ob1)])) rfl (by rw [hml]; rfl) (Steps.refl _) (argsL := [(.int m1)]) (rest := []) (lenOf own_pd1 rfl) rfl (by show 2 * 0 + _ ≤ _; exact Nat.le_of_eq rfl) (hb hby at_21) (fun _ _ => ⟨rfl, (rfl : T4.heap = T4.heap), (by decide : 2 + 1 ≤ _), (by decide : 257 + 16385 ≤ _)⟩)
  dsimp only [Pt.U, Pt.locs, Pt.cells, Pt.slots] at X6 l6 y6 z6 st6 hQ6
  subst l6 y6 z6
  obtain ⟨rfl, N6q, K6, rd, nd, fdd, fb6, fs6, V6, Ft6, g_rd, hb1, hct1⟩ := hQ6
  have N6 := Fr.app N4 N6q
  have f7 := f5.keep K6
  refine own_tr st6 ?_
  show own_Run p e below s _ _ _ (T6.setTop (mkF m 24 #[.val (.int v0), .val (.int v1), .val (.int v2), .val (.int v3), .val (.int v4), .val (.ref ob1), .unset, .unset, .unset, .unset, .unset, .unset, .unset, .unset] [(.int (own_ls m1))]))
  have rn513 : nd ≤ 513 := by obtain ⟨z1, z2⟩ := hb1; omega
  have hndl := own_nlen (n := nd) (by omega)
  refine own_of (fun _ hh_ => XS.pop X6.here hx rfl (hb hby at_24) rfl rfl hh_) ?_
  show own_Run p e below s _ _ _ (T6.setTop (mkF m 25 #[.val (.int v0), .val (.int v1), .val (.int v2), .val (.int v3), .val (.int v4), .val (.ref ob1), .unset, .unset, .unset, .unset, .unset, .unset, .unset, .unset] []))
  refine own_of (fun _ hh_ => XS.aload X6.here hx rfl (hb hby at_25) rfl rfl hh_) ?_
  show own_Run p e below s _ _ _ (T6.setTop (mkF m 27 #[.val (.int v0), .val (.int v1), .val (.int v2), .val (.int v3), .val (.int v4), .val (.ref ob1), .unset, .unset, .unset, .unset, .unset, .unset, .unset, .unset] [(.ref ob1)]))
  obtain ⟨cq8, kq8, q8a, q8b, q8c⟩ := isOf hZ (rfl : T6.heap = T6.heap) f7
  obtain ⟨_, _, ⟨T8, L8, k8, n8⟩, -, X8, ⟨Lc8, hQ8, l8, y8, z8⟩, st8⟩ := X6.virtualBack hx (y := (⟨"com/example/pagewright/pagewright/RecordCodec$Writer", "bytes", "()[B"⟩ : MethodName)) (z := (⟨"com/example/pagewright/pagewright/RecordCodec$Writer", "bytes", "()[B"⟩ : MethodName)) hown (mvT hZ (hw _ (List.mem_of_getElem? (i := 27) rfl))) (mvT hZ (hw _ (List.mem_of_getElem? (i := 28) rfl))) (notFace_of_selects (args := #[]) (mvT hZ (hw _ (List.mem_of_getElem? (i := 30) rfl)))) (mvT hZ (hw _ (List.mem_of_getElem? (i := 30) rfl))) (mvT hZ (hw _ (List.mem_of_getElem? (i := 29) rfl))) (by decide) (backOf (W := 0) (rmB l Z a0 hw [] ob1 rd T6.heap n0 (Nat.le_trans (Nat.le_trans (Nat.le_trans Z0 E1.1) K4.1) K6.1) fb6) hZ (hw _ (List.mem_of_getElem? (i := 31) rfl)) (hw _ (List.mem_of_getElem? (i := 2) rfl)) (by decide) (by decide)) q8a q8c (g := (mkF m 27 #[.val (.int v0), .val (.int v1), .val (.int v2), .val (.int v3), .val (.int v4), .val (.ref ob1), .unset, .unset, .unset, .unset, .unset, .unset, .unset, .unset] [(.ref ob1)])) rfl (by rw [hml]; rfl) (Steps.refl _) (argsL := []) (rest := []) (lenOf own_pd4 rfl) rfl (by show 2 * 0 + _ ≤ _; exact Nat.le_of_eq rfl) (hb hby at_27) (fun _ _ => ⟨rfl, (rfl : T6.heap = T6.heap), (by decide : 3 + 0 ≤ _), (by decide : 16642 + 0 ≤ _)⟩)
  dsimp only [Pt.U, Pt.locs, Pt.cells, Pt.slots] at X8 l8 y8 z8 st8 hQ8
  subst l8 y8 z8
  obtain ⟨rfl, N8q, e8⟩ := hQ8
  have N8 := Fr.app N6 N8q
  refine own_tr st8 ?_
  show own_Run p e below s _ _ _ (T8.setTop (mkF m 30 #[.val (.int v0), .val (.int v1), .val (.int v2), .val (.int v3), .val (.int v4), .val (.ref ob1), .unset, .unset, .unset, .unset, .unset, .unset, .unset, .unset] [(.ref rd)]))
  refine own_of (fun _ hh_ => XS.astore X8.here hx rfl (hb hby at_30) rfl rfl (l' := #[.val (.int v0), .val (.int v1), .val (.int v2), .val (.int v3), .val (.int v4), .val (.ref ob1), .val (.ref rd), .unset, .unset, .unset, .unset, .unset, .unset, .unset]) rfl hh_) ?_
  show own_Run p e below s _ _ _ (T8.setTop (mkF m 32 #[.val (.int v0), .val (.int v1), .val (.int v2), .val (.int v3), .val (.int v4), .val (.ref ob1), .val (.ref rd), .unset, .unset, .unset, .unset, .unset, .unset, .unset] []))
  refine own_of (fun _ hh_ => XS.aload X8.here hx rfl (hb hby at_32) rfl rfl hh_) ?_
  show own_Run p e below s _ _ _ (T8.setTop (mkF m 34 #[.val (.int v0), .val (.int v1), .val (.int v2), .val (.int v3), .val (.int v4), .val (.ref ob1), .val (.ref rd), .unset, .unset, .unset, .unset, .unset, .unset, .unset] [(.ref rd)]))
  refine own_alen X8 hx hZ e8 V6 (w := nd.toInt32) rfl (hb hby at_34) ?_
  show own_Run p e below s _ _ _ (T8.setTop (mkF m 35 #[.val (.int v0), .val (.int v1), .val (.int v2), .val (.int v3), .val (.int v4), .val (.ref ob1), .val (.ref rd), .unset, .unset, .unset, .unset, .unset, .unset, .unset] [(.int nd.toInt32)]))
  refine own_of (fun _ hh_ => XS.istore X8.here hx rfl (hb hby at_35) rfl (l' := #[.val (.int v0), .val (.int v1), .val (.int v2), .val (.int v3), .val (.int v4), .val (.ref ob1), .val (.ref rd), .val (.int nd.toInt32), .unset, .unset, .unset, .unset, .unset, .unset]) rfl hh_) ?_
  show own_Run p e below s _ _ _ (T8.setTop (mkF m 37 #[.val (.int v0), .val (.int v1), .val (.int v2), .val (.int v3), .val (.int v4), .val (.ref ob1), .val (.ref rd), .val (.int nd.toInt32), .unset, .unset, .unset, .unset, .unset, .unset] []))
  refine own_of (fun _ hh_ => XS.iload X8.here hx rfl (hb hby at_37) rfl hh_) ?_
  show own_Run p e below s _ _ _ (T8.setTop (mkF m 39 #[.val (.int v0), .val (.int v1), .val (.int v2), .val (.int v3), .val (.int v4), .val (.ref ob1), .val (.ref rd), .val (.int nd.toInt32), .unset, .unset, .unset, .unset, .unset, .unset] [(.int v4)]))
  refine own_of (fun _ hh_ => XS.iconst X8.here hx rfl (hb hby at_39) hh_) ?_
  show own_Run p e below s _ _ _ (T8.setTop (mkF m 40 #[.val (.int v0), .val (.int v1), .val (.int v2), .val (.int v3), .val (.int v4), .val (.ref ob1), .val (.ref rd), .val (.int nd.toInt32), .unset, .unset, .unset, .unset, .unset, .unset] [(.int (1 : Int32)), (.int v4)]))
  refine own_of (fun _ hh_ => XS.iand X8.here hx rfl (hb hby at_40) rfl hh_) ?_
  show own_Run p e below s _ _ _ (T8.setTop (mkF m 41 #[.val (.int v0), .val (.int v1), .val (.int v2), .val (.int v3), .val (.int v4), .val (.ref ob1), .val (.ref rd), .val (.int nd.toInt32), .unset, .unset, .unset, .unset, .unset, .unset] [(.int (v4 &&& (1 : Int32)))]))
  by_cases hc41_9 : (v4 &&& (1 : Int32)) = (0 : Int32)
  · refine own_of (fun _ hh_ => XS.ifYes X8.here hx rfl (pc0 := 41) (pc' := 51) rfl (hb hby at_41) rfl ((if0 _ _).trans (teq hc41_9).1) (by decide) (by decide) hh_) ?_
    show own_Run p e below s _ _ _ (T8.setTop (mkF m 51 #[.val (.int v0), .val (.int v1), .val (.int v2), .val (.int v3), .val (.int v4), .val (.ref ob1), .val (.ref rd), .val (.int nd.toInt32), .unset, .unset, .unset, .unset, .unset, .unset] []))
    refine own_of (fun _ hh_ => XS.iloadN X8.here hx rfl (hb hby at_51) rfl hh_) ?_
    show own_Run p e below s _ _ _ (T8.setTop (mkF m 52 #[.val (.int v0), .val (.int v1), .val (.int v2), .val (.int v3), .val (.int v4), .val (.ref ob1), .val (.ref rd), .val (.int nd.toInt32), .unset, .unset, .unset, .unset, .unset, .unset] [(.int v2)]))
    refine own_of (fun _ hh_ => XS.sipush X8.here hx rfl (hb hby at_52) hh_) ?_
    show own_Run p e below s _ _ _ (T8.setTop (mkF m 55 #[.val (.int v0), .val (.int v1), .val (.int v2), .val (.int v3), .val (.int v4), .val (.ref ob1), .val (.ref rd), .val (.int nd.toInt32), .unset, .unset, .unset, .unset, .unset, .unset] [(.int (1023 : Int32)), (.int v2)]))
    refine own_of (fun _ hh_ => XS.iand X8.here hx rfl (hb hby at_55) rfl hh_) ?_
    show own_Run p e below s _ _ _ (T8.setTop (mkF m 56 #[.val (.int v0), .val (.int v1), .val (.int v2), .val (.int v3), .val (.int v4), .val (.ref ob1), .val (.ref rd), .val (.int nd.toInt32), .unset, .unset, .unset, .unset, .unset, .unset] [(.int (v2 &&& (1023 : Int32)))]))
    generalize hkk : (v2 &&& (1023 : Int32)) = kk
    have rk0 : 0 ≤ kk.toInt := by rw [← hkk]; exact (own_m v2 10 (by decide) _ (by decide) _ rfl).1
    show own_Run p e below s _ _ _ (T8.setTop (mkF m 56 #[.val (.int v0), .val (.int v1), .val (.int v2), .val (.int v3), .val (.int v4), .val (.ref ob1), .val (.ref rd), .val (.int nd.toInt32), .unset, .unset, .unset, .unset, .unset, .unset] [(.int kk)]))
    refine own_of (fun _ hh_ => XS.istore X8.here hx rfl (hb hby at_56) rfl (l' := #[.val (.int v0), .val (.int v1), .val (.int v2), .val (.int v3), .val (.int v4), .val (.ref ob1), .val (.ref rd), .val (.int nd.toInt32), .val (.int kk), .unset, .unset, .unset, .unset, .unset]) rfl hh_) ?_
    show own_Run p e below s _ _ _ (T8.setTop (mkF m 58 #[.val (.int v0), .val (.int v1), .val (.int v2), .val (.int v3), .val (.int v4), .val (.ref ob1), .val (.ref rd), .val (.int nd.toInt32), .val (.int kk), .unset, .unset, .unset, .unset, .unset] []))
    refine own_of (fun _ hh_ => XS.aload X8.here hx rfl (hb hby at_58) rfl rfl hh_) ?_
    show own_Run p e below s _ _ _ (T8.setTop (mkF m 60 #[.val (.int v0), .val (.int v1), .val (.int v2), .val (.int v3), .val (.int v4), .val (.ref ob1), .val (.ref rd), .val (.int nd.toInt32), .val (.int kk), .unset, .unset, .unset, .unset, .unset] [(.ref ob1)]))
    refine own_of (fun _ hh_ => XS.iload X8.here hx rfl (hb hby at_60) rfl hh_) ?_
    show own_Run p e below s _ _ _ (T8.setTop (mkF m 62 #[.val (.int v0), .val (.int v1), .val (.int v2), .val (.int v3), .val (.int v4), .val (.ref ob1), .val (.ref rd), .val (.int nd.toInt32), .val (.int kk), .unset, .unset, .unset, .unset, .unset] [(.int kk), (.ref ob1)]))
    have hrdlt := V6.lt
    obtain ⟨cq10, kq10, q10a, q10b, q10c⟩ := isOf hZ e8 f7
    obtain ⟨_, _, ⟨T10, L10, k10, n10⟩, -, X10, ⟨Lc10, hQ10, l10, y10, z10⟩, st10⟩ := X8.virtualBack hx (y := (⟨"com/example/pagewright/pagewright/RecordCodec$Writer", "clear", "(I)V"⟩ : MethodName)) (z := (⟨"com/example/pagewright/pagewright/RecordCodec$Writer", "clear", "(I)V"⟩ : MethodName)) hown (mvT hZ (hw _ (List.mem_of_getElem? (i := 32) rfl))) (mvT hZ (hw _ (List.mem_of_getElem? (i := 33) rfl))) (notFace_of_selects (args := #[]) (mvT hZ (hw _ (List.mem_of_getElem? (i := 35) rfl)))) (mvT hZ (hw _ (List.mem_of_getElem? (i := 35) rfl))) (mvT hZ (hw _ (List.mem_of_getElem? (i := 34) rfl))) (by decide) (backOf (W := 0) (rmK l Z a0 hw [] ob1 kk rd ((own_ls m1) + m1) nd fdd T6.heap n0 (Nat.le_trans (Nat.le_trans (Nat.le_trans Z0 E1.1) K4.1) K6.1) f7 fb6 fs6 V6 Ft6 g_ob1 g_rd rk0 rn513) hZ (hw _ (List.mem_of_getElem? (i := 36) rfl)) (hw _ (List.mem_of_getElem? (i := 2) rfl)) (by decide) (by decide)) q10a q10c (g := (mkF m 62 #[.val (.int v0), .val (.int v1), .val (.int v2), .val (.int v3), .val (.int v4), .val (.ref ob1), .val (.ref rd), .val (.int nd.toInt32), .val (.int kk), .unset, .unset, .unset, .unset, .unset] [(.int kk), (.ref ob1)])) rfl (by rw [hml]; rfl) (Steps.refl _) (argsL := [(.int kk)]) (rest := []) (lenOf own_pd3 rfl) rfl (by show 2 * 0 + _ ≤ _; exact Nat.le_of_eq rfl) (hb hby at_62) (fun _ _ => ⟨rfl, e8, (by decide : 3 + 1 ≤ _), (by decide : 16642 + 513 ≤ _)⟩)
    dsimp only [Pt.U, Pt.locs, Pt.cells, Pt.slots] at X10 l10 y10 z10 st10 hQ10
    subst l10 y10 z10
    obtain ⟨rfl, N10q, K10, rb, nb, fbb, fb10, fs10, Vb, Ftb, g_rb, hcase⟩ := hQ10
    have N10 := Fr.app N8 N10q
    have f11 := f7.keep K10
    refine own_tr st10 ?_
    show own_Run p e below s _ _ _ (T10.setTop (mkF m 65 #[.val (.int v0), .val (.int v1), .val (.int v2), .val (.int v3), .val (.int v4), .val (.ref ob1), .val (.ref rd), .val (.int nd.toInt32), .val (.int kk), .unset, .unset, .unset, .unset, .unset] []))
    refine own_of (fun _ hh_ => XS.aload X10.here hx rfl (hb hby at_65) rfl rfl hh_) ?_
    show own_Run p e below s _ _ _ (T10.setTop (mkF m 67 #[.val (.int v0), .val (.int v1), .val (.int v2), .val (.int v3), .val (.int v4), .val (.ref ob1), .val (.ref rd), .val (.int nd.toInt32), .val (.int kk), .unset, .unset, .unset, .unset, .unset] [(.ref ob1)]))
    obtain ⟨cq12, kq12, q12a, q12b, q12c⟩ := isOf hZ (rfl : T10.heap = T10.heap) f11
    obtain ⟨_, _, ⟨T12, L12, k12, n12⟩, -, X12, ⟨Lc12, hQ12, l12, y12, z12⟩, st12⟩ := X10.virtualBack hx (y := (⟨"com/example/pagewright/pagewright/RecordCodec$Writer", "size", "()I"⟩ : MethodName)) (z := (⟨"com/example/pagewright/pagewright/RecordCodec$Writer", "size", "()I"⟩ : MethodName)) hown (mvT hZ (hw _ (List.mem_of_getElem? (i := 37) rfl))) (mvT hZ (hw _ (List.mem_of_getElem? (i := 38) rfl))) (notFace_of_selects (args := #[]) (mvT hZ (hw _ (List.mem_of_getElem? (i := 40) rfl)))) (mvT hZ (hw _ (List.mem_of_getElem? (i := 40) rfl))) (mvT hZ (hw _ (List.mem_of_getElem? (i := 39) rfl))) (by decide) (backOf (W := 0) (rmZ l Z a0 hw [] ob1 (0 : Int32) T10.heap n0 (Nat.le_trans (Nat.le_trans (Nat.le_trans (Nat.le_trans Z0 E1.1) K4.1) K6.1) K10.1) fs10) hZ (hw _ (List.mem_of_getElem? (i := 41) rfl)) (hw _ (List.mem_of_getElem? (i := 2) rfl)) (by decide) (by decide)) q12a q12c (g := (mkF m 67 #[.val (.int v0), .val (.int v1), .val (.int v2), .val (.int v3), .val (.int v4), .val (.ref ob1), .val (.ref rd), .val (.int nd.toInt32), .val (.int kk), .unset, .unset, .unset, .unset, .unset] [(.ref ob1)])) rfl (by rw [hml]; rfl) (Steps.refl _) (argsL := []) (rest := []) (lenOf own_pd5 rfl) rfl (by show 2 * 0 + _ ≤ _; exact Nat.le_of_eq rfl) (hb hby at_67) (fun _ _ => ⟨rfl, (rfl : T10.heap = T10.heap), (by decide : 4 + 0 ≤ _), (by decide : 17155 + 0 ≤ _)⟩)
    dsimp only [Pt.U, Pt.locs, Pt.cells, Pt.slots] at X12 l12 y12 z12 st12 hQ12
    subst l12 y12 z12
    obtain ⟨rfl, N12q, e12⟩ := hQ12
    have N12 := Fr.app N10 N12q
    refine own_tr st12 ?_
    show own_Run p e below s _ _ _ (T12.setTop (mkF m 70 #[.val (.int v0), .val (.int v1), .val (.int v2), .val (.int v3), .val (.int v4), .val (.ref ob1), .val (.ref rd), .val (.int nd.toInt32), .val (.int kk), .unset, .unset, .unset, .unset, .unset] [(.int (0 : Int32))]))
    refine own_of (fun _ hh_ => XS.ifYes X12.here hx rfl (pc0 := 70) (pc' := 75) rfl (hb hby at_70) rfl ((if0 _ _).trans (by decide)) (by decide) (by decide) hh_) ?_
    show own_Run p e below s _ _ _ (T12.setTop (mkF m 75 #[.val (.int v0), .val (.int v1), .val (.int v2), .val (.int v3), .val (.int v4), .val (.ref ob1), .val (.ref rd), .val (.int nd.toInt32), .val (.int kk), .unset, .unset, .unset, .unset, .unset] []))
    refine own_of (fun _ hh_ => XS.aload X12.here hx rfl (hb hby at_75) rfl rfl hh_) ?_
    show own_Run p e below s _ _ _ (T12.setTop (mkF m 77 #[.val (.int v0), .val (.int v1), .val (.int v2), .val (.int v3), .val (.int v4), .val (.ref ob1), .val (.ref rd), .val (.int nd.toInt32), .val (.int kk), .unset, .unset, .unset, .unset, .unset] [(.ref ob1)]))
    obtain ⟨cq13, kq13, q13a, q13b, q13c⟩ := isOf hZ e12 f11
    obtain ⟨_, _, ⟨T13, L13, k13, n13⟩, -, X13, ⟨Lc13, hQ13, l13, y13, z13⟩, st13⟩ := X12.virtualBack hx (y := (⟨"com/example/pagewright/pagewright/RecordCodec$Writer", "bytes", "()[B"⟩ : MethodName)) (z := (⟨"com/example/pagewright/pagewright/RecordCodec$Writer", "bytes", "()[B"⟩ : MethodName)) hown (mvT hZ (hw _ (List.mem_of_getElem? (i := 27) rfl))) (mvT hZ (hw _ (List.mem_of_getElem? (i := 28) rfl))) (notFace_of_selects (args := #[]) (mvT hZ (hw _ (List.mem_of_getElem? (i := 30) rfl)))) (mvT hZ (hw _ (List.mem_of_getElem? (i := 30) rfl))) (mvT hZ (hw _ (List.mem_of_getElem? (i := 29) rfl))) (by decide) (backOf (W := 0) (rmB l Z a0 hw [] ob1 rb T10.heap n0 (Nat.le_trans (Nat.le_trans (Nat.le_trans (Nat.le_trans Z0 E1.1) K4.1) K6.1) K10.1) fb10) hZ (hw _ (List.mem_of_getElem? (i := 31) rfl)) (hw _ (List.mem_of_getElem? (i := 2) rfl)) (by decide) (by decide)) q13a q13c (g := (mkF m 77 #[.val (.int v0), .val (.int v1), .val (.int v2), .val (.int v3), .val (.int v4), .val (.ref ob1), .val (.ref rd), .val (.int nd.toInt32), .val (.int kk), .unset, .unset, .unset, .unset, .unset] [(.ref ob1)])) rfl (by rw [hml]; rfl) (Steps.refl _) (argsL := []) (rest := []) (lenOf own_pd4 rfl) rfl (by show 2 * 0 + _ ≤ _; exact Nat.le_of_eq rfl) (hb hby at_77) (fun _ _ => ⟨rfl, e12, (by decide : 4 + 0 ≤ _), (by decide : 17155 + 0 ≤ _)⟩)
    dsimp only [Pt.U, Pt.locs, Pt.cells, Pt.slots] at X13 l13 y13 z13 st13 hQ13
    subst l13 y13 z13
    obtain ⟨rfl, N13q, e13⟩ := hQ13
    have N13 := Fr.app N12 N13q
    refine own_tr st13 ?_
    show own_Run p e below s _ _ _ (T13.setTop (mkF m 80 #[.val (.int v0), .val (.int v1), .val (.int v2), .val (.int v3), .val (.int v4), .val (.ref ob1), .val (.ref rd), .val (.int nd.toInt32), .val (.int kk), .unset, .unset, .unset, .unset, .unset] [(.ref rb)]))
    refine own_of (fun _ hh_ => XS.astore X13.here hx rfl (hb hby at_80) rfl rfl (l' := #[.val (.int v0), .val (.int v1), .val (.int v2), .val (.int v3), .val (.int v4), .val (.ref ob1), .val (.ref rd), .val (.int nd.toInt32), .val (.int kk), .val (.ref rb), .unset, .unset, .unset, .unset]) rfl hh_) ?_
    show own_Run p e below s _ _ _ (T13.setTop (mkF m 82 #[.val (.int v0), .val (.int v1), .val (.int v2), .val (.int v3), .val (.int v4), .val (.ref ob1), .val (.ref rd), .val (.int nd.toInt32), .val (.int kk), .val (.ref rb), .unset, .unset, .unset, .unset] []))
    have hnb : nb ≤ 513 ∧ ((¬ kk < nd.toInt32 ∧ rb = rd ∧ nb = nd) ∨ (kk < nd.toInt32 ∧ rb ≠ rd ∧ (nb : Int) = kk.toInt)) := by
      rcases hcase with ⟨z1, z2, z3⟩ | ⟨z1, z2, z3⟩
      · exact ⟨by omega, Or.inl ⟨z1, z2, z3⟩⟩
      · have z4 := Int32.lt_iff_toInt_lt.mp z1; have z5 := own_clamp (j := kk) rk0; rw [hndl] at z4
        exact ⟨by omega, Or.inr ⟨z1, fun q => absurd z2 (by rw [q]; exact Nat.not_le.mpr hrdlt), by omega⟩⟩
    have hnbl := own_nlen (n := nb) (by omega)
    have hf2c := hnb.1
    refine own_of (fun _ hh_ => XS.aload X13.here hx rfl (hb hby at_82) rfl rfl hh_) ?_
    show own_Run p e below s _ _ _ (T13.setTop (mkF m 84 #[.val (.int v0), .val (.int v1), .val (.int v2), .val (.int v3), .val (.int v4), .val (.ref ob1), .val (.ref rd), .val (.int nd.toInt32), .val (.int kk), .val (.ref rb), .unset, .unset, .unset, .unset] [(.ref rb)]))
    refine own_alen X13 hx hZ e13 Vb (w := nb.toInt32) rfl (hb hby at_84) ?_
    show own_Run p e below s _ _ _ (T13.setTop (mkF m 85 #[.val (.int v0), .val (.int v1), .val (.int v2), .val (.int v3), .val (.int v4), .val (.ref ob1), .val (.ref rd), .val (.int nd.toInt32), .val (.int kk), .val (.ref rb), .unset, .unset, .unset, .unset] [(.int nb.toInt32)]))
    refine own_of (fun _ hh_ => XS.iload X13.here hx rfl (hb hby at_85) rfl hh_) ?_
    show own_Run p e below s _ _ _ (T13.setTop (mkF m 87 #[.val (.int v0), .val (.int v1), .val (.int v2), .val (.int v3), .val (.int v4), .val (.ref ob1), .val (.ref rd), .val (.int nd.toInt32), .val (.int kk), .val (.ref rb), .unset, .unset, .unset, .unset] [(.int nd.toInt32), (.int nb.toInt32)]))
    refine own_of (fun _ hh_ => XS.iload X13.here hx rfl (hb hby at_87) rfl hh_) ?_
    show own_Run p e below s _ _ _ (T13.setTop (mkF m 89 #[.val (.int v0), .val (.int v1), .val (.int v2), .val (.int v3), .val (.int v4), .val (.ref ob1), .val (.ref rd), .val (.int nd.toInt32), .val (.int kk), .val (.ref rb), .unset, .unset, .unset, .unset] [(.int kk), (.int nd.toInt32), (.int nb.toInt32)]))
    obtain ⟨_, _, ⟨T14, L14, k14, n14⟩, -, X14, ⟨Lc14, hQ14, l14, y14, z14⟩, st14⟩ := Jvm.LawKit.callS X13 hx (y := (⟨"java/lang/Math", "min", "(II)I"⟩ : MethodName)) hown (mvT hZ (hw _ (List.mem_of_getElem? (i := 42) rfl))) (mvT hZ (hw _ (List.mem_of_getElem? (i := 43) rfl))) (mvT hZ (hw _ (List.mem_of_getElem? (i := 11) rfl))) (mvT hZ (hw _ (List.mem_of_getElem? (i := 44) rfl))) (by decide) (backOf (W := 1) (rmm l Z a0 hw [] nd.toInt32 kk T10.heap n0 (Nat.le_trans (Nat.le_trans (Nat.le_trans (Nat.le_trans Z0 E1.1) K4.1) K6.1) K10.1)) hZ (hw _ (List.mem_of_getElem? (i := 44) rfl)) (hw _ (List.mem_of_getElem? (i := 11) rfl)) (by decide) (by decide)) (g := (mkF m 89 #[.val (.int v0), .val (.int v1), .val (.int v2), .val (.int v3), .val (.int v4), .val (.ref ob1), .val (.ref rd), .val (.int nd.toInt32), .val (.int kk), .val (.ref rb), .unset, .unset, .unset, .unset] [(.int kk), (.int nd.toInt32), (.int nb.toInt32)])) rfl (by rw [hml]; rfl) (argsL := [(.int nd.toInt32), (.int kk)]) (rest := [(.int nb.toInt32)]) (lenOf own_pd0 rfl) rfl (by show 2 * 0 + _ ≤ _; exact Nat.le_of_eq rfl) (hb hby at_89) (fun _ _ => ⟨rfl, e13, (by decide : 4 + 0 ≤ _), (by decide : 17155 + 0 ≤ _)⟩)
    dsimp only [Pt.U, Pt.locs, Pt.cells, Pt.slots] at X14 l14 y14 z14 st14 hQ14
    subst l14 y14 z14
    obtain ⟨rfl, N14q, e14⟩ := hQ14
    have N14 := Fr.app N13 N14q
    refine own_of st14 ?_
    show own_Run p e below s _ _ _ (T14.setTop (mkF m 92 #[.val (.int v0), .val (.int v1), .val (.int v2), .val (.int v3), .val (.int v4), .val (.ref ob1), .val (.ref rd), .val (.int nd.toInt32), .val (.int kk), .val (.ref rb), .unset, .unset, .unset, .unset] [(.int (own_minI nd.toInt32 kk)), (.int nb.toInt32)]))
    have hc92_15 : nb.toInt32 = (own_minI nd.toInt32 kk) := by apply Int32.toInt_inj.mp; have z := own_minI_i nd.toInt32 kk; rw [hndl] at z; rw [hnbl, z]; rcases hnb.2 with ⟨y1, y2, y3⟩ | ⟨y1, y2, y3⟩; have y4 := mt Int32.lt_iff_toInt_lt.mpr y1; rw [hndl] at y4; split <;> omega; have y4 := Int32.lt_iff_toInt_lt.mp y1; rw [hndl] at y4; split <;> omega
    refine own_of (fun _ hh_ => XS.icmpYes X14.here hx rfl (pc0 := 92) (pc' := 97) rfl (hb hby at_92) rfl (teq hc92_15).1 (by decide) (by decide) hh_) ?_
    show own_Run p e below s _ _ _ (T14.setTop (mkF m 97 #[.val (.int v0), .val (.int v1), .val (.int v2), .val (.int v3), .val (.int v4), .val (.ref ob1), .val (.ref rd), .val (.int nd.toInt32), .val (.int kk), .val (.ref rb), .unset, .unset, .unset, .unset] []))
    refine own_of (fun _ hh_ => XS.iload X14.here hx rfl (hb hby at_97) rfl hh_) ?_
    show own_Run p e below s _ _ _ (T14.setTop (mkF m 99 #[.val (.int v0), .val (.int v1), .val (.int v2), .val (.int v3), .val (.int v4), .val (.ref ob1), .val (.ref rd), .val (.int nd.toInt32), .val (.int kk), .val (.ref rb), .unset, .unset, .unset, .unset] [(.int nd.toInt32)]))
    refine own_of (fun _ hh_ => XS.iload X14.here hx rfl (hb hby at_99) rfl hh_) ?_
    show own_Run p e below s _ _ _ (T14.setTop (mkF m 101 #[.val (.int v0), .val (.int v1), .val (.int v2), .val (.int v3), .val (.int v4), .val (.ref ob1), .val (.ref rd), .val (.int nd.toInt32), .val (.int kk), .val (.ref rb), .unset, .unset, .unset, .unset] [(.int kk), (.int nd.toInt32)]))
    by_cases hc101_16 : kk < nd.toInt32
    · refine own_of (fun _ hh_ => XS.icmpYes X14.here hx rfl (pc0 := 101) (pc' := 113) rfl (hb hby at_101) rfl (tlt hc101_16).2.2.1 (by decide) (by decide) hh_) ?_
      show own_Run p e below s _ _ _ (T14.setTop (mkF m 113 #[.val (.int v0), .val (.int v1), .val (.int v2), .val (.int v3), .val (.int v4), .val (.ref ob1), .val (.ref rd), .val (.int nd.toInt32), .val (.int kk), .val (.ref rb), .unset, .unset, .unset, .unset] []))
      refine own_of (fun _ hh_ => XS.iload X14.here hx rfl (hb hby at_113) rfl hh_) ?_
      show own_Run p e below s _ _ _ (T14.setTop (mkF m 115 #[.val (.int v0), .val (.int v1), .val (.int v2), .val (.int v3), .val (.int v4), .val (.ref ob1), .val (.ref rd), .val (.int nd.toInt32), .val (.int kk), .val (.ref rb), .unset, .unset, .unset, .unset] [(.int nd.toInt32)]))
      refine own_of (fun _ hh_ => XS.iload X14.here hx rfl (hb hby at_115) rfl hh_) ?_
      show own_Run p e below s _ _ _ (T14.setTop (mkF m 117 #[.val (.int v0), .val (.int v1), .val (.int v2), .val (.int v3), .val (.int v4), .val (.ref ob1), .val (.ref rd), .val (.int nd.toInt32), .val (.int kk), .val (.ref rb), .unset, .unset, .unset, .unset] [(.int kk), (.int nd.toInt32)]))
      have hc117_17 : kk < nd.toInt32 := hc101_16
      refine own_of (fun _ hh_ => XS.icmpNo X14.here hx rfl (hb hby at_117) rfl (tlt hc117_17).2.2.2 hh_) ?_
      show own_Run p e below s _ _ _ (T14.setTop (mkF m 120 #[.val (.int v0), .val (.int v1), .val (.int v2), .val (.int v3), .val (.int v4), .val (.ref ob1), .val (.ref rd), .val (.int nd.toInt32), .val (.int kk), .val (.ref rb), .unset, .unset, .unset, .unset] []))
      refine own_of (fun _ hh_ => XS.aload X14.here hx rfl (hb hby at_120) rfl rfl hh_) ?_
      show own_Run p e below s _ _ _ (T14.setTop (mkF m 122 #[.val (.int v0), .val (.int v1), .val (.int v2), .val (.int v3), .val (.int v4), .val (.ref ob1), .val (.ref rd), .val (.int nd.toInt32), .val (.int kk), .val (.ref rb), .unset, .unset, .unset, .unset] [(.ref rb)]))
      refine own_of (fun _ hh_ => XS.aload X14.here hx rfl (hb hby at_122) rfl rfl hh_) ?_
      show own_Run p e below s _ _ _ (T14.setTop (mkF m 124 #[.val (.int v0), .val (.int v1), .val (.int v2), .val (.int v3), .val (.int v4), .val (.ref ob1), .val (.ref rd), .val (.int nd.toInt32), .val (.int kk), .val (.ref rb), .unset, .unset, .unset, .unset] [(.ref rd), (.ref rb)]))
      refine own_of (fun _ hh_ => Jvm.RoadKit.acmp (g := (mkF m 124 #[.val (.int v0), .val (.int v1), .val (.int v2), .val (.int v3), .val (.int v4), .val (.ref ob1), .val (.ref rd), .val (.int nd.toInt32), .val (.int kk), .val (.ref rb), .unset, .unset, .unset, .unset] [(.ref rd), (.ref rb)])) X14 hx rfl rfl rfl (pc0 := 124) (pc' := 129) (same := false) rfl (hb hby at_124) rfl (decide_eq_false (fun q => by rcases hnb.2 with ⟨y1, y2, y3⟩ | ⟨y1, y2, y3⟩; exact y1 hc101_16; exact y2 (Value.ref.inj q))) (by decide) (by decide) hh_) ?_
      show own_Run p e below s _ _ _ (T14.setTop (mkF m 129 #[.val (.int v0), .val (.int v1), .val (.int v2), .val (.int v3), .val (.int v4), .val (.ref ob1), .val (.ref rd), .val (.int nd.toInt32), .val (.int kk), .val (.ref rb), .unset, .unset, .unset, .unset] []))
      refine own_of (fun _ hh_ => XS.iloadN X14.here hx rfl (hb hby at_129) rfl hh_) ?_
      show own_Run p e below s _ _ _ (T14.setTop (mkF m 130 #[.val (.int v0), .val (.int v1), .val (.int v2), .val (.int v3), .val (.int v4), .val (.ref ob1), .val (.ref rd), .val (.int nd.toInt32), .val (.int kk), .val (.ref rb), .unset, .unset, .unset, .unset] [(.int v3)]))
      refine own_of (fun _ hh_ => XS.sipush X14.here hx rfl (hb hby at_130) hh_) ?_
      show own_Run p e below s _ _ _ (T14.setTop (mkF m 133 #[.val (.int v0), .val (.int v1), .val (.int v2), .val (.int v3), .val (.int v4), .val (.ref ob1), .val (.ref rd), .val (.int nd.toInt32), .val (.int kk), .val (.ref rb), .unset, .unset, .unset, .unset] [(.int (16383 : Int32)), (.int v3)]))
      refine own_of (fun _ hh_ => XS.iand X14.here hx rfl (hb hby at_133) rfl hh_) ?_
      show own_Run p e below s _ _ _ (T14.setTop (mkF m 134 #[.val (.int v0), .val (.int v1), .val (.int v2), .val (.int v3), .val (.int v4), .val (.ref ob1), .val (.ref rd), .val (.int nd.toInt32), .val (.int kk), .val (.ref rb), .unset, .unset, .unset, .unset] [(.int (v3 &&& (16383 : Int32)))]))
      generalize hmm : (v3 &&& (16383 : Int32)) = mm
      have rmm : 0 ≤ mm.toInt ∧ mm.toInt < ((16384 : Nat) : Int) := by rw [← hmm]; exact own_m v3 14 (by decide) _ (by decide) _ rfl
      have hf2a := rmm.1
      have hf2b : mm.toInt ≤ 16383 := by omega
      show own_Run p e below s _ _ _ (T14.setTop (mkF m 134 #[.val (.int v0), .val (.int v1), .val (.int v2), .val (.int v3), .val (.int v4), .val (.ref ob1), .val (.ref rd), .val (.int nd.toInt32), .val (.int kk), .val (.ref rb), .unset, .unset, .unset, .unset] [(.int mm)]))
      refine own_of (fun _ hh_ => XS.istore X14.here hx rfl (hb hby at_134) rfl (l' := #[.val (.int v0), .val (.int v1), .val (.int v2), .val (.int v3), .val (.int v4), .val (.ref ob1), .val (.ref rd), .val (.int nd.toInt32), .val (.int kk), .val (.ref rb), .val (.int mm), .unset, .unset, .unset]) rfl hh_) ?_
      show own_Run p e below s _ _ _ (T14.setTop (mkF m 136 #[.val (.int v0), .val (.int v1), .val (.int v2), .val (.int v3), .val (.int v4), .val (.ref ob1), .val (.ref rd), .val (.int nd.toInt32), .val (.int kk), .val (.ref rb), .val (.int mm), .unset, .unset, .unset] []))
      refine own_of (fun _ hh_ => XS.aload X14.here hx rfl (hb hby at_136) rfl rfl hh_) ?_
      show own_Run p e below s _ _ _ (T14.setTop (mkF m 138 #[.val (.int v0), .val (.int v1), .val (.int v2), .val (.int v3), .val (.int v4), .val (.ref ob1), .val (.ref rd), .val (.int nd.toInt32), .val (.int kk), .val (.ref rb), .val (.int mm), .unset, .unset, .unset] [(.ref ob1)]))
      refine own_of (fun _ hh_ => XS.iload X14.here hx rfl (hb hby at_138) rfl hh_) ?_
      show own_Run p e below s _ _ _ (T14.setTop (mkF m 140 #[.val (.int v0), .val (.int v1), .val (.int v2), .val (.int v3), .val (.int v4), .val (.ref ob1), .val (.ref rd), .val (.int nd.toInt32), .val (.int kk), .val (.ref rb), .val (.int mm), .unset, .unset, .unset] [(.int mm), (.ref ob1)]))
      obtain ⟨cq18, kq18, q18a, q18b, q18c⟩ := isOf hZ e14 f11
      obtain ⟨_, _, ⟨T18, L18, k18, n18⟩, -, X18, ⟨Lc18, hQ18, l18, y18, z18⟩, st18⟩ := X14.virtualBack hx (y := (⟨"com/example/pagewright/pagewright/RecordCodec$Writer", "field", "(I)I"⟩ : MethodName)) (z := (⟨"com/example/pagewright/pagewright/RecordCodec$Writer", "field", "(I)I"⟩ : MethodName)) hown (mvT hZ (hw _ (List.mem_of_getElem? (i := 16) rfl))) (mvT hZ (hw _ (List.mem_of_getElem? (i := 17) rfl))) (notFace_of_selects (args := #[]) (mvT hZ (hw _ (List.mem_of_getElem? (i := 19) rfl)))) (mvT hZ (hw _ (List.mem_of_getElem? (i := 19) rfl))) (mvT hZ (hw _ (List.mem_of_getElem? (i := 18) rfl))) (by decide) (backOf (W := 0) (rmF l Z a0 hw [] ob1 mm rb nb fbb T10.heap n0 (Nat.le_trans (Nat.le_trans (Nat.le_trans (Nat.le_trans Z0 E1.1) K4.1) K6.1) K10.1) f11 fb10 fs10 Vb Ftb g_ob1 g_rb hf2a hf2b hf2c) hZ (hw _ (List.mem_of_getElem? (i := 20) rfl)) (hw _ (List.mem_of_getElem? (i := 2) rfl)) (by decide) (by decide)) q18a q18c (g := (mkF m 140 #[.val (.int v0), .val (.int v1), .val (.int v2), .val (.int v3), .val (.int v4), .val (.ref ob1), .val (.ref rd), .val (.int nd.toInt32), .val (.int kk), .val (.ref rb), .val (.int mm), .unset, .unset, .unset] [(.int mm), (.ref ob1)])) rfl (by rw [hml]; rfl) (Steps.refl _) (argsL := [(.int mm)]) (rest := []) (lenOf own_pd1 rfl) rfl (by show 2 * 0 + _ ≤ _; exact Nat.le_of_eq rfl) (hb hby at_140) (fun _ _ => ⟨rfl, e14, (by decide : 4 + 1 ≤ _), (by decide : 17155 + 16385 ≤ _)⟩)
      dsimp only [Pt.U, Pt.locs, Pt.cells, Pt.slots] at X18 l18 y18 z18 st18 hQ18
      subst l18 y18 z18
      obtain ⟨rfl, N18q, K18, re, ne2, fee, fb18, fs18, V18, Ft18, g_re, hb2, hct2⟩ := hQ18
      have N18 := Fr.app N14 N18q
      have f19 := f11.keep K18
      refine own_tr st18 ?_
      show own_Run p e below s _ _ _ (T18.setTop (mkF m 143 #[.val (.int v0), .val (.int v1), .val (.int v2), .val (.int v3), .val (.int v4), .val (.ref ob1), .val (.ref rd), .val (.int nd.toInt32), .val (.int kk), .val (.ref rb), .val (.int mm), .unset, .unset, .unset] [(.int (own_ls mm))]))
      refine own_of (fun _ hh_ => XS.istore X18.here hx rfl (hb hby at_143) rfl (l' := #[.val (.int v0), .val (.int v1), .val (.int v2), .val (.int v3), .val (.int v4), .val (.ref ob1), .val (.ref rd), .val (.int nd.toInt32), .val (.int kk), .val (.ref rb), .val (.int mm), .val (.int (own_ls mm)), .unset, .unset]) rfl hh_) ?_
      show own_Run p e below s _ _ _ (T18.setTop (mkF m 145 #[.val (.int v0), .val (.int v1), .val (.int v2), .val (.int v3), .val (.int v4), .val (.ref ob1), .val (.ref rd), .val (.int nd.toInt32), .val (.int kk), .val (.ref rb), .val (.int mm), .val (.int (own_ls mm)), .unset, .unset] []))
      refine own_of (fun _ hh_ => XS.iload X18.here hx rfl (hb hby at_145) rfl hh_) ?_
      show own_Run p e below s _ _ _ (T18.setTop (mkF m 147 #[.val (.int v0), .val (.int v1), .val (.int v2), .val (.int v3), .val (.int v4), .val (.ref ob1), .val (.ref rd), .val (.int nd.toInt32), .val (.int kk), .val (.ref rb), .val (.int mm), .val (.int (own_ls mm)), .unset, .unset] [(.int mm)]))
      refine own_of (fun _ hh_ => XS.sipush X18.here hx rfl (hb hby at_147) hh_) ?_
      show own_Run p e below s _ _ _ (T18.setTop (mkF m 150 #[.val (.int v0), .val (.int v1), .val (.int v2), .val (.int v3), .val (.int v4), .val (.ref ob1), .val (.ref rd), .val (.int nd.toInt32), .val (.int kk), .val (.ref rb), .val (.int mm), .val (.int (own_ls mm)), .unset, .unset] [(.int (128 : Int32)), (.int mm)]))
      by_cases hc150_20 : mm < (128 : Int32)
      · refine own_of (fun _ hh_ => XS.icmpNo X18.here hx rfl (hb hby at_150) rfl (tlt hc150_20).2.1 hh_) ?_
        show own_Run p e below s _ _ _ (T18.setTop (mkF m 153 #[.val (.int v0), .val (.int v1), .val (.int v2), .val (.int v3), .val (.int v4), .val (.ref ob1), .val (.ref rd), .val (.int nd.toInt32), .val (.int kk), .val (.ref rb), .val (.int mm), .val (.int (own_ls mm)), .unset, .unset] []))
        refine own_of (fun _ hh_ => XS.iconst X18.here hx rfl (hb hby at_153) hh_) ?_
        show own_Run p e below s _ _ _ (T18.setTop (mkF m 154 #[.val (.int v0), .val (.int v1), .val (.int v2), .val (.int v3), .val (.int v4), .val (.ref ob1), .val (.ref rd), .val (.int nd.toInt32), .val (.int kk), .val (.ref rb), .val (.int mm), .val (.int (own_ls mm)), .unset, .unset] [(.int (1 : Int32))]))
        refine own_of (fun _ hh_ => XS.goto X18.here hx rfl (pc0 := 154) (pc' := 158) rfl (hb hby at_154) (by decide) (by decide) hh_) ?_
        show own_Run p e below s _ _ _ (T18.setTop (mkF m 158 #[.val (.int v0), .val (.int v1), .val (.int v2), .val (.int v3), .val (.int v4), .val (.ref ob1), .val (.ref rd), .val (.int nd.toInt32), .val (.int kk), .val (.ref rb), .val (.int mm), .val (.int (own_ls mm)), .unset, .unset] [(.int (1 : Int32))]))
        refine own_of (fun _ hh_ => XS.istore X18.here hx rfl (hb hby at_158) rfl (l' := #[.val (.int v0), .val (.int v1), .val (.int v2), .val (.int v3), .val (.int v4), .val (.ref ob1), .val (.ref rd), .val (.int nd.toInt32), .val (.int kk), .val (.ref rb), .val (.int mm), .val (.int (own_ls mm)), .val (.int (1 : Int32)), .unset]) rfl hh_) ?_
        show own_Run p e below s _ _ _ (T18.setTop (mkF m 160 #[.val (.int v0), .val (.int v1), .val (.int v2), .val (.int v3), .val (.int v4), .val (.ref ob1), .val (.ref rd), .val (.int nd.toInt32), .val (.int kk), .val (.ref rb), .val (.int mm), .val (.int (own_ls mm)), .val (.int (1 : Int32)), .unset] []))
        refine own_of (fun _ hh_ => XS.iload X18.here hx rfl (hb hby at_160) rfl hh_) ?_
        show own_Run p e below s _ _ _ (T18.setTop (mkF m 162 #[.val (.int v0), .val (.int v1), .val (.int v2), .val (.int v3), .val (.int v4), .val (.ref ob1), .val (.ref rd), .val (.int nd.toInt32), .val (.int kk), .val (.ref rb), .val (.int mm), .val (.int (own_ls mm)), .val (.int (1 : Int32)), .unset] [(.int (own_ls mm))]))
        refine own_of (fun _ hh_ => XS.iload X18.here hx rfl (hb hby at_162) rfl hh_) ?_
        show own_Run p e below s _ _ _ (T18.setTop (mkF m 164 #[.val (.int v0), .val (.int v1), .val (.int v2), .val (.int v3), .val (.int v4), .val (.ref ob1), .val (.ref rd), .val (.int nd.toInt32), .val (.int kk), .val (.ref rb), .val (.int mm), .val (.int (own_ls mm)), .val (.int (1 : Int32)), .unset] [(.int (1 : Int32)), (.int (own_ls mm))]))
        have hc164_21 : (own_ls mm) = (1 : Int32) := if_pos hc150_20
        refine own_of (fun _ hh_ => XS.icmpYes X18.here hx rfl (pc0 := 164) (pc' := 169) rfl (hb hby at_164) rfl (teq hc164_21).1 (by decide) (by decide) hh_) ?_
        show own_Run p e below s _ _ _ (T18.setTop (mkF m 169 #[.val (.int v0), .val (.int v1), .val (.int v2), .val (.int v3), .val (.int v4), .val (.ref ob1), .val (.ref rd), .val (.int nd.toInt32), .val (.int kk), .val (.ref rb), .val (.int mm), .val (.int (own_ls mm)), .val (.int (1 : Int32)), .unset] []))
        refine own_of (fun _ hh_ => XS.aload X18.here hx rfl (hb hby at_169) rfl rfl hh_) ?_
        show own_Run p e below s _ _ _ (T18.setTop (mkF m 171 #[.val (.int v0), .val (.int v1), .val (.int v2), .val (.int v3), .val (.int v4), .val (.ref ob1), .val (.ref rd), .val (.int nd.toInt32), .val (.int kk), .val (.ref rb), .val (.int mm), .val (.int (own_ls mm)), .val (.int (1 : Int32)), .unset] [(.ref ob1)]))
        obtain ⟨cq22, kq22, q22a, q22b, q22c⟩ := isOf hZ (rfl : T18.heap = T18.heap) f19
        obtain ⟨_, _, ⟨T22, L22, k22, n22⟩, -, X22, ⟨Lc22, hQ22, l22, y22, z22⟩, st22⟩ := X18.virtualBack hx (y := (⟨"com/example/pagewright/pagewright/RecordCodec$Writer", "size", "()I"⟩ : MethodName)) (z := (⟨"com/example/pagewright/pagewright/RecordCodec$Writer", "size", "()I"⟩ : MethodName)) hown (mvT hZ (hw _ (List.mem_of_getElem? (i := 37) rfl))) (mvT hZ (hw _ (List.mem_of_getElem? (i := 38) rfl))) (notFace_of_selects (args := #[]) (mvT hZ (hw _ (List.mem_of_getElem? (i := 40) rfl)))) (mvT hZ (hw _ (List.mem_of_getElem? (i := 40) rfl))) (mvT hZ (hw _ (List.mem_of_getElem? (i := 39) rfl))) (by decide) (backOf (W := 0) (rmZ l Z a0 hw [] ob1 ((own_ls mm) + mm) T18.heap n0 (Nat.le_trans (Nat.le_trans (Nat.le_trans (Nat.le_trans (Nat.le_trans Z0 E1.1) K4.1) K6.1) K10.1) K18.1) fs18) hZ (hw _ (List.mem_of_getElem? (i := 41) rfl)) (hw _ (List.mem_of_getElem? (i := 2) rfl)) (by decide) (by decide)) q22a q22c (g := (mkF m 171 #[.val (.int v0), .val (.int v1), .val (.int v2), .val (.int v3), .val (.int v4), .val (.ref ob1), .val (.ref rd), .val (.int nd.toInt32), .val (.int kk), .val (.ref rb), .val (.int mm), .val (.int (own_ls mm)), .val (.int (1 : Int32)), .unset] [(.ref ob1)])) rfl (by rw [hml]; rfl) (Steps.refl _) (argsL := []) (rest := []) (lenOf own_pd5 rfl) rfl (by show 2 * 0 + _ ≤ _; exact Nat.le_of_eq rfl) (hb hby at_171) (fun _ _ => ⟨rfl, (rfl : T18.heap = T18.heap), (by decide : 5 + 0 ≤ _), (by decide : 33540 + 0 ≤ _)⟩)
        dsimp only [Pt.U, Pt.locs, Pt.cells, Pt.slots] at X22 l22 y22 z22 st22 hQ22
        subst l22 y22 z22
        obtain ⟨rfl, N22q, e22⟩ := hQ22
        have N22 := Fr.app N18 N22q
        refine own_tr st22 ?_
        show own_Run p e below s _ _ _ (T22.setTop (mkF m 174 #[.val (.int v0), .val (.int v1), .val (.int v2), .val (.int v3), .val (.int v4), .val (.ref ob1), .val (.ref rd), .val (.int nd.toInt32), .val (.int kk), .val (.ref rb), .val (.int mm), .val (.int (own_ls mm)), .val (.int (1 : Int32)), .unset] [(.int ((own_ls mm) + mm))]))
        refine own_of (fun _ hh_ => XS.iload X22.here hx rfl (hb hby at_174) rfl hh_) ?_
        show own_Run p e below s _ _ _ (T22.setTop (mkF m 176 #[.val (.int v0), .val (.int v1), .val (.int v2), .val (.int v3), .val (.int v4), .val (.ref ob1), .val (.ref rd), .val (.int nd.toInt32), .val (.int kk), .val (.ref rb), .val (.int mm), .val (.int (own_ls mm)), .val (.int (1 : Int32)), .unset] [(.int (1 : Int32)), (.int ((own_ls mm) + mm))]))
        refine own_of (fun _ hh_ => XS.iload X22.here hx rfl (hb hby at_176) rfl hh_) ?_
        show own_Run p e below s _ _ _ (T22.setTop (mkF m 178 #[.val (.int v0), .val (.int v1), .val (.int v2), .val (.int v3), .val (.int v4), .val (.ref ob1), .val (.ref rd), .val (.int nd.toInt32), .val (.int kk), .val (.ref rb), .val (.int mm), .val (.int (own_ls mm)), .val (.int (1 : Int32)), .unset] [(.int mm), (.int (1 : Int32)), (.int ((own_ls mm) + mm))]))
        refine own_of (fun _ hh_ => XS.iadd X22.here hx rfl (hb hby at_178) rfl hh_) ?_
        show own_Run p e below s _ _ _ (T22.setTop (mkF m 179 #[.val (.int v0), .val (.int v1), .val (.int v2), .val (.int v3), .val (.int v4), .val (.ref ob1), .val (.ref rd), .val (.int nd.toInt32), .val (.int kk), .val (.ref rb), .val (.int mm), .val (.int (own_ls mm)), .val (.int (1 : Int32)), .unset] [(.int ((1 : Int32) + mm)), (.int ((own_ls mm) + mm))]))
        have hc179_23 : ((own_ls mm) + mm) = ((1 : Int32) + mm) := by rw [show own_ls mm = (1 : Int32) from if_pos hc150_20]
        refine own_of (fun _ hh_ => XS.icmpYes X22.here hx rfl (pc0 := 179) (pc' := 184) rfl (hb hby at_179) rfl (teq hc179_23).1 (by decide) (by decide) hh_) ?_
        show own_Run p e below s _ _ _ (T22.setTop (mkF m 184 #[.val (.int v0), .val (.int v1), .val (.int v2), .val (.int v3), .val (.int v4), .val (.ref ob1), .val (.ref rd), .val (.int nd.toInt32), .val (.int kk), .val (.ref rb), .val (.int mm), .val (.int (own_ls mm)), .val (.int (1 : Int32)), .unset] []))
        refine own_of (fun _ hh_ => XS.aload X22.here hx rfl (hb hby at_184) rfl rfl hh_) ?_
        show own_Run p e below s _ _ _ (T22.setTop (mkF m 186 #[.val (.int v0), .val (.int v1), .val (.int v2), .val (.int v3), .val (.int v4), .val (.ref ob1), .val (.ref rd), .val (.int nd.toInt32), .val (.int kk), .val (.ref rb), .val (.int mm), .val (.int (own_ls mm)), .val (.int (1 : Int32)), .unset] [(.ref ob1)]))
        obtain ⟨cq24, kq24, q24a, q24b, q24c⟩ := isOf hZ e22 f19
        obtain ⟨_, _, ⟨T24, L24, k24, n24⟩, -, X24, ⟨Lc24, hQ24, l24, y24, z24⟩, st24⟩ := X22.virtualBack hx (y := (⟨"com/example/pagewright/pagewright/RecordCodec$Writer", "bytes", "()[B"⟩ : MethodName)) (z := (⟨"com/example/pagewright/pagewright/RecordCodec$Writer", "bytes", "()[B"⟩ : MethodName)) hown (mvT hZ (hw _ (List.mem_of_getElem? (i := 27) rfl))) (mvT hZ (hw _ (List.mem_of_getElem? (i := 28) rfl))) (notFace_of_selects (args := #[]) (mvT hZ (hw _ (List.mem_of_getElem? (i := 30) rfl)))) (mvT hZ (hw _ (List.mem_of_getElem? (i := 30) rfl))) (mvT hZ (hw _ (List.mem_of_getElem? (i := 29) rfl))) (by decide) (backOf (W := 0) (rmB l Z a0 hw [] ob1 re T18.heap n0 (Nat.le_trans (Nat.le_trans (Nat.le_trans (Nat.le_trans (Nat.le_trans Z0 E1.1) K4.1) K6.1) K10.1) K18.1) fb18) hZ (hw _ (List.mem_of_getElem? (i := 31) rfl)) (hw _ (List.mem_of_getElem? (i := 2) rfl)) (by decide) (by decide)) q24a q24c (g := (mkF m 186 #[.val (.int v0), .val (.int v1), .val (.int v2), .val (.int v3), .val (.int v4), .val (.ref ob1), .val (.ref rd), .val (.int nd.toInt32), .val (.int kk), .val (.ref rb), .val (.int mm), .val (.int (own_ls mm)), .val (.int (1 : Int32)), .unset] [(.ref ob1)])) rfl (by rw [hml]; rfl) (Steps.refl _) (argsL := []) (rest := []) (lenOf own_pd4 rfl) rfl (by show 2 * 0 + _ ≤ _; exact Nat.le_of_eq rfl) (hb hby at_186) (fun _ _ => ⟨rfl, e22, (by decide : 5 + 0 ≤ _), (by decide : 33540 + 0 ≤ _)⟩)
        dsimp only [Pt.U, Pt.locs, Pt.cells, Pt.slots] at X24 l24 y24 z24 st24 hQ24
        subst l24 y24 z24
        obtain ⟨rfl, N24q, e24⟩ := hQ24
        have N24 := Fr.app N22 N24q
        refine own_tr st24 ?_
        show own_Run p e below s _ _ _ (T24.setTop (mkF m 189 #[.val (.int v0), .val (.int v1), .val (.int v2), .val (.int v3), .val (.int v4), .val (.ref ob1), .val (.ref rd), .val (.int nd.toInt32), .val (.int kk), .val (.ref rb), .val (.int mm), .val (.int (own_ls mm)), .val (.int (1 : Int32)), .unset] [(.ref re)]))
        refine own_of (fun _ hh_ => XS.astore X24.here hx rfl (hb hby at_189) rfl rfl (l' := #[.val (.int v0), .val (.int v1), .val (.int v2), .val (.int v3), .val (.int v4), .val (.ref ob1), .val (.ref rd), .val (.int nd.toInt32), .val (.int kk), .val (.ref rb), .val (.int mm), .val (.int (own_ls mm)), .val (.int (1 : Int32)), .val (.ref re)]) rfl hh_) ?_
        show own_Run p e below s _ _ _ (T24.setTop (mkF m 191 #[.val (.int v0), .val (.int v1), .val (.int v2), .val (.int v3), .val (.int v4), .val (.ref ob1), .val (.ref rd), .val (.int nd.toInt32), .val (.int kk), .val (.ref rb), .val (.int mm), .val (.int (own_ls mm)), .val (.int (1 : Int32)), .val (.ref re)] []))
        refine own_of (fun _ hh_ => XS.iload X24.here hx rfl (hb hby at_191) rfl hh_) ?_
        show own_Run p e below s _ _ _ (T24.setTop (mkF m 193 #[.val (.int v0), .val (.int v1), .val (.int v2), .val (.int v3), .val (.int v4), .val (.ref ob1), .val (.ref rd), .val (.int nd.toInt32), .val (.int kk), .val (.ref rb), .val (.int mm), .val (.int (own_ls mm)), .val (.int (1 : Int32)), .val (.ref re)] [(.int mm)]))
        refine own_of (fun _ hh_ => XS.sipush X24.here hx rfl (hb hby at_193) hh_) ?_
        show own_Run p e below s _ _ _ (T24.setTop (mkF m 196 #[.val (.int v0), .val (.int v1), .val (.int v2), .val (.int v3), .val (.int v4), .val (.ref ob1), .val (.ref rd), .val (.int nd.toInt32), .val (.int kk), .val (.ref rb), .val (.int mm), .val (.int (own_ls mm)), .val (.int (1 : Int32)), .val (.ref re)] [(.int (128 : Int32)), (.int mm)]))
        have hc196_25 : mm < (128 : Int32) := hc150_20
        refine own_of (fun _ hh_ => XS.icmpNo X24.here hx rfl (hb hby at_196) rfl (tlt hc196_25).2.1 hh_) ?_
        show own_Run p e below s _ _ _ (T24.setTop (mkF m 199 #[.val (.int v0), .val (.int v1), .val (.int v2), .val (.int v3), .val (.int v4), .val (.ref ob1), .val (.ref rd), .val (.int nd.toInt32), .val (.int kk), .val (.ref rb), .val (.int mm), .val (.int (own_ls mm)), .val (.int (1 : Int32)), .val (.ref re)] []))
        have hlz : (0 : Int32).toNatClampNeg < ne2 := by obtain ⟨z1, z2⟩ := hb2; have z3 := own_ls_i mm; show 0 < ne2; omega
        refine own_of (fun _ hh_ => XS.aload X24.here hx rfl (hb hby at_199) rfl rfl hh_) ?_
        show own_Run p e below s _ _ _ (T24.setTop (mkF m 201 #[.val (.int v0), .val (.int v1), .val (.int v2), .val (.int v3), .val (.int v4), .val (.ref ob1), .val (.ref rd), .val (.int nd.toInt32), .val (.int kk), .val (.ref rb), .val (.int mm), .val (.int (own_ls mm)), .val (.int (1 : Int32)), .val (.ref re)] [(.ref re)]))
        refine own_of (fun _ hh_ => XS.iconst X24.here hx rfl (hb hby at_201) hh_) ?_
        show own_Run p e below s _ _ _ (T24.setTop (mkF m 202 #[.val (.int v0), .val (.int v1), .val (.int v2), .val (.int v3), .val (.int v4), .val (.ref ob1), .val (.ref rd), .val (.int nd.toInt32), .val (.int kk), .val (.ref rb), .val (.int mm), .val (.int (own_ls mm)), .val (.int (1 : Int32)), .val (.ref re)] [(.int (0 : Int32)), (.ref re)]))
        refine own_bal X24 hx hZ e24 V18 (j := (0 : Int32)) (w := (fee 0)) (by decide) hlz rfl (hb hby at_202) ?_
        show own_Run p e below s _ _ _ (T24.setTop (mkF m 203 #[.val (.int v0), .val (.int v1), .val (.int v2), .val (.int v3), .val (.int v4), .val (.ref ob1), .val (.ref rd), .val (.int nd.toInt32), .val (.int kk), .val (.ref rb), .val (.int mm), .val (.int (own_ls mm)), .val (.int (1 : Int32)), .val (.ref re)] [(.int (fee 0))]))
        refine own_of (fun _ hh_ => XS.iload X24.here hx rfl (hb hby at_203) rfl hh_) ?_
        show own_Run p e below s _ _ _ (T24.setTop (mkF m 205 #[.val (.int v0), .val (.int v1), .val (.int v2), .val (.int v3), .val (.int v4), .val (.ref ob1), .val (.ref rd), .val (.int nd.toInt32), .val (.int kk), .val (.ref rb), .val (.int mm), .val (.int (own_ls mm)), .val (.int (1 : Int32)), .val (.ref re)] [(.int mm), (.int (fee 0))]))
        refine own_of (fun _ hh_ => XS.i2b X24.here hx rfl (hb hby at_205) rfl hh_) ?_
        show own_Run p e below s _ _ _ (T24.setTop (mkF m 206 #[.val (.int v0), .val (.int v1), .val (.int v2), .val (.int v3), .val (.int v4), .val (.ref ob1), .val (.ref rd), .val (.int nd.toInt32), .val (.int kk), .val (.ref rb), .val (.int mm), .val (.int (own_ls mm)), .val (.int (1 : Int32)), .val (.ref re)] [(.int (mm.toInt8.toInt32)), (.int (fee 0))]))
        have hc206_26 : (fee 0) = (mm.toInt8.toInt32) := by rcases hct2 with ⟨y1, y2⟩ | ⟨y1, y2, y3⟩; rw [y2, own_bb]; exact absurd hc150_20 y1
        refine own_of (fun _ hh_ => XS.icmpNo X24.here hx rfl (hb hby at_206) rfl (teq hc206_26).2 hh_) ?_
        show own_Run p e below s _ _ _ (T24.setTop (mkF m 209 #[.val (.int v0), .val (.int v1), .val (.int v2), .val (.int v3), .val (.int v4), .val (.ref ob1), .val (.ref rd), .val (.int nd.toInt32), .val (.int kk), .val (.ref rb), .val (.int mm), .val (.int (own_ls mm)), .val (.int (1 : Int32)), .val (.ref re)] []))
        refine own_of (fun _ hh_ => XS.iconst X24.here hx rfl (hb hby at_209) hh_) ?_
        show own_Run p e below s _ _ _ (T24.setTop (mkF m 210 #[.val (.int v0), .val (.int v1), .val (.int v2), .val (.int v3), .val (.int v4), .val (.ref ob1), .val (.ref rd), .val (.int nd.toInt32), .val (.int kk), .val (.ref rb), .val (.int mm), .val (.int (own_ls mm)), .val (.int (1 : Int32)), .val (.ref re)] [(.int (1 : Int32))]))
        refine own_of (fun _ hh_ => XS.goto X24.here hx rfl (pc0 := 210) (pc' := 214) rfl (hb hby at_210) (by decide) (by decide) hh_) ?_
        show own_Run p e below s _ _ _ (T24.setTop (mkF m 214 #[.val (.int v0), .val (.int v1), .val (.int v2), .val (.int v3), .val (.int v4), .val (.ref ob1), .val (.ref rd), .val (.int nd.toInt32), .val (.int kk), .val (.ref rb), .val (.int mm), .val (.int (own_ls mm)), .val (.int (1 : Int32)), .val (.ref re)] [(.int (1 : Int32))]))
        exact own_retN X24 hx (t := .boolean) hret hlk (by simp) (hb hby at_214) ⟨rfl, N24⟩ (by decide) (by decide)
      · refine own_of (fun _ hh_ => XS.icmpYes X18.here hx rfl (pc0 := 150) (pc' := 157) rfl (hb hby at_150) rfl (flt hc150_20).2.1 (by decide) (by decide) hh_) ?_
        show own_Run p e below s _ _ _ (T18.setTop (mkF m 157 #[.val (.int v0), .val (.int v1), .val (.int v2), .val (.int v3), .val (.int v4), .val (.ref ob1), .val (.ref rd), .val (.int nd.toInt32), .val (.int kk), .val (.ref rb), .val (.int mm), .val (.int (own_ls mm)), .unset, .unset] []))
        refine own_of (fun _ hh_ => XS.iconst X18.here hx rfl (hb hby at_157) hh_) ?_
        show own_Run p e below s _ _ _ (T18.setTop (mkF m 158 #[.val (.int v0), .val (.int v1), .val (.int v2), .val (.int v3), .val (.int v4), .val (.ref ob1), .val (.ref rd), .val (.int nd.toInt32), .val (.int kk), .val (.ref rb), .val (.int mm), .val (.int (own_ls mm)), .unset, .unset] [(.int (2 : Int32))]))
        refine own_of (fun _ hh_ => XS.istore X18.here hx rfl (hb hby at_158) rfl (l' := #[.val (.int v0), .val (.int v1), .val (.int v2), .val (.int v3), .val (.int v4), .val (.ref ob1), .val (.ref rd), .val (.int nd.toInt32), .val (.int kk), .val (.ref rb), .val (.int mm), .val (.int (own_ls mm)), .val (.int (2 : Int32)), .unset]) rfl hh_) ?_
        show own_Run p e below s _ _ _ (T18.setTop (mkF m 160 #[.val (.int v0), .val (.int v1), .val (.int v2), .val (.int v3), .val (.int v4), .val (.ref ob1), .val (.ref rd), .val (.int nd.toInt32), .val (.int kk), .val (.ref rb), .val (.int mm), .val (.int (own_ls mm)), .val (.int (2 : Int32)), .unset] []))
        refine own_of (fun _ hh_ => XS.iload X18.here hx rfl (hb hby at_160) rfl hh_) ?_
        show own_Run p e below s _ _ _ (T18.setTop (mkF m 162 #[.val (.int v0), .val (.int v1), .val (.int v2), .val (.int v3), .val (.int v4), .val (.ref ob1), .val (.ref rd), .val (.int nd.toInt32), .val (.int kk), .val (.ref rb), .val (.int mm), .val (.int (own_ls mm)), .val (.int (2 : Int32)), .unset] [(.int (own_ls mm))]))
        refine own_of (fun _ hh_ => XS.iload X18.here hx rfl (hb hby at_162) rfl hh_) ?_
        show own_Run p e below s _ _ _ (T18.setTop (mkF m 164 #[.val (.int v0), .val (.int v1), .val (.int v2), .val (.int v3), .val (.int v4), .val (.ref ob1), .val (.ref rd), .val (.int nd.toInt32), .val (.int kk), .val (.ref rb), .val (.int mm), .val (.int (own_ls mm)), .val (.int (2 : Int32)), .unset] [(.int (2 : Int32)), (.int (own_ls mm))]))
        have hc164_27 : (own_ls mm) = (2 : Int32) := if_neg hc150_20
        refine own_of (fun _ hh_ => XS.icmpYes X18.here hx rfl (pc0 := 164) (pc' := 169) rfl (hb hby at_164) rfl (teq hc164_27).1 (by decide) (by decide) hh_) ?_
        show own_Run p e below s _ _ _ (T18.setTop (mkF m 169 #[.val (.int v0), .val (.int v1), .val (.int v2), .val (.int v3), .val (.int v4), .val (.ref ob1), .val (.ref rd), .val (.int nd.toInt32), .val (.int kk), .val (.ref rb), .val (.int mm), .val (.int (own_ls mm)), .val (.int (2 : Int32)), .unset] []))
        refine own_of (fun _ hh_ => XS.aload X18.here hx rfl (hb hby at_169) rfl rfl hh_) ?_
        show own_Run p e below s _ _ _ (T18.setTop (mkF m 171 #[.val (.int v0), .val (.int v1), .val (.int v2), .val (.int v3), .val (.int v4), .val (.ref ob1), .val (.ref rd), .val (.int nd.toInt32), .val (.int kk), .val (.ref rb), .val (.int mm), .val (.int (own_ls mm)), .val (.int (2 : Int32)), .unset] [(.ref ob1)]))
        obtain ⟨cq28, kq28, q28a, q28b, q28c⟩ := isOf hZ (rfl : T18.heap = T18.heap) f19
        obtain ⟨_, _, ⟨T28, L28, k28, n28⟩, -, X28, ⟨Lc28, hQ28, l28, y28, z28⟩, st28⟩ := X18.virtualBack hx (y := (⟨"com/example/pagewright/pagewright/RecordCodec$Writer", "size", "()I"⟩ : MethodName)) (z := (⟨"com/example/pagewright/pagewright/RecordCodec$Writer", "size", "()I"⟩ : MethodName)) hown (mvT hZ (hw _ (List.mem_of_getElem? (i := 37) rfl))) (mvT hZ (hw _ (List.mem_of_getElem? (i := 38) rfl))) (notFace_of_selects (args := #[]) (mvT hZ (hw _ (List.mem_of_getElem? (i := 40) rfl)))) (mvT hZ (hw _ (List.mem_of_getElem? (i := 40) rfl))) (mvT hZ (hw _ (List.mem_of_getElem? (i := 39) rfl))) (by decide) (backOf (W := 0) (rmZ l Z a0 hw [] ob1 ((own_ls mm) + mm) T18.heap n0 (Nat.le_trans (Nat.le_trans (Nat.le_trans (Nat.le_trans (Nat.le_trans Z0 E1.1) K4.1) K6.1) K10.1) K18.1) fs18) hZ (hw _ (List.mem_of_getElem? (i := 41) rfl)) (hw _ (List.mem_of_getElem? (i := 2) rfl)) (by decide) (by decide)) q28a q28c (g := (mkF m 171 #[.val (.int v0), .val (.int v1), .val (.int v2), .val (.int v3), .val (.int v4), .val (.ref ob1), .val (.ref rd), .val (.int nd.toInt32), .val (.int kk), .val (.ref rb), .val (.int mm), .val (.int (own_ls mm)), .val (.int (2 : Int32)), .unset] [(.ref ob1)])) rfl (by rw [hml]; rfl) (Steps.refl _) (argsL := []) (rest := []) (lenOf own_pd5 rfl) rfl (by show 2 * 0 + _ ≤ _; exact Nat.le_of_eq rfl) (hb hby at_171) (fun _ _ => ⟨rfl, (rfl : T18.heap = T18.heap), (by decide : 5 + 0 ≤ _), (by decide : 33540 + 0 ≤ _)⟩)
        dsimp only [Pt.U, Pt.locs, Pt.cells, Pt.slots] at X28 l28 y28 z28 st28 hQ28
        subst l28 y28 z28
        obtain ⟨rfl, N28q, e28⟩ := hQ28
        have N28 := Fr.app N18 N28q
        refine own_tr st28 ?_
        show own_Run p e below s _ _ _ (T28.setTop (mkF m 174 #[.val (.int v0), .val (.int v1), .val (.int v2), .val (.int v3), .val (.int v4), .val (.ref ob1), .val (.ref rd), .val (.int nd.toInt32), .val (.int kk), .val (.ref rb), .val (.int mm), .val (.int (own_ls mm)), .val (.int (2 : Int32)), .unset] [(.int ((own_ls mm) + mm))]))
        refine own_of (fun _ hh_ => XS.iload X28.here hx rfl (hb hby at_174) rfl hh_) ?_
        show own_Run p e below s _ _ _ (T28.setTop (mkF m 176 #[.val (.int v0), .val (.int v1), .val (.int v2), .val (.int v3), .val (.int v4), .val (.ref ob1), .val (.ref rd), .val (.int nd.toInt32), .val (.int kk), .val (.ref rb), .val (.int mm), .val (.int (own_ls mm)), .val (.int (2 : Int32)), .unset] [(.int (2 : Int32)), (.int ((own_ls mm) + mm))]))
        refine own_of (fun _ hh_ => XS.iload X28.here hx rfl (hb hby at_176) rfl hh_) ?_
        show own_Run p e below s _ _ _ (T28.setTop (mkF m 178 #[.val (.int v0), .val (.int v1), .val (.int v2), .val (.int v3), .val (.int v4), .val (.ref ob1), .val (.ref rd), .val (.int nd.toInt32), .val (.int kk), .val (.ref rb), .val (.int mm), .val (.int (own_ls mm)), .val (.int (2 : Int32)), .unset] [(.int mm), (.int (2 : Int32)), (.int ((own_ls mm) + mm))]))
        refine own_of (fun _ hh_ => XS.iadd X28.here hx rfl (hb hby at_178) rfl hh_) ?_
        show own_Run p e below s _ _ _ (T28.setTop (mkF m 179 #[.val (.int v0), .val (.int v1), .val (.int v2), .val (.int v3), .val (.int v4), .val (.ref ob1), .val (.ref rd), .val (.int nd.toInt32), .val (.int kk), .val (.ref rb), .val (.int mm), .val (.int (own_ls mm)), .val (.int (2 : Int32)), .unset] [(.int ((2 : Int32) + mm)), (.int ((own_ls mm) + mm))]))
        have hc179_29 : ((own_ls mm) + mm) = ((2 : Int32) + mm) := by rw [show own_ls mm = (2 : Int32) from if_neg hc150_20]
        refine own_of (fun _ hh_ => XS.icmpYes X28.here hx rfl (pc0 := 179) (pc' := 184) rfl (hb hby at_179) rfl (teq hc179_29).1 (by decide) (by decide) hh_) ?_
        show own_Run p e below s _ _ _ (T28.setTop (mkF m 184 #[.val (.int v0), .val (.int v1), .val (.int v2), .val (.int v3), .val (.int v4), .val (.ref ob1), .val (.ref rd), .val (.int nd.toInt32), .val (.int kk), .val (.ref rb), .val (.int mm), .val (.int (own_ls mm)), .val (.int (2 : Int32)), .unset] []))
        refine own_of (fun _ hh_ => XS.aload X28.here hx rfl (hb hby at_184) rfl rfl hh_) ?_
        show own_Run p e below s _ _ _ (T28.setTop (mkF m 186 #[.val (.int v0), .val (.int v1), .val (.int v2), .val (.int v3), .val (.int v4), .val (.ref ob1), .val (.ref rd), .val (.int nd.toInt32), .val (.int kk), .val (.ref rb), .val (.int mm), .val (.int (own_ls mm)), .val (.int (2 : Int32)), .unset] [(.ref ob1)]))
        obtain ⟨cq30, kq30, q30a, q30b, q30c⟩ := isOf hZ e28 f19
        obtain ⟨_, _, ⟨T30, L30, k30, n30⟩, -, X30, ⟨Lc30, hQ30, l30, y30, z30⟩, st30⟩ := X28.virtualBack hx (y := (⟨"com/example/pagewright/pagewright/RecordCodec$Writer", "bytes", "()[B"⟩ : MethodName)) (z := (⟨"com/example/pagewright/pagewright/RecordCodec$Writer", "bytes", "()[B"⟩ : MethodName)) hown (mvT hZ (hw _ (List.mem_of_getElem? (i := 27) rfl))) (mvT hZ (hw _ (List.mem_of_getElem? (i := 28) rfl))) (notFace_of_selects (args := #[]) (mvT hZ (hw _ (List.mem_of_getElem? (i := 30) rfl)))) (mvT hZ (hw _ (List.mem_of_getElem? (i := 30) rfl))) (mvT hZ (hw _ (List.mem_of_getElem? (i := 29) rfl))) (by decide) (backOf (W := 0) (rmB l Z a0 hw [] ob1 re T18.heap n0 (Nat.le_trans (Nat.le_trans (Nat.le_trans (Nat.le_trans (Nat.le_trans Z0 E1.1) K4.1) K6.1) K10.1) K18.1) fb18) hZ (hw _ (List.mem_of_getElem? (i := 31) rfl)) (hw _ (List.mem_of_getElem? (i := 2) rfl)) (by decide) (by decide)) q30a q30c (g := (mkF m 186 #[.val (.int v0), .val (.int v1), .val (.int v2), .val (.int v3), .val (.int v4), .val (.ref ob1), .val (.ref rd), .val (.int nd.toInt32), .val (.int kk), .val (.ref rb), .val (.int mm), .val (.int (own_ls mm)), .val (.int (2 : Int32)), .unset] [(.ref ob1)])) rfl (by rw [hml]; rfl) (Steps.refl _) (argsL := []) (rest := []) (lenOf own_pd4 rfl) rfl (by show 2 * 0 + _ ≤ _; exact Nat.le_of_eq rfl) (hb hby at_186) (fun _ _ => ⟨rfl, e28, (by decide : 5 + 0 ≤ _), (by decide : 33540 + 0 ≤ _)⟩)
        dsimp only [Pt.U, Pt.locs, Pt.cells, Pt.slots] at X30 l30 y30 z30 st30 hQ30
        subst l30 y30 z30
        obtain ⟨rfl, N30q, e30⟩ := hQ30
        have N30 := Fr.app N28 N30q
        refine own_tr st30 ?_
        show own_Run p e below s _ _ _ (T30.setTop (mkF m 189 #[.val (.int v0), .val (.int v1), .val (.int v2), .val (.int v3), .val (.int v4), .val (.ref ob1), .val (.ref rd), .val (.int nd.toInt32), .val (.int kk), .val (.ref rb), .val (.int mm), .val (.int (own_ls mm)), .val (.int (2 : Int32)), .unset] [(.ref re)]))
        refine own_of (fun _ hh_ => XS.astore X30.here hx rfl (hb hby at_189) rfl rfl (l' := #[.val (.int v0), .val (.int v1), .val (.int v2), .val (.int v3), .val (.int v4), .val (.ref ob1), .val (.ref rd), .val (.int nd.toInt32), .val (.int kk), .val (.ref rb), .val (.int mm), .val (.int (own_ls mm)), .val (.int (2 : Int32)), .val (.ref re)]) rfl hh_) ?_
        show own_Run p e below s _ _ _ (T30.setTop (mkF m 191 #[.val (.int v0), .val (.int v1), .val (.int v2), .val (.int v3), .val (.int v4), .val (.ref ob1), .val (.ref rd), .val (.int nd.toInt32), .val (.int kk), .val (.ref rb), .val (.int mm), .val (.int (own_ls mm)), .val (.int (2 : Int32)), .val (.ref re)] []))
        refine own_of (fun _ hh_ => XS.iload X30.here hx rfl (hb hby at_191) rfl hh_) ?_
        show own_Run p e below s _ _ _ (T30.setTop (mkF m 193 #[.val (.int v0), .val (.int v1), .val (.int v2), .val (.int v3), .val (.int v4), .val (.ref ob1), .val (.ref rd), .val (.int nd.toInt32), .val (.int kk), .val (.ref rb), .val (.int mm), .val (.int (own_ls mm)), .val (.int (2 : Int32)), .val (.ref re)] [(.int mm)]))
        refine own_of (fun _ hh_ => XS.sipush X30.here hx rfl (hb hby at_193) hh_) ?_
        show own_Run p e below s _ _ _ (T30.setTop (mkF m 196 #[.val (.int v0), .val (.int v1), .val (.int v2), .val (.int v3), .val (.int v4), .val (.ref ob1), .val (.ref rd), .val (.int nd.toInt32), .val (.int kk), .val (.ref rb), .val (.int mm), .val (.int (own_ls mm)), .val (.int (2 : Int32)), .val (.ref re)] [(.int (128 : Int32)), (.int mm)]))
        have hc196_31 : ¬ (mm < (128 : Int32)) := hc150_20
        refine own_of (fun _ hh_ => XS.icmpYes X30.here hx rfl (pc0 := 196) (pc' := 215) rfl (hb hby at_196) rfl (flt hc196_31).2.1 (by decide) (by decide) hh_) ?_
        show own_Run p e below s _ _ _ (T30.setTop (mkF m 215 #[.val (.int v0), .val (.int v1), .val (.int v2), .val (.int v3), .val (.int v4), .val (.ref ob1), .val (.ref rd), .val (.int nd.toInt32), .val (.int kk), .val (.ref rb), .val (.int mm), .val (.int (own_ls mm)), .val (.int (2 : Int32)), .val (.ref re)] []))
        have hlz : (0 : Int32).toNatClampNeg < ne2 := by obtain ⟨z1, z2⟩ := hb2; have z3 := own_ls_i mm; show 0 < ne2; omega
        have hlo : (1 : Int32).toNatClampNeg < ne2 := by obtain ⟨z1, z2⟩ := hb2; have z3 := own_ls_i mm; have z4 := mt Int32.lt_iff_toInt_lt.mpr hc150_20; have z5 : (128 : Int32).toInt = 128 := rfl; show 1 < ne2; omega
        refine own_of (fun _ hh_ => XS.aload X30.here hx rfl (hb hby at_215) rfl rfl hh_) ?_
        show own_Run p e below s _ _ _ (T30.setTop (mkF m 217 #[.val (.int v0), .val (.int v1), .val (.int v2), .val (.int v3), .val (.int v4), .val (.ref ob1), .val (.ref rd), .val (.int nd.toInt32), .val (.int kk), .val (.ref rb), .val (.int mm), .val (.int (own_ls mm)), .val (.int (2 : Int32)), .val (.ref re)] [(.ref re)]))
        refine own_of (fun _ hh_ => XS.iconst X30.here hx rfl (hb hby at_217) hh_) ?_
        show own_Run p e below s _ _ _ (T30.setTop (mkF m 218 #[.val (.int v0), .val (.int v1), .val (.int v2), .val (.int v3), .val (.int v4), .val (.ref ob1), .val (.ref rd), .val (.int nd.toInt32), .val (.int kk), .val (.ref rb), .val (.int mm), .val (.int (own_ls mm)), .val (.int (2 : Int32)), .val (.ref re)] [(.int (0 : Int32)), (.ref re)]))
        refine own_bal X30 hx hZ e30 V18 (j := (0 : Int32)) (w := (fee 0)) (by decide) hlz rfl (hb hby at_218) ?_
        show own_Run p e below s _ _ _ (T30.setTop (mkF m 219 #[.val (.int v0), .val (.int v1), .val (.int v2), .val (.int v3), .val (.int v4), .val (.ref ob1), .val (.ref rd), .val (.int nd.toInt32), .val (.int kk), .val (.ref rb), .val (.int mm), .val (.int (own_ls mm)), .val (.int (2 : Int32)), .val (.ref re)] [(.int (fee 0))]))
        refine own_of (fun _ hh_ => XS.iload X30.here hx rfl (hb hby at_219) rfl hh_) ?_
        show own_Run p e below s _ _ _ (T30.setTop (mkF m 221 #[.val (.int v0), .val (.int v1), .val (.int v2), .val (.int v3), .val (.int v4), .val (.ref ob1), .val (.ref rd), .val (.int nd.toInt32), .val (.int kk), .val (.ref rb), .val (.int mm), .val (.int (own_ls mm)), .val (.int (2 : Int32)), .val (.ref re)] [(.int mm), (.int (fee 0))]))
        refine own_of (fun _ hh_ => XS.sipush X30.here hx rfl (hb hby at_221) hh_) ?_
        show own_Run p e below s _ _ _ (T30.setTop (mkF m 224 #[.val (.int v0), .val (.int v1), .val (.int v2), .val (.int v3), .val (.int v4), .val (.ref ob1), .val (.ref rd), .val (.int nd.toInt32), .val (.int kk), .val (.ref rb), .val (.int mm), .val (.int (own_ls mm)), .val (.int (2 : Int32)), .val (.ref re)] [(.int (128 : Int32)), (.int mm), (.int (fee 0))]))
        refine own_of (fun _ hh_ => XS.ior X30.here hx rfl (hb hby at_224) rfl hh_) ?_
        show own_Run p e below s _ _ _ (T30.setTop (mkF m 225 #[.val (.int v0), .val (.int v1), .val (.int v2), .val (.int v3), .val (.int v4), .val (.ref ob1), .val (.ref rd), .val (.int nd.toInt32), .val (.int kk), .val (.ref rb), .val (.int mm), .val (.int (own_ls mm)), .val (.int (2 : Int32)), .val (.ref re)] [(.int (mm ||| (128 : Int32))), (.int (fee 0))]))
        refine own_of (fun _ hh_ => XS.i2b X30.here hx rfl (hb hby at_225) rfl hh_) ?_
        show own_Run p e below s _ _ _ (T30.setTop (mkF m 226 #[.val (.int v0), .val (.int v1), .val (.int v2), .val (.int v3), .val (.int v4), .val (.ref ob1), .val (.ref rd), .val (.int nd.toInt32), .val (.int kk), .val (.ref rb), .val (.int mm), .val (.int (own_ls mm)), .val (.int (2 : Int32)), .val (.ref re)] [(.int ((mm ||| (128 : Int32)).toInt8.toInt32)), (.int (fee 0))]))
        have hc226_32 : (fee 0) = ((mm ||| (128 : Int32)).toInt8.toInt32) := by rcases hct2 with ⟨y1, y2⟩ | ⟨y1, y2, y3⟩; exact absurd y1 hc150_20; rw [y2, own_bb]
        refine own_of (fun _ hh_ => XS.icmpNo X30.here hx rfl (hb hby at_226) rfl (teq hc226_32).2 hh_) ?_
        show own_Run p e below s _ _ _ (T30.setTop (mkF m 229 #[.val (.int v0), .val (.int v1), .val (.int v2), .val (.int v3), .val (.int v4), .val (.ref ob1), .val (.ref rd), .val (.int nd.toInt32), .val (.int kk), .val (.ref rb), .val (.int mm), .val (.int (own_ls mm)), .val (.int (2 : Int32)), .val (.ref re)] []))
        refine own_of (fun _ hh_ => XS.aload X30.here hx rfl (hb hby at_229) rfl rfl hh_) ?_
        show own_Run p e below s _ _ _ (T30.setTop (mkF m 231 #[.val (.int v0), .val (.int v1), .val (.int v2), .val (.int v3), .val (.int v4), .val (.ref ob1), .val (.ref rd), .val (.int nd.toInt32), .val (.int kk), .val (.ref rb), .val (.int mm), .val (.int (own_ls mm)), .val (.int (2 : Int32)), .val (.ref re)] [(.ref re)]))
        refine own_of (fun _ hh_ => XS.iconst X30.here hx rfl (hb hby at_231) hh_) ?_
        show own_Run p e below s _ _ _ (T30.setTop (mkF m 232 #[.val (.int v0), .val (.int v1), .val (.int v2), .val (.int v3), .val (.int v4), .val (.ref ob1), .val (.ref rd), .val (.int nd.toInt32), .val (.int kk), .val (.ref rb), .val (.int mm), .val (.int (own_ls mm)), .val (.int (2 : Int32)), .val (.ref re)] [(.int (1 : Int32)), (.ref re)]))
        refine own_bal X30 hx hZ e30 V18 (j := (1 : Int32)) (w := (fee 1)) (by decide) hlo rfl (hb hby at_232) ?_
        show own_Run p e below s _ _ _ (T30.setTop (mkF m 233 #[.val (.int v0), .val (.int v1), .val (.int v2), .val (.int v3), .val (.int v4), .val (.ref ob1), .val (.ref rd), .val (.int nd.toInt32), .val (.int kk), .val (.ref rb), .val (.int mm), .val (.int (own_ls mm)), .val (.int (2 : Int32)), .val (.ref re)] [(.int (fee 1))]))
        refine own_of (fun _ hh_ => XS.iload X30.here hx rfl (hb hby at_233) rfl hh_) ?_
        show own_Run p e below s _ _ _ (T30.setTop (mkF m 235 #[.val (.int v0), .val (.int v1), .val (.int v2), .val (.int v3), .val (.int v4), .val (.ref ob1), .val (.ref rd), .val (.int nd.toInt32), .val (.int kk), .val (.ref rb), .val (.int mm), .val (.int (own_ls mm)), .val (.int (2 : Int32)), .val (.ref re)] [(.int mm), (.int (fee 1))]))
        refine own_of (fun _ hh_ => XS.bipush X30.here hx rfl (hb hby at_235) hh_) ?_
        show own_Run p e below s _ _ _ (T30.setTop (mkF m 237 #[.val (.int v0), .val (.int v1), .val (.int v2), .val (.int v3), .val (.int v4), .val (.ref ob1), .val (.ref rd), .val (.int nd.toInt32), .val (.int kk), .val (.ref rb), .val (.int mm), .val (.int (own_ls mm)), .val (.int (2 : Int32)), .val (.ref re)] [(.int (7 : Int32)), (.int mm), (.int (fee 1))]))
        refine own_of (fun _ hh_ => XS.iushr X30.here hx rfl (hb hby at_237) rfl hh_) ?_
        show own_Run p e below s _ _ _ (T30.setTop (mkF m 238 #[.val (.int v0), .val (.int v1), .val (.int v2), .val (.int v3), .val (.int v4), .val (.ref ob1), .val (.ref rd), .val (.int nd.toInt32), .val (.int kk), .val (.ref rb), .val (.int mm), .val (.int (own_ls mm)), .val (.int (2 : Int32)), .val (.ref re)] [(.int ((mm.toUInt32 >>> ((7 : Int32) &&& 31).toUInt32).toInt32)), (.int (fee 1))]))
        refine own_of (fun _ hh_ => XS.i2b X30.here hx rfl (hb hby at_238) rfl hh_) ?_
        show own_Run p e below s _ _ _ (T30.setTop (mkF m 239 #[.val (.int v0), .val (.int v1), .val (.int v2), .val (.int v3), .val (.int v4), .val (.ref ob1), .val (.ref rd), .val (.int nd.toInt32), .val (.int kk), .val (.ref rb), .val (.int mm), .val (.int (own_ls mm)), .val (.int (2 : Int32)), .val (.ref re)] [(.int (((mm.toUInt32 >>> ((7 : Int32) &&& 31).toUInt32).toInt32).toInt8.toInt32)), (.int (fee 1))]))
        have hc239_33 : (fee 1) = (((mm.toUInt32 >>> ((7 : Int32) &&& 31).toUInt32).toInt32).toInt8.toInt32) := by rcases hct2 with ⟨y1, y2⟩ | ⟨y1, y2, y3⟩; exact absurd y1 hc150_20; rw [y3, own_bb]
        refine own_of (fun _ hh_ => XS.icmpNo X30.here hx rfl (hb hby at_239) rfl (teq hc239_33).2 hh_) ?_
        show own_Run p e below s _ _ _ (T30.setTop (mkF m 242 #[.val (.int v0), .val (.int v1), .val (.int v2), .val (.int v3), .val (.int v4), .val (.ref ob1), .val (.ref rd), .val (.int nd.toInt32), .val (.int kk), .val (.ref rb), .val (.int mm), .val (.int (own_ls mm)), .val (.int (2 : Int32)), .val (.ref re)] []))
        refine own_of (fun _ hh_ => XS.iconst X30.here hx rfl (hb hby at_242) hh_) ?_
        show own_Run p e below s _ _ _ (T30.setTop (mkF m 243 #[.val (.int v0), .val (.int v1), .val (.int v2), .val (.int v3), .val (.int v4), .val (.ref ob1), .val (.ref rd), .val (.int nd.toInt32), .val (.int kk), .val (.ref rb), .val (.int mm), .val (.int (own_ls mm)), .val (.int (2 : Int32)), .val (.ref re)] [(.int (1 : Int32))]))
        refine own_of (fun _ hh_ => XS.goto X30.here hx rfl (pc0 := 243) (pc' := 247) rfl (hb hby at_243) (by decide) (by decide) hh_) ?_
        show own_Run p e below s _ _ _ (T30.setTop (mkF m 247 #[.val (.int v0), .val (.int v1), .val (.int v2), .val (.int v3), .val (.int v4), .val (.ref ob1), .val (.ref rd), .val (.int nd.toInt32), .val (.int kk), .val (.ref rb), .val (.int mm), .val (.int (own_ls mm)), .val (.int (2 : Int32)), .val (.ref re)] [(.int (1 : Int32))]))
        exact own_retN X30 hx (t := .boolean) hret hlk (by simp) (hb hby at_247) ⟨rfl, N30⟩ (by decide) (by decide)
    · refine own_of (fun _ hh_ => XS.icmpNo X14.here hx rfl (hb hby at_101) rfl (flt hc101_16).2.2.1 hh_) ?_
      show own_Run p e below s _ _ _ (T14.setTop (mkF m 104 #[.val (.int v0), .val (.int v1), .val (.int v2), .val (.int v3), .val (.int v4), .val (.ref ob1), .val (.ref rd), .val (.int nd.toInt32), .val (.int kk), .val (.ref rb), .unset, .unset, .unset, .unset] []))
      refine own_of (fun _ hh_ => XS.aload X14.here hx rfl (hb hby at_104) rfl rfl hh_) ?_
      show own_Run p e below s _ _ _ (T14.setTop (mkF m 106 #[.val (.int v0), .val (.int v1), .val (.int v2), .val (.int v3), .val (.int v4), .val (.ref ob1), .val (.ref rd), .val (.int nd.toInt32), .val (.int kk), .val (.ref rb), .unset, .unset, .unset, .unset] [(.ref rb)]))
      refine own_of (fun _ hh_ => XS.aload X14.here hx rfl (hb hby at_106) rfl rfl hh_) ?_
      show own_Run p e below s _ _ _ (T14.setTop (mkF m 108 #[.val (.int v0), .val (.int v1), .val (.int v2), .val (.int v3), .val (.int v4), .val (.ref ob1), .val (.ref rd), .val (.int nd.toInt32), .val (.int kk), .val (.ref rb), .unset, .unset, .unset, .unset] [(.ref rd), (.ref rb)]))
      refine own_of (fun _ hh_ => Jvm.RoadKit.acmp (g := (mkF m 108 #[.val (.int v0), .val (.int v1), .val (.int v2), .val (.int v3), .val (.int v4), .val (.ref ob1), .val (.ref rd), .val (.int nd.toInt32), .val (.int kk), .val (.ref rb), .unset, .unset, .unset, .unset] [(.ref rd), (.ref rb)])) X14 hx rfl rfl rfl (pc0 := 108) (pc' := 113) (same := true) rfl (hb hby at_108) rfl (decide_eq_true (congrArg Value.ref (by rcases hnb.2 with ⟨y1, y2, y3⟩ | ⟨y1, y2, y3⟩; exact y2; exact absurd y1 hc101_16))) (by decide) (by decide) hh_) ?_
      show own_Run p e below s _ _ _ (T14.setTop (mkF m 113 #[.val (.int v0), .val (.int v1), .val (.int v2), .val (.int v3), .val (.int v4), .val (.ref ob1), .val (.ref rd), .val (.int nd.toInt32), .val (.int kk), .val (.ref rb), .unset, .unset, .unset, .unset] []))
      refine own_of (fun _ hh_ => XS.iload X14.here hx rfl (hb hby at_113) rfl hh_) ?_
      show own_Run p e below s _ _ _ (T14.setTop (mkF m 115 #[.val (.int v0), .val (.int v1), .val (.int v2), .val (.int v3), .val (.int v4), .val (.ref ob1), .val (.ref rd), .val (.int nd.toInt32), .val (.int kk), .val (.ref rb), .unset, .unset, .unset, .unset] [(.int nd.toInt32)]))
      refine own_of (fun _ hh_ => XS.iload X14.here hx rfl (hb hby at_115) rfl hh_) ?_
      show own_Run p e below s _ _ _ (T14.setTop (mkF m 117 #[.val (.int v0), .val (.int v1), .val (.int v2), .val (.int v3), .val (.int v4), .val (.ref ob1), .val (.ref rd), .val (.int nd.toInt32), .val (.int kk), .val (.ref rb), .unset, .unset, .unset, .unset] [(.int kk), (.int nd.toInt32)]))
      have hc117_34 : ¬ (kk < nd.toInt32) := hc101_16
      refine own_of (fun _ hh_ => XS.icmpYes X14.here hx rfl (pc0 := 117) (pc' := 129) rfl (hb hby at_117) rfl (flt hc117_34).2.2.2 (by decide) (by decide) hh_) ?_
      show own_Run p e below s _ _ _ (T14.setTop (mkF m 129 #[.val (.int v0), .val (.int v1), .val (.int v2), .val (.int v3), .val (.int v4), .val (.ref ob1), .val (.ref rd), .val (.int nd.toInt32), .val (.int kk), .val (.ref rb), .unset, .unset, .unset, .unset] []))
      refine own_of (fun _ hh_ => XS.iloadN X14.here hx rfl (hb hby at_129) rfl hh_) ?_
      show own_Run p e below s _ _ _ (T14.setTop (mkF m 130 #[.val (.int v0), .val (.int v1), .val (.int v2), .val (.int v3), .val (.int v4), .val (.ref ob1), .val (.ref rd), .val (.int nd.toInt32), .val (.int kk), .val (.ref rb), .unset, .unset, .unset, .unset] [(.int v3)]))
      refine own_of (fun _ hh_ => XS.sipush X14.here hx rfl (hb hby at_130) hh_) ?_
      show own_Run p e below s _ _ _ (T14.setTop (mkF m 133 #[.val (.int v0), .val (.int v1), .val (.int v2), .val (.int v3), .val (.int v4), .val (.ref ob1), .val (.ref rd), .val (.int nd.toInt32), .val (.int kk), .val (.ref rb), .unset, .unset, .unset, .unset] [(.int (16383 : Int32)), (.int v3)]))
      refine own_of (fun _ hh_ => XS.iand X14.here hx rfl (hb hby at_133) rfl hh_) ?_
      show own_Run p e below s _ _ _ (T14.setTop (mkF m 134 #[.val (.int v0), .val (.int v1), .val (.int v2), .val (.int v3), .val (.int v4), .val (.ref ob1), .val (.ref rd), .val (.int nd.toInt32), .val (.int kk), .val (.ref rb), .unset, .unset, .unset, .unset] [(.int (v3 &&& (16383 : Int32)))]))
      generalize hmm : (v3 &&& (16383 : Int32)) = mm
      have rmm : 0 ≤ mm.toInt ∧ mm.toInt < ((16384 : Nat) : Int) := by rw [← hmm]; exact own_m v3 14 (by decide) _ (by decide) _ rfl
      have hf2a := rmm.1
      have hf2b : mm.toInt ≤ 16383 := by omega
      show own_Run p e below s _ _ _ (T14.setTop (mkF m 134 #[.val (.int v0), .val (.int v1), .val (.int v2), .val (.int v3), .val (.int v4), .val (.ref ob1), .val (.ref rd), .val (.int nd.toInt32), .val (.int kk), .val (.ref rb), .unset, .unset, .unset, .unset] [(.int mm)]))
      refine own_of (fun _ hh_ => XS.istore X14.here hx rfl (hb hby at_134) rfl (l' := #[.val (.int v0), .val (.int v1), .val (.int v2), .val (.int v3), .val (.int v4), .val (.ref ob1), .val (.ref rd), .val (.int nd.toInt32), .val (.int kk), .val (.ref rb), .val (.int mm), .unset, .unset, .unset]) rfl hh_) ?_
      show own_Run p e below s _ _ _ (T14.setTop (mkF m 136 #[.val (.int v0), .val (.int v1), .val (.int v2), .val (.int v3), .val (.int v4), .val (.ref ob1), .val (.ref rd), .val (.int nd.toInt32), .val (.int kk), .val (.ref rb), .val (.int mm), .unset, .unset, .unset] []))
      refine own_of (fun _ hh_ => XS.aload X14.here hx rfl (hb hby at_136) rfl rfl hh_) ?_
      show own_Run p e below s _ _ _ (T14.setTop (mkF m 138 #[.val (.int v0), .val (.int v1), .val (.int v2), .val (.int v3), .val (.int v4), .val (.ref ob1), .val (.ref rd), .val (.int nd.toInt32), .val (.int kk), .val (.ref rb), .val (.int mm), .unset, .unset, .unset] [(.ref ob1)]))
      refine own_of (fun _ hh_ => XS.iload X14.here hx rfl (hb hby at_138) rfl hh_) ?_
      show own_Run p e below s _ _ _ (T14.setTop (mkF m 140 #[.val (.int v0), .val (.int v1), .val (.int v2), .val (.int v3), .val (.int v4), .val (.ref ob1), .val (.ref rd), .val (.int nd.toInt32), .val (.int kk), .val (.ref rb), .val (.int mm), .unset, .unset, .unset] [(.int mm), (.ref ob1)]))
      obtain ⟨cq35, kq35, q35a, q35b, q35c⟩ := isOf hZ e14 f11
      obtain ⟨_, _, ⟨T35, L35, k35, n35⟩, -, X35, ⟨Lc35, hQ35, l35, y35, z35⟩, st35⟩ := X14.virtualBack hx (y := (⟨"com/example/pagewright/pagewright/RecordCodec$Writer", "field", "(I)I"⟩ : MethodName)) (z := (⟨"com/example/pagewright/pagewright/RecordCodec$Writer", "field", "(I)I"⟩ : MethodName)) hown (mvT hZ (hw _ (List.mem_of_getElem? (i := 16) rfl))) (mvT hZ (hw _ (List.mem_of_getElem? (i := 17) rfl))) (notFace_of_selects (args := #[]) (mvT hZ (hw _ (List.mem_of_getElem? (i := 19) rfl)))) (mvT hZ (hw _ (List.mem_of_getElem? (i := 19) rfl))) (mvT hZ (hw _ (List.mem_of_getElem? (i := 18) rfl))) (by decide) (backOf (W := 0) (rmF l Z a0 hw [] ob1 mm rb nb fbb T10.heap n0 (Nat.le_trans (Nat.le_trans (Nat.le_trans (Nat.le_trans Z0 E1.1) K4.1) K6.1) K10.1) f11 fb10 fs10 Vb Ftb g_ob1 g_rb hf2a hf2b hf2c) hZ (hw _ (List.mem_of_getElem? (i := 20) rfl)) (hw _ (List.mem_of_getElem? (i := 2) rfl)) (by decide) (by decide)) q35a q35c (g := (mkF m 140 #[.val (.int v0), .val (.int v1), .val (.int v2), .val (.int v3), .val (.int v4), .val (.ref ob1), .val (.ref rd), .val (.int nd.toInt32), .val (.int kk), .val (.ref rb), .val (.int mm), .unset, .unset, .unset] [(.int mm), (.ref ob1)])) rfl (by rw [hml]; rfl) (Steps.refl _) (argsL := [(.int mm)]) (rest := []) (lenOf own_pd1 rfl) rfl (by show 2 * 0 + _ ≤ _; exact Nat.le_of_eq rfl) (hb hby at_140) (fun _ _ => ⟨rfl, e14, (by decide : 4 + 1 ≤ _), (by decide : 17155 + 16385 ≤ _)⟩)
      dsimp only [Pt.U, Pt.locs, Pt.cells, Pt.slots] at X35 l35 y35 z35 st35 hQ35
      subst l35 y35 z35
      obtain ⟨rfl, N35q, K35, re, ne2, fee, fb35, fs35, V35, Ft35, g_re, hb2, hct2⟩ := hQ35
      have N35 := Fr.app N14 N35q
      have f36 := f11.keep K35
      refine own_tr st35 ?_
      show own_Run p e below s _ _ _ (T35.setTop (mkF m 143 #[.val (.int v0), .val (.int v1), .val (.int v2), .val (.int v3), .val (.int v4), .val (.ref ob1), .val (.ref rd), .val (.int nd.toInt32), .val (.int kk), .val (.ref rb), .val (.int mm), .unset, .unset, .unset] [(.int (own_ls mm))]))
      refine own_of (fun _ hh_ => XS.istore X35.here hx rfl (hb hby at_143) rfl (l' := #[.val (.int v0), .val (.int v1), .val (.int v2), .val (.int v3), .val (.int v4), .val (.ref ob1), .val (.ref rd), .val (.int nd.toInt32), .val (.int kk), .val (.ref rb), .val (.int mm), .val (.int (own_ls mm)), .unset, .unset]) rfl hh_) ?_
      show own_Run p e below s _ _ _ (T35.setTop (mkF m 145 #[.val (.int v0), .val (.int v1), .val (.int v2), .val (.int v3), .val (.int v4), .val (.ref ob1), .val (.ref rd), .val (.int nd.toInt32), .val (.int kk), .val (.ref rb), .val (.int mm), .val (.int (own_ls mm)), .unset, .unset] []))
      refine own_of (fun _ hh_ => XS.iload X35.here hx rfl (hb hby at_145) rfl hh_) ?_
      show own_Run p e below s _ _ _ (T35.setTop (mkF m 147 #[.val (.int v0), .val (.int v1), .val (.int v2), .val (.int v3), .val (.int v4), .val (.ref ob1), .val (.ref rd), .val (.int nd.toInt32), .val (.int kk), .val (.ref rb), .val (.int mm), .val (.int (own_ls mm)), .unset, .unset] [(.int mm)]))
      refine own_of (fun _ hh_ => XS.sipush X35.here hx rfl (hb hby at_147) hh_) ?_
      show own_Run p e below s _ _ _ (T35.setTop (mkF m 150 #[.val (.int v0), .val (.int v1), .val (.int v2), .val (.int v3), .val (.int v4), .val (.ref ob1), .val (.ref rd), .val (.int nd.toInt32), .val (.int kk), .val (.ref rb), .val (.int mm), .val (.int (own_ls mm)), .unset, .unset] [(.int (128 : Int32)), (.int mm)]))
      by_cases hc150_37 : mm < (128 : Int32)
      · refine own_of (fun _ hh_ => XS.icmpNo X35.here hx rfl (hb hby at_150) rfl (tlt hc150_37).2.1 hh_) ?_
        show own_Run p e below s _ _ _ (T35.setTop (mkF m 153 #[.val (.int v0), .val (.int v1), .val (.int v2), .val (.int v3), .val (.int v4), .val (.ref ob1), .val (.ref rd), .val (.int nd.toInt32), .val (.int kk), .val (.ref rb), .val (.int mm), .val (.int (own_ls mm)), .unset, .unset] []))
        refine own_of (fun _ hh_ => XS.iconst X35.here hx rfl (hb hby at_153) hh_) ?_
        show own_Run p e below s _ _ _ (T35.setTop (mkF m 154 #[.val (.int v0), .val (.int v1), .val (.int v2), .val (.int v3), .val (.int v4), .val (.ref ob1), .val (.ref rd), .val (.int nd.toInt32), .val (.int kk), .val (.ref rb), .val (.int mm), .val (.int (own_ls mm)), .unset, .unset] [(.int (1 : Int32))]))
        refine own_of (fun _ hh_ => XS.goto X35.here hx rfl (pc0 := 154) (pc' := 158) rfl (hb hby at_154) (by decide) (by decide) hh_) ?_
        show own_Run p e below s _ _ _ (T35.setTop (mkF m 158 #[.val (.int v0), .val (.int v1), .val (.int v2), .val (.int v3), .val (.int v4), .val (.ref ob1), .val (.ref rd), .val (.int nd.toInt32), .val (.int kk), .val (.ref rb), .val (.int mm), .val (.int (own_ls mm)), .unset, .unset] [(.int (1 : Int32))]))
        refine own_of (fun _ hh_ => XS.istore X35.here hx rfl (hb hby at_158) rfl (l' := #[.val (.int v0), .val (.int v1), .val (.int v2), .val (.int v3), .val (.int v4), .val (.ref ob1), .val (.ref rd), .val (.int nd.toInt32), .val (.int kk), .val (.ref rb), .val (.int mm), .val (.int (own_ls mm)), .val (.int (1 : Int32)), .unset]) rfl hh_) ?_
        show own_Run p e below s _ _ _ (T35.setTop (mkF m 160 #[.val (.int v0), .val (.int v1), .val (.int v2), .val (.int v3), .val (.int v4), .val (.ref ob1), .val (.ref rd), .val (.int nd.toInt32), .val (.int kk), .val (.ref rb), .val (.int mm), .val (.int (own_ls mm)), .val (.int (1 : Int32)), .unset] []))
        refine own_of (fun _ hh_ => XS.iload X35.here hx rfl (hb hby at_160) rfl hh_) ?_
        show own_Run p e below s _ _ _ (T35.setTop (mkF m 162 #[.val (.int v0), .val (.int v1), .val (.int v2), .val (.int v3), .val (.int v4), .val (.ref ob1), .val (.ref rd), .val (.int nd.toInt32), .val (.int kk), .val (.ref rb), .val (.int mm), .val (.int (own_ls mm)), .val (.int (1 : Int32)), .unset] [(.int (own_ls mm))]))
        refine own_of (fun _ hh_ => XS.iload X35.here hx rfl (hb hby at_162) rfl hh_) ?_
        show own_Run p e below s _ _ _ (T35.setTop (mkF m 164 #[.val (.int v0), .val (.int v1), .val (.int v2), .val (.int v3), .val (.int v4), .val (.ref ob1), .val (.ref rd), .val (.int nd.toInt32), .val (.int kk), .val (.ref rb), .val (.int mm), .val (.int (own_ls mm)), .val (.int (1 : Int32)), .unset] [(.int (1 : Int32)), (.int (own_ls mm))]))
        have hc164_38 : (own_ls mm) = (1 : Int32) := if_pos hc150_37
        refine own_of (fun _ hh_ => XS.icmpYes X35.here hx rfl (pc0 := 164) (pc' := 169) rfl (hb hby at_164) rfl (teq hc164_38).1 (by decide) (by decide) hh_) ?_
        show own_Run p e below s _ _ _ (T35.setTop (mkF m 169 #[.val (.int v0), .val (.int v1), .val (.int v2), .val (.int v3), .val (.int v4), .val (.ref ob1), .val (.ref rd), .val (.int nd.toInt32), .val (.int kk), .val (.ref rb), .val (.int mm), .val (.int (own_ls mm)), .val (.int (1 : Int32)), .unset] []))
        refine own_of (fun _ hh_ => XS.aload X35.here hx rfl (hb hby at_169) rfl rfl hh_) ?_
        show own_Run p e below s _ _ _ (T35.setTop (mkF m 171 #[.val (.int v0), .val (.int v1), .val (.int v2), .val (.int v3), .val (.int v4), .val (.ref ob1), .val (.ref rd), .val (.int nd.toInt32), .val (.int kk), .val (.ref rb), .val (.int mm), .val (.int (own_ls mm)), .val (.int (1 : Int32)), .unset] [(.ref ob1)]))
        obtain ⟨cq39, kq39, q39a, q39b, q39c⟩ := isOf hZ (rfl : T35.heap = T35.heap) f36
        obtain ⟨_, _, ⟨T39, L39, k39, n39⟩, -, X39, ⟨Lc39, hQ39, l39, y39, z39⟩, st39⟩ := X35.virtualBack hx (y := (⟨"com/example/pagewright/pagewright/RecordCodec$Writer", "size", "()I"⟩ : MethodName)) (z := (⟨"com/example/pagewright/pagewright/RecordCodec$Writer", "size", "()I"⟩ : MethodName)) hown (mvT hZ (hw _ (List.mem_of_getElem? (i := 37) rfl))) (mvT hZ (hw _ (List.mem_of_getElem? (i := 38) rfl))) (notFace_of_selects (args := #[]) (mvT hZ (hw _ (List.mem_of_getElem? (i := 40) rfl)))) (mvT hZ (hw _ (List.mem_of_getElem? (i := 40) rfl))) (mvT hZ (hw _ (List.mem_of_getElem? (i := 39) rfl))) (by decide) (backOf (W := 0) (rmZ l Z a0 hw [] ob1 ((own_ls mm) + mm) T35.heap n0 (Nat.le_trans (Nat.le_trans (Nat.le_trans (Nat.le_trans (Nat.le_trans Z0 E1.1) K4.1) K6.1) K10.1) K35.1) fs35) hZ (hw _ (List.mem_of_getElem? (i := 41) rfl)) (hw _ (List.mem_of_getElem? (i := 2) rfl)) (by decide) (by decide)) q39a q39c (g := (mkF m 171 #[.val (.int v0), .val (.int v1), .val (.int v2), .val (.int v3), .val (.int v4), .val (.ref ob1), .val (.ref rd), .val (.int nd.toInt32), .val (.int kk), .val (.ref rb), .val (.int mm), .val (.int (own_ls mm)), .val (.int (1 : Int32)), .unset] [(.ref ob1)])) rfl (by rw [hml]; rfl) (Steps.refl _) (argsL := []) (rest := []) (lenOf own_pd5 rfl) rfl (by show 2 * 0 + _ ≤ _; exact Nat.le_of_eq rfl) (hb hby at_171) (fun _ _ => ⟨rfl, (rfl : T35.heap = T35.heap), (by decide : 5 + 0 ≤ _), (by decide : 33540 + 0 ≤ _)⟩)
        dsimp only [Pt.U, Pt.locs, Pt.cells, Pt.slots] at X39 l39 y39 z39 st39 hQ39
        subst l39 y39 z39
        obtain ⟨rfl, N39q, e39⟩ := hQ39
        have N39 := Fr.app N35 N39q
        refine own_tr st39 ?_
        show own_Run p e below s _ _ _ (T39.setTop (mkF m 174 #[.val (.int v0), .val (.int v1), .val (.int v2), .val (.int v3), .val (.int v4), .val (.ref ob1), .val (.ref rd), .val (.int nd.toInt32), .val (.int kk), .val (.ref rb), .val (.int mm), .val (.int (own_ls mm)), .val (.int (1 : Int32)), .unset] [(.int ((own_ls mm) + mm))]))
        refine own_of (fun _ hh_ => XS.iload X39.here hx rfl (hb hby at_174) rfl hh_) ?_
        show own_Run p e below s _ _ _ (T39.setTop (mkF m 176 #[.val (.int v0), .val (.int v1), .val (.int v2), .val (.int v3), .val (.int v4), .val (.ref ob1), .val (.ref rd), .val (.int nd.toInt32), .val (.int kk), .val (.ref rb), .val (.int mm), .val (.int (own_ls mm)), .val (.int (1 : Int32)), .unset] [(.int (1 : Int32)), (.int ((own_ls mm) + mm))]))
        refine own_of (fun _ hh_ => XS.iload X39.here hx rfl (hb hby at_176) rfl hh_) ?_
        show own_Run p e below s _ _ _ (T39.setTop (mkF m 178 #[.val (.int v0), .val (.int v1), .val (.int v2), .val (.int v3), .val (.int v4), .val (.ref ob1), .val (.ref rd), .val (.int nd.toInt32), .val (.int kk), .val (.ref rb), .val (.int mm), .val (.int (own_ls mm)), .val (.int (1 : Int32)), .unset] [(.int mm), (.int (1 : Int32)), (.int ((own_ls mm) + mm))]))
        refine own_of (fun _ hh_ => XS.iadd X39.here hx rfl (hb hby at_178) rfl hh_) ?_
        show own_Run p e below s _ _ _ (T39.setTop (mkF m 179 #[.val (.int v0), .val (.int v1), .val (.int v2), .val (.int v3), .val (.int v4), .val (.ref ob1), .val (.ref rd), .val (.int nd.toInt32), .val (.int kk), .val (.ref rb), .val (.int mm), .val (.int (own_ls mm)), .val (.int (1 : Int32)), .unset] [(.int ((1 : Int32) + mm)), (.int ((own_ls mm) + mm))]))
        have hc179_40 : ((own_ls mm) + mm) = ((1 : Int32) + mm) := by rw [show own_ls mm = (1 : Int32) from if_pos hc150_37]
        refine own_of (fun _ hh_ => XS.icmpYes X39.here hx rfl (pc0 := 179) (pc' := 184) rfl (hb hby at_179) rfl (teq hc179_40).1 (by decide) (by decide) hh_) ?_
        show own_Run p e below s _ _ _ (T39.setTop (mkF m 184 #[.val (.int v0), .val (.int v1), .val (.int v2), .val (.int v3), .val (.int v4), .val (.ref ob1), .val (.ref rd), .val (.int nd.toInt32), .val (.int kk), .val (.ref rb), .val (.int mm), .val (.int (own_ls mm)), .val (.int (1 : Int32)), .unset] []))
        refine own_of (fun _ hh_ => XS.aload X39.here hx rfl (hb hby at_184) rfl rfl hh_) ?_
        show own_Run p e below s _ _ _ (T39.setTop (mkF m 186 #[.val (.int v0), .val (.int v1), .val (.int v2), .val (.int v3), .val (.int v4), .val (.ref ob1), .val (.ref rd), .val (.int nd.toInt32), .val (.int kk), .val (.ref rb), .val (.int mm), .val (.int (own_ls mm)), .val (.int (1 : Int32)), .unset] [(.ref ob1)]))
        obtain ⟨cq41, kq41, q41a, q41b, q41c⟩ := isOf hZ e39 f36
        obtain ⟨_, _, ⟨T41, L41, k41, n41⟩, -, X41, ⟨Lc41, hQ41, l41, y41, z41⟩, st41⟩ := X39.virtualBack hx (y := (⟨"com/example/pagewright/pagewright/RecordCodec$Writer", "bytes", "()[B"⟩ : MethodName)) (z := (⟨"com/example/pagewright/pagewright/RecordCodec$Writer", "bytes", "()[B"⟩ : MethodName)) hown (mvT hZ (hw _ (List.mem_of_getElem? (i := 27) rfl))) (mvT hZ (hw _ (List.mem_of_getElem? (i := 28) rfl))) (notFace_of_selects (args := #[]) (mvT hZ (hw _ (List.mem_of_getElem? (i := 30) rfl)))) (mvT hZ (hw _ (List.mem_of_getElem? (i := 30) rfl))) (mvT hZ (hw _ (List.mem_of_getElem? (i := 29) rfl))) (by decide) (backOf (W := 0) (rmB l Z a0 hw [] ob1 re T35.heap n0 (Nat.le_trans (Nat.le_trans (Nat.le_trans (Nat.le_trans (Nat.le_trans Z0 E1.1) K4.1) K6.1) K10.1) K35.1) fb35) hZ (hw _ (List.mem_of_getElem? (i := 31) rfl)) (hw _ (List.mem_of_getElem? (i := 2) rfl)) (by decide) (by decide)) q41a q41c (g := (mkF m 186 #[.val (.int v0), .val (.int v1), .val (.int v2), .val (.int v3), .val (.int v4), .val (.ref ob1), .val (.ref rd), .val (.int nd.toInt32), .val (.int kk), .val (.ref rb), .val (.int mm), .val (.int (own_ls mm)), .val (.int (1 : Int32)), .unset] [(.ref ob1)])) rfl (by rw [hml]; rfl) (Steps.refl _) (argsL := []) (rest := []) (lenOf own_pd4 rfl) rfl (by show 2 * 0 + _ ≤ _; exact Nat.le_of_eq rfl) (hb hby at_186) (fun _ _ => ⟨rfl, e39, (by decide : 5 + 0 ≤ _), (by decide : 33540 + 0 ≤ _)⟩)
        dsimp only [Pt.U, Pt.locs, Pt.cells, Pt.slots] at X41 l41 y41 z41 st41 hQ41
        subst l41 y41 z41
        obtain ⟨rfl, N41q, e41⟩ := hQ41
        have N41 := Fr.app N39 N41q
        refine own_tr st41 ?_
        show own_Run p e below s _ _ _ (T41.setTop (mkF m 189 #[.val (.int v0), .val (.int v1), .val (.int v2), .val (.int v3), .val (.int v4), .val (.ref ob1), .val (.ref rd), .val (.int nd.toInt32), .val (.int kk), .val (.ref rb), .val (.int mm), .val (.int (own_ls mm)), .val (.int (1 : Int32)), .unset] [(.ref re)]))
        refine own_of (fun _ hh_ => XS.astore X41.here hx rfl (hb hby at_189) rfl rfl (l' := #[.val (.int v0), .val (.int v1), .val (.int v2), .val (.int v3), .val (.int v4), .val (.ref ob1), .val (.ref rd), .val (.int nd.toInt32), .val (.int kk), .val (.ref rb), .val (.int mm), .val (.int (own_ls mm)), .val (.int (1 : Int32)), .val (.ref re)]) rfl hh_) ?_
        show own_Run p e below s _ _ _ (T41.setTop (mkF m 191 #[.val (.int v0), .val (.int v1), .val (.int v2), .val (.int v3), .val (.int v4), .val (.ref ob1), .val (.ref rd), .val (.int nd.toInt32), .val (.int kk), .val (.ref rb), .val (.int mm), .val (.int (own_ls mm)), .val (.int (1 : Int32)), .val (.ref re)] []))
        refine own_of (fun _ hh_ => XS.iload X41.here hx rfl (hb hby at_191) rfl hh_) ?_
        show own_Run p e below s _ _ _ (T41.setTop (mkF m 193 #[.val (.int v0), .val (.int v1), .val (.int v2), .val (.int v3), .val (.int v4), .val (.ref ob1), .val (.ref rd), .val (.int nd.toInt32), .val (.int kk), .val (.ref rb), .val (.int mm), .val (.int (own_ls mm)), .val (.int (1 : Int32)), .val (.ref re)] [(.int mm)]))
        refine own_of (fun _ hh_ => XS.sipush X41.here hx rfl (hb hby at_193) hh_) ?_
        show own_Run p e below s _ _ _ (T41.setTop (mkF m 196 #[.val (.int v0), .val (.int v1), .val (.int v2), .val (.int v3), .val (.int v4), .val (.ref ob1), .val (.ref rd), .val (.int nd.toInt32), .val (.int kk), .val (.ref rb), .val (.int mm), .val (.int (own_ls mm)), .val (.int (1 : Int32)), .val (.ref re)] [(.int (128 : Int32)), (.int mm)]))
        have hc196_42 : mm < (128 : Int32) := hc150_37
        refine own_of (fun _ hh_ => XS.icmpNo X41.here hx rfl (hb hby at_196) rfl (tlt hc196_42).2.1 hh_) ?_
        show own_Run p e below s _ _ _ (T41.setTop (mkF m 199 #[.val (.int v0), .val (.int v1), .val (.int v2), .val (.int v3), .val (.int v4), .val (.ref ob1), .val (.ref rd), .val (.int nd.toInt32), .val (.int kk), .val (.ref rb), .val (.int mm), .val (.int (own_ls mm)), .val (.int (1 : Int32)), .val (.ref re)] []))
        have hlz : (0 : Int32).toNatClampNeg < ne2 := by obtain ⟨z1, z2⟩ := hb2; have z3 := own_ls_i mm; show 0 < ne2; omega
        refine own_of (fun _ hh_ => XS.aload X41.here hx rfl (hb hby at_199) rfl rfl hh_) ?_
        show own_Run p e below s _ _ _ (T41.setTop (mkF m 201 #[.val (.int v0), .val (.int v1), .val (.int v2), .val (.int v3), .val (.int v4), .val (.ref ob1), .val (.ref rd), .val (.int nd.toInt32), .val (.int kk), .val (.ref rb), .val (.int mm), .val (.int (own_ls mm)), .val (.int (1 : Int32)), .val (.ref re)] [(.ref re)]))
        refine own_of (fun _ hh_ => XS.iconst X41.here hx rfl (hb hby at_201) hh_) ?_
        show own_Run p e below s _ _ _ (T41.setTop (mkF m 202 #[.val (.int v0), .val (.int v1), .val (.int v2), .val (.int v3), .val (.int v4), .val (.ref ob1), .val (.ref rd), .val (.int nd.toInt32), .val (.int kk), .val (.ref rb), .val (.int mm), .val (.int (own_ls mm)), .val (.int (1 : Int32)), .val (.ref re)] [(.int (0 : Int32)), (.ref re)]))
        refine own_bal X41 hx hZ e41 V35 (j := (0 : Int32)) (w := (fee 0)) (by decide) hlz rfl (hb hby at_202) ?_
        show own_Run p e below s _ _ _ (T41.setTop (mkF m 203 #[.val (.int v0), .val (.int v1), .val (.int v2), .val (.int v3), .val (.int v4), .val (.ref ob1), .val (.ref rd), .val (.int nd.toInt32), .val (.int kk), .val (.ref rb), .val (.int mm), .val (.int (own_ls mm)), .val (.int (1 : Int32)), .val (.ref re)] [(.int (fee 0))]))
        refine own_of (fun _ hh_ => XS.iload X41.here hx rfl (hb hby at_203) rfl hh_) ?_
        show own_Run p e below s _ _ _ (T41.setTop (mkF m 205 #[.val (.int v0), .val (.int v1), .val (.int v2), .val (.int v3), .val (.int v4), .val (.ref ob1), .val (.ref rd), .val (.int nd.toInt32), .val (.int kk), .val (.ref rb), .val (.int mm), .val (.int (own_ls mm)), .val (.int (1 : Int32)), .val (.ref re)] [(.int mm), (.int (fee 0))]))
        refine own_of (fun _ hh_ => XS.i2b X41.here hx rfl (hb hby at_205) rfl hh_) ?_
        show own_Run p e below s _ _ _ (T41.setTop (mkF m 206 #[.val (.int v0), .val (.int v1), .val (.int v2), .val (.int v3), .val (.int v4), .val (.ref ob1), .val (.ref rd), .val (.int nd.toInt32), .val (.int kk), .val (.ref rb), .val (.int mm), .val (.int (own_ls mm)), .val (.int (1 : Int32)), .val (.ref re)] [(.int (mm.toInt8.toInt32)), (.int (fee 0))]))
        have hc206_43 : (fee 0) = (mm.toInt8.toInt32) := by rcases hct2 with ⟨y1, y2⟩ | ⟨y1, y2, y3⟩; rw [y2, own_bb]; exact absurd hc150_37 y1
        refine own_of (fun _ hh_ => XS.icmpNo X41.here hx rfl (hb hby at_206) rfl (teq hc206_43).2 hh_) ?_
        show own_Run p e below s _ _ _ (T41.setTop (mkF m 209 #[.val (.int v0), .val (.int v1), .val (.int v2), .val (.int v3), .val (.int v4), .val (.ref ob1), .val (.ref rd), .val (.int nd.toInt32), .val (.int kk), .val (.ref rb), .val (.int mm), .val (.int (own_ls mm)), .val (.int (1 : Int32)), .val (.ref re)] []))
        refine own_of (fun _ hh_ => XS.iconst X41.here hx rfl (hb hby at_209) hh_) ?_
        show own_Run p e below s _ _ _ (T41.setTop (mkF m 210 #[.val (.int v0), .val (.int v1), .val (.int v2), .val (.int v3), .val (.int v4), .val (.ref ob1), .val (.ref rd), .val (.int nd.toInt32), .val (.int kk), .val (.ref rb), .val (.int mm), .val (.int (own_ls mm)), .val (.int (1 : Int32)), .val (.ref re)] [(.int (1 : Int32))]))
        refine own_of (fun _ hh_ => XS.goto X41.here hx rfl (pc0 := 210) (pc' := 214) rfl (hb hby at_210) (by decide) (by decide) hh_) ?_
        show own_Run p e below s _ _ _ (T41.setTop (mkF m 214 #[.val (.int v0), .val (.int v1), .val (.int v2), .val (.int v3), .val (.int v4), .val (.ref ob1), .val (.ref rd), .val (.int nd.toInt32), .val (.int kk), .val (.ref rb), .val (.int mm), .val (.int (own_ls mm)), .val (.int (1 : Int32)), .val (.ref re)] [(.int (1 : Int32))]))
        exact own_retN X41 hx (t := .boolean) hret hlk (by simp) (hb hby at_214) ⟨rfl, N41⟩ (by decide) (by decide)
      · refine own_of (fun _ hh_ => XS.icmpYes X35.here hx rfl (pc0 := 150) (pc' := 157) rfl (hb hby at_150) rfl (flt hc150_37).2.1 (by decide) (by decide) hh_) ?_
        show own_Run p e below s _ _ _ (T35.setTop (mkF m 157 #[.val (.int v0), .val (.int v1), .val (.int v2), .val (.int v3), .val (.int v4), .val (.ref ob1), .val (.ref rd), .val (.int nd.toInt32), .val (.int kk), .val (.ref rb), .val (.int mm), .val (.int (own_ls mm)), .unset, .unset] []))
        refine own_of (fun _ hh_ => XS.iconst X35.here hx rfl (hb hby at_157) hh_) ?_
        show own_Run p e below s _ _ _ (T35.setTop (mkF m 158 #[.val (.int v0), .val (.int v1), .val (.int v2), .val (.int v3), .val (.int v4), .val (.ref ob1), .val (.ref rd), .val (.int nd.toInt32), .val (.int kk), .val (.ref rb), .val (.int mm), .val (.int (own_ls mm)), .unset, .unset] [(.int (2 : Int32))]))
        refine own_of (fun _ hh_ => XS.istore X35.here hx rfl (hb hby at_158) rfl (l' := #[.val (.int v0), .val (.int v1), .val (.int v2), .val (.int v3), .val (.int v4), .val (.ref ob1), .val (.ref rd), .val (.int nd.toInt32), .val (.int kk), .val (.ref rb), .val (.int mm), .val (.int (own_ls mm)), .val (.int (2 : Int32)), .unset]) rfl hh_) ?_
        show own_Run p e below s _ _ _ (T35.setTop (mkF m 160 #[.val (.int v0), .val (.int v1), .val (.int v2), .val (.int v3), .val (.int v4), .val (.ref ob1), .val (.ref rd), .val (.int nd.toInt32), .val (.int kk), .val (.ref rb), .val (.int mm), .val (.int (own_ls mm)), .val (.int (2 : Int32)), .unset] []))
        refine own_of (fun _ hh_ => XS.iload X35.here hx rfl (hb hby at_160) rfl hh_) ?_
        show own_Run p e below s _ _ _ (T35.setTop (mkF m 162 #[.val (.int v0), .val (.int v1), .val (.int v2), .val (.int v3), .val (.int v4), .val (.ref ob1), .val (.ref rd), .val (.int nd.toInt32), .val (.int kk), .val (.ref rb), .val (.int mm), .val (.int (own_ls mm)), .val (.int (2 : Int32)), .unset] [(.int (own_ls mm))]))
        refine own_of (fun _ hh_ => XS.iload X35.here hx rfl (hb hby at_162) rfl hh_) ?_
        show own_Run p e below s _ _ _ (T35.setTop (mkF m 164 #[.val (.int v0), .val (.int v1), .val (.int v2), .val (.int v3), .val (.int v4), .val (.ref ob1), .val (.ref rd), .val (.int nd.toInt32), .val (.int kk), .val (.ref rb), .val (.int mm), .val (.int (own_ls mm)), .val (.int (2 : Int32)), .unset] [(.int (2 : Int32)), (.int (own_ls mm))]))
        have hc164_44 : (own_ls mm) = (2 : Int32) := if_neg hc150_37
        refine own_of (fun _ hh_ => XS.icmpYes X35.here hx rfl (pc0 := 164) (pc' := 169) rfl (hb hby at_164) rfl (teq hc164_44).1 (by decide) (by decide) hh_) ?_
        show own_Run p e below s _ _ _ (T35.setTop (mkF m 169 #[.val (.int v0), .val (.int v1), .val (.int v2), .val (.int v3), .val (.int v4), .val (.ref ob1), .val (.ref rd), .val (.int nd.toInt32), .val (.int kk), .val (.ref rb), .val (.int mm), .val (.int (own_ls mm)), .val (.int (2 : Int32)), .unset] []))
        refine own_of (fun _ hh_ => XS.aload X35.here hx rfl (hb hby at_169) rfl rfl hh_) ?_
        show own_Run p e below s _ _ _ (T35.setTop (mkF m 171 #[.val (.int v0), .val (.int v1), .val (.int v2), .val (.int v3), .val (.int v4), .val (.ref ob1), .val (.ref rd), .val (.int nd.toInt32), .val (.int kk), .val (.ref rb), .val (.int mm), .val (.int (own_ls mm)), .val (.int (2 : Int32)), .unset] [(.ref ob1)]))
        obtain ⟨cq45, kq45, q45a, q45b, q45c⟩ := isOf hZ (rfl : T35.heap = T35.heap) f36
        obtain ⟨_, _, ⟨T45, L45, k45, n45⟩, -, X45, ⟨Lc45, hQ45, l45, y45, z45⟩, st45⟩ := X35.virtualBack hx (y := (⟨"com/example/pagewright/pagewright/RecordCodec$Writer", "size", "()I"⟩ : MethodName)) (z := (⟨"com/example/pagewright/pagewright/RecordCodec$Writer", "size", "()I"⟩ : MethodName)) hown (mvT hZ (hw _ (List.mem_of_getElem? (i := 37) rfl))) (mvT hZ (hw _ (List.mem_of_getElem? (i := 38) rfl))) (notFace_of_selects (args := #[]) (mvT hZ (hw _ (List.mem_of_getElem? (i := 40) rfl)))) (mvT hZ (hw _ (List.mem_of_getElem? (i := 40) rfl))) (mvT hZ (hw _ (List.mem_of_getElem? (i := 39) rfl))) (by decide) (backOf (W := 0) (rmZ l Z a0 hw [] ob1 ((own_ls mm) + mm) T35.heap n0 (Nat.le_trans (Nat.le_trans (Nat.le_trans (Nat.le_trans (Nat.le_trans Z0 E1.1) K4.1) K6.1) K10.1) K35.1) fs35) hZ (hw _ (List.mem_of_getElem? (i := 41) rfl)) (hw _ (List.mem_of_getElem? (i := 2) rfl)) (by decide) (by decide)) q45a q45c (g := (mkF m 171 #[.val (.int v0), .val (.int v1), .val (.int v2), .val (.int v3), .val (.int v4), .val (.ref ob1), .val (.ref rd), .val (.int nd.toInt32), .val (.int kk), .val (.ref rb), .val (.int mm), .val (.int (own_ls mm)), .val (.int (2 : Int32)), .unset] [(.ref ob1)])) rfl (by rw [hml]; rfl) (Steps.refl _) (argsL := []) (rest := []) (lenOf own_pd5 rfl) rfl (by show 2 * 0 + _ ≤ _; exact Nat.le_of_eq rfl) (hb hby at_171) (fun _ _ => ⟨rfl, (rfl : T35.heap = T35.heap), (by decide : 5 + 0 ≤ _), (by decide : 33540 + 0 ≤ _)⟩)
        dsimp only [Pt.U, Pt.locs, Pt.cells, Pt.slots] at X45 l45 y45 z45 st45 hQ45
        subst l45 y45 z45
        obtain ⟨rfl, N45q, e45⟩ := hQ45
        have N45 := Fr.app N35 N45q
        refine own_tr st45 ?_
        show own_Run p e below s _ _ _ (T45.setTop (mkF m 174 #[.val (.int v0), .val (.int v1), .val (.int v2), .val (.int v3), .val (.int v4), .val (.ref ob1), .val (.ref rd), .val (.int nd.toInt32), .val (.int kk), .val (.ref rb), .val (.int mm), .val (.int (own_ls mm)), .val (.int (2 : Int32)), .unset] [(.int ((own_ls mm) + mm))]))
        refine own_of (fun _ hh_ => XS.iload X45.here hx rfl (hb hby at_174) rfl hh_) ?_
        show own_Run p e below s _ _ _ (T45.setTop (mkF m 176 #[.val (.int v0), .val (.int v1), .val (.int v2), .val (.int v3), .val (.int v4), .val (.ref ob1), .val (.ref rd), .val (.int nd.toInt32), .val (.int kk), .val (.ref rb), .val (.int mm), .val (.int (own_ls mm)), .val (.int (2 : Int32)), .unset] [(.int (2 : Int32)), (.int ((own_ls mm) + mm))]))
        refine own_of (fun _ hh_ => XS.iload X45.here hx rfl (hb hby at_176) rfl hh_) ?_
        show own_Run p e below s _ _ _ (T45.setTop (mkF m 178 #[.val (.int v0), .val (.int v1), .val (.int v2), .val (.int v3), .val (.int v4), .val (.ref ob1), .val (.ref rd), .val (.int nd.toInt32), .val (.int kk), .val (.ref rb), .val (.int mm), .val (.int (own_ls mm)), .val (.int (2 : Int32)), .unset] [(.int mm), (.int (2 : Int32)), (.int ((own_ls mm) + mm))]))
        refine own_of (fun _ hh_ => XS.iadd X45.here hx rfl (hb hby at_178) rfl hh_) ?_
        show own_Run p e below s _ _ _ (T45.setTop (mkF m 179 #[.val (.int v0), .val (.int v1), .val (.int v2), .val (.int v3), .val (.int v4), .val (.ref ob1), .val (.ref rd), .val (.int nd.toInt32), .val (.int kk), .val (.ref rb), .val (.int mm), .val (.int (own_ls mm)), .val (.int (2 : Int32)), .unset] [(.int ((2 : Int32) + mm)), (.int ((own_ls mm) + mm))]))
        have hc179_46 : ((own_ls mm) + mm) = ((2 : Int32) + mm) := by rw [show own_ls mm = (2 : Int32) from if_neg hc150_37]
        refine own_of (fun _ hh_ => XS.icmpYes X45.here hx rfl (pc0 := 179) (pc' := 184) rfl (hb hby at_179) rfl (teq hc179_46).1 (by decide) (by decide) hh_) ?_
        show own_Run p e below s _ _ _ (T45.setTop (mkF m 184 #[.val (.int v0), .val (.int v1), .val (.int v2), .val (.int v3), .val (.int v4), .val (.ref ob1), .val (.ref rd), .val (.int nd.toInt32), .val (.int kk), .val (.ref rb), .val (.int mm), .val (.int (own_ls mm)), .val (.int (2 : Int32)), .unset] []))
        refine own_of (fun _ hh_ => XS.aload X45.here hx rfl (hb hby at_184) rfl rfl hh_) ?_
        show own_Run p e below s _ _ _ (T45.setTop (mkF m 186 #[.val (.int v0), .val (.int v1), .val (.int v2), .val (.int v3), .val (.int v4), .val (.ref ob1), .val (.ref rd), .val (.int nd.toInt32), .val (.int kk), .val (.ref rb), .val (.int mm), .val (.int (own_ls mm)), .val (.int (2 : Int32)), .unset] [(.ref ob1)]))
        obtain ⟨cq47, kq47, q47a, q47b, q47c⟩ := isOf hZ e45 f36
        obtain ⟨_, _, ⟨T47, L47, k47, n47⟩, -, X47, ⟨Lc47, hQ47, l47, y47, z47⟩, st47⟩ := X45.virtualBack hx (y := (⟨"com/example/pagewright/pagewright/RecordCodec$Writer", "bytes", "()[B"⟩ : MethodName)) (z := (⟨"com/example/pagewright/pagewright/RecordCodec$Writer", "bytes", "()[B"⟩ : MethodName)) hown (mvT hZ (hw _ (List.mem_of_getElem? (i := 27) rfl))) (mvT hZ (hw _ (List.mem_of_getElem? (i := 28) rfl))) (notFace_of_selects (args := #[]) (mvT hZ (hw _ (List.mem_of_getElem? (i := 30) rfl)))) (mvT hZ (hw _ (List.mem_of_getElem? (i := 30) rfl))) (mvT hZ (hw _ (List.mem_of_getElem? (i := 29) rfl))) (by decide) (backOf (W := 0) (rmB l Z a0 hw [] ob1 re T35.heap n0 (Nat.le_trans (Nat.le_trans (Nat.le_trans (Nat.le_trans (Nat.le_trans Z0 E1.1) K4.1) K6.1) K10.1) K35.1) fb35) hZ (hw _ (List.mem_of_getElem? (i := 31) rfl)) (hw _ (List.mem_of_getElem? (i := 2) rfl)) (by decide) (by decide)) q47a q47c (g := (mkF m 186 #[.val (.int v0), .val (.int v1), .val (.int v2), .val (.int v3), .val (.int v4), .val (.ref ob1), .val (.ref rd), .val (.int nd.toInt32), .val (.int kk), .val (.ref rb), .val (.int mm), .val (.int (own_ls mm)), .val (.int (2 : Int32)), .unset] [(.ref ob1)])) rfl (by rw [hml]; rfl) (Steps.refl _) (argsL := []) (rest := []) (lenOf own_pd4 rfl) rfl (by show 2 * 0 + _ ≤ _; exact Nat.le_of_eq rfl) (hb hby at_186) (fun _ _ => ⟨rfl, e45, (by decide : 5 + 0 ≤ _), (by decide : 33540 + 0 ≤ _)⟩)
        dsimp only [Pt.U, Pt.locs, Pt.cells, Pt.slots] at X47 l47 y47 z47 st47 hQ47
        subst l47 y47 z47
        obtain ⟨rfl, N47q, e47⟩ := hQ47
        have N47 := Fr.app N45 N47q
        refine own_tr st47 ?_
        show own_Run p e below s _ _ _ (T47.setTop (mkF m 189 #[.val (.int v0), .val (.int v1), .val (.int v2), .val (.int v3), .val (.int v4), .val (.ref ob1), .val (.ref rd), .val (.int nd.toInt32), .val (.int kk), .val (.ref rb), .val (.int mm), .val (.int (own_ls mm)), .val (.int (2 : Int32)), .unset] [(.ref re)]))
        refine own_of (fun _ hh_ => XS.astore X47.here hx rfl (hb hby at_189) rfl rfl (l' := #[.val (.int v0), .val (.int v1), .val (.int v2), .val (.int v3), .val (.int v4), .val (.ref ob1), .val (.ref rd), .val (.int nd.toInt32), .val (.int kk), .val (.ref rb), .val (.int mm), .val (.int (own_ls mm)), .val (.int (2 : Int32)), .val (.ref re)]) rfl hh_) ?_
        show own_Run p e below s _ _ _ (T47.setTop (mkF m 191 #[.val (.int v0), .val (.int v1), .val (.int v2), .val (.int v3), .val (.int v4), .val (.ref ob1), .val (.ref rd), .val (.int nd.toInt32), .val (.int kk), .val (.ref rb), .val (.int mm), .val (.int (own_ls mm)), .val (.int (2 : Int32)), .val (.ref re)] []))
        refine own_of (fun _ hh_ => XS.iload X47.here hx rfl (hb hby at_191) rfl hh_) ?_
        show own_Run p e below s _ _ _ (T47.setTop (mkF m 193 #[.val (.int v0), .val (.int v1), .val (.int v2), .val (.int v3), .val (.int v4), .val (.ref ob1), .val (.ref rd), .val (.int nd.toInt32), .val (.int kk), .val (.ref rb), .val (.int mm), .val (.int (own_ls mm)), .val (.int (2 : Int32)), .val (.ref re)] [(.int mm)]))
        refine own_of (fun _ hh_ => XS.sipush X47.here hx rfl (hb hby at_193) hh_) ?_
        show own_Run p e below s _ _ _ (T47.setTop (mkF m 196 #[.val (.int v0), .val (.int v1), .val (.int v2), .val (.int v3), .val (.int v4), .val (.ref ob1), .val (.ref rd), .val (.int nd.toInt32), .val (.int kk), .val (.ref rb), .val (.int mm), .val (.int (own_ls mm)), .val (.int (2 : Int32)), .val (.ref re)] [(.int (128 : Int32)), (.int mm)]))
        have hc196_48 : ¬ (mm < (128 : Int32)) := hc150_37
        refine own_of (fun _ hh_ => XS.icmpYes X47.here hx rfl (pc0 := 196) (pc' := 215) rfl (hb hby at_196) rfl (flt hc196_48).2.1 (by decide) (by decide) hh_) ?_
        show own_Run p e below s _ _ _ (T47.setTop (mkF m 215 #[.val (.int v0), .val (.int v1), .val (.int v2), .val (.int v3), .val (.int v4), .val (.ref ob1), .val (.ref rd), .val (.int nd.toInt32), .val (.int kk), .val (.ref rb), .val (.int mm), .val (.int (own_ls mm)), .val (.int (2 : Int32)), .val (.ref re)] []))
        have hlz : (0 : Int32).toNatClampNeg < ne2 := by obtain ⟨z1, z2⟩ := hb2; have z3 := own_ls_i mm; show 0 < ne2; omega
        have hlo : (1 : Int32).toNatClampNeg < ne2 := by obtain ⟨z1, z2⟩ := hb2; have z3 := own_ls_i mm; have z4 := mt Int32.lt_iff_toInt_lt.mpr hc150_37; have z5 : (128 : Int32).toInt = 128 := rfl; show 1 < ne2; omega
        refine own_of (fun _ hh_ => XS.aload X47.here hx rfl (hb hby at_215) rfl rfl hh_) ?_
        show own_Run p e below s _ _ _ (T47.setTop (mkF m 217 #[.val (.int v0), .val (.int v1), .val (.int v2), .val (.int v3), .val (.int v4), .val (.ref ob1), .val (.ref rd), .val (.int nd.toInt32), .val (.int kk), .val (.ref rb), .val (.int mm), .val (.int (own_ls mm)), .val (.int (2 : Int32)), .val (.ref re)] [(.ref re)]))
        refine own_of (fun _ hh_ => XS.iconst X47.here hx rfl (hb hby at_217) hh_) ?_
        show own_Run p e below s _ _ _ (T47.setTop (mkF m 218 #[.val (.int v0), .val (.int v1), .val (.int v2), .val (.int v3), .val (.int v4), .val (.ref ob1), .val (.ref rd), .val (.int nd.toInt32), .val (.int kk), .val (.ref rb), .val (.int mm), .val (.int (own_ls mm)), .val (.int (2 : Int32)), .val (.ref re)] [(.int (0 : Int32)), (.ref re)]))
        refine own_bal X47 hx hZ e47 V35 (j := (0 : Int32)) (w := (fee 0)) (by decide) hlz rfl (hb hby at_218) ?_
        show own_Run p e below s _ _ _ (T47.setTop (mkF m 219 #[.val (.int v0), .val (.int v1), .val (.int v2), .val (.int v3), .val (.int v4), .val (.ref ob1), .val (.ref rd), .val (.int nd.toInt32), .val (.int kk), .val (.ref rb), .val (.int mm), .val (.int (own_ls mm)), .val (.int (2 : Int32)), .val (.ref re)] [(.int (fee 0))]))
        refine own_of (fun _ hh_ => XS.iload X47.here hx rfl (hb hby at_219) rfl hh_) ?_
        show own_Run p e below s _ _ _ (T47.setTop (mkF m 221 #[.val (.int v0), .val (.int v1), .val (.int v2), .val (.int v3), .val (.int v4), .val (.ref ob1), .val (.ref rd), .val (.int nd.toInt32), .val (.int kk), .val (.ref rb), .val (.int mm), .val (.int (own_ls mm)), .val (.int (2 : Int32)), .val (.ref re)] [(.int mm), (.int (fee 0))]))
        refine own_of (fun _ hh_ => XS.sipush X47.here hx rfl (hb hby at_221) hh_) ?_
        show own_Run p e below s _ _ _ (T47.setTop (mkF m 224 #[.val (.int v0), .val (.int v1), .val (.int v2), .val (.int v3), .val (.int v4), .val (.ref ob1), .val (.ref rd), .val (.int nd.toInt32), .val (.int kk), .val (.ref rb), .val (.int mm), .val (.int (own_ls mm)), .val (.int (2 : Int32)), .val (.ref re)] [(.int (128 : Int32)), (.int mm), (.int (fee 0))]))
        refine own_of (fun _ hh_ => XS.ior X47.here hx rfl (hb hby at_224) rfl hh_) ?_
        show own_Run p e below s _ _ _ (T47.setTop (mkF m 225 #[.val (.int v0), .val (.int v1), .val (.int v2), .val (.int v3), .val (.int v4), .val (.ref ob1), .val (.ref rd), .val (.int nd.toInt32), .val (.int kk), .val (.ref rb), .val (.int mm), .val (.int (own_ls mm)), .val (.int (2 : Int32)), .val (.ref re)] [(.int (mm ||| (128 : Int32))), (.int (fee 0))]))
        refine own_of (fun _ hh_ => XS.i2b X47.here hx rfl (hb hby at_225) rfl hh_) ?_
        show own_Run p e below s _ _ _ (T47.setTop (mkF m 226 #[.val (.int v0), .val (.int v1), .val (.int v2), .val (.int v3), .val (.int v4), .val (.ref ob1), .val (.ref rd), .val (.int nd.toInt32), .val (.int kk), .val (.ref rb), .val (.int mm), .val (.int (own_ls mm)), .val (.int (2 : Int32)), .val (.ref re)] [(.int ((mm ||| (128 : Int32)).toInt8.toInt32)), (.int (fee 0))]))
        have hc226_49 : (fee 0) = ((mm ||| (128 : Int32)).toInt8.toInt32) := by rcases hct2 with ⟨y1, y2⟩ | ⟨y1, y2, y3⟩; exact absurd y1 hc150_37; rw [y2, own_bb]
        refine own_of (fun _ hh_ => XS.icmpNo X47.here hx rfl (hb hby at_226) rfl (teq hc226_49).2 hh_) ?_
        show own_Run p e below s _ _ _ (T47.setTop (mkF m 229 #[.val (.int v0), .val (.int v1), .val (.int v2), .val (.int v3), .val (.int v4), .val (.ref ob1), .val (.ref rd), .val (.int nd.toInt32), .val (.int kk), .val (.ref rb), .val (.int mm), .val (.int (own_ls mm)), .val (.int (2 : Int32)), .val (.ref re)] []))
        refine own_of (fun _ hh_ => XS.aload X47.here hx rfl (hb hby at_229) rfl rfl hh_) ?_
        show own_Run p e below s _ _ _ (T47.setTop (mkF m 231 #[.val (.int v0), .val (.int v1), .val (.int v2), .val (.int v3), .val (.int v4), .val (.ref ob1), .val (.ref rd), .val (.int nd.toInt32), .val (.int kk), .val (.ref rb), .val (.int mm), .val (.int (own_ls mm)), .val (.int (2 : Int32)), .val (.ref re)] [(.ref re)]))
        refine own_of (fun _ hh_ => XS.iconst X47.here hx rfl (hb hby at_231) hh_) ?_
        show own_Run p e below s _ _ _ (T47.setTop (mkF m 232 #[.val (.int v0), .val (.int v1), .val (.int v2), .val (.int v3), .val (.int v4), .val (.ref ob1), .val (.ref rd), .val (.int nd.toInt32), .val (.int kk), .val (.ref rb), .val (.int mm), .val (.int (own_ls mm)), .val (.int (2 : Int32)), .val (.ref re)] [(.int (1 : Int32)), (.ref re)]))
        refine own_bal X47 hx hZ e47 V35 (j := (1 : Int32)) (w := (fee 1)) (by decide) hlo rfl (hb hby at_232) ?_
        show own_Run p e below s _ _ _ (T47.setTop (mkF m 233 #[.val (.int v0), .val (.int v1), .val (.int v2), .val (.int v3), .val (.int v4), .val (.ref ob1), .val (.ref rd), .val (.int nd.toInt32), .val (.int kk), .val (.ref rb), .val (.int mm), .val (.int (own_ls mm)), .val (.int (2 : Int32)), .val (.ref re)] [(.int (fee 1))]))
        refine own_of (fun _ hh_ => XS.iload X47.here hx rfl (hb hby at_233) rfl hh_) ?_
        show own_Run p e below s _ _ _ (T47.setTop (mkF m 235 #[.val (.int v0), .val (.int v1), .val (.int v2), .val (.int v3), .val (.int v4), .val (.ref ob1), .val (.ref rd), .val (.int nd.toInt32), .val (.int kk), .val (.ref rb), .val (.int mm), .val (.int (own_ls mm)), .val (.int (2 : Int32)), .val (.ref re)] [(.int mm), (.int (fee 1))]))
        refine own_of (fun _ hh_ => XS.bipush X47.here hx rfl (hb hby at_235) hh_) ?_
        show own_Run p e below s _ _ _ (T47.setTop (mkF m 237 #[.val (.int v0), .val (.int v1), .val (.int v2), .val (.int v3), .val (.int v4), .val (.ref ob1), .val (.ref rd), .val (.int nd.toInt32), .val (.int kk), .val (.ref rb), .val (.int mm), .val (.int (own_ls mm)), .val (.int (2 : Int32)), .val (.ref re)] [(.int (7 : Int32)), (.int mm), (.int (fee 1))]))
        refine own_of (fun _ hh_ => XS.iushr X47.here hx rfl (hb hby at_237) rfl hh_) ?_
        show own_Run p e below s _ _ _ (T47.setTop (mkF m 238 #[.val (.int v0), .val (.int v1), .val (.int v2), .val (.int v3), .val (.int v4), .val (.ref ob1), .val (.ref rd), .val (.int nd.toInt32), .val (.int kk), .val (.ref rb), .val (.int mm), .val (.int (own_ls mm)), .val (.int (2 : Int32)), .val (.ref re)] [(.int ((mm.toUInt32 >>> ((7 : Int32) &&& 31).toUInt32).toInt32)), (.int (fee 1))]))
        refine own_of (fun _ hh_ => XS.i2b X47.here hx rfl (hb hby at_238) rfl hh_) ?_
        show own_Run p e below s _ _ _ (T47.setTop (mkF m 239 #[.val (.int v0), .val (.int v1), .val (.int v2), .val (.int v3), .val (.int v4), .val (.ref ob1), .val (.ref rd), .val (.int nd.toInt32), .val (.int kk), .val (.ref rb), .val (.int mm), .val (.int (own_ls mm)), .val (.int (2 : Int32)), .val (.ref re)] [(.int (((mm.toUInt32 >>> ((7 : Int32) &&& 31).toUInt32).toInt32).toInt8.toInt32)), (.int (fee 1))]))
        have hc239_50 : (fee 1) = (((mm.toUInt32 >>> ((7 : Int32) &&& 31).toUInt32).toInt32).toInt8.toInt32) := by rcases hct2 with ⟨y1, y2⟩ | ⟨y1, y2, y3⟩; exact absurd y1 hc150_37; rw [y3, own_bb]
        refine own_of (fun _ hh_ => XS.icmpNo X47.here hx rfl (hb hby at_239) rfl (teq hc239_50).2 hh_) ?_
        show own_Run p e below s _ _ _ (T47.setTop (mkF m 242 #[.val (.int v0), .val (.int v1), .val (.int v2), .val (.int v3), .val (.int v4), .val (.ref ob1), .val (.ref rd), .val (.int nd.toInt32), .val (.int kk), .val (.ref rb), .val (.int mm), .val (.int (own_ls mm)), .val (.int (2 : Int32)), .val (.ref re)] []))
        refine own_of (fun _ hh_ => XS.iconst X47.here hx rfl (hb hby at_242) hh_) ?_
        show own_Run p e below s _ _ _ (T47.setTop (mkF m 243 #[.val (.int v0), .val (.int v1), .val (.int v2), .val (.int v3), .val (.int v4), .val (.ref ob1), .val (.ref rd), .val (.int nd.toInt32), .val (.int kk), .val (.ref rb), .val (.int mm), .val (.int (own_ls mm)), .val (.int (2 : Int32)), .val (.ref re)] [(.int (1 : Int32))]))
        refine own_of (fun _ hh_ => XS.goto X47.here hx rfl (pc0 := 243) (pc' := 247) rfl (hb hby at_243) (by decide) (by decide) hh_) ?_
        show own_Run p e below s _ _ _ (T47.setTop (mkF m 247 #[.val (.int v0), .val (.int v1), .val (.int v2), .val (.int v3), .val (.int v4), .val (.ref ob1), .val (.ref rd), .val (.int nd.toInt32), .val (.int kk), .val (.ref rb), .val (.int mm), .val (.int (own_ls mm)), .val (.int (2 : Int32)), .val (.ref re)] [(.int (1 : Int32))]))
        exact own_retN X47 hx (t := .boolean) hret hlk (by simp) (hb hby at_247) ⟨rfl, N47⟩ (by decide) (by decide)
  · refine own_of (fun _ hh_ => XS.ifNo X8.here hx rfl (hb hby at_41) rfl ((if0 _ _).trans (feq hc41_9).1) hh_) ?_
    show own_Run p e below s _ _ _ (T8.setTop (mkF m 44 #[.val (.int v0), .val (.int v1), .val (.int v2), .val (.int v3), .val (.int v4), .val (.ref ob1), .val (.ref rd), .val (.int nd.toInt32), .unset, .unset, .unset, .unset, .unset, .unset] []))
    refine own_of (fun _ hh_ => XS.iloadN X8.here hx rfl (hb hby at_44) rfl hh_) ?_
    show own_Run p e below s _ _ _ (T8.setTop (mkF m 45 #[.val (.int v0), .val (.int v1), .val (.int v2), .val (.int v3), .val (.int v4), .val (.ref ob1), .val (.ref rd), .val (.int nd.toInt32), .unset, .unset, .unset, .unset, .unset, .unset] [(.int v2)]))
    refine own_of (X8.ldcInt hx hown (mvT hZ (hw _ (List.mem_of_getElem? (i := 45) rfl))) (g := (mkF m 45 #[.val (.int v0), .val (.int v1), .val (.int v2), .val (.int v3), .val (.int v4), .val (.ref ob1), .val (.ref rd), .val (.int nd.toInt32), .unset, .unset, .unset, .unset, .unset, .unset] [(.int v2)])) rfl (hb hby at_45)) ?_
    show own_Run p e below s _ _ _ (T8.setTop (mkF m 47 #[.val (.int v0), .val (.int v1), .val (.int v2), .val (.int v3), .val (.int v4), .val (.ref ob1), .val (.ref rd), .val (.int nd.toInt32), .unset, .unset, .unset, .unset, .unset, .unset] [(.int (2147483647 : Int32)), (.int v2)]))
    refine own_of (fun _ hh_ => XS.iand X8.here hx rfl (hb hby at_47) rfl hh_) ?_
    show own_Run p e below s _ _ _ (T8.setTop (mkF m 48 #[.val (.int v0), .val (.int v1), .val (.int v2), .val (.int v3), .val (.int v4), .val (.ref ob1), .val (.ref rd), .val (.int nd.toInt32), .unset, .unset, .unset, .unset, .unset, .unset] [(.int (v2 &&& (2147483647 : Int32)))]))
    refine own_of (fun _ hh_ => XS.goto X8.here hx rfl (pc0 := 48) (pc' := 56) rfl (hb hby at_48) (by decide) (by decide) hh_) ?_
    show own_Run p e below s _ _ _ (T8.setTop (mkF m 56 #[.val (.int v0), .val (.int v1), .val (.int v2), .val (.int v3), .val (.int v4), .val (.ref ob1), .val (.ref rd), .val (.int nd.toInt32), .unset, .unset, .unset, .unset, .unset, .unset] [(.int (v2 &&& (2147483647 : Int32)))]))
    generalize hkk : (v2 &&& (2147483647 : Int32)) = kk
    have rk0 : 0 ≤ kk.toInt := by rw [← hkk]; exact (own_m v2 31 (by decide) _ (by decide) _ rfl).1
    show own_Run p e below s _ _ _ (T8.setTop (mkF m 56 #[.val (.int v0), .val (.int v1), .val (.int v2), .val (.int v3), .val (.int v4), .val (.ref ob1), .val (.ref rd), .val (.int nd.toInt32), .unset, .unset, .unset, .unset, .unset, .unset] [(.int kk)]))
    refine own_of (fun _ hh_ => XS.istore X8.here hx rfl (hb hby at_56) rfl (l' := #[.val (.int v0), .val (.int v1), .val (.int v2), .val (.int v3), .val (.int v4), .val (.ref ob1), .val (.ref rd), .val (.int nd.toInt32), .val (.int kk), .unset, .unset, .unset, .unset, .unset]) rfl hh_) ?_
    show own_Run p e below s _ _ _ (T8.setTop (mkF m 58 #[.val (.int v0), .val (.int v1), .val (.int v2), .val (.int v3), .val (.int v4), .val (.ref ob1), .val (.ref rd), .val (.int nd.toInt32), .val (.int kk), .unset, .unset, .unset, .unset, .unset] []))
    refine own_of (fun _ hh_ => XS.aload X8.here hx rfl (hb hby at_58) rfl rfl hh_) ?_
    show own_Run p e below s _ _ _ (T8.setTop (mkF m 60 #[.val (.int v0), .val (.int v1), .val (.int v2), .val (.int v3), .val (.int v4), .val (.ref ob1), .val (.ref rd), .val (.int nd.toInt32), .val (.int kk), .unset, .unset, .unset, .unset, .unset] [(.ref ob1)]))
    refine own_of (fun _ hh_ => XS.iload X8.here hx rfl (hb hby at_60) rfl hh_) ?_
    show own_Run p e below s _ _ _ (T8.setTop (mkF m 62 #[.val (.int v0), .val (.int v1), .val (.int v2), .val (.int v3), .val (.int v4), .val (.ref ob1), .val (.ref rd), .val (.int nd.toInt32), .val (.int kk), .unset, .unset, .unset, .unset, .unset] [(.int kk), (.ref ob1)]))
    have hrdlt := V6.lt
    obtain ⟨cq51, kq51, q51a, q51b, q51c⟩ := isOf hZ e8 f7
    obtain ⟨_, _, ⟨T51, L51, k51, n51⟩, -, X51, ⟨Lc51, hQ51, l51, y51, z51⟩, st51⟩ := X8.virtualBack hx (y := (⟨"com/example/pagewright/pagewright/RecordCodec$Writer", "clear", "(I)V"⟩ : MethodName)) (z := (⟨"com/example/pagewright/pagewright/RecordCodec$Writer", "clear", "(I)V"⟩ : MethodName)) hown (mvT hZ (hw _ (List.mem_of_getElem? (i := 32) rfl))) (mvT hZ (hw _ (List.mem_of_getElem? (i := 33) rfl))) (notFace_of_selects (args := #[]) (mvT hZ (hw _ (List.mem_of_getElem? (i := 35) rfl)))) (mvT hZ (hw _ (List.mem_of_getElem? (i := 35) rfl))) (mvT hZ (hw _ (List.mem_of_getElem? (i := 34) rfl))) (by decide) (backOf (W := 0) (rmK l Z a0 hw [] ob1 kk rd ((own_ls m1) + m1) nd fdd T6.heap n0 (Nat.le_trans (Nat.le_trans (Nat.le_trans Z0 E1.1) K4.1) K6.1) f7 fb6 fs6 V6 Ft6 g_ob1 g_rd rk0 rn513) hZ (hw _ (List.mem_of_getElem? (i := 36) rfl)) (hw _ (List.mem_of_getElem? (i := 2) rfl)) (by decide) (by decide)) q51a q51c (g := (mkF m 62 #[.val (.int v0), .val (.int v1), .val (.int v2), .val (.int v3), .val (.int v4), .val (.ref ob1), .val (.ref rd), .val (.int nd.toInt32), .val (.int kk), .unset, .unset, .unset, .unset, .unset] [(.int kk), (.ref ob1)])) rfl (by rw [hml]; rfl) (Steps.refl _) (argsL := [(.int kk)]) (rest := []) (lenOf own_pd3 rfl) rfl (by show 2 * 0 + _ ≤ _; exact Nat.le_of_eq rfl) (hb hby at_62) (fun _ _ => ⟨rfl, e8, (by decide : 3 + 1 ≤ _), (by decide : 16642 + 513 ≤ _)⟩)
    dsimp only [Pt.U, Pt.locs, Pt.cells, Pt.slots] at X51 l51 y51 z51 st51 hQ51
    subst l51 y51 z51
    obtain ⟨rfl, N51q, K51, rb, nb, fbb, fb51, fs51, Vb, Ftb, g_rb, hcase⟩ := hQ51
    have N51 := Fr.app N8 N51q
    have f52 := f7.keep K51
    refine own_tr st51 ?_
    show own_Run p e below s _ _ _ (T51.setTop (mkF m 65 #[.val (.int v0), .val (.int v1), .val (.int v2), .val (.int v3), .val (.int v4), .val (.ref ob1), .val (.ref rd), .val (.int nd.toInt32), .val (.int kk), .unset, .unset, .unset, .unset, .unset] []))
    refine own_of (fun _ hh_ => XS.aload X51.here hx rfl (hb hby at_65) rfl rfl hh_) ?_
    show own_Run p e below s _ _ _ (T51.setTop (mkF m 67 #[.val (.int v0), .val (.int v1), .val (.int v2), .val (.int v3), .val (.int v4), .val (.ref ob1), .val (.ref rd), .val (.int nd.toInt32), .val (.int kk), .unset, .unset, .unset, .unset, .unset] [(.ref ob1)]))
    obtain ⟨cq53, kq53, q53a, q53b, q53c⟩ := isOf hZ (rfl : T51.heap = T51.heap) f52
    obtain ⟨_, _, ⟨T53, L53, k53, n53⟩, -, X53, ⟨Lc53, hQ53, l53, y53, z53⟩, st53⟩ := X51.virtualBack hx (y := (⟨"com/example/pagewright/pagewright/RecordCodec$Writer", "size", "()I"⟩ : MethodName)) (z := (⟨"com/example/pagewright/pagewright/RecordCodec$Writer", "size", "()I"⟩ : MethodName)) hown (mvT hZ (hw _ (List.mem_of_getElem? (i := 37) rfl))) (mvT hZ (hw _ (List.mem_of_getElem? (i := 38) rfl))) (notFace_of_selects (args := #[]) (mvT hZ (hw _ (List.mem_of_getElem? (i := 40) rfl)))) (mvT hZ (hw _ (List.mem_of_getElem? (i := 40) rfl))) (mvT hZ (hw _ (List.mem_of_getElem? (i := 39) rfl))) (by decide) (backOf (W := 0) (rmZ l Z a0 hw [] ob1 (0 : Int32) T51.heap n0 (Nat.le_trans (Nat.le_trans (Nat.le_trans (Nat.le_trans Z0 E1.1) K4.1) K6.1) K51.1) fs51) hZ (hw _ (List.mem_of_getElem? (i := 41) rfl)) (hw _ (List.mem_of_getElem? (i := 2) rfl)) (by decide) (by decide)) q53a q53c (g := (mkF m 67 #[.val (.int v0), .val (.int v1), .val (.int v2), .val (.int v3), .val (.int v4), .val (.ref ob1), .val (.ref rd), .val (.int nd.toInt32), .val (.int kk), .unset, .unset, .unset, .unset, .unset] [(.ref ob1)])) rfl (by rw [hml]; rfl) (Steps.refl _) (argsL := []) (rest := []) (lenOf own_pd5 rfl) rfl (by show 2 * 0 + _ ≤ _; exact Nat.le_of_eq rfl) (hb hby at_67) (fun _ _ => ⟨rfl, (rfl : T51.heap = T51.heap), (by decide : 4 + 0 ≤ _), (by decide : 17155 + 0 ≤ _)⟩)
    dsimp only [Pt.U, Pt.locs, Pt.cells, Pt.slots] at X53 l53 y53 z53 st53 hQ53
    subst l53 y53 z53
    obtain ⟨rfl, N53q, e53⟩ := hQ53
    have N53 := Fr.app N51 N53q
    refine own_tr st53 ?_
    show own_Run p e below s _ _ _ (T53.setTop (mkF m 70 #[.val (.int v0), .val (.int v1), .val (.int v2), .val (.int v3), .val (.int v4), .val (.ref ob1), .val (.ref rd), .val (.int nd.toInt32), .val (.int kk), .unset, .unset, .unset, .unset, .unset] [(.int (0 : Int32))]))
    refine own_of (fun _ hh_ => XS.ifYes X53.here hx rfl (pc0 := 70) (pc' := 75) rfl (hb hby at_70) rfl ((if0 _ _).trans (by decide)) (by decide) (by decide) hh_) ?_
    show own_Run p e below s _ _ _ (T53.setTop (mkF m 75 #[.val (.int v0), .val (.int v1), .val (.int v2), .val (.int v3), .val (.int v4), .val (.ref ob1), .val (.ref rd), .val (.int nd.toInt32), .val (.int kk), .unset, .unset, .unset, .unset, .unset] []))
    refine own_of (fun _ hh_ => XS.aload X53.here hx rfl (hb hby at_75) rfl rfl hh_) ?_
    show own_Run p e below s _ _ _ (T53.setTop (mkF m 77 #[.val (.int v0), .val (.int v1), .val (.int v2), .val (.int v3), .val (.int v4), .val (.ref ob1), .val (.ref rd), .val (.int nd.toInt32), .val (.int kk), .unset, .unset, .unset, .unset, .unset] [(.ref ob1)]))
    obtain ⟨cq54, kq54, q54a, q54b, q54c⟩ := isOf hZ e53 f52
    obtain ⟨_, _, ⟨T54, L54, k54, n54⟩, -, X54, ⟨Lc54, hQ54, l54, y54, z54⟩, st54⟩ := X53.virtualBack hx (y := (⟨"com/example/pagewright/pagewright/RecordCodec$Writer", "bytes", "()[B"⟩ : MethodName)) (z := (⟨"com/example/pagewright/pagewright/RecordCodec$Writer", "bytes", "()[B"⟩ : MethodName)) hown (mvT hZ (hw _ (List.mem_of_getElem? (i := 27) rfl))) (mvT hZ (hw _ (List.mem_of_getElem? (i := 28) rfl))) (notFace_of_selects (args := #[]) (mvT hZ (hw _ (List.mem_of_getElem? (i := 30) rfl)))) (mvT hZ (hw _ (List.mem_of_getElem? (i := 30) rfl))) (mvT hZ (hw _ (List.mem_of_getElem? (i := 29) rfl))) (by decide) (backOf (W := 0) (rmB l Z a0 hw [] ob1 rb T51.heap n0 (Nat.le_trans (Nat.le_trans (Nat.le_trans (Nat.le_trans Z0 E1.1) K4.1) K6.1) K51.1) fb51) hZ (hw _ (List.mem_of_getElem? (i := 31) rfl)) (hw _ (List.mem_of_getElem? (i := 2) rfl)) (by decide) (by decide)) q54a q54c (g := (mkF m 77 #[.val (.int v0), .val (.int v1), .val (.int v2), .val (.int v3), .val (.int v4), .val (.ref ob1), .val (.ref rd), .val (.int nd.toInt32), .val (.int kk), .unset, .unset, .unset, .unset, .unset] [(.ref ob1)])) rfl (by rw [hml]; rfl) (Steps.refl _) (argsL := []) (rest := []) (lenOf own_pd4 rfl) rfl (by show 2 * 0 + _ ≤ _; exact Nat.le_of_eq rfl) (hb hby at_77) (fun _ _ => ⟨rfl, e53, (by decide : 4 + 0 ≤ _), (by decide : 17155 + 0 ≤ _)⟩)
    dsimp only [Pt.U, Pt.locs, Pt.cells, Pt.slots] at X54 l54 y54 z54 st54 hQ54
    subst l54 y54 z54
    obtain ⟨rfl, N54q, e54⟩ := hQ54
    have N54 := Fr.app N53 N54q
    refine own_tr st54 ?_
    show own_Run p e below s _ _ _ (T54.setTop (mkF m 80 #[.val (.int v0), .val (.int v1), .val (.int v2), .val (.int v3), .val (.int v4), .val (.ref ob1), .val (.ref rd), .val (.int nd.toInt32), .val (.int kk), .unset, .unset, .unset, .unset, .unset] [(.ref rb)]))
    refine own_of (fun _ hh_ => XS.astore X54.here hx rfl (hb hby at_80) rfl rfl (l' := #[.val (.int v0), .val (.int v1), .val (.int v2), .val (.int v3), .val (.int v4), .val (.ref ob1), .val (.ref rd), .val (.int nd.toInt32), .val (.int kk), .val (.ref rb), .unset, .unset, .unset, .unset]) rfl hh_) ?_
    show own_Run p e below s _ _ _ (T54.setTop (mkF m 82 #[.val (.int v0), .val (.int v1), .val (.int v2), .val (.int v3), .val (.int v4), .val (.ref ob1), .val (.ref rd), .val (.int nd.toInt32), .val (.int kk), .val (.ref rb), .unset, .unset, .unset, .unset] []))
    have hnb : nb ≤ 513 ∧ ((¬ kk < nd.toInt32 ∧ rb = rd ∧ nb = nd) ∨ (kk < nd.toInt32 ∧ rb ≠ rd ∧ (nb : Int) = kk.toInt)) := by
      rcases hcase with ⟨z1, z2, z3⟩ | ⟨z1, z2, z3⟩
      · exact ⟨by omega, Or.inl ⟨z1, z2, z3⟩⟩
      · have z4 := Int32.lt_iff_toInt_lt.mp z1; have z5 := own_clamp (j := kk) rk0; rw [hndl] at z4
        exact ⟨by omega, Or.inr ⟨z1, fun q => absurd z2 (by rw [q]; exact Nat.not_le.mpr hrdlt), by omega⟩⟩
    have hnbl := own_nlen (n := nb) (by omega)
    have hf2c := hnb.1
    refine own_of (fun _ hh_ => XS.aload X54.here hx rfl (hb hby at_82) rfl rfl hh_) ?_
    show own_Run p e below s _ _ _ (T54.setTop (mkF m 84 #[.val (.int v0), .val (.int v1), .val (.int v2), .val (.int v3), .val (.int v4), .val (.ref ob1), .val (.ref rd), .val (.int nd.toInt32), .val (.int kk), .val (.ref rb), .unset, .unset, .unset, .unset] [(.ref rb)]))
    refine own_alen X54 hx hZ e54 Vb (w := nb.toInt32) rfl (hb hby at_84) ?_
    show own_Run p e below s _ _ _ (T54.setTop (mkF m 85 #[.val (.int v0), .val (.int v1), .val (.int v2), .val (.int v3), .val (.int v4), .val (.ref ob1), .val (.ref rd), .val (.int nd.toInt32), .val (.int kk), .val (.ref rb), .unset, .unset, .unset, .unset] [(.int nb.toInt32)]))
    refine own_of (fun _ hh_ => XS.iload X54.here hx rfl (hb hby at_85) rfl hh_) ?_
    show own_Run p e below s _ _ _ (T54.setTop (mkF m 87 #[.val (.int v0), .val (.int v1), .val (.int v2), .val (.int v3), .val (.int v4), .val (.ref ob1), .val (.ref rd), .val (.int nd.toInt32), .val (.int kk), .val (.ref rb), .unset, .unset, .unset, .unset] [(.int nd.toInt32), (.int nb.toInt32)]))
    refine own_of (fun _ hh_ => XS.iload X54.here hx rfl (hb hby at_87) rfl hh_) ?_
    show own_Run p e below s _ _ _ (T54.setTop (mkF m 89 #[.val (.int v0), .val (.int v1), .val (.int v2), .val (.int v3), .val (.int v4), .val (.ref ob1), .val (.ref rd), .val (.int nd.toInt32), .val (.int kk), .val (.ref rb), .unset, .unset, .unset, .unset] [(.int kk), (.int nd.toInt32), (.int nb.toInt32)]))
    obtain ⟨_, _, ⟨T55, L55, k55, n55⟩, -, X55, ⟨Lc55, hQ55, l55, y55, z55⟩, st55⟩ := Jvm.LawKit.callS X54 hx (y := (⟨"java/lang/Math", "min", "(II)I"⟩ : MethodName)) hown (mvT hZ (hw _ (List.mem_of_getElem? (i := 42) rfl))) (mvT hZ (hw _ (List.mem_of_getElem? (i := 43) rfl))) (mvT hZ (hw _ (List.mem_of_getElem? (i := 11) rfl))) (mvT hZ (hw _ (List.mem_of_getElem? (i := 44) rfl))) (by decide) (backOf (W := 1) (rmm l Z a0 hw [] nd.toInt32 kk T51.heap n0 (Nat.le_trans (Nat.le_trans (Nat.le_trans (Nat.le_trans Z0 E1.1) K4.1) K6.1) K51.1)) hZ (hw _ (List.mem_of_getElem? (i := 44) rfl)) (hw _ (List.mem_of_getElem? (i := 11) rfl)) (by decide) (by decide)) (g := (mkF m 89 #[.val (.int v0), .val (.int v1), .val (.int v2), .val (.int v3), .val (.int v4), .val (.ref ob1), .val (.ref rd), .val (.int nd.toInt32), .val (.int kk), .val (.ref rb), .unset, .unset, .unset, .unset] [(.int kk), (.int nd.toInt32), (.int nb.toInt32)])) rfl (by rw [hml]; rfl) (argsL := [(.int nd.toInt32), (.int kk)]) (rest := [(.int nb.toInt32)]) (lenOf own_pd0 rfl) rfl (by show 2 * 0 + _ ≤ _; exact Nat.le_of_eq rfl) (hb hby at_89) (fun _ _ => ⟨rfl, e54, (by decide : 4 + 0 ≤ _), (by decide : 17155 + 0 ≤ _)⟩)
    dsimp only [Pt.U, Pt.locs, Pt.cells, Pt.slots] at X55 l55 y55 z55 st55 hQ55
    subst l55 y55 z55
    obtain ⟨rfl, N55q, e55⟩ := hQ55
    have N55 := Fr.app N54 N55q
    refine own_of st55 ?_
    show own_Run p e below s _ _ _ (T55.setTop (mkF m 92 #[.val (.int v0), .val (.int v1), .val (.int v2), .val (.int v3), .val (.int v4), .val (.ref ob1), .val (.ref rd), .val (.int nd.toInt32), .val (.int kk), .val (.ref rb), .unset, .unset, .unset, .unset] [(.int (own_minI nd.toInt32 kk)), (.int nb.toInt32)]))
    have hc92_56 : nb.toInt32 = (own_minI nd.toInt32 kk) := by apply Int32.toInt_inj.mp; have z := own_minI_i nd.toInt32 kk; rw [hndl] at z; rw [hnbl, z]; rcases hnb.2 with ⟨y1, y2, y3⟩ | ⟨y1, y2, y3⟩; have y4 := mt Int32.lt_iff_toInt_lt.mpr y1; rw [hndl] at y4; split <;> omega; have y4 := Int32.lt_iff_toInt_lt.mp y1; rw [hndl] at y4; split <;> omega
    refine own_of (fun _ hh_ => XS.icmpYes X55.here hx rfl (pc0 := 92) (pc' := 97) rfl (hb hby at_92) rfl (teq hc92_56).1 (by decide) (by decide) hh_) ?_
    show own_Run p e below s _ _ _ (T55.setTop (mkF m 97 #[.val (.int v0), .val (.int v1), .val (.int v2), .val (.int v3), .val (.int v4), .val (.ref ob1), .val (.ref rd), .val (.int nd.toInt32), .val (.int kk), .val (.ref rb), .unset, .unset, .unset, .unset] []))
    refine own_of (fun _ hh_ => XS.iload X55.here hx rfl (hb hby at_97) rfl hh_) ?_
    show own_Run p e below s _ _ _ (T55.setTop (mkF m 99 #[.val (.int v0), .val (.int v1), .val (.int v2), .val (.int v3), .val (.int v4), .val (.ref ob1), .val (.ref rd), .val (.int nd.toInt32), .val (.int kk), .val (.ref rb), .unset, .unset, .unset, .unset] [(.int nd.toInt32)]))
    refine own_of (fun _ hh_ => XS.iload X55.here hx rfl (hb hby at_99) rfl hh_) ?_
    show own_Run p e below s _ _ _ (T55.setTop (mkF m 101 #[.val (.int v0), .val (.int v1), .val (.int v2), .val (.int v3), .val (.int v4), .val (.ref ob1), .val (.ref rd), .val (.int nd.toInt32), .val (.int kk), .val (.ref rb), .unset, .unset, .unset, .unset] [(.int kk), (.int nd.toInt32)]))
    by_cases hc101_57 : kk < nd.toInt32
    · refine own_of (fun _ hh_ => XS.icmpYes X55.here hx rfl (pc0 := 101) (pc' := 113) rfl (hb hby at_101) rfl (tlt hc101_57).2.2.1 (by decide) (by decide) hh_) ?_
      show own_Run p e below s _ _ _ (T55.setTop (mkF m 113 #[.val (.int v0), .val (.int v1), .val (.int v2), .val (.int v3), .val (.int v4), .val (.ref ob1), .val (.ref rd), .val (.int nd.toInt32), .val (.int kk), .val (.ref rb), .unset, .unset, .unset, .unset] []))
      refine own_of (fun _ hh_ => XS.iload X55.here hx rfl (hb hby at_113) rfl hh_) ?_
      show own_Run p e below s _ _ _ (T55.setTop (mkF m 115 #[.val (.int v0), .val (.int v1), .val (.int v2), .val (.int v3), .val (.int v4), .val (.ref ob1), .val (.ref rd), .val (.int nd.toInt32), .val (.int kk), .val (.ref rb), .unset, .unset, .unset, .unset] [(.int nd.toInt32)]))
      refine own_of (fun _ hh_ => XS.iload X55.here hx rfl (hb hby at_115) rfl hh_) ?_
      show own_Run p e below s _ _ _ (T55.setTop (mkF m 117 #[.val (.int v0), .val (.int v1), .val (.int v2), .val (.int v3), .val (.int v4), .val (.ref ob1), .val (.ref rd), .val (.int nd.toInt32), .val (.int kk), .val (.ref rb), .unset, .unset, .unset, .unset] [(.int kk), (.int nd.toInt32)]))
      have hc117_58 : kk < nd.toInt32 := hc101_57
      refine own_of (fun _ hh_ => XS.icmpNo X55.here hx rfl (hb hby at_117) rfl (tlt hc117_58).2.2.2 hh_) ?_
      show own_Run p e below s _ _ _ (T55.setTop (mkF m 120 #[.val (.int v0), .val (.int v1), .val (.int v2), .val (.int v3), .val (.int v4), .val (.ref ob1), .val (.ref rd), .val (.int nd.toInt32), .val (.int kk), .val (.ref rb), .unset, .unset, .unset, .unset] []))
      refine own_of (fun _ hh_ => XS.aload X55.here hx rfl (hb hby at_120) rfl rfl hh_) ?_
      show own_Run p e below s _ _ _ (T55.setTop (mkF m 122 #[.val (.int v0), .val (.int v1), .val (.int v2), .val (.int v3), .val (.int v4), .val (.ref ob1), .val (.ref rd), .val (.int nd.toInt32), .val (.int kk), .val (.ref rb), .unset, .unset, .unset, .unset] [(.ref rb)]))
      refine own_of (fun _ hh_ => XS.aload X55.here hx rfl (hb hby at_122) rfl rfl hh_) ?_
      show own_Run p e below s _ _ _ (T55.setTop (mkF m 124 #[.val (.int v0), .val (.int v1), .val (.int v2), .val (.int v3), .val (.int v4), .val (.ref ob1), .val (.ref rd), .val (.int nd.toInt32), .val (.int kk), .val (.ref rb), .unset, .unset, .unset, .unset] [(.ref rd), (.ref rb)]))
      refine own_of (fun _ hh_ => Jvm.RoadKit.acmp (g := (mkF m 124 #[.val (.int v0), .val (.int v1), .val (.int v2), .val (.int v3), .val (.int v4), .val (.ref ob1), .val (.ref rd), .val (.int nd.toInt32), .val (.int kk), .val (.ref rb), .unset, .unset, .unset, .unset] [(.ref rd), (.ref rb)])) X55 hx rfl rfl rfl (pc0 := 124) (pc' := 129) (same := false) rfl (hb hby at_124) rfl (decide_eq_false (fun q => by rcases hnb.2 with ⟨y1, y2, y3⟩ | ⟨y1, y2, y3⟩; exact y1 hc101_57; exact y2 (Value.ref.inj q))) (by decide) (by decide) hh_) ?_
      show own_Run p e below s _ _ _ (T55.setTop (mkF m 129 #[.val (.int v0), .val (.int v1), .val (.int v2), .val (.int v3), .val (.int v4), .val (.ref ob1), .val (.ref rd), .val (.int nd.toInt32), .val (.int kk), .val (.ref rb), .unset, .unset, .unset, .unset] []))
      refine own_of (fun _ hh_ => XS.iloadN X55.here hx rfl (hb hby at_129) rfl hh_) ?_
      show own_Run p e below s _ _ _ (T55.setTop (mkF m 130 #[.val (.int v0), .val (.int v1), .val (.int v2), .val (.int v3), .val (.int v4), .val (.ref ob1), .val (.ref rd), .val (.int nd.toInt32), .val (.int kk), .val (.ref rb), .unset, .unset, .unset, .unset] [(.int v3)]))
      refine own_of (fun _ hh_ => XS.sipush X55.here hx rfl (hb hby at_130) hh_) ?_
      show own_Run p e below s _ _ _ (T55.setTop (mkF m 133 #[.val (.int v0), .val (.int v1), .val (.int v2), .val (.int v3), .val (.int v4), .val (.ref ob1), .val (.ref rd), .val (.int nd.toInt32), .val (.int kk), .val (.ref rb), .unset, .unset, .unset, .unset] [(.int (16383 : Int32)), (.int v3)]))
      refine own_of (fun _ hh_ => XS.iand X55.here hx rfl (hb hby at_133) rfl hh_) ?_
      show own_Run p e below s _ _ _ (T55.setTop (mkF m 134 #[.val (.int v0), .val (.int v1), .val (.int v2), .val (.int v3), .val (.int v4), .val (.ref ob1), .val (.ref rd), .val (.int nd.toInt32), .val (.int kk), .val (.ref rb), .unset, .unset, .unset, .unset] [(.int (v3 &&& (16383 : Int32)))]))
      generalize hmm : (v3 &&& (16383 : Int32)) = mm
      have rmm : 0 ≤ mm.toInt ∧ mm.toInt < ((16384 : Nat) : Int) := by rw [← hmm]; exact own_m v3 14 (by decide) _ (by decide) _ rfl
      have hf2a := rmm.1
      have hf2b : mm.toInt ≤ 16383 := by omega
      show own_Run p e below s _ _ _ (T55.setTop (mkF m 134 #[.val (.int v0), .val (.int v1), .val (.int v2), .val (.int v3), .val (.int v4), .val (.ref ob1), .val (.ref rd), .val (.int nd.toInt32), .val (.int kk), .val (.ref rb), .unset, .unset, .unset, .unset] [(.int mm)]))
      refine own_of (fun _ hh_ => XS.istore X55.here hx rfl (hb hby at_134) rfl (l' := #[.val (.int v0), .val (.int v1), .val (.int v2), .val (.int v3), .val (.int v4), .val (.ref ob1), .val (.ref rd), .val (.int nd.toInt32), .val (.int kk), .val (.ref rb), .val (.int mm), .unset, .unset, .unset]) rfl hh_) ?_
      show own_Run p e below s _ _ _ (T55.setTop (mkF m 136 #[.val (.int v0), .val (.int v1), .val (.int v2), .val (.int v3), .val (.int v4), .val (.ref ob1), .val (.ref rd), .val (.int nd.toInt32), .val (.int kk), .val (.ref rb), .val (.int mm), .unset, .unset, .unset] []))
      refine own_of (fun _ hh_ => XS.aload X55.here hx rfl (hb hby at_136) rfl rfl hh_) ?_
      show own_Run p e below s _ _ _ (T55.setTop (mkF m 138 #[.val (.int v0), .val (.int v1), .val (.int v2), .val (.int v3), .val (.int v4), .val (.ref ob1), .val (.ref rd), .val (.int nd.toInt32), .val (.int kk), .val (.ref rb), .val (.int mm), .unset, .unset, .unset] [(.ref ob1)]))
      refine own_of (fun _ hh_ => XS.iload X55.here hx rfl (hb hby at_138) rfl hh_) ?_
      show own_Run p e below s _ _ _ (T55.setTop (mkF m 140 #[.val (.int v0), .val (.int v1), .val (.int v2), .val (.int v3), .val (.int v4), .val (.ref ob1), .val (.ref rd), .val (.int nd.toInt32), .val (.int kk), .val (.ref rb), .val (.int mm), .unset, .unset, .unset] [(.int mm), (.ref ob1)]))
      obtain ⟨cq59, kq59, q59a, q59b, q59c⟩ := isOf hZ e55 f52
      obtain ⟨_, _, ⟨T59, L59, k59, n59⟩, -, X59, ⟨Lc59, hQ59, l59, y59, z59⟩, st59⟩ := X55.virtualBack hx (y := (⟨"com/example/pagewright/pagewright/RecordCodec$Writer", "field", "(I)I"⟩ : MethodName)) (z := (⟨"com/example/pagewright/pagewright/RecordCodec$Writer", "field", "(I)I"⟩ : MethodName)) hown (mvT hZ (hw _ (List.mem_of_getElem? (i := 16) rfl))) (mvT hZ (hw _ (List.mem_of_getElem? (i := 17) rfl))) (notFace_of_selects (args := #[]) (mvT hZ (hw _ (List.mem_of_getElem? (i := 19) rfl)))) (mvT hZ (hw _ (List.mem_of_getElem? (i := 19) rfl))) (mvT hZ (hw _ (List.mem_of_getElem? (i := 18) rfl))) (by decide) (backOf (W := 0) (rmF l Z a0 hw [] ob1 mm rb nb fbb T51.heap n0 (Nat.le_trans (Nat.le_trans (Nat.le_trans (Nat.le_trans Z0 E1.1) K4.1) K6.1) K51.1) f52 fb51 fs51 Vb Ftb g_ob1 g_rb hf2a hf2b hf2c) hZ (hw _ (List.mem_of_getElem? (i := 20) rfl)) (hw _ (List.mem_of_getElem? (i := 2) rfl)) (by decide) (by decide)) q59a q59c (g := (mkF m 140 #[.val (.int v0), .val (.int v1), .val (.int v2), .val (.int v3), .val (.int v4), .val (.ref ob1), .val (.ref rd), .val (.int nd.toInt32), .val (.int kk), .val (.ref rb), .val (.int mm), .unset, .unset, .unset] [(.int mm), (.ref ob1)])) rfl (by rw [hml]; rfl) (Steps.refl _) (argsL := [(.int mm)]) (rest := []) (lenOf own_pd1 rfl) rfl (by show 2 * 0 + _ ≤ _; exact Nat.le_of_eq rfl) (hb hby at_140) (fun _ _ => ⟨rfl, e55, (by decide : 4 + 1 ≤ _), (by decide : 17155 + 16385 ≤ _)⟩)
      dsimp only [Pt.U, Pt.locs, Pt.cells, Pt.slots] at X59 l59 y59 z59 st59 hQ59
      subst l59 y59 z59
      obtain ⟨rfl, N59q, K59, re, ne2, fee, fb59, fs59, V59, Ft59, g_re, hb2, hct2⟩ := hQ59
      have N59 := Fr.app N55 N59q
      have f60 := f52.keep K59
      refine own_tr st59 ?_
      show own_Run p e below s _ _ _ (T59.setTop (mkF m 143 #[.val (.int v0), .val (.int v1), .val (.int v2), .val (.int v3), .val (.int v4), .val (.ref ob1), .val (.ref rd), .val (.int nd.toInt32), .val (.int kk), .val (.ref rb), .val (.int mm), .unset, .unset, .unset] [(.int (own_ls mm))]))
      refine own_of (fun _ hh_ => XS.istore X59.here hx rfl (hb hby at_143) rfl (l' := #[.val (.int v0), .val (.int v1), .val (.int v2), .val (.int v3), .val (.int v4), .val (.ref ob1), .val (.ref rd), .val (.int nd.toInt32), .val (.int kk), .val (.ref rb), .val (.int mm), .val (.int (own_ls mm)), .unset, .unset]) rfl hh_) ?_
      show own_Run p e below s _ _ _ (T59.setTop (mkF m 145 #[.val (.int v0), .val (.int v1), .val (.int v2), .val (.int v3), .val (.int v4), .val (.ref ob1), .val (.ref rd), .val (.int nd.toInt32), .val (.int kk), .val (.ref rb), .val (.int mm), .val (.int (own_ls mm)), .unset, .unset] []))
      refine own_of (fun _ hh_ => XS.iload X59.here hx rfl (hb hby at_145) rfl hh_) ?_
      show own_Run p e below s _ _ _ (T59.setTop (mkF m 147 #[.val (.int v0), .val (.int v1), .val (.int v2), .val (.int v3), .val (.int v4), .val (.ref ob1), .val (.ref rd), .val (.int nd.toInt32), .val (.int kk), .val (.ref rb), .val (.int mm), .val (.int (own_ls mm)), .unset, .unset] [(.int mm)]))
      refine own_of (fun _ hh_ => XS.sipush X59.here hx rfl (hb hby at_147) hh_) ?_
      show own_Run p e below s _ _ _ (T59.setTop (mkF m 150 #[.val (.int v0), .val (.int v1), .val (.int v2), .val (.int v3), .val (.int v4), .val (.ref ob1), .val (.ref rd), .val (.int nd.toInt32), .val (.int kk), .val (.ref rb), .val (.int mm), .val (.int (own_ls mm)), .unset, .unset] [(.int (128 : Int32)), (.int mm)]))
      by_cases hc150_61 : mm < (128 : Int32)
      · refine own_of (fun _ hh_ => XS.icmpNo X59.here hx rfl (hb hby at_150) rfl (tlt hc150_61).2.1 hh_) ?_
        show own_Run p e below s _ _ _ (T59.setTop (mkF m 153 #[.val (.int v0), .val (.int v1), .val (.int v2), .val (.int v3), .val (.int v4), .val (.ref ob1), .val (.ref rd), .val (.int nd.toInt32), .val (.int kk), .val (.ref rb), .val (.int mm), .val (.int (own_ls mm)), .unset, .unset] []))
        refine own_of (fun _ hh_ => XS.iconst X59.here hx rfl (hb hby at_153) hh_) ?_
        show own_Run p e below s _ _ _ (T59.setTop (mkF m 154 #[.val (.int v0), .val (.int v1), .val (.int v2), .val (.int v3), .val (.int v4), .val (.ref ob1), .val (.ref rd), .val (.int nd.toInt32), .val (.int kk), .val (.ref rb), .val (.int mm), .val (.int (own_ls mm)), .unset, .unset] [(.int (1 : Int32))]))
        refine own_of (fun _ hh_ => XS.goto X59.here hx rfl (pc0 := 154) (pc' := 158) rfl (hb hby at_154) (by decide) (by decide) hh_) ?_
        show own_Run p e below s _ _ _ (T59.setTop (mkF m 158 #[.val (.int v0), .val (.int v1), .val (.int v2), .val (.int v3), .val (.int v4), .val (.ref ob1), .val (.ref rd), .val (.int nd.toInt32), .val (.int kk), .val (.ref rb), .val (.int mm), .val (.int (own_ls mm)), .unset, .unset] [(.int (1 : Int32))]))
        refine own_of (fun _ hh_ => XS.istore X59.here hx rfl (hb hby at_158) rfl (l' := #[.val (.int v0), .val (.int v1), .val (.int v2), .val (.int v3), .val (.int v4), .val (.ref ob1), .val (.ref rd), .val (.int nd.toInt32), .val (.int kk), .val (.ref rb), .val (.int mm), .val (.int (own_ls mm)), .val (.int (1 : Int32)), .unset]) rfl hh_) ?_
        show own_Run p e below s _ _ _ (T59.setTop (mkF m 160 #[.val (.int v0), .val (.int v1), .val (.int v2), .val (.int v3), .val (.int v4), .val (.ref ob1), .val (.ref rd), .val (.int nd.toInt32), .val (.int kk), .val (.ref rb), .val (.int mm), .val (.int (own_ls mm)), .val (.int (1 : Int32)), .unset] []))
        refine own_of (fun _ hh_ => XS.iload X59.here hx rfl (hb hby at_160) rfl hh_) ?_
        show own_Run p e below s _ _ _ (T59.setTop (mkF m 162 #[.val (.int v0), .val (.int v1), .val (.int v2), .val (.int v3), .val (.int v4), .val (.ref ob1), .val (.ref rd), .val (.int nd.toInt32), .val (.int kk), .val (.ref rb), .val (.int mm), .val (.int (own_ls mm)), .val (.int (1 : Int32)), .unset] [(.int (own_ls mm))]))
        refine own_of (fun _ hh_ => XS.iload X59.here hx rfl (hb hby at_162) rfl hh_) ?_
        show own_Run p e below s _ _ _ (T59.setTop (mkF m 164 #[.val (.int v0), .val (.int v1), .val (.int v2), .val (.int v3), .val (.int v4), .val (.ref ob1), .val (.ref rd), .val (.int nd.toInt32), .val (.int kk), .val (.ref rb), .val (.int mm), .val (.int (own_ls mm)), .val (.int (1 : Int32)), .unset] [(.int (1 : Int32)), (.int (own_ls mm))]))
        have hc164_62 : (own_ls mm) = (1 : Int32) := if_pos hc150_61
        refine own_of (fun _ hh_ => XS.icmpYes X59.here hx rfl (pc0 := 164) (pc' := 169) rfl (hb hby at_164) rfl (teq hc164_62).1 (by decide) (by decide) hh_) ?_
        show own_Run p e below s _ _ _ (T59.setTop (mkF m 169 #[.val (.int v0), .val (.int v1), .val (.int v2), .val (.int v3), .val (.int v4), .val (.ref ob1), .val (.ref rd), .val (.int nd.toInt32), .val (.int kk), .val (.ref rb), .val (.int mm), .val (.int (own_ls mm)), .val (.int (1 : Int32)), .unset] []))
        refine own_of (fun _ hh_ => XS.aload X59.here hx rfl (hb hby at_169) rfl rfl hh_) ?_
        show own_Run p e below s _ _ _ (T59.setTop (mkF m 171 #[.val (.int v0), .val (.int v1), .val (.int v2), .val (.int v3), .val (.int v4), .val (.ref ob1), .val (.ref rd), .val (.int nd.toInt32), .val (.int kk), .val (.ref rb), .val (.int mm), .val (.int (own_ls mm)), .val (.int (1 : Int32)), .unset] [(.ref ob1)]))
        obtain ⟨cq63, kq63, q63a, q63b, q63c⟩ := isOf hZ (rfl : T59.heap = T59.heap) f60
        obtain ⟨_, _, ⟨T63, L63, k63, n63⟩, -, X63, ⟨Lc63, hQ63, l63, y63, z63⟩, st63⟩ := X59.virtualBack hx (y := (⟨"com/example/pagewright/pagewright/RecordCodec$Writer", "size", "()I"⟩ : MethodName)) (z := (⟨"com/example/pagewright/pagewright/RecordCodec$Writer", "size", "()I"⟩ : MethodName)) hown (mvT hZ (hw _ (List.mem_of_getElem? (i := 37) rfl))) (mvT hZ (hw _ (List.mem_of_getElem? (i := 38) rfl))) (notFace_of_selects (args := #[]) (mvT hZ (hw _ (List.mem_of_getElem? (i := 40) rfl)))) (mvT hZ (hw _ (List.mem_of_getElem? (i := 40) rfl))) (mvT hZ (hw _ (List.mem_of_getElem? (i := 39) rfl))) (by decide) (backOf (W := 0) (rmZ l Z a0 hw [] ob1 ((own_ls mm) + mm) T59.heap n0 (Nat.le_trans (Nat.le_trans (Nat.le_trans (Nat.le_trans (Nat.le_trans Z0 E1.1) K4.1) K6.1) K51.1) K59.1) fs59) hZ (hw _ (List.mem_of_getElem? (i := 41) rfl)) (hw _ (List.mem_of_getElem? (i := 2) rfl)) (by decide) (by decide)) q63a q63c (g := (mkF m 171 #[.val (.int v0), .val (.int v1), .val (.int v2), .val (.int v3), .val (.int v4), .val (.ref ob1), .val (.ref rd), .val (.int nd.toInt32), .val (.int kk), .val (.ref rb), .val (.int mm), .val (.int (own_ls mm)), .val (.int (1 : Int32)), .unset] [(.ref ob1)])) rfl (by rw [hml]; rfl) (Steps.refl _) (argsL := []) (rest := []) (lenOf own_pd5 rfl) rfl (by show 2 * 0 + _ ≤ _; exact Nat.le_of_eq rfl) (hb hby at_171) (fun _ _ => ⟨rfl, (rfl : T59.heap = T59.heap), (by decide : 5 + 0 ≤ _), (by decide : 33540 + 0 ≤ _)⟩)
        dsimp only [Pt.U, Pt.locs, Pt.cells, Pt.slots] at X63 l63 y63 z63 st63 hQ63
        subst l63 y63 z63
        obtain ⟨rfl, N63q, e63⟩ := hQ63
        have N63 := Fr.app N59 N63q
        refine own_tr st63 ?_
        show own_Run p e below s _ _ _ (T63.setTop (mkF m 174 #[.val (.int v0), .val (.int v1), .val (.int v2), .val (.int v3), .val (.int v4), .val (.ref ob1), .val (.ref rd), .val (.int nd.toInt32), .val (.int kk), .val (.ref rb), .val (.int mm), .val (.int (own_ls mm)), .val (.int (1 : Int32)), .unset] [(.int ((own_ls mm) + mm))]))
        refine own_of (fun _ hh_ => XS.iload X63.here hx rfl (hb hby at_174) rfl hh_) ?_
        show own_Run p e below s _ _ _ (T63.setTop (mkF m 176 #[.val (.int v0), .val (.int v1), .val (.int v2), .val (.int v3), .val (.int v4), .val (.ref ob1), .val (.ref rd), .val (.int nd.toInt32), .val (.int kk), .val (.ref rb), .val (.int mm), .val (.int (own_ls mm)), .val (.int (1 : Int32)), .unset] [(.int (1 : Int32)), (.int ((own_ls mm) + mm))]))
        refine own_of (fun _ hh_ => XS.iload X63.here hx rfl (hb hby at_176) rfl hh_) ?_
        show own_Run p e below s _ _ _ (T63.setTop (mkF m 178 #[.val (.int v0), .val (.int v1), .val (.int v2), .val (.int v3), .val (.int v4), .val (.ref ob1), .val (.ref rd), .val (.int nd.toInt32), .val (.int kk), .val (.ref rb), .val (.int mm), .val (.int (own_ls mm)), .val (.int (1 : Int32)), .unset] [(.int mm), (.int (1 : Int32)), (.int ((own_ls mm) + mm))]))
        refine own_of (fun _ hh_ => XS.iadd X63.here hx rfl (hb hby at_178) rfl hh_) ?_
        show own_Run p e below s _ _ _ (T63.setTop (mkF m 179 #[.val (.int v0), .val (.int v1), .val (.int v2), .val (.int v3), .val (.int v4), .val (.ref ob1), .val (.ref rd), .val (.int nd.toInt32), .val (.int kk), .val (.ref rb), .val (.int mm), .val (.int (own_ls mm)), .val (.int (1 : Int32)), .unset] [(.int ((1 : Int32) + mm)), (.int ((own_ls mm) + mm))]))
        have hc179_64 : ((own_ls mm) + mm) = ((1 : Int32) + mm) := by rw [show own_ls mm = (1 : Int32) from if_pos hc150_61]
        refine own_of (fun _ hh_ => XS.icmpYes X63.here hx rfl (pc0 := 179) (pc' := 184) rfl (hb hby at_179) rfl (teq hc179_64).1 (by decide) (by decide) hh_) ?_
        show own_Run p e below s _ _ _ (T63.setTop (mkF m 184 #[.val (.int v0), .val (.int v1), .val (.int v2), .val (.int v3), .val (.int v4), .val (.ref ob1), .val (.ref rd), .val (.int nd.toInt32), .val (.int kk), .val (.ref rb), .val (.int mm), .val (.int (own_ls mm)), .val (.int (1 : Int32)), .unset] []))
        refine own_of (fun _ hh_ => XS.aload X63.here hx rfl (hb hby at_184) rfl rfl hh_) ?_
        show own_Run p e below s _ _ _ (T63.setTop (mkF m 186 #[.val (.int v0), .val (.int v1), .val (.int v2), .val (.int v3), .val (.int v4), .val (.ref ob1), .val (.ref rd), .val (.int nd.toInt32), .val (.int kk), .val (.ref rb), .val (.int mm), .val (.int (own_ls mm)), .val (.int (1 : Int32)), .unset] [(.ref ob1)]))
        obtain ⟨cq65, kq65, q65a, q65b, q65c⟩ := isOf hZ e63 f60
        obtain ⟨_, _, ⟨T65, L65, k65, n65⟩, -, X65, ⟨Lc65, hQ65, l65, y65, z65⟩, st65⟩ := X63.virtualBack hx (y := (⟨"com/example/pagewright/pagewright/RecordCodec$Writer", "bytes", "()[B"⟩ : MethodName)) (z := (⟨"com/example/pagewright/pagewright/RecordCodec$Writer", "bytes", "()[B"⟩ : MethodName)) hown (mvT hZ (hw _ (List.mem_of_getElem? (i := 27) rfl))) (mvT hZ (hw _ (List.mem_of_getElem? (i := 28) rfl))) (notFace_of_selects (args := #[]) (mvT hZ (hw _ (List.mem_of_getElem? (i := 30) rfl)))) (mvT hZ (hw _ (List.mem_of_getElem? (i := 30) rfl))) (mvT hZ (hw _ (List.mem_of_getElem? (i := 29) rfl))) (by decide) (backOf (W := 0) (rmB l Z a0 hw [] ob1 re T59.heap n0 (Nat.le_trans (Nat.le_trans (Nat.le_trans (Nat.le_trans (Nat.le_trans Z0 E1.1) K4.1) K6.1) K51.1) K59.1) fb59) hZ (hw _ (List.mem_of_getElem? (i := 31) rfl)) (hw _ (List.mem_of_getElem? (i := 2) rfl)) (by decide) (by decide)) q65a q65c (g := (mkF m 186 #[.val (.int v0), .val (.int v1), .val (.int v2), .val (.int v3), .val (.int v4), .val (.ref ob1), .val (.ref rd), .val (.int nd.toInt32), .val (.int kk), .val (.ref rb), .val (.int mm), .val (.int (own_ls mm)), .val (.int (1 : Int32)), .unset] [(.ref ob1)])) rfl (by rw [hml]; rfl) (Steps.refl _) (argsL := []) (rest := []) (lenOf own_pd4 rfl) rfl (by show 2 * 0 + _ ≤ _; exact Nat.le_of_eq rfl) (hb hby at_186) (fun _ _ => ⟨rfl, e63, (by decide : 5 + 0 ≤ _), (by decide : 33540 + 0 ≤ _)⟩)
        dsimp only [Pt.U, Pt.locs, Pt.cells, Pt.slots] at X65 l65 y65 z65 st65 hQ65
        subst l65 y65 z65
        obtain ⟨rfl, N65q, e65⟩ := hQ65
        have N65 := Fr.app N63 N65q
        refine own_tr st65 ?_
        show own_Run p e below s _ _ _ (T65.setTop (mkF m 189 #[.val (.int v0), .val (.int v1), .val (.int v2), .val (.int v3), .val (.int v4), .val (.ref ob1), .val (.ref rd), .val (.int nd.toInt32), .val (.int kk), .val (.ref rb), .val (.int mm), .val (.int (own_ls mm)), .val (.int (1 : Int32)), .unset] [(.ref re)]))
        refine own_of (fun _ hh_ => XS.astore X65.here hx rfl (hb hby at_189) rfl rfl (l' := #[.val (.int v0), .val (.int v1), .val (.int v2), .val (.int v3), .val (.int v4), .val (.ref ob1), .val (.ref rd), .val (.int nd.toInt32), .val (.int kk), .val (.ref rb), .val (.int mm), .val (.int (own_ls mm)), .val (.int (1 : Int32)), .val (.ref re)]) rfl hh_) ?_
        show own_Run p e below s _ _ _ (T65.setTop (mkF m 191 #[.val (.int v0), .val (.int v1), .val (.int v2), .val (.int v3), .val (.int v4), .val (.ref ob1), .val (.ref rd), .val (.int nd.toInt32), .val (.int kk), .val (.ref rb), .val (.int mm), .val (.int (own_ls mm)), .val (.int (1 : Int32)), .val (.ref re)] []))
        refine own_of (fun _ hh_ => XS.iload X65.here hx rfl (hb hby at_191) rfl hh_) ?_
        show own_Run p e below s _ _ _ (T65.setTop (mkF m 193 #[.val (.int v0), .val (.int v1), .val (.int v2), .val (.int v3), .val (.int v4), .val (.ref ob1), .val (.ref rd), .val (.int nd.toInt32), .val (.int kk), .val (.ref rb), .val (.int mm), .val (.int (own_ls mm)), .val (.int (1 : Int32)), .val (.ref re)] [(.int mm)]))
        refine own_of (fun _ hh_ => XS.sipush X65.here hx rfl (hb hby at_193) hh_) ?_
        show own_Run p e below s _ _ _ (T65.setTop (mkF m 196 #[.val (.int v0), .val (.int v1), .val (.int v2), .val (.int v3), .val (.int v4), .val (.ref ob1), .val (.ref rd), .val (.int nd.toInt32), .val (.int kk), .val (.ref rb), .val (.int mm), .val (.int (own_ls mm)), .val (.int (1 : Int32)), .val (.ref re)] [(.int (128 : Int32)), (.int mm)]))
        have hc196_66 : mm < (128 : Int32) := hc150_61
        refine own_of (fun _ hh_ => XS.icmpNo X65.here hx rfl (hb hby at_196) rfl (tlt hc196_66).2.1 hh_) ?_
        show own_Run p e below s _ _ _ (T65.setTop (mkF m 199 #[.val (.int v0), .val (.int v1), .val (.int v2), .val (.int v3), .val (.int v4), .val (.ref ob1), .val (.ref rd), .val (.int nd.toInt32), .val (.int kk), .val (.ref rb), .val (.int mm), .val (.int (own_ls mm)), .val (.int (1 : Int32)), .val (.ref re)] []))
        have hlz : (0 : Int32).toNatClampNeg < ne2 := by obtain ⟨z1, z2⟩ := hb2; have z3 := own_ls_i mm; show 0 < ne2; omega
        refine own_of (fun _ hh_ => XS.aload X65.here hx rfl (hb hby at_199) rfl rfl hh_) ?_
        show own_Run p e below s _ _ _ (T65.setTop (mkF m 201 #[.val (.int v0), .val (.int v1), .val (.int v2), .val (.int v3), .val (.int v4), .val (.ref ob1), .val (.ref rd), .val (.int nd.toInt32), .val (.int kk), .val (.ref rb), .val (.int mm), .val (.int (own_ls mm)), .val (.int (1 : Int32)), .val (.ref re)] [(.ref re)]))
        refine own_of (fun _ hh_ => XS.iconst X65.here hx rfl (hb hby at_201) hh_) ?_
        show own_Run p e below s _ _ _ (T65.setTop (mkF m 202 #[.val (.int v0), .val (.int v1), .val (.int v2), .val (.int v3), .val (.int v4), .val (.ref ob1), .val (.ref rd), .val (.int nd.toInt32), .val (.int kk), .val (.ref rb), .val (.int mm), .val (.int (own_ls mm)), .val (.int (1 : Int32)), .val (.ref re)] [(.int (0 : Int32)), (.ref re)]))
        refine own_bal X65 hx hZ e65 V59 (j := (0 : Int32)) (w := (fee 0)) (by decide) hlz rfl (hb hby at_202) ?_
        show own_Run p e below s _ _ _ (T65.setTop (mkF m 203 #[.val (.int v0), .val (.int v1), .val (.int v2), .val (.int v3), .val (.int v4), .val (.ref ob1), .val (.ref rd), .val (.int nd.toInt32), .val (.int kk), .val (.ref rb), .val (.int mm), .val (.int (own_ls mm)), .val (.int (1 : Int32)), .val (.ref re)] [(.int (fee 0))]))
        refine own_of (fun _ hh_ => XS.iload X65.here hx rfl (hb hby at_203) rfl hh_) ?_
        show own_Run p e below s _ _ _ (T65.setTop (mkF m 205 #[.val (.int v0), .val (.int v1), .val (.int v2), .val (.int v3), .val (.int v4), .val (.ref ob1), .val (.ref rd), .val (.int nd.toInt32), .val (.int kk), .val (.ref rb), .val (.int mm), .val (.int (own_ls mm)), .val (.int (1 : Int32)), .val (.ref re)] [(.int mm), (.int (fee 0))]))
        refine own_of (fun _ hh_ => XS.i2b X65.here hx rfl (hb hby at_205) rfl hh_) ?_
        show own_Run p e below s _ _ _ (T65.setTop (mkF m 206 #[.val (.int v0), .val (.int v1), .val (.int v2), .val (.int v3), .val (.int v4), .val (.ref ob1), .val (.ref rd), .val (.int nd.toInt32), .val (.int kk), .val (.ref rb), .val (.int mm), .val (.int (own_ls mm)), .val (.int (1 : Int32)), .val (.ref re)] [(.int (mm.toInt8.toInt32)), (.int (fee 0))]))
        have hc206_67 : (fee 0) = (mm.toInt8.toInt32) := by rcases hct2 with ⟨y1, y2⟩ | ⟨y1, y2, y3⟩; rw [y2, own_bb]; exact absurd hc150_61 y1
        refine own_of (fun _ hh_ => XS.icmpNo X65.here hx rfl (hb hby at_206) rfl (teq hc206_67).2 hh_) ?_
        show own_Run p e below s _ _ _ (T65.setTop (mkF m 209 #[.val (.int v0), .val (.int v1), .val (.int v2), .val (.int v3), .val (.int v4), .val (.ref ob1), .val (.ref rd), .val (.int nd.toInt32), .val (.int kk), .val (.ref rb), .val (.int mm), .val (.int (own_ls mm)), .val (.int (1 : Int32)), .val (.ref re)] []))
        refine own_of (fun _ hh_ => XS.iconst X65.here hx rfl (hb hby at_209) hh_) ?_
        show own_Run p e below s _ _ _ (T65.setTop (mkF m 210 #[.val (.int v0), .val (.int v1), .val (.int v2), .val (.int v3), .val (.int v4), .val (.ref ob1), .val (.ref rd), .val (.int nd.toInt32), .val (.int kk), .val (.ref rb), .val (.int mm), .val (.int (own_ls mm)), .val (.int (1 : Int32)), .val (.ref re)] [(.int (1 : Int32))]))
        refine own_of (fun _ hh_ => XS.goto X65.here hx rfl (pc0 := 210) (pc' := 214) rfl (hb hby at_210) (by decide) (by decide) hh_) ?_
        show own_Run p e below s _ _ _ (T65.setTop (mkF m 214 #[.val (.int v0), .val (.int v1), .val (.int v2), .val (.int v3), .val (.int v4), .val (.ref ob1), .val (.ref rd), .val (.int nd.toInt32), .val (.int kk), .val (.ref rb), .val (.int mm), .val (.int (own_ls mm)), .val (.int (1 : Int32)), .val (.ref re)] [(.int (1 : Int32))]))
        exact own_retN X65 hx (t := .boolean) hret hlk (by simp) (hb hby at_214) ⟨rfl, N65⟩ (by decide) (by decide)
      · refine own_of (fun _ hh_ => XS.icmpYes X59.here hx rfl (pc0 := 150) (pc' := 157) rfl (hb hby at_150) rfl (flt hc150_61).2.1 (by decide) (by decide) hh_) ?_
        show own_Run p e below s _ _ _ (T59.setTop (mkF m 157 #[.val (.int v0), .val (.int v1), .val (.int v2), .val (.int v3), .val (.int v4), .val (.ref ob1), .val (.ref rd), .val (.int nd.toInt32), .val (.int kk), .val (.ref rb), .val (.int mm), .val (.int (own_ls mm)), .unset, .unset] []))
        refine own_of (fun _ hh_ => XS.iconst X59.here hx rfl (hb hby at_157) hh_) ?_
        show own_Run p e below s _ _ _ (T59.setTop (mkF m 158 #[.val (.int v0), .val (.int v1), .val (.int v2), .val (.int v3), .val (.int v4), .val (.ref ob1), .val (.ref rd), .val (.int nd.toInt32), .val (.int kk), .val (.ref rb), .val (.int mm), .val (.int (own_ls mm)), .unset, .unset] [(.int (2 : Int32))]))
        refine own_of (fun _ hh_ => XS.istore X59.here hx rfl (hb hby at_158) rfl (l' := #[.val (.int v0), .val (.int v1), .val (.int v2), .val (.int v3), .val (.int v4), .val (.ref ob1), .val (.ref rd), .val (.int nd.toInt32), .val (.int kk), .val (.ref rb), .val (.int mm), .val (.int (own_ls mm)), .val (.int (2 : Int32)), .unset]) rfl hh_) ?_
        show own_Run p e below s _ _ _ (T59.setTop (mkF m 160 #[.val (.int v0), .val (.int v1), .val (.int v2), .val (.int v3), .val (.int v4), .val (.ref ob1), .val (.ref rd), .val (.int nd.toInt32), .val (.int kk), .val (.ref rb), .val (.int mm), .val (.int (own_ls mm)), .val (.int (2 : Int32)), .unset] []))
        refine own_of (fun _ hh_ => XS.iload X59.here hx rfl (hb hby at_160) rfl hh_) ?_
        show own_Run p e below s _ _ _ (T59.setTop (mkF m 162 #[.val (.int v0), .val (.int v1), .val (.int v2), .val (.int v3), .val (.int v4), .val (.ref ob1), .val (.ref rd), .val (.int nd.toInt32), .val (.int kk), .val (.ref rb), .val (.int mm), .val (.int (own_ls mm)), .val (.int (2 : Int32)), .unset] [(.int (own_ls mm))]))
        refine own_of (fun _ hh_ => XS.iload X59.here hx rfl (hb hby at_162) rfl hh_) ?_
        show own_Run p e below s _ _ _ (T59.setTop (mkF m 164 #[.val (.int v0), .val (.int v1), .val (.int v2), .val (.int v3), .val (.int v4), .val (.ref ob1), .val (.ref rd), .val (.int nd.toInt32), .val (.int kk), .val (.ref rb), .val (.int mm), .val (.int (own_ls mm)), .val (.int (2 : Int32)), .unset] [(.int (2 : Int32)), (.int (own_ls mm))]))
        have hc164_68 : (own_ls mm) = (2 : Int32) := if_neg hc150_61
        refine own_of (fun _ hh_ => XS.icmpYes X59.here hx rfl (pc0 := 164) (pc' := 169) rfl (hb hby at_164) rfl (teq hc164_68).1 (by decide) (by decide) hh_) ?_
        show own_Run p e below s _ _ _ (T59.setTop (mkF m 169 #[.val (.int v0), .val (.int v1), .val (.int v2), .val (.int v3), .val (.int v4), .val (.ref ob1), .val (.ref rd), .val (.int nd.toInt32), .val (.int kk), .val (.ref rb), .val (.int mm), .val (.int (own_ls mm)), .val (.int (2 : Int32)), .unset] []))
        refine own_of (fun _ hh_ => XS.aload X59.here hx rfl (hb hby at_169) rfl rfl hh_) ?_
        show own_Run p e below s _ _ _ (T59.setTop (mkF m 171 #[.val (.int v0), .val (.int v1), .val (.int v2), .val (.int v3), .val (.int v4), .val (.ref ob1), .val (.ref rd), .val (.int nd.toInt32), .val (.int kk), .val (.ref rb), .val (.int mm), .val (.int (own_ls mm)), .val (.int (2 : Int32)), .unset] [(.ref ob1)]))
        obtain ⟨cq69, kq69, q69a, q69b, q69c⟩ := isOf hZ (rfl : T59.heap = T59.heap) f60
        obtain ⟨_, _, ⟨T69, L69, k69, n69⟩, -, X69, ⟨Lc69, hQ69, l69, y69, z69⟩, st69⟩ := X59.virtualBack hx (y := (⟨"com/example/pagewright/pagewright/RecordCodec$Writer", "size", "()I"⟩ : MethodName)) (z := (⟨"com/example/pagewright/pagewright/RecordCodec$Writer", "size", "()I"⟩ : MethodName)) hown (mvT hZ (hw _ (List.mem_of_getElem? (i := 37) rfl))) (mvT hZ (hw _ (List.mem_of_getElem? (i := 38) rfl))) (notFace_of_selects (args := #[]) (mvT hZ (hw _ (List.mem_of_getElem? (i := 40) rfl)))) (mvT hZ (hw _ (List.mem_of_getElem? (i := 40) rfl))) (mvT hZ (hw _ (List.mem_of_getElem? (i := 39) rfl))) (by decide) (backOf (W := 0) (rmZ l Z a0 hw [] ob1 ((own_ls mm) + mm) T59.heap n0 (Nat.le_trans (Nat.le_trans (Nat.le_trans (Nat.le_trans (Nat.le_trans Z0 E1.1) K4.1) K6.1) K51.1) K59.1) fs59) hZ (hw _ (List.mem_of_getElem? (i := 41) rfl)) (hw _ (List.mem_of_getElem? (i := 2) rfl)) (by decide) (by decide)) q69a q69c (g := (mkF m 171 #[.val (.int v0), .val (.int v1), .val (.int v2), .val (.int v3), .val (.int v4), .val (.ref ob1), .val (.ref rd), .val (.int nd.toInt32), .val (.int kk), .val (.ref rb), .val (.int mm), .val (.int (own_ls mm)), .val (.int (2 : Int32)), .unset] [(.ref ob1)])) rfl (by rw [hml]; rfl) (Steps.refl _) (argsL := []) (rest := []) (lenOf own_pd5 rfl) rfl (by show 2 * 0 + _ ≤ _; exact Nat.le_of_eq rfl) (hb hby at_171) (fun _ _ => ⟨rfl, (rfl : T59.heap = T59.heap), (by decide : 5 + 0 ≤ _), (by decide : 33540 + 0 ≤ _)⟩)
        dsimp only [Pt.U, Pt.locs, Pt.cells, Pt.slots] at X69 l69 y69 z69 st69 hQ69
        subst l69 y69 z69
        obtain ⟨rfl, N69q, e69⟩ := hQ69
        have N69 := Fr.app N59 N69q
        refine own_tr st69 ?_
        show own_Run p e below s _ _ _ (T69.setTop (mkF m 174 #[.val (.int v0), .val (.int v1), .val (.int v2), .val (.int v3), .val (.int v4), .val (.ref ob1), .val (.ref rd), .val (.int nd.toInt32), .val (.int kk), .val (.ref rb), .val (.int mm), .val (.int (own_ls mm)), .val (.int (2 : Int32)), .unset] [(.int ((own_ls mm) + mm))]))
        refine own_of (fun _ hh_ => XS.iload X69.here hx rfl (hb hby at_174) rfl hh_) ?_
        show own_Run p e below s _ _ _ (T69.setTop (mkF m 176 #[.val (.int v0), .val (.int v1), .val (.int v2), .val (.int v3), .val (.int v4), .val (.ref ob1), .val (.ref rd), .val (.int nd.toInt32), .val (.int kk), .val (.ref rb), .val (.int mm), .val (.int (own_ls mm)), .val (.int (2 : Int32)), .unset] [(.int (2 : Int32)), (.int ((own_ls mm) + mm))]))
        refine own_of (fun _ hh_ => XS.iload X69.here hx rfl (hb hby at_176) rfl hh_) ?_
        show own_Run p e below s _ _ _ (T69.setTop (mkF m 178 #[.val (.int v0), .val (.int v1), .val (.int v2), .val (.int v3), .val (.int v4), .val (.ref ob1), .val (.ref rd), .val (.int nd.toInt32), .val (.int kk), .val (.ref rb), .val (.int mm), .val (.int (own_ls mm)), .val (.int (2 : Int32)), .unset] [(.int mm), (.int (2 : Int32)), (.int ((own_ls mm) + mm))]))
        refine own_of (fun _ hh_ => XS.iadd X69.here hx rfl (hb hby at_178) rfl hh_) ?_
        show own_Run p e below s _ _ _ (T69.setTop (mkF m 179 #[.val (.int v0), .val (.int v1), .val (.int v2), .val (.int v3), .val (.int v4), .val (.ref ob1), .val (.ref rd), .val (.int nd.toInt32), .val (.int kk), .val (.ref rb), .val (.int mm), .val (.int (own_ls mm)), .val (.int (2 : Int32)), .unset] [(.int ((2 : Int32) + mm)), (.int ((own_ls mm) + mm))]))
        have hc179_70 : ((own_ls mm) + mm) = ((2 : Int32) + mm) := by rw [show own_ls mm = (2 : Int32) from if_neg hc150_61]
        refine own_of (fun _ hh_ => XS.icmpYes X69.here hx rfl (pc0 := 179) (pc' := 184) rfl (hb hby at_179) rfl (teq hc179_70).1 (by decide) (by decide) hh_) ?_
        show own_Run p e below s _ _ _ (T69.setTop (mkF m 184 #[.val (.int v0), .val (.int v1), .val (.int v2), .val (.int v3), .val (.int v4), .val (.ref ob1), .val (.ref rd), .val (.int nd.toInt32), .val (.int kk), .val (.ref rb), .val (.int mm), .val (.int (own_ls mm)), .val (.int (2 : Int32)), .unset] []))
        refine own_of (fun _ hh_ => XS.aload X69.here hx rfl (hb hby at_184) rfl rfl hh_) ?_
        show own_Run p e below s _ _ _ (T69.setTop (mkF m 186 #[.val (.int v0), .val (.int v1), .val (.int v2), .val (.int v3), .val (.int v4), .val (.ref ob1), .val (.ref rd), .val (.int nd.toInt32), .val (.int kk), .val (.ref rb), .val (.int mm), .val (.int (own_ls mm)), .val (.int (2 : Int32)), .unset] [(.ref ob1)]))
        obtain ⟨cq71, kq71, q71a, q71b, q71c⟩ := isOf hZ e69 f60
        obtain ⟨_, _, ⟨T71, L71, k71, n71⟩, -, X71, ⟨Lc71, hQ71, l71, y71, z71⟩, st71⟩ := X69.virtualBack hx (y := (⟨"com/example/pagewright/pagewright/RecordCodec$Writer", "bytes", "()[B"⟩ : MethodName)) (z := (⟨"com/example/pagewright/pagewright/RecordCodec$Writer", "bytes", "()[B"⟩ : MethodName)) hown (mvT hZ (hw _ (List.mem_of_getElem? (i := 27) rfl))) (mvT hZ (hw _ (List.mem_of_getElem? (i := 28) rfl))) (notFace_of_selects (args := #[]) (mvT hZ (hw _ (List.mem_of_getElem? (i := 30) rfl)))) (mvT hZ (hw _ (List.mem_of_getElem? (i := 30) rfl))) (mvT hZ (hw _ (List.mem_of_getElem? (i := 29) rfl))) (by decide) (backOf (W := 0) (rmB l Z a0 hw [] ob1 re T59.heap n0 (Nat.le_trans (Nat.le_trans (Nat.le_trans (Nat.le_trans (Nat.le_trans Z0 E1.1) K4.1) K6.1) K51.1) K59.1) fb59) hZ (hw _ (List.mem_of_getElem? (i := 31) rfl)) (hw _ (List.mem_of_getElem? (i := 2) rfl)) (by decide) (by decide)) q71a q71c (g := (mkF m 186 #[.val (.int v0), .val (.int v1), .val (.int v2), .val (.int v3), .val (.int v4), .val (.ref ob1), .val (.ref rd), .val (.int nd.toInt32), .val (.int kk), .val (.ref rb), .val (.int mm), .val (.int (own_ls mm)), .val (.int (2 : Int32)), .unset] [(.ref ob1)])) rfl (by rw [hml]; rfl) (Steps.refl _) (argsL := []) (rest := []) (lenOf own_pd4 rfl) rfl (by show 2 * 0 + _ ≤ _; exact Nat.le_of_eq rfl) (hb hby at_186) (fun _ _ => ⟨rfl, e69, (by decide : 5 + 0 ≤ _), (by decide : 33540 + 0 ≤ _)⟩)
        dsimp only [Pt.U, Pt.locs, Pt.cells, Pt.slots] at X71 l71 y71 z71 st71 hQ71
        subst l71 y71 z71
        obtain ⟨rfl, N71q, e71⟩ := hQ71
        have N71 := Fr.app N69 N71q
        refine own_tr st71 ?_
        show own_Run p e below s _ _ _ (T71.setTop (mkF m 189 #[.val (.int v0), .val (.int v1), .val (.int v2), .val (.int v3), .val (.int v4), .val (.ref ob1), .val (.ref rd), .val (.int nd.toInt32), .val (.int kk), .val (.ref rb), .val (.int mm), .val (.int (own_ls mm)), .val (.int (2 : Int32)), .unset] [(.ref re)]))
        refine own_of (fun _ hh_ => XS.astore X71.here hx rfl (hb hby at_189) rfl rfl (l' := #[.val (.int v0), .val (.int v1), .val (.int v2), .val (.int v3), .val (.int v4), .val (.ref ob1), .val (.ref rd), .val (.int nd.toInt32), .val (.int kk), .val (.ref rb), .val (.int mm), .val (.int (own_ls mm)), .val (.int (2 : Int32)), .val (.ref re)]) rfl hh_) ?_
        show own_Run p e below s _ _ _ (T71.setTop (mkF m 191 #[.val (.int v0), .val (.int v1), .val (.int v2), .val (.int v3), .val (.int v4), .val (.ref ob1), .val (.ref rd), .val (.int nd.toInt32), .val (.int kk), .val (.ref rb), .val (.int mm), .val (.int (own_ls mm)), .val (.int (2 : Int32)), .val (.ref re)] []))
        refine own_of (fun _ hh_ => XS.iload X71.here hx rfl (hb hby at_191) rfl hh_) ?_
        show own_Run p e below s _ _ _ (T71.setTop (mkF m 193 #[.val (.int v0), .val (.int v1), .val (.int v2), .val (.int v3), .val (.int v4), .val (.ref ob1), .val (.ref rd), .val (.int nd.toInt32), .val (.int kk), .val (.ref rb), .val (.int mm), .val (.int (own_ls mm)), .val (.int (2 : Int32)), .val (.ref re)] [(.int mm)]))
        refine own_of (fun _ hh_ => XS.sipush X71.here hx rfl (hb hby at_193) hh_) ?_
        show own_Run p e below s _ _ _ (T71.setTop (mkF m 196 #[.val (.int v0), .val (.int v1), .val (.int v2), .val (.int v3), .val (.int v4), .val (.ref ob1), .val (.ref rd), .val (.int nd.toInt32), .val (.int kk), .val (.ref rb), .val (.int mm), .val (.int (own_ls mm)), .val (.int (2 : Int32)), .val (.ref re)] [(.int (128 : Int32)), (.int mm)]))
        have hc196_72 : ¬ (mm < (128 : Int32)) := hc150_61
        refine own_of (fun _ hh_ => XS.icmpYes X71.here hx rfl (pc0 := 196) (pc' := 215) rfl (hb hby at_196) rfl (flt hc196_72).2.1 (by decide) (by decide) hh_) ?_
        show own_Run p e below s _ _ _ (T71.setTop (mkF m 215 #[.val (.int v0), .val (.int v1), .val (.int v2), .val (.int v3), .val (.int v4), .val (.ref ob1), .val (.ref rd), .val (.int nd.toInt32), .val (.int kk), .val (.ref rb), .val (.int mm), .val (.int (own_ls mm)), .val (.int (2 : Int32)), .val (.ref re)] []))
        have hlz : (0 : Int32).toNatClampNeg < ne2 := by obtain ⟨z1, z2⟩ := hb2; have z3 := own_ls_i mm; show 0 < ne2; omega
        have hlo : (1 : Int32).toNatClampNeg < ne2 := by obtain ⟨z1, z2⟩ := hb2; have z3 := own_ls_i mm; have z4 := mt Int32.lt_iff_toInt_lt.mpr hc150_61; have z5 : (128 : Int32).toInt = 128 := rfl; show 1 < ne2; omega
        refine own_of (fun _ hh_ => XS.aload X71.here hx rfl (hb hby at_215) rfl rfl hh_) ?_
        show own_Run p e below s _ _ _ (T71.setTop (mkF m 217 #[.val (.int v0), .val (.int v1), .val (.int v2), .val (.int v3), .val (.int v4), .val (.ref ob1), .val (.ref rd), .val (.int nd.toInt32), .val (.int kk), .val (.ref rb), .val (.int mm), .val (.int (own_ls mm)), .val (.int (2 : Int32)), .val (.ref re)] [(.ref re)]))
        refine own_of (fun _ hh_ => XS.iconst X71.here hx rfl (hb hby at_217) hh_) ?_
        show own_Run p e below s _ _ _ (T71.setTop (mkF m 218 #[.val (.int v0), .val (.int v1), .val (.int v2), .val (.int v3), .val (.int v4), .val (.ref ob1), .val (.ref rd), .val (.int nd.toInt32), .val (.int kk), .val (.ref rb), .val (.int mm), .val (.int (own_ls mm)), .val (.int (2 : Int32)), .val (.ref re)] [(.int (0 : Int32)), (.ref re)]))
        refine own_bal X71 hx hZ e71 V59 (j := (0 : Int32)) (w := (fee 0)) (by decide) hlz rfl (hb hby at_218) ?_
        show own_Run p e below s _ _ _ (T71.setTop (mkF m 219 #[.val (.int v0), .val (.int v1), .val (.int v2), .val (.int v3), .val (.int v4), .val (.ref ob1), .val (.ref rd), .val (.int nd.toInt32), .val (.int kk), .val (.ref rb), .val (.int mm), .val (.int (own_ls mm)), .val (.int (2 : Int32)), .val (.ref re)] [(.int (fee 0))]))
        refine own_of (fun _ hh_ => XS.iload X71.here hx rfl (hb hby at_219) rfl hh_) ?_
        show own_Run p e below s _ _ _ (T71.setTop (mkF m 221 #[.val (.int v0), .val (.int v1), .val (.int v2), .val (.int v3), .val (.int v4), .val (.ref ob1), .val (.ref rd), .val (.int nd.toInt32), .val (.int kk), .val (.ref rb), .val (.int mm), .val (.int (own_ls mm)), .val (.int (2 : Int32)), .val (.ref re)] [(.int mm), (.int (fee 0))]))
        refine own_of (fun _ hh_ => XS.sipush X71.here hx rfl (hb hby at_221) hh_) ?_
        show own_Run p e below s _ _ _ (T71.setTop (mkF m 224 #[.val (.int v0), .val (.int v1), .val (.int v2), .val (.int v3), .val (.int v4), .val (.ref ob1), .val (.ref rd), .val (.int nd.toInt32), .val (.int kk), .val (.ref rb), .val (.int mm), .val (.int (own_ls mm)), .val (.int (2 : Int32)), .val (.ref re)] [(.int (128 : Int32)), (.int mm), (.int (fee 0))]))
        refine own_of (fun _ hh_ => XS.ior X71.here hx rfl (hb hby at_224) rfl hh_) ?_
        show own_Run p e below s _ _ _ (T71.setTop (mkF m 225 #[.val (.int v0), .val (.int v1), .val (.int v2), .val (.int v3), .val (.int v4), .val (.ref ob1), .val (.ref rd), .val (.int nd.toInt32), .val (.int kk), .val (.ref rb), .val (.int mm), .val (.int (own_ls mm)), .val (.int (2 : Int32)), .val (.ref re)] [(.int (mm ||| (128 : Int32))), (.int (fee 0))]))
        refine own_of (fun _ hh_ => XS.i2b X71.here hx rfl (hb hby at_225) rfl hh_) ?_
        show own_Run p e below s _ _ _ (T71.setTop (mkF m 226 #[.val (.int v0), .val (.int v1), .val (.int v2), .val (.int v3), .val (.int v4), .val (.ref ob1), .val (.ref rd), .val (.int nd.toInt32), .val (.int kk), .val (.ref rb), .val (.int mm), .val (.int (own_ls mm)), .val (.int (2 : Int32)), .val (.ref re)] [(.int ((mm ||| (128 : Int32)).toInt8.toInt32)), (.int (fee 0))]))
        have hc226_73 : (fee 0) = ((mm ||| (128 : Int32)).toInt8.toInt32) := by rcases hct2 with ⟨y1, y2⟩ | ⟨y1, y2, y3⟩; exact absurd y1 hc150_61; rw [y2, own_bb]
        refine own_of (fun _ hh_ => XS.icmpNo X71.here hx rfl (hb hby at_226) rfl (teq hc226_73).2 hh_) ?_
        show own_Run p e below s _ _ _ (T71.setTop (mkF m 229 #[.val (.int v0), .val (.int v1), .val (.int v2), .val (.int v3), .val (.int v4), .val (.ref ob1), .val (.ref rd), .val (.int nd.toInt32), .val (.int kk), .val (.ref rb), .val (.int mm), .val (.int (own_ls mm)), .val (.int (2 : Int32)), .val (.ref re)] []))
        refine own_of (fun _ hh_ => XS.aload X71.here hx rfl (hb hby at_229) rfl rfl hh_) ?_
        show own_Run p e below s _ _ _ (T71.setTop (mkF m 231 #[.val (.int v0), .val (.int v1), .val (.int v2), .val (.int v3), .val (.int v4), .val (.ref ob1), .val (.ref rd), .val (.int nd.toInt32), .val (.int kk), .val (.ref rb), .val (.int mm), .val (.int (own_ls mm)), .val (.int (2 : Int32)), .val (.ref re)] [(.ref re)]))
        refine own_of (fun _ hh_ => XS.iconst X71.here hx rfl (hb hby at_231) hh_) ?_
        show own_Run p e below s _ _ _ (T71.setTop (mkF m 232 #[.val (.int v0), .val (.int v1), .val (.int v2), .val (.int v3), .val (.int v4), .val (.ref ob1), .val (.ref rd), .val (.int nd.toInt32), .val (.int kk), .val (.ref rb), .val (.int mm), .val (.int (own_ls mm)), .val (.int (2 : Int32)), .val (.ref re)] [(.int (1 : Int32)), (.ref re)]))
        refine own_bal X71 hx hZ e71 V59 (j := (1 : Int32)) (w := (fee 1)) (by decide) hlo rfl (hb hby at_232) ?_
        show own_Run p e below s _ _ _ (T71.setTop (mkF m 233 #[.val (.int v0), .val (.int v1), .val (.int v2), .val (.int v3), .val (.int v4), .val (.ref ob1), .val (.ref rd), .val (.int nd.toInt32), .val (.int kk), .val (.ref rb), .val (.int mm), .val (.int (own_ls mm)), .val (.int (2 : Int32)), .val (.ref re)] [(.int (fee 1))]))
        refine own_of (fun _ hh_ => XS.iload X71.here hx rfl (hb hby at_233) rfl hh_) ?_
        show own_Run p e below s _ _ _ (T71.setTop (mkF m 235 #[.val (.int v0), .val (.int v1), .val (.int v2), .val (.int v3), .val (.int v4), .val (.ref ob1), .val (.ref rd), .val (.int nd.toInt32), .val (.int kk), .val (.ref rb), .val (.int mm), .val (.int (own_ls mm)), .val (.int (2 : Int32)), .val (.ref re)] [(.int mm), (.int (fee 1))]))
        refine own_of (fun _ hh_ => XS.bipush X71.here hx rfl (hb hby at_235) hh_) ?_
        show own_Run p e below s _ _ _ (T71.setTop (mkF m 237 #[.val (.int v0), .val (.int v1), .val (.int v2), .val (.int v3), .val (.int v4), .val (.ref ob1), .val (.ref rd), .val (.int nd.toInt32), .val (.int kk), .val (.ref rb), .val (.int mm), .val (.int (own_ls mm)), .val (.int (2 : Int32)), .val (.ref re)] [(.int (7 : Int32)), (.int mm), (.int (fee 1))]))
        refine own_of (fun _ hh_ => XS.iushr X71.here hx rfl (hb hby at_237) rfl hh_) ?_
        show own_Run p e below s _ _ _ (T71.setTop (mkF m 238 #[.val (.int v0), .val (.int v1), .val (.int v2), .val (.int v3), .val (.int v4), .val (.ref ob1), .val (.ref rd), .val (.int nd.toInt32), .val (.int kk), .val (.ref rb), .val (.int mm), .val (.int (own_ls mm)), .val (.int (2 : Int32)), .val (.ref re)] [(.int ((mm.toUInt32 >>> ((7 : Int32) &&& 31).toUInt32).toInt32)), (.int (fee 1))]))
        refine own_of (fun _ hh_ => XS.i2b X71.here hx rfl (hb hby at_238) rfl hh_) ?_
        show own_Run p e below s _ _ _ (T71.setTop (mkF m 239 #[.val (.int v0), .val (.int v1), .val (.int v2), .val (.int v3), .val (.int v4), .val (.ref ob1), .val (.ref rd), .val (.int nd.toInt32), .val (.int kk), .val (.ref rb), .val (.int mm), .val (.int (own_ls mm)), .val (.int (2 : Int32)), .val (.ref re)] [(.int (((mm.toUInt32 >>> ((7 : Int32) &&& 31).toUInt32).toInt32).toInt8.toInt32)), (.int (fee 1))]))
        have hc239_74 : (fee 1) = (((mm.toUInt32 >>> ((7 : Int32) &&& 31).toUInt32).toInt32).toInt8.toInt32) := by rcases hct2 with ⟨y1, y2⟩ | ⟨y1, y2, y3⟩; exact absurd y1 hc150_61; rw [y3, own_bb]
        refine own_of (fun _ hh_ => XS.icmpNo X71.here hx rfl (hb hby at_239) rfl (teq hc239_74).2 hh_) ?_
        show own_Run p e below s _ _ _ (T71.setTop (mkF m 242 #[.val (.int v0), .val (.int v1), .val (.int v2), .val (.int v3), .val (.int v4), .val (.ref ob1), .val (.ref rd), .val (.int nd.toInt32), .val (.int kk), .val (.ref rb), .val (.int mm), .val (.int (own_ls mm)), .val (.int (2 : Int32)), .val (.ref re)] []))
        refine own_of (fun _ hh_ => XS.iconst X71.here hx rfl (hb hby at_242) hh_) ?_
        show own_Run p e below s _ _ _ (T71.setTop (mkF m 243 #[.val (.int v0), .val (.int v1), .val (.int v2), .val (.int v3), .val (.int v4), .val (.ref ob1), .val (.ref rd), .val (.int nd.toInt32), .val (.int kk), .val (.ref rb), .val (.int mm), .val (.int (own_ls mm)), .val (.int (2 : Int32)), .val (.ref re)] [(.int (1 : Int32))]))
        refine own_of (fun _ hh_ => XS.goto X71.here hx rfl (pc0 := 243) (pc' := 247) rfl (hb hby at_243) (by decide) (by decide) hh_) ?_
        show own_Run p e below s _ _ _ (T71.setTop (mkF m 247 #[.val (.int v0), .val (.int v1), .val (.int v2), .val (.int v3), .val (.int v4), .val (.ref ob1), .val (.ref rd), .val (.int nd.toInt32), .val (.int kk), .val (.ref rb), .val (.int mm), .val (.int (own_ls mm)), .val (.int (2 : Int32)), .val (.ref re)] [(.int (1 : Int32))]))
        exact own_retN X71 hx (t := .boolean) hret hlk (by simp) (hb hby at_247) ⟨rfl, N71⟩ (by decide) (by decide)
    · refine own_of (fun _ hh_ => XS.icmpNo X55.here hx rfl (hb hby at_101) rfl (flt hc101_57).2.2.1 hh_) ?_
      show own_Run p e below s _ _ _ (T55.setTop (mkF m 104 #[.val (.int v0), .val (.int v1), .val (.int v2), .val (.int v3), .val (.int v4), .val (.ref ob1), .val (.ref rd), .val (.int nd.toInt32), .val (.int kk), .val (.ref rb), .unset, .unset, .unset, .unset] []))
      refine own_of (fun _ hh_ => XS.aload X55.here hx rfl (hb hby at_104) rfl rfl hh_) ?_
      show own_Run p e below s _ _ _ (T55.setTop (mkF m 106 #[.val (.int v0), .val (.int v1), .val (.int v2), .val (.int v3), .val (.int v4), .val (.ref ob1), .val (.ref rd), .val (.int nd.toInt32), .val (.int kk), .val (.ref rb), .unset, .unset, .unset, .unset] [(.ref rb)]))
      refine own_of (fun _ hh_ => XS.aload X55.here hx rfl (hb hby at_106) rfl rfl hh_) ?_
      show own_Run p e below s _ _ _ (T55.setTop (mkF m 108 #[.val (.int v0), .val (.int v1), .val (.int v2), .val (.int v3), .val (.int v4), .val (.ref ob1), .val (.ref rd), .val (.int nd.toInt32), .val (.int kk), .val (.ref rb), .unset, .unset, .unset, .unset] [(.ref rd), (.ref rb)]))
      refine own_of (fun _ hh_ => Jvm.RoadKit.acmp (g := (mkF m 108 #[.val (.int v0), .val (.int v1), .val (.int v2), .val (.int v3), .val (.int v4), .val (.ref ob1), .val (.ref rd), .val (.int nd.toInt32), .val (.int kk), .val (.ref rb), .unset, .unset, .unset, .unset] [(.ref rd), (.ref rb)])) X55 hx rfl rfl rfl (pc0 := 108) (pc' := 113) (same := true) rfl (hb hby at_108) rfl (decide_eq_true (congrArg Value.ref (by rcases hnb.2 with ⟨y1, y2, y3⟩ | ⟨y1, y2, y3⟩; exact y2; exact absurd y1 hc101_57))) (by decide) (by decide) hh_) ?_
      show own_Run p e below s _ _ _ (T55.setTop (mkF m 113 #[.val (.int v0), .val (.int v1), .val (.int v2), .val (.int v3), .val (.int v4), .val (.ref ob1), .val (.ref rd), .val (.int nd.toInt32), .val (.int kk), .val (.ref rb), .unset, .unset, .unset, .unset] []))
      refine own_of (fun _ hh_ => XS.iload X55.here hx rfl (hb hby at_113) rfl hh_) ?_
      show own_Run p e below s _ _ _ (T55.setTop (mkF m 115 #[.val (.int v0), .val (.int v1), .val (.int v2), .val (.int v3), .val (.int v4), .val (.ref ob1), .val (.ref rd), .val (.int nd.toInt32), .val (.int kk), .val (.ref rb), .unset, .unset, .unset, .unset] [(.int nd.toInt32)]))
      refine own_of (fun _ hh_ => XS.iload X55.here hx rfl (hb hby at_115) rfl hh_) ?_
      show own_Run p e below s _ _ _ (T55.setTop (mkF m 117 #[.val (.int v0), .val (.int v1), .val (.int v2), .val (.int v3), .val (.int v4), .val (.ref ob1), .val (.ref rd), .val (.int nd.toInt32), .val (.int kk), .val (.ref rb), .unset, .unset, .unset, .unset] [(.int kk), (.int nd.toInt32)]))
      have hc117_75 : ¬ (kk < nd.toInt32) := hc101_57
      refine own_of (fun _ hh_ => XS.icmpYes X55.here hx rfl (pc0 := 117) (pc' := 129) rfl (hb hby at_117) rfl (flt hc117_75).2.2.2 (by decide) (by decide) hh_) ?_
      show own_Run p e below s _ _ _ (T55.setTop (mkF m 129 #[.val (.int v0), .val (.int v1), .val (.int v2), .val (.int v3), .val (.int v4), .val (.ref ob1), .val (.ref rd), .val (.int nd.toInt32), .val (.int kk), .val (.ref rb), .unset, .unset, .unset, .unset] []))
      refine own_of (fun _ hh_ => XS.iloadN X55.here hx rfl (hb hby at_129) rfl hh_) ?_
      show own_Run p e below s _ _ _ (T55.setTop (mkF m 130 #[.val (.int v0), .val (.int v1), .val (.int v2), .val (.int v3), .val (.int v4), .val (.ref ob1), .val (.ref rd), .val (.int nd.toInt32), .val (.int kk), .val (.ref rb), .unset, .unset, .unset, .unset] [(.int v3)]))
      refine own_of (fun _ hh_ => XS.sipush X55.here hx rfl (hb hby at_130) hh_) ?_
      show own_Run p e below s _ _ _ (T55.setTop (mkF m 133 #[.val (.int v0), .val (.int v1), .val (.int v2), .val (.int v3), .val (.int v4), .val (.ref ob1), .val (.ref rd), .val (.int nd.toInt32), .val (.int kk), .val (.ref rb), .unset, .unset, .unset, .unset] [(.int (16383 : Int32)), (.int v3)]))
      refine own_of (fun _ hh_ => XS.iand X55.here hx rfl (hb hby at_133) rfl hh_) ?_
      show own_Run p e below s _ _ _ (T55.setTop (mkF m 134 #[.val (.int v0), .val (.int v1), .val (.int v2), .val (.int v3), .val (.int v4), .val (.ref ob1), .val (.ref rd), .val (.int nd.toInt32), .val (.int kk), .val (.ref rb), .unset, .unset, .unset, .unset] [(.int (v3 &&& (16383 : Int32)))]))
      generalize hmm : (v3 &&& (16383 : Int32)) = mm
      have rmm : 0 ≤ mm.toInt ∧ mm.toInt < ((16384 : Nat) : Int) := by rw [← hmm]; exact own_m v3 14 (by decide) _ (by decide) _ rfl
      have hf2a := rmm.1
      have hf2b : mm.toInt ≤ 16383 := by omega
      show own_Run p e below s _ _ _ (T55.setTop (mkF m 134 #[.val (.int v0), .val (.int v1), .val (.int v2), .val (.int v3), .val (.int v4), .val (.ref ob1), .val (.ref rd), .val (.int nd.toInt32), .val (.int kk), .val (.ref rb), .unset, .unset, .unset, .unset] [(.int mm)]))
      refine own_of (fun _ hh_ => XS.istore X55.here hx rfl (hb hby at_134) rfl (l' := #[.val (.int v0), .val (.int v1), .val (.int v2), .val (.int v3), .val (.int v4), .val (.ref ob1), .val (.ref rd), .val (.int nd.toInt32), .val (.int kk), .val (.ref rb), .val (.int mm), .unset, .unset, .unset]) rfl hh_) ?_
      show own_Run p e below s _ _ _ (T55.setTop (mkF m 136 #[.val (.int v0), .val (.int v1), .val (.int v2), .val (.int v3), .val (.int v4), .val (.ref ob1), .val (.ref rd), .val (.int nd.toInt32), .val (.int kk), .val (.ref rb), .val (.int mm), .unset, .unset, .unset] []))
      refine own_of (fun _ hh_ => XS.aload X55.here hx rfl (hb hby at_136) rfl rfl hh_) ?_
      show own_Run p e below s _ _ _ (T55.setTop (mkF m 138 #[.val (.int v0), .val (.int v1), .val (.int v2), .val (.int v3), .val (.int v4), .val (.ref ob1), .val (.ref rd), .val (.int nd.toInt32), .val (.int kk), .val (.ref rb), .val (.int mm), .unset, .unset, .unset] [(.ref ob1)]))
      refine own_of (fun _ hh_ => XS.iload X55.here hx rfl (hb hby at_138) rfl hh_) ?_
      show own_Run p e below s _ _ _ (T55.setTop (mkF m 140 #[.val (.int v0), .val (.int v1), .val (.int v2), .val (.int v3), .val (.int v4), .val (.ref ob1), .val (.ref rd), .val (.int nd.toInt32), .val (.int kk), .val (.ref rb), .val (.int mm), .unset, .unset, .unset] [(.int mm), (.ref ob1)]))
      obtain ⟨cq76, kq76, q76a, q76b, q76c⟩ := isOf hZ e55 f52
      obtain ⟨_, _, ⟨T76, L76, k76, n76⟩, -, X76, ⟨Lc76, hQ76, l76, y76, z76⟩, st76⟩ := X55.virtualBack hx (y := (⟨"com/example/pagewright/pagewright/RecordCodec$Writer", "field", "(I)I"⟩ : MethodName)) (z := (⟨"com/example/pagewright/pagewright/RecordCodec$Writer", "field", "(I)I"⟩ : MethodName)) hown (mvT hZ (hw _ (List.mem_of_getElem? (i := 16) rfl))) (mvT hZ (hw _ (List.mem_of_getElem? (i := 17) rfl))) (notFace_of_selects (args := #[]) (mvT hZ (hw _ (List.mem_of_getElem? (i := 19) rfl)))) (mvT hZ (hw _ (List.mem_of_getElem? (i := 19) rfl))) (mvT hZ (hw _ (List.mem_of_getElem? (i := 18) rfl))) (by decide) (backOf (W := 0) (rmF l Z a0 hw [] ob1 mm rb nb fbb T51.heap n0 (Nat.le_trans (Nat.le_trans (Nat.le_trans (Nat.le_trans Z0 E1.1) K4.1) K6.1) K51.1) f52 fb51 fs51 Vb Ftb g_ob1 g_rb hf2a hf2b hf2c) hZ (hw _ (List.mem_of_getElem? (i := 20) rfl)) (hw _ (List.mem_of_getElem? (i := 2) rfl)) (by decide) (by decide)) q76a q76c (g := (mkF m 140 #[.val (.int v0), .val (.int v1), .val (.int v2), .val (.int v3), .val (.int v4), .val (.ref ob1), .val (.ref rd), .val (.int nd.toInt32), .val (.int kk), .val (.ref rb), .val (.int mm), .unset, .unset, .unset] [(.int mm), (.ref ob1)])) rfl (by rw [hml]; rfl) (Steps.refl _) (argsL := [(.int mm)]) (rest := []) (lenOf own_pd1 rfl) rfl (by show 2 * 0 + _ ≤ _; exact Nat.le_of_eq rfl) (hb hby at_140) (fun _ _ => ⟨rfl, e55, (by decide : 4 + 1 ≤ _), (by decide : 17155 + 16385 ≤ _)⟩)
      dsimp only [Pt.U, Pt.locs, Pt.cells, Pt.slots] at X76 l76 y76 z76 st76 hQ76
      subst l76 y76 z76
      obtain ⟨rfl, N76q, K76, re, ne2, fee, fb76, fs76, V76, Ft76, g_re, hb2, hct2⟩ := hQ76
      have N76 := Fr.app N55 N76q
      have f77 := f52.keep K76
      refine own_tr st76 ?_
      show own_Run p e below s _ _ _ (T76.setTop (mkF m 143 #[.val (.int v0), .val (.int v1), .val (.int v2), .val (.int v3), .val (.int v4), .val (.ref ob1), .val (.ref rd), .val (.int nd.toInt32), .val (.int kk), .val (.ref rb), .val (.int mm), .unset, .unset, .unset] [(.int (own_ls mm))]))
      refine own_of (fun _ hh_ => XS.istore X76.here hx rfl (hb hby at_143) rfl (l' := #[.val (.int v0), .val (.int v1), .val (.int v2), .val (.int v3), .val (.int v4), .val (.ref ob1), .val (.ref rd), .val (.int nd.toInt32), .val (.int kk), .val (.ref rb), .val (.int mm), .val (.int (own_ls mm)), .unset, .unset]) rfl hh_) ?_
      show own_Run p e below s _ _ _ (T76.setTop (mkF m 145 #[.val (.int v0), .val (.int v1), .val (.int v2), .val (.int v3), .val (.int v4), .val (.ref ob1), .val (.ref rd), .val (.int nd.toInt32), .val (.int kk), .val (.ref rb), .val (.int mm), .val (.int (own_ls mm)), .unset, .unset] []))
      refine own_of (fun _ hh_ => XS.iload X76.here hx rfl (hb hby at_145) rfl hh_) ?_
      show own_Run p e below s _ _ _ (T76.setTop (mkF m 147 #[.val (.int v0), .val (.int v1), .val (.int v2), .val (.int v3), .val (.int v4), .val (.ref ob1), .val (.ref rd), .val (.int nd.toInt32), .val (.int kk), .val (.ref rb), .val (.int mm), .val (.int (own_ls mm)), .unset, .unset] [(.int mm)]))
      refine own_of (fun _ hh_ => XS.sipush X76.here hx rfl (hb hby at_147) hh_) ?_
      show own_Run p e below s _ _ _ (T76.setTop (mkF m 150 #[.val (.int v0), .val (.int v1), .val (.int v2), .val (.int v3), .val (.int v4), .val (.ref ob1), .val (.ref rd), .val (.int nd.toInt32), .val (.int kk), .val (.ref rb), .val (.int mm), .val (.int (own_ls mm)), .unset, .unset] [(.int (128 : Int32)), (.int mm)]))
      by_cases hc150_78 : mm < (128 : Int32)
      · refine own_of (fun _ hh_ => XS.icmpNo X76.here hx rfl (hb hby at_150) rfl (tlt hc150_78).2.1 hh_) ?_
        show own_Run p e below s _ _ _ (T76.setTop (mkF m 153 #[.val (.int v0), .val (.int v1), .val (.int v2), .val (.int v3), .val (.int v4), .val (.ref ob1), .val (.ref rd), .val (.int nd.toInt32), .val (.int kk), .val (.ref rb), .val (.int mm), .val (.int (own_ls mm)), .unset, .unset] []))
        refine own_of (fun _ hh_ => XS.iconst X76.here hx rfl (hb hby at_153) hh_) ?_
        show own_Run p e below s _ _ _ (T76.setTop (mkF m 154 #[.val (.int v0), .val (.int v1), .val (.int v2), .val (.int v3), .val (.int v4), .val (.ref ob1), .val (.ref rd), .val (.int nd.toInt32), .val (.int kk), .val (.ref rb), .val (.int mm), .val (.int (own_ls mm)), .unset, .unset] [(.int (1 : Int32))]))
        refine own_of (fun _ hh_ => XS.goto X76.here hx rfl (pc0 := 154) (pc' := 158) rfl (hb hby at_154) (by decide) (by decide) hh_) ?_
        show own_Run p e below s _ _ _ (T76.setTop (mkF m 158 #[.val (.int v0), .val (.int v1), .val (.int v2), .val (.int v3), .val (.int v4), .val (.ref ob1), .val (.ref rd), .val (.int nd.toInt32), .val (.int kk), .val (.ref rb), .val (.int mm), .val (.int (own_ls mm)), .unset, .unset] [(.int (1 : Int32))]))
        refine own_of (fun _ hh_ => XS.istore X76.here hx rfl (hb hby at_158) rfl (l' := #[.val (.int v0), .val (.int v1), .val (.int v2), .val (.int v3), .val (.int v4), .val (.ref ob1), .val (.ref rd), .val (.int nd.toInt32), .val (.int kk), .val (.ref rb), .val (.int mm), .val (.int (own_ls mm)), .val (.int (1 : Int32)), .unset]) rfl hh_) ?_
        show own_Run p e below s _ _ _ (T76.setTop (mkF m 160 #[.val (.int v0), .val (.int v1), .val (.int v2), .val (.int v3), .val (.int v4), .val (.ref ob1), .val (.ref rd), .val (.int nd.toInt32), .val (.int kk), .val (.ref rb), .val (.int mm), .val (.int (own_ls mm)), .val (.int (1 : Int32)), .unset] []))
        refine own_of (fun _ hh_ => XS.iload X76.here hx rfl (hb hby at_160) rfl hh_) ?_
        show own_Run p e below s _ _ _ (T76.setTop (mkF m 162 #[.val (.int v0), .val (.int v1), .val (.int v2), .val (.int v3), .val (.int v4), .val (.ref ob1), .val (.ref rd), .val (.int nd.toInt32), .val (.int kk), .val (.ref rb), .val (.int mm), .val (.int (own_ls mm)), .val (.int (1 : Int32)), .unset] [(.int (own_ls mm))]))
        refine own_of (fun _ hh_ => XS.iload X76.here hx rfl (hb hby at_162) rfl hh_) ?_
        show own_Run p e below s _ _ _ (T76.setTop (mkF m 164 #[.val (.int v0), .val (.int v1), .val (.int v2), .val (.int v3), .val (.int v4), .val (.ref ob1), .val (.ref rd), .val (.int nd.toInt32), .val (.int kk), .val (.ref rb), .val (.int mm), .val (.int (own_ls mm)), .val (.int (1 : Int32)), .unset] [(.int (1 : Int32)), (.int (own_ls mm))]))
        have hc164_79 : (own_ls mm) = (1 : Int32) := if_pos hc150_78
        refine own_of (fun _ hh_ => XS.icmpYes X76.here hx rfl (pc0 := 164) (pc' := 169) rfl (hb hby at_164) rfl (teq hc164_79).1 (by decide) (by decide) hh_) ?_
        show own_Run p e below s _ _ _ (T76.setTop (mkF m 169 #[.val (.int v0), .val (.int v1), .val (.int v2), .val (.int v3), .val (.int v4), .val (.ref ob1), .val (.ref rd), .val (.int nd.toInt32), .val (.int kk), .val (.ref rb), .val (.int mm), .val (.int (own_ls mm)), .val (.int (1 : Int32)), .unset] []))
        refine own_of (fun _ hh_ => XS.aload X76.here hx rfl (hb hby at_169) rfl rfl hh_) ?_
        show own_Run p e below s _ _ _ (T76.setTop (mkF m 171 #[.val (.int v0), .val (.int v1), .val (.int v2), .val (.int v3), .val (.int v4), .val (.ref ob1), .val (.ref rd), .val (.int nd.toInt32), .val (.int kk), .val (.ref rb), .val (.int mm), .val (.int (own_ls mm)), .val (.int (1 : Int32)), .unset] [(.ref ob1)]))
        obtain ⟨cq80, kq80, q80a, q80b, q80c⟩ := isOf hZ (rfl : T76.heap = T76.heap) f77
        obtain ⟨_, _, ⟨T80, L80, k80, n80⟩, -, X80, ⟨Lc80, hQ80, l80, y80, z80⟩, st80⟩ := X76.virtualBack hx (y := (⟨"com/example/pagewright/pagewright/RecordCodec$Writer", "size", "()I"⟩ : MethodName)) (z := (⟨"com/example/pagewright/pagewright/RecordCodec$Writer", "size", "()I"⟩ : MethodName)) hown (mvT hZ (hw _ (List.mem_of_getElem? (i := 37) rfl))) (mvT hZ (hw _ (List.mem_of_getElem? (i := 38) rfl))) (notFace_of_selects (args := #[]) (mvT hZ (hw _ (List.mem_of_getElem? (i := 40) rfl)))) (mvT hZ (hw _ (List.mem_of_getElem? (i := 40) rfl))) (mvT hZ (hw _ (List.mem_of_getElem? (i := 39) rfl))) (by decide) (backOf (W := 0) (rmZ l Z a0 hw [] ob1 ((own_ls mm) + mm) T76.heap n0 (Nat.le_trans (Nat.le_trans (Nat.le_trans (Nat.le_trans (Nat.le_trans Z0 E1.1) K4.1) K6.1) K51.1) K76.1) fs76) hZ (hw _ (List.mem_of_getElem? (i := 41) rfl)) (hw _ (List.mem_of_getElem? (i := 2) rfl)) (by decide) (by decide)) q80a q80c (g := (mkF m 171 #[.val (.int v0), .val (.int v1), .val (.int v2), .val (.int v3), .val (.int v4), .val (.ref ob1), .val (.ref rd), .val (.int nd.toInt32), .val (.int kk), .val (.ref rb), .val (.int mm), .val (.int (own_ls mm)), .val (.int (1 : Int32)), .unset] [(.ref ob1)])) rfl (by rw [hml]; rfl) (Steps.refl _) (argsL := []) (rest := []) (lenOf own_pd5 rfl) rfl (by show 2 * 0 + _ ≤ _; exact Nat.le_of_eq rfl) (hb hby at_171) (fun _ _ => ⟨rfl, (rfl : T76.heap = T76.heap), (by decide : 5 + 0 ≤ _), (by decide : 33540 + 0 ≤ _)⟩)
        dsimp only [Pt.U, Pt.locs, Pt.cells, Pt.slots] at X80 l80 y80 z80 st80 hQ80
        subst l80 y80 z80
        obtain ⟨rfl, N80q, e80⟩ := hQ80
        have N80 := Fr.app N76 N80q
        refine own_tr st80 ?_
        show own_Run p e below s _ _ _ (T80.setTop (mkF m 174 #[.val (.int v0), .val (.int v1), .val (.int v2), .val (.int v3), .val (.int v4), .val (.ref ob1), .val (.ref rd), .val (.int nd.toInt32), .val (.int kk), .val (.ref rb), .val (.int mm), .val (.int (own_ls mm)), .val (.int (1 : Int32)), .unset] [(.int ((own_ls mm) + mm))]))
        refine own_of (fun _ hh_ => XS.iload X80.here hx rfl (hb hby at_174) rfl hh_) ?_
        show own_Run p e below s _ _ _ (T80.setTop (mkF m 176 #[.val (.int v0), .val (.int v1), .val (.int v2), .val (.int v3), .val (.int v4), .val (.ref ob1), .val (.ref rd), .val (.int nd.toInt32), .val (.int kk), .val (.ref rb), .val (.int mm), .val (.int (own_ls mm)), .val (.int (1 : Int32)), .unset] [(.int (1 : Int32)), (.int ((own_ls mm) + mm))]))
        refine own_of (fun _ hh_ => XS.iload X80.here hx rfl (hb hby at_176) rfl hh_) ?_
        show own_Run p e below s _ _ _ (T80.setTop (mkF m 178 #[.val (.int v0), .val (.int v1), .val (.int v2), .val (.int v3), .val (.int v4), .val (.ref ob1), .val (.ref rd), .val (.int nd.toInt32), .val (.int kk), .val (.ref rb), .val (.int mm), .val (.int (own_ls mm)), .val (.int (1 : Int32)), .unset] [(.int mm), (.int (1 : Int32)), (.int ((own_ls mm) + mm))]))
        refine own_of (fun _ hh_ => XS.iadd X80.here hx rfl (hb hby at_178) rfl hh_) ?_
        show own_Run p e below s _ _ _ (T80.setTop (mkF m 179 #[.val (.int v0), .val (.int v1), .val (.int v2), .val (.int v3), .val (.int v4), .val (.ref ob1), .val (.ref rd), .val (.int nd.toInt32), .val (.int kk), .val (.ref rb), .val (.int mm), .val (.int (own_ls mm)), .val (.int (1 : Int32)), .unset] [(.int ((1 : Int32) + mm)), (.int ((own_ls mm) + mm))]))
        have hc179_81 : ((own_ls mm) + mm) = ((1 : Int32) + mm) := by rw [show own_ls mm = (1 : Int32) from if_pos hc150_78]
        refine own_of (fun _ hh_ => XS.icmpYes X80.here hx rfl (pc0 := 179) (pc' := 184) rfl (hb hby at_179) rfl (teq hc179_81).1 (by decide) (by decide) hh_) ?_
        show own_Run p e below s _ _ _ (T80.setTop (mkF m 184 #[.val (.int v0), .val (.int v1), .val (.int v2), .val (.int v3), .val (.int v4), .val (.ref ob1), .val (.ref rd), .val (.int nd.toInt32), .val (.int kk), .val (.ref rb), .val (.int mm), .val (.int (own_ls mm)), .val (.int (1 : Int32)), .unset] []))
        refine own_of (fun _ hh_ => XS.aload X80.here hx rfl (hb hby at_184) rfl rfl hh_) ?_
        show own_Run p e below s _ _ _ (T80.setTop (mkF m 186 #[.val (.int v0), .val (.int v1), .val (.int v2), .val (.int v3), .val (.int v4), .val (.ref ob1), .val (.ref rd), .val (.int nd.toInt32), .val (.int kk), .val (.ref rb), .val (.int mm), .val (.int (own_ls mm)), .val (.int (1 : Int32)), .unset] [(.ref ob1)]))
        obtain ⟨cq82, kq82, q82a, q82b, q82c⟩ := isOf hZ e80 f77
        obtain ⟨_, _, ⟨T82, L82, k82, n82⟩, -, X82, ⟨Lc82, hQ82, l82, y82, z82⟩, st82⟩ := X80.virtualBack hx (y := (⟨"com/example/pagewright/pagewright/RecordCodec$Writer", "bytes", "()[B"⟩ : MethodName)) (z := (⟨"com/example/pagewright/pagewright/RecordCodec$Writer", "bytes", "()[B"⟩ : MethodName)) hown (mvT hZ (hw _ (List.mem_of_getElem? (i := 27) rfl))) (mvT hZ (hw _ (List.mem_of_getElem? (i := 28) rfl))) (notFace_of_selects (args := #[]) (mvT hZ (hw _ (List.mem_of_getElem? (i := 30) rfl)))) (mvT hZ (hw _ (List.mem_of_getElem? (i := 30) rfl))) (mvT hZ (hw _ (List.mem_of_getElem? (i := 29) rfl))) (by decide) (backOf (W := 0) (rmB l Z a0 hw [] ob1 re T76.heap n0 (Nat.le_trans (Nat.le_trans (Nat.le_trans (Nat.le_trans (Nat.le_trans Z0 E1.1) K4.1) K6.1) K51.1) K76.1) fb76) hZ (hw _ (List.mem_of_getElem? (i := 31) rfl)) (hw _ (List.mem_of_getElem? (i := 2) rfl)) (by decide) (by decide)) q82a q82c (g := (mkF m 186 #[.val (.int v0), .val (.int v1), .val (.int v2), .val (.int v3), .val (.int v4), .val (.ref ob1), .val (.ref rd), .val (.int nd.toInt32), .val (.int kk), .val (.ref rb), .val (.int mm), .val (.int (own_ls mm)), .val (.int (1 : Int32)), .unset] [(.ref ob1)])) rfl (by rw [hml]; rfl) (Steps.refl _) (argsL := []) (rest := []) (lenOf own_pd4 rfl) rfl (by show 2 * 0 + _ ≤ _; exact Nat.le_of_eq rfl) (hb hby at_186) (fun _ _ => ⟨rfl, e80, (by decide : 5 + 0 ≤ _), (by decide : 33540 + 0 ≤ _)⟩)
        dsimp only [Pt.U, Pt.locs, Pt.cells, Pt.slots] at X82 l82 y82 z82 st82 hQ82
        subst l82 y82 z82
        obtain ⟨rfl, N82q, e82⟩ := hQ82
        have N82 := Fr.app N80 N82q
        refine own_tr st82 ?_
        show own_Run p e below s _ _ _ (T82.setTop (mkF m 189 #[.val (.int v0), .val (.int v1), .val (.int v2), .val (.int v3), .val (.int v4), .val (.ref ob1), .val (.ref rd), .val (.int nd.toInt32), .val (.int kk), .val (.ref rb), .val (.int mm), .val (.int (own_ls mm)), .val (.int (1 : Int32)), .unset] [(.ref re)]))
        refine own_of (fun _ hh_ => XS.astore X82.here hx rfl (hb hby at_189) rfl rfl (l' := #[.val (.int v0), .val (.int v1), .val (.int v2), .val (.int v3), .val (.int v4), .val (.ref ob1), .val (.ref rd), .val (.int nd.toInt32), .val (.int kk), .val (.ref rb), .val (.int mm), .val (.int (own_ls mm)), .val (.int (1 : Int32)), .val (.ref re)]) rfl hh_) ?_
        show own_Run p e below s _ _ _ (T82.setTop (mkF m 191 #[.val (.int v0), .val (.int v1), .val (.int v2), .val (.int v3), .val (.int v4), .val (.ref ob1), .val (.ref rd), .val (.int nd.toInt32), .val (.int kk), .val (.ref rb), .val (.int mm), .val (.int (own_ls mm)), .val (.int (1 : Int32)), .val (.ref re)] []))
        refine own_of (fun _ hh_ => XS.iload X82.here hx rfl (hb hby at_191) rfl hh_) ?_
        show own_Run p e below s _ _ _ (T82.setTop (mkF m 193 #[.val (.int v0), .val (.int v1), .val (.int v2), .val (.int v3), .val (.int v4), .val (.ref ob1), .val (.ref rd), .val (.int nd.toInt32), .val (.int kk), .val (.ref rb), .val (.int mm), .val (.int (own_ls mm)), .val (.int (1 : Int32)), .val (.ref re)] [(.int mm)]))
        refine own_of (fun _ hh_ => XS.sipush X82.here hx rfl (hb hby at_193) hh_) ?_
        show own_Run p e below s _ _ _ (T82.setTop (mkF m 196 #[.val (.int v0), .val (.int v1), .val (.int v2), .val (.int v3), .val (.int v4), .val (.ref ob1), .val (.ref rd), .val (.int nd.toInt32), .val (.int kk), .val (.ref rb), .val (.int mm), .val (.int (own_ls mm)), .val (.int (1 : Int32)), .val (.ref re)] [(.int (128 : Int32)), (.int mm)]))
        have hc196_83 : mm < (128 : Int32) := hc150_78
        refine own_of (fun _ hh_ => XS.icmpNo X82.here hx rfl (hb hby at_196) rfl (tlt hc196_83).2.1 hh_) ?_
        show own_Run p e below s _ _ _ (T82.setTop (mkF m 199 #[.val (.int v0), .val (.int v1), .val (.int v2), .val (.int v3), .val (.int v4), .val (.ref ob1), .val (.ref rd), .val (.int nd.toInt32), .val (.int kk), .val (.ref rb), .val (.int mm), .val (.int (own_ls mm)), .val (.int (1 : Int32)), .val (.ref re)] []))
        have hlz : (0 : Int32).toNatClampNeg < ne2 := by obtain ⟨z1, z2⟩ := hb2; have z3 := own_ls_i mm; show 0 < ne2; omega
        refine own_of (fun _ hh_ => XS.aload X82.here hx rfl (hb hby at_199) rfl rfl hh_) ?_
        show own_Run p e below s _ _ _ (T82.setTop (mkF m 201 #[.val (.int v0), .val (.int v1), .val (.int v2), .val (.int v3), .val (.int v4), .val (.ref ob1), .val (.ref rd), .val (.int nd.toInt32), .val (.int kk), .val (.ref rb), .val (.int mm), .val (.int (own_ls mm)), .val (.int (1 : Int32)), .val (.ref re)] [(.ref re)]))
        refine own_of (fun _ hh_ => XS.iconst X82.here hx rfl (hb hby at_201) hh_) ?_
        show own_Run p e below s _ _ _ (T82.setTop (mkF m 202 #[.val (.int v0), .val (.int v1), .val (.int v2), .val (.int v3), .val (.int v4), .val (.ref ob1), .val (.ref rd), .val (.int nd.toInt32), .val (.int kk), .val (.ref rb), .val (.int mm), .val (.int (own_ls mm)), .val (.int (1 : Int32)), .val (.ref re)] [(.int (0 : Int32)), (.ref re)]))
        refine own_bal X82 hx hZ e82 V76 (j := (0 : Int32)) (w := (fee 0)) (by decide) hlz rfl (hb hby at_202) ?_
        show own_Run p e below s _ _ _ (T82.setTop (mkF m 203 #[.val (.int v0), .val (.int v1), .val (.int v2), .val (.int v3), .val (.int v4), .val (.ref ob1), .val (.ref rd), .val (.int nd.toInt32), .val (.int kk), .val (.ref rb), .val (.int mm), .val (.int (own_ls mm)), .val (.int (1 : Int32)), .val (.ref re)] [(.int (fee 0))]))
        refine own_of (fun _ hh_ => XS.iload X82.here hx rfl (hb hby at_203) rfl hh_) ?_
        show own_Run p e below s _ _ _ (T82.setTop (mkF m 205 #[.val (.int v0), .val (.int v1), .val (.int v2), .val (.int v3), .val (.int v4), .val (.ref ob1), .val (.ref rd), .val (.int nd.toInt32), .val (.int kk), .val (.ref rb), .val (.int mm), .val (.int (own_ls mm)), .val (.int (1 : Int32)), .val (.ref re)] [(.int mm), (.int (fee 0))]))
        refine own_of (fun _ hh_ => XS.i2b X82.here hx rfl (hb hby at_205) rfl hh_) ?_
        show own_Run p e below s _ _ _ (T82.setTop (mkF m 206 #[.val (.int v0), .val (.int v1), .val (.int v2), .val (.int v3), .val (.int v4), .val (.ref ob1), .val (.ref rd), .val (.int nd.toInt32), .val (.int kk), .val (.ref rb), .val (.int mm), .val (.int (own_ls mm)), .val (.int (1 : Int32)), .val (.ref re)] [(.int (mm.toInt8.toInt32)), (.int (fee 0))]))
        have hc206_84 : (fee 0) = (mm.toInt8.toInt32) := by rcases hct2 with ⟨y1, y2⟩ | ⟨y1, y2, y3⟩; rw [y2, own_bb]; exact absurd hc150_78 y1
        refine own_of (fun _ hh_ => XS.icmpNo X82.here hx rfl (hb hby at_206) rfl (teq hc206_84).2 hh_) ?_
        show own_Run p e below s _ _ _ (T82.setTop (mkF m 209 #[.val (.int v0), .val (.int v1), .val (.int v2), .val (.int v3), .val (.int v4), .val (.ref ob1), .val (.ref rd), .val (.int nd.toInt32), .val (.int kk), .val (.ref rb), .val (.int mm), .val (.int (own_ls mm)), .val (.int (1 : Int32)), .val (.ref re)] []))
        refine own_of (fun _ hh_ => XS.iconst X82.here hx rfl (hb hby at_209) hh_) ?_
        show own_Run p e below s _ _ _ (T82.setTop (mkF m 210 #[.val (.int v0), .val (.int v1), .val (.int v2), .val (.int v3), .val (.int v4), .val (.ref ob1), .val (.ref rd), .val (.int nd.toInt32), .val (.int kk), .val (.ref rb), .val (.int mm), .val (.int (own_ls mm)), .val (.int (1 : Int32)), .val (.ref re)] [(.int (1 : Int32))]))
        refine own_of (fun _ hh_ => XS.goto X82.here hx rfl (pc0 := 210) (pc' := 214) rfl (hb hby at_210) (by decide) (by decide) hh_) ?_
        show own_Run p e below s _ _ _ (T82.setTop (mkF m 214 #[.val (.int v0), .val (.int v1), .val (.int v2), .val (.int v3), .val (.int v4), .val (.ref ob1), .val (.ref rd), .val (.int nd.toInt32), .val (.int kk), .val (.ref rb), .val (.int mm), .val (.int (own_ls mm)), .val (.int (1 : Int32)), .val (.ref re)] [(.int (1 : Int32))]))
        exact own_retN X82 hx (t := .boolean) hret hlk (by simp) (hb hby at_214) ⟨rfl, N82⟩ (by decide) (by decide)
      · refine own_of (fun _ hh_ => XS.icmpYes X76.here hx rfl (pc0 := 150) (pc' := 157) rfl (hb hby at_150) rfl (flt hc150_78).2.1 (by decide) (by decide) hh_) ?_
        show own_Run p e below s _ _ _ (T76.setTop (mkF m 157 #[.val (.int v0), .val (.int v1), .val (.int v2), .val (.int v3), .val (.int v4), .val (.ref ob1), .val (.ref rd), .val (.int nd.toInt32), .val (.int kk), .val (.ref rb), .val (.int mm), .val (.int (own_ls mm)), .unset, .unset] []))
        refine own_of (fun _ hh_ => XS.iconst X76.here hx rfl (hb hby at_157) hh_) ?_
        show own_Run p e below s _ _ _ (T76.setTop (mkF m 158 #[.val (.int v0), .val (.int v1), .val (.int v2), .val (.int v3), .val (.int v4), .val (.ref ob1), .val (.ref rd), .val (.int nd.toInt32), .val (.int kk), .val (.ref rb), .val (.int mm), .val (.int (own_ls mm)), .unset, .unset] [(.int (2 : Int32))]))
        refine own_of (fun _ hh_ => XS.istore X76.here hx rfl (hb hby at_158) rfl (l' := #[.val (.int v0), .val (.int v1), .val (.int v2), .val (.int v3), .val (.int v4), .val (.ref ob1), .val (.ref rd), .val (.int nd.toInt32), .val (.int kk), .val (.ref rb), .val (.int mm), .val (.int (own_ls mm)), .val (.int (2 : Int32)), .unset]) rfl hh_) ?_
        show own_Run p e below s _ _ _ (T76.setTop (mkF m 160 #[.val (.int v0), .val (.int v1), .val (.int v2), .val (.int v3), .val (.int v4), .val (.ref ob1), .val (.ref rd), .val (.int nd.toInt32), .val (.int kk), .val (.ref rb), .val (.int mm), .val (.int (own_ls mm)), .val (.int (2 : Int32)), .unset] []))
        refine own_of (fun _ hh_ => XS.iload X76.here hx rfl (hb hby at_160) rfl hh_) ?_
        show own_Run p e below s _ _ _ (T76.setTop (mkF m 162 #[.val (.int v0), .val (.int v1), .val (.int v2), .val (.int v3), .val (.int v4), .val (.ref ob1), .val (.ref rd), .val (.int nd.toInt32), .val (.int kk), .val (.ref rb), .val (.int mm), .val (.int (own_ls mm)), .val (.int (2 : Int32)), .unset] [(.int (own_ls mm))]))
        refine own_of (fun _ hh_ => XS.iload X76.here hx rfl (hb hby at_162) rfl hh_) ?_
        show own_Run p e below s _ _ _ (T76.setTop (mkF m 164 #[.val (.int v0), .val (.int v1), .val (.int v2), .val (.int v3), .val (.int v4), .val (.ref ob1), .val (.ref rd), .val (.int nd.toInt32), .val (.int kk), .val (.ref rb), .val (.int mm), .val (.int (own_ls mm)), .val (.int (2 : Int32)), .unset] [(.int (2 : Int32)), (.int (own_ls mm))]))
        have hc164_85 : (own_ls mm) = (2 : Int32) := if_neg hc150_78
        refine own_of (fun _ hh_ => XS.icmpYes X76.here hx rfl (pc0 := 164) (pc' := 169) rfl (hb hby at_164) rfl (teq hc164_85).1 (by decide) (by decide) hh_) ?_
        show own_Run p e below s _ _ _ (T76.setTop (mkF m 169 #[.val (.int v0), .val (.int v1), .val (.int v2), .val (.int v3), .val (.int v4), .val (.ref ob1), .val (.ref rd), .val (.int nd.toInt32), .val (.int kk), .val (.ref rb), .val (.int mm), .val (.int (own_ls mm)), .val (.int (2 : Int32)), .unset] []))
        refine own_of (fun _ hh_ => XS.aload X76.here hx rfl (hb hby at_169) rfl rfl hh_) ?_
        show own_Run p e below s _ _ _ (T76.setTop (mkF m 171 #[.val (.int v0), .val (.int v1), .val (.int v2), .val (.int v3), .val (.int v4), .val (.ref ob1), .val (.ref rd), .val (.int nd.toInt32), .val (.int kk), .val (.ref rb), .val (.int mm), .val (.int (own_ls mm)), .val (.int (2 : Int32)), .unset] [(.ref ob1)]))
        obtain ⟨cq86, kq86, q86a, q86b, q86c⟩ := isOf hZ (rfl : T76.heap = T76.heap) f77
        obtain ⟨_, _, ⟨T86, L86, k86, n86⟩, -, X86, ⟨Lc86, hQ86, l86, y86, z86⟩, st86⟩ := X76.virtualBack hx (y := (⟨"com/example/pagewright/pagewright/RecordCodec$Writer", "size", "()I"⟩ : MethodName)) (z := (⟨"com/example/pagewright/pagewright/RecordCodec$Writer", "size", "()I"⟩ : MethodName)) hown (mvT hZ (hw _ (List.mem_of_getElem? (i := 37) rfl))) (mvT hZ (hw _ (List.mem_of_getElem? (i := 38) rfl))) (notFace_of_selects (args := #[]) (mvT hZ (hw _ (List.mem_of_getElem? (i := 40) rfl)))) (mvT hZ (hw _ (List.mem_of_getElem? (i := 40) rfl))) (mvT hZ (hw _ (List.mem_of_getElem? (i := 39) rfl))) (by decide) (backOf (W := 0) (rmZ l Z a0 hw [] ob1 ((own_ls mm) + mm) T76.heap n0 (Nat.le_trans (Nat.le_trans (Nat.le_trans (Nat.le_trans (Nat.le_trans Z0 E1.1) K4.1) K6.1) K51.1) K76.1) fs76) hZ (hw _ (List.mem_of_getElem? (i := 41) rfl)) (hw _ (List.mem_of_getElem? (i := 2) rfl)) (by decide) (by decide)) q86a q86c (g := (mkF m 171 #[.val (.int v0), .val (.int v1), .val (.int v2), .val (.int v3), .val (.int v4), .val (.ref ob1), .val (.ref rd), .val (.int nd.toInt32), .val (.int kk), .val (.ref rb), .val (.int mm), .val (.int (own_ls mm)), .val (.int (2 : Int32)), .unset] [(.ref ob1)])) rfl (by rw [hml]; rfl) (Steps.refl _) (argsL := []) (rest := []) (lenOf own_pd5 rfl) rfl (by show 2 * 0 + _ ≤ _; exact Nat.le_of_eq rfl) (hb hby at_171) (fun _ _ => ⟨rfl, (rfl : T76.heap = T76.heap), (by decide : 5 + 0 ≤ _), (by decide : 33540 + 0 ≤ _)⟩)
        dsimp only [Pt.U, Pt.locs, Pt.cells, Pt.slots] at X86 l86 y86 z86 st86 hQ86
        subst l86 y86 z86
        obtain ⟨rfl, N86q, e86⟩ := hQ86
        have N86 := Fr.app N76 N86q
        refine own_tr st86 ?_
        show own_Run p e below s _ _ _ (T86.setTop (mkF m 174 #[.val (.int v0), .val (.int v1), .val (.int v2), .val (.int v3), .val (.int v4), .val (.ref ob1), .val (.ref rd), .val (.int nd.toInt32), .val (.int kk), .val (.ref rb), .val (.int mm), .val (.int (own_ls mm)), .val (.int (2 : Int32)), .unset] [(.int ((own_ls mm) + mm))]))
        refine own_of (fun _ hh_ => XS.iload X86.here hx rfl (hb hby at_174) rfl hh_) ?_
        show own_Run p e below s _ _ _ (T86.setTop (mkF m 176 #[.val (.int v0), .val (.int v1), .val (.int v2), .val (.int v3), .val (.int v4), .val (.ref ob1), .val (.ref rd), .val (.int nd.toInt32), .val (.int kk), .val (.ref rb), .val (.int mm), .val (.int (own_ls mm)), .val (.int (2 : Int32)), .unset] [(.int (2 : Int32)), (.int ((own_ls mm) + mm))]))
        refine own_of (fun _ hh_ => XS.iload X86.here hx rfl (hb hby at_176) rfl hh_) ?_
        show own_Run p e below s _ _ _ (T86.setTop (mkF m 178 #[.val (.int v0), .val (.int v1), .val (.int v2), .val (.int v3), .val (.int v4), .val (.ref ob1), .val (.ref rd), .val (.int nd.toInt32), .val (.int kk), .val (.ref rb), .val (.int mm), .val (.int (own_ls mm)), .val (.int (2 : Int32)), .unset] [(.int mm), (.int (2 : Int32)), (.int ((own_ls mm) + mm))]))
        refine own_of (fun _ hh_ => XS.iadd X86.here hx rfl (hb hby at_178) rfl hh_) ?_
        show own_Run p e below s _ _ _ (T86.setTop (mkF m 179 #[.val (.int v0), .val (.int v1), .val (.int v2), .val (.int v3), .val (.int v4), .val (.ref ob1), .val (.ref rd), .val (.int nd.toInt32), .val (.int kk), .val (.ref rb), .val (.int mm), .val (.int (own_ls mm)), .val (.int (2 : Int32)), .unset] [(.int ((2 : Int32) + mm)), (.int ((own_ls mm) + mm))]))
        have hc179_87 : ((own_ls mm) + mm) = ((2 : Int32) + mm) := by rw [show own_ls mm = (2 : Int32) from if_neg hc150_78]
        refine own_of (fun _ hh_ => XS.icmpYes X86.here hx rfl (pc0 := 179) (pc' := 184) rfl (hb hby at_179) rfl (teq hc179_87).1 (by decide) (by decide) hh_) ?_
        show own_Run p e below s _ _ _ (T86.setTop (mkF m 184 #[.val (.int v0), .val (.int v1), .val (.int v2), .val (.int v3), .val (.int v4), .val (.ref ob1), .val (.ref rd), .val (.int nd.toInt32), .val (.int kk), .val (.ref rb), .val (.int mm), .val (.int (own_ls mm)), .val (.int (2 : Int32)), .unset] []))
        refine own_of (fun _ hh_ => XS.aload X86.here hx rfl (hb hby at_184) rfl rfl hh_) ?_
        show own_Run p e below s _ _ _ (T86.setTop (mkF m 186 #[.val (.int v0), .val (.int v1), .val (.int v2), .val (.int v3), .val (.int v4), .val (.ref ob1), .val (.ref rd), .val (.int nd.toInt32), .val (.int kk), .val (.ref rb), .val (.int mm), .val (.int (own_ls mm)), .val (.int (2 : Int32)), .unset] [(.ref ob1)]))
        obtain ⟨cq88, kq88, q88a, q88b, q88c⟩ := isOf hZ e86 f77
        obtain ⟨_, _, ⟨T88, L88, k88, n88⟩, -, X88, ⟨Lc88, hQ88, l88, y88, z88⟩, st88⟩ := X86.virtualBack hx (y := (⟨"com/example/pagewright/pagewright/RecordCodec$Writer", "bytes", "()[B"⟩ : MethodName)) (z := (⟨"com/example/pagewright/pagewright/RecordCodec$Writer", "bytes", "()[B"⟩ : MethodName)) hown (mvT hZ (hw _ (List.mem_of_getElem? (i := 27) rfl))) (mvT hZ (hw _ (List.mem_of_getElem? (i := 28) rfl))) (notFace_of_selects (args := #[]) (mvT hZ (hw _ (List.mem_of_getElem? (i := 30) rfl)))) (mvT hZ (hw _ (List.mem_of_getElem? (i := 30) rfl))) (mvT hZ (hw _ (List.mem_of_getElem? (i := 29) rfl))) (by decide) (backOf (W := 0) (rmB l Z a0 hw [] ob1 re T76.heap n0 (Nat.le_trans (Nat.le_trans (Nat.le_trans (Nat.le_trans (Nat.le_trans Z0 E1.1) K4.1) K6.1) K51.1) K76.1) fb76) hZ (hw _ (List.mem_of_getElem? (i := 31) rfl)) (hw _ (List.mem_of_getElem? (i := 2) rfl)) (by decide) (by decide)) q88a q88c (g := (mkF m 186 #[.val (.int v0), .val (.int v1), .val (.int v2), .val (.int v3), .val (.int v4), .val (.ref ob1), .val (.ref rd), .val (.int nd.toInt32), .val (.int kk), .val (.ref rb), .val (.int mm), .val (.int (own_ls mm)), .val (.int (2 : Int32)), .unset] [(.ref ob1)])) rfl (by rw [hml]; rfl) (Steps.refl _) (argsL := []) (rest := []) (lenOf own_pd4 rfl) rfl (by show 2 * 0 + _ ≤ _; exact Nat.le_of_eq rfl) (hb hby at_186) (fun _ _ => ⟨rfl, e86, (by decide : 5 + 0 ≤ _), (by decide : 33540 + 0 ≤ _)⟩)
        dsimp only [Pt.U, Pt.locs, Pt.cells, Pt.slots] at X88 l88 y88 z88 st88 hQ88
        subst l88 y88 z88
        obtain ⟨rfl, N88q, e88⟩ := hQ88
        have N88 := Fr.app N86 N88q
        refine own_tr st88 ?_
        show own_Run p e below s _ _ _ (T88.setTop (mkF m 189 #[.val (.int v0), .val (.int v1), .val (.int v2), .val (.int v3), .val (.int v4), .val (.ref ob1), .val (.ref rd), .val (.int nd.toInt32), .val (.int kk), .val (.ref rb), .val (.int mm), .val (.int (own_ls mm)), .val (.int (2 : Int32)), .unset] [(.ref re)]))
        refine own_of (fun _ hh_ => XS.astore X88.here hx rfl (hb hby at_189) rfl rfl (l' := #[.val (.int v0), .val (.int v1), .val (.int v2), .val (.int v3), .val (.int v4), .val (.ref ob1), .val (.ref rd), .val (.int nd.toInt32), .val (.int kk), .val (.ref rb), .val (.int mm), .val (.int (own_ls mm)), .val (.int (2 : Int32)), .val (.ref re)]) rfl hh_) ?_
        show own_Run p e below s _ _ _ (T88.setTop (mkF m 191 #[.val (.int v0), .val (.int v1), .val (.int v2), .val (.int v3), .val (.int v4), .val (.ref ob1), .val (.ref rd), .val (.int nd.toInt32), .val (.int kk), .val (.ref rb), .val (.int mm), .val (.int (own_ls mm)), .val (.int (2 : Int32)), .val (.ref re)] []))
        refine own_of (fun _ hh_ => XS.iload X88.here hx rfl (hb hby at_191) rfl hh_) ?_
        show own_Run p e below s _ _ _ (T88.setTop (mkF m 193 #[.val (.int v0), .val (.int v1), .val (.int v2), .val (.int v3), .val (.int v4), .val (.ref ob1), .val (.ref rd), .val (.int nd.toInt32), .val (.int kk), .val (.ref rb), .val (.int mm), .val (.int (own_ls mm)), .val (.int (2 : Int32)), .val (.ref re)] [(.int mm)]))
        refine own_of (fun _ hh_ => XS.sipush X88.here hx rfl (hb hby at_193) hh_) ?_
        show own_Run p e below s _ _ _ (T88.setTop (mkF m 196 #[.val (.int v0), .val (.int v1), .val (.int v2), .val (.int v3), .val (.int v4), .val (.ref ob1), .val (.ref rd), .val (.int nd.toInt32), .val (.int kk), .val (.ref rb), .val (.int mm), .val (.int (own_ls mm)), .val (.int (2 : Int32)), .val (.ref re)] [(.int (128 : Int32)), (.int mm)]))
        have hc196_89 : ¬ (mm < (128 : Int32)) := hc150_78
        refine own_of (fun _ hh_ => XS.icmpYes X88.here hx rfl (pc0 := 196) (pc' := 215) rfl (hb hby at_196) rfl (flt hc196_89).2.1 (by decide) (by decide) hh_) ?_
        show own_Run p e below s _ _ _ (T88.setTop (mkF m 215 #[.val (.int v0), .val (.int v1), .val (.int v2), .val (.int v3), .val (.int v4), .val (.ref ob1), .val (.ref rd), .val (.int nd.toInt32), .val (.int kk), .val (.ref rb), .val (.int mm), .val (.int (own_ls mm)), .val (.int (2 : Int32)), .val (.ref re)] []))
        have hlz : (0 : Int32).toNatClampNeg < ne2 := by obtain ⟨z1, z2⟩ := hb2; have z3 := own_ls_i mm; show 0 < ne2; omega
        have hlo : (1 : Int32).toNatClampNeg < ne2 := by obtain ⟨z1, z2⟩ := hb2; have z3 := own_ls_i mm; have z4 := mt Int32.lt_iff_toInt_lt.mpr hc150_78; have z5 : (128 : Int32).toInt = 128 := rfl; show 1 < ne2; omega
        refine own_of (fun _ hh_ => XS.aload X88.here hx rfl (hb hby at_215) rfl rfl hh_) ?_
        show own_Run p e below s _ _ _ (T88.setTop (mkF m 217 #[.val (.int v0), .val (.int v1), .val (.int v2), .val (.int v3), .val (.int v4), .val (.ref ob1), .val (.ref rd), .val (.int nd.toInt32), .val (.int kk), .val (.ref rb), .val (.int mm), .val (.int (own_ls mm)), .val (.int (2 : Int32)), .val (.ref re)] [(.ref re)]))
        refine own_of (fun _ hh_ => XS.iconst X88.here hx rfl (hb hby at_217) hh_) ?_
        show own_Run p e below s _ _ _ (T88.setTop (mkF m 218 #[.val (.int v0), .val (.int v1), .val (.int v2), .val (.int v3), .val (.int v4), .val (.ref ob1), .val (.ref rd), .val (.int nd.toInt32), .val (.int kk), .val (.ref rb), .val (.int mm), .val (.int (own_ls mm)), .val (.int (2 : Int32)), .val (.ref re)] [(.int (0 : Int32)), (.ref re)]))
        refine own_bal X88 hx hZ e88 V76 (j := (0 : Int32)) (w := (fee 0)) (by decide) hlz rfl (hb hby at_218) ?_
        show own_Run p e below s _ _ _ (T88.setTop (mkF m 219 #[.val (.int v0), .val (.int v1), .val (.int v2), .val (.int v3), .val (.int v4), .val (.ref ob1), .val (.ref rd), .val (.int nd.toInt32), .val (.int kk), .val (.ref rb), .val (.int mm), .val (.int (own_ls mm)), .val (.int (2 : Int32)), .val (.ref re)] [(.int (fee 0))]))
        refine own_of (fun _ hh_ => XS.iload X88.here hx rfl (hb hby at_219) rfl hh_) ?_
        show own_Run p e below s _ _ _ (T88.setTop (mkF m 221 #[.val (.int v0), .val (.int v1), .val (.int v2), .val (.int v3), .val (.int v4), .val (.ref ob1), .val (.ref rd), .val (.int nd.toInt32), .val (.int kk), .val (.ref rb), .val (.int mm), .val (.int (own_ls mm)), .val (.int (2 : Int32)), .val (.ref re)] [(.int mm), (.int (fee 0))]))
        refine own_of (fun _ hh_ => XS.sipush X88.here hx rfl (hb hby at_221) hh_) ?_
        show own_Run p e below s _ _ _ (T88.setTop (mkF m 224 #[.val (.int v0), .val (.int v1), .val (.int v2), .val (.int v3), .val (.int v4), .val (.ref ob1), .val (.ref rd), .val (.int nd.toInt32), .val (.int kk), .val (.ref rb), .val (.int mm), .val (.int (own_ls mm)), .val (.int (2 : Int32)), .val (.ref re)] [(.int (128 : Int32)), (.int mm), (.int (fee 0))]))
        refine own_of (fun _ hh_ => XS.ior X88.here hx rfl (hb hby at_224) rfl hh_) ?_
        show own_Run p e below s _ _ _ (T88.setTop (mkF m 225 #[.val (.int v0), .val (.int v1), .val (.int v2), .val (.int v3), .val (.int v4), .val (.ref ob1), .val (.ref rd), .val (.int nd.toInt32), .val (.int kk), .val (.ref rb), .val (.int mm), .val (.int (own_ls mm)), .val (.int (2 : Int32)), .val (.ref re)] [(.int (mm ||| (128 : Int32))), (.int (fee 0))]))
        refine own_of (fun _ hh_ => XS.i2b X88.here hx rfl (hb hby at_225) rfl hh_) ?_
        show own_Run p e below s _ _ _ (T88.setTop (mkF m 226 #[.val (.int v0), .val (.int v1), .val (.int v2), .val (.int v3), .val (.int v4), .val (.ref ob1), .val (.ref rd), .val (.int nd.toInt32), .val (.int kk), .val (.ref rb), .val (.int mm), .val (.int (own_ls mm)), .val (.int (2 : Int32)), .val (.ref re)] [(.int ((mm ||| (128 : Int32)).toInt8.toInt32)), (.int (fee 0))]))
        have hc226_90 : (fee 0) = ((mm ||| (128 : Int32)).toInt8.toInt32) := by rcases hct2 with ⟨y1, y2⟩ | ⟨y1, y2, y3⟩; exact absurd y1 hc150_78; rw [y2, own_bb]
        refine own_of (fun _ hh_ => XS.icmpNo X88.here hx rfl (hb hby at_226) rfl (teq hc226_90).2 hh_) ?_
        show own_Run p e below s _ _ _ (T88.setTop (mkF m 229 #[.val (.int v0), .val (.int v1), .val (.int v2), .val (.int v3), .val (.int v4), .val (.ref ob1), .val (.ref rd), .val (.int nd.toInt32), .val (.int kk), .val (.ref rb), .val (.int mm), .val (.int (own_ls mm)), .val (.int (2 : Int32)), .val (.ref re)] []))
        refine own_of (fun _ hh_ => XS.aload X88.here hx rfl (hb hby at_229) rfl rfl hh_) ?_
        show own_Run p e below s _ _ _ (T88.setTop (mkF m 231 #[.val (.int v0), .val (.int v1), .val (.int v2), .val (.int v3), .val (.int v4), .val (.ref ob1), .val (.ref rd), .val (.int nd.toInt32), .val (.int kk), .val (.ref rb), .val (.int mm), .val (.int (own_ls mm)), .val (.int (2 : Int32)), .val (.ref re)] [(.ref re)]))
        refine own_of (fun _ hh_ => XS.iconst X88.here hx rfl (hb hby at_231) hh_) ?_
        show own_Run p e below s _ _ _ (T88.setTop (mkF m 232 #[.val (.int v0), .val (.int v1), .val (.int v2), .val (.int v3), .val (.int v4), .val (.ref ob1), .val (.ref rd), .val (.int nd.toInt32), .val (.int kk), .val (.ref rb), .val (.int mm), .val (.int (own_ls mm)), .val (.int (2 : Int32)), .val (.ref re)] [(.int (1 : Int32)), (.ref re)]))
        refine own_bal X88 hx hZ e88 V76 (j := (1 : Int32)) (w := (fee 1)) (by decide) hlo rfl (hb hby at_232) ?_
        show own_Run p e below s _ _ _ (T88.setTop (mkF m 233 #[.val (.int v0), .val (.int v1), .val (.int v2), .val (.int v3), .val (.int v4), .val (.ref ob1), .val (.ref rd), .val (.int nd.toInt32), .val (.int kk), .val (.ref rb), .val (.int mm), .val (.int (own_ls mm)), .val (.int (2 : Int32)), .val (.ref re)] [(.int (fee 1))]))
        refine own_of (fun _ hh_ => XS.iload X88.here hx rfl (hb hby at_233) rfl hh_) ?_
        show own_Run p e below s _ _ _ (T88.setTop (mkF m 235 #[.val (.int v0), .val (.int v1), .val (.int v2), .val (.int v3), .val (.int v4), .val (.ref ob1), .val (.ref rd), .val (.int nd.toInt32), .val (.int kk), .val (.ref rb), .val (.int mm), .val (.int (own_ls mm)), .val (.int (2 : Int32)), .val (.ref re)] [(.int mm), (.int (fee 1))]))
        refine own_of (fun _ hh_ => XS.bipush X88.here hx rfl (hb hby at_235) hh_) ?_
        show own_Run p e below s _ _ _ (T88.setTop (mkF m 237 #[.val (.int v0), .val (.int v1), .val (.int v2), .val (.int v3), .val (.int v4), .val (.ref ob1), .val (.ref rd), .val (.int nd.toInt32), .val (.int kk), .val (.ref rb), .val (.int mm), .val (.int (own_ls mm)), .val (.int (2 : Int32)), .val (.ref re)] [(.int (7 : Int32)), (.int mm), (.int (fee 1))]))
        refine own_of (fun _ hh_ => XS.iushr X88.here hx rfl (hb hby at_237) rfl hh_) ?_
        show own_Run p e below s _ _ _ (T88.setTop (mkF m 238 #[.val (.int v0), .val (.int v1), .val (.int v2), .val (.int v3), .val (.int v4), .val (.ref ob1), .val (.ref rd), .val (.int nd.toInt32), .val (.int kk), .val (.ref rb), .val (.int mm), .val (.int (own_ls mm)), .val (.int (2 : Int32)), .val (.ref re)] [(.int ((mm.toUInt32 >>> ((7 : Int32) &&& 31).toUInt32).toInt32)), (.int (fee 1))]))
        refine own_of (fun _ hh_ => XS.i2b X88.here hx rfl (hb hby at_238) rfl hh_) ?_
        show own_Run p e below s _ _ _ (T88.setTop (mkF m 239 #[.val (.int v0), .val (.int v1), .val (.int v2), .val (.int v3), .val (.int v4), .val (.ref ob1), .val (.ref rd), .val (.int nd.toInt32), .val (.int kk), .val (.ref rb), .val (.int mm), .val (.int (own_ls mm)), .val (.int (2 : Int32)), .val (.ref re)] [(.int (((mm.toUInt32 >>> ((7 : Int32) &&& 31).toUInt32).toInt32).toInt8.toInt32)), (.int (fee 1))]))
        have hc239_91 : (fee 1) = (((mm.toUInt32 >>> ((7 : Int32) &&& 31).toUInt32).toInt32).toInt8.toInt32) := by rcases hct2 with ⟨y1, y2⟩ | ⟨y1, y2, y3⟩; exact absurd y1 hc150_78; rw [y3, own_bb]
        refine own_of (fun _ hh_ => XS.icmpNo X88.here hx rfl (hb hby at_239) rfl (teq hc239_91).2 hh_) ?_
        show own_Run p e below s _ _ _ (T88.setTop (mkF m 242 #[.val (.int v0), .val (.int v1), .val (.int v2), .val (.int v3), .val (.int v4), .val (.ref ob1), .val (.ref rd), .val (.int nd.toInt32), .val (.int kk), .val (.ref rb), .val (.int mm), .val (.int (own_ls mm)), .val (.int (2 : Int32)), .val (.ref re)] []))
        refine own_of (fun _ hh_ => XS.iconst X88.here hx rfl (hb hby at_242) hh_) ?_
        show own_Run p e below s _ _ _ (T88.setTop (mkF m 243 #[.val (.int v0), .val (.int v1), .val (.int v2), .val (.int v3), .val (.int v4), .val (.ref ob1), .val (.ref rd), .val (.int nd.toInt32), .val (.int kk), .val (.ref rb), .val (.int mm), .val (.int (own_ls mm)), .val (.int (2 : Int32)), .val (.ref re)] [(.int (1 : Int32))]))
        refine own_of (fun _ hh_ => XS.goto X88.here hx rfl (pc0 := 243) (pc' := 247) rfl (hb hby at_243) (by decide) (by decide) hh_) ?_
        show own_Run p e below s _ _ _ (T88.setTop (mkF m 247 #[.val (.int v0), .val (.int v1), .val (.int v2), .val (.int v3), .val (.int v4), .val (.ref ob1), .val (.ref rd), .val (.int nd.toInt32), .val (.int kk), .val (.ref rb), .val (.int mm), .val (.int (own_ls mm)), .val (.int (2 : Int32)), .val (.ref re)] [(.int (1 : Int32))]))
        exact own_retN X88 hx (t := .boolean) hret hlk (by simp) (hb hby at_247) ⟨rfl, N88⟩ (by decide) (by decide)
set_option maxRecDepth 65536 in
set_option maxHeartbeats 40000000 in
theorem comes_1 {Post : Tables → Env → Array Value → State → Outcome → State → Prop} (hpost : ∀ tb e args s v u, (limb_1_1.after args s (.returned v) u = true ∧ limb_1_2.after args s (.returned v) u = true ∧ True) → FrameEnd s (.returned v) u (Jvm.fieldLocs frame_1_writes args s ++ Jvm.arrayLocs frame_1_arrays args s ++ Jvm.staticLocs frame_1_statics s) 24 34432 → Post tb e args s (.returned v) u) :
    ArmFor flags0 classFile x code maxLocals ret World_1 tables_1 room_1 Calls_1 rest_1 Pre_1 Post := by
  intro l hfl _ _ p e ha hc hk s m args below hf hA hF happ hP
  obtain ⟨hcalls, hrest, hpre⟩ := hP
  obtain ⟨-, -, -, hnamed, -, -, -, hat⟩ := (Spec.applies_iff hf).mp happ
  obtain ⟨hg, hn⟩ := and_e (Cond.before_iff.mp (show (Jvm.Cond.and given_1 narrow_1).before args s = true from hpre))
  obtain ⟨gg1, gg2⟩ := and_e hg
  obtain ⟨gg3, gg4⟩ := and_e gg2
  obtain ⟨gg5, gg6⟩ := and_e gg4
  obtain ⟨gg7, gg8⟩ := and_e gg6
  obtain ⟨gg9, gg10⟩ := and_e gg8
  obtain ⟨w0, w1, w2, w3, w4, rfl⟩ : ∃ w0 w1 w2 w3 w4 : Value, args = #[w0, w1, w2, w3, w4] := by
    have hs : args.size = 5 := by simpa [Cond.value, given_1] using gg1
    obtain ⟨L⟩ := args
    match L, hs with
    | [w0, w1, w2, w3, w4], _ => exact ⟨w0, w1, w2, w3, w4, rfl⟩
  have hw := fun d (hd : d ∈ tables_1) => atoms_spec (ws := Jvm.Cond.code x code maxLocals ret :: tables_1) hat d (List.mem_cons_of_mem _ hd)
  obtain ⟨i0, ei0⟩ := is_v gg3
  obtain rfl : w0 = (.int i0) := Option.some.inj ei0
  obtain ⟨i1, ei1⟩ := is_v gg5
  obtain rfl : w1 = (.int i1) := Option.some.inj ei1
  obtain ⟨i2, ei2⟩ := is_v gg7
  obtain rfl : w2 = (.int i2) := Option.some.inj ei2
  obtain ⟨i3, ei3⟩ := is_v gg9
  obtain rfl : w3 = (.int i3) := Option.some.inj ei3
  obtain ⟨i4, ei4⟩ := is_v gg10
  obtain rfl : w4 = (.int i4) := Option.some.inj ei4
  obtain ⟨n, o, h1, h2, h3, _, L, rfl, ⟨rfl, N⟩, hq⟩ := rm0 l s _ hw tables_1 i0 i1 i2 i3 i4  s.heap s.heap.size (Nat.le_refl _)  p e ha hc hk s m _ below hf ((Spec.applies_iff_loose hf).mp happ).1 ⟨rfl, State.Warmed39.refl s, rfl⟩ trivial
  refine ⟨n, _, h1, h2, h3, hpost _ _ _ _ _ _ ⟨Cond.after_iff.mpr rfl, Cond.after_iff.mpr (eq_i res_at (Term.int_eval (1)) rfl), trivial⟩ ⟨hq.1, hq.2.1, (hq.2.2.sift fun y hy => Or.inr (N y hy)).mono (by decide) (by decide)⟩⟩
theorem main_1_1 : Claimed_1_1 := comes_1 fun _ _ _ _ _ _ h hF => ⟨h.1, hF⟩
theorem main_1_2 : Claimed_1_2 := comes_1 fun _ _ _ _ _ _ h hF => ⟨h.2.1, hF⟩
end Jvm.Pilot.@@N@@
namespace Jvm.Pilot.@@N@@
open Jvm Jvm.ClassFile Sem Op Lib Jvm.Free Jvm.Stand Jvm.Pilot.@@N@@.Jvm.D
/-! MADE BY PROGRAM (witnessworld.py) out of the Statement's table words and the real class files: 13 classes; the members and pool entries that the words name. The judged class is class 1, her method 1. -/
namespace start1
open Jvm.ClassFile
def u (s : String) : CpInfo := .utf8 (stringToUtf16 s)
/-- a pool by its gaps: so many unusable entries, then the entry; so many at the end -/
def gap : Nat → List CpInfo → List CpInfo
  | 0, r => r
  | n + 1, r => .unusable :: gap n r
def poolList (es : List (Nat × CpInfo)) (last : Nat) : List CpInfo := es.foldr (fun e r => gap e.1 (e.2 :: r)) (gap last [])
def pool (es : List (Nat × CpInfo)) (last : Nat) : Array CpInfo := ⟨poolList es last⟩
def fileOf (pool : Array CpInfo) (this : Nat) (attrs : Array Attribute := #[]) (ms : Array MethodInfo := #[]) (fl : Nat := 33) (sup : Nat := 0) (ifs : Array Nat := #[]) (fds : Array FieldInfo := #[]) : ClassFile where
  minorVersion := 0
  majorVersion := 65
  constantPool := pool
  accessFlags := fl
  thisClass := this
  superClass := sup
  interfaces := ifs
  fields := fds
  methods := ms
  attributes := attrs
def plain (name : String) (sup : Option ClassId) : Class where
  name := name
  kind := .ordinary
  loader := none
  accessFlags := 33
  super := sup
  interfaces := #[]
  cf := none
  fields := #[]
  methods := #[]
  instanceTypes := #[]
  staticTypes := #[]
  resolved := #[]
  callSites := []
  init := .initialized
  statics := none
  mirror := none

def pool0 : Array CpInfo := pool [(5, u "<init>"), (0, u "()V"), (1, .class_ 10), (1, u "java/lang/Object")] 113

def k0c0 : Code := { maxStack := 0, maxLocals := 1, code := object_method_1_code, exceptionTable := #[], attributes := #[] }
def k0m0 : Method := { name := "<init>", desc := "()V", sig := { parameters := [], returnType := none }, accessFlags := 1, code := some k0c0 }
/-- java/lang/Object -/
def k0 : Class := { plain "java/lang/Object" none with
  accessFlags := 33
  interfaces := #[]
  cf := some (fileOf pool0 8 #[] #[{ accessFlags := 1, nameIndex := 5, descriptorIndex := 6, attributes := #[] }] 33 0 #[] #[])
  fields := #[]
  methods := #[k0m0]
  instanceTypes := #[]
  staticTypes := #[]
  resolved := Array.replicate 124 none
  statics := none }

def pool1 : Array CpInfo := pool [(2, .class_ 4), (1, u "java/lang/Object"), (0, u "<init>"), (0, u "()V"), (0, .class_ 8), (0, u "com/example/pagewright/pagewright/RecordCodec$Writer"), (0, .methodref 7 10), (0, .nameAndType 5 11), (0, u "(I)V"), (0, .methodref 7 13), (0, .nameAndType 14 15), (0, u "field"), (0, u "(I)I"), (0, .methodref 7 17), (0, .nameAndType 18 19), (0, u "bytes"), (0, u "()[B"), (0, .integer 2147483647), (0, .methodref 7 22), (0, .nameAndType 23 11), (0, u "clear"), (0, .methodref 7 25), (0, .nameAndType 26 27), (0, u "size"), (0, u "()I"), (0, .methodref 29 30), (0, .class_ 31), (0, .nameAndType 32 33), (0, u "java/lang/Math"), (0, u "min"), (0, u "(II)I"), (0, .class_ 35), (0, u "com/example/pagewright/pagewright/WriterClearPinLaw"), (2, u "law"), (0, u "(IIIII)Z")] 9

def k1m0 : Method := { name := "<init>", desc := "()V", sig := { parameters := [], returnType := none }, accessFlags := 2, code := none }
def k1c1 : Code := { maxStack := 4, maxLocals := 14, code := code, exceptionTable := #[], attributes := #[] }
def k1m1 : Method := { name := "law", desc := "(IIIII)Z", sig := { parameters := [.int, .int, .int, .int, .int], returnType := some .boolean }, accessFlags := 9, code := some k1c1 }
/-- com/example/pagewright/pagewright/WriterClearPinLaw -/
def k1 : Class := { plain "com/example/pagewright/pagewright/WriterClearPinLaw" (some 0) with
  accessFlags := 49
  interfaces := #[]
  cf := some (fileOf pool1 34 #[] #[{ accessFlags := 2, nameIndex := 5, descriptorIndex := 6, attributes := #[] }, { accessFlags := 9, nameIndex := 38, descriptorIndex := 39, attributes := #[] }] 49 2 #[] #[])
  fields := #[]
  methods := #[k1m0, k1m1]
  instanceTypes := #[]
  staticTypes := #[]
  resolved := Array.replicate 49 none
  statics := none }

def pool2 : Array CpInfo := pool [(1, .methodref 2 3), (0, .class_ 4), (0, .nameAndType 5 6), (0, u "java/lang/Object"), (0, u "<init>"), (0, u "()V"), (0, .methodref 8 9), (0, .class_ 10), (0, .nameAndType 11 12), (0, u "java/lang/Math"), (0, u "max"), (0, u "(II)I"), (0, .fieldref 14 15), (0, .class_ 16), (0, .nameAndType 17 18), (0, u "com/example/pagewright/pagewright/RecordCodec$Writer"), (0, u "m_aBytes"), (0, u "[B"), (0, .fieldref 14 20), (0, .nameAndType 21 22), (0, u "m_nSize"), (0, u "I"), (0, .methodref 24 25), (0, .class_ 26), (0, .nameAndType 27 28), (0, u "com/example/pagewright/pagewright/RecordCodec"), (0, u "_lengthSize"), (0, u "(I)I"), (0, .methodref 30 31), (0, .class_ 32), (0, .nameAndType 33 34), (0, u "java/util/Arrays"), (0, u "copyOf"), (0, u "([BI)[B"), (2, u "field"), (6, u "(I)V"), (2, u "clear"), (3, u "bytes"), (0, u "()[B"), (0, u "size"), (0, u "()I")] 6

def k2c0 : Code := { maxStack := 3, maxLocals := 2, code := prog_60_method_1_code, exceptionTable := #[], attributes := #[] }
def k2m0 : Method := { name := "<init>", desc := "(I)V", sig := { parameters := [.int], returnType := none }, accessFlags := 0, code := some k2c0 }
def k2c1 : Code := { maxStack := 2, maxLocals := 2, code := prog_60_method_2_code, exceptionTable := #[], attributes := #[] }
def k2m1 : Method := { name := "clear", desc := "(I)V", sig := { parameters := [.int], returnType := none }, accessFlags := 0, code := some k2c1 }
def k2c2 : Code := { maxStack := 5, maxLocals := 5, code := prog_60_method_3_code, exceptionTable := #[], attributes := #[] }
def k2m2 : Method := { name := "field", desc := "(I)I", sig := { parameters := [.int], returnType := some .int }, accessFlags := 0, code := some k2c2 }
def k2c3 : Code := { maxStack := 1, maxLocals := 1, code := prog_60_method_5_code, exceptionTable := #[], attributes := #[] }
def k2m3 : Method := { name := "bytes", desc := "()[B", sig := { parameters := [], returnType := some (.array .byte) }, accessFlags := 0, code := some k2c3 }
def k2c4 : Code := { maxStack := 1, maxLocals := 1, code := prog_60_method_6_code, exceptionTable := #[], attributes := #[] }
def k2m4 : Method := { name := "size", desc := "()I", sig := { parameters := [], returnType := some .int }, accessFlags := 0, code := some k2c4 }
/-- com/example/pagewright/pagewright/RecordCodec$Writer -/
def k2 : Class := { plain "com/example/pagewright/pagewright/RecordCodec$Writer" (some 0) with
  accessFlags := 48
  interfaces := #[]
  cf := some (fileOf pool2 14 #[.nestHost 24] #[{ accessFlags := 0, nameIndex := 5, descriptorIndex := 44, attributes := #[] }, { accessFlags := 0, nameIndex := 47, descriptorIndex := 44, attributes := #[] }, { accessFlags := 0, nameIndex := 37, descriptorIndex := 28, attributes := #[] }, { accessFlags := 0, nameIndex := 51, descriptorIndex := 52, attributes := #[] }, { accessFlags := 0, nameIndex := 53, descriptorIndex := 54, attributes := #[] }] 48 2 #[] #[{ accessFlags := 2, nameIndex := 17, descriptorIndex := 18, attributes := #[] }, { accessFlags := 2, nameIndex := 21, descriptorIndex := 22, attributes := #[] }])
  fields := #[{ name := "m_aBytes", type := (.array .byte), accessFlags := 2, slot := 0, constantValue := 0 }, { name := "m_nSize", type := .int, accessFlags := 2, slot := 1, constantValue := 0 }]
  methods := #[k2m0, k2m1, k2m2, k2m3, k2m4]
  instanceTypes := #[(.array .byte), .int]
  staticTypes := #[]
  resolved := Array.replicate 61 none
  statics := none }

def pool3 : Array CpInfo := pool [(1, .class_ 2), (0, u "java/lang/Math"), (1, .class_ 6), (1, u "java/lang/Object"), (0, u "<init>"), (0, u "()V"), (89, .class_ 100), (1, u "java/lang/Math$RandomNumberGeneratorHolder"), (71, u "negativeZeroFloatBits"), (0, u "J"), (2, u "negativeZeroDoubleBits"), (21, u "max"), (2, u "min"), (43, u "$assertionsDisabled"), (0, u "Z"), (88, u "(II)I"), (2, u "twoToTheDoubleScaleDown"), (0, u "D"), (4, u "twoToTheDoubleScaleUp"), (9, u "E"), (3, u "PI"), (2, u "TAU"), (2, u "DEGREES_TO_RADIANS"), (0, u "RADIANS_TO_DEGREES")] 94

def k3m0 : Method := { name := "<init>", desc := "()V", sig := { parameters := [], returnType := none }, accessFlags := 2, code := none }
def k3c1 : Code := { maxStack := 2, maxLocals := 2, code := jdk_29_method_65_code, exceptionTable := #[], attributes := #[] }
def k3m1 : Method := { name := "max", desc := "(II)I", sig := { parameters := [.int, .int], returnType := some .int }, accessFlags := 9, code := some k3c1 }
def k3c2 : Code := { maxStack := 2, maxLocals := 2, code := jdk_29_method_69_code, exceptionTable := #[], attributes := #[] }
def k3m2 : Method := { name := "min", desc := "(II)I", sig := { parameters := [.int, .int], returnType := some .int }, accessFlags := 9, code := some k3c2 }
/-- java/lang/Math -/
def k3 : Class := { plain "java/lang/Math" (some 0) with
  accessFlags := 49
  interfaces := #[]
  cf := some (fileOf pool3 1 #[.nestMembers #[98]] #[{ accessFlags := 2, nameIndex := 7, descriptorIndex := 8, attributes := #[] }, { accessFlags := 9, nameIndex := 198, descriptorIndex := 335, attributes := #[] }, { accessFlags := 9, nameIndex := 201, descriptorIndex := 335, attributes := #[] }] 49 4 #[] #[{ accessFlags := 25, nameIndex := 354, descriptorIndex := 339, attributes := #[] }, { accessFlags := 25, nameIndex := 358, descriptorIndex := 339, attributes := #[] }, { accessFlags := 25, nameIndex := 361, descriptorIndex := 339, attributes := #[] }, { accessFlags := 26, nameIndex := 364, descriptorIndex := 339, attributes := #[] }, { accessFlags := 26, nameIndex := 365, descriptorIndex := 339, attributes := #[] }, { accessFlags := 26, nameIndex := 172, descriptorIndex := 173, attributes := #[] }, { accessFlags := 26, nameIndex := 176, descriptorIndex := 173, attributes := #[] }, { accessFlags := 8, nameIndex := 344, descriptorIndex := 339, attributes := #[] }, { accessFlags := 8, nameIndex := 338, descriptorIndex := 339, attributes := #[] }, { accessFlags := 4120, nameIndex := 245, descriptorIndex := 246, attributes := #[] }])
  fields := #[{ name := "E", type := .double, accessFlags := 25, slot := 0, constantValue := 0 }, { name := "PI", type := .double, accessFlags := 25, slot := 1, constantValue := 0 }, { name := "TAU", type := .double, accessFlags := 25, slot := 2, constantValue := 0 }, { name := "DEGREES_TO_RADIANS", type := .double, accessFlags := 26, slot := 3, constantValue := 0 }, { name := "RADIANS_TO_DEGREES", type := .double, accessFlags := 26, slot := 4, constantValue := 0 }, { name := "negativeZeroFloatBits", type := .long, accessFlags := 26, slot := 5, constantValue := 0 }, { name := "negativeZeroDoubleBits", type := .long, accessFlags := 26, slot := 6, constantValue := 0 }, { name := "twoToTheDoubleScaleUp", type := .double, accessFlags := 8, slot := 7, constantValue := 0 }, { name := "twoToTheDoubleScaleDown", type := .double, accessFlags := 8, slot := 8, constantValue := 0 }, { name := "$assertionsDisabled", type := .boolean, accessFlags := 4120, slot := 9, constantValue := 0 }]
  methods := #[k3m0, k3m1, k3m2]
  instanceTypes := #[]
  staticTypes := #[.double, .double, .double, .double, .double, .long, .long, .double, .double, .boolean]
  resolved := Array.replicate 460 none
  statics := none }

def pool4 : Array CpInfo := pool [(2, .class_ 4), (1, u "java/lang/Object"), (0, u "<init>"), (0, u "()V"), (19, .class_ 28), (1, u "com/example/pagewright/pagewright/RecordCodec"), (1, u "(I)I"), (2, u "_lengthSize"), (0, .class_ 35), (0, u "com/example/pagewright/pagewright/RecordCodec$Writer"), (23, .class_ 61), (1, u "com/example/pagewright/pagewright/RecordCodec$FieldReader")] 51

def k4m0 : Method := { name := "<init>", desc := "()V", sig := { parameters := [], returnType := none }, accessFlags := 2, code := none }
def k4c1 : Code := { maxStack := 2, maxLocals := 3, code := prog_58_method_8_code, exceptionTable := #[], attributes := #[] }
def k4m1 : Method := { name := "_lengthSize", desc := "(I)I", sig := { parameters := [.int], returnType := some .int }, accessFlags := 10, code := some k4c1 }
/-- com/example/pagewright/pagewright/RecordCodec -/
def k4 : Class := { plain "com/example/pagewright/pagewright/RecordCodec" (some 0) with
  accessFlags := 48
  interfaces := #[]
  cf := some (fileOf pool4 26 #[.nestMembers #[59, 34]] #[{ accessFlags := 2, nameIndex := 5, descriptorIndex := 6, attributes := #[] }, { accessFlags := 10, nameIndex := 33, descriptorIndex := 30, attributes := #[] }] 48 2 #[] #[])
  fields := #[]
  methods := #[k4m0, k4m1]
  instanceTypes := #[]
  staticTypes := #[]
  resolved := Array.replicate 113 none
  statics := none }

def pool5 : Array CpInfo := pool [(2, .class_ 4), (1, u "java/lang/Object"), (0, u "<init>"), (0, u "()V"), (7, .class_ 16), (1, u "java/util/Arrays"), (57, .class_ 76), (1, u "java/util/Arrays$NaturalOrder"), (36, .class_ 115), (1, u "java/util/Arrays$LegacyMergeSort"), (1, u "Z"), (32, .methodref 151 152), (0, .class_ 153), (0, .nameAndType 154 155), (0, u "java/lang/System"), (0, u "arraycopy"), (0, u "(Ljava/lang/Object;ILjava/lang/Object;II)V"), (146, u "copyOf"), (1, .methodref 305 306), (0, .class_ 307), (0, .nameAndType 308 309), (0, u "java/lang/Math"), (0, u "min"), (0, u "(II)I"), (65, .class_ 376), (0, u "java/util/Arrays$ArrayList"), (68, u "$assertionsDisabled"), (269, u "MIN_ARRAY_SORT_GRAN"), (0, u "I"), (2, u "INSERTIONSORT_THRESHOLD"), (149, u "([BI)[B"), (105, .class_ 976), (0, u "java/util/Arrays$ArrayItr")] 52

def k5m0 : Method := { name := "<init>", desc := "()V", sig := { parameters := [], returnType := none }, accessFlags := 2, code := none }
def k5c1 : Code := { maxStack := 6, maxLocals := 3, code := jdk_65_method_121_code, exceptionTable := #[], attributes := #[] }
def k5m1 : Method := { name := "copyOf", desc := "([BI)[B", sig := { parameters := [(.array .byte), .int], returnType := some (.array .byte) }, accessFlags := 9, code := some k5c1 }
/-- java/util/Arrays -/
def k5 : Class := { plain "java/util/Arrays" (some 0) with
  accessFlags := 49
  interfaces := #[]
  cf := some (fileOf pool5 14 #[.nestMembers #[975, 375, 113, 74]] #[{ accessFlags := 2, nameIndex := 5, descriptorIndex := 6, attributes := #[] }, { accessFlags := 9, nameIndex := 302, descriptorIndex := 869, attributes := #[] }] 49 2 #[] #[{ accessFlags := 26, nameIndex := 715, descriptorIndex := 716, attributes := #[] }, { accessFlags := 26, nameIndex := 719, descriptorIndex := 716, attributes := #[] }, { accessFlags := 4120, nameIndex := 445, descriptorIndex := 117, attributes := #[] }])
  fields := #[{ name := "MIN_ARRAY_SORT_GRAN", type := .int, accessFlags := 26, slot := 0, constantValue := 0 }, { name := "INSERTIONSORT_THRESHOLD", type := .int, accessFlags := 26, slot := 1, constantValue := 0 }, { name := "$assertionsDisabled", type := .boolean, accessFlags := 4120, slot := 2, constantValue := 0 }]
  methods := #[k5m0, k5m1]
  instanceTypes := #[]
  staticTypes := #[.int, .int, .boolean]
  resolved := Array.replicate 1029 none
  statics := none }

def pool6 : Array CpInfo := pool [(2, .class_ 4), (1, u "java/lang/Object"), (0, u "<init>"), (0, u "()V"), (1, .class_ 10), (1, u "java/lang/System"), (0, u "allowSecurityManager"), (0, u "I"), (16, u "cons"), (0, u "Ljava/io/Console;"), (77, .class_ 110), (1, u "java/lang/System$CallersHolder"), (43, u "initialErrStream"), (0, u "Ljava/io/PrintStream;"), (19, u "security"), (0, u "Ljava/lang/SecurityManager;"), (31, .class_ 209), (0, u "java/lang/System$1"), (7, u "props"), (0, u "Ljava/util/Properties;"), (2, u "lineSeparator"), (0, u "Ljava/lang/String;"), (96, .class_ 321), (1, u "java/lang/System$LoggerFinder"), (5, .class_ 328), (0, u "java/lang/System$Logger"), (67, u "err"), (2, u "out"), (91, u "notSupportedJnuEncoding"), (15, u "in"), (17, u "initialIn"), (0, u "Ljava/io/InputStream;"), (35, u "bootLayer"), (0, u "Ljava/lang/ModuleLayer;"), (99, .class_ 664), (0, u "java/lang/System$2"), (9, u "NEVER"), (2, u "MAYBE"), (49, u "arraycopy"), (0, u "(Ljava/lang/Object;ILjava/lang/Object;II)V"), (72, .class_ 802), (0, u "java/lang/System$Logger$Level")] 31

def k6m0 : Method := { name := "<init>", desc := "()V", sig := { parameters := [], returnType := none }, accessFlags := 2, code := none }
def k6m1 : Method := { name := "arraycopy", desc := "(Ljava/lang/Object;ILjava/lang/Object;II)V", sig := { parameters := [(.object "java/lang/Object"), .int, (.object "java/lang/Object"), .int, .int], returnType := none }, accessFlags := 265, code := none }
/-- java/lang/System -/
def k6 : Class := { plain "java/lang/System" (some 0) with
  accessFlags := 49
  interfaces := #[]
  cf := some (fileOf pool6 8 #[.nestMembers #[319, 327, 801, 108, 663, 208]] #[{ accessFlags := 2, nameIndex := 5, descriptorIndex := 6, attributes := #[] }, { accessFlags := 265, nameIndex := 727, descriptorIndex := 728, attributes := #[] }] 49 2 #[] #[{ accessFlags := 25, nameIndex := 507, descriptorIndex := 526, attributes := #[] }, { accessFlags := 25, nameIndex := 399, descriptorIndex := 155, attributes := #[] }, { accessFlags := 25, nameIndex := 396, descriptorIndex := 155, attributes := #[] }, { accessFlags := 10, nameIndex := 525, descriptorIndex := 526, attributes := #[] }, { accessFlags := 26, nameIndex := 674, descriptorIndex := 12, attributes := #[] }, { accessFlags := 26, nameIndex := 677, descriptorIndex := 12, attributes := #[] }, { accessFlags := 10, nameIndex := 11, descriptorIndex := 12, attributes := #[] }, { accessFlags := 74, nameIndex := 175, descriptorIndex := 176, attributes := #[] }, { accessFlags := 10, nameIndex := 491, descriptorIndex := 222, attributes := #[] }, { accessFlags := 74, nameIndex := 29, descriptorIndex := 30, attributes := #[] }, { accessFlags := 74, nameIndex := 154, descriptorIndex := 155, attributes := #[] }, { accessFlags := 10, nameIndex := 217, descriptorIndex := 218, attributes := #[] }, { accessFlags := 10, nameIndex := 221, descriptorIndex := 222, attributes := #[] }, { accessFlags := 8, nameIndex := 562, descriptorIndex := 563, attributes := #[] }])
  fields := #[{ name := "in", type := (.object "java/io/InputStream"), accessFlags := 25, slot := 0, constantValue := 0 }, { name := "out", type := (.object "java/io/PrintStream"), accessFlags := 25, slot := 1, constantValue := 0 }, { name := "err", type := (.object "java/io/PrintStream"), accessFlags := 25, slot := 2, constantValue := 0 }, { name := "initialIn", type := (.object "java/io/InputStream"), accessFlags := 10, slot := 3, constantValue := 0 }, { name := "NEVER", type := .int, accessFlags := 26, slot := 4, constantValue := 0 }, { name := "MAYBE", type := .int, accessFlags := 26, slot := 5, constantValue := 0 }, { name := "allowSecurityManager", type := .int, accessFlags := 10, slot := 6, constantValue := 0 }, { name := "security", type := (.object "java/lang/SecurityManager"), accessFlags := 74, slot := 7, constantValue := 0 }, { name := "notSupportedJnuEncoding", type := (.object "java/lang/String"), accessFlags := 10, slot := 8, constantValue := 0 }, { name := "cons", type := (.object "java/io/Console"), accessFlags := 74, slot := 9, constantValue := 0 }, { name := "initialErrStream", type := (.object "java/io/PrintStream"), accessFlags := 74, slot := 10, constantValue := 0 }, { name := "props", type := (.object "java/util/Properties"), accessFlags := 10, slot := 11, constantValue := 0 }, { name := "lineSeparator", type := (.object "java/lang/String"), accessFlags := 10, slot := 12, constantValue := 0 }, { name := "bootLayer", type := (.object "java/lang/ModuleLayer"), accessFlags := 8, slot := 13, constantValue := 0 }]
  methods := #[k6m0, k6m1]
  instanceTypes := #[]
  staticTypes := #[(.object "java/io/InputStream"), (.object "java/io/PrintStream"), (.object "java/io/PrintStream"), (.object "java/io/InputStream"), .int, .int, .int, (.object "java/lang/SecurityManager"), (.object "java/lang/String"), (.object "java/io/Console"), (.object "java/io/PrintStream"), (.object "java/util/Properties"), (.object "java/lang/String"), (.object "java/lang/ModuleLayer")]
  resolved := Array.replicate 834 none
  statics := none }

def pool7 : Array CpInfo := pool [(1, u "java/lang/Cloneable"), (0, .class_ 1), (0, u "java/lang/Object"), (0, .class_ 3)] 3

/-- java/lang/Cloneable -/
def k7 : Class := { plain "java/lang/Cloneable" (some 0) with
  accessFlags := 1537
  interfaces := #[]
  cf := some (fileOf pool7 2 #[] #[] 1537 4 #[] #[])
  fields := #[]
  methods := #[]
  instanceTypes := #[]
  staticTypes := #[]
  resolved := Array.replicate 8 none
  statics := none }

def pool8 : Array CpInfo := pool [(1, u "java/io/Serializable"), (0, .class_ 1), (0, u "java/lang/Object"), (0, .class_ 3)] 3

/-- java/io/Serializable -/
def k8 : Class := { plain "java/io/Serializable" (some 0) with
  accessFlags := 1537
  interfaces := #[]
  cf := some (fileOf pool8 2 #[] #[] 1537 4 #[] #[])
  fields := #[]
  methods := #[]
  instanceTypes := #[]
  staticTypes := #[]
  resolved := Array.replicate 8 none
  statics := none }

/-- the primitive byte -/
def k9 : Class := { plain "byte" none with kind := .primitive 'B', accessFlags := 0x411 }
/-- [B -/
def k10 : Class := { plain "[B" (some 0) with kind := .array 9 .byte, interfaces := #[7, 8], accessFlags := 1041 }

/-- the primitive int -/
def k11 : Class := { plain "int" none with kind := .primitive 'I', accessFlags := 0x411 }
/-- [I -/
def k12 : Class := { plain "[I" (some 0) with kind := .array 11 .int, interfaces := #[7, 8], accessFlags := 1041 }

def heap : Heap := #[]
def classes : Array Class := #[k0, k1, k2, k3, k4, k5, k6, k7, k8, k9, k10, k11, k12]
def interned : List (Array UInt16 × Addr) := []
def slotsUsed : Nat := 0
def theMethod : MethodId := ⟨1, 1⟩
def args0 : Array Value := #[.int 5, .int 5, .int 5, .int 5, .int 5]
def aboutOver (below : List Frame) : State where
  vm := { classes := classes, interned := interned.toArray }
  heap := heap
  slotsUsed := slotsUsed
  threads := #[{ frames := .invoking theMethod args0 :: below }]
def below0 : List Frame := [.native { method := ⟨0, 0⟩, args := #[] }]
def about1 : State := aboutOver below0
def p0 : Program := .bare "" "" ""
def e0 : Env := launch0.env 0 0 0
theorem w_frames : about1.frames = Frame.invoking theMethod args0 :: below0 := rfl
set_option maxRecDepth 65536 in
theorem w_args : argsFit about1.vm theMethod args0 = true := by decide +kernel
set_option maxRecDepth 65536 in
theorem w_heap : heapFits about1 = true := by decide +kernel
set_option maxRecDepth 65536 in
theorem w_runnable : about1.curStatus? = some .runnable := by decide +kernel
set_option maxRecDepth 65536 in
theorem w_alone : about1.alone = true := by decide +kernel
set_option maxRecDepth 65536 in
theorem w_named : about1.methodNamed? x = some theMethod := by decide +kernel
set_option maxRecDepth 65536 in
theorem w_hears : about1.hears theMethod below0 = true := by decide +kernel
set_option maxRecDepth 65536 in
theorem w_ripe : about1.ripe theMethod args0 below0 = true := by decide +kernel
theorem w_running : about1.status = .running := rfl
set_option maxRecDepth 65536 in
theorem w_room : about1.hasRoom e0.platform room_1 = true :=
  launch0.hasRoom_least _ room_1 (by decide +kernel) (by decide +kernel) (by decide +kernel) (by decide +kernel) (by decide +kernel) (by decide +kernel)
theorem allAtoms_all (ts : List Jvm.Cond) (a : Array Jvm.Value) (st : Jvm.State) : (allAtoms ts).before a st = ts.all (fun c => c.before a st) := by
  induction ts with
  | nil => rfl
  | cons c t ih =>
    show (Jvm.Cond.and c (allAtoms t)).before a st = _
    rw [Jvm.Cond.before_and, ih, List.all_cons]
def words1 : List Jvm.Cond := Jvm.Cond.code x code maxLocals ret :: tables_1
/-- a 'code' word, met by the world's own term for the bytes: nothing is compared byte by byte -/
theorem code_word {y : MethodName} {bytes : ByteArray} {mx : Nat} {rt : Option FieldType} {a : Array Value} {s : State} {m : MethodId} {meth : Method} {c : Code} (h1 : s.methodNamed? y = some m) (h2 : s.vm.method? m = some meth) (h3 : meth.code = some c) (h4 : c.code = bytes)
    (h5 : (c.maxLocals == mx && c.exceptionTable.isEmpty && decide (c.maxStack ≤ mostOperands) && decide (meth.sig.returnType = rt) && !meth.locks && decide (parseMethodDescriptor y.desc = some meth.sig)) = true) : (Jvm.Cond.code y bytes mx rt).before a s = true := by
  simp only [Bool.and_eq_true, beq_iff_eq, Bool.not_eq_true', decide_eq_true_eq] at h5
  obtain ⟨⟨⟨⟨⟨g1, g2⟩, g3⟩, g4⟩, g5⟩, g6⟩ := h5
  simp [Cond.before, Cond.holds, Cond.value, h1, h2, h3, h4, g1, g2, g3, g4, g5, g6]
def isCode : Jvm.Cond → Bool
  | .code _ _ _ _ => true
  | _ => false
theorem all_split {L : List Jvm.Cond} {P : Jvm.Cond → Bool} (h1 : L.all (fun c => isCode c || P c) = true) (h2 : ∀ c ∈ L.filter isCode, P c = true) : L.all P = true := by
  refine List.all_eq_true.mpr fun c hc => ?_
  have h := List.all_eq_true.mp h1 c hc
  rcases Bool.eq_false_or_eq_true (isCode c) with hi | hi
  · exact h2 c (List.mem_filter.mpr ⟨hc, hi⟩)
  · simpa [hi] using h
set_option maxRecDepth 65536 in
theorem w_c0 : (Jvm.Cond.code x code maxLocals ret).before args0 about1 = true := code_word (m := ⟨1, 1⟩) (meth := k1m1) (c := k1c1) (by decide +kernel) rfl rfl rfl (by decide +kernel)
set_option maxRecDepth 65536 in
theorem w_c1 : (Jvm.Cond.code ({ cls := "com/example/pagewright/pagewright/RecordCodec$Writer", name := "<init>", desc := "(I)V" } : Jvm.MethodName) prog_60_method_1_code (2 : Nat) (Option.none : Option Jvm.ClassFile.FieldType)).before args0 about1 = true := code_word (m := ⟨2, 0⟩) (meth := k2m0) (c := k2c0) (by decide +kernel) rfl rfl rfl (by decide +kernel)
set_option maxRecDepth 65536 in
theorem w_c2 : (Jvm.Cond.code ({ cls := "java/lang/Object", name := "<init>", desc := "()V" } : Jvm.MethodName) object_method_1_code (1 : Nat) (Option.none : Option Jvm.ClassFile.FieldType)).before args0 about1 = true := code_word (m := ⟨0, 0⟩) (meth := k0m0) (c := k0c0) (by decide +kernel) rfl rfl rfl (by decide +kernel)
set_option maxRecDepth 65536 in
theorem w_c3 : (Jvm.Cond.code ({ cls := "java/lang/Math", name := "max", desc := "(II)I" } : Jvm.MethodName) jdk_29_method_65_code (2 : Nat) (Option.some Jvm.ClassFile.FieldType.int)).before args0 about1 = true := code_word (m := ⟨3, 1⟩) (meth := k3m1) (c := k3c1) (by decide +kernel) rfl rfl rfl (by decide +kernel)
set_option maxRecDepth 65536 in
theorem w_c4 : (Jvm.Cond.code ({ cls := "com/example/pagewright/pagewright/RecordCodec$Writer", name := "field", desc := "(I)I" } : Jvm.MethodName) prog_60_method_3_code (5 : Nat) (Option.some Jvm.ClassFile.FieldType.int)).before args0 about1 = true := code_word (m := ⟨2, 2⟩) (meth := k2m2) (c := k2c2) (by decide +kernel) rfl rfl rfl (by decide +kernel)
set_option maxRecDepth 65536 in
theorem w_c5 : (Jvm.Cond.code ({ cls := "com/example/pagewright/pagewright/RecordCodec", name := "_lengthSize", desc := "(I)I" } : Jvm.MethodName) prog_58_method_8_code (3 : Nat) (Option.some Jvm.ClassFile.FieldType.int)).before args0 about1 = true := code_word (m := ⟨4, 1⟩) (meth := k4m1) (c := k4c1) (by decide +kernel) rfl rfl rfl (by decide +kernel)
set_option maxRecDepth 65536 in
theorem w_c6 : (Jvm.Cond.code ({ cls := "com/example/pagewright/pagewright/RecordCodec$Writer", name := "bytes", desc := "()[B" } : Jvm.MethodName) prog_60_method_5_code (1 : Nat) (Option.some (Jvm.ClassFile.FieldType.array Jvm.ClassFile.FieldType.byte))).before args0 about1 = true := code_word (m := ⟨2, 3⟩) (meth := k2m3) (c := k2c3) (by decide +kernel) rfl rfl rfl (by decide +kernel)
set_option maxRecDepth 65536 in
theorem w_c7 : (Jvm.Cond.code ({ cls := "com/example/pagewright/pagewright/RecordCodec$Writer", name := "clear", desc := "(I)V" } : Jvm.MethodName) prog_60_method_2_code (2 : Nat) (Option.none : Option Jvm.ClassFile.FieldType)).before args0 about1 = true := code_word (m := ⟨2, 1⟩) (meth := k2m1) (c := k2c1) (by decide +kernel) rfl rfl rfl (by decide +kernel)
set_option maxRecDepth 65536 in
theorem w_c8 : (Jvm.Cond.code ({ cls := "com/example/pagewright/pagewright/RecordCodec$Writer", name := "size", desc := "()I" } : Jvm.MethodName) prog_60_method_6_code (1 : Nat) (Option.some Jvm.ClassFile.FieldType.int)).before args0 about1 = true := code_word (m := ⟨2, 4⟩) (meth := k2m4) (c := k2c4) (by decide +kernel) rfl rfl rfl (by decide +kernel)
set_option maxRecDepth 65536 in
theorem w_c9 : (Jvm.Cond.code ({ cls := "java/lang/Math", name := "min", desc := "(II)I" } : Jvm.MethodName) jdk_29_method_69_code (2 : Nat) (Option.some Jvm.ClassFile.FieldType.int)).before args0 about1 = true := code_word (m := ⟨3, 2⟩) (meth := k3m2) (c := k3c2) (by decide +kernel) rfl rfl rfl (by decide +kernel)
set_option maxRecDepth 65536 in
theorem w_c10 : (Jvm.Cond.code ({ cls := "java/util/Arrays", name := "copyOf", desc := "([BI)[B" } : Jvm.MethodName) jdk_65_method_121_code (3 : Nat) (Option.some (Jvm.ClassFile.FieldType.array Jvm.ClassFile.FieldType.byte))).before args0 about1 = true := code_word (m := ⟨5, 1⟩) (meth := k5m1) (c := k5c1) (by decide +kernel) rfl rfl rfl (by decide +kernel)
def codes1 : List Jvm.Cond := [Jvm.Cond.code x code maxLocals ret, Jvm.Cond.code ({ cls := "com/example/pagewright/pagewright/RecordCodec$Writer", name := "<init>", desc := "(I)V" } : Jvm.MethodName) prog_60_method_1_code (2 : Nat) (Option.none : Option Jvm.ClassFile.FieldType), Jvm.Cond.code ({ cls := "java/lang/Object", name := "<init>", desc := "()V" } : Jvm.MethodName) object_method_1_code (1 : Nat) (Option.none : Option Jvm.ClassFile.FieldType), Jvm.Cond.code ({ cls := "java/lang/Math", name := "max", desc := "(II)I" } : Jvm.MethodName) jdk_29_method_65_code (2 : Nat) (Option.some Jvm.ClassFile.FieldType.int), Jvm.Cond.code ({ cls := "com/example/pagewright/pagewright/RecordCodec$Writer", name := "field", desc := "(I)I" } : Jvm.MethodName) prog_60_method_3_code (5 : Nat) (Option.some Jvm.ClassFile.FieldType.int), Jvm.Cond.code ({ cls := "com/example/pagewright/pagewright/RecordCodec", name := "_lengthSize", desc := "(I)I" } : Jvm.MethodName) prog_58_method_8_code (3 : Nat) (Option.some Jvm.ClassFile.FieldType.int), Jvm.Cond.code ({ cls := "com/example/pagewright/pagewright/RecordCodec$Writer", name := "bytes", desc := "()[B" } : Jvm.MethodName) prog_60_method_5_code (1 : Nat) (Option.some (Jvm.ClassFile.FieldType.array Jvm.ClassFile.FieldType.byte)), Jvm.Cond.code ({ cls := "com/example/pagewright/pagewright/RecordCodec$Writer", name := "clear", desc := "(I)V" } : Jvm.MethodName) prog_60_method_2_code (2 : Nat) (Option.none : Option Jvm.ClassFile.FieldType), Jvm.Cond.code ({ cls := "com/example/pagewright/pagewright/RecordCodec$Writer", name := "size", desc := "()I" } : Jvm.MethodName) prog_60_method_6_code (1 : Nat) (Option.some Jvm.ClassFile.FieldType.int), Jvm.Cond.code ({ cls := "java/lang/Math", name := "min", desc := "(II)I" } : Jvm.MethodName) jdk_29_method_69_code (2 : Nat) (Option.some Jvm.ClassFile.FieldType.int), Jvm.Cond.code ({ cls := "java/util/Arrays", name := "copyOf", desc := "([BI)[B" } : Jvm.MethodName) jdk_65_method_121_code (3 : Nat) (Option.some (Jvm.ClassFile.FieldType.array Jvm.ClassFile.FieldType.byte))]
set_option maxRecDepth 65536 in
theorem codes_eq : words1.filter isCode = codes1 := rfl
theorem w_codes : ∀ c ∈ words1.filter isCode, c.before args0 about1 = true := by
  rw [codes_eq]
  intro c hc
  simp only [codes1, List.mem_cons, List.not_mem_nil, or_false] at hc
  rcases hc with rfl | rfl | rfl | rfl | rfl | rfl | rfl | rfl | rfl | rfl | rfl
  · exact w_c0
  · exact w_c1
  · exact w_c2
  · exact w_c3
  · exact w_c4
  · exact w_c5
  · exact w_c6
  · exact w_c7
  · exact w_c8
  · exact w_c9
  · exact w_c10
set_option maxRecDepth 65536 in
theorem w_t1 : (words1.take 24).all (fun c => isCode c || c.before args0 about1) = true := by decide +kernel
set_option maxRecDepth 65536 in
theorem w_t2 : ((words1.drop 24).take 24).all (fun c => isCode c || c.before args0 about1) = true := by decide +kernel
set_option maxRecDepth 65536 in
theorem w_t3 : ((words1.drop 24).drop 24).all (fun c => isCode c || c.before args0 about1) = true := by decide +kernel
theorem w_tables : (allAtoms (Jvm.Cond.code x code maxLocals ret :: tables_1)).before args0 about1 = true := by
  rw [allAtoms_all]
  show words1.all (fun c => c.before args0 about1) = true
  refine all_split ?_ w_codes
  rw [← List.take_append_drop 24 words1, List.all_append, w_t1, ← List.take_append_drop 24 (words1.drop 24), List.all_append, w_t2, w_t3]
  rfl
set_option maxRecDepth 65536 in
theorem w_case : (Jvm.Cond.and given_1 narrow_1).before args0 about1 = true := by decide +kernel
theorem w_applies : (headSpec (Jvm.Cond.code x code maxLocals ret :: tables_1) room_1).applies x e0.platform about1 = true :=
  (Spec.applies_iff w_frames).mpr ⟨w_running, w_runnable, w_alone, w_named, w_hears, w_ripe, w_room, w_tables⟩
theorem atStart : AtStart classFile x code maxLocals ret World_1 tables_1 room_1 Calls_1 rest_1 Pre_1 launch0 p0 e0 about1 theMethod args0 below0 :=
  ⟨lists_1, trivial, launch0.admits_env _ _ _, launch0.least_env, fairChoices_fair.cas, fairChoices_fair.clock, w_frames, w_args, w_heap, w_applies, trivial, trivial, w_case⟩
end start1
theorem witness_1 : WitnessClaimed_1 := ⟨start1.p0, start1.e0, start1.about1, start1.theMethod, start1.args0, start1.below0, start1.atStart⟩
end Jvm.Pilot.@@N@@
