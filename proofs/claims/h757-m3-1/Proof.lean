import JvmDerived
import JvmDerived.Pilot.@@N@@Statement
import JvmDerived.Pilot.@@N@@Code
set_option linter.unusedVariables false
set_option linter.unusedSimpArgs false
namespace Jvm.Pilot.@@N@@
open Jvm Jvm.ClassFile Sem Op Lib Jvm.Free Jvm.Stand Jvm.LawKit Jvm.RoadKit Bundle Jvm.Pilot.@@N@@.Jvm.D
section Own
variable {p : Program} {l : Launch} {e : Env} {R : Room} {s : State} {m : MethodId} {args : Array Value} {below : List Frame} {meth : Method} {c : Code} {T : State} {locs : List Loc} {cells slots : Nat} {C N : Nat} {Q : Option Value → Heap → List Loc → Prop} {V V' : State}
/-- from the state V the method comes to its return, and leaves what Q says -/
def own_Run (p : Program) (e : Env) (below : List Frame) (s : State) (C N : Nat) (Q : Option Value → Heap → List Loc → Prop) (V : State) : Prop :=
  ∃ s₂ o, Steps p.tables e below V s₂ ∧ s₂.status = .running ∧ Ended s₂ below o ∧ ∃ v L, o = .returned v ∧ Q v s₂.heap L ∧ FrameEnd s o s₂ L C N
theorem own_of (k : ∀ t, Steps p.tables e below V' t → Steps p.tables e below V t) (r : own_Run p e below s C N Q V') : own_Run p e below s C N Q V := by
  obtain ⟨s₂, o, h, q⟩ := r
  exact ⟨s₂, o, k _ h, q⟩
theorem own_tr (k : Steps p.tables e below V V') (r : own_Run p e below s C N Q V') : own_Run p e below s C N Q V := own_of (fun _ h => k.trans h) r
theorem own_cast {g g' : JFrame} (q : g = g') (r : own_Run p e below s C N Q (T.setTop g')) : own_Run p e below s C N Q (T.setTop g) := q ▸ r
theorem own_ret (X : Stand p l e R s m args below meth c T locs cells slots) (hx : p.tables.exec = Jvm.exec) {pc : Nat} {Ls : Array Slot} {w : Value} {t : FieldType} {i : Instr} {rest : List Value} (hret : meth.sig.returnType = some t) (hlk : meth.locks = false) (hn : narrow t w = w)
    (hi : (i = .ireturn ∧ (t = .int ∨ t = .boolean ∨ t = .byte ∨ t = .char ∨ t = .short) ∧ ∃ z, w = .int z) ∨ (i = .lreturn ∧ t = .long ∧ ∃ z, w = .long z) ∨ (i = .dreturn ∧ t = .double ∧ ∃ z, w = .double z) ∨ (i = .freturn ∧ t = .float ∧ ∃ z, w = .float z) ∨ (i = .areturn ∧ t.isReference = true ∧ w.isRef = true))
    (hd : decode c.code pc = .ok (i, 1)) (q : Q (some w) T.heap locs) (hc : cells ≤ C) (hs : slots ≤ N) : own_Run p e below s C N Q (T.setTop (mkF m pc Ls (w :: rest))) := by
  obtain ⟨fs, hr, hrun, hended, hW, hsame⟩ := X.leave (v := some w) (fun h => by rw [hret] at h; cases h) hlk
  exact ⟨_, _, retOut X hx hret hn hi hd hr, hrun, hended, _, _, rfl, q, ⟨_, rfl⟩, hW, hsame.mono hc hs⟩
theorem own_retI (X : Stand p l e R s m args below meth c T locs cells slots) (hx : p.tables.exec = Jvm.exec) {pc : Nat} {Ls : Array Slot} {z : Int32} {rest : List Value} (hret : meth.sig.returnType = some .int) (hlk : meth.locks = false)
    (hd : decode c.code pc = .ok (.ireturn, 1)) (q : Q (some (.int z)) T.heap locs) (hc : cells ≤ C) (hs : slots ≤ N) : own_Run p e below s C N Q (T.setTop (mkF m pc Ls (.int z :: rest))) :=
  own_ret X hx hret hlk rfl (Or.inl ⟨rfl, Or.inl rfl, z, rfl⟩) hd q hc hs
theorem own_retJ (X : Stand p l e R s m args below meth c T locs cells slots) (hx : p.tables.exec = Jvm.exec) {pc : Nat} {Ls : Array Slot} {z : Int64} {rest : List Value} (hret : meth.sig.returnType = some .long) (hlk : meth.locks = false)
    (hd : decode c.code pc = .ok (.lreturn, 1)) (q : Q (some (.long z)) T.heap locs) (hc : cells ≤ C) (hs : slots ≤ N) : own_Run p e below s C N Q (T.setTop (mkF m pc Ls (.long z :: rest))) :=
  own_ret X hx hret hlk rfl (Or.inr (Or.inl ⟨rfl, rfl, z, rfl⟩)) hd q hc hs
theorem own_retN (X : Stand p l e R s m args below meth c T locs cells slots) (hx : p.tables.exec = Jvm.exec) {pc : Nat} {Ls : Array Slot} {z : Int32} {t : FieldType} {rest : List Value} (hret : meth.sig.returnType = some t) (hlk : meth.locks = false) (ht : t = .boolean ∨ t = .byte ∨ t = .char ∨ t = .short)
    (hd : decode c.code pc = .ok (.ireturn, 1)) (q : Q (some (.int (nar t z))) T.heap locs) (hc : cells ≤ C) (hs : slots ≤ N) : own_Run p e below s C N Q (T.setTop (mkF m pc Ls (.int z :: rest))) := by
  obtain ⟨fs, hr, hrun, hended, hW, hsame⟩ := X.leave (v := some (.int (nar t z))) (fun h => by rw [hret] at h; cases h) hlk
  exact ⟨_, _, retN X hx hret ht hd hr, hrun, hended, _, _, rfl, q, ⟨_, rfl⟩, hW, hsame.mono hc hs⟩
theorem own_retV (X : Stand p l e R s m args below meth c T locs cells slots) (hx : p.tables.exec = Jvm.exec) {pc : Nat} {Ls : Array Slot} (hret : meth.sig.returnType = none) (hlk : meth.locks = false)
    (hd : decode c.code pc = .ok (.return_, 1)) (q : Q none T.heap locs) (hc : cells ≤ C) (hs : slots ≤ N) : own_Run p e below s C N Q (T.setTop (mkF m pc Ls [])) := by
  obtain ⟨fs, hr, hrun, hended, hW, hsame⟩ := X.leave (v := none) (fun _ => rfl) hlk
  exact ⟨_, _, X.returnOut hx hret hd hr, hrun, hended, _, _, rfl, q, ⟨_, rfl⟩, hW, hsame.mono hc hs⟩
end Own
section OwnArrays
variable {p : Program} {l : Launch} {e : Env} {R : Room} {s : State} {m : MethodId} {args : Array Value} {below : List Frame} {meth : Method} {c : Code} {T : State} {locs : List Loc} {cells slots : Nat} {C N : Nat} {Q : Option Value → Heap → List Loc → Prop} {Z : State} {h h' : Heap} {a b : Addr} {ty : FieldType} {n : Nat} {f g : Nat → Int32} {v : Value} {sl : Nat} {ws : List Addr}
/-- in the heap h, at a, an array of the kind ty and n places; its place i holds the int f i -/
def own_Ar (Z : State) (h : Heap) (a : Addr) (ty : FieldType) (n : Nat) (f : Nat → Int32) : Prop := ∃ c : Cell, Arr Z h a c ty ∧ c.slots.size = n ∧ ∀ i, i < n → c.slots[i]? = some (.int (f i))
def own_up (f : Nat → Int32) (j : Nat) (v : Int32) : Nat → Int32 := fun i => if i = j then v else f i
theorem own_Ar.lt (F : own_Ar Z h a ty n f) : a < h.size := by obtain ⟨c, A, -⟩ := F; exact A.lt
theorem own_Ar.ext (F : own_Ar Z h a ty n f) (E : Ext h h') : own_Ar Z h' a ty n f := by obtain ⟨c, A, r⟩ := F; exact ⟨c, A.ext E, r⟩
theorem own_Ar.other (F : own_Ar Z h b ty n f) (W : Wr h h' a sl v) (q : b ≠ a) : own_Ar Z h' b ty n f := by obtain ⟨c, A, r⟩ := F; exact ⟨c, A.other W q, r⟩
theorem own_Ar.keep (F : own_Ar Z h a ty n f) (K : Keep h h' ws) (q : a ∉ ws) : own_Ar Z h' a ty n f := by obtain ⟨c, A, r⟩ := F; exact ⟨c, ⟨K.2.1 a c A.1 q, A.2⟩, r⟩
theorem own_Ar.congr (F : own_Ar Z h a ty n f) (q : ∀ i, i < n → f i = g i) : own_Ar Z h a ty n g := by obtain ⟨c, A, r, H⟩ := F; exact ⟨c, A, r, fun i hi => by rw [← q i hi]; exact H i hi⟩
theorem own_Ar.new {k : ClassId} {z : Int32} (A : Arr Z h a (newA k ty z) ty) (hd : defaultValue ty = .int 0) (hn : z.toNatClampNeg = n) : own_Ar Z h a ty n (fun _ => 0) :=
  ⟨_, A, by rw [sz_new, hn], fun i hi => by simp [newA, hd, hn, hi]⟩
theorem own_Ar.set {w : Int32} {j : Nat} (F : own_Ar Z h a ty n f) (W : Wr h h' a j (.int w)) (hj : j < n) : own_Ar Z h' a ty n (own_up f j w) := by
  obtain ⟨c, A, r, H⟩ := F
  refine ⟨_, A.same W, by rw [sz_set]; exact r, fun i hi => ?_⟩
  by_cases q : i = j
  · subst q
    simp [own_up, Cell.setSlot, r, hi]
  · rw [show (c.setSlot j (.int w)).slots[i]? = c.slots[i]? from Array.getElem?_setIfInBounds_ne (Ne.symm q)]
    simp [own_up, q, H i hi]
theorem own_bal (X : Stand p l e R s m args below meth c T locs cells slots) (hx : p.tables.exec = Jvm.exec) (hZ : Z.Warmed39 s.vm) (eT : T.heap = h) (A : own_Ar Z h a .byte n f) {j w : Int32} (h1 : ¬ j < 0) (h2 : j.toNatClampNeg < n) (hv : f j.toNatClampNeg = w)
    {pc : Nat} {Ls : Array Slot} {rest : List Value} (hd : decode c.code pc = .ok (.baload, 1)) (r : own_Run p e below s C N Q (T.setTop (mkF m (pc + 1) Ls (.int w :: rest)))) : own_Run p e below s C N Q (T.setTop (mkF m pc Ls (.int j :: .ref a :: rest))) := by
  obtain ⟨c, A, S, H⟩ := A
  subst hv
  exact own_of (fun t k => X.baloadBytes hx (j := j) (v := .int (f j.toNatClampNeg)) (by rw [eT]; exact A.1) (State.isArrayOf_alike hZ.alike A.2.1) A.2.2 (by rw [S]; exact fun q => q.elim h1 (Nat.not_le.mpr h2)) (H _ h2) (g := mkF m pc Ls (.int j :: .ref a :: rest)) rfl rfl hd t k) r
theorem own_ial (X : Stand p l e R s m args below meth c T locs cells slots) (hx : p.tables.exec = Jvm.exec) (hZ : Z.Warmed39 s.vm) (eT : T.heap = h) (A : own_Ar Z h a .int n f) {j w : Int32} (h1 : ¬ j < 0) (h2 : j.toNatClampNeg < n) (hv : f j.toNatClampNeg = w)
    {pc : Nat} {Ls : Array Slot} {rest : List Value} (hd : decode c.code pc = .ok (.iaload, 1)) (r : own_Run p e below s C N Q (T.setTop (mkF m (pc + 1) Ls (.int w :: rest)))) : own_Run p e below s C N Q (T.setTop (mkF m pc Ls (.int j :: .ref a :: rest))) := by
  obtain ⟨c, A, S, H⟩ := A
  subst hv
  exact own_of (fun t k => X.iaload hx (j := j) (v := .int (f j.toNatClampNeg)) (by rw [eT]; exact A.1) (State.isArrayOf_alike hZ.alike A.2.1) A.2.2 (by rw [S]; exact fun q => q.elim h1 (Nat.not_le.mpr h2)) (H _ h2) (g := mkF m pc Ls (.int j :: .ref a :: rest)) rfl rfl hd t k) r
theorem own_alen (X : Stand p l e R s m args below meth c T locs cells slots) (hx : p.tables.exec = Jvm.exec) (hZ : Z.Warmed39 s.vm) (eT : T.heap = h) (A : own_Ar Z h a ty n f) {w : Int32} (hv : n.toInt32 = w)
    {pc : Nat} {Ls : Array Slot} {rest : List Value} (hd : decode c.code pc = .ok (.arraylength, 1)) (r : own_Run p e below s C N Q (T.setTop (mkF m (pc + 1) Ls (.int w :: rest)))) : own_Run p e below s C N Q (T.setTop (mkF m pc Ls (.ref a :: rest))) := by
  obtain ⟨c, A, S, H⟩ := A
  subst hv S
  exact own_of (fun t k => X.arraylength hx (by rw [eT]; exact A.1) (State.isArrayOf_alike hZ.alike A.2.1) (g := mkF m pc Ls (.ref a :: rest)) rfl rfl hd t k) r
theorem own_bas (X : Stand p l e R s m args below meth c T locs cells slots) (hx : p.tables.exec = Jvm.exec) (hZ : Z.Warmed39 s.vm) (eT : T.heap = h) (A : own_Ar Z h a .byte n f) {j x : Int32} (h1 : ¬ j < 0) (h2 : j.toNatClampNeg < n)
    {pc : Nat} {Ls : Array Slot} {rest : List Value} (hd : decode c.code pc = .ok (.bastore, 1)) :
    ∃ T' h', Stand p l e R s m args below meth c T' (locs ++ [⟨a, j.toNatClampNeg⟩]) cells slots ∧ T'.heap = h' ∧ Wr h h' a j.toNatClampNeg (.int x.toInt8.toInt32) ∧ own_Ar Z h' a .byte n (own_up f j.toNatClampNeg x.toInt8.toInt32) ∧
      ∀ t, Steps p.tables e below (T'.setTop (mkF m (pc + 1) Ls rest)) t → Steps p.tables e below (T.setTop (mkF m pc Ls (.int x :: .int j :: .ref a :: rest))) t := by
  obtain ⟨c, A, S, H⟩ := id A
  obtain ⟨T', h', X', e', W, st⟩ := stB X hx hZ eT A (j := j) (x := x) (by rw [S]; exact fun q => q.elim h1 (Nat.not_le.mpr h2)) (g := mkF m pc Ls (.int x :: .int j :: .ref a :: rest)) rfl rfl hd
  exact ⟨T', h', X', e', W, own_Ar.set ⟨c, A, S, H⟩ W h2, st⟩
theorem own_ias (X : Stand p l e R s m args below meth c T locs cells slots) (hx : p.tables.exec = Jvm.exec) (hZ : Z.Warmed39 s.vm) (eT : T.heap = h) (A : own_Ar Z h a .int n f) {j x : Int32} (h1 : ¬ j < 0) (h2 : j.toNatClampNeg < n)
    {pc : Nat} {Ls : Array Slot} {rest : List Value} (hd : decode c.code pc = .ok (.iastore, 1)) :
    ∃ T' h', Stand p l e R s m args below meth c T' (locs ++ [⟨a, j.toNatClampNeg⟩]) cells slots ∧ T'.heap = h' ∧ Wr h h' a j.toNatClampNeg (.int x) ∧ own_Ar Z h' a .int n (own_up f j.toNatClampNeg x) ∧
      ∀ t, Steps p.tables e below (T'.setTop (mkF m (pc + 1) Ls rest)) t → Steps p.tables e below (T.setTop (mkF m pc Ls (.int x :: .int j :: .ref a :: rest))) t := by
  obtain ⟨c, A, S, H⟩ := id A
  obtain ⟨T', h', X', e', W, st⟩ := stI X hx hZ eT A (j := j) (x := x) (by rw [S]; exact fun q => q.elim h1 (Nat.not_le.mpr h2)) (g := mkF m pc Ls (.int x :: .int j :: .ref a :: rest)) rfl rfl hd
  exact ⟨T', h', X', e', W, own_Ar.set ⟨c, A, S, H⟩ W h2, st⟩
end OwnArrays
abbrev own_un (x : Int32) : Int32 := ((x % (256 : Int32)) + (256 : Int32)) % (256 : Int32)
abbrev own_16 (x y : Int32) : Int32 := ((x &&& (255 : Int32)) <<< ((8 : Int32) &&& 31)) ||| (y &&& (255 : Int32))
theorem own_un_i (x : Int32) : (own_un x).toInt = x.toInt % 256 := by
  have r := rng32 x
  have l1 : (256 : Int32).toInt = 256 := rfl
  have a := c_irem x (256 : Int32) 256 rfl
  have b := c_iadd (x % (256 : Int32)) (256 : Int32)
  have d := rng32 ((x % (256 : Int32)) + (256 : Int32))
  have f := c_irem ((x % (256 : Int32)) + (256 : Int32)) (256 : Int32) 256 rfl
  by_cases h : 0 ≤ x.toInt
  · have a1 := a.1 h
    have b1 : ((x % (256 : Int32)) + (256 : Int32)).toInt = x.toInt % 256 + 256 := by omega
    have f1 := f.1 (by omega)
    show (((x % (256 : Int32)) + (256 : Int32)) % (256 : Int32)).toInt = _
    omega
  · have a1 := a.2 (by omega)
    have b1 : ((x % (256 : Int32)) + (256 : Int32)).toInt = -((-x.toInt) % 256) + 256 := by omega
    have f1 := f.1 (by omega)
    show (((x % (256 : Int32)) + (256 : Int32)) % (256 : Int32)).toInt = _
    omega
theorem own_by (x : Int32) : (x.toInt8.toInt32.toInt8.toInt32 &&& (255 : Int32)).toInt = x.toInt % 256 := by
  have a := c_i2b x
  have b := c_i2b x.toInt8.toInt32
  have d := c_mask x.toInt8.toInt32.toInt8.toInt32 (255 : Int32) 8 (by decide) (by decide)
  rw [d]
  show _ % ((256 : Nat) : Int) = _
  omega
theorem own_16_i (x y : Int32) : (own_16 x.toInt8.toInt32.toInt8.toInt32 y.toInt8.toInt32.toInt8.toInt32).toInt = (x.toInt % 256) * 256 + y.toInt % 256 := by
  have a := own_by x
  have b := own_by y
  have d := c_ishl (x.toInt8.toInt32.toInt8.toInt32 &&& (255 : Int32)) (8 : Int32) 8 (by decide)
  have r1 := rng32 ((x.toInt8.toInt32.toInt8.toInt32 &&& (255 : Int32)) <<< ((8 : Int32) &&& 31))
  have d1 : ((x.toInt8.toInt32.toInt8.toInt32 &&& (255 : Int32)) <<< ((8 : Int32) &&& 31)).toInt = (x.toInt % 256) * 256 := by
    have d2 : (((x.toInt8.toInt32.toInt8.toInt32 &&& (255 : Int32)) <<< ((8 : Int32) &&& 31)).toInt - (x.toInt8.toInt32.toInt8.toInt32 &&& (255 : Int32)).toInt * 256) % 4294967296 = 0 := d
    omega
  have f := c_or ((x.toInt8.toInt32.toInt8.toInt32 &&& (255 : Int32)) <<< ((8 : Int32) &&& 31)) (y.toInt8.toInt32.toInt8.toInt32 &&& (255 : Int32)) 8 (by decide) 256 rfl (by omega) (by omega) (by omega)
  have r2 := rng32 (own_16 x.toInt8.toInt32.toInt8.toInt32 y.toInt8.toInt32.toInt8.toInt32)
  have f2 : ((own_16 x.toInt8.toInt32.toInt8.toInt32 y.toInt8.toInt32.toInt8.toInt32).toInt - (((x.toInt8.toInt32.toInt8.toInt32 &&& (255 : Int32)) <<< ((8 : Int32) &&& 31)).toInt + (y.toInt8.toInt32.toInt8.toInt32 &&& (255 : Int32)).toInt)) % 4294967296 = 0 := f
  omega
theorem own_eq (x y : Int32) : own_16 x.toInt8.toInt32.toInt8.toInt32 y.toInt8.toInt32.toInt8.toInt32 = own_un x * (256 : Int32) + own_un y := by
  have a := own_16_i x y
  have b := own_un_i x
  have d := own_un_i y
  have q := c_imul (own_un x) (256 : Int32)
  have q2 := c_iadd (own_un x * (256 : Int32)) (own_un y)
  have r1 := rng32 (own_un x * (256 : Int32))
  have r2 := rng32 (own_un x * (256 : Int32) + own_un y)
  have l1 : (256 : Int32).toInt = 256 := rfl
  rw [l1] at q
  apply Int32.toInt_inj.mp
  omega
theorem own_lo (x y : Int32) : ¬ own_16 x.toInt8.toInt32.toInt8.toInt32 y.toInt8.toInt32.toInt8.toInt32 < (0 : Int32) := by
  have a := own_16_i x y
  intro h
  have h1 := Int32.lt_iff_toInt_lt.mp h
  have l1 : (0 : Int32).toInt = 0 := rfl
  omega
theorem own_hi (x y : Int32) : ¬ (65535 : Int32) < own_16 x.toInt8.toInt32.toInt8.toInt32 y.toInt8.toInt32.toInt8.toInt32 := by
  have a := own_16_i x y
  intro h
  have h1 := Int32.lt_iff_toInt_lt.mp h
  have l1 : (65535 : Int32).toInt = 65535 := rfl
  omega
theorem own_p3 (q : Int32) : (q &&& (2147483647 : Int32)) % (3 : Int32) = (0 : Int32) ∨ (q &&& (2147483647 : Int32)) % (3 : Int32) = (1 : Int32) ∨ (q &&& (2147483647 : Int32)) % (3 : Int32) = (2 : Int32) := by
  have a := c_mask q (2147483647 : Int32) 31 (by decide) (by decide)
  have a' : (q &&& (2147483647 : Int32)).toInt = q.toInt % 2147483648 := a
  have b := (c_irem (q &&& (2147483647 : Int32)) (3 : Int32) 3 rfl).1 (by omega)
  have l0 : (0 : Int32).toInt = 0 := rfl
  have l1 : (1 : Int32).toInt = 1 := rfl
  have l2 : (2 : Int32).toInt = 2 := rfl
  have h : ((q &&& (2147483647 : Int32)) % (3 : Int32)).toInt = 0 ∨ ((q &&& (2147483647 : Int32)) % (3 : Int32)).toInt = 1 ∨ ((q &&& (2147483647 : Int32)) % (3 : Int32)).toInt = 2 := by omega
  rcases h with h | h | h
  · exact Or.inl (Int32.toInt_inj.mp (h.trans l0.symm))
  · exact Or.inr (Or.inl (Int32.toInt_inj.mp (h.trans l1.symm)))
  · exact Or.inr (Or.inr (Int32.toInt_inj.mp (h.trans l2.symm)))
theorem own_pn0 : plainName "com/example/pagewright/pagewright/BigEndianU16AtPinLaw" = true := by first | (simp [plainName, overriddenIn]; done) | decide +kernel
theorem dU_0 : decode method_2_code 0 = .ok (.iload_n 0, 1) := by decide +kernel
theorem dU_1 : decode method_2_code 1 = .ok (.sipush 256, 3) := by decide +kernel
theorem dU_4 : decode method_2_code 4 = .ok (.irem, 1) := by decide +kernel
theorem dU_5 : decode method_2_code 5 = .ok (.sipush 256, 3) := by decide +kernel
theorem dU_8 : decode method_2_code 8 = .ok (.iadd, 1) := by decide +kernel
theorem dU_9 : decode method_2_code 9 = .ok (.sipush 256, 3) := by decide +kernel
theorem dU_12 : decode method_2_code 12 = .ok (.irem, 1) := by decide +kernel
theorem dU_13 : decode method_2_code 13 = .ok (.ireturn, 1) := by decide +kernel
theorem efU (m : MethodId) (x1 : Int32) : entryFrame m #[(.int x1)] 1 = mkF m 0 #[.val (.int x1)] [] := by first | (simp [entryFrame, mkF, argsToLocals, Value.category]; done) | rfl
def QU (Z : State) (x1 : Int32) (h0 : Heap) (n0 : Nat) (v : Option Value) (h : Heap) (L : List Loc) : Prop := v = some (.int (own_un x1)) ∧ Fr n0 L ∧ h = h0
set_option maxRecDepth 65536 in
set_option maxHeartbeats 40000000 in
theorem rmU (l : Launch) (Z : State) (a0 : Array Value) (hw : ∀ d ∈ tables_1, d.before a0 Z = true) (ws : List Jvm.Cond) (x1 : Int32) (h0 : Heap) (n0 : Nat) (Z0 : n0 ≤ h0.size)  :
    MetFree l (⟨"com/example/pagewright/pagewright/BigEndianU16AtPinLaw", "unsignedOf", "(I)I"⟩ : MethodName) (head1 (Jvm.Cond.code (⟨"com/example/pagewright/pagewright/BigEndianU16AtPinLaw", "unsignedOf", "(I)I"⟩ : MethodName) method_2_code 1 (some .int) :: ws) ({ frames := 0, cells := 0, slots := 0, locals := 0 } : Room)) (fun a U => a = #[(.int x1)] ∧ Z.Warmed39 U.vm ∧ U.heap = h0) (fun _ _ _ _ _ => True) (fun _ U o U' => ∃ v L, o = .returned v ∧ QU Z x1 h0 n0 v U'.heap L ∧ FrameEnd U o U' L ({ frames := 0, cells := 0, slots := 0, locals := 0 } : Room).cells ({ frames := 0, cells := 0, slots := 0, locals := 0 } : Room).slots) := by
  refine MetFree.of_bodySF (plainFor_of_name own_pn0) hisR ?_
  intro p e s m args below meth c s₁ Bd hml0 hP hK
  obtain ⟨rfl, hZ, hh⟩ := hP
  have hx := Bd.exec
  have hby := Bd.bytes
  have hml : c.maxLocals = 1 := hml0
  have hown : s.vm.findClass "com/example/pagewright/pagewright/BigEndianU16AtPinLaw" = some m.cls := findClass_of_methodNamed Bd.named
  have hnm := (name_of_methodNamed Bd.named Bd.method).1
  have hlk := Bd.notSynchronized
  have hret := Bd.returns
  have X0 : Stand p l e ({ frames := 0, cells := 0, slots := 0, locals := 0 } : Room) s m #[(.int x1)] below meth c s₁ [] 0 0 := Stand.of_body Bd
  have e0 : s₁.heap = h0 := by rw [← hh, Bd.state]; rfl
  have N0 := Fr.nil n0
  show own_Run p e below s 0 0 (QU Z x1 h0 n0) (s₁.setTop (entryFrame m #[(.int x1)] 1))
  refine own_cast (efU m x1) ?_
  show own_Run p e below s _ _ _ (s₁.setTop (mkF m 0 #[.val (.int x1)] []))
  refine own_of (fun _ hh_ => XS.iloadN X0.here hx rfl (hb hby dU_0) rfl hh_) ?_
  show own_Run p e below s _ _ _ (s₁.setTop (mkF m 1 #[.val (.int x1)] [(.int x1)]))
  refine own_of (fun _ hh_ => XS.sipush X0.here hx rfl (hb hby dU_1) hh_) ?_
  show own_Run p e below s _ _ _ (s₁.setTop (mkF m 4 #[.val (.int x1)] [(.int (256 : Int32)), (.int x1)]))
  refine own_of (fun _ hh_ => Jvm.RoadKit.iremM (g := (mkF m 4 #[.val (.int x1)] [(.int (256 : Int32)), (.int x1)])) X0 hx rfl (hb hby dU_4) rfl (by decide) hh_) ?_
  show own_Run p e below s _ _ _ (s₁.setTop (mkF m 5 #[.val (.int x1)] [(.int (x1 % (256 : Int32)))]))
  refine own_of (fun _ hh_ => XS.sipush X0.here hx rfl (hb hby dU_5) hh_) ?_
  show own_Run p e below s _ _ _ (s₁.setTop (mkF m 8 #[.val (.int x1)] [(.int (256 : Int32)), (.int (x1 % (256 : Int32)))]))
  refine own_of (fun _ hh_ => XS.iadd X0.here hx rfl (hb hby dU_8) rfl hh_) ?_
  show own_Run p e below s _ _ _ (s₁.setTop (mkF m 9 #[.val (.int x1)] [(.int ((x1 % (256 : Int32)) + (256 : Int32)))]))
  refine own_of (fun _ hh_ => XS.sipush X0.here hx rfl (hb hby dU_9) hh_) ?_
  show own_Run p e below s _ _ _ (s₁.setTop (mkF m 12 #[.val (.int x1)] [(.int (256 : Int32)), (.int ((x1 % (256 : Int32)) + (256 : Int32)))]))
  refine own_of (fun _ hh_ => Jvm.RoadKit.iremM (g := (mkF m 12 #[.val (.int x1)] [(.int (256 : Int32)), (.int ((x1 % (256 : Int32)) + (256 : Int32)))])) X0 hx rfl (hb hby dU_12) rfl (by decide) hh_) ?_
  show own_Run p e below s _ _ _ (s₁.setTop (mkF m 13 #[.val (.int x1)] [(.int (((x1 % (256 : Int32)) + (256 : Int32)) % (256 : Int32)))]))
  exact own_retI X0 hx hret hlk (hb hby dU_13) ⟨rfl, N0, e0⟩ (by decide) (by decide)
theorem own_pn1 : plainName "com/example/pagewright/pagewright/BigEndian" = true := by first | (simp [plainName, overriddenIn]; done) | decide +kernel
theorem dW_0 : decode prog_10_method_2_code 0 = .ok (.aload_n 0, 1) := by decide +kernel
theorem dW_1 : decode prog_10_method_2_code 1 = .ok (.iload_n 1, 1) := by decide +kernel
theorem dW_2 : decode prog_10_method_2_code 2 = .ok (.baload, 1) := by decide +kernel
theorem dW_3 : decode prog_10_method_2_code 3 = .ok (.sipush 255, 3) := by decide +kernel
theorem dW_6 : decode prog_10_method_2_code 6 = .ok (.iand, 1) := by decide +kernel
theorem dW_7 : decode prog_10_method_2_code 7 = .ok (.bipush 8, 2) := by decide +kernel
theorem dW_9 : decode prog_10_method_2_code 9 = .ok (.ishl, 1) := by decide +kernel
theorem dW_10 : decode prog_10_method_2_code 10 = .ok (.aload_n 0, 1) := by decide +kernel
theorem dW_11 : decode prog_10_method_2_code 11 = .ok (.iload_n 1, 1) := by decide +kernel
theorem dW_12 : decode prog_10_method_2_code 12 = .ok (.iconst 1, 1) := by decide +kernel
theorem dW_13 : decode prog_10_method_2_code 13 = .ok (.iadd, 1) := by decide +kernel
theorem dW_14 : decode prog_10_method_2_code 14 = .ok (.baload, 1) := by decide +kernel
theorem dW_15 : decode prog_10_method_2_code 15 = .ok (.sipush 255, 3) := by decide +kernel
theorem dW_18 : decode prog_10_method_2_code 18 = .ok (.iand, 1) := by decide +kernel
theorem dW_19 : decode prog_10_method_2_code 19 = .ok (.ior, 1) := by decide +kernel
theorem dW_20 : decode prog_10_method_2_code 20 = .ok (.ireturn, 1) := by decide +kernel
theorem efW (m : MethodId) (r1 : Addr) (p1 : Int32) : entryFrame m #[(.ref r1), (.int p1)] 2 = mkF m 0 #[.val (.ref r1), .val (.int p1)] [] := by first | (simp [entryFrame, mkF, argsToLocals, Value.category]; done) | rfl
def QW (Z : State) (r1 : Addr) (p1 : Int32) (n : Nat) (f : Nat → Int32) (x : Int32) (y : Int32) (h0 : Heap) (n0 : Nat) (v : Option Value) (h : Heap) (L : List Loc) : Prop := v = some (.int (own_16 x y)) ∧ Fr n0 L ∧ h = h0
set_option maxRecDepth 65536 in
set_option maxHeartbeats 40000000 in
theorem rmW (l : Launch) (Z : State) (a0 : Array Value) (hw : ∀ d ∈ tables_1, d.before a0 Z = true) (ws : List Jvm.Cond) (r1 : Addr) (p1 : Int32) (n : Nat) (f : Nat → Int32) (x : Int32) (y : Int32) (h0 : Heap) (n0 : Nat) (Z0 : n0 ≤ h0.size) (A : own_Ar Z h0 r1 .byte n f) (h1 : ¬ p1 < 0) (h2 : p1.toNatClampNeg < n) (hx1 : f p1.toNatClampNeg = x) (h3 : ¬ (p1 + (1 : Int32)) < 0) (h4 : (p1 + (1 : Int32)).toNatClampNeg < n) (hy1 : f (p1 + (1 : Int32)).toNatClampNeg = y) :
    MetFree l (⟨"com/example/pagewright/pagewright/BigEndian", "u16At", "([BI)I"⟩ : MethodName) (head1 (Jvm.Cond.code (⟨"com/example/pagewright/pagewright/BigEndian", "u16At", "([BI)I"⟩ : MethodName) prog_10_method_2_code 2 (some .int) :: ws) ({ frames := 0, cells := 0, slots := 0, locals := 0 } : Room)) (fun a U => a = #[(.ref r1), (.int p1)] ∧ Z.Warmed39 U.vm ∧ U.heap = h0) (fun _ _ _ _ _ => True) (fun _ U o U' => ∃ v L, o = .returned v ∧ QW Z r1 p1 n f x y h0 n0 v U'.heap L ∧ FrameEnd U o U' L ({ frames := 0, cells := 0, slots := 0, locals := 0 } : Room).cells ({ frames := 0, cells := 0, slots := 0, locals := 0 } : Room).slots) := by
  refine MetFree.of_bodySF (plainFor_of_name own_pn1) hisR ?_
  intro p e s m args below meth c s₁ Bd hml0 hP hK
  obtain ⟨rfl, hZ, hh⟩ := hP
  have hx := Bd.exec
  have hby := Bd.bytes
  have hml : c.maxLocals = 2 := hml0
  have hown : s.vm.findClass "com/example/pagewright/pagewright/BigEndian" = some m.cls := findClass_of_methodNamed Bd.named
  have hnm := (name_of_methodNamed Bd.named Bd.method).1
  have hlk := Bd.notSynchronized
  have hret := Bd.returns
  have X0 : Stand p l e ({ frames := 0, cells := 0, slots := 0, locals := 0 } : Room) s m #[(.ref r1), (.int p1)] below meth c s₁ [] 0 0 := Stand.of_body Bd
  have e0 : s₁.heap = h0 := by rw [← hh, Bd.state]; rfl
  have N0 := Fr.nil n0
  show own_Run p e below s 0 0 (QW Z r1 p1 n f x y h0 n0) (s₁.setTop (entryFrame m #[(.ref r1), (.int p1)] 2))
  refine own_cast (efW m r1 p1) ?_
  show own_Run p e below s _ _ _ (s₁.setTop (mkF m 0 #[.val (.ref r1), .val (.int p1)] []))
  refine own_of (fun _ hh_ => XS.aloadN X0.here hx rfl (hb hby dW_0) rfl rfl hh_) ?_
  show own_Run p e below s _ _ _ (s₁.setTop (mkF m 1 #[.val (.ref r1), .val (.int p1)] [(.ref r1)]))
  refine own_of (fun _ hh_ => XS.iloadN X0.here hx rfl (hb hby dW_1) rfl hh_) ?_
  show own_Run p e below s _ _ _ (s₁.setTop (mkF m 2 #[.val (.ref r1), .val (.int p1)] [(.int p1), (.ref r1)]))
  refine own_bal X0 hx hZ e0 A (j := p1) (w := x) h1 h2 hx1 (hb hby dW_2) ?_
  show own_Run p e below s _ _ _ (s₁.setTop (mkF m 3 #[.val (.ref r1), .val (.int p1)] [(.int x)]))
  refine own_of (fun _ hh_ => XS.sipush X0.here hx rfl (hb hby dW_3) hh_) ?_
  show own_Run p e below s _ _ _ (s₁.setTop (mkF m 6 #[.val (.ref r1), .val (.int p1)] [(.int (255 : Int32)), (.int x)]))
  refine own_of (fun _ hh_ => XS.iand X0.here hx rfl (hb hby dW_6) rfl hh_) ?_
  show own_Run p e below s _ _ _ (s₁.setTop (mkF m 7 #[.val (.ref r1), .val (.int p1)] [(.int (x &&& (255 : Int32)))]))
  refine own_of (fun _ hh_ => XS.bipush X0.here hx rfl (hb hby dW_7) hh_) ?_
  show own_Run p e below s _ _ _ (s₁.setTop (mkF m 9 #[.val (.ref r1), .val (.int p1)] [(.int (8 : Int32)), (.int (x &&& (255 : Int32)))]))
  refine own_of (fun _ hh_ => XS.ishl X0.here hx rfl (hb hby dW_9) rfl hh_) ?_
  show own_Run p e below s _ _ _ (s₁.setTop (mkF m 10 #[.val (.ref r1), .val (.int p1)] [(.int ((x &&& (255 : Int32)) <<< ((8 : Int32) &&& 31)))]))
  refine own_of (fun _ hh_ => XS.aloadN X0.here hx rfl (hb hby dW_10) rfl rfl hh_) ?_
  show own_Run p e below s _ _ _ (s₁.setTop (mkF m 11 #[.val (.ref r1), .val (.int p1)] [(.ref r1), (.int ((x &&& (255 : Int32)) <<< ((8 : Int32) &&& 31)))]))
  refine own_of (fun _ hh_ => XS.iloadN X0.here hx rfl (hb hby dW_11) rfl hh_) ?_
  show own_Run p e below s _ _ _ (s₁.setTop (mkF m 12 #[.val (.ref r1), .val (.int p1)] [(.int p1), (.ref r1), (.int ((x &&& (255 : Int32)) <<< ((8 : Int32) &&& 31)))]))
  refine own_of (fun _ hh_ => XS.iconst X0.here hx rfl (hb hby dW_12) hh_) ?_
  show own_Run p e below s _ _ _ (s₁.setTop (mkF m 13 #[.val (.ref r1), .val (.int p1)] [(.int (1 : Int32)), (.int p1), (.ref r1), (.int ((x &&& (255 : Int32)) <<< ((8 : Int32) &&& 31)))]))
  refine own_of (fun _ hh_ => XS.iadd X0.here hx rfl (hb hby dW_13) rfl hh_) ?_
  show own_Run p e below s _ _ _ (s₁.setTop (mkF m 14 #[.val (.ref r1), .val (.int p1)] [(.int (p1 + (1 : Int32))), (.ref r1), (.int ((x &&& (255 : Int32)) <<< ((8 : Int32) &&& 31)))]))
  refine own_bal X0 hx hZ e0 A (j := (p1 + (1 : Int32))) (w := y) h3 h4 hy1 (hb hby dW_14) ?_
  show own_Run p e below s _ _ _ (s₁.setTop (mkF m 15 #[.val (.ref r1), .val (.int p1)] [(.int y), (.int ((x &&& (255 : Int32)) <<< ((8 : Int32) &&& 31)))]))
  refine own_of (fun _ hh_ => XS.sipush X0.here hx rfl (hb hby dW_15) hh_) ?_
  show own_Run p e below s _ _ _ (s₁.setTop (mkF m 18 #[.val (.ref r1), .val (.int p1)] [(.int (255 : Int32)), (.int y), (.int ((x &&& (255 : Int32)) <<< ((8 : Int32) &&& 31)))]))
  refine own_of (fun _ hh_ => XS.iand X0.here hx rfl (hb hby dW_18) rfl hh_) ?_
  show own_Run p e below s _ _ _ (s₁.setTop (mkF m 19 #[.val (.ref r1), .val (.int p1)] [(.int (y &&& (255 : Int32))), (.int ((x &&& (255 : Int32)) <<< ((8 : Int32) &&& 31)))]))
  refine own_of (fun _ hh_ => XS.ior X0.here hx rfl (hb hby dW_19) rfl hh_) ?_
  show own_Run p e below s _ _ _ (s₁.setTop (mkF m 20 #[.val (.ref r1), .val (.int p1)] [(.int (((x &&& (255 : Int32)) <<< ((8 : Int32) &&& 31)) ||| (y &&& (255 : Int32))))]))
  exact own_retI X0 hx hret hlk (hb hby dW_20) ⟨rfl, N0, e0⟩ (by decide) (by decide)
theorem own_pd0 : parseMethodDescriptor "(I)I" = some ⟨[.int], some .int⟩ := by decide +kernel
theorem own_pd1 : parseMethodDescriptor "([BI)I" = some ⟨[(.array .byte), .int], some .int⟩ := by decide +kernel
theorem ef0 (m : MethodId) (a1 : Int32) (b1 : Int32) (c1 : Int32) (d1 : Int32) (p1 : Int32) : entryFrame m #[(.int a1), (.int b1), (.int c1), (.int d1), (.int p1)] maxLocals = mkF m 0 #[.val (.int a1), .val (.int b1), .val (.int c1), .val (.int d1), .val (.int p1), .unset, .unset, .unset, .unset, .unset, .unset] [] := by first | (simp [entryFrame, mkF, argsToLocals, Value.category, maxLocals]; done) | rfl
def Q0 (Z : State) (a1 : Int32) (b1 : Int32) (c1 : Int32) (d1 : Int32) (p1 : Int32) (h0 : Heap) (n0 : Nat) (v : Option Value) (h : Heap) (L : List Loc) : Prop := v = some (.int 1) ∧ Fr n0 L
set_option maxRecDepth 65536 in
set_option maxHeartbeats 40000000 in
theorem rm0 (l : Launch) (Z : State) (a0 : Array Value) (hw : ∀ d ∈ tables_1, d.before a0 Z = true) (ws : List Jvm.Cond) (a1 : Int32) (b1 : Int32) (c1 : Int32) (d1 : Int32) (p1 : Int32) (h0 : Heap) (n0 : Nat) (Z0 : n0 ≤ h0.size)  :
    MetFree l x (head1 (Jvm.Cond.code x code maxLocals ret :: ws) room_1) (fun a U => a = #[(.int a1), (.int b1), (.int c1), (.int d1), (.int p1)] ∧ Z.Warmed39 U.vm ∧ U.heap = h0) (fun _ _ _ _ _ => True) (fun _ U o U' => ∃ v L, o = .returned v ∧ Q0 Z a1 b1 c1 d1 p1 h0 n0 v U'.heap L ∧ FrameEnd U o U' L 16 128) := by
  refine MetFree.of_bodySF (plainFor_of_name own_pn0) hisR ?_
  intro p e s m args below meth c s₁ Bd hml0 hP hK
  obtain ⟨rfl, hZ, hh⟩ := hP
  have hx := Bd.exec
  have hby := Bd.bytes
  have hml : c.maxLocals = 11 := hml0
  have hown : s.vm.findClass "com/example/pagewright/pagewright/BigEndianU16AtPinLaw" = some m.cls := findClass_of_methodNamed Bd.named
  have hnm := (name_of_methodNamed Bd.named Bd.method).1
  have hlk := Bd.notSynchronized
  have hret := Bd.returns
  have X0 : Stand p l e room_1 s m #[(.int a1), (.int b1), (.int c1), (.int d1), (.int p1)] below meth c s₁ [] 0 0 := Stand.of_body Bd
  have e0 : s₁.heap = h0 := by rw [← hh, Bd.state]; rfl
  have N0 := Fr.nil n0
  show own_Run p e below s 16 128 (Q0 Z a1 b1 c1 d1 p1 h0 n0) (s₁.setTop (entryFrame m #[(.int a1), (.int b1), (.int c1), (.int d1), (.int p1)] maxLocals))
  refine own_cast (ef0 m a1 b1 c1 d1 p1) ?_
  show own_Run p e below s _ _ _ (s₁.setTop (mkF m 0 #[.val (.int a1), .val (.int b1), .val (.int c1), .val (.int d1), .val (.int p1), .unset, .unset, .unset, .unset, .unset, .unset] []))
  refine own_of (fun _ hh_ => XS.iconst X0.here hx rfl (hb hby at_0) hh_) ?_
  show own_Run p e below s _ _ _ (s₁.setTop (mkF m 1 #[.val (.int a1), .val (.int b1), .val (.int c1), .val (.int d1), .val (.int p1), .unset, .unset, .unset, .unset, .unset, .unset] [(.int (4 : Int32))]))
  obtain ⟨T1, h1, k1, X1, e1, E1, A1, st1⟩ := newP X0 hx hZ (hw _ (List.mem_of_getElem? (i := 0) rfl)) e0 (g := (mkF m 1 #[.val (.int a1), .val (.int b1), .val (.int c1), .val (.int d1), .val (.int p1), .unset, .unset, .unset, .unset, .unset, .unset] [(.int (4 : Int32))])) rfl (hb hby at_1) rfl (by decide) (cap := 4) (by decide) (by decide) (by decide) (by decide)
  obtain ⟨ob1, g1⟩ : ∃ z, z = h0.size := ⟨_, rfl⟩
  rw [← g1] at A1 st1
  have g_ob1 : n0 ≤ ob1 := Nat.le_trans Z0 (Nat.le_of_eq g1.symm)
  have V1 : own_Ar Z h1 ob1 .byte 4 (fun _ => 0) := own_Ar.new A1 rfl rfl
  refine own_of st1 ?_
  show own_Run p e below s _ _ _ (T1.setTop (mkF m 3 #[.val (.int a1), .val (.int b1), .val (.int c1), .val (.int d1), .val (.int p1), .unset, .unset, .unset, .unset, .unset, .unset] [(.ref ob1)]))
  refine own_of (fun _ hh_ => XS.astore X1.here hx rfl (hb hby at_3) rfl rfl (l' := #[.val (.int a1), .val (.int b1), .val (.int c1), .val (.int d1), .val (.int p1), .val (.ref ob1), .unset, .unset, .unset, .unset, .unset]) rfl hh_) ?_
  show own_Run p e below s _ _ _ (T1.setTop (mkF m 5 #[.val (.int a1), .val (.int b1), .val (.int c1), .val (.int d1), .val (.int p1), .val (.ref ob1), .unset, .unset, .unset, .unset, .unset] []))
  refine own_of (fun _ hh_ => XS.aload X1.here hx rfl (hb hby at_5) rfl rfl hh_) ?_
  show own_Run p e below s _ _ _ (T1.setTop (mkF m 7 #[.val (.int a1), .val (.int b1), .val (.int c1), .val (.int d1), .val (.int p1), .val (.ref ob1), .unset, .unset, .unset, .unset, .unset] [(.ref ob1)]))
  refine own_of (fun _ hh_ => XS.iconst X1.here hx rfl (hb hby at_7) hh_) ?_
  show own_Run p e below s _ _ _ (T1.setTop (mkF m 8 #[.val (.int a1), .val (.int b1), .val (.int c1), .val (.int d1), .val (.int p1), .val (.ref ob1), .unset, .unset, .unset, .unset, .unset] [(.int (0 : Int32)), (.ref ob1)]))
  refine own_of (fun _ hh_ => XS.iloadN X1.here hx rfl (hb hby at_8) rfl hh_) ?_
  show own_Run p e below s _ _ _ (T1.setTop (mkF m 9 #[.val (.int a1), .val (.int b1), .val (.int c1), .val (.int d1), .val (.int p1), .val (.ref ob1), .unset, .unset, .unset, .unset, .unset] [(.int a1), (.int (0 : Int32)), (.ref ob1)]))
  refine own_of (fun _ hh_ => XS.i2b X1.here hx rfl (hb hby at_9) rfl hh_) ?_
  show own_Run p e below s _ _ _ (T1.setTop (mkF m 10 #[.val (.int a1), .val (.int b1), .val (.int c1), .val (.int d1), .val (.int p1), .val (.ref ob1), .unset, .unset, .unset, .unset, .unset] [(.int (a1.toInt8.toInt32)), (.int (0 : Int32)), (.ref ob1)]))
  obtain ⟨T2, h2, X2, e2, W2, V2, st2⟩ := own_bas X1 hx hZ e1 V1 (j := (0 : Int32)) (x := (a1.toInt8.toInt32)) (by decide) (by decide) (pc := 10) (Ls := #[.val (.int a1), .val (.int b1), .val (.int c1), .val (.int d1), .val (.int p1), .val (.ref ob1), .unset, .unset, .unset, .unset, .unset]) (rest := []) (hb hby at_10)
  have N2 := Fr.snoc X2 N0 g_ob1
  replace V2 : own_Ar Z h2 ob1 .byte 4 (own_up (fun _ => 0) 0 (a1.toInt8.toInt32).toInt8.toInt32) := V2
  refine own_of st2 ?_
  show own_Run p e below s _ _ _ (T2.setTop (mkF m 11 #[.val (.int a1), .val (.int b1), .val (.int c1), .val (.int d1), .val (.int p1), .val (.ref ob1), .unset, .unset, .unset, .unset, .unset] []))
  refine own_of (fun _ hh_ => XS.aload X2.here hx rfl (hb hby at_11) rfl rfl hh_) ?_
  show own_Run p e below s _ _ _ (T2.setTop (mkF m 13 #[.val (.int a1), .val (.int b1), .val (.int c1), .val (.int d1), .val (.int p1), .val (.ref ob1), .unset, .unset, .unset, .unset, .unset] [(.ref ob1)]))
  refine own_of (fun _ hh_ => XS.iconst X2.here hx rfl (hb hby at_13) hh_) ?_
  show own_Run p e below s _ _ _ (T2.setTop (mkF m 14 #[.val (.int a1), .val (.int b1), .val (.int c1), .val (.int d1), .val (.int p1), .val (.ref ob1), .unset, .unset, .unset, .unset, .unset] [(.int (1 : Int32)), (.ref ob1)]))
  refine own_of (fun _ hh_ => XS.iloadN X2.here hx rfl (hb hby at_14) rfl hh_) ?_
  show own_Run p e below s _ _ _ (T2.setTop (mkF m 15 #[.val (.int a1), .val (.int b1), .val (.int c1), .val (.int d1), .val (.int p1), .val (.ref ob1), .unset, .unset, .unset, .unset, .unset] [(.int b1), (.int (1 : Int32)), (.ref ob1)]))
  refine own_of (fun _ hh_ => XS.i2b X2.here hx rfl (hb hby at_15) rfl hh_) ?_
  show own_Run p e below s _ _ _ (T2.setTop (mkF m 16 #[.val (.int a1), .val (.int b1), .val (.int c1), .val (.int d1), .val (.int p1), .val (.ref ob1), .unset, .unset, .unset, .unset, .unset] [(.int (b1.toInt8.toInt32)), (.int (1 : Int32)), (.ref ob1)]))
  obtain ⟨T3, h3, X3, e3, W3, V3, st3⟩ := own_bas X2 hx hZ e2 V2 (j := (1 : Int32)) (x := (b1.toInt8.toInt32)) (by decide) (by decide) (pc := 16) (Ls := #[.val (.int a1), .val (.int b1), .val (.int c1), .val (.int d1), .val (.int p1), .val (.ref ob1), .unset, .unset, .unset, .unset, .unset]) (rest := []) (hb hby at_16)
  have N3 := Fr.snoc X3 N2 g_ob1
  replace V3 : own_Ar Z h3 ob1 .byte 4 (own_up (own_up (fun _ => 0) 0 (a1.toInt8.toInt32).toInt8.toInt32) 1 (b1.toInt8.toInt32).toInt8.toInt32) := V3
  refine own_of st3 ?_
  show own_Run p e below s _ _ _ (T3.setTop (mkF m 17 #[.val (.int a1), .val (.int b1), .val (.int c1), .val (.int d1), .val (.int p1), .val (.ref ob1), .unset, .unset, .unset, .unset, .unset] []))
  refine own_of (fun _ hh_ => XS.aload X3.here hx rfl (hb hby at_17) rfl rfl hh_) ?_
  show own_Run p e below s _ _ _ (T3.setTop (mkF m 19 #[.val (.int a1), .val (.int b1), .val (.int c1), .val (.int d1), .val (.int p1), .val (.ref ob1), .unset, .unset, .unset, .unset, .unset] [(.ref ob1)]))
  refine own_of (fun _ hh_ => XS.iconst X3.here hx rfl (hb hby at_19) hh_) ?_
  show own_Run p e below s _ _ _ (T3.setTop (mkF m 20 #[.val (.int a1), .val (.int b1), .val (.int c1), .val (.int d1), .val (.int p1), .val (.ref ob1), .unset, .unset, .unset, .unset, .unset] [(.int (2 : Int32)), (.ref ob1)]))
  refine own_of (fun _ hh_ => XS.iloadN X3.here hx rfl (hb hby at_20) rfl hh_) ?_
  show own_Run p e below s _ _ _ (T3.setTop (mkF m 21 #[.val (.int a1), .val (.int b1), .val (.int c1), .val (.int d1), .val (.int p1), .val (.ref ob1), .unset, .unset, .unset, .unset, .unset] [(.int c1), (.int (2 : Int32)), (.ref ob1)]))
  refine own_of (fun _ hh_ => XS.i2b X3.here hx rfl (hb hby at_21) rfl hh_) ?_
  show own_Run p e below s _ _ _ (T3.setTop (mkF m 22 #[.val (.int a1), .val (.int b1), .val (.int c1), .val (.int d1), .val (.int p1), .val (.ref ob1), .unset, .unset, .unset, .unset, .unset] [(.int (c1.toInt8.toInt32)), (.int (2 : Int32)), (.ref ob1)]))
  obtain ⟨T4, h4, X4, e4, W4, V4, st4⟩ := own_bas X3 hx hZ e3 V3 (j := (2 : Int32)) (x := (c1.toInt8.toInt32)) (by decide) (by decide) (pc := 22) (Ls := #[.val (.int a1), .val (.int b1), .val (.int c1), .val (.int d1), .val (.int p1), .val (.ref ob1), .unset, .unset, .unset, .unset, .unset]) (rest := []) (hb hby at_22)
  have N4 := Fr.snoc X4 N3 g_ob1
  replace V4 : own_Ar Z h4 ob1 .byte 4 (own_up (own_up (own_up (fun _ => 0) 0 (a1.toInt8.toInt32).toInt8.toInt32) 1 (b1.toInt8.toInt32).toInt8.toInt32) 2 (c1.toInt8.toInt32).toInt8.toInt32) := V4
  refine own_of st4 ?_
  show own_Run p e below s _ _ _ (T4.setTop (mkF m 23 #[.val (.int a1), .val (.int b1), .val (.int c1), .val (.int d1), .val (.int p1), .val (.ref ob1), .unset, .unset, .unset, .unset, .unset] []))
  refine own_of (fun _ hh_ => XS.aload X4.here hx rfl (hb hby at_23) rfl rfl hh_) ?_
  show own_Run p e below s _ _ _ (T4.setTop (mkF m 25 #[.val (.int a1), .val (.int b1), .val (.int c1), .val (.int d1), .val (.int p1), .val (.ref ob1), .unset, .unset, .unset, .unset, .unset] [(.ref ob1)]))
  refine own_of (fun _ hh_ => XS.iconst X4.here hx rfl (hb hby at_25) hh_) ?_
  show own_Run p e below s _ _ _ (T4.setTop (mkF m 26 #[.val (.int a1), .val (.int b1), .val (.int c1), .val (.int d1), .val (.int p1), .val (.ref ob1), .unset, .unset, .unset, .unset, .unset] [(.int (3 : Int32)), (.ref ob1)]))
  refine own_of (fun _ hh_ => XS.iloadN X4.here hx rfl (hb hby at_26) rfl hh_) ?_
  show own_Run p e below s _ _ _ (T4.setTop (mkF m 27 #[.val (.int a1), .val (.int b1), .val (.int c1), .val (.int d1), .val (.int p1), .val (.ref ob1), .unset, .unset, .unset, .unset, .unset] [(.int d1), (.int (3 : Int32)), (.ref ob1)]))
  refine own_of (fun _ hh_ => XS.i2b X4.here hx rfl (hb hby at_27) rfl hh_) ?_
  show own_Run p e below s _ _ _ (T4.setTop (mkF m 28 #[.val (.int a1), .val (.int b1), .val (.int c1), .val (.int d1), .val (.int p1), .val (.ref ob1), .unset, .unset, .unset, .unset, .unset] [(.int (d1.toInt8.toInt32)), (.int (3 : Int32)), (.ref ob1)]))
  obtain ⟨T5, h5, X5, e5, W5, V5, st5⟩ := own_bas X4 hx hZ e4 V4 (j := (3 : Int32)) (x := (d1.toInt8.toInt32)) (by decide) (by decide) (pc := 28) (Ls := #[.val (.int a1), .val (.int b1), .val (.int c1), .val (.int d1), .val (.int p1), .val (.ref ob1), .unset, .unset, .unset, .unset, .unset]) (rest := []) (hb hby at_28)
  have N5 := Fr.snoc X5 N4 g_ob1
  replace V5 : own_Ar Z h5 ob1 .byte 4 (own_up (own_up (own_up (own_up (fun _ => 0) 0 (a1.toInt8.toInt32).toInt8.toInt32) 1 (b1.toInt8.toInt32).toInt8.toInt32) 2 (c1.toInt8.toInt32).toInt8.toInt32) 3 (d1.toInt8.toInt32).toInt8.toInt32) := V5
  refine own_of st5 ?_
  show own_Run p e below s _ _ _ (T5.setTop (mkF m 29 #[.val (.int a1), .val (.int b1), .val (.int c1), .val (.int d1), .val (.int p1), .val (.ref ob1), .unset, .unset, .unset, .unset, .unset] []))
  refine own_of (fun _ hh_ => XS.iload X5.here hx rfl (hb hby at_29) rfl hh_) ?_
  show own_Run p e below s _ _ _ (T5.setTop (mkF m 31 #[.val (.int a1), .val (.int b1), .val (.int c1), .val (.int d1), .val (.int p1), .val (.ref ob1), .unset, .unset, .unset, .unset, .unset] [(.int p1)]))
  refine own_of (X5.ldcInt hx hown (mvT hZ (hw _ (List.mem_of_getElem? (i := 1) rfl))) (g := (mkF m 31 #[.val (.int a1), .val (.int b1), .val (.int c1), .val (.int d1), .val (.int p1), .val (.ref ob1), .unset, .unset, .unset, .unset, .unset] [(.int p1)])) rfl (hb hby at_31)) ?_
  show own_Run p e below s _ _ _ (T5.setTop (mkF m 33 #[.val (.int a1), .val (.int b1), .val (.int c1), .val (.int d1), .val (.int p1), .val (.ref ob1), .unset, .unset, .unset, .unset, .unset] [(.int (2147483647 : Int32)), (.int p1)]))
  refine own_of (fun _ hh_ => XS.iand X5.here hx rfl (hb hby at_33) rfl hh_) ?_
  show own_Run p e below s _ _ _ (T5.setTop (mkF m 34 #[.val (.int a1), .val (.int b1), .val (.int c1), .val (.int d1), .val (.int p1), .val (.ref ob1), .unset, .unset, .unset, .unset, .unset] [(.int (p1 &&& (2147483647 : Int32)))]))
  refine own_of (fun _ hh_ => XS.iconst X5.here hx rfl (hb hby at_34) hh_) ?_
  show own_Run p e below s _ _ _ (T5.setTop (mkF m 35 #[.val (.int a1), .val (.int b1), .val (.int c1), .val (.int d1), .val (.int p1), .val (.ref ob1), .unset, .unset, .unset, .unset, .unset] [(.int (3 : Int32)), (.int (p1 &&& (2147483647 : Int32)))]))
  refine own_of (fun _ hh_ => Jvm.RoadKit.iremM (g := (mkF m 35 #[.val (.int a1), .val (.int b1), .val (.int c1), .val (.int d1), .val (.int p1), .val (.ref ob1), .unset, .unset, .unset, .unset, .unset] [(.int (3 : Int32)), (.int (p1 &&& (2147483647 : Int32)))])) X5 hx rfl (hb hby at_35) rfl (by decide) hh_) ?_
  show own_Run p e below s _ _ _ (T5.setTop (mkF m 36 #[.val (.int a1), .val (.int b1), .val (.int c1), .val (.int d1), .val (.int p1), .val (.ref ob1), .unset, .unset, .unset, .unset, .unset] [(.int ((p1 &&& (2147483647 : Int32)) % (3 : Int32)))]))
  rcases own_p3 p1 with hs6 | hs6 | hs6
  · rw [hs6]
    show own_Run p e below s _ _ _ (T5.setTop (mkF m 36 #[.val (.int a1), .val (.int b1), .val (.int c1), .val (.int d1), .val (.int p1), .val (.ref ob1), .unset, .unset, .unset, .unset, .unset] [(.int (0 : Int32))]))
    refine own_of (fun _ hh_ => XS.istore X5.here hx rfl (hb hby at_36) rfl (l' := #[.val (.int a1), .val (.int b1), .val (.int c1), .val (.int d1), .val (.int p1), .val (.ref ob1), .val (.int (0 : Int32)), .unset, .unset, .unset, .unset]) rfl hh_) ?_
    show own_Run p e below s _ _ _ (T5.setTop (mkF m 38 #[.val (.int a1), .val (.int b1), .val (.int c1), .val (.int d1), .val (.int p1), .val (.ref ob1), .val (.int (0 : Int32)), .unset, .unset, .unset, .unset] []))
    refine own_of (fun _ hh_ => XS.iload X5.here hx rfl (hb hby at_38) rfl hh_) ?_
    show own_Run p e below s _ _ _ (T5.setTop (mkF m 40 #[.val (.int a1), .val (.int b1), .val (.int c1), .val (.int d1), .val (.int p1), .val (.ref ob1), .val (.int (0 : Int32)), .unset, .unset, .unset, .unset] [(.int (0 : Int32))]))
    refine own_of (fun _ hh_ => XS.ifNo X5.here hx rfl (hb hby at_40) rfl ((if0 _ _).trans (by decide)) hh_) ?_
    show own_Run p e below s _ _ _ (T5.setTop (mkF m 43 #[.val (.int a1), .val (.int b1), .val (.int c1), .val (.int d1), .val (.int p1), .val (.ref ob1), .val (.int (0 : Int32)), .unset, .unset, .unset, .unset] []))
    refine own_of (fun _ hh_ => XS.iloadN X5.here hx rfl (hb hby at_43) rfl hh_) ?_
    show own_Run p e below s _ _ _ (T5.setTop (mkF m 44 #[.val (.int a1), .val (.int b1), .val (.int c1), .val (.int d1), .val (.int p1), .val (.ref ob1), .val (.int (0 : Int32)), .unset, .unset, .unset, .unset] [(.int a1)]))
    refine own_of (fun _ hh_ => XS.istore X5.here hx rfl (hb hby at_44) rfl (l' := #[.val (.int a1), .val (.int b1), .val (.int c1), .val (.int d1), .val (.int p1), .val (.ref ob1), .val (.int (0 : Int32)), .val (.int a1), .unset, .unset, .unset]) rfl hh_) ?_
    show own_Run p e below s _ _ _ (T5.setTop (mkF m 46 #[.val (.int a1), .val (.int b1), .val (.int c1), .val (.int d1), .val (.int p1), .val (.ref ob1), .val (.int (0 : Int32)), .val (.int a1), .unset, .unset, .unset] []))
    refine own_of (fun _ hh_ => XS.iloadN X5.here hx rfl (hb hby at_46) rfl hh_) ?_
    show own_Run p e below s _ _ _ (T5.setTop (mkF m 47 #[.val (.int a1), .val (.int b1), .val (.int c1), .val (.int d1), .val (.int p1), .val (.ref ob1), .val (.int (0 : Int32)), .val (.int a1), .unset, .unset, .unset] [(.int b1)]))
    refine own_of (fun _ hh_ => XS.istore X5.here hx rfl (hb hby at_47) rfl (l' := #[.val (.int a1), .val (.int b1), .val (.int c1), .val (.int d1), .val (.int p1), .val (.ref ob1), .val (.int (0 : Int32)), .val (.int a1), .val (.int b1), .unset, .unset]) rfl hh_) ?_
    show own_Run p e below s _ _ _ (T5.setTop (mkF m 49 #[.val (.int a1), .val (.int b1), .val (.int c1), .val (.int d1), .val (.int p1), .val (.ref ob1), .val (.int (0 : Int32)), .val (.int a1), .val (.int b1), .unset, .unset] []))
    refine own_of (fun _ hh_ => XS.goto X5.here hx rfl (pc0 := 49) (pc' := 73) rfl (hb hby at_49) (by decide) (by decide) hh_) ?_
    show own_Run p e below s _ _ _ (T5.setTop (mkF m 73 #[.val (.int a1), .val (.int b1), .val (.int c1), .val (.int d1), .val (.int p1), .val (.ref ob1), .val (.int (0 : Int32)), .val (.int a1), .val (.int b1), .unset, .unset] []))
    refine own_of (fun _ hh_ => XS.iload X5.here hx rfl (hb hby at_73) rfl hh_) ?_
    show own_Run p e below s _ _ _ (T5.setTop (mkF m 75 #[.val (.int a1), .val (.int b1), .val (.int c1), .val (.int d1), .val (.int p1), .val (.ref ob1), .val (.int (0 : Int32)), .val (.int a1), .val (.int b1), .unset, .unset] [(.int a1)]))
    obtain ⟨_, _, ⟨T7, L7, k7, n7⟩, -, X7, ⟨Lc7, hQ7, l7, y7, z7⟩, st7⟩ := Jvm.LawKit.callS X5 hx (y := (⟨"com/example/pagewright/pagewright/BigEndianU16AtPinLaw", "unsignedOf", "(I)I"⟩ : MethodName)) hown (mvT hZ (hw _ (List.mem_of_getElem? (i := 2) rfl))) (mvT hZ (hw _ (List.mem_of_getElem? (i := 3) rfl))) (mvT hZ (hw _ (List.mem_of_getElem? (i := 4) rfl))) (mvT hZ (hw _ (List.mem_of_getElem? (i := 5) rfl))) (by decide) (backOf (W := 0) (rmU l Z a0 hw [] a1 h5 n0 (Nat.le_trans (Nat.le_trans (Nat.le_trans (Nat.le_trans (Nat.le_trans Z0 E1.1) (Nat.le_of_eq W2.size.symm)) (Nat.le_of_eq W3.size.symm)) (Nat.le_of_eq W4.size.symm)) (Nat.le_of_eq W5.size.symm))) hZ (hw _ (List.mem_of_getElem? (i := 5) rfl)) (hw _ (List.mem_of_getElem? (i := 4) rfl)) (by decide) (by decide)) (g := (mkF m 75 #[.val (.int a1), .val (.int b1), .val (.int c1), .val (.int d1), .val (.int p1), .val (.ref ob1), .val (.int (0 : Int32)), .val (.int a1), .val (.int b1), .unset, .unset] [(.int a1)])) rfl (by rw [hml]; rfl) (argsL := [(.int a1)]) (rest := []) (lenOf own_pd0 rfl) rfl (by show 2 * 0 + _ ≤ _; exact Nat.le_of_eq rfl) (hb hby at_75) (fun _ _ => ⟨rfl, e5, (by decide : 1 + 0 ≤ _), (by decide : 4 + 0 ≤ _)⟩)
    dsimp only [Pt.U, Pt.locs, Pt.cells, Pt.slots] at X7 l7 y7 z7 st7 hQ7
    subst l7 y7 z7
    obtain ⟨rfl, N7q, e7⟩ := hQ7
    have N7 := Fr.app N5 N7q
    refine own_of st7 ?_
    show own_Run p e below s _ _ _ (T7.setTop (mkF m 78 #[.val (.int a1), .val (.int b1), .val (.int c1), .val (.int d1), .val (.int p1), .val (.ref ob1), .val (.int (0 : Int32)), .val (.int a1), .val (.int b1), .unset, .unset] [(.int (own_un a1))]))
    refine own_of (fun _ hh_ => XS.sipush X7.here hx rfl (hb hby at_78) hh_) ?_
    show own_Run p e below s _ _ _ (T7.setTop (mkF m 81 #[.val (.int a1), .val (.int b1), .val (.int c1), .val (.int d1), .val (.int p1), .val (.ref ob1), .val (.int (0 : Int32)), .val (.int a1), .val (.int b1), .unset, .unset] [(.int (256 : Int32)), (.int (own_un a1))]))
    refine own_of (fun _ hh_ => XS.imul X7.here hx rfl (hb hby at_81) rfl hh_) ?_
    show own_Run p e below s _ _ _ (T7.setTop (mkF m 82 #[.val (.int a1), .val (.int b1), .val (.int c1), .val (.int d1), .val (.int p1), .val (.ref ob1), .val (.int (0 : Int32)), .val (.int a1), .val (.int b1), .unset, .unset] [(.int ((own_un a1) * (256 : Int32)))]))
    refine own_of (fun _ hh_ => XS.iload X7.here hx rfl (hb hby at_82) rfl hh_) ?_
    show own_Run p e below s _ _ _ (T7.setTop (mkF m 84 #[.val (.int a1), .val (.int b1), .val (.int c1), .val (.int d1), .val (.int p1), .val (.ref ob1), .val (.int (0 : Int32)), .val (.int a1), .val (.int b1), .unset, .unset] [(.int b1), (.int ((own_un a1) * (256 : Int32)))]))
    obtain ⟨_, _, ⟨T8, L8, k8, n8⟩, -, X8, ⟨Lc8, hQ8, l8, y8, z8⟩, st8⟩ := Jvm.LawKit.callS X7 hx (y := (⟨"com/example/pagewright/pagewright/BigEndianU16AtPinLaw", "unsignedOf", "(I)I"⟩ : MethodName)) hown (mvT hZ (hw _ (List.mem_of_getElem? (i := 2) rfl))) (mvT hZ (hw _ (List.mem_of_getElem? (i := 3) rfl))) (mvT hZ (hw _ (List.mem_of_getElem? (i := 4) rfl))) (mvT hZ (hw _ (List.mem_of_getElem? (i := 5) rfl))) (by decide) (backOf (W := 1) (rmU l Z a0 hw [] b1 h5 n0 (Nat.le_trans (Nat.le_trans (Nat.le_trans (Nat.le_trans (Nat.le_trans Z0 E1.1) (Nat.le_of_eq W2.size.symm)) (Nat.le_of_eq W3.size.symm)) (Nat.le_of_eq W4.size.symm)) (Nat.le_of_eq W5.size.symm))) hZ (hw _ (List.mem_of_getElem? (i := 5) rfl)) (hw _ (List.mem_of_getElem? (i := 4) rfl)) (by decide) (by decide)) (g := (mkF m 84 #[.val (.int a1), .val (.int b1), .val (.int c1), .val (.int d1), .val (.int p1), .val (.ref ob1), .val (.int (0 : Int32)), .val (.int a1), .val (.int b1), .unset, .unset] [(.int b1), (.int ((own_un a1) * (256 : Int32)))])) rfl (by rw [hml]; rfl) (argsL := [(.int b1)]) (rest := [(.int ((own_un a1) * (256 : Int32)))]) (lenOf own_pd0 rfl) rfl (by show 2 * 0 + _ ≤ _; exact Nat.le_of_eq rfl) (hb hby at_84) (fun _ _ => ⟨rfl, e7, (by decide : 1 + 0 ≤ _), (by decide : 4 + 0 ≤ _)⟩)
    dsimp only [Pt.U, Pt.locs, Pt.cells, Pt.slots] at X8 l8 y8 z8 st8 hQ8
    subst l8 y8 z8
    obtain ⟨rfl, N8q, e8⟩ := hQ8
    have N8 := Fr.app N7 N8q
    refine own_of st8 ?_
    show own_Run p e below s _ _ _ (T8.setTop (mkF m 87 #[.val (.int a1), .val (.int b1), .val (.int c1), .val (.int d1), .val (.int p1), .val (.ref ob1), .val (.int (0 : Int32)), .val (.int a1), .val (.int b1), .unset, .unset] [(.int (own_un b1)), (.int ((own_un a1) * (256 : Int32)))]))
    refine own_of (fun _ hh_ => XS.iadd X8.here hx rfl (hb hby at_87) rfl hh_) ?_
    show own_Run p e below s _ _ _ (T8.setTop (mkF m 88 #[.val (.int a1), .val (.int b1), .val (.int c1), .val (.int d1), .val (.int p1), .val (.ref ob1), .val (.int (0 : Int32)), .val (.int a1), .val (.int b1), .unset, .unset] [(.int (((own_un a1) * (256 : Int32)) + (own_un b1)))]))
    refine own_of (fun _ hh_ => XS.istore X8.here hx rfl (hb hby at_88) rfl (l' := #[.val (.int a1), .val (.int b1), .val (.int c1), .val (.int d1), .val (.int p1), .val (.ref ob1), .val (.int (0 : Int32)), .val (.int a1), .val (.int b1), .val (.int (((own_un a1) * (256 : Int32)) + (own_un b1))), .unset]) rfl hh_) ?_
    show own_Run p e below s _ _ _ (T8.setTop (mkF m 90 #[.val (.int a1), .val (.int b1), .val (.int c1), .val (.int d1), .val (.int p1), .val (.ref ob1), .val (.int (0 : Int32)), .val (.int a1), .val (.int b1), .val (.int (((own_un a1) * (256 : Int32)) + (own_un b1))), .unset] []))
    refine own_of (fun _ hh_ => XS.aload X8.here hx rfl (hb hby at_90) rfl rfl hh_) ?_
    show own_Run p e below s _ _ _ (T8.setTop (mkF m 92 #[.val (.int a1), .val (.int b1), .val (.int c1), .val (.int d1), .val (.int p1), .val (.ref ob1), .val (.int (0 : Int32)), .val (.int a1), .val (.int b1), .val (.int (((own_un a1) * (256 : Int32)) + (own_un b1))), .unset] [(.ref ob1)]))
    refine own_of (fun _ hh_ => XS.iload X8.here hx rfl (hb hby at_92) rfl hh_) ?_
    show own_Run p e below s _ _ _ (T8.setTop (mkF m 94 #[.val (.int a1), .val (.int b1), .val (.int c1), .val (.int d1), .val (.int p1), .val (.ref ob1), .val (.int (0 : Int32)), .val (.int a1), .val (.int b1), .val (.int (((own_un a1) * (256 : Int32)) + (own_un b1))), .unset] [(.int (0 : Int32)), (.ref ob1)]))
    obtain ⟨_, _, ⟨T9, L9, k9, n9⟩, -, X9, ⟨Lc9, hQ9, l9, y9, z9⟩, st9⟩ := Jvm.LawKit.callS X8 hx (y := (⟨"com/example/pagewright/pagewright/BigEndian", "u16At", "([BI)I"⟩ : MethodName)) hown (mvT hZ (hw _ (List.mem_of_getElem? (i := 6) rfl))) (mvT hZ (hw _ (List.mem_of_getElem? (i := 7) rfl))) (mvT hZ (hw _ (List.mem_of_getElem? (i := 8) rfl))) (mvT hZ (hw _ (List.mem_of_getElem? (i := 9) rfl))) (by decide) (backOf (W := 0) (rmW l Z a0 hw [] ob1 (0 : Int32) 4 (own_up (own_up (own_up (own_up (fun _ => 0) 0 (a1.toInt8.toInt32).toInt8.toInt32) 1 (b1.toInt8.toInt32).toInt8.toInt32) 2 (c1.toInt8.toInt32).toInt8.toInt32) 3 (d1.toInt8.toInt32).toInt8.toInt32) a1.toInt8.toInt32.toInt8.toInt32 b1.toInt8.toInt32.toInt8.toInt32 h5 n0 (Nat.le_trans (Nat.le_trans (Nat.le_trans (Nat.le_trans (Nat.le_trans Z0 E1.1) (Nat.le_of_eq W2.size.symm)) (Nat.le_of_eq W3.size.symm)) (Nat.le_of_eq W4.size.symm)) (Nat.le_of_eq W5.size.symm)) V5 (by decide) (by decide) rfl (by decide) (by decide) rfl) hZ (hw _ (List.mem_of_getElem? (i := 9) rfl)) (hw _ (List.mem_of_getElem? (i := 8) rfl)) (by decide) (by decide)) (g := (mkF m 94 #[.val (.int a1), .val (.int b1), .val (.int c1), .val (.int d1), .val (.int p1), .val (.ref ob1), .val (.int (0 : Int32)), .val (.int a1), .val (.int b1), .val (.int (((own_un a1) * (256 : Int32)) + (own_un b1))), .unset] [(.int (0 : Int32)), (.ref ob1)])) rfl (by rw [hml]; rfl) (argsL := [(.ref ob1), (.int (0 : Int32))]) (rest := []) (lenOf own_pd1 rfl) rfl (by show 2 * 0 + _ ≤ _; exact Nat.le_of_eq rfl) (hb hby at_94) (fun _ _ => ⟨rfl, e8, (by decide : 1 + 0 ≤ _), (by decide : 4 + 0 ≤ _)⟩)
    dsimp only [Pt.U, Pt.locs, Pt.cells, Pt.slots] at X9 l9 y9 z9 st9 hQ9
    subst l9 y9 z9
    obtain ⟨rfl, N9q, e9⟩ := hQ9
    have N9 := Fr.app N8 N9q
    refine own_of st9 ?_
    show own_Run p e below s _ _ _ (T9.setTop (mkF m 97 #[.val (.int a1), .val (.int b1), .val (.int c1), .val (.int d1), .val (.int p1), .val (.ref ob1), .val (.int (0 : Int32)), .val (.int a1), .val (.int b1), .val (.int (((own_un a1) * (256 : Int32)) + (own_un b1))), .unset] [(.int (own_16 a1.toInt8.toInt32.toInt8.toInt32 b1.toInt8.toInt32.toInt8.toInt32))]))
    refine own_of (fun _ hh_ => XS.istore X9.here hx rfl (hb hby at_97) rfl (l' := #[.val (.int a1), .val (.int b1), .val (.int c1), .val (.int d1), .val (.int p1), .val (.ref ob1), .val (.int (0 : Int32)), .val (.int a1), .val (.int b1), .val (.int (((own_un a1) * (256 : Int32)) + (own_un b1))), .val (.int (own_16 a1.toInt8.toInt32.toInt8.toInt32 b1.toInt8.toInt32.toInt8.toInt32))]) rfl hh_) ?_
    show own_Run p e below s _ _ _ (T9.setTop (mkF m 99 #[.val (.int a1), .val (.int b1), .val (.int c1), .val (.int d1), .val (.int p1), .val (.ref ob1), .val (.int (0 : Int32)), .val (.int a1), .val (.int b1), .val (.int (((own_un a1) * (256 : Int32)) + (own_un b1))), .val (.int (own_16 a1.toInt8.toInt32.toInt8.toInt32 b1.toInt8.toInt32.toInt8.toInt32))] []))
    refine own_of (fun _ hh_ => XS.iload X9.here hx rfl (hb hby at_99) rfl hh_) ?_
    show own_Run p e below s _ _ _ (T9.setTop (mkF m 101 #[.val (.int a1), .val (.int b1), .val (.int c1), .val (.int d1), .val (.int p1), .val (.ref ob1), .val (.int (0 : Int32)), .val (.int a1), .val (.int b1), .val (.int (((own_un a1) * (256 : Int32)) + (own_un b1))), .val (.int (own_16 a1.toInt8.toInt32.toInt8.toInt32 b1.toInt8.toInt32.toInt8.toInt32))] [(.int (own_16 a1.toInt8.toInt32.toInt8.toInt32 b1.toInt8.toInt32.toInt8.toInt32))]))
    refine own_of (fun _ hh_ => XS.iload X9.here hx rfl (hb hby at_101) rfl hh_) ?_
    show own_Run p e below s _ _ _ (T9.setTop (mkF m 103 #[.val (.int a1), .val (.int b1), .val (.int c1), .val (.int d1), .val (.int p1), .val (.ref ob1), .val (.int (0 : Int32)), .val (.int a1), .val (.int b1), .val (.int (((own_un a1) * (256 : Int32)) + (own_un b1))), .val (.int (own_16 a1.toInt8.toInt32.toInt8.toInt32 b1.toInt8.toInt32.toInt8.toInt32))] [(.int (((own_un a1) * (256 : Int32)) + (own_un b1))), (.int (own_16 a1.toInt8.toInt32.toInt8.toInt32 b1.toInt8.toInt32.toInt8.toInt32))]))
    have hc103_10 : (own_16 a1.toInt8.toInt32.toInt8.toInt32 b1.toInt8.toInt32.toInt8.toInt32) = (((own_un a1) * (256 : Int32)) + (own_un b1)) := own_eq a1 b1
    refine own_of (fun _ hh_ => XS.icmpNo X9.here hx rfl (hb hby at_103) rfl (teq hc103_10).2 hh_) ?_
    show own_Run p e below s _ _ _ (T9.setTop (mkF m 106 #[.val (.int a1), .val (.int b1), .val (.int c1), .val (.int d1), .val (.int p1), .val (.ref ob1), .val (.int (0 : Int32)), .val (.int a1), .val (.int b1), .val (.int (((own_un a1) * (256 : Int32)) + (own_un b1))), .val (.int (own_16 a1.toInt8.toInt32.toInt8.toInt32 b1.toInt8.toInt32.toInt8.toInt32))] []))
    refine own_of (fun _ hh_ => XS.iload X9.here hx rfl (hb hby at_106) rfl hh_) ?_
    show own_Run p e below s _ _ _ (T9.setTop (mkF m 108 #[.val (.int a1), .val (.int b1), .val (.int c1), .val (.int d1), .val (.int p1), .val (.ref ob1), .val (.int (0 : Int32)), .val (.int a1), .val (.int b1), .val (.int (((own_un a1) * (256 : Int32)) + (own_un b1))), .val (.int (own_16 a1.toInt8.toInt32.toInt8.toInt32 b1.toInt8.toInt32.toInt8.toInt32))] [(.int (own_16 a1.toInt8.toInt32.toInt8.toInt32 b1.toInt8.toInt32.toInt8.toInt32))]))
    have hc108_11 : ¬ ((own_16 a1.toInt8.toInt32.toInt8.toInt32 b1.toInt8.toInt32.toInt8.toInt32) < (0 : Int32)) := own_lo a1 b1
    refine own_of (fun _ hh_ => XS.ifNo X9.here hx rfl (hb hby at_108) rfl ((if0 _ _).trans (flt hc108_11).1) hh_) ?_
    show own_Run p e below s _ _ _ (T9.setTop (mkF m 111 #[.val (.int a1), .val (.int b1), .val (.int c1), .val (.int d1), .val (.int p1), .val (.ref ob1), .val (.int (0 : Int32)), .val (.int a1), .val (.int b1), .val (.int (((own_un a1) * (256 : Int32)) + (own_un b1))), .val (.int (own_16 a1.toInt8.toInt32.toInt8.toInt32 b1.toInt8.toInt32.toInt8.toInt32))] []))
    refine own_of (fun _ hh_ => XS.iload X9.here hx rfl (hb hby at_111) rfl hh_) ?_
    show own_Run p e below s _ _ _ (T9.setTop (mkF m 113 #[.val (.int a1), .val (.int b1), .val (.int c1), .val (.int d1), .val (.int p1), .val (.ref ob1), .val (.int (0 : Int32)), .val (.int a1), .val (.int b1), .val (.int (((own_un a1) * (256 : Int32)) + (own_un b1))), .val (.int (own_16 a1.toInt8.toInt32.toInt8.toInt32 b1.toInt8.toInt32.toInt8.toInt32))] [(.int (own_16 a1.toInt8.toInt32.toInt8.toInt32 b1.toInt8.toInt32.toInt8.toInt32))]))
    refine own_of (X9.ldcInt hx hown (mvT hZ (hw _ (List.mem_of_getElem? (i := 10) rfl))) (g := (mkF m 113 #[.val (.int a1), .val (.int b1), .val (.int c1), .val (.int d1), .val (.int p1), .val (.ref ob1), .val (.int (0 : Int32)), .val (.int a1), .val (.int b1), .val (.int (((own_un a1) * (256 : Int32)) + (own_un b1))), .val (.int (own_16 a1.toInt8.toInt32.toInt8.toInt32 b1.toInt8.toInt32.toInt8.toInt32))] [(.int (own_16 a1.toInt8.toInt32.toInt8.toInt32 b1.toInt8.toInt32.toInt8.toInt32))])) rfl (hb hby at_113)) ?_
    show own_Run p e below s _ _ _ (T9.setTop (mkF m 115 #[.val (.int a1), .val (.int b1), .val (.int c1), .val (.int d1), .val (.int p1), .val (.ref ob1), .val (.int (0 : Int32)), .val (.int a1), .val (.int b1), .val (.int (((own_un a1) * (256 : Int32)) + (own_un b1))), .val (.int (own_16 a1.toInt8.toInt32.toInt8.toInt32 b1.toInt8.toInt32.toInt8.toInt32))] [(.int (65535 : Int32)), (.int (own_16 a1.toInt8.toInt32.toInt8.toInt32 b1.toInt8.toInt32.toInt8.toInt32))]))
    have hc115_12 : ¬ ((65535 : Int32) < (own_16 a1.toInt8.toInt32.toInt8.toInt32 b1.toInt8.toInt32.toInt8.toInt32)) := own_hi a1 b1
    refine own_of (fun _ hh_ => XS.icmpNo X9.here hx rfl (hb hby at_115) rfl (flt hc115_12).2.2.1 hh_) ?_
    show own_Run p e below s _ _ _ (T9.setTop (mkF m 118 #[.val (.int a1), .val (.int b1), .val (.int c1), .val (.int d1), .val (.int p1), .val (.ref ob1), .val (.int (0 : Int32)), .val (.int a1), .val (.int b1), .val (.int (((own_un a1) * (256 : Int32)) + (own_un b1))), .val (.int (own_16 a1.toInt8.toInt32.toInt8.toInt32 b1.toInt8.toInt32.toInt8.toInt32))] []))
    refine own_of (fun _ hh_ => XS.iconst X9.here hx rfl (hb hby at_118) hh_) ?_
    show own_Run p e below s _ _ _ (T9.setTop (mkF m 119 #[.val (.int a1), .val (.int b1), .val (.int c1), .val (.int d1), .val (.int p1), .val (.ref ob1), .val (.int (0 : Int32)), .val (.int a1), .val (.int b1), .val (.int (((own_un a1) * (256 : Int32)) + (own_un b1))), .val (.int (own_16 a1.toInt8.toInt32.toInt8.toInt32 b1.toInt8.toInt32.toInt8.toInt32))] [(.int (1 : Int32))]))
    refine own_of (fun _ hh_ => XS.goto X9.here hx rfl (pc0 := 119) (pc' := 123) rfl (hb hby at_119) (by decide) (by decide) hh_) ?_
    show own_Run p e below s _ _ _ (T9.setTop (mkF m 123 #[.val (.int a1), .val (.int b1), .val (.int c1), .val (.int d1), .val (.int p1), .val (.ref ob1), .val (.int (0 : Int32)), .val (.int a1), .val (.int b1), .val (.int (((own_un a1) * (256 : Int32)) + (own_un b1))), .val (.int (own_16 a1.toInt8.toInt32.toInt8.toInt32 b1.toInt8.toInt32.toInt8.toInt32))] [(.int (1 : Int32))]))
    exact own_retN X9 hx (t := .boolean) hret hlk (by simp) (hb hby at_123) ⟨rfl, N9⟩ (by decide) (by decide)
  · rw [hs6]
    show own_Run p e below s _ _ _ (T5.setTop (mkF m 36 #[.val (.int a1), .val (.int b1), .val (.int c1), .val (.int d1), .val (.int p1), .val (.ref ob1), .unset, .unset, .unset, .unset, .unset] [(.int (1 : Int32))]))
    refine own_of (fun _ hh_ => XS.istore X5.here hx rfl (hb hby at_36) rfl (l' := #[.val (.int a1), .val (.int b1), .val (.int c1), .val (.int d1), .val (.int p1), .val (.ref ob1), .val (.int (1 : Int32)), .unset, .unset, .unset, .unset]) rfl hh_) ?_
    show own_Run p e below s _ _ _ (T5.setTop (mkF m 38 #[.val (.int a1), .val (.int b1), .val (.int c1), .val (.int d1), .val (.int p1), .val (.ref ob1), .val (.int (1 : Int32)), .unset, .unset, .unset, .unset] []))
    refine own_of (fun _ hh_ => XS.iload X5.here hx rfl (hb hby at_38) rfl hh_) ?_
    show own_Run p e below s _ _ _ (T5.setTop (mkF m 40 #[.val (.int a1), .val (.int b1), .val (.int c1), .val (.int d1), .val (.int p1), .val (.ref ob1), .val (.int (1 : Int32)), .unset, .unset, .unset, .unset] [(.int (1 : Int32))]))
    refine own_of (fun _ hh_ => XS.ifYes X5.here hx rfl (pc0 := 40) (pc' := 52) rfl (hb hby at_40) rfl ((if0 _ _).trans (by decide)) (by decide) (by decide) hh_) ?_
    show own_Run p e below s _ _ _ (T5.setTop (mkF m 52 #[.val (.int a1), .val (.int b1), .val (.int c1), .val (.int d1), .val (.int p1), .val (.ref ob1), .val (.int (1 : Int32)), .unset, .unset, .unset, .unset] []))
    refine own_of (fun _ hh_ => XS.iload X5.here hx rfl (hb hby at_52) rfl hh_) ?_
    show own_Run p e below s _ _ _ (T5.setTop (mkF m 54 #[.val (.int a1), .val (.int b1), .val (.int c1), .val (.int d1), .val (.int p1), .val (.ref ob1), .val (.int (1 : Int32)), .unset, .unset, .unset, .unset] [(.int (1 : Int32))]))
    refine own_of (fun _ hh_ => XS.iconst X5.here hx rfl (hb hby at_54) hh_) ?_
    show own_Run p e below s _ _ _ (T5.setTop (mkF m 55 #[.val (.int a1), .val (.int b1), .val (.int c1), .val (.int d1), .val (.int p1), .val (.ref ob1), .val (.int (1 : Int32)), .unset, .unset, .unset, .unset] [(.int (1 : Int32)), (.int (1 : Int32))]))
    refine own_of (fun _ hh_ => XS.icmpNo X5.here hx rfl (hb hby at_55) rfl (by decide) hh_) ?_
    show own_Run p e below s _ _ _ (T5.setTop (mkF m 58 #[.val (.int a1), .val (.int b1), .val (.int c1), .val (.int d1), .val (.int p1), .val (.ref ob1), .val (.int (1 : Int32)), .unset, .unset, .unset, .unset] []))
    refine own_of (fun _ hh_ => XS.iloadN X5.here hx rfl (hb hby at_58) rfl hh_) ?_
    show own_Run p e below s _ _ _ (T5.setTop (mkF m 59 #[.val (.int a1), .val (.int b1), .val (.int c1), .val (.int d1), .val (.int p1), .val (.ref ob1), .val (.int (1 : Int32)), .unset, .unset, .unset, .unset] [(.int b1)]))
    refine own_of (fun _ hh_ => XS.istore X5.here hx rfl (hb hby at_59) rfl (l' := #[.val (.int a1), .val (.int b1), .val (.int c1), .val (.int d1), .val (.int p1), .val (.ref ob1), .val (.int (1 : Int32)), .val (.int b1), .unset, .unset, .unset]) rfl hh_) ?_
    show own_Run p e below s _ _ _ (T5.setTop (mkF m 61 #[.val (.int a1), .val (.int b1), .val (.int c1), .val (.int d1), .val (.int p1), .val (.ref ob1), .val (.int (1 : Int32)), .val (.int b1), .unset, .unset, .unset] []))
    refine own_of (fun _ hh_ => XS.iloadN X5.here hx rfl (hb hby at_61) rfl hh_) ?_
    show own_Run p e below s _ _ _ (T5.setTop (mkF m 62 #[.val (.int a1), .val (.int b1), .val (.int c1), .val (.int d1), .val (.int p1), .val (.ref ob1), .val (.int (1 : Int32)), .val (.int b1), .unset, .unset, .unset] [(.int c1)]))
    refine own_of (fun _ hh_ => XS.istore X5.here hx rfl (hb hby at_62) rfl (l' := #[.val (.int a1), .val (.int b1), .val (.int c1), .val (.int d1), .val (.int p1), .val (.ref ob1), .val (.int (1 : Int32)), .val (.int b1), .val (.int c1), .unset, .unset]) rfl hh_) ?_
    show own_Run p e below s _ _ _ (T5.setTop (mkF m 64 #[.val (.int a1), .val (.int b1), .val (.int c1), .val (.int d1), .val (.int p1), .val (.ref ob1), .val (.int (1 : Int32)), .val (.int b1), .val (.int c1), .unset, .unset] []))
    refine own_of (fun _ hh_ => XS.goto X5.here hx rfl (pc0 := 64) (pc' := 73) rfl (hb hby at_64) (by decide) (by decide) hh_) ?_
    show own_Run p e below s _ _ _ (T5.setTop (mkF m 73 #[.val (.int a1), .val (.int b1), .val (.int c1), .val (.int d1), .val (.int p1), .val (.ref ob1), .val (.int (1 : Int32)), .val (.int b1), .val (.int c1), .unset, .unset] []))
    refine own_of (fun _ hh_ => XS.iload X5.here hx rfl (hb hby at_73) rfl hh_) ?_
    show own_Run p e below s _ _ _ (T5.setTop (mkF m 75 #[.val (.int a1), .val (.int b1), .val (.int c1), .val (.int d1), .val (.int p1), .val (.ref ob1), .val (.int (1 : Int32)), .val (.int b1), .val (.int c1), .unset, .unset] [(.int b1)]))
    obtain ⟨_, _, ⟨T13, L13, k13, n13⟩, -, X13, ⟨Lc13, hQ13, l13, y13, z13⟩, st13⟩ := Jvm.LawKit.callS X5 hx (y := (⟨"com/example/pagewright/pagewright/BigEndianU16AtPinLaw", "unsignedOf", "(I)I"⟩ : MethodName)) hown (mvT hZ (hw _ (List.mem_of_getElem? (i := 2) rfl))) (mvT hZ (hw _ (List.mem_of_getElem? (i := 3) rfl))) (mvT hZ (hw _ (List.mem_of_getElem? (i := 4) rfl))) (mvT hZ (hw _ (List.mem_of_getElem? (i := 5) rfl))) (by decide) (backOf (W := 0) (rmU l Z a0 hw [] b1 h5 n0 (Nat.le_trans (Nat.le_trans (Nat.le_trans (Nat.le_trans (Nat.le_trans Z0 E1.1) (Nat.le_of_eq W2.size.symm)) (Nat.le_of_eq W3.size.symm)) (Nat.le_of_eq W4.size.symm)) (Nat.le_of_eq W5.size.symm))) hZ (hw _ (List.mem_of_getElem? (i := 5) rfl)) (hw _ (List.mem_of_getElem? (i := 4) rfl)) (by decide) (by decide)) (g := (mkF m 75 #[.val (.int a1), .val (.int b1), .val (.int c1), .val (.int d1), .val (.int p1), .val (.ref ob1), .val (.int (1 : Int32)), .val (.int b1), .val (.int c1), .unset, .unset] [(.int b1)])) rfl (by rw [hml]; rfl) (argsL := [(.int b1)]) (rest := []) (lenOf own_pd0 rfl) rfl (by show 2 * 0 + _ ≤ _; exact Nat.le_of_eq rfl) (hb hby at_75) (fun _ _ => ⟨rfl, e5, (by decide : 1 + 0 ≤ _), (by decide : 4 + 0 ≤ _)⟩)
    dsimp only [Pt.U, Pt.locs, Pt.cells, Pt.slots] at X13 l13 y13 z13 st13 hQ13
    subst l13 y13 z13
    obtain ⟨rfl, N13q, e13⟩ := hQ13
    have N13 := Fr.app N5 N13q
    refine own_of st13 ?_
    show own_Run p e below s _ _ _ (T13.setTop (mkF m 78 #[.val (.int a1), .val (.int b1), .val (.int c1), .val (.int d1), .val (.int p1), .val (.ref ob1), .val (.int (1 : Int32)), .val (.int b1), .val (.int c1), .unset, .unset] [(.int (own_un b1))]))
    refine own_of (fun _ hh_ => XS.sipush X13.here hx rfl (hb hby at_78) hh_) ?_
    show own_Run p e below s _ _ _ (T13.setTop (mkF m 81 #[.val (.int a1), .val (.int b1), .val (.int c1), .val (.int d1), .val (.int p1), .val (.ref ob1), .val (.int (1 : Int32)), .val (.int b1), .val (.int c1), .unset, .unset] [(.int (256 : Int32)), (.int (own_un b1))]))
    refine own_of (fun _ hh_ => XS.imul X13.here hx rfl (hb hby at_81) rfl hh_) ?_
    show own_Run p e below s _ _ _ (T13.setTop (mkF m 82 #[.val (.int a1), .val (.int b1), .val (.int c1), .val (.int d1), .val (.int p1), .val (.ref ob1), .val (.int (1 : Int32)), .val (.int b1), .val (.int c1), .unset, .unset] [(.int ((own_un b1) * (256 : Int32)))]))
    refine own_of (fun _ hh_ => XS.iload X13.here hx rfl (hb hby at_82) rfl hh_) ?_
    show own_Run p e below s _ _ _ (T13.setTop (mkF m 84 #[.val (.int a1), .val (.int b1), .val (.int c1), .val (.int d1), .val (.int p1), .val (.ref ob1), .val (.int (1 : Int32)), .val (.int b1), .val (.int c1), .unset, .unset] [(.int c1), (.int ((own_un b1) * (256 : Int32)))]))
    obtain ⟨_, _, ⟨T14, L14, k14, n14⟩, -, X14, ⟨Lc14, hQ14, l14, y14, z14⟩, st14⟩ := Jvm.LawKit.callS X13 hx (y := (⟨"com/example/pagewright/pagewright/BigEndianU16AtPinLaw", "unsignedOf", "(I)I"⟩ : MethodName)) hown (mvT hZ (hw _ (List.mem_of_getElem? (i := 2) rfl))) (mvT hZ (hw _ (List.mem_of_getElem? (i := 3) rfl))) (mvT hZ (hw _ (List.mem_of_getElem? (i := 4) rfl))) (mvT hZ (hw _ (List.mem_of_getElem? (i := 5) rfl))) (by decide) (backOf (W := 1) (rmU l Z a0 hw [] c1 h5 n0 (Nat.le_trans (Nat.le_trans (Nat.le_trans (Nat.le_trans (Nat.le_trans Z0 E1.1) (Nat.le_of_eq W2.size.symm)) (Nat.le_of_eq W3.size.symm)) (Nat.le_of_eq W4.size.symm)) (Nat.le_of_eq W5.size.symm))) hZ (hw _ (List.mem_of_getElem? (i := 5) rfl)) (hw _ (List.mem_of_getElem? (i := 4) rfl)) (by decide) (by decide)) (g := (mkF m 84 #[.val (.int a1), .val (.int b1), .val (.int c1), .val (.int d1), .val (.int p1), .val (.ref ob1), .val (.int (1 : Int32)), .val (.int b1), .val (.int c1), .unset, .unset] [(.int c1), (.int ((own_un b1) * (256 : Int32)))])) rfl (by rw [hml]; rfl) (argsL := [(.int c1)]) (rest := [(.int ((own_un b1) * (256 : Int32)))]) (lenOf own_pd0 rfl) rfl (by show 2 * 0 + _ ≤ _; exact Nat.le_of_eq rfl) (hb hby at_84) (fun _ _ => ⟨rfl, e13, (by decide : 1 + 0 ≤ _), (by decide : 4 + 0 ≤ _)⟩)
    dsimp only [Pt.U, Pt.locs, Pt.cells, Pt.slots] at X14 l14 y14 z14 st14 hQ14
    subst l14 y14 z14
    obtain ⟨rfl, N14q, e14⟩ := hQ14
    have N14 := Fr.app N13 N14q
    refine own_of st14 ?_
    show own_Run p e below s _ _ _ (T14.setTop (mkF m 87 #[.val (.int a1), .val (.int b1), .val (.int c1), .val (.int d1), .val (.int p1), .val (.ref ob1), .val (.int (1 : Int32)), .val (.int b1), .val (.int c1), .unset, .unset] [(.int (own_un c1)), (.int ((own_un b1) * (256 : Int32)))]))
    refine own_of (fun _ hh_ => XS.iadd X14.here hx rfl (hb hby at_87) rfl hh_) ?_
    show own_Run p e below s _ _ _ (T14.setTop (mkF m 88 #[.val (.int a1), .val (.int b1), .val (.int c1), .val (.int d1), .val (.int p1), .val (.ref ob1), .val (.int (1 : Int32)), .val (.int b1), .val (.int c1), .unset, .unset] [(.int (((own_un b1) * (256 : Int32)) + (own_un c1)))]))
    refine own_of (fun _ hh_ => XS.istore X14.here hx rfl (hb hby at_88) rfl (l' := #[.val (.int a1), .val (.int b1), .val (.int c1), .val (.int d1), .val (.int p1), .val (.ref ob1), .val (.int (1 : Int32)), .val (.int b1), .val (.int c1), .val (.int (((own_un b1) * (256 : Int32)) + (own_un c1))), .unset]) rfl hh_) ?_
    show own_Run p e below s _ _ _ (T14.setTop (mkF m 90 #[.val (.int a1), .val (.int b1), .val (.int c1), .val (.int d1), .val (.int p1), .val (.ref ob1), .val (.int (1 : Int32)), .val (.int b1), .val (.int c1), .val (.int (((own_un b1) * (256 : Int32)) + (own_un c1))), .unset] []))
    refine own_of (fun _ hh_ => XS.aload X14.here hx rfl (hb hby at_90) rfl rfl hh_) ?_
    show own_Run p e below s _ _ _ (T14.setTop (mkF m 92 #[.val (.int a1), .val (.int b1), .val (.int c1), .val (.int d1), .val (.int p1), .val (.ref ob1), .val (.int (1 : Int32)), .val (.int b1), .val (.int c1), .val (.int (((own_un b1) * (256 : Int32)) + (own_un c1))), .unset] [(.ref ob1)]))
    refine own_of (fun _ hh_ => XS.iload X14.here hx rfl (hb hby at_92) rfl hh_) ?_
    show own_Run p e below s _ _ _ (T14.setTop (mkF m 94 #[.val (.int a1), .val (.int b1), .val (.int c1), .val (.int d1), .val (.int p1), .val (.ref ob1), .val (.int (1 : Int32)), .val (.int b1), .val (.int c1), .val (.int (((own_un b1) * (256 : Int32)) + (own_un c1))), .unset] [(.int (1 : Int32)), (.ref ob1)]))
    obtain ⟨_, _, ⟨T15, L15, k15, n15⟩, -, X15, ⟨Lc15, hQ15, l15, y15, z15⟩, st15⟩ := Jvm.LawKit.callS X14 hx (y := (⟨"com/example/pagewright/pagewright/BigEndian", "u16At", "([BI)I"⟩ : MethodName)) hown (mvT hZ (hw _ (List.mem_of_getElem? (i := 6) rfl))) (mvT hZ (hw _ (List.mem_of_getElem? (i := 7) rfl))) (mvT hZ (hw _ (List.mem_of_getElem? (i := 8) rfl))) (mvT hZ (hw _ (List.mem_of_getElem? (i := 9) rfl))) (by decide) (backOf (W := 0) (rmW l Z a0 hw [] ob1 (1 : Int32) 4 (own_up (own_up (own_up (own_up (fun _ => 0) 0 (a1.toInt8.toInt32).toInt8.toInt32) 1 (b1.toInt8.toInt32).toInt8.toInt32) 2 (c1.toInt8.toInt32).toInt8.toInt32) 3 (d1.toInt8.toInt32).toInt8.toInt32) b1.toInt8.toInt32.toInt8.toInt32 c1.toInt8.toInt32.toInt8.toInt32 h5 n0 (Nat.le_trans (Nat.le_trans (Nat.le_trans (Nat.le_trans (Nat.le_trans Z0 E1.1) (Nat.le_of_eq W2.size.symm)) (Nat.le_of_eq W3.size.symm)) (Nat.le_of_eq W4.size.symm)) (Nat.le_of_eq W5.size.symm)) V5 (by decide) (by decide) rfl (by decide) (by decide) rfl) hZ (hw _ (List.mem_of_getElem? (i := 9) rfl)) (hw _ (List.mem_of_getElem? (i := 8) rfl)) (by decide) (by decide)) (g := (mkF m 94 #[.val (.int a1), .val (.int b1), .val (.int c1), .val (.int d1), .val (.int p1), .val (.ref ob1), .val (.int (1 : Int32)), .val (.int b1), .val (.int c1), .val (.int (((own_un b1) * (256 : Int32)) + (own_un c1))), .unset] [(.int (1 : Int32)), (.ref ob1)])) rfl (by rw [hml]; rfl) (argsL := [(.ref ob1), (.int (1 : Int32))]) (rest := []) (lenOf own_pd1 rfl) rfl (by show 2 * 0 + _ ≤ _; exact Nat.le_of_eq rfl) (hb hby at_94) (fun _ _ => ⟨rfl, e14, (by decide : 1 + 0 ≤ _), (by decide : 4 + 0 ≤ _)⟩)
    dsimp only [Pt.U, Pt.locs, Pt.cells, Pt.slots] at X15 l15 y15 z15 st15 hQ15
    subst l15 y15 z15
    obtain ⟨rfl, N15q, e15⟩ := hQ15
    have N15 := Fr.app N14 N15q
    refine own_of st15 ?_
    show own_Run p e below s _ _ _ (T15.setTop (mkF m 97 #[.val (.int a1), .val (.int b1), .val (.int c1), .val (.int d1), .val (.int p1), .val (.ref ob1), .val (.int (1 : Int32)), .val (.int b1), .val (.int c1), .val (.int (((own_un b1) * (256 : Int32)) + (own_un c1))), .unset] [(.int (own_16 b1.toInt8.toInt32.toInt8.toInt32 c1.toInt8.toInt32.toInt8.toInt32))]))
    refine own_of (fun _ hh_ => XS.istore X15.here hx rfl (hb hby at_97) rfl (l' := #[.val (.int a1), .val (.int b1), .val (.int c1), .val (.int d1), .val (.int p1), .val (.ref ob1), .val (.int (1 : Int32)), .val (.int b1), .val (.int c1), .val (.int (((own_un b1) * (256 : Int32)) + (own_un c1))), .val (.int (own_16 b1.toInt8.toInt32.toInt8.toInt32 c1.toInt8.toInt32.toInt8.toInt32))]) rfl hh_) ?_
    show own_Run p e below s _ _ _ (T15.setTop (mkF m 99 #[.val (.int a1), .val (.int b1), .val (.int c1), .val (.int d1), .val (.int p1), .val (.ref ob1), .val (.int (1 : Int32)), .val (.int b1), .val (.int c1), .val (.int (((own_un b1) * (256 : Int32)) + (own_un c1))), .val (.int (own_16 b1.toInt8.toInt32.toInt8.toInt32 c1.toInt8.toInt32.toInt8.toInt32))] []))
    refine own_of (fun _ hh_ => XS.iload X15.here hx rfl (hb hby at_99) rfl hh_) ?_
    show own_Run p e below s _ _ _ (T15.setTop (mkF m 101 #[.val (.int a1), .val (.int b1), .val (.int c1), .val (.int d1), .val (.int p1), .val (.ref ob1), .val (.int (1 : Int32)), .val (.int b1), .val (.int c1), .val (.int (((own_un b1) * (256 : Int32)) + (own_un c1))), .val (.int (own_16 b1.toInt8.toInt32.toInt8.toInt32 c1.toInt8.toInt32.toInt8.toInt32))] [(.int (own_16 b1.toInt8.toInt32.toInt8.toInt32 c1.toInt8.toInt32.toInt8.toInt32))]))
    refine own_of (fun _ hh_ => XS.iload X15.here hx rfl (hb hby at_101) rfl hh_) ?_
    show own_Run p e below s _ _ _ (T15.setTop (mkF m 103 #[.val (.int a1), .val (.int b1), .val (.int c1), .val (.int d1), .val (.int p1), .val (.ref ob1), .val (.int (1 : Int32)), .val (.int b1), .val (.int c1), .val (.int (((own_un b1) * (256 : Int32)) + (own_un c1))), .val (.int (own_16 b1.toInt8.toInt32.toInt8.toInt32 c1.toInt8.toInt32.toInt8.toInt32))] [(.int (((own_un b1) * (256 : Int32)) + (own_un c1))), (.int (own_16 b1.toInt8.toInt32.toInt8.toInt32 c1.toInt8.toInt32.toInt8.toInt32))]))
    have hc103_16 : (own_16 b1.toInt8.toInt32.toInt8.toInt32 c1.toInt8.toInt32.toInt8.toInt32) = (((own_un b1) * (256 : Int32)) + (own_un c1)) := own_eq b1 c1
    refine own_of (fun _ hh_ => XS.icmpNo X15.here hx rfl (hb hby at_103) rfl (teq hc103_16).2 hh_) ?_
    show own_Run p e below s _ _ _ (T15.setTop (mkF m 106 #[.val (.int a1), .val (.int b1), .val (.int c1), .val (.int d1), .val (.int p1), .val (.ref ob1), .val (.int (1 : Int32)), .val (.int b1), .val (.int c1), .val (.int (((own_un b1) * (256 : Int32)) + (own_un c1))), .val (.int (own_16 b1.toInt8.toInt32.toInt8.toInt32 c1.toInt8.toInt32.toInt8.toInt32))] []))
    refine own_of (fun _ hh_ => XS.iload X15.here hx rfl (hb hby at_106) rfl hh_) ?_
    show own_Run p e below s _ _ _ (T15.setTop (mkF m 108 #[.val (.int a1), .val (.int b1), .val (.int c1), .val (.int d1), .val (.int p1), .val (.ref ob1), .val (.int (1 : Int32)), .val (.int b1), .val (.int c1), .val (.int (((own_un b1) * (256 : Int32)) + (own_un c1))), .val (.int (own_16 b1.toInt8.toInt32.toInt8.toInt32 c1.toInt8.toInt32.toInt8.toInt32))] [(.int (own_16 b1.toInt8.toInt32.toInt8.toInt32 c1.toInt8.toInt32.toInt8.toInt32))]))
    have hc108_17 : ¬ ((own_16 b1.toInt8.toInt32.toInt8.toInt32 c1.toInt8.toInt32.toInt8.toInt32) < (0 : Int32)) := own_lo b1 c1
    refine own_of (fun _ hh_ => XS.ifNo X15.here hx rfl (hb hby at_108) rfl ((if0 _ _).trans (flt hc108_17).1) hh_) ?_
    show own_Run p e below s _ _ _ (T15.setTop (mkF m 111 #[.val (.int a1), .val (.int b1), .val (.int c1), .val (.int d1), .val (.int p1), .val (.ref ob1), .val (.int (1 : Int32)), .val (.int b1), .val (.int c1), .val (.int (((own_un b1) * (256 : Int32)) + (own_un c1))), .val (.int (own_16 b1.toInt8.toInt32.toInt8.toInt32 c1.toInt8.toInt32.toInt8.toInt32))] []))
    refine own_of (fun _ hh_ => XS.iload X15.here hx rfl (hb hby at_111) rfl hh_) ?_
    show own_Run p e below s _ _ _ (T15.setTop (mkF m 113 #[.val (.int a1), .val (.int b1), .val (.int c1), .val (.int d1), .val (.int p1), .val (.ref ob1), .val (.int (1 : Int32)), .val (.int b1), .val (.int c1), .val (.int (((own_un b1) * (256 : Int32)) + (own_un c1))), .val (.int (own_16 b1.toInt8.toInt32.toInt8.toInt32 c1.toInt8.toInt32.toInt8.toInt32))] [(.int (own_16 b1.toInt8.toInt32.toInt8.toInt32 c1.toInt8.toInt32.toInt8.toInt32))]))
    refine own_of (X15.ldcInt hx hown (mvT hZ (hw _ (List.mem_of_getElem? (i := 10) rfl))) (g := (mkF m 113 #[.val (.int a1), .val (.int b1), .val (.int c1), .val (.int d1), .val (.int p1), .val (.ref ob1), .val (.int (1 : Int32)), .val (.int b1), .val (.int c1), .val (.int (((own_un b1) * (256 : Int32)) + (own_un c1))), .val (.int (own_16 b1.toInt8.toInt32.toInt8.toInt32 c1.toInt8.toInt32.toInt8.toInt32))] [(.int (own_16 b1.toInt8.toInt32.toInt8.toInt32 c1.toInt8.toInt32.toInt8.toInt32))])) rfl (hb hby at_113)) ?_
    show own_Run p e below s _ _ _ (T15.setTop (mkF m 115 #[.val (.int a1), .val (.int b1), .val (.int c1), .val (.int d1), .val (.int p1), .val (.ref ob1), .val (.int (1 : Int32)), .val (.int b1), .val (.int c1), .val (.int (((own_un b1) * (256 : Int32)) + (own_un c1))), .val (.int (own_16 b1.toInt8.toInt32.toInt8.toInt32 c1.toInt8.toInt32.toInt8.toInt32))] [(.int (65535 : Int32)), (.int (own_16 b1.toInt8.toInt32.toInt8.toInt32 c1.toInt8.toInt32.toInt8.toInt32))]))
    have hc115_18 : ¬ ((65535 : Int32) < (own_16 b1.toInt8.toInt32.toInt8.toInt32 c1.toInt8.toInt32.toInt8.toInt32)) := own_hi b1 c1
    refine own_of (fun _ hh_ => XS.icmpNo X15.here hx rfl (hb hby at_115) rfl (flt hc115_18).2.2.1 hh_) ?_
    show own_Run p e below s _ _ _ (T15.setTop (mkF m 118 #[.val (.int a1), .val (.int b1), .val (.int c1), .val (.int d1), .val (.int p1), .val (.ref ob1), .val (.int (1 : Int32)), .val (.int b1), .val (.int c1), .val (.int (((own_un b1) * (256 : Int32)) + (own_un c1))), .val (.int (own_16 b1.toInt8.toInt32.toInt8.toInt32 c1.toInt8.toInt32.toInt8.toInt32))] []))
    refine own_of (fun _ hh_ => XS.iconst X15.here hx rfl (hb hby at_118) hh_) ?_
    show own_Run p e below s _ _ _ (T15.setTop (mkF m 119 #[.val (.int a1), .val (.int b1), .val (.int c1), .val (.int d1), .val (.int p1), .val (.ref ob1), .val (.int (1 : Int32)), .val (.int b1), .val (.int c1), .val (.int (((own_un b1) * (256 : Int32)) + (own_un c1))), .val (.int (own_16 b1.toInt8.toInt32.toInt8.toInt32 c1.toInt8.toInt32.toInt8.toInt32))] [(.int (1 : Int32))]))
    refine own_of (fun _ hh_ => XS.goto X15.here hx rfl (pc0 := 119) (pc' := 123) rfl (hb hby at_119) (by decide) (by decide) hh_) ?_
    show own_Run p e below s _ _ _ (T15.setTop (mkF m 123 #[.val (.int a1), .val (.int b1), .val (.int c1), .val (.int d1), .val (.int p1), .val (.ref ob1), .val (.int (1 : Int32)), .val (.int b1), .val (.int c1), .val (.int (((own_un b1) * (256 : Int32)) + (own_un c1))), .val (.int (own_16 b1.toInt8.toInt32.toInt8.toInt32 c1.toInt8.toInt32.toInt8.toInt32))] [(.int (1 : Int32))]))
    exact own_retN X15 hx (t := .boolean) hret hlk (by simp) (hb hby at_123) ⟨rfl, N15⟩ (by decide) (by decide)
  · rw [hs6]
    show own_Run p e below s _ _ _ (T5.setTop (mkF m 36 #[.val (.int a1), .val (.int b1), .val (.int c1), .val (.int d1), .val (.int p1), .val (.ref ob1), .unset, .unset, .unset, .unset, .unset] [(.int (2 : Int32))]))
    refine own_of (fun _ hh_ => XS.istore X5.here hx rfl (hb hby at_36) rfl (l' := #[.val (.int a1), .val (.int b1), .val (.int c1), .val (.int d1), .val (.int p1), .val (.ref ob1), .val (.int (2 : Int32)), .unset, .unset, .unset, .unset]) rfl hh_) ?_
    show own_Run p e below s _ _ _ (T5.setTop (mkF m 38 #[.val (.int a1), .val (.int b1), .val (.int c1), .val (.int d1), .val (.int p1), .val (.ref ob1), .val (.int (2 : Int32)), .unset, .unset, .unset, .unset] []))
    refine own_of (fun _ hh_ => XS.iload X5.here hx rfl (hb hby at_38) rfl hh_) ?_
    show own_Run p e below s _ _ _ (T5.setTop (mkF m 40 #[.val (.int a1), .val (.int b1), .val (.int c1), .val (.int d1), .val (.int p1), .val (.ref ob1), .val (.int (2 : Int32)), .unset, .unset, .unset, .unset] [(.int (2 : Int32))]))
    refine own_of (fun _ hh_ => XS.ifYes X5.here hx rfl (pc0 := 40) (pc' := 52) rfl (hb hby at_40) rfl ((if0 _ _).trans (by decide)) (by decide) (by decide) hh_) ?_
    show own_Run p e below s _ _ _ (T5.setTop (mkF m 52 #[.val (.int a1), .val (.int b1), .val (.int c1), .val (.int d1), .val (.int p1), .val (.ref ob1), .val (.int (2 : Int32)), .unset, .unset, .unset, .unset] []))
    refine own_of (fun _ hh_ => XS.iload X5.here hx rfl (hb hby at_52) rfl hh_) ?_
    show own_Run p e below s _ _ _ (T5.setTop (mkF m 54 #[.val (.int a1), .val (.int b1), .val (.int c1), .val (.int d1), .val (.int p1), .val (.ref ob1), .val (.int (2 : Int32)), .unset, .unset, .unset, .unset] [(.int (2 : Int32))]))
    refine own_of (fun _ hh_ => XS.iconst X5.here hx rfl (hb hby at_54) hh_) ?_
    show own_Run p e below s _ _ _ (T5.setTop (mkF m 55 #[.val (.int a1), .val (.int b1), .val (.int c1), .val (.int d1), .val (.int p1), .val (.ref ob1), .val (.int (2 : Int32)), .unset, .unset, .unset, .unset] [(.int (1 : Int32)), (.int (2 : Int32))]))
    refine own_of (fun _ hh_ => XS.icmpYes X5.here hx rfl (pc0 := 55) (pc' := 67) rfl (hb hby at_55) rfl (by decide) (by decide) (by decide) hh_) ?_
    show own_Run p e below s _ _ _ (T5.setTop (mkF m 67 #[.val (.int a1), .val (.int b1), .val (.int c1), .val (.int d1), .val (.int p1), .val (.ref ob1), .val (.int (2 : Int32)), .unset, .unset, .unset, .unset] []))
    refine own_of (fun _ hh_ => XS.iloadN X5.here hx rfl (hb hby at_67) rfl hh_) ?_
    show own_Run p e below s _ _ _ (T5.setTop (mkF m 68 #[.val (.int a1), .val (.int b1), .val (.int c1), .val (.int d1), .val (.int p1), .val (.ref ob1), .val (.int (2 : Int32)), .unset, .unset, .unset, .unset] [(.int c1)]))
    refine own_of (fun _ hh_ => XS.istore X5.here hx rfl (hb hby at_68) rfl (l' := #[.val (.int a1), .val (.int b1), .val (.int c1), .val (.int d1), .val (.int p1), .val (.ref ob1), .val (.int (2 : Int32)), .val (.int c1), .unset, .unset, .unset]) rfl hh_) ?_
    show own_Run p e below s _ _ _ (T5.setTop (mkF m 70 #[.val (.int a1), .val (.int b1), .val (.int c1), .val (.int d1), .val (.int p1), .val (.ref ob1), .val (.int (2 : Int32)), .val (.int c1), .unset, .unset, .unset] []))
    refine own_of (fun _ hh_ => XS.iloadN X5.here hx rfl (hb hby at_70) rfl hh_) ?_
    show own_Run p e below s _ _ _ (T5.setTop (mkF m 71 #[.val (.int a1), .val (.int b1), .val (.int c1), .val (.int d1), .val (.int p1), .val (.ref ob1), .val (.int (2 : Int32)), .val (.int c1), .unset, .unset, .unset] [(.int d1)]))
    refine own_of (fun _ hh_ => XS.istore X5.here hx rfl (hb hby at_71) rfl (l' := #[.val (.int a1), .val (.int b1), .val (.int c1), .val (.int d1), .val (.int p1), .val (.ref ob1), .val (.int (2 : Int32)), .val (.int c1), .val (.int d1), .unset, .unset]) rfl hh_) ?_
    show own_Run p e below s _ _ _ (T5.setTop (mkF m 73 #[.val (.int a1), .val (.int b1), .val (.int c1), .val (.int d1), .val (.int p1), .val (.ref ob1), .val (.int (2 : Int32)), .val (.int c1), .val (.int d1), .unset, .unset] []))
    refine own_of (fun _ hh_ => XS.iload X5.here hx rfl (hb hby at_73) rfl hh_) ?_
    show own_Run p e below s _ _ _ (T5.setTop (mkF m 75 #[.val (.int a1), .val (.int b1), .val (.int c1), .val (.int d1), .val (.int p1), .val (.ref ob1), .val (.int (2 : Int32)), .val (.int c1), .val (.int d1), .unset, .unset] [(.int c1)]))
    obtain ⟨_, _, ⟨T19, L19, k19, n19⟩, -, X19, ⟨Lc19, hQ19, l19, y19, z19⟩, st19⟩ := Jvm.LawKit.callS X5 hx (y := (⟨"com/example/pagewright/pagewright/BigEndianU16AtPinLaw", "unsignedOf", "(I)I"⟩ : MethodName)) hown (mvT hZ (hw _ (List.mem_of_getElem? (i := 2) rfl))) (mvT hZ (hw _ (List.mem_of_getElem? (i := 3) rfl))) (mvT hZ (hw _ (List.mem_of_getElem? (i := 4) rfl))) (mvT hZ (hw _ (List.mem_of_getElem? (i := 5) rfl))) (by decide) (backOf (W := 0) (rmU l Z a0 hw [] c1 h5 n0 (Nat.le_trans (Nat.le_trans (Nat.le_trans (Nat.le_trans (Nat.le_trans Z0 E1.1) (Nat.le_of_eq W2.size.symm)) (Nat.le_of_eq W3.size.symm)) (Nat.le_of_eq W4.size.symm)) (Nat.le_of_eq W5.size.symm))) hZ (hw _ (List.mem_of_getElem? (i := 5) rfl)) (hw _ (List.mem_of_getElem? (i := 4) rfl)) (by decide) (by decide)) (g := (mkF m 75 #[.val (.int a1), .val (.int b1), .val (.int c1), .val (.int d1), .val (.int p1), .val (.ref ob1), .val (.int (2 : Int32)), .val (.int c1), .val (.int d1), .unset, .unset] [(.int c1)])) rfl (by rw [hml]; rfl) (argsL := [(.int c1)]) (rest := []) (lenOf own_pd0 rfl) rfl (by show 2 * 0 + _ ≤ _; exact Nat.le_of_eq rfl) (hb hby at_75) (fun _ _ => ⟨rfl, e5, (by decide : 1 + 0 ≤ _), (by decide : 4 + 0 ≤ _)⟩)
    dsimp only [Pt.U, Pt.locs, Pt.cells, Pt.slots] at X19 l19 y19 z19 st19 hQ19
    subst l19 y19 z19
    obtain ⟨rfl, N19q, e19⟩ := hQ19
    have N19 := Fr.app N5 N19q
    refine own_of st19 ?_
    show own_Run p e below s _ _ _ (T19.setTop (mkF m 78 #[.val (.int a1), .val (.int b1), .val (.int c1), .val (.int d1), .val (.int p1), .val (.ref ob1), .val (.int (2 : Int32)), .val (.int c1), .val (.int d1), .unset, .unset] [(.int (own_un c1))]))
    refine own_of (fun _ hh_ => XS.sipush X19.here hx rfl (hb hby at_78) hh_) ?_
    show own_Run p e below s _ _ _ (T19.setTop (mkF m 81 #[.val (.int a1), .val (.int b1), .val (.int c1), .val (.int d1), .val (.int p1), .val (.ref ob1), .val (.int (2 : Int32)), .val (.int c1), .val (.int d1), .unset, .unset] [(.int (256 : Int32)), (.int (own_un c1))]))
    refine own_of (fun _ hh_ => XS.imul X19.here hx rfl (hb hby at_81) rfl hh_) ?_
    show own_Run p e below s _ _ _ (T19.setTop (mkF m 82 #[.val (.int a1), .val (.int b1), .val (.int c1), .val (.int d1), .val (.int p1), .val (.ref ob1), .val (.int (2 : Int32)), .val (.int c1), .val (.int d1), .unset, .unset] [(.int ((own_un c1) * (256 : Int32)))]))
    refine own_of (fun _ hh_ => XS.iload X19.here hx rfl (hb hby at_82) rfl hh_) ?_
    show own_Run p e below s _ _ _ (T19.setTop (mkF m 84 #[.val (.int a1), .val (.int b1), .val (.int c1), .val (.int d1), .val (.int p1), .val (.ref ob1), .val (.int (2 : Int32)), .val (.int c1), .val (.int d1), .unset, .unset] [(.int d1), (.int ((own_un c1) * (256 : Int32)))]))
    obtain ⟨_, _, ⟨T20, L20, k20, n20⟩, -, X20, ⟨Lc20, hQ20, l20, y20, z20⟩, st20⟩ := Jvm.LawKit.callS X19 hx (y := (⟨"com/example/pagewright/pagewright/BigEndianU16AtPinLaw", "unsignedOf", "(I)I"⟩ : MethodName)) hown (mvT hZ (hw _ (List.mem_of_getElem? (i := 2) rfl))) (mvT hZ (hw _ (List.mem_of_getElem? (i := 3) rfl))) (mvT hZ (hw _ (List.mem_of_getElem? (i := 4) rfl))) (mvT hZ (hw _ (List.mem_of_getElem? (i := 5) rfl))) (by decide) (backOf (W := 1) (rmU l Z a0 hw [] d1 h5 n0 (Nat.le_trans (Nat.le_trans (Nat.le_trans (Nat.le_trans (Nat.le_trans Z0 E1.1) (Nat.le_of_eq W2.size.symm)) (Nat.le_of_eq W3.size.symm)) (Nat.le_of_eq W4.size.symm)) (Nat.le_of_eq W5.size.symm))) hZ (hw _ (List.mem_of_getElem? (i := 5) rfl)) (hw _ (List.mem_of_getElem? (i := 4) rfl)) (by decide) (by decide)) (g := (mkF m 84 #[.val (.int a1), .val (.int b1), .val (.int c1), .val (.int d1), .val (.int p1), .val (.ref ob1), .val (.int (2 : Int32)), .val (.int c1), .val (.int d1), .unset, .unset] [(.int d1), (.int ((own_un c1) * (256 : Int32)))])) rfl (by rw [hml]; rfl) (argsL := [(.int d1)]) (rest := [(.int ((own_un c1) * (256 : Int32)))]) (lenOf own_pd0 rfl) rfl (by show 2 * 0 + _ ≤ _; exact Nat.le_of_eq rfl) (hb hby at_84) (fun _ _ => ⟨rfl, e19, (by decide : 1 + 0 ≤ _), (by decide : 4 + 0 ≤ _)⟩)
    dsimp only [Pt.U, Pt.locs, Pt.cells, Pt.slots] at X20 l20 y20 z20 st20 hQ20
    subst l20 y20 z20
    obtain ⟨rfl, N20q, e20⟩ := hQ20
    have N20 := Fr.app N19 N20q
    refine own_of st20 ?_
    show own_Run p e below s _ _ _ (T20.setTop (mkF m 87 #[.val (.int a1), .val (.int b1), .val (.int c1), .val (.int d1), .val (.int p1), .val (.ref ob1), .val (.int (2 : Int32)), .val (.int c1), .val (.int d1), .unset, .unset] [(.int (own_un d1)), (.int ((own_un c1) * (256 : Int32)))]))
    refine own_of (fun _ hh_ => XS.iadd X20.here hx rfl (hb hby at_87) rfl hh_) ?_
    show own_Run p e below s _ _ _ (T20.setTop (mkF m 88 #[.val (.int a1), .val (.int b1), .val (.int c1), .val (.int d1), .val (.int p1), .val (.ref ob1), .val (.int (2 : Int32)), .val (.int c1), .val (.int d1), .unset, .unset] [(.int (((own_un c1) * (256 : Int32)) + (own_un d1)))]))
    refine own_of (fun _ hh_ => XS.istore X20.here hx rfl (hb hby at_88) rfl (l' := #[.val (.int a1), .val (.int b1), .val (.int c1), .val (.int d1), .val (.int p1), .val (.ref ob1), .val (.int (2 : Int32)), .val (.int c1), .val (.int d1), .val (.int (((own_un c1) * (256 : Int32)) + (own_un d1))), .unset]) rfl hh_) ?_
    show own_Run p e below s _ _ _ (T20.setTop (mkF m 90 #[.val (.int a1), .val (.int b1), .val (.int c1), .val (.int d1), .val (.int p1), .val (.ref ob1), .val (.int (2 : Int32)), .val (.int c1), .val (.int d1), .val (.int (((own_un c1) * (256 : Int32)) + (own_un d1))), .unset] []))
    refine own_of (fun _ hh_ => XS.aload X20.here hx rfl (hb hby at_90) rfl rfl hh_) ?_
    show own_Run p e below s _ _ _ (T20.setTop (mkF m 92 #[.val (.int a1), .val (.int b1), .val (.int c1), .val (.int d1), .val (.int p1), .val (.ref ob1), .val (.int (2 : Int32)), .val (.int c1), .val (.int d1), .val (.int (((own_un c1) * (256 : Int32)) + (own_un d1))), .unset] [(.ref ob1)]))
    refine own_of (fun _ hh_ => XS.iload X20.here hx rfl (hb hby at_92) rfl hh_) ?_
    show own_Run p e below s _ _ _ (T20.setTop (mkF m 94 #[.val (.int a1), .val (.int b1), .val (.int c1), .val (.int d1), .val (.int p1), .val (.ref ob1), .val (.int (2 : Int32)), .val (.int c1), .val (.int d1), .val (.int (((own_un c1) * (256 : Int32)) + (own_un d1))), .unset] [(.int (2 : Int32)), (.ref ob1)]))
    obtain ⟨_, _, ⟨T21, L21, k21, n21⟩, -, X21, ⟨Lc21, hQ21, l21, y21, z21⟩, st21⟩ := Jvm.LawKit.callS X20 hx (y := (⟨"com/example/pagewright/pagewright/BigEndian", "u16At", "([BI)I"⟩ : MethodName)) hown (mvT hZ (hw _ (List.mem_of_getElem? (i := 6) rfl))) (mvT hZ (hw _ (List.mem_of_getElem? (i := 7) rfl))) (mvT hZ (hw _ (List.mem_of_getElem? (i := 8) rfl))) (mvT hZ (hw _ (List.mem_of_getElem? (i := 9) rfl))) (by decide) (backOf (W := 0) (rmW l Z a0 hw [] ob1 (2 : Int32) 4 (own_up (own_up (own_up (own_up (fun _ => 0) 0 (a1.toInt8.toInt32).toInt8.toInt32) 1 (b1.toInt8.toInt32).toInt8.toInt32) 2 (c1.toInt8.toInt32).toInt8.toInt32) 3 (d1.toInt8.toInt32).toInt8.toInt32) c1.toInt8.toInt32.toInt8.toInt32 d1.toInt8.toInt32.toInt8.toInt32 h5 n0 (Nat.le_trans (Nat.le_trans (Nat.le_trans (Nat.le_trans (Nat.le_trans Z0 E1.1) (Nat.le_of_eq W2.size.symm)) (Nat.le_of_eq W3.size.symm)) (Nat.le_of_eq W4.size.symm)) (Nat.le_of_eq W5.size.symm)) V5 (by decide) (by decide) rfl (by decide) (by decide) rfl) hZ (hw _ (List.mem_of_getElem? (i := 9) rfl)) (hw _ (List.mem_of_getElem? (i := 8) rfl)) (by decide) (by decide)) (g := (mkF m 94 #[.val (.int a1), .val (.int b1), .val (.int c1), .val (.int d1), .val (.int p1), .val (.ref ob1), .val (.int (2 : Int32)), .val (.int c1), .val (.int d1), .val (.int (((own_un c1) * (256 : Int32)) + (own_un d1))), .unset] [(.int (2 : Int32)), (.ref ob1)])) rfl (by rw [hml]; rfl) (argsL := [(.ref ob1), (.int (2 : Int32))]) (rest := []) (lenOf own_pd1 rfl) rfl (by show 2 * 0 + _ ≤ _; exact Nat.le_of_eq rfl) (hb hby at_94) (fun _ _ => ⟨rfl, e20, (by decide : 1 + 0 ≤ _), (by decide : 4 + 0 ≤ _)⟩)
    dsimp only [Pt.U, Pt.locs, Pt.cells, Pt.slots] at X21 l21 y21 z21 st21 hQ21
    subst l21 y21 z21
    obtain ⟨rfl, N21q, e21⟩ := hQ21
    have N21 := Fr.app N20 N21q
    refine own_of st21 ?_
    show own_Run p e below s _ _ _ (T21.setTop (mkF m 97 #[.val (.int a1), .val (.int b1), .val (.int c1), .val (.int d1), .val (.int p1), .val (.ref ob1), .val (.int (2 : Int32)), .val (.int c1), .val (.int d1), .val (.int (((own_un c1) * (256 : Int32)) + (own_un d1))), .unset] [(.int (own_16 c1.toInt8.toInt32.toInt8.toInt32 d1.toInt8.toInt32.toInt8.toInt32))]))
    refine own_of (fun _ hh_ => XS.istore X21.here hx rfl (hb hby at_97) rfl (l' := #[.val (.int a1), .val (.int b1), .val (.int c1), .val (.int d1), .val (.int p1), .val (.ref ob1), .val (.int (2 : Int32)), .val (.int c1), .val (.int d1), .val (.int (((own_un c1) * (256 : Int32)) + (own_un d1))), .val (.int (own_16 c1.toInt8.toInt32.toInt8.toInt32 d1.toInt8.toInt32.toInt8.toInt32))]) rfl hh_) ?_
    show own_Run p e below s _ _ _ (T21.setTop (mkF m 99 #[.val (.int a1), .val (.int b1), .val (.int c1), .val (.int d1), .val (.int p1), .val (.ref ob1), .val (.int (2 : Int32)), .val (.int c1), .val (.int d1), .val (.int (((own_un c1) * (256 : Int32)) + (own_un d1))), .val (.int (own_16 c1.toInt8.toInt32.toInt8.toInt32 d1.toInt8.toInt32.toInt8.toInt32))] []))
    refine own_of (fun _ hh_ => XS.iload X21.here hx rfl (hb hby at_99) rfl hh_) ?_
    show own_Run p e below s _ _ _ (T21.setTop (mkF m 101 #[.val (.int a1), .val (.int b1), .val (.int c1), .val (.int d1), .val (.int p1), .val (.ref ob1), .val (.int (2 : Int32)), .val (.int c1), .val (.int d1), .val (.int (((own_un c1) * (256 : Int32)) + (own_un d1))), .val (.int (own_16 c1.toInt8.toInt32.toInt8.toInt32 d1.toInt8.toInt32.toInt8.toInt32))] [(.int (own_16 c1.toInt8.toInt32.toInt8.toInt32 d1.toInt8.toInt32.toInt8.toInt32))]))
    refine own_of (fun _ hh_ => XS.iload X21.here hx rfl (hb hby at_101) rfl hh_) ?_
    show own_Run p e below s _ _ _ (T21.setTop (mkF m 103 #[.val (.int a1), .val (.int b1), .val (.int c1), .val (.int d1), .val (.int p1), .val (.ref ob1), .val (.int (2 : Int32)), .val (.int c1), .val (.int d1), .val (.int (((own_un c1) * (256 : Int32)) + (own_un d1))), .val (.int (own_16 c1.toInt8.toInt32.toInt8.toInt32 d1.toInt8.toInt32.toInt8.toInt32))] [(.int (((own_un c1) * (256 : Int32)) + (own_un d1))), (.int (own_16 c1.toInt8.toInt32.toInt8.toInt32 d1.toInt8.toInt32.toInt8.toInt32))]))
    have hc103_22 : (own_16 c1.toInt8.toInt32.toInt8.toInt32 d1.toInt8.toInt32.toInt8.toInt32) = (((own_un c1) * (256 : Int32)) + (own_un d1)) := own_eq c1 d1
    refine own_of (fun _ hh_ => XS.icmpNo X21.here hx rfl (hb hby at_103) rfl (teq hc103_22).2 hh_) ?_
    show own_Run p e below s _ _ _ (T21.setTop (mkF m 106 #[.val (.int a1), .val (.int b1), .val (.int c1), .val (.int d1), .val (.int p1), .val (.ref ob1), .val (.int (2 : Int32)), .val (.int c1), .val (.int d1), .val (.int (((own_un c1) * (256 : Int32)) + (own_un d1))), .val (.int (own_16 c1.toInt8.toInt32.toInt8.toInt32 d1.toInt8.toInt32.toInt8.toInt32))] []))
    refine own_of (fun _ hh_ => XS.iload X21.here hx rfl (hb hby at_106) rfl hh_) ?_
    show own_Run p e below s _ _ _ (T21.setTop (mkF m 108 #[.val (.int a1), .val (.int b1), .val (.int c1), .val (.int d1), .val (.int p1), .val (.ref ob1), .val (.int (2 : Int32)), .val (.int c1), .val (.int d1), .val (.int (((own_un c1) * (256 : Int32)) + (own_un d1))), .val (.int (own_16 c1.toInt8.toInt32.toInt8.toInt32 d1.toInt8.toInt32.toInt8.toInt32))] [(.int (own_16 c1.toInt8.toInt32.toInt8.toInt32 d1.toInt8.toInt32.toInt8.toInt32))]))
    have hc108_23 : ¬ ((own_16 c1.toInt8.toInt32.toInt8.toInt32 d1.toInt8.toInt32.toInt8.toInt32) < (0 : Int32)) := own_lo c1 d1
    refine own_of (fun _ hh_ => XS.ifNo X21.here hx rfl (hb hby at_108) rfl ((if0 _ _).trans (flt hc108_23).1) hh_) ?_
    show own_Run p e below s _ _ _ (T21.setTop (mkF m 111 #[.val (.int a1), .val (.int b1), .val (.int c1), .val (.int d1), .val (.int p1), .val (.ref ob1), .val (.int (2 : Int32)), .val (.int c1), .val (.int d1), .val (.int (((own_un c1) * (256 : Int32)) + (own_un d1))), .val (.int (own_16 c1.toInt8.toInt32.toInt8.toInt32 d1.toInt8.toInt32.toInt8.toInt32))] []))
    refine own_of (fun _ hh_ => XS.iload X21.here hx rfl (hb hby at_111) rfl hh_) ?_
    show own_Run p e below s _ _ _ (T21.setTop (mkF m 113 #[.val (.int a1), .val (.int b1), .val (.int c1), .val (.int d1), .val (.int p1), .val (.ref ob1), .val (.int (2 : Int32)), .val (.int c1), .val (.int d1), .val (.int (((own_un c1) * (256 : Int32)) + (own_un d1))), .val (.int (own_16 c1.toInt8.toInt32.toInt8.toInt32 d1.toInt8.toInt32.toInt8.toInt32))] [(.int (own_16 c1.toInt8.toInt32.toInt8.toInt32 d1.toInt8.toInt32.toInt8.toInt32))]))
    refine own_of (X21.ldcInt hx hown (mvT hZ (hw _ (List.mem_of_getElem? (i := 10) rfl))) (g := (mkF m 113 #[.val (.int a1), .val (.int b1), .val (.int c1), .val (.int d1), .val (.int p1), .val (.ref ob1), .val (.int (2 : Int32)), .val (.int c1), .val (.int d1), .val (.int (((own_un c1) * (256 : Int32)) + (own_un d1))), .val (.int (own_16 c1.toInt8.toInt32.toInt8.toInt32 d1.toInt8.toInt32.toInt8.toInt32))] [(.int (own_16 c1.toInt8.toInt32.toInt8.toInt32 d1.toInt8.toInt32.toInt8.toInt32))])) rfl (hb hby at_113)) ?_
    show own_Run p e below s _ _ _ (T21.setTop (mkF m 115 #[.val (.int a1), .val (.int b1), .val (.int c1), .val (.int d1), .val (.int p1), .val (.ref ob1), .val (.int (2 : Int32)), .val (.int c1), .val (.int d1), .val (.int (((own_un c1) * (256 : Int32)) + (own_un d1))), .val (.int (own_16 c1.toInt8.toInt32.toInt8.toInt32 d1.toInt8.toInt32.toInt8.toInt32))] [(.int (65535 : Int32)), (.int (own_16 c1.toInt8.toInt32.toInt8.toInt32 d1.toInt8.toInt32.toInt8.toInt32))]))
    have hc115_24 : ¬ ((65535 : Int32) < (own_16 c1.toInt8.toInt32.toInt8.toInt32 d1.toInt8.toInt32.toInt8.toInt32)) := own_hi c1 d1
    refine own_of (fun _ hh_ => XS.icmpNo X21.here hx rfl (hb hby at_115) rfl (flt hc115_24).2.2.1 hh_) ?_
    show own_Run p e below s _ _ _ (T21.setTop (mkF m 118 #[.val (.int a1), .val (.int b1), .val (.int c1), .val (.int d1), .val (.int p1), .val (.ref ob1), .val (.int (2 : Int32)), .val (.int c1), .val (.int d1), .val (.int (((own_un c1) * (256 : Int32)) + (own_un d1))), .val (.int (own_16 c1.toInt8.toInt32.toInt8.toInt32 d1.toInt8.toInt32.toInt8.toInt32))] []))
    refine own_of (fun _ hh_ => XS.iconst X21.here hx rfl (hb hby at_118) hh_) ?_
    show own_Run p e below s _ _ _ (T21.setTop (mkF m 119 #[.val (.int a1), .val (.int b1), .val (.int c1), .val (.int d1), .val (.int p1), .val (.ref ob1), .val (.int (2 : Int32)), .val (.int c1), .val (.int d1), .val (.int (((own_un c1) * (256 : Int32)) + (own_un d1))), .val (.int (own_16 c1.toInt8.toInt32.toInt8.toInt32 d1.toInt8.toInt32.toInt8.toInt32))] [(.int (1 : Int32))]))
    refine own_of (fun _ hh_ => XS.goto X21.here hx rfl (pc0 := 119) (pc' := 123) rfl (hb hby at_119) (by decide) (by decide) hh_) ?_
    show own_Run p e below s _ _ _ (T21.setTop (mkF m 123 #[.val (.int a1), .val (.int b1), .val (.int c1), .val (.int d1), .val (.int p1), .val (.ref ob1), .val (.int (2 : Int32)), .val (.int c1), .val (.int d1), .val (.int (((own_un c1) * (256 : Int32)) + (own_un d1))), .val (.int (own_16 c1.toInt8.toInt32.toInt8.toInt32 d1.toInt8.toInt32.toInt8.toInt32))] [(.int (1 : Int32))]))
    exact own_retN X21 hx (t := .boolean) hret hlk (by simp) (hb hby at_123) ⟨rfl, N21⟩ (by decide) (by decide)
set_option maxRecDepth 65536 in
set_option maxHeartbeats 40000000 in
theorem comes_1 {Post : Tables → Env → Array Value → State → Outcome → State → Prop} (hpost : ∀ tb e args s v u, (limb_1_1.after args s (.returned v) u = true ∧ limb_1_2.after args s (.returned v) u = true ∧ True) → FrameEnd s (.returned v) u (Jvm.fieldLocs frame_1_writes args s ++ Jvm.arrayLocs frame_1_arrays args s ++ Jvm.staticLocs frame_1_statics s) 16 128 → Post tb e args s (.returned v) u) :
    ArmFor flags0 classFile x code maxLocals ret World_1 tables_1 room_1 Calls_1 rest_1 Pre_1 Post := by
  intro l hfl _ _ p e ha hc hk s m args below hf hA hF happ hP
  obtain ⟨hcalls, hrest, hpre⟩ := hP
  obtain ⟨-, -, -, hnamed, -, -, -, hat⟩ := (Spec.applies_iff hf).mp happ
  obtain ⟨hg, hn⟩ := and_e (Cond.before_iff.mp (show (Jvm.Cond.and given_1 narrow_1).before args s = true from hpre))
  obtain ⟨gg1, gg2⟩ := and_e hg
  obtain ⟨gg3, gg4⟩ := and_e gg2
  obtain ⟨gg5, gg6⟩ := and_e gg4
  obtain ⟨gg7, gg8⟩ := and_e gg6
  obtain ⟨gg9, gg10⟩ := and_e gg8
  obtain ⟨w0, w1, w2, w3, w4, rfl⟩ : ∃ w0 w1 w2 w3 w4 : Value, args = #[w0, w1, w2, w3, w4] := by
    have hs : args.size = 5 := by simpa [Cond.value, given_1] using gg1
    obtain ⟨L⟩ := args
    match L, hs with
    | [w0, w1, w2, w3, w4], _ => exact ⟨w0, w1, w2, w3, w4, rfl⟩
  have hw := fun d (hd : d ∈ tables_1) => atoms_spec (ws := Jvm.Cond.code x code maxLocals ret :: tables_1) hat d (List.mem_cons_of_mem _ hd)
  obtain ⟨i0, ei0⟩ := is_v gg3
  obtain rfl : w0 = (.int i0) := Option.some.inj ei0
  obtain ⟨i1, ei1⟩ := is_v gg5
  obtain rfl : w1 = (.int i1) := Option.some.inj ei1
  obtain ⟨i2, ei2⟩ := is_v gg7
  obtain rfl : w2 = (.int i2) := Option.some.inj ei2
  obtain ⟨i3, ei3⟩ := is_v gg9
  obtain rfl : w3 = (.int i3) := Option.some.inj ei3
  obtain ⟨i4, ei4⟩ := is_v gg10
  obtain rfl : w4 = (.int i4) := Option.some.inj ei4
  obtain ⟨n, o, h1, h2, h3, _, L, rfl, ⟨rfl, N⟩, hq⟩ := rm0 l s _ hw tables_1 i0 i1 i2 i3 i4  s.heap s.heap.size (Nat.le_refl _)  p e ha hc hk s m _ below hf ((Spec.applies_iff_loose hf).mp happ).1 ⟨rfl, State.Warmed39.refl s, rfl⟩ trivial
  refine ⟨n, _, h1, h2, h3, hpost _ _ _ _ _ _ ⟨Cond.after_iff.mpr rfl, Cond.after_iff.mpr (eq_i res_at (Term.int_eval (1)) rfl), trivial⟩ ⟨hq.1, hq.2.1, (hq.2.2.sift fun y hy => Or.inr (N y hy)).mono (by decide) (by decide)⟩⟩
theorem main_1_1 : Claimed_1_1 := comes_1 fun _ _ _ _ _ _ h hF => ⟨h.1, hF⟩
theorem main_1_2 : Claimed_1_2 := comes_1 fun _ _ _ _ _ _ h hF => ⟨h.2.1, hF⟩
end Jvm.Pilot.@@N@@
namespace Jvm.Pilot.@@N@@
open Jvm Jvm.ClassFile Sem Op Lib Jvm.Free Jvm.Stand Jvm.Pilot.@@N@@.Jvm.D
/-! MADE BY PROGRAM (witnessworld.py) out of the Statement's table words and the real class files: 9 classes; the members and pool entries that the words name. The judged class is class 1, her method 2. -/
namespace start1
open Jvm.ClassFile
def u (s : String) : CpInfo := .utf8 (stringToUtf16 s)
/-- a pool by its gaps: so many unusable entries, then the entry; so many at the end -/
def gap : Nat → List CpInfo → List CpInfo
  | 0, r => r
  | n + 1, r => .unusable :: gap n r
def poolList (es : List (Nat × CpInfo)) (last : Nat) : List CpInfo := es.foldr (fun e r => gap e.1 (e.2 :: r)) (gap last [])
def pool (es : List (Nat × CpInfo)) (last : Nat) : Array CpInfo := ⟨poolList es last⟩
def fileOf (pool : Array CpInfo) (this : Nat) (attrs : Array Attribute := #[]) (ms : Array MethodInfo := #[]) (fl : Nat := 33) (sup : Nat := 0) (ifs : Array Nat := #[]) (fds : Array FieldInfo := #[]) : ClassFile where
  minorVersion := 0
  majorVersion := 65
  constantPool := pool
  accessFlags := fl
  thisClass := this
  superClass := sup
  interfaces := ifs
  fields := fds
  methods := ms
  attributes := attrs
def plain (name : String) (sup : Option ClassId) : Class where
  name := name
  kind := .ordinary
  loader := none
  accessFlags := 33
  super := sup
  interfaces := #[]
  cf := none
  fields := #[]
  methods := #[]
  instanceTypes := #[]
  staticTypes := #[]
  resolved := #[]
  callSites := []
  init := .initialized
  statics := none
  mirror := none

def pool0 : Array CpInfo := pool [(5, u "<init>"), (0, u "()V"), (1, .class_ 10), (1, u "java/lang/Object")] 113

def k0m0 : Method := { name := "<init>", desc := "()V", sig := { parameters := [], returnType := none }, accessFlags := 1, code := none }
/-- java/lang/Object -/
def k0 : Class := { plain "java/lang/Object" none with
  accessFlags := 33
  interfaces := #[]
  cf := some (fileOf pool0 8 #[] #[{ accessFlags := 1, nameIndex := 5, descriptorIndex := 6, attributes := #[] }] 33 0 #[] #[])
  fields := #[]
  methods := #[k0m0]
  instanceTypes := #[]
  staticTypes := #[]
  resolved := Array.replicate 124 none
  statics := none }

def pool1 : Array CpInfo := pool [(2, .class_ 4), (1, u "java/lang/Object"), (0, u "<init>"), (0, u "()V"), (0, .integer 2147483647), (0, .methodref 9 10), (0, .class_ 11), (0, .nameAndType 12 13), (0, u "com/example/pagewright/pagewright/BigEndianU16AtPinLaw"), (0, u "unsignedOf"), (0, u "(I)I"), (0, .methodref 15 16), (0, .class_ 17), (0, .nameAndType 18 19), (0, u "com/example/pagewright/pagewright/BigEndian"), (0, u "u16At"), (0, u "([BI)I"), (0, .integer 65535), (2, u "law"), (0, u "(IIIII)Z")] 5

def k1m0 : Method := { name := "<init>", desc := "()V", sig := { parameters := [], returnType := none }, accessFlags := 2, code := none }
def k1c1 : Code := { maxStack := 2, maxLocals := 1, code := method_2_code, exceptionTable := #[], attributes := #[] }
def k1m1 : Method := { name := "unsignedOf", desc := "(I)I", sig := { parameters := [.int], returnType := some .int }, accessFlags := 10, code := some k1c1 }
def k1c2 : Code := { maxStack := 3, maxLocals := 11, code := code, exceptionTable := #[], attributes := #[] }
def k1m2 : Method := { name := "law", desc := "(IIIII)Z", sig := { parameters := [.int, .int, .int, .int, .int], returnType := some .boolean }, accessFlags := 9, code := some k1c2 }
/-- com/example/pagewright/pagewright/BigEndianU16AtPinLaw -/
def k1 : Class := { plain "com/example/pagewright/pagewright/BigEndianU16AtPinLaw" (some 0) with
  accessFlags := 49
  interfaces := #[]
  cf := some (fileOf pool1 9 #[] #[{ accessFlags := 2, nameIndex := 5, descriptorIndex := 6, attributes := #[] }, { accessFlags := 10, nameIndex := 12, descriptorIndex := 13, attributes := #[] }, { accessFlags := 9, nameIndex := 23, descriptorIndex := 24, attributes := #[] }] 49 2 #[] #[])
  fields := #[]
  methods := #[k1m0, k1m1, k1m2]
  instanceTypes := #[]
  staticTypes := #[]
  resolved := Array.replicate 30 none
  statics := none }

def pool2 : Array CpInfo := pool [(2, .class_ 4), (1, u "java/lang/Object"), (0, u "<init>"), (0, u "()V"), (1, .class_ 10), (1, u "com/example/pagewright/pagewright/BigEndian"), (0, u "u16At"), (0, u "([BI)I")] 10

def k2m0 : Method := { name := "<init>", desc := "()V", sig := { parameters := [], returnType := none }, accessFlags := 2, code := none }
def k2c1 : Code := { maxStack := 4, maxLocals := 2, code := prog_10_method_2_code, exceptionTable := #[], attributes := #[] }
def k2m1 : Method := { name := "u16At", desc := "([BI)I", sig := { parameters := [(.array .byte), .int], returnType := some .int }, accessFlags := 8, code := some k2c1 }
/-- com/example/pagewright/pagewright/BigEndian -/
def k2 : Class := { plain "com/example/pagewright/pagewright/BigEndian" (some 0) with
  accessFlags := 48
  interfaces := #[]
  cf := some (fileOf pool2 8 #[] #[{ accessFlags := 2, nameIndex := 5, descriptorIndex := 6, attributes := #[] }, { accessFlags := 8, nameIndex := 11, descriptorIndex := 12, attributes := #[] }] 48 2 #[] #[])
  fields := #[]
  methods := #[k2m0, k2m1]
  instanceTypes := #[]
  staticTypes := #[]
  resolved := Array.replicate 23 none
  statics := none }

def pool3 : Array CpInfo := pool [(1, u "java/lang/Cloneable"), (0, .class_ 1), (0, u "java/lang/Object"), (0, .class_ 3)] 3

/-- java/lang/Cloneable -/
def k3 : Class := { plain "java/lang/Cloneable" (some 0) with
  accessFlags := 1537
  interfaces := #[]
  cf := some (fileOf pool3 2 #[] #[] 1537 4 #[] #[])
  fields := #[]
  methods := #[]
  instanceTypes := #[]
  staticTypes := #[]
  resolved := Array.replicate 8 none
  statics := none }

def pool4 : Array CpInfo := pool [(1, u "java/io/Serializable"), (0, .class_ 1), (0, u "java/lang/Object"), (0, .class_ 3)] 3

/-- java/io/Serializable -/
def k4 : Class := { plain "java/io/Serializable" (some 0) with
  accessFlags := 1537
  interfaces := #[]
  cf := some (fileOf pool4 2 #[] #[] 1537 4 #[] #[])
  fields := #[]
  methods := #[]
  instanceTypes := #[]
  staticTypes := #[]
  resolved := Array.replicate 8 none
  statics := none }

/-- the primitive byte -/
def k5 : Class := { plain "byte" none with kind := .primitive 'B', accessFlags := 0x411 }
/-- [B -/
def k6 : Class := { plain "[B" (some 0) with kind := .array 5 .byte, interfaces := #[3, 4], accessFlags := 1041 }

/-- the primitive int -/
def k7 : Class := { plain "int" none with kind := .primitive 'I', accessFlags := 0x411 }
/-- [I -/
def k8 : Class := { plain "[I" (some 0) with kind := .array 7 .int, interfaces := #[3, 4], accessFlags := 1041 }

def heap : Heap := #[]
def classes : Array Class := #[k0, k1, k2, k3, k4, k5, k6, k7, k8]
def interned : List (Array UInt16 × Addr) := []
def slotsUsed : Nat := 0
def theMethod : MethodId := ⟨1, 2⟩
def args0 : Array Value := #[.int 5, .int 5, .int 5, .int 5, .int 5]
def aboutOver (below : List Frame) : State where
  vm := { classes := classes, interned := interned.toArray }
  heap := heap
  slotsUsed := slotsUsed
  threads := #[{ frames := .invoking theMethod args0 :: below }]
def below0 : List Frame := [.native { method := ⟨0, 0⟩, args := #[] }]
def about1 : State := aboutOver below0
def p0 : Program := .bare "" "" ""
def e0 : Env := launch0.env 0 0 0
theorem w_frames : about1.frames = Frame.invoking theMethod args0 :: below0 := rfl
set_option maxRecDepth 65536 in
theorem w_args : argsFit about1.vm theMethod args0 = true := by decide +kernel
set_option maxRecDepth 65536 in
theorem w_heap : heapFits about1 = true := by decide +kernel
set_option maxRecDepth 65536 in
theorem w_runnable : about1.curStatus? = some .runnable := by decide +kernel
set_option maxRecDepth 65536 in
theorem w_alone : about1.alone = true := by decide +kernel
set_option maxRecDepth 65536 in
theorem w_named : about1.methodNamed? x = some theMethod := by decide +kernel
set_option maxRecDepth 65536 in
theorem w_hears : about1.hears theMethod below0 = true := by decide +kernel
set_option maxRecDepth 65536 in
theorem w_ripe : about1.ripe theMethod args0 below0 = true := by decide +kernel
theorem w_running : about1.status = .running := rfl
set_option maxRecDepth 65536 in
theorem w_room : about1.hasRoom e0.platform room_1 = true :=
  launch0.hasRoom_least _ room_1 (by decide +kernel) (by decide +kernel) (by decide +kernel) (by decide +kernel) (by decide +kernel) (by decide +kernel)
theorem allAtoms_all (ts : List Jvm.Cond) (a : Array Jvm.Value) (st : Jvm.State) : (allAtoms ts).before a st = ts.all (fun c => c.before a st) := by
  induction ts with
  | nil => rfl
  | cons c t ih =>
    show (Jvm.Cond.and c (allAtoms t)).before a st = _
    rw [Jvm.Cond.before_and, ih, List.all_cons]
def words1 : List Jvm.Cond := Jvm.Cond.code x code maxLocals ret :: tables_1
/-- a 'code' word, met by the world's own term for the bytes: nothing is compared byte by byte -/
theorem code_word {y : MethodName} {bytes : ByteArray} {mx : Nat} {rt : Option FieldType} {a : Array Value} {s : State} {m : MethodId} {meth : Method} {c : Code} (h1 : s.methodNamed? y = some m) (h2 : s.vm.method? m = some meth) (h3 : meth.code = some c) (h4 : c.code = bytes)
    (h5 : (c.maxLocals == mx && c.exceptionTable.isEmpty && decide (c.maxStack ≤ mostOperands) && decide (meth.sig.returnType = rt) && !meth.locks && decide (parseMethodDescriptor y.desc = some meth.sig)) = true) : (Jvm.Cond.code y bytes mx rt).before a s = true := by
  simp only [Bool.and_eq_true, beq_iff_eq, Bool.not_eq_true', decide_eq_true_eq] at h5
  obtain ⟨⟨⟨⟨⟨g1, g2⟩, g3⟩, g4⟩, g5⟩, g6⟩ := h5
  simp [Cond.before, Cond.holds, Cond.value, h1, h2, h3, h4, g1, g2, g3, g4, g5, g6]
def isCode : Jvm.Cond → Bool
  | .code _ _ _ _ => true
  | _ => false
theorem all_split {L : List Jvm.Cond} {P : Jvm.Cond → Bool} (h1 : L.all (fun c => isCode c || P c) = true) (h2 : ∀ c ∈ L.filter isCode, P c = true) : L.all P = true := by
  refine List.all_eq_true.mpr fun c hc => ?_
  have h := List.all_eq_true.mp h1 c hc
  rcases Bool.eq_false_or_eq_true (isCode c) with hi | hi
  · exact h2 c (List.mem_filter.mpr ⟨hc, hi⟩)
  · simpa [hi] using h
set_option maxRecDepth 65536 in
theorem w_c0 : (Jvm.Cond.code x code maxLocals ret).before args0 about1 = true := code_word (m := ⟨1, 2⟩) (meth := k1m2) (c := k1c2) (by decide +kernel) rfl rfl rfl (by decide +kernel)
set_option maxRecDepth 65536 in
theorem w_c1 : (Jvm.Cond.code ({ cls := "com/example/pagewright/pagewright/BigEndianU16AtPinLaw", name := "unsignedOf", desc := "(I)I" } : Jvm.MethodName) method_2_code (1 : Nat) (Option.some Jvm.ClassFile.FieldType.int)).before args0 about1 = true := code_word (m := ⟨1, 1⟩) (meth := k1m1) (c := k1c1) (by decide +kernel) rfl rfl rfl (by decide +kernel)
set_option maxRecDepth 65536 in
theorem w_c2 : (Jvm.Cond.code ({ cls := "com/example/pagewright/pagewright/BigEndian", name := "u16At", desc := "([BI)I" } : Jvm.MethodName) prog_10_method_2_code (2 : Nat) (Option.some Jvm.ClassFile.FieldType.int)).before args0 about1 = true := code_word (m := ⟨2, 1⟩) (meth := k2m1) (c := k2c1) (by decide +kernel) rfl rfl rfl (by decide +kernel)
def codes1 : List Jvm.Cond := [Jvm.Cond.code x code maxLocals ret, Jvm.Cond.code ({ cls := "com/example/pagewright/pagewright/BigEndianU16AtPinLaw", name := "unsignedOf", desc := "(I)I" } : Jvm.MethodName) method_2_code (1 : Nat) (Option.some Jvm.ClassFile.FieldType.int), Jvm.Cond.code ({ cls := "com/example/pagewright/pagewright/BigEndian", name := "u16At", desc := "([BI)I" } : Jvm.MethodName) prog_10_method_2_code (2 : Nat) (Option.some Jvm.ClassFile.FieldType.int)]
set_option maxRecDepth 65536 in
theorem codes_eq : words1.filter isCode = codes1 := rfl
theorem w_codes : ∀ c ∈ words1.filter isCode, c.before args0 about1 = true := by
  rw [codes_eq]
  intro c hc
  simp only [codes1, List.mem_cons, List.not_mem_nil, or_false] at hc
  rcases hc with rfl | rfl | rfl
  · exact w_c0
  · exact w_c1
  · exact w_c2
set_option maxRecDepth 65536 in
theorem w_t1 : words1.all (fun c => isCode c || c.before args0 about1) = true := by decide +kernel
theorem w_tables : (allAtoms (Jvm.Cond.code x code maxLocals ret :: tables_1)).before args0 about1 = true := by
  rw [allAtoms_all]
  show words1.all (fun c => c.before args0 about1) = true
  refine all_split ?_ w_codes
  rw [w_t1]
set_option maxRecDepth 65536 in
theorem w_case : (Jvm.Cond.and given_1 narrow_1).before args0 about1 = true := by decide +kernel
theorem w_applies : (headSpec (Jvm.Cond.code x code maxLocals ret :: tables_1) room_1).applies x e0.platform about1 = true :=
  (Spec.applies_iff w_frames).mpr ⟨w_running, w_runnable, w_alone, w_named, w_hears, w_ripe, w_room, w_tables⟩
theorem atStart : AtStart classFile x code maxLocals ret World_1 tables_1 room_1 Calls_1 rest_1 Pre_1 launch0 p0 e0 about1 theMethod args0 below0 :=
  ⟨lists_1, trivial, launch0.admits_env _ _ _, launch0.least_env, fairChoices_fair.cas, fairChoices_fair.clock, w_frames, w_args, w_heap, w_applies, trivial, trivial, w_case⟩
end start1
theorem witness_1 : WitnessClaimed_1 := ⟨start1.p0, start1.e0, start1.about1, start1.theMethod, start1.args0, start1.below0, start1.atStart⟩
end Jvm.Pilot.@@N@@
