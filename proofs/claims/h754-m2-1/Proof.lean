import JvmDerived
import JvmDerived.Pilot.@@N@@Statement
import JvmDerived.Pilot.@@N@@Code
set_option linter.unusedVariables false
set_option linter.unusedSimpArgs false
namespace Jvm.Pilot.@@N@@
open Jvm Jvm.ClassFile Sem Op Lib Jvm.Free Jvm.Stand Jvm.LawKit Jvm.RoadKit Bundle Jvm.Pilot.@@N@@.Jvm.D
section Own
variable {p : Program} {l : Launch} {e : Env} {R : Room} {s : State} {m : MethodId} {args : Array Value} {below : List Frame} {meth : Method} {c : Code} {T : State} {locs : List Loc} {cells slots : Nat} {C N : Nat} {Q : Option Value → Heap → List Loc → Prop} {V V' : State}
/-- from the state V the method comes to its return, and leaves what Q says -/
def own_Run (p : Program) (e : Env) (below : List Frame) (s : State) (C N : Nat) (Q : Option Value → Heap → List Loc → Prop) (V : State) : Prop :=
  ∃ s₂ o, Steps p.tables e below V s₂ ∧ s₂.status = .running ∧ Ended s₂ below o ∧ ∃ v L, o = .returned v ∧ Q v s₂.heap L ∧ FrameEnd s o s₂ L C N
theorem own_of (k : ∀ t, Steps p.tables e below V' t → Steps p.tables e below V t) (r : own_Run p e below s C N Q V') : own_Run p e below s C N Q V := by
  obtain ⟨s₂, o, h, q⟩ := r
  exact ⟨s₂, o, k _ h, q⟩
theorem own_tr (k : Steps p.tables e below V V') (r : own_Run p e below s C N Q V') : own_Run p e below s C N Q V := own_of (fun _ h => k.trans h) r
theorem own_cast {g g' : JFrame} (q : g = g') (r : own_Run p e below s C N Q (T.setTop g')) : own_Run p e below s C N Q (T.setTop g) := q ▸ r
theorem own_ret (X : Stand p l e R s m args below meth c T locs cells slots) (hx : p.tables.exec = Jvm.exec) {pc : Nat} {Ls : Array Slot} {w : Value} {t : FieldType} {i : Instr} {rest : List Value} (hret : meth.sig.returnType = some t) (hlk : meth.locks = false) (hn : narrow t w = w)
    (hi : (i = .ireturn ∧ (t = .int ∨ t = .boolean ∨ t = .byte ∨ t = .char ∨ t = .short) ∧ ∃ z, w = .int z) ∨ (i = .lreturn ∧ t = .long ∧ ∃ z, w = .long z) ∨ (i = .dreturn ∧ t = .double ∧ ∃ z, w = .double z) ∨ (i = .freturn ∧ t = .float ∧ ∃ z, w = .float z) ∨ (i = .areturn ∧ t.isReference = true ∧ w.isRef = true))
    (hd : decode c.code pc = .ok (i, 1)) (q : Q (some w) T.heap locs) (hc : cells ≤ C) (hs : slots ≤ N) : own_Run p e below s C N Q (T.setTop (mkF m pc Ls (w :: rest))) := by
  obtain ⟨fs, hr, hrun, hended, hW, hsame⟩ := X.leave (v := some w) (fun h => by rw [hret] at h; cases h) hlk
  exact ⟨_, _, retOut X hx hret hn hi hd hr, hrun, hended, _, _, rfl, q, ⟨_, rfl⟩, hW, hsame.mono hc hs⟩
theorem own_retI (X : Stand p l e R s m args below meth c T locs cells slots) (hx : p.tables.exec = Jvm.exec) {pc : Nat} {Ls : Array Slot} {z : Int32} {rest : List Value} (hret : meth.sig.returnType = some .int) (hlk : meth.locks = false)
    (hd : decode c.code pc = .ok (.ireturn, 1)) (q : Q (some (.int z)) T.heap locs) (hc : cells ≤ C) (hs : slots ≤ N) : own_Run p e below s C N Q (T.setTop (mkF m pc Ls (.int z :: rest))) :=
  own_ret X hx hret hlk rfl (Or.inl ⟨rfl, Or.inl rfl, z, rfl⟩) hd q hc hs
theorem own_retJ (X : Stand p l e R s m args below meth c T locs cells slots) (hx : p.tables.exec = Jvm.exec) {pc : Nat} {Ls : Array Slot} {z : Int64} {rest : List Value} (hret : meth.sig.returnType = some .long) (hlk : meth.locks = false)
    (hd : decode c.code pc = .ok (.lreturn, 1)) (q : Q (some (.long z)) T.heap locs) (hc : cells ≤ C) (hs : slots ≤ N) : own_Run p e below s C N Q (T.setTop (mkF m pc Ls (.long z :: rest))) :=
  own_ret X hx hret hlk rfl (Or.inr (Or.inl ⟨rfl, rfl, z, rfl⟩)) hd q hc hs
theorem own_retN (X : Stand p l e R s m args below meth c T locs cells slots) (hx : p.tables.exec = Jvm.exec) {pc : Nat} {Ls : Array Slot} {z : Int32} {t : FieldType} {rest : List Value} (hret : meth.sig.returnType = some t) (hlk : meth.locks = false) (ht : t = .boolean ∨ t = .byte ∨ t = .char ∨ t = .short)
    (hd : decode c.code pc = .ok (.ireturn, 1)) (q : Q (some (.int (nar t z))) T.heap locs) (hc : cells ≤ C) (hs : slots ≤ N) : own_Run p e below s C N Q (T.setTop (mkF m pc Ls (.int z :: rest))) := by
  obtain ⟨fs, hr, hrun, hended, hW, hsame⟩ := X.leave (v := some (.int (nar t z))) (fun h => by rw [hret] at h; cases h) hlk
  exact ⟨_, _, retN X hx hret ht hd hr, hrun, hended, _, _, rfl, q, ⟨_, rfl⟩, hW, hsame.mono hc hs⟩
theorem own_retV (X : Stand p l e R s m args below meth c T locs cells slots) (hx : p.tables.exec = Jvm.exec) {pc : Nat} {Ls : Array Slot} (hret : meth.sig.returnType = none) (hlk : meth.locks = false)
    (hd : decode c.code pc = .ok (.return_, 1)) (q : Q none T.heap locs) (hc : cells ≤ C) (hs : slots ≤ N) : own_Run p e below s C N Q (T.setTop (mkF m pc Ls [])) := by
  obtain ⟨fs, hr, hrun, hended, hW, hsame⟩ := X.leave (v := none) (fun _ => rfl) hlk
  exact ⟨_, _, X.returnOut hx hret hd hr, hrun, hended, _, _, rfl, q, ⟨_, rfl⟩, hW, hsame.mono hc hs⟩
end Own
section OwnArrays
variable {p : Program} {l : Launch} {e : Env} {R : Room} {s : State} {m : MethodId} {args : Array Value} {below : List Frame} {meth : Method} {c : Code} {T : State} {locs : List Loc} {cells slots : Nat} {C N : Nat} {Q : Option Value → Heap → List Loc → Prop} {Z : State} {h h' : Heap} {a b : Addr} {ty : FieldType} {n : Nat} {f g : Nat → Int32} {v : Value} {sl : Nat} {ws : List Addr}
/-- in the heap h, at a, an array of the kind ty and n places; its place i holds the int f i -/
def own_Ar (Z : State) (h : Heap) (a : Addr) (ty : FieldType) (n : Nat) (f : Nat → Int32) : Prop := ∃ c : Cell, Arr Z h a c ty ∧ c.slots.size = n ∧ ∀ i, i < n → c.slots[i]? = some (.int (f i))
def own_up (f : Nat → Int32) (j : Nat) (v : Int32) : Nat → Int32 := fun i => if i = j then v else f i
theorem own_Ar.lt (F : own_Ar Z h a ty n f) : a < h.size := by obtain ⟨c, A, -⟩ := F; exact A.lt
theorem own_Ar.ext (F : own_Ar Z h a ty n f) (E : Ext h h') : own_Ar Z h' a ty n f := by obtain ⟨c, A, r⟩ := F; exact ⟨c, A.ext E, r⟩
theorem own_Ar.other (F : own_Ar Z h b ty n f) (W : Wr h h' a sl v) (q : b ≠ a) : own_Ar Z h' b ty n f := by obtain ⟨c, A, r⟩ := F; exact ⟨c, A.other W q, r⟩
theorem own_Ar.keep (F : own_Ar Z h a ty n f) (K : Keep h h' ws) (q : a ∉ ws) : own_Ar Z h' a ty n f := by obtain ⟨c, A, r⟩ := F; exact ⟨c, ⟨K.2.1 a c A.1 q, A.2⟩, r⟩
theorem own_Ar.congr (F : own_Ar Z h a ty n f) (q : ∀ i, i < n → f i = g i) : own_Ar Z h a ty n g := by obtain ⟨c, A, r, H⟩ := F; exact ⟨c, A, r, fun i hi => by rw [← q i hi]; exact H i hi⟩
theorem own_Ar.new {k : ClassId} {z : Int32} (A : Arr Z h a (newA k ty z) ty) (hd : defaultValue ty = .int 0) (hn : z.toNatClampNeg = n) : own_Ar Z h a ty n (fun _ => 0) :=
  ⟨_, A, by rw [sz_new, hn], fun i hi => by simp [newA, hd, hn, hi]⟩
theorem own_Ar.set {w : Int32} {j : Nat} (F : own_Ar Z h a ty n f) (W : Wr h h' a j (.int w)) (hj : j < n) : own_Ar Z h' a ty n (own_up f j w) := by
  obtain ⟨c, A, r, H⟩ := F
  refine ⟨_, A.same W, by rw [sz_set]; exact r, fun i hi => ?_⟩
  by_cases q : i = j
  · subst q
    simp [own_up, Cell.setSlot, r, hi]
  · rw [show (c.setSlot j (.int w)).slots[i]? = c.slots[i]? from Array.getElem?_setIfInBounds_ne (Ne.symm q)]
    simp [own_up, q, H i hi]
theorem own_bal (X : Stand p l e R s m args below meth c T locs cells slots) (hx : p.tables.exec = Jvm.exec) (hZ : Z.Warmed39 s.vm) (eT : T.heap = h) (A : own_Ar Z h a .byte n f) {j w : Int32} (h1 : ¬ j < 0) (h2 : j.toNatClampNeg < n) (hv : f j.toNatClampNeg = w)
    {pc : Nat} {Ls : Array Slot} {rest : List Value} (hd : decode c.code pc = .ok (.baload, 1)) (r : own_Run p e below s C N Q (T.setTop (mkF m (pc + 1) Ls (.int w :: rest)))) : own_Run p e below s C N Q (T.setTop (mkF m pc Ls (.int j :: .ref a :: rest))) := by
  obtain ⟨c, A, S, H⟩ := A
  subst hv
  exact own_of (fun t k => X.baloadBytes hx (j := j) (v := .int (f j.toNatClampNeg)) (by rw [eT]; exact A.1) (State.isArrayOf_alike hZ.alike A.2.1) A.2.2 (by rw [S]; exact fun q => q.elim h1 (Nat.not_le.mpr h2)) (H _ h2) (g := mkF m pc Ls (.int j :: .ref a :: rest)) rfl rfl hd t k) r
theorem own_ial (X : Stand p l e R s m args below meth c T locs cells slots) (hx : p.tables.exec = Jvm.exec) (hZ : Z.Warmed39 s.vm) (eT : T.heap = h) (A : own_Ar Z h a .int n f) {j w : Int32} (h1 : ¬ j < 0) (h2 : j.toNatClampNeg < n) (hv : f j.toNatClampNeg = w)
    {pc : Nat} {Ls : Array Slot} {rest : List Value} (hd : decode c.code pc = .ok (.iaload, 1)) (r : own_Run p e below s C N Q (T.setTop (mkF m (pc + 1) Ls (.int w :: rest)))) : own_Run p e below s C N Q (T.setTop (mkF m pc Ls (.int j :: .ref a :: rest))) := by
  obtain ⟨c, A, S, H⟩ := A
  subst hv
  exact own_of (fun t k => X.iaload hx (j := j) (v := .int (f j.toNatClampNeg)) (by rw [eT]; exact A.1) (State.isArrayOf_alike hZ.alike A.2.1) A.2.2 (by rw [S]; exact fun q => q.elim h1 (Nat.not_le.mpr h2)) (H _ h2) (g := mkF m pc Ls (.int j :: .ref a :: rest)) rfl rfl hd t k) r
theorem own_alen (X : Stand p l e R s m args below meth c T locs cells slots) (hx : p.tables.exec = Jvm.exec) (hZ : Z.Warmed39 s.vm) (eT : T.heap = h) (A : own_Ar Z h a ty n f) {w : Int32} (hv : n.toInt32 = w)
    {pc : Nat} {Ls : Array Slot} {rest : List Value} (hd : decode c.code pc = .ok (.arraylength, 1)) (r : own_Run p e below s C N Q (T.setTop (mkF m (pc + 1) Ls (.int w :: rest)))) : own_Run p e below s C N Q (T.setTop (mkF m pc Ls (.ref a :: rest))) := by
  obtain ⟨c, A, S, H⟩ := A
  subst hv S
  exact own_of (fun t k => X.arraylength hx (by rw [eT]; exact A.1) (State.isArrayOf_alike hZ.alike A.2.1) (g := mkF m pc Ls (.ref a :: rest)) rfl rfl hd t k) r
theorem own_bas (X : Stand p l e R s m args below meth c T locs cells slots) (hx : p.tables.exec = Jvm.exec) (hZ : Z.Warmed39 s.vm) (eT : T.heap = h) (A : own_Ar Z h a .byte n f) {j x : Int32} (h1 : ¬ j < 0) (h2 : j.toNatClampNeg < n)
    {pc : Nat} {Ls : Array Slot} {rest : List Value} (hd : decode c.code pc = .ok (.bastore, 1)) :
    ∃ T' h', Stand p l e R s m args below meth c T' (locs ++ [⟨a, j.toNatClampNeg⟩]) cells slots ∧ T'.heap = h' ∧ Wr h h' a j.toNatClampNeg (.int x.toInt8.toInt32) ∧ own_Ar Z h' a .byte n (own_up f j.toNatClampNeg x.toInt8.toInt32) ∧
      ∀ t, Steps p.tables e below (T'.setTop (mkF m (pc + 1) Ls rest)) t → Steps p.tables e below (T.setTop (mkF m pc Ls (.int x :: .int j :: .ref a :: rest))) t := by
  obtain ⟨c, A, S, H⟩ := id A
  obtain ⟨T', h', X', e', W, st⟩ := stB X hx hZ eT A (j := j) (x := x) (by rw [S]; exact fun q => q.elim h1 (Nat.not_le.mpr h2)) (g := mkF m pc Ls (.int x :: .int j :: .ref a :: rest)) rfl rfl hd
  exact ⟨T', h', X', e', W, own_Ar.set ⟨c, A, S, H⟩ W h2, st⟩
theorem own_ias (X : Stand p l e R s m args below meth c T locs cells slots) (hx : p.tables.exec = Jvm.exec) (hZ : Z.Warmed39 s.vm) (eT : T.heap = h) (A : own_Ar Z h a .int n f) {j x : Int32} (h1 : ¬ j < 0) (h2 : j.toNatClampNeg < n)
    {pc : Nat} {Ls : Array Slot} {rest : List Value} (hd : decode c.code pc = .ok (.iastore, 1)) :
    ∃ T' h', Stand p l e R s m args below meth c T' (locs ++ [⟨a, j.toNatClampNeg⟩]) cells slots ∧ T'.heap = h' ∧ Wr h h' a j.toNatClampNeg (.int x) ∧ own_Ar Z h' a .int n (own_up f j.toNatClampNeg x) ∧
      ∀ t, Steps p.tables e below (T'.setTop (mkF m (pc + 1) Ls rest)) t → Steps p.tables e below (T.setTop (mkF m pc Ls (.int x :: .int j :: .ref a :: rest))) t := by
  obtain ⟨c, A, S, H⟩ := id A
  obtain ⟨T', h', X', e', W, st⟩ := stI X hx hZ eT A (j := j) (x := x) (by rw [S]; exact fun q => q.elim h1 (Nat.not_le.mpr h2)) (g := mkF m pc Ls (.int x :: .int j :: .ref a :: rest)) rfl rfl hd
  exact ⟨T', h', X', e', W, own_Ar.set ⟨c, A, S, H⟩ W h2, st⟩
end OwnArrays
def own_x (z : Int64) (k : Int32) : Int64 := z ^^^ ((z.toUInt64 >>> (k &&& 0x3f).toInt64.toUInt64).toInt64)
def own_mix (z : Int64) : Int64 := own_x (own_x (own_x z (30 : Int32) * (-4658895280553007687 : Int64)) (27 : Int32) * (-7723592293110705685 : Int64)) (31 : Int32)
theorem own_x30 (z : Int64) : (own_x z (30 : Int32)).toBitVec = z.toBitVec ^^^ (z.toBitVec >>> 30) := rfl
theorem own_x27 (z : Int64) : (own_x z (27 : Int32)).toBitVec = z.toBitVec ^^^ (z.toBitVec >>> 27) := rfl
theorem own_x31 (z : Int64) : (own_x z (31 : Int32)).toBitVec = z.toBitVec ^^^ (z.toBitVec >>> 31) := rfl
theorem own_back (x : BitVec 64) (k : Nat) (hk : 22 ≤ k) : (x ^^^ (x >>> k)) ^^^ ((x ^^^ (x >>> k)) >>> k) ^^^ ((x ^^^ (x >>> k)) >>> (k + k)) = x := by
  apply BitVec.eq_of_getLsbD_eq
  intro i hi
  simp only [BitVec.getLsbD_xor, BitVec.getLsbD_ushiftRight]
  have e1 : k + (k + i) = (k + k) + i := by omega
  have e2 : x.getLsbD (k + ((k + k) + i)) = false := BitVec.getLsbD_of_ge x _ (by omega)
  rw [e1, e2]
  generalize x.getLsbD i = a
  generalize x.getLsbD (k + i) = b
  generalize x.getLsbD (k + k + i) = d
  cases a <;> cases b <;> cases d <;> rfl
theorem own_bv {x y : Int64} (h : x.toBitVec = y.toBitVec) : x = y := Int64.toBitVec_inj.mp h
theorem own_xinj {k : Nat} (hk : 22 ≤ k) {x y : BitVec 64} (h : x ^^^ (x >>> k) = y ^^^ (y >>> k)) : x = y := by
  rw [← own_back x k hk, ← own_back y k hk, h]
theorem own_mulinj {m i x y : Int64} (hm : m * i = 1) (h : x * m = y * m) : x = y := by
  have a : (x * m) * i = (y * m) * i := by rw [h]
  rwa [Int64.mul_assoc, Int64.mul_assoc, hm, Int64.mul_one, Int64.mul_one] at a
theorem own_inj {x y : Int64} (h : own_mix x = own_mix y) : x = y := by
  unfold own_mix at h
  have h1 := congrArg Int64.toBitVec h
  rw [own_x31, own_x31] at h1
  have h2 := own_mulinj (i := (3573116690164977347 : Int64)) (by decide +kernel) (own_bv (own_xinj (by decide) h1))
  have h3 := congrArg Int64.toBitVec h2
  rw [own_x27, own_x27] at h3
  have h4 := own_mulinj (i := (-7575587736534282103 : Int64)) (by decide +kernel) (own_bv (own_xinj (by decide) h3))
  have h5 := congrArg Int64.toBitVec h4
  rw [own_x30, own_x30] at h5
  exact own_bv (own_xinj (by decide) h5)
theorem own_ne (x : Int64) : ¬ own_mix (x + (-7046029254386353131 : Int64)) = own_mix ((x + (-7046029254386353131 : Int64)) + (-7046029254386353131 : Int64)) := by
  intro h
  have a := own_inj h
  have b := c_ladd (x + (-7046029254386353131 : Int64)) (-7046029254386353131 : Int64)
  rw [← a] at b
  have l1 : (-7046029254386353131 : Int64).toInt = -7046029254386353131 := rfl
  rw [l1] at b
  omega
theorem own_zero : own_mix ((7046029254386353131 : Int64) + (-7046029254386353131 : Int64)) = (0 : Int64) := by decide +kernel
theorem own_vec : own_mix ((0 : Int64) + (-7046029254386353131 : Int64)) = (-2152535657050944081 : Int64) := by decide +kernel
theorem own_pn0 : plainName "com/example/cliquework/cliquework/random/SeededRandom" = true := by first | (simp [plainName, overriddenIn]; done) | decide +kernel
theorem dI_0 : decode prog_68_method_1_code 0 = .ok (.aload_n 0, 1) := by decide +kernel
theorem dI_1 : decode prog_68_method_1_code 1 = .ok (.invokespecial 1, 3) := by decide +kernel
theorem dI_4 : decode prog_68_method_1_code 4 = .ok (.aload_n 0, 1) := by decide +kernel
theorem dI_5 : decode prog_68_method_1_code 5 = .ok (.lload_n 1, 1) := by decide +kernel
theorem dI_6 : decode prog_68_method_1_code 6 = .ok (.putfield 7, 3) := by decide +kernel
theorem dI_9 : decode prog_68_method_1_code 9 = .ok (.return_, 1) := by decide +kernel
theorem efI (m : MethodId) (t1 : Addr) (u1 : Int64) : entryFrame m #[(.ref t1), (.long u1)] 3 = mkF m 0 #[.val (.ref t1), .val (.long u1), .second] [] := by first | (simp [entryFrame, mkF, argsToLocals, Value.category]; done) | rfl
def QI (Z : State) (t1 : Addr) (u1 : Int64) (h0 : Heap) (n0 : Nat) (v : Option Value) (h : Heap) (L : List Loc) : Prop := v = none ∧ Fr n0 L ∧ Keep h0 h [t1] ∧ Fld Z h t1 "com/example/cliquework/cliquework/random/SeededRandom" "state" "J" (.long u1)
set_option maxRecDepth 65536 in
set_option maxHeartbeats 40000000 in
theorem rmI (l : Launch) (Z : State) (a0 : Array Value) (hw : ∀ d ∈ tables_1, d.before a0 Z = true) (ws : List Jvm.Cond) (t1 : Addr) (u1 : Int64) (h0 : Heap) (n0 : Nat) (Z0 : n0 ≤ h0.size) (Ex : Exa Z h0 t1 "com/example/cliquework/cliquework/random/SeededRandom") (Fs : Fld Z h0 t1 "com/example/cliquework/cliquework/random/SeededRandom" "state" "J" (.long (0 : Int64))) (g_t1 : n0 ≤ t1) :
    MetFree l (⟨"com/example/cliquework/cliquework/random/SeededRandom", "<init>", "(J)V"⟩ : MethodName) (head1 (Jvm.Cond.code (⟨"com/example/cliquework/cliquework/random/SeededRandom", "<init>", "(J)V"⟩ : MethodName) prog_68_method_1_code 3 none :: ws) ({ frames := 1, cells := 0, slots := 0, locals := 12 } : Room)) (fun a U => a = #[(.ref t1), (.long u1)] ∧ Z.Warmed39 U.vm ∧ U.heap = h0) (fun _ _ _ _ _ => True) (fun _ U o U' => ∃ v L, o = .returned v ∧ QI Z t1 u1 h0 n0 v U'.heap L ∧ FrameEnd U o U' L ({ frames := 1, cells := 0, slots := 0, locals := 12 } : Room).cells ({ frames := 1, cells := 0, slots := 0, locals := 12 } : Room).slots) := by
  refine MetFree.of_bodySF (plainFor_of_name own_pn0) hisR ?_
  intro p e s m args below meth c s₁ Bd hml0 hP hK
  obtain ⟨rfl, hZ, hh⟩ := hP
  have hx := Bd.exec
  have hby := Bd.bytes
  have hml : c.maxLocals = 3 := hml0
  have hown : s.vm.findClass "com/example/cliquework/cliquework/random/SeededRandom" = some m.cls := findClass_of_methodNamed Bd.named
  have hnm := (name_of_methodNamed Bd.named Bd.method).1
  have hlk := Bd.notSynchronized
  have hret := Bd.returns
  have X0 : Stand p l e ({ frames := 1, cells := 0, slots := 0, locals := 12 } : Room) s m #[(.ref t1), (.long u1)] below meth c s₁ [] 0 0 := Stand.of_body Bd
  have e0 : s₁.heap = h0 := by rw [← hh, Bd.state]; rfl
  have N0 := Fr.nil n0
  have K0 : Keep h0 h0 [t1] := Keep.refl _ _
  show own_Run p e below s 0 0 (QI Z t1 u1 h0 n0) (s₁.setTop (entryFrame m #[(.ref t1), (.long u1)] 3))
  refine own_cast (efI m t1 u1) ?_
  show own_Run p e below s _ _ _ (s₁.setTop (mkF m 0 #[.val (.ref t1), .val (.long u1), .second] []))
  refine own_of (fun _ hh_ => XS.aloadN X0.here hx rfl (hb hby dI_0) rfl rfl hh_) ?_
  show own_Run p e below s _ _ _ (s₁.setTop (mkF m 1 #[.val (.ref t1), .val (.long u1), .second] [(.ref t1)]))
  obtain ⟨T1, X1, e1, st1⟩ := initO X0 hx hZ hown (hw _ (List.mem_of_getElem? (i := 6) rfl)) (hw _ (List.mem_of_getElem? (i := 7) rfl)) (hw _ (List.mem_of_getElem? (i := 8) rfl)) e0 (g := (mkF m 1 #[.val (.ref t1), .val (.long u1), .second] [(.ref t1)])) rfl (by rw [hml]; rfl) rfl (hb hby dI_1) (by decide) (W := 0) (by show 2 * 0 + _ ≤ _; exact Nat.le_of_eq rfl) (by decide)
  refine own_of st1 ?_
  show own_Run p e below s _ _ _ (T1.setTop (mkF m 4 #[.val (.ref t1), .val (.long u1), .second] []))
  refine own_of (fun _ hh_ => XS.aloadN X1.here hx rfl (hb hby dI_4) rfl rfl hh_) ?_
  show own_Run p e below s _ _ _ (T1.setTop (mkF m 5 #[.val (.ref t1), .val (.long u1), .second] [(.ref t1)]))
  refine own_of (fun _ hh_ => XS.lloadN X1.here hx rfl (hb hby dI_5) rfl hh_) ?_
  show own_Run p e below s _ _ _ (T1.setTop (mkF m 6 #[.val (.ref t1), .val (.long u1), .second] [(.long u1), (.ref t1)]))
  obtain ⟨T2, h2, X2, e2, W2, st2⟩ := putF X1 hx hZ hown (host := "") (Or.inl (hw _ (List.mem_of_getElem? (i := 9) rfl))) Via.refl e1 Fs Ex (Or.inl (hw _ (List.mem_of_getElem? (i := 10) rfl))) (hw _ (List.mem_of_getElem? (i := 1) rfl)) (ty := .long) (by decide) rfl rfl (g := (mkF m 6 #[.val (.ref t1), .val (.long u1), .second] [(.long u1), (.ref t1)])) rfl rfl (hb hby dI_6)
  have f2 := Fs.same W2
  have N2 := Fr.snoc X2 N0 g_t1
  have f3 := Ex.wr W2
  have K4 := K0.wr W2 (Or.inl (List.mem_of_getElem? (i := 0) rfl))
  refine own_of st2 ?_
  show own_Run p e below s _ _ _ (T2.setTop (mkF m 9 #[.val (.ref t1), .val (.long u1), .second] []))
  exact own_retV X2 hx hret hlk (hb hby dI_9) (by rw [e2]; exact ⟨rfl, N2, K4, f2⟩) (by decide) (by decide)
theorem dN_0 : decode prog_68_method_2_code 0 = .ok (.aload_n 0, 1) := by decide +kernel
theorem dN_1 : decode prog_68_method_2_code 1 = .ok (.dup, 1) := by decide +kernel
theorem dN_2 : decode prog_68_method_2_code 2 = .ok (.getfield 7, 3) := by decide +kernel
theorem dN_5 : decode prog_68_method_2_code 5 = .ok (.ldc2_w 13, 3) := by decide +kernel
theorem dN_8 : decode prog_68_method_2_code 8 = .ok (.ladd, 1) := by decide +kernel
theorem dN_9 : decode prog_68_method_2_code 9 = .ok (.putfield 7, 3) := by decide +kernel
theorem dN_12 : decode prog_68_method_2_code 12 = .ok (.aload_n 0, 1) := by decide +kernel
theorem dN_13 : decode prog_68_method_2_code 13 = .ok (.getfield 7, 3) := by decide +kernel
theorem dN_16 : decode prog_68_method_2_code 16 = .ok (.lstore_n 1, 1) := by decide +kernel
theorem dN_17 : decode prog_68_method_2_code 17 = .ok (.lload_n 1, 1) := by decide +kernel
theorem dN_18 : decode prog_68_method_2_code 18 = .ok (.lload_n 1, 1) := by decide +kernel
theorem dN_19 : decode prog_68_method_2_code 19 = .ok (.bipush 30, 2) := by decide +kernel
theorem dN_21 : decode prog_68_method_2_code 21 = .ok (.lushr, 1) := by decide +kernel
theorem dN_22 : decode prog_68_method_2_code 22 = .ok (.lxor, 1) := by decide +kernel
theorem dN_23 : decode prog_68_method_2_code 23 = .ok (.ldc2_w 15, 3) := by decide +kernel
theorem dN_26 : decode prog_68_method_2_code 26 = .ok (.lmul, 1) := by decide +kernel
theorem dN_27 : decode prog_68_method_2_code 27 = .ok (.lstore_n 1, 1) := by decide +kernel
theorem dN_28 : decode prog_68_method_2_code 28 = .ok (.lload_n 1, 1) := by decide +kernel
theorem dN_29 : decode prog_68_method_2_code 29 = .ok (.lload_n 1, 1) := by decide +kernel
theorem dN_30 : decode prog_68_method_2_code 30 = .ok (.bipush 27, 2) := by decide +kernel
theorem dN_32 : decode prog_68_method_2_code 32 = .ok (.lushr, 1) := by decide +kernel
theorem dN_33 : decode prog_68_method_2_code 33 = .ok (.lxor, 1) := by decide +kernel
theorem dN_34 : decode prog_68_method_2_code 34 = .ok (.ldc2_w 17, 3) := by decide +kernel
theorem dN_37 : decode prog_68_method_2_code 37 = .ok (.lmul, 1) := by decide +kernel
theorem dN_38 : decode prog_68_method_2_code 38 = .ok (.lstore_n 1, 1) := by decide +kernel
theorem dN_39 : decode prog_68_method_2_code 39 = .ok (.lload_n 1, 1) := by decide +kernel
theorem dN_40 : decode prog_68_method_2_code 40 = .ok (.lload_n 1, 1) := by decide +kernel
theorem dN_41 : decode prog_68_method_2_code 41 = .ok (.bipush 31, 2) := by decide +kernel
theorem dN_43 : decode prog_68_method_2_code 43 = .ok (.lushr, 1) := by decide +kernel
theorem dN_44 : decode prog_68_method_2_code 44 = .ok (.lxor, 1) := by decide +kernel
theorem dN_45 : decode prog_68_method_2_code 45 = .ok (.lreturn, 1) := by decide +kernel
theorem efN (m : MethodId) (t1 : Addr) : entryFrame m #[(.ref t1)] 3 = mkF m 0 #[.val (.ref t1), .unset, .unset] [] := by first | (simp [entryFrame, mkF, argsToLocals, Value.category]; done) | rfl
def QN (Z : State) (t1 : Addr) (w : Int64) (h0 : Heap) (n0 : Nat) (v : Option Value) (h : Heap) (L : List Loc) : Prop := v = some (.long (own_mix (w + (-7046029254386353131 : Int64)))) ∧ Fr n0 L ∧ Keep h0 h [t1] ∧ Fld Z h t1 "com/example/cliquework/cliquework/random/SeededRandom" "state" "J" (.long (w + (-7046029254386353131 : Int64)))
set_option maxRecDepth 65536 in
set_option maxHeartbeats 40000000 in
theorem rmN (l : Launch) (Z : State) (a0 : Array Value) (hw : ∀ d ∈ tables_1, d.before a0 Z = true) (ws : List Jvm.Cond) (t1 : Addr) (w : Int64) (h0 : Heap) (n0 : Nat) (Z0 : n0 ≤ h0.size) (Ex : Exa Z h0 t1 "com/example/cliquework/cliquework/random/SeededRandom") (Fs : Fld Z h0 t1 "com/example/cliquework/cliquework/random/SeededRandom" "state" "J" (.long w)) (g_t1 : n0 ≤ t1) :
    MetFree l (⟨"com/example/cliquework/cliquework/random/SeededRandom", "nextLong", "()J"⟩ : MethodName) (head1 (Jvm.Cond.code (⟨"com/example/cliquework/cliquework/random/SeededRandom", "nextLong", "()J"⟩ : MethodName) prog_68_method_2_code 3 (some .long) :: ws) ({ frames := 0, cells := 0, slots := 0, locals := 0 } : Room)) (fun a U => a = #[(.ref t1)] ∧ Z.Warmed39 U.vm ∧ U.heap = h0) (fun _ _ _ _ _ => True) (fun _ U o U' => ∃ v L, o = .returned v ∧ QN Z t1 w h0 n0 v U'.heap L ∧ FrameEnd U o U' L ({ frames := 0, cells := 0, slots := 0, locals := 0 } : Room).cells ({ frames := 0, cells := 0, slots := 0, locals := 0 } : Room).slots) := by
  refine MetFree.of_bodySF (plainFor_of_name own_pn0) hisR ?_
  intro p e s m args below meth c s₁ Bd hml0 hP hK
  obtain ⟨rfl, hZ, hh⟩ := hP
  have hx := Bd.exec
  have hby := Bd.bytes
  have hml : c.maxLocals = 3 := hml0
  have hown : s.vm.findClass "com/example/cliquework/cliquework/random/SeededRandom" = some m.cls := findClass_of_methodNamed Bd.named
  have hnm := (name_of_methodNamed Bd.named Bd.method).1
  have hlk := Bd.notSynchronized
  have hret := Bd.returns
  have X0 : Stand p l e ({ frames := 0, cells := 0, slots := 0, locals := 0 } : Room) s m #[(.ref t1)] below meth c s₁ [] 0 0 := Stand.of_body Bd
  have e0 : s₁.heap = h0 := by rw [← hh, Bd.state]; rfl
  have N0 := Fr.nil n0
  have K0 : Keep h0 h0 [t1] := Keep.refl _ _
  show own_Run p e below s 0 0 (QN Z t1 w h0 n0) (s₁.setTop (entryFrame m #[(.ref t1)] 3))
  refine own_cast (efN m t1) ?_
  show own_Run p e below s _ _ _ (s₁.setTop (mkF m 0 #[.val (.ref t1), .unset, .unset] []))
  refine own_of (fun _ hh_ => XS.aloadN X0.here hx rfl (hb hby dN_0) rfl rfl hh_) ?_
  show own_Run p e below s _ _ _ (s₁.setTop (mkF m 1 #[.val (.ref t1), .unset, .unset] [(.ref t1)]))
  refine own_of (fun _ hh_ => XS.dup X0.here hx rfl (hb hby dN_1) rfl rfl hh_) ?_
  show own_Run p e below s _ _ _ (s₁.setTop (mkF m 2 #[.val (.ref t1), .unset, .unset] [(.ref t1), (.ref t1)]))
  obtain ⟨T1, X1, e1, st1⟩ := getF X0 hx hZ hown (host := "") (Or.inl (hw _ (List.mem_of_getElem? (i := 9) rfl))) Via.refl e0 Fs (g := (mkF m 2 #[.val (.ref t1), .unset, .unset] [(.ref t1), (.ref t1)])) rfl rfl (hb hby dN_2)
  refine own_of st1 ?_
  show own_Run p e below s _ _ _ (T1.setTop (mkF m 5 #[.val (.ref t1), .unset, .unset] [(.long w), (.ref t1)]))
  refine own_of (X1.ldc2Long hx hown (mvT hZ (hw _ (List.mem_of_getElem? (i := 16) rfl))) (g := (mkF m 5 #[.val (.ref t1), .unset, .unset] [(.long w), (.ref t1)])) rfl (hb hby dN_5)) ?_
  show own_Run p e below s _ _ _ (T1.setTop (mkF m 8 #[.val (.ref t1), .unset, .unset] [(.long (-7046029254386353131 : Int64)), (.long w), (.ref t1)]))
  refine own_of (fun _ hh_ => XS.ladd X1.here hx rfl (hb hby dN_8) rfl hh_) ?_
  show own_Run p e below s _ _ _ (T1.setTop (mkF m 9 #[.val (.ref t1), .unset, .unset] [(.long (w + (-7046029254386353131 : Int64))), (.ref t1)]))
  obtain ⟨T2, h2, X2, e2, W2, st2⟩ := putF X1 hx hZ hown (host := "") (Or.inl (hw _ (List.mem_of_getElem? (i := 9) rfl))) Via.refl e1 Fs Ex (Or.inl (hw _ (List.mem_of_getElem? (i := 10) rfl))) (hw _ (List.mem_of_getElem? (i := 1) rfl)) (ty := .long) (by decide) rfl rfl (g := (mkF m 9 #[.val (.ref t1), .unset, .unset] [(.long (w + (-7046029254386353131 : Int64))), (.ref t1)])) rfl rfl (hb hby dN_9)
  have f2 := Fs.same W2
  have N2 := Fr.snoc X2 N0 g_t1
  have f3 := Ex.wr W2
  have K4 := K0.wr W2 (Or.inl (List.mem_of_getElem? (i := 0) rfl))
  refine own_of st2 ?_
  show own_Run p e below s _ _ _ (T2.setTop (mkF m 12 #[.val (.ref t1), .unset, .unset] []))
  refine own_of (fun _ hh_ => XS.aloadN X2.here hx rfl (hb hby dN_12) rfl rfl hh_) ?_
  show own_Run p e below s _ _ _ (T2.setTop (mkF m 13 #[.val (.ref t1), .unset, .unset] [(.ref t1)]))
  obtain ⟨T5, X5, e5, st5⟩ := getF X2 hx hZ hown (host := "") (Or.inl (hw _ (List.mem_of_getElem? (i := 9) rfl))) Via.refl e2 f2 (g := (mkF m 13 #[.val (.ref t1), .unset, .unset] [(.ref t1)])) rfl rfl (hb hby dN_13)
  refine own_of st5 ?_
  show own_Run p e below s _ _ _ (T5.setTop (mkF m 16 #[.val (.ref t1), .unset, .unset] [(.long (w + (-7046029254386353131 : Int64)))]))
  generalize hza : (w + (-7046029254386353131 : Int64)) = za
  show own_Run p e below s _ _ _ (T5.setTop (mkF m 16 #[.val (.ref t1), .unset, .unset] [(.long za)]))
  refine own_of (fun _ hh_ => XS.lstoreN X5.here hx rfl (hb hby dN_16) rfl (l' := #[.val (.ref t1), .val (.long za), .second]) rfl hh_) ?_
  show own_Run p e below s _ _ _ (T5.setTop (mkF m 17 #[.val (.ref t1), .val (.long za), .second] []))
  refine own_of (fun _ hh_ => XS.lloadN X5.here hx rfl (hb hby dN_17) rfl hh_) ?_
  show own_Run p e below s _ _ _ (T5.setTop (mkF m 18 #[.val (.ref t1), .val (.long za), .second] [(.long za)]))
  refine own_of (fun _ hh_ => XS.lloadN X5.here hx rfl (hb hby dN_18) rfl hh_) ?_
  show own_Run p e below s _ _ _ (T5.setTop (mkF m 19 #[.val (.ref t1), .val (.long za), .second] [(.long za), (.long za)]))
  refine own_of (fun _ hh_ => XS.bipush X5.here hx rfl (hb hby dN_19) hh_) ?_
  show own_Run p e below s _ _ _ (T5.setTop (mkF m 21 #[.val (.ref t1), .val (.long za), .second] [(.int (30 : Int32)), (.long za), (.long za)]))
  refine own_of (fun _ hh_ => XS.lushr X5.here hx rfl (hb hby dN_21) rfl hh_) ?_
  show own_Run p e below s _ _ _ (T5.setTop (mkF m 22 #[.val (.ref t1), .val (.long za), .second] [(.long ((za.toUInt64 >>> ((30 : Int32) &&& 0x3f).toInt64.toUInt64).toInt64)), (.long za)]))
  refine own_of (fun _ hh_ => XS.lxor X5.here hx rfl (hb hby dN_22) rfl hh_) ?_
  show own_Run p e below s _ _ _ (T5.setTop (mkF m 23 #[.val (.ref t1), .val (.long za), .second] [(.long (za ^^^ ((za.toUInt64 >>> ((30 : Int32) &&& 0x3f).toInt64.toUInt64).toInt64)))]))
  refine own_of (X5.ldc2Long hx hown (mvT hZ (hw _ (List.mem_of_getElem? (i := 17) rfl))) (g := (mkF m 23 #[.val (.ref t1), .val (.long za), .second] [(.long (za ^^^ ((za.toUInt64 >>> ((30 : Int32) &&& 0x3f).toInt64.toUInt64).toInt64)))])) rfl (hb hby dN_23)) ?_
  show own_Run p e below s _ _ _ (T5.setTop (mkF m 26 #[.val (.ref t1), .val (.long za), .second] [(.long (-4658895280553007687 : Int64)), (.long (za ^^^ ((za.toUInt64 >>> ((30 : Int32) &&& 0x3f).toInt64.toUInt64).toInt64)))]))
  refine own_of (fun _ hh_ => XS.lmul X5.here hx rfl (hb hby dN_26) rfl hh_) ?_
  show own_Run p e below s _ _ _ (T5.setTop (mkF m 27 #[.val (.ref t1), .val (.long za), .second] [(.long ((za ^^^ ((za.toUInt64 >>> ((30 : Int32) &&& 0x3f).toInt64.toUInt64).toInt64)) * (-4658895280553007687 : Int64)))]))
  generalize hzb : ((za ^^^ ((za.toUInt64 >>> ((30 : Int32) &&& 0x3f).toInt64.toUInt64).toInt64)) * (-4658895280553007687 : Int64)) = zb
  show own_Run p e below s _ _ _ (T5.setTop (mkF m 27 #[.val (.ref t1), .val (.long za), .second] [(.long zb)]))
  refine own_of (fun _ hh_ => XS.lstoreN X5.here hx rfl (hb hby dN_27) rfl (l' := #[.val (.ref t1), .val (.long zb), .second]) rfl hh_) ?_
  show own_Run p e below s _ _ _ (T5.setTop (mkF m 28 #[.val (.ref t1), .val (.long zb), .second] []))
  refine own_of (fun _ hh_ => XS.lloadN X5.here hx rfl (hb hby dN_28) rfl hh_) ?_
  show own_Run p e below s _ _ _ (T5.setTop (mkF m 29 #[.val (.ref t1), .val (.long zb), .second] [(.long zb)]))
  refine own_of (fun _ hh_ => XS.lloadN X5.here hx rfl (hb hby dN_29) rfl hh_) ?_
  show own_Run p e below s _ _ _ (T5.setTop (mkF m 30 #[.val (.ref t1), .val (.long zb), .second] [(.long zb), (.long zb)]))
  refine own_of (fun _ hh_ => XS.bipush X5.here hx rfl (hb hby dN_30) hh_) ?_
  show own_Run p e below s _ _ _ (T5.setTop (mkF m 32 #[.val (.ref t1), .val (.long zb), .second] [(.int (27 : Int32)), (.long zb), (.long zb)]))
  refine own_of (fun _ hh_ => XS.lushr X5.here hx rfl (hb hby dN_32) rfl hh_) ?_
  show own_Run p e below s _ _ _ (T5.setTop (mkF m 33 #[.val (.ref t1), .val (.long zb), .second] [(.long ((zb.toUInt64 >>> ((27 : Int32) &&& 0x3f).toInt64.toUInt64).toInt64)), (.long zb)]))
  refine own_of (fun _ hh_ => XS.lxor X5.here hx rfl (hb hby dN_33) rfl hh_) ?_
  show own_Run p e below s _ _ _ (T5.setTop (mkF m 34 #[.val (.ref t1), .val (.long zb), .second] [(.long (zb ^^^ ((zb.toUInt64 >>> ((27 : Int32) &&& 0x3f).toInt64.toUInt64).toInt64)))]))
  refine own_of (X5.ldc2Long hx hown (mvT hZ (hw _ (List.mem_of_getElem? (i := 18) rfl))) (g := (mkF m 34 #[.val (.ref t1), .val (.long zb), .second] [(.long (zb ^^^ ((zb.toUInt64 >>> ((27 : Int32) &&& 0x3f).toInt64.toUInt64).toInt64)))])) rfl (hb hby dN_34)) ?_
  show own_Run p e below s _ _ _ (T5.setTop (mkF m 37 #[.val (.ref t1), .val (.long zb), .second] [(.long (-7723592293110705685 : Int64)), (.long (zb ^^^ ((zb.toUInt64 >>> ((27 : Int32) &&& 0x3f).toInt64.toUInt64).toInt64)))]))
  refine own_of (fun _ hh_ => XS.lmul X5.here hx rfl (hb hby dN_37) rfl hh_) ?_
  show own_Run p e below s _ _ _ (T5.setTop (mkF m 38 #[.val (.ref t1), .val (.long zb), .second] [(.long ((zb ^^^ ((zb.toUInt64 >>> ((27 : Int32) &&& 0x3f).toInt64.toUInt64).toInt64)) * (-7723592293110705685 : Int64)))]))
  generalize hzc : ((zb ^^^ ((zb.toUInt64 >>> ((27 : Int32) &&& 0x3f).toInt64.toUInt64).toInt64)) * (-7723592293110705685 : Int64)) = zc
  show own_Run p e below s _ _ _ (T5.setTop (mkF m 38 #[.val (.ref t1), .val (.long zb), .second] [(.long zc)]))
  refine own_of (fun _ hh_ => XS.lstoreN X5.here hx rfl (hb hby dN_38) rfl (l' := #[.val (.ref t1), .val (.long zc), .second]) rfl hh_) ?_
  show own_Run p e below s _ _ _ (T5.setTop (mkF m 39 #[.val (.ref t1), .val (.long zc), .second] []))
  refine own_of (fun _ hh_ => XS.lloadN X5.here hx rfl (hb hby dN_39) rfl hh_) ?_
  show own_Run p e below s _ _ _ (T5.setTop (mkF m 40 #[.val (.ref t1), .val (.long zc), .second] [(.long zc)]))
  refine own_of (fun _ hh_ => XS.lloadN X5.here hx rfl (hb hby dN_40) rfl hh_) ?_
  show own_Run p e below s _ _ _ (T5.setTop (mkF m 41 #[.val (.ref t1), .val (.long zc), .second] [(.long zc), (.long zc)]))
  refine own_of (fun _ hh_ => XS.bipush X5.here hx rfl (hb hby dN_41) hh_) ?_
  show own_Run p e below s _ _ _ (T5.setTop (mkF m 43 #[.val (.ref t1), .val (.long zc), .second] [(.int (31 : Int32)), (.long zc), (.long zc)]))
  refine own_of (fun _ hh_ => XS.lushr X5.here hx rfl (hb hby dN_43) rfl hh_) ?_
  show own_Run p e below s _ _ _ (T5.setTop (mkF m 44 #[.val (.ref t1), .val (.long zc), .second] [(.long ((zc.toUInt64 >>> ((31 : Int32) &&& 0x3f).toInt64.toUInt64).toInt64)), (.long zc)]))
  refine own_of (fun _ hh_ => XS.lxor X5.here hx rfl (hb hby dN_44) rfl hh_) ?_
  show own_Run p e below s _ _ _ (T5.setTop (mkF m 45 #[.val (.ref t1), .val (.long zc), .second] [(.long (zc ^^^ ((zc.toUInt64 >>> ((31 : Int32) &&& 0x3f).toInt64.toUInt64).toInt64)))]))
  exact own_retJ X5 hx hret hlk (hb hby dN_45) (by rw [e5]; exact ⟨by rw [← hzc, ← hzb, ← hza]; rfl, N2, K4, f2⟩) (by decide) (by decide)
theorem own_pd0 : parseMethodDescriptor "(J)V" = some ⟨[.long], none⟩ := by decide +kernel
theorem own_pd1 : parseMethodDescriptor "()J" = some ⟨[], some .long⟩ := by decide +kernel
theorem own_pn1 : plainName "com/example/cliquework/cliquework/random/SeededRandomNextLongPinLaw" = true := by first | (simp [plainName, overriddenIn]; done) | decide +kernel
theorem ef0 (m : MethodId) (sd : Int64) : entryFrame m #[(.long sd)] maxLocals = mkF m 0 #[.val (.long sd), .second, .unset, .unset, .unset, .unset, .unset, .unset, .unset, .unset, .unset, .unset, .unset, .unset, .unset, .unset, .unset, .unset, .unset, .unset] [] := by first | (simp [entryFrame, mkF, argsToLocals, Value.category, maxLocals]; done) | rfl
def Q0 (Z : State) (sd : Int64) (h0 : Heap) (n0 : Nat) (v : Option Value) (h : Heap) (L : List Loc) : Prop := v = some (.int 1) ∧ Fr n0 L
set_option maxRecDepth 65536 in
set_option maxHeartbeats 40000000 in
theorem rm0 (l : Launch) (Z : State) (a0 : Array Value) (hw : ∀ d ∈ tables_1, d.before a0 Z = true) (ws : List Jvm.Cond) (sd : Int64) (h0 : Heap) (n0 : Nat) (Z0 : n0 ≤ h0.size)  :
    MetFree l x (head1 (Jvm.Cond.code x code maxLocals ret :: ws) room_1) (fun a U => a = #[(.long sd)] ∧ Z.Warmed39 U.vm ∧ U.heap = h0) (fun _ _ _ _ _ => True) (fun _ U o U' => ∃ v L, o = .returned v ∧ Q0 Z sd h0 n0 v U'.heap L ∧ FrameEnd U o U' L 16 128) := by
  refine MetFree.of_bodySF (plainFor_of_name own_pn1) hisR ?_
  intro p e s m args below meth c s₁ Bd hml0 hP hK
  obtain ⟨rfl, hZ, hh⟩ := hP
  have hx := Bd.exec
  have hby := Bd.bytes
  have hml : c.maxLocals = 20 := hml0
  have hown : s.vm.findClass "com/example/cliquework/cliquework/random/SeededRandomNextLongPinLaw" = some m.cls := findClass_of_methodNamed Bd.named
  have hnm := (name_of_methodNamed Bd.named Bd.method).1
  have hlk := Bd.notSynchronized
  have hret := Bd.returns
  have X0 : Stand p l e room_1 s m #[(.long sd)] below meth c s₁ [] 0 0 := Stand.of_body Bd
  have e0 : s₁.heap = h0 := by rw [← hh, Bd.state]; rfl
  have N0 := Fr.nil n0
  show own_Run p e below s 16 128 (Q0 Z sd h0 n0) (s₁.setTop (entryFrame m #[(.long sd)] maxLocals))
  refine own_cast (ef0 m sd) ?_
  show own_Run p e below s _ _ _ (s₁.setTop (mkF m 0 #[.val (.long sd), .second, .unset, .unset, .unset, .unset, .unset, .unset, .unset, .unset, .unset, .unset, .unset, .unset, .unset, .unset, .unset, .unset, .unset, .unset] []))
  obtain ⟨T1, h1, X1, e1, E1, A1, D1, -, st1⟩ := newO X0 hx hZ hown (hw _ (List.mem_of_getElem? (i := 0) rfl)) (hw _ (List.mem_of_getElem? (i := 1) rfl)) (hw _ (List.mem_of_getElem? (i := 2) rfl)) e0 (g := (mkF m 0 #[.val (.long sd), .second, .unset, .unset, .unset, .unset, .unset, .unset, .unset, .unset, .unset, .unset, .unset, .unset, .unset, .unset, .unset, .unset, .unset, .unset] [])) rfl (hb hby at_0) (by decide) (by decide)
  obtain ⟨ob1, g1⟩ : ∃ z, z = h0.size := ⟨_, rfl⟩
  rw [← g1] at A1 D1 st1
  have g_ob1 : n0 ≤ ob1 := Nat.le_trans Z0 (Nat.le_of_eq g1.symm)
  have f2 : Fld Z h1 ob1 "com/example/cliquework/cliquework/random/SeededRandom" "state" "J" (.long (0 : Int64)) := D1 (Or.inl (hw _ (List.mem_of_getElem? (i := 10) rfl))) (ty := .long) (by decide)
  refine own_of st1 ?_
  show own_Run p e below s _ _ _ (T1.setTop (mkF m 3 #[.val (.long sd), .second, .unset, .unset, .unset, .unset, .unset, .unset, .unset, .unset, .unset, .unset, .unset, .unset, .unset, .unset, .unset, .unset, .unset, .unset] [(.ref ob1)]))
  refine own_of (fun _ hh_ => XS.dup X1.here hx rfl (hb hby at_3) rfl rfl hh_) ?_
  show own_Run p e below s _ _ _ (T1.setTop (mkF m 4 #[.val (.long sd), .second, .unset, .unset, .unset, .unset, .unset, .unset, .unset, .unset, .unset, .unset, .unset, .unset, .unset, .unset, .unset, .unset, .unset, .unset] [(.ref ob1), (.ref ob1)]))
  refine own_of (fun _ hh_ => XS.lloadN X1.here hx rfl (hb hby at_4) rfl hh_) ?_
  show own_Run p e below s _ _ _ (T1.setTop (mkF m 5 #[.val (.long sd), .second, .unset, .unset, .unset, .unset, .unset, .unset, .unset, .unset, .unset, .unset, .unset, .unset, .unset, .unset, .unset, .unset, .unset, .unset] [(.long sd), (.ref ob1), (.ref ob1)]))
  obtain ⟨_, _, ⟨T3, L3, k3, n3⟩, -, X3, ⟨Lc3, hQ3, l3, y3, z3⟩, st3⟩ := X1.specialBack hx (y := (⟨"com/example/cliquework/cliquework/random/SeededRandom", "<init>", "(J)V"⟩ : MethodName)) rfl hown (mvT hZ (hw _ (List.mem_of_getElem? (i := 3) rfl))) (mvT hZ (hw _ (List.mem_of_getElem? (i := 4) rfl))) (mvT hZ (hw _ (List.mem_of_getElem? (i := 5) rfl))) (by decide) (backOf (W := 1) (rmI l Z a0 hw [] ob1 sd h1 n0 (Nat.le_trans Z0 E1.1) A1 f2 g_ob1) hZ (hw _ (List.mem_of_getElem? (i := 5) rfl)) (hw _ (List.mem_of_getElem? (i := 2) rfl)) (by decide) (by decide)) (g := (mkF m 5 #[.val (.long sd), .second, .unset, .unset, .unset, .unset, .unset, .unset, .unset, .unset, .unset, .unset, .unset, .unset, .unset, .unset, .unset, .unset, .unset, .unset] [(.long sd), (.ref ob1), (.ref ob1)])) rfl (by rw [hml]; rfl) (Steps.refl _) (a := ob1) (argsL := [(.long sd)]) (rest := [(.ref ob1)]) (lenOf own_pd0 rfl) rfl (by show 2 * 0 + _ ≤ _; exact Nat.le_of_eq rfl) (hb hby at_5) (fun _ _ => ⟨rfl, e1, (by decide : 1 + 0 ≤ _), (by decide : 1 + 0 ≤ _)⟩)
  dsimp only [Pt.U, Pt.locs, Pt.cells, Pt.slots] at X3 l3 y3 z3 st3 hQ3
  subst l3 y3 z3
  obtain ⟨rfl, N3q, K3, fs3⟩ := hQ3
  have N3 := Fr.app N0 N3q
  have f4 := A1.keep K3
  refine own_tr st3 ?_
  show own_Run p e below s _ _ _ (T3.setTop (mkF m 8 #[.val (.long sd), .second, .unset, .unset, .unset, .unset, .unset, .unset, .unset, .unset, .unset, .unset, .unset, .unset, .unset, .unset, .unset, .unset, .unset, .unset] [(.ref ob1)]))
  refine own_of (fun _ hh_ => XS.astoreN X3.here hx rfl (hb hby at_8) rfl rfl (l' := #[.val (.long sd), .second, .val (.ref ob1), .unset, .unset, .unset, .unset, .unset, .unset, .unset, .unset, .unset, .unset, .unset, .unset, .unset, .unset, .unset, .unset, .unset]) rfl hh_) ?_
  show own_Run p e below s _ _ _ (T3.setTop (mkF m 9 #[.val (.long sd), .second, .val (.ref ob1), .unset, .unset, .unset, .unset, .unset, .unset, .unset, .unset, .unset, .unset, .unset, .unset, .unset, .unset, .unset, .unset, .unset] []))
  refine own_of (fun _ hh_ => XS.aloadN X3.here hx rfl (hb hby at_9) rfl rfl hh_) ?_
  show own_Run p e below s _ _ _ (T3.setTop (mkF m 10 #[.val (.long sd), .second, .val (.ref ob1), .unset, .unset, .unset, .unset, .unset, .unset, .unset, .unset, .unset, .unset, .unset, .unset, .unset, .unset, .unset, .unset, .unset] [(.ref ob1)]))
  obtain ⟨cq5, kq5, q5a, q5b, q5c⟩ := isOf hZ (rfl : T3.heap = T3.heap) f4
  obtain ⟨_, _, ⟨T5, L5, k5, n5⟩, -, X5, ⟨Lc5, hQ5, l5, y5, z5⟩, st5⟩ := X3.virtualBack hx (y := (⟨"com/example/cliquework/cliquework/random/SeededRandom", "nextLong", "()J"⟩ : MethodName)) (z := (⟨"com/example/cliquework/cliquework/random/SeededRandom", "nextLong", "()J"⟩ : MethodName)) hown (mvT hZ (hw _ (List.mem_of_getElem? (i := 11) rfl))) (mvT hZ (hw _ (List.mem_of_getElem? (i := 12) rfl))) (notFace_of_selects (args := #[]) (mvT hZ (hw _ (List.mem_of_getElem? (i := 14) rfl)))) (mvT hZ (hw _ (List.mem_of_getElem? (i := 14) rfl))) (mvT hZ (hw _ (List.mem_of_getElem? (i := 13) rfl))) (by decide) (backOf (W := 0) (rmN l Z a0 hw [] ob1 sd T3.heap n0 (Nat.le_trans (Nat.le_trans Z0 E1.1) K3.1) f4 fs3 g_ob1) hZ (hw _ (List.mem_of_getElem? (i := 15) rfl)) (hw _ (List.mem_of_getElem? (i := 2) rfl)) (by decide) (by decide)) q5a q5c (g := (mkF m 10 #[.val (.long sd), .second, .val (.ref ob1), .unset, .unset, .unset, .unset, .unset, .unset, .unset, .unset, .unset, .unset, .unset, .unset, .unset, .unset, .unset, .unset, .unset] [(.ref ob1)])) rfl (by rw [hml]; rfl) (Steps.refl _) (argsL := []) (rest := []) (lenOf own_pd1 rfl) rfl (by show 2 * 0 + _ ≤ _; exact Nat.le_of_eq rfl) (hb hby at_10) (fun _ _ => ⟨rfl, (rfl : T3.heap = T3.heap), (by decide : 1 + 0 ≤ _), (by decide : 1 + 0 ≤ _)⟩)
  dsimp only [Pt.U, Pt.locs, Pt.cells, Pt.slots] at X5 l5 y5 z5 st5 hQ5
  subst l5 y5 z5
  obtain ⟨rfl, N5q, K5, fs5⟩ := hQ5
  have N5 := Fr.app N3 N5q
  have f6 := f4.keep K5
  refine own_tr st5 ?_
  show own_Run p e below s _ _ _ (T5.setTop (mkF m 13 #[.val (.long sd), .second, .val (.ref ob1), .unset, .unset, .unset, .unset, .unset, .unset, .unset, .unset, .unset, .unset, .unset, .unset, .unset, .unset, .unset, .unset, .unset] [(.long (own_mix (sd + (-7046029254386353131 : Int64))))]))
  refine own_of (fun _ hh_ => XS.lstoreN X5.here hx rfl (hb hby at_13) rfl (l' := #[.val (.long sd), .second, .val (.ref ob1), .val (.long (own_mix (sd + (-7046029254386353131 : Int64)))), .second, .unset, .unset, .unset, .unset, .unset, .unset, .unset, .unset, .unset, .unset, .unset, .unset, .unset, .unset, .unset]) rfl hh_) ?_
  show own_Run p e below s _ _ _ (T5.setTop (mkF m 14 #[.val (.long sd), .second, .val (.ref ob1), .val (.long (own_mix (sd + (-7046029254386353131 : Int64)))), .second, .unset, .unset, .unset, .unset, .unset, .unset, .unset, .unset, .unset, .unset, .unset, .unset, .unset, .unset, .unset] []))
  refine own_of (fun _ hh_ => XS.aloadN X5.here hx rfl (hb hby at_14) rfl rfl hh_) ?_
  show own_Run p e below s _ _ _ (T5.setTop (mkF m 15 #[.val (.long sd), .second, .val (.ref ob1), .val (.long (own_mix (sd + (-7046029254386353131 : Int64)))), .second, .unset, .unset, .unset, .unset, .unset, .unset, .unset, .unset, .unset, .unset, .unset, .unset, .unset, .unset, .unset] [(.ref ob1)]))
  obtain ⟨cq7, kq7, q7a, q7b, q7c⟩ := isOf hZ (rfl : T5.heap = T5.heap) f6
  obtain ⟨_, _, ⟨T7, L7, k7, n7⟩, -, X7, ⟨Lc7, hQ7, l7, y7, z7⟩, st7⟩ := X5.virtualBack hx (y := (⟨"com/example/cliquework/cliquework/random/SeededRandom", "nextLong", "()J"⟩ : MethodName)) (z := (⟨"com/example/cliquework/cliquework/random/SeededRandom", "nextLong", "()J"⟩ : MethodName)) hown (mvT hZ (hw _ (List.mem_of_getElem? (i := 11) rfl))) (mvT hZ (hw _ (List.mem_of_getElem? (i := 12) rfl))) (notFace_of_selects (args := #[]) (mvT hZ (hw _ (List.mem_of_getElem? (i := 14) rfl)))) (mvT hZ (hw _ (List.mem_of_getElem? (i := 14) rfl))) (mvT hZ (hw _ (List.mem_of_getElem? (i := 13) rfl))) (by decide) (backOf (W := 0) (rmN l Z a0 hw [] ob1 (sd + (-7046029254386353131 : Int64)) T5.heap n0 (Nat.le_trans (Nat.le_trans (Nat.le_trans Z0 E1.1) K3.1) K5.1) f6 fs5 g_ob1) hZ (hw _ (List.mem_of_getElem? (i := 15) rfl)) (hw _ (List.mem_of_getElem? (i := 2) rfl)) (by decide) (by decide)) q7a q7c (g := (mkF m 15 #[.val (.long sd), .second, .val (.ref ob1), .val (.long (own_mix (sd + (-7046029254386353131 : Int64)))), .second, .unset, .unset, .unset, .unset, .unset, .unset, .unset, .unset, .unset, .unset, .unset, .unset, .unset, .unset, .unset] [(.ref ob1)])) rfl (by rw [hml]; rfl) (Steps.refl _) (argsL := []) (rest := []) (lenOf own_pd1 rfl) rfl (by show 2 * 0 + _ ≤ _; exact Nat.le_of_eq rfl) (hb hby at_15) (fun _ _ => ⟨rfl, (rfl : T5.heap = T5.heap), (by decide : 1 + 0 ≤ _), (by decide : 1 + 0 ≤ _)⟩)
  dsimp only [Pt.U, Pt.locs, Pt.cells, Pt.slots] at X7 l7 y7 z7 st7 hQ7
  subst l7 y7 z7
  obtain ⟨rfl, N7q, K7, fs7⟩ := hQ7
  have N7 := Fr.app N5 N7q
  have f8 := f6.keep K7
  refine own_tr st7 ?_
  show own_Run p e below s _ _ _ (T7.setTop (mkF m 18 #[.val (.long sd), .second, .val (.ref ob1), .val (.long (own_mix (sd + (-7046029254386353131 : Int64)))), .second, .unset, .unset, .unset, .unset, .unset, .unset, .unset, .unset, .unset, .unset, .unset, .unset, .unset, .unset, .unset] [(.long (own_mix ((sd + (-7046029254386353131 : Int64)) + (-7046029254386353131 : Int64))))]))
  refine own_of (fun _ hh_ => XS.lstore X7.here hx rfl (hb hby at_18) rfl (l' := #[.val (.long sd), .second, .val (.ref ob1), .val (.long (own_mix (sd + (-7046029254386353131 : Int64)))), .second, .val (.long (own_mix ((sd + (-7046029254386353131 : Int64)) + (-7046029254386353131 : Int64)))), .second, .unset, .unset, .unset, .unset, .unset, .unset, .unset, .unset, .unset, .unset, .unset, .unset, .unset]) rfl hh_) ?_
  show own_Run p e below s _ _ _ (T7.setTop (mkF m 20 #[.val (.long sd), .second, .val (.ref ob1), .val (.long (own_mix (sd + (-7046029254386353131 : Int64)))), .second, .val (.long (own_mix ((sd + (-7046029254386353131 : Int64)) + (-7046029254386353131 : Int64)))), .second, .unset, .unset, .unset, .unset, .unset, .unset, .unset, .unset, .unset, .unset, .unset, .unset, .unset] []))
  obtain ⟨T9, h9, X9, e9, E9, A9, D9, -, st9⟩ := newO X7 hx hZ hown (hw _ (List.mem_of_getElem? (i := 0) rfl)) (hw _ (List.mem_of_getElem? (i := 1) rfl)) (hw _ (List.mem_of_getElem? (i := 2) rfl)) (rfl : T7.heap = T7.heap) (g := (mkF m 20 #[.val (.long sd), .second, .val (.ref ob1), .val (.long (own_mix (sd + (-7046029254386353131 : Int64)))), .second, .val (.long (own_mix ((sd + (-7046029254386353131 : Int64)) + (-7046029254386353131 : Int64)))), .second, .unset, .unset, .unset, .unset, .unset, .unset, .unset, .unset, .unset, .unset, .unset, .unset, .unset] [])) rfl (hb hby at_20) (by decide) (by decide)
  obtain ⟨ob9, g9⟩ : ∃ z, z = T7.heap.size := ⟨_, rfl⟩
  rw [← g9] at A9 D9 st9
  have ne_ob1_ob9 : ob1 ≠ ob9 := Nat.ne_of_lt (Nat.lt_of_lt_of_le f8.lt (Nat.le_of_eq g9.symm))
  have g_ob9 : n0 ≤ ob9 := Nat.le_trans (Nat.le_trans (Nat.le_trans (Nat.le_trans (Nat.le_trans Z0 E1.1) K3.1) K5.1) K7.1) (Nat.le_of_eq g9.symm)
  have f10 := f8.ext E9
  have f11 := fs7.ext E9
  have f12 : Fld Z h9 ob9 "com/example/cliquework/cliquework/random/SeededRandom" "state" "J" (.long (0 : Int64)) := D9 (Or.inl (hw _ (List.mem_of_getElem? (i := 10) rfl))) (ty := .long) (by decide)
  refine own_of st9 ?_
  show own_Run p e below s _ _ _ (T9.setTop (mkF m 23 #[.val (.long sd), .second, .val (.ref ob1), .val (.long (own_mix (sd + (-7046029254386353131 : Int64)))), .second, .val (.long (own_mix ((sd + (-7046029254386353131 : Int64)) + (-7046029254386353131 : Int64)))), .second, .unset, .unset, .unset, .unset, .unset, .unset, .unset, .unset, .unset, .unset, .unset, .unset, .unset] [(.ref ob9)]))
  refine own_of (fun _ hh_ => XS.dup X9.here hx rfl (hb hby at_23) rfl rfl hh_) ?_
  show own_Run p e below s _ _ _ (T9.setTop (mkF m 24 #[.val (.long sd), .second, .val (.ref ob1), .val (.long (own_mix (sd + (-7046029254386353131 : Int64)))), .second, .val (.long (own_mix ((sd + (-7046029254386353131 : Int64)) + (-7046029254386353131 : Int64)))), .second, .unset, .unset, .unset, .unset, .unset, .unset, .unset, .unset, .unset, .unset, .unset, .unset, .unset] [(.ref ob9), (.ref ob9)]))
  refine own_of (fun _ hh_ => XS.lloadN X9.here hx rfl (hb hby at_24) rfl hh_) ?_
  show own_Run p e below s _ _ _ (T9.setTop (mkF m 25 #[.val (.long sd), .second, .val (.ref ob1), .val (.long (own_mix (sd + (-7046029254386353131 : Int64)))), .second, .val (.long (own_mix ((sd + (-7046029254386353131 : Int64)) + (-7046029254386353131 : Int64)))), .second, .unset, .unset, .unset, .unset, .unset, .unset, .unset, .unset, .unset, .unset, .unset, .unset, .unset] [(.long sd), (.ref ob9), (.ref ob9)]))
  refine own_of (X9.ldc2Long hx hown (mvT hZ (hw _ (List.mem_of_getElem? (i := 19) rfl))) (g := (mkF m 25 #[.val (.long sd), .second, .val (.ref ob1), .val (.long (own_mix (sd + (-7046029254386353131 : Int64)))), .second, .val (.long (own_mix ((sd + (-7046029254386353131 : Int64)) + (-7046029254386353131 : Int64)))), .second, .unset, .unset, .unset, .unset, .unset, .unset, .unset, .unset, .unset, .unset, .unset, .unset, .unset] [(.long sd), (.ref ob9), (.ref ob9)])) rfl (hb hby at_25)) ?_
  show own_Run p e below s _ _ _ (T9.setTop (mkF m 28 #[.val (.long sd), .second, .val (.ref ob1), .val (.long (own_mix (sd + (-7046029254386353131 : Int64)))), .second, .val (.long (own_mix ((sd + (-7046029254386353131 : Int64)) + (-7046029254386353131 : Int64)))), .second, .unset, .unset, .unset, .unset, .unset, .unset, .unset, .unset, .unset, .unset, .unset, .unset, .unset] [(.long (-7046029254386353131 : Int64)), (.long sd), (.ref ob9), (.ref ob9)]))
  refine own_of (fun _ hh_ => XS.ladd X9.here hx rfl (hb hby at_28) rfl hh_) ?_
  show own_Run p e below s _ _ _ (T9.setTop (mkF m 29 #[.val (.long sd), .second, .val (.ref ob1), .val (.long (own_mix (sd + (-7046029254386353131 : Int64)))), .second, .val (.long (own_mix ((sd + (-7046029254386353131 : Int64)) + (-7046029254386353131 : Int64)))), .second, .unset, .unset, .unset, .unset, .unset, .unset, .unset, .unset, .unset, .unset, .unset, .unset, .unset] [(.long (sd + (-7046029254386353131 : Int64))), (.ref ob9), (.ref ob9)]))
  obtain ⟨_, _, ⟨T13, L13, k13, n13⟩, -, X13, ⟨Lc13, hQ13, l13, y13, z13⟩, st13⟩ := X9.specialBack hx (y := (⟨"com/example/cliquework/cliquework/random/SeededRandom", "<init>", "(J)V"⟩ : MethodName)) rfl hown (mvT hZ (hw _ (List.mem_of_getElem? (i := 3) rfl))) (mvT hZ (hw _ (List.mem_of_getElem? (i := 4) rfl))) (mvT hZ (hw _ (List.mem_of_getElem? (i := 5) rfl))) (by decide) (backOf (W := 1) (rmI l Z a0 hw [] ob9 (sd + (-7046029254386353131 : Int64)) h9 n0 (Nat.le_trans (Nat.le_trans (Nat.le_trans (Nat.le_trans (Nat.le_trans Z0 E1.1) K3.1) K5.1) K7.1) E9.1) A9 f12 g_ob9) hZ (hw _ (List.mem_of_getElem? (i := 5) rfl)) (hw _ (List.mem_of_getElem? (i := 2) rfl)) (by decide) (by decide)) (g := (mkF m 29 #[.val (.long sd), .second, .val (.ref ob1), .val (.long (own_mix (sd + (-7046029254386353131 : Int64)))), .second, .val (.long (own_mix ((sd + (-7046029254386353131 : Int64)) + (-7046029254386353131 : Int64)))), .second, .unset, .unset, .unset, .unset, .unset, .unset, .unset, .unset, .unset, .unset, .unset, .unset, .unset] [(.long (sd + (-7046029254386353131 : Int64))), (.ref ob9), (.ref ob9)])) rfl (by rw [hml]; rfl) (Steps.refl _) (a := ob9) (argsL := [(.long (sd + (-7046029254386353131 : Int64)))]) (rest := [(.ref ob9)]) (lenOf own_pd0 rfl) rfl (by show 2 * 0 + _ ≤ _; exact Nat.le_of_eq rfl) (hb hby at_29) (fun _ _ => ⟨rfl, e9, (by decide : 2 + 0 ≤ _), (by decide : 2 + 0 ≤ _)⟩)
  dsimp only [Pt.U, Pt.locs, Pt.cells, Pt.slots] at X13 l13 y13 z13 st13 hQ13
  subst l13 y13 z13
  obtain ⟨rfl, N13q, K13, fs13⟩ := hQ13
  have N13 := Fr.app N7 N13q
  have f14 := f10.keep K13
  have f15 := f11.keep K13 (ninS ne_ob1_ob9 nin0)
  have f16 := A9.keep K13
  refine own_tr st13 ?_
  show own_Run p e below s _ _ _ (T13.setTop (mkF m 32 #[.val (.long sd), .second, .val (.ref ob1), .val (.long (own_mix (sd + (-7046029254386353131 : Int64)))), .second, .val (.long (own_mix ((sd + (-7046029254386353131 : Int64)) + (-7046029254386353131 : Int64)))), .second, .unset, .unset, .unset, .unset, .unset, .unset, .unset, .unset, .unset, .unset, .unset, .unset, .unset] [(.ref ob9)]))
  refine own_of (fun _ hh_ => XS.astore X13.here hx rfl (hb hby at_32) rfl rfl (l' := #[.val (.long sd), .second, .val (.ref ob1), .val (.long (own_mix (sd + (-7046029254386353131 : Int64)))), .second, .val (.long (own_mix ((sd + (-7046029254386353131 : Int64)) + (-7046029254386353131 : Int64)))), .second, .val (.ref ob9), .unset, .unset, .unset, .unset, .unset, .unset, .unset, .unset, .unset, .unset, .unset, .unset]) rfl hh_) ?_
  show own_Run p e below s _ _ _ (T13.setTop (mkF m 34 #[.val (.long sd), .second, .val (.ref ob1), .val (.long (own_mix (sd + (-7046029254386353131 : Int64)))), .second, .val (.long (own_mix ((sd + (-7046029254386353131 : Int64)) + (-7046029254386353131 : Int64)))), .second, .val (.ref ob9), .unset, .unset, .unset, .unset, .unset, .unset, .unset, .unset, .unset, .unset, .unset, .unset] []))
  refine own_of (fun _ hh_ => XS.aload X13.here hx rfl (hb hby at_34) rfl rfl hh_) ?_
  show own_Run p e below s _ _ _ (T13.setTop (mkF m 36 #[.val (.long sd), .second, .val (.ref ob1), .val (.long (own_mix (sd + (-7046029254386353131 : Int64)))), .second, .val (.long (own_mix ((sd + (-7046029254386353131 : Int64)) + (-7046029254386353131 : Int64)))), .second, .val (.ref ob9), .unset, .unset, .unset, .unset, .unset, .unset, .unset, .unset, .unset, .unset, .unset, .unset] [(.ref ob9)]))
  obtain ⟨cq17, kq17, q17a, q17b, q17c⟩ := isOf hZ (rfl : T13.heap = T13.heap) f16
  obtain ⟨_, _, ⟨T17, L17, k17, n17⟩, -, X17, ⟨Lc17, hQ17, l17, y17, z17⟩, st17⟩ := X13.virtualBack hx (y := (⟨"com/example/cliquework/cliquework/random/SeededRandom", "nextLong", "()J"⟩ : MethodName)) (z := (⟨"com/example/cliquework/cliquework/random/SeededRandom", "nextLong", "()J"⟩ : MethodName)) hown (mvT hZ (hw _ (List.mem_of_getElem? (i := 11) rfl))) (mvT hZ (hw _ (List.mem_of_getElem? (i := 12) rfl))) (notFace_of_selects (args := #[]) (mvT hZ (hw _ (List.mem_of_getElem? (i := 14) rfl)))) (mvT hZ (hw _ (List.mem_of_getElem? (i := 14) rfl))) (mvT hZ (hw _ (List.mem_of_getElem? (i := 13) rfl))) (by decide) (backOf (W := 0) (rmN l Z a0 hw [] ob9 (sd + (-7046029254386353131 : Int64)) T13.heap n0 (Nat.le_trans (Nat.le_trans (Nat.le_trans (Nat.le_trans (Nat.le_trans (Nat.le_trans Z0 E1.1) K3.1) K5.1) K7.1) E9.1) K13.1) f16 fs13 g_ob9) hZ (hw _ (List.mem_of_getElem? (i := 15) rfl)) (hw _ (List.mem_of_getElem? (i := 2) rfl)) (by decide) (by decide)) q17a q17c (g := (mkF m 36 #[.val (.long sd), .second, .val (.ref ob1), .val (.long (own_mix (sd + (-7046029254386353131 : Int64)))), .second, .val (.long (own_mix ((sd + (-7046029254386353131 : Int64)) + (-7046029254386353131 : Int64)))), .second, .val (.ref ob9), .unset, .unset, .unset, .unset, .unset, .unset, .unset, .unset, .unset, .unset, .unset, .unset] [(.ref ob9)])) rfl (by rw [hml]; rfl) (Steps.refl _) (argsL := []) (rest := []) (lenOf own_pd1 rfl) rfl (by show 2 * 0 + _ ≤ _; exact Nat.le_of_eq rfl) (hb hby at_36) (fun _ _ => ⟨rfl, (rfl : T13.heap = T13.heap), (by decide : 2 + 0 ≤ _), (by decide : 2 + 0 ≤ _)⟩)
  dsimp only [Pt.U, Pt.locs, Pt.cells, Pt.slots] at X17 l17 y17 z17 st17 hQ17
  subst l17 y17 z17
  obtain ⟨rfl, N17q, K17, fs17⟩ := hQ17
  have N17 := Fr.app N13 N17q
  have f18 := f14.keep K17
  have f19 := f15.keep K17 (ninS ne_ob1_ob9 nin0)
  have f20 := f16.keep K17
  refine own_tr st17 ?_
  show own_Run p e below s _ _ _ (T17.setTop (mkF m 39 #[.val (.long sd), .second, .val (.ref ob1), .val (.long (own_mix (sd + (-7046029254386353131 : Int64)))), .second, .val (.long (own_mix ((sd + (-7046029254386353131 : Int64)) + (-7046029254386353131 : Int64)))), .second, .val (.ref ob9), .unset, .unset, .unset, .unset, .unset, .unset, .unset, .unset, .unset, .unset, .unset, .unset] [(.long (own_mix ((sd + (-7046029254386353131 : Int64)) + (-7046029254386353131 : Int64))))]))
  refine own_of (fun _ hh_ => XS.lstore X17.here hx rfl (hb hby at_39) rfl (l' := #[.val (.long sd), .second, .val (.ref ob1), .val (.long (own_mix (sd + (-7046029254386353131 : Int64)))), .second, .val (.long (own_mix ((sd + (-7046029254386353131 : Int64)) + (-7046029254386353131 : Int64)))), .second, .val (.ref ob9), .val (.long (own_mix ((sd + (-7046029254386353131 : Int64)) + (-7046029254386353131 : Int64)))), .second, .unset, .unset, .unset, .unset, .unset, .unset, .unset, .unset, .unset, .unset]) rfl hh_) ?_
  show own_Run p e below s _ _ _ (T17.setTop (mkF m 41 #[.val (.long sd), .second, .val (.ref ob1), .val (.long (own_mix (sd + (-7046029254386353131 : Int64)))), .second, .val (.long (own_mix ((sd + (-7046029254386353131 : Int64)) + (-7046029254386353131 : Int64)))), .second, .val (.ref ob9), .val (.long (own_mix ((sd + (-7046029254386353131 : Int64)) + (-7046029254386353131 : Int64)))), .second, .unset, .unset, .unset, .unset, .unset, .unset, .unset, .unset, .unset, .unset] []))
  obtain ⟨T21, h21, X21, e21, E21, A21, D21, -, st21⟩ := newO X17 hx hZ hown (hw _ (List.mem_of_getElem? (i := 0) rfl)) (hw _ (List.mem_of_getElem? (i := 1) rfl)) (hw _ (List.mem_of_getElem? (i := 2) rfl)) (rfl : T17.heap = T17.heap) (g := (mkF m 41 #[.val (.long sd), .second, .val (.ref ob1), .val (.long (own_mix (sd + (-7046029254386353131 : Int64)))), .second, .val (.long (own_mix ((sd + (-7046029254386353131 : Int64)) + (-7046029254386353131 : Int64)))), .second, .val (.ref ob9), .val (.long (own_mix ((sd + (-7046029254386353131 : Int64)) + (-7046029254386353131 : Int64)))), .second, .unset, .unset, .unset, .unset, .unset, .unset, .unset, .unset, .unset, .unset] [])) rfl (hb hby at_41) (by decide) (by decide)
  obtain ⟨ob21, g21⟩ : ∃ z, z = T17.heap.size := ⟨_, rfl⟩
  rw [← g21] at A21 D21 st21
  have ne_ob1_ob21 : ob1 ≠ ob21 := Nat.ne_of_lt (Nat.lt_of_lt_of_le f18.lt (Nat.le_of_eq g21.symm))
  have ne_ob9_ob21 : ob9 ≠ ob21 := Nat.ne_of_lt (Nat.lt_of_lt_of_le f20.lt (Nat.le_of_eq g21.symm))
  have g_ob21 : n0 ≤ ob21 := Nat.le_trans (Nat.le_trans (Nat.le_trans (Nat.le_trans (Nat.le_trans (Nat.le_trans (Nat.le_trans (Nat.le_trans Z0 E1.1) K3.1) K5.1) K7.1) E9.1) K13.1) K17.1) (Nat.le_of_eq g21.symm)
  have f22 := f18.ext E21
  have f23 := f19.ext E21
  have f24 := f20.ext E21
  have f25 := fs17.ext E21
  have f26 : Fld Z h21 ob21 "com/example/cliquework/cliquework/random/SeededRandom" "state" "J" (.long (0 : Int64)) := D21 (Or.inl (hw _ (List.mem_of_getElem? (i := 10) rfl))) (ty := .long) (by decide)
  refine own_of st21 ?_
  show own_Run p e below s _ _ _ (T21.setTop (mkF m 44 #[.val (.long sd), .second, .val (.ref ob1), .val (.long (own_mix (sd + (-7046029254386353131 : Int64)))), .second, .val (.long (own_mix ((sd + (-7046029254386353131 : Int64)) + (-7046029254386353131 : Int64)))), .second, .val (.ref ob9), .val (.long (own_mix ((sd + (-7046029254386353131 : Int64)) + (-7046029254386353131 : Int64)))), .second, .unset, .unset, .unset, .unset, .unset, .unset, .unset, .unset, .unset, .unset] [(.ref ob21)]))
  refine own_of (fun _ hh_ => XS.dup X21.here hx rfl (hb hby at_44) rfl rfl hh_) ?_
  show own_Run p e below s _ _ _ (T21.setTop (mkF m 45 #[.val (.long sd), .second, .val (.ref ob1), .val (.long (own_mix (sd + (-7046029254386353131 : Int64)))), .second, .val (.long (own_mix ((sd + (-7046029254386353131 : Int64)) + (-7046029254386353131 : Int64)))), .second, .val (.ref ob9), .val (.long (own_mix ((sd + (-7046029254386353131 : Int64)) + (-7046029254386353131 : Int64)))), .second, .unset, .unset, .unset, .unset, .unset, .unset, .unset, .unset, .unset, .unset] [(.ref ob21), (.ref ob21)]))
  refine own_of (X21.ldc2Long hx hown (mvT hZ (hw _ (List.mem_of_getElem? (i := 20) rfl))) (g := (mkF m 45 #[.val (.long sd), .second, .val (.ref ob1), .val (.long (own_mix (sd + (-7046029254386353131 : Int64)))), .second, .val (.long (own_mix ((sd + (-7046029254386353131 : Int64)) + (-7046029254386353131 : Int64)))), .second, .val (.ref ob9), .val (.long (own_mix ((sd + (-7046029254386353131 : Int64)) + (-7046029254386353131 : Int64)))), .second, .unset, .unset, .unset, .unset, .unset, .unset, .unset, .unset, .unset, .unset] [(.ref ob21), (.ref ob21)])) rfl (hb hby at_45)) ?_
  show own_Run p e below s _ _ _ (T21.setTop (mkF m 48 #[.val (.long sd), .second, .val (.ref ob1), .val (.long (own_mix (sd + (-7046029254386353131 : Int64)))), .second, .val (.long (own_mix ((sd + (-7046029254386353131 : Int64)) + (-7046029254386353131 : Int64)))), .second, .val (.ref ob9), .val (.long (own_mix ((sd + (-7046029254386353131 : Int64)) + (-7046029254386353131 : Int64)))), .second, .unset, .unset, .unset, .unset, .unset, .unset, .unset, .unset, .unset, .unset] [(.long (7046029254386353131 : Int64)), (.ref ob21), (.ref ob21)]))
  obtain ⟨_, _, ⟨T27, L27, k27, n27⟩, -, X27, ⟨Lc27, hQ27, l27, y27, z27⟩, st27⟩ := X21.specialBack hx (y := (⟨"com/example/cliquework/cliquework/random/SeededRandom", "<init>", "(J)V"⟩ : MethodName)) rfl hown (mvT hZ (hw _ (List.mem_of_getElem? (i := 3) rfl))) (mvT hZ (hw _ (List.mem_of_getElem? (i := 4) rfl))) (mvT hZ (hw _ (List.mem_of_getElem? (i := 5) rfl))) (by decide) (backOf (W := 1) (rmI l Z a0 hw [] ob21 (7046029254386353131 : Int64) h21 n0 (Nat.le_trans (Nat.le_trans (Nat.le_trans (Nat.le_trans (Nat.le_trans (Nat.le_trans (Nat.le_trans (Nat.le_trans Z0 E1.1) K3.1) K5.1) K7.1) E9.1) K13.1) K17.1) E21.1) A21 f26 g_ob21) hZ (hw _ (List.mem_of_getElem? (i := 5) rfl)) (hw _ (List.mem_of_getElem? (i := 2) rfl)) (by decide) (by decide)) (g := (mkF m 48 #[.val (.long sd), .second, .val (.ref ob1), .val (.long (own_mix (sd + (-7046029254386353131 : Int64)))), .second, .val (.long (own_mix ((sd + (-7046029254386353131 : Int64)) + (-7046029254386353131 : Int64)))), .second, .val (.ref ob9), .val (.long (own_mix ((sd + (-7046029254386353131 : Int64)) + (-7046029254386353131 : Int64)))), .second, .unset, .unset, .unset, .unset, .unset, .unset, .unset, .unset, .unset, .unset] [(.long (7046029254386353131 : Int64)), (.ref ob21), (.ref ob21)])) rfl (by rw [hml]; rfl) (Steps.refl _) (a := ob21) (argsL := [(.long (7046029254386353131 : Int64))]) (rest := [(.ref ob21)]) (lenOf own_pd0 rfl) rfl (by show 2 * 0 + _ ≤ _; exact Nat.le_of_eq rfl) (hb hby at_48) (fun _ _ => ⟨rfl, e21, (by decide : 3 + 0 ≤ _), (by decide : 3 + 0 ≤ _)⟩)
  dsimp only [Pt.U, Pt.locs, Pt.cells, Pt.slots] at X27 l27 y27 z27 st27 hQ27
  subst l27 y27 z27
  obtain ⟨rfl, N27q, K27, fs27⟩ := hQ27
  have N27 := Fr.app N17 N27q
  have f28 := f22.keep K27
  have f29 := f23.keep K27 (ninS ne_ob1_ob21 nin0)
  have f30 := f24.keep K27
  have f31 := f25.keep K27 (ninS ne_ob9_ob21 nin0)
  have f32 := A21.keep K27
  refine own_tr st27 ?_
  show own_Run p e below s _ _ _ (T27.setTop (mkF m 51 #[.val (.long sd), .second, .val (.ref ob1), .val (.long (own_mix (sd + (-7046029254386353131 : Int64)))), .second, .val (.long (own_mix ((sd + (-7046029254386353131 : Int64)) + (-7046029254386353131 : Int64)))), .second, .val (.ref ob9), .val (.long (own_mix ((sd + (-7046029254386353131 : Int64)) + (-7046029254386353131 : Int64)))), .second, .unset, .unset, .unset, .unset, .unset, .unset, .unset, .unset, .unset, .unset] [(.ref ob21)]))
  refine own_of (fun _ hh_ => XS.astore X27.here hx rfl (hb hby at_51) rfl rfl (l' := #[.val (.long sd), .second, .val (.ref ob1), .val (.long (own_mix (sd + (-7046029254386353131 : Int64)))), .second, .val (.long (own_mix ((sd + (-7046029254386353131 : Int64)) + (-7046029254386353131 : Int64)))), .second, .val (.ref ob9), .val (.long (own_mix ((sd + (-7046029254386353131 : Int64)) + (-7046029254386353131 : Int64)))), .second, .val (.ref ob21), .unset, .unset, .unset, .unset, .unset, .unset, .unset, .unset, .unset]) rfl hh_) ?_
  show own_Run p e below s _ _ _ (T27.setTop (mkF m 53 #[.val (.long sd), .second, .val (.ref ob1), .val (.long (own_mix (sd + (-7046029254386353131 : Int64)))), .second, .val (.long (own_mix ((sd + (-7046029254386353131 : Int64)) + (-7046029254386353131 : Int64)))), .second, .val (.ref ob9), .val (.long (own_mix ((sd + (-7046029254386353131 : Int64)) + (-7046029254386353131 : Int64)))), .second, .val (.ref ob21), .unset, .unset, .unset, .unset, .unset, .unset, .unset, .unset, .unset] []))
  refine own_of (fun _ hh_ => XS.aload X27.here hx rfl (hb hby at_53) rfl rfl hh_) ?_
  show own_Run p e below s _ _ _ (T27.setTop (mkF m 55 #[.val (.long sd), .second, .val (.ref ob1), .val (.long (own_mix (sd + (-7046029254386353131 : Int64)))), .second, .val (.long (own_mix ((sd + (-7046029254386353131 : Int64)) + (-7046029254386353131 : Int64)))), .second, .val (.ref ob9), .val (.long (own_mix ((sd + (-7046029254386353131 : Int64)) + (-7046029254386353131 : Int64)))), .second, .val (.ref ob21), .unset, .unset, .unset, .unset, .unset, .unset, .unset, .unset, .unset] [(.ref ob21)]))
  obtain ⟨cq33, kq33, q33a, q33b, q33c⟩ := isOf hZ (rfl : T27.heap = T27.heap) f32
  obtain ⟨_, _, ⟨T33, L33, k33, n33⟩, -, X33, ⟨Lc33, hQ33, l33, y33, z33⟩, st33⟩ := X27.virtualBack hx (y := (⟨"com/example/cliquework/cliquework/random/SeededRandom", "nextLong", "()J"⟩ : MethodName)) (z := (⟨"com/example/cliquework/cliquework/random/SeededRandom", "nextLong", "()J"⟩ : MethodName)) hown (mvT hZ (hw _ (List.mem_of_getElem? (i := 11) rfl))) (mvT hZ (hw _ (List.mem_of_getElem? (i := 12) rfl))) (notFace_of_selects (args := #[]) (mvT hZ (hw _ (List.mem_of_getElem? (i := 14) rfl)))) (mvT hZ (hw _ (List.mem_of_getElem? (i := 14) rfl))) (mvT hZ (hw _ (List.mem_of_getElem? (i := 13) rfl))) (by decide) (backOf (W := 0) (rmN l Z a0 hw [] ob21 (7046029254386353131 : Int64) T27.heap n0 (Nat.le_trans (Nat.le_trans (Nat.le_trans (Nat.le_trans (Nat.le_trans (Nat.le_trans (Nat.le_trans (Nat.le_trans (Nat.le_trans Z0 E1.1) K3.1) K5.1) K7.1) E9.1) K13.1) K17.1) E21.1) K27.1) f32 fs27 g_ob21) hZ (hw _ (List.mem_of_getElem? (i := 15) rfl)) (hw _ (List.mem_of_getElem? (i := 2) rfl)) (by decide) (by decide)) q33a q33c (g := (mkF m 55 #[.val (.long sd), .second, .val (.ref ob1), .val (.long (own_mix (sd + (-7046029254386353131 : Int64)))), .second, .val (.long (own_mix ((sd + (-7046029254386353131 : Int64)) + (-7046029254386353131 : Int64)))), .second, .val (.ref ob9), .val (.long (own_mix ((sd + (-7046029254386353131 : Int64)) + (-7046029254386353131 : Int64)))), .second, .val (.ref ob21), .unset, .unset, .unset, .unset, .unset, .unset, .unset, .unset, .unset] [(.ref ob21)])) rfl (by rw [hml]; rfl) (Steps.refl _) (argsL := []) (rest := []) (lenOf own_pd1 rfl) rfl (by show 2 * 0 + _ ≤ _; exact Nat.le_of_eq rfl) (hb hby at_55) (fun _ _ => ⟨rfl, (rfl : T27.heap = T27.heap), (by decide : 3 + 0 ≤ _), (by decide : 3 + 0 ≤ _)⟩)
  dsimp only [Pt.U, Pt.locs, Pt.cells, Pt.slots] at X33 l33 y33 z33 st33 hQ33
  subst l33 y33 z33
  obtain ⟨rfl, N33q, K33, fs33⟩ := hQ33
  have N33 := Fr.app N27 N33q
  have f34 := f28.keep K33
  have f35 := f29.keep K33 (ninS ne_ob1_ob21 nin0)
  have f36 := f30.keep K33
  have f37 := f31.keep K33 (ninS ne_ob9_ob21 nin0)
  have f38 := f32.keep K33
  refine own_tr st33 ?_
  show own_Run p e below s _ _ _ (T33.setTop (mkF m 58 #[.val (.long sd), .second, .val (.ref ob1), .val (.long (own_mix (sd + (-7046029254386353131 : Int64)))), .second, .val (.long (own_mix ((sd + (-7046029254386353131 : Int64)) + (-7046029254386353131 : Int64)))), .second, .val (.ref ob9), .val (.long (own_mix ((sd + (-7046029254386353131 : Int64)) + (-7046029254386353131 : Int64)))), .second, .val (.ref ob21), .unset, .unset, .unset, .unset, .unset, .unset, .unset, .unset, .unset] [(.long (own_mix ((7046029254386353131 : Int64) + (-7046029254386353131 : Int64))))]))
  refine own_of (fun _ hh_ => XS.lstore X33.here hx rfl (hb hby at_58) rfl (l' := #[.val (.long sd), .second, .val (.ref ob1), .val (.long (own_mix (sd + (-7046029254386353131 : Int64)))), .second, .val (.long (own_mix ((sd + (-7046029254386353131 : Int64)) + (-7046029254386353131 : Int64)))), .second, .val (.ref ob9), .val (.long (own_mix ((sd + (-7046029254386353131 : Int64)) + (-7046029254386353131 : Int64)))), .second, .val (.ref ob21), .val (.long (own_mix ((7046029254386353131 : Int64) + (-7046029254386353131 : Int64)))), .second, .unset, .unset, .unset, .unset, .unset, .unset, .unset]) rfl hh_) ?_
  show own_Run p e below s _ _ _ (T33.setTop (mkF m 60 #[.val (.long sd), .second, .val (.ref ob1), .val (.long (own_mix (sd + (-7046029254386353131 : Int64)))), .second, .val (.long (own_mix ((sd + (-7046029254386353131 : Int64)) + (-7046029254386353131 : Int64)))), .second, .val (.ref ob9), .val (.long (own_mix ((sd + (-7046029254386353131 : Int64)) + (-7046029254386353131 : Int64)))), .second, .val (.ref ob21), .val (.long (own_mix ((7046029254386353131 : Int64) + (-7046029254386353131 : Int64)))), .second, .unset, .unset, .unset, .unset, .unset, .unset, .unset] []))
  obtain ⟨T39, h39, X39, e39, E39, A39, D39, -, st39⟩ := newO X33 hx hZ hown (hw _ (List.mem_of_getElem? (i := 0) rfl)) (hw _ (List.mem_of_getElem? (i := 1) rfl)) (hw _ (List.mem_of_getElem? (i := 2) rfl)) (rfl : T33.heap = T33.heap) (g := (mkF m 60 #[.val (.long sd), .second, .val (.ref ob1), .val (.long (own_mix (sd + (-7046029254386353131 : Int64)))), .second, .val (.long (own_mix ((sd + (-7046029254386353131 : Int64)) + (-7046029254386353131 : Int64)))), .second, .val (.ref ob9), .val (.long (own_mix ((sd + (-7046029254386353131 : Int64)) + (-7046029254386353131 : Int64)))), .second, .val (.ref ob21), .val (.long (own_mix ((7046029254386353131 : Int64) + (-7046029254386353131 : Int64)))), .second, .unset, .unset, .unset, .unset, .unset, .unset, .unset] [])) rfl (hb hby at_60) (by decide) (by decide)
  obtain ⟨ob39, g39⟩ : ∃ z, z = T33.heap.size := ⟨_, rfl⟩
  rw [← g39] at A39 D39 st39
  have ne_ob1_ob39 : ob1 ≠ ob39 := Nat.ne_of_lt (Nat.lt_of_lt_of_le f34.lt (Nat.le_of_eq g39.symm))
  have ne_ob9_ob39 : ob9 ≠ ob39 := Nat.ne_of_lt (Nat.lt_of_lt_of_le f36.lt (Nat.le_of_eq g39.symm))
  have ne_ob21_ob39 : ob21 ≠ ob39 := Nat.ne_of_lt (Nat.lt_of_lt_of_le f38.lt (Nat.le_of_eq g39.symm))
  have g_ob39 : n0 ≤ ob39 := Nat.le_trans (Nat.le_trans (Nat.le_trans (Nat.le_trans (Nat.le_trans (Nat.le_trans (Nat.le_trans (Nat.le_trans (Nat.le_trans (Nat.le_trans (Nat.le_trans Z0 E1.1) K3.1) K5.1) K7.1) E9.1) K13.1) K17.1) E21.1) K27.1) K33.1) (Nat.le_of_eq g39.symm)
  have f40 := f34.ext E39
  have f41 := f35.ext E39
  have f42 := f36.ext E39
  have f43 := f37.ext E39
  have f44 := f38.ext E39
  have f45 := fs33.ext E39
  have f46 : Fld Z h39 ob39 "com/example/cliquework/cliquework/random/SeededRandom" "state" "J" (.long (0 : Int64)) := D39 (Or.inl (hw _ (List.mem_of_getElem? (i := 10) rfl))) (ty := .long) (by decide)
  refine own_of st39 ?_
  show own_Run p e below s _ _ _ (T39.setTop (mkF m 63 #[.val (.long sd), .second, .val (.ref ob1), .val (.long (own_mix (sd + (-7046029254386353131 : Int64)))), .second, .val (.long (own_mix ((sd + (-7046029254386353131 : Int64)) + (-7046029254386353131 : Int64)))), .second, .val (.ref ob9), .val (.long (own_mix ((sd + (-7046029254386353131 : Int64)) + (-7046029254386353131 : Int64)))), .second, .val (.ref ob21), .val (.long (own_mix ((7046029254386353131 : Int64) + (-7046029254386353131 : Int64)))), .second, .unset, .unset, .unset, .unset, .unset, .unset, .unset] [(.ref ob39)]))
  refine own_of (fun _ hh_ => XS.dup X39.here hx rfl (hb hby at_63) rfl rfl hh_) ?_
  show own_Run p e below s _ _ _ (T39.setTop (mkF m 64 #[.val (.long sd), .second, .val (.ref ob1), .val (.long (own_mix (sd + (-7046029254386353131 : Int64)))), .second, .val (.long (own_mix ((sd + (-7046029254386353131 : Int64)) + (-7046029254386353131 : Int64)))), .second, .val (.ref ob9), .val (.long (own_mix ((sd + (-7046029254386353131 : Int64)) + (-7046029254386353131 : Int64)))), .second, .val (.ref ob21), .val (.long (own_mix ((7046029254386353131 : Int64) + (-7046029254386353131 : Int64)))), .second, .unset, .unset, .unset, .unset, .unset, .unset, .unset] [(.ref ob39), (.ref ob39)]))
  refine own_of (fun _ hh_ => XS.lconst X39.here hx rfl (hb hby at_64) hh_) ?_
  show own_Run p e below s _ _ _ (T39.setTop (mkF m 65 #[.val (.long sd), .second, .val (.ref ob1), .val (.long (own_mix (sd + (-7046029254386353131 : Int64)))), .second, .val (.long (own_mix ((sd + (-7046029254386353131 : Int64)) + (-7046029254386353131 : Int64)))), .second, .val (.ref ob9), .val (.long (own_mix ((sd + (-7046029254386353131 : Int64)) + (-7046029254386353131 : Int64)))), .second, .val (.ref ob21), .val (.long (own_mix ((7046029254386353131 : Int64) + (-7046029254386353131 : Int64)))), .second, .unset, .unset, .unset, .unset, .unset, .unset, .unset] [(.long (0 : Int64)), (.ref ob39), (.ref ob39)]))
  obtain ⟨_, _, ⟨T47, L47, k47, n47⟩, -, X47, ⟨Lc47, hQ47, l47, y47, z47⟩, st47⟩ := X39.specialBack hx (y := (⟨"com/example/cliquework/cliquework/random/SeededRandom", "<init>", "(J)V"⟩ : MethodName)) rfl hown (mvT hZ (hw _ (List.mem_of_getElem? (i := 3) rfl))) (mvT hZ (hw _ (List.mem_of_getElem? (i := 4) rfl))) (mvT hZ (hw _ (List.mem_of_getElem? (i := 5) rfl))) (by decide) (backOf (W := 1) (rmI l Z a0 hw [] ob39 (0 : Int64) h39 n0 (Nat.le_trans (Nat.le_trans (Nat.le_trans (Nat.le_trans (Nat.le_trans (Nat.le_trans (Nat.le_trans (Nat.le_trans (Nat.le_trans (Nat.le_trans (Nat.le_trans Z0 E1.1) K3.1) K5.1) K7.1) E9.1) K13.1) K17.1) E21.1) K27.1) K33.1) E39.1) A39 f46 g_ob39) hZ (hw _ (List.mem_of_getElem? (i := 5) rfl)) (hw _ (List.mem_of_getElem? (i := 2) rfl)) (by decide) (by decide)) (g := (mkF m 65 #[.val (.long sd), .second, .val (.ref ob1), .val (.long (own_mix (sd + (-7046029254386353131 : Int64)))), .second, .val (.long (own_mix ((sd + (-7046029254386353131 : Int64)) + (-7046029254386353131 : Int64)))), .second, .val (.ref ob9), .val (.long (own_mix ((sd + (-7046029254386353131 : Int64)) + (-7046029254386353131 : Int64)))), .second, .val (.ref ob21), .val (.long (own_mix ((7046029254386353131 : Int64) + (-7046029254386353131 : Int64)))), .second, .unset, .unset, .unset, .unset, .unset, .unset, .unset] [(.long (0 : Int64)), (.ref ob39), (.ref ob39)])) rfl (by rw [hml]; rfl) (Steps.refl _) (a := ob39) (argsL := [(.long (0 : Int64))]) (rest := [(.ref ob39)]) (lenOf own_pd0 rfl) rfl (by show 2 * 0 + _ ≤ _; exact Nat.le_of_eq rfl) (hb hby at_65) (fun _ _ => ⟨rfl, e39, (by decide : 4 + 0 ≤ _), (by decide : 4 + 0 ≤ _)⟩)
  dsimp only [Pt.U, Pt.locs, Pt.cells, Pt.slots] at X47 l47 y47 z47 st47 hQ47
  subst l47 y47 z47
  obtain ⟨rfl, N47q, K47, fs47⟩ := hQ47
  have N47 := Fr.app N33 N47q
  have f48 := f40.keep K47
  have f49 := f41.keep K47 (ninS ne_ob1_ob39 nin0)
  have f50 := f42.keep K47
  have f51 := f43.keep K47 (ninS ne_ob9_ob39 nin0)
  have f52 := f44.keep K47
  have f53 := f45.keep K47 (ninS ne_ob21_ob39 nin0)
  have f54 := A39.keep K47
  refine own_tr st47 ?_
  show own_Run p e below s _ _ _ (T47.setTop (mkF m 68 #[.val (.long sd), .second, .val (.ref ob1), .val (.long (own_mix (sd + (-7046029254386353131 : Int64)))), .second, .val (.long (own_mix ((sd + (-7046029254386353131 : Int64)) + (-7046029254386353131 : Int64)))), .second, .val (.ref ob9), .val (.long (own_mix ((sd + (-7046029254386353131 : Int64)) + (-7046029254386353131 : Int64)))), .second, .val (.ref ob21), .val (.long (own_mix ((7046029254386353131 : Int64) + (-7046029254386353131 : Int64)))), .second, .unset, .unset, .unset, .unset, .unset, .unset, .unset] [(.ref ob39)]))
  refine own_of (fun _ hh_ => XS.astore X47.here hx rfl (hb hby at_68) rfl rfl (l' := #[.val (.long sd), .second, .val (.ref ob1), .val (.long (own_mix (sd + (-7046029254386353131 : Int64)))), .second, .val (.long (own_mix ((sd + (-7046029254386353131 : Int64)) + (-7046029254386353131 : Int64)))), .second, .val (.ref ob9), .val (.long (own_mix ((sd + (-7046029254386353131 : Int64)) + (-7046029254386353131 : Int64)))), .second, .val (.ref ob21), .val (.long (own_mix ((7046029254386353131 : Int64) + (-7046029254386353131 : Int64)))), .second, .val (.ref ob39), .unset, .unset, .unset, .unset, .unset, .unset]) rfl hh_) ?_
  show own_Run p e below s _ _ _ (T47.setTop (mkF m 70 #[.val (.long sd), .second, .val (.ref ob1), .val (.long (own_mix (sd + (-7046029254386353131 : Int64)))), .second, .val (.long (own_mix ((sd + (-7046029254386353131 : Int64)) + (-7046029254386353131 : Int64)))), .second, .val (.ref ob9), .val (.long (own_mix ((sd + (-7046029254386353131 : Int64)) + (-7046029254386353131 : Int64)))), .second, .val (.ref ob21), .val (.long (own_mix ((7046029254386353131 : Int64) + (-7046029254386353131 : Int64)))), .second, .val (.ref ob39), .unset, .unset, .unset, .unset, .unset, .unset] []))
  refine own_of (fun _ hh_ => XS.aload X47.here hx rfl (hb hby at_70) rfl rfl hh_) ?_
  show own_Run p e below s _ _ _ (T47.setTop (mkF m 72 #[.val (.long sd), .second, .val (.ref ob1), .val (.long (own_mix (sd + (-7046029254386353131 : Int64)))), .second, .val (.long (own_mix ((sd + (-7046029254386353131 : Int64)) + (-7046029254386353131 : Int64)))), .second, .val (.ref ob9), .val (.long (own_mix ((sd + (-7046029254386353131 : Int64)) + (-7046029254386353131 : Int64)))), .second, .val (.ref ob21), .val (.long (own_mix ((7046029254386353131 : Int64) + (-7046029254386353131 : Int64)))), .second, .val (.ref ob39), .unset, .unset, .unset, .unset, .unset, .unset] [(.ref ob39)]))
  obtain ⟨cq55, kq55, q55a, q55b, q55c⟩ := isOf hZ (rfl : T47.heap = T47.heap) f54
  obtain ⟨_, _, ⟨T55, L55, k55, n55⟩, -, X55, ⟨Lc55, hQ55, l55, y55, z55⟩, st55⟩ := X47.virtualBack hx (y := (⟨"com/example/cliquework/cliquework/random/SeededRandom", "nextLong", "()J"⟩ : MethodName)) (z := (⟨"com/example/cliquework/cliquework/random/SeededRandom", "nextLong", "()J"⟩ : MethodName)) hown (mvT hZ (hw _ (List.mem_of_getElem? (i := 11) rfl))) (mvT hZ (hw _ (List.mem_of_getElem? (i := 12) rfl))) (notFace_of_selects (args := #[]) (mvT hZ (hw _ (List.mem_of_getElem? (i := 14) rfl)))) (mvT hZ (hw _ (List.mem_of_getElem? (i := 14) rfl))) (mvT hZ (hw _ (List.mem_of_getElem? (i := 13) rfl))) (by decide) (backOf (W := 0) (rmN l Z a0 hw [] ob39 (0 : Int64) T47.heap n0 (Nat.le_trans (Nat.le_trans (Nat.le_trans (Nat.le_trans (Nat.le_trans (Nat.le_trans (Nat.le_trans (Nat.le_trans (Nat.le_trans (Nat.le_trans (Nat.le_trans (Nat.le_trans Z0 E1.1) K3.1) K5.1) K7.1) E9.1) K13.1) K17.1) E21.1) K27.1) K33.1) E39.1) K47.1) f54 fs47 g_ob39) hZ (hw _ (List.mem_of_getElem? (i := 15) rfl)) (hw _ (List.mem_of_getElem? (i := 2) rfl)) (by decide) (by decide)) q55a q55c (g := (mkF m 72 #[.val (.long sd), .second, .val (.ref ob1), .val (.long (own_mix (sd + (-7046029254386353131 : Int64)))), .second, .val (.long (own_mix ((sd + (-7046029254386353131 : Int64)) + (-7046029254386353131 : Int64)))), .second, .val (.ref ob9), .val (.long (own_mix ((sd + (-7046029254386353131 : Int64)) + (-7046029254386353131 : Int64)))), .second, .val (.ref ob21), .val (.long (own_mix ((7046029254386353131 : Int64) + (-7046029254386353131 : Int64)))), .second, .val (.ref ob39), .unset, .unset, .unset, .unset, .unset, .unset] [(.ref ob39)])) rfl (by rw [hml]; rfl) (Steps.refl _) (argsL := []) (rest := []) (lenOf own_pd1 rfl) rfl (by show 2 * 0 + _ ≤ _; exact Nat.le_of_eq rfl) (hb hby at_72) (fun _ _ => ⟨rfl, (rfl : T47.heap = T47.heap), (by decide : 4 + 0 ≤ _), (by decide : 4 + 0 ≤ _)⟩)
  dsimp only [Pt.U, Pt.locs, Pt.cells, Pt.slots] at X55 l55 y55 z55 st55 hQ55
  subst l55 y55 z55
  obtain ⟨rfl, N55q, K55, fs55⟩ := hQ55
  have N55 := Fr.app N47 N55q
  have f56 := f48.keep K55
  have f57 := f49.keep K55 (ninS ne_ob1_ob39 nin0)
  have f58 := f50.keep K55
  have f59 := f51.keep K55 (ninS ne_ob9_ob39 nin0)
  have f60 := f52.keep K55
  have f61 := f53.keep K55 (ninS ne_ob21_ob39 nin0)
  have f62 := f54.keep K55
  refine own_tr st55 ?_
  show own_Run p e below s _ _ _ (T55.setTop (mkF m 75 #[.val (.long sd), .second, .val (.ref ob1), .val (.long (own_mix (sd + (-7046029254386353131 : Int64)))), .second, .val (.long (own_mix ((sd + (-7046029254386353131 : Int64)) + (-7046029254386353131 : Int64)))), .second, .val (.ref ob9), .val (.long (own_mix ((sd + (-7046029254386353131 : Int64)) + (-7046029254386353131 : Int64)))), .second, .val (.ref ob21), .val (.long (own_mix ((7046029254386353131 : Int64) + (-7046029254386353131 : Int64)))), .second, .val (.ref ob39), .unset, .unset, .unset, .unset, .unset, .unset] [(.long (own_mix ((0 : Int64) + (-7046029254386353131 : Int64))))]))
  refine own_of (fun _ hh_ => XS.lstore X55.here hx rfl (hb hby at_75) rfl (l' := #[.val (.long sd), .second, .val (.ref ob1), .val (.long (own_mix (sd + (-7046029254386353131 : Int64)))), .second, .val (.long (own_mix ((sd + (-7046029254386353131 : Int64)) + (-7046029254386353131 : Int64)))), .second, .val (.ref ob9), .val (.long (own_mix ((sd + (-7046029254386353131 : Int64)) + (-7046029254386353131 : Int64)))), .second, .val (.ref ob21), .val (.long (own_mix ((7046029254386353131 : Int64) + (-7046029254386353131 : Int64)))), .second, .val (.ref ob39), .val (.long (own_mix ((0 : Int64) + (-7046029254386353131 : Int64)))), .second, .unset, .unset, .unset, .unset]) rfl hh_) ?_
  show own_Run p e below s _ _ _ (T55.setTop (mkF m 77 #[.val (.long sd), .second, .val (.ref ob1), .val (.long (own_mix (sd + (-7046029254386353131 : Int64)))), .second, .val (.long (own_mix ((sd + (-7046029254386353131 : Int64)) + (-7046029254386353131 : Int64)))), .second, .val (.ref ob9), .val (.long (own_mix ((sd + (-7046029254386353131 : Int64)) + (-7046029254386353131 : Int64)))), .second, .val (.ref ob21), .val (.long (own_mix ((7046029254386353131 : Int64) + (-7046029254386353131 : Int64)))), .second, .val (.ref ob39), .val (.long (own_mix ((0 : Int64) + (-7046029254386353131 : Int64)))), .second, .unset, .unset, .unset, .unset] []))
  refine own_of (fun _ hh_ => XS.lload X55.here hx rfl (hb hby at_77) rfl hh_) ?_
  show own_Run p e below s _ _ _ (T55.setTop (mkF m 79 #[.val (.long sd), .second, .val (.ref ob1), .val (.long (own_mix (sd + (-7046029254386353131 : Int64)))), .second, .val (.long (own_mix ((sd + (-7046029254386353131 : Int64)) + (-7046029254386353131 : Int64)))), .second, .val (.ref ob9), .val (.long (own_mix ((sd + (-7046029254386353131 : Int64)) + (-7046029254386353131 : Int64)))), .second, .val (.ref ob21), .val (.long (own_mix ((7046029254386353131 : Int64) + (-7046029254386353131 : Int64)))), .second, .val (.ref ob39), .val (.long (own_mix ((0 : Int64) + (-7046029254386353131 : Int64)))), .second, .unset, .unset, .unset, .unset] [(.long (own_mix ((sd + (-7046029254386353131 : Int64)) + (-7046029254386353131 : Int64))))]))
  refine own_of (fun _ hh_ => XS.lload X55.here hx rfl (hb hby at_79) rfl hh_) ?_
  show own_Run p e below s _ _ _ (T55.setTop (mkF m 81 #[.val (.long sd), .second, .val (.ref ob1), .val (.long (own_mix (sd + (-7046029254386353131 : Int64)))), .second, .val (.long (own_mix ((sd + (-7046029254386353131 : Int64)) + (-7046029254386353131 : Int64)))), .second, .val (.ref ob9), .val (.long (own_mix ((sd + (-7046029254386353131 : Int64)) + (-7046029254386353131 : Int64)))), .second, .val (.ref ob21), .val (.long (own_mix ((7046029254386353131 : Int64) + (-7046029254386353131 : Int64)))), .second, .val (.ref ob39), .val (.long (own_mix ((0 : Int64) + (-7046029254386353131 : Int64)))), .second, .unset, .unset, .unset, .unset] [(.long (own_mix ((sd + (-7046029254386353131 : Int64)) + (-7046029254386353131 : Int64)))), (.long (own_mix ((sd + (-7046029254386353131 : Int64)) + (-7046029254386353131 : Int64))))]))
  refine own_of (fun _ hh_ => XS.lcmp X55.here hx rfl (hb hby at_81) rfl hh_) ?_
  show own_Run p e below s _ _ _ (T55.setTop (mkF m 82 #[.val (.long sd), .second, .val (.ref ob1), .val (.long (own_mix (sd + (-7046029254386353131 : Int64)))), .second, .val (.long (own_mix ((sd + (-7046029254386353131 : Int64)) + (-7046029254386353131 : Int64)))), .second, .val (.ref ob9), .val (.long (own_mix ((sd + (-7046029254386353131 : Int64)) + (-7046029254386353131 : Int64)))), .second, .val (.ref ob21), .val (.long (own_mix ((7046029254386353131 : Int64) + (-7046029254386353131 : Int64)))), .second, .val (.ref ob39), .val (.long (own_mix ((0 : Int64) + (-7046029254386353131 : Int64)))), .second, .unset, .unset, .unset, .unset] [(.int (lcmpW (own_mix ((sd + (-7046029254386353131 : Int64)) + (-7046029254386353131 : Int64))) (own_mix ((sd + (-7046029254386353131 : Int64)) + (-7046029254386353131 : Int64)))))]))
  have hc82_63 : (own_mix ((sd + (-7046029254386353131 : Int64)) + (-7046029254386353131 : Int64))) = (own_mix ((sd + (-7046029254386353131 : Int64)) + (-7046029254386353131 : Int64))) := rfl
  refine own_of (fun _ hh_ => XS.ifNo X55.here hx rfl (hb hby at_82) rfl ((if0 _ _).trans (teq ((lw_eq _ _).mpr hc82_63)).2) hh_) ?_
  show own_Run p e below s _ _ _ (T55.setTop (mkF m 85 #[.val (.long sd), .second, .val (.ref ob1), .val (.long (own_mix (sd + (-7046029254386353131 : Int64)))), .second, .val (.long (own_mix ((sd + (-7046029254386353131 : Int64)) + (-7046029254386353131 : Int64)))), .second, .val (.ref ob9), .val (.long (own_mix ((sd + (-7046029254386353131 : Int64)) + (-7046029254386353131 : Int64)))), .second, .val (.ref ob21), .val (.long (own_mix ((7046029254386353131 : Int64) + (-7046029254386353131 : Int64)))), .second, .val (.ref ob39), .val (.long (own_mix ((0 : Int64) + (-7046029254386353131 : Int64)))), .second, .unset, .unset, .unset, .unset] []))
  refine own_of (fun _ hh_ => XS.iconst X55.here hx rfl (hb hby at_85) hh_) ?_
  show own_Run p e below s _ _ _ (T55.setTop (mkF m 86 #[.val (.long sd), .second, .val (.ref ob1), .val (.long (own_mix (sd + (-7046029254386353131 : Int64)))), .second, .val (.long (own_mix ((sd + (-7046029254386353131 : Int64)) + (-7046029254386353131 : Int64)))), .second, .val (.ref ob9), .val (.long (own_mix ((sd + (-7046029254386353131 : Int64)) + (-7046029254386353131 : Int64)))), .second, .val (.ref ob21), .val (.long (own_mix ((7046029254386353131 : Int64) + (-7046029254386353131 : Int64)))), .second, .val (.ref ob39), .val (.long (own_mix ((0 : Int64) + (-7046029254386353131 : Int64)))), .second, .unset, .unset, .unset, .unset] [(.int (1 : Int32))]))
  refine own_of (fun _ hh_ => XS.goto X55.here hx rfl (pc0 := 86) (pc' := 90) rfl (hb hby at_86) (by decide) (by decide) hh_) ?_
  show own_Run p e below s _ _ _ (T55.setTop (mkF m 90 #[.val (.long sd), .second, .val (.ref ob1), .val (.long (own_mix (sd + (-7046029254386353131 : Int64)))), .second, .val (.long (own_mix ((sd + (-7046029254386353131 : Int64)) + (-7046029254386353131 : Int64)))), .second, .val (.ref ob9), .val (.long (own_mix ((sd + (-7046029254386353131 : Int64)) + (-7046029254386353131 : Int64)))), .second, .val (.ref ob21), .val (.long (own_mix ((7046029254386353131 : Int64) + (-7046029254386353131 : Int64)))), .second, .val (.ref ob39), .val (.long (own_mix ((0 : Int64) + (-7046029254386353131 : Int64)))), .second, .unset, .unset, .unset, .unset] [(.int (1 : Int32))]))
  refine own_of (fun _ hh_ => XS.istore X55.here hx rfl (hb hby at_90) rfl (l' := #[.val (.long sd), .second, .val (.ref ob1), .val (.long (own_mix (sd + (-7046029254386353131 : Int64)))), .second, .val (.long (own_mix ((sd + (-7046029254386353131 : Int64)) + (-7046029254386353131 : Int64)))), .second, .val (.ref ob9), .val (.long (own_mix ((sd + (-7046029254386353131 : Int64)) + (-7046029254386353131 : Int64)))), .second, .val (.ref ob21), .val (.long (own_mix ((7046029254386353131 : Int64) + (-7046029254386353131 : Int64)))), .second, .val (.ref ob39), .val (.long (own_mix ((0 : Int64) + (-7046029254386353131 : Int64)))), .second, .val (.int (1 : Int32)), .unset, .unset, .unset]) rfl hh_) ?_
  show own_Run p e below s _ _ _ (T55.setTop (mkF m 92 #[.val (.long sd), .second, .val (.ref ob1), .val (.long (own_mix (sd + (-7046029254386353131 : Int64)))), .second, .val (.long (own_mix ((sd + (-7046029254386353131 : Int64)) + (-7046029254386353131 : Int64)))), .second, .val (.ref ob9), .val (.long (own_mix ((sd + (-7046029254386353131 : Int64)) + (-7046029254386353131 : Int64)))), .second, .val (.ref ob21), .val (.long (own_mix ((7046029254386353131 : Int64) + (-7046029254386353131 : Int64)))), .second, .val (.ref ob39), .val (.long (own_mix ((0 : Int64) + (-7046029254386353131 : Int64)))), .second, .val (.int (1 : Int32)), .unset, .unset, .unset] []))
  refine own_of (fun _ hh_ => XS.lloadN X55.here hx rfl (hb hby at_92) rfl hh_) ?_
  show own_Run p e below s _ _ _ (T55.setTop (mkF m 93 #[.val (.long sd), .second, .val (.ref ob1), .val (.long (own_mix (sd + (-7046029254386353131 : Int64)))), .second, .val (.long (own_mix ((sd + (-7046029254386353131 : Int64)) + (-7046029254386353131 : Int64)))), .second, .val (.ref ob9), .val (.long (own_mix ((sd + (-7046029254386353131 : Int64)) + (-7046029254386353131 : Int64)))), .second, .val (.ref ob21), .val (.long (own_mix ((7046029254386353131 : Int64) + (-7046029254386353131 : Int64)))), .second, .val (.ref ob39), .val (.long (own_mix ((0 : Int64) + (-7046029254386353131 : Int64)))), .second, .val (.int (1 : Int32)), .unset, .unset, .unset] [(.long (own_mix (sd + (-7046029254386353131 : Int64))))]))
  refine own_of (fun _ hh_ => XS.lload X55.here hx rfl (hb hby at_93) rfl hh_) ?_
  show own_Run p e below s _ _ _ (T55.setTop (mkF m 95 #[.val (.long sd), .second, .val (.ref ob1), .val (.long (own_mix (sd + (-7046029254386353131 : Int64)))), .second, .val (.long (own_mix ((sd + (-7046029254386353131 : Int64)) + (-7046029254386353131 : Int64)))), .second, .val (.ref ob9), .val (.long (own_mix ((sd + (-7046029254386353131 : Int64)) + (-7046029254386353131 : Int64)))), .second, .val (.ref ob21), .val (.long (own_mix ((7046029254386353131 : Int64) + (-7046029254386353131 : Int64)))), .second, .val (.ref ob39), .val (.long (own_mix ((0 : Int64) + (-7046029254386353131 : Int64)))), .second, .val (.int (1 : Int32)), .unset, .unset, .unset] [(.long (own_mix ((sd + (-7046029254386353131 : Int64)) + (-7046029254386353131 : Int64)))), (.long (own_mix (sd + (-7046029254386353131 : Int64))))]))
  refine own_of (fun _ hh_ => XS.lcmp X55.here hx rfl (hb hby at_95) rfl hh_) ?_
  show own_Run p e below s _ _ _ (T55.setTop (mkF m 96 #[.val (.long sd), .second, .val (.ref ob1), .val (.long (own_mix (sd + (-7046029254386353131 : Int64)))), .second, .val (.long (own_mix ((sd + (-7046029254386353131 : Int64)) + (-7046029254386353131 : Int64)))), .second, .val (.ref ob9), .val (.long (own_mix ((sd + (-7046029254386353131 : Int64)) + (-7046029254386353131 : Int64)))), .second, .val (.ref ob21), .val (.long (own_mix ((7046029254386353131 : Int64) + (-7046029254386353131 : Int64)))), .second, .val (.ref ob39), .val (.long (own_mix ((0 : Int64) + (-7046029254386353131 : Int64)))), .second, .val (.int (1 : Int32)), .unset, .unset, .unset] [(.int (lcmpW (own_mix (sd + (-7046029254386353131 : Int64))) (own_mix ((sd + (-7046029254386353131 : Int64)) + (-7046029254386353131 : Int64)))))]))
  have hc96_64 : ¬ ((own_mix (sd + (-7046029254386353131 : Int64))) = (own_mix ((sd + (-7046029254386353131 : Int64)) + (-7046029254386353131 : Int64)))) := own_ne sd
  refine own_of (fun _ hh_ => XS.ifNo X55.here hx rfl (hb hby at_96) rfl ((if0 _ _).trans (feq (fun q_ => hc96_64 ((lw_eq _ _).mp q_))).1) hh_) ?_
  show own_Run p e below s _ _ _ (T55.setTop (mkF m 99 #[.val (.long sd), .second, .val (.ref ob1), .val (.long (own_mix (sd + (-7046029254386353131 : Int64)))), .second, .val (.long (own_mix ((sd + (-7046029254386353131 : Int64)) + (-7046029254386353131 : Int64)))), .second, .val (.ref ob9), .val (.long (own_mix ((sd + (-7046029254386353131 : Int64)) + (-7046029254386353131 : Int64)))), .second, .val (.ref ob21), .val (.long (own_mix ((7046029254386353131 : Int64) + (-7046029254386353131 : Int64)))), .second, .val (.ref ob39), .val (.long (own_mix ((0 : Int64) + (-7046029254386353131 : Int64)))), .second, .val (.int (1 : Int32)), .unset, .unset, .unset] []))
  refine own_of (fun _ hh_ => XS.iconst X55.here hx rfl (hb hby at_99) hh_) ?_
  show own_Run p e below s _ _ _ (T55.setTop (mkF m 100 #[.val (.long sd), .second, .val (.ref ob1), .val (.long (own_mix (sd + (-7046029254386353131 : Int64)))), .second, .val (.long (own_mix ((sd + (-7046029254386353131 : Int64)) + (-7046029254386353131 : Int64)))), .second, .val (.ref ob9), .val (.long (own_mix ((sd + (-7046029254386353131 : Int64)) + (-7046029254386353131 : Int64)))), .second, .val (.ref ob21), .val (.long (own_mix ((7046029254386353131 : Int64) + (-7046029254386353131 : Int64)))), .second, .val (.ref ob39), .val (.long (own_mix ((0 : Int64) + (-7046029254386353131 : Int64)))), .second, .val (.int (1 : Int32)), .unset, .unset, .unset] [(.int (1 : Int32))]))
  refine own_of (fun _ hh_ => XS.goto X55.here hx rfl (pc0 := 100) (pc' := 104) rfl (hb hby at_100) (by decide) (by decide) hh_) ?_
  show own_Run p e below s _ _ _ (T55.setTop (mkF m 104 #[.val (.long sd), .second, .val (.ref ob1), .val (.long (own_mix (sd + (-7046029254386353131 : Int64)))), .second, .val (.long (own_mix ((sd + (-7046029254386353131 : Int64)) + (-7046029254386353131 : Int64)))), .second, .val (.ref ob9), .val (.long (own_mix ((sd + (-7046029254386353131 : Int64)) + (-7046029254386353131 : Int64)))), .second, .val (.ref ob21), .val (.long (own_mix ((7046029254386353131 : Int64) + (-7046029254386353131 : Int64)))), .second, .val (.ref ob39), .val (.long (own_mix ((0 : Int64) + (-7046029254386353131 : Int64)))), .second, .val (.int (1 : Int32)), .unset, .unset, .unset] [(.int (1 : Int32))]))
  refine own_of (fun _ hh_ => XS.istore X55.here hx rfl (hb hby at_104) rfl (l' := #[.val (.long sd), .second, .val (.ref ob1), .val (.long (own_mix (sd + (-7046029254386353131 : Int64)))), .second, .val (.long (own_mix ((sd + (-7046029254386353131 : Int64)) + (-7046029254386353131 : Int64)))), .second, .val (.ref ob9), .val (.long (own_mix ((sd + (-7046029254386353131 : Int64)) + (-7046029254386353131 : Int64)))), .second, .val (.ref ob21), .val (.long (own_mix ((7046029254386353131 : Int64) + (-7046029254386353131 : Int64)))), .second, .val (.ref ob39), .val (.long (own_mix ((0 : Int64) + (-7046029254386353131 : Int64)))), .second, .val (.int (1 : Int32)), .val (.int (1 : Int32)), .unset, .unset]) rfl hh_) ?_
  show own_Run p e below s _ _ _ (T55.setTop (mkF m 106 #[.val (.long sd), .second, .val (.ref ob1), .val (.long (own_mix (sd + (-7046029254386353131 : Int64)))), .second, .val (.long (own_mix ((sd + (-7046029254386353131 : Int64)) + (-7046029254386353131 : Int64)))), .second, .val (.ref ob9), .val (.long (own_mix ((sd + (-7046029254386353131 : Int64)) + (-7046029254386353131 : Int64)))), .second, .val (.ref ob21), .val (.long (own_mix ((7046029254386353131 : Int64) + (-7046029254386353131 : Int64)))), .second, .val (.ref ob39), .val (.long (own_mix ((0 : Int64) + (-7046029254386353131 : Int64)))), .second, .val (.int (1 : Int32)), .val (.int (1 : Int32)), .unset, .unset] []))
  refine own_of (fun _ hh_ => XS.lload X55.here hx rfl (hb hby at_106) rfl hh_) ?_
  show own_Run p e below s _ _ _ (T55.setTop (mkF m 108 #[.val (.long sd), .second, .val (.ref ob1), .val (.long (own_mix (sd + (-7046029254386353131 : Int64)))), .second, .val (.long (own_mix ((sd + (-7046029254386353131 : Int64)) + (-7046029254386353131 : Int64)))), .second, .val (.ref ob9), .val (.long (own_mix ((sd + (-7046029254386353131 : Int64)) + (-7046029254386353131 : Int64)))), .second, .val (.ref ob21), .val (.long (own_mix ((7046029254386353131 : Int64) + (-7046029254386353131 : Int64)))), .second, .val (.ref ob39), .val (.long (own_mix ((0 : Int64) + (-7046029254386353131 : Int64)))), .second, .val (.int (1 : Int32)), .val (.int (1 : Int32)), .unset, .unset] [(.long (own_mix ((7046029254386353131 : Int64) + (-7046029254386353131 : Int64))))]))
  refine own_of (fun _ hh_ => XS.lconst X55.here hx rfl (hb hby at_108) hh_) ?_
  show own_Run p e below s _ _ _ (T55.setTop (mkF m 109 #[.val (.long sd), .second, .val (.ref ob1), .val (.long (own_mix (sd + (-7046029254386353131 : Int64)))), .second, .val (.long (own_mix ((sd + (-7046029254386353131 : Int64)) + (-7046029254386353131 : Int64)))), .second, .val (.ref ob9), .val (.long (own_mix ((sd + (-7046029254386353131 : Int64)) + (-7046029254386353131 : Int64)))), .second, .val (.ref ob21), .val (.long (own_mix ((7046029254386353131 : Int64) + (-7046029254386353131 : Int64)))), .second, .val (.ref ob39), .val (.long (own_mix ((0 : Int64) + (-7046029254386353131 : Int64)))), .second, .val (.int (1 : Int32)), .val (.int (1 : Int32)), .unset, .unset] [(.long (0 : Int64)), (.long (own_mix ((7046029254386353131 : Int64) + (-7046029254386353131 : Int64))))]))
  refine own_of (fun _ hh_ => XS.lcmp X55.here hx rfl (hb hby at_109) rfl hh_) ?_
  show own_Run p e below s _ _ _ (T55.setTop (mkF m 110 #[.val (.long sd), .second, .val (.ref ob1), .val (.long (own_mix (sd + (-7046029254386353131 : Int64)))), .second, .val (.long (own_mix ((sd + (-7046029254386353131 : Int64)) + (-7046029254386353131 : Int64)))), .second, .val (.ref ob9), .val (.long (own_mix ((sd + (-7046029254386353131 : Int64)) + (-7046029254386353131 : Int64)))), .second, .val (.ref ob21), .val (.long (own_mix ((7046029254386353131 : Int64) + (-7046029254386353131 : Int64)))), .second, .val (.ref ob39), .val (.long (own_mix ((0 : Int64) + (-7046029254386353131 : Int64)))), .second, .val (.int (1 : Int32)), .val (.int (1 : Int32)), .unset, .unset] [(.int (lcmpW (own_mix ((7046029254386353131 : Int64) + (-7046029254386353131 : Int64))) (0 : Int64)))]))
  have hc110_65 : (own_mix ((7046029254386353131 : Int64) + (-7046029254386353131 : Int64))) = (0 : Int64) := own_zero
  refine own_of (fun _ hh_ => XS.ifNo X55.here hx rfl (hb hby at_110) rfl ((if0 _ _).trans (teq ((lw_eq _ _).mpr hc110_65)).2) hh_) ?_
  show own_Run p e below s _ _ _ (T55.setTop (mkF m 113 #[.val (.long sd), .second, .val (.ref ob1), .val (.long (own_mix (sd + (-7046029254386353131 : Int64)))), .second, .val (.long (own_mix ((sd + (-7046029254386353131 : Int64)) + (-7046029254386353131 : Int64)))), .second, .val (.ref ob9), .val (.long (own_mix ((sd + (-7046029254386353131 : Int64)) + (-7046029254386353131 : Int64)))), .second, .val (.ref ob21), .val (.long (own_mix ((7046029254386353131 : Int64) + (-7046029254386353131 : Int64)))), .second, .val (.ref ob39), .val (.long (own_mix ((0 : Int64) + (-7046029254386353131 : Int64)))), .second, .val (.int (1 : Int32)), .val (.int (1 : Int32)), .unset, .unset] []))
  refine own_of (fun _ hh_ => XS.iconst X55.here hx rfl (hb hby at_113) hh_) ?_
  show own_Run p e below s _ _ _ (T55.setTop (mkF m 114 #[.val (.long sd), .second, .val (.ref ob1), .val (.long (own_mix (sd + (-7046029254386353131 : Int64)))), .second, .val (.long (own_mix ((sd + (-7046029254386353131 : Int64)) + (-7046029254386353131 : Int64)))), .second, .val (.ref ob9), .val (.long (own_mix ((sd + (-7046029254386353131 : Int64)) + (-7046029254386353131 : Int64)))), .second, .val (.ref ob21), .val (.long (own_mix ((7046029254386353131 : Int64) + (-7046029254386353131 : Int64)))), .second, .val (.ref ob39), .val (.long (own_mix ((0 : Int64) + (-7046029254386353131 : Int64)))), .second, .val (.int (1 : Int32)), .val (.int (1 : Int32)), .unset, .unset] [(.int (1 : Int32))]))
  refine own_of (fun _ hh_ => XS.goto X55.here hx rfl (pc0 := 114) (pc' := 118) rfl (hb hby at_114) (by decide) (by decide) hh_) ?_
  show own_Run p e below s _ _ _ (T55.setTop (mkF m 118 #[.val (.long sd), .second, .val (.ref ob1), .val (.long (own_mix (sd + (-7046029254386353131 : Int64)))), .second, .val (.long (own_mix ((sd + (-7046029254386353131 : Int64)) + (-7046029254386353131 : Int64)))), .second, .val (.ref ob9), .val (.long (own_mix ((sd + (-7046029254386353131 : Int64)) + (-7046029254386353131 : Int64)))), .second, .val (.ref ob21), .val (.long (own_mix ((7046029254386353131 : Int64) + (-7046029254386353131 : Int64)))), .second, .val (.ref ob39), .val (.long (own_mix ((0 : Int64) + (-7046029254386353131 : Int64)))), .second, .val (.int (1 : Int32)), .val (.int (1 : Int32)), .unset, .unset] [(.int (1 : Int32))]))
  refine own_of (fun _ hh_ => XS.istore X55.here hx rfl (hb hby at_118) rfl (l' := #[.val (.long sd), .second, .val (.ref ob1), .val (.long (own_mix (sd + (-7046029254386353131 : Int64)))), .second, .val (.long (own_mix ((sd + (-7046029254386353131 : Int64)) + (-7046029254386353131 : Int64)))), .second, .val (.ref ob9), .val (.long (own_mix ((sd + (-7046029254386353131 : Int64)) + (-7046029254386353131 : Int64)))), .second, .val (.ref ob21), .val (.long (own_mix ((7046029254386353131 : Int64) + (-7046029254386353131 : Int64)))), .second, .val (.ref ob39), .val (.long (own_mix ((0 : Int64) + (-7046029254386353131 : Int64)))), .second, .val (.int (1 : Int32)), .val (.int (1 : Int32)), .val (.int (1 : Int32)), .unset]) rfl hh_) ?_
  show own_Run p e below s _ _ _ (T55.setTop (mkF m 120 #[.val (.long sd), .second, .val (.ref ob1), .val (.long (own_mix (sd + (-7046029254386353131 : Int64)))), .second, .val (.long (own_mix ((sd + (-7046029254386353131 : Int64)) + (-7046029254386353131 : Int64)))), .second, .val (.ref ob9), .val (.long (own_mix ((sd + (-7046029254386353131 : Int64)) + (-7046029254386353131 : Int64)))), .second, .val (.ref ob21), .val (.long (own_mix ((7046029254386353131 : Int64) + (-7046029254386353131 : Int64)))), .second, .val (.ref ob39), .val (.long (own_mix ((0 : Int64) + (-7046029254386353131 : Int64)))), .second, .val (.int (1 : Int32)), .val (.int (1 : Int32)), .val (.int (1 : Int32)), .unset] []))
  refine own_of (fun _ hh_ => XS.lload X55.here hx rfl (hb hby at_120) rfl hh_) ?_
  show own_Run p e below s _ _ _ (T55.setTop (mkF m 122 #[.val (.long sd), .second, .val (.ref ob1), .val (.long (own_mix (sd + (-7046029254386353131 : Int64)))), .second, .val (.long (own_mix ((sd + (-7046029254386353131 : Int64)) + (-7046029254386353131 : Int64)))), .second, .val (.ref ob9), .val (.long (own_mix ((sd + (-7046029254386353131 : Int64)) + (-7046029254386353131 : Int64)))), .second, .val (.ref ob21), .val (.long (own_mix ((7046029254386353131 : Int64) + (-7046029254386353131 : Int64)))), .second, .val (.ref ob39), .val (.long (own_mix ((0 : Int64) + (-7046029254386353131 : Int64)))), .second, .val (.int (1 : Int32)), .val (.int (1 : Int32)), .val (.int (1 : Int32)), .unset] [(.long (own_mix ((0 : Int64) + (-7046029254386353131 : Int64))))]))
  refine own_of (X55.ldc2Long hx hown (mvT hZ (hw _ (List.mem_of_getElem? (i := 21) rfl))) (g := (mkF m 122 #[.val (.long sd), .second, .val (.ref ob1), .val (.long (own_mix (sd + (-7046029254386353131 : Int64)))), .second, .val (.long (own_mix ((sd + (-7046029254386353131 : Int64)) + (-7046029254386353131 : Int64)))), .second, .val (.ref ob9), .val (.long (own_mix ((sd + (-7046029254386353131 : Int64)) + (-7046029254386353131 : Int64)))), .second, .val (.ref ob21), .val (.long (own_mix ((7046029254386353131 : Int64) + (-7046029254386353131 : Int64)))), .second, .val (.ref ob39), .val (.long (own_mix ((0 : Int64) + (-7046029254386353131 : Int64)))), .second, .val (.int (1 : Int32)), .val (.int (1 : Int32)), .val (.int (1 : Int32)), .unset] [(.long (own_mix ((0 : Int64) + (-7046029254386353131 : Int64))))])) rfl (hb hby at_122)) ?_
  show own_Run p e below s _ _ _ (T55.setTop (mkF m 125 #[.val (.long sd), .second, .val (.ref ob1), .val (.long (own_mix (sd + (-7046029254386353131 : Int64)))), .second, .val (.long (own_mix ((sd + (-7046029254386353131 : Int64)) + (-7046029254386353131 : Int64)))), .second, .val (.ref ob9), .val (.long (own_mix ((sd + (-7046029254386353131 : Int64)) + (-7046029254386353131 : Int64)))), .second, .val (.ref ob21), .val (.long (own_mix ((7046029254386353131 : Int64) + (-7046029254386353131 : Int64)))), .second, .val (.ref ob39), .val (.long (own_mix ((0 : Int64) + (-7046029254386353131 : Int64)))), .second, .val (.int (1 : Int32)), .val (.int (1 : Int32)), .val (.int (1 : Int32)), .unset] [(.long (-2152535657050944081 : Int64)), (.long (own_mix ((0 : Int64) + (-7046029254386353131 : Int64))))]))
  refine own_of (fun _ hh_ => XS.lcmp X55.here hx rfl (hb hby at_125) rfl hh_) ?_
  show own_Run p e below s _ _ _ (T55.setTop (mkF m 126 #[.val (.long sd), .second, .val (.ref ob1), .val (.long (own_mix (sd + (-7046029254386353131 : Int64)))), .second, .val (.long (own_mix ((sd + (-7046029254386353131 : Int64)) + (-7046029254386353131 : Int64)))), .second, .val (.ref ob9), .val (.long (own_mix ((sd + (-7046029254386353131 : Int64)) + (-7046029254386353131 : Int64)))), .second, .val (.ref ob21), .val (.long (own_mix ((7046029254386353131 : Int64) + (-7046029254386353131 : Int64)))), .second, .val (.ref ob39), .val (.long (own_mix ((0 : Int64) + (-7046029254386353131 : Int64)))), .second, .val (.int (1 : Int32)), .val (.int (1 : Int32)), .val (.int (1 : Int32)), .unset] [(.int (lcmpW (own_mix ((0 : Int64) + (-7046029254386353131 : Int64))) (-2152535657050944081 : Int64)))]))
  have hc126_66 : (own_mix ((0 : Int64) + (-7046029254386353131 : Int64))) = (-2152535657050944081 : Int64) := own_vec
  refine own_of (fun _ hh_ => XS.ifNo X55.here hx rfl (hb hby at_126) rfl ((if0 _ _).trans (teq ((lw_eq _ _).mpr hc126_66)).2) hh_) ?_
  show own_Run p e below s _ _ _ (T55.setTop (mkF m 129 #[.val (.long sd), .second, .val (.ref ob1), .val (.long (own_mix (sd + (-7046029254386353131 : Int64)))), .second, .val (.long (own_mix ((sd + (-7046029254386353131 : Int64)) + (-7046029254386353131 : Int64)))), .second, .val (.ref ob9), .val (.long (own_mix ((sd + (-7046029254386353131 : Int64)) + (-7046029254386353131 : Int64)))), .second, .val (.ref ob21), .val (.long (own_mix ((7046029254386353131 : Int64) + (-7046029254386353131 : Int64)))), .second, .val (.ref ob39), .val (.long (own_mix ((0 : Int64) + (-7046029254386353131 : Int64)))), .second, .val (.int (1 : Int32)), .val (.int (1 : Int32)), .val (.int (1 : Int32)), .unset] []))
  refine own_of (fun _ hh_ => XS.iconst X55.here hx rfl (hb hby at_129) hh_) ?_
  show own_Run p e below s _ _ _ (T55.setTop (mkF m 130 #[.val (.long sd), .second, .val (.ref ob1), .val (.long (own_mix (sd + (-7046029254386353131 : Int64)))), .second, .val (.long (own_mix ((sd + (-7046029254386353131 : Int64)) + (-7046029254386353131 : Int64)))), .second, .val (.ref ob9), .val (.long (own_mix ((sd + (-7046029254386353131 : Int64)) + (-7046029254386353131 : Int64)))), .second, .val (.ref ob21), .val (.long (own_mix ((7046029254386353131 : Int64) + (-7046029254386353131 : Int64)))), .second, .val (.ref ob39), .val (.long (own_mix ((0 : Int64) + (-7046029254386353131 : Int64)))), .second, .val (.int (1 : Int32)), .val (.int (1 : Int32)), .val (.int (1 : Int32)), .unset] [(.int (1 : Int32))]))
  refine own_of (fun _ hh_ => XS.goto X55.here hx rfl (pc0 := 130) (pc' := 134) rfl (hb hby at_130) (by decide) (by decide) hh_) ?_
  show own_Run p e below s _ _ _ (T55.setTop (mkF m 134 #[.val (.long sd), .second, .val (.ref ob1), .val (.long (own_mix (sd + (-7046029254386353131 : Int64)))), .second, .val (.long (own_mix ((sd + (-7046029254386353131 : Int64)) + (-7046029254386353131 : Int64)))), .second, .val (.ref ob9), .val (.long (own_mix ((sd + (-7046029254386353131 : Int64)) + (-7046029254386353131 : Int64)))), .second, .val (.ref ob21), .val (.long (own_mix ((7046029254386353131 : Int64) + (-7046029254386353131 : Int64)))), .second, .val (.ref ob39), .val (.long (own_mix ((0 : Int64) + (-7046029254386353131 : Int64)))), .second, .val (.int (1 : Int32)), .val (.int (1 : Int32)), .val (.int (1 : Int32)), .unset] [(.int (1 : Int32))]))
  refine own_of (fun _ hh_ => XS.istore X55.here hx rfl (hb hby at_134) rfl (l' := #[.val (.long sd), .second, .val (.ref ob1), .val (.long (own_mix (sd + (-7046029254386353131 : Int64)))), .second, .val (.long (own_mix ((sd + (-7046029254386353131 : Int64)) + (-7046029254386353131 : Int64)))), .second, .val (.ref ob9), .val (.long (own_mix ((sd + (-7046029254386353131 : Int64)) + (-7046029254386353131 : Int64)))), .second, .val (.ref ob21), .val (.long (own_mix ((7046029254386353131 : Int64) + (-7046029254386353131 : Int64)))), .second, .val (.ref ob39), .val (.long (own_mix ((0 : Int64) + (-7046029254386353131 : Int64)))), .second, .val (.int (1 : Int32)), .val (.int (1 : Int32)), .val (.int (1 : Int32)), .val (.int (1 : Int32))]) rfl hh_) ?_
  show own_Run p e below s _ _ _ (T55.setTop (mkF m 136 #[.val (.long sd), .second, .val (.ref ob1), .val (.long (own_mix (sd + (-7046029254386353131 : Int64)))), .second, .val (.long (own_mix ((sd + (-7046029254386353131 : Int64)) + (-7046029254386353131 : Int64)))), .second, .val (.ref ob9), .val (.long (own_mix ((sd + (-7046029254386353131 : Int64)) + (-7046029254386353131 : Int64)))), .second, .val (.ref ob21), .val (.long (own_mix ((7046029254386353131 : Int64) + (-7046029254386353131 : Int64)))), .second, .val (.ref ob39), .val (.long (own_mix ((0 : Int64) + (-7046029254386353131 : Int64)))), .second, .val (.int (1 : Int32)), .val (.int (1 : Int32)), .val (.int (1 : Int32)), .val (.int (1 : Int32))] []))
  refine own_of (fun _ hh_ => XS.iload X55.here hx rfl (hb hby at_136) rfl hh_) ?_
  show own_Run p e below s _ _ _ (T55.setTop (mkF m 138 #[.val (.long sd), .second, .val (.ref ob1), .val (.long (own_mix (sd + (-7046029254386353131 : Int64)))), .second, .val (.long (own_mix ((sd + (-7046029254386353131 : Int64)) + (-7046029254386353131 : Int64)))), .second, .val (.ref ob9), .val (.long (own_mix ((sd + (-7046029254386353131 : Int64)) + (-7046029254386353131 : Int64)))), .second, .val (.ref ob21), .val (.long (own_mix ((7046029254386353131 : Int64) + (-7046029254386353131 : Int64)))), .second, .val (.ref ob39), .val (.long (own_mix ((0 : Int64) + (-7046029254386353131 : Int64)))), .second, .val (.int (1 : Int32)), .val (.int (1 : Int32)), .val (.int (1 : Int32)), .val (.int (1 : Int32))] [(.int (1 : Int32))]))
  refine own_of (fun _ hh_ => XS.ifNo X55.here hx rfl (hb hby at_138) rfl ((if0 _ _).trans (by decide)) hh_) ?_
  show own_Run p e below s _ _ _ (T55.setTop (mkF m 141 #[.val (.long sd), .second, .val (.ref ob1), .val (.long (own_mix (sd + (-7046029254386353131 : Int64)))), .second, .val (.long (own_mix ((sd + (-7046029254386353131 : Int64)) + (-7046029254386353131 : Int64)))), .second, .val (.ref ob9), .val (.long (own_mix ((sd + (-7046029254386353131 : Int64)) + (-7046029254386353131 : Int64)))), .second, .val (.ref ob21), .val (.long (own_mix ((7046029254386353131 : Int64) + (-7046029254386353131 : Int64)))), .second, .val (.ref ob39), .val (.long (own_mix ((0 : Int64) + (-7046029254386353131 : Int64)))), .second, .val (.int (1 : Int32)), .val (.int (1 : Int32)), .val (.int (1 : Int32)), .val (.int (1 : Int32))] []))
  refine own_of (fun _ hh_ => XS.iload X55.here hx rfl (hb hby at_141) rfl hh_) ?_
  show own_Run p e below s _ _ _ (T55.setTop (mkF m 143 #[.val (.long sd), .second, .val (.ref ob1), .val (.long (own_mix (sd + (-7046029254386353131 : Int64)))), .second, .val (.long (own_mix ((sd + (-7046029254386353131 : Int64)) + (-7046029254386353131 : Int64)))), .second, .val (.ref ob9), .val (.long (own_mix ((sd + (-7046029254386353131 : Int64)) + (-7046029254386353131 : Int64)))), .second, .val (.ref ob21), .val (.long (own_mix ((7046029254386353131 : Int64) + (-7046029254386353131 : Int64)))), .second, .val (.ref ob39), .val (.long (own_mix ((0 : Int64) + (-7046029254386353131 : Int64)))), .second, .val (.int (1 : Int32)), .val (.int (1 : Int32)), .val (.int (1 : Int32)), .val (.int (1 : Int32))] [(.int (1 : Int32))]))
  refine own_of (fun _ hh_ => XS.ifNo X55.here hx rfl (hb hby at_143) rfl ((if0 _ _).trans (by decide)) hh_) ?_
  show own_Run p e below s _ _ _ (T55.setTop (mkF m 146 #[.val (.long sd), .second, .val (.ref ob1), .val (.long (own_mix (sd + (-7046029254386353131 : Int64)))), .second, .val (.long (own_mix ((sd + (-7046029254386353131 : Int64)) + (-7046029254386353131 : Int64)))), .second, .val (.ref ob9), .val (.long (own_mix ((sd + (-7046029254386353131 : Int64)) + (-7046029254386353131 : Int64)))), .second, .val (.ref ob21), .val (.long (own_mix ((7046029254386353131 : Int64) + (-7046029254386353131 : Int64)))), .second, .val (.ref ob39), .val (.long (own_mix ((0 : Int64) + (-7046029254386353131 : Int64)))), .second, .val (.int (1 : Int32)), .val (.int (1 : Int32)), .val (.int (1 : Int32)), .val (.int (1 : Int32))] []))
  refine own_of (fun _ hh_ => XS.iload X55.here hx rfl (hb hby at_146) rfl hh_) ?_
  show own_Run p e below s _ _ _ (T55.setTop (mkF m 148 #[.val (.long sd), .second, .val (.ref ob1), .val (.long (own_mix (sd + (-7046029254386353131 : Int64)))), .second, .val (.long (own_mix ((sd + (-7046029254386353131 : Int64)) + (-7046029254386353131 : Int64)))), .second, .val (.ref ob9), .val (.long (own_mix ((sd + (-7046029254386353131 : Int64)) + (-7046029254386353131 : Int64)))), .second, .val (.ref ob21), .val (.long (own_mix ((7046029254386353131 : Int64) + (-7046029254386353131 : Int64)))), .second, .val (.ref ob39), .val (.long (own_mix ((0 : Int64) + (-7046029254386353131 : Int64)))), .second, .val (.int (1 : Int32)), .val (.int (1 : Int32)), .val (.int (1 : Int32)), .val (.int (1 : Int32))] [(.int (1 : Int32))]))
  refine own_of (fun _ hh_ => XS.ifNo X55.here hx rfl (hb hby at_148) rfl ((if0 _ _).trans (by decide)) hh_) ?_
  show own_Run p e below s _ _ _ (T55.setTop (mkF m 151 #[.val (.long sd), .second, .val (.ref ob1), .val (.long (own_mix (sd + (-7046029254386353131 : Int64)))), .second, .val (.long (own_mix ((sd + (-7046029254386353131 : Int64)) + (-7046029254386353131 : Int64)))), .second, .val (.ref ob9), .val (.long (own_mix ((sd + (-7046029254386353131 : Int64)) + (-7046029254386353131 : Int64)))), .second, .val (.ref ob21), .val (.long (own_mix ((7046029254386353131 : Int64) + (-7046029254386353131 : Int64)))), .second, .val (.ref ob39), .val (.long (own_mix ((0 : Int64) + (-7046029254386353131 : Int64)))), .second, .val (.int (1 : Int32)), .val (.int (1 : Int32)), .val (.int (1 : Int32)), .val (.int (1 : Int32))] []))
  refine own_of (fun _ hh_ => XS.iload X55.here hx rfl (hb hby at_151) rfl hh_) ?_
  show own_Run p e below s _ _ _ (T55.setTop (mkF m 153 #[.val (.long sd), .second, .val (.ref ob1), .val (.long (own_mix (sd + (-7046029254386353131 : Int64)))), .second, .val (.long (own_mix ((sd + (-7046029254386353131 : Int64)) + (-7046029254386353131 : Int64)))), .second, .val (.ref ob9), .val (.long (own_mix ((sd + (-7046029254386353131 : Int64)) + (-7046029254386353131 : Int64)))), .second, .val (.ref ob21), .val (.long (own_mix ((7046029254386353131 : Int64) + (-7046029254386353131 : Int64)))), .second, .val (.ref ob39), .val (.long (own_mix ((0 : Int64) + (-7046029254386353131 : Int64)))), .second, .val (.int (1 : Int32)), .val (.int (1 : Int32)), .val (.int (1 : Int32)), .val (.int (1 : Int32))] [(.int (1 : Int32))]))
  refine own_of (fun _ hh_ => XS.ifNo X55.here hx rfl (hb hby at_153) rfl ((if0 _ _).trans (by decide)) hh_) ?_
  show own_Run p e below s _ _ _ (T55.setTop (mkF m 156 #[.val (.long sd), .second, .val (.ref ob1), .val (.long (own_mix (sd + (-7046029254386353131 : Int64)))), .second, .val (.long (own_mix ((sd + (-7046029254386353131 : Int64)) + (-7046029254386353131 : Int64)))), .second, .val (.ref ob9), .val (.long (own_mix ((sd + (-7046029254386353131 : Int64)) + (-7046029254386353131 : Int64)))), .second, .val (.ref ob21), .val (.long (own_mix ((7046029254386353131 : Int64) + (-7046029254386353131 : Int64)))), .second, .val (.ref ob39), .val (.long (own_mix ((0 : Int64) + (-7046029254386353131 : Int64)))), .second, .val (.int (1 : Int32)), .val (.int (1 : Int32)), .val (.int (1 : Int32)), .val (.int (1 : Int32))] []))
  refine own_of (fun _ hh_ => XS.iconst X55.here hx rfl (hb hby at_156) hh_) ?_
  show own_Run p e below s _ _ _ (T55.setTop (mkF m 157 #[.val (.long sd), .second, .val (.ref ob1), .val (.long (own_mix (sd + (-7046029254386353131 : Int64)))), .second, .val (.long (own_mix ((sd + (-7046029254386353131 : Int64)) + (-7046029254386353131 : Int64)))), .second, .val (.ref ob9), .val (.long (own_mix ((sd + (-7046029254386353131 : Int64)) + (-7046029254386353131 : Int64)))), .second, .val (.ref ob21), .val (.long (own_mix ((7046029254386353131 : Int64) + (-7046029254386353131 : Int64)))), .second, .val (.ref ob39), .val (.long (own_mix ((0 : Int64) + (-7046029254386353131 : Int64)))), .second, .val (.int (1 : Int32)), .val (.int (1 : Int32)), .val (.int (1 : Int32)), .val (.int (1 : Int32))] [(.int (1 : Int32))]))
  refine own_of (fun _ hh_ => XS.goto X55.here hx rfl (pc0 := 157) (pc' := 161) rfl (hb hby at_157) (by decide) (by decide) hh_) ?_
  show own_Run p e below s _ _ _ (T55.setTop (mkF m 161 #[.val (.long sd), .second, .val (.ref ob1), .val (.long (own_mix (sd + (-7046029254386353131 : Int64)))), .second, .val (.long (own_mix ((sd + (-7046029254386353131 : Int64)) + (-7046029254386353131 : Int64)))), .second, .val (.ref ob9), .val (.long (own_mix ((sd + (-7046029254386353131 : Int64)) + (-7046029254386353131 : Int64)))), .second, .val (.ref ob21), .val (.long (own_mix ((7046029254386353131 : Int64) + (-7046029254386353131 : Int64)))), .second, .val (.ref ob39), .val (.long (own_mix ((0 : Int64) + (-7046029254386353131 : Int64)))), .second, .val (.int (1 : Int32)), .val (.int (1 : Int32)), .val (.int (1 : Int32)), .val (.int (1 : Int32))] [(.int (1 : Int32))]))
  exact own_retN X55 hx (t := .boolean) hret hlk (by simp) (hb hby at_161) ⟨rfl, N55⟩ (by decide) (by decide)
set_option maxRecDepth 65536 in
set_option maxHeartbeats 40000000 in
theorem comes_1 {Post : Tables → Env → Array Value → State → Outcome → State → Prop} (hpost : ∀ tb e args s v u, (limb_1_1.after args s (.returned v) u = true ∧ limb_1_2.after args s (.returned v) u = true ∧ True) → FrameEnd s (.returned v) u (Jvm.fieldLocs frame_1_writes args s ++ Jvm.arrayLocs frame_1_arrays args s ++ Jvm.staticLocs frame_1_statics s) 16 128 → Post tb e args s (.returned v) u) :
    ArmFor flags0 classFile x code maxLocals ret World_1 tables_1 room_1 Calls_1 rest_1 Pre_1 Post := by
  intro l hfl _ _ p e ha hc hk s m args below hf hA hF happ hP
  obtain ⟨hcalls, hrest, hpre⟩ := hP
  obtain ⟨-, -, -, hnamed, -, -, -, hat⟩ := (Spec.applies_iff hf).mp happ
  obtain ⟨hg, hn⟩ := and_e (Cond.before_iff.mp (show (Jvm.Cond.and given_1 narrow_1).before args s = true from hpre))
  obtain ⟨gg1, gg2⟩ := and_e hg
  obtain ⟨w0, rfl⟩ : ∃ w0 : Value, args = #[w0] := by
    have hs : args.size = 1 := by simpa [Cond.value, given_1] using gg1
    obtain ⟨L⟩ := args
    match L, hs with
    | [w0], _ => exact ⟨w0, rfl⟩
  have hw := fun d (hd : d ∈ tables_1) => atoms_spec (ws := Jvm.Cond.code x code maxLocals ret :: tables_1) hat d (List.mem_cons_of_mem _ hd)
  obtain ⟨i0, ei0⟩ := isL_v gg2
  obtain rfl : w0 = (.long i0) := Option.some.inj ei0
  obtain ⟨n, o, h1, h2, h3, _, L, rfl, ⟨rfl, N⟩, hq⟩ := rm0 l s _ hw tables_1 i0  s.heap s.heap.size (Nat.le_refl _)  p e ha hc hk s m _ below hf ((Spec.applies_iff_loose hf).mp happ).1 ⟨rfl, State.Warmed39.refl s, rfl⟩ trivial
  refine ⟨n, _, h1, h2, h3, hpost _ _ _ _ _ _ ⟨Cond.after_iff.mpr rfl, Cond.after_iff.mpr (eq_i res_at (Term.int_eval (1)) rfl), trivial⟩ ⟨hq.1, hq.2.1, (hq.2.2.sift fun y hy => Or.inr (N y hy)).mono (by decide) (by decide)⟩⟩
theorem main_1_1 : Claimed_1_1 := comes_1 fun _ _ _ _ _ _ h hF => ⟨h.1, hF⟩
theorem main_1_2 : Claimed_1_2 := comes_1 fun _ _ _ _ _ _ h hF => ⟨h.2.1, hF⟩
end Jvm.Pilot.@@N@@
namespace Jvm.Pilot.@@N@@
open Jvm Jvm.ClassFile Sem Op Lib Jvm.Free Jvm.Stand Jvm.Pilot.@@N@@.Jvm.D
/-! MADE BY PROGRAM (witnessworld.py) out of the Statement's table words and the real class files: 9 classes; the members and pool entries that the words name. The judged class is class 1, her method 1. -/
namespace start1
open Jvm.ClassFile
def u (s : String) : CpInfo := .utf8 (stringToUtf16 s)
/-- a pool by its gaps: so many unusable entries, then the entry; so many at the end -/
def gap : Nat → List CpInfo → List CpInfo
  | 0, r => r
  | n + 1, r => .unusable :: gap n r
def poolList (es : List (Nat × CpInfo)) (last : Nat) : List CpInfo := es.foldr (fun e r => gap e.1 (e.2 :: r)) (gap last [])
def pool (es : List (Nat × CpInfo)) (last : Nat) : Array CpInfo := ⟨poolList es last⟩
def fileOf (pool : Array CpInfo) (this : Nat) (attrs : Array Attribute := #[]) (ms : Array MethodInfo := #[]) (fl : Nat := 33) (sup : Nat := 0) (ifs : Array Nat := #[]) (fds : Array FieldInfo := #[]) : ClassFile where
  minorVersion := 0
  majorVersion := 65
  constantPool := pool
  accessFlags := fl
  thisClass := this
  superClass := sup
  interfaces := ifs
  fields := fds
  methods := ms
  attributes := attrs
def plain (name : String) (sup : Option ClassId) : Class where
  name := name
  kind := .ordinary
  loader := none
  accessFlags := 33
  super := sup
  interfaces := #[]
  cf := none
  fields := #[]
  methods := #[]
  instanceTypes := #[]
  staticTypes := #[]
  resolved := #[]
  callSites := []
  init := .initialized
  statics := none
  mirror := none

def pool0 : Array CpInfo := pool [(5, u "<init>"), (0, u "()V"), (1, .class_ 10), (1, u "java/lang/Object")] 113

def k0c0 : Code := { maxStack := 0, maxLocals := 1, code := object_method_1_code, exceptionTable := #[], attributes := #[] }
def k0m0 : Method := { name := "<init>", desc := "()V", sig := { parameters := [], returnType := none }, accessFlags := 1, code := some k0c0 }
/-- java/lang/Object -/
def k0 : Class := { plain "java/lang/Object" none with
  accessFlags := 33
  interfaces := #[]
  cf := some (fileOf pool0 8 #[] #[{ accessFlags := 1, nameIndex := 5, descriptorIndex := 6, attributes := #[] }] 33 0 #[] #[])
  fields := #[]
  methods := #[k0m0]
  instanceTypes := #[]
  staticTypes := #[]
  resolved := Array.replicate 124 none
  statics := none }

def pool1 : Array CpInfo := pool [(2, .class_ 4), (1, u "java/lang/Object"), (0, u "<init>"), (0, u "()V"), (0, .class_ 8), (0, u "com/example/cliquework/cliquework/random/SeededRandom"), (0, .methodref 7 10), (0, .nameAndType 5 11), (0, u "(J)V"), (0, .methodref 7 13), (0, .nameAndType 14 15), (0, u "nextLong"), (0, u "()J"), (0, .long 11400714819323198485), (1, .long 7046029254386353131), (1, .long 16294208416658607535), (1, .class_ 23), (0, u "com/example/cliquework/cliquework/random/SeededRandomNextLongPinLaw"), (2, u "law"), (0, u "(J)Z")] 3

def k1m0 : Method := { name := "<init>", desc := "()V", sig := { parameters := [], returnType := none }, accessFlags := 1, code := none }
def k1c1 : Code := { maxStack := 6, maxLocals := 20, code := code, exceptionTable := #[], attributes := #[] }
def k1m1 : Method := { name := "law", desc := "(J)Z", sig := { parameters := [.long], returnType := some .boolean }, accessFlags := 9, code := some k1c1 }
/-- com/example/cliquework/cliquework/random/SeededRandomNextLongPinLaw -/
def k1 : Class := { plain "com/example/cliquework/cliquework/random/SeededRandomNextLongPinLaw" (some 0) with
  accessFlags := 49
  interfaces := #[]
  cf := some (fileOf pool1 22 #[] #[{ accessFlags := 1, nameIndex := 5, descriptorIndex := 6, attributes := #[] }, { accessFlags := 9, nameIndex := 26, descriptorIndex := 27, attributes := #[] }] 49 2 #[] #[])
  fields := #[]
  methods := #[k1m0, k1m1]
  instanceTypes := #[]
  staticTypes := #[]
  resolved := Array.replicate 31 none
  statics := none }

def pool2 : Array CpInfo := pool [(1, .methodref 2 3), (0, .class_ 4), (0, .nameAndType 5 6), (0, u "java/lang/Object"), (0, u "<init>"), (0, u "()V"), (0, .fieldref 8 9), (0, .class_ 10), (0, .nameAndType 11 12), (0, u "com/example/cliquework/cliquework/random/SeededRandom"), (0, u "state"), (0, u "J"), (0, .long 11400714819323198485), (1, .long 13787848793156543929), (1, .long 10723151780598845931), (3, u "nextLong"), (0, u "()J"), (8, u "GAMMA"), (1, u "(J)V")] 7

def k2c0 : Code := { maxStack := 3, maxLocals := 3, code := prog_68_method_1_code, exceptionTable := #[], attributes := #[] }
def k2m0 : Method := { name := "<init>", desc := "(J)V", sig := { parameters := [.long], returnType := none }, accessFlags := 1, code := some k2c0 }
def k2c1 : Code := { maxStack := 5, maxLocals := 3, code := prog_68_method_2_code, exceptionTable := #[], attributes := #[] }
def k2m1 : Method := { name := "nextLong", desc := "()J", sig := { parameters := [], returnType := some .long }, accessFlags := 1, code := some k2c1 }
/-- com/example/cliquework/cliquework/random/SeededRandom -/
def k2 : Class := { plain "com/example/cliquework/cliquework/random/SeededRandom" (some 0) with
  accessFlags := 49
  interfaces := #[]
  cf := some (fileOf pool2 8 #[] #[{ accessFlags := 1, nameIndex := 5, descriptorIndex := 33, attributes := #[] }, { accessFlags := 1, nameIndex := 21, descriptorIndex := 22, attributes := #[] }] 49 2 #[] #[{ accessFlags := 26, nameIndex := 31, descriptorIndex := 12, attributes := #[] }, { accessFlags := 2, nameIndex := 11, descriptorIndex := 12, attributes := #[] }])
  fields := #[{ name := "GAMMA", type := .long, accessFlags := 26, slot := 0, constantValue := 0 }, { name := "state", type := .long, accessFlags := 2, slot := 0, constantValue := 0 }]
  methods := #[k2m0, k2m1]
  instanceTypes := #[.long]
  staticTypes := #[.long]
  resolved := Array.replicate 41 none
  statics := none }

def pool3 : Array CpInfo := pool [(1, u "java/lang/Cloneable"), (0, .class_ 1), (0, u "java/lang/Object"), (0, .class_ 3)] 3

/-- java/lang/Cloneable -/
def k3 : Class := { plain "java/lang/Cloneable" (some 0) with
  accessFlags := 1537
  interfaces := #[]
  cf := some (fileOf pool3 2 #[] #[] 1537 4 #[] #[])
  fields := #[]
  methods := #[]
  instanceTypes := #[]
  staticTypes := #[]
  resolved := Array.replicate 8 none
  statics := none }

def pool4 : Array CpInfo := pool [(1, u "java/io/Serializable"), (0, .class_ 1), (0, u "java/lang/Object"), (0, .class_ 3)] 3

/-- java/io/Serializable -/
def k4 : Class := { plain "java/io/Serializable" (some 0) with
  accessFlags := 1537
  interfaces := #[]
  cf := some (fileOf pool4 2 #[] #[] 1537 4 #[] #[])
  fields := #[]
  methods := #[]
  instanceTypes := #[]
  staticTypes := #[]
  resolved := Array.replicate 8 none
  statics := none }

/-- the primitive byte -/
def k5 : Class := { plain "byte" none with kind := .primitive 'B', accessFlags := 0x411 }
/-- [B -/
def k6 : Class := { plain "[B" (some 0) with kind := .array 5 .byte, interfaces := #[3, 4], accessFlags := 1041 }

/-- the primitive int -/
def k7 : Class := { plain "int" none with kind := .primitive 'I', accessFlags := 0x411 }
/-- [I -/
def k8 : Class := { plain "[I" (some 0) with kind := .array 7 .int, interfaces := #[3, 4], accessFlags := 1041 }

def heap : Heap := #[]
def classes : Array Class := #[k0, k1, k2, k3, k4, k5, k6, k7, k8]
def interned : List (Array UInt16 × Addr) := []
def slotsUsed : Nat := 0
def theMethod : MethodId := ⟨1, 1⟩
def args0 : Array Value := #[.long 5]
def aboutOver (below : List Frame) : State where
  vm := { classes := classes, interned := interned.toArray }
  heap := heap
  slotsUsed := slotsUsed
  threads := #[{ frames := .invoking theMethod args0 :: below }]
def below0 : List Frame := [.native { method := ⟨0, 0⟩, args := #[] }]
def about1 : State := aboutOver below0
def p0 : Program := .bare "" "" ""
def e0 : Env := launch0.env 0 0 0
theorem w_frames : about1.frames = Frame.invoking theMethod args0 :: below0 := rfl
set_option maxRecDepth 65536 in
theorem w_args : argsFit about1.vm theMethod args0 = true := by decide +kernel
set_option maxRecDepth 65536 in
theorem w_heap : heapFits about1 = true := by decide +kernel
set_option maxRecDepth 65536 in
theorem w_runnable : about1.curStatus? = some .runnable := by decide +kernel
set_option maxRecDepth 65536 in
theorem w_alone : about1.alone = true := by decide +kernel
set_option maxRecDepth 65536 in
theorem w_named : about1.methodNamed? x = some theMethod := by decide +kernel
set_option maxRecDepth 65536 in
theorem w_hears : about1.hears theMethod below0 = true := by decide +kernel
set_option maxRecDepth 65536 in
theorem w_ripe : about1.ripe theMethod args0 below0 = true := by decide +kernel
theorem w_running : about1.status = .running := rfl
set_option maxRecDepth 65536 in
theorem w_room : about1.hasRoom e0.platform room_1 = true :=
  launch0.hasRoom_least _ room_1 (by decide +kernel) (by decide +kernel) (by decide +kernel) (by decide +kernel) (by decide +kernel) (by decide +kernel)
theorem allAtoms_all (ts : List Jvm.Cond) (a : Array Jvm.Value) (st : Jvm.State) : (allAtoms ts).before a st = ts.all (fun c => c.before a st) := by
  induction ts with
  | nil => rfl
  | cons c t ih =>
    show (Jvm.Cond.and c (allAtoms t)).before a st = _
    rw [Jvm.Cond.before_and, ih, List.all_cons]
def words1 : List Jvm.Cond := Jvm.Cond.code x code maxLocals ret :: tables_1
/-- a 'code' word, met by the world's own term for the bytes: nothing is compared byte by byte -/
theorem code_word {y : MethodName} {bytes : ByteArray} {mx : Nat} {rt : Option FieldType} {a : Array Value} {s : State} {m : MethodId} {meth : Method} {c : Code} (h1 : s.methodNamed? y = some m) (h2 : s.vm.method? m = some meth) (h3 : meth.code = some c) (h4 : c.code = bytes)
    (h5 : (c.maxLocals == mx && c.exceptionTable.isEmpty && decide (c.maxStack ≤ mostOperands) && decide (meth.sig.returnType = rt) && !meth.locks && decide (parseMethodDescriptor y.desc = some meth.sig)) = true) : (Jvm.Cond.code y bytes mx rt).before a s = true := by
  simp only [Bool.and_eq_true, beq_iff_eq, Bool.not_eq_true', decide_eq_true_eq] at h5
  obtain ⟨⟨⟨⟨⟨g1, g2⟩, g3⟩, g4⟩, g5⟩, g6⟩ := h5
  simp [Cond.before, Cond.holds, Cond.value, h1, h2, h3, h4, g1, g2, g3, g4, g5, g6]
def isCode : Jvm.Cond → Bool
  | .code _ _ _ _ => true
  | _ => false
theorem all_split {L : List Jvm.Cond} {P : Jvm.Cond → Bool} (h1 : L.all (fun c => isCode c || P c) = true) (h2 : ∀ c ∈ L.filter isCode, P c = true) : L.all P = true := by
  refine List.all_eq_true.mpr fun c hc => ?_
  have h := List.all_eq_true.mp h1 c hc
  rcases Bool.eq_false_or_eq_true (isCode c) with hi | hi
  · exact h2 c (List.mem_filter.mpr ⟨hc, hi⟩)
  · simpa [hi] using h
set_option maxRecDepth 65536 in
theorem w_c0 : (Jvm.Cond.code x code maxLocals ret).before args0 about1 = true := code_word (m := ⟨1, 1⟩) (meth := k1m1) (c := k1c1) (by decide +kernel) rfl rfl rfl (by decide +kernel)
set_option maxRecDepth 65536 in
theorem w_c1 : (Jvm.Cond.code ({ cls := "com/example/cliquework/cliquework/random/SeededRandom", name := "<init>", desc := "(J)V" } : Jvm.MethodName) prog_68_method_1_code (3 : Nat) (Option.none : Option Jvm.ClassFile.FieldType)).before args0 about1 = true := code_word (m := ⟨2, 0⟩) (meth := k2m0) (c := k2c0) (by decide +kernel) rfl rfl rfl (by decide +kernel)
set_option maxRecDepth 65536 in
theorem w_c2 : (Jvm.Cond.code ({ cls := "java/lang/Object", name := "<init>", desc := "()V" } : Jvm.MethodName) object_method_1_code (1 : Nat) (Option.none : Option Jvm.ClassFile.FieldType)).before args0 about1 = true := code_word (m := ⟨0, 0⟩) (meth := k0m0) (c := k0c0) (by decide +kernel) rfl rfl rfl (by decide +kernel)
set_option maxRecDepth 65536 in
theorem w_c3 : (Jvm.Cond.code ({ cls := "com/example/cliquework/cliquework/random/SeededRandom", name := "nextLong", desc := "()J" } : Jvm.MethodName) prog_68_method_2_code (3 : Nat) (Option.some Jvm.ClassFile.FieldType.long)).before args0 about1 = true := code_word (m := ⟨2, 1⟩) (meth := k2m1) (c := k2c1) (by decide +kernel) rfl rfl rfl (by decide +kernel)
def codes1 : List Jvm.Cond := [Jvm.Cond.code x code maxLocals ret, Jvm.Cond.code ({ cls := "com/example/cliquework/cliquework/random/SeededRandom", name := "<init>", desc := "(J)V" } : Jvm.MethodName) prog_68_method_1_code (3 : Nat) (Option.none : Option Jvm.ClassFile.FieldType), Jvm.Cond.code ({ cls := "java/lang/Object", name := "<init>", desc := "()V" } : Jvm.MethodName) object_method_1_code (1 : Nat) (Option.none : Option Jvm.ClassFile.FieldType), Jvm.Cond.code ({ cls := "com/example/cliquework/cliquework/random/SeededRandom", name := "nextLong", desc := "()J" } : Jvm.MethodName) prog_68_method_2_code (3 : Nat) (Option.some Jvm.ClassFile.FieldType.long)]
set_option maxRecDepth 65536 in
theorem codes_eq : words1.filter isCode = codes1 := rfl
theorem w_codes : ∀ c ∈ words1.filter isCode, c.before args0 about1 = true := by
  rw [codes_eq]
  intro c hc
  simp only [codes1, List.mem_cons, List.not_mem_nil, or_false] at hc
  rcases hc with rfl | rfl | rfl | rfl
  · exact w_c0
  · exact w_c1
  · exact w_c2
  · exact w_c3
set_option maxRecDepth 65536 in
theorem w_t1 : words1.all (fun c => isCode c || c.before args0 about1) = true := by decide +kernel
theorem w_tables : (allAtoms (Jvm.Cond.code x code maxLocals ret :: tables_1)).before args0 about1 = true := by
  rw [allAtoms_all]
  show words1.all (fun c => c.before args0 about1) = true
  refine all_split ?_ w_codes
  rw [w_t1]
set_option maxRecDepth 65536 in
theorem w_case : (Jvm.Cond.and given_1 narrow_1).before args0 about1 = true := by decide +kernel
theorem w_applies : (headSpec (Jvm.Cond.code x code maxLocals ret :: tables_1) room_1).applies x e0.platform about1 = true :=
  (Spec.applies_iff w_frames).mpr ⟨w_running, w_runnable, w_alone, w_named, w_hears, w_ripe, w_room, w_tables⟩
theorem atStart : AtStart classFile x code maxLocals ret World_1 tables_1 room_1 Calls_1 rest_1 Pre_1 launch0 p0 e0 about1 theMethod args0 below0 :=
  ⟨lists_1, trivial, launch0.admits_env _ _ _, launch0.least_env, fairChoices_fair.cas, fairChoices_fair.clock, w_frames, w_args, w_heap, w_applies, trivial, trivial, w_case⟩
end start1
theorem witness_1 : WitnessClaimed_1 := ⟨start1.p0, start1.e0, start1.about1, start1.theMethod, start1.args0, start1.below0, start1.atStart⟩
end Jvm.Pilot.@@N@@
