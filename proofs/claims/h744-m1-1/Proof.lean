import JvmDerived
import JvmDerived.Pilot.@@N@@Statement
import JvmDerived.Pilot.@@N@@Code
set_option linter.unusedVariables false
set_option linter.unusedSimpArgs false
namespace Jvm.Pilot.@@N@@
open Jvm Jvm.ClassFile Sem Op Lib Jvm.Free Jvm.Stand Jvm.LawKit Jvm.RoadKit Bundle Jvm.Pilot.@@N@@.Jvm.D
section Own
variable {p : Program} {l : Launch} {e : Env} {R : Room} {s : State} {m : MethodId} {args : Array Value} {below : List Frame} {meth : Method} {c : Code} {T : State} {locs : List Loc} {cells slots : Nat} {C N : Nat} {Q : Option Value → Heap → List Loc → Prop} {V V' : State}
/-- from the state V the method comes to its return, and leaves what Q says -/
def own_Run (p : Program) (e : Env) (below : List Frame) (s : State) (C N : Nat) (Q : Option Value → Heap → List Loc → Prop) (V : State) : Prop :=
  ∃ s₂ o, Steps p.tables e below V s₂ ∧ s₂.status = .running ∧ Ended s₂ below o ∧ ∃ v L, o = .returned v ∧ Q v s₂.heap L ∧ FrameEnd s o s₂ L C N
theorem own_of (k : ∀ t, Steps p.tables e below V' t → Steps p.tables e below V t) (r : own_Run p e below s C N Q V') : own_Run p e below s C N Q V := by
  obtain ⟨s₂, o, h, q⟩ := r
  exact ⟨s₂, o, k _ h, q⟩
theorem own_tr (k : Steps p.tables e below V V') (r : own_Run p e below s C N Q V') : own_Run p e below s C N Q V := own_of (fun _ h => k.trans h) r
theorem own_cast {g g' : JFrame} (q : g = g') (r : own_Run p e below s C N Q (T.setTop g')) : own_Run p e below s C N Q (T.setTop g) := q ▸ r
theorem own_ret (X : Stand p l e R s m args below meth c T locs cells slots) (hx : p.tables.exec = Jvm.exec) {pc : Nat} {Ls : Array Slot} {w : Value} {t : FieldType} {i : Instr} {rest : List Value} (hret : meth.sig.returnType = some t) (hlk : meth.locks = false) (hn : narrow t w = w)
    (hi : (i = .ireturn ∧ (t = .int ∨ t = .boolean ∨ t = .byte ∨ t = .char ∨ t = .short) ∧ ∃ z, w = .int z) ∨ (i = .lreturn ∧ t = .long ∧ ∃ z, w = .long z) ∨ (i = .dreturn ∧ t = .double ∧ ∃ z, w = .double z) ∨ (i = .freturn ∧ t = .float ∧ ∃ z, w = .float z) ∨ (i = .areturn ∧ t.isReference = true ∧ w.isRef = true))
    (hd : decode c.code pc = .ok (i, 1)) (q : Q (some w) T.heap locs) (hc : cells ≤ C) (hs : slots ≤ N) : own_Run p e below s C N Q (T.setTop (mkF m pc Ls (w :: rest))) := by
  obtain ⟨fs, hr, hrun, hended, hW, hsame⟩ := X.leave (v := some w) (fun h => by rw [hret] at h; cases h) hlk
  exact ⟨_, _, retOut X hx hret hn hi hd hr, hrun, hended, _, _, rfl, q, ⟨_, rfl⟩, hW, hsame.mono hc hs⟩
theorem own_retI (X : Stand p l e R s m args below meth c T locs cells slots) (hx : p.tables.exec = Jvm.exec) {pc : Nat} {Ls : Array Slot} {z : Int32} {rest : List Value} (hret : meth.sig.returnType = some .int) (hlk : meth.locks = false)
    (hd : decode c.code pc = .ok (.ireturn, 1)) (q : Q (some (.int z)) T.heap locs) (hc : cells ≤ C) (hs : slots ≤ N) : own_Run p e below s C N Q (T.setTop (mkF m pc Ls (.int z :: rest))) :=
  own_ret X hx hret hlk rfl (Or.inl ⟨rfl, Or.inl rfl, z, rfl⟩) hd q hc hs
theorem own_retJ (X : Stand p l e R s m args below meth c T locs cells slots) (hx : p.tables.exec = Jvm.exec) {pc : Nat} {Ls : Array Slot} {z : Int64} {rest : List Value} (hret : meth.sig.returnType = some .long) (hlk : meth.locks = false)
    (hd : decode c.code pc = .ok (.lreturn, 1)) (q : Q (some (.long z)) T.heap locs) (hc : cells ≤ C) (hs : slots ≤ N) : own_Run p e below s C N Q (T.setTop (mkF m pc Ls (.long z :: rest))) :=
  own_ret X hx hret hlk rfl (Or.inr (Or.inl ⟨rfl, rfl, z, rfl⟩)) hd q hc hs
theorem own_retN (X : Stand p l e R s m args below meth c T locs cells slots) (hx : p.tables.exec = Jvm.exec) {pc : Nat} {Ls : Array Slot} {z : Int32} {t : FieldType} {rest : List Value} (hret : meth.sig.returnType = some t) (hlk : meth.locks = false) (ht : t = .boolean ∨ t = .byte ∨ t = .char ∨ t = .short)
    (hd : decode c.code pc = .ok (.ireturn, 1)) (q : Q (some (.int (nar t z))) T.heap locs) (hc : cells ≤ C) (hs : slots ≤ N) : own_Run p e below s C N Q (T.setTop (mkF m pc Ls (.int z :: rest))) := by
  obtain ⟨fs, hr, hrun, hended, hW, hsame⟩ := X.leave (v := some (.int (nar t z))) (fun h => by rw [hret] at h; cases h) hlk
  exact ⟨_, _, retN X hx hret ht hd hr, hrun, hended, _, _, rfl, q, ⟨_, rfl⟩, hW, hsame.mono hc hs⟩
theorem own_retV (X : Stand p l e R s m args below meth c T locs cells slots) (hx : p.tables.exec = Jvm.exec) {pc : Nat} {Ls : Array Slot} (hret : meth.sig.returnType = none) (hlk : meth.locks = false)
    (hd : decode c.code pc = .ok (.return_, 1)) (q : Q none T.heap locs) (hc : cells ≤ C) (hs : slots ≤ N) : own_Run p e below s C N Q (T.setTop (mkF m pc Ls [])) := by
  obtain ⟨fs, hr, hrun, hended, hW, hsame⟩ := X.leave (v := none) (fun _ => rfl) hlk
  exact ⟨_, _, X.returnOut hx hret hd hr, hrun, hended, _, _, rfl, q, ⟨_, rfl⟩, hW, hsame.mono hc hs⟩
end Own
section OwnArrays
variable {p : Program} {l : Launch} {e : Env} {R : Room} {s : State} {m : MethodId} {args : Array Value} {below : List Frame} {meth : Method} {c : Code} {T : State} {locs : List Loc} {cells slots : Nat} {C N : Nat} {Q : Option Value → Heap → List Loc → Prop} {Z : State} {h h' : Heap} {a b : Addr} {ty : FieldType} {n : Nat} {f g : Nat → Int32} {v : Value} {sl : Nat} {ws : List Addr}
/-- in the heap h, at a, an array of the kind ty and n places; its place i holds the int f i -/
def own_Ar (Z : State) (h : Heap) (a : Addr) (ty : FieldType) (n : Nat) (f : Nat → Int32) : Prop := ∃ c : Cell, Arr Z h a c ty ∧ c.slots.size = n ∧ ∀ i, i < n → c.slots[i]? = some (.int (f i))
def own_up (f : Nat → Int32) (j : Nat) (v : Int32) : Nat → Int32 := fun i => if i = j then v else f i
theorem own_Ar.lt (F : own_Ar Z h a ty n f) : a < h.size := by obtain ⟨c, A, -⟩ := F; exact A.lt
theorem own_Ar.ext (F : own_Ar Z h a ty n f) (E : Ext h h') : own_Ar Z h' a ty n f := by obtain ⟨c, A, r⟩ := F; exact ⟨c, A.ext E, r⟩
theorem own_Ar.other (F : own_Ar Z h b ty n f) (W : Wr h h' a sl v) (q : b ≠ a) : own_Ar Z h' b ty n f := by obtain ⟨c, A, r⟩ := F; exact ⟨c, A.other W q, r⟩
theorem own_Ar.keep (F : own_Ar Z h a ty n f) (K : Keep h h' ws) (q : a ∉ ws) : own_Ar Z h' a ty n f := by obtain ⟨c, A, r⟩ := F; exact ⟨c, ⟨K.2.1 a c A.1 q, A.2⟩, r⟩
theorem own_Ar.congr (F : own_Ar Z h a ty n f) (q : ∀ i, i < n → f i = g i) : own_Ar Z h a ty n g := by obtain ⟨c, A, r, H⟩ := F; exact ⟨c, A, r, fun i hi => by rw [← q i hi]; exact H i hi⟩
theorem own_Ar.new {k : ClassId} {z : Int32} (A : Arr Z h a (newA k ty z) ty) (hd : defaultValue ty = .int 0) (hn : z.toNatClampNeg = n) : own_Ar Z h a ty n (fun _ => 0) :=
  ⟨_, A, by rw [sz_new, hn], fun i hi => by simp [newA, hd, hn, hi]⟩
theorem own_Ar.set {w : Int32} {j : Nat} (F : own_Ar Z h a ty n f) (W : Wr h h' a j (.int w)) (hj : j < n) : own_Ar Z h' a ty n (own_up f j w) := by
  obtain ⟨c, A, r, H⟩ := F
  refine ⟨_, A.same W, by rw [sz_set]; exact r, fun i hi => ?_⟩
  by_cases q : i = j
  · subst q
    simp [own_up, Cell.setSlot, r, hi]
  · rw [show (c.setSlot j (.int w)).slots[i]? = c.slots[i]? from Array.getElem?_setIfInBounds_ne (Ne.symm q)]
    simp [own_up, q, H i hi]
theorem own_bal (X : Stand p l e R s m args below meth c T locs cells slots) (hx : p.tables.exec = Jvm.exec) (hZ : Z.Warmed39 s.vm) (eT : T.heap = h) (A : own_Ar Z h a .byte n f) {j w : Int32} (h1 : ¬ j < 0) (h2 : j.toNatClampNeg < n) (hv : f j.toNatClampNeg = w)
    {pc : Nat} {Ls : Array Slot} {rest : List Value} (hd : decode c.code pc = .ok (.baload, 1)) (r : own_Run p e below s C N Q (T.setTop (mkF m (pc + 1) Ls (.int w :: rest)))) : own_Run p e below s C N Q (T.setTop (mkF m pc Ls (.int j :: .ref a :: rest))) := by
  obtain ⟨c, A, S, H⟩ := A
  subst hv
  exact own_of (fun t k => X.baloadBytes hx (j := j) (v := .int (f j.toNatClampNeg)) (by rw [eT]; exact A.1) (State.isArrayOf_alike hZ.alike A.2.1) A.2.2 (by rw [S]; exact fun q => q.elim h1 (Nat.not_le.mpr h2)) (H _ h2) (g := mkF m pc Ls (.int j :: .ref a :: rest)) rfl rfl hd t k) r
theorem own_ial (X : Stand p l e R s m args below meth c T locs cells slots) (hx : p.tables.exec = Jvm.exec) (hZ : Z.Warmed39 s.vm) (eT : T.heap = h) (A : own_Ar Z h a .int n f) {j w : Int32} (h1 : ¬ j < 0) (h2 : j.toNatClampNeg < n) (hv : f j.toNatClampNeg = w)
    {pc : Nat} {Ls : Array Slot} {rest : List Value} (hd : decode c.code pc = .ok (.iaload, 1)) (r : own_Run p e below s C N Q (T.setTop (mkF m (pc + 1) Ls (.int w :: rest)))) : own_Run p e below s C N Q (T.setTop (mkF m pc Ls (.int j :: .ref a :: rest))) := by
  obtain ⟨c, A, S, H⟩ := A
  subst hv
  exact own_of (fun t k => X.iaload hx (j := j) (v := .int (f j.toNatClampNeg)) (by rw [eT]; exact A.1) (State.isArrayOf_alike hZ.alike A.2.1) A.2.2 (by rw [S]; exact fun q => q.elim h1 (Nat.not_le.mpr h2)) (H _ h2) (g := mkF m pc Ls (.int j :: .ref a :: rest)) rfl rfl hd t k) r
theorem own_alen (X : Stand p l e R s m args below meth c T locs cells slots) (hx : p.tables.exec = Jvm.exec) (hZ : Z.Warmed39 s.vm) (eT : T.heap = h) (A : own_Ar Z h a ty n f) {w : Int32} (hv : n.toInt32 = w)
    {pc : Nat} {Ls : Array Slot} {rest : List Value} (hd : decode c.code pc = .ok (.arraylength, 1)) (r : own_Run p e below s C N Q (T.setTop (mkF m (pc + 1) Ls (.int w :: rest)))) : own_Run p e below s C N Q (T.setTop (mkF m pc Ls (.ref a :: rest))) := by
  obtain ⟨c, A, S, H⟩ := A
  subst hv S
  exact own_of (fun t k => X.arraylength hx (by rw [eT]; exact A.1) (State.isArrayOf_alike hZ.alike A.2.1) (g := mkF m pc Ls (.ref a :: rest)) rfl rfl hd t k) r
theorem own_bas (X : Stand p l e R s m args below meth c T locs cells slots) (hx : p.tables.exec = Jvm.exec) (hZ : Z.Warmed39 s.vm) (eT : T.heap = h) (A : own_Ar Z h a .byte n f) {j x : Int32} (h1 : ¬ j < 0) (h2 : j.toNatClampNeg < n)
    {pc : Nat} {Ls : Array Slot} {rest : List Value} (hd : decode c.code pc = .ok (.bastore, 1)) :
    ∃ T' h', Stand p l e R s m args below meth c T' (locs ++ [⟨a, j.toNatClampNeg⟩]) cells slots ∧ T'.heap = h' ∧ Wr h h' a j.toNatClampNeg (.int x.toInt8.toInt32) ∧ own_Ar Z h' a .byte n (own_up f j.toNatClampNeg x.toInt8.toInt32) ∧
      ∀ t, Steps p.tables e below (T'.setTop (mkF m (pc + 1) Ls rest)) t → Steps p.tables e below (T.setTop (mkF m pc Ls (.int x :: .int j :: .ref a :: rest))) t := by
  obtain ⟨c, A, S, H⟩ := id A
  obtain ⟨T', h', X', e', W, st⟩ := stB X hx hZ eT A (j := j) (x := x) (by rw [S]; exact fun q => q.elim h1 (Nat.not_le.mpr h2)) (g := mkF m pc Ls (.int x :: .int j :: .ref a :: rest)) rfl rfl hd
  exact ⟨T', h', X', e', W, own_Ar.set ⟨c, A, S, H⟩ W h2, st⟩
theorem own_ias (X : Stand p l e R s m args below meth c T locs cells slots) (hx : p.tables.exec = Jvm.exec) (hZ : Z.Warmed39 s.vm) (eT : T.heap = h) (A : own_Ar Z h a .int n f) {j x : Int32} (h1 : ¬ j < 0) (h2 : j.toNatClampNeg < n)
    {pc : Nat} {Ls : Array Slot} {rest : List Value} (hd : decode c.code pc = .ok (.iastore, 1)) :
    ∃ T' h', Stand p l e R s m args below meth c T' (locs ++ [⟨a, j.toNatClampNeg⟩]) cells slots ∧ T'.heap = h' ∧ Wr h h' a j.toNatClampNeg (.int x) ∧ own_Ar Z h' a .int n (own_up f j.toNatClampNeg x) ∧
      ∀ t, Steps p.tables e below (T'.setTop (mkF m (pc + 1) Ls rest)) t → Steps p.tables e below (T.setTop (mkF m pc Ls (.int x :: .int j :: .ref a :: rest))) t := by
  obtain ⟨c, A, S, H⟩ := id A
  obtain ⟨T', h', X', e', W, st⟩ := stI X hx hZ eT A (j := j) (x := x) (by rw [S]; exact fun q => q.elim h1 (Nat.not_le.mpr h2)) (g := mkF m pc Ls (.int x :: .int j :: .ref a :: rest)) rfl rfl hd
  exact ⟨T', h', X', e', W, own_Ar.set ⟨c, A, S, H⟩ W h2, st⟩
end OwnArrays
theorem own_addL (x y : Int64) (h1 : -9223372036854775808 ≤ x.toInt + y.toInt) (h2 : x.toInt + y.toInt < 9223372036854775808) : (x + y).toInt = x.toInt + y.toInt := by
  have a := c_ladd x y
  have b := rng64 (x + y)
  omega
theorem own_subL (x y : Int64) (h1 : -9223372036854775808 ≤ x.toInt - y.toInt) (h2 : x.toInt - y.toInt < 9223372036854775808) : (x - y).toInt = x.toInt - y.toInt := by
  have a := c_lsub x y
  have b := rng64 (x - y)
  omega
theorem own_negL (x : Int64) (h1 : -9223372036854775808 < x.toInt) : (-x).toInt = -x.toInt := by
  have a := c_lneg x
  have b := rng64 (-x)
  have d := rng64 x
  omega
def own_minL (a b : Int64) : Int64 := if b < a then b else a
def own_maxL (a b : Int64) : Int64 := if a < b then b else a
theorem own_minL_i (a b : Int64) : (own_minL a b).toInt = if b.toInt < a.toInt then b.toInt else a.toInt := by
  unfold own_minL
  by_cases h : b < a
  · rw [if_pos h, if_pos (Int64.lt_iff_toInt_lt.mp h)]
  · rw [if_neg h, if_neg (mt Int64.lt_iff_toInt_lt.mpr h)]
theorem own_maxL_i (a b : Int64) : (own_maxL a b).toInt = if a.toInt < b.toInt then b.toInt else a.toInt := by
  unfold own_maxL
  by_cases h : a < b
  · rw [if_pos h, if_pos (Int64.lt_iff_toInt_lt.mp h)]
  · rw [if_neg h, if_neg (mt Int64.lt_iff_toInt_lt.mpr h)]
theorem own_ltL {a b : Int64} : a < b ↔ a.toInt < b.toInt := Int64.lt_iff_toInt_lt
theorem own_maskL (x : Int64) : 0 ≤ (x &&& (9223372036854775807 : Int64)).toInt := by
  have a := c_maskL x (9223372036854775807 : Int64) 63 (by decide) (by decide)
  have a' : (x &&& (9223372036854775807 : Int64)).toInt = x.toInt % 9223372036854775808 := a
  omega
theorem own_remL (x y : Int64) (hx : 0 ≤ x.toInt) (hy : 0 < y.toInt) : 0 ≤ (x - (x / y) * y).toInt ∧ (x - (x / y) * y).toInt < y.toInt := by
  have a := (c_lrem x y y.toInt rfl).1 hx
  rw [a]
  exact ⟨Int.emod_nonneg _ (by omega), Int.emod_lt_of_pos _ hy⟩
theorem own_lM : (9223372036854775807 : Int64).toInt = 9223372036854775807 := rfl
theorem own_lM1 : (9223372036854775806 : Int64).toInt = 9223372036854775806 := rfl
theorem own_l0 : (0 : Int64).toInt = 0 := rfl
theorem own_l1 : (1 : Int64).toInt = 1 := rfl
theorem dmin_0 : decode jdk_29_method_70_code 0 = .ok (.lload_n 0, 1) := by decide +kernel
theorem dmin_1 : decode jdk_29_method_70_code 1 = .ok (.lload_n 2, 1) := by decide +kernel
theorem dmin_2 : decode jdk_29_method_70_code 2 = .ok (.lcmp, 1) := by decide +kernel
theorem dmin_3 : decode jdk_29_method_70_code 3 = .ok (.ifCond .gt 7, 3) := by decide +kernel
theorem dmin_6 : decode jdk_29_method_70_code 6 = .ok (.lload_n 0, 1) := by decide +kernel
theorem dmin_7 : decode jdk_29_method_70_code 7 = .ok (.goto 4, 3) := by decide +kernel
theorem dmin_10 : decode jdk_29_method_70_code 10 = .ok (.lload_n 2, 1) := by decide +kernel
theorem dmin_11 : decode jdk_29_method_70_code 11 = .ok (.lreturn, 1) := by decide +kernel
theorem efmin (m : MethodId) (u1 : Int64) (u2 : Int64) : entryFrame m #[(.long u1), (.long u2)] 4 = mkF m 0 #[.val (.long u1), .second, .val (.long u2), .second] [] := by first | (simp [entryFrame, mkF, argsToLocals, Value.category]; done) | rfl
def Qmin (Z : State) (u1 : Int64) (u2 : Int64) (h0 : Heap) (n0 : Nat) (v : Option Value) (h : Heap) (L : List Loc) : Prop := v = some (.long (own_minL u1 u2)) ∧ Fr n0 L ∧ h = h0
set_option maxRecDepth 65536 in
set_option maxHeartbeats 40000000 in
theorem rmmin (l : Launch) (Z : State) (a0 : Array Value) (hw : ∀ d ∈ tables_1, d.before a0 Z = true) (ws : List Jvm.Cond) (u1 : Int64) (u2 : Int64) (h0 : Heap) (n0 : Nat) (Z0 : n0 ≤ h0.size)  :
    MetFree l (⟨"java/lang/Math", "min", "(JJ)J"⟩ : MethodName) (head1 (Jvm.Cond.code (⟨"java/lang/Math", "min", "(JJ)J"⟩ : MethodName) jdk_29_method_70_code 4 (some .long) :: ws) ({ frames := 0, cells := 0, slots := 0, locals := 0 } : Room)) (fun a U => a = #[(.long u1), (.long u2)] ∧ Z.Warmed39 U.vm ∧ U.heap = h0) (fun _ _ _ _ _ => True) (fun _ U o U' => ∃ v L, o = .returned v ∧ Qmin Z u1 u2 h0 n0 v U'.heap L ∧ FrameEnd U o U' L ({ frames := 0, cells := 0, slots := 0, locals := 0 } : Room).cells ({ frames := 0, cells := 0, slots := 0, locals := 0 } : Room).slots) := by
  refine MetFree.of_bodySF (Jvm.Free.JP.mathPlain rfl (by decide +kernel)) hisR ?_
  intro p e s m args below meth c s₁ Bd hml0 hP hK
  obtain ⟨rfl, hZ, hh⟩ := hP
  have hx := Bd.exec
  have hby := Bd.bytes
  have hml : c.maxLocals = 4 := hml0
  have hown : s.vm.findClass "java/lang/Math" = some m.cls := findClass_of_methodNamed Bd.named
  have hnm := (name_of_methodNamed Bd.named Bd.method).1
  have hlk := Bd.notSynchronized
  have hret := Bd.returns
  have X0 : Stand p l e ({ frames := 0, cells := 0, slots := 0, locals := 0 } : Room) s m #[(.long u1), (.long u2)] below meth c s₁ [] 0 0 := Stand.of_body Bd
  have e0 : s₁.heap = h0 := by rw [← hh, Bd.state]; rfl
  have N0 := Fr.nil n0
  show own_Run p e below s 0 0 (Qmin Z u1 u2 h0 n0) (s₁.setTop (entryFrame m #[(.long u1), (.long u2)] 4))
  refine own_cast (efmin m u1 u2) ?_
  show own_Run p e below s _ _ _ (s₁.setTop (mkF m 0 #[.val (.long u1), .second, .val (.long u2), .second] []))
  refine own_of (fun _ hh_ => XS.lloadN X0.here hx rfl (hb hby dmin_0) rfl hh_) ?_
  show own_Run p e below s _ _ _ (s₁.setTop (mkF m 1 #[.val (.long u1), .second, .val (.long u2), .second] [(.long u1)]))
  refine own_of (fun _ hh_ => XS.lloadN X0.here hx rfl (hb hby dmin_1) rfl hh_) ?_
  show own_Run p e below s _ _ _ (s₁.setTop (mkF m 2 #[.val (.long u1), .second, .val (.long u2), .second] [(.long u2), (.long u1)]))
  refine own_of (fun _ hh_ => XS.lcmp X0.here hx rfl (hb hby dmin_2) rfl hh_) ?_
  show own_Run p e below s _ _ _ (s₁.setTop (mkF m 3 #[.val (.long u1), .second, .val (.long u2), .second] [(.int (lcmpW u1 u2))]))
  by_cases hc3_1 : u2 < u1
  · refine own_of (fun _ hh_ => XS.ifYes X0.here hx rfl (pc0 := 3) (pc' := 10) rfl (hb hby dmin_3) rfl ((if0 _ _).trans (tlt ((lw_gt _ _).mpr hc3_1)).2.2.1) (by decide) (by decide) hh_) ?_
    show own_Run p e below s _ _ _ (s₁.setTop (mkF m 10 #[.val (.long u1), .second, .val (.long u2), .second] []))
    refine own_of (fun _ hh_ => XS.lloadN X0.here hx rfl (hb hby dmin_10) rfl hh_) ?_
    show own_Run p e below s _ _ _ (s₁.setTop (mkF m 11 #[.val (.long u1), .second, .val (.long u2), .second] [(.long u2)]))
    exact own_retJ X0 hx hret hlk (hb hby dmin_11) ⟨by unfold own_minL; rw [if_pos hc3_1], N0, e0⟩ (by decide) (by decide)
  · refine own_of (fun _ hh_ => XS.ifNo X0.here hx rfl (hb hby dmin_3) rfl ((if0 _ _).trans (flt (fun q_ => hc3_1 ((lw_gt _ _).mp q_))).2.2.1) hh_) ?_
    show own_Run p e below s _ _ _ (s₁.setTop (mkF m 6 #[.val (.long u1), .second, .val (.long u2), .second] []))
    refine own_of (fun _ hh_ => XS.lloadN X0.here hx rfl (hb hby dmin_6) rfl hh_) ?_
    show own_Run p e below s _ _ _ (s₁.setTop (mkF m 7 #[.val (.long u1), .second, .val (.long u2), .second] [(.long u1)]))
    refine own_of (fun _ hh_ => XS.goto X0.here hx rfl (pc0 := 7) (pc' := 11) rfl (hb hby dmin_7) (by decide) (by decide) hh_) ?_
    show own_Run p e below s _ _ _ (s₁.setTop (mkF m 11 #[.val (.long u1), .second, .val (.long u2), .second] [(.long u1)]))
    exact own_retJ X0 hx hret hlk (hb hby dmin_11) ⟨by unfold own_minL; rw [if_neg hc3_1], N0, e0⟩ (by decide) (by decide)
theorem own_pn0 : plainName "java/lang/Record" = true := by first | (simp [plainName, overriddenIn]; done) | decide +kernel
theorem dR_0 : decode jdk_30_method_1_code 0 = .ok (.aload_n 0, 1) := by decide +kernel
theorem dR_1 : decode jdk_30_method_1_code 1 = .ok (.invokespecial 1, 3) := by decide +kernel
theorem dR_4 : decode jdk_30_method_1_code 4 = .ok (.return_, 1) := by decide +kernel
theorem efR (m : MethodId) (t1 : Addr) : entryFrame m #[(.ref t1)] 1 = mkF m 0 #[.val (.ref t1)] [] := by first | (simp [entryFrame, mkF, argsToLocals, Value.category]; done) | rfl
def QR (Z : State) (t1 : Addr) (h0 : Heap) (n0 : Nat) (v : Option Value) (h : Heap) (L : List Loc) : Prop := v = none ∧ Fr n0 L ∧ h = h0
set_option maxRecDepth 65536 in
set_option maxHeartbeats 40000000 in
theorem rmR (l : Launch) (Z : State) (a0 : Array Value) (hw : ∀ d ∈ tables_1, d.before a0 Z = true) (ws : List Jvm.Cond) (t1 : Addr) (h0 : Heap) (n0 : Nat) (Z0 : n0 ≤ h0.size)  :
    MetFree l (⟨"java/lang/Record", "<init>", "()V"⟩ : MethodName) (head1 (Jvm.Cond.code (⟨"java/lang/Record", "<init>", "()V"⟩ : MethodName) jdk_30_method_1_code 1 none :: ws) ({ frames := 1, cells := 0, slots := 0, locals := 12 } : Room)) (fun a U => a = #[(.ref t1)] ∧ Z.Warmed39 U.vm ∧ U.heap = h0) (fun _ _ _ _ _ => True) (fun _ U o U' => ∃ v L, o = .returned v ∧ QR Z t1 h0 n0 v U'.heap L ∧ FrameEnd U o U' L ({ frames := 1, cells := 0, slots := 0, locals := 12 } : Room).cells ({ frames := 1, cells := 0, slots := 0, locals := 12 } : Room).slots) := by
  refine MetFree.of_bodySF (plainFor_of_name own_pn0) hisR ?_
  intro p e s m args below meth c s₁ Bd hml0 hP hK
  obtain ⟨rfl, hZ, hh⟩ := hP
  have hx := Bd.exec
  have hby := Bd.bytes
  have hml : c.maxLocals = 1 := hml0
  have hown : s.vm.findClass "java/lang/Record" = some m.cls := findClass_of_methodNamed Bd.named
  have hnm := (name_of_methodNamed Bd.named Bd.method).1
  have hlk := Bd.notSynchronized
  have hret := Bd.returns
  have X0 : Stand p l e ({ frames := 1, cells := 0, slots := 0, locals := 12 } : Room) s m #[(.ref t1)] below meth c s₁ [] 0 0 := Stand.of_body Bd
  have e0 : s₁.heap = h0 := by rw [← hh, Bd.state]; rfl
  have N0 := Fr.nil n0
  show own_Run p e below s 0 0 (QR Z t1 h0 n0) (s₁.setTop (entryFrame m #[(.ref t1)] 1))
  refine own_cast (efR m t1) ?_
  show own_Run p e below s _ _ _ (s₁.setTop (mkF m 0 #[.val (.ref t1)] []))
  refine own_of (fun _ hh_ => XS.aloadN X0.here hx rfl (hb hby dR_0) rfl rfl hh_) ?_
  show own_Run p e below s _ _ _ (s₁.setTop (mkF m 1 #[.val (.ref t1)] [(.ref t1)]))
  obtain ⟨T1, X1, e1, st1⟩ := initO X0 hx hZ hown (hw _ (List.mem_of_getElem? (i := 16) rfl)) (hw _ (List.mem_of_getElem? (i := 17) rfl)) (hw _ (List.mem_of_getElem? (i := 18) rfl)) e0 (g := (mkF m 1 #[.val (.ref t1)] [(.ref t1)])) rfl (by rw [hml]; rfl) rfl (hb hby dR_1) (by decide) (W := 0) (by show 2 * 0 + _ ≤ _; exact Nat.le_of_eq rfl) (by decide)
  refine own_of st1 ?_
  show own_Run p e below s _ _ _ (T1.setTop (mkF m 4 #[.val (.ref t1)] []))
  exact own_retV X1 hx hret hlk (hb hby dR_4) ⟨rfl, N0, e1⟩ (by decide) (by decide)
theorem own_pd0 : parseMethodDescriptor "()V" = some ⟨[], none⟩ := by decide +kernel
theorem own_pn1 : plainName "com/example/oriel/oriel/window/Frame" = true := by first | (simp [plainName, overriddenIn]; done) | decide +kernel
theorem dF_0 : decode prog_105_method_1_code 0 = .ok (.aload_n 0, 1) := by decide +kernel
theorem dF_1 : decode prog_105_method_1_code 1 = .ok (.invokespecial 3, 3) := by decide +kernel
theorem dF_4 : decode prog_105_method_1_code 4 = .ok (.lload_n 1, 1) := by decide +kernel
theorem dF_5 : decode prog_105_method_1_code 5 = .ok (.lload_n 3, 1) := by decide +kernel
theorem dF_6 : decode prog_105_method_1_code 6 = .ok (.lcmp, 1) := by decide +kernel
theorem dF_7 : decode prog_105_method_1_code 7 = .ok (.ifCond .le 24, 3) := by decide +kernel
theorem dF_31 : decode prog_105_method_1_code 31 = .ok (.aload_n 0, 1) := by decide +kernel
theorem dF_32 : decode prog_105_method_1_code 32 = .ok (.lload_n 1, 1) := by decide +kernel
theorem dF_33 : decode prog_105_method_1_code 33 = .ok (.putfield 24, 3) := by decide +kernel
theorem dF_36 : decode prog_105_method_1_code 36 = .ok (.aload_n 0, 1) := by decide +kernel
theorem dF_37 : decode prog_105_method_1_code 37 = .ok (.lload_n 3, 1) := by decide +kernel
theorem dF_38 : decode prog_105_method_1_code 38 = .ok (.putfield 28, 3) := by decide +kernel
theorem dF_41 : decode prog_105_method_1_code 41 = .ok (.return_, 1) := by decide +kernel
theorem efF (m : MethodId) (t1 : Addr) (u1 : Int64) (u2 : Int64) : entryFrame m #[(.ref t1), (.long u1), (.long u2)] 5 = mkF m 0 #[.val (.ref t1), .val (.long u1), .second, .val (.long u2), .second] [] := by first | (simp [entryFrame, mkF, argsToLocals, Value.category]; done) | rfl
def QF (Z : State) (t1 : Addr) (u1 : Int64) (u2 : Int64) (h0 : Heap) (n0 : Nat) (v : Option Value) (h : Heap) (L : List Loc) : Prop := v = none ∧ Fr n0 L ∧ Keep h0 h [t1] ∧ Fld Z h t1 "com/example/oriel/oriel/window/Frame" "start" "J" (.long u1) ∧ Fld Z h t1 "com/example/oriel/oriel/window/Frame" "end" "J" (.long u2)
set_option maxRecDepth 65536 in
set_option maxHeartbeats 40000000 in
theorem rmF (l : Launch) (Z : State) (a0 : Array Value) (hw : ∀ d ∈ tables_1, d.before a0 Z = true) (ws : List Jvm.Cond) (t1 : Addr) (u1 : Int64) (u2 : Int64) (h0 : Heap) (n0 : Nat) (Z0 : n0 ≤ h0.size) (Ex : Exa Z h0 t1 "com/example/oriel/oriel/window/Frame") (Fs : Fld Z h0 t1 "com/example/oriel/oriel/window/Frame" "start" "J" (.long (0 : Int64))) (Fe : Fld Z h0 t1 "com/example/oriel/oriel/window/Frame" "end" "J" (.long (0 : Int64))) (g_t1 : n0 ≤ t1) (hle : ¬ u2 < u1) :
    MetFree l (⟨"com/example/oriel/oriel/window/Frame", "<init>", "(JJ)V"⟩ : MethodName) (head1 (Jvm.Cond.code (⟨"com/example/oriel/oriel/window/Frame", "<init>", "(JJ)V"⟩ : MethodName) prog_105_method_1_code 5 none :: ws) ({ frames := 2, cells := 0, slots := 0, locals := 24 } : Room)) (fun a U => a = #[(.ref t1), (.long u1), (.long u2)] ∧ Z.Warmed39 U.vm ∧ U.heap = h0) (fun _ _ _ _ _ => True) (fun _ U o U' => ∃ v L, o = .returned v ∧ QF Z t1 u1 u2 h0 n0 v U'.heap L ∧ FrameEnd U o U' L ({ frames := 2, cells := 0, slots := 0, locals := 24 } : Room).cells ({ frames := 2, cells := 0, slots := 0, locals := 24 } : Room).slots) := by
  refine MetFree.of_bodySF (plainFor_of_name own_pn1) hisR ?_
  intro p e s m args below meth c s₁ Bd hml0 hP hK
  obtain ⟨rfl, hZ, hh⟩ := hP
  have hx := Bd.exec
  have hby := Bd.bytes
  have hml : c.maxLocals = 5 := hml0
  have hown : s.vm.findClass "com/example/oriel/oriel/window/Frame" = some m.cls := findClass_of_methodNamed Bd.named
  have hnm := (name_of_methodNamed Bd.named Bd.method).1
  have hlk := Bd.notSynchronized
  have hret := Bd.returns
  have X0 : Stand p l e ({ frames := 2, cells := 0, slots := 0, locals := 24 } : Room) s m #[(.ref t1), (.long u1), (.long u2)] below meth c s₁ [] 0 0 := Stand.of_body Bd
  have e0 : s₁.heap = h0 := by rw [← hh, Bd.state]; rfl
  have N0 := Fr.nil n0
  have K0 : Keep h0 h0 [t1] := Keep.refl _ _
  show own_Run p e below s 0 0 (QF Z t1 u1 u2 h0 n0) (s₁.setTop (entryFrame m #[(.ref t1), (.long u1), (.long u2)] 5))
  refine own_cast (efF m t1 u1 u2) ?_
  show own_Run p e below s _ _ _ (s₁.setTop (mkF m 0 #[.val (.ref t1), .val (.long u1), .second, .val (.long u2), .second] []))
  refine own_of (fun _ hh_ => XS.aloadN X0.here hx rfl (hb hby dF_0) rfl rfl hh_) ?_
  show own_Run p e below s _ _ _ (s₁.setTop (mkF m 1 #[.val (.ref t1), .val (.long u1), .second, .val (.long u2), .second] [(.ref t1)]))
  obtain ⟨_, _, ⟨T1, L1, k1, n1⟩, -, X1, ⟨Lc1, hQ1, l1, y1, z1⟩, st1⟩ := X0.specialBack hx (y := (⟨"java/lang/Record", "<init>", "()V"⟩ : MethodName)) rfl hown (mvT hZ (hw _ (List.mem_of_getElem? (i := 11) rfl))) (mvT hZ (hw _ (List.mem_of_getElem? (i := 12) rfl))) (mvT hZ (hw _ (List.mem_of_getElem? (i := 15) rfl))) (by decide) (backOf (W := 0) (rmR l Z a0 hw [] t1 h0 n0 Z0) hZ (hw _ (List.mem_of_getElem? (i := 15) rfl)) (hw _ (List.mem_of_getElem? (i := 14) rfl)) (by decide) (by decide)) (g := (mkF m 1 #[.val (.ref t1), .val (.long u1), .second, .val (.long u2), .second] [(.ref t1)])) rfl (by rw [hml]; rfl) (Steps.refl _) (a := t1) (argsL := []) (rest := []) (lenOf own_pd0 rfl) rfl (by show 2 * 0 + _ ≤ _; exact Nat.le_of_eq rfl) (hb hby dF_1) (fun _ _ => ⟨rfl, e0, (by decide : 0 + 0 ≤ _), (by decide : 0 + 0 ≤ _)⟩)
  dsimp only [Pt.U, Pt.locs, Pt.cells, Pt.slots] at X1 l1 y1 z1 st1 hQ1
  subst l1 y1 z1
  obtain ⟨rfl, N1q, e1⟩ := hQ1
  have N1 := Fr.app N0 N1q
  refine own_tr st1 ?_
  show own_Run p e below s _ _ _ (T1.setTop (mkF m 4 #[.val (.ref t1), .val (.long u1), .second, .val (.long u2), .second] []))
  refine own_of (fun _ hh_ => XS.lloadN X1.here hx rfl (hb hby dF_4) rfl hh_) ?_
  show own_Run p e below s _ _ _ (T1.setTop (mkF m 5 #[.val (.ref t1), .val (.long u1), .second, .val (.long u2), .second] [(.long u1)]))
  refine own_of (fun _ hh_ => XS.lloadN X1.here hx rfl (hb hby dF_5) rfl hh_) ?_
  show own_Run p e below s _ _ _ (T1.setTop (mkF m 6 #[.val (.ref t1), .val (.long u1), .second, .val (.long u2), .second] [(.long u2), (.long u1)]))
  refine own_of (fun _ hh_ => XS.lcmp X1.here hx rfl (hb hby dF_6) rfl hh_) ?_
  show own_Run p e below s _ _ _ (T1.setTop (mkF m 7 #[.val (.ref t1), .val (.long u1), .second, .val (.long u2), .second] [(.int (lcmpW u1 u2))]))
  have hc7_2 : ¬ (u2 < u1) := hle
  refine own_of (fun _ hh_ => XS.ifYes X1.here hx rfl (pc0 := 7) (pc' := 31) rfl (hb hby dF_7) rfl ((if0 _ _).trans (flt (fun q_ => hc7_2 ((lw_gt _ _).mp q_))).2.2.2) (by decide) (by decide) hh_) ?_
  show own_Run p e below s _ _ _ (T1.setTop (mkF m 31 #[.val (.ref t1), .val (.long u1), .second, .val (.long u2), .second] []))
  refine own_of (fun _ hh_ => XS.aloadN X1.here hx rfl (hb hby dF_31) rfl rfl hh_) ?_
  show own_Run p e below s _ _ _ (T1.setTop (mkF m 32 #[.val (.ref t1), .val (.long u1), .second, .val (.long u2), .second] [(.ref t1)]))
  refine own_of (fun _ hh_ => XS.lloadN X1.here hx rfl (hb hby dF_32) rfl hh_) ?_
  show own_Run p e below s _ _ _ (T1.setTop (mkF m 33 #[.val (.ref t1), .val (.long u1), .second, .val (.long u2), .second] [(.long u1), (.ref t1)]))
  obtain ⟨T3, h3, X3, e3, W3, st3⟩ := putF X1 hx hZ hown (host := "") (Or.inl (hw _ (List.mem_of_getElem? (i := 19) rfl))) Via.refl e1 Fs Ex (Or.inr ⟨(hw _ (List.mem_of_getElem? (i := 20) rfl)), rfl, hnm⟩) (hw _ (List.mem_of_getElem? (i := 6) rfl)) (ty := .long) (by decide) rfl rfl (g := (mkF m 33 #[.val (.ref t1), .val (.long u1), .second, .val (.long u2), .second] [(.long u1), (.ref t1)])) rfl rfl (hb hby dF_33)
  have f3 := Fs.same W3
  have N3 := Fr.snoc X3 N1 g_t1
  have f4 := Ex.wr W3
  have f5 := Fe.other W3 (Or.inr (slot_ne (Or.inr (hw _ (List.mem_of_getElem? (i := 22) rfl))) (Or.inr (hw _ (List.mem_of_getElem? (i := 20) rfl))) (by decide) (t := .long) (t' := .long) (by decide) (by decide)))
  have K6 := K0.wr W3 (Or.inl (List.mem_of_getElem? (i := 0) rfl))
  refine own_of st3 ?_
  show own_Run p e below s _ _ _ (T3.setTop (mkF m 36 #[.val (.ref t1), .val (.long u1), .second, .val (.long u2), .second] []))
  refine own_of (fun _ hh_ => XS.aloadN X3.here hx rfl (hb hby dF_36) rfl rfl hh_) ?_
  show own_Run p e below s _ _ _ (T3.setTop (mkF m 37 #[.val (.ref t1), .val (.long u1), .second, .val (.long u2), .second] [(.ref t1)]))
  refine own_of (fun _ hh_ => XS.lloadN X3.here hx rfl (hb hby dF_37) rfl hh_) ?_
  show own_Run p e below s _ _ _ (T3.setTop (mkF m 38 #[.val (.ref t1), .val (.long u1), .second, .val (.long u2), .second] [(.long u2), (.ref t1)]))
  obtain ⟨T7, h7, X7, e7, W7, st7⟩ := putF X3 hx hZ hown (host := "") (Or.inl (hw _ (List.mem_of_getElem? (i := 21) rfl))) Via.refl e3 f5 f4 (Or.inr ⟨(hw _ (List.mem_of_getElem? (i := 22) rfl)), rfl, hnm⟩) (hw _ (List.mem_of_getElem? (i := 6) rfl)) (ty := .long) (by decide) rfl rfl (g := (mkF m 38 #[.val (.ref t1), .val (.long u1), .second, .val (.long u2), .second] [(.long u2), (.ref t1)])) rfl rfl (hb hby dF_38)
  have f7 := f5.same W7
  have N7 := Fr.snoc X7 N3 g_t1
  have f8 := f4.wr W7
  have f9 := f3.other W7 (Or.inr (slot_ne (Or.inr (hw _ (List.mem_of_getElem? (i := 20) rfl))) (Or.inr (hw _ (List.mem_of_getElem? (i := 22) rfl))) (by decide) (t := .long) (t' := .long) (by decide) (by decide)))
  have K10 := K6.wr W7 (Or.inl (List.mem_of_getElem? (i := 0) rfl))
  refine own_of st7 ?_
  show own_Run p e below s _ _ _ (T7.setTop (mkF m 41 #[.val (.ref t1), .val (.long u1), .second, .val (.long u2), .second] []))
  exact own_retV X7 hx hret hlk (hb hby dF_41) (by rw [e7]; exact ⟨rfl, N7, K10, f9, f7⟩) (by decide) (by decide)
def own_cb (w r : Int64) : Int64 := if w < (0 : Int64) then r + (1 : Int64) else if w < (9223372036854775807 : Int64) - r then (r + w) + (1 : Int64) else (9223372036854775807 : Int64)
theorem own_cb_i (w r : Int64) (h1 : 0 ≤ r.toInt) (h2 : r.toInt ≤ 9223372036854775806) : (own_cb w r).toInt = if w.toInt < 0 then r.toInt + 1 else if w.toInt < 9223372036854775807 - r.toInt then r.toInt + w.toInt + 1 else 9223372036854775807 := by
  have m := own_subL (9223372036854775807 : Int64) r (by rw [own_lM]; omega) (by rw [own_lM]; omega)
  rw [own_lM] at m
  unfold own_cb
  by_cases a : w < (0 : Int64)
  · have a' := own_ltL.mp a
    rw [own_l0] at a'
    rw [if_pos a, if_pos a', own_addL _ _ (by rw [own_l1]; omega) (by rw [own_l1]; omega), own_l1]
  · have a' := mt own_ltL.mpr a
    rw [own_l0] at a'
    rw [if_neg a, if_neg a']
    by_cases b : w < (9223372036854775807 : Int64) - r
    · have b' := own_ltL.mp b
      rw [m] at b'
      have q := own_addL r w (by omega) (by omega)
      rw [if_pos b, if_pos b', own_addL _ _ (by rw [q, own_l1]; omega) (by rw [q, own_l1]; omega), own_l1, q]
    · have b' := mt own_ltL.mpr b
      rw [m] at b'
      rw [if_neg b, if_neg b', own_lM]
theorem own_t1 (w r : Int64) (h1 : 0 ≤ r.toInt) (h2 : r.toInt ≤ 9223372036854775806) : r < own_cb w r := by
  have a := own_cb_i w r h1 h2
  apply own_ltL.mpr
  split at a
  · omega
  · split at a <;> omega
theorem own_t2 (w r : Int64) (h1 : 0 ≤ r.toInt) (h2 : r.toInt ≤ 9223372036854775806) (h3 : ¬ own_cb w r = (9223372036854775807 : Int64)) : w < own_cb w r - r := by
  have a := own_cb_i w r h1 h2
  have d := mt Int64.toInt_inj.mp h3
  rw [own_lM] at d
  have b := rng64 (own_cb w r)
  have f := own_subL (own_cb w r) r (by split at a <;> (try split at a) <;> omega) (by omega)
  apply own_ltL.mpr
  rw [f]
  split at a
  · omega
  · split at a <;> omega
theorem own_t3 (w r : Int64) (h1 : 0 ≤ r.toInt) (h2 : r.toInt ≤ 9223372036854775806) (h3 : ¬ own_cb w r - (1 : Int64) = r) : ¬ w < (own_cb w r - (1 : Int64)) - r := by
  have a := own_cb_i w r h1 h2
  have b := rng64 (own_cb w r)
  have p := own_ltL.mp (own_t1 w r h1 h2)
  have f := own_subL (own_cb w r) (1 : Int64) (by rw [own_l1]; omega) (by rw [own_l1]; omega)
  rw [own_l1] at f
  have g := own_subL (own_cb w r - (1 : Int64)) r (by omega) (by omega)
  have d := mt Int64.toInt_inj.mp h3
  apply mt own_ltL.mp
  rw [g, f]
  rw [f] at d
  split at a
  · omega
  · split at a <;> omega
theorem own_le (a b : Int64) : ¬ b < own_minL a b := by
  apply mt own_ltL.mp
  rw [own_minL_i]
  split <;> omega
theorem dC_0 : decode prog_105_method_4_code 0 = .ok (.aload_n 0, 1) := by decide +kernel
theorem dC_1 : decode prog_105_method_4_code 1 = .ok (.getfield 28, 3) := by decide +kernel
theorem dC_4 : decode prog_105_method_4_code 4 = .ok (.lconst 0, 1) := by decide +kernel
theorem dC_5 : decode prog_105_method_4_code 5 = .ok (.lcmp, 1) := by decide +kernel
theorem dC_6 : decode prog_105_method_4_code 6 = .ok (.ifCond .ge 10, 3) := by decide +kernel
theorem dC_9 : decode prog_105_method_4_code 9 = .ok (.lload_n 1, 1) := by decide +kernel
theorem dC_10 : decode prog_105_method_4_code 10 = .ok (.lconst 1, 1) := by decide +kernel
theorem dC_11 : decode prog_105_method_4_code 11 = .ok (.ladd, 1) := by decide +kernel
theorem dC_12 : decode prog_105_method_4_code 12 = .ok (.lstore_n 3, 1) := by decide +kernel
theorem dC_13 : decode prog_105_method_4_code 13 = .ok (.goto 32, 3) := by decide +kernel
theorem dC_16 : decode prog_105_method_4_code 16 = .ok (.aload_n 0, 1) := by decide +kernel
theorem dC_17 : decode prog_105_method_4_code 17 = .ok (.getfield 28, 3) := by decide +kernel
theorem dC_20 : decode prog_105_method_4_code 20 = .ok (.ldc2_w 35, 3) := by decide +kernel
theorem dC_23 : decode prog_105_method_4_code 23 = .ok (.lload_n 1, 1) := by decide +kernel
theorem dC_24 : decode prog_105_method_4_code 24 = .ok (.lsub, 1) := by decide +kernel
theorem dC_25 : decode prog_105_method_4_code 25 = .ok (.lcmp, 1) := by decide +kernel
theorem dC_26 : decode prog_105_method_4_code 26 = .ok (.ifCond .lt 10, 3) := by decide +kernel
theorem dC_29 : decode prog_105_method_4_code 29 = .ok (.ldc2_w 35, 3) := by decide +kernel
theorem dC_32 : decode prog_105_method_4_code 32 = .ok (.lstore_n 3, 1) := by decide +kernel
theorem dC_33 : decode prog_105_method_4_code 33 = .ok (.goto 12, 3) := by decide +kernel
theorem dC_36 : decode prog_105_method_4_code 36 = .ok (.lload_n 1, 1) := by decide +kernel
theorem dC_37 : decode prog_105_method_4_code 37 = .ok (.aload_n 0, 1) := by decide +kernel
theorem dC_38 : decode prog_105_method_4_code 38 = .ok (.getfield 28, 3) := by decide +kernel
theorem dC_41 : decode prog_105_method_4_code 41 = .ok (.ladd, 1) := by decide +kernel
theorem dC_42 : decode prog_105_method_4_code 42 = .ok (.lconst 1, 1) := by decide +kernel
theorem dC_43 : decode prog_105_method_4_code 43 = .ok (.ladd, 1) := by decide +kernel
theorem dC_44 : decode prog_105_method_4_code 44 = .ok (.lstore_n 3, 1) := by decide +kernel
theorem dC_45 : decode prog_105_method_4_code 45 = .ok (.lload_n 3, 1) := by decide +kernel
theorem dC_46 : decode prog_105_method_4_code 46 = .ok (.lreturn, 1) := by decide +kernel
theorem efC (m : MethodId) (t1 : Addr) (u1 : Int64) : entryFrame m #[(.ref t1), (.long u1)] 5 = mkF m 0 #[.val (.ref t1), .val (.long u1), .second, .unset, .unset] [] := by first | (simp [entryFrame, mkF, argsToLocals, Value.category]; done) | rfl
def QC (Z : State) (t1 : Addr) (u1 : Int64) (w : Int64) (h0 : Heap) (n0 : Nat) (v : Option Value) (h : Heap) (L : List Loc) : Prop := v = some (.long (own_cb w u1)) ∧ Fr n0 L ∧ h = h0
set_option maxRecDepth 65536 in
set_option maxHeartbeats 40000000 in
theorem rmC (l : Launch) (Z : State) (a0 : Array Value) (hw : ∀ d ∈ tables_1, d.before a0 Z = true) (ws : List Jvm.Cond) (t1 : Addr) (u1 : Int64) (w : Int64) (h0 : Heap) (n0 : Nat) (Z0 : n0 ≤ h0.size) (F : Fld Z h0 t1 "com/example/oriel/oriel/window/Frame" "end" "J" (.long w)) :
    MetFree l (⟨"com/example/oriel/oriel/window/Frame", "completedBy", "(J)J"⟩ : MethodName) (head1 (Jvm.Cond.code (⟨"com/example/oriel/oriel/window/Frame", "completedBy", "(J)J"⟩ : MethodName) prog_105_method_4_code 5 (some .long) :: ws) ({ frames := 0, cells := 0, slots := 0, locals := 0 } : Room)) (fun a U => a = #[(.ref t1), (.long u1)] ∧ Z.Warmed39 U.vm ∧ U.heap = h0) (fun _ _ _ _ _ => True) (fun _ U o U' => ∃ v L, o = .returned v ∧ QC Z t1 u1 w h0 n0 v U'.heap L ∧ FrameEnd U o U' L ({ frames := 0, cells := 0, slots := 0, locals := 0 } : Room).cells ({ frames := 0, cells := 0, slots := 0, locals := 0 } : Room).slots) := by
  refine MetFree.of_bodySF (plainFor_of_name own_pn1) hisR ?_
  intro p e s m args below meth c s₁ Bd hml0 hP hK
  obtain ⟨rfl, hZ, hh⟩ := hP
  have hx := Bd.exec
  have hby := Bd.bytes
  have hml : c.maxLocals = 5 := hml0
  have hown : s.vm.findClass "com/example/oriel/oriel/window/Frame" = some m.cls := findClass_of_methodNamed Bd.named
  have hnm := (name_of_methodNamed Bd.named Bd.method).1
  have hlk := Bd.notSynchronized
  have hret := Bd.returns
  have X0 : Stand p l e ({ frames := 0, cells := 0, slots := 0, locals := 0 } : Room) s m #[(.ref t1), (.long u1)] below meth c s₁ [] 0 0 := Stand.of_body Bd
  have e0 : s₁.heap = h0 := by rw [← hh, Bd.state]; rfl
  have N0 := Fr.nil n0
  show own_Run p e below s 0 0 (QC Z t1 u1 w h0 n0) (s₁.setTop (entryFrame m #[(.ref t1), (.long u1)] 5))
  refine own_cast (efC m t1 u1) ?_
  show own_Run p e below s _ _ _ (s₁.setTop (mkF m 0 #[.val (.ref t1), .val (.long u1), .second, .unset, .unset] []))
  refine own_of (fun _ hh_ => XS.aloadN X0.here hx rfl (hb hby dC_0) rfl rfl hh_) ?_
  show own_Run p e below s _ _ _ (s₁.setTop (mkF m 1 #[.val (.ref t1), .val (.long u1), .second, .unset, .unset] [(.ref t1)]))
  obtain ⟨T1, X1, e1, st1⟩ := getF X0 hx hZ hown (host := "") (Or.inl (hw _ (List.mem_of_getElem? (i := 21) rfl))) Via.refl e0 F (g := (mkF m 1 #[.val (.ref t1), .val (.long u1), .second, .unset, .unset] [(.ref t1)])) rfl rfl (hb hby dC_1)
  refine own_of st1 ?_
  show own_Run p e below s _ _ _ (T1.setTop (mkF m 4 #[.val (.ref t1), .val (.long u1), .second, .unset, .unset] [(.long w)]))
  refine own_of (fun _ hh_ => XS.lconst X1.here hx rfl (hb hby dC_4) hh_) ?_
  show own_Run p e below s _ _ _ (T1.setTop (mkF m 5 #[.val (.ref t1), .val (.long u1), .second, .unset, .unset] [(.long (0 : Int64)), (.long w)]))
  refine own_of (fun _ hh_ => XS.lcmp X1.here hx rfl (hb hby dC_5) rfl hh_) ?_
  show own_Run p e below s _ _ _ (T1.setTop (mkF m 6 #[.val (.ref t1), .val (.long u1), .second, .unset, .unset] [(.int (lcmpW w (0 : Int64)))]))
  by_cases hc6_2 : w < (0 : Int64)
  · refine own_of (fun _ hh_ => XS.ifNo X1.here hx rfl (hb hby dC_6) rfl ((if0 _ _).trans (tlt ((lw_lt _ _).mpr hc6_2)).2.1) hh_) ?_
    show own_Run p e below s _ _ _ (T1.setTop (mkF m 9 #[.val (.ref t1), .val (.long u1), .second, .unset, .unset] []))
    refine own_of (fun _ hh_ => XS.lloadN X1.here hx rfl (hb hby dC_9) rfl hh_) ?_
    show own_Run p e below s _ _ _ (T1.setTop (mkF m 10 #[.val (.ref t1), .val (.long u1), .second, .unset, .unset] [(.long u1)]))
    refine own_of (fun _ hh_ => XS.lconst X1.here hx rfl (hb hby dC_10) hh_) ?_
    show own_Run p e below s _ _ _ (T1.setTop (mkF m 11 #[.val (.ref t1), .val (.long u1), .second, .unset, .unset] [(.long (1 : Int64)), (.long u1)]))
    refine own_of (fun _ hh_ => XS.ladd X1.here hx rfl (hb hby dC_11) rfl hh_) ?_
    show own_Run p e below s _ _ _ (T1.setTop (mkF m 12 #[.val (.ref t1), .val (.long u1), .second, .unset, .unset] [(.long (u1 + (1 : Int64)))]))
    refine own_of (fun _ hh_ => XS.lstoreN X1.here hx rfl (hb hby dC_12) rfl (l' := #[.val (.ref t1), .val (.long u1), .second, .val (.long (u1 + (1 : Int64))), .second]) rfl hh_) ?_
    show own_Run p e below s _ _ _ (T1.setTop (mkF m 13 #[.val (.ref t1), .val (.long u1), .second, .val (.long (u1 + (1 : Int64))), .second] []))
    refine own_of (fun _ hh_ => XS.goto X1.here hx rfl (pc0 := 13) (pc' := 45) rfl (hb hby dC_13) (by decide) (by decide) hh_) ?_
    show own_Run p e below s _ _ _ (T1.setTop (mkF m 45 #[.val (.ref t1), .val (.long u1), .second, .val (.long (u1 + (1 : Int64))), .second] []))
    refine own_of (fun _ hh_ => XS.lloadN X1.here hx rfl (hb hby dC_45) rfl hh_) ?_
    show own_Run p e below s _ _ _ (T1.setTop (mkF m 46 #[.val (.ref t1), .val (.long u1), .second, .val (.long (u1 + (1 : Int64))), .second] [(.long (u1 + (1 : Int64)))]))
    exact own_retJ X1 hx hret hlk (hb hby dC_46) ⟨by unfold own_cb; rw [if_pos hc6_2], N0, e1⟩ (by decide) (by decide)
  · refine own_of (fun _ hh_ => XS.ifYes X1.here hx rfl (pc0 := 6) (pc' := 16) rfl (hb hby dC_6) rfl ((if0 _ _).trans (flt (fun q_ => hc6_2 ((lw_lt _ _).mp q_))).2.1) (by decide) (by decide) hh_) ?_
    show own_Run p e below s _ _ _ (T1.setTop (mkF m 16 #[.val (.ref t1), .val (.long u1), .second, .unset, .unset] []))
    refine own_of (fun _ hh_ => XS.aloadN X1.here hx rfl (hb hby dC_16) rfl rfl hh_) ?_
    show own_Run p e below s _ _ _ (T1.setTop (mkF m 17 #[.val (.ref t1), .val (.long u1), .second, .unset, .unset] [(.ref t1)]))
    obtain ⟨T3, X3, e3, st3⟩ := getF X1 hx hZ hown (host := "") (Or.inl (hw _ (List.mem_of_getElem? (i := 21) rfl))) Via.refl e1 F (g := (mkF m 17 #[.val (.ref t1), .val (.long u1), .second, .unset, .unset] [(.ref t1)])) rfl rfl (hb hby dC_17)
    refine own_of st3 ?_
    show own_Run p e below s _ _ _ (T3.setTop (mkF m 20 #[.val (.ref t1), .val (.long u1), .second, .unset, .unset] [(.long w)]))
    refine own_of (X3.ldc2Long hx hown (mvT hZ (hw _ (List.mem_of_getElem? (i := 28) rfl))) (g := (mkF m 20 #[.val (.ref t1), .val (.long u1), .second, .unset, .unset] [(.long w)])) rfl (hb hby dC_20)) ?_
    show own_Run p e below s _ _ _ (T3.setTop (mkF m 23 #[.val (.ref t1), .val (.long u1), .second, .unset, .unset] [(.long (9223372036854775807 : Int64)), (.long w)]))
    refine own_of (fun _ hh_ => XS.lloadN X3.here hx rfl (hb hby dC_23) rfl hh_) ?_
    show own_Run p e below s _ _ _ (T3.setTop (mkF m 24 #[.val (.ref t1), .val (.long u1), .second, .unset, .unset] [(.long u1), (.long (9223372036854775807 : Int64)), (.long w)]))
    refine own_of (fun _ hh_ => XS.lsub X3.here hx rfl (hb hby dC_24) rfl hh_) ?_
    show own_Run p e below s _ _ _ (T3.setTop (mkF m 25 #[.val (.ref t1), .val (.long u1), .second, .unset, .unset] [(.long ((9223372036854775807 : Int64) - u1)), (.long w)]))
    refine own_of (fun _ hh_ => XS.lcmp X3.here hx rfl (hb hby dC_25) rfl hh_) ?_
    show own_Run p e below s _ _ _ (T3.setTop (mkF m 26 #[.val (.ref t1), .val (.long u1), .second, .unset, .unset] [(.int (lcmpW w ((9223372036854775807 : Int64) - u1)))]))
    by_cases hc26_4 : w < ((9223372036854775807 : Int64) - u1)
    · refine own_of (fun _ hh_ => XS.ifYes X3.here hx rfl (pc0 := 26) (pc' := 36) rfl (hb hby dC_26) rfl ((if0 _ _).trans (tlt ((lw_lt _ _).mpr hc26_4)).1) (by decide) (by decide) hh_) ?_
      show own_Run p e below s _ _ _ (T3.setTop (mkF m 36 #[.val (.ref t1), .val (.long u1), .second, .unset, .unset] []))
      refine own_of (fun _ hh_ => XS.lloadN X3.here hx rfl (hb hby dC_36) rfl hh_) ?_
      show own_Run p e below s _ _ _ (T3.setTop (mkF m 37 #[.val (.ref t1), .val (.long u1), .second, .unset, .unset] [(.long u1)]))
      refine own_of (fun _ hh_ => XS.aloadN X3.here hx rfl (hb hby dC_37) rfl rfl hh_) ?_
      show own_Run p e below s _ _ _ (T3.setTop (mkF m 38 #[.val (.ref t1), .val (.long u1), .second, .unset, .unset] [(.ref t1), (.long u1)]))
      obtain ⟨T5, X5, e5, st5⟩ := getF X3 hx hZ hown (host := "") (Or.inl (hw _ (List.mem_of_getElem? (i := 21) rfl))) Via.refl e3 F (g := (mkF m 38 #[.val (.ref t1), .val (.long u1), .second, .unset, .unset] [(.ref t1), (.long u1)])) rfl rfl (hb hby dC_38)
      refine own_of st5 ?_
      show own_Run p e below s _ _ _ (T5.setTop (mkF m 41 #[.val (.ref t1), .val (.long u1), .second, .unset, .unset] [(.long w), (.long u1)]))
      refine own_of (fun _ hh_ => XS.ladd X5.here hx rfl (hb hby dC_41) rfl hh_) ?_
      show own_Run p e below s _ _ _ (T5.setTop (mkF m 42 #[.val (.ref t1), .val (.long u1), .second, .unset, .unset] [(.long (u1 + w))]))
      refine own_of (fun _ hh_ => XS.lconst X5.here hx rfl (hb hby dC_42) hh_) ?_
      show own_Run p e below s _ _ _ (T5.setTop (mkF m 43 #[.val (.ref t1), .val (.long u1), .second, .unset, .unset] [(.long (1 : Int64)), (.long (u1 + w))]))
      refine own_of (fun _ hh_ => XS.ladd X5.here hx rfl (hb hby dC_43) rfl hh_) ?_
      show own_Run p e below s _ _ _ (T5.setTop (mkF m 44 #[.val (.ref t1), .val (.long u1), .second, .unset, .unset] [(.long ((u1 + w) + (1 : Int64)))]))
      refine own_of (fun _ hh_ => XS.lstoreN X5.here hx rfl (hb hby dC_44) rfl (l' := #[.val (.ref t1), .val (.long u1), .second, .val (.long ((u1 + w) + (1 : Int64))), .second]) rfl hh_) ?_
      show own_Run p e below s _ _ _ (T5.setTop (mkF m 45 #[.val (.ref t1), .val (.long u1), .second, .val (.long ((u1 + w) + (1 : Int64))), .second] []))
      refine own_of (fun _ hh_ => XS.lloadN X5.here hx rfl (hb hby dC_45) rfl hh_) ?_
      show own_Run p e below s _ _ _ (T5.setTop (mkF m 46 #[.val (.ref t1), .val (.long u1), .second, .val (.long ((u1 + w) + (1 : Int64))), .second] [(.long ((u1 + w) + (1 : Int64)))]))
      exact own_retJ X5 hx hret hlk (hb hby dC_46) ⟨by unfold own_cb; rw [if_neg hc6_2, if_pos hc26_4], N0, e5⟩ (by decide) (by decide)
    · refine own_of (fun _ hh_ => XS.ifNo X3.here hx rfl (hb hby dC_26) rfl ((if0 _ _).trans (flt (fun q_ => hc26_4 ((lw_lt _ _).mp q_))).1) hh_) ?_
      show own_Run p e below s _ _ _ (T3.setTop (mkF m 29 #[.val (.ref t1), .val (.long u1), .second, .unset, .unset] []))
      refine own_of (X3.ldc2Long hx hown (mvT hZ (hw _ (List.mem_of_getElem? (i := 28) rfl))) (g := (mkF m 29 #[.val (.ref t1), .val (.long u1), .second, .unset, .unset] [])) rfl (hb hby dC_29)) ?_
      show own_Run p e below s _ _ _ (T3.setTop (mkF m 32 #[.val (.ref t1), .val (.long u1), .second, .unset, .unset] [(.long (9223372036854775807 : Int64))]))
      refine own_of (fun _ hh_ => XS.lstoreN X3.here hx rfl (hb hby dC_32) rfl (l' := #[.val (.ref t1), .val (.long u1), .second, .val (.long (9223372036854775807 : Int64)), .second]) rfl hh_) ?_
      show own_Run p e below s _ _ _ (T3.setTop (mkF m 33 #[.val (.ref t1), .val (.long u1), .second, .val (.long (9223372036854775807 : Int64)), .second] []))
      refine own_of (fun _ hh_ => XS.goto X3.here hx rfl (pc0 := 33) (pc' := 45) rfl (hb hby dC_33) (by decide) (by decide) hh_) ?_
      show own_Run p e below s _ _ _ (T3.setTop (mkF m 45 #[.val (.ref t1), .val (.long u1), .second, .val (.long (9223372036854775807 : Int64)), .second] []))
      refine own_of (fun _ hh_ => XS.lloadN X3.here hx rfl (hb hby dC_45) rfl hh_) ?_
      show own_Run p e below s _ _ _ (T3.setTop (mkF m 46 #[.val (.ref t1), .val (.long u1), .second, .val (.long (9223372036854775807 : Int64)), .second] [(.long (9223372036854775807 : Int64))]))
      exact own_retJ X3 hx hret hlk (hb hby dC_46) ⟨by unfold own_cb; rw [if_neg hc6_2, if_neg hc26_4], N0, e3⟩ (by decide) (by decide)
theorem own_pn2 : plainName "com/example/oriel/oriel/window/FrameCompletedByPinLaw" = true := by first | (simp [plainName, overriddenIn]; done) | decide +kernel
theorem dK_0 : decode method_2_code 0 = .ok (.lload_n 0, 1) := by decide +kernel
theorem dK_1 : decode method_2_code 1 = .ok (.lload 4, 2) := by decide +kernel
theorem dK_3 : decode method_2_code 3 = .ok (.lload_n 2, 1) := by decide +kernel
theorem dK_4 : decode method_2_code 4 = .ok (.lsub, 1) := by decide +kernel
theorem dK_5 : decode method_2_code 5 = .ok (.lcmp, 1) := by decide +kernel
theorem dK_6 : decode method_2_code 6 = .ok (.ifCond .ge 7, 3) := by decide +kernel
theorem dK_9 : decode method_2_code 9 = .ok (.iconst 1, 1) := by decide +kernel
theorem dK_10 : decode method_2_code 10 = .ok (.goto 4, 3) := by decide +kernel
theorem dK_13 : decode method_2_code 13 = .ok (.iconst 0, 1) := by decide +kernel
theorem dK_14 : decode method_2_code 14 = .ok (.ireturn, 1) := by decide +kernel
theorem efK (m : MethodId) (u1 : Int64) (u2 : Int64) (u3 : Int64) : entryFrame m #[(.long u1), (.long u2), (.long u3)] 6 = mkF m 0 #[.val (.long u1), .second, .val (.long u2), .second, .val (.long u3), .second] [] := by first | (simp [entryFrame, mkF, argsToLocals, Value.category]; done) | rfl
def QK (Z : State) (u1 : Int64) (u2 : Int64) (u3 : Int64) (h0 : Heap) (n0 : Nat) (v : Option Value) (h : Heap) (L : List Loc) : Prop := v = some (.int (if u1 < u3 - u2 then 1 else 0)) ∧ Fr n0 L ∧ h = h0
set_option maxRecDepth 65536 in
set_option maxHeartbeats 40000000 in
theorem rmK (l : Launch) (Z : State) (a0 : Array Value) (hw : ∀ d ∈ tables_1, d.before a0 Z = true) (ws : List Jvm.Cond) (u1 : Int64) (u2 : Int64) (u3 : Int64) (h0 : Heap) (n0 : Nat) (Z0 : n0 ≤ h0.size)  :
    MetFree l (⟨"com/example/oriel/oriel/window/FrameCompletedByPinLaw", "complete", "(JJJ)Z"⟩ : MethodName) (head1 (Jvm.Cond.code (⟨"com/example/oriel/oriel/window/FrameCompletedByPinLaw", "complete", "(JJJ)Z"⟩ : MethodName) method_2_code 6 (some .boolean) :: ws) ({ frames := 0, cells := 0, slots := 0, locals := 0 } : Room)) (fun a U => a = #[(.long u1), (.long u2), (.long u3)] ∧ Z.Warmed39 U.vm ∧ U.heap = h0) (fun _ _ _ _ _ => True) (fun _ U o U' => ∃ v L, o = .returned v ∧ QK Z u1 u2 u3 h0 n0 v U'.heap L ∧ FrameEnd U o U' L ({ frames := 0, cells := 0, slots := 0, locals := 0 } : Room).cells ({ frames := 0, cells := 0, slots := 0, locals := 0 } : Room).slots) := by
  refine MetFree.of_bodySF (plainFor_of_name own_pn2) hisR ?_
  intro p e s m args below meth c s₁ Bd hml0 hP hK
  obtain ⟨rfl, hZ, hh⟩ := hP
  have hx := Bd.exec
  have hby := Bd.bytes
  have hml : c.maxLocals = 6 := hml0
  have hown : s.vm.findClass "com/example/oriel/oriel/window/FrameCompletedByPinLaw" = some m.cls := findClass_of_methodNamed Bd.named
  have hnm := (name_of_methodNamed Bd.named Bd.method).1
  have hlk := Bd.notSynchronized
  have hret := Bd.returns
  have X0 : Stand p l e ({ frames := 0, cells := 0, slots := 0, locals := 0 } : Room) s m #[(.long u1), (.long u2), (.long u3)] below meth c s₁ [] 0 0 := Stand.of_body Bd
  have e0 : s₁.heap = h0 := by rw [← hh, Bd.state]; rfl
  have N0 := Fr.nil n0
  show own_Run p e below s 0 0 (QK Z u1 u2 u3 h0 n0) (s₁.setTop (entryFrame m #[(.long u1), (.long u2), (.long u3)] 6))
  refine own_cast (efK m u1 u2 u3) ?_
  show own_Run p e below s _ _ _ (s₁.setTop (mkF m 0 #[.val (.long u1), .second, .val (.long u2), .second, .val (.long u3), .second] []))
  refine own_of (fun _ hh_ => XS.lloadN X0.here hx rfl (hb hby dK_0) rfl hh_) ?_
  show own_Run p e below s _ _ _ (s₁.setTop (mkF m 1 #[.val (.long u1), .second, .val (.long u2), .second, .val (.long u3), .second] [(.long u1)]))
  refine own_of (fun _ hh_ => XS.lload X0.here hx rfl (hb hby dK_1) rfl hh_) ?_
  show own_Run p e below s _ _ _ (s₁.setTop (mkF m 3 #[.val (.long u1), .second, .val (.long u2), .second, .val (.long u3), .second] [(.long u3), (.long u1)]))
  refine own_of (fun _ hh_ => XS.lloadN X0.here hx rfl (hb hby dK_3) rfl hh_) ?_
  show own_Run p e below s _ _ _ (s₁.setTop (mkF m 4 #[.val (.long u1), .second, .val (.long u2), .second, .val (.long u3), .second] [(.long u2), (.long u3), (.long u1)]))
  refine own_of (fun _ hh_ => XS.lsub X0.here hx rfl (hb hby dK_4) rfl hh_) ?_
  show own_Run p e below s _ _ _ (s₁.setTop (mkF m 5 #[.val (.long u1), .second, .val (.long u2), .second, .val (.long u3), .second] [(.long (u3 - u2)), (.long u1)]))
  refine own_of (fun _ hh_ => XS.lcmp X0.here hx rfl (hb hby dK_5) rfl hh_) ?_
  show own_Run p e below s _ _ _ (s₁.setTop (mkF m 6 #[.val (.long u1), .second, .val (.long u2), .second, .val (.long u3), .second] [(.int (lcmpW u1 (u3 - u2)))]))
  by_cases hc6_1 : u1 < (u3 - u2)
  · refine own_of (fun _ hh_ => XS.ifNo X0.here hx rfl (hb hby dK_6) rfl ((if0 _ _).trans (tlt ((lw_lt _ _).mpr hc6_1)).2.1) hh_) ?_
    show own_Run p e below s _ _ _ (s₁.setTop (mkF m 9 #[.val (.long u1), .second, .val (.long u2), .second, .val (.long u3), .second] []))
    refine own_of (fun _ hh_ => XS.iconst X0.here hx rfl (hb hby dK_9) hh_) ?_
    show own_Run p e below s _ _ _ (s₁.setTop (mkF m 10 #[.val (.long u1), .second, .val (.long u2), .second, .val (.long u3), .second] [(.int (1 : Int32))]))
    refine own_of (fun _ hh_ => XS.goto X0.here hx rfl (pc0 := 10) (pc' := 14) rfl (hb hby dK_10) (by decide) (by decide) hh_) ?_
    show own_Run p e below s _ _ _ (s₁.setTop (mkF m 14 #[.val (.long u1), .second, .val (.long u2), .second, .val (.long u3), .second] [(.int (1 : Int32))]))
    exact own_retN X0 hx (t := .boolean) hret hlk (by simp) (hb hby dK_14) ⟨by rw [if_pos hc6_1]; rfl, N0, e0⟩ (by decide) (by decide)
  · refine own_of (fun _ hh_ => XS.ifYes X0.here hx rfl (pc0 := 6) (pc' := 13) rfl (hb hby dK_6) rfl ((if0 _ _).trans (flt (fun q_ => hc6_1 ((lw_lt _ _).mp q_))).2.1) (by decide) (by decide) hh_) ?_
    show own_Run p e below s _ _ _ (s₁.setTop (mkF m 13 #[.val (.long u1), .second, .val (.long u2), .second, .val (.long u3), .second] []))
    refine own_of (fun _ hh_ => XS.iconst X0.here hx rfl (hb hby dK_13) hh_) ?_
    show own_Run p e below s _ _ _ (s₁.setTop (mkF m 14 #[.val (.long u1), .second, .val (.long u2), .second, .val (.long u3), .second] [(.int (0 : Int32))]))
    exact own_retN X0 hx (t := .boolean) hret hlk (by simp) (hb hby dK_14) ⟨by rw [if_neg hc6_1]; rfl, N0, e0⟩ (by decide) (by decide)
theorem own_pd1 : parseMethodDescriptor "(JJ)J" = some ⟨[.long, .long], some .long⟩ := by decide +kernel
theorem own_pd2 : parseMethodDescriptor "(JJ)V" = some ⟨[.long, .long], none⟩ := by decide +kernel
theorem own_pd3 : parseMethodDescriptor "(J)J" = some ⟨[.long], some .long⟩ := by decide +kernel
theorem own_pd4 : parseMethodDescriptor "(JJJ)Z" = some ⟨[.long, .long, .long], some .boolean⟩ := by decide +kernel
theorem ef0 (m : MethodId) (r1 : Int64) (ve : Int64) (s1 : Int64) : entryFrame m #[(.long r1), (.long ve), (.long s1)] maxLocals = mkF m 0 #[.val (.long r1), .second, .val (.long ve), .second, .val (.long s1), .second, .unset, .unset, .unset, .unset, .unset, .unset, .unset, .unset, .unset, .unset, .unset] [] := by first | (simp [entryFrame, mkF, argsToLocals, Value.category, maxLocals]; done) | rfl
def Q0 (Z : State) (r1 : Int64) (ve : Int64) (s1 : Int64) (h0 : Heap) (n0 : Nat) (v : Option Value) (h : Heap) (L : List Loc) : Prop := v = some (.int 1) ∧ Fr n0 L
set_option maxRecDepth 65536 in
set_option maxHeartbeats 40000000 in
theorem rm0 (l : Launch) (Z : State) (a0 : Array Value) (hw : ∀ d ∈ tables_1, d.before a0 Z = true) (ws : List Jvm.Cond) (r1 : Int64) (ve : Int64) (s1 : Int64) (h0 : Heap) (n0 : Nat) (Z0 : n0 ≤ h0.size)  :
    MetFree l x (head1 (Jvm.Cond.code x code maxLocals ret :: ws) room_1) (fun a U => a = #[(.long r1), (.long ve), (.long s1)] ∧ Z.Warmed39 U.vm ∧ U.heap = h0) (fun _ _ _ _ _ => True) (fun _ U o U' => ∃ v L, o = .returned v ∧ Q0 Z r1 ve s1 h0 n0 v U'.heap L ∧ FrameEnd U o U' L 16 128) := by
  refine MetFree.of_bodySF (plainFor_of_name own_pn2) hisR ?_
  intro p e s m args below meth c s₁ Bd hml0 hP hK
  obtain ⟨rfl, hZ, hh⟩ := hP
  have hx := Bd.exec
  have hby := Bd.bytes
  have hml : c.maxLocals = 17 := hml0
  have hown : s.vm.findClass "com/example/oriel/oriel/window/FrameCompletedByPinLaw" = some m.cls := findClass_of_methodNamed Bd.named
  have hnm := (name_of_methodNamed Bd.named Bd.method).1
  have hlk := Bd.notSynchronized
  have hret := Bd.returns
  have X0 : Stand p l e room_1 s m #[(.long r1), (.long ve), (.long s1)] below meth c s₁ [] 0 0 := Stand.of_body Bd
  have e0 : s₁.heap = h0 := by rw [← hh, Bd.state]; rfl
  have N0 := Fr.nil n0
  show own_Run p e below s 16 128 (Q0 Z r1 ve s1 h0 n0) (s₁.setTop (entryFrame m #[(.long r1), (.long ve), (.long s1)] maxLocals))
  refine own_cast (ef0 m r1 ve s1) ?_
  show own_Run p e below s _ _ _ (s₁.setTop (mkF m 0 #[.val (.long r1), .second, .val (.long ve), .second, .val (.long s1), .second, .unset, .unset, .unset, .unset, .unset, .unset, .unset, .unset, .unset, .unset, .unset] []))
  refine own_of (fun _ hh_ => XS.lloadN X0.here hx rfl (hb hby at_0) rfl hh_) ?_
  show own_Run p e below s _ _ _ (s₁.setTop (mkF m 1 #[.val (.long r1), .second, .val (.long ve), .second, .val (.long s1), .second, .unset, .unset, .unset, .unset, .unset, .unset, .unset, .unset, .unset, .unset, .unset] [(.long r1)]))
  refine own_of (X0.ldc2Long hx hown (mvT hZ (hw _ (List.mem_of_getElem? (i := 0) rfl))) (g := (mkF m 1 #[.val (.long r1), .second, .val (.long ve), .second, .val (.long s1), .second, .unset, .unset, .unset, .unset, .unset, .unset, .unset, .unset, .unset, .unset, .unset] [(.long r1)])) rfl (hb hby at_1)) ?_
  show own_Run p e below s _ _ _ (s₁.setTop (mkF m 4 #[.val (.long r1), .second, .val (.long ve), .second, .val (.long s1), .second, .unset, .unset, .unset, .unset, .unset, .unset, .unset, .unset, .unset, .unset, .unset] [(.long (9223372036854775807 : Int64)), (.long r1)]))
  refine own_of (fun _ hh_ => XS.land X0.here hx rfl (hb hby at_4) rfl hh_) ?_
  show own_Run p e below s _ _ _ (s₁.setTop (mkF m 5 #[.val (.long r1), .second, .val (.long ve), .second, .val (.long s1), .second, .unset, .unset, .unset, .unset, .unset, .unset, .unset, .unset, .unset, .unset, .unset] [(.long (r1 &&& (9223372036854775807 : Int64)))]))
  refine own_of (fun _ hh_ => XS.lstore X0.here hx rfl (hb hby at_5) rfl (l' := #[.val (.long r1), .second, .val (.long ve), .second, .val (.long s1), .second, .val (.long (r1 &&& (9223372036854775807 : Int64))), .second, .unset, .unset, .unset, .unset, .unset, .unset, .unset, .unset, .unset]) rfl hh_) ?_
  show own_Run p e below s _ _ _ (s₁.setTop (mkF m 7 #[.val (.long r1), .second, .val (.long ve), .second, .val (.long s1), .second, .val (.long (r1 &&& (9223372036854775807 : Int64))), .second, .unset, .unset, .unset, .unset, .unset, .unset, .unset, .unset, .unset] []))
  refine own_of (fun _ hh_ => XS.lload X0.here hx rfl (hb hby at_7) rfl hh_) ?_
  show own_Run p e below s _ _ _ (s₁.setTop (mkF m 9 #[.val (.long r1), .second, .val (.long ve), .second, .val (.long s1), .second, .val (.long (r1 &&& (9223372036854775807 : Int64))), .second, .unset, .unset, .unset, .unset, .unset, .unset, .unset, .unset, .unset] [(.long (r1 &&& (9223372036854775807 : Int64)))]))
  refine own_of (X0.ldc2Long hx hown (mvT hZ (hw _ (List.mem_of_getElem? (i := 0) rfl))) (g := (mkF m 9 #[.val (.long r1), .second, .val (.long ve), .second, .val (.long s1), .second, .val (.long (r1 &&& (9223372036854775807 : Int64))), .second, .unset, .unset, .unset, .unset, .unset, .unset, .unset, .unset, .unset] [(.long (r1 &&& (9223372036854775807 : Int64)))])) rfl (hb hby at_9)) ?_
  show own_Run p e below s _ _ _ (s₁.setTop (mkF m 12 #[.val (.long r1), .second, .val (.long ve), .second, .val (.long s1), .second, .val (.long (r1 &&& (9223372036854775807 : Int64))), .second, .unset, .unset, .unset, .unset, .unset, .unset, .unset, .unset, .unset] [(.long (9223372036854775807 : Int64)), (.long (r1 &&& (9223372036854775807 : Int64)))]))
  refine own_of (fun _ hh_ => XS.lcmp X0.here hx rfl (hb hby at_12) rfl hh_) ?_
  show own_Run p e below s _ _ _ (s₁.setTop (mkF m 13 #[.val (.long r1), .second, .val (.long ve), .second, .val (.long s1), .second, .val (.long (r1 &&& (9223372036854775807 : Int64))), .second, .unset, .unset, .unset, .unset, .unset, .unset, .unset, .unset, .unset] [(.int (lcmpW (r1 &&& (9223372036854775807 : Int64)) (9223372036854775807 : Int64)))]))
  by_cases hc13_1 : (r1 &&& (9223372036854775807 : Int64)) = (9223372036854775807 : Int64)
  · refine own_of (fun _ hh_ => XS.ifNo X0.here hx rfl (hb hby at_13) rfl ((if0 _ _).trans (teq ((lw_eq _ _).mpr hc13_1)).2) hh_) ?_
    show own_Run p e below s _ _ _ (s₁.setTop (mkF m 16 #[.val (.long r1), .second, .val (.long ve), .second, .val (.long s1), .second, .val (.long (r1 &&& (9223372036854775807 : Int64))), .second, .unset, .unset, .unset, .unset, .unset, .unset, .unset, .unset, .unset] []))
    refine own_of (X0.ldc2Long hx hown (mvT hZ (hw _ (List.mem_of_getElem? (i := 33) rfl))) (g := (mkF m 16 #[.val (.long r1), .second, .val (.long ve), .second, .val (.long s1), .second, .val (.long (r1 &&& (9223372036854775807 : Int64))), .second, .unset, .unset, .unset, .unset, .unset, .unset, .unset, .unset, .unset] [])) rfl (hb hby at_16)) ?_
    show own_Run p e below s _ _ _ (s₁.setTop (mkF m 19 #[.val (.long r1), .second, .val (.long ve), .second, .val (.long s1), .second, .val (.long (r1 &&& (9223372036854775807 : Int64))), .second, .unset, .unset, .unset, .unset, .unset, .unset, .unset, .unset, .unset] [(.long (9223372036854775806 : Int64))]))
    refine own_of (fun _ hh_ => XS.lstore X0.here hx rfl (hb hby at_19) rfl (l' := #[.val (.long r1), .second, .val (.long ve), .second, .val (.long s1), .second, .val (.long (9223372036854775806 : Int64)), .second, .unset, .unset, .unset, .unset, .unset, .unset, .unset, .unset, .unset]) rfl hh_) ?_
    show own_Run p e below s _ _ _ (s₁.setTop (mkF m 21 #[.val (.long r1), .second, .val (.long ve), .second, .val (.long s1), .second, .val (.long (9223372036854775806 : Int64)), .second, .unset, .unset, .unset, .unset, .unset, .unset, .unset, .unset, .unset] []))
    generalize hrow : (9223372036854775806 : Int64) = row
    have rr : 0 ≤ row.toInt ∧ row.toInt ≤ 9223372036854775806 := by
      rw [← hrow, own_lM1]; omega
    show own_Run p e below s _ _ _ (s₁.setTop (mkF m 21 #[.val (.long r1), .second, .val (.long ve), .second, .val (.long s1), .second, .val (.long row), .second, .unset, .unset, .unset, .unset, .unset, .unset, .unset, .unset, .unset] []))
    refine own_of (fun _ hh_ => XS.lloadN X0.here hx rfl (hb hby at_21) rfl hh_) ?_
    show own_Run p e below s _ _ _ (s₁.setTop (mkF m 22 #[.val (.long r1), .second, .val (.long ve), .second, .val (.long s1), .second, .val (.long row), .second, .unset, .unset, .unset, .unset, .unset, .unset, .unset, .unset, .unset] [(.long ve)]))
    refine own_of (fun _ hh_ => XS.lstore X0.here hx rfl (hb hby at_22) rfl (l' := #[.val (.long r1), .second, .val (.long ve), .second, .val (.long s1), .second, .val (.long row), .second, .val (.long ve), .second, .unset, .unset, .unset, .unset, .unset, .unset, .unset]) rfl hh_) ?_
    show own_Run p e below s _ _ _ (s₁.setTop (mkF m 24 #[.val (.long r1), .second, .val (.long ve), .second, .val (.long s1), .second, .val (.long row), .second, .val (.long ve), .second, .unset, .unset, .unset, .unset, .unset, .unset, .unset] []))
    refine own_of (fun _ hh_ => XS.lload X0.here hx rfl (hb hby at_24) rfl hh_) ?_
    show own_Run p e below s _ _ _ (s₁.setTop (mkF m 26 #[.val (.long r1), .second, .val (.long ve), .second, .val (.long s1), .second, .val (.long row), .second, .val (.long ve), .second, .unset, .unset, .unset, .unset, .unset, .unset, .unset] [(.long s1)]))
    refine own_of (fun _ hh_ => XS.lloadN X0.here hx rfl (hb hby at_26) rfl hh_) ?_
    show own_Run p e below s _ _ _ (s₁.setTop (mkF m 27 #[.val (.long r1), .second, .val (.long ve), .second, .val (.long s1), .second, .val (.long row), .second, .val (.long ve), .second, .unset, .unset, .unset, .unset, .unset, .unset, .unset] [(.long ve), (.long s1)]))
    obtain ⟨_, _, ⟨T2, L2, k2, n2⟩, -, X2, ⟨Lc2, hQ2, l2, y2, z2⟩, st2⟩ := Jvm.LawKit.callS X0 hx (y := (⟨"java/lang/Math", "min", "(JJ)J"⟩ : MethodName)) hown (mvT hZ (hw _ (List.mem_of_getElem? (i := 1) rfl))) (mvT hZ (hw _ (List.mem_of_getElem? (i := 2) rfl))) (mvT hZ (hw _ (List.mem_of_getElem? (i := 3) rfl))) (mvT hZ (hw _ (List.mem_of_getElem? (i := 4) rfl))) (by decide) (backOf (W := 0) (rmmin l Z a0 hw [] s1 ve h0 n0 Z0) hZ (hw _ (List.mem_of_getElem? (i := 4) rfl)) (hw _ (List.mem_of_getElem? (i := 3) rfl)) (by decide) (by decide)) (g := (mkF m 27 #[.val (.long r1), .second, .val (.long ve), .second, .val (.long s1), .second, .val (.long row), .second, .val (.long ve), .second, .unset, .unset, .unset, .unset, .unset, .unset, .unset] [(.long ve), (.long s1)])) rfl (by rw [hml]; rfl) (argsL := [(.long s1), (.long ve)]) (rest := []) (lenOf own_pd1 rfl) rfl (by show 2 * 0 + _ ≤ _; exact Nat.le_of_eq rfl) (hb hby at_27) (fun _ _ => ⟨rfl, e0, (by decide : 0 + 0 ≤ _), (by decide : 0 + 0 ≤ _)⟩)
    dsimp only [Pt.U, Pt.locs, Pt.cells, Pt.slots] at X2 l2 y2 z2 st2 hQ2
    subst l2 y2 z2
    obtain ⟨rfl, N2q, e2⟩ := hQ2
    have N2 := Fr.app N0 N2q
    refine own_of st2 ?_
    show own_Run p e below s _ _ _ (T2.setTop (mkF m 30 #[.val (.long r1), .second, .val (.long ve), .second, .val (.long s1), .second, .val (.long row), .second, .val (.long ve), .second, .unset, .unset, .unset, .unset, .unset, .unset, .unset] [(.long (own_minL s1 ve))]))
    refine own_of (fun _ hh_ => XS.lstore X2.here hx rfl (hb hby at_30) rfl (l' := #[.val (.long r1), .second, .val (.long ve), .second, .val (.long s1), .second, .val (.long row), .second, .val (.long ve), .second, .val (.long (own_minL s1 ve)), .second, .unset, .unset, .unset, .unset, .unset]) rfl hh_) ?_
    show own_Run p e below s _ _ _ (T2.setTop (mkF m 32 #[.val (.long r1), .second, .val (.long ve), .second, .val (.long s1), .second, .val (.long row), .second, .val (.long ve), .second, .val (.long (own_minL s1 ve)), .second, .unset, .unset, .unset, .unset, .unset] []))
    obtain ⟨T3, h3, X3, e3, E3, A3, D3, -, st3⟩ := newO X2 hx hZ hown (hw _ (List.mem_of_getElem? (i := 5) rfl)) (hw _ (List.mem_of_getElem? (i := 6) rfl)) (hw _ (List.mem_of_getElem? (i := 7) rfl)) e2 (g := (mkF m 32 #[.val (.long r1), .second, .val (.long ve), .second, .val (.long s1), .second, .val (.long row), .second, .val (.long ve), .second, .val (.long (own_minL s1 ve)), .second, .unset, .unset, .unset, .unset, .unset] [])) rfl (hb hby at_32) (by decide) (by decide)
    obtain ⟨ob3, g3⟩ : ∃ z, z = h0.size := ⟨_, rfl⟩
    rw [← g3] at A3 D3 st3
    have g_ob3 : n0 ≤ ob3 := Nat.le_trans Z0 (Nat.le_of_eq g3.symm)
    have f4 : Fld Z h3 ob3 "com/example/oriel/oriel/window/Frame" "start" "J" (.long (0 : Int64)) := D3 (Or.inr (hw _ (List.mem_of_getElem? (i := 20) rfl))) (ty := .long) (by decide)
    have f5 : Fld Z h3 ob3 "com/example/oriel/oriel/window/Frame" "end" "J" (.long (0 : Int64)) := D3 (Or.inr (hw _ (List.mem_of_getElem? (i := 22) rfl))) (ty := .long) (by decide)
    refine own_of st3 ?_
    show own_Run p e below s _ _ _ (T3.setTop (mkF m 35 #[.val (.long r1), .second, .val (.long ve), .second, .val (.long s1), .second, .val (.long row), .second, .val (.long ve), .second, .val (.long (own_minL s1 ve)), .second, .unset, .unset, .unset, .unset, .unset] [(.ref ob3)]))
    refine own_of (fun _ hh_ => XS.dup X3.here hx rfl (hb hby at_35) rfl rfl hh_) ?_
    show own_Run p e below s _ _ _ (T3.setTop (mkF m 36 #[.val (.long r1), .second, .val (.long ve), .second, .val (.long s1), .second, .val (.long row), .second, .val (.long ve), .second, .val (.long (own_minL s1 ve)), .second, .unset, .unset, .unset, .unset, .unset] [(.ref ob3), (.ref ob3)]))
    refine own_of (fun _ hh_ => XS.lload X3.here hx rfl (hb hby at_36) rfl hh_) ?_
    show own_Run p e below s _ _ _ (T3.setTop (mkF m 38 #[.val (.long r1), .second, .val (.long ve), .second, .val (.long s1), .second, .val (.long row), .second, .val (.long ve), .second, .val (.long (own_minL s1 ve)), .second, .unset, .unset, .unset, .unset, .unset] [(.long (own_minL s1 ve)), (.ref ob3), (.ref ob3)]))
    refine own_of (fun _ hh_ => XS.lload X3.here hx rfl (hb hby at_38) rfl hh_) ?_
    show own_Run p e below s _ _ _ (T3.setTop (mkF m 40 #[.val (.long r1), .second, .val (.long ve), .second, .val (.long s1), .second, .val (.long row), .second, .val (.long ve), .second, .val (.long (own_minL s1 ve)), .second, .unset, .unset, .unset, .unset, .unset] [(.long ve), (.long (own_minL s1 ve)), (.ref ob3), (.ref ob3)]))
    have hle := own_le s1 ve
    obtain ⟨_, _, ⟨T6, L6, k6, n6⟩, -, X6, ⟨Lc6, hQ6, l6, y6, z6⟩, st6⟩ := X3.specialBack hx (y := (⟨"com/example/oriel/oriel/window/Frame", "<init>", "(JJ)V"⟩ : MethodName)) rfl hown (mvT hZ (hw _ (List.mem_of_getElem? (i := 8) rfl))) (mvT hZ (hw _ (List.mem_of_getElem? (i := 9) rfl))) (mvT hZ (hw _ (List.mem_of_getElem? (i := 10) rfl))) (by decide) (backOf (W := 1) (rmF l Z a0 hw [] ob3 (own_minL s1 ve) ve h3 n0 (Nat.le_trans Z0 E3.1) A3 f4 f5 g_ob3 hle) hZ (hw _ (List.mem_of_getElem? (i := 10) rfl)) (hw _ (List.mem_of_getElem? (i := 7) rfl)) (by decide) (by decide)) (g := (mkF m 40 #[.val (.long r1), .second, .val (.long ve), .second, .val (.long s1), .second, .val (.long row), .second, .val (.long ve), .second, .val (.long (own_minL s1 ve)), .second, .unset, .unset, .unset, .unset, .unset] [(.long ve), (.long (own_minL s1 ve)), (.ref ob3), (.ref ob3)])) rfl (by rw [hml]; rfl) (Steps.refl _) (a := ob3) (argsL := [(.long (own_minL s1 ve)), (.long ve)]) (rest := [(.ref ob3)]) (lenOf own_pd2 rfl) rfl (by show 2 * 0 + _ ≤ _; exact Nat.le_of_eq rfl) (hb hby at_40) (fun _ _ => ⟨rfl, e3, (by decide : 1 + 0 ≤ _), (by decide : 2 + 0 ≤ _)⟩)
    dsimp only [Pt.U, Pt.locs, Pt.cells, Pt.slots] at X6 l6 y6 z6 st6 hQ6
    subst l6 y6 z6
    obtain ⟨rfl, N6q, K6, fs6, fe6⟩ := hQ6
    have N6 := Fr.app N2 N6q
    have f7 := A3.keep K6
    refine own_tr st6 ?_
    show own_Run p e below s _ _ _ (T6.setTop (mkF m 43 #[.val (.long r1), .second, .val (.long ve), .second, .val (.long s1), .second, .val (.long row), .second, .val (.long ve), .second, .val (.long (own_minL s1 ve)), .second, .unset, .unset, .unset, .unset, .unset] [(.ref ob3)]))
    refine own_of (fun _ hh_ => XS.astore X6.here hx rfl (hb hby at_43) rfl rfl (l' := #[.val (.long r1), .second, .val (.long ve), .second, .val (.long s1), .second, .val (.long row), .second, .val (.long ve), .second, .val (.long (own_minL s1 ve)), .second, .val (.ref ob3), .unset, .unset, .unset, .unset]) rfl hh_) ?_
    show own_Run p e below s _ _ _ (T6.setTop (mkF m 45 #[.val (.long r1), .second, .val (.long ve), .second, .val (.long s1), .second, .val (.long row), .second, .val (.long ve), .second, .val (.long (own_minL s1 ve)), .second, .val (.ref ob3), .unset, .unset, .unset, .unset] []))
    refine own_of (fun _ hh_ => XS.aload X6.here hx rfl (hb hby at_45) rfl rfl hh_) ?_
    show own_Run p e below s _ _ _ (T6.setTop (mkF m 47 #[.val (.long r1), .second, .val (.long ve), .second, .val (.long s1), .second, .val (.long row), .second, .val (.long ve), .second, .val (.long (own_minL s1 ve)), .second, .val (.ref ob3), .unset, .unset, .unset, .unset] [(.ref ob3)]))
    refine own_of (fun _ hh_ => XS.lload X6.here hx rfl (hb hby at_47) rfl hh_) ?_
    show own_Run p e below s _ _ _ (T6.setTop (mkF m 49 #[.val (.long r1), .second, .val (.long ve), .second, .val (.long s1), .second, .val (.long row), .second, .val (.long ve), .second, .val (.long (own_minL s1 ve)), .second, .val (.ref ob3), .unset, .unset, .unset, .unset] [(.long row), (.ref ob3)]))
    obtain ⟨cq8, kq8, q8a, q8b, q8c⟩ := isOf hZ (rfl : T6.heap = T6.heap) f7
    obtain ⟨_, _, ⟨T8, L8, k8, n8⟩, -, X8, ⟨Lc8, hQ8, l8, y8, z8⟩, st8⟩ := X6.virtualBack hx (y := (⟨"com/example/oriel/oriel/window/Frame", "completedBy", "(J)J"⟩ : MethodName)) (z := (⟨"com/example/oriel/oriel/window/Frame", "completedBy", "(J)J"⟩ : MethodName)) hown (mvT hZ (hw _ (List.mem_of_getElem? (i := 23) rfl))) (mvT hZ (hw _ (List.mem_of_getElem? (i := 24) rfl))) (notFace_of_selects (args := #[]) (mvT hZ (hw _ (List.mem_of_getElem? (i := 26) rfl)))) (mvT hZ (hw _ (List.mem_of_getElem? (i := 26) rfl))) (mvT hZ (hw _ (List.mem_of_getElem? (i := 25) rfl))) (by decide) (backOf (W := 0) (rmC l Z a0 hw [] ob3 row ve T6.heap n0 (Nat.le_trans (Nat.le_trans Z0 E3.1) K6.1) fe6) hZ (hw _ (List.mem_of_getElem? (i := 27) rfl)) (hw _ (List.mem_of_getElem? (i := 7) rfl)) (by decide) (by decide)) q8a q8c (g := (mkF m 49 #[.val (.long r1), .second, .val (.long ve), .second, .val (.long s1), .second, .val (.long row), .second, .val (.long ve), .second, .val (.long (own_minL s1 ve)), .second, .val (.ref ob3), .unset, .unset, .unset, .unset] [(.long row), (.ref ob3)])) rfl (by rw [hml]; rfl) (Steps.refl _) (argsL := [(.long row)]) (rest := []) (lenOf own_pd3 rfl) rfl (by show 2 * 0 + _ ≤ _; exact Nat.le_of_eq rfl) (hb hby at_49) (fun _ _ => ⟨rfl, (rfl : T6.heap = T6.heap), (by decide : 1 + 0 ≤ _), (by decide : 2 + 0 ≤ _)⟩)
    dsimp only [Pt.U, Pt.locs, Pt.cells, Pt.slots] at X8 l8 y8 z8 st8 hQ8
    subst l8 y8 z8
    obtain ⟨rfl, N8q, e8⟩ := hQ8
    have N8 := Fr.app N6 N8q
    refine own_tr st8 ?_
    show own_Run p e below s _ _ _ (T8.setTop (mkF m 52 #[.val (.long r1), .second, .val (.long ve), .second, .val (.long s1), .second, .val (.long row), .second, .val (.long ve), .second, .val (.long (own_minL s1 ve)), .second, .val (.ref ob3), .unset, .unset, .unset, .unset] [(.long (own_cb ve row))]))
    refine own_of (fun _ hh_ => XS.lstore X8.here hx rfl (hb hby at_52) rfl (l' := #[.val (.long r1), .second, .val (.long ve), .second, .val (.long s1), .second, .val (.long row), .second, .val (.long ve), .second, .val (.long (own_minL s1 ve)), .second, .val (.ref ob3), .val (.long (own_cb ve row)), .second, .unset, .unset]) rfl hh_) ?_
    show own_Run p e below s _ _ _ (T8.setTop (mkF m 54 #[.val (.long r1), .second, .val (.long ve), .second, .val (.long s1), .second, .val (.long row), .second, .val (.long ve), .second, .val (.long (own_minL s1 ve)), .second, .val (.ref ob3), .val (.long (own_cb ve row)), .second, .unset, .unset] []))
    refine own_of (fun _ hh_ => XS.lload X8.here hx rfl (hb hby at_54) rfl hh_) ?_
    show own_Run p e below s _ _ _ (T8.setTop (mkF m 56 #[.val (.long r1), .second, .val (.long ve), .second, .val (.long s1), .second, .val (.long row), .second, .val (.long ve), .second, .val (.long (own_minL s1 ve)), .second, .val (.ref ob3), .val (.long (own_cb ve row)), .second, .unset, .unset] [(.long (own_cb ve row))]))
    refine own_of (fun _ hh_ => XS.lload X8.here hx rfl (hb hby at_56) rfl hh_) ?_
    show own_Run p e below s _ _ _ (T8.setTop (mkF m 58 #[.val (.long r1), .second, .val (.long ve), .second, .val (.long s1), .second, .val (.long row), .second, .val (.long ve), .second, .val (.long (own_minL s1 ve)), .second, .val (.ref ob3), .val (.long (own_cb ve row)), .second, .unset, .unset] [(.long row), (.long (own_cb ve row))]))
    refine own_of (fun _ hh_ => XS.lcmp X8.here hx rfl (hb hby at_58) rfl hh_) ?_
    show own_Run p e below s _ _ _ (T8.setTop (mkF m 59 #[.val (.long r1), .second, .val (.long ve), .second, .val (.long s1), .second, .val (.long row), .second, .val (.long ve), .second, .val (.long (own_minL s1 ve)), .second, .val (.ref ob3), .val (.long (own_cb ve row)), .second, .unset, .unset] [(.int (lcmpW (own_cb ve row) row))]))
    have hc59_9 : row < (own_cb ve row) := own_t1 ve row rr.1 rr.2
    refine own_of (fun _ hh_ => XS.ifYes X8.here hx rfl (pc0 := 59) (pc' := 64) rfl (hb hby at_59) rfl ((if0 _ _).trans (tlt ((lw_gt _ _).mpr hc59_9)).2.2.1) (by decide) (by decide) hh_) ?_
    show own_Run p e below s _ _ _ (T8.setTop (mkF m 64 #[.val (.long r1), .second, .val (.long ve), .second, .val (.long s1), .second, .val (.long row), .second, .val (.long ve), .second, .val (.long (own_minL s1 ve)), .second, .val (.ref ob3), .val (.long (own_cb ve row)), .second, .unset, .unset] []))
    refine own_of (fun _ hh_ => XS.lload X8.here hx rfl (hb hby at_64) rfl hh_) ?_
    show own_Run p e below s _ _ _ (T8.setTop (mkF m 66 #[.val (.long r1), .second, .val (.long ve), .second, .val (.long s1), .second, .val (.long row), .second, .val (.long ve), .second, .val (.long (own_minL s1 ve)), .second, .val (.ref ob3), .val (.long (own_cb ve row)), .second, .unset, .unset] [(.long (own_cb ve row))]))
    refine own_of (X8.ldc2Long hx hown (mvT hZ (hw _ (List.mem_of_getElem? (i := 0) rfl))) (g := (mkF m 66 #[.val (.long r1), .second, .val (.long ve), .second, .val (.long s1), .second, .val (.long row), .second, .val (.long ve), .second, .val (.long (own_minL s1 ve)), .second, .val (.ref ob3), .val (.long (own_cb ve row)), .second, .unset, .unset] [(.long (own_cb ve row))])) rfl (hb hby at_66)) ?_
    show own_Run p e below s _ _ _ (T8.setTop (mkF m 69 #[.val (.long r1), .second, .val (.long ve), .second, .val (.long s1), .second, .val (.long row), .second, .val (.long ve), .second, .val (.long (own_minL s1 ve)), .second, .val (.ref ob3), .val (.long (own_cb ve row)), .second, .unset, .unset] [(.long (9223372036854775807 : Int64)), (.long (own_cb ve row))]))
    refine own_of (fun _ hh_ => XS.lcmp X8.here hx rfl (hb hby at_69) rfl hh_) ?_
    show own_Run p e below s _ _ _ (T8.setTop (mkF m 70 #[.val (.long r1), .second, .val (.long ve), .second, .val (.long s1), .second, .val (.long row), .second, .val (.long ve), .second, .val (.long (own_minL s1 ve)), .second, .val (.ref ob3), .val (.long (own_cb ve row)), .second, .unset, .unset] [(.int (lcmpW (own_cb ve row) (9223372036854775807 : Int64)))]))
    by_cases hc70_10 : (own_cb ve row) = (9223372036854775807 : Int64)
    · refine own_of (fun _ hh_ => XS.ifYes X8.here hx rfl (pc0 := 70) (pc' := 85) rfl (hb hby at_70) rfl ((if0 _ _).trans (teq ((lw_eq _ _).mpr hc70_10)).1) (by decide) (by decide) hh_) ?_
      show own_Run p e below s _ _ _ (T8.setTop (mkF m 85 #[.val (.long r1), .second, .val (.long ve), .second, .val (.long s1), .second, .val (.long row), .second, .val (.long ve), .second, .val (.long (own_minL s1 ve)), .second, .val (.ref ob3), .val (.long (own_cb ve row)), .second, .unset, .unset] []))
      refine own_of (fun _ hh_ => XS.iconst X8.here hx rfl (hb hby at_85) hh_) ?_
      show own_Run p e below s _ _ _ (T8.setTop (mkF m 86 #[.val (.long r1), .second, .val (.long ve), .second, .val (.long s1), .second, .val (.long row), .second, .val (.long ve), .second, .val (.long (own_minL s1 ve)), .second, .val (.ref ob3), .val (.long (own_cb ve row)), .second, .unset, .unset] [(.int (1 : Int32))]))
      refine own_of (fun _ hh_ => XS.goto X8.here hx rfl (pc0 := 86) (pc' := 90) rfl (hb hby at_86) (by decide) (by decide) hh_) ?_
      show own_Run p e below s _ _ _ (T8.setTop (mkF m 90 #[.val (.long r1), .second, .val (.long ve), .second, .val (.long s1), .second, .val (.long row), .second, .val (.long ve), .second, .val (.long (own_minL s1 ve)), .second, .val (.ref ob3), .val (.long (own_cb ve row)), .second, .unset, .unset] [(.int (1 : Int32))]))
      refine own_of (fun _ hh_ => XS.istore X8.here hx rfl (hb hby at_90) rfl (l' := #[.val (.long r1), .second, .val (.long ve), .second, .val (.long s1), .second, .val (.long row), .second, .val (.long ve), .second, .val (.long (own_minL s1 ve)), .second, .val (.ref ob3), .val (.long (own_cb ve row)), .second, .val (.int (1 : Int32)), .unset]) rfl hh_) ?_
      show own_Run p e below s _ _ _ (T8.setTop (mkF m 92 #[.val (.long r1), .second, .val (.long ve), .second, .val (.long s1), .second, .val (.long row), .second, .val (.long ve), .second, .val (.long (own_minL s1 ve)), .second, .val (.ref ob3), .val (.long (own_cb ve row)), .second, .val (.int (1 : Int32)), .unset] []))
      refine own_of (fun _ hh_ => XS.lload X8.here hx rfl (hb hby at_92) rfl hh_) ?_
      show own_Run p e below s _ _ _ (T8.setTop (mkF m 94 #[.val (.long r1), .second, .val (.long ve), .second, .val (.long s1), .second, .val (.long row), .second, .val (.long ve), .second, .val (.long (own_minL s1 ve)), .second, .val (.ref ob3), .val (.long (own_cb ve row)), .second, .val (.int (1 : Int32)), .unset] [(.long (own_cb ve row))]))
      refine own_of (fun _ hh_ => XS.lconst X8.here hx rfl (hb hby at_94) hh_) ?_
      show own_Run p e below s _ _ _ (T8.setTop (mkF m 95 #[.val (.long r1), .second, .val (.long ve), .second, .val (.long s1), .second, .val (.long row), .second, .val (.long ve), .second, .val (.long (own_minL s1 ve)), .second, .val (.ref ob3), .val (.long (own_cb ve row)), .second, .val (.int (1 : Int32)), .unset] [(.long (1 : Int64)), (.long (own_cb ve row))]))
      refine own_of (fun _ hh_ => XS.lsub X8.here hx rfl (hb hby at_95) rfl hh_) ?_
      show own_Run p e below s _ _ _ (T8.setTop (mkF m 96 #[.val (.long r1), .second, .val (.long ve), .second, .val (.long s1), .second, .val (.long row), .second, .val (.long ve), .second, .val (.long (own_minL s1 ve)), .second, .val (.ref ob3), .val (.long (own_cb ve row)), .second, .val (.int (1 : Int32)), .unset] [(.long ((own_cb ve row) - (1 : Int64)))]))
      refine own_of (fun _ hh_ => XS.lload X8.here hx rfl (hb hby at_96) rfl hh_) ?_
      show own_Run p e below s _ _ _ (T8.setTop (mkF m 98 #[.val (.long r1), .second, .val (.long ve), .second, .val (.long s1), .second, .val (.long row), .second, .val (.long ve), .second, .val (.long (own_minL s1 ve)), .second, .val (.ref ob3), .val (.long (own_cb ve row)), .second, .val (.int (1 : Int32)), .unset] [(.long row), (.long ((own_cb ve row) - (1 : Int64)))]))
      refine own_of (fun _ hh_ => XS.lcmp X8.here hx rfl (hb hby at_98) rfl hh_) ?_
      show own_Run p e below s _ _ _ (T8.setTop (mkF m 99 #[.val (.long r1), .second, .val (.long ve), .second, .val (.long s1), .second, .val (.long row), .second, .val (.long ve), .second, .val (.long (own_minL s1 ve)), .second, .val (.ref ob3), .val (.long (own_cb ve row)), .second, .val (.int (1 : Int32)), .unset] [(.int (lcmpW ((own_cb ve row) - (1 : Int64)) row))]))
      by_cases hc99_11 : ((own_cb ve row) - (1 : Int64)) = row
      · refine own_of (fun _ hh_ => XS.ifYes X8.here hx rfl (pc0 := 99) (pc' := 116) rfl (hb hby at_99) rfl ((if0 _ _).trans (teq ((lw_eq _ _).mpr hc99_11)).1) (by decide) (by decide) hh_) ?_
        show own_Run p e below s _ _ _ (T8.setTop (mkF m 116 #[.val (.long r1), .second, .val (.long ve), .second, .val (.long s1), .second, .val (.long row), .second, .val (.long ve), .second, .val (.long (own_minL s1 ve)), .second, .val (.ref ob3), .val (.long (own_cb ve row)), .second, .val (.int (1 : Int32)), .unset] []))
        refine own_of (fun _ hh_ => XS.iconst X8.here hx rfl (hb hby at_116) hh_) ?_
        show own_Run p e below s _ _ _ (T8.setTop (mkF m 117 #[.val (.long r1), .second, .val (.long ve), .second, .val (.long s1), .second, .val (.long row), .second, .val (.long ve), .second, .val (.long (own_minL s1 ve)), .second, .val (.ref ob3), .val (.long (own_cb ve row)), .second, .val (.int (1 : Int32)), .unset] [(.int (1 : Int32))]))
        refine own_of (fun _ hh_ => XS.goto X8.here hx rfl (pc0 := 117) (pc' := 121) rfl (hb hby at_117) (by decide) (by decide) hh_) ?_
        show own_Run p e below s _ _ _ (T8.setTop (mkF m 121 #[.val (.long r1), .second, .val (.long ve), .second, .val (.long s1), .second, .val (.long row), .second, .val (.long ve), .second, .val (.long (own_minL s1 ve)), .second, .val (.ref ob3), .val (.long (own_cb ve row)), .second, .val (.int (1 : Int32)), .unset] [(.int (1 : Int32))]))
        refine own_of (fun _ hh_ => XS.istore X8.here hx rfl (hb hby at_121) rfl (l' := #[.val (.long r1), .second, .val (.long ve), .second, .val (.long s1), .second, .val (.long row), .second, .val (.long ve), .second, .val (.long (own_minL s1 ve)), .second, .val (.ref ob3), .val (.long (own_cb ve row)), .second, .val (.int (1 : Int32)), .val (.int (1 : Int32))]) rfl hh_) ?_
        show own_Run p e below s _ _ _ (T8.setTop (mkF m 123 #[.val (.long r1), .second, .val (.long ve), .second, .val (.long s1), .second, .val (.long row), .second, .val (.long ve), .second, .val (.long (own_minL s1 ve)), .second, .val (.ref ob3), .val (.long (own_cb ve row)), .second, .val (.int (1 : Int32)), .val (.int (1 : Int32))] []))
        refine own_of (fun _ hh_ => XS.iload X8.here hx rfl (hb hby at_123) rfl hh_) ?_
        show own_Run p e below s _ _ _ (T8.setTop (mkF m 125 #[.val (.long r1), .second, .val (.long ve), .second, .val (.long s1), .second, .val (.long row), .second, .val (.long ve), .second, .val (.long (own_minL s1 ve)), .second, .val (.ref ob3), .val (.long (own_cb ve row)), .second, .val (.int (1 : Int32)), .val (.int (1 : Int32))] [(.int (1 : Int32))]))
        refine own_of (fun _ hh_ => XS.ifNo X8.here hx rfl (hb hby at_125) rfl ((if0 _ _).trans (by decide)) hh_) ?_
        show own_Run p e below s _ _ _ (T8.setTop (mkF m 128 #[.val (.long r1), .second, .val (.long ve), .second, .val (.long s1), .second, .val (.long row), .second, .val (.long ve), .second, .val (.long (own_minL s1 ve)), .second, .val (.ref ob3), .val (.long (own_cb ve row)), .second, .val (.int (1 : Int32)), .val (.int (1 : Int32))] []))
        refine own_of (fun _ hh_ => XS.iload X8.here hx rfl (hb hby at_128) rfl hh_) ?_
        show own_Run p e below s _ _ _ (T8.setTop (mkF m 130 #[.val (.long r1), .second, .val (.long ve), .second, .val (.long s1), .second, .val (.long row), .second, .val (.long ve), .second, .val (.long (own_minL s1 ve)), .second, .val (.ref ob3), .val (.long (own_cb ve row)), .second, .val (.int (1 : Int32)), .val (.int (1 : Int32))] [(.int (1 : Int32))]))
        refine own_of (fun _ hh_ => XS.ifNo X8.here hx rfl (hb hby at_130) rfl ((if0 _ _).trans (by decide)) hh_) ?_
        show own_Run p e below s _ _ _ (T8.setTop (mkF m 133 #[.val (.long r1), .second, .val (.long ve), .second, .val (.long s1), .second, .val (.long row), .second, .val (.long ve), .second, .val (.long (own_minL s1 ve)), .second, .val (.ref ob3), .val (.long (own_cb ve row)), .second, .val (.int (1 : Int32)), .val (.int (1 : Int32))] []))
        refine own_of (fun _ hh_ => XS.iconst X8.here hx rfl (hb hby at_133) hh_) ?_
        show own_Run p e below s _ _ _ (T8.setTop (mkF m 134 #[.val (.long r1), .second, .val (.long ve), .second, .val (.long s1), .second, .val (.long row), .second, .val (.long ve), .second, .val (.long (own_minL s1 ve)), .second, .val (.ref ob3), .val (.long (own_cb ve row)), .second, .val (.int (1 : Int32)), .val (.int (1 : Int32))] [(.int (1 : Int32))]))
        refine own_of (fun _ hh_ => XS.goto X8.here hx rfl (pc0 := 134) (pc' := 138) rfl (hb hby at_134) (by decide) (by decide) hh_) ?_
        show own_Run p e below s _ _ _ (T8.setTop (mkF m 138 #[.val (.long r1), .second, .val (.long ve), .second, .val (.long s1), .second, .val (.long row), .second, .val (.long ve), .second, .val (.long (own_minL s1 ve)), .second, .val (.ref ob3), .val (.long (own_cb ve row)), .second, .val (.int (1 : Int32)), .val (.int (1 : Int32))] [(.int (1 : Int32))]))
        exact own_retN X8 hx (t := .boolean) hret hlk (by simp) (hb hby at_138) ⟨rfl, N8⟩ (by decide) (by decide)
      · refine own_of (fun _ hh_ => XS.ifNo X8.here hx rfl (hb hby at_99) rfl ((if0 _ _).trans (feq (fun q_ => hc99_11 ((lw_eq _ _).mp q_))).1) hh_) ?_
        show own_Run p e below s _ _ _ (T8.setTop (mkF m 102 #[.val (.long r1), .second, .val (.long ve), .second, .val (.long s1), .second, .val (.long row), .second, .val (.long ve), .second, .val (.long (own_minL s1 ve)), .second, .val (.ref ob3), .val (.long (own_cb ve row)), .second, .val (.int (1 : Int32)), .unset] []))
        refine own_of (fun _ hh_ => XS.lload X8.here hx rfl (hb hby at_102) rfl hh_) ?_
        show own_Run p e below s _ _ _ (T8.setTop (mkF m 104 #[.val (.long r1), .second, .val (.long ve), .second, .val (.long s1), .second, .val (.long row), .second, .val (.long ve), .second, .val (.long (own_minL s1 ve)), .second, .val (.ref ob3), .val (.long (own_cb ve row)), .second, .val (.int (1 : Int32)), .unset] [(.long ve)]))
        refine own_of (fun _ hh_ => XS.lload X8.here hx rfl (hb hby at_104) rfl hh_) ?_
        show own_Run p e below s _ _ _ (T8.setTop (mkF m 106 #[.val (.long r1), .second, .val (.long ve), .second, .val (.long s1), .second, .val (.long row), .second, .val (.long ve), .second, .val (.long (own_minL s1 ve)), .second, .val (.ref ob3), .val (.long (own_cb ve row)), .second, .val (.int (1 : Int32)), .unset] [(.long row), (.long ve)]))
        refine own_of (fun _ hh_ => XS.lload X8.here hx rfl (hb hby at_106) rfl hh_) ?_
        show own_Run p e below s _ _ _ (T8.setTop (mkF m 108 #[.val (.long r1), .second, .val (.long ve), .second, .val (.long s1), .second, .val (.long row), .second, .val (.long ve), .second, .val (.long (own_minL s1 ve)), .second, .val (.ref ob3), .val (.long (own_cb ve row)), .second, .val (.int (1 : Int32)), .unset] [(.long (own_cb ve row)), (.long row), (.long ve)]))
        refine own_of (fun _ hh_ => XS.lconst X8.here hx rfl (hb hby at_108) hh_) ?_
        show own_Run p e below s _ _ _ (T8.setTop (mkF m 109 #[.val (.long r1), .second, .val (.long ve), .second, .val (.long s1), .second, .val (.long row), .second, .val (.long ve), .second, .val (.long (own_minL s1 ve)), .second, .val (.ref ob3), .val (.long (own_cb ve row)), .second, .val (.int (1 : Int32)), .unset] [(.long (1 : Int64)), (.long (own_cb ve row)), (.long row), (.long ve)]))
        refine own_of (fun _ hh_ => XS.lsub X8.here hx rfl (hb hby at_109) rfl hh_) ?_
        show own_Run p e below s _ _ _ (T8.setTop (mkF m 110 #[.val (.long r1), .second, .val (.long ve), .second, .val (.long s1), .second, .val (.long row), .second, .val (.long ve), .second, .val (.long (own_minL s1 ve)), .second, .val (.ref ob3), .val (.long (own_cb ve row)), .second, .val (.int (1 : Int32)), .unset] [(.long ((own_cb ve row) - (1 : Int64))), (.long row), (.long ve)]))
        obtain ⟨_, _, ⟨T12, L12, k12, n12⟩, -, X12, ⟨Lc12, hQ12, l12, y12, z12⟩, st12⟩ := Jvm.LawKit.callS X8 hx (y := (⟨"com/example/oriel/oriel/window/FrameCompletedByPinLaw", "complete", "(JJJ)Z"⟩ : MethodName)) hown (mvT hZ (hw _ (List.mem_of_getElem? (i := 29) rfl))) (mvT hZ (hw _ (List.mem_of_getElem? (i := 30) rfl))) (mvT hZ (hw _ (List.mem_of_getElem? (i := 31) rfl))) (mvT hZ (hw _ (List.mem_of_getElem? (i := 32) rfl))) (by decide) (backOf (W := 0) (rmK l Z a0 hw [] ve row ((own_cb ve row) - (1 : Int64)) T6.heap n0 (Nat.le_trans (Nat.le_trans Z0 E3.1) K6.1)) hZ (hw _ (List.mem_of_getElem? (i := 32) rfl)) (hw _ (List.mem_of_getElem? (i := 31) rfl)) (by decide) (by decide)) (g := (mkF m 110 #[.val (.long r1), .second, .val (.long ve), .second, .val (.long s1), .second, .val (.long row), .second, .val (.long ve), .second, .val (.long (own_minL s1 ve)), .second, .val (.ref ob3), .val (.long (own_cb ve row)), .second, .val (.int (1 : Int32)), .unset] [(.long ((own_cb ve row) - (1 : Int64))), (.long row), (.long ve)])) rfl (by rw [hml]; rfl) (argsL := [(.long ve), (.long row), (.long ((own_cb ve row) - (1 : Int64)))]) (rest := []) (lenOf own_pd4 rfl) rfl (by show 2 * 0 + _ ≤ _; exact Nat.le_of_eq rfl) (hb hby at_110) (fun _ _ => ⟨rfl, e8, (by decide : 1 + 0 ≤ _), (by decide : 2 + 0 ≤ _)⟩)
        dsimp only [Pt.U, Pt.locs, Pt.cells, Pt.slots] at X12 l12 y12 z12 st12 hQ12
        subst l12 y12 z12
        obtain ⟨rfl, N12q, e12⟩ := hQ12
        have N12 := Fr.app N8 N12q
        refine own_of st12 ?_
        show own_Run p e below s _ _ _ (T12.setTop (mkF m 113 #[.val (.long r1), .second, .val (.long ve), .second, .val (.long s1), .second, .val (.long row), .second, .val (.long ve), .second, .val (.long (own_minL s1 ve)), .second, .val (.ref ob3), .val (.long (own_cb ve row)), .second, .val (.int (1 : Int32)), .unset] [(.int (if ve < ((own_cb ve row) - (1 : Int64)) - row then 1 else 0 : Int32))]))
        have hc113_13 : ¬ (ve < ((own_cb ve row) - (1 : Int64)) - row) := own_t3 ve row rr.1 rr.2 hc99_11
        refine own_of (fun _ hh_ => XS.ifNo X12.here hx rfl (hb hby at_113) rfl ((if0 _ _).trans (teq (show (if ve < ((own_cb ve row) - (1 : Int64)) - row then 1 else 0 : Int32) = 0 from if_neg hc113_13)).2) hh_) ?_
        show own_Run p e below s _ _ _ (T12.setTop (mkF m 116 #[.val (.long r1), .second, .val (.long ve), .second, .val (.long s1), .second, .val (.long row), .second, .val (.long ve), .second, .val (.long (own_minL s1 ve)), .second, .val (.ref ob3), .val (.long (own_cb ve row)), .second, .val (.int (1 : Int32)), .unset] []))
        refine own_of (fun _ hh_ => XS.iconst X12.here hx rfl (hb hby at_116) hh_) ?_
        show own_Run p e below s _ _ _ (T12.setTop (mkF m 117 #[.val (.long r1), .second, .val (.long ve), .second, .val (.long s1), .second, .val (.long row), .second, .val (.long ve), .second, .val (.long (own_minL s1 ve)), .second, .val (.ref ob3), .val (.long (own_cb ve row)), .second, .val (.int (1 : Int32)), .unset] [(.int (1 : Int32))]))
        refine own_of (fun _ hh_ => XS.goto X12.here hx rfl (pc0 := 117) (pc' := 121) rfl (hb hby at_117) (by decide) (by decide) hh_) ?_
        show own_Run p e below s _ _ _ (T12.setTop (mkF m 121 #[.val (.long r1), .second, .val (.long ve), .second, .val (.long s1), .second, .val (.long row), .second, .val (.long ve), .second, .val (.long (own_minL s1 ve)), .second, .val (.ref ob3), .val (.long (own_cb ve row)), .second, .val (.int (1 : Int32)), .unset] [(.int (1 : Int32))]))
        refine own_of (fun _ hh_ => XS.istore X12.here hx rfl (hb hby at_121) rfl (l' := #[.val (.long r1), .second, .val (.long ve), .second, .val (.long s1), .second, .val (.long row), .second, .val (.long ve), .second, .val (.long (own_minL s1 ve)), .second, .val (.ref ob3), .val (.long (own_cb ve row)), .second, .val (.int (1 : Int32)), .val (.int (1 : Int32))]) rfl hh_) ?_
        show own_Run p e below s _ _ _ (T12.setTop (mkF m 123 #[.val (.long r1), .second, .val (.long ve), .second, .val (.long s1), .second, .val (.long row), .second, .val (.long ve), .second, .val (.long (own_minL s1 ve)), .second, .val (.ref ob3), .val (.long (own_cb ve row)), .second, .val (.int (1 : Int32)), .val (.int (1 : Int32))] []))
        refine own_of (fun _ hh_ => XS.iload X12.here hx rfl (hb hby at_123) rfl hh_) ?_
        show own_Run p e below s _ _ _ (T12.setTop (mkF m 125 #[.val (.long r1), .second, .val (.long ve), .second, .val (.long s1), .second, .val (.long row), .second, .val (.long ve), .second, .val (.long (own_minL s1 ve)), .second, .val (.ref ob3), .val (.long (own_cb ve row)), .second, .val (.int (1 : Int32)), .val (.int (1 : Int32))] [(.int (1 : Int32))]))
        refine own_of (fun _ hh_ => XS.ifNo X12.here hx rfl (hb hby at_125) rfl ((if0 _ _).trans (by decide)) hh_) ?_
        show own_Run p e below s _ _ _ (T12.setTop (mkF m 128 #[.val (.long r1), .second, .val (.long ve), .second, .val (.long s1), .second, .val (.long row), .second, .val (.long ve), .second, .val (.long (own_minL s1 ve)), .second, .val (.ref ob3), .val (.long (own_cb ve row)), .second, .val (.int (1 : Int32)), .val (.int (1 : Int32))] []))
        refine own_of (fun _ hh_ => XS.iload X12.here hx rfl (hb hby at_128) rfl hh_) ?_
        show own_Run p e below s _ _ _ (T12.setTop (mkF m 130 #[.val (.long r1), .second, .val (.long ve), .second, .val (.long s1), .second, .val (.long row), .second, .val (.long ve), .second, .val (.long (own_minL s1 ve)), .second, .val (.ref ob3), .val (.long (own_cb ve row)), .second, .val (.int (1 : Int32)), .val (.int (1 : Int32))] [(.int (1 : Int32))]))
        refine own_of (fun _ hh_ => XS.ifNo X12.here hx rfl (hb hby at_130) rfl ((if0 _ _).trans (by decide)) hh_) ?_
        show own_Run p e below s _ _ _ (T12.setTop (mkF m 133 #[.val (.long r1), .second, .val (.long ve), .second, .val (.long s1), .second, .val (.long row), .second, .val (.long ve), .second, .val (.long (own_minL s1 ve)), .second, .val (.ref ob3), .val (.long (own_cb ve row)), .second, .val (.int (1 : Int32)), .val (.int (1 : Int32))] []))
        refine own_of (fun _ hh_ => XS.iconst X12.here hx rfl (hb hby at_133) hh_) ?_
        show own_Run p e below s _ _ _ (T12.setTop (mkF m 134 #[.val (.long r1), .second, .val (.long ve), .second, .val (.long s1), .second, .val (.long row), .second, .val (.long ve), .second, .val (.long (own_minL s1 ve)), .second, .val (.ref ob3), .val (.long (own_cb ve row)), .second, .val (.int (1 : Int32)), .val (.int (1 : Int32))] [(.int (1 : Int32))]))
        refine own_of (fun _ hh_ => XS.goto X12.here hx rfl (pc0 := 134) (pc' := 138) rfl (hb hby at_134) (by decide) (by decide) hh_) ?_
        show own_Run p e below s _ _ _ (T12.setTop (mkF m 138 #[.val (.long r1), .second, .val (.long ve), .second, .val (.long s1), .second, .val (.long row), .second, .val (.long ve), .second, .val (.long (own_minL s1 ve)), .second, .val (.ref ob3), .val (.long (own_cb ve row)), .second, .val (.int (1 : Int32)), .val (.int (1 : Int32))] [(.int (1 : Int32))]))
        exact own_retN X12 hx (t := .boolean) hret hlk (by simp) (hb hby at_138) ⟨rfl, N12⟩ (by decide) (by decide)
    · refine own_of (fun _ hh_ => XS.ifNo X8.here hx rfl (hb hby at_70) rfl ((if0 _ _).trans (feq (fun q_ => hc70_10 ((lw_eq _ _).mp q_))).1) hh_) ?_
      show own_Run p e below s _ _ _ (T8.setTop (mkF m 73 #[.val (.long r1), .second, .val (.long ve), .second, .val (.long s1), .second, .val (.long row), .second, .val (.long ve), .second, .val (.long (own_minL s1 ve)), .second, .val (.ref ob3), .val (.long (own_cb ve row)), .second, .unset, .unset] []))
      refine own_of (fun _ hh_ => XS.lload X8.here hx rfl (hb hby at_73) rfl hh_) ?_
      show own_Run p e below s _ _ _ (T8.setTop (mkF m 75 #[.val (.long r1), .second, .val (.long ve), .second, .val (.long s1), .second, .val (.long row), .second, .val (.long ve), .second, .val (.long (own_minL s1 ve)), .second, .val (.ref ob3), .val (.long (own_cb ve row)), .second, .unset, .unset] [(.long ve)]))
      refine own_of (fun _ hh_ => XS.lload X8.here hx rfl (hb hby at_75) rfl hh_) ?_
      show own_Run p e below s _ _ _ (T8.setTop (mkF m 77 #[.val (.long r1), .second, .val (.long ve), .second, .val (.long s1), .second, .val (.long row), .second, .val (.long ve), .second, .val (.long (own_minL s1 ve)), .second, .val (.ref ob3), .val (.long (own_cb ve row)), .second, .unset, .unset] [(.long row), (.long ve)]))
      refine own_of (fun _ hh_ => XS.lload X8.here hx rfl (hb hby at_77) rfl hh_) ?_
      show own_Run p e below s _ _ _ (T8.setTop (mkF m 79 #[.val (.long r1), .second, .val (.long ve), .second, .val (.long s1), .second, .val (.long row), .second, .val (.long ve), .second, .val (.long (own_minL s1 ve)), .second, .val (.ref ob3), .val (.long (own_cb ve row)), .second, .unset, .unset] [(.long (own_cb ve row)), (.long row), (.long ve)]))
      obtain ⟨_, _, ⟨T14, L14, k14, n14⟩, -, X14, ⟨Lc14, hQ14, l14, y14, z14⟩, st14⟩ := Jvm.LawKit.callS X8 hx (y := (⟨"com/example/oriel/oriel/window/FrameCompletedByPinLaw", "complete", "(JJJ)Z"⟩ : MethodName)) hown (mvT hZ (hw _ (List.mem_of_getElem? (i := 29) rfl))) (mvT hZ (hw _ (List.mem_of_getElem? (i := 30) rfl))) (mvT hZ (hw _ (List.mem_of_getElem? (i := 31) rfl))) (mvT hZ (hw _ (List.mem_of_getElem? (i := 32) rfl))) (by decide) (backOf (W := 0) (rmK l Z a0 hw [] ve row (own_cb ve row) T6.heap n0 (Nat.le_trans (Nat.le_trans Z0 E3.1) K6.1)) hZ (hw _ (List.mem_of_getElem? (i := 32) rfl)) (hw _ (List.mem_of_getElem? (i := 31) rfl)) (by decide) (by decide)) (g := (mkF m 79 #[.val (.long r1), .second, .val (.long ve), .second, .val (.long s1), .second, .val (.long row), .second, .val (.long ve), .second, .val (.long (own_minL s1 ve)), .second, .val (.ref ob3), .val (.long (own_cb ve row)), .second, .unset, .unset] [(.long (own_cb ve row)), (.long row), (.long ve)])) rfl (by rw [hml]; rfl) (argsL := [(.long ve), (.long row), (.long (own_cb ve row))]) (rest := []) (lenOf own_pd4 rfl) rfl (by show 2 * 0 + _ ≤ _; exact Nat.le_of_eq rfl) (hb hby at_79) (fun _ _ => ⟨rfl, e8, (by decide : 1 + 0 ≤ _), (by decide : 2 + 0 ≤ _)⟩)
      dsimp only [Pt.U, Pt.locs, Pt.cells, Pt.slots] at X14 l14 y14 z14 st14 hQ14
      subst l14 y14 z14
      obtain ⟨rfl, N14q, e14⟩ := hQ14
      have N14 := Fr.app N8 N14q
      refine own_of st14 ?_
      show own_Run p e below s _ _ _ (T14.setTop (mkF m 82 #[.val (.long r1), .second, .val (.long ve), .second, .val (.long s1), .second, .val (.long row), .second, .val (.long ve), .second, .val (.long (own_minL s1 ve)), .second, .val (.ref ob3), .val (.long (own_cb ve row)), .second, .unset, .unset] [(.int (if ve < (own_cb ve row) - row then 1 else 0 : Int32))]))
      have hc82_15 : ve < (own_cb ve row) - row := own_t2 ve row rr.1 rr.2 hc70_10
      refine own_of (fun _ hh_ => XS.ifNo X14.here hx rfl (hb hby at_82) rfl ((if0 _ _).trans (feq (show ¬ ((if ve < (own_cb ve row) - row then 1 else 0 : Int32) = 0) from by rw [if_pos hc82_15]; decide)).1) hh_) ?_
      show own_Run p e below s _ _ _ (T14.setTop (mkF m 85 #[.val (.long r1), .second, .val (.long ve), .second, .val (.long s1), .second, .val (.long row), .second, .val (.long ve), .second, .val (.long (own_minL s1 ve)), .second, .val (.ref ob3), .val (.long (own_cb ve row)), .second, .unset, .unset] []))
      refine own_of (fun _ hh_ => XS.iconst X14.here hx rfl (hb hby at_85) hh_) ?_
      show own_Run p e below s _ _ _ (T14.setTop (mkF m 86 #[.val (.long r1), .second, .val (.long ve), .second, .val (.long s1), .second, .val (.long row), .second, .val (.long ve), .second, .val (.long (own_minL s1 ve)), .second, .val (.ref ob3), .val (.long (own_cb ve row)), .second, .unset, .unset] [(.int (1 : Int32))]))
      refine own_of (fun _ hh_ => XS.goto X14.here hx rfl (pc0 := 86) (pc' := 90) rfl (hb hby at_86) (by decide) (by decide) hh_) ?_
      show own_Run p e below s _ _ _ (T14.setTop (mkF m 90 #[.val (.long r1), .second, .val (.long ve), .second, .val (.long s1), .second, .val (.long row), .second, .val (.long ve), .second, .val (.long (own_minL s1 ve)), .second, .val (.ref ob3), .val (.long (own_cb ve row)), .second, .unset, .unset] [(.int (1 : Int32))]))
      refine own_of (fun _ hh_ => XS.istore X14.here hx rfl (hb hby at_90) rfl (l' := #[.val (.long r1), .second, .val (.long ve), .second, .val (.long s1), .second, .val (.long row), .second, .val (.long ve), .second, .val (.long (own_minL s1 ve)), .second, .val (.ref ob3), .val (.long (own_cb ve row)), .second, .val (.int (1 : Int32)), .unset]) rfl hh_) ?_
      show own_Run p e below s _ _ _ (T14.setTop (mkF m 92 #[.val (.long r1), .second, .val (.long ve), .second, .val (.long s1), .second, .val (.long row), .second, .val (.long ve), .second, .val (.long (own_minL s1 ve)), .second, .val (.ref ob3), .val (.long (own_cb ve row)), .second, .val (.int (1 : Int32)), .unset] []))
      refine own_of (fun _ hh_ => XS.lload X14.here hx rfl (hb hby at_92) rfl hh_) ?_
      show own_Run p e below s _ _ _ (T14.setTop (mkF m 94 #[.val (.long r1), .second, .val (.long ve), .second, .val (.long s1), .second, .val (.long row), .second, .val (.long ve), .second, .val (.long (own_minL s1 ve)), .second, .val (.ref ob3), .val (.long (own_cb ve row)), .second, .val (.int (1 : Int32)), .unset] [(.long (own_cb ve row))]))
      refine own_of (fun _ hh_ => XS.lconst X14.here hx rfl (hb hby at_94) hh_) ?_
      show own_Run p e below s _ _ _ (T14.setTop (mkF m 95 #[.val (.long r1), .second, .val (.long ve), .second, .val (.long s1), .second, .val (.long row), .second, .val (.long ve), .second, .val (.long (own_minL s1 ve)), .second, .val (.ref ob3), .val (.long (own_cb ve row)), .second, .val (.int (1 : Int32)), .unset] [(.long (1 : Int64)), (.long (own_cb ve row))]))
      refine own_of (fun _ hh_ => XS.lsub X14.here hx rfl (hb hby at_95) rfl hh_) ?_
      show own_Run p e below s _ _ _ (T14.setTop (mkF m 96 #[.val (.long r1), .second, .val (.long ve), .second, .val (.long s1), .second, .val (.long row), .second, .val (.long ve), .second, .val (.long (own_minL s1 ve)), .second, .val (.ref ob3), .val (.long (own_cb ve row)), .second, .val (.int (1 : Int32)), .unset] [(.long ((own_cb ve row) - (1 : Int64)))]))
      refine own_of (fun _ hh_ => XS.lload X14.here hx rfl (hb hby at_96) rfl hh_) ?_
      show own_Run p e below s _ _ _ (T14.setTop (mkF m 98 #[.val (.long r1), .second, .val (.long ve), .second, .val (.long s1), .second, .val (.long row), .second, .val (.long ve), .second, .val (.long (own_minL s1 ve)), .second, .val (.ref ob3), .val (.long (own_cb ve row)), .second, .val (.int (1 : Int32)), .unset] [(.long row), (.long ((own_cb ve row) - (1 : Int64)))]))
      refine own_of (fun _ hh_ => XS.lcmp X14.here hx rfl (hb hby at_98) rfl hh_) ?_
      show own_Run p e below s _ _ _ (T14.setTop (mkF m 99 #[.val (.long r1), .second, .val (.long ve), .second, .val (.long s1), .second, .val (.long row), .second, .val (.long ve), .second, .val (.long (own_minL s1 ve)), .second, .val (.ref ob3), .val (.long (own_cb ve row)), .second, .val (.int (1 : Int32)), .unset] [(.int (lcmpW ((own_cb ve row) - (1 : Int64)) row))]))
      by_cases hc99_16 : ((own_cb ve row) - (1 : Int64)) = row
      · refine own_of (fun _ hh_ => XS.ifYes X14.here hx rfl (pc0 := 99) (pc' := 116) rfl (hb hby at_99) rfl ((if0 _ _).trans (teq ((lw_eq _ _).mpr hc99_16)).1) (by decide) (by decide) hh_) ?_
        show own_Run p e below s _ _ _ (T14.setTop (mkF m 116 #[.val (.long r1), .second, .val (.long ve), .second, .val (.long s1), .second, .val (.long row), .second, .val (.long ve), .second, .val (.long (own_minL s1 ve)), .second, .val (.ref ob3), .val (.long (own_cb ve row)), .second, .val (.int (1 : Int32)), .unset] []))
        refine own_of (fun _ hh_ => XS.iconst X14.here hx rfl (hb hby at_116) hh_) ?_
        show own_Run p e below s _ _ _ (T14.setTop (mkF m 117 #[.val (.long r1), .second, .val (.long ve), .second, .val (.long s1), .second, .val (.long row), .second, .val (.long ve), .second, .val (.long (own_minL s1 ve)), .second, .val (.ref ob3), .val (.long (own_cb ve row)), .second, .val (.int (1 : Int32)), .unset] [(.int (1 : Int32))]))
        refine own_of (fun _ hh_ => XS.goto X14.here hx rfl (pc0 := 117) (pc' := 121) rfl (hb hby at_117) (by decide) (by decide) hh_) ?_
        show own_Run p e below s _ _ _ (T14.setTop (mkF m 121 #[.val (.long r1), .second, .val (.long ve), .second, .val (.long s1), .second, .val (.long row), .second, .val (.long ve), .second, .val (.long (own_minL s1 ve)), .second, .val (.ref ob3), .val (.long (own_cb ve row)), .second, .val (.int (1 : Int32)), .unset] [(.int (1 : Int32))]))
        refine own_of (fun _ hh_ => XS.istore X14.here hx rfl (hb hby at_121) rfl (l' := #[.val (.long r1), .second, .val (.long ve), .second, .val (.long s1), .second, .val (.long row), .second, .val (.long ve), .second, .val (.long (own_minL s1 ve)), .second, .val (.ref ob3), .val (.long (own_cb ve row)), .second, .val (.int (1 : Int32)), .val (.int (1 : Int32))]) rfl hh_) ?_
        show own_Run p e below s _ _ _ (T14.setTop (mkF m 123 #[.val (.long r1), .second, .val (.long ve), .second, .val (.long s1), .second, .val (.long row), .second, .val (.long ve), .second, .val (.long (own_minL s1 ve)), .second, .val (.ref ob3), .val (.long (own_cb ve row)), .second, .val (.int (1 : Int32)), .val (.int (1 : Int32))] []))
        refine own_of (fun _ hh_ => XS.iload X14.here hx rfl (hb hby at_123) rfl hh_) ?_
        show own_Run p e below s _ _ _ (T14.setTop (mkF m 125 #[.val (.long r1), .second, .val (.long ve), .second, .val (.long s1), .second, .val (.long row), .second, .val (.long ve), .second, .val (.long (own_minL s1 ve)), .second, .val (.ref ob3), .val (.long (own_cb ve row)), .second, .val (.int (1 : Int32)), .val (.int (1 : Int32))] [(.int (1 : Int32))]))
        refine own_of (fun _ hh_ => XS.ifNo X14.here hx rfl (hb hby at_125) rfl ((if0 _ _).trans (by decide)) hh_) ?_
        show own_Run p e below s _ _ _ (T14.setTop (mkF m 128 #[.val (.long r1), .second, .val (.long ve), .second, .val (.long s1), .second, .val (.long row), .second, .val (.long ve), .second, .val (.long (own_minL s1 ve)), .second, .val (.ref ob3), .val (.long (own_cb ve row)), .second, .val (.int (1 : Int32)), .val (.int (1 : Int32))] []))
        refine own_of (fun _ hh_ => XS.iload X14.here hx rfl (hb hby at_128) rfl hh_) ?_
        show own_Run p e below s _ _ _ (T14.setTop (mkF m 130 #[.val (.long r1), .second, .val (.long ve), .second, .val (.long s1), .second, .val (.long row), .second, .val (.long ve), .second, .val (.long (own_minL s1 ve)), .second, .val (.ref ob3), .val (.long (own_cb ve row)), .second, .val (.int (1 : Int32)), .val (.int (1 : Int32))] [(.int (1 : Int32))]))
        refine own_of (fun _ hh_ => XS.ifNo X14.here hx rfl (hb hby at_130) rfl ((if0 _ _).trans (by decide)) hh_) ?_
        show own_Run p e below s _ _ _ (T14.setTop (mkF m 133 #[.val (.long r1), .second, .val (.long ve), .second, .val (.long s1), .second, .val (.long row), .second, .val (.long ve), .second, .val (.long (own_minL s1 ve)), .second, .val (.ref ob3), .val (.long (own_cb ve row)), .second, .val (.int (1 : Int32)), .val (.int (1 : Int32))] []))
        refine own_of (fun _ hh_ => XS.iconst X14.here hx rfl (hb hby at_133) hh_) ?_
        show own_Run p e below s _ _ _ (T14.setTop (mkF m 134 #[.val (.long r1), .second, .val (.long ve), .second, .val (.long s1), .second, .val (.long row), .second, .val (.long ve), .second, .val (.long (own_minL s1 ve)), .second, .val (.ref ob3), .val (.long (own_cb ve row)), .second, .val (.int (1 : Int32)), .val (.int (1 : Int32))] [(.int (1 : Int32))]))
        refine own_of (fun _ hh_ => XS.goto X14.here hx rfl (pc0 := 134) (pc' := 138) rfl (hb hby at_134) (by decide) (by decide) hh_) ?_
        show own_Run p e below s _ _ _ (T14.setTop (mkF m 138 #[.val (.long r1), .second, .val (.long ve), .second, .val (.long s1), .second, .val (.long row), .second, .val (.long ve), .second, .val (.long (own_minL s1 ve)), .second, .val (.ref ob3), .val (.long (own_cb ve row)), .second, .val (.int (1 : Int32)), .val (.int (1 : Int32))] [(.int (1 : Int32))]))
        exact own_retN X14 hx (t := .boolean) hret hlk (by simp) (hb hby at_138) ⟨rfl, N14⟩ (by decide) (by decide)
      · refine own_of (fun _ hh_ => XS.ifNo X14.here hx rfl (hb hby at_99) rfl ((if0 _ _).trans (feq (fun q_ => hc99_16 ((lw_eq _ _).mp q_))).1) hh_) ?_
        show own_Run p e below s _ _ _ (T14.setTop (mkF m 102 #[.val (.long r1), .second, .val (.long ve), .second, .val (.long s1), .second, .val (.long row), .second, .val (.long ve), .second, .val (.long (own_minL s1 ve)), .second, .val (.ref ob3), .val (.long (own_cb ve row)), .second, .val (.int (1 : Int32)), .unset] []))
        refine own_of (fun _ hh_ => XS.lload X14.here hx rfl (hb hby at_102) rfl hh_) ?_
        show own_Run p e below s _ _ _ (T14.setTop (mkF m 104 #[.val (.long r1), .second, .val (.long ve), .second, .val (.long s1), .second, .val (.long row), .second, .val (.long ve), .second, .val (.long (own_minL s1 ve)), .second, .val (.ref ob3), .val (.long (own_cb ve row)), .second, .val (.int (1 : Int32)), .unset] [(.long ve)]))
        refine own_of (fun _ hh_ => XS.lload X14.here hx rfl (hb hby at_104) rfl hh_) ?_
        show own_Run p e below s _ _ _ (T14.setTop (mkF m 106 #[.val (.long r1), .second, .val (.long ve), .second, .val (.long s1), .second, .val (.long row), .second, .val (.long ve), .second, .val (.long (own_minL s1 ve)), .second, .val (.ref ob3), .val (.long (own_cb ve row)), .second, .val (.int (1 : Int32)), .unset] [(.long row), (.long ve)]))
        refine own_of (fun _ hh_ => XS.lload X14.here hx rfl (hb hby at_106) rfl hh_) ?_
        show own_Run p e below s _ _ _ (T14.setTop (mkF m 108 #[.val (.long r1), .second, .val (.long ve), .second, .val (.long s1), .second, .val (.long row), .second, .val (.long ve), .second, .val (.long (own_minL s1 ve)), .second, .val (.ref ob3), .val (.long (own_cb ve row)), .second, .val (.int (1 : Int32)), .unset] [(.long (own_cb ve row)), (.long row), (.long ve)]))
        refine own_of (fun _ hh_ => XS.lconst X14.here hx rfl (hb hby at_108) hh_) ?_
        show own_Run p e below s _ _ _ (T14.setTop (mkF m 109 #[.val (.long r1), .second, .val (.long ve), .second, .val (.long s1), .second, .val (.long row), .second, .val (.long ve), .second, .val (.long (own_minL s1 ve)), .second, .val (.ref ob3), .val (.long (own_cb ve row)), .second, .val (.int (1 : Int32)), .unset] [(.long (1 : Int64)), (.long (own_cb ve row)), (.long row), (.long ve)]))
        refine own_of (fun _ hh_ => XS.lsub X14.here hx rfl (hb hby at_109) rfl hh_) ?_
        show own_Run p e below s _ _ _ (T14.setTop (mkF m 110 #[.val (.long r1), .second, .val (.long ve), .second, .val (.long s1), .second, .val (.long row), .second, .val (.long ve), .second, .val (.long (own_minL s1 ve)), .second, .val (.ref ob3), .val (.long (own_cb ve row)), .second, .val (.int (1 : Int32)), .unset] [(.long ((own_cb ve row) - (1 : Int64))), (.long row), (.long ve)]))
        obtain ⟨_, _, ⟨T17, L17, k17, n17⟩, -, X17, ⟨Lc17, hQ17, l17, y17, z17⟩, st17⟩ := Jvm.LawKit.callS X14 hx (y := (⟨"com/example/oriel/oriel/window/FrameCompletedByPinLaw", "complete", "(JJJ)Z"⟩ : MethodName)) hown (mvT hZ (hw _ (List.mem_of_getElem? (i := 29) rfl))) (mvT hZ (hw _ (List.mem_of_getElem? (i := 30) rfl))) (mvT hZ (hw _ (List.mem_of_getElem? (i := 31) rfl))) (mvT hZ (hw _ (List.mem_of_getElem? (i := 32) rfl))) (by decide) (backOf (W := 0) (rmK l Z a0 hw [] ve row ((own_cb ve row) - (1 : Int64)) T6.heap n0 (Nat.le_trans (Nat.le_trans Z0 E3.1) K6.1)) hZ (hw _ (List.mem_of_getElem? (i := 32) rfl)) (hw _ (List.mem_of_getElem? (i := 31) rfl)) (by decide) (by decide)) (g := (mkF m 110 #[.val (.long r1), .second, .val (.long ve), .second, .val (.long s1), .second, .val (.long row), .second, .val (.long ve), .second, .val (.long (own_minL s1 ve)), .second, .val (.ref ob3), .val (.long (own_cb ve row)), .second, .val (.int (1 : Int32)), .unset] [(.long ((own_cb ve row) - (1 : Int64))), (.long row), (.long ve)])) rfl (by rw [hml]; rfl) (argsL := [(.long ve), (.long row), (.long ((own_cb ve row) - (1 : Int64)))]) (rest := []) (lenOf own_pd4 rfl) rfl (by show 2 * 0 + _ ≤ _; exact Nat.le_of_eq rfl) (hb hby at_110) (fun _ _ => ⟨rfl, e14, (by decide : 1 + 0 ≤ _), (by decide : 2 + 0 ≤ _)⟩)
        dsimp only [Pt.U, Pt.locs, Pt.cells, Pt.slots] at X17 l17 y17 z17 st17 hQ17
        subst l17 y17 z17
        obtain ⟨rfl, N17q, e17⟩ := hQ17
        have N17 := Fr.app N14 N17q
        refine own_of st17 ?_
        show own_Run p e below s _ _ _ (T17.setTop (mkF m 113 #[.val (.long r1), .second, .val (.long ve), .second, .val (.long s1), .second, .val (.long row), .second, .val (.long ve), .second, .val (.long (own_minL s1 ve)), .second, .val (.ref ob3), .val (.long (own_cb ve row)), .second, .val (.int (1 : Int32)), .unset] [(.int (if ve < ((own_cb ve row) - (1 : Int64)) - row then 1 else 0 : Int32))]))
        have hc113_18 : ¬ (ve < ((own_cb ve row) - (1 : Int64)) - row) := own_t3 ve row rr.1 rr.2 hc99_16
        refine own_of (fun _ hh_ => XS.ifNo X17.here hx rfl (hb hby at_113) rfl ((if0 _ _).trans (teq (show (if ve < ((own_cb ve row) - (1 : Int64)) - row then 1 else 0 : Int32) = 0 from if_neg hc113_18)).2) hh_) ?_
        show own_Run p e below s _ _ _ (T17.setTop (mkF m 116 #[.val (.long r1), .second, .val (.long ve), .second, .val (.long s1), .second, .val (.long row), .second, .val (.long ve), .second, .val (.long (own_minL s1 ve)), .second, .val (.ref ob3), .val (.long (own_cb ve row)), .second, .val (.int (1 : Int32)), .unset] []))
        refine own_of (fun _ hh_ => XS.iconst X17.here hx rfl (hb hby at_116) hh_) ?_
        show own_Run p e below s _ _ _ (T17.setTop (mkF m 117 #[.val (.long r1), .second, .val (.long ve), .second, .val (.long s1), .second, .val (.long row), .second, .val (.long ve), .second, .val (.long (own_minL s1 ve)), .second, .val (.ref ob3), .val (.long (own_cb ve row)), .second, .val (.int (1 : Int32)), .unset] [(.int (1 : Int32))]))
        refine own_of (fun _ hh_ => XS.goto X17.here hx rfl (pc0 := 117) (pc' := 121) rfl (hb hby at_117) (by decide) (by decide) hh_) ?_
        show own_Run p e below s _ _ _ (T17.setTop (mkF m 121 #[.val (.long r1), .second, .val (.long ve), .second, .val (.long s1), .second, .val (.long row), .second, .val (.long ve), .second, .val (.long (own_minL s1 ve)), .second, .val (.ref ob3), .val (.long (own_cb ve row)), .second, .val (.int (1 : Int32)), .unset] [(.int (1 : Int32))]))
        refine own_of (fun _ hh_ => XS.istore X17.here hx rfl (hb hby at_121) rfl (l' := #[.val (.long r1), .second, .val (.long ve), .second, .val (.long s1), .second, .val (.long row), .second, .val (.long ve), .second, .val (.long (own_minL s1 ve)), .second, .val (.ref ob3), .val (.long (own_cb ve row)), .second, .val (.int (1 : Int32)), .val (.int (1 : Int32))]) rfl hh_) ?_
        show own_Run p e below s _ _ _ (T17.setTop (mkF m 123 #[.val (.long r1), .second, .val (.long ve), .second, .val (.long s1), .second, .val (.long row), .second, .val (.long ve), .second, .val (.long (own_minL s1 ve)), .second, .val (.ref ob3), .val (.long (own_cb ve row)), .second, .val (.int (1 : Int32)), .val (.int (1 : Int32))] []))
        refine own_of (fun _ hh_ => XS.iload X17.here hx rfl (hb hby at_123) rfl hh_) ?_
        show own_Run p e below s _ _ _ (T17.setTop (mkF m 125 #[.val (.long r1), .second, .val (.long ve), .second, .val (.long s1), .second, .val (.long row), .second, .val (.long ve), .second, .val (.long (own_minL s1 ve)), .second, .val (.ref ob3), .val (.long (own_cb ve row)), .second, .val (.int (1 : Int32)), .val (.int (1 : Int32))] [(.int (1 : Int32))]))
        refine own_of (fun _ hh_ => XS.ifNo X17.here hx rfl (hb hby at_125) rfl ((if0 _ _).trans (by decide)) hh_) ?_
        show own_Run p e below s _ _ _ (T17.setTop (mkF m 128 #[.val (.long r1), .second, .val (.long ve), .second, .val (.long s1), .second, .val (.long row), .second, .val (.long ve), .second, .val (.long (own_minL s1 ve)), .second, .val (.ref ob3), .val (.long (own_cb ve row)), .second, .val (.int (1 : Int32)), .val (.int (1 : Int32))] []))
        refine own_of (fun _ hh_ => XS.iload X17.here hx rfl (hb hby at_128) rfl hh_) ?_
        show own_Run p e below s _ _ _ (T17.setTop (mkF m 130 #[.val (.long r1), .second, .val (.long ve), .second, .val (.long s1), .second, .val (.long row), .second, .val (.long ve), .second, .val (.long (own_minL s1 ve)), .second, .val (.ref ob3), .val (.long (own_cb ve row)), .second, .val (.int (1 : Int32)), .val (.int (1 : Int32))] [(.int (1 : Int32))]))
        refine own_of (fun _ hh_ => XS.ifNo X17.here hx rfl (hb hby at_130) rfl ((if0 _ _).trans (by decide)) hh_) ?_
        show own_Run p e below s _ _ _ (T17.setTop (mkF m 133 #[.val (.long r1), .second, .val (.long ve), .second, .val (.long s1), .second, .val (.long row), .second, .val (.long ve), .second, .val (.long (own_minL s1 ve)), .second, .val (.ref ob3), .val (.long (own_cb ve row)), .second, .val (.int (1 : Int32)), .val (.int (1 : Int32))] []))
        refine own_of (fun _ hh_ => XS.iconst X17.here hx rfl (hb hby at_133) hh_) ?_
        show own_Run p e below s _ _ _ (T17.setTop (mkF m 134 #[.val (.long r1), .second, .val (.long ve), .second, .val (.long s1), .second, .val (.long row), .second, .val (.long ve), .second, .val (.long (own_minL s1 ve)), .second, .val (.ref ob3), .val (.long (own_cb ve row)), .second, .val (.int (1 : Int32)), .val (.int (1 : Int32))] [(.int (1 : Int32))]))
        refine own_of (fun _ hh_ => XS.goto X17.here hx rfl (pc0 := 134) (pc' := 138) rfl (hb hby at_134) (by decide) (by decide) hh_) ?_
        show own_Run p e below s _ _ _ (T17.setTop (mkF m 138 #[.val (.long r1), .second, .val (.long ve), .second, .val (.long s1), .second, .val (.long row), .second, .val (.long ve), .second, .val (.long (own_minL s1 ve)), .second, .val (.ref ob3), .val (.long (own_cb ve row)), .second, .val (.int (1 : Int32)), .val (.int (1 : Int32))] [(.int (1 : Int32))]))
        exact own_retN X17 hx (t := .boolean) hret hlk (by simp) (hb hby at_138) ⟨rfl, N17⟩ (by decide) (by decide)
  · refine own_of (fun _ hh_ => XS.ifYes X0.here hx rfl (pc0 := 13) (pc' := 21) rfl (hb hby at_13) rfl ((if0 _ _).trans (feq (fun q_ => hc13_1 ((lw_eq _ _).mp q_))).2) (by decide) (by decide) hh_) ?_
    show own_Run p e below s _ _ _ (s₁.setTop (mkF m 21 #[.val (.long r1), .second, .val (.long ve), .second, .val (.long s1), .second, .val (.long (r1 &&& (9223372036854775807 : Int64))), .second, .unset, .unset, .unset, .unset, .unset, .unset, .unset, .unset, .unset] []))
    generalize hrow : (r1 &&& (9223372036854775807 : Int64)) = row
    have rr : 0 ≤ row.toInt ∧ row.toInt ≤ 9223372036854775806 := by
      have z1 := own_maskL r1; have z2 := rng64 (r1 &&& (9223372036854775807 : Int64)); have z3 := mt Int64.toInt_inj.mp hc13_1; rw [own_lM] at z3; rw [← hrow]; omega
    show own_Run p e below s _ _ _ (s₁.setTop (mkF m 21 #[.val (.long r1), .second, .val (.long ve), .second, .val (.long s1), .second, .val (.long row), .second, .unset, .unset, .unset, .unset, .unset, .unset, .unset, .unset, .unset] []))
    refine own_of (fun _ hh_ => XS.lloadN X0.here hx rfl (hb hby at_21) rfl hh_) ?_
    show own_Run p e below s _ _ _ (s₁.setTop (mkF m 22 #[.val (.long r1), .second, .val (.long ve), .second, .val (.long s1), .second, .val (.long row), .second, .unset, .unset, .unset, .unset, .unset, .unset, .unset, .unset, .unset] [(.long ve)]))
    refine own_of (fun _ hh_ => XS.lstore X0.here hx rfl (hb hby at_22) rfl (l' := #[.val (.long r1), .second, .val (.long ve), .second, .val (.long s1), .second, .val (.long row), .second, .val (.long ve), .second, .unset, .unset, .unset, .unset, .unset, .unset, .unset]) rfl hh_) ?_
    show own_Run p e below s _ _ _ (s₁.setTop (mkF m 24 #[.val (.long r1), .second, .val (.long ve), .second, .val (.long s1), .second, .val (.long row), .second, .val (.long ve), .second, .unset, .unset, .unset, .unset, .unset, .unset, .unset] []))
    refine own_of (fun _ hh_ => XS.lload X0.here hx rfl (hb hby at_24) rfl hh_) ?_
    show own_Run p e below s _ _ _ (s₁.setTop (mkF m 26 #[.val (.long r1), .second, .val (.long ve), .second, .val (.long s1), .second, .val (.long row), .second, .val (.long ve), .second, .unset, .unset, .unset, .unset, .unset, .unset, .unset] [(.long s1)]))
    refine own_of (fun _ hh_ => XS.lloadN X0.here hx rfl (hb hby at_26) rfl hh_) ?_
    show own_Run p e below s _ _ _ (s₁.setTop (mkF m 27 #[.val (.long r1), .second, .val (.long ve), .second, .val (.long s1), .second, .val (.long row), .second, .val (.long ve), .second, .unset, .unset, .unset, .unset, .unset, .unset, .unset] [(.long ve), (.long s1)]))
    obtain ⟨_, _, ⟨T19, L19, k19, n19⟩, -, X19, ⟨Lc19, hQ19, l19, y19, z19⟩, st19⟩ := Jvm.LawKit.callS X0 hx (y := (⟨"java/lang/Math", "min", "(JJ)J"⟩ : MethodName)) hown (mvT hZ (hw _ (List.mem_of_getElem? (i := 1) rfl))) (mvT hZ (hw _ (List.mem_of_getElem? (i := 2) rfl))) (mvT hZ (hw _ (List.mem_of_getElem? (i := 3) rfl))) (mvT hZ (hw _ (List.mem_of_getElem? (i := 4) rfl))) (by decide) (backOf (W := 0) (rmmin l Z a0 hw [] s1 ve h0 n0 Z0) hZ (hw _ (List.mem_of_getElem? (i := 4) rfl)) (hw _ (List.mem_of_getElem? (i := 3) rfl)) (by decide) (by decide)) (g := (mkF m 27 #[.val (.long r1), .second, .val (.long ve), .second, .val (.long s1), .second, .val (.long row), .second, .val (.long ve), .second, .unset, .unset, .unset, .unset, .unset, .unset, .unset] [(.long ve), (.long s1)])) rfl (by rw [hml]; rfl) (argsL := [(.long s1), (.long ve)]) (rest := []) (lenOf own_pd1 rfl) rfl (by show 2 * 0 + _ ≤ _; exact Nat.le_of_eq rfl) (hb hby at_27) (fun _ _ => ⟨rfl, e0, (by decide : 0 + 0 ≤ _), (by decide : 0 + 0 ≤ _)⟩)
    dsimp only [Pt.U, Pt.locs, Pt.cells, Pt.slots] at X19 l19 y19 z19 st19 hQ19
    subst l19 y19 z19
    obtain ⟨rfl, N19q, e19⟩ := hQ19
    have N19 := Fr.app N0 N19q
    refine own_of st19 ?_
    show own_Run p e below s _ _ _ (T19.setTop (mkF m 30 #[.val (.long r1), .second, .val (.long ve), .second, .val (.long s1), .second, .val (.long row), .second, .val (.long ve), .second, .unset, .unset, .unset, .unset, .unset, .unset, .unset] [(.long (own_minL s1 ve))]))
    refine own_of (fun _ hh_ => XS.lstore X19.here hx rfl (hb hby at_30) rfl (l' := #[.val (.long r1), .second, .val (.long ve), .second, .val (.long s1), .second, .val (.long row), .second, .val (.long ve), .second, .val (.long (own_minL s1 ve)), .second, .unset, .unset, .unset, .unset, .unset]) rfl hh_) ?_
    show own_Run p e below s _ _ _ (T19.setTop (mkF m 32 #[.val (.long r1), .second, .val (.long ve), .second, .val (.long s1), .second, .val (.long row), .second, .val (.long ve), .second, .val (.long (own_minL s1 ve)), .second, .unset, .unset, .unset, .unset, .unset] []))
    obtain ⟨T20, h20, X20, e20, E20, A20, D20, -, st20⟩ := newO X19 hx hZ hown (hw _ (List.mem_of_getElem? (i := 5) rfl)) (hw _ (List.mem_of_getElem? (i := 6) rfl)) (hw _ (List.mem_of_getElem? (i := 7) rfl)) e19 (g := (mkF m 32 #[.val (.long r1), .second, .val (.long ve), .second, .val (.long s1), .second, .val (.long row), .second, .val (.long ve), .second, .val (.long (own_minL s1 ve)), .second, .unset, .unset, .unset, .unset, .unset] [])) rfl (hb hby at_32) (by decide) (by decide)
    obtain ⟨ob20, g20⟩ : ∃ z, z = h0.size := ⟨_, rfl⟩
    rw [← g20] at A20 D20 st20
    have g_ob20 : n0 ≤ ob20 := Nat.le_trans Z0 (Nat.le_of_eq g20.symm)
    have f21 : Fld Z h20 ob20 "com/example/oriel/oriel/window/Frame" "start" "J" (.long (0 : Int64)) := D20 (Or.inr (hw _ (List.mem_of_getElem? (i := 20) rfl))) (ty := .long) (by decide)
    have f22 : Fld Z h20 ob20 "com/example/oriel/oriel/window/Frame" "end" "J" (.long (0 : Int64)) := D20 (Or.inr (hw _ (List.mem_of_getElem? (i := 22) rfl))) (ty := .long) (by decide)
    refine own_of st20 ?_
    show own_Run p e below s _ _ _ (T20.setTop (mkF m 35 #[.val (.long r1), .second, .val (.long ve), .second, .val (.long s1), .second, .val (.long row), .second, .val (.long ve), .second, .val (.long (own_minL s1 ve)), .second, .unset, .unset, .unset, .unset, .unset] [(.ref ob20)]))
    refine own_of (fun _ hh_ => XS.dup X20.here hx rfl (hb hby at_35) rfl rfl hh_) ?_
    show own_Run p e below s _ _ _ (T20.setTop (mkF m 36 #[.val (.long r1), .second, .val (.long ve), .second, .val (.long s1), .second, .val (.long row), .second, .val (.long ve), .second, .val (.long (own_minL s1 ve)), .second, .unset, .unset, .unset, .unset, .unset] [(.ref ob20), (.ref ob20)]))
    refine own_of (fun _ hh_ => XS.lload X20.here hx rfl (hb hby at_36) rfl hh_) ?_
    show own_Run p e below s _ _ _ (T20.setTop (mkF m 38 #[.val (.long r1), .second, .val (.long ve), .second, .val (.long s1), .second, .val (.long row), .second, .val (.long ve), .second, .val (.long (own_minL s1 ve)), .second, .unset, .unset, .unset, .unset, .unset] [(.long (own_minL s1 ve)), (.ref ob20), (.ref ob20)]))
    refine own_of (fun _ hh_ => XS.lload X20.here hx rfl (hb hby at_38) rfl hh_) ?_
    show own_Run p e below s _ _ _ (T20.setTop (mkF m 40 #[.val (.long r1), .second, .val (.long ve), .second, .val (.long s1), .second, .val (.long row), .second, .val (.long ve), .second, .val (.long (own_minL s1 ve)), .second, .unset, .unset, .unset, .unset, .unset] [(.long ve), (.long (own_minL s1 ve)), (.ref ob20), (.ref ob20)]))
    have hle := own_le s1 ve
    obtain ⟨_, _, ⟨T23, L23, k23, n23⟩, -, X23, ⟨Lc23, hQ23, l23, y23, z23⟩, st23⟩ := X20.specialBack hx (y := (⟨"com/example/oriel/oriel/window/Frame", "<init>", "(JJ)V"⟩ : MethodName)) rfl hown (mvT hZ (hw _ (List.mem_of_getElem? (i := 8) rfl))) (mvT hZ (hw _ (List.mem_of_getElem? (i := 9) rfl))) (mvT hZ (hw _ (List.mem_of_getElem? (i := 10) rfl))) (by decide) (backOf (W := 1) (rmF l Z a0 hw [] ob20 (own_minL s1 ve) ve h20 n0 (Nat.le_trans Z0 E20.1) A20 f21 f22 g_ob20 hle) hZ (hw _ (List.mem_of_getElem? (i := 10) rfl)) (hw _ (List.mem_of_getElem? (i := 7) rfl)) (by decide) (by decide)) (g := (mkF m 40 #[.val (.long r1), .second, .val (.long ve), .second, .val (.long s1), .second, .val (.long row), .second, .val (.long ve), .second, .val (.long (own_minL s1 ve)), .second, .unset, .unset, .unset, .unset, .unset] [(.long ve), (.long (own_minL s1 ve)), (.ref ob20), (.ref ob20)])) rfl (by rw [hml]; rfl) (Steps.refl _) (a := ob20) (argsL := [(.long (own_minL s1 ve)), (.long ve)]) (rest := [(.ref ob20)]) (lenOf own_pd2 rfl) rfl (by show 2 * 0 + _ ≤ _; exact Nat.le_of_eq rfl) (hb hby at_40) (fun _ _ => ⟨rfl, e20, (by decide : 1 + 0 ≤ _), (by decide : 2 + 0 ≤ _)⟩)
    dsimp only [Pt.U, Pt.locs, Pt.cells, Pt.slots] at X23 l23 y23 z23 st23 hQ23
    subst l23 y23 z23
    obtain ⟨rfl, N23q, K23, fs23, fe23⟩ := hQ23
    have N23 := Fr.app N19 N23q
    have f24 := A20.keep K23
    refine own_tr st23 ?_
    show own_Run p e below s _ _ _ (T23.setTop (mkF m 43 #[.val (.long r1), .second, .val (.long ve), .second, .val (.long s1), .second, .val (.long row), .second, .val (.long ve), .second, .val (.long (own_minL s1 ve)), .second, .unset, .unset, .unset, .unset, .unset] [(.ref ob20)]))
    refine own_of (fun _ hh_ => XS.astore X23.here hx rfl (hb hby at_43) rfl rfl (l' := #[.val (.long r1), .second, .val (.long ve), .second, .val (.long s1), .second, .val (.long row), .second, .val (.long ve), .second, .val (.long (own_minL s1 ve)), .second, .val (.ref ob20), .unset, .unset, .unset, .unset]) rfl hh_) ?_
    show own_Run p e below s _ _ _ (T23.setTop (mkF m 45 #[.val (.long r1), .second, .val (.long ve), .second, .val (.long s1), .second, .val (.long row), .second, .val (.long ve), .second, .val (.long (own_minL s1 ve)), .second, .val (.ref ob20), .unset, .unset, .unset, .unset] []))
    refine own_of (fun _ hh_ => XS.aload X23.here hx rfl (hb hby at_45) rfl rfl hh_) ?_
    show own_Run p e below s _ _ _ (T23.setTop (mkF m 47 #[.val (.long r1), .second, .val (.long ve), .second, .val (.long s1), .second, .val (.long row), .second, .val (.long ve), .second, .val (.long (own_minL s1 ve)), .second, .val (.ref ob20), .unset, .unset, .unset, .unset] [(.ref ob20)]))
    refine own_of (fun _ hh_ => XS.lload X23.here hx rfl (hb hby at_47) rfl hh_) ?_
    show own_Run p e below s _ _ _ (T23.setTop (mkF m 49 #[.val (.long r1), .second, .val (.long ve), .second, .val (.long s1), .second, .val (.long row), .second, .val (.long ve), .second, .val (.long (own_minL s1 ve)), .second, .val (.ref ob20), .unset, .unset, .unset, .unset] [(.long row), (.ref ob20)]))
    obtain ⟨cq25, kq25, q25a, q25b, q25c⟩ := isOf hZ (rfl : T23.heap = T23.heap) f24
    obtain ⟨_, _, ⟨T25, L25, k25, n25⟩, -, X25, ⟨Lc25, hQ25, l25, y25, z25⟩, st25⟩ := X23.virtualBack hx (y := (⟨"com/example/oriel/oriel/window/Frame", "completedBy", "(J)J"⟩ : MethodName)) (z := (⟨"com/example/oriel/oriel/window/Frame", "completedBy", "(J)J"⟩ : MethodName)) hown (mvT hZ (hw _ (List.mem_of_getElem? (i := 23) rfl))) (mvT hZ (hw _ (List.mem_of_getElem? (i := 24) rfl))) (notFace_of_selects (args := #[]) (mvT hZ (hw _ (List.mem_of_getElem? (i := 26) rfl)))) (mvT hZ (hw _ (List.mem_of_getElem? (i := 26) rfl))) (mvT hZ (hw _ (List.mem_of_getElem? (i := 25) rfl))) (by decide) (backOf (W := 0) (rmC l Z a0 hw [] ob20 row ve T23.heap n0 (Nat.le_trans (Nat.le_trans Z0 E20.1) K23.1) fe23) hZ (hw _ (List.mem_of_getElem? (i := 27) rfl)) (hw _ (List.mem_of_getElem? (i := 7) rfl)) (by decide) (by decide)) q25a q25c (g := (mkF m 49 #[.val (.long r1), .second, .val (.long ve), .second, .val (.long s1), .second, .val (.long row), .second, .val (.long ve), .second, .val (.long (own_minL s1 ve)), .second, .val (.ref ob20), .unset, .unset, .unset, .unset] [(.long row), (.ref ob20)])) rfl (by rw [hml]; rfl) (Steps.refl _) (argsL := [(.long row)]) (rest := []) (lenOf own_pd3 rfl) rfl (by show 2 * 0 + _ ≤ _; exact Nat.le_of_eq rfl) (hb hby at_49) (fun _ _ => ⟨rfl, (rfl : T23.heap = T23.heap), (by decide : 1 + 0 ≤ _), (by decide : 2 + 0 ≤ _)⟩)
    dsimp only [Pt.U, Pt.locs, Pt.cells, Pt.slots] at X25 l25 y25 z25 st25 hQ25
    subst l25 y25 z25
    obtain ⟨rfl, N25q, e25⟩ := hQ25
    have N25 := Fr.app N23 N25q
    refine own_tr st25 ?_
    show own_Run p e below s _ _ _ (T25.setTop (mkF m 52 #[.val (.long r1), .second, .val (.long ve), .second, .val (.long s1), .second, .val (.long row), .second, .val (.long ve), .second, .val (.long (own_minL s1 ve)), .second, .val (.ref ob20), .unset, .unset, .unset, .unset] [(.long (own_cb ve row))]))
    refine own_of (fun _ hh_ => XS.lstore X25.here hx rfl (hb hby at_52) rfl (l' := #[.val (.long r1), .second, .val (.long ve), .second, .val (.long s1), .second, .val (.long row), .second, .val (.long ve), .second, .val (.long (own_minL s1 ve)), .second, .val (.ref ob20), .val (.long (own_cb ve row)), .second, .unset, .unset]) rfl hh_) ?_
    show own_Run p e below s _ _ _ (T25.setTop (mkF m 54 #[.val (.long r1), .second, .val (.long ve), .second, .val (.long s1), .second, .val (.long row), .second, .val (.long ve), .second, .val (.long (own_minL s1 ve)), .second, .val (.ref ob20), .val (.long (own_cb ve row)), .second, .unset, .unset] []))
    refine own_of (fun _ hh_ => XS.lload X25.here hx rfl (hb hby at_54) rfl hh_) ?_
    show own_Run p e below s _ _ _ (T25.setTop (mkF m 56 #[.val (.long r1), .second, .val (.long ve), .second, .val (.long s1), .second, .val (.long row), .second, .val (.long ve), .second, .val (.long (own_minL s1 ve)), .second, .val (.ref ob20), .val (.long (own_cb ve row)), .second, .unset, .unset] [(.long (own_cb ve row))]))
    refine own_of (fun _ hh_ => XS.lload X25.here hx rfl (hb hby at_56) rfl hh_) ?_
    show own_Run p e below s _ _ _ (T25.setTop (mkF m 58 #[.val (.long r1), .second, .val (.long ve), .second, .val (.long s1), .second, .val (.long row), .second, .val (.long ve), .second, .val (.long (own_minL s1 ve)), .second, .val (.ref ob20), .val (.long (own_cb ve row)), .second, .unset, .unset] [(.long row), (.long (own_cb ve row))]))
    refine own_of (fun _ hh_ => XS.lcmp X25.here hx rfl (hb hby at_58) rfl hh_) ?_
    show own_Run p e below s _ _ _ (T25.setTop (mkF m 59 #[.val (.long r1), .second, .val (.long ve), .second, .val (.long s1), .second, .val (.long row), .second, .val (.long ve), .second, .val (.long (own_minL s1 ve)), .second, .val (.ref ob20), .val (.long (own_cb ve row)), .second, .unset, .unset] [(.int (lcmpW (own_cb ve row) row))]))
    have hc59_26 : row < (own_cb ve row) := own_t1 ve row rr.1 rr.2
    refine own_of (fun _ hh_ => XS.ifYes X25.here hx rfl (pc0 := 59) (pc' := 64) rfl (hb hby at_59) rfl ((if0 _ _).trans (tlt ((lw_gt _ _).mpr hc59_26)).2.2.1) (by decide) (by decide) hh_) ?_
    show own_Run p e below s _ _ _ (T25.setTop (mkF m 64 #[.val (.long r1), .second, .val (.long ve), .second, .val (.long s1), .second, .val (.long row), .second, .val (.long ve), .second, .val (.long (own_minL s1 ve)), .second, .val (.ref ob20), .val (.long (own_cb ve row)), .second, .unset, .unset] []))
    refine own_of (fun _ hh_ => XS.lload X25.here hx rfl (hb hby at_64) rfl hh_) ?_
    show own_Run p e below s _ _ _ (T25.setTop (mkF m 66 #[.val (.long r1), .second, .val (.long ve), .second, .val (.long s1), .second, .val (.long row), .second, .val (.long ve), .second, .val (.long (own_minL s1 ve)), .second, .val (.ref ob20), .val (.long (own_cb ve row)), .second, .unset, .unset] [(.long (own_cb ve row))]))
    refine own_of (X25.ldc2Long hx hown (mvT hZ (hw _ (List.mem_of_getElem? (i := 0) rfl))) (g := (mkF m 66 #[.val (.long r1), .second, .val (.long ve), .second, .val (.long s1), .second, .val (.long row), .second, .val (.long ve), .second, .val (.long (own_minL s1 ve)), .second, .val (.ref ob20), .val (.long (own_cb ve row)), .second, .unset, .unset] [(.long (own_cb ve row))])) rfl (hb hby at_66)) ?_
    show own_Run p e below s _ _ _ (T25.setTop (mkF m 69 #[.val (.long r1), .second, .val (.long ve), .second, .val (.long s1), .second, .val (.long row), .second, .val (.long ve), .second, .val (.long (own_minL s1 ve)), .second, .val (.ref ob20), .val (.long (own_cb ve row)), .second, .unset, .unset] [(.long (9223372036854775807 : Int64)), (.long (own_cb ve row))]))
    refine own_of (fun _ hh_ => XS.lcmp X25.here hx rfl (hb hby at_69) rfl hh_) ?_
    show own_Run p e below s _ _ _ (T25.setTop (mkF m 70 #[.val (.long r1), .second, .val (.long ve), .second, .val (.long s1), .second, .val (.long row), .second, .val (.long ve), .second, .val (.long (own_minL s1 ve)), .second, .val (.ref ob20), .val (.long (own_cb ve row)), .second, .unset, .unset] [(.int (lcmpW (own_cb ve row) (9223372036854775807 : Int64)))]))
    by_cases hc70_27 : (own_cb ve row) = (9223372036854775807 : Int64)
    · refine own_of (fun _ hh_ => XS.ifYes X25.here hx rfl (pc0 := 70) (pc' := 85) rfl (hb hby at_70) rfl ((if0 _ _).trans (teq ((lw_eq _ _).mpr hc70_27)).1) (by decide) (by decide) hh_) ?_
      show own_Run p e below s _ _ _ (T25.setTop (mkF m 85 #[.val (.long r1), .second, .val (.long ve), .second, .val (.long s1), .second, .val (.long row), .second, .val (.long ve), .second, .val (.long (own_minL s1 ve)), .second, .val (.ref ob20), .val (.long (own_cb ve row)), .second, .unset, .unset] []))
      refine own_of (fun _ hh_ => XS.iconst X25.here hx rfl (hb hby at_85) hh_) ?_
      show own_Run p e below s _ _ _ (T25.setTop (mkF m 86 #[.val (.long r1), .second, .val (.long ve), .second, .val (.long s1), .second, .val (.long row), .second, .val (.long ve), .second, .val (.long (own_minL s1 ve)), .second, .val (.ref ob20), .val (.long (own_cb ve row)), .second, .unset, .unset] [(.int (1 : Int32))]))
      refine own_of (fun _ hh_ => XS.goto X25.here hx rfl (pc0 := 86) (pc' := 90) rfl (hb hby at_86) (by decide) (by decide) hh_) ?_
      show own_Run p e below s _ _ _ (T25.setTop (mkF m 90 #[.val (.long r1), .second, .val (.long ve), .second, .val (.long s1), .second, .val (.long row), .second, .val (.long ve), .second, .val (.long (own_minL s1 ve)), .second, .val (.ref ob20), .val (.long (own_cb ve row)), .second, .unset, .unset] [(.int (1 : Int32))]))
      refine own_of (fun _ hh_ => XS.istore X25.here hx rfl (hb hby at_90) rfl (l' := #[.val (.long r1), .second, .val (.long ve), .second, .val (.long s1), .second, .val (.long row), .second, .val (.long ve), .second, .val (.long (own_minL s1 ve)), .second, .val (.ref ob20), .val (.long (own_cb ve row)), .second, .val (.int (1 : Int32)), .unset]) rfl hh_) ?_
      show own_Run p e below s _ _ _ (T25.setTop (mkF m 92 #[.val (.long r1), .second, .val (.long ve), .second, .val (.long s1), .second, .val (.long row), .second, .val (.long ve), .second, .val (.long (own_minL s1 ve)), .second, .val (.ref ob20), .val (.long (own_cb ve row)), .second, .val (.int (1 : Int32)), .unset] []))
      refine own_of (fun _ hh_ => XS.lload X25.here hx rfl (hb hby at_92) rfl hh_) ?_
      show own_Run p e below s _ _ _ (T25.setTop (mkF m 94 #[.val (.long r1), .second, .val (.long ve), .second, .val (.long s1), .second, .val (.long row), .second, .val (.long ve), .second, .val (.long (own_minL s1 ve)), .second, .val (.ref ob20), .val (.long (own_cb ve row)), .second, .val (.int (1 : Int32)), .unset] [(.long (own_cb ve row))]))
      refine own_of (fun _ hh_ => XS.lconst X25.here hx rfl (hb hby at_94) hh_) ?_
      show own_Run p e below s _ _ _ (T25.setTop (mkF m 95 #[.val (.long r1), .second, .val (.long ve), .second, .val (.long s1), .second, .val (.long row), .second, .val (.long ve), .second, .val (.long (own_minL s1 ve)), .second, .val (.ref ob20), .val (.long (own_cb ve row)), .second, .val (.int (1 : Int32)), .unset] [(.long (1 : Int64)), (.long (own_cb ve row))]))
      refine own_of (fun _ hh_ => XS.lsub X25.here hx rfl (hb hby at_95) rfl hh_) ?_
      show own_Run p e below s _ _ _ (T25.setTop (mkF m 96 #[.val (.long r1), .second, .val (.long ve), .second, .val (.long s1), .second, .val (.long row), .second, .val (.long ve), .second, .val (.long (own_minL s1 ve)), .second, .val (.ref ob20), .val (.long (own_cb ve row)), .second, .val (.int (1 : Int32)), .unset] [(.long ((own_cb ve row) - (1 : Int64)))]))
      refine own_of (fun _ hh_ => XS.lload X25.here hx rfl (hb hby at_96) rfl hh_) ?_
      show own_Run p e below s _ _ _ (T25.setTop (mkF m 98 #[.val (.long r1), .second, .val (.long ve), .second, .val (.long s1), .second, .val (.long row), .second, .val (.long ve), .second, .val (.long (own_minL s1 ve)), .second, .val (.ref ob20), .val (.long (own_cb ve row)), .second, .val (.int (1 : Int32)), .unset] [(.long row), (.long ((own_cb ve row) - (1 : Int64)))]))
      refine own_of (fun _ hh_ => XS.lcmp X25.here hx rfl (hb hby at_98) rfl hh_) ?_
      show own_Run p e below s _ _ _ (T25.setTop (mkF m 99 #[.val (.long r1), .second, .val (.long ve), .second, .val (.long s1), .second, .val (.long row), .second, .val (.long ve), .second, .val (.long (own_minL s1 ve)), .second, .val (.ref ob20), .val (.long (own_cb ve row)), .second, .val (.int (1 : Int32)), .unset] [(.int (lcmpW ((own_cb ve row) - (1 : Int64)) row))]))
      by_cases hc99_28 : ((own_cb ve row) - (1 : Int64)) = row
      · refine own_of (fun _ hh_ => XS.ifYes X25.here hx rfl (pc0 := 99) (pc' := 116) rfl (hb hby at_99) rfl ((if0 _ _).trans (teq ((lw_eq _ _).mpr hc99_28)).1) (by decide) (by decide) hh_) ?_
        show own_Run p e below s _ _ _ (T25.setTop (mkF m 116 #[.val (.long r1), .second, .val (.long ve), .second, .val (.long s1), .second, .val (.long row), .second, .val (.long ve), .second, .val (.long (own_minL s1 ve)), .second, .val (.ref ob20), .val (.long (own_cb ve row)), .second, .val (.int (1 : Int32)), .unset] []))
        refine own_of (fun _ hh_ => XS.iconst X25.here hx rfl (hb hby at_116) hh_) ?_
        show own_Run p e below s _ _ _ (T25.setTop (mkF m 117 #[.val (.long r1), .second, .val (.long ve), .second, .val (.long s1), .second, .val (.long row), .second, .val (.long ve), .second, .val (.long (own_minL s1 ve)), .second, .val (.ref ob20), .val (.long (own_cb ve row)), .second, .val (.int (1 : Int32)), .unset] [(.int (1 : Int32))]))
        refine own_of (fun _ hh_ => XS.goto X25.here hx rfl (pc0 := 117) (pc' := 121) rfl (hb hby at_117) (by decide) (by decide) hh_) ?_
        show own_Run p e below s _ _ _ (T25.setTop (mkF m 121 #[.val (.long r1), .second, .val (.long ve), .second, .val (.long s1), .second, .val (.long row), .second, .val (.long ve), .second, .val (.long (own_minL s1 ve)), .second, .val (.ref ob20), .val (.long (own_cb ve row)), .second, .val (.int (1 : Int32)), .unset] [(.int (1 : Int32))]))
        refine own_of (fun _ hh_ => XS.istore X25.here hx rfl (hb hby at_121) rfl (l' := #[.val (.long r1), .second, .val (.long ve), .second, .val (.long s1), .second, .val (.long row), .second, .val (.long ve), .second, .val (.long (own_minL s1 ve)), .second, .val (.ref ob20), .val (.long (own_cb ve row)), .second, .val (.int (1 : Int32)), .val (.int (1 : Int32))]) rfl hh_) ?_
        show own_Run p e below s _ _ _ (T25.setTop (mkF m 123 #[.val (.long r1), .second, .val (.long ve), .second, .val (.long s1), .second, .val (.long row), .second, .val (.long ve), .second, .val (.long (own_minL s1 ve)), .second, .val (.ref ob20), .val (.long (own_cb ve row)), .second, .val (.int (1 : Int32)), .val (.int (1 : Int32))] []))
        refine own_of (fun _ hh_ => XS.iload X25.here hx rfl (hb hby at_123) rfl hh_) ?_
        show own_Run p e below s _ _ _ (T25.setTop (mkF m 125 #[.val (.long r1), .second, .val (.long ve), .second, .val (.long s1), .second, .val (.long row), .second, .val (.long ve), .second, .val (.long (own_minL s1 ve)), .second, .val (.ref ob20), .val (.long (own_cb ve row)), .second, .val (.int (1 : Int32)), .val (.int (1 : Int32))] [(.int (1 : Int32))]))
        refine own_of (fun _ hh_ => XS.ifNo X25.here hx rfl (hb hby at_125) rfl ((if0 _ _).trans (by decide)) hh_) ?_
        show own_Run p e below s _ _ _ (T25.setTop (mkF m 128 #[.val (.long r1), .second, .val (.long ve), .second, .val (.long s1), .second, .val (.long row), .second, .val (.long ve), .second, .val (.long (own_minL s1 ve)), .second, .val (.ref ob20), .val (.long (own_cb ve row)), .second, .val (.int (1 : Int32)), .val (.int (1 : Int32))] []))
        refine own_of (fun _ hh_ => XS.iload X25.here hx rfl (hb hby at_128) rfl hh_) ?_
        show own_Run p e below s _ _ _ (T25.setTop (mkF m 130 #[.val (.long r1), .second, .val (.long ve), .second, .val (.long s1), .second, .val (.long row), .second, .val (.long ve), .second, .val (.long (own_minL s1 ve)), .second, .val (.ref ob20), .val (.long (own_cb ve row)), .second, .val (.int (1 : Int32)), .val (.int (1 : Int32))] [(.int (1 : Int32))]))
        refine own_of (fun _ hh_ => XS.ifNo X25.here hx rfl (hb hby at_130) rfl ((if0 _ _).trans (by decide)) hh_) ?_
        show own_Run p e below s _ _ _ (T25.setTop (mkF m 133 #[.val (.long r1), .second, .val (.long ve), .second, .val (.long s1), .second, .val (.long row), .second, .val (.long ve), .second, .val (.long (own_minL s1 ve)), .second, .val (.ref ob20), .val (.long (own_cb ve row)), .second, .val (.int (1 : Int32)), .val (.int (1 : Int32))] []))
        refine own_of (fun _ hh_ => XS.iconst X25.here hx rfl (hb hby at_133) hh_) ?_
        show own_Run p e below s _ _ _ (T25.setTop (mkF m 134 #[.val (.long r1), .second, .val (.long ve), .second, .val (.long s1), .second, .val (.long row), .second, .val (.long ve), .second, .val (.long (own_minL s1 ve)), .second, .val (.ref ob20), .val (.long (own_cb ve row)), .second, .val (.int (1 : Int32)), .val (.int (1 : Int32))] [(.int (1 : Int32))]))
        refine own_of (fun _ hh_ => XS.goto X25.here hx rfl (pc0 := 134) (pc' := 138) rfl (hb hby at_134) (by decide) (by decide) hh_) ?_
        show own_Run p e below s _ _ _ (T25.setTop (mkF m 138 #[.val (.long r1), .second, .val (.long ve), .second, .val (.long s1), .second, .val (.long row), .second, .val (.long ve), .second, .val (.long (own_minL s1 ve)), .second, .val (.ref ob20), .val (.long (own_cb ve row)), .second, .val (.int (1 : Int32)), .val (.int (1 : Int32))] [(.int (1 : Int32))]))
        exact own_retN X25 hx (t := .boolean) hret hlk (by simp) (hb hby at_138) ⟨rfl, N25⟩ (by decide) (by decide)
      · refine own_of (fun _ hh_ => XS.ifNo X25.here hx rfl (hb hby at_99) rfl ((if0 _ _).trans (feq (fun q_ => hc99_28 ((lw_eq _ _).mp q_))).1) hh_) ?_
        show own_Run p e below s _ _ _ (T25.setTop (mkF m 102 #[.val (.long r1), .second, .val (.long ve), .second, .val (.long s1), .second, .val (.long row), .second, .val (.long ve), .second, .val (.long (own_minL s1 ve)), .second, .val (.ref ob20), .val (.long (own_cb ve row)), .second, .val (.int (1 : Int32)), .unset] []))
        refine own_of (fun _ hh_ => XS.lload X25.here hx rfl (hb hby at_102) rfl hh_) ?_
        show own_Run p e below s _ _ _ (T25.setTop (mkF m 104 #[.val (.long r1), .second, .val (.long ve), .second, .val (.long s1), .second, .val (.long row), .second, .val (.long ve), .second, .val (.long (own_minL s1 ve)), .second, .val (.ref ob20), .val (.long (own_cb ve row)), .second, .val (.int (1 : Int32)), .unset] [(.long ve)]))
        refine own_of (fun _ hh_ => XS.lload X25.here hx rfl (hb hby at_104) rfl hh_) ?_
        show own_Run p e below s _ _ _ (T25.setTop (mkF m 106 #[.val (.long r1), .second, .val (.long ve), .second, .val (.long s1), .second, .val (.long row), .second, .val (.long ve), .second, .val (.long (own_minL s1 ve)), .second, .val (.ref ob20), .val (.long (own_cb ve row)), .second, .val (.int (1 : Int32)), .unset] [(.long row), (.long ve)]))
        refine own_of (fun _ hh_ => XS.lload X25.here hx rfl (hb hby at_106) rfl hh_) ?_
        show own_Run p e below s _ _ _ (T25.setTop (mkF m 108 #[.val (.long r1), .second, .val (.long ve), .second, .val (.long s1), .second, .val (.long row), .second, .val (.long ve), .second, .val (.long (own_minL s1 ve)), .second, .val (.ref ob20), .val (.long (own_cb ve row)), .second, .val (.int (1 : Int32)), .unset] [(.long (own_cb ve row)), (.long row), (.long ve)]))
        refine own_of (fun _ hh_ => XS.lconst X25.here hx rfl (hb hby at_108) hh_) ?_
        show own_Run p e below s _ _ _ (T25.setTop (mkF m 109 #[.val (.long r1), .second, .val (.long ve), .second, .val (.long s1), .second, .val (.long row), .second, .val (.long ve), .second, .val (.long (own_minL s1 ve)), .second, .val (.ref ob20), .val (.long (own_cb ve row)), .second, .val (.int (1 : Int32)), .unset] [(.long (1 : Int64)), (.long (own_cb ve row)), (.long row), (.long ve)]))
        refine own_of (fun _ hh_ => XS.lsub X25.here hx rfl (hb hby at_109) rfl hh_) ?_
        show own_Run p e below s _ _ _ (T25.setTop (mkF m 110 #[.val (.long r1), .second, .val (.long ve), .second, .val (.long s1), .second, .val (.long row), .second, .val (.long ve), .second, .val (.long (own_minL s1 ve)), .second, .val (.ref ob20), .val (.long (own_cb ve row)), .second, .val (.int (1 : Int32)), .unset] [(.long ((own_cb ve row) - (1 : Int64))), (.long row), (.long ve)]))
        obtain ⟨_, _, ⟨T29, L29, k29, n29⟩, -, X29, ⟨Lc29, hQ29, l29, y29, z29⟩, st29⟩ := Jvm.LawKit.callS X25 hx (y := (⟨"com/example/oriel/oriel/window/FrameCompletedByPinLaw", "complete", "(JJJ)Z"⟩ : MethodName)) hown (mvT hZ (hw _ (List.mem_of_getElem? (i := 29) rfl))) (mvT hZ (hw _ (List.mem_of_getElem? (i := 30) rfl))) (mvT hZ (hw _ (List.mem_of_getElem? (i := 31) rfl))) (mvT hZ (hw _ (List.mem_of_getElem? (i := 32) rfl))) (by decide) (backOf (W := 0) (rmK l Z a0 hw [] ve row ((own_cb ve row) - (1 : Int64)) T23.heap n0 (Nat.le_trans (Nat.le_trans Z0 E20.1) K23.1)) hZ (hw _ (List.mem_of_getElem? (i := 32) rfl)) (hw _ (List.mem_of_getElem? (i := 31) rfl)) (by decide) (by decide)) (g := (mkF m 110 #[.val (.long r1), .second, .val (.long ve), .second, .val (.long s1), .second, .val (.long row), .second, .val (.long ve), .second, .val (.long (own_minL s1 ve)), .second, .val (.ref ob20), .val (.long (own_cb ve row)), .second, .val (.int (1 : Int32)), .unset] [(.long ((own_cb ve row) - (1 : Int64))), (.long row), (.long ve)])) rfl (by rw [hml]; rfl) (argsL := [(.long ve), (.long row), (.long ((own_cb ve row) - (1 : Int64)))]) (rest := []) (lenOf own_pd4 rfl) rfl (by show 2 * 0 + _ ≤ _; exact Nat.le_of_eq rfl) (hb hby at_110) (fun _ _ => ⟨rfl, e25, (by decide : 1 + 0 ≤ _), (by decide : 2 + 0 ≤ _)⟩)
        dsimp only [Pt.U, Pt.locs, Pt.cells, Pt.slots] at X29 l29 y29 z29 st29 hQ29
        subst l29 y29 z29
        obtain ⟨rfl, N29q, e29⟩ := hQ29
        have N29 := Fr.app N25 N29q
        refine own_of st29 ?_
        show own_Run p e below s _ _ _ (T29.setTop (mkF m 113 #[.val (.long r1), .second, .val (.long ve), .second, .val (.long s1), .second, .val (.long row), .second, .val (.long ve), .second, .val (.long (own_minL s1 ve)), .second, .val (.ref ob20), .val (.long (own_cb ve row)), .second, .val (.int (1 : Int32)), .unset] [(.int (if ve < ((own_cb ve row) - (1 : Int64)) - row then 1 else 0 : Int32))]))
        have hc113_30 : ¬ (ve < ((own_cb ve row) - (1 : Int64)) - row) := own_t3 ve row rr.1 rr.2 hc99_28
        refine own_of (fun _ hh_ => XS.ifNo X29.here hx rfl (hb hby at_113) rfl ((if0 _ _).trans (teq (show (if ve < ((own_cb ve row) - (1 : Int64)) - row then 1 else 0 : Int32) = 0 from if_neg hc113_30)).2) hh_) ?_
        show own_Run p e below s _ _ _ (T29.setTop (mkF m 116 #[.val (.long r1), .second, .val (.long ve), .second, .val (.long s1), .second, .val (.long row), .second, .val (.long ve), .second, .val (.long (own_minL s1 ve)), .second, .val (.ref ob20), .val (.long (own_cb ve row)), .second, .val (.int (1 : Int32)), .unset] []))
        refine own_of (fun _ hh_ => XS.iconst X29.here hx rfl (hb hby at_116) hh_) ?_
        show own_Run p e below s _ _ _ (T29.setTop (mkF m 117 #[.val (.long r1), .second, .val (.long ve), .second, .val (.long s1), .second, .val (.long row), .second, .val (.long ve), .second, .val (.long (own_minL s1 ve)), .second, .val (.ref ob20), .val (.long (own_cb ve row)), .second, .val (.int (1 : Int32)), .unset] [(.int (1 : Int32))]))
        refine own_of (fun _ hh_ => XS.goto X29.here hx rfl (pc0 := 117) (pc' := 121) rfl (hb hby at_117) (by decide) (by decide) hh_) ?_
        show own_Run p e below s _ _ _ (T29.setTop (mkF m 121 #[.val (.long r1), .second, .val (.long ve), .second, .val (.long s1), .second, .val (.long row), .second, .val (.long ve), .second, .val (.long (own_minL s1 ve)), .second, .val (.ref ob20), .val (.long (own_cb ve row)), .second, .val (.int (1 : Int32)), .unset] [(.int (1 : Int32))]))
        refine own_of (fun _ hh_ => XS.istore X29.here hx rfl (hb hby at_121) rfl (l' := #[.val (.long r1), .second, .val (.long ve), .second, .val (.long s1), .second, .val (.long row), .second, .val (.long ve), .second, .val (.long (own_minL s1 ve)), .second, .val (.ref ob20), .val (.long (own_cb ve row)), .second, .val (.int (1 : Int32)), .val (.int (1 : Int32))]) rfl hh_) ?_
        show own_Run p e below s _ _ _ (T29.setTop (mkF m 123 #[.val (.long r1), .second, .val (.long ve), .second, .val (.long s1), .second, .val (.long row), .second, .val (.long ve), .second, .val (.long (own_minL s1 ve)), .second, .val (.ref ob20), .val (.long (own_cb ve row)), .second, .val (.int (1 : Int32)), .val (.int (1 : Int32))] []))
        refine own_of (fun _ hh_ => XS.iload X29.here hx rfl (hb hby at_123) rfl hh_) ?_
        show own_Run p e below s _ _ _ (T29.setTop (mkF m 125 #[.val (.long r1), .second, .val (.long ve), .second, .val (.long s1), .second, .val (.long row), .second, .val (.long ve), .second, .val (.long (own_minL s1 ve)), .second, .val (.ref ob20), .val (.long (own_cb ve row)), .second, .val (.int (1 : Int32)), .val (.int (1 : Int32))] [(.int (1 : Int32))]))
        refine own_of (fun _ hh_ => XS.ifNo X29.here hx rfl (hb hby at_125) rfl ((if0 _ _).trans (by decide)) hh_) ?_
        show own_Run p e below s _ _ _ (T29.setTop (mkF m 128 #[.val (.long r1), .second, .val (.long ve), .second, .val (.long s1), .second, .val (.long row), .second, .val (.long ve), .second, .val (.long (own_minL s1 ve)), .second, .val (.ref ob20), .val (.long (own_cb ve row)), .second, .val (.int (1 : Int32)), .val (.int (1 : Int32))] []))
        refine own_of (fun _ hh_ => XS.iload X29.here hx rfl (hb hby at_128) rfl hh_) ?_
        show own_Run p e below s _ _ _ (T29.setTop (mkF m 130 #[.val (.long r1), .second, .val (.long ve), .second, .val (.long s1), .second, .val (.long row), .second, .val (.long ve), .second, .val (.long (own_minL s1 ve)), .second, .val (.ref ob20), .val (.long (own_cb ve row)), .second, .val (.int (1 : Int32)), .val (.int (1 : Int32))] [(.int (1 : Int32))]))
        refine own_of (fun _ hh_ => XS.ifNo X29.here hx rfl (hb hby at_130) rfl ((if0 _ _).trans (by decide)) hh_) ?_
        show own_Run p e below s _ _ _ (T29.setTop (mkF m 133 #[.val (.long r1), .second, .val (.long ve), .second, .val (.long s1), .second, .val (.long row), .second, .val (.long ve), .second, .val (.long (own_minL s1 ve)), .second, .val (.ref ob20), .val (.long (own_cb ve row)), .second, .val (.int (1 : Int32)), .val (.int (1 : Int32))] []))
        refine own_of (fun _ hh_ => XS.iconst X29.here hx rfl (hb hby at_133) hh_) ?_
        show own_Run p e below s _ _ _ (T29.setTop (mkF m 134 #[.val (.long r1), .second, .val (.long ve), .second, .val (.long s1), .second, .val (.long row), .second, .val (.long ve), .second, .val (.long (own_minL s1 ve)), .second, .val (.ref ob20), .val (.long (own_cb ve row)), .second, .val (.int (1 : Int32)), .val (.int (1 : Int32))] [(.int (1 : Int32))]))
        refine own_of (fun _ hh_ => XS.goto X29.here hx rfl (pc0 := 134) (pc' := 138) rfl (hb hby at_134) (by decide) (by decide) hh_) ?_
        show own_Run p e below s _ _ _ (T29.setTop (mkF m 138 #[.val (.long r1), .second, .val (.long ve), .second, .val (.long s1), .second, .val (.long row), .second, .val (.long ve), .second, .val (.long (own_minL s1 ve)), .second, .val (.ref ob20), .val (.long (own_cb ve row)), .second, .val (.int (1 : Int32)), .val (.int (1 : Int32))] [(.int (1 : Int32))]))
        exact own_retN X29 hx (t := .boolean) hret hlk (by simp) (hb hby at_138) ⟨rfl, N29⟩ (by decide) (by decide)
    · refine own_of (fun _ hh_ => XS.ifNo X25.here hx rfl (hb hby at_70) rfl ((if0 _ _).trans (feq (fun q_ => hc70_27 ((lw_eq _ _).mp q_))).1) hh_) ?_
      show own_Run p e below s _ _ _ (T25.setTop (mkF m 73 #[.val (.long r1), .second, .val (.long ve), .second, .val (.long s1), .second, .val (.long row), .second, .val (.long ve), .second, .val (.long (own_minL s1 ve)), .second, .val (.ref ob20), .val (.long (own_cb ve row)), .second, .unset, .unset] []))
      refine own_of (fun _ hh_ => XS.lload X25.here hx rfl (hb hby at_73) rfl hh_) ?_
      show own_Run p e below s _ _ _ (T25.setTop (mkF m 75 #[.val (.long r1), .second, .val (.long ve), .second, .val (.long s1), .second, .val (.long row), .second, .val (.long ve), .second, .val (.long (own_minL s1 ve)), .second, .val (.ref ob20), .val (.long (own_cb ve row)), .second, .unset, .unset] [(.long ve)]))
      refine own_of (fun _ hh_ => XS.lload X25.here hx rfl (hb hby at_75) rfl hh_) ?_
      show own_Run p e below s _ _ _ (T25.setTop (mkF m 77 #[.val (.long r1), .second, .val (.long ve), .second, .val (.long s1), .second, .val (.long row), .second, .val (.long ve), .second, .val (.long (own_minL s1 ve)), .second, .val (.ref ob20), .val (.long (own_cb ve row)), .second, .unset, .unset] [(.long row), (.long ve)]))
      refine own_of (fun _ hh_ => XS.lload X25.here hx rfl (hb hby at_77) rfl hh_) ?_
      show own_Run p e below s _ _ _ (T25.setTop (mkF m 79 #[.val (.long r1), .second, .val (.long ve), .second, .val (.long s1), .second, .val (.long row), .second, .val (.long ve), .second, .val (.long (own_minL s1 ve)), .second, .val (.ref ob20), .val (.long (own_cb ve row)), .second, .unset, .unset] [(.long (own_cb ve row)), (.long row), (.long ve)]))
      obtain ⟨_, _, ⟨T31, L31, k31, n31⟩, -, X31, ⟨Lc31, hQ31, l31, y31, z31⟩, st31⟩ := Jvm.LawKit.callS X25 hx (y := (⟨"com/example/oriel/oriel/window/FrameCompletedByPinLaw", "complete", "(JJJ)Z"⟩ : MethodName)) hown (mvT hZ (hw _ (List.mem_of_getElem? (i := 29) rfl))) (mvT hZ (hw _ (List.mem_of_getElem? (i := 30) rfl))) (mvT hZ (hw _ (List.mem_of_getElem? (i := 31) rfl))) (mvT hZ (hw _ (List.mem_of_getElem? (i := 32) rfl))) (by decide) (backOf (W := 0) (rmK l Z a0 hw [] ve row (own_cb ve row) T23.heap n0 (Nat.le_trans (Nat.le_trans Z0 E20.1) K23.1)) hZ (hw _ (List.mem_of_getElem? (i := 32) rfl)) (hw _ (List.mem_of_getElem? (i := 31) rfl)) (by decide) (by decide)) (g := (mkF m 79 #[.val (.long r1), .second, .val (.long ve), .second, .val (.long s1), .second, .val (.long row), .second, .val (.long ve), .second, .val (.long (own_minL s1 ve)), .second, .val (.ref ob20), .val (.long (own_cb ve row)), .second, .unset, .unset] [(.long (own_cb ve row)), (.long row), (.long ve)])) rfl (by rw [hml]; rfl) (argsL := [(.long ve), (.long row), (.long (own_cb ve row))]) (rest := []) (lenOf own_pd4 rfl) rfl (by show 2 * 0 + _ ≤ _; exact Nat.le_of_eq rfl) (hb hby at_79) (fun _ _ => ⟨rfl, e25, (by decide : 1 + 0 ≤ _), (by decide : 2 + 0 ≤ _)⟩)
      dsimp only [Pt.U, Pt.locs, Pt.cells, Pt.slots] at X31 l31 y31 z31 st31 hQ31
      subst l31 y31 z31
      obtain ⟨rfl, N31q, e31⟩ := hQ31
      have N31 := Fr.app N25 N31q
      refine own_of st31 ?_
      show own_Run p e below s _ _ _ (T31.setTop (mkF m 82 #[.val (.long r1), .second, .val (.long ve), .second, .val (.long s1), .second, .val (.long row), .second, .val (.long ve), .second, .val (.long (own_minL s1 ve)), .second, .val (.ref ob20), .val (.long (own_cb ve row)), .second, .unset, .unset] [(.int (if ve < (own_cb ve row) - row then 1 else 0 : Int32))]))
      have hc82_32 : ve < (own_cb ve row) - row := own_t2 ve row rr.1 rr.2 hc70_27
      refine own_of (fun _ hh_ => XS.ifNo X31.here hx rfl (hb hby at_82) rfl ((if0 _ _).trans (feq (show ¬ ((if ve < (own_cb ve row) - row then 1 else 0 : Int32) = 0) from by rw [if_pos hc82_32]; decide)).1) hh_) ?_
      show own_Run p e below s _ _ _ (T31.setTop (mkF m 85 #[.val (.long r1), .second, .val (.long ve), .second, .val (.long s1), .second, .val (.long row), .second, .val (.long ve), .second, .val (.long (own_minL s1 ve)), .second, .val (.ref ob20), .val (.long (own_cb ve row)), .second, .unset, .unset] []))
      refine own_of (fun _ hh_ => XS.iconst X31.here hx rfl (hb hby at_85) hh_) ?_
      show own_Run p e below s _ _ _ (T31.setTop (mkF m 86 #[.val (.long r1), .second, .val (.long ve), .second, .val (.long s1), .second, .val (.long row), .second, .val (.long ve), .second, .val (.long (own_minL s1 ve)), .second, .val (.ref ob20), .val (.long (own_cb ve row)), .second, .unset, .unset] [(.int (1 : Int32))]))
      refine own_of (fun _ hh_ => XS.goto X31.here hx rfl (pc0 := 86) (pc' := 90) rfl (hb hby at_86) (by decide) (by decide) hh_) ?_
      show own_Run p e below s _ _ _ (T31.setTop (mkF m 90 #[.val (.long r1), .second, .val (.long ve), .second, .val (.long s1), .second, .val (.long row), .second, .val (.long ve), .second, .val (.long (own_minL s1 ve)), .second, .val (.ref ob20), .val (.long (own_cb ve row)), .second, .unset, .unset] [(.int (1 : Int32))]))
      refine own_of (fun _ hh_ => XS.istore X31.here hx rfl (hb hby at_90) rfl (l' := #[.val (.long r1), .second, .val (.long ve), .second, .val (.long s1), .second, .val (.long row), .second, .val (.long ve), .second, .val (.long (own_minL s1 ve)), .second, .val (.ref ob20), .val (.long (own_cb ve row)), .second, .val (.int (1 : Int32)), .unset]) rfl hh_) ?_
      show own_Run p e below s _ _ _ (T31.setTop (mkF m 92 #[.val (.long r1), .second, .val (.long ve), .second, .val (.long s1), .second, .val (.long row), .second, .val (.long ve), .second, .val (.long (own_minL s1 ve)), .second, .val (.ref ob20), .val (.long (own_cb ve row)), .second, .val (.int (1 : Int32)), .unset] []))
      refine own_of (fun _ hh_ => XS.lload X31.here hx rfl (hb hby at_92) rfl hh_) ?_
      show own_Run p e below s _ _ _ (T31.setTop (mkF m 94 #[.val (.long r1), .second, .val (.long ve), .second, .val (.long s1), .second, .val (.long row), .second, .val (.long ve), .second, .val (.long (own_minL s1 ve)), .second, .val (.ref ob20), .val (.long (own_cb ve row)), .second, .val (.int (1 : Int32)), .unset] [(.long (own_cb ve row))]))
      refine own_of (fun _ hh_ => XS.lconst X31.here hx rfl (hb hby at_94) hh_) ?_
      show own_Run p e below s _ _ _ (T31.setTop (mkF m 95 #[.val (.long r1), .second, .val (.long ve), .second, .val (.long s1), .second, .val (.long row), .second, .val (.long ve), .second, .val (.long (own_minL s1 ve)), .second, .val (.ref ob20), .val (.long (own_cb ve row)), .second, .val (.int (1 : Int32)), .unset] [(.long (1 : Int64)), (.long (own_cb ve row))]))
      refine own_of (fun _ hh_ => XS.lsub X31.here hx rfl (hb hby at_95) rfl hh_) ?_
      show own_Run p e below s _ _ _ (T31.setTop (mkF m 96 #[.val (.long r1), .second, .val (.long ve), .second, .val (.long s1), .second, .val (.long row), .second, .val (.long ve), .second, .val (.long (own_minL s1 ve)), .second, .val (.ref ob20), .val (.long (own_cb ve row)), .second, .val (.int (1 : Int32)), .unset] [(.long ((own_cb ve row) - (1 : Int64)))]))
      refine own_of (fun _ hh_ => XS.lload X31.here hx rfl (hb hby at_96) rfl hh_) ?_
      show own_Run p e below s _ _ _ (T31.setTop (mkF m 98 #[.val (.long r1), .second, .val (.long ve), .second, .val (.long s1), .second, .val (.long row), .second, .val (.long ve), .second, .val (.long (own_minL s1 ve)), .second, .val (.ref ob20), .val (.long (own_cb ve row)), .second, .val (.int (1 : Int32)), .unset] [(.long row), (.long ((own_cb ve row) - (1 : Int64)))]))
      refine own_of (fun _ hh_ => XS.lcmp X31.here hx rfl (hb hby at_98) rfl hh_) ?_
      show own_Run p e below s _ _ _ (T31.setTop (mkF m 99 #[.val (.long r1), .second, .val (.long ve), .second, .val (.long s1), .second, .val (.long row), .second, .val (.long ve), .second, .val (.long (own_minL s1 ve)), .second, .val (.ref ob20), .val (.long (own_cb ve row)), .second, .val (.int (1 : Int32)), .unset] [(.int (lcmpW ((own_cb ve row) - (1 : Int64)) row))]))
      by_cases hc99_33 : ((own_cb ve row) - (1 : Int64)) = row
      · refine own_of (fun _ hh_ => XS.ifYes X31.here hx rfl (pc0 := 99) (pc' := 116) rfl (hb hby at_99) rfl ((if0 _ _).trans (teq ((lw_eq _ _).mpr hc99_33)).1) (by decide) (by decide) hh_) ?_
        show own_Run p e below s _ _ _ (T31.setTop (mkF m 116 #[.val (.long r1), .second, .val (.long ve), .second, .val (.long s1), .second, .val (.long row), .second, .val (.long ve), .second, .val (.long (own_minL s1 ve)), .second, .val (.ref ob20), .val (.long (own_cb ve row)), .second, .val (.int (1 : Int32)), .unset] []))
        refine own_of (fun _ hh_ => XS.iconst X31.here hx rfl (hb hby at_116) hh_) ?_
        show own_Run p e below s _ _ _ (T31.setTop (mkF m 117 #[.val (.long r1), .second, .val (.long ve), .second, .val (.long s1), .second, .val (.long row), .second, .val (.long ve), .second, .val (.long (own_minL s1 ve)), .second, .val (.ref ob20), .val (.long (own_cb ve row)), .second, .val (.int (1 : Int32)), .unset] [(.int (1 : Int32))]))
        refine own_of (fun _ hh_ => XS.goto X31.here hx rfl (pc0 := 117) (pc' := 121) rfl (hb hby at_117) (by decide) (by decide) hh_) ?_
        show own_Run p e below s _ _ _ (T31.setTop (mkF m 121 #[.val (.long r1), .second, .val (.long ve), .second, .val (.long s1), .second, .val (.long row), .second, .val (.long ve), .second, .val (.long (own_minL s1 ve)), .second, .val (.ref ob20), .val (.long (own_cb ve row)), .second, .val (.int (1 : Int32)), .unset] [(.int (1 : Int32))]))
        refine own_of (fun _ hh_ => XS.istore X31.here hx rfl (hb hby at_121) rfl (l' := #[.val (.long r1), .second, .val (.long ve), .second, .val (.long s1), .second, .val (.long row), .second, .val (.long ve), .second, .val (.long (own_minL s1 ve)), .second, .val (.ref ob20), .val (.long (own_cb ve row)), .second, .val (.int (1 : Int32)), .val (.int (1 : Int32))]) rfl hh_) ?_
        show own_Run p e below s _ _ _ (T31.setTop (mkF m 123 #[.val (.long r1), .second, .val (.long ve), .second, .val (.long s1), .second, .val (.long row), .second, .val (.long ve), .second, .val (.long (own_minL s1 ve)), .second, .val (.ref ob20), .val (.long (own_cb ve row)), .second, .val (.int (1 : Int32)), .val (.int (1 : Int32))] []))
        refine own_of (fun _ hh_ => XS.iload X31.here hx rfl (hb hby at_123) rfl hh_) ?_
        show own_Run p e below s _ _ _ (T31.setTop (mkF m 125 #[.val (.long r1), .second, .val (.long ve), .second, .val (.long s1), .second, .val (.long row), .second, .val (.long ve), .second, .val (.long (own_minL s1 ve)), .second, .val (.ref ob20), .val (.long (own_cb ve row)), .second, .val (.int (1 : Int32)), .val (.int (1 : Int32))] [(.int (1 : Int32))]))
        refine own_of (fun _ hh_ => XS.ifNo X31.here hx rfl (hb hby at_125) rfl ((if0 _ _).trans (by decide)) hh_) ?_
        show own_Run p e below s _ _ _ (T31.setTop (mkF m 128 #[.val (.long r1), .second, .val (.long ve), .second, .val (.long s1), .second, .val (.long row), .second, .val (.long ve), .second, .val (.long (own_minL s1 ve)), .second, .val (.ref ob20), .val (.long (own_cb ve row)), .second, .val (.int (1 : Int32)), .val (.int (1 : Int32))] []))
        refine own_of (fun _ hh_ => XS.iload X31.here hx rfl (hb hby at_128) rfl hh_) ?_
        show own_Run p e below s _ _ _ (T31.setTop (mkF m 130 #[.val (.long r1), .second, .val (.long ve), .second, .val (.long s1), .second, .val (.long row), .second, .val (.long ve), .second, .val (.long (own_minL s1 ve)), .second, .val (.ref ob20), .val (.long (own_cb ve row)), .second, .val (.int (1 : Int32)), .val (.int (1 : Int32))] [(.int (1 : Int32))]))
        refine own_of (fun _ hh_ => XS.ifNo X31.here hx rfl (hb hby at_130) rfl ((if0 _ _).trans (by decide)) hh_) ?_
        show own_Run p e below s _ _ _ (T31.setTop (mkF m 133 #[.val (.long r1), .second, .val (.long ve), .second, .val (.long s1), .second, .val (.long row), .second, .val (.long ve), .second, .val (.long (own_minL s1 ve)), .second, .val (.ref ob20), .val (.long (own_cb ve row)), .second, .val (.int (1 : Int32)), .val (.int (1 : Int32))] []))
        refine own_of (fun _ hh_ => XS.iconst X31.here hx rfl (hb hby at_133) hh_) ?_
        show own_Run p e below s _ _ _ (T31.setTop (mkF m 134 #[.val (.long r1), .second, .val (.long ve), .second, .val (.long s1), .second, .val (.long row), .second, .val (.long ve), .second, .val (.long (own_minL s1 ve)), .second, .val (.ref ob20), .val (.long (own_cb ve row)), .second, .val (.int (1 : Int32)), .val (.int (1 : Int32))] [(.int (1 : Int32))]))
        refine own_of (fun _ hh_ => XS.goto X31.here hx rfl (pc0 := 134) (pc' := 138) rfl (hb hby at_134) (by decide) (by decide) hh_) ?_
        show own_Run p e below s _ _ _ (T31.setTop (mkF m 138 #[.val (.long r1), .second, .val (.long ve), .second, .val (.long s1), .second, .val (.long row), .second, .val (.long ve), .second, .val (.long (own_minL s1 ve)), .second, .val (.ref ob20), .val (.long (own_cb ve row)), .second, .val (.int (1 : Int32)), .val (.int (1 : Int32))] [(.int (1 : Int32))]))
        exact own_retN X31 hx (t := .boolean) hret hlk (by simp) (hb hby at_138) ⟨rfl, N31⟩ (by decide) (by decide)
      · refine own_of (fun _ hh_ => XS.ifNo X31.here hx rfl (hb hby at_99) rfl ((if0 _ _).trans (feq (fun q_ => hc99_33 ((lw_eq _ _).mp q_))).1) hh_) ?_
        show own_Run p e below s _ _ _ (T31.setTop (mkF m 102 #[.val (.long r1), .second, .val (.long ve), .second, .val (.long s1), .second, .val (.long row), .second, .val (.long ve), .second, .val (.long (own_minL s1 ve)), .second, .val (.ref ob20), .val (.long (own_cb ve row)), .second, .val (.int (1 : Int32)), .unset] []))
        refine own_of (fun _ hh_ => XS.lload X31.here hx rfl (hb hby at_102) rfl hh_) ?_
        show own_Run p e below s _ _ _ (T31.setTop (mkF m 104 #[.val (.long r1), .second, .val (.long ve), .second, .val (.long s1), .second, .val (.long row), .second, .val (.long ve), .second, .val (.long (own_minL s1 ve)), .second, .val (.ref ob20), .val (.long (own_cb ve row)), .second, .val (.int (1 : Int32)), .unset] [(.long ve)]))
        refine own_of (fun _ hh_ => XS.lload X31.here hx rfl (hb hby at_104) rfl hh_) ?_
        show own_Run p e below s _ _ _ (T31.setTop (mkF m 106 #[.val (.long r1), .second, .val (.long ve), .second, .val (.long s1), .second, .val (.long row), .second, .val (.long ve), .second, .val (.long (own_minL s1 ve)), .second, .val (.ref ob20), .val (.long (own_cb ve row)), .second, .val (.int (1 : Int32)), .unset] [(.long row), (.long ve)]))
        refine own_of (fun _ hh_ => XS.lload X31.here hx rfl (hb hby at_106) rfl hh_) ?_
        show own_Run p e below s _ _ _ (T31.setTop (mkF m 108 #[.val (.long r1), .second, .val (.long ve), .second, .val (.long s1), .second, .val (.long row), .second, .val (.long ve), .second, .val (.long (own_minL s1 ve)), .second, .val (.ref ob20), .val (.long (own_cb ve row)), .second, .val (.int (1 : Int32)), .unset] [(.long (own_cb ve row)), (.long row), (.long ve)]))
        refine own_of (fun _ hh_ => XS.lconst X31.here hx rfl (hb hby at_108) hh_) ?_
        show own_Run p e below s _ _ _ (T31.setTop (mkF m 109 #[.val (.long r1), .second, .val (.long ve), .second, .val (.long s1), .second, .val (.long row), .second, .val (.long ve), .second, .val (.long (own_minL s1 ve)), .second, .val (.ref ob20), .val (.long (own_cb ve row)), .second, .val (.int (1 : Int32)), .unset] [(.long (1 : Int64)), (.long (own_cb ve row)), (.long row), (.long ve)]))
        refine own_of (fun _ hh_ => XS.lsub X31.here hx rfl (hb hby at_109) rfl hh_) ?_
        show own_Run p e below s _ _ _ (T31.setTop (mkF m 110 #[.val (.long r1), .second, .val (.long ve), .second, .val (.long s1), .second, .val (.long row), .second, .val (.long ve), .second, .val (.long (own_minL s1 ve)), .second, .val (.ref ob20), .val (.long (own_cb ve row)), .second, .val (.int (1 : Int32)), .unset] [(.long ((own_cb ve row) - (1 : Int64))), (.long row), (.long ve)]))
        obtain ⟨_, _, ⟨T34, L34, k34, n34⟩, -, X34, ⟨Lc34, hQ34, l34, y34, z34⟩, st34⟩ := Jvm.LawKit.callS X31 hx (y := (⟨"com/example/oriel/oriel/window/FrameCompletedByPinLaw", "complete", "(JJJ)Z"⟩ : MethodName)) hown (mvT hZ (hw _ (List.mem_of_getElem? (i := 29) rfl))) (mvT hZ (hw _ (List.mem_of_getElem? (i := 30) rfl))) (mvT hZ (hw _ (List.mem_of_getElem? (i := 31) rfl))) (mvT hZ (hw _ (List.mem_of_getElem? (i := 32) rfl))) (by decide) (backOf (W := 0) (rmK l Z a0 hw [] ve row ((own_cb ve row) - (1 : Int64)) T23.heap n0 (Nat.le_trans (Nat.le_trans Z0 E20.1) K23.1)) hZ (hw _ (List.mem_of_getElem? (i := 32) rfl)) (hw _ (List.mem_of_getElem? (i := 31) rfl)) (by decide) (by decide)) (g := (mkF m 110 #[.val (.long r1), .second, .val (.long ve), .second, .val (.long s1), .second, .val (.long row), .second, .val (.long ve), .second, .val (.long (own_minL s1 ve)), .second, .val (.ref ob20), .val (.long (own_cb ve row)), .second, .val (.int (1 : Int32)), .unset] [(.long ((own_cb ve row) - (1 : Int64))), (.long row), (.long ve)])) rfl (by rw [hml]; rfl) (argsL := [(.long ve), (.long row), (.long ((own_cb ve row) - (1 : Int64)))]) (rest := []) (lenOf own_pd4 rfl) rfl (by show 2 * 0 + _ ≤ _; exact Nat.le_of_eq rfl) (hb hby at_110) (fun _ _ => ⟨rfl, e31, (by decide : 1 + 0 ≤ _), (by decide : 2 + 0 ≤ _)⟩)
        dsimp only [Pt.U, Pt.locs, Pt.cells, Pt.slots] at X34 l34 y34 z34 st34 hQ34
        subst l34 y34 z34
        obtain ⟨rfl, N34q, e34⟩ := hQ34
        have N34 := Fr.app N31 N34q
        refine own_of st34 ?_
        show own_Run p e below s _ _ _ (T34.setTop (mkF m 113 #[.val (.long r1), .second, .val (.long ve), .second, .val (.long s1), .second, .val (.long row), .second, .val (.long ve), .second, .val (.long (own_minL s1 ve)), .second, .val (.ref ob20), .val (.long (own_cb ve row)), .second, .val (.int (1 : Int32)), .unset] [(.int (if ve < ((own_cb ve row) - (1 : Int64)) - row then 1 else 0 : Int32))]))
        have hc113_35 : ¬ (ve < ((own_cb ve row) - (1 : Int64)) - row) := own_t3 ve row rr.1 rr.2 hc99_33
        refine own_of (fun _ hh_ => XS.ifNo X34.here hx rfl (hb hby at_113) rfl ((if0 _ _).trans (teq (show (if ve < ((own_cb ve row) - (1 : Int64)) - row then 1 else 0 : Int32) = 0 from if_neg hc113_35)).2) hh_) ?_
        show own_Run p e below s _ _ _ (T34.setTop (mkF m 116 #[.val (.long r1), .second, .val (.long ve), .second, .val (.long s1), .second, .val (.long row), .second, .val (.long ve), .second, .val (.long (own_minL s1 ve)), .second, .val (.ref ob20), .val (.long (own_cb ve row)), .second, .val (.int (1 : Int32)), .unset] []))
        refine own_of (fun _ hh_ => XS.iconst X34.here hx rfl (hb hby at_116) hh_) ?_
        show own_Run p e below s _ _ _ (T34.setTop (mkF m 117 #[.val (.long r1), .second, .val (.long ve), .second, .val (.long s1), .second, .val (.long row), .second, .val (.long ve), .second, .val (.long (own_minL s1 ve)), .second, .val (.ref ob20), .val (.long (own_cb ve row)), .second, .val (.int (1 : Int32)), .unset] [(.int (1 : Int32))]))
        refine own_of (fun _ hh_ => XS.goto X34.here hx rfl (pc0 := 117) (pc' := 121) rfl (hb hby at_117) (by decide) (by decide) hh_) ?_
        show own_Run p e below s _ _ _ (T34.setTop (mkF m 121 #[.val (.long r1), .second, .val (.long ve), .second, .val (.long s1), .second, .val (.long row), .second, .val (.long ve), .second, .val (.long (own_minL s1 ve)), .second, .val (.ref ob20), .val (.long (own_cb ve row)), .second, .val (.int (1 : Int32)), .unset] [(.int (1 : Int32))]))
        refine own_of (fun _ hh_ => XS.istore X34.here hx rfl (hb hby at_121) rfl (l' := #[.val (.long r1), .second, .val (.long ve), .second, .val (.long s1), .second, .val (.long row), .second, .val (.long ve), .second, .val (.long (own_minL s1 ve)), .second, .val (.ref ob20), .val (.long (own_cb ve row)), .second, .val (.int (1 : Int32)), .val (.int (1 : Int32))]) rfl hh_) ?_
        show own_Run p e below s _ _ _ (T34.setTop (mkF m 123 #[.val (.long r1), .second, .val (.long ve), .second, .val (.long s1), .second, .val (.long row), .second, .val (.long ve), .second, .val (.long (own_minL s1 ve)), .second, .val (.ref ob20), .val (.long (own_cb ve row)), .second, .val (.int (1 : Int32)), .val (.int (1 : Int32))] []))
        refine own_of (fun _ hh_ => XS.iload X34.here hx rfl (hb hby at_123) rfl hh_) ?_
        show own_Run p e below s _ _ _ (T34.setTop (mkF m 125 #[.val (.long r1), .second, .val (.long ve), .second, .val (.long s1), .second, .val (.long row), .second, .val (.long ve), .second, .val (.long (own_minL s1 ve)), .second, .val (.ref ob20), .val (.long (own_cb ve row)), .second, .val (.int (1 : Int32)), .val (.int (1 : Int32))] [(.int (1 : Int32))]))
        refine own_of (fun _ hh_ => XS.ifNo X34.here hx rfl (hb hby at_125) rfl ((if0 _ _).trans (by decide)) hh_) ?_
        show own_Run p e below s _ _ _ (T34.setTop (mkF m 128 #[.val (.long r1), .second, .val (.long ve), .second, .val (.long s1), .second, .val (.long row), .second, .val (.long ve), .second, .val (.long (own_minL s1 ve)), .second, .val (.ref ob20), .val (.long (own_cb ve row)), .second, .val (.int (1 : Int32)), .val (.int (1 : Int32))] []))
        refine own_of (fun _ hh_ => XS.iload X34.here hx rfl (hb hby at_128) rfl hh_) ?_
        show own_Run p e below s _ _ _ (T34.setTop (mkF m 130 #[.val (.long r1), .second, .val (.long ve), .second, .val (.long s1), .second, .val (.long row), .second, .val (.long ve), .second, .val (.long (own_minL s1 ve)), .second, .val (.ref ob20), .val (.long (own_cb ve row)), .second, .val (.int (1 : Int32)), .val (.int (1 : Int32))] [(.int (1 : Int32))]))
        refine own_of (fun _ hh_ => XS.ifNo X34.here hx rfl (hb hby at_130) rfl ((if0 _ _).trans (by decide)) hh_) ?_
        show own_Run p e below s _ _ _ (T34.setTop (mkF m 133 #[.val (.long r1), .second, .val (.long ve), .second, .val (.long s1), .second, .val (.long row), .second, .val (.long ve), .second, .val (.long (own_minL s1 ve)), .second, .val (.ref ob20), .val (.long (own_cb ve row)), .second, .val (.int (1 : Int32)), .val (.int (1 : Int32))] []))
        refine own_of (fun _ hh_ => XS.iconst X34.here hx rfl (hb hby at_133) hh_) ?_
        show own_Run p e below s _ _ _ (T34.setTop (mkF m 134 #[.val (.long r1), .second, .val (.long ve), .second, .val (.long s1), .second, .val (.long row), .second, .val (.long ve), .second, .val (.long (own_minL s1 ve)), .second, .val (.ref ob20), .val (.long (own_cb ve row)), .second, .val (.int (1 : Int32)), .val (.int (1 : Int32))] [(.int (1 : Int32))]))
        refine own_of (fun _ hh_ => XS.goto X34.here hx rfl (pc0 := 134) (pc' := 138) rfl (hb hby at_134) (by decide) (by decide) hh_) ?_
        show own_Run p e below s _ _ _ (T34.setTop (mkF m 138 #[.val (.long r1), .second, .val (.long ve), .second, .val (.long s1), .second, .val (.long row), .second, .val (.long ve), .second, .val (.long (own_minL s1 ve)), .second, .val (.ref ob20), .val (.long (own_cb ve row)), .second, .val (.int (1 : Int32)), .val (.int (1 : Int32))] [(.int (1 : Int32))]))
        exact own_retN X34 hx (t := .boolean) hret hlk (by simp) (hb hby at_138) ⟨rfl, N34⟩ (by decide) (by decide)
set_option maxRecDepth 65536 in
set_option maxHeartbeats 40000000 in
theorem comes_1 {Post : Tables → Env → Array Value → State → Outcome → State → Prop} (hpost : ∀ tb e args s v u, (limb_1_1.after args s (.returned v) u = true ∧ limb_1_2.after args s (.returned v) u = true ∧ True) → FrameEnd s (.returned v) u (Jvm.fieldLocs frame_1_writes args s ++ Jvm.arrayLocs frame_1_arrays args s ++ Jvm.staticLocs frame_1_statics s) 16 128 → Post tb e args s (.returned v) u) :
    ArmFor flags0 classFile x code maxLocals ret World_1 tables_1 room_1 Calls_1 rest_1 Pre_1 Post := by
  intro l hfl _ _ p e ha hc hk s m args below hf hA hF happ hP
  obtain ⟨hcalls, hrest, hpre⟩ := hP
  obtain ⟨-, -, -, hnamed, -, -, -, hat⟩ := (Spec.applies_iff hf).mp happ
  obtain ⟨hg, hn⟩ := and_e (Cond.before_iff.mp (show (Jvm.Cond.and given_1 narrow_1).before args s = true from hpre))
  obtain ⟨gg1, gg2⟩ := and_e hg
  obtain ⟨gg3, gg4⟩ := and_e gg2
  obtain ⟨gg5, gg6⟩ := and_e gg4
  obtain ⟨w0, w1, w2, rfl⟩ : ∃ w0 w1 w2 : Value, args = #[w0, w1, w2] := by
    have hs : args.size = 3 := by simpa [Cond.value, given_1] using gg1
    obtain ⟨L⟩ := args
    match L, hs with
    | [w0, w1, w2], _ => exact ⟨w0, w1, w2, rfl⟩
  have hw := fun d (hd : d ∈ tables_1) => atoms_spec (ws := Jvm.Cond.code x code maxLocals ret :: tables_1) hat d (List.mem_cons_of_mem _ hd)
  obtain ⟨i0, ei0⟩ := isL_v gg3
  obtain rfl : w0 = (.long i0) := Option.some.inj ei0
  obtain ⟨i1, ei1⟩ := isL_v gg5
  obtain rfl : w1 = (.long i1) := Option.some.inj ei1
  obtain ⟨i2, ei2⟩ := isL_v gg6
  obtain rfl : w2 = (.long i2) := Option.some.inj ei2
  obtain ⟨n, o, h1, h2, h3, _, L, rfl, ⟨rfl, N⟩, hq⟩ := rm0 l s _ hw tables_1 i0 i1 i2  s.heap s.heap.size (Nat.le_refl _)  p e ha hc hk s m _ below hf ((Spec.applies_iff_loose hf).mp happ).1 ⟨rfl, State.Warmed39.refl s, rfl⟩ trivial
  refine ⟨n, _, h1, h2, h3, hpost _ _ _ _ _ _ ⟨Cond.after_iff.mpr rfl, Cond.after_iff.mpr (eq_i res_at (Term.int_eval (1)) rfl), trivial⟩ ⟨hq.1, hq.2.1, (hq.2.2.sift fun y hy => Or.inr (N y hy)).mono (by decide) (by decide)⟩⟩
theorem main_1_1 : Claimed_1_1 := comes_1 fun _ _ _ _ _ _ h hF => ⟨h.1, hF⟩
theorem main_1_2 : Claimed_1_2 := comes_1 fun _ _ _ _ _ _ h hF => ⟨h.2.1, hF⟩
end Jvm.Pilot.@@N@@
namespace Jvm.Pilot.@@N@@
open Jvm Jvm.ClassFile Sem Op Lib Jvm.Free Jvm.Stand Jvm.Pilot.@@N@@.Jvm.D
/-! MADE BY PROGRAM (witnessworld.py) out of the Statement's table words and the real class files: 11 classes; the members and pool entries that the words name. The judged class is class 1, her method 2. -/
namespace start1
open Jvm.ClassFile
def u (s : String) : CpInfo := .utf8 (stringToUtf16 s)
/-- a pool by its gaps: so many unusable entries, then the entry; so many at the end -/
def gap : Nat → List CpInfo → List CpInfo
  | 0, r => r
  | n + 1, r => .unusable :: gap n r
def poolList (es : List (Nat × CpInfo)) (last : Nat) : List CpInfo := es.foldr (fun e r => gap e.1 (e.2 :: r)) (gap last [])
def pool (es : List (Nat × CpInfo)) (last : Nat) : Array CpInfo := ⟨poolList es last⟩
def fileOf (pool : Array CpInfo) (this : Nat) (attrs : Array Attribute := #[]) (ms : Array MethodInfo := #[]) (fl : Nat := 33) (sup : Nat := 0) (ifs : Array Nat := #[]) (fds : Array FieldInfo := #[]) : ClassFile where
  minorVersion := 0
  majorVersion := 65
  constantPool := pool
  accessFlags := fl
  thisClass := this
  superClass := sup
  interfaces := ifs
  fields := fds
  methods := ms
  attributes := attrs
def plain (name : String) (sup : Option ClassId) : Class where
  name := name
  kind := .ordinary
  loader := none
  accessFlags := 33
  super := sup
  interfaces := #[]
  cf := none
  fields := #[]
  methods := #[]
  instanceTypes := #[]
  staticTypes := #[]
  resolved := #[]
  callSites := []
  init := .initialized
  statics := none
  mirror := none

def pool0 : Array CpInfo := pool [(5, u "<init>"), (0, u "()V"), (1, .class_ 10), (1, u "java/lang/Object")] 113

def k0c0 : Code := { maxStack := 0, maxLocals := 1, code := object_method_1_code, exceptionTable := #[], attributes := #[] }
def k0m0 : Method := { name := "<init>", desc := "()V", sig := { parameters := [], returnType := none }, accessFlags := 1, code := some k0c0 }
/-- java/lang/Object -/
def k0 : Class := { plain "java/lang/Object" none with
  accessFlags := 33
  interfaces := #[]
  cf := some (fileOf pool0 8 #[] #[{ accessFlags := 1, nameIndex := 5, descriptorIndex := 6, attributes := #[] }] 33 0 #[] #[])
  fields := #[]
  methods := #[k0m0]
  instanceTypes := #[]
  staticTypes := #[]
  resolved := Array.replicate 124 none
  statics := none }

def pool1 : Array CpInfo := pool [(2, .class_ 4), (1, u "java/lang/Object"), (0, u "<init>"), (0, u "()V"), (2, .long 9223372036854775807), (1, .long 9223372036854775806), (1, .methodref 14 15), (0, .class_ 16), (0, .nameAndType 17 18), (0, u "java/lang/Math"), (0, u "min"), (0, u "(JJ)J"), (0, .class_ 20), (0, u "com/example/oriel/oriel/window/Frame"), (0, .methodref 19 22), (0, .nameAndType 5 23), (0, u "(JJ)V"), (0, .methodref 19 25), (0, .nameAndType 26 27), (0, u "completedBy"), (0, u "(J)J"), (0, .methodref 29 30), (0, .class_ 31), (0, .nameAndType 32 33), (0, u "com/example/oriel/oriel/window/FrameCompletedByPinLaw"), (0, u "complete"), (0, u "(JJJ)Z"), (3, u "law")] 2

def k1m0 : Method := { name := "<init>", desc := "()V", sig := { parameters := [], returnType := none }, accessFlags := 1, code := none }
def k1c1 : Code := { maxStack := 6, maxLocals := 6, code := method_2_code, exceptionTable := #[], attributes := #[] }
def k1m1 : Method := { name := "complete", desc := "(JJJ)Z", sig := { parameters := [.long, .long, .long], returnType := some .boolean }, accessFlags := 10, code := some k1c1 }
def k1c2 : Code := { maxStack := 8, maxLocals := 17, code := code, exceptionTable := #[], attributes := #[] }
def k1m2 : Method := { name := "law", desc := "(JJJ)Z", sig := { parameters := [.long, .long, .long], returnType := some .boolean }, accessFlags := 9, code := some k1c2 }
/-- com/example/oriel/oriel/window/FrameCompletedByPinLaw -/
def k1 : Class := { plain "com/example/oriel/oriel/window/FrameCompletedByPinLaw" (some 0) with
  accessFlags := 49
  interfaces := #[]
  cf := some (fileOf pool1 29 #[] #[{ accessFlags := 1, nameIndex := 5, descriptorIndex := 6, attributes := #[] }, { accessFlags := 10, nameIndex := 32, descriptorIndex := 33, attributes := #[] }, { accessFlags := 9, nameIndex := 37, descriptorIndex := 33, attributes := #[] }] 49 2 #[] #[])
  fields := #[]
  methods := #[k1m0, k1m1, k1m2]
  instanceTypes := #[]
  staticTypes := #[]
  resolved := Array.replicate 40 none
  statics := none }

def pool2 : Array CpInfo := pool [(1, .class_ 2), (0, u "java/lang/Math"), (1, .class_ 6), (1, u "java/lang/Object"), (0, u "<init>"), (0, u "()V"), (89, .class_ 100), (1, u "java/lang/Math$RandomNumberGeneratorHolder"), (20, u "(JJ)J"), (50, u "negativeZeroFloatBits"), (0, u "J"), (2, u "negativeZeroDoubleBits"), (24, u "min"), (43, u "$assertionsDisabled"), (0, u "Z"), (91, u "twoToTheDoubleScaleDown"), (0, u "D"), (4, u "twoToTheDoubleScaleUp"), (9, u "E"), (3, u "PI"), (2, u "TAU"), (2, u "DEGREES_TO_RADIANS"), (0, u "RADIANS_TO_DEGREES")] 94

def k2m0 : Method := { name := "<init>", desc := "()V", sig := { parameters := [], returnType := none }, accessFlags := 2, code := none }
def k2c1 : Code := { maxStack := 4, maxLocals := 4, code := jdk_29_method_70_code, exceptionTable := #[], attributes := #[] }
def k2m1 : Method := { name := "min", desc := "(JJ)J", sig := { parameters := [.long, .long], returnType := some .long }, accessFlags := 9, code := some k2c1 }
/-- java/lang/Math -/
def k2 : Class := { plain "java/lang/Math" (some 0) with
  accessFlags := 49
  interfaces := #[]
  cf := some (fileOf pool2 1 #[.nestMembers #[98]] #[{ accessFlags := 2, nameIndex := 7, descriptorIndex := 8, attributes := #[] }, { accessFlags := 9, nameIndex := 201, descriptorIndex := 121, attributes := #[] }] 49 4 #[] #[{ accessFlags := 25, nameIndex := 354, descriptorIndex := 339, attributes := #[] }, { accessFlags := 25, nameIndex := 358, descriptorIndex := 339, attributes := #[] }, { accessFlags := 25, nameIndex := 361, descriptorIndex := 339, attributes := #[] }, { accessFlags := 26, nameIndex := 364, descriptorIndex := 339, attributes := #[] }, { accessFlags := 26, nameIndex := 365, descriptorIndex := 339, attributes := #[] }, { accessFlags := 26, nameIndex := 172, descriptorIndex := 173, attributes := #[] }, { accessFlags := 26, nameIndex := 176, descriptorIndex := 173, attributes := #[] }, { accessFlags := 8, nameIndex := 344, descriptorIndex := 339, attributes := #[] }, { accessFlags := 8, nameIndex := 338, descriptorIndex := 339, attributes := #[] }, { accessFlags := 4120, nameIndex := 245, descriptorIndex := 246, attributes := #[] }])
  fields := #[{ name := "E", type := .double, accessFlags := 25, slot := 0, constantValue := 0 }, { name := "PI", type := .double, accessFlags := 25, slot := 1, constantValue := 0 }, { name := "TAU", type := .double, accessFlags := 25, slot := 2, constantValue := 0 }, { name := "DEGREES_TO_RADIANS", type := .double, accessFlags := 26, slot := 3, constantValue := 0 }, { name := "RADIANS_TO_DEGREES", type := .double, accessFlags := 26, slot := 4, constantValue := 0 }, { name := "negativeZeroFloatBits", type := .long, accessFlags := 26, slot := 5, constantValue := 0 }, { name := "negativeZeroDoubleBits", type := .long, accessFlags := 26, slot := 6, constantValue := 0 }, { name := "twoToTheDoubleScaleUp", type := .double, accessFlags := 8, slot := 7, constantValue := 0 }, { name := "twoToTheDoubleScaleDown", type := .double, accessFlags := 8, slot := 8, constantValue := 0 }, { name := "$assertionsDisabled", type := .boolean, accessFlags := 4120, slot := 9, constantValue := 0 }]
  methods := #[k2m0, k2m1]
  instanceTypes := #[]
  staticTypes := #[.double, .double, .double, .double, .double, .long, .long, .double, .double, .boolean]
  resolved := Array.replicate 460 none
  statics := none }

def pool3 : Array CpInfo := pool [(1, .methodref 2 3), (0, .class_ 4), (0, .nameAndType 5 6), (0, u "java/lang/Object"), (0, u "<init>"), (0, u "()V"), (0, .class_ 8), (0, u "java/lang/Record")] 13

def k3c0 : Code := { maxStack := 1, maxLocals := 1, code := jdk_30_method_1_code, exceptionTable := #[], attributes := #[] }
def k3m0 : Method := { name := "<init>", desc := "()V", sig := { parameters := [], returnType := none }, accessFlags := 4, code := some k3c0 }
/-- java/lang/Record -/
def k3 : Class := { plain "java/lang/Record" (some 0) with
  accessFlags := 1057
  interfaces := #[]
  cf := some (fileOf pool3 7 #[] #[{ accessFlags := 4, nameIndex := 5, descriptorIndex := 6, attributes := #[] }] 1057 2 #[] #[])
  fields := #[]
  methods := #[k3m0]
  instanceTypes := #[]
  staticTypes := #[]
  resolved := Array.replicate 22 none
  statics := none }

def pool4 : Array CpInfo := pool [(3, .methodref 4 5), (0, .class_ 6), (0, .nameAndType 7 8), (0, u "java/lang/Record"), (0, u "<init>"), (0, u "()V"), (3, .class_ 14), (1, u "com/example/oriel/oriel/window/Frame"), (9, .fieldref 12 25), (0, .nameAndType 26 27), (0, u "start"), (0, u "J"), (0, .fieldref 12 29), (0, .nameAndType 30 27), (0, u "end"), (4, .long 9223372036854775807), (20, u "UNBOUNDED_PRECEDING"), (1, u "UNBOUNDED_FOLLOWING"), (0, u "(JJ)V"), (8, u "completedBy"), (0, u "(J)J")] 41

def k4c0 : Code := { maxStack := 5, maxLocals := 5, code := prog_105_method_1_code, exceptionTable := #[], attributes := #[] }
def k4m0 : Method := { name := "<init>", desc := "(JJ)V", sig := { parameters := [.long, .long], returnType := none }, accessFlags := 1, code := some k4c0 }
def k4c1 : Code := { maxStack := 6, maxLocals := 5, code := prog_105_method_4_code, exceptionTable := #[], attributes := #[] }
def k4m1 : Method := { name := "completedBy", desc := "(J)J", sig := { parameters := [.long], returnType := some .long }, accessFlags := 1, code := some k4c1 }
/-- com/example/oriel/oriel/window/Frame -/
def k4 : Class := { plain "com/example/oriel/oriel/window/Frame" (some 3) with
  accessFlags := 49
  interfaces := #[]
  cf := some (fileOf pool4 12 #[] #[{ accessFlags := 1, nameIndex := 7, descriptorIndex := 59, attributes := #[] }, { accessFlags := 1, nameIndex := 68, descriptorIndex := 69, attributes := #[] }] 49 4 #[] #[{ accessFlags := 18, nameIndex := 26, descriptorIndex := 27, attributes := #[] }, { accessFlags := 18, nameIndex := 30, descriptorIndex := 27, attributes := #[] }, { accessFlags := 25, nameIndex := 56, descriptorIndex := 27, attributes := #[] }, { accessFlags := 25, nameIndex := 58, descriptorIndex := 27, attributes := #[] }])
  fields := #[{ name := "start", type := .long, accessFlags := 18, slot := 0, constantValue := 0 }, { name := "end", type := .long, accessFlags := 18, slot := 1, constantValue := 0 }, { name := "UNBOUNDED_PRECEDING", type := .long, accessFlags := 25, slot := 0, constantValue := 0 }, { name := "UNBOUNDED_FOLLOWING", type := .long, accessFlags := 25, slot := 1, constantValue := 0 }]
  methods := #[k4m0, k4m1]
  instanceTypes := #[.long, .long]
  staticTypes := #[.long, .long]
  resolved := Array.replicate 111 none
  statics := none }

def pool5 : Array CpInfo := pool [(1, u "java/lang/Cloneable"), (0, .class_ 1), (0, u "java/lang/Object"), (0, .class_ 3)] 3

/-- java/lang/Cloneable -/
def k5 : Class := { plain "java/lang/Cloneable" (some 0) with
  accessFlags := 1537
  interfaces := #[]
  cf := some (fileOf pool5 2 #[] #[] 1537 4 #[] #[])
  fields := #[]
  methods := #[]
  instanceTypes := #[]
  staticTypes := #[]
  resolved := Array.replicate 8 none
  statics := none }

def pool6 : Array CpInfo := pool [(1, u "java/io/Serializable"), (0, .class_ 1), (0, u "java/lang/Object"), (0, .class_ 3)] 3

/-- java/io/Serializable -/
def k6 : Class := { plain "java/io/Serializable" (some 0) with
  accessFlags := 1537
  interfaces := #[]
  cf := some (fileOf pool6 2 #[] #[] 1537 4 #[] #[])
  fields := #[]
  methods := #[]
  instanceTypes := #[]
  staticTypes := #[]
  resolved := Array.replicate 8 none
  statics := none }

/-- the primitive byte -/
def k7 : Class := { plain "byte" none with kind := .primitive 'B', accessFlags := 0x411 }
/-- [B -/
def k8 : Class := { plain "[B" (some 0) with kind := .array 7 .byte, interfaces := #[5, 6], accessFlags := 1041 }

/-- the primitive int -/
def k9 : Class := { plain "int" none with kind := .primitive 'I', accessFlags := 0x411 }
/-- [I -/
def k10 : Class := { plain "[I" (some 0) with kind := .array 9 .int, interfaces := #[5, 6], accessFlags := 1041 }

def heap : Heap := #[]
def classes : Array Class := #[k0, k1, k2, k3, k4, k5, k6, k7, k8, k9, k10]
def interned : List (Array UInt16 × Addr) := []
def slotsUsed : Nat := 0
def theMethod : MethodId := ⟨1, 2⟩
def args0 : Array Value := #[.long 5, .long 5, .long 5]
def aboutOver (below : List Frame) : State where
  vm := { classes := classes, interned := interned.toArray }
  heap := heap
  slotsUsed := slotsUsed
  threads := #[{ frames := .invoking theMethod args0 :: below }]
def below0 : List Frame := [.native { method := ⟨0, 0⟩, args := #[] }]
def about1 : State := aboutOver below0
def p0 : Program := .bare "" "" ""
def e0 : Env := launch0.env 0 0 0
theorem w_frames : about1.frames = Frame.invoking theMethod args0 :: below0 := rfl
set_option maxRecDepth 65536 in
theorem w_args : argsFit about1.vm theMethod args0 = true := by decide +kernel
set_option maxRecDepth 65536 in
theorem w_heap : heapFits about1 = true := by decide +kernel
set_option maxRecDepth 65536 in
theorem w_runnable : about1.curStatus? = some .runnable := by decide +kernel
set_option maxRecDepth 65536 in
theorem w_alone : about1.alone = true := by decide +kernel
set_option maxRecDepth 65536 in
theorem w_named : about1.methodNamed? x = some theMethod := by decide +kernel
set_option maxRecDepth 65536 in
theorem w_hears : about1.hears theMethod below0 = true := by decide +kernel
set_option maxRecDepth 65536 in
theorem w_ripe : about1.ripe theMethod args0 below0 = true := by decide +kernel
theorem w_running : about1.status = .running := rfl
set_option maxRecDepth 65536 in
theorem w_room : about1.hasRoom e0.platform room_1 = true :=
  launch0.hasRoom_least _ room_1 (by decide +kernel) (by decide +kernel) (by decide +kernel) (by decide +kernel) (by decide +kernel) (by decide +kernel)
theorem allAtoms_all (ts : List Jvm.Cond) (a : Array Jvm.Value) (st : Jvm.State) : (allAtoms ts).before a st = ts.all (fun c => c.before a st) := by
  induction ts with
  | nil => rfl
  | cons c t ih =>
    show (Jvm.Cond.and c (allAtoms t)).before a st = _
    rw [Jvm.Cond.before_and, ih, List.all_cons]
def words1 : List Jvm.Cond := Jvm.Cond.code x code maxLocals ret :: tables_1
/-- a 'code' word, met by the world's own term for the bytes: nothing is compared byte by byte -/
theorem code_word {y : MethodName} {bytes : ByteArray} {mx : Nat} {rt : Option FieldType} {a : Array Value} {s : State} {m : MethodId} {meth : Method} {c : Code} (h1 : s.methodNamed? y = some m) (h2 : s.vm.method? m = some meth) (h3 : meth.code = some c) (h4 : c.code = bytes)
    (h5 : (c.maxLocals == mx && c.exceptionTable.isEmpty && decide (c.maxStack ≤ mostOperands) && decide (meth.sig.returnType = rt) && !meth.locks && decide (parseMethodDescriptor y.desc = some meth.sig)) = true) : (Jvm.Cond.code y bytes mx rt).before a s = true := by
  simp only [Bool.and_eq_true, beq_iff_eq, Bool.not_eq_true', decide_eq_true_eq] at h5
  obtain ⟨⟨⟨⟨⟨g1, g2⟩, g3⟩, g4⟩, g5⟩, g6⟩ := h5
  simp [Cond.before, Cond.holds, Cond.value, h1, h2, h3, h4, g1, g2, g3, g4, g5, g6]
def isCode : Jvm.Cond → Bool
  | .code _ _ _ _ => true
  | _ => false
theorem all_split {L : List Jvm.Cond} {P : Jvm.Cond → Bool} (h1 : L.all (fun c => isCode c || P c) = true) (h2 : ∀ c ∈ L.filter isCode, P c = true) : L.all P = true := by
  refine List.all_eq_true.mpr fun c hc => ?_
  have h := List.all_eq_true.mp h1 c hc
  rcases Bool.eq_false_or_eq_true (isCode c) with hi | hi
  · exact h2 c (List.mem_filter.mpr ⟨hc, hi⟩)
  · simpa [hi] using h
set_option maxRecDepth 65536 in
theorem w_c0 : (Jvm.Cond.code x code maxLocals ret).before args0 about1 = true := code_word (m := ⟨1, 2⟩) (meth := k1m2) (c := k1c2) (by decide +kernel) rfl rfl rfl (by decide +kernel)
set_option maxRecDepth 65536 in
theorem w_c1 : (Jvm.Cond.code ({ cls := "java/lang/Math", name := "min", desc := "(JJ)J" } : Jvm.MethodName) jdk_29_method_70_code (4 : Nat) (Option.some Jvm.ClassFile.FieldType.long)).before args0 about1 = true := code_word (m := ⟨2, 1⟩) (meth := k2m1) (c := k2c1) (by decide +kernel) rfl rfl rfl (by decide +kernel)
set_option maxRecDepth 65536 in
theorem w_c2 : (Jvm.Cond.code ({ cls := "com/example/oriel/oriel/window/Frame", name := "<init>", desc := "(JJ)V" } : Jvm.MethodName) prog_105_method_1_code (5 : Nat) (Option.none : Option Jvm.ClassFile.FieldType)).before args0 about1 = true := code_word (m := ⟨4, 0⟩) (meth := k4m0) (c := k4c0) (by decide +kernel) rfl rfl rfl (by decide +kernel)
set_option maxRecDepth 65536 in
theorem w_c3 : (Jvm.Cond.code ({ cls := "java/lang/Record", name := "<init>", desc := "()V" } : Jvm.MethodName) jdk_30_method_1_code (1 : Nat) (Option.none : Option Jvm.ClassFile.FieldType)).before args0 about1 = true := code_word (m := ⟨3, 0⟩) (meth := k3m0) (c := k3c0) (by decide +kernel) rfl rfl rfl (by decide +kernel)
set_option maxRecDepth 65536 in
theorem w_c4 : (Jvm.Cond.code ({ cls := "java/lang/Object", name := "<init>", desc := "()V" } : Jvm.MethodName) object_method_1_code (1 : Nat) (Option.none : Option Jvm.ClassFile.FieldType)).before args0 about1 = true := code_word (m := ⟨0, 0⟩) (meth := k0m0) (c := k0c0) (by decide +kernel) rfl rfl rfl (by decide +kernel)
set_option maxRecDepth 65536 in
theorem w_c5 : (Jvm.Cond.code ({ cls := "com/example/oriel/oriel/window/Frame", name := "completedBy", desc := "(J)J" } : Jvm.MethodName) prog_105_method_4_code (5 : Nat) (Option.some Jvm.ClassFile.FieldType.long)).before args0 about1 = true := code_word (m := ⟨4, 1⟩) (meth := k4m1) (c := k4c1) (by decide +kernel) rfl rfl rfl (by decide +kernel)
set_option maxRecDepth 65536 in
theorem w_c6 : (Jvm.Cond.code ({ cls := "com/example/oriel/oriel/window/FrameCompletedByPinLaw", name := "complete", desc := "(JJJ)Z" } : Jvm.MethodName) method_2_code (6 : Nat) (Option.some Jvm.ClassFile.FieldType.boolean)).before args0 about1 = true := code_word (m := ⟨1, 1⟩) (meth := k1m1) (c := k1c1) (by decide +kernel) rfl rfl rfl (by decide +kernel)
def codes1 : List Jvm.Cond := [Jvm.Cond.code x code maxLocals ret, Jvm.Cond.code ({ cls := "java/lang/Math", name := "min", desc := "(JJ)J" } : Jvm.MethodName) jdk_29_method_70_code (4 : Nat) (Option.some Jvm.ClassFile.FieldType.long), Jvm.Cond.code ({ cls := "com/example/oriel/oriel/window/Frame", name := "<init>", desc := "(JJ)V" } : Jvm.MethodName) prog_105_method_1_code (5 : Nat) (Option.none : Option Jvm.ClassFile.FieldType), Jvm.Cond.code ({ cls := "java/lang/Record", name := "<init>", desc := "()V" } : Jvm.MethodName) jdk_30_method_1_code (1 : Nat) (Option.none : Option Jvm.ClassFile.FieldType), Jvm.Cond.code ({ cls := "java/lang/Object", name := "<init>", desc := "()V" } : Jvm.MethodName) object_method_1_code (1 : Nat) (Option.none : Option Jvm.ClassFile.FieldType), Jvm.Cond.code ({ cls := "com/example/oriel/oriel/window/Frame", name := "completedBy", desc := "(J)J" } : Jvm.MethodName) prog_105_method_4_code (5 : Nat) (Option.some Jvm.ClassFile.FieldType.long), Jvm.Cond.code ({ cls := "com/example/oriel/oriel/window/FrameCompletedByPinLaw", name := "complete", desc := "(JJJ)Z" } : Jvm.MethodName) method_2_code (6 : Nat) (Option.some Jvm.ClassFile.FieldType.boolean)]
set_option maxRecDepth 65536 in
theorem codes_eq : words1.filter isCode = codes1 := rfl
theorem w_codes : ∀ c ∈ words1.filter isCode, c.before args0 about1 = true := by
  rw [codes_eq]
  intro c hc
  simp only [codes1, List.mem_cons, List.not_mem_nil, or_false] at hc
  rcases hc with rfl | rfl | rfl | rfl | rfl | rfl | rfl
  · exact w_c0
  · exact w_c1
  · exact w_c2
  · exact w_c3
  · exact w_c4
  · exact w_c5
  · exact w_c6
set_option maxRecDepth 65536 in
theorem w_t1 : (words1.take 24).all (fun c => isCode c || c.before args0 about1) = true := by decide +kernel
set_option maxRecDepth 65536 in
theorem w_t2 : (words1.drop 24).all (fun c => isCode c || c.before args0 about1) = true := by decide +kernel
theorem w_tables : (allAtoms (Jvm.Cond.code x code maxLocals ret :: tables_1)).before args0 about1 = true := by
  rw [allAtoms_all]
  show words1.all (fun c => c.before args0 about1) = true
  refine all_split ?_ w_codes
  rw [← List.take_append_drop 24 words1, List.all_append, w_t1, w_t2]
  rfl
set_option maxRecDepth 65536 in
theorem w_case : (Jvm.Cond.and given_1 narrow_1).before args0 about1 = true := by decide +kernel
theorem w_applies : (headSpec (Jvm.Cond.code x code maxLocals ret :: tables_1) room_1).applies x e0.platform about1 = true :=
  (Spec.applies_iff w_frames).mpr ⟨w_running, w_runnable, w_alone, w_named, w_hears, w_ripe, w_room, w_tables⟩
theorem atStart : AtStart classFile x code maxLocals ret World_1 tables_1 room_1 Calls_1 rest_1 Pre_1 launch0 p0 e0 about1 theMethod args0 below0 :=
  ⟨lists_1, trivial, launch0.admits_env _ _ _, launch0.least_env, fairChoices_fair.cas, fairChoices_fair.clock, w_frames, w_args, w_heap, w_applies, trivial, trivial, w_case⟩
end start1
theorem witness_1 : WitnessClaimed_1 := ⟨start1.p0, start1.e0, start1.about1, start1.theMethod, start1.args0, start1.below0, start1.atStart⟩
end Jvm.Pilot.@@N@@
