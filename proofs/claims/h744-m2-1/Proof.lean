import JvmDerived
import JvmDerived.Pilot.@@N@@Statement
import JvmDerived.Pilot.@@N@@Code
set_option linter.unusedVariables false
set_option linter.unusedSimpArgs false
namespace Jvm.Pilot.@@N@@
open Jvm Jvm.ClassFile Sem Op Lib Jvm.Free Jvm.Stand Jvm.LawKit Jvm.RoadKit Bundle Jvm.Pilot.@@N@@.Jvm.D
section Own
variable {p : Program} {l : Launch} {e : Env} {R : Room} {s : State} {m : MethodId} {args : Array Value} {below : List Frame} {meth : Method} {c : Code} {T : State} {locs : List Loc} {cells slots : Nat} {C N : Nat} {Q : Option Value → Heap → List Loc → Prop} {V V' : State}
/-- from the state V the method comes to its return, and leaves what Q says -/
def own_Run (p : Program) (e : Env) (below : List Frame) (s : State) (C N : Nat) (Q : Option Value → Heap → List Loc → Prop) (V : State) : Prop :=
  ∃ s₂ o, Steps p.tables e below V s₂ ∧ s₂.status = .running ∧ Ended s₂ below o ∧ ∃ v L, o = .returned v ∧ Q v s₂.heap L ∧ FrameEnd s o s₂ L C N
theorem own_of (k : ∀ t, Steps p.tables e below V' t → Steps p.tables e below V t) (r : own_Run p e below s C N Q V') : own_Run p e below s C N Q V := by
  obtain ⟨s₂, o, h, q⟩ := r
  exact ⟨s₂, o, k _ h, q⟩
theorem own_tr (k : Steps p.tables e below V V') (r : own_Run p e below s C N Q V') : own_Run p e below s C N Q V := own_of (fun _ h => k.trans h) r
theorem own_cast {g g' : JFrame} (q : g = g') (r : own_Run p e below s C N Q (T.setTop g')) : own_Run p e below s C N Q (T.setTop g) := q ▸ r
theorem own_ret (X : Stand p l e R s m args below meth c T locs cells slots) (hx : p.tables.exec = Jvm.exec) {pc : Nat} {Ls : Array Slot} {w : Value} {t : FieldType} {i : Instr} {rest : List Value} (hret : meth.sig.returnType = some t) (hlk : meth.locks = false) (hn : narrow t w = w)
    (hi : (i = .ireturn ∧ (t = .int ∨ t = .boolean ∨ t = .byte ∨ t = .char ∨ t = .short) ∧ ∃ z, w = .int z) ∨ (i = .lreturn ∧ t = .long ∧ ∃ z, w = .long z) ∨ (i = .dreturn ∧ t = .double ∧ ∃ z, w = .double z) ∨ (i = .freturn ∧ t = .float ∧ ∃ z, w = .float z) ∨ (i = .areturn ∧ t.isReference = true ∧ w.isRef = true))
    (hd : decode c.code pc = .ok (i, 1)) (q : Q (some w) T.heap locs) (hc : cells ≤ C) (hs : slots ≤ N) : own_Run p e below s C N Q (T.setTop (mkF m pc Ls (w :: rest))) := by
  obtain ⟨fs, hr, hrun, hended, hW, hsame⟩ := X.leave (v := some w) (fun h => by rw [hret] at h; cases h) hlk
  exact ⟨_, _, retOut X hx hret hn hi hd hr, hrun, hended, _, _, rfl, q, ⟨_, rfl⟩, hW, hsame.mono hc hs⟩
theorem own_retI (X : Stand p l e R s m args below meth c T locs cells slots) (hx : p.tables.exec = Jvm.exec) {pc : Nat} {Ls : Array Slot} {z : Int32} {rest : List Value} (hret : meth.sig.returnType = some .int) (hlk : meth.locks = false)
    (hd : decode c.code pc = .ok (.ireturn, 1)) (q : Q (some (.int z)) T.heap locs) (hc : cells ≤ C) (hs : slots ≤ N) : own_Run p e below s C N Q (T.setTop (mkF m pc Ls (.int z :: rest))) :=
  own_ret X hx hret hlk rfl (Or.inl ⟨rfl, Or.inl rfl, z, rfl⟩) hd q hc hs
theorem own_retJ (X : Stand p l e R s m args below meth c T locs cells slots) (hx : p.tables.exec = Jvm.exec) {pc : Nat} {Ls : Array Slot} {z : Int64} {rest : List Value} (hret : meth.sig.returnType = some .long) (hlk : meth.locks = false)
    (hd : decode c.code pc = .ok (.lreturn, 1)) (q : Q (some (.long z)) T.heap locs) (hc : cells ≤ C) (hs : slots ≤ N) : own_Run p e below s C N Q (T.setTop (mkF m pc Ls (.long z :: rest))) :=
  own_ret X hx hret hlk rfl (Or.inr (Or.inl ⟨rfl, rfl, z, rfl⟩)) hd q hc hs
theorem own_retN (X : Stand p l e R s m args below meth c T locs cells slots) (hx : p.tables.exec = Jvm.exec) {pc : Nat} {Ls : Array Slot} {z : Int32} {t : FieldType} {rest : List Value} (hret : meth.sig.returnType = some t) (hlk : meth.locks = false) (ht : t = .boolean ∨ t = .byte ∨ t = .char ∨ t = .short)
    (hd : decode c.code pc = .ok (.ireturn, 1)) (q : Q (some (.int (nar t z))) T.heap locs) (hc : cells ≤ C) (hs : slots ≤ N) : own_Run p e below s C N Q (T.setTop (mkF m pc Ls (.int z :: rest))) := by
  obtain ⟨fs, hr, hrun, hended, hW, hsame⟩ := X.leave (v := some (.int (nar t z))) (fun h => by rw [hret] at h; cases h) hlk
  exact ⟨_, _, retN X hx hret ht hd hr, hrun, hended, _, _, rfl, q, ⟨_, rfl⟩, hW, hsame.mono hc hs⟩
theorem own_retV (X : Stand p l e R s m args below meth c T locs cells slots) (hx : p.tables.exec = Jvm.exec) {pc : Nat} {Ls : Array Slot} (hret : meth.sig.returnType = none) (hlk : meth.locks = false)
    (hd : decode c.code pc = .ok (.return_, 1)) (q : Q none T.heap locs) (hc : cells ≤ C) (hs : slots ≤ N) : own_Run p e below s C N Q (T.setTop (mkF m pc Ls [])) := by
  obtain ⟨fs, hr, hrun, hended, hW, hsame⟩ := X.leave (v := none) (fun _ => rfl) hlk
  exact ⟨_, _, X.returnOut hx hret hd hr, hrun, hended, _, _, rfl, q, ⟨_, rfl⟩, hW, hsame.mono hc hs⟩
end Own
section OwnArrays
variable {p : Program} {l : Launch} {e : Env} {R : Room} {s : State} {m : MethodId} {args : Array Value} {below : List Frame} {meth : Method} {c : Code} {T : State} {locs : List Loc} {cells slots : Nat} {C N : Nat} {Q : Option Value → Heap → List Loc → Prop} {Z : State} {h h' : Heap} {a b : Addr} {ty : FieldType} {n : Nat} {f g : Nat → Int32} {v : Value} {sl : Nat} {ws : List Addr}
/-- in the heap h, at a, an array of the kind ty and n places; its place i holds the int f i -/
def own_Ar (Z : State) (h : Heap) (a : Addr) (ty : FieldType) (n : Nat) (f : Nat → Int32) : Prop := ∃ c : Cell, Arr Z h a c ty ∧ c.slots.size = n ∧ ∀ i, i < n → c.slots[i]? = some (.int (f i))
def own_up (f : Nat → Int32) (j : Nat) (v : Int32) : Nat → Int32 := fun i => if i = j then v else f i
theorem own_Ar.lt (F : own_Ar Z h a ty n f) : a < h.size := by obtain ⟨c, A, -⟩ := F; exact A.lt
theorem own_Ar.ext (F : own_Ar Z h a ty n f) (E : Ext h h') : own_Ar Z h' a ty n f := by obtain ⟨c, A, r⟩ := F; exact ⟨c, A.ext E, r⟩
theorem own_Ar.other (F : own_Ar Z h b ty n f) (W : Wr h h' a sl v) (q : b ≠ a) : own_Ar Z h' b ty n f := by obtain ⟨c, A, r⟩ := F; exact ⟨c, A.other W q, r⟩
theorem own_Ar.keep (F : own_Ar Z h a ty n f) (K : Keep h h' ws) (q : a ∉ ws) : own_Ar Z h' a ty n f := by obtain ⟨c, A, r⟩ := F; exact ⟨c, ⟨K.2.1 a c A.1 q, A.2⟩, r⟩
theorem own_Ar.congr (F : own_Ar Z h a ty n f) (q : ∀ i, i < n → f i = g i) : own_Ar Z h a ty n g := by obtain ⟨c, A, r, H⟩ := F; exact ⟨c, A, r, fun i hi => by rw [← q i hi]; exact H i hi⟩
theorem own_Ar.new {k : ClassId} {z : Int32} (A : Arr Z h a (newA k ty z) ty) (hd : defaultValue ty = .int 0) (hn : z.toNatClampNeg = n) : own_Ar Z h a ty n (fun _ => 0) :=
  ⟨_, A, by rw [sz_new, hn], fun i hi => by simp [newA, hd, hn, hi]⟩
theorem own_Ar.set {w : Int32} {j : Nat} (F : own_Ar Z h a ty n f) (W : Wr h h' a j (.int w)) (hj : j < n) : own_Ar Z h' a ty n (own_up f j w) := by
  obtain ⟨c, A, r, H⟩ := F
  refine ⟨_, A.same W, by rw [sz_set]; exact r, fun i hi => ?_⟩
  by_cases q : i = j
  · subst q
    simp [own_up, Cell.setSlot, r, hi]
  · rw [show (c.setSlot j (.int w)).slots[i]? = c.slots[i]? from Array.getElem?_setIfInBounds_ne (Ne.symm q)]
    simp [own_up, q, H i hi]
theorem own_bal (X : Stand p l e R s m args below meth c T locs cells slots) (hx : p.tables.exec = Jvm.exec) (hZ : Z.Warmed39 s.vm) (eT : T.heap = h) (A : own_Ar Z h a .byte n f) {j w : Int32} (h1 : ¬ j < 0) (h2 : j.toNatClampNeg < n) (hv : f j.toNatClampNeg = w)
    {pc : Nat} {Ls : Array Slot} {rest : List Value} (hd : decode c.code pc = .ok (.baload, 1)) (r : own_Run p e below s C N Q (T.setTop (mkF m (pc + 1) Ls (.int w :: rest)))) : own_Run p e below s C N Q (T.setTop (mkF m pc Ls (.int j :: .ref a :: rest))) := by
  obtain ⟨c, A, S, H⟩ := A
  subst hv
  exact own_of (fun t k => X.baloadBytes hx (j := j) (v := .int (f j.toNatClampNeg)) (by rw [eT]; exact A.1) (State.isArrayOf_alike hZ.alike A.2.1) A.2.2 (by rw [S]; exact fun q => q.elim h1 (Nat.not_le.mpr h2)) (H _ h2) (g := mkF m pc Ls (.int j :: .ref a :: rest)) rfl rfl hd t k) r
theorem own_ial (X : Stand p l e R s m args below meth c T locs cells slots) (hx : p.tables.exec = Jvm.exec) (hZ : Z.Warmed39 s.vm) (eT : T.heap = h) (A : own_Ar Z h a .int n f) {j w : Int32} (h1 : ¬ j < 0) (h2 : j.toNatClampNeg < n) (hv : f j.toNatClampNeg = w)
    {pc : Nat} {Ls : Array Slot} {rest : List Value} (hd : decode c.code pc = .ok (.iaload, 1)) (r : own_Run p e below s C N Q (T.setTop (mkF m (pc + 1) Ls (.int w :: rest)))) : own_Run p e below s C N Q (T.setTop (mkF m pc Ls (.int j :: .ref a :: rest))) := by
  obtain ⟨c, A, S, H⟩ := A
  subst hv
  exact own_of (fun t k => X.iaload hx (j := j) (v := .int (f j.toNatClampNeg)) (by rw [eT]; exact A.1) (State.isArrayOf_alike hZ.alike A.2.1) A.2.2 (by rw [S]; exact fun q => q.elim h1 (Nat.not_le.mpr h2)) (H _ h2) (g := mkF m pc Ls (.int j :: .ref a :: rest)) rfl rfl hd t k) r
theorem own_alen (X : Stand p l e R s m args below meth c T locs cells slots) (hx : p.tables.exec = Jvm.exec) (hZ : Z.Warmed39 s.vm) (eT : T.heap = h) (A : own_Ar Z h a ty n f) {w : Int32} (hv : n.toInt32 = w)
    {pc : Nat} {Ls : Array Slot} {rest : List Value} (hd : decode c.code pc = .ok (.arraylength, 1)) (r : own_Run p e below s C N Q (T.setTop (mkF m (pc + 1) Ls (.int w :: rest)))) : own_Run p e below s C N Q (T.setTop (mkF m pc Ls (.ref a :: rest))) := by
  obtain ⟨c, A, S, H⟩ := A
  subst hv S
  exact own_of (fun t k => X.arraylength hx (by rw [eT]; exact A.1) (State.isArrayOf_alike hZ.alike A.2.1) (g := mkF m pc Ls (.ref a :: rest)) rfl rfl hd t k) r
theorem own_bas (X : Stand p l e R s m args below meth c T locs cells slots) (hx : p.tables.exec = Jvm.exec) (hZ : Z.Warmed39 s.vm) (eT : T.heap = h) (A : own_Ar Z h a .byte n f) {j x : Int32} (h1 : ¬ j < 0) (h2 : j.toNatClampNeg < n)
    {pc : Nat} {Ls : Array Slot} {rest : List Value} (hd : decode c.code pc = .ok (.bastore, 1)) :
    ∃ T' h', Stand p l e R s m args below meth c T' (locs ++ [⟨a, j.toNatClampNeg⟩]) cells slots ∧ T'.heap = h' ∧ Wr h h' a j.toNatClampNeg (.int x.toInt8.toInt32) ∧ own_Ar Z h' a .byte n (own_up f j.toNatClampNeg x.toInt8.toInt32) ∧
      ∀ t, Steps p.tables e below (T'.setTop (mkF m (pc + 1) Ls rest)) t → Steps p.tables e below (T.setTop (mkF m pc Ls (.int x :: .int j :: .ref a :: rest))) t := by
  obtain ⟨c, A, S, H⟩ := id A
  obtain ⟨T', h', X', e', W, st⟩ := stB X hx hZ eT A (j := j) (x := x) (by rw [S]; exact fun q => q.elim h1 (Nat.not_le.mpr h2)) (g := mkF m pc Ls (.int x :: .int j :: .ref a :: rest)) rfl rfl hd
  exact ⟨T', h', X', e', W, own_Ar.set ⟨c, A, S, H⟩ W h2, st⟩
theorem own_ias (X : Stand p l e R s m args below meth c T locs cells slots) (hx : p.tables.exec = Jvm.exec) (hZ : Z.Warmed39 s.vm) (eT : T.heap = h) (A : own_Ar Z h a .int n f) {j x : Int32} (h1 : ¬ j < 0) (h2 : j.toNatClampNeg < n)
    {pc : Nat} {Ls : Array Slot} {rest : List Value} (hd : decode c.code pc = .ok (.iastore, 1)) :
    ∃ T' h', Stand p l e R s m args below meth c T' (locs ++ [⟨a, j.toNatClampNeg⟩]) cells slots ∧ T'.heap = h' ∧ Wr h h' a j.toNatClampNeg (.int x) ∧ own_Ar Z h' a .int n (own_up f j.toNatClampNeg x) ∧
      ∀ t, Steps p.tables e below (T'.setTop (mkF m (pc + 1) Ls rest)) t → Steps p.tables e below (T.setTop (mkF m pc Ls (.int x :: .int j :: .ref a :: rest))) t := by
  obtain ⟨c, A, S, H⟩ := id A
  obtain ⟨T', h', X', e', W, st⟩ := stI X hx hZ eT A (j := j) (x := x) (by rw [S]; exact fun q => q.elim h1 (Nat.not_le.mpr h2)) (g := mkF m pc Ls (.int x :: .int j :: .ref a :: rest)) rfl rfl hd
  exact ⟨T', h', X', e', W, own_Ar.set ⟨c, A, S, H⟩ W h2, st⟩
end OwnArrays
theorem own_addL (x y : Int64) (h1 : -9223372036854775808 ≤ x.toInt + y.toInt) (h2 : x.toInt + y.toInt < 9223372036854775808) : (x + y).toInt = x.toInt + y.toInt := by
  have a := c_ladd x y
  have b := rng64 (x + y)
  omega
theorem own_subL (x y : Int64) (h1 : -9223372036854775808 ≤ x.toInt - y.toInt) (h2 : x.toInt - y.toInt < 9223372036854775808) : (x - y).toInt = x.toInt - y.toInt := by
  have a := c_lsub x y
  have b := rng64 (x - y)
  omega
theorem own_negL (x : Int64) (h1 : -9223372036854775808 < x.toInt) : (-x).toInt = -x.toInt := by
  have a := c_lneg x
  have b := rng64 (-x)
  have d := rng64 x
  omega
def own_minL (a b : Int64) : Int64 := if b < a then b else a
def own_maxL (a b : Int64) : Int64 := if a < b then b else a
theorem own_minL_i (a b : Int64) : (own_minL a b).toInt = if b.toInt < a.toInt then b.toInt else a.toInt := by
  unfold own_minL
  by_cases h : b < a
  · rw [if_pos h, if_pos (Int64.lt_iff_toInt_lt.mp h)]
  · rw [if_neg h, if_neg (mt Int64.lt_iff_toInt_lt.mpr h)]
theorem own_maxL_i (a b : Int64) : (own_maxL a b).toInt = if a.toInt < b.toInt then b.toInt else a.toInt := by
  unfold own_maxL
  by_cases h : a < b
  · rw [if_pos h, if_pos (Int64.lt_iff_toInt_lt.mp h)]
  · rw [if_neg h, if_neg (mt Int64.lt_iff_toInt_lt.mpr h)]
theorem own_ltL {a b : Int64} : a < b ↔ a.toInt < b.toInt := Int64.lt_iff_toInt_lt
theorem own_maskL (x : Int64) : 0 ≤ (x &&& (9223372036854775807 : Int64)).toInt := by
  have a := c_maskL x (9223372036854775807 : Int64) 63 (by decide) (by decide)
  have a' : (x &&& (9223372036854775807 : Int64)).toInt = x.toInt % 9223372036854775808 := a
  omega
theorem own_remL (x y : Int64) (hx : 0 ≤ x.toInt) (hy : 0 < y.toInt) : 0 ≤ (x - (x / y) * y).toInt ∧ (x - (x / y) * y).toInt < y.toInt := by
  have a := (c_lrem x y y.toInt rfl).1 hx
  rw [a]
  exact ⟨Int.emod_nonneg _ (by omega), Int.emod_lt_of_pos _ hy⟩
theorem own_lM : (9223372036854775807 : Int64).toInt = 9223372036854775807 := rfl
theorem own_lM1 : (9223372036854775806 : Int64).toInt = 9223372036854775806 := rfl
theorem own_l0 : (0 : Int64).toInt = 0 := rfl
theorem own_l1 : (1 : Int64).toInt = 1 := rfl
theorem dmin_0 : decode jdk_29_method_70_code 0 = .ok (.lload_n 0, 1) := by decide +kernel
theorem dmin_1 : decode jdk_29_method_70_code 1 = .ok (.lload_n 2, 1) := by decide +kernel
theorem dmin_2 : decode jdk_29_method_70_code 2 = .ok (.lcmp, 1) := by decide +kernel
theorem dmin_3 : decode jdk_29_method_70_code 3 = .ok (.ifCond .gt 7, 3) := by decide +kernel
theorem dmin_6 : decode jdk_29_method_70_code 6 = .ok (.lload_n 0, 1) := by decide +kernel
theorem dmin_7 : decode jdk_29_method_70_code 7 = .ok (.goto 4, 3) := by decide +kernel
theorem dmin_10 : decode jdk_29_method_70_code 10 = .ok (.lload_n 2, 1) := by decide +kernel
theorem dmin_11 : decode jdk_29_method_70_code 11 = .ok (.lreturn, 1) := by decide +kernel
theorem efmin (m : MethodId) (u1 : Int64) (u2 : Int64) : entryFrame m #[(.long u1), (.long u2)] 4 = mkF m 0 #[.val (.long u1), .second, .val (.long u2), .second] [] := by first | (simp [entryFrame, mkF, argsToLocals, Value.category]; done) | rfl
def Qmin (Z : State) (u1 : Int64) (u2 : Int64) (h0 : Heap) (n0 : Nat) (v : Option Value) (h : Heap) (L : List Loc) : Prop := v = some (.long (own_minL u1 u2)) ∧ Fr n0 L ∧ h = h0
set_option maxRecDepth 65536 in
set_option maxHeartbeats 40000000 in
theorem rmmin (l : Launch) (Z : State) (a0 : Array Value) (hw : ∀ d ∈ tables_1, d.before a0 Z = true) (ws : List Jvm.Cond) (u1 : Int64) (u2 : Int64) (h0 : Heap) (n0 : Nat) (Z0 : n0 ≤ h0.size)  :
    MetFree l (⟨"java/lang/Math", "min", "(JJ)J"⟩ : MethodName) (head1 (Jvm.Cond.code (⟨"java/lang/Math", "min", "(JJ)J"⟩ : MethodName) jdk_29_method_70_code 4 (some .long) :: ws) ({ frames := 0, cells := 0, slots := 0, locals := 0 } : Room)) (fun a U => a = #[(.long u1), (.long u2)] ∧ Z.Warmed39 U.vm ∧ U.heap = h0) (fun _ _ _ _ _ => True) (fun _ U o U' => ∃ v L, o = .returned v ∧ Qmin Z u1 u2 h0 n0 v U'.heap L ∧ FrameEnd U o U' L ({ frames := 0, cells := 0, slots := 0, locals := 0 } : Room).cells ({ frames := 0, cells := 0, slots := 0, locals := 0 } : Room).slots) := by
  refine MetFree.of_bodySF (Jvm.Free.JP.mathPlain rfl (by decide +kernel)) hisR ?_
  intro p e s m args below meth c s₁ Bd hml0 hP hK
  obtain ⟨rfl, hZ, hh⟩ := hP
  have hx := Bd.exec
  have hby := Bd.bytes
  have hml : c.maxLocals = 4 := hml0
  have hown : s.vm.findClass "java/lang/Math" = some m.cls := findClass_of_methodNamed Bd.named
  have hnm := (name_of_methodNamed Bd.named Bd.method).1
  have hlk := Bd.notSynchronized
  have hret := Bd.returns
  have X0 : Stand p l e ({ frames := 0, cells := 0, slots := 0, locals := 0 } : Room) s m #[(.long u1), (.long u2)] below meth c s₁ [] 0 0 := Stand.of_body Bd
  have e0 : s₁.heap = h0 := by rw [← hh, Bd.state]; rfl
  have N0 := Fr.nil n0
  show own_Run p e below s 0 0 (Qmin Z u1 u2 h0 n0) (s₁.setTop (entryFrame m #[(.long u1), (.long u2)] 4))
  refine own_cast (efmin m u1 u2) ?_
  show own_Run p e below s _ _ _ (s₁.setTop (mkF m 0 #[.val (.long u1), .second, .val (.long u2), .second] []))
  refine own_of (fun _ hh_ => XS.lloadN X0.here hx rfl (hb hby dmin_0) rfl hh_) ?_
  show own_Run p e below s _ _ _ (s₁.setTop (mkF m 1 #[.val (.long u1), .second, .val (.long u2), .second] [(.long u1)]))
  refine own_of (fun _ hh_ => XS.lloadN X0.here hx rfl (hb hby dmin_1) rfl hh_) ?_
  show own_Run p e below s _ _ _ (s₁.setTop (mkF m 2 #[.val (.long u1), .second, .val (.long u2), .second] [(.long u2), (.long u1)]))
  refine own_of (fun _ hh_ => XS.lcmp X0.here hx rfl (hb hby dmin_2) rfl hh_) ?_
  show own_Run p e below s _ _ _ (s₁.setTop (mkF m 3 #[.val (.long u1), .second, .val (.long u2), .second] [(.int (lcmpW u1 u2))]))
  by_cases hc3_1 : u2 < u1
  · refine own_of (fun _ hh_ => XS.ifYes X0.here hx rfl (pc0 := 3) (pc' := 10) rfl (hb hby dmin_3) rfl ((if0 _ _).trans (tlt ((lw_gt _ _).mpr hc3_1)).2.2.1) (by decide) (by decide) hh_) ?_
    show own_Run p e below s _ _ _ (s₁.setTop (mkF m 10 #[.val (.long u1), .second, .val (.long u2), .second] []))
    refine own_of (fun _ hh_ => XS.lloadN X0.here hx rfl (hb hby dmin_10) rfl hh_) ?_
    show own_Run p e below s _ _ _ (s₁.setTop (mkF m 11 #[.val (.long u1), .second, .val (.long u2), .second] [(.long u2)]))
    exact own_retJ X0 hx hret hlk (hb hby dmin_11) ⟨by unfold own_minL; rw [if_pos hc3_1], N0, e0⟩ (by decide) (by decide)
  · refine own_of (fun _ hh_ => XS.ifNo X0.here hx rfl (hb hby dmin_3) rfl ((if0 _ _).trans (flt (fun q_ => hc3_1 ((lw_gt _ _).mp q_))).2.2.1) hh_) ?_
    show own_Run p e below s _ _ _ (s₁.setTop (mkF m 6 #[.val (.long u1), .second, .val (.long u2), .second] []))
    refine own_of (fun _ hh_ => XS.lloadN X0.here hx rfl (hb hby dmin_6) rfl hh_) ?_
    show own_Run p e below s _ _ _ (s₁.setTop (mkF m 7 #[.val (.long u1), .second, .val (.long u2), .second] [(.long u1)]))
    refine own_of (fun _ hh_ => XS.goto X0.here hx rfl (pc0 := 7) (pc' := 11) rfl (hb hby dmin_7) (by decide) (by decide) hh_) ?_
    show own_Run p e below s _ _ _ (s₁.setTop (mkF m 11 #[.val (.long u1), .second, .val (.long u2), .second] [(.long u1)]))
    exact own_retJ X0 hx hret hlk (hb hby dmin_11) ⟨by unfold own_minL; rw [if_neg hc3_1], N0, e0⟩ (by decide) (by decide)
theorem own_pn0 : plainName "java/lang/Record" = true := by first | (simp [plainName, overriddenIn]; done) | decide +kernel
theorem dR_0 : decode jdk_30_method_1_code 0 = .ok (.aload_n 0, 1) := by decide +kernel
theorem dR_1 : decode jdk_30_method_1_code 1 = .ok (.invokespecial 1, 3) := by decide +kernel
theorem dR_4 : decode jdk_30_method_1_code 4 = .ok (.return_, 1) := by decide +kernel
theorem efR (m : MethodId) (t1 : Addr) : entryFrame m #[(.ref t1)] 1 = mkF m 0 #[.val (.ref t1)] [] := by first | (simp [entryFrame, mkF, argsToLocals, Value.category]; done) | rfl
def QR (Z : State) (t1 : Addr) (h0 : Heap) (n0 : Nat) (v : Option Value) (h : Heap) (L : List Loc) : Prop := v = none ∧ Fr n0 L ∧ h = h0
set_option maxRecDepth 65536 in
set_option maxHeartbeats 40000000 in
theorem rmR (l : Launch) (Z : State) (a0 : Array Value) (hw : ∀ d ∈ tables_1, d.before a0 Z = true) (ws : List Jvm.Cond) (t1 : Addr) (h0 : Heap) (n0 : Nat) (Z0 : n0 ≤ h0.size)  :
    MetFree l (⟨"java/lang/Record", "<init>", "()V"⟩ : MethodName) (head1 (Jvm.Cond.code (⟨"java/lang/Record", "<init>", "()V"⟩ : MethodName) jdk_30_method_1_code 1 none :: ws) ({ frames := 1, cells := 0, slots := 0, locals := 12 } : Room)) (fun a U => a = #[(.ref t1)] ∧ Z.Warmed39 U.vm ∧ U.heap = h0) (fun _ _ _ _ _ => True) (fun _ U o U' => ∃ v L, o = .returned v ∧ QR Z t1 h0 n0 v U'.heap L ∧ FrameEnd U o U' L ({ frames := 1, cells := 0, slots := 0, locals := 12 } : Room).cells ({ frames := 1, cells := 0, slots := 0, locals := 12 } : Room).slots) := by
  refine MetFree.of_bodySF (plainFor_of_name own_pn0) hisR ?_
  intro p e s m args below meth c s₁ Bd hml0 hP hK
  obtain ⟨rfl, hZ, hh⟩ := hP
  have hx := Bd.exec
  have hby := Bd.bytes
  have hml : c.maxLocals = 1 := hml0
  have hown : s.vm.findClass "java/lang/Record" = some m.cls := findClass_of_methodNamed Bd.named
  have hnm := (name_of_methodNamed Bd.named Bd.method).1
  have hlk := Bd.notSynchronized
  have hret := Bd.returns
  have X0 : Stand p l e ({ frames := 1, cells := 0, slots := 0, locals := 12 } : Room) s m #[(.ref t1)] below meth c s₁ [] 0 0 := Stand.of_body Bd
  have e0 : s₁.heap = h0 := by rw [← hh, Bd.state]; rfl
  have N0 := Fr.nil n0
  show own_Run p e below s 0 0 (QR Z t1 h0 n0) (s₁.setTop (entryFrame m #[(.ref t1)] 1))
  refine own_cast (efR m t1) ?_
  show own_Run p e below s _ _ _ (s₁.setTop (mkF m 0 #[.val (.ref t1)] []))
  refine own_of (fun _ hh_ => XS.aloadN X0.here hx rfl (hb hby dR_0) rfl rfl hh_) ?_
  show own_Run p e below s _ _ _ (s₁.setTop (mkF m 1 #[.val (.ref t1)] [(.ref t1)]))
  obtain ⟨T1, X1, e1, st1⟩ := initO X0 hx hZ hown (hw _ (List.mem_of_getElem? (i := 16) rfl)) (hw _ (List.mem_of_getElem? (i := 17) rfl)) (hw _ (List.mem_of_getElem? (i := 18) rfl)) e0 (g := (mkF m 1 #[.val (.ref t1)] [(.ref t1)])) rfl (by rw [hml]; rfl) rfl (hb hby dR_1) (by decide) (W := 0) (by show 2 * 0 + _ ≤ _; exact Nat.le_of_eq rfl) (by decide)
  refine own_of st1 ?_
  show own_Run p e below s _ _ _ (T1.setTop (mkF m 4 #[.val (.ref t1)] []))
  exact own_retV X1 hx hret hlk (hb hby dR_4) ⟨rfl, N0, e1⟩ (by decide) (by decide)
theorem own_pd0 : parseMethodDescriptor "()V" = some ⟨[], none⟩ := by decide +kernel
theorem own_pn1 : plainName "com/example/oriel/oriel/window/Frame" = true := by first | (simp [plainName, overriddenIn]; done) | decide +kernel
theorem dF_0 : decode prog_105_method_1_code 0 = .ok (.aload_n 0, 1) := by decide +kernel
theorem dF_1 : decode prog_105_method_1_code 1 = .ok (.invokespecial 3, 3) := by decide +kernel
theorem dF_4 : decode prog_105_method_1_code 4 = .ok (.lload_n 1, 1) := by decide +kernel
theorem dF_5 : decode prog_105_method_1_code 5 = .ok (.lload_n 3, 1) := by decide +kernel
theorem dF_6 : decode prog_105_method_1_code 6 = .ok (.lcmp, 1) := by decide +kernel
theorem dF_7 : decode prog_105_method_1_code 7 = .ok (.ifCond .le 24, 3) := by decide +kernel
theorem dF_31 : decode prog_105_method_1_code 31 = .ok (.aload_n 0, 1) := by decide +kernel
theorem dF_32 : decode prog_105_method_1_code 32 = .ok (.lload_n 1, 1) := by decide +kernel
theorem dF_33 : decode prog_105_method_1_code 33 = .ok (.putfield 24, 3) := by decide +kernel
theorem dF_36 : decode prog_105_method_1_code 36 = .ok (.aload_n 0, 1) := by decide +kernel
theorem dF_37 : decode prog_105_method_1_code 37 = .ok (.lload_n 3, 1) := by decide +kernel
theorem dF_38 : decode prog_105_method_1_code 38 = .ok (.putfield 28, 3) := by decide +kernel
theorem dF_41 : decode prog_105_method_1_code 41 = .ok (.return_, 1) := by decide +kernel
theorem efF (m : MethodId) (t1 : Addr) (u1 : Int64) (u2 : Int64) : entryFrame m #[(.ref t1), (.long u1), (.long u2)] 5 = mkF m 0 #[.val (.ref t1), .val (.long u1), .second, .val (.long u2), .second] [] := by first | (simp [entryFrame, mkF, argsToLocals, Value.category]; done) | rfl
def QF (Z : State) (t1 : Addr) (u1 : Int64) (u2 : Int64) (h0 : Heap) (n0 : Nat) (v : Option Value) (h : Heap) (L : List Loc) : Prop := v = none ∧ Fr n0 L ∧ Keep h0 h [t1] ∧ Fld Z h t1 "com/example/oriel/oriel/window/Frame" "start" "J" (.long u1) ∧ Fld Z h t1 "com/example/oriel/oriel/window/Frame" "end" "J" (.long u2)
set_option maxRecDepth 65536 in
set_option maxHeartbeats 40000000 in
theorem rmF (l : Launch) (Z : State) (a0 : Array Value) (hw : ∀ d ∈ tables_1, d.before a0 Z = true) (ws : List Jvm.Cond) (t1 : Addr) (u1 : Int64) (u2 : Int64) (h0 : Heap) (n0 : Nat) (Z0 : n0 ≤ h0.size) (Ex : Exa Z h0 t1 "com/example/oriel/oriel/window/Frame") (Fs : Fld Z h0 t1 "com/example/oriel/oriel/window/Frame" "start" "J" (.long (0 : Int64))) (Fe : Fld Z h0 t1 "com/example/oriel/oriel/window/Frame" "end" "J" (.long (0 : Int64))) (g_t1 : n0 ≤ t1) (hle : ¬ u2 < u1) :
    MetFree l (⟨"com/example/oriel/oriel/window/Frame", "<init>", "(JJ)V"⟩ : MethodName) (head1 (Jvm.Cond.code (⟨"com/example/oriel/oriel/window/Frame", "<init>", "(JJ)V"⟩ : MethodName) prog_105_method_1_code 5 none :: ws) ({ frames := 2, cells := 0, slots := 0, locals := 24 } : Room)) (fun a U => a = #[(.ref t1), (.long u1), (.long u2)] ∧ Z.Warmed39 U.vm ∧ U.heap = h0) (fun _ _ _ _ _ => True) (fun _ U o U' => ∃ v L, o = .returned v ∧ QF Z t1 u1 u2 h0 n0 v U'.heap L ∧ FrameEnd U o U' L ({ frames := 2, cells := 0, slots := 0, locals := 24 } : Room).cells ({ frames := 2, cells := 0, slots := 0, locals := 24 } : Room).slots) := by
  refine MetFree.of_bodySF (plainFor_of_name own_pn1) hisR ?_
  intro p e s m args below meth c s₁ Bd hml0 hP hK
  obtain ⟨rfl, hZ, hh⟩ := hP
  have hx := Bd.exec
  have hby := Bd.bytes
  have hml : c.maxLocals = 5 := hml0
  have hown : s.vm.findClass "com/example/oriel/oriel/window/Frame" = some m.cls := findClass_of_methodNamed Bd.named
  have hnm := (name_of_methodNamed Bd.named Bd.method).1
  have hlk := Bd.notSynchronized
  have hret := Bd.returns
  have X0 : Stand p l e ({ frames := 2, cells := 0, slots := 0, locals := 24 } : Room) s m #[(.ref t1), (.long u1), (.long u2)] below meth c s₁ [] 0 0 := Stand.of_body Bd
  have e0 : s₁.heap = h0 := by rw [← hh, Bd.state]; rfl
  have N0 := Fr.nil n0
  have K0 : Keep h0 h0 [t1] := Keep.refl _ _
  show own_Run p e below s 0 0 (QF Z t1 u1 u2 h0 n0) (s₁.setTop (entryFrame m #[(.ref t1), (.long u1), (.long u2)] 5))
  refine own_cast (efF m t1 u1 u2) ?_
  show own_Run p e below s _ _ _ (s₁.setTop (mkF m 0 #[.val (.ref t1), .val (.long u1), .second, .val (.long u2), .second] []))
  refine own_of (fun _ hh_ => XS.aloadN X0.here hx rfl (hb hby dF_0) rfl rfl hh_) ?_
  show own_Run p e below s _ _ _ (s₁.setTop (mkF m 1 #[.val (.ref t1), .val (.long u1), .second, .val (.long u2), .second] [(.ref t1)]))
  obtain ⟨_, _, ⟨T1, L1, k1, n1⟩, -, X1, ⟨Lc1, hQ1, l1, y1, z1⟩, st1⟩ := X0.specialBack hx (y := (⟨"java/lang/Record", "<init>", "()V"⟩ : MethodName)) rfl hown (mvT hZ (hw _ (List.mem_of_getElem? (i := 11) rfl))) (mvT hZ (hw _ (List.mem_of_getElem? (i := 12) rfl))) (mvT hZ (hw _ (List.mem_of_getElem? (i := 15) rfl))) (by decide) (backOf (W := 0) (rmR l Z a0 hw [] t1 h0 n0 Z0) hZ (hw _ (List.mem_of_getElem? (i := 15) rfl)) (hw _ (List.mem_of_getElem? (i := 14) rfl)) (by decide) (by decide)) (g := (mkF m 1 #[.val (.ref t1), .val (.long u1), .second, .val (.long u2), .second] [(.ref t1)])) rfl (by rw [hml]; rfl) (Steps.refl _) (a := t1) (argsL := []) (rest := []) (lenOf own_pd0 rfl) rfl (by show 2 * 0 + _ ≤ _; exact Nat.le_of_eq rfl) (hb hby dF_1) (fun _ _ => ⟨rfl, e0, (by decide : 0 + 0 ≤ _), (by decide : 0 + 0 ≤ _)⟩)
  dsimp only [Pt.U, Pt.locs, Pt.cells, Pt.slots] at X1 l1 y1 z1 st1 hQ1
  subst l1 y1 z1
  obtain ⟨rfl, N1q, e1⟩ := hQ1
  have N1 := Fr.app N0 N1q
  refine own_tr st1 ?_
  show own_Run p e below s _ _ _ (T1.setTop (mkF m 4 #[.val (.ref t1), .val (.long u1), .second, .val (.long u2), .second] []))
  refine own_of (fun _ hh_ => XS.lloadN X1.here hx rfl (hb hby dF_4) rfl hh_) ?_
  show own_Run p e below s _ _ _ (T1.setTop (mkF m 5 #[.val (.ref t1), .val (.long u1), .second, .val (.long u2), .second] [(.long u1)]))
  refine own_of (fun _ hh_ => XS.lloadN X1.here hx rfl (hb hby dF_5) rfl hh_) ?_
  show own_Run p e below s _ _ _ (T1.setTop (mkF m 6 #[.val (.ref t1), .val (.long u1), .second, .val (.long u2), .second] [(.long u2), (.long u1)]))
  refine own_of (fun _ hh_ => XS.lcmp X1.here hx rfl (hb hby dF_6) rfl hh_) ?_
  show own_Run p e below s _ _ _ (T1.setTop (mkF m 7 #[.val (.ref t1), .val (.long u1), .second, .val (.long u2), .second] [(.int (lcmpW u1 u2))]))
  have hc7_2 : ¬ (u2 < u1) := hle
  refine own_of (fun _ hh_ => XS.ifYes X1.here hx rfl (pc0 := 7) (pc' := 31) rfl (hb hby dF_7) rfl ((if0 _ _).trans (flt (fun q_ => hc7_2 ((lw_gt _ _).mp q_))).2.2.2) (by decide) (by decide) hh_) ?_
  show own_Run p e below s _ _ _ (T1.setTop (mkF m 31 #[.val (.ref t1), .val (.long u1), .second, .val (.long u2), .second] []))
  refine own_of (fun _ hh_ => XS.aloadN X1.here hx rfl (hb hby dF_31) rfl rfl hh_) ?_
  show own_Run p e below s _ _ _ (T1.setTop (mkF m 32 #[.val (.ref t1), .val (.long u1), .second, .val (.long u2), .second] [(.ref t1)]))
  refine own_of (fun _ hh_ => XS.lloadN X1.here hx rfl (hb hby dF_32) rfl hh_) ?_
  show own_Run p e below s _ _ _ (T1.setTop (mkF m 33 #[.val (.ref t1), .val (.long u1), .second, .val (.long u2), .second] [(.long u1), (.ref t1)]))
  obtain ⟨T3, h3, X3, e3, W3, st3⟩ := putF X1 hx hZ hown (host := "") (Or.inl (hw _ (List.mem_of_getElem? (i := 19) rfl))) Via.refl e1 Fs Ex (Or.inr ⟨(hw _ (List.mem_of_getElem? (i := 20) rfl)), rfl, hnm⟩) (hw _ (List.mem_of_getElem? (i := 6) rfl)) (ty := .long) (by decide) rfl rfl (g := (mkF m 33 #[.val (.ref t1), .val (.long u1), .second, .val (.long u2), .second] [(.long u1), (.ref t1)])) rfl rfl (hb hby dF_33)
  have f3 := Fs.same W3
  have N3 := Fr.snoc X3 N1 g_t1
  have f4 := Ex.wr W3
  have f5 := Fe.other W3 (Or.inr (slot_ne (Or.inr (hw _ (List.mem_of_getElem? (i := 22) rfl))) (Or.inr (hw _ (List.mem_of_getElem? (i := 20) rfl))) (by decide) (t := .long) (t' := .long) (by decide) (by decide)))
  have K6 := K0.wr W3 (Or.inl (List.mem_of_getElem? (i := 0) rfl))
  refine own_of st3 ?_
  show own_Run p e below s _ _ _ (T3.setTop (mkF m 36 #[.val (.ref t1), .val (.long u1), .second, .val (.long u2), .second] []))
  refine own_of (fun _ hh_ => XS.aloadN X3.here hx rfl (hb hby dF_36) rfl rfl hh_) ?_
  show own_Run p e below s _ _ _ (T3.setTop (mkF m 37 #[.val (.ref t1), .val (.long u1), .second, .val (.long u2), .second] [(.ref t1)]))
  refine own_of (fun _ hh_ => XS.lloadN X3.here hx rfl (hb hby dF_37) rfl hh_) ?_
  show own_Run p e below s _ _ _ (T3.setTop (mkF m 38 #[.val (.ref t1), .val (.long u1), .second, .val (.long u2), .second] [(.long u2), (.ref t1)]))
  obtain ⟨T7, h7, X7, e7, W7, st7⟩ := putF X3 hx hZ hown (host := "") (Or.inl (hw _ (List.mem_of_getElem? (i := 21) rfl))) Via.refl e3 f5 f4 (Or.inr ⟨(hw _ (List.mem_of_getElem? (i := 22) rfl)), rfl, hnm⟩) (hw _ (List.mem_of_getElem? (i := 6) rfl)) (ty := .long) (by decide) rfl rfl (g := (mkF m 38 #[.val (.ref t1), .val (.long u1), .second, .val (.long u2), .second] [(.long u2), (.ref t1)])) rfl rfl (hb hby dF_38)
  have f7 := f5.same W7
  have N7 := Fr.snoc X7 N3 g_t1
  have f8 := f4.wr W7
  have f9 := f3.other W7 (Or.inr (slot_ne (Or.inr (hw _ (List.mem_of_getElem? (i := 20) rfl))) (Or.inr (hw _ (List.mem_of_getElem? (i := 22) rfl))) (by decide) (t := .long) (t' := .long) (by decide) (by decide)))
  have K10 := K6.wr W7 (Or.inl (List.mem_of_getElem? (i := 0) rfl))
  refine own_of st7 ?_
  show own_Run p e below s _ _ _ (T7.setTop (mkF m 41 #[.val (.ref t1), .val (.long u1), .second, .val (.long u2), .second] []))
  exact own_retV X7 hx hret hlk (hb hby dF_41) (by rw [e7]; exact ⟨rfl, N7, K10, f9, f7⟩) (by decide) (by decide)
def own_af (w r k : Int64) : Int64 := if w < k - r then (if w < -r then (0 : Int64) else (r + w) + (1 : Int64)) else k
theorem own_af_i (w r k : Int64) (h1 : 0 ≤ r.toInt) (h2 : r.toInt < k.toInt) : (own_af w r k).toInt = if w.toInt < k.toInt - r.toInt then (if w.toInt < -r.toInt then 0 else r.toInt + w.toInt + 1) else k.toInt := by
  have z1 := rng64 k
  have m := own_subL k r (by omega) (by omega)
  have m2 := own_negL r (by omega)
  unfold own_af
  by_cases a : w < k - r
  · have a' := own_ltL.mp a
    rw [m] at a'
    rw [if_pos a, if_pos a']
    by_cases b : w < -r
    · have b' := own_ltL.mp b
      rw [m2] at b'
      rw [if_pos b, if_pos b', own_l0]
    · have b' := mt own_ltL.mpr b
      rw [m2] at b'
      have q := own_addL r w (by omega) (by omega)
      rw [if_neg b, if_neg b', own_addL _ _ (by rw [q, own_l1]; omega) (by rw [q, own_l1]; omega), own_l1, q]
  · have a' := mt own_ltL.mpr a
    rw [m] at a'
    rw [if_neg a, if_neg a']
theorem own_t1 (w r k : Int64) (h1 : 0 ≤ r.toInt) (h2 : r.toInt < k.toInt) : ¬ own_af w r k < (0 : Int64) := by
  have a := own_af_i w r k h1 h2
  apply mt own_ltL.mp
  rw [own_l0]
  split at a
  · split at a <;> omega
  · omega
theorem own_t2 (w r k : Int64) (h1 : 0 ≤ r.toInt) (h2 : r.toInt < k.toInt) : ¬ k < own_af w r k := by
  have a := own_af_i w r k h1 h2
  apply mt own_ltL.mp
  split at a
  · split at a <;> omega
  · omega
theorem own_t3 (w r k t : Int64) (h1 : 0 ≤ r.toInt) (h2 : r.toInt < k.toInt) (h3 : 0 ≤ t.toInt) (h4 : t.toInt < k.toInt) : t < own_af w r k ↔ ¬ w < t - r := by
  have a := own_af_i w r k h1 h2
  have z1 := rng64 k
  have m := own_subL t r (by omega) (by omega)
  rw [own_ltL, own_ltL, m]
  split at a
  · split at a <;> omega
  · omega
theorem own_le (a b : Int64) : ¬ b < own_minL a b := by
  apply mt own_ltL.mp
  rw [own_minL_i]
  split <;> omega
theorem dC_0 : decode prog_105_method_7_code 0 = .ok (.aload_n 0, 1) := by decide +kernel
theorem dC_1 : decode prog_105_method_7_code 1 = .ok (.getfield 28, 3) := by decide +kernel
theorem dC_4 : decode prog_105_method_7_code 4 = .ok (.lload_n 3, 1) := by decide +kernel
theorem dC_5 : decode prog_105_method_7_code 5 = .ok (.lload_n 1, 1) := by decide +kernel
theorem dC_6 : decode prog_105_method_7_code 6 = .ok (.lsub, 1) := by decide +kernel
theorem dC_7 : decode prog_105_method_7_code 7 = .ok (.lcmp, 1) := by decide +kernel
theorem dC_8 : decode prog_105_method_7_code 8 = .ok (.ifCond .lt 9, 3) := by decide +kernel
theorem dC_11 : decode prog_105_method_7_code 11 = .ok (.lload_n 3, 1) := by decide +kernel
theorem dC_12 : decode prog_105_method_7_code 12 = .ok (.lstore 5, 2) := by decide +kernel
theorem dC_14 : decode prog_105_method_7_code 14 = .ok (.goto 29, 3) := by decide +kernel
theorem dC_17 : decode prog_105_method_7_code 17 = .ok (.aload_n 0, 1) := by decide +kernel
theorem dC_18 : decode prog_105_method_7_code 18 = .ok (.getfield 28, 3) := by decide +kernel
theorem dC_21 : decode prog_105_method_7_code 21 = .ok (.lload_n 1, 1) := by decide +kernel
theorem dC_22 : decode prog_105_method_7_code 22 = .ok (.lneg, 1) := by decide +kernel
theorem dC_23 : decode prog_105_method_7_code 23 = .ok (.lcmp, 1) := by decide +kernel
theorem dC_24 : decode prog_105_method_7_code 24 = .ok (.ifCond .ge 9, 3) := by decide +kernel
theorem dC_27 : decode prog_105_method_7_code 27 = .ok (.lconst 0, 1) := by decide +kernel
theorem dC_28 : decode prog_105_method_7_code 28 = .ok (.lstore 5, 2) := by decide +kernel
theorem dC_30 : decode prog_105_method_7_code 30 = .ok (.goto 13, 3) := by decide +kernel
theorem dC_33 : decode prog_105_method_7_code 33 = .ok (.lload_n 1, 1) := by decide +kernel
theorem dC_34 : decode prog_105_method_7_code 34 = .ok (.aload_n 0, 1) := by decide +kernel
theorem dC_35 : decode prog_105_method_7_code 35 = .ok (.getfield 28, 3) := by decide +kernel
theorem dC_38 : decode prog_105_method_7_code 38 = .ok (.ladd, 1) := by decide +kernel
theorem dC_39 : decode prog_105_method_7_code 39 = .ok (.lconst 1, 1) := by decide +kernel
theorem dC_40 : decode prog_105_method_7_code 40 = .ok (.ladd, 1) := by decide +kernel
theorem dC_41 : decode prog_105_method_7_code 41 = .ok (.lstore 5, 2) := by decide +kernel
theorem dC_43 : decode prog_105_method_7_code 43 = .ok (.lload 5, 2) := by decide +kernel
theorem dC_45 : decode prog_105_method_7_code 45 = .ok (.lreturn, 1) := by decide +kernel
theorem efC (m : MethodId) (t1 : Addr) (u1 : Int64) (u2 : Int64) : entryFrame m #[(.ref t1), (.long u1), (.long u2)] 7 = mkF m 0 #[.val (.ref t1), .val (.long u1), .second, .val (.long u2), .second, .unset, .unset] [] := by first | (simp [entryFrame, mkF, argsToLocals, Value.category]; done) | rfl
def QC (Z : State) (t1 : Addr) (u1 : Int64) (u2 : Int64) (w : Int64) (h0 : Heap) (n0 : Nat) (v : Option Value) (h : Heap) (L : List Loc) : Prop := v = some (.long (own_af w u1 u2)) ∧ Fr n0 L ∧ h = h0
set_option maxRecDepth 65536 in
set_option maxHeartbeats 40000000 in
theorem rmC (l : Launch) (Z : State) (a0 : Array Value) (hw : ∀ d ∈ tables_1, d.before a0 Z = true) (ws : List Jvm.Cond) (t1 : Addr) (u1 : Int64) (u2 : Int64) (w : Int64) (h0 : Heap) (n0 : Nat) (Z0 : n0 ≤ h0.size) (F : Fld Z h0 t1 "com/example/oriel/oriel/window/Frame" "end" "J" (.long w)) :
    MetFree l (⟨"com/example/oriel/oriel/window/Frame", "after", "(JJ)J"⟩ : MethodName) (head1 (Jvm.Cond.code (⟨"com/example/oriel/oriel/window/Frame", "after", "(JJ)J"⟩ : MethodName) prog_105_method_7_code 7 (some .long) :: ws) ({ frames := 0, cells := 0, slots := 0, locals := 0 } : Room)) (fun a U => a = #[(.ref t1), (.long u1), (.long u2)] ∧ Z.Warmed39 U.vm ∧ U.heap = h0) (fun _ _ _ _ _ => True) (fun _ U o U' => ∃ v L, o = .returned v ∧ QC Z t1 u1 u2 w h0 n0 v U'.heap L ∧ FrameEnd U o U' L ({ frames := 0, cells := 0, slots := 0, locals := 0 } : Room).cells ({ frames := 0, cells := 0, slots := 0, locals := 0 } : Room).slots) := by
  refine MetFree.of_bodySF (plainFor_of_name own_pn1) hisR ?_
  intro p e s m args below meth c s₁ Bd hml0 hP hK
  obtain ⟨rfl, hZ, hh⟩ := hP
  have hx := Bd.exec
  have hby := Bd.bytes
  have hml : c.maxLocals = 7 := hml0
  have hown : s.vm.findClass "com/example/oriel/oriel/window/Frame" = some m.cls := findClass_of_methodNamed Bd.named
  have hnm := (name_of_methodNamed Bd.named Bd.method).1
  have hlk := Bd.notSynchronized
  have hret := Bd.returns
  have X0 : Stand p l e ({ frames := 0, cells := 0, slots := 0, locals := 0 } : Room) s m #[(.ref t1), (.long u1), (.long u2)] below meth c s₁ [] 0 0 := Stand.of_body Bd
  have e0 : s₁.heap = h0 := by rw [← hh, Bd.state]; rfl
  have N0 := Fr.nil n0
  show own_Run p e below s 0 0 (QC Z t1 u1 u2 w h0 n0) (s₁.setTop (entryFrame m #[(.ref t1), (.long u1), (.long u2)] 7))
  refine own_cast (efC m t1 u1 u2) ?_
  show own_Run p e below s _ _ _ (s₁.setTop (mkF m 0 #[.val (.ref t1), .val (.long u1), .second, .val (.long u2), .second, .unset, .unset] []))
  refine own_of (fun _ hh_ => XS.aloadN X0.here hx rfl (hb hby dC_0) rfl rfl hh_) ?_
  show own_Run p e below s _ _ _ (s₁.setTop (mkF m 1 #[.val (.ref t1), .val (.long u1), .second, .val (.long u2), .second, .unset, .unset] [(.ref t1)]))
  obtain ⟨T1, X1, e1, st1⟩ := getF X0 hx hZ hown (host := "") (Or.inl (hw _ (List.mem_of_getElem? (i := 21) rfl))) Via.refl e0 F (g := (mkF m 1 #[.val (.ref t1), .val (.long u1), .second, .val (.long u2), .second, .unset, .unset] [(.ref t1)])) rfl rfl (hb hby dC_1)
  refine own_of st1 ?_
  show own_Run p e below s _ _ _ (T1.setTop (mkF m 4 #[.val (.ref t1), .val (.long u1), .second, .val (.long u2), .second, .unset, .unset] [(.long w)]))
  refine own_of (fun _ hh_ => XS.lloadN X1.here hx rfl (hb hby dC_4) rfl hh_) ?_
  show own_Run p e below s _ _ _ (T1.setTop (mkF m 5 #[.val (.ref t1), .val (.long u1), .second, .val (.long u2), .second, .unset, .unset] [(.long u2), (.long w)]))
  refine own_of (fun _ hh_ => XS.lloadN X1.here hx rfl (hb hby dC_5) rfl hh_) ?_
  show own_Run p e below s _ _ _ (T1.setTop (mkF m 6 #[.val (.ref t1), .val (.long u1), .second, .val (.long u2), .second, .unset, .unset] [(.long u1), (.long u2), (.long w)]))
  refine own_of (fun _ hh_ => XS.lsub X1.here hx rfl (hb hby dC_6) rfl hh_) ?_
  show own_Run p e below s _ _ _ (T1.setTop (mkF m 7 #[.val (.ref t1), .val (.long u1), .second, .val (.long u2), .second, .unset, .unset] [(.long (u2 - u1)), (.long w)]))
  refine own_of (fun _ hh_ => XS.lcmp X1.here hx rfl (hb hby dC_7) rfl hh_) ?_
  show own_Run p e below s _ _ _ (T1.setTop (mkF m 8 #[.val (.ref t1), .val (.long u1), .second, .val (.long u2), .second, .unset, .unset] [(.int (lcmpW w (u2 - u1)))]))
  by_cases hc8_2 : w < (u2 - u1)
  · refine own_of (fun _ hh_ => XS.ifYes X1.here hx rfl (pc0 := 8) (pc' := 17) rfl (hb hby dC_8) rfl ((if0 _ _).trans (tlt ((lw_lt _ _).mpr hc8_2)).1) (by decide) (by decide) hh_) ?_
    show own_Run p e below s _ _ _ (T1.setTop (mkF m 17 #[.val (.ref t1), .val (.long u1), .second, .val (.long u2), .second, .unset, .unset] []))
    refine own_of (fun _ hh_ => XS.aloadN X1.here hx rfl (hb hby dC_17) rfl rfl hh_) ?_
    show own_Run p e below s _ _ _ (T1.setTop (mkF m 18 #[.val (.ref t1), .val (.long u1), .second, .val (.long u2), .second, .unset, .unset] [(.ref t1)]))
    obtain ⟨T3, X3, e3, st3⟩ := getF X1 hx hZ hown (host := "") (Or.inl (hw _ (List.mem_of_getElem? (i := 21) rfl))) Via.refl e1 F (g := (mkF m 18 #[.val (.ref t1), .val (.long u1), .second, .val (.long u2), .second, .unset, .unset] [(.ref t1)])) rfl rfl (hb hby dC_18)
    refine own_of st3 ?_
    show own_Run p e below s _ _ _ (T3.setTop (mkF m 21 #[.val (.ref t1), .val (.long u1), .second, .val (.long u2), .second, .unset, .unset] [(.long w)]))
    refine own_of (fun _ hh_ => XS.lloadN X3.here hx rfl (hb hby dC_21) rfl hh_) ?_
    show own_Run p e below s _ _ _ (T3.setTop (mkF m 22 #[.val (.ref t1), .val (.long u1), .second, .val (.long u2), .second, .unset, .unset] [(.long u1), (.long w)]))
    refine own_of (fun _ hh_ => XS.lneg X3.here hx rfl (hb hby dC_22) rfl hh_) ?_
    show own_Run p e below s _ _ _ (T3.setTop (mkF m 23 #[.val (.ref t1), .val (.long u1), .second, .val (.long u2), .second, .unset, .unset] [(.long (-u1)), (.long w)]))
    refine own_of (fun _ hh_ => XS.lcmp X3.here hx rfl (hb hby dC_23) rfl hh_) ?_
    show own_Run p e below s _ _ _ (T3.setTop (mkF m 24 #[.val (.ref t1), .val (.long u1), .second, .val (.long u2), .second, .unset, .unset] [(.int (lcmpW w (-u1)))]))
    by_cases hc24_4 : w < (-u1)
    · refine own_of (fun _ hh_ => XS.ifNo X3.here hx rfl (hb hby dC_24) rfl ((if0 _ _).trans (tlt ((lw_lt _ _).mpr hc24_4)).2.1) hh_) ?_
      show own_Run p e below s _ _ _ (T3.setTop (mkF m 27 #[.val (.ref t1), .val (.long u1), .second, .val (.long u2), .second, .unset, .unset] []))
      refine own_of (fun _ hh_ => XS.lconst X3.here hx rfl (hb hby dC_27) hh_) ?_
      show own_Run p e below s _ _ _ (T3.setTop (mkF m 28 #[.val (.ref t1), .val (.long u1), .second, .val (.long u2), .second, .unset, .unset] [(.long (0 : Int64))]))
      refine own_of (fun _ hh_ => XS.lstore X3.here hx rfl (hb hby dC_28) rfl (l' := #[.val (.ref t1), .val (.long u1), .second, .val (.long u2), .second, .val (.long (0 : Int64)), .second]) rfl hh_) ?_
      show own_Run p e below s _ _ _ (T3.setTop (mkF m 30 #[.val (.ref t1), .val (.long u1), .second, .val (.long u2), .second, .val (.long (0 : Int64)), .second] []))
      refine own_of (fun _ hh_ => XS.goto X3.here hx rfl (pc0 := 30) (pc' := 43) rfl (hb hby dC_30) (by decide) (by decide) hh_) ?_
      show own_Run p e below s _ _ _ (T3.setTop (mkF m 43 #[.val (.ref t1), .val (.long u1), .second, .val (.long u2), .second, .val (.long (0 : Int64)), .second] []))
      refine own_of (fun _ hh_ => XS.lload X3.here hx rfl (hb hby dC_43) rfl hh_) ?_
      show own_Run p e below s _ _ _ (T3.setTop (mkF m 45 #[.val (.ref t1), .val (.long u1), .second, .val (.long u2), .second, .val (.long (0 : Int64)), .second] [(.long (0 : Int64))]))
      exact own_retJ X3 hx hret hlk (hb hby dC_45) ⟨by unfold own_af; rw [if_pos hc8_2, if_pos hc24_4], N0, e3⟩ (by decide) (by decide)
    · refine own_of (fun _ hh_ => XS.ifYes X3.here hx rfl (pc0 := 24) (pc' := 33) rfl (hb hby dC_24) rfl ((if0 _ _).trans (flt (fun q_ => hc24_4 ((lw_lt _ _).mp q_))).2.1) (by decide) (by decide) hh_) ?_
      show own_Run p e below s _ _ _ (T3.setTop (mkF m 33 #[.val (.ref t1), .val (.long u1), .second, .val (.long u2), .second, .unset, .unset] []))
      refine own_of (fun _ hh_ => XS.lloadN X3.here hx rfl (hb hby dC_33) rfl hh_) ?_
      show own_Run p e below s _ _ _ (T3.setTop (mkF m 34 #[.val (.ref t1), .val (.long u1), .second, .val (.long u2), .second, .unset, .unset] [(.long u1)]))
      refine own_of (fun _ hh_ => XS.aloadN X3.here hx rfl (hb hby dC_34) rfl rfl hh_) ?_
      show own_Run p e below s _ _ _ (T3.setTop (mkF m 35 #[.val (.ref t1), .val (.long u1), .second, .val (.long u2), .second, .unset, .unset] [(.ref t1), (.long u1)]))
      obtain ⟨T5, X5, e5, st5⟩ := getF X3 hx hZ hown (host := "") (Or.inl (hw _ (List.mem_of_getElem? (i := 21) rfl))) Via.refl e3 F (g := (mkF m 35 #[.val (.ref t1), .val (.long u1), .second, .val (.long u2), .second, .unset, .unset] [(.ref t1), (.long u1)])) rfl rfl (hb hby dC_35)
      refine own_of st5 ?_
      show own_Run p e below s _ _ _ (T5.setTop (mkF m 38 #[.val (.ref t1), .val (.long u1), .second, .val (.long u2), .second, .unset, .unset] [(.long w), (.long u1)]))
      refine own_of (fun _ hh_ => XS.ladd X5.here hx rfl (hb hby dC_38) rfl hh_) ?_
      show own_Run p e below s _ _ _ (T5.setTop (mkF m 39 #[.val (.ref t1), .val (.long u1), .second, .val (.long u2), .second, .unset, .unset] [(.long (u1 + w))]))
      refine own_of (fun _ hh_ => XS.lconst X5.here hx rfl (hb hby dC_39) hh_) ?_
      show own_Run p e below s _ _ _ (T5.setTop (mkF m 40 #[.val (.ref t1), .val (.long u1), .second, .val (.long u2), .second, .unset, .unset] [(.long (1 : Int64)), (.long (u1 + w))]))
      refine own_of (fun _ hh_ => XS.ladd X5.here hx rfl (hb hby dC_40) rfl hh_) ?_
      show own_Run p e below s _ _ _ (T5.setTop (mkF m 41 #[.val (.ref t1), .val (.long u1), .second, .val (.long u2), .second, .unset, .unset] [(.long ((u1 + w) + (1 : Int64)))]))
      refine own_of (fun _ hh_ => XS.lstore X5.here hx rfl (hb hby dC_41) rfl (l' := #[.val (.ref t1), .val (.long u1), .second, .val (.long u2), .second, .val (.long ((u1 + w) + (1 : Int64))), .second]) rfl hh_) ?_
      show own_Run p e below s _ _ _ (T5.setTop (mkF m 43 #[.val (.ref t1), .val (.long u1), .second, .val (.long u2), .second, .val (.long ((u1 + w) + (1 : Int64))), .second] []))
      refine own_of (fun _ hh_ => XS.lload X5.here hx rfl (hb hby dC_43) rfl hh_) ?_
      show own_Run p e below s _ _ _ (T5.setTop (mkF m 45 #[.val (.ref t1), .val (.long u1), .second, .val (.long u2), .second, .val (.long ((u1 + w) + (1 : Int64))), .second] [(.long ((u1 + w) + (1 : Int64)))]))
      exact own_retJ X5 hx hret hlk (hb hby dC_45) ⟨by unfold own_af; rw [if_pos hc8_2, if_neg hc24_4], N0, e5⟩ (by decide) (by decide)
  · refine own_of (fun _ hh_ => XS.ifNo X1.here hx rfl (hb hby dC_8) rfl ((if0 _ _).trans (flt (fun q_ => hc8_2 ((lw_lt _ _).mp q_))).1) hh_) ?_
    show own_Run p e below s _ _ _ (T1.setTop (mkF m 11 #[.val (.ref t1), .val (.long u1), .second, .val (.long u2), .second, .unset, .unset] []))
    refine own_of (fun _ hh_ => XS.lloadN X1.here hx rfl (hb hby dC_11) rfl hh_) ?_
    show own_Run p e below s _ _ _ (T1.setTop (mkF m 12 #[.val (.ref t1), .val (.long u1), .second, .val (.long u2), .second, .unset, .unset] [(.long u2)]))
    refine own_of (fun _ hh_ => XS.lstore X1.here hx rfl (hb hby dC_12) rfl (l' := #[.val (.ref t1), .val (.long u1), .second, .val (.long u2), .second, .val (.long u2), .second]) rfl hh_) ?_
    show own_Run p e below s _ _ _ (T1.setTop (mkF m 14 #[.val (.ref t1), .val (.long u1), .second, .val (.long u2), .second, .val (.long u2), .second] []))
    refine own_of (fun _ hh_ => XS.goto X1.here hx rfl (pc0 := 14) (pc' := 43) rfl (hb hby dC_14) (by decide) (by decide) hh_) ?_
    show own_Run p e below s _ _ _ (T1.setTop (mkF m 43 #[.val (.ref t1), .val (.long u1), .second, .val (.long u2), .second, .val (.long u2), .second] []))
    refine own_of (fun _ hh_ => XS.lload X1.here hx rfl (hb hby dC_43) rfl hh_) ?_
    show own_Run p e below s _ _ _ (T1.setTop (mkF m 45 #[.val (.ref t1), .val (.long u1), .second, .val (.long u2), .second, .val (.long u2), .second] [(.long u2)]))
    exact own_retJ X1 hx hret hlk (hb hby dC_45) ⟨by unfold own_af; rw [if_neg hc8_2], N0, e1⟩ (by decide) (by decide)
theorem own_pd1 : parseMethodDescriptor "(JJ)J" = some ⟨[.long, .long], some .long⟩ := by decide +kernel
theorem own_pd2 : parseMethodDescriptor "(JJ)V" = some ⟨[.long, .long], none⟩ := by decide +kernel
theorem own_pn2 : plainName "com/example/oriel/oriel/window/FrameAfterPinLaw" = true := by first | (simp [plainName, overriddenIn]; done) | decide +kernel
theorem ef0 (m : MethodId) (c1 : Int64) (r1 : Int64) (vq : Int64) (ve : Int64) (s1 : Int64) : entryFrame m #[(.long c1), (.long r1), (.long vq), (.long ve), (.long s1)] maxLocals = mkF m 0 #[.val (.long c1), .second, .val (.long r1), .second, .val (.long vq), .second, .val (.long ve), .second, .val (.long s1), .second, .unset, .unset, .unset, .unset, .unset, .unset, .unset, .unset, .unset, .unset, .unset, .unset, .unset, .unset] [] := by first | (simp [entryFrame, mkF, argsToLocals, Value.category, maxLocals]; done) | rfl
def Q0 (Z : State) (c1 : Int64) (r1 : Int64) (vq : Int64) (ve : Int64) (s1 : Int64) (h0 : Heap) (n0 : Nat) (v : Option Value) (h : Heap) (L : List Loc) : Prop := v = some (.int 1) ∧ Fr n0 L
set_option maxRecDepth 65536 in
set_option maxHeartbeats 40000000 in
theorem rm0 (l : Launch) (Z : State) (a0 : Array Value) (hw : ∀ d ∈ tables_1, d.before a0 Z = true) (ws : List Jvm.Cond) (c1 : Int64) (r1 : Int64) (vq : Int64) (ve : Int64) (s1 : Int64) (h0 : Heap) (n0 : Nat) (Z0 : n0 ≤ h0.size)  :
    MetFree l x (head1 (Jvm.Cond.code x code maxLocals ret :: ws) room_1) (fun a U => a = #[(.long c1), (.long r1), (.long vq), (.long ve), (.long s1)] ∧ Z.Warmed39 U.vm ∧ U.heap = h0) (fun _ _ _ _ _ => True) (fun _ U o U' => ∃ v L, o = .returned v ∧ Q0 Z c1 r1 vq ve s1 h0 n0 v U'.heap L ∧ FrameEnd U o U' L 16 128) := by
  refine MetFree.of_bodySF (plainFor_of_name own_pn2) hisR ?_
  intro p e s m args below meth c s₁ Bd hml0 hP hK
  obtain ⟨rfl, hZ, hh⟩ := hP
  have hx := Bd.exec
  have hby := Bd.bytes
  have hml : c.maxLocals = 24 := hml0
  have hown : s.vm.findClass "com/example/oriel/oriel/window/FrameAfterPinLaw" = some m.cls := findClass_of_methodNamed Bd.named
  have hnm := (name_of_methodNamed Bd.named Bd.method).1
  have hlk := Bd.notSynchronized
  have hret := Bd.returns
  have X0 : Stand p l e room_1 s m #[(.long c1), (.long r1), (.long vq), (.long ve), (.long s1)] below meth c s₁ [] 0 0 := Stand.of_body Bd
  have e0 : s₁.heap = h0 := by rw [← hh, Bd.state]; rfl
  have N0 := Fr.nil n0
  show own_Run p e below s 16 128 (Q0 Z c1 r1 vq ve s1 h0 n0) (s₁.setTop (entryFrame m #[(.long c1), (.long r1), (.long vq), (.long ve), (.long s1)] maxLocals))
  refine own_cast (ef0 m c1 r1 vq ve s1) ?_
  show own_Run p e below s _ _ _ (s₁.setTop (mkF m 0 #[.val (.long c1), .second, .val (.long r1), .second, .val (.long vq), .second, .val (.long ve), .second, .val (.long s1), .second, .unset, .unset, .unset, .unset, .unset, .unset, .unset, .unset, .unset, .unset, .unset, .unset, .unset, .unset] []))
  refine own_of (fun _ hh_ => XS.lloadN X0.here hx rfl (hb hby at_0) rfl hh_) ?_
  show own_Run p e below s _ _ _ (s₁.setTop (mkF m 1 #[.val (.long c1), .second, .val (.long r1), .second, .val (.long vq), .second, .val (.long ve), .second, .val (.long s1), .second, .unset, .unset, .unset, .unset, .unset, .unset, .unset, .unset, .unset, .unset, .unset, .unset, .unset, .unset] [(.long c1)]))
  refine own_of (X0.ldc2Long hx hown (mvT hZ (hw _ (List.mem_of_getElem? (i := 0) rfl))) (g := (mkF m 1 #[.val (.long c1), .second, .val (.long r1), .second, .val (.long vq), .second, .val (.long ve), .second, .val (.long s1), .second, .unset, .unset, .unset, .unset, .unset, .unset, .unset, .unset, .unset, .unset, .unset, .unset, .unset, .unset] [(.long c1)])) rfl (hb hby at_1)) ?_
  show own_Run p e below s _ _ _ (s₁.setTop (mkF m 4 #[.val (.long c1), .second, .val (.long r1), .second, .val (.long vq), .second, .val (.long ve), .second, .val (.long s1), .second, .unset, .unset, .unset, .unset, .unset, .unset, .unset, .unset, .unset, .unset, .unset, .unset, .unset, .unset] [(.long (9223372036854775807 : Int64)), (.long c1)]))
  refine own_of (fun _ hh_ => XS.land X0.here hx rfl (hb hby at_4) rfl hh_) ?_
  show own_Run p e below s _ _ _ (s₁.setTop (mkF m 5 #[.val (.long c1), .second, .val (.long r1), .second, .val (.long vq), .second, .val (.long ve), .second, .val (.long s1), .second, .unset, .unset, .unset, .unset, .unset, .unset, .unset, .unset, .unset, .unset, .unset, .unset, .unset, .unset] [(.long (c1 &&& (9223372036854775807 : Int64)))]))
  generalize hcnt : (c1 &&& (9223372036854775807 : Int64)) = cnt
  show own_Run p e below s _ _ _ (s₁.setTop (mkF m 5 #[.val (.long c1), .second, .val (.long r1), .second, .val (.long vq), .second, .val (.long ve), .second, .val (.long s1), .second, .unset, .unset, .unset, .unset, .unset, .unset, .unset, .unset, .unset, .unset, .unset, .unset, .unset, .unset] [(.long cnt)]))
  refine own_of (fun _ hh_ => XS.lstore X0.here hx rfl (hb hby at_5) rfl (l' := #[.val (.long c1), .second, .val (.long r1), .second, .val (.long vq), .second, .val (.long ve), .second, .val (.long s1), .second, .val (.long cnt), .second, .unset, .unset, .unset, .unset, .unset, .unset, .unset, .unset, .unset, .unset, .unset, .unset]) rfl hh_) ?_
  show own_Run p e below s _ _ _ (s₁.setTop (mkF m 7 #[.val (.long c1), .second, .val (.long r1), .second, .val (.long vq), .second, .val (.long ve), .second, .val (.long s1), .second, .val (.long cnt), .second, .unset, .unset, .unset, .unset, .unset, .unset, .unset, .unset, .unset, .unset, .unset, .unset] []))
  refine own_of (fun _ hh_ => XS.lload X0.here hx rfl (hb hby at_7) rfl hh_) ?_
  show own_Run p e below s _ _ _ (s₁.setTop (mkF m 9 #[.val (.long c1), .second, .val (.long r1), .second, .val (.long vq), .second, .val (.long ve), .second, .val (.long s1), .second, .val (.long cnt), .second, .unset, .unset, .unset, .unset, .unset, .unset, .unset, .unset, .unset, .unset, .unset, .unset] [(.long cnt)]))
  refine own_of (fun _ hh_ => XS.lconst X0.here hx rfl (hb hby at_9) hh_) ?_
  show own_Run p e below s _ _ _ (s₁.setTop (mkF m 10 #[.val (.long c1), .second, .val (.long r1), .second, .val (.long vq), .second, .val (.long ve), .second, .val (.long s1), .second, .val (.long cnt), .second, .unset, .unset, .unset, .unset, .unset, .unset, .unset, .unset, .unset, .unset, .unset, .unset] [(.long (0 : Int64)), (.long cnt)]))
  refine own_of (fun _ hh_ => XS.lcmp X0.here hx rfl (hb hby at_10) rfl hh_) ?_
  show own_Run p e below s _ _ _ (s₁.setTop (mkF m 11 #[.val (.long c1), .second, .val (.long r1), .second, .val (.long vq), .second, .val (.long ve), .second, .val (.long s1), .second, .val (.long cnt), .second, .unset, .unset, .unset, .unset, .unset, .unset, .unset, .unset, .unset, .unset, .unset, .unset] [(.int (lcmpW cnt (0 : Int64)))]))
  by_cases hc11_1 : cnt = (0 : Int64)
  · refine own_of (fun _ hh_ => XS.ifNo X0.here hx rfl (hb hby at_11) rfl ((if0 _ _).trans (teq ((lw_eq _ _).mpr hc11_1)).2) hh_) ?_
    show own_Run p e below s _ _ _ (s₁.setTop (mkF m 14 #[.val (.long c1), .second, .val (.long r1), .second, .val (.long vq), .second, .val (.long ve), .second, .val (.long s1), .second, .val (.long cnt), .second, .unset, .unset, .unset, .unset, .unset, .unset, .unset, .unset, .unset, .unset, .unset, .unset] []))
    refine own_of (fun _ hh_ => XS.iconst X0.here hx rfl (hb hby at_14) hh_) ?_
    show own_Run p e below s _ _ _ (s₁.setTop (mkF m 15 #[.val (.long c1), .second, .val (.long r1), .second, .val (.long vq), .second, .val (.long ve), .second, .val (.long s1), .second, .val (.long cnt), .second, .unset, .unset, .unset, .unset, .unset, .unset, .unset, .unset, .unset, .unset, .unset, .unset] [(.int (1 : Int32))]))
    exact own_retN X0 hx (t := .boolean) hret hlk (by simp) (hb hby at_15) ⟨rfl, N0⟩ (by decide) (by decide)
  · refine own_of (fun _ hh_ => XS.ifYes X0.here hx rfl (pc0 := 11) (pc' := 16) rfl (hb hby at_11) rfl ((if0 _ _).trans (feq (fun q_ => hc11_1 ((lw_eq _ _).mp q_))).2) (by decide) (by decide) hh_) ?_
    show own_Run p e below s _ _ _ (s₁.setTop (mkF m 16 #[.val (.long c1), .second, .val (.long r1), .second, .val (.long vq), .second, .val (.long ve), .second, .val (.long s1), .second, .val (.long cnt), .second, .unset, .unset, .unset, .unset, .unset, .unset, .unset, .unset, .unset, .unset, .unset, .unset] []))
    have rc : 0 < cnt.toInt := by have z1 := own_maskL c1; rw [hcnt] at z1; have z2 := mt Int64.toInt_inj.mp hc11_1; rw [own_l0] at z2; omega
    refine own_of (fun _ hh_ => XS.lloadN X0.here hx rfl (hb hby at_16) rfl hh_) ?_
    show own_Run p e below s _ _ _ (s₁.setTop (mkF m 17 #[.val (.long c1), .second, .val (.long r1), .second, .val (.long vq), .second, .val (.long ve), .second, .val (.long s1), .second, .val (.long cnt), .second, .unset, .unset, .unset, .unset, .unset, .unset, .unset, .unset, .unset, .unset, .unset, .unset] [(.long r1)]))
    refine own_of (X0.ldc2Long hx hown (mvT hZ (hw _ (List.mem_of_getElem? (i := 0) rfl))) (g := (mkF m 17 #[.val (.long c1), .second, .val (.long r1), .second, .val (.long vq), .second, .val (.long ve), .second, .val (.long s1), .second, .val (.long cnt), .second, .unset, .unset, .unset, .unset, .unset, .unset, .unset, .unset, .unset, .unset, .unset, .unset] [(.long r1)])) rfl (hb hby at_17)) ?_
    show own_Run p e below s _ _ _ (s₁.setTop (mkF m 20 #[.val (.long c1), .second, .val (.long r1), .second, .val (.long vq), .second, .val (.long ve), .second, .val (.long s1), .second, .val (.long cnt), .second, .unset, .unset, .unset, .unset, .unset, .unset, .unset, .unset, .unset, .unset, .unset, .unset] [(.long (9223372036854775807 : Int64)), (.long r1)]))
    refine own_of (fun _ hh_ => XS.land X0.here hx rfl (hb hby at_20) rfl hh_) ?_
    show own_Run p e below s _ _ _ (s₁.setTop (mkF m 21 #[.val (.long c1), .second, .val (.long r1), .second, .val (.long vq), .second, .val (.long ve), .second, .val (.long s1), .second, .val (.long cnt), .second, .unset, .unset, .unset, .unset, .unset, .unset, .unset, .unset, .unset, .unset, .unset, .unset] [(.long (r1 &&& (9223372036854775807 : Int64)))]))
    refine own_of (fun _ hh_ => XS.lload X0.here hx rfl (hb hby at_21) rfl hh_) ?_
    show own_Run p e below s _ _ _ (s₁.setTop (mkF m 23 #[.val (.long c1), .second, .val (.long r1), .second, .val (.long vq), .second, .val (.long ve), .second, .val (.long s1), .second, .val (.long cnt), .second, .unset, .unset, .unset, .unset, .unset, .unset, .unset, .unset, .unset, .unset, .unset, .unset] [(.long cnt), (.long (r1 &&& (9223372036854775807 : Int64)))]))
    refine own_of (fun _ hh_ => XS.lrem X0.here hx rfl (hb hby at_23) rfl hc11_1 hh_) ?_
    show own_Run p e below s _ _ _ (s₁.setTop (mkF m 24 #[.val (.long c1), .second, .val (.long r1), .second, .val (.long vq), .second, .val (.long ve), .second, .val (.long s1), .second, .val (.long cnt), .second, .unset, .unset, .unset, .unset, .unset, .unset, .unset, .unset, .unset, .unset, .unset, .unset] [(.long ((r1 &&& (9223372036854775807 : Int64)) - ((r1 &&& (9223372036854775807 : Int64)) / cnt) * cnt))]))
    generalize hrow : ((r1 &&& (9223372036854775807 : Int64)) - ((r1 &&& (9223372036854775807 : Int64)) / cnt) * cnt) = row
    have rrow := own_remL (r1 &&& (9223372036854775807 : Int64)) cnt (own_maskL r1) rc
    rw [hrow] at rrow
    show own_Run p e below s _ _ _ (s₁.setTop (mkF m 24 #[.val (.long c1), .second, .val (.long r1), .second, .val (.long vq), .second, .val (.long ve), .second, .val (.long s1), .second, .val (.long cnt), .second, .unset, .unset, .unset, .unset, .unset, .unset, .unset, .unset, .unset, .unset, .unset, .unset] [(.long row)]))
    refine own_of (fun _ hh_ => XS.lstore X0.here hx rfl (hb hby at_24) rfl (l' := #[.val (.long c1), .second, .val (.long r1), .second, .val (.long vq), .second, .val (.long ve), .second, .val (.long s1), .second, .val (.long cnt), .second, .val (.long row), .second, .unset, .unset, .unset, .unset, .unset, .unset, .unset, .unset, .unset, .unset]) rfl hh_) ?_
    show own_Run p e below s _ _ _ (s₁.setTop (mkF m 26 #[.val (.long c1), .second, .val (.long r1), .second, .val (.long vq), .second, .val (.long ve), .second, .val (.long s1), .second, .val (.long cnt), .second, .val (.long row), .second, .unset, .unset, .unset, .unset, .unset, .unset, .unset, .unset, .unset, .unset] []))
    refine own_of (fun _ hh_ => XS.lload X0.here hx rfl (hb hby at_26) rfl hh_) ?_
    show own_Run p e below s _ _ _ (s₁.setTop (mkF m 28 #[.val (.long c1), .second, .val (.long r1), .second, .val (.long vq), .second, .val (.long ve), .second, .val (.long s1), .second, .val (.long cnt), .second, .val (.long row), .second, .unset, .unset, .unset, .unset, .unset, .unset, .unset, .unset, .unset, .unset] [(.long vq)]))
    refine own_of (X0.ldc2Long hx hown (mvT hZ (hw _ (List.mem_of_getElem? (i := 0) rfl))) (g := (mkF m 28 #[.val (.long c1), .second, .val (.long r1), .second, .val (.long vq), .second, .val (.long ve), .second, .val (.long s1), .second, .val (.long cnt), .second, .val (.long row), .second, .unset, .unset, .unset, .unset, .unset, .unset, .unset, .unset, .unset, .unset] [(.long vq)])) rfl (hb hby at_28)) ?_
    show own_Run p e below s _ _ _ (s₁.setTop (mkF m 31 #[.val (.long c1), .second, .val (.long r1), .second, .val (.long vq), .second, .val (.long ve), .second, .val (.long s1), .second, .val (.long cnt), .second, .val (.long row), .second, .unset, .unset, .unset, .unset, .unset, .unset, .unset, .unset, .unset, .unset] [(.long (9223372036854775807 : Int64)), (.long vq)]))
    refine own_of (fun _ hh_ => XS.land X0.here hx rfl (hb hby at_31) rfl hh_) ?_
    show own_Run p e below s _ _ _ (s₁.setTop (mkF m 32 #[.val (.long c1), .second, .val (.long r1), .second, .val (.long vq), .second, .val (.long ve), .second, .val (.long s1), .second, .val (.long cnt), .second, .val (.long row), .second, .unset, .unset, .unset, .unset, .unset, .unset, .unset, .unset, .unset, .unset] [(.long (vq &&& (9223372036854775807 : Int64)))]))
    refine own_of (fun _ hh_ => XS.lload X0.here hx rfl (hb hby at_32) rfl hh_) ?_
    show own_Run p e below s _ _ _ (s₁.setTop (mkF m 34 #[.val (.long c1), .second, .val (.long r1), .second, .val (.long vq), .second, .val (.long ve), .second, .val (.long s1), .second, .val (.long cnt), .second, .val (.long row), .second, .unset, .unset, .unset, .unset, .unset, .unset, .unset, .unset, .unset, .unset] [(.long cnt), (.long (vq &&& (9223372036854775807 : Int64)))]))
    refine own_of (fun _ hh_ => XS.lrem X0.here hx rfl (hb hby at_34) rfl hc11_1 hh_) ?_
    show own_Run p e below s _ _ _ (s₁.setTop (mkF m 35 #[.val (.long c1), .second, .val (.long r1), .second, .val (.long vq), .second, .val (.long ve), .second, .val (.long s1), .second, .val (.long cnt), .second, .val (.long row), .second, .unset, .unset, .unset, .unset, .unset, .unset, .unset, .unset, .unset, .unset] [(.long ((vq &&& (9223372036854775807 : Int64)) - ((vq &&& (9223372036854775807 : Int64)) / cnt) * cnt))]))
    generalize hpp : ((vq &&& (9223372036854775807 : Int64)) - ((vq &&& (9223372036854775807 : Int64)) / cnt) * cnt) = pp
    have rpp := own_remL (vq &&& (9223372036854775807 : Int64)) cnt (own_maskL vq) rc
    rw [hpp] at rpp
    show own_Run p e below s _ _ _ (s₁.setTop (mkF m 35 #[.val (.long c1), .second, .val (.long r1), .second, .val (.long vq), .second, .val (.long ve), .second, .val (.long s1), .second, .val (.long cnt), .second, .val (.long row), .second, .unset, .unset, .unset, .unset, .unset, .unset, .unset, .unset, .unset, .unset] [(.long pp)]))
    refine own_of (fun _ hh_ => XS.lstore X0.here hx rfl (hb hby at_35) rfl (l' := #[.val (.long c1), .second, .val (.long r1), .second, .val (.long vq), .second, .val (.long ve), .second, .val (.long s1), .second, .val (.long cnt), .second, .val (.long row), .second, .val (.long pp), .second, .unset, .unset, .unset, .unset, .unset, .unset, .unset, .unset]) rfl hh_) ?_
    show own_Run p e below s _ _ _ (s₁.setTop (mkF m 37 #[.val (.long c1), .second, .val (.long r1), .second, .val (.long vq), .second, .val (.long ve), .second, .val (.long s1), .second, .val (.long cnt), .second, .val (.long row), .second, .val (.long pp), .second, .unset, .unset, .unset, .unset, .unset, .unset, .unset, .unset] []))
    refine own_of (fun _ hh_ => XS.lload X0.here hx rfl (hb hby at_37) rfl hh_) ?_
    show own_Run p e below s _ _ _ (s₁.setTop (mkF m 39 #[.val (.long c1), .second, .val (.long r1), .second, .val (.long vq), .second, .val (.long ve), .second, .val (.long s1), .second, .val (.long cnt), .second, .val (.long row), .second, .val (.long pp), .second, .unset, .unset, .unset, .unset, .unset, .unset, .unset, .unset] [(.long s1)]))
    refine own_of (fun _ hh_ => XS.lload X0.here hx rfl (hb hby at_39) rfl hh_) ?_
    show own_Run p e below s _ _ _ (s₁.setTop (mkF m 41 #[.val (.long c1), .second, .val (.long r1), .second, .val (.long vq), .second, .val (.long ve), .second, .val (.long s1), .second, .val (.long cnt), .second, .val (.long row), .second, .val (.long pp), .second, .unset, .unset, .unset, .unset, .unset, .unset, .unset, .unset] [(.long ve), (.long s1)]))
    obtain ⟨_, _, ⟨T2, L2, k2, n2⟩, -, X2, ⟨Lc2, hQ2, l2, y2, z2⟩, st2⟩ := Jvm.LawKit.callS X0 hx (y := (⟨"java/lang/Math", "min", "(JJ)J"⟩ : MethodName)) hown (mvT hZ (hw _ (List.mem_of_getElem? (i := 1) rfl))) (mvT hZ (hw _ (List.mem_of_getElem? (i := 2) rfl))) (mvT hZ (hw _ (List.mem_of_getElem? (i := 3) rfl))) (mvT hZ (hw _ (List.mem_of_getElem? (i := 4) rfl))) (by decide) (backOf (W := 0) (rmmin l Z a0 hw [] s1 ve h0 n0 Z0) hZ (hw _ (List.mem_of_getElem? (i := 4) rfl)) (hw _ (List.mem_of_getElem? (i := 3) rfl)) (by decide) (by decide)) (g := (mkF m 41 #[.val (.long c1), .second, .val (.long r1), .second, .val (.long vq), .second, .val (.long ve), .second, .val (.long s1), .second, .val (.long cnt), .second, .val (.long row), .second, .val (.long pp), .second, .unset, .unset, .unset, .unset, .unset, .unset, .unset, .unset] [(.long ve), (.long s1)])) rfl (by rw [hml]; rfl) (argsL := [(.long s1), (.long ve)]) (rest := []) (lenOf own_pd1 rfl) rfl (by show 2 * 0 + _ ≤ _; exact Nat.le_of_eq rfl) (hb hby at_41) (fun _ _ => ⟨rfl, e0, (by decide : 0 + 0 ≤ _), (by decide : 0 + 0 ≤ _)⟩)
    dsimp only [Pt.U, Pt.locs, Pt.cells, Pt.slots] at X2 l2 y2 z2 st2 hQ2
    subst l2 y2 z2
    obtain ⟨rfl, N2q, e2⟩ := hQ2
    have N2 := Fr.app N0 N2q
    refine own_of st2 ?_
    show own_Run p e below s _ _ _ (T2.setTop (mkF m 44 #[.val (.long c1), .second, .val (.long r1), .second, .val (.long vq), .second, .val (.long ve), .second, .val (.long s1), .second, .val (.long cnt), .second, .val (.long row), .second, .val (.long pp), .second, .unset, .unset, .unset, .unset, .unset, .unset, .unset, .unset] [(.long (own_minL s1 ve))]))
    refine own_of (fun _ hh_ => XS.lstore X2.here hx rfl (hb hby at_44) rfl (l' := #[.val (.long c1), .second, .val (.long r1), .second, .val (.long vq), .second, .val (.long ve), .second, .val (.long s1), .second, .val (.long cnt), .second, .val (.long row), .second, .val (.long pp), .second, .val (.long (own_minL s1 ve)), .second, .unset, .unset, .unset, .unset, .unset, .unset]) rfl hh_) ?_
    show own_Run p e below s _ _ _ (T2.setTop (mkF m 46 #[.val (.long c1), .second, .val (.long r1), .second, .val (.long vq), .second, .val (.long ve), .second, .val (.long s1), .second, .val (.long cnt), .second, .val (.long row), .second, .val (.long pp), .second, .val (.long (own_minL s1 ve)), .second, .unset, .unset, .unset, .unset, .unset, .unset] []))
    obtain ⟨T3, h3, X3, e3, E3, A3, D3, -, st3⟩ := newO X2 hx hZ hown (hw _ (List.mem_of_getElem? (i := 5) rfl)) (hw _ (List.mem_of_getElem? (i := 6) rfl)) (hw _ (List.mem_of_getElem? (i := 7) rfl)) e2 (g := (mkF m 46 #[.val (.long c1), .second, .val (.long r1), .second, .val (.long vq), .second, .val (.long ve), .second, .val (.long s1), .second, .val (.long cnt), .second, .val (.long row), .second, .val (.long pp), .second, .val (.long (own_minL s1 ve)), .second, .unset, .unset, .unset, .unset, .unset, .unset] [])) rfl (hb hby at_46) (by decide) (by decide)
    obtain ⟨ob3, g3⟩ : ∃ z, z = h0.size := ⟨_, rfl⟩
    rw [← g3] at A3 D3 st3
    have g_ob3 : n0 ≤ ob3 := Nat.le_trans Z0 (Nat.le_of_eq g3.symm)
    have f4 : Fld Z h3 ob3 "com/example/oriel/oriel/window/Frame" "start" "J" (.long (0 : Int64)) := D3 (Or.inr (hw _ (List.mem_of_getElem? (i := 20) rfl))) (ty := .long) (by decide)
    have f5 : Fld Z h3 ob3 "com/example/oriel/oriel/window/Frame" "end" "J" (.long (0 : Int64)) := D3 (Or.inr (hw _ (List.mem_of_getElem? (i := 22) rfl))) (ty := .long) (by decide)
    refine own_of st3 ?_
    show own_Run p e below s _ _ _ (T3.setTop (mkF m 49 #[.val (.long c1), .second, .val (.long r1), .second, .val (.long vq), .second, .val (.long ve), .second, .val (.long s1), .second, .val (.long cnt), .second, .val (.long row), .second, .val (.long pp), .second, .val (.long (own_minL s1 ve)), .second, .unset, .unset, .unset, .unset, .unset, .unset] [(.ref ob3)]))
    refine own_of (fun _ hh_ => XS.dup X3.here hx rfl (hb hby at_49) rfl rfl hh_) ?_
    show own_Run p e below s _ _ _ (T3.setTop (mkF m 50 #[.val (.long c1), .second, .val (.long r1), .second, .val (.long vq), .second, .val (.long ve), .second, .val (.long s1), .second, .val (.long cnt), .second, .val (.long row), .second, .val (.long pp), .second, .val (.long (own_minL s1 ve)), .second, .unset, .unset, .unset, .unset, .unset, .unset] [(.ref ob3), (.ref ob3)]))
    refine own_of (fun _ hh_ => XS.lload X3.here hx rfl (hb hby at_50) rfl hh_) ?_
    show own_Run p e below s _ _ _ (T3.setTop (mkF m 52 #[.val (.long c1), .second, .val (.long r1), .second, .val (.long vq), .second, .val (.long ve), .second, .val (.long s1), .second, .val (.long cnt), .second, .val (.long row), .second, .val (.long pp), .second, .val (.long (own_minL s1 ve)), .second, .unset, .unset, .unset, .unset, .unset, .unset] [(.long (own_minL s1 ve)), (.ref ob3), (.ref ob3)]))
    refine own_of (fun _ hh_ => XS.lload X3.here hx rfl (hb hby at_52) rfl hh_) ?_
    show own_Run p e below s _ _ _ (T3.setTop (mkF m 54 #[.val (.long c1), .second, .val (.long r1), .second, .val (.long vq), .second, .val (.long ve), .second, .val (.long s1), .second, .val (.long cnt), .second, .val (.long row), .second, .val (.long pp), .second, .val (.long (own_minL s1 ve)), .second, .unset, .unset, .unset, .unset, .unset, .unset] [(.long ve), (.long (own_minL s1 ve)), (.ref ob3), (.ref ob3)]))
    have hle := own_le s1 ve
    obtain ⟨_, _, ⟨T6, L6, k6, n6⟩, -, X6, ⟨Lc6, hQ6, l6, y6, z6⟩, st6⟩ := X3.specialBack hx (y := (⟨"com/example/oriel/oriel/window/Frame", "<init>", "(JJ)V"⟩ : MethodName)) rfl hown (mvT hZ (hw _ (List.mem_of_getElem? (i := 8) rfl))) (mvT hZ (hw _ (List.mem_of_getElem? (i := 9) rfl))) (mvT hZ (hw _ (List.mem_of_getElem? (i := 10) rfl))) (by decide) (backOf (W := 1) (rmF l Z a0 hw [] ob3 (own_minL s1 ve) ve h3 n0 (Nat.le_trans Z0 E3.1) A3 f4 f5 g_ob3 hle) hZ (hw _ (List.mem_of_getElem? (i := 10) rfl)) (hw _ (List.mem_of_getElem? (i := 7) rfl)) (by decide) (by decide)) (g := (mkF m 54 #[.val (.long c1), .second, .val (.long r1), .second, .val (.long vq), .second, .val (.long ve), .second, .val (.long s1), .second, .val (.long cnt), .second, .val (.long row), .second, .val (.long pp), .second, .val (.long (own_minL s1 ve)), .second, .unset, .unset, .unset, .unset, .unset, .unset] [(.long ve), (.long (own_minL s1 ve)), (.ref ob3), (.ref ob3)])) rfl (by rw [hml]; rfl) (Steps.refl _) (a := ob3) (argsL := [(.long (own_minL s1 ve)), (.long ve)]) (rest := [(.ref ob3)]) (lenOf own_pd2 rfl) rfl (by show 2 * 0 + _ ≤ _; exact Nat.le_of_eq rfl) (hb hby at_54) (fun _ _ => ⟨rfl, e3, (by decide : 1 + 0 ≤ _), (by decide : 2 + 0 ≤ _)⟩)
    dsimp only [Pt.U, Pt.locs, Pt.cells, Pt.slots] at X6 l6 y6 z6 st6 hQ6
    subst l6 y6 z6
    obtain ⟨rfl, N6q, K6, fs6, fe6⟩ := hQ6
    have N6 := Fr.app N2 N6q
    have f7 := A3.keep K6
    refine own_tr st6 ?_
    show own_Run p e below s _ _ _ (T6.setTop (mkF m 57 #[.val (.long c1), .second, .val (.long r1), .second, .val (.long vq), .second, .val (.long ve), .second, .val (.long s1), .second, .val (.long cnt), .second, .val (.long row), .second, .val (.long pp), .second, .val (.long (own_minL s1 ve)), .second, .unset, .unset, .unset, .unset, .unset, .unset] [(.ref ob3)]))
    refine own_of (fun _ hh_ => XS.astore X6.here hx rfl (hb hby at_57) rfl rfl (l' := #[.val (.long c1), .second, .val (.long r1), .second, .val (.long vq), .second, .val (.long ve), .second, .val (.long s1), .second, .val (.long cnt), .second, .val (.long row), .second, .val (.long pp), .second, .val (.long (own_minL s1 ve)), .second, .val (.ref ob3), .unset, .unset, .unset, .unset, .unset]) rfl hh_) ?_
    show own_Run p e below s _ _ _ (T6.setTop (mkF m 59 #[.val (.long c1), .second, .val (.long r1), .second, .val (.long vq), .second, .val (.long ve), .second, .val (.long s1), .second, .val (.long cnt), .second, .val (.long row), .second, .val (.long pp), .second, .val (.long (own_minL s1 ve)), .second, .val (.ref ob3), .unset, .unset, .unset, .unset, .unset] []))
    refine own_of (fun _ hh_ => XS.aload X6.here hx rfl (hb hby at_59) rfl rfl hh_) ?_
    show own_Run p e below s _ _ _ (T6.setTop (mkF m 61 #[.val (.long c1), .second, .val (.long r1), .second, .val (.long vq), .second, .val (.long ve), .second, .val (.long s1), .second, .val (.long cnt), .second, .val (.long row), .second, .val (.long pp), .second, .val (.long (own_minL s1 ve)), .second, .val (.ref ob3), .unset, .unset, .unset, .unset, .unset] [(.ref ob3)]))
    refine own_of (fun _ hh_ => XS.lload X6.here hx rfl (hb hby at_61) rfl hh_) ?_
    show own_Run p e below s _ _ _ (T6.setTop (mkF m 63 #[.val (.long c1), .second, .val (.long r1), .second, .val (.long vq), .second, .val (.long ve), .second, .val (.long s1), .second, .val (.long cnt), .second, .val (.long row), .second, .val (.long pp), .second, .val (.long (own_minL s1 ve)), .second, .val (.ref ob3), .unset, .unset, .unset, .unset, .unset] [(.long row), (.ref ob3)]))
    refine own_of (fun _ hh_ => XS.lload X6.here hx rfl (hb hby at_63) rfl hh_) ?_
    show own_Run p e below s _ _ _ (T6.setTop (mkF m 65 #[.val (.long c1), .second, .val (.long r1), .second, .val (.long vq), .second, .val (.long ve), .second, .val (.long s1), .second, .val (.long cnt), .second, .val (.long row), .second, .val (.long pp), .second, .val (.long (own_minL s1 ve)), .second, .val (.ref ob3), .unset, .unset, .unset, .unset, .unset] [(.long cnt), (.long row), (.ref ob3)]))
    obtain ⟨cq8, kq8, q8a, q8b, q8c⟩ := isOf hZ (rfl : T6.heap = T6.heap) f7
    obtain ⟨_, _, ⟨T8, L8, k8, n8⟩, -, X8, ⟨Lc8, hQ8, l8, y8, z8⟩, st8⟩ := X6.virtualBack hx (y := (⟨"com/example/oriel/oriel/window/Frame", "after", "(JJ)J"⟩ : MethodName)) (z := (⟨"com/example/oriel/oriel/window/Frame", "after", "(JJ)J"⟩ : MethodName)) hown (mvT hZ (hw _ (List.mem_of_getElem? (i := 23) rfl))) (mvT hZ (hw _ (List.mem_of_getElem? (i := 24) rfl))) (notFace_of_selects (args := #[]) (mvT hZ (hw _ (List.mem_of_getElem? (i := 26) rfl)))) (mvT hZ (hw _ (List.mem_of_getElem? (i := 26) rfl))) (mvT hZ (hw _ (List.mem_of_getElem? (i := 25) rfl))) (by decide) (backOf (W := 0) (rmC l Z a0 hw [] ob3 row cnt ve T6.heap n0 (Nat.le_trans (Nat.le_trans Z0 E3.1) K6.1) fe6) hZ (hw _ (List.mem_of_getElem? (i := 27) rfl)) (hw _ (List.mem_of_getElem? (i := 7) rfl)) (by decide) (by decide)) q8a q8c (g := (mkF m 65 #[.val (.long c1), .second, .val (.long r1), .second, .val (.long vq), .second, .val (.long ve), .second, .val (.long s1), .second, .val (.long cnt), .second, .val (.long row), .second, .val (.long pp), .second, .val (.long (own_minL s1 ve)), .second, .val (.ref ob3), .unset, .unset, .unset, .unset, .unset] [(.long cnt), (.long row), (.ref ob3)])) rfl (by rw [hml]; rfl) (Steps.refl _) (argsL := [(.long row), (.long cnt)]) (rest := []) (lenOf own_pd1 rfl) rfl (by show 2 * 0 + _ ≤ _; exact Nat.le_of_eq rfl) (hb hby at_65) (fun _ _ => ⟨rfl, (rfl : T6.heap = T6.heap), (by decide : 1 + 0 ≤ _), (by decide : 2 + 0 ≤ _)⟩)
    dsimp only [Pt.U, Pt.locs, Pt.cells, Pt.slots] at X8 l8 y8 z8 st8 hQ8
    subst l8 y8 z8
    obtain ⟨rfl, N8q, e8⟩ := hQ8
    have N8 := Fr.app N6 N8q
    refine own_tr st8 ?_
    show own_Run p e below s _ _ _ (T8.setTop (mkF m 68 #[.val (.long c1), .second, .val (.long r1), .second, .val (.long vq), .second, .val (.long ve), .second, .val (.long s1), .second, .val (.long cnt), .second, .val (.long row), .second, .val (.long pp), .second, .val (.long (own_minL s1 ve)), .second, .val (.ref ob3), .unset, .unset, .unset, .unset, .unset] [(.long (own_af ve row cnt))]))
    refine own_of (fun _ hh_ => XS.lstore X8.here hx rfl (hb hby at_68) rfl (l' := #[.val (.long c1), .second, .val (.long r1), .second, .val (.long vq), .second, .val (.long ve), .second, .val (.long s1), .second, .val (.long cnt), .second, .val (.long row), .second, .val (.long pp), .second, .val (.long (own_minL s1 ve)), .second, .val (.ref ob3), .val (.long (own_af ve row cnt)), .second, .unset, .unset, .unset]) rfl hh_) ?_
    show own_Run p e below s _ _ _ (T8.setTop (mkF m 70 #[.val (.long c1), .second, .val (.long r1), .second, .val (.long vq), .second, .val (.long ve), .second, .val (.long s1), .second, .val (.long cnt), .second, .val (.long row), .second, .val (.long pp), .second, .val (.long (own_minL s1 ve)), .second, .val (.ref ob3), .val (.long (own_af ve row cnt)), .second, .unset, .unset, .unset] []))
    refine own_of (fun _ hh_ => XS.lconst X8.here hx rfl (hb hby at_70) hh_) ?_
    show own_Run p e below s _ _ _ (T8.setTop (mkF m 71 #[.val (.long c1), .second, .val (.long r1), .second, .val (.long vq), .second, .val (.long ve), .second, .val (.long s1), .second, .val (.long cnt), .second, .val (.long row), .second, .val (.long pp), .second, .val (.long (own_minL s1 ve)), .second, .val (.ref ob3), .val (.long (own_af ve row cnt)), .second, .unset, .unset, .unset] [(.long (0 : Int64))]))
    refine own_of (fun _ hh_ => XS.lload X8.here hx rfl (hb hby at_71) rfl hh_) ?_
    show own_Run p e below s _ _ _ (T8.setTop (mkF m 73 #[.val (.long c1), .second, .val (.long r1), .second, .val (.long vq), .second, .val (.long ve), .second, .val (.long s1), .second, .val (.long cnt), .second, .val (.long row), .second, .val (.long pp), .second, .val (.long (own_minL s1 ve)), .second, .val (.ref ob3), .val (.long (own_af ve row cnt)), .second, .unset, .unset, .unset] [(.long (own_af ve row cnt)), (.long (0 : Int64))]))
    refine own_of (fun _ hh_ => XS.lcmp X8.here hx rfl (hb hby at_73) rfl hh_) ?_
    show own_Run p e below s _ _ _ (T8.setTop (mkF m 74 #[.val (.long c1), .second, .val (.long r1), .second, .val (.long vq), .second, .val (.long ve), .second, .val (.long s1), .second, .val (.long cnt), .second, .val (.long row), .second, .val (.long pp), .second, .val (.long (own_minL s1 ve)), .second, .val (.ref ob3), .val (.long (own_af ve row cnt)), .second, .unset, .unset, .unset] [(.int (lcmpW (0 : Int64) (own_af ve row cnt)))]))
    have hc74_9 : ¬ ((own_af ve row cnt) < (0 : Int64)) := own_t1 ve row cnt rrow.1 rrow.2
    refine own_of (fun _ hh_ => XS.ifNo X8.here hx rfl (hb hby at_74) rfl ((if0 _ _).trans (flt (fun q_ => hc74_9 ((lw_gt _ _).mp q_))).2.2.1) hh_) ?_
    show own_Run p e below s _ _ _ (T8.setTop (mkF m 77 #[.val (.long c1), .second, .val (.long r1), .second, .val (.long vq), .second, .val (.long ve), .second, .val (.long s1), .second, .val (.long cnt), .second, .val (.long row), .second, .val (.long pp), .second, .val (.long (own_minL s1 ve)), .second, .val (.ref ob3), .val (.long (own_af ve row cnt)), .second, .unset, .unset, .unset] []))
    refine own_of (fun _ hh_ => XS.lload X8.here hx rfl (hb hby at_77) rfl hh_) ?_
    show own_Run p e below s _ _ _ (T8.setTop (mkF m 79 #[.val (.long c1), .second, .val (.long r1), .second, .val (.long vq), .second, .val (.long ve), .second, .val (.long s1), .second, .val (.long cnt), .second, .val (.long row), .second, .val (.long pp), .second, .val (.long (own_minL s1 ve)), .second, .val (.ref ob3), .val (.long (own_af ve row cnt)), .second, .unset, .unset, .unset] [(.long (own_af ve row cnt))]))
    refine own_of (fun _ hh_ => XS.lload X8.here hx rfl (hb hby at_79) rfl hh_) ?_
    show own_Run p e below s _ _ _ (T8.setTop (mkF m 81 #[.val (.long c1), .second, .val (.long r1), .second, .val (.long vq), .second, .val (.long ve), .second, .val (.long s1), .second, .val (.long cnt), .second, .val (.long row), .second, .val (.long pp), .second, .val (.long (own_minL s1 ve)), .second, .val (.ref ob3), .val (.long (own_af ve row cnt)), .second, .unset, .unset, .unset] [(.long cnt), (.long (own_af ve row cnt))]))
    refine own_of (fun _ hh_ => XS.lcmp X8.here hx rfl (hb hby at_81) rfl hh_) ?_
    show own_Run p e below s _ _ _ (T8.setTop (mkF m 82 #[.val (.long c1), .second, .val (.long r1), .second, .val (.long vq), .second, .val (.long ve), .second, .val (.long s1), .second, .val (.long cnt), .second, .val (.long row), .second, .val (.long pp), .second, .val (.long (own_minL s1 ve)), .second, .val (.ref ob3), .val (.long (own_af ve row cnt)), .second, .unset, .unset, .unset] [(.int (lcmpW (own_af ve row cnt) cnt))]))
    have hc82_10 : ¬ (cnt < (own_af ve row cnt)) := own_t2 ve row cnt rrow.1 rrow.2
    refine own_of (fun _ hh_ => XS.ifNo X8.here hx rfl (hb hby at_82) rfl ((if0 _ _).trans (flt (fun q_ => hc82_10 ((lw_gt _ _).mp q_))).2.2.1) hh_) ?_
    show own_Run p e below s _ _ _ (T8.setTop (mkF m 85 #[.val (.long c1), .second, .val (.long r1), .second, .val (.long vq), .second, .val (.long ve), .second, .val (.long s1), .second, .val (.long cnt), .second, .val (.long row), .second, .val (.long pp), .second, .val (.long (own_minL s1 ve)), .second, .val (.ref ob3), .val (.long (own_af ve row cnt)), .second, .unset, .unset, .unset] []))
    refine own_of (fun _ hh_ => XS.iconst X8.here hx rfl (hb hby at_85) hh_) ?_
    show own_Run p e below s _ _ _ (T8.setTop (mkF m 86 #[.val (.long c1), .second, .val (.long r1), .second, .val (.long vq), .second, .val (.long ve), .second, .val (.long s1), .second, .val (.long cnt), .second, .val (.long row), .second, .val (.long pp), .second, .val (.long (own_minL s1 ve)), .second, .val (.ref ob3), .val (.long (own_af ve row cnt)), .second, .unset, .unset, .unset] [(.int (1 : Int32))]))
    refine own_of (fun _ hh_ => XS.goto X8.here hx rfl (pc0 := 86) (pc' := 90) rfl (hb hby at_86) (by decide) (by decide) hh_) ?_
    show own_Run p e below s _ _ _ (T8.setTop (mkF m 90 #[.val (.long c1), .second, .val (.long r1), .second, .val (.long vq), .second, .val (.long ve), .second, .val (.long s1), .second, .val (.long cnt), .second, .val (.long row), .second, .val (.long pp), .second, .val (.long (own_minL s1 ve)), .second, .val (.ref ob3), .val (.long (own_af ve row cnt)), .second, .unset, .unset, .unset] [(.int (1 : Int32))]))
    refine own_of (fun _ hh_ => XS.istore X8.here hx rfl (hb hby at_90) rfl (l' := #[.val (.long c1), .second, .val (.long r1), .second, .val (.long vq), .second, .val (.long ve), .second, .val (.long s1), .second, .val (.long cnt), .second, .val (.long row), .second, .val (.long pp), .second, .val (.long (own_minL s1 ve)), .second, .val (.ref ob3), .val (.long (own_af ve row cnt)), .second, .val (.int (1 : Int32)), .unset, .unset]) rfl hh_) ?_
    show own_Run p e below s _ _ _ (T8.setTop (mkF m 92 #[.val (.long c1), .second, .val (.long r1), .second, .val (.long vq), .second, .val (.long ve), .second, .val (.long s1), .second, .val (.long cnt), .second, .val (.long row), .second, .val (.long pp), .second, .val (.long (own_minL s1 ve)), .second, .val (.ref ob3), .val (.long (own_af ve row cnt)), .second, .val (.int (1 : Int32)), .unset, .unset] []))
    refine own_of (fun _ hh_ => XS.lload X8.here hx rfl (hb hby at_92) rfl hh_) ?_
    show own_Run p e below s _ _ _ (T8.setTop (mkF m 94 #[.val (.long c1), .second, .val (.long r1), .second, .val (.long vq), .second, .val (.long ve), .second, .val (.long s1), .second, .val (.long cnt), .second, .val (.long row), .second, .val (.long pp), .second, .val (.long (own_minL s1 ve)), .second, .val (.ref ob3), .val (.long (own_af ve row cnt)), .second, .val (.int (1 : Int32)), .unset, .unset] [(.long pp)]))
    refine own_of (fun _ hh_ => XS.lload X8.here hx rfl (hb hby at_94) rfl hh_) ?_
    show own_Run p e below s _ _ _ (T8.setTop (mkF m 96 #[.val (.long c1), .second, .val (.long r1), .second, .val (.long vq), .second, .val (.long ve), .second, .val (.long s1), .second, .val (.long cnt), .second, .val (.long row), .second, .val (.long pp), .second, .val (.long (own_minL s1 ve)), .second, .val (.ref ob3), .val (.long (own_af ve row cnt)), .second, .val (.int (1 : Int32)), .unset, .unset] [(.long (own_af ve row cnt)), (.long pp)]))
    refine own_of (fun _ hh_ => XS.lcmp X8.here hx rfl (hb hby at_96) rfl hh_) ?_
    show own_Run p e below s _ _ _ (T8.setTop (mkF m 97 #[.val (.long c1), .second, .val (.long r1), .second, .val (.long vq), .second, .val (.long ve), .second, .val (.long s1), .second, .val (.long cnt), .second, .val (.long row), .second, .val (.long pp), .second, .val (.long (own_minL s1 ve)), .second, .val (.ref ob3), .val (.long (own_af ve row cnt)), .second, .val (.int (1 : Int32)), .unset, .unset] [(.int (lcmpW pp (own_af ve row cnt)))]))
    by_cases hc97_11 : pp < (own_af ve row cnt)
    · refine own_of (fun _ hh_ => XS.ifNo X8.here hx rfl (hb hby at_97) rfl ((if0 _ _).trans (tlt ((lw_lt _ _).mpr hc97_11)).2.1) hh_) ?_
      show own_Run p e below s _ _ _ (T8.setTop (mkF m 100 #[.val (.long c1), .second, .val (.long r1), .second, .val (.long vq), .second, .val (.long ve), .second, .val (.long s1), .second, .val (.long cnt), .second, .val (.long row), .second, .val (.long pp), .second, .val (.long (own_minL s1 ve)), .second, .val (.ref ob3), .val (.long (own_af ve row cnt)), .second, .val (.int (1 : Int32)), .unset, .unset] []))
      refine own_of (fun _ hh_ => XS.iconst X8.here hx rfl (hb hby at_100) hh_) ?_
      show own_Run p e below s _ _ _ (T8.setTop (mkF m 101 #[.val (.long c1), .second, .val (.long r1), .second, .val (.long vq), .second, .val (.long ve), .second, .val (.long s1), .second, .val (.long cnt), .second, .val (.long row), .second, .val (.long pp), .second, .val (.long (own_minL s1 ve)), .second, .val (.ref ob3), .val (.long (own_af ve row cnt)), .second, .val (.int (1 : Int32)), .unset, .unset] [(.int (1 : Int32))]))
      refine own_of (fun _ hh_ => XS.goto X8.here hx rfl (pc0 := 101) (pc' := 105) rfl (hb hby at_101) (by decide) (by decide) hh_) ?_
      show own_Run p e below s _ _ _ (T8.setTop (mkF m 105 #[.val (.long c1), .second, .val (.long r1), .second, .val (.long vq), .second, .val (.long ve), .second, .val (.long s1), .second, .val (.long cnt), .second, .val (.long row), .second, .val (.long pp), .second, .val (.long (own_minL s1 ve)), .second, .val (.ref ob3), .val (.long (own_af ve row cnt)), .second, .val (.int (1 : Int32)), .unset, .unset] [(.int (1 : Int32))]))
      refine own_of (fun _ hh_ => XS.istore X8.here hx rfl (hb hby at_105) rfl (l' := #[.val (.long c1), .second, .val (.long r1), .second, .val (.long vq), .second, .val (.long ve), .second, .val (.long s1), .second, .val (.long cnt), .second, .val (.long row), .second, .val (.long pp), .second, .val (.long (own_minL s1 ve)), .second, .val (.ref ob3), .val (.long (own_af ve row cnt)), .second, .val (.int (1 : Int32)), .val (.int (1 : Int32)), .unset]) rfl hh_) ?_
      show own_Run p e below s _ _ _ (T8.setTop (mkF m 107 #[.val (.long c1), .second, .val (.long r1), .second, .val (.long vq), .second, .val (.long ve), .second, .val (.long s1), .second, .val (.long cnt), .second, .val (.long row), .second, .val (.long pp), .second, .val (.long (own_minL s1 ve)), .second, .val (.ref ob3), .val (.long (own_af ve row cnt)), .second, .val (.int (1 : Int32)), .val (.int (1 : Int32)), .unset] []))
      refine own_of (fun _ hh_ => XS.lload X8.here hx rfl (hb hby at_107) rfl hh_) ?_
      show own_Run p e below s _ _ _ (T8.setTop (mkF m 109 #[.val (.long c1), .second, .val (.long r1), .second, .val (.long vq), .second, .val (.long ve), .second, .val (.long s1), .second, .val (.long cnt), .second, .val (.long row), .second, .val (.long pp), .second, .val (.long (own_minL s1 ve)), .second, .val (.ref ob3), .val (.long (own_af ve row cnt)), .second, .val (.int (1 : Int32)), .val (.int (1 : Int32)), .unset] [(.long pp)]))
      refine own_of (fun _ hh_ => XS.lload X8.here hx rfl (hb hby at_109) rfl hh_) ?_
      show own_Run p e below s _ _ _ (T8.setTop (mkF m 111 #[.val (.long c1), .second, .val (.long r1), .second, .val (.long vq), .second, .val (.long ve), .second, .val (.long s1), .second, .val (.long cnt), .second, .val (.long row), .second, .val (.long pp), .second, .val (.long (own_minL s1 ve)), .second, .val (.ref ob3), .val (.long (own_af ve row cnt)), .second, .val (.int (1 : Int32)), .val (.int (1 : Int32)), .unset] [(.long row), (.long pp)]))
      refine own_of (fun _ hh_ => XS.lsub X8.here hx rfl (hb hby at_111) rfl hh_) ?_
      show own_Run p e below s _ _ _ (T8.setTop (mkF m 112 #[.val (.long c1), .second, .val (.long r1), .second, .val (.long vq), .second, .val (.long ve), .second, .val (.long s1), .second, .val (.long cnt), .second, .val (.long row), .second, .val (.long pp), .second, .val (.long (own_minL s1 ve)), .second, .val (.ref ob3), .val (.long (own_af ve row cnt)), .second, .val (.int (1 : Int32)), .val (.int (1 : Int32)), .unset] [(.long (pp - row))]))
      refine own_of (fun _ hh_ => XS.lload X8.here hx rfl (hb hby at_112) rfl hh_) ?_
      show own_Run p e below s _ _ _ (T8.setTop (mkF m 114 #[.val (.long c1), .second, .val (.long r1), .second, .val (.long vq), .second, .val (.long ve), .second, .val (.long s1), .second, .val (.long cnt), .second, .val (.long row), .second, .val (.long pp), .second, .val (.long (own_minL s1 ve)), .second, .val (.ref ob3), .val (.long (own_af ve row cnt)), .second, .val (.int (1 : Int32)), .val (.int (1 : Int32)), .unset] [(.long ve), (.long (pp - row))]))
      refine own_of (fun _ hh_ => XS.lcmp X8.here hx rfl (hb hby at_114) rfl hh_) ?_
      show own_Run p e below s _ _ _ (T8.setTop (mkF m 115 #[.val (.long c1), .second, .val (.long r1), .second, .val (.long vq), .second, .val (.long ve), .second, .val (.long s1), .second, .val (.long cnt), .second, .val (.long row), .second, .val (.long pp), .second, .val (.long (own_minL s1 ve)), .second, .val (.ref ob3), .val (.long (own_af ve row cnt)), .second, .val (.int (1 : Int32)), .val (.int (1 : Int32)), .unset] [(.int (lcmpW (pp - row) ve))]))
      have hc115_12 : ¬ (ve < (pp - row)) := (own_t3 ve row cnt pp rrow.1 rrow.2 rpp.1 rpp.2).mp hc97_11
      refine own_of (fun _ hh_ => XS.ifNo X8.here hx rfl (hb hby at_115) rfl ((if0 _ _).trans (flt (fun q_ => hc115_12 ((lw_gt _ _).mp q_))).2.2.1) hh_) ?_
      show own_Run p e below s _ _ _ (T8.setTop (mkF m 118 #[.val (.long c1), .second, .val (.long r1), .second, .val (.long vq), .second, .val (.long ve), .second, .val (.long s1), .second, .val (.long cnt), .second, .val (.long row), .second, .val (.long pp), .second, .val (.long (own_minL s1 ve)), .second, .val (.ref ob3), .val (.long (own_af ve row cnt)), .second, .val (.int (1 : Int32)), .val (.int (1 : Int32)), .unset] []))
      refine own_of (fun _ hh_ => XS.iconst X8.here hx rfl (hb hby at_118) hh_) ?_
      show own_Run p e below s _ _ _ (T8.setTop (mkF m 119 #[.val (.long c1), .second, .val (.long r1), .second, .val (.long vq), .second, .val (.long ve), .second, .val (.long s1), .second, .val (.long cnt), .second, .val (.long row), .second, .val (.long pp), .second, .val (.long (own_minL s1 ve)), .second, .val (.ref ob3), .val (.long (own_af ve row cnt)), .second, .val (.int (1 : Int32)), .val (.int (1 : Int32)), .unset] [(.int (1 : Int32))]))
      refine own_of (fun _ hh_ => XS.goto X8.here hx rfl (pc0 := 119) (pc' := 123) rfl (hb hby at_119) (by decide) (by decide) hh_) ?_
      show own_Run p e below s _ _ _ (T8.setTop (mkF m 123 #[.val (.long c1), .second, .val (.long r1), .second, .val (.long vq), .second, .val (.long ve), .second, .val (.long s1), .second, .val (.long cnt), .second, .val (.long row), .second, .val (.long pp), .second, .val (.long (own_minL s1 ve)), .second, .val (.ref ob3), .val (.long (own_af ve row cnt)), .second, .val (.int (1 : Int32)), .val (.int (1 : Int32)), .unset] [(.int (1 : Int32))]))
      refine own_of (fun _ hh_ => XS.istore X8.here hx rfl (hb hby at_123) rfl (l' := #[.val (.long c1), .second, .val (.long r1), .second, .val (.long vq), .second, .val (.long ve), .second, .val (.long s1), .second, .val (.long cnt), .second, .val (.long row), .second, .val (.long pp), .second, .val (.long (own_minL s1 ve)), .second, .val (.ref ob3), .val (.long (own_af ve row cnt)), .second, .val (.int (1 : Int32)), .val (.int (1 : Int32)), .val (.int (1 : Int32))]) rfl hh_) ?_
      show own_Run p e below s _ _ _ (T8.setTop (mkF m 125 #[.val (.long c1), .second, .val (.long r1), .second, .val (.long vq), .second, .val (.long ve), .second, .val (.long s1), .second, .val (.long cnt), .second, .val (.long row), .second, .val (.long pp), .second, .val (.long (own_minL s1 ve)), .second, .val (.ref ob3), .val (.long (own_af ve row cnt)), .second, .val (.int (1 : Int32)), .val (.int (1 : Int32)), .val (.int (1 : Int32))] []))
      refine own_of (fun _ hh_ => XS.iload X8.here hx rfl (hb hby at_125) rfl hh_) ?_
      show own_Run p e below s _ _ _ (T8.setTop (mkF m 127 #[.val (.long c1), .second, .val (.long r1), .second, .val (.long vq), .second, .val (.long ve), .second, .val (.long s1), .second, .val (.long cnt), .second, .val (.long row), .second, .val (.long pp), .second, .val (.long (own_minL s1 ve)), .second, .val (.ref ob3), .val (.long (own_af ve row cnt)), .second, .val (.int (1 : Int32)), .val (.int (1 : Int32)), .val (.int (1 : Int32))] [(.int (1 : Int32))]))
      refine own_of (fun _ hh_ => XS.ifNo X8.here hx rfl (hb hby at_127) rfl ((if0 _ _).trans (by decide)) hh_) ?_
      show own_Run p e below s _ _ _ (T8.setTop (mkF m 130 #[.val (.long c1), .second, .val (.long r1), .second, .val (.long vq), .second, .val (.long ve), .second, .val (.long s1), .second, .val (.long cnt), .second, .val (.long row), .second, .val (.long pp), .second, .val (.long (own_minL s1 ve)), .second, .val (.ref ob3), .val (.long (own_af ve row cnt)), .second, .val (.int (1 : Int32)), .val (.int (1 : Int32)), .val (.int (1 : Int32))] []))
      refine own_of (fun _ hh_ => XS.iload X8.here hx rfl (hb hby at_130) rfl hh_) ?_
      show own_Run p e below s _ _ _ (T8.setTop (mkF m 132 #[.val (.long c1), .second, .val (.long r1), .second, .val (.long vq), .second, .val (.long ve), .second, .val (.long s1), .second, .val (.long cnt), .second, .val (.long row), .second, .val (.long pp), .second, .val (.long (own_minL s1 ve)), .second, .val (.ref ob3), .val (.long (own_af ve row cnt)), .second, .val (.int (1 : Int32)), .val (.int (1 : Int32)), .val (.int (1 : Int32))] [(.int (1 : Int32))]))
      refine own_of (fun _ hh_ => XS.iload X8.here hx rfl (hb hby at_132) rfl hh_) ?_
      show own_Run p e below s _ _ _ (T8.setTop (mkF m 134 #[.val (.long c1), .second, .val (.long r1), .second, .val (.long vq), .second, .val (.long ve), .second, .val (.long s1), .second, .val (.long cnt), .second, .val (.long row), .second, .val (.long pp), .second, .val (.long (own_minL s1 ve)), .second, .val (.ref ob3), .val (.long (own_af ve row cnt)), .second, .val (.int (1 : Int32)), .val (.int (1 : Int32)), .val (.int (1 : Int32))] [(.int (1 : Int32)), (.int (1 : Int32))]))
      refine own_of (fun _ hh_ => XS.icmpNo X8.here hx rfl (hb hby at_134) rfl (by decide) hh_) ?_
      show own_Run p e below s _ _ _ (T8.setTop (mkF m 137 #[.val (.long c1), .second, .val (.long r1), .second, .val (.long vq), .second, .val (.long ve), .second, .val (.long s1), .second, .val (.long cnt), .second, .val (.long row), .second, .val (.long pp), .second, .val (.long (own_minL s1 ve)), .second, .val (.ref ob3), .val (.long (own_af ve row cnt)), .second, .val (.int (1 : Int32)), .val (.int (1 : Int32)), .val (.int (1 : Int32))] []))
      refine own_of (fun _ hh_ => XS.iconst X8.here hx rfl (hb hby at_137) hh_) ?_
      show own_Run p e below s _ _ _ (T8.setTop (mkF m 138 #[.val (.long c1), .second, .val (.long r1), .second, .val (.long vq), .second, .val (.long ve), .second, .val (.long s1), .second, .val (.long cnt), .second, .val (.long row), .second, .val (.long pp), .second, .val (.long (own_minL s1 ve)), .second, .val (.ref ob3), .val (.long (own_af ve row cnt)), .second, .val (.int (1 : Int32)), .val (.int (1 : Int32)), .val (.int (1 : Int32))] [(.int (1 : Int32))]))
      refine own_of (fun _ hh_ => XS.goto X8.here hx rfl (pc0 := 138) (pc' := 142) rfl (hb hby at_138) (by decide) (by decide) hh_) ?_
      show own_Run p e below s _ _ _ (T8.setTop (mkF m 142 #[.val (.long c1), .second, .val (.long r1), .second, .val (.long vq), .second, .val (.long ve), .second, .val (.long s1), .second, .val (.long cnt), .second, .val (.long row), .second, .val (.long pp), .second, .val (.long (own_minL s1 ve)), .second, .val (.ref ob3), .val (.long (own_af ve row cnt)), .second, .val (.int (1 : Int32)), .val (.int (1 : Int32)), .val (.int (1 : Int32))] [(.int (1 : Int32))]))
      exact own_retN X8 hx (t := .boolean) hret hlk (by simp) (hb hby at_142) ⟨rfl, N8⟩ (by decide) (by decide)
    · refine own_of (fun _ hh_ => XS.ifYes X8.here hx rfl (pc0 := 97) (pc' := 104) rfl (hb hby at_97) rfl ((if0 _ _).trans (flt (fun q_ => hc97_11 ((lw_lt _ _).mp q_))).2.1) (by decide) (by decide) hh_) ?_
      show own_Run p e below s _ _ _ (T8.setTop (mkF m 104 #[.val (.long c1), .second, .val (.long r1), .second, .val (.long vq), .second, .val (.long ve), .second, .val (.long s1), .second, .val (.long cnt), .second, .val (.long row), .second, .val (.long pp), .second, .val (.long (own_minL s1 ve)), .second, .val (.ref ob3), .val (.long (own_af ve row cnt)), .second, .val (.int (1 : Int32)), .unset, .unset] []))
      refine own_of (fun _ hh_ => XS.iconst X8.here hx rfl (hb hby at_104) hh_) ?_
      show own_Run p e below s _ _ _ (T8.setTop (mkF m 105 #[.val (.long c1), .second, .val (.long r1), .second, .val (.long vq), .second, .val (.long ve), .second, .val (.long s1), .second, .val (.long cnt), .second, .val (.long row), .second, .val (.long pp), .second, .val (.long (own_minL s1 ve)), .second, .val (.ref ob3), .val (.long (own_af ve row cnt)), .second, .val (.int (1 : Int32)), .unset, .unset] [(.int (0 : Int32))]))
      refine own_of (fun _ hh_ => XS.istore X8.here hx rfl (hb hby at_105) rfl (l' := #[.val (.long c1), .second, .val (.long r1), .second, .val (.long vq), .second, .val (.long ve), .second, .val (.long s1), .second, .val (.long cnt), .second, .val (.long row), .second, .val (.long pp), .second, .val (.long (own_minL s1 ve)), .second, .val (.ref ob3), .val (.long (own_af ve row cnt)), .second, .val (.int (1 : Int32)), .val (.int (0 : Int32)), .unset]) rfl hh_) ?_
      show own_Run p e below s _ _ _ (T8.setTop (mkF m 107 #[.val (.long c1), .second, .val (.long r1), .second, .val (.long vq), .second, .val (.long ve), .second, .val (.long s1), .second, .val (.long cnt), .second, .val (.long row), .second, .val (.long pp), .second, .val (.long (own_minL s1 ve)), .second, .val (.ref ob3), .val (.long (own_af ve row cnt)), .second, .val (.int (1 : Int32)), .val (.int (0 : Int32)), .unset] []))
      refine own_of (fun _ hh_ => XS.lload X8.here hx rfl (hb hby at_107) rfl hh_) ?_
      show own_Run p e below s _ _ _ (T8.setTop (mkF m 109 #[.val (.long c1), .second, .val (.long r1), .second, .val (.long vq), .second, .val (.long ve), .second, .val (.long s1), .second, .val (.long cnt), .second, .val (.long row), .second, .val (.long pp), .second, .val (.long (own_minL s1 ve)), .second, .val (.ref ob3), .val (.long (own_af ve row cnt)), .second, .val (.int (1 : Int32)), .val (.int (0 : Int32)), .unset] [(.long pp)]))
      refine own_of (fun _ hh_ => XS.lload X8.here hx rfl (hb hby at_109) rfl hh_) ?_
      show own_Run p e below s _ _ _ (T8.setTop (mkF m 111 #[.val (.long c1), .second, .val (.long r1), .second, .val (.long vq), .second, .val (.long ve), .second, .val (.long s1), .second, .val (.long cnt), .second, .val (.long row), .second, .val (.long pp), .second, .val (.long (own_minL s1 ve)), .second, .val (.ref ob3), .val (.long (own_af ve row cnt)), .second, .val (.int (1 : Int32)), .val (.int (0 : Int32)), .unset] [(.long row), (.long pp)]))
      refine own_of (fun _ hh_ => XS.lsub X8.here hx rfl (hb hby at_111) rfl hh_) ?_
      show own_Run p e below s _ _ _ (T8.setTop (mkF m 112 #[.val (.long c1), .second, .val (.long r1), .second, .val (.long vq), .second, .val (.long ve), .second, .val (.long s1), .second, .val (.long cnt), .second, .val (.long row), .second, .val (.long pp), .second, .val (.long (own_minL s1 ve)), .second, .val (.ref ob3), .val (.long (own_af ve row cnt)), .second, .val (.int (1 : Int32)), .val (.int (0 : Int32)), .unset] [(.long (pp - row))]))
      refine own_of (fun _ hh_ => XS.lload X8.here hx rfl (hb hby at_112) rfl hh_) ?_
      show own_Run p e below s _ _ _ (T8.setTop (mkF m 114 #[.val (.long c1), .second, .val (.long r1), .second, .val (.long vq), .second, .val (.long ve), .second, .val (.long s1), .second, .val (.long cnt), .second, .val (.long row), .second, .val (.long pp), .second, .val (.long (own_minL s1 ve)), .second, .val (.ref ob3), .val (.long (own_af ve row cnt)), .second, .val (.int (1 : Int32)), .val (.int (0 : Int32)), .unset] [(.long ve), (.long (pp - row))]))
      refine own_of (fun _ hh_ => XS.lcmp X8.here hx rfl (hb hby at_114) rfl hh_) ?_
      show own_Run p e below s _ _ _ (T8.setTop (mkF m 115 #[.val (.long c1), .second, .val (.long r1), .second, .val (.long vq), .second, .val (.long ve), .second, .val (.long s1), .second, .val (.long cnt), .second, .val (.long row), .second, .val (.long pp), .second, .val (.long (own_minL s1 ve)), .second, .val (.ref ob3), .val (.long (own_af ve row cnt)), .second, .val (.int (1 : Int32)), .val (.int (0 : Int32)), .unset] [(.int (lcmpW (pp - row) ve))]))
      have hc115_13 : ve < (pp - row) := Decidable.of_not_not (mt (own_t3 ve row cnt pp rrow.1 rrow.2 rpp.1 rpp.2).mpr hc97_11)
      refine own_of (fun _ hh_ => XS.ifYes X8.here hx rfl (pc0 := 115) (pc' := 122) rfl (hb hby at_115) rfl ((if0 _ _).trans (tlt ((lw_gt _ _).mpr hc115_13)).2.2.1) (by decide) (by decide) hh_) ?_
      show own_Run p e below s _ _ _ (T8.setTop (mkF m 122 #[.val (.long c1), .second, .val (.long r1), .second, .val (.long vq), .second, .val (.long ve), .second, .val (.long s1), .second, .val (.long cnt), .second, .val (.long row), .second, .val (.long pp), .second, .val (.long (own_minL s1 ve)), .second, .val (.ref ob3), .val (.long (own_af ve row cnt)), .second, .val (.int (1 : Int32)), .val (.int (0 : Int32)), .unset] []))
      refine own_of (fun _ hh_ => XS.iconst X8.here hx rfl (hb hby at_122) hh_) ?_
      show own_Run p e below s _ _ _ (T8.setTop (mkF m 123 #[.val (.long c1), .second, .val (.long r1), .second, .val (.long vq), .second, .val (.long ve), .second, .val (.long s1), .second, .val (.long cnt), .second, .val (.long row), .second, .val (.long pp), .second, .val (.long (own_minL s1 ve)), .second, .val (.ref ob3), .val (.long (own_af ve row cnt)), .second, .val (.int (1 : Int32)), .val (.int (0 : Int32)), .unset] [(.int (0 : Int32))]))
      refine own_of (fun _ hh_ => XS.istore X8.here hx rfl (hb hby at_123) rfl (l' := #[.val (.long c1), .second, .val (.long r1), .second, .val (.long vq), .second, .val (.long ve), .second, .val (.long s1), .second, .val (.long cnt), .second, .val (.long row), .second, .val (.long pp), .second, .val (.long (own_minL s1 ve)), .second, .val (.ref ob3), .val (.long (own_af ve row cnt)), .second, .val (.int (1 : Int32)), .val (.int (0 : Int32)), .val (.int (0 : Int32))]) rfl hh_) ?_
      show own_Run p e below s _ _ _ (T8.setTop (mkF m 125 #[.val (.long c1), .second, .val (.long r1), .second, .val (.long vq), .second, .val (.long ve), .second, .val (.long s1), .second, .val (.long cnt), .second, .val (.long row), .second, .val (.long pp), .second, .val (.long (own_minL s1 ve)), .second, .val (.ref ob3), .val (.long (own_af ve row cnt)), .second, .val (.int (1 : Int32)), .val (.int (0 : Int32)), .val (.int (0 : Int32))] []))
      refine own_of (fun _ hh_ => XS.iload X8.here hx rfl (hb hby at_125) rfl hh_) ?_
      show own_Run p e below s _ _ _ (T8.setTop (mkF m 127 #[.val (.long c1), .second, .val (.long r1), .second, .val (.long vq), .second, .val (.long ve), .second, .val (.long s1), .second, .val (.long cnt), .second, .val (.long row), .second, .val (.long pp), .second, .val (.long (own_minL s1 ve)), .second, .val (.ref ob3), .val (.long (own_af ve row cnt)), .second, .val (.int (1 : Int32)), .val (.int (0 : Int32)), .val (.int (0 : Int32))] [(.int (1 : Int32))]))
      refine own_of (fun _ hh_ => XS.ifNo X8.here hx rfl (hb hby at_127) rfl ((if0 _ _).trans (by decide)) hh_) ?_
      show own_Run p e below s _ _ _ (T8.setTop (mkF m 130 #[.val (.long c1), .second, .val (.long r1), .second, .val (.long vq), .second, .val (.long ve), .second, .val (.long s1), .second, .val (.long cnt), .second, .val (.long row), .second, .val (.long pp), .second, .val (.long (own_minL s1 ve)), .second, .val (.ref ob3), .val (.long (own_af ve row cnt)), .second, .val (.int (1 : Int32)), .val (.int (0 : Int32)), .val (.int (0 : Int32))] []))
      refine own_of (fun _ hh_ => XS.iload X8.here hx rfl (hb hby at_130) rfl hh_) ?_
      show own_Run p e below s _ _ _ (T8.setTop (mkF m 132 #[.val (.long c1), .second, .val (.long r1), .second, .val (.long vq), .second, .val (.long ve), .second, .val (.long s1), .second, .val (.long cnt), .second, .val (.long row), .second, .val (.long pp), .second, .val (.long (own_minL s1 ve)), .second, .val (.ref ob3), .val (.long (own_af ve row cnt)), .second, .val (.int (1 : Int32)), .val (.int (0 : Int32)), .val (.int (0 : Int32))] [(.int (0 : Int32))]))
      refine own_of (fun _ hh_ => XS.iload X8.here hx rfl (hb hby at_132) rfl hh_) ?_
      show own_Run p e below s _ _ _ (T8.setTop (mkF m 134 #[.val (.long c1), .second, .val (.long r1), .second, .val (.long vq), .second, .val (.long ve), .second, .val (.long s1), .second, .val (.long cnt), .second, .val (.long row), .second, .val (.long pp), .second, .val (.long (own_minL s1 ve)), .second, .val (.ref ob3), .val (.long (own_af ve row cnt)), .second, .val (.int (1 : Int32)), .val (.int (0 : Int32)), .val (.int (0 : Int32))] [(.int (0 : Int32)), (.int (0 : Int32))]))
      refine own_of (fun _ hh_ => XS.icmpNo X8.here hx rfl (hb hby at_134) rfl (by decide) hh_) ?_
      show own_Run p e below s _ _ _ (T8.setTop (mkF m 137 #[.val (.long c1), .second, .val (.long r1), .second, .val (.long vq), .second, .val (.long ve), .second, .val (.long s1), .second, .val (.long cnt), .second, .val (.long row), .second, .val (.long pp), .second, .val (.long (own_minL s1 ve)), .second, .val (.ref ob3), .val (.long (own_af ve row cnt)), .second, .val (.int (1 : Int32)), .val (.int (0 : Int32)), .val (.int (0 : Int32))] []))
      refine own_of (fun _ hh_ => XS.iconst X8.here hx rfl (hb hby at_137) hh_) ?_
      show own_Run p e below s _ _ _ (T8.setTop (mkF m 138 #[.val (.long c1), .second, .val (.long r1), .second, .val (.long vq), .second, .val (.long ve), .second, .val (.long s1), .second, .val (.long cnt), .second, .val (.long row), .second, .val (.long pp), .second, .val (.long (own_minL s1 ve)), .second, .val (.ref ob3), .val (.long (own_af ve row cnt)), .second, .val (.int (1 : Int32)), .val (.int (0 : Int32)), .val (.int (0 : Int32))] [(.int (1 : Int32))]))
      refine own_of (fun _ hh_ => XS.goto X8.here hx rfl (pc0 := 138) (pc' := 142) rfl (hb hby at_138) (by decide) (by decide) hh_) ?_
      show own_Run p e below s _ _ _ (T8.setTop (mkF m 142 #[.val (.long c1), .second, .val (.long r1), .second, .val (.long vq), .second, .val (.long ve), .second, .val (.long s1), .second, .val (.long cnt), .second, .val (.long row), .second, .val (.long pp), .second, .val (.long (own_minL s1 ve)), .second, .val (.ref ob3), .val (.long (own_af ve row cnt)), .second, .val (.int (1 : Int32)), .val (.int (0 : Int32)), .val (.int (0 : Int32))] [(.int (1 : Int32))]))
      exact own_retN X8 hx (t := .boolean) hret hlk (by simp) (hb hby at_142) ⟨rfl, N8⟩ (by decide) (by decide)
set_option maxRecDepth 65536 in
set_option maxHeartbeats 40000000 in
theorem comes_1 {Post : Tables → Env → Array Value → State → Outcome → State → Prop} (hpost : ∀ tb e args s v u, (limb_1_1.after args s (.returned v) u = true ∧ limb_1_2.after args s (.returned v) u = true ∧ True) → FrameEnd s (.returned v) u (Jvm.fieldLocs frame_1_writes args s ++ Jvm.arrayLocs frame_1_arrays args s ++ Jvm.staticLocs frame_1_statics s) 16 128 → Post tb e args s (.returned v) u) :
    ArmFor flags0 classFile x code maxLocals ret World_1 tables_1 room_1 Calls_1 rest_1 Pre_1 Post := by
  intro l hfl _ _ p e ha hc hk s m args below hf hA hF happ hP
  obtain ⟨hcalls, hrest, hpre⟩ := hP
  obtain ⟨-, -, -, hnamed, -, -, -, hat⟩ := (Spec.applies_iff hf).mp happ
  obtain ⟨hg, hn⟩ := and_e (Cond.before_iff.mp (show (Jvm.Cond.and given_1 narrow_1).before args s = true from hpre))
  obtain ⟨gg1, gg2⟩ := and_e hg
  obtain ⟨gg3, gg4⟩ := and_e gg2
  obtain ⟨gg5, gg6⟩ := and_e gg4
  obtain ⟨gg7, gg8⟩ := and_e gg6
  obtain ⟨gg9, gg10⟩ := and_e gg8
  obtain ⟨w0, w1, w2, w3, w4, rfl⟩ : ∃ w0 w1 w2 w3 w4 : Value, args = #[w0, w1, w2, w3, w4] := by
    have hs : args.size = 5 := by simpa [Cond.value, given_1] using gg1
    obtain ⟨L⟩ := args
    match L, hs with
    | [w0, w1, w2, w3, w4], _ => exact ⟨w0, w1, w2, w3, w4, rfl⟩
  have hw := fun d (hd : d ∈ tables_1) => atoms_spec (ws := Jvm.Cond.code x code maxLocals ret :: tables_1) hat d (List.mem_cons_of_mem _ hd)
  obtain ⟨i0, ei0⟩ := isL_v gg3
  obtain rfl : w0 = (.long i0) := Option.some.inj ei0
  obtain ⟨i1, ei1⟩ := isL_v gg5
  obtain rfl : w1 = (.long i1) := Option.some.inj ei1
  obtain ⟨i2, ei2⟩ := isL_v gg7
  obtain rfl : w2 = (.long i2) := Option.some.inj ei2
  obtain ⟨i3, ei3⟩ := isL_v gg9
  obtain rfl : w3 = (.long i3) := Option.some.inj ei3
  obtain ⟨i4, ei4⟩ := isL_v gg10
  obtain rfl : w4 = (.long i4) := Option.some.inj ei4
  obtain ⟨n, o, h1, h2, h3, _, L, rfl, ⟨rfl, N⟩, hq⟩ := rm0 l s _ hw tables_1 i0 i1 i2 i3 i4  s.heap s.heap.size (Nat.le_refl _)  p e ha hc hk s m _ below hf ((Spec.applies_iff_loose hf).mp happ).1 ⟨rfl, State.Warmed39.refl s, rfl⟩ trivial
  refine ⟨n, _, h1, h2, h3, hpost _ _ _ _ _ _ ⟨Cond.after_iff.mpr rfl, Cond.after_iff.mpr (eq_i res_at (Term.int_eval (1)) rfl), trivial⟩ ⟨hq.1, hq.2.1, (hq.2.2.sift fun y hy => Or.inr (N y hy)).mono (by decide) (by decide)⟩⟩
theorem main_1_1 : Claimed_1_1 := comes_1 fun _ _ _ _ _ _ h hF => ⟨h.1, hF⟩
theorem main_1_2 : Claimed_1_2 := comes_1 fun _ _ _ _ _ _ h hF => ⟨h.2.1, hF⟩
end Jvm.Pilot.@@N@@
namespace Jvm.Pilot.@@N@@
open Jvm Jvm.ClassFile Sem Op Lib Jvm.Free Jvm.Stand Jvm.Pilot.@@N@@.Jvm.D
/-! MADE BY PROGRAM (witnessworld.py) out of the Statement's table words and the real class files: 11 classes; the members and pool entries that the words name. The judged class is class 1, her method 1. -/
namespace start1
open Jvm.ClassFile
def u (s : String) : CpInfo := .utf8 (stringToUtf16 s)
/-- a pool by its gaps: so many unusable entries, then the entry; so many at the end -/
def gap : Nat → List CpInfo → List CpInfo
  | 0, r => r
  | n + 1, r => .unusable :: gap n r
def poolList (es : List (Nat × CpInfo)) (last : Nat) : List CpInfo := es.foldr (fun e r => gap e.1 (e.2 :: r)) (gap last [])
def pool (es : List (Nat × CpInfo)) (last : Nat) : Array CpInfo := ⟨poolList es last⟩
def fileOf (pool : Array CpInfo) (this : Nat) (attrs : Array Attribute := #[]) (ms : Array MethodInfo := #[]) (fl : Nat := 33) (sup : Nat := 0) (ifs : Array Nat := #[]) (fds : Array FieldInfo := #[]) : ClassFile where
  minorVersion := 0
  majorVersion := 65
  constantPool := pool
  accessFlags := fl
  thisClass := this
  superClass := sup
  interfaces := ifs
  fields := fds
  methods := ms
  attributes := attrs
def plain (name : String) (sup : Option ClassId) : Class where
  name := name
  kind := .ordinary
  loader := none
  accessFlags := 33
  super := sup
  interfaces := #[]
  cf := none
  fields := #[]
  methods := #[]
  instanceTypes := #[]
  staticTypes := #[]
  resolved := #[]
  callSites := []
  init := .initialized
  statics := none
  mirror := none

def pool0 : Array CpInfo := pool [(5, u "<init>"), (0, u "()V"), (1, .class_ 10), (1, u "java/lang/Object")] 113

def k0c0 : Code := { maxStack := 0, maxLocals := 1, code := object_method_1_code, exceptionTable := #[], attributes := #[] }
def k0m0 : Method := { name := "<init>", desc := "()V", sig := { parameters := [], returnType := none }, accessFlags := 1, code := some k0c0 }
/-- java/lang/Object -/
def k0 : Class := { plain "java/lang/Object" none with
  accessFlags := 33
  interfaces := #[]
  cf := some (fileOf pool0 8 #[] #[{ accessFlags := 1, nameIndex := 5, descriptorIndex := 6, attributes := #[] }] 33 0 #[] #[])
  fields := #[]
  methods := #[k0m0]
  instanceTypes := #[]
  staticTypes := #[]
  resolved := Array.replicate 124 none
  statics := none }

def pool1 : Array CpInfo := pool [(2, .class_ 4), (1, u "java/lang/Object"), (0, u "<init>"), (0, u "()V"), (2, .long 9223372036854775807), (1, .methodref 12 13), (0, .class_ 14), (0, .nameAndType 15 16), (0, u "java/lang/Math"), (0, u "min"), (0, u "(JJ)J"), (0, .class_ 18), (0, u "com/example/oriel/oriel/window/Frame"), (0, .methodref 17 20), (0, .nameAndType 5 21), (0, u "(JJ)V"), (0, .methodref 17 23), (0, .nameAndType 24 16), (0, u "after"), (0, .class_ 26), (0, u "com/example/oriel/oriel/window/FrameAfterPinLaw"), (2, u "law"), (0, u "(JJJJJ)Z")] 3

def k1m0 : Method := { name := "<init>", desc := "()V", sig := { parameters := [], returnType := none }, accessFlags := 1, code := none }
def k1c1 : Code := { maxStack := 6, maxLocals := 24, code := code, exceptionTable := #[], attributes := #[] }
def k1m1 : Method := { name := "law", desc := "(JJJJJ)Z", sig := { parameters := [.long, .long, .long, .long, .long], returnType := some .boolean }, accessFlags := 9, code := some k1c1 }
/-- com/example/oriel/oriel/window/FrameAfterPinLaw -/
def k1 : Class := { plain "com/example/oriel/oriel/window/FrameAfterPinLaw" (some 0) with
  accessFlags := 49
  interfaces := #[]
  cf := some (fileOf pool1 25 #[] #[{ accessFlags := 1, nameIndex := 5, descriptorIndex := 6, attributes := #[] }, { accessFlags := 9, nameIndex := 29, descriptorIndex := 30, attributes := #[] }] 49 2 #[] #[])
  fields := #[]
  methods := #[k1m0, k1m1]
  instanceTypes := #[]
  staticTypes := #[]
  resolved := Array.replicate 34 none
  statics := none }

def pool2 : Array CpInfo := pool [(1, .class_ 2), (0, u "java/lang/Math"), (1, .class_ 6), (1, u "java/lang/Object"), (0, u "<init>"), (0, u "()V"), (89, .class_ 100), (1, u "java/lang/Math$RandomNumberGeneratorHolder"), (20, u "(JJ)J"), (50, u "negativeZeroFloatBits"), (0, u "J"), (2, u "negativeZeroDoubleBits"), (24, u "min"), (43, u "$assertionsDisabled"), (0, u "Z"), (91, u "twoToTheDoubleScaleDown"), (0, u "D"), (4, u "twoToTheDoubleScaleUp"), (9, u "E"), (3, u "PI"), (2, u "TAU"), (2, u "DEGREES_TO_RADIANS"), (0, u "RADIANS_TO_DEGREES")] 94

def k2m0 : Method := { name := "<init>", desc := "()V", sig := { parameters := [], returnType := none }, accessFlags := 2, code := none }
def k2c1 : Code := { maxStack := 4, maxLocals := 4, code := jdk_29_method_70_code, exceptionTable := #[], attributes := #[] }
def k2m1 : Method := { name := "min", desc := "(JJ)J", sig := { parameters := [.long, .long], returnType := some .long }, accessFlags := 9, code := some k2c1 }
/-- java/lang/Math -/
def k2 : Class := { plain "java/lang/Math" (some 0) with
  accessFlags := 49
  interfaces := #[]
  cf := some (fileOf pool2 1 #[.nestMembers #[98]] #[{ accessFlags := 2, nameIndex := 7, descriptorIndex := 8, attributes := #[] }, { accessFlags := 9, nameIndex := 201, descriptorIndex := 121, attributes := #[] }] 49 4 #[] #[{ accessFlags := 25, nameIndex := 354, descriptorIndex := 339, attributes := #[] }, { accessFlags := 25, nameIndex := 358, descriptorIndex := 339, attributes := #[] }, { accessFlags := 25, nameIndex := 361, descriptorIndex := 339, attributes := #[] }, { accessFlags := 26, nameIndex := 364, descriptorIndex := 339, attributes := #[] }, { accessFlags := 26, nameIndex := 365, descriptorIndex := 339, attributes := #[] }, { accessFlags := 26, nameIndex := 172, descriptorIndex := 173, attributes := #[] }, { accessFlags := 26, nameIndex := 176, descriptorIndex := 173, attributes := #[] }, { accessFlags := 8, nameIndex := 344, descriptorIndex := 339, attributes := #[] }, { accessFlags := 8, nameIndex := 338, descriptorIndex := 339, attributes := #[] }, { accessFlags := 4120, nameIndex := 245, descriptorIndex := 246, attributes := #[] }])
  fields := #[{ name := "E", type := .double, accessFlags := 25, slot := 0, constantValue := 0 }, { name := "PI", type := .double, accessFlags := 25, slot := 1, constantValue := 0 }, { name := "TAU", type := .double, accessFlags := 25, slot := 2, constantValue := 0 }, { name := "DEGREES_TO_RADIANS", type := .double, accessFlags := 26, slot := 3, constantValue := 0 }, { name := "RADIANS_TO_DEGREES", type := .double, accessFlags := 26, slot := 4, constantValue := 0 }, { name := "negativeZeroFloatBits", type := .long, accessFlags := 26, slot := 5, constantValue := 0 }, { name := "negativeZeroDoubleBits", type := .long, accessFlags := 26, slot := 6, constantValue := 0 }, { name := "twoToTheDoubleScaleUp", type := .double, accessFlags := 8, slot := 7, constantValue := 0 }, { name := "twoToTheDoubleScaleDown", type := .double, accessFlags := 8, slot := 8, constantValue := 0 }, { name := "$assertionsDisabled", type := .boolean, accessFlags := 4120, slot := 9, constantValue := 0 }]
  methods := #[k2m0, k2m1]
  instanceTypes := #[]
  staticTypes := #[.double, .double, .double, .double, .double, .long, .long, .double, .double, .boolean]
  resolved := Array.replicate 460 none
  statics := none }

def pool3 : Array CpInfo := pool [(1, .methodref 2 3), (0, .class_ 4), (0, .nameAndType 5 6), (0, u "java/lang/Object"), (0, u "<init>"), (0, u "()V"), (0, .class_ 8), (0, u "java/lang/Record")] 13

def k3c0 : Code := { maxStack := 1, maxLocals := 1, code := jdk_30_method_1_code, exceptionTable := #[], attributes := #[] }
def k3m0 : Method := { name := "<init>", desc := "()V", sig := { parameters := [], returnType := none }, accessFlags := 4, code := some k3c0 }
/-- java/lang/Record -/
def k3 : Class := { plain "java/lang/Record" (some 0) with
  accessFlags := 1057
  interfaces := #[]
  cf := some (fileOf pool3 7 #[] #[{ accessFlags := 4, nameIndex := 5, descriptorIndex := 6, attributes := #[] }] 1057 2 #[] #[])
  fields := #[]
  methods := #[k3m0]
  instanceTypes := #[]
  staticTypes := #[]
  resolved := Array.replicate 22 none
  statics := none }

def pool4 : Array CpInfo := pool [(3, .methodref 4 5), (0, .class_ 6), (0, .nameAndType 7 8), (0, u "java/lang/Record"), (0, u "<init>"), (0, u "()V"), (3, .class_ 14), (1, u "com/example/oriel/oriel/window/Frame"), (9, .fieldref 12 25), (0, .nameAndType 26 27), (0, u "start"), (0, u "J"), (0, .fieldref 12 29), (0, .nameAndType 30 27), (0, u "end"), (25, u "UNBOUNDED_PRECEDING"), (1, u "UNBOUNDED_FOLLOWING"), (0, u "(JJ)V"), (12, u "(JJ)J"), (0, u "after")] 37

def k4c0 : Code := { maxStack := 5, maxLocals := 5, code := prog_105_method_1_code, exceptionTable := #[], attributes := #[] }
def k4m0 : Method := { name := "<init>", desc := "(JJ)V", sig := { parameters := [.long, .long], returnType := none }, accessFlags := 1, code := some k4c0 }
def k4c1 : Code := { maxStack := 6, maxLocals := 7, code := prog_105_method_7_code, exceptionTable := #[], attributes := #[] }
def k4m1 : Method := { name := "after", desc := "(JJ)J", sig := { parameters := [.long, .long], returnType := some .long }, accessFlags := 1, code := some k4c1 }
/-- com/example/oriel/oriel/window/Frame -/
def k4 : Class := { plain "com/example/oriel/oriel/window/Frame" (some 3) with
  accessFlags := 49
  interfaces := #[]
  cf := some (fileOf pool4 12 #[] #[{ accessFlags := 1, nameIndex := 7, descriptorIndex := 59, attributes := #[] }, { accessFlags := 1, nameIndex := 73, descriptorIndex := 72, attributes := #[] }] 49 4 #[] #[{ accessFlags := 18, nameIndex := 26, descriptorIndex := 27, attributes := #[] }, { accessFlags := 18, nameIndex := 30, descriptorIndex := 27, attributes := #[] }, { accessFlags := 25, nameIndex := 56, descriptorIndex := 27, attributes := #[] }, { accessFlags := 25, nameIndex := 58, descriptorIndex := 27, attributes := #[] }])
  fields := #[{ name := "start", type := .long, accessFlags := 18, slot := 0, constantValue := 0 }, { name := "end", type := .long, accessFlags := 18, slot := 1, constantValue := 0 }, { name := "UNBOUNDED_PRECEDING", type := .long, accessFlags := 25, slot := 0, constantValue := 0 }, { name := "UNBOUNDED_FOLLOWING", type := .long, accessFlags := 25, slot := 1, constantValue := 0 }]
  methods := #[k4m0, k4m1]
  instanceTypes := #[.long, .long]
  staticTypes := #[.long, .long]
  resolved := Array.replicate 111 none
  statics := none }

def pool5 : Array CpInfo := pool [(1, u "java/lang/Cloneable"), (0, .class_ 1), (0, u "java/lang/Object"), (0, .class_ 3)] 3

/-- java/lang/Cloneable -/
def k5 : Class := { plain "java/lang/Cloneable" (some 0) with
  accessFlags := 1537
  interfaces := #[]
  cf := some (fileOf pool5 2 #[] #[] 1537 4 #[] #[])
  fields := #[]
  methods := #[]
  instanceTypes := #[]
  staticTypes := #[]
  resolved := Array.replicate 8 none
  statics := none }

def pool6 : Array CpInfo := pool [(1, u "java/io/Serializable"), (0, .class_ 1), (0, u "java/lang/Object"), (0, .class_ 3)] 3

/-- java/io/Serializable -/
def k6 : Class := { plain "java/io/Serializable" (some 0) with
  accessFlags := 1537
  interfaces := #[]
  cf := some (fileOf pool6 2 #[] #[] 1537 4 #[] #[])
  fields := #[]
  methods := #[]
  instanceTypes := #[]
  staticTypes := #[]
  resolved := Array.replicate 8 none
  statics := none }

/-- the primitive byte -/
def k7 : Class := { plain "byte" none with kind := .primitive 'B', accessFlags := 0x411 }
/-- [B -/
def k8 : Class := { plain "[B" (some 0) with kind := .array 7 .byte, interfaces := #[5, 6], accessFlags := 1041 }

/-- the primitive int -/
def k9 : Class := { plain "int" none with kind := .primitive 'I', accessFlags := 0x411 }
/-- [I -/
def k10 : Class := { plain "[I" (some 0) with kind := .array 9 .int, interfaces := #[5, 6], accessFlags := 1041 }

def heap : Heap := #[]
def classes : Array Class := #[k0, k1, k2, k3, k4, k5, k6, k7, k8, k9, k10]
def interned : List (Array UInt16 × Addr) := []
def slotsUsed : Nat := 0
def theMethod : MethodId := ⟨1, 1⟩
def args0 : Array Value := #[.long 5, .long 5, .long 5, .long 5, .long 5]
def aboutOver (below : List Frame) : State where
  vm := { classes := classes, interned := interned.toArray }
  heap := heap
  slotsUsed := slotsUsed
  threads := #[{ frames := .invoking theMethod args0 :: below }]
def below0 : List Frame := [.native { method := ⟨0, 0⟩, args := #[] }]
def about1 : State := aboutOver below0
def p0 : Program := .bare "" "" ""
def e0 : Env := launch0.env 0 0 0
theorem w_frames : about1.frames = Frame.invoking theMethod args0 :: below0 := rfl
set_option maxRecDepth 65536 in
theorem w_args : argsFit about1.vm theMethod args0 = true := by decide +kernel
set_option maxRecDepth 65536 in
theorem w_heap : heapFits about1 = true := by decide +kernel
set_option maxRecDepth 65536 in
theorem w_runnable : about1.curStatus? = some .runnable := by decide +kernel
set_option maxRecDepth 65536 in
theorem w_alone : about1.alone = true := by decide +kernel
set_option maxRecDepth 65536 in
theorem w_named : about1.methodNamed? x = some theMethod := by decide +kernel
set_option maxRecDepth 65536 in
theorem w_hears : about1.hears theMethod below0 = true := by decide +kernel
set_option maxRecDepth 65536 in
theorem w_ripe : about1.ripe theMethod args0 below0 = true := by decide +kernel
theorem w_running : about1.status = .running := rfl
set_option maxRecDepth 65536 in
theorem w_room : about1.hasRoom e0.platform room_1 = true :=
  launch0.hasRoom_least _ room_1 (by decide +kernel) (by decide +kernel) (by decide +kernel) (by decide +kernel) (by decide +kernel) (by decide +kernel)
theorem allAtoms_all (ts : List Jvm.Cond) (a : Array Jvm.Value) (st : Jvm.State) : (allAtoms ts).before a st = ts.all (fun c => c.before a st) := by
  induction ts with
  | nil => rfl
  | cons c t ih =>
    show (Jvm.Cond.and c (allAtoms t)).before a st = _
    rw [Jvm.Cond.before_and, ih, List.all_cons]
def words1 : List Jvm.Cond := Jvm.Cond.code x code maxLocals ret :: tables_1
/-- a 'code' word, met by the world's own term for the bytes: nothing is compared byte by byte -/
theorem code_word {y : MethodName} {bytes : ByteArray} {mx : Nat} {rt : Option FieldType} {a : Array Value} {s : State} {m : MethodId} {meth : Method} {c : Code} (h1 : s.methodNamed? y = some m) (h2 : s.vm.method? m = some meth) (h3 : meth.code = some c) (h4 : c.code = bytes)
    (h5 : (c.maxLocals == mx && c.exceptionTable.isEmpty && decide (c.maxStack ≤ mostOperands) && decide (meth.sig.returnType = rt) && !meth.locks && decide (parseMethodDescriptor y.desc = some meth.sig)) = true) : (Jvm.Cond.code y bytes mx rt).before a s = true := by
  simp only [Bool.and_eq_true, beq_iff_eq, Bool.not_eq_true', decide_eq_true_eq] at h5
  obtain ⟨⟨⟨⟨⟨g1, g2⟩, g3⟩, g4⟩, g5⟩, g6⟩ := h5
  simp [Cond.before, Cond.holds, Cond.value, h1, h2, h3, h4, g1, g2, g3, g4, g5, g6]
def isCode : Jvm.Cond → Bool
  | .code _ _ _ _ => true
  | _ => false
theorem all_split {L : List Jvm.Cond} {P : Jvm.Cond → Bool} (h1 : L.all (fun c => isCode c || P c) = true) (h2 : ∀ c ∈ L.filter isCode, P c = true) : L.all P = true := by
  refine List.all_eq_true.mpr fun c hc => ?_
  have h := List.all_eq_true.mp h1 c hc
  rcases Bool.eq_false_or_eq_true (isCode c) with hi | hi
  · exact h2 c (List.mem_filter.mpr ⟨hc, hi⟩)
  · simpa [hi] using h
set_option maxRecDepth 65536 in
theorem w_c0 : (Jvm.Cond.code x code maxLocals ret).before args0 about1 = true := code_word (m := ⟨1, 1⟩) (meth := k1m1) (c := k1c1) (by decide +kernel) rfl rfl rfl (by decide +kernel)
set_option maxRecDepth 65536 in
theorem w_c1 : (Jvm.Cond.code ({ cls := "java/lang/Math", name := "min", desc := "(JJ)J" } : Jvm.MethodName) jdk_29_method_70_code (4 : Nat) (Option.some Jvm.ClassFile.FieldType.long)).before args0 about1 = true := code_word (m := ⟨2, 1⟩) (meth := k2m1) (c := k2c1) (by decide +kernel) rfl rfl rfl (by decide +kernel)
set_option maxRecDepth 65536 in
theorem w_c2 : (Jvm.Cond.code ({ cls := "com/example/oriel/oriel/window/Frame", name := "<init>", desc := "(JJ)V" } : Jvm.MethodName) prog_105_method_1_code (5 : Nat) (Option.none : Option Jvm.ClassFile.FieldType)).before args0 about1 = true := code_word (m := ⟨4, 0⟩) (meth := k4m0) (c := k4c0) (by decide +kernel) rfl rfl rfl (by decide +kernel)
set_option maxRecDepth 65536 in
theorem w_c3 : (Jvm.Cond.code ({ cls := "java/lang/Record", name := "<init>", desc := "()V" } : Jvm.MethodName) jdk_30_method_1_code (1 : Nat) (Option.none : Option Jvm.ClassFile.FieldType)).before args0 about1 = true := code_word (m := ⟨3, 0⟩) (meth := k3m0) (c := k3c0) (by decide +kernel) rfl rfl rfl (by decide +kernel)
set_option maxRecDepth 65536 in
theorem w_c4 : (Jvm.Cond.code ({ cls := "java/lang/Object", name := "<init>", desc := "()V" } : Jvm.MethodName) object_method_1_code (1 : Nat) (Option.none : Option Jvm.ClassFile.FieldType)).before args0 about1 = true := code_word (m := ⟨0, 0⟩) (meth := k0m0) (c := k0c0) (by decide +kernel) rfl rfl rfl (by decide +kernel)
set_option maxRecDepth 65536 in
theorem w_c5 : (Jvm.Cond.code ({ cls := "com/example/oriel/oriel/window/Frame", name := "after", desc := "(JJ)J" } : Jvm.MethodName) prog_105_method_7_code (7 : Nat) (Option.some Jvm.ClassFile.FieldType.long)).before args0 about1 = true := code_word (m := ⟨4, 1⟩) (meth := k4m1) (c := k4c1) (by decide +kernel) rfl rfl rfl (by decide +kernel)
def codes1 : List Jvm.Cond := [Jvm.Cond.code x code maxLocals ret, Jvm.Cond.code ({ cls := "java/lang/Math", name := "min", desc := "(JJ)J" } : Jvm.MethodName) jdk_29_method_70_code (4 : Nat) (Option.some Jvm.ClassFile.FieldType.long), Jvm.Cond.code ({ cls := "com/example/oriel/oriel/window/Frame", name := "<init>", desc := "(JJ)V" } : Jvm.MethodName) prog_105_method_1_code (5 : Nat) (Option.none : Option Jvm.ClassFile.FieldType), Jvm.Cond.code ({ cls := "java/lang/Record", name := "<init>", desc := "()V" } : Jvm.MethodName) jdk_30_method_1_code (1 : Nat) (Option.none : Option Jvm.ClassFile.FieldType), Jvm.Cond.code ({ cls := "java/lang/Object", name := "<init>", desc := "()V" } : Jvm.MethodName) object_method_1_code (1 : Nat) (Option.none : Option Jvm.ClassFile.FieldType), Jvm.Cond.code ({ cls := "com/example/oriel/oriel/window/Frame", name := "after", desc := "(JJ)J" } : Jvm.MethodName) prog_105_method_7_code (7 : Nat) (Option.some Jvm.ClassFile.FieldType.long)]
set_option maxRecDepth 65536 in
theorem codes_eq : words1.filter isCode = codes1 := rfl
theorem w_codes : ∀ c ∈ words1.filter isCode, c.before args0 about1 = true := by
  rw [codes_eq]
  intro c hc
  simp only [codes1, List.mem_cons, List.not_mem_nil, or_false] at hc
  rcases hc with rfl | rfl | rfl | rfl | rfl | rfl
  · exact w_c0
  · exact w_c1
  · exact w_c2
  · exact w_c3
  · exact w_c4
  · exact w_c5
set_option maxRecDepth 65536 in
theorem w_t1 : (words1.take 24).all (fun c => isCode c || c.before args0 about1) = true := by decide +kernel
set_option maxRecDepth 65536 in
theorem w_t2 : (words1.drop 24).all (fun c => isCode c || c.before args0 about1) = true := by decide +kernel
theorem w_tables : (allAtoms (Jvm.Cond.code x code maxLocals ret :: tables_1)).before args0 about1 = true := by
  rw [allAtoms_all]
  show words1.all (fun c => c.before args0 about1) = true
  refine all_split ?_ w_codes
  rw [← List.take_append_drop 24 words1, List.all_append, w_t1, w_t2]
  rfl
set_option maxRecDepth 65536 in
theorem w_case : (Jvm.Cond.and given_1 narrow_1).before args0 about1 = true := by decide +kernel
theorem w_applies : (headSpec (Jvm.Cond.code x code maxLocals ret :: tables_1) room_1).applies x e0.platform about1 = true :=
  (Spec.applies_iff w_frames).mpr ⟨w_running, w_runnable, w_alone, w_named, w_hears, w_ripe, w_room, w_tables⟩
theorem atStart : AtStart classFile x code maxLocals ret World_1 tables_1 room_1 Calls_1 rest_1 Pre_1 launch0 p0 e0 about1 theMethod args0 below0 :=
  ⟨lists_1, trivial, launch0.admits_env _ _ _, launch0.least_env, fairChoices_fair.cas, fairChoices_fair.clock, w_frames, w_args, w_heap, w_applies, trivial, trivial, w_case⟩
end start1
theorem witness_1 : WitnessClaimed_1 := ⟨start1.p0, start1.e0, start1.about1, start1.theMethod, start1.args0, start1.below0, start1.atStart⟩
end Jvm.Pilot.@@N@@
