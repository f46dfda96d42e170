import JvmDerived
import JvmDerived.Pilot.@@N@@Statement
import JvmDerived.Pilot.@@N@@Code
set_option linter.unusedVariables false
set_option linter.unusedSimpArgs false
namespace Jvm.Pilot.@@N@@
open Jvm Jvm.ClassFile Sem Op Lib Jvm.Free Jvm.Stand Jvm.LawKit Jvm.RoadKit Bundle Jvm.Pilot.@@N@@.Jvm.D
section Own
variable {p : Program} {l : Launch} {e : Env} {R : Room} {s : State} {m : MethodId} {args : Array Value} {below : List Frame} {meth : Method} {c : Code} {T : State} {locs : List Loc} {cells slots : Nat} {C N : Nat} {Q : Option Value → Heap → List Loc → Prop} {V V' : State}
/-- from the state V the method comes to its return, and leaves what Q says -/
def own_Run (p : Program) (e : Env) (below : List Frame) (s : State) (C N : Nat) (Q : Option Value → Heap → List Loc → Prop) (V : State) : Prop :=
  ∃ s₂ o, Steps p.tables e below V s₂ ∧ s₂.status = .running ∧ Ended s₂ below o ∧ ∃ v L, o = .returned v ∧ Q v s₂.heap L ∧ FrameEnd s o s₂ L C N
theorem own_of (k : ∀ t, Steps p.tables e below V' t → Steps p.tables e below V t) (r : own_Run p e below s C N Q V') : own_Run p e below s C N Q V := by
  obtain ⟨s₂, o, h, q⟩ := r
  exact ⟨s₂, o, k _ h, q⟩
theorem own_tr (k : Steps p.tables e below V V') (r : own_Run p e below s C N Q V') : own_Run p e below s C N Q V := own_of (fun _ h => k.trans h) r
theorem own_cast {g g' : JFrame} (q : g = g') (r : own_Run p e below s C N Q (T.setTop g')) : own_Run p e below s C N Q (T.setTop g) := q ▸ r
theorem own_ret (X : Stand p l e R s m args below meth c T locs cells slots) (hx : p.tables.exec = Jvm.exec) {pc : Nat} {Ls : Array Slot} {w : Value} {t : FieldType} {i : Instr} {rest : List Value} (hret : meth.sig.returnType = some t) (hlk : meth.locks = false) (hn : narrow t w = w)
    (hi : (i = .ireturn ∧ (t = .int ∨ t = .boolean ∨ t = .byte ∨ t = .char ∨ t = .short) ∧ ∃ z, w = .int z) ∨ (i = .lreturn ∧ t = .long ∧ ∃ z, w = .long z) ∨ (i = .dreturn ∧ t = .double ∧ ∃ z, w = .double z) ∨ (i = .freturn ∧ t = .float ∧ ∃ z, w = .float z) ∨ (i = .areturn ∧ t.isReference = true ∧ w.isRef = true))
    (hd : decode c.code pc = .ok (i, 1)) (q : Q (some w) T.heap locs) (hc : cells ≤ C) (hs : slots ≤ N) : own_Run p e below s C N Q (T.setTop (mkF m pc Ls (w :: rest))) := by
  obtain ⟨fs, hr, hrun, hended, hW, hsame⟩ := X.leave (v := some w) (fun h => by rw [hret] at h; cases h) hlk
  exact ⟨_, _, retOut X hx hret hn hi hd hr, hrun, hended, _, _, rfl, q, ⟨_, rfl⟩, hW, hsame.mono hc hs⟩
theorem own_retI (X : Stand p l e R s m args below meth c T locs cells slots) (hx : p.tables.exec = Jvm.exec) {pc : Nat} {Ls : Array Slot} {z : Int32} {rest : List Value} (hret : meth.sig.returnType = some .int) (hlk : meth.locks = false)
    (hd : decode c.code pc = .ok (.ireturn, 1)) (q : Q (some (.int z)) T.heap locs) (hc : cells ≤ C) (hs : slots ≤ N) : own_Run p e below s C N Q (T.setTop (mkF m pc Ls (.int z :: rest))) :=
  own_ret X hx hret hlk rfl (Or.inl ⟨rfl, Or.inl rfl, z, rfl⟩) hd q hc hs
theorem own_retJ (X : Stand p l e R s m args below meth c T locs cells slots) (hx : p.tables.exec = Jvm.exec) {pc : Nat} {Ls : Array Slot} {z : Int64} {rest : List Value} (hret : meth.sig.returnType = some .long) (hlk : meth.locks = false)
    (hd : decode c.code pc = .ok (.lreturn, 1)) (q : Q (some (.long z)) T.heap locs) (hc : cells ≤ C) (hs : slots ≤ N) : own_Run p e below s C N Q (T.setTop (mkF m pc Ls (.long z :: rest))) :=
  own_ret X hx hret hlk rfl (Or.inr (Or.inl ⟨rfl, rfl, z, rfl⟩)) hd q hc hs
theorem own_retN (X : Stand p l e R s m args below meth c T locs cells slots) (hx : p.tables.exec = Jvm.exec) {pc : Nat} {Ls : Array Slot} {z : Int32} {t : FieldType} {rest : List Value} (hret : meth.sig.returnType = some t) (hlk : meth.locks = false) (ht : t = .boolean ∨ t = .byte ∨ t = .char ∨ t = .short)
    (hd : decode c.code pc = .ok (.ireturn, 1)) (q : Q (some (.int (nar t z))) T.heap locs) (hc : cells ≤ C) (hs : slots ≤ N) : own_Run p e below s C N Q (T.setTop (mkF m pc Ls (.int z :: rest))) := by
  obtain ⟨fs, hr, hrun, hended, hW, hsame⟩ := X.leave (v := some (.int (nar t z))) (fun h => by rw [hret] at h; cases h) hlk
  exact ⟨_, _, retN X hx hret ht hd hr, hrun, hended, _, _, rfl, q, ⟨_, rfl⟩, hW, hsame.mono hc hs⟩
theorem own_retV (X : Stand p l e R s m args below meth c T locs cells slots) (hx : p.tables.exec = Jvm.exec) {pc : Nat} {Ls : Array Slot} (hret : meth.sig.returnType = none) (hlk : meth.locks = false)
    (hd : decode c.code pc = .ok (.return_, 1)) (q : Q none T.heap locs) (hc : cells ≤ C) (hs : slots ≤ N) : own_Run p e below s C N Q (T.setTop (mkF m pc Ls [])) := by
  obtain ⟨fs, hr, hrun, hended, hW, hsame⟩ := X.leave (v := none) (fun _ => rfl) hlk
  exact ⟨_, _, X.returnOut hx hret hd hr, hrun, hended, _, _, rfl, q, ⟨_, rfl⟩, hW, hsame.mono hc hs⟩
end Own
section OwnArrays
variable {p : Program} {l : Launch} {e : Env} {R : Room} {s : State} {m : MethodId} {args : Array Value} {below : List Frame} {meth : Method} {c : Code} {T : State} {locs : List Loc} {cells slots : Nat} {C N : Nat} {Q : Option Value → Heap → List Loc → Prop} {Z : State} {h h' : Heap} {a b : Addr} {ty : FieldType} {n : Nat} {f g : Nat → Int32} {v : Value} {sl : Nat} {ws : List Addr}
/-- in the heap h, at a, an array of the kind ty and n places; its place i holds the int f i -/
def own_Ar (Z : State) (h : Heap) (a : Addr) (ty : FieldType) (n : Nat) (f : Nat → Int32) : Prop := ∃ c : Cell, Arr Z h a c ty ∧ c.slots.size = n ∧ ∀ i, i < n → c.slots[i]? = some (.int (f i))
def own_up (f : Nat → Int32) (j : Nat) (v : Int32) : Nat → Int32 := fun i => if i = j then v else f i
theorem own_Ar.lt (F : own_Ar Z h a ty n f) : a < h.size := by obtain ⟨c, A, -⟩ := F; exact A.lt
theorem own_Ar.ext (F : own_Ar Z h a ty n f) (E : Ext h h') : own_Ar Z h' a ty n f := by obtain ⟨c, A, r⟩ := F; exact ⟨c, A.ext E, r⟩
theorem own_Ar.other (F : own_Ar Z h b ty n f) (W : Wr h h' a sl v) (q : b ≠ a) : own_Ar Z h' b ty n f := by obtain ⟨c, A, r⟩ := F; exact ⟨c, A.other W q, r⟩
theorem own_Ar.keep (F : own_Ar Z h a ty n f) (K : Keep h h' ws) (q : a ∉ ws) : own_Ar Z h' a ty n f := by obtain ⟨c, A, r⟩ := F; exact ⟨c, ⟨K.2.1 a c A.1 q, A.2⟩, r⟩
theorem own_Ar.congr (F : own_Ar Z h a ty n f) (q : ∀ i, i < n → f i = g i) : own_Ar Z h a ty n g := by obtain ⟨c, A, r, H⟩ := F; exact ⟨c, A, r, fun i hi => by rw [← q i hi]; exact H i hi⟩
theorem own_Ar.new {k : ClassId} {z : Int32} (A : Arr Z h a (newA k ty z) ty) (hd : defaultValue ty = .int 0) (hn : z.toNatClampNeg = n) : own_Ar Z h a ty n (fun _ => 0) :=
  ⟨_, A, by rw [sz_new, hn], fun i hi => by simp [newA, hd, hn, hi]⟩
theorem own_Ar.set {w : Int32} {j : Nat} (F : own_Ar Z h a ty n f) (W : Wr h h' a j (.int w)) (hj : j < n) : own_Ar Z h' a ty n (own_up f j w) := by
  obtain ⟨c, A, r, H⟩ := F
  refine ⟨_, A.same W, by rw [sz_set]; exact r, fun i hi => ?_⟩
  by_cases q : i = j
  · subst q
    simp [own_up, Cell.setSlot, r, hi]
  · rw [show (c.setSlot j (.int w)).slots[i]? = c.slots[i]? from Array.getElem?_setIfInBounds_ne (Ne.symm q)]
    simp [own_up, q, H i hi]
theorem own_bal (X : Stand p l e R s m args below meth c T locs cells slots) (hx : p.tables.exec = Jvm.exec) (hZ : Z.Warmed39 s.vm) (eT : T.heap = h) (A : own_Ar Z h a .byte n f) {j w : Int32} (h1 : ¬ j < 0) (h2 : j.toNatClampNeg < n) (hv : f j.toNatClampNeg = w)
    {pc : Nat} {Ls : Array Slot} {rest : List Value} (hd : decode c.code pc = .ok (.baload, 1)) (r : own_Run p e below s C N Q (T.setTop (mkF m (pc + 1) Ls (.int w :: rest)))) : own_Run p e below s C N Q (T.setTop (mkF m pc Ls (.int j :: .ref a :: rest))) := by
  obtain ⟨c, A, S, H⟩ := A
  subst hv
  exact own_of (fun t k => X.baloadBytes hx (j := j) (v := .int (f j.toNatClampNeg)) (by rw [eT]; exact A.1) (State.isArrayOf_alike hZ.alike A.2.1) A.2.2 (by rw [S]; exact fun q => q.elim h1 (Nat.not_le.mpr h2)) (H _ h2) (g := mkF m pc Ls (.int j :: .ref a :: rest)) rfl rfl hd t k) r
theorem own_ial (X : Stand p l e R s m args below meth c T locs cells slots) (hx : p.tables.exec = Jvm.exec) (hZ : Z.Warmed39 s.vm) (eT : T.heap = h) (A : own_Ar Z h a .int n f) {j w : Int32} (h1 : ¬ j < 0) (h2 : j.toNatClampNeg < n) (hv : f j.toNatClampNeg = w)
    {pc : Nat} {Ls : Array Slot} {rest : List Value} (hd : decode c.code pc = .ok (.iaload, 1)) (r : own_Run p e below s C N Q (T.setTop (mkF m (pc + 1) Ls (.int w :: rest)))) : own_Run p e below s C N Q (T.setTop (mkF m pc Ls (.int j :: .ref a :: rest))) := by
  obtain ⟨c, A, S, H⟩ := A
  subst hv
  exact own_of (fun t k => X.iaload hx (j := j) (v := .int (f j.toNatClampNeg)) (by rw [eT]; exact A.1) (State.isArrayOf_alike hZ.alike A.2.1) A.2.2 (by rw [S]; exact fun q => q.elim h1 (Nat.not_le.mpr h2)) (H _ h2) (g := mkF m pc Ls (.int j :: .ref a :: rest)) rfl rfl hd t k) r
theorem own_alen (X : Stand p l e R s m args below meth c T locs cells slots) (hx : p.tables.exec = Jvm.exec) (hZ : Z.Warmed39 s.vm) (eT : T.heap = h) (A : own_Ar Z h a ty n f) {w : Int32} (hv : n.toInt32 = w)
    {pc : Nat} {Ls : Array Slot} {rest : List Value} (hd : decode c.code pc = .ok (.arraylength, 1)) (r : own_Run p e below s C N Q (T.setTop (mkF m (pc + 1) Ls (.int w :: rest)))) : own_Run p e below s C N Q (T.setTop (mkF m pc Ls (.ref a :: rest))) := by
  obtain ⟨c, A, S, H⟩ := A
  subst hv S
  exact own_of (fun t k => X.arraylength hx (by rw [eT]; exact A.1) (State.isArrayOf_alike hZ.alike A.2.1) (g := mkF m pc Ls (.ref a :: rest)) rfl rfl hd t k) r
theorem own_bas (X : Stand p l e R s m args below meth c T locs cells slots) (hx : p.tables.exec = Jvm.exec) (hZ : Z.Warmed39 s.vm) (eT : T.heap = h) (A : own_Ar Z h a .byte n f) {j x : Int32} (h1 : ¬ j < 0) (h2 : j.toNatClampNeg < n)
    {pc : Nat} {Ls : Array Slot} {rest : List Value} (hd : decode c.code pc = .ok (.bastore, 1)) :
    ∃ T' h', Stand p l e R s m args below meth c T' (locs ++ [⟨a, j.toNatClampNeg⟩]) cells slots ∧ T'.heap = h' ∧ Wr h h' a j.toNatClampNeg (.int x.toInt8.toInt32) ∧ own_Ar Z h' a .byte n (own_up f j.toNatClampNeg x.toInt8.toInt32) ∧
      ∀ t, Steps p.tables e below (T'.setTop (mkF m (pc + 1) Ls rest)) t → Steps p.tables e below (T.setTop (mkF m pc Ls (.int x :: .int j :: .ref a :: rest))) t := by
  obtain ⟨c, A, S, H⟩ := id A
  obtain ⟨T', h', X', e', W, st⟩ := stB X hx hZ eT A (j := j) (x := x) (by rw [S]; exact fun q => q.elim h1 (Nat.not_le.mpr h2)) (g := mkF m pc Ls (.int x :: .int j :: .ref a :: rest)) rfl rfl hd
  exact ⟨T', h', X', e', W, own_Ar.set ⟨c, A, S, H⟩ W h2, st⟩
theorem own_ias (X : Stand p l e R s m args below meth c T locs cells slots) (hx : p.tables.exec = Jvm.exec) (hZ : Z.Warmed39 s.vm) (eT : T.heap = h) (A : own_Ar Z h a .int n f) {j x : Int32} (h1 : ¬ j < 0) (h2 : j.toNatClampNeg < n)
    {pc : Nat} {Ls : Array Slot} {rest : List Value} (hd : decode c.code pc = .ok (.iastore, 1)) :
    ∃ T' h', Stand p l e R s m args below meth c T' (locs ++ [⟨a, j.toNatClampNeg⟩]) cells slots ∧ T'.heap = h' ∧ Wr h h' a j.toNatClampNeg (.int x) ∧ own_Ar Z h' a .int n (own_up f j.toNatClampNeg x) ∧
      ∀ t, Steps p.tables e below (T'.setTop (mkF m (pc + 1) Ls rest)) t → Steps p.tables e below (T.setTop (mkF m pc Ls (.int x :: .int j :: .ref a :: rest))) t := by
  obtain ⟨c, A, S, H⟩ := id A
  obtain ⟨T', h', X', e', W, st⟩ := stI X hx hZ eT A (j := j) (x := x) (by rw [S]; exact fun q => q.elim h1 (Nat.not_le.mpr h2)) (g := mkF m pc Ls (.int x :: .int j :: .ref a :: rest)) rfl rfl hd
  exact ⟨T', h', X', e', W, own_Ar.set ⟨c, A, S, H⟩ W h2, st⟩
end OwnArrays
theorem own_sel {s : State} {args args' : Array Value} {y : MethodName} {n : Nat} (wi : (Cond.instantiable y.cls n).before args' s = true) (hp : s.PrivateAt y) (hinst : (Cond.instanceMethod y).before args s = true) (hy : y.cls ≠ "java/lang/invoke/MethodHandle" ∧ y.cls ≠ "java/lang/invoke/VarHandle") : (Cond.selects y.cls y y).before args s = true := by
  obtain ⟨c, k, hc, hk, -, hflags, -⟩ := Cond.instantiable_spec wi
  have hi : k.isInterface = false := by
    cases hi : k.isInterface
    · rfl
    · simp [hi] at hflags
  exact Stand.selects_self_of_private hc hk hi hp hinst hy

def own_minI (a b : Int32) : Int32 := if b < a then b else a
theorem own_minI_i (a b : Int32) : (own_minI a b).toInt = if b.toInt < a.toInt then b.toInt else a.toInt := by
  unfold own_minI
  by_cases h : b < a
  · rw [if_pos h, if_pos (Int32.lt_iff_toInt_lt.mp h)]
  · rw [if_neg h, if_neg (mt Int32.lt_iff_toInt_lt.mpr h)]
theorem own_mk (x : Int32) : 0 ≤ (x &&& (2147483647 : Int32)).toInt := by
  have a : (x &&& (2147483647 : Int32)).toInt = x.toInt % 2147483648 := c_mask x (2147483647 : Int32) 31 (by decide) (by decide)
  omega
theorem own_m7 (x : Int32) : 0 ≤ (x &&& (7 : Int32)).toInt ∧ (x &&& (7 : Int32)).toInt ≤ 7 := by
  have a : (x &&& (7 : Int32)).toInt = x.toInt % 8 := c_mask x (7 : Int32) 3 (by decide) (by decide)
  omega
theorem own_pos {j : Int32} (h0 : 0 ≤ j.toInt) : ¬ j < 0 := by
  apply mt Int32.lt_iff_toInt_lt.mp
  have l : (0 : Int32).toInt = 0 := rfl
  omega
theorem own_nat {j : Int32} {n : Nat} (h0 : 0 ≤ j.toInt) (h1 : j.toInt < n) : j.toNatClampNeg < n := by
  have a := nat_of (own_pos h0)
  omega
theorem dM_0 : decode jdk_29_method_69_code 0 = .ok (.iload_n 0, 1) := by decide +kernel
theorem dM_1 : decode jdk_29_method_69_code 1 = .ok (.iload_n 1, 1) := by decide +kernel
theorem dM_2 : decode jdk_29_method_69_code 2 = .ok (.if_icmp .gt 7, 3) := by decide +kernel
theorem dM_5 : decode jdk_29_method_69_code 5 = .ok (.iload_n 0, 1) := by decide +kernel
theorem dM_6 : decode jdk_29_method_69_code 6 = .ok (.goto 4, 3) := by decide +kernel
theorem dM_9 : decode jdk_29_method_69_code 9 = .ok (.iload_n 1, 1) := by decide +kernel
theorem dM_10 : decode jdk_29_method_69_code 10 = .ok (.ireturn, 1) := by decide +kernel
theorem efM (m : MethodId) (p1 : Int32) (p2 : Int32) : entryFrame m #[(.int p1), (.int p2)] 2 = mkF m 0 #[.val (.int p1), .val (.int p2)] [] := by first | (simp [entryFrame, mkF, argsToLocals, Value.category]; done) | rfl
def QM (Z : State) (p1 : Int32) (p2 : Int32) (h0 : Heap) (n0 : Nat) (v : Option Value) (h : Heap) (L : List Loc) : Prop := v = some (.int (own_minI p1 p2)) ∧ Fr n0 L ∧ h = h0
set_option maxRecDepth 65536 in
set_option maxHeartbeats 40000000 in
theorem rmM (l : Launch) (Z : State) (a0 : Array Value) (hw : ∀ d ∈ tables_1, d.before a0 Z = true) (ws : List Jvm.Cond) (p1 : Int32) (p2 : Int32) (h0 : Heap) (n0 : Nat) (Z0 : n0 ≤ h0.size)  :
    MetFree l (⟨"java/lang/Math", "min", "(II)I"⟩ : MethodName) (head1 (Jvm.Cond.code (⟨"java/lang/Math", "min", "(II)I"⟩ : MethodName) jdk_29_method_69_code 2 (some .int) :: ws) ({ frames := 0, cells := 0, slots := 0, locals := 0 } : Room)) (fun a U => a = #[(.int p1), (.int p2)] ∧ Z.Warmed39 U.vm ∧ U.heap = h0) (fun _ _ _ _ _ => True) (fun _ U o U' => ∃ v L, o = .returned v ∧ QM Z p1 p2 h0 n0 v U'.heap L ∧ FrameEnd U o U' L ({ frames := 0, cells := 0, slots := 0, locals := 0 } : Room).cells ({ frames := 0, cells := 0, slots := 0, locals := 0 } : Room).slots) := by
  refine MetFree.of_bodySF (Jvm.Free.JP.mathPlain rfl (by decide +kernel)) hisR ?_
  intro p e s m args below meth c s₁ Bd hml0 hP hK
  obtain ⟨rfl, hZ, hh⟩ := hP
  have hx := Bd.exec
  have hby := Bd.bytes
  have hml : c.maxLocals = 2 := hml0
  have hown : s.vm.findClass "java/lang/Math" = some m.cls := findClass_of_methodNamed Bd.named
  have hnm := (name_of_methodNamed Bd.named Bd.method).1
  have hlk := Bd.notSynchronized
  have hret := Bd.returns
  have X0 : Stand p l e ({ frames := 0, cells := 0, slots := 0, locals := 0 } : Room) s m #[(.int p1), (.int p2)] below meth c s₁ [] 0 0 := Stand.of_body Bd
  have e0 : s₁.heap = h0 := by rw [← hh, Bd.state]; rfl
  have N0 := Fr.nil n0
  show own_Run p e below s 0 0 (QM Z p1 p2 h0 n0) (s₁.setTop (entryFrame m #[(.int p1), (.int p2)] 2))
  refine own_cast (efM m p1 p2) ?_
  show own_Run p e below s _ _ _ (s₁.setTop (mkF m 0 #[.val (.int p1), .val (.int p2)] []))
  refine own_of (fun _ hh_ => XS.iloadN X0.here hx rfl (hb hby dM_0) rfl hh_) ?_
  show own_Run p e below s _ _ _ (s₁.setTop (mkF m 1 #[.val (.int p1), .val (.int p2)] [(.int p1)]))
  refine own_of (fun _ hh_ => XS.iloadN X0.here hx rfl (hb hby dM_1) rfl hh_) ?_
  show own_Run p e below s _ _ _ (s₁.setTop (mkF m 2 #[.val (.int p1), .val (.int p2)] [(.int p2), (.int p1)]))
  by_cases hc2_1 : p2 < p1
  · refine own_of (fun _ hh_ => XS.icmpYes X0.here hx rfl (pc0 := 2) (pc' := 9) rfl (hb hby dM_2) rfl (tlt hc2_1).2.2.1 (by decide) (by decide) hh_) ?_
    show own_Run p e below s _ _ _ (s₁.setTop (mkF m 9 #[.val (.int p1), .val (.int p2)] []))
    refine own_of (fun _ hh_ => XS.iloadN X0.here hx rfl (hb hby dM_9) rfl hh_) ?_
    show own_Run p e below s _ _ _ (s₁.setTop (mkF m 10 #[.val (.int p1), .val (.int p2)] [(.int p2)]))
    exact own_retI X0 hx hret hlk (hb hby dM_10) ⟨by unfold own_minI; rw [if_pos hc2_1], N0, e0⟩ (by decide) (by decide)
  · refine own_of (fun _ hh_ => XS.icmpNo X0.here hx rfl (hb hby dM_2) rfl (flt hc2_1).2.2.1 hh_) ?_
    show own_Run p e below s _ _ _ (s₁.setTop (mkF m 5 #[.val (.int p1), .val (.int p2)] []))
    refine own_of (fun _ hh_ => XS.iloadN X0.here hx rfl (hb hby dM_5) rfl hh_) ?_
    show own_Run p e below s _ _ _ (s₁.setTop (mkF m 6 #[.val (.int p1), .val (.int p2)] [(.int p1)]))
    refine own_of (fun _ hh_ => XS.goto X0.here hx rfl (pc0 := 6) (pc' := 10) rfl (hb hby dM_6) (by decide) (by decide) hh_) ?_
    show own_Run p e below s _ _ _ (s₁.setTop (mkF m 10 #[.val (.int p1), .val (.int p2)] [(.int p1)]))
    exact own_retI X0 hx hret hlk (hb hby dM_10) ⟨by unfold own_minI; rw [if_neg hc2_1], N0, e0⟩ (by decide) (by decide)
theorem own_pn0 : plainName "org/lanner/term/TermInput" = true := by first | (simp [plainName, overriddenIn]; done) | decide +kernel
theorem dI_0 : decode prog_95_method_1_code 0 = .ok (.aload_n 0, 1) := by decide +kernel
theorem dI_1 : decode prog_95_method_1_code 1 = .ok (.invokespecial 1, 3) := by decide +kernel
theorem dI_4 : decode prog_95_method_1_code 4 = .ok (.aload_n 0, 1) := by decide +kernel
theorem dI_5 : decode prog_95_method_1_code 5 = .ok (.aload_n 1, 1) := by decide +kernel
theorem dI_6 : decode prog_95_method_1_code 6 = .ok (.putfield 7, 3) := by decide +kernel
theorem dI_9 : decode prog_95_method_1_code 9 = .ok (.aload_n 0, 1) := by decide +kernel
theorem dI_10 : decode prog_95_method_1_code 10 = .ok (.iload_n 2, 1) := by decide +kernel
theorem dI_11 : decode prog_95_method_1_code 11 = .ok (.putfield 13, 3) := by decide +kernel
theorem dI_14 : decode prog_95_method_1_code 14 = .ok (.aload_n 0, 1) := by decide +kernel
theorem dI_15 : decode prog_95_method_1_code 15 = .ok (.iload_n 3, 1) := by decide +kernel
theorem dI_16 : decode prog_95_method_1_code 16 = .ok (.putfield 17, 3) := by decide +kernel
theorem dI_19 : decode prog_95_method_1_code 19 = .ok (.aload_n 0, 1) := by decide +kernel
theorem dI_20 : decode prog_95_method_1_code 20 = .ok (.aconst_null, 1) := by decide +kernel
theorem dI_21 : decode prog_95_method_1_code 21 = .ok (.putfield 20, 3) := by decide +kernel
theorem dI_24 : decode prog_95_method_1_code 24 = .ok (.aload_n 0, 1) := by decide +kernel
theorem dI_25 : decode prog_95_method_1_code 25 = .ok (.iconst 0, 1) := by decide +kernel
theorem dI_26 : decode prog_95_method_1_code 26 = .ok (.putfield 24, 3) := by decide +kernel
theorem dI_29 : decode prog_95_method_1_code 29 = .ok (.aload_n 0, 1) := by decide +kernel
theorem dI_30 : decode prog_95_method_1_code 30 = .ok (.lconst 0, 1) := by decide +kernel
theorem dI_31 : decode prog_95_method_1_code 31 = .ok (.putfield 27, 3) := by decide +kernel
theorem dI_34 : decode prog_95_method_1_code 34 = .ok (.return_, 1) := by decide +kernel
theorem efI (m : MethodId) (t1 : Addr) (r1 : Addr) (p1 : Int32) (p2 : Int32) : entryFrame m #[(.ref t1), (.ref r1), (.int p1), (.int p2)] 4 = mkF m 0 #[.val (.ref t1), .val (.ref r1), .val (.int p1), .val (.int p2)] [] := by first | (simp [entryFrame, mkF, argsToLocals, Value.category]; done) | rfl
def QI (Z : State) (t1 : Addr) (r1 : Addr) (p1 : Int32) (p2 : Int32) (h0 : Heap) (n0 : Nat) (v : Option Value) (h : Heap) (L : List Loc) : Prop := v = none ∧ Fr n0 L ∧ Keep h0 h [t1] ∧ Fld Z h t1 "org/lanner/term/TermInput" "buffer" "[B" (.ref r1) ∧ Fld Z h t1 "org/lanner/term/TermInput" "position" "I" (.int p1) ∧ Fld Z h t1 "org/lanner/term/TermInput" "limit" "I" (.int p2) ∧ Fld Z h t1 "org/lanner/term/TermInput" "inflater" "Ljava/util/zip/Inflater;" .null ∧ Fld Z h t1 "org/lanner/term/TermInput" "discarded" "J" (.long (0 : Int64))
set_option maxRecDepth 65536 in
set_option maxHeartbeats 40000000 in
theorem rmI (l : Launch) (Z : State) (a0 : Array Value) (hw : ∀ d ∈ tables_1, d.before a0 Z = true) (ws : List Jvm.Cond) (t1 : Addr) (r1 : Addr) (p1 : Int32) (p2 : Int32) (h0 : Heap) (n0 : Nat) (Z0 : n0 ≤ h0.size) (Ex : Exa Z h0 t1 "org/lanner/term/TermInput") (Fbuffer : Fld Z h0 t1 "org/lanner/term/TermInput" "buffer" "[B" .null) (Fposition : Fld Z h0 t1 "org/lanner/term/TermInput" "position" "I" (.int (0 : Int32))) (Flimit : Fld Z h0 t1 "org/lanner/term/TermInput" "limit" "I" (.int (0 : Int32))) (Finflater : Fld Z h0 t1 "org/lanner/term/TermInput" "inflater" "Ljava/util/zip/Inflater;" .null) (FdataOffset : Fld Z h0 t1 "org/lanner/term/TermInput" "dataOffset" "I" (.int (0 : Int32))) (Fsize : Fld Z h0 t1 "org/lanner/term/TermInput" "size" "J" (.long (0 : Int64))) (Fdiscarded : Fld Z h0 t1 "org/lanner/term/TermInput" "discarded" "J" (.long (0 : Int64))) (g_t1 : n0 ≤ t1) :
    MetFree l (⟨"org/lanner/term/TermInput", "<init>", "([BII)V"⟩ : MethodName) (head1 (Jvm.Cond.code (⟨"org/lanner/term/TermInput", "<init>", "([BII)V"⟩ : MethodName) prog_95_method_1_code 4 none :: ws) ({ frames := 1, cells := 0, slots := 0, locals := 12 } : Room)) (fun a U => a = #[(.ref t1), (.ref r1), (.int p1), (.int p2)] ∧ Z.Warmed39 U.vm ∧ U.heap = h0) (fun _ _ _ _ _ => True) (fun _ U o U' => ∃ v L, o = .returned v ∧ QI Z t1 r1 p1 p2 h0 n0 v U'.heap L ∧ FrameEnd U o U' L ({ frames := 1, cells := 0, slots := 0, locals := 12 } : Room).cells ({ frames := 1, cells := 0, slots := 0, locals := 12 } : Room).slots) := by
  refine MetFree.of_bodySF (plainFor_of_name own_pn0) hisR ?_
  intro p e s m args below meth c s₁ Bd hml0 hP hK
  obtain ⟨rfl, hZ, hh⟩ := hP
  have hx := Bd.exec
  have hby := Bd.bytes
  have hml : c.maxLocals = 4 := hml0
  have hown : s.vm.findClass "org/lanner/term/TermInput" = some m.cls := findClass_of_methodNamed Bd.named
  have hnm := (name_of_methodNamed Bd.named Bd.method).1
  have hlk := Bd.notSynchronized
  have hret := Bd.returns
  have X0 : Stand p l e ({ frames := 1, cells := 0, slots := 0, locals := 12 } : Room) s m #[(.ref t1), (.ref r1), (.int p1), (.int p2)] below meth c s₁ [] 0 0 := Stand.of_body Bd
  have e0 : s₁.heap = h0 := by rw [← hh, Bd.state]; rfl
  have N0 := Fr.nil n0
  have K0 : Keep h0 h0 [t1] := Keep.refl _ _
  show own_Run p e below s 0 0 (QI Z t1 r1 p1 p2 h0 n0) (s₁.setTop (entryFrame m #[(.ref t1), (.ref r1), (.int p1), (.int p2)] 4))
  refine own_cast (efI m t1 r1 p1 p2) ?_
  show own_Run p e below s _ _ _ (s₁.setTop (mkF m 0 #[.val (.ref t1), .val (.ref r1), .val (.int p1), .val (.int p2)] []))
  refine own_of (fun _ hh_ => XS.aloadN X0.here hx rfl (hb hby dI_0) rfl rfl hh_) ?_
  show own_Run p e below s _ _ _ (s₁.setTop (mkF m 1 #[.val (.ref t1), .val (.ref r1), .val (.int p1), .val (.int p2)] [(.ref t1)]))
  obtain ⟨T1, X1, e1, st1⟩ := initO X0 hx hZ hown (hw _ (List.mem_of_getElem? (i := 8) rfl)) (hw _ (List.mem_of_getElem? (i := 9) rfl)) (hw _ (List.mem_of_getElem? (i := 10) rfl)) e0 (g := (mkF m 1 #[.val (.ref t1), .val (.ref r1), .val (.int p1), .val (.int p2)] [(.ref t1)])) rfl (by rw [hml]; rfl) rfl (hb hby dI_1) (by decide) (W := 0) (by show 2 * 0 + _ ≤ _; exact Nat.le_of_eq rfl) (by decide)
  refine own_of st1 ?_
  show own_Run p e below s _ _ _ (T1.setTop (mkF m 4 #[.val (.ref t1), .val (.ref r1), .val (.int p1), .val (.int p2)] []))
  refine own_of (fun _ hh_ => XS.aloadN X1.here hx rfl (hb hby dI_4) rfl rfl hh_) ?_
  show own_Run p e below s _ _ _ (T1.setTop (mkF m 5 #[.val (.ref t1), .val (.ref r1), .val (.int p1), .val (.int p2)] [(.ref t1)]))
  refine own_of (fun _ hh_ => XS.aloadN X1.here hx rfl (hb hby dI_5) rfl rfl hh_) ?_
  show own_Run p e below s _ _ _ (T1.setTop (mkF m 6 #[.val (.ref t1), .val (.ref r1), .val (.int p1), .val (.int p2)] [(.ref r1), (.ref t1)]))
  obtain ⟨T2, h2, X2, e2, W2, st2⟩ := putF X1 hx hZ hown (host := "") (Or.inl (hw _ (List.mem_of_getElem? (i := 11) rfl))) Via.refl e1 Fbuffer Ex (Or.inl (hw _ (List.mem_of_getElem? (i := 12) rfl))) (hw _ (List.mem_of_getElem? (i := 3) rfl)) (ty := (.array .byte)) (by decide) rfl rfl (g := (mkF m 6 #[.val (.ref t1), .val (.ref r1), .val (.int p1), .val (.int p2)] [(.ref r1), (.ref t1)])) rfl rfl (hb hby dI_6)
  have f2 := Fbuffer.same W2
  have N2 := Fr.snoc X2 N0 g_t1
  have f3 := Ex.wr W2
  have f4 := Fposition.other W2 (Or.inr (slot_ne (Or.inl (hw _ (List.mem_of_getElem? (i := 14) rfl))) (Or.inl (hw _ (List.mem_of_getElem? (i := 12) rfl))) (by decide) (t := .int) (t' := (.array .byte)) (by decide) (by decide)))
  have f5 := Flimit.other W2 (Or.inr (slot_ne (Or.inl (hw _ (List.mem_of_getElem? (i := 16) rfl))) (Or.inl (hw _ (List.mem_of_getElem? (i := 12) rfl))) (by decide) (t := .int) (t' := (.array .byte)) (by decide) (by decide)))
  have f6 := Finflater.other W2 (Or.inr (slot_ne (Or.inr (hw _ (List.mem_of_getElem? (i := 18) rfl))) (Or.inl (hw _ (List.mem_of_getElem? (i := 12) rfl))) (by decide) (t := (.object "java/util/zip/Inflater")) (t' := (.array .byte)) (by decide) (by decide)))
  have f7 := FdataOffset.other W2 (Or.inr (slot_ne (Or.inr (hw _ (List.mem_of_getElem? (i := 20) rfl))) (Or.inl (hw _ (List.mem_of_getElem? (i := 12) rfl))) (by decide) (t := .int) (t' := (.array .byte)) (by decide) (by decide)))
  have f8 := Fsize.other W2 (Or.inr (slot_ne (Or.inr (hw _ (List.mem_of_getElem? (i := 22) rfl))) (Or.inl (hw _ (List.mem_of_getElem? (i := 12) rfl))) (by decide) (t := .long) (t' := (.array .byte)) (by decide) (by decide)))
  have f9 := Fdiscarded.other W2 (Or.inr (slot_ne (Or.inl (hw _ (List.mem_of_getElem? (i := 52) rfl))) (Or.inl (hw _ (List.mem_of_getElem? (i := 12) rfl))) (by decide) (t := .long) (t' := (.array .byte)) (by decide) (by decide)))
  have K10 := K0.wr W2 (Or.inl (List.mem_of_getElem? (i := 0) rfl))
  refine own_of st2 ?_
  show own_Run p e below s _ _ _ (T2.setTop (mkF m 9 #[.val (.ref t1), .val (.ref r1), .val (.int p1), .val (.int p2)] []))
  refine own_of (fun _ hh_ => XS.aloadN X2.here hx rfl (hb hby dI_9) rfl rfl hh_) ?_
  show own_Run p e below s _ _ _ (T2.setTop (mkF m 10 #[.val (.ref t1), .val (.ref r1), .val (.int p1), .val (.int p2)] [(.ref t1)]))
  refine own_of (fun _ hh_ => XS.iloadN X2.here hx rfl (hb hby dI_10) rfl hh_) ?_
  show own_Run p e below s _ _ _ (T2.setTop (mkF m 11 #[.val (.ref t1), .val (.ref r1), .val (.int p1), .val (.int p2)] [(.int p1), (.ref t1)]))
  obtain ⟨T11, h11, X11, e11, W11, st11⟩ := putF X2 hx hZ hown (host := "") (Or.inl (hw _ (List.mem_of_getElem? (i := 13) rfl))) Via.refl e2 f4 f3 (Or.inl (hw _ (List.mem_of_getElem? (i := 14) rfl))) (hw _ (List.mem_of_getElem? (i := 3) rfl)) (ty := .int) (by decide) rfl rfl (g := (mkF m 11 #[.val (.ref t1), .val (.ref r1), .val (.int p1), .val (.int p2)] [(.int p1), (.ref t1)])) rfl rfl (hb hby dI_11)
  have f11 := f4.same W11
  have N11 := Fr.snoc X11 N2 g_t1
  have f12 := f3.wr W11
  have f13 := f2.other W11 (Or.inr (slot_ne (Or.inl (hw _ (List.mem_of_getElem? (i := 12) rfl))) (Or.inl (hw _ (List.mem_of_getElem? (i := 14) rfl))) (by decide) (t := (.array .byte)) (t' := .int) (by decide) (by decide)))
  have f14 := f5.other W11 (Or.inr (slot_ne (Or.inl (hw _ (List.mem_of_getElem? (i := 16) rfl))) (Or.inl (hw _ (List.mem_of_getElem? (i := 14) rfl))) (by decide) (t := .int) (t' := .int) (by decide) (by decide)))
  have f15 := f6.other W11 (Or.inr (slot_ne (Or.inr (hw _ (List.mem_of_getElem? (i := 18) rfl))) (Or.inl (hw _ (List.mem_of_getElem? (i := 14) rfl))) (by decide) (t := (.object "java/util/zip/Inflater")) (t' := .int) (by decide) (by decide)))
  have f16 := f7.other W11 (Or.inr (slot_ne (Or.inr (hw _ (List.mem_of_getElem? (i := 20) rfl))) (Or.inl (hw _ (List.mem_of_getElem? (i := 14) rfl))) (by decide) (t := .int) (t' := .int) (by decide) (by decide)))
  have f17 := f8.other W11 (Or.inr (slot_ne (Or.inr (hw _ (List.mem_of_getElem? (i := 22) rfl))) (Or.inl (hw _ (List.mem_of_getElem? (i := 14) rfl))) (by decide) (t := .long) (t' := .int) (by decide) (by decide)))
  have f18 := f9.other W11 (Or.inr (slot_ne (Or.inl (hw _ (List.mem_of_getElem? (i := 52) rfl))) (Or.inl (hw _ (List.mem_of_getElem? (i := 14) rfl))) (by decide) (t := .long) (t' := .int) (by decide) (by decide)))
  have K19 := K10.wr W11 (Or.inl (List.mem_of_getElem? (i := 0) rfl))
  refine own_of st11 ?_
  show own_Run p e below s _ _ _ (T11.setTop (mkF m 14 #[.val (.ref t1), .val (.ref r1), .val (.int p1), .val (.int p2)] []))
  refine own_of (fun _ hh_ => XS.aloadN X11.here hx rfl (hb hby dI_14) rfl rfl hh_) ?_
  show own_Run p e below s _ _ _ (T11.setTop (mkF m 15 #[.val (.ref t1), .val (.ref r1), .val (.int p1), .val (.int p2)] [(.ref t1)]))
  refine own_of (fun _ hh_ => XS.iloadN X11.here hx rfl (hb hby dI_15) rfl hh_) ?_
  show own_Run p e below s _ _ _ (T11.setTop (mkF m 16 #[.val (.ref t1), .val (.ref r1), .val (.int p1), .val (.int p2)] [(.int p2), (.ref t1)]))
  obtain ⟨T20, h20, X20, e20, W20, st20⟩ := putF X11 hx hZ hown (host := "") (Or.inl (hw _ (List.mem_of_getElem? (i := 15) rfl))) Via.refl e11 f14 f12 (Or.inl (hw _ (List.mem_of_getElem? (i := 16) rfl))) (hw _ (List.mem_of_getElem? (i := 3) rfl)) (ty := .int) (by decide) rfl rfl (g := (mkF m 16 #[.val (.ref t1), .val (.ref r1), .val (.int p1), .val (.int p2)] [(.int p2), (.ref t1)])) rfl rfl (hb hby dI_16)
  have f20 := f14.same W20
  have N20 := Fr.snoc X20 N11 g_t1
  have f21 := f12.wr W20
  have f22 := f13.other W20 (Or.inr (slot_ne (Or.inl (hw _ (List.mem_of_getElem? (i := 12) rfl))) (Or.inl (hw _ (List.mem_of_getElem? (i := 16) rfl))) (by decide) (t := (.array .byte)) (t' := .int) (by decide) (by decide)))
  have f23 := f11.other W20 (Or.inr (slot_ne (Or.inl (hw _ (List.mem_of_getElem? (i := 14) rfl))) (Or.inl (hw _ (List.mem_of_getElem? (i := 16) rfl))) (by decide) (t := .int) (t' := .int) (by decide) (by decide)))
  have f24 := f15.other W20 (Or.inr (slot_ne (Or.inr (hw _ (List.mem_of_getElem? (i := 18) rfl))) (Or.inl (hw _ (List.mem_of_getElem? (i := 16) rfl))) (by decide) (t := (.object "java/util/zip/Inflater")) (t' := .int) (by decide) (by decide)))
  have f25 := f16.other W20 (Or.inr (slot_ne (Or.inr (hw _ (List.mem_of_getElem? (i := 20) rfl))) (Or.inl (hw _ (List.mem_of_getElem? (i := 16) rfl))) (by decide) (t := .int) (t' := .int) (by decide) (by decide)))
  have f26 := f17.other W20 (Or.inr (slot_ne (Or.inr (hw _ (List.mem_of_getElem? (i := 22) rfl))) (Or.inl (hw _ (List.mem_of_getElem? (i := 16) rfl))) (by decide) (t := .long) (t' := .int) (by decide) (by decide)))
  have f27 := f18.other W20 (Or.inr (slot_ne (Or.inl (hw _ (List.mem_of_getElem? (i := 52) rfl))) (Or.inl (hw _ (List.mem_of_getElem? (i := 16) rfl))) (by decide) (t := .long) (t' := .int) (by decide) (by decide)))
  have K28 := K19.wr W20 (Or.inl (List.mem_of_getElem? (i := 0) rfl))
  refine own_of st20 ?_
  show own_Run p e below s _ _ _ (T20.setTop (mkF m 19 #[.val (.ref t1), .val (.ref r1), .val (.int p1), .val (.int p2)] []))
  refine own_of (fun _ hh_ => XS.aloadN X20.here hx rfl (hb hby dI_19) rfl rfl hh_) ?_
  show own_Run p e below s _ _ _ (T20.setTop (mkF m 20 #[.val (.ref t1), .val (.ref r1), .val (.int p1), .val (.int p2)] [(.ref t1)]))
  refine own_of (fun _ hh_ => XS.aconstNull X20.here hx rfl (hb hby dI_20) hh_) ?_
  show own_Run p e below s _ _ _ (T20.setTop (mkF m 21 #[.val (.ref t1), .val (.ref r1), .val (.int p1), .val (.int p2)] [.null, (.ref t1)]))
  obtain ⟨T29, h29, X29, e29, W29, st29⟩ := putF X20 hx hZ hown (host := "") (Or.inl (hw _ (List.mem_of_getElem? (i := 17) rfl))) Via.refl e20 f24 f21 (Or.inr ⟨(hw _ (List.mem_of_getElem? (i := 18) rfl)), rfl, hnm⟩) (hw _ (List.mem_of_getElem? (i := 3) rfl)) (ty := (.object "java/util/zip/Inflater")) (by decide) rfl rfl (g := (mkF m 21 #[.val (.ref t1), .val (.ref r1), .val (.int p1), .val (.int p2)] [.null, (.ref t1)])) rfl rfl (hb hby dI_21)
  have f29 := f24.same W29
  have N29 := Fr.snoc X29 N20 g_t1
  have f30 := f21.wr W29
  have f31 := f22.other W29 (Or.inr (slot_ne (Or.inl (hw _ (List.mem_of_getElem? (i := 12) rfl))) (Or.inr (hw _ (List.mem_of_getElem? (i := 18) rfl))) (by decide) (t := (.array .byte)) (t' := (.object "java/util/zip/Inflater")) (by decide) (by decide)))
  have f32 := f23.other W29 (Or.inr (slot_ne (Or.inl (hw _ (List.mem_of_getElem? (i := 14) rfl))) (Or.inr (hw _ (List.mem_of_getElem? (i := 18) rfl))) (by decide) (t := .int) (t' := (.object "java/util/zip/Inflater")) (by decide) (by decide)))
  have f33 := f20.other W29 (Or.inr (slot_ne (Or.inl (hw _ (List.mem_of_getElem? (i := 16) rfl))) (Or.inr (hw _ (List.mem_of_getElem? (i := 18) rfl))) (by decide) (t := .int) (t' := (.object "java/util/zip/Inflater")) (by decide) (by decide)))
  have f34 := f25.other W29 (Or.inr (slot_ne (Or.inr (hw _ (List.mem_of_getElem? (i := 20) rfl))) (Or.inr (hw _ (List.mem_of_getElem? (i := 18) rfl))) (by decide) (t := .int) (t' := (.object "java/util/zip/Inflater")) (by decide) (by decide)))
  have f35 := f26.other W29 (Or.inr (slot_ne (Or.inr (hw _ (List.mem_of_getElem? (i := 22) rfl))) (Or.inr (hw _ (List.mem_of_getElem? (i := 18) rfl))) (by decide) (t := .long) (t' := (.object "java/util/zip/Inflater")) (by decide) (by decide)))
  have f36 := f27.other W29 (Or.inr (slot_ne (Or.inl (hw _ (List.mem_of_getElem? (i := 52) rfl))) (Or.inr (hw _ (List.mem_of_getElem? (i := 18) rfl))) (by decide) (t := .long) (t' := (.object "java/util/zip/Inflater")) (by decide) (by decide)))
  have K37 := K28.wr W29 (Or.inl (List.mem_of_getElem? (i := 0) rfl))
  refine own_of st29 ?_
  show own_Run p e below s _ _ _ (T29.setTop (mkF m 24 #[.val (.ref t1), .val (.ref r1), .val (.int p1), .val (.int p2)] []))
  refine own_of (fun _ hh_ => XS.aloadN X29.here hx rfl (hb hby dI_24) rfl rfl hh_) ?_
  show own_Run p e below s _ _ _ (T29.setTop (mkF m 25 #[.val (.ref t1), .val (.ref r1), .val (.int p1), .val (.int p2)] [(.ref t1)]))
  refine own_of (fun _ hh_ => XS.iconst X29.here hx rfl (hb hby dI_25) hh_) ?_
  show own_Run p e below s _ _ _ (T29.setTop (mkF m 26 #[.val (.ref t1), .val (.ref r1), .val (.int p1), .val (.int p2)] [(.int (0 : Int32)), (.ref t1)]))
  obtain ⟨T38, h38, X38, e38, W38, st38⟩ := putF X29 hx hZ hown (host := "") (Or.inl (hw _ (List.mem_of_getElem? (i := 19) rfl))) Via.refl e29 f34 f30 (Or.inr ⟨(hw _ (List.mem_of_getElem? (i := 20) rfl)), rfl, hnm⟩) (hw _ (List.mem_of_getElem? (i := 3) rfl)) (ty := .int) (by decide) rfl rfl (g := (mkF m 26 #[.val (.ref t1), .val (.ref r1), .val (.int p1), .val (.int p2)] [(.int (0 : Int32)), (.ref t1)])) rfl rfl (hb hby dI_26)
  have f38 := f34.same W38
  have N38 := Fr.snoc X38 N29 g_t1
  have f39 := f30.wr W38
  have f40 := f31.other W38 (Or.inr (slot_ne (Or.inl (hw _ (List.mem_of_getElem? (i := 12) rfl))) (Or.inr (hw _ (List.mem_of_getElem? (i := 20) rfl))) (by decide) (t := (.array .byte)) (t' := .int) (by decide) (by decide)))
  have f41 := f32.other W38 (Or.inr (slot_ne (Or.inl (hw _ (List.mem_of_getElem? (i := 14) rfl))) (Or.inr (hw _ (List.mem_of_getElem? (i := 20) rfl))) (by decide) (t := .int) (t' := .int) (by decide) (by decide)))
  have f42 := f33.other W38 (Or.inr (slot_ne (Or.inl (hw _ (List.mem_of_getElem? (i := 16) rfl))) (Or.inr (hw _ (List.mem_of_getElem? (i := 20) rfl))) (by decide) (t := .int) (t' := .int) (by decide) (by decide)))
  have f43 := f29.other W38 (Or.inr (slot_ne (Or.inr (hw _ (List.mem_of_getElem? (i := 18) rfl))) (Or.inr (hw _ (List.mem_of_getElem? (i := 20) rfl))) (by decide) (t := (.object "java/util/zip/Inflater")) (t' := .int) (by decide) (by decide)))
  have f44 := f35.other W38 (Or.inr (slot_ne (Or.inr (hw _ (List.mem_of_getElem? (i := 22) rfl))) (Or.inr (hw _ (List.mem_of_getElem? (i := 20) rfl))) (by decide) (t := .long) (t' := .int) (by decide) (by decide)))
  have f45 := f36.other W38 (Or.inr (slot_ne (Or.inl (hw _ (List.mem_of_getElem? (i := 52) rfl))) (Or.inr (hw _ (List.mem_of_getElem? (i := 20) rfl))) (by decide) (t := .long) (t' := .int) (by decide) (by decide)))
  have K46 := K37.wr W38 (Or.inl (List.mem_of_getElem? (i := 0) rfl))
  refine own_of st38 ?_
  show own_Run p e below s _ _ _ (T38.setTop (mkF m 29 #[.val (.ref t1), .val (.ref r1), .val (.int p1), .val (.int p2)] []))
  refine own_of (fun _ hh_ => XS.aloadN X38.here hx rfl (hb hby dI_29) rfl rfl hh_) ?_
  show own_Run p e below s _ _ _ (T38.setTop (mkF m 30 #[.val (.ref t1), .val (.ref r1), .val (.int p1), .val (.int p2)] [(.ref t1)]))
  refine own_of (fun _ hh_ => XS.lconst X38.here hx rfl (hb hby dI_30) hh_) ?_
  show own_Run p e below s _ _ _ (T38.setTop (mkF m 31 #[.val (.ref t1), .val (.ref r1), .val (.int p1), .val (.int p2)] [(.long (0 : Int64)), (.ref t1)]))
  obtain ⟨T47, h47, X47, e47, W47, st47⟩ := putF X38 hx hZ hown (host := "") (Or.inl (hw _ (List.mem_of_getElem? (i := 21) rfl))) Via.refl e38 f44 f39 (Or.inr ⟨(hw _ (List.mem_of_getElem? (i := 22) rfl)), rfl, hnm⟩) (hw _ (List.mem_of_getElem? (i := 3) rfl)) (ty := .long) (by decide) rfl rfl (g := (mkF m 31 #[.val (.ref t1), .val (.ref r1), .val (.int p1), .val (.int p2)] [(.long (0 : Int64)), (.ref t1)])) rfl rfl (hb hby dI_31)
  have f47 := f44.same W47
  have N47 := Fr.snoc X47 N38 g_t1
  have f48 := f39.wr W47
  have f49 := f40.other W47 (Or.inr (slot_ne (Or.inl (hw _ (List.mem_of_getElem? (i := 12) rfl))) (Or.inr (hw _ (List.mem_of_getElem? (i := 22) rfl))) (by decide) (t := (.array .byte)) (t' := .long) (by decide) (by decide)))
  have f50 := f41.other W47 (Or.inr (slot_ne (Or.inl (hw _ (List.mem_of_getElem? (i := 14) rfl))) (Or.inr (hw _ (List.mem_of_getElem? (i := 22) rfl))) (by decide) (t := .int) (t' := .long) (by decide) (by decide)))
  have f51 := f42.other W47 (Or.inr (slot_ne (Or.inl (hw _ (List.mem_of_getElem? (i := 16) rfl))) (Or.inr (hw _ (List.mem_of_getElem? (i := 22) rfl))) (by decide) (t := .int) (t' := .long) (by decide) (by decide)))
  have f52 := f43.other W47 (Or.inr (slot_ne (Or.inr (hw _ (List.mem_of_getElem? (i := 18) rfl))) (Or.inr (hw _ (List.mem_of_getElem? (i := 22) rfl))) (by decide) (t := (.object "java/util/zip/Inflater")) (t' := .long) (by decide) (by decide)))
  have f53 := f38.other W47 (Or.inr (slot_ne (Or.inr (hw _ (List.mem_of_getElem? (i := 20) rfl))) (Or.inr (hw _ (List.mem_of_getElem? (i := 22) rfl))) (by decide) (t := .int) (t' := .long) (by decide) (by decide)))
  have f54 := f45.other W47 (Or.inr (slot_ne (Or.inl (hw _ (List.mem_of_getElem? (i := 52) rfl))) (Or.inr (hw _ (List.mem_of_getElem? (i := 22) rfl))) (by decide) (t := .long) (t' := .long) (by decide) (by decide)))
  have K55 := K46.wr W47 (Or.inl (List.mem_of_getElem? (i := 0) rfl))
  refine own_of st47 ?_
  show own_Run p e below s _ _ _ (T47.setTop (mkF m 34 #[.val (.ref t1), .val (.ref r1), .val (.int p1), .val (.int p2)] []))
  exact own_retV X47 hx hret hlk (hb hby dI_34) (by rw [e47]; exact ⟨rfl, N47, K55, f49, f50, f51, f52, f54⟩) (by decide) (by decide)
theorem dR_0 : decode prog_95_method_4_code 0 = .ok (.aload_n 0, 1) := by decide +kernel
theorem dR_1 : decode prog_95_method_4_code 1 = .ok (.getfield 17, 3) := by decide +kernel
theorem dR_4 : decode prog_95_method_4_code 4 = .ok (.aload_n 0, 1) := by decide +kernel
theorem dR_5 : decode prog_95_method_4_code 5 = .ok (.getfield 13, 3) := by decide +kernel
theorem dR_8 : decode prog_95_method_4_code 8 = .ok (.isub, 1) := by decide +kernel
theorem dR_9 : decode prog_95_method_4_code 9 = .ok (.i2l, 1) := by decide +kernel
theorem dR_10 : decode prog_95_method_4_code 10 = .ok (.aload_n 0, 1) := by decide +kernel
theorem dR_11 : decode prog_95_method_4_code 11 = .ok (.getfield 20, 3) := by decide +kernel
theorem dR_14 : decode prog_95_method_4_code 14 = .ok (.ifnonnull 7, 3) := by decide +kernel
theorem dR_17 : decode prog_95_method_4_code 17 = .ok (.lconst 0, 1) := by decide +kernel
theorem dR_18 : decode prog_95_method_4_code 18 = .ok (.goto 12, 3) := by decide +kernel
theorem dR_30 : decode prog_95_method_4_code 30 = .ok (.ladd, 1) := by decide +kernel
theorem dR_31 : decode prog_95_method_4_code 31 = .ok (.lreturn, 1) := by decide +kernel
theorem efR (m : MethodId) (t1 : Addr) : entryFrame m #[(.ref t1)] 1 = mkF m 0 #[.val (.ref t1)] [] := by first | (simp [entryFrame, mkF, argsToLocals, Value.category]; done) | rfl
def QR (Z : State) (t1 : Addr) (vl : Int32) (vp : Int32) (h0 : Heap) (n0 : Nat) (v : Option Value) (h : Heap) (L : List Loc) : Prop := v = some (.long (((vl - vp).toInt64) + (0 : Int64))) ∧ Fr n0 L ∧ h = h0
set_option maxRecDepth 65536 in
set_option maxHeartbeats 40000000 in
theorem rmR (l : Launch) (Z : State) (a0 : Array Value) (hw : ∀ d ∈ tables_1, d.before a0 Z = true) (ws : List Jvm.Cond) (t1 : Addr) (vl : Int32) (vp : Int32) (h0 : Heap) (n0 : Nat) (Z0 : n0 ≤ h0.size) (Flimit : Fld Z h0 t1 "org/lanner/term/TermInput" "limit" "I" (.int vl)) (Fposition : Fld Z h0 t1 "org/lanner/term/TermInput" "position" "I" (.int vp)) (Finflater : Fld Z h0 t1 "org/lanner/term/TermInput" "inflater" "Ljava/util/zip/Inflater;" .null) :
    MetFree l (⟨"org/lanner/term/TermInput", "remaining", "()J"⟩ : MethodName) (head1 (Jvm.Cond.code (⟨"org/lanner/term/TermInput", "remaining", "()J"⟩ : MethodName) prog_95_method_4_code 1 (some .long) :: ws) ({ frames := 0, cells := 0, slots := 0, locals := 0 } : Room)) (fun a U => a = #[(.ref t1)] ∧ Z.Warmed39 U.vm ∧ U.heap = h0) (fun _ _ _ _ _ => True) (fun _ U o U' => ∃ v L, o = .returned v ∧ QR Z t1 vl vp h0 n0 v U'.heap L ∧ FrameEnd U o U' L ({ frames := 0, cells := 0, slots := 0, locals := 0 } : Room).cells ({ frames := 0, cells := 0, slots := 0, locals := 0 } : Room).slots) := by
  refine MetFree.of_bodySF (plainFor_of_name own_pn0) hisR ?_
  intro p e s m args below meth c s₁ Bd hml0 hP hK
  obtain ⟨rfl, hZ, hh⟩ := hP
  have hx := Bd.exec
  have hby := Bd.bytes
  have hml : c.maxLocals = 1 := hml0
  have hown : s.vm.findClass "org/lanner/term/TermInput" = some m.cls := findClass_of_methodNamed Bd.named
  have hnm := (name_of_methodNamed Bd.named Bd.method).1
  have hlk := Bd.notSynchronized
  have hret := Bd.returns
  have X0 : Stand p l e ({ frames := 0, cells := 0, slots := 0, locals := 0 } : Room) s m #[(.ref t1)] below meth c s₁ [] 0 0 := Stand.of_body Bd
  have e0 : s₁.heap = h0 := by rw [← hh, Bd.state]; rfl
  have N0 := Fr.nil n0
  show own_Run p e below s 0 0 (QR Z t1 vl vp h0 n0) (s₁.setTop (entryFrame m #[(.ref t1)] 1))
  refine own_cast (efR m t1) ?_
  show own_Run p e below s _ _ _ (s₁.setTop (mkF m 0 #[.val (.ref t1)] []))
  refine own_of (fun _ hh_ => XS.aloadN X0.here hx rfl (hb hby dR_0) rfl rfl hh_) ?_
  show own_Run p e below s _ _ _ (s₁.setTop (mkF m 1 #[.val (.ref t1)] [(.ref t1)]))
  obtain ⟨T1, X1, e1, st1⟩ := getF X0 hx hZ hown (host := "") (Or.inl (hw _ (List.mem_of_getElem? (i := 15) rfl))) Via.refl e0 Flimit (g := (mkF m 1 #[.val (.ref t1)] [(.ref t1)])) rfl rfl (hb hby dR_1)
  refine own_of st1 ?_
  show own_Run p e below s _ _ _ (T1.setTop (mkF m 4 #[.val (.ref t1)] [(.int vl)]))
  refine own_of (fun _ hh_ => XS.aloadN X1.here hx rfl (hb hby dR_4) rfl rfl hh_) ?_
  show own_Run p e below s _ _ _ (T1.setTop (mkF m 5 #[.val (.ref t1)] [(.ref t1), (.int vl)]))
  obtain ⟨T2, X2, e2, st2⟩ := getF X1 hx hZ hown (host := "") (Or.inl (hw _ (List.mem_of_getElem? (i := 13) rfl))) Via.refl e1 Fposition (g := (mkF m 5 #[.val (.ref t1)] [(.ref t1), (.int vl)])) rfl rfl (hb hby dR_5)
  refine own_of st2 ?_
  show own_Run p e below s _ _ _ (T2.setTop (mkF m 8 #[.val (.ref t1)] [(.int vp), (.int vl)]))
  refine own_of (fun _ hh_ => XS.isub X2.here hx rfl (hb hby dR_8) rfl hh_) ?_
  show own_Run p e below s _ _ _ (T2.setTop (mkF m 9 #[.val (.ref t1)] [(.int (vl - vp))]))
  refine own_of (fun _ hh_ => XS.i2l X2.here hx rfl (hb hby dR_9) rfl hh_) ?_
  show own_Run p e below s _ _ _ (T2.setTop (mkF m 10 #[.val (.ref t1)] [(.long ((vl - vp).toInt64))]))
  refine own_of (fun _ hh_ => XS.aloadN X2.here hx rfl (hb hby dR_10) rfl rfl hh_) ?_
  show own_Run p e below s _ _ _ (T2.setTop (mkF m 11 #[.val (.ref t1)] [(.ref t1), (.long ((vl - vp).toInt64))]))
  obtain ⟨T3, X3, e3, st3⟩ := getF X2 hx hZ hown (host := "") (Or.inl (hw _ (List.mem_of_getElem? (i := 17) rfl))) Via.refl e2 Finflater (g := (mkF m 11 #[.val (.ref t1)] [(.ref t1), (.long ((vl - vp).toInt64))])) rfl rfl (hb hby dR_11)
  refine own_of st3 ?_
  show own_Run p e below s _ _ _ (T3.setTop (mkF m 14 #[.val (.ref t1)] [.null, (.long ((vl - vp).toInt64))]))
  refine own_of (fun _ hh_ => XS.ifnonnullNo X3.here hx rfl (hb hby dR_14) rfl hh_) ?_
  show own_Run p e below s _ _ _ (T3.setTop (mkF m 17 #[.val (.ref t1)] [(.long ((vl - vp).toInt64))]))
  refine own_of (fun _ hh_ => XS.lconst X3.here hx rfl (hb hby dR_17) hh_) ?_
  show own_Run p e below s _ _ _ (T3.setTop (mkF m 18 #[.val (.ref t1)] [(.long (0 : Int64)), (.long ((vl - vp).toInt64))]))
  refine own_of (fun _ hh_ => XS.goto X3.here hx rfl (pc0 := 18) (pc' := 30) rfl (hb hby dR_18) (by decide) (by decide) hh_) ?_
  show own_Run p e below s _ _ _ (T3.setTop (mkF m 30 #[.val (.ref t1)] [(.long (0 : Int64)), (.long ((vl - vp).toInt64))]))
  refine own_of (fun _ hh_ => XS.ladd X3.here hx rfl (hb hby dR_30) rfl hh_) ?_
  show own_Run p e below s _ _ _ (T3.setTop (mkF m 31 #[.val (.ref t1)] [(.long (((vl - vp).toInt64) + (0 : Int64)))]))
  exact own_retJ X3 hx hret hlk (hb hby dR_31) ⟨rfl, N0, e3⟩ (by decide) (by decide)
theorem dB_0 : decode prog_95_method_5_code 0 = .ok (.aload_n 0, 1) := by decide +kernel
theorem dB_1 : decode prog_95_method_5_code 1 = .ok (.getfield 17, 3) := by decide +kernel
theorem dB_4 : decode prog_95_method_5_code 4 = .ok (.aload_n 0, 1) := by decide +kernel
theorem dB_5 : decode prog_95_method_5_code 5 = .ok (.getfield 13, 3) := by decide +kernel
theorem dB_8 : decode prog_95_method_5_code 8 = .ok (.isub, 1) := by decide +kernel
theorem dB_9 : decode prog_95_method_5_code 9 = .ok (.ireturn, 1) := by decide +kernel
theorem efB (m : MethodId) (t1 : Addr) : entryFrame m #[(.ref t1)] 1 = mkF m 0 #[.val (.ref t1)] [] := by first | (simp [entryFrame, mkF, argsToLocals, Value.category]; done) | rfl
def QB (Z : State) (t1 : Addr) (vl : Int32) (vp : Int32) (h0 : Heap) (n0 : Nat) (v : Option Value) (h : Heap) (L : List Loc) : Prop := v = some (.int (vl - vp)) ∧ Fr n0 L ∧ h = h0
set_option maxRecDepth 65536 in
set_option maxHeartbeats 40000000 in
theorem rmB (l : Launch) (Z : State) (a0 : Array Value) (hw : ∀ d ∈ tables_1, d.before a0 Z = true) (ws : List Jvm.Cond) (t1 : Addr) (vl : Int32) (vp : Int32) (h0 : Heap) (n0 : Nat) (Z0 : n0 ≤ h0.size) (Flimit : Fld Z h0 t1 "org/lanner/term/TermInput" "limit" "I" (.int vl)) (Fposition : Fld Z h0 t1 "org/lanner/term/TermInput" "position" "I" (.int vp)) :
    MetFree l (⟨"org/lanner/term/TermInput", "buffered", "()I"⟩ : MethodName) (head1 (Jvm.Cond.code (⟨"org/lanner/term/TermInput", "buffered", "()I"⟩ : MethodName) prog_95_method_5_code 1 (some .int) :: ws) ({ frames := 0, cells := 0, slots := 0, locals := 0 } : Room)) (fun a U => a = #[(.ref t1)] ∧ Z.Warmed39 U.vm ∧ U.heap = h0) (fun _ _ _ _ _ => True) (fun _ U o U' => ∃ v L, o = .returned v ∧ QB Z t1 vl vp h0 n0 v U'.heap L ∧ FrameEnd U o U' L ({ frames := 0, cells := 0, slots := 0, locals := 0 } : Room).cells ({ frames := 0, cells := 0, slots := 0, locals := 0 } : Room).slots) := by
  refine MetFree.of_bodySF (plainFor_of_name own_pn0) hisR ?_
  intro p e s m args below meth c s₁ Bd hml0 hP hK
  obtain ⟨rfl, hZ, hh⟩ := hP
  have hx := Bd.exec
  have hby := Bd.bytes
  have hml : c.maxLocals = 1 := hml0
  have hown : s.vm.findClass "org/lanner/term/TermInput" = some m.cls := findClass_of_methodNamed Bd.named
  have hnm := (name_of_methodNamed Bd.named Bd.method).1
  have hlk := Bd.notSynchronized
  have hret := Bd.returns
  have X0 : Stand p l e ({ frames := 0, cells := 0, slots := 0, locals := 0 } : Room) s m #[(.ref t1)] below meth c s₁ [] 0 0 := Stand.of_body Bd
  have e0 : s₁.heap = h0 := by rw [← hh, Bd.state]; rfl
  have N0 := Fr.nil n0
  show own_Run p e below s 0 0 (QB Z t1 vl vp h0 n0) (s₁.setTop (entryFrame m #[(.ref t1)] 1))
  refine own_cast (efB m t1) ?_
  show own_Run p e below s _ _ _ (s₁.setTop (mkF m 0 #[.val (.ref t1)] []))
  refine own_of (fun _ hh_ => XS.aloadN X0.here hx rfl (hb hby dB_0) rfl rfl hh_) ?_
  show own_Run p e below s _ _ _ (s₁.setTop (mkF m 1 #[.val (.ref t1)] [(.ref t1)]))
  obtain ⟨T1, X1, e1, st1⟩ := getF X0 hx hZ hown (host := "") (Or.inl (hw _ (List.mem_of_getElem? (i := 15) rfl))) Via.refl e0 Flimit (g := (mkF m 1 #[.val (.ref t1)] [(.ref t1)])) rfl rfl (hb hby dB_1)
  refine own_of st1 ?_
  show own_Run p e below s _ _ _ (T1.setTop (mkF m 4 #[.val (.ref t1)] [(.int vl)]))
  refine own_of (fun _ hh_ => XS.aloadN X1.here hx rfl (hb hby dB_4) rfl rfl hh_) ?_
  show own_Run p e below s _ _ _ (T1.setTop (mkF m 5 #[.val (.ref t1)] [(.ref t1), (.int vl)]))
  obtain ⟨T2, X2, e2, st2⟩ := getF X1 hx hZ hown (host := "") (Or.inl (hw _ (List.mem_of_getElem? (i := 13) rfl))) Via.refl e1 Fposition (g := (mkF m 5 #[.val (.ref t1)] [(.ref t1), (.int vl)])) rfl rfl (hb hby dB_5)
  refine own_of st2 ?_
  show own_Run p e below s _ _ _ (T2.setTop (mkF m 8 #[.val (.ref t1)] [(.int vp), (.int vl)]))
  refine own_of (fun _ hh_ => XS.isub X2.here hx rfl (hb hby dB_8) rfl hh_) ?_
  show own_Run p e below s _ _ _ (T2.setTop (mkF m 9 #[.val (.ref t1)] [(.int (vl - vp))]))
  exact own_retI X2 hx hret hlk (hb hby dB_9) ⟨rfl, N0, e2⟩ (by decide) (by decide)
theorem dO_0 : decode prog_95_method_3_code 0 = .ok (.aload_n 0, 1) := by decide +kernel
theorem dO_1 : decode prog_95_method_3_code 1 = .ok (.getfield 39, 3) := by decide +kernel
theorem dO_4 : decode prog_95_method_3_code 4 = .ok (.aload_n 0, 1) := by decide +kernel
theorem dO_5 : decode prog_95_method_3_code 5 = .ok (.getfield 13, 3) := by decide +kernel
theorem dO_8 : decode prog_95_method_3_code 8 = .ok (.i2l, 1) := by decide +kernel
theorem dO_9 : decode prog_95_method_3_code 9 = .ok (.ladd, 1) := by decide +kernel
theorem dO_10 : decode prog_95_method_3_code 10 = .ok (.lreturn, 1) := by decide +kernel
theorem efO (m : MethodId) (t1 : Addr) : entryFrame m #[(.ref t1)] 1 = mkF m 0 #[.val (.ref t1)] [] := by first | (simp [entryFrame, mkF, argsToLocals, Value.category]; done) | rfl
def QO (Z : State) (t1 : Addr) (vd : Int64) (vp : Int32) (h0 : Heap) (n0 : Nat) (v : Option Value) (h : Heap) (L : List Loc) : Prop := v = some (.long (vd + (vp.toInt64))) ∧ Fr n0 L ∧ h = h0
set_option maxRecDepth 65536 in
set_option maxHeartbeats 40000000 in
theorem rmO (l : Launch) (Z : State) (a0 : Array Value) (hw : ∀ d ∈ tables_1, d.before a0 Z = true) (ws : List Jvm.Cond) (t1 : Addr) (vd : Int64) (vp : Int32) (h0 : Heap) (n0 : Nat) (Z0 : n0 ≤ h0.size) (Fdiscarded : Fld Z h0 t1 "org/lanner/term/TermInput" "discarded" "J" (.long vd)) (Fposition : Fld Z h0 t1 "org/lanner/term/TermInput" "position" "I" (.int vp)) :
    MetFree l (⟨"org/lanner/term/TermInput", "offset", "()J"⟩ : MethodName) (head1 (Jvm.Cond.code (⟨"org/lanner/term/TermInput", "offset", "()J"⟩ : MethodName) prog_95_method_3_code 1 (some .long) :: ws) ({ frames := 0, cells := 0, slots := 0, locals := 0 } : Room)) (fun a U => a = #[(.ref t1)] ∧ Z.Warmed39 U.vm ∧ U.heap = h0) (fun _ _ _ _ _ => True) (fun _ U o U' => ∃ v L, o = .returned v ∧ QO Z t1 vd vp h0 n0 v U'.heap L ∧ FrameEnd U o U' L ({ frames := 0, cells := 0, slots := 0, locals := 0 } : Room).cells ({ frames := 0, cells := 0, slots := 0, locals := 0 } : Room).slots) := by
  refine MetFree.of_bodySF (plainFor_of_name own_pn0) hisR ?_
  intro p e s m args below meth c s₁ Bd hml0 hP hK
  obtain ⟨rfl, hZ, hh⟩ := hP
  have hx := Bd.exec
  have hby := Bd.bytes
  have hml : c.maxLocals = 1 := hml0
  have hown : s.vm.findClass "org/lanner/term/TermInput" = some m.cls := findClass_of_methodNamed Bd.named
  have hnm := (name_of_methodNamed Bd.named Bd.method).1
  have hlk := Bd.notSynchronized
  have hret := Bd.returns
  have X0 : Stand p l e ({ frames := 0, cells := 0, slots := 0, locals := 0 } : Room) s m #[(.ref t1)] below meth c s₁ [] 0 0 := Stand.of_body Bd
  have e0 : s₁.heap = h0 := by rw [← hh, Bd.state]; rfl
  have N0 := Fr.nil n0
  show own_Run p e below s 0 0 (QO Z t1 vd vp h0 n0) (s₁.setTop (entryFrame m #[(.ref t1)] 1))
  refine own_cast (efO m t1) ?_
  show own_Run p e below s _ _ _ (s₁.setTop (mkF m 0 #[.val (.ref t1)] []))
  refine own_of (fun _ hh_ => XS.aloadN X0.here hx rfl (hb hby dO_0) rfl rfl hh_) ?_
  show own_Run p e below s _ _ _ (s₁.setTop (mkF m 1 #[.val (.ref t1)] [(.ref t1)]))
  obtain ⟨T1, X1, e1, st1⟩ := getF X0 hx hZ hown (host := "") (Or.inl (hw _ (List.mem_of_getElem? (i := 51) rfl))) Via.refl e0 Fdiscarded (g := (mkF m 1 #[.val (.ref t1)] [(.ref t1)])) rfl rfl (hb hby dO_1)
  refine own_of st1 ?_
  show own_Run p e below s _ _ _ (T1.setTop (mkF m 4 #[.val (.ref t1)] [(.long vd)]))
  refine own_of (fun _ hh_ => XS.aloadN X1.here hx rfl (hb hby dO_4) rfl rfl hh_) ?_
  show own_Run p e below s _ _ _ (T1.setTop (mkF m 5 #[.val (.ref t1)] [(.ref t1), (.long vd)]))
  obtain ⟨T2, X2, e2, st2⟩ := getF X1 hx hZ hown (host := "") (Or.inl (hw _ (List.mem_of_getElem? (i := 13) rfl))) Via.refl e1 Fposition (g := (mkF m 5 #[.val (.ref t1)] [(.ref t1), (.long vd)])) rfl rfl (hb hby dO_5)
  refine own_of st2 ?_
  show own_Run p e below s _ _ _ (T2.setTop (mkF m 8 #[.val (.ref t1)] [(.int vp), (.long vd)]))
  refine own_of (fun _ hh_ => XS.i2l X2.here hx rfl (hb hby dO_8) rfl hh_) ?_
  show own_Run p e below s _ _ _ (T2.setTop (mkF m 9 #[.val (.ref t1)] [(.long (vp.toInt64)), (.long vd)]))
  refine own_of (fun _ hh_ => XS.ladd X2.here hx rfl (hb hby dO_9) rfl hh_) ?_
  show own_Run p e below s _ _ _ (T2.setTop (mkF m 10 #[.val (.ref t1)] [(.long (vd + (vp.toInt64)))]))
  exact own_retJ X2 hx hret hlk (hb hby dO_10) ⟨rfl, N0, e2⟩ (by decide) (by decide)
theorem dE_0 : decode prog_95_method_16_code 0 = .ok (.aload_n 0, 1) := by decide +kernel
theorem dE_1 : decode prog_95_method_16_code 1 = .ok (.getfield 17, 3) := by decide +kernel
theorem dE_4 : decode prog_95_method_16_code 4 = .ok (.aload_n 0, 1) := by decide +kernel
theorem dE_5 : decode prog_95_method_16_code 5 = .ok (.getfield 13, 3) := by decide +kernel
theorem dE_8 : decode prog_95_method_16_code 8 = .ok (.isub, 1) := by decide +kernel
theorem dE_9 : decode prog_95_method_16_code 9 = .ok (.iload_n 1, 1) := by decide +kernel
theorem dE_10 : decode prog_95_method_16_code 10 = .ok (.if_icmp .lt 4, 3) := by decide +kernel
theorem dE_13 : decode prog_95_method_16_code 13 = .ok (.return_, 1) := by decide +kernel
theorem efE (m : MethodId) (t1 : Addr) (p1 : Int32) : entryFrame m #[(.ref t1), (.int p1)] 3 = mkF m 0 #[.val (.ref t1), .val (.int p1), .unset] [] := by first | (simp [entryFrame, mkF, argsToLocals, Value.category]; done) | rfl
def QE (Z : State) (t1 : Addr) (p1 : Int32) (vl : Int32) (vp : Int32) (h0 : Heap) (n0 : Nat) (v : Option Value) (h : Heap) (L : List Loc) : Prop := v = none ∧ Fr n0 L ∧ h = h0
set_option maxRecDepth 65536 in
set_option maxHeartbeats 40000000 in
theorem rmE (l : Launch) (Z : State) (a0 : Array Value) (hw : ∀ d ∈ tables_1, d.before a0 Z = true) (ws : List Jvm.Cond) (t1 : Addr) (p1 : Int32) (vl : Int32) (vp : Int32) (h0 : Heap) (n0 : Nat) (Z0 : n0 ≤ h0.size) (Fl : Fld Z h0 t1 "org/lanner/term/TermInput" "limit" "I" (.int vl)) (Fp : Fld Z h0 t1 "org/lanner/term/TermInput" "position" "I" (.int vp)) (hen : ¬ (vl - vp) < p1) :
    MetFree l (⟨"org/lanner/term/TermInput", "ensure", "(I)V"⟩ : MethodName) (head1 (Jvm.Cond.code (⟨"org/lanner/term/TermInput", "ensure", "(I)V"⟩ : MethodName) prog_95_method_16_code 3 none :: ws) ({ frames := 0, cells := 0, slots := 0, locals := 0 } : Room)) (fun a U => a = #[(.ref t1), (.int p1)] ∧ Z.Warmed39 U.vm ∧ U.heap = h0) (fun _ _ _ _ _ => True) (fun _ U o U' => ∃ v L, o = .returned v ∧ QE Z t1 p1 vl vp h0 n0 v U'.heap L ∧ FrameEnd U o U' L ({ frames := 0, cells := 0, slots := 0, locals := 0 } : Room).cells ({ frames := 0, cells := 0, slots := 0, locals := 0 } : Room).slots) := by
  refine MetFree.of_bodySF (plainFor_of_name own_pn0) hisR ?_
  intro p e s m args below meth c s₁ Bd hml0 hP hK
  obtain ⟨rfl, hZ, hh⟩ := hP
  have hx := Bd.exec
  have hby := Bd.bytes
  have hml : c.maxLocals = 3 := hml0
  have hown : s.vm.findClass "org/lanner/term/TermInput" = some m.cls := findClass_of_methodNamed Bd.named
  have hnm := (name_of_methodNamed Bd.named Bd.method).1
  have hlk := Bd.notSynchronized
  have hret := Bd.returns
  have X0 : Stand p l e ({ frames := 0, cells := 0, slots := 0, locals := 0 } : Room) s m #[(.ref t1), (.int p1)] below meth c s₁ [] 0 0 := Stand.of_body Bd
  have e0 : s₁.heap = h0 := by rw [← hh, Bd.state]; rfl
  have N0 := Fr.nil n0
  show own_Run p e below s 0 0 (QE Z t1 p1 vl vp h0 n0) (s₁.setTop (entryFrame m #[(.ref t1), (.int p1)] 3))
  refine own_cast (efE m t1 p1) ?_
  show own_Run p e below s _ _ _ (s₁.setTop (mkF m 0 #[.val (.ref t1), .val (.int p1), .unset] []))
  refine own_of (fun _ hh_ => XS.aloadN X0.here hx rfl (hb hby dE_0) rfl rfl hh_) ?_
  show own_Run p e below s _ _ _ (s₁.setTop (mkF m 1 #[.val (.ref t1), .val (.int p1), .unset] [(.ref t1)]))
  obtain ⟨T1, X1, e1, st1⟩ := getF X0 hx hZ hown (host := "") (Or.inl (hw _ (List.mem_of_getElem? (i := 15) rfl))) Via.refl e0 Fl (g := (mkF m 1 #[.val (.ref t1), .val (.int p1), .unset] [(.ref t1)])) rfl rfl (hb hby dE_1)
  refine own_of st1 ?_
  show own_Run p e below s _ _ _ (T1.setTop (mkF m 4 #[.val (.ref t1), .val (.int p1), .unset] [(.int vl)]))
  refine own_of (fun _ hh_ => XS.aloadN X1.here hx rfl (hb hby dE_4) rfl rfl hh_) ?_
  show own_Run p e below s _ _ _ (T1.setTop (mkF m 5 #[.val (.ref t1), .val (.int p1), .unset] [(.ref t1), (.int vl)]))
  obtain ⟨T2, X2, e2, st2⟩ := getF X1 hx hZ hown (host := "") (Or.inl (hw _ (List.mem_of_getElem? (i := 13) rfl))) Via.refl e1 Fp (g := (mkF m 5 #[.val (.ref t1), .val (.int p1), .unset] [(.ref t1), (.int vl)])) rfl rfl (hb hby dE_5)
  refine own_of st2 ?_
  show own_Run p e below s _ _ _ (T2.setTop (mkF m 8 #[.val (.ref t1), .val (.int p1), .unset] [(.int vp), (.int vl)]))
  refine own_of (fun _ hh_ => XS.isub X2.here hx rfl (hb hby dE_8) rfl hh_) ?_
  show own_Run p e below s _ _ _ (T2.setTop (mkF m 9 #[.val (.ref t1), .val (.int p1), .unset] [(.int (vl - vp))]))
  refine own_of (fun _ hh_ => XS.iloadN X2.here hx rfl (hb hby dE_9) rfl hh_) ?_
  show own_Run p e below s _ _ _ (T2.setTop (mkF m 10 #[.val (.ref t1), .val (.int p1), .unset] [(.int p1), (.int (vl - vp))]))
  have hc10_3 : ¬ ((vl - vp) < p1) := hen
  refine own_of (fun _ hh_ => XS.icmpNo X2.here hx rfl (hb hby dE_10) rfl (flt hc10_3).1 hh_) ?_
  show own_Run p e below s _ _ _ (T2.setTop (mkF m 13 #[.val (.ref t1), .val (.int p1), .unset] []))
  exact own_retV X2 hx hret hlk (hb hby dE_13) ⟨rfl, N0, e2⟩ (by decide) (by decide)
theorem own_pd0 : parseMethodDescriptor "(I)V" = some ⟨[.int], none⟩ := by decide +kernel
theorem dU_0 : decode prog_95_method_6_code 0 = .ok (.aload_n 0, 1) := by decide +kernel
theorem dU_1 : decode prog_95_method_6_code 1 = .ok (.iconst 1, 1) := by decide +kernel
theorem dU_2 : decode prog_95_method_6_code 2 = .ok (.invokevirtual 45, 3) := by decide +kernel
theorem dU_5 : decode prog_95_method_6_code 5 = .ok (.aload_n 0, 1) := by decide +kernel
theorem dU_6 : decode prog_95_method_6_code 6 = .ok (.getfield 7, 3) := by decide +kernel
theorem dU_9 : decode prog_95_method_6_code 9 = .ok (.aload_n 0, 1) := by decide +kernel
theorem dU_10 : decode prog_95_method_6_code 10 = .ok (.dup, 1) := by decide +kernel
theorem dU_11 : decode prog_95_method_6_code 11 = .ok (.getfield 13, 3) := by decide +kernel
theorem dU_14 : decode prog_95_method_6_code 14 = .ok (.dup_x1, 1) := by decide +kernel
theorem dU_15 : decode prog_95_method_6_code 15 = .ok (.iconst 1, 1) := by decide +kernel
theorem dU_16 : decode prog_95_method_6_code 16 = .ok (.iadd, 1) := by decide +kernel
theorem dU_17 : decode prog_95_method_6_code 17 = .ok (.putfield 13, 3) := by decide +kernel
theorem dU_20 : decode prog_95_method_6_code 20 = .ok (.baload, 1) := by decide +kernel
theorem dU_21 : decode prog_95_method_6_code 21 = .ok (.sipush 255, 3) := by decide +kernel
theorem dU_24 : decode prog_95_method_6_code 24 = .ok (.iand, 1) := by decide +kernel
theorem dU_25 : decode prog_95_method_6_code 25 = .ok (.ireturn, 1) := by decide +kernel
theorem efU (m : MethodId) (t1 : Addr) : entryFrame m #[(.ref t1)] 1 = mkF m 0 #[.val (.ref t1)] [] := by first | (simp [entryFrame, mkF, argsToLocals, Value.category]; done) | rfl
def QU (Z : State) (t1 : Addr) (rb : Addr) (vp : Int32) (vl : Int32) (vd : Int64) (na : Nat) (fa : Nat → Int32) (h0 : Heap) (n0 : Nat) (v : Option Value) (h : Heap) (L : List Loc) : Prop := ∃ z : Int32, v = some (.int z) ∧ Fr n0 L ∧ Keep h0 h [t1] ∧ Fld Z h t1 "org/lanner/term/TermInput" "buffer" "[B" (.ref rb) ∧ Fld Z h t1 "org/lanner/term/TermInput" "position" "I" (.int (vp + (1 : Int32))) ∧ Fld Z h t1 "org/lanner/term/TermInput" "limit" "I" (.int vl) ∧ Fld Z h t1 "org/lanner/term/TermInput" "inflater" "Ljava/util/zip/Inflater;" .null ∧ Fld Z h t1 "org/lanner/term/TermInput" "discarded" "J" (.long vd)
set_option maxRecDepth 65536 in
set_option maxHeartbeats 40000000 in
theorem rmU (l : Launch) (Z : State) (a0 : Array Value) (hw : ∀ d ∈ tables_1, d.before a0 Z = true) (ws : List Jvm.Cond) (t1 : Addr) (rb : Addr) (vp : Int32) (vl : Int32) (vd : Int64) (na : Nat) (fa : Nat → Int32) (h0 : Heap) (n0 : Nat) (Z0 : n0 ≤ h0.size) (Ex : Exa Z h0 t1 "org/lanner/term/TermInput") (Fbuffer : Fld Z h0 t1 "org/lanner/term/TermInput" "buffer" "[B" (.ref rb)) (Fposition : Fld Z h0 t1 "org/lanner/term/TermInput" "position" "I" (.int vp)) (Flimit : Fld Z h0 t1 "org/lanner/term/TermInput" "limit" "I" (.int vl)) (Finflater : Fld Z h0 t1 "org/lanner/term/TermInput" "inflater" "Ljava/util/zip/Inflater;" .null) (Fdiscarded : Fld Z h0 t1 "org/lanner/term/TermInput" "discarded" "J" (.long vd)) (Va : own_Ar Z h0 rb .byte na fa) (g_t1 : n0 ≤ t1) (hen : ¬ (vl - vp) < (1 : Int32)) (hin : ¬ vp < 0) (hnt : vp.toNatClampNeg < na) :
    MetFree l (⟨"org/lanner/term/TermInput", "u8", "()I"⟩ : MethodName) (head1 (Jvm.Cond.code (⟨"org/lanner/term/TermInput", "u8", "()I"⟩ : MethodName) prog_95_method_6_code 1 (some .int) :: ws) ({ frames := 1, cells := 0, slots := 0, locals := 14 } : Room)) (fun a U => a = #[(.ref t1)] ∧ Z.Warmed39 U.vm ∧ U.heap = h0) (fun _ _ _ _ _ => True) (fun _ U o U' => ∃ v L, o = .returned v ∧ QU Z t1 rb vp vl vd na fa h0 n0 v U'.heap L ∧ FrameEnd U o U' L ({ frames := 1, cells := 0, slots := 0, locals := 14 } : Room).cells ({ frames := 1, cells := 0, slots := 0, locals := 14 } : Room).slots) := by
  refine MetFree.of_bodySF (plainFor_of_name own_pn0) hisR ?_
  intro p e s m args below meth c s₁ Bd hml0 hP hK
  obtain ⟨rfl, hZ, hh⟩ := hP
  have hx := Bd.exec
  have hby := Bd.bytes
  have hml : c.maxLocals = 1 := hml0
  have hown : s.vm.findClass "org/lanner/term/TermInput" = some m.cls := findClass_of_methodNamed Bd.named
  have hnm := (name_of_methodNamed Bd.named Bd.method).1
  have hlk := Bd.notSynchronized
  have hret := Bd.returns
  have X0 : Stand p l e ({ frames := 1, cells := 0, slots := 0, locals := 14 } : Room) s m #[(.ref t1)] below meth c s₁ [] 0 0 := Stand.of_body Bd
  have e0 : s₁.heap = h0 := by rw [← hh, Bd.state]; rfl
  have N0 := Fr.nil n0
  have K0 : Keep h0 h0 [t1] := Keep.refl _ _
  show own_Run p e below s 0 0 (QU Z t1 rb vp vl vd na fa h0 n0) (s₁.setTop (entryFrame m #[(.ref t1)] 1))
  refine own_cast (efU m t1) ?_
  have hne : t1 ≠ rb := by obtain ⟨ca, Aa, -⟩ := id Va; exact ne_arr Ex (hw _ (List.mem_of_getElem? (i := 3) rfl)) Aa
  show own_Run p e below s _ _ _ (s₁.setTop (mkF m 0 #[.val (.ref t1)] []))
  refine own_of (fun _ hh_ => XS.aloadN X0.here hx rfl (hb hby dU_0) rfl rfl hh_) ?_
  show own_Run p e below s _ _ _ (s₁.setTop (mkF m 1 #[.val (.ref t1)] [(.ref t1)]))
  refine own_of (fun _ hh_ => XS.iconst X0.here hx rfl (hb hby dU_1) hh_) ?_
  show own_Run p e below s _ _ _ (s₁.setTop (mkF m 2 #[.val (.ref t1)] [(.int (1 : Int32)), (.ref t1)]))
  obtain ⟨cq1, q1, q1'⟩ := Ex.cell
  obtain ⟨_, _, ⟨T1, L1, k1, n1⟩, -, X1, ⟨Lc1, hQ1, l1, y1, z1⟩, st1⟩ := X0.privateBack hx (y := (⟨"org/lanner/term/TermInput", "ensure", "(I)V"⟩ : MethodName)) hown (mvT hZ (hw _ (List.mem_of_getElem? (i := 37) rfl))) (mvT hZ (hw _ (List.mem_of_getElem? (i := 38) rfl))) (own_sel (mvT (args := #[]) hZ (hw _ (List.mem_of_getElem? (i := 3) rfl))) (Cond.privateMethod_at (mvP hZ (hw _ (List.mem_of_getElem? (i := 39) rfl)) (args := #[]))) (mvT hZ (hw _ (List.mem_of_getElem? (i := 38) rfl))) (by decide)) (Cond.privateMethod_at (mvP hZ (hw _ (List.mem_of_getElem? (i := 39) rfl)) (args := #[]))) (mvT hZ (hw _ (List.mem_of_getElem? (i := 40) rfl))) (by decide) (backOf (W := 0) (rmE l Z a0 hw [] t1 (1 : Int32) vl vp h0 n0 Z0 Flimit Fposition hen) hZ (hw _ (List.mem_of_getElem? (i := 40) rfl)) (hw _ (List.mem_of_getElem? (i := 4) rfl)) (by decide) (by decide)) (g := (mkF m 2 #[.val (.ref t1)] [(.int (1 : Int32)), (.ref t1)])) rfl (by rw [hml]; rfl) (Steps.refl _) (a := t1) (by rw [e0]; exact q1) q1' (argsL := [(.int (1 : Int32))]) (rest := []) (lenOf own_pd0 rfl) rfl (by show 2 * 0 + _ ≤ _; exact Nat.le_of_eq rfl) (hb hby dU_2) (fun _ _ => ⟨rfl, e0, (by decide : 0 + 0 ≤ _), (by decide : 0 + 0 ≤ _)⟩)
  dsimp only [Pt.U, Pt.locs, Pt.cells, Pt.slots] at X1 l1 y1 z1 st1 hQ1
  subst l1 y1 z1
  obtain ⟨rfl, N1q, e1⟩ := hQ1
  have N1 := Fr.app N0 N1q
  refine own_tr st1 ?_
  show own_Run p e below s _ _ _ (T1.setTop (mkF m 5 #[.val (.ref t1)] []))
  refine own_of (fun _ hh_ => XS.aloadN X1.here hx rfl (hb hby dU_5) rfl rfl hh_) ?_
  show own_Run p e below s _ _ _ (T1.setTop (mkF m 6 #[.val (.ref t1)] [(.ref t1)]))
  obtain ⟨T2, X2, e2, st2⟩ := getF X1 hx hZ hown (host := "") (Or.inl (hw _ (List.mem_of_getElem? (i := 11) rfl))) Via.refl e1 Fbuffer (g := (mkF m 6 #[.val (.ref t1)] [(.ref t1)])) rfl rfl (hb hby dU_6)
  refine own_of st2 ?_
  show own_Run p e below s _ _ _ (T2.setTop (mkF m 9 #[.val (.ref t1)] [(.ref rb)]))
  refine own_of (fun _ hh_ => XS.aloadN X2.here hx rfl (hb hby dU_9) rfl rfl hh_) ?_
  show own_Run p e below s _ _ _ (T2.setTop (mkF m 10 #[.val (.ref t1)] [(.ref t1), (.ref rb)]))
  refine own_of (fun _ hh_ => XS.dup X2.here hx rfl (hb hby dU_10) rfl rfl hh_) ?_
  show own_Run p e below s _ _ _ (T2.setTop (mkF m 11 #[.val (.ref t1)] [(.ref t1), (.ref t1), (.ref rb)]))
  obtain ⟨T3, X3, e3, st3⟩ := getF X2 hx hZ hown (host := "") (Or.inl (hw _ (List.mem_of_getElem? (i := 13) rfl))) Via.refl e2 Fposition (g := (mkF m 11 #[.val (.ref t1)] [(.ref t1), (.ref t1), (.ref rb)])) rfl rfl (hb hby dU_11)
  refine own_of st3 ?_
  show own_Run p e below s _ _ _ (T3.setTop (mkF m 14 #[.val (.ref t1)] [(.int vp), (.ref t1), (.ref rb)]))
  refine own_of (fun _ hh_ => XS.dupX1 X3.here hx rfl (hb hby dU_14) rfl rfl rfl hh_) ?_
  show own_Run p e below s _ _ _ (T3.setTop (mkF m 15 #[.val (.ref t1)] [(.int vp), (.ref t1), (.int vp), (.ref rb)]))
  refine own_of (fun _ hh_ => XS.iconst X3.here hx rfl (hb hby dU_15) hh_) ?_
  show own_Run p e below s _ _ _ (T3.setTop (mkF m 16 #[.val (.ref t1)] [(.int (1 : Int32)), (.int vp), (.ref t1), (.int vp), (.ref rb)]))
  refine own_of (fun _ hh_ => XS.iadd X3.here hx rfl (hb hby dU_16) rfl hh_) ?_
  show own_Run p e below s _ _ _ (T3.setTop (mkF m 17 #[.val (.ref t1)] [(.int (vp + (1 : Int32))), (.ref t1), (.int vp), (.ref rb)]))
  obtain ⟨T4, h4, X4, e4, W4, st4⟩ := putF X3 hx hZ hown (host := "") (Or.inl (hw _ (List.mem_of_getElem? (i := 13) rfl))) Via.refl e3 Fposition Ex (Or.inl (hw _ (List.mem_of_getElem? (i := 14) rfl))) (hw _ (List.mem_of_getElem? (i := 3) rfl)) (ty := .int) (by decide) rfl rfl (g := (mkF m 17 #[.val (.ref t1)] [(.int (vp + (1 : Int32))), (.ref t1), (.int vp), (.ref rb)])) rfl rfl (hb hby dU_17)
  have f4 := Fposition.same W4
  have N4 := Fr.snoc X4 N1 g_t1
  have f5 := Ex.wr W4
  have f6 := Fbuffer.other W4 (Or.inr (slot_ne (Or.inl (hw _ (List.mem_of_getElem? (i := 12) rfl))) (Or.inl (hw _ (List.mem_of_getElem? (i := 14) rfl))) (by decide) (t := (.array .byte)) (t' := .int) (by decide) (by decide)))
  have f7 := Flimit.other W4 (Or.inr (slot_ne (Or.inl (hw _ (List.mem_of_getElem? (i := 16) rfl))) (Or.inl (hw _ (List.mem_of_getElem? (i := 14) rfl))) (by decide) (t := .int) (t' := .int) (by decide) (by decide)))
  have f8 := Finflater.other W4 (Or.inr (slot_ne (Or.inr (hw _ (List.mem_of_getElem? (i := 18) rfl))) (Or.inl (hw _ (List.mem_of_getElem? (i := 14) rfl))) (by decide) (t := (.object "java/util/zip/Inflater")) (t' := .int) (by decide) (by decide)))
  have f9 := Fdiscarded.other W4 (Or.inr (slot_ne (Or.inl (hw _ (List.mem_of_getElem? (i := 52) rfl))) (Or.inl (hw _ (List.mem_of_getElem? (i := 14) rfl))) (by decide) (t := .long) (t' := .int) (by decide) (by decide)))
  have f10 := Va.other W4 (Ne.symm hne)
  have K11 := K0.wr W4 (Or.inl (List.mem_of_getElem? (i := 0) rfl))
  refine own_of st4 ?_
  show own_Run p e below s _ _ _ (T4.setTop (mkF m 20 #[.val (.ref t1)] [(.int vp), (.ref rb)]))
  refine own_bal X4 hx hZ e4 f10 (j := vp) (w := (fa vp.toNatClampNeg)) hin hnt rfl (hb hby dU_20) ?_
  show own_Run p e below s _ _ _ (T4.setTop (mkF m 21 #[.val (.ref t1)] [(.int (fa vp.toNatClampNeg))]))
  refine own_of (fun _ hh_ => XS.sipush X4.here hx rfl (hb hby dU_21) hh_) ?_
  show own_Run p e below s _ _ _ (T4.setTop (mkF m 24 #[.val (.ref t1)] [(.int (255 : Int32)), (.int (fa vp.toNatClampNeg))]))
  refine own_of (fun _ hh_ => XS.iand X4.here hx rfl (hb hby dU_24) rfl hh_) ?_
  show own_Run p e below s _ _ _ (T4.setTop (mkF m 25 #[.val (.ref t1)] [(.int ((fa vp.toNatClampNeg) &&& (255 : Int32)))]))
  exact own_retI X4 hx hret hlk (hb hby dU_25) (by rw [e4]; exact ⟨_, rfl, N4, K11, f6, f4, f7, f8, f9⟩) (by decide) (by decide)
theorem own_pd1 : parseMethodDescriptor "([BII)V" = some ⟨[(.array .byte), .int, .int], none⟩ := by decide +kernel
theorem own_pd2 : parseMethodDescriptor "()J" = some ⟨[], some .long⟩ := by decide +kernel
theorem own_pd3 : parseMethodDescriptor "(II)I" = some ⟨[.int, .int], some .int⟩ := by decide +kernel
theorem own_pd4 : parseMethodDescriptor "()I" = some ⟨[], some .int⟩ := by decide +kernel
theorem own_pn1 : plainName "org/lanner/term/TermInputRemainingPinLaw" = true := by first | (simp [plainName, overriddenIn]; done) | decide +kernel
theorem ef0 (m : MethodId) (a1 : Int32) (b1 : Int32) (c1 : Int32) : entryFrame m #[(.int a1), (.int b1), (.int c1)] maxLocals = mkF m 0 #[.val (.int a1), .val (.int b1), .val (.int c1), .unset, .unset, .unset, .unset, .unset, .unset, .unset, .unset, .unset, .unset] [] := by first | (simp [entryFrame, mkF, argsToLocals, Value.category, maxLocals]; done) | rfl
def Q0 (Z : State) (a1 : Int32) (b1 : Int32) (c1 : Int32) (h0 : Heap) (n0 : Nat) (v : Option Value) (h : Heap) (L : List Loc) : Prop := v = some (.int 1) ∧ Fr n0 L
set_option maxRecDepth 65536 in
set_option maxHeartbeats 40000000 in
theorem rm0 (l : Launch) (Z : State) (a0 : Array Value) (hw : ∀ d ∈ tables_1, d.before a0 Z = true) (ws : List Jvm.Cond) (a1 : Int32) (b1 : Int32) (c1 : Int32) (h0 : Heap) (n0 : Nat) (Z0 : n0 ≤ h0.size)  :
    MetFree l x (head1 (Jvm.Cond.code x code maxLocals ret :: ws) room_1) (fun a U => a = #[(.int a1), (.int b1), (.int c1)] ∧ Z.Warmed39 U.vm ∧ U.heap = h0) (fun _ _ _ _ _ => True) (fun _ U o U' => ∃ v L, o = .returned v ∧ Q0 Z a1 b1 c1 h0 n0 v U'.heap L ∧ FrameEnd U o U' L 16 128) := by
  refine MetFree.of_bodySF (plainFor_of_name own_pn1) hisR ?_
  intro p e s m args below meth c s₁ Bd hml0 hP hK
  obtain ⟨rfl, hZ, hh⟩ := hP
  have hx := Bd.exec
  have hby := Bd.bytes
  have hml : c.maxLocals = 13 := hml0
  have hown : s.vm.findClass "org/lanner/term/TermInputRemainingPinLaw" = some m.cls := findClass_of_methodNamed Bd.named
  have hnm := (name_of_methodNamed Bd.named Bd.method).1
  have hlk := Bd.notSynchronized
  have hret := Bd.returns
  have X0 : Stand p l e room_1 s m #[(.int a1), (.int b1), (.int c1)] below meth c s₁ [] 0 0 := Stand.of_body Bd
  have e0 : s₁.heap = h0 := by rw [← hh, Bd.state]; rfl
  have N0 := Fr.nil n0
  show own_Run p e below s 16 128 (Q0 Z a1 b1 c1 h0 n0) (s₁.setTop (entryFrame m #[(.int a1), (.int b1), (.int c1)] maxLocals))
  refine own_cast (ef0 m a1 b1 c1) ?_
  show own_Run p e below s _ _ _ (s₁.setTop (mkF m 0 #[.val (.int a1), .val (.int b1), .val (.int c1), .unset, .unset, .unset, .unset, .unset, .unset, .unset, .unset, .unset, .unset] []))
  refine own_of (fun _ hh_ => XS.iloadN X0.here hx rfl (hb hby at_0) rfl hh_) ?_
  show own_Run p e below s _ _ _ (s₁.setTop (mkF m 1 #[.val (.int a1), .val (.int b1), .val (.int c1), .unset, .unset, .unset, .unset, .unset, .unset, .unset, .unset, .unset, .unset] [(.int a1)]))
  refine own_of (fun _ hh_ => XS.bipush X0.here hx rfl (hb hby at_1) hh_) ?_
  show own_Run p e below s _ _ _ (s₁.setTop (mkF m 3 #[.val (.int a1), .val (.int b1), .val (.int c1), .unset, .unset, .unset, .unset, .unset, .unset, .unset, .unset, .unset, .unset] [(.int (7 : Int32)), (.int a1)]))
  refine own_of (fun _ hh_ => XS.iand X0.here hx rfl (hb hby at_3) rfl hh_) ?_
  show own_Run p e below s _ _ _ (s₁.setTop (mkF m 4 #[.val (.int a1), .val (.int b1), .val (.int c1), .unset, .unset, .unset, .unset, .unset, .unset, .unset, .unset, .unset, .unset] [(.int (a1 &&& (7 : Int32)))]))
  generalize hoff : (a1 &&& (7 : Int32)) = off
  have roff : 0 ≤ off.toInt ∧ off.toInt ≤ 7 := by rw [← hoff]; exact own_m7 a1
  show own_Run p e below s _ _ _ (s₁.setTop (mkF m 4 #[.val (.int a1), .val (.int b1), .val (.int c1), .unset, .unset, .unset, .unset, .unset, .unset, .unset, .unset, .unset, .unset] [(.int off)]))
  refine own_of (fun _ hh_ => XS.istoreN X0.here hx rfl (hb hby at_4) rfl (l' := #[.val (.int a1), .val (.int b1), .val (.int c1), .val (.int off), .unset, .unset, .unset, .unset, .unset, .unset, .unset, .unset, .unset]) rfl hh_) ?_
  show own_Run p e below s _ _ _ (s₁.setTop (mkF m 5 #[.val (.int a1), .val (.int b1), .val (.int c1), .val (.int off), .unset, .unset, .unset, .unset, .unset, .unset, .unset, .unset, .unset] []))
  refine own_of (fun _ hh_ => XS.iloadN X0.here hx rfl (hb hby at_5) rfl hh_) ?_
  show own_Run p e below s _ _ _ (s₁.setTop (mkF m 6 #[.val (.int a1), .val (.int b1), .val (.int c1), .val (.int off), .unset, .unset, .unset, .unset, .unset, .unset, .unset, .unset, .unset] [(.int b1)]))
  refine own_of (X0.ldcInt hx hown (mvT hZ (hw _ (List.mem_of_getElem? (i := 0) rfl))) (g := (mkF m 6 #[.val (.int a1), .val (.int b1), .val (.int c1), .val (.int off), .unset, .unset, .unset, .unset, .unset, .unset, .unset, .unset, .unset] [(.int b1)])) rfl (hb hby at_6)) ?_
  show own_Run p e below s _ _ _ (s₁.setTop (mkF m 8 #[.val (.int a1), .val (.int b1), .val (.int c1), .val (.int off), .unset, .unset, .unset, .unset, .unset, .unset, .unset, .unset, .unset] [(.int (2147483647 : Int32)), (.int b1)]))
  refine own_of (fun _ hh_ => XS.iand X0.here hx rfl (hb hby at_8) rfl hh_) ?_
  show own_Run p e below s _ _ _ (s₁.setTop (mkF m 9 #[.val (.int a1), .val (.int b1), .val (.int c1), .val (.int off), .unset, .unset, .unset, .unset, .unset, .unset, .unset, .unset, .unset] [(.int (b1 &&& (2147483647 : Int32)))]))
  refine own_of (fun _ hh_ => XS.bipush X0.here hx rfl (hb hby at_9) hh_) ?_
  show own_Run p e below s _ _ _ (s₁.setTop (mkF m 11 #[.val (.int a1), .val (.int b1), .val (.int c1), .val (.int off), .unset, .unset, .unset, .unset, .unset, .unset, .unset, .unset, .unset] [(.int (9 : Int32)), (.int (b1 &&& (2147483647 : Int32)))]))
  refine own_of (fun _ hh_ => XS.iloadN X0.here hx rfl (hb hby at_11) rfl hh_) ?_
  show own_Run p e below s _ _ _ (s₁.setTop (mkF m 12 #[.val (.int a1), .val (.int b1), .val (.int c1), .val (.int off), .unset, .unset, .unset, .unset, .unset, .unset, .unset, .unset, .unset] [(.int off), (.int (9 : Int32)), (.int (b1 &&& (2147483647 : Int32)))]))
  refine own_of (fun _ hh_ => XS.isub X0.here hx rfl (hb hby at_12) rfl hh_) ?_
  show own_Run p e below s _ _ _ (s₁.setTop (mkF m 13 #[.val (.int a1), .val (.int b1), .val (.int c1), .val (.int off), .unset, .unset, .unset, .unset, .unset, .unset, .unset, .unset, .unset] [(.int ((9 : Int32) - off)), (.int (b1 &&& (2147483647 : Int32)))]))
  refine own_of (fun _ hh_ => Jvm.RoadKit.iremM (g := (mkF m 13 #[.val (.int a1), .val (.int b1), .val (.int c1), .val (.int off), .unset, .unset, .unset, .unset, .unset, .unset, .unset, .unset, .unset] [(.int ((9 : Int32) - off)), (.int (b1 &&& (2147483647 : Int32)))])) X0 hx rfl (hb hby at_13) rfl (fun q => by have z1 := c_isub (9 : Int32) off; have z2 : (9 : Int32).toInt = 9 := rfl; have z3 := congrArg Int32.toInt q; have z4 : (0 : Int32).toInt = 0 := rfl; obtain ⟨o1, o2⟩ := roff; omega) hh_) ?_
  show own_Run p e below s _ _ _ (s₁.setTop (mkF m 14 #[.val (.int a1), .val (.int b1), .val (.int c1), .val (.int off), .unset, .unset, .unset, .unset, .unset, .unset, .unset, .unset, .unset] [(.int ((b1 &&& (2147483647 : Int32)) % ((9 : Int32) - off)))]))
  generalize hlen : ((b1 &&& (2147483647 : Int32)) % ((9 : Int32) - off)) = len
  have rlen : 0 ≤ len.toInt ∧ off.toInt + len.toInt ≤ 8 := by
    have z1 := (c_iremV (b1 &&& (2147483647 : Int32)) ((9 : Int32) - off)).1 (own_mk b1)
    have z2 := c_isub (9 : Int32) off; have z3 := rng32 ((9 : Int32) - off); have z4 : (9 : Int32).toInt = 9 := rfl; obtain ⟨o1, o2⟩ := roff
    have z5 := z1 (by omega)
    rw [hlen] at z5; omega
  show own_Run p e below s _ _ _ (s₁.setTop (mkF m 14 #[.val (.int a1), .val (.int b1), .val (.int c1), .val (.int off), .unset, .unset, .unset, .unset, .unset, .unset, .unset, .unset, .unset] [(.int len)]))
  refine own_of (fun _ hh_ => XS.istore X0.here hx rfl (hb hby at_14) rfl (l' := #[.val (.int a1), .val (.int b1), .val (.int c1), .val (.int off), .val (.int len), .unset, .unset, .unset, .unset, .unset, .unset, .unset, .unset]) rfl hh_) ?_
  show own_Run p e below s _ _ _ (s₁.setTop (mkF m 16 #[.val (.int a1), .val (.int b1), .val (.int c1), .val (.int off), .val (.int len), .unset, .unset, .unset, .unset, .unset, .unset, .unset, .unset] []))
  refine own_of (fun _ hh_ => XS.iloadN X0.here hx rfl (hb hby at_16) rfl hh_) ?_
  show own_Run p e below s _ _ _ (s₁.setTop (mkF m 17 #[.val (.int a1), .val (.int b1), .val (.int c1), .val (.int off), .val (.int len), .unset, .unset, .unset, .unset, .unset, .unset, .unset, .unset] [(.int off)]))
  refine own_of (fun _ hh_ => XS.iload X0.here hx rfl (hb hby at_17) rfl hh_) ?_
  show own_Run p e below s _ _ _ (s₁.setTop (mkF m 19 #[.val (.int a1), .val (.int b1), .val (.int c1), .val (.int off), .val (.int len), .unset, .unset, .unset, .unset, .unset, .unset, .unset, .unset] [(.int len), (.int off)]))
  refine own_of (fun _ hh_ => XS.iadd X0.here hx rfl (hb hby at_19) rfl hh_) ?_
  show own_Run p e below s _ _ _ (s₁.setTop (mkF m 20 #[.val (.int a1), .val (.int b1), .val (.int c1), .val (.int off), .val (.int len), .unset, .unset, .unset, .unset, .unset, .unset, .unset, .unset] [(.int (off + len))]))
  generalize hlim : (off + len) = lim
  have rlim : lim.toInt = off.toInt + len.toInt := by have z1 := c_iadd off len; have z2 := rng32 (off + len); rw [hlim] at z1 z2; omega
  show own_Run p e below s _ _ _ (s₁.setTop (mkF m 20 #[.val (.int a1), .val (.int b1), .val (.int c1), .val (.int off), .val (.int len), .unset, .unset, .unset, .unset, .unset, .unset, .unset, .unset] [(.int lim)]))
  refine own_of (fun _ hh_ => XS.istore X0.here hx rfl (hb hby at_20) rfl (l' := #[.val (.int a1), .val (.int b1), .val (.int c1), .val (.int off), .val (.int len), .val (.int lim), .unset, .unset, .unset, .unset, .unset, .unset, .unset]) rfl hh_) ?_
  show own_Run p e below s _ _ _ (s₁.setTop (mkF m 22 #[.val (.int a1), .val (.int b1), .val (.int c1), .val (.int off), .val (.int len), .val (.int lim), .unset, .unset, .unset, .unset, .unset, .unset, .unset] []))
  refine own_of (fun _ hh_ => XS.bipush X0.here hx rfl (hb hby at_22) hh_) ?_
  show own_Run p e below s _ _ _ (s₁.setTop (mkF m 24 #[.val (.int a1), .val (.int b1), .val (.int c1), .val (.int off), .val (.int len), .val (.int lim), .unset, .unset, .unset, .unset, .unset, .unset, .unset] [(.int (8 : Int32))]))
  obtain ⟨T1, h1, k1, X1, e1, E1, A1, st1⟩ := newP X0 hx hZ (hw _ (List.mem_of_getElem? (i := 1) rfl)) e0 (g := (mkF m 24 #[.val (.int a1), .val (.int b1), .val (.int c1), .val (.int off), .val (.int len), .val (.int lim), .unset, .unset, .unset, .unset, .unset, .unset, .unset] [(.int (8 : Int32))])) rfl (hb hby at_24) rfl (by decide) (cap := 8) (by decide) (by decide) (by decide) (by decide)
  obtain ⟨ob1, g1⟩ : ∃ z, z = h0.size := ⟨_, rfl⟩
  rw [← g1] at A1 st1
  have g_ob1 : n0 ≤ ob1 := Nat.le_trans Z0 (Nat.le_of_eq g1.symm)
  have V1 : own_Ar Z h1 ob1 .byte 8 (fun _ => 0) := own_Ar.new A1 rfl rfl
  refine own_of st1 ?_
  show own_Run p e below s _ _ _ (T1.setTop (mkF m 26 #[.val (.int a1), .val (.int b1), .val (.int c1), .val (.int off), .val (.int len), .val (.int lim), .unset, .unset, .unset, .unset, .unset, .unset, .unset] [(.ref ob1)]))
  refine own_of (fun _ hh_ => XS.astore X1.here hx rfl (hb hby at_26) rfl rfl (l' := #[.val (.int a1), .val (.int b1), .val (.int c1), .val (.int off), .val (.int len), .val (.int lim), .val (.ref ob1), .unset, .unset, .unset, .unset, .unset, .unset]) rfl hh_) ?_
  show own_Run p e below s _ _ _ (T1.setTop (mkF m 28 #[.val (.int a1), .val (.int b1), .val (.int c1), .val (.int off), .val (.int len), .val (.int lim), .val (.ref ob1), .unset, .unset, .unset, .unset, .unset, .unset] []))
  refine own_of (fun _ hh_ => XS.aload X1.here hx rfl (hb hby at_28) rfl rfl hh_) ?_
  show own_Run p e below s _ _ _ (T1.setTop (mkF m 30 #[.val (.int a1), .val (.int b1), .val (.int c1), .val (.int off), .val (.int len), .val (.int lim), .val (.ref ob1), .unset, .unset, .unset, .unset, .unset, .unset] [(.ref ob1)]))
  refine own_of (fun _ hh_ => XS.iconst X1.here hx rfl (hb hby at_30) hh_) ?_
  show own_Run p e below s _ _ _ (T1.setTop (mkF m 31 #[.val (.int a1), .val (.int b1), .val (.int c1), .val (.int off), .val (.int len), .val (.int lim), .val (.ref ob1), .unset, .unset, .unset, .unset, .unset, .unset] [(.int (0 : Int32)), (.ref ob1)]))
  refine own_of (fun _ hh_ => XS.iloadN X1.here hx rfl (hb hby at_31) rfl hh_) ?_
  show own_Run p e below s _ _ _ (T1.setTop (mkF m 32 #[.val (.int a1), .val (.int b1), .val (.int c1), .val (.int off), .val (.int len), .val (.int lim), .val (.ref ob1), .unset, .unset, .unset, .unset, .unset, .unset] [(.int c1), (.int (0 : Int32)), (.ref ob1)]))
  refine own_of (fun _ hh_ => XS.i2b X1.here hx rfl (hb hby at_32) rfl hh_) ?_
  show own_Run p e below s _ _ _ (T1.setTop (mkF m 33 #[.val (.int a1), .val (.int b1), .val (.int c1), .val (.int off), .val (.int len), .val (.int lim), .val (.ref ob1), .unset, .unset, .unset, .unset, .unset, .unset] [(.int (c1.toInt8.toInt32)), (.int (0 : Int32)), (.ref ob1)]))
  obtain ⟨T2, h2, X2, e2, W2, V2, st2⟩ := own_bas X1 hx hZ e1 V1 (j := (0 : Int32)) (x := (c1.toInt8.toInt32)) (by decide) (by decide) (pc := 33) (Ls := #[.val (.int a1), .val (.int b1), .val (.int c1), .val (.int off), .val (.int len), .val (.int lim), .val (.ref ob1), .unset, .unset, .unset, .unset, .unset, .unset]) (rest := []) (hb hby at_33)
  have N2 := Fr.snoc X2 N0 g_ob1
  replace V2 : own_Ar Z h2 ob1 .byte 8 (own_up (fun _ => 0) 0 (c1.toInt8.toInt32).toInt8.toInt32) := V2
  refine own_of st2 ?_
  show own_Run p e below s _ _ _ (T2.setTop (mkF m 34 #[.val (.int a1), .val (.int b1), .val (.int c1), .val (.int off), .val (.int len), .val (.int lim), .val (.ref ob1), .unset, .unset, .unset, .unset, .unset, .unset] []))
  refine own_of (fun _ hh_ => XS.aload X2.here hx rfl (hb hby at_34) rfl rfl hh_) ?_
  show own_Run p e below s _ _ _ (T2.setTop (mkF m 36 #[.val (.int a1), .val (.int b1), .val (.int c1), .val (.int off), .val (.int len), .val (.int lim), .val (.ref ob1), .unset, .unset, .unset, .unset, .unset, .unset] [(.ref ob1)]))
  refine own_of (fun _ hh_ => XS.bipush X2.here hx rfl (hb hby at_36) hh_) ?_
  show own_Run p e below s _ _ _ (T2.setTop (mkF m 38 #[.val (.int a1), .val (.int b1), .val (.int c1), .val (.int off), .val (.int len), .val (.int lim), .val (.ref ob1), .unset, .unset, .unset, .unset, .unset, .unset] [(.int (7 : Int32)), (.ref ob1)]))
  refine own_of (fun _ hh_ => XS.iloadN X2.here hx rfl (hb hby at_38) rfl hh_) ?_
  show own_Run p e below s _ _ _ (T2.setTop (mkF m 39 #[.val (.int a1), .val (.int b1), .val (.int c1), .val (.int off), .val (.int len), .val (.int lim), .val (.ref ob1), .unset, .unset, .unset, .unset, .unset, .unset] [(.int b1), (.int (7 : Int32)), (.ref ob1)]))
  refine own_of (fun _ hh_ => XS.i2b X2.here hx rfl (hb hby at_39) rfl hh_) ?_
  show own_Run p e below s _ _ _ (T2.setTop (mkF m 40 #[.val (.int a1), .val (.int b1), .val (.int c1), .val (.int off), .val (.int len), .val (.int lim), .val (.ref ob1), .unset, .unset, .unset, .unset, .unset, .unset] [(.int (b1.toInt8.toInt32)), (.int (7 : Int32)), (.ref ob1)]))
  obtain ⟨T3, h3, X3, e3, W3, V3, st3⟩ := own_bas X2 hx hZ e2 V2 (j := (7 : Int32)) (x := (b1.toInt8.toInt32)) (by decide) (by decide) (pc := 40) (Ls := #[.val (.int a1), .val (.int b1), .val (.int c1), .val (.int off), .val (.int len), .val (.int lim), .val (.ref ob1), .unset, .unset, .unset, .unset, .unset, .unset]) (rest := []) (hb hby at_40)
  have N3 := Fr.snoc X3 N2 g_ob1
  replace V3 : own_Ar Z h3 ob1 .byte 8 (own_up (own_up (fun _ => 0) 0 (c1.toInt8.toInt32).toInt8.toInt32) 7 (b1.toInt8.toInt32).toInt8.toInt32) := V3
  refine own_of st3 ?_
  show own_Run p e below s _ _ _ (T3.setTop (mkF m 41 #[.val (.int a1), .val (.int b1), .val (.int c1), .val (.int off), .val (.int len), .val (.int lim), .val (.ref ob1), .unset, .unset, .unset, .unset, .unset, .unset] []))
  obtain ⟨T4, h4, X4, e4, E4, A4, D4, -, st4⟩ := newO X3 hx hZ hown (hw _ (List.mem_of_getElem? (i := 2) rfl)) (hw _ (List.mem_of_getElem? (i := 3) rfl)) (hw _ (List.mem_of_getElem? (i := 4) rfl)) e3 (g := (mkF m 41 #[.val (.int a1), .val (.int b1), .val (.int c1), .val (.int off), .val (.int len), .val (.int lim), .val (.ref ob1), .unset, .unset, .unset, .unset, .unset, .unset] [])) rfl (hb hby at_41) (by decide) (by decide)
  obtain ⟨ob4, g4⟩ : ∃ z, z = h3.size := ⟨_, rfl⟩
  rw [← g4] at A4 D4 st4
  have ne_ob1_ob4 : ob1 ≠ ob4 := Nat.ne_of_lt (Nat.lt_of_lt_of_le V3.lt (Nat.le_of_eq g4.symm))
  have g_ob4 : n0 ≤ ob4 := Nat.le_trans (Nat.le_trans (Nat.le_trans (Nat.le_trans Z0 E1.1) (Nat.le_of_eq W2.size.symm)) (Nat.le_of_eq W3.size.symm)) (Nat.le_of_eq g4.symm)
  have f5 := V3.ext E4
  have f6 : Fld Z h4 ob4 "org/lanner/term/TermInput" "buffer" "[B" .null := D4 (Or.inl (hw _ (List.mem_of_getElem? (i := 12) rfl))) (ty := (.array .byte)) (by decide)
  have f7 : Fld Z h4 ob4 "org/lanner/term/TermInput" "position" "I" (.int (0 : Int32)) := D4 (Or.inl (hw _ (List.mem_of_getElem? (i := 14) rfl))) (ty := .int) (by decide)
  have f8 : Fld Z h4 ob4 "org/lanner/term/TermInput" "limit" "I" (.int (0 : Int32)) := D4 (Or.inl (hw _ (List.mem_of_getElem? (i := 16) rfl))) (ty := .int) (by decide)
  have f9 : Fld Z h4 ob4 "org/lanner/term/TermInput" "inflater" "Ljava/util/zip/Inflater;" .null := D4 (Or.inr (hw _ (List.mem_of_getElem? (i := 18) rfl))) (ty := (.object "java/util/zip/Inflater")) (by decide)
  have f10 : Fld Z h4 ob4 "org/lanner/term/TermInput" "dataOffset" "I" (.int (0 : Int32)) := D4 (Or.inr (hw _ (List.mem_of_getElem? (i := 20) rfl))) (ty := .int) (by decide)
  have f11 : Fld Z h4 ob4 "org/lanner/term/TermInput" "size" "J" (.long (0 : Int64)) := D4 (Or.inr (hw _ (List.mem_of_getElem? (i := 22) rfl))) (ty := .long) (by decide)
  have f12 : Fld Z h4 ob4 "org/lanner/term/TermInput" "discarded" "J" (.long (0 : Int64)) := D4 (Or.inl (hw _ (List.mem_of_getElem? (i := 52) rfl))) (ty := .long) (by decide)
  have f13 : Fld Z h4 ob4 "org/lanner/term/TermInput" "inflated" "J" (.long (0 : Int64)) := D4 (Or.inl (hw _ (List.mem_of_getElem? (i := 54) rfl))) (ty := .long) (by decide)
  refine own_of st4 ?_
  show own_Run p e below s _ _ _ (T4.setTop (mkF m 44 #[.val (.int a1), .val (.int b1), .val (.int c1), .val (.int off), .val (.int len), .val (.int lim), .val (.ref ob1), .unset, .unset, .unset, .unset, .unset, .unset] [(.ref ob4)]))
  refine own_of (fun _ hh_ => XS.dup X4.here hx rfl (hb hby at_44) rfl rfl hh_) ?_
  show own_Run p e below s _ _ _ (T4.setTop (mkF m 45 #[.val (.int a1), .val (.int b1), .val (.int c1), .val (.int off), .val (.int len), .val (.int lim), .val (.ref ob1), .unset, .unset, .unset, .unset, .unset, .unset] [(.ref ob4), (.ref ob4)]))
  refine own_of (fun _ hh_ => XS.aload X4.here hx rfl (hb hby at_45) rfl rfl hh_) ?_
  show own_Run p e below s _ _ _ (T4.setTop (mkF m 47 #[.val (.int a1), .val (.int b1), .val (.int c1), .val (.int off), .val (.int len), .val (.int lim), .val (.ref ob1), .unset, .unset, .unset, .unset, .unset, .unset] [(.ref ob1), (.ref ob4), (.ref ob4)]))
  refine own_of (fun _ hh_ => XS.iloadN X4.here hx rfl (hb hby at_47) rfl hh_) ?_
  show own_Run p e below s _ _ _ (T4.setTop (mkF m 48 #[.val (.int a1), .val (.int b1), .val (.int c1), .val (.int off), .val (.int len), .val (.int lim), .val (.ref ob1), .unset, .unset, .unset, .unset, .unset, .unset] [(.int off), (.ref ob1), (.ref ob4), (.ref ob4)]))
  refine own_of (fun _ hh_ => XS.iload X4.here hx rfl (hb hby at_48) rfl hh_) ?_
  show own_Run p e below s _ _ _ (T4.setTop (mkF m 50 #[.val (.int a1), .val (.int b1), .val (.int c1), .val (.int off), .val (.int len), .val (.int lim), .val (.ref ob1), .unset, .unset, .unset, .unset, .unset, .unset] [(.int lim), (.int off), (.ref ob1), (.ref ob4), (.ref ob4)]))
  obtain ⟨_, _, ⟨T14, L14, k14, n14⟩, -, X14, ⟨Lc14, hQ14, l14, y14, z14⟩, st14⟩ := X4.specialBack hx (y := (⟨"org/lanner/term/TermInput", "<init>", "([BII)V"⟩ : MethodName)) rfl hown (mvT hZ (hw _ (List.mem_of_getElem? (i := 5) rfl))) (mvT hZ (hw _ (List.mem_of_getElem? (i := 6) rfl))) (mvT hZ (hw _ (List.mem_of_getElem? (i := 7) rfl))) (by decide) (backOf (W := 1) (rmI l Z a0 hw [] ob4 ob1 off lim h4 n0 (Nat.le_trans (Nat.le_trans (Nat.le_trans (Nat.le_trans Z0 E1.1) (Nat.le_of_eq W2.size.symm)) (Nat.le_of_eq W3.size.symm)) E4.1) A4 f6 f7 f8 f9 f10 f11 f12 g_ob4) hZ (hw _ (List.mem_of_getElem? (i := 7) rfl)) (hw _ (List.mem_of_getElem? (i := 4) rfl)) (by decide) (by decide)) (g := (mkF m 50 #[.val (.int a1), .val (.int b1), .val (.int c1), .val (.int off), .val (.int len), .val (.int lim), .val (.ref ob1), .unset, .unset, .unset, .unset, .unset, .unset] [(.int lim), (.int off), (.ref ob1), (.ref ob4), (.ref ob4)])) rfl (by rw [hml]; rfl) (Steps.refl _) (a := ob4) (argsL := [(.ref ob1), (.int off), (.int lim)]) (rest := [(.ref ob4)]) (lenOf own_pd1 rfl) rfl (by show 2 * 0 + _ ≤ _; exact Nat.le_of_eq rfl) (hb hby at_50) (fun _ _ => ⟨rfl, e4, (by decide : 2 + 0 ≤ _), (by decide : 16 + 0 ≤ _)⟩)
  dsimp only [Pt.U, Pt.locs, Pt.cells, Pt.slots] at X14 l14 y14 z14 st14 hQ14
  subst l14 y14 z14
  obtain ⟨rfl, N14q, K14, fbuffer_14, fposition_14, flimit_14, finflater_14, fdiscarded_14⟩ := hQ14
  have N14 := Fr.app N3 N14q
  have f15 := f5.keep K14 (ninS ne_ob1_ob4 nin0)
  have f16 := A4.keep K14
  refine own_tr st14 ?_
  show own_Run p e below s _ _ _ (T14.setTop (mkF m 53 #[.val (.int a1), .val (.int b1), .val (.int c1), .val (.int off), .val (.int len), .val (.int lim), .val (.ref ob1), .unset, .unset, .unset, .unset, .unset, .unset] [(.ref ob4)]))
  refine own_of (fun _ hh_ => XS.astore X14.here hx rfl (hb hby at_53) rfl rfl (l' := #[.val (.int a1), .val (.int b1), .val (.int c1), .val (.int off), .val (.int len), .val (.int lim), .val (.ref ob1), .val (.ref ob4), .unset, .unset, .unset, .unset, .unset]) rfl hh_) ?_
  show own_Run p e below s _ _ _ (T14.setTop (mkF m 55 #[.val (.int a1), .val (.int b1), .val (.int c1), .val (.int off), .val (.int len), .val (.int lim), .val (.ref ob1), .val (.ref ob4), .unset, .unset, .unset, .unset, .unset] []))
  refine own_of (fun _ hh_ => XS.aload X14.here hx rfl (hb hby at_55) rfl rfl hh_) ?_
  show own_Run p e below s _ _ _ (T14.setTop (mkF m 57 #[.val (.int a1), .val (.int b1), .val (.int c1), .val (.int off), .val (.int len), .val (.int lim), .val (.ref ob1), .val (.ref ob4), .unset, .unset, .unset, .unset, .unset] [(.ref ob4)]))
  obtain ⟨cq17, kq17, q17a, q17b, q17c⟩ := isOf hZ (rfl : T14.heap = T14.heap) f16
  obtain ⟨_, _, ⟨T17, L17, k17, n17⟩, -, X17, ⟨Lc17, hQ17, l17, y17, z17⟩, st17⟩ := X14.virtualBack hx (y := (⟨"org/lanner/term/TermInput", "remaining", "()J"⟩ : MethodName)) (z := (⟨"org/lanner/term/TermInput", "remaining", "()J"⟩ : MethodName)) hown (mvT hZ (hw _ (List.mem_of_getElem? (i := 23) rfl))) (mvT hZ (hw _ (List.mem_of_getElem? (i := 24) rfl))) (notFace_of_selects (args := #[]) (mvT hZ (hw _ (List.mem_of_getElem? (i := 26) rfl)))) (mvT hZ (hw _ (List.mem_of_getElem? (i := 26) rfl))) (mvT hZ (hw _ (List.mem_of_getElem? (i := 25) rfl))) (by decide) (backOf (W := 0) (rmR l Z a0 hw [] ob4 lim off T14.heap n0 (Nat.le_trans (Nat.le_trans (Nat.le_trans (Nat.le_trans (Nat.le_trans Z0 E1.1) (Nat.le_of_eq W2.size.symm)) (Nat.le_of_eq W3.size.symm)) E4.1) K14.1) flimit_14 fposition_14 finflater_14) hZ (hw _ (List.mem_of_getElem? (i := 27) rfl)) (hw _ (List.mem_of_getElem? (i := 4) rfl)) (by decide) (by decide)) q17a q17c (g := (mkF m 57 #[.val (.int a1), .val (.int b1), .val (.int c1), .val (.int off), .val (.int len), .val (.int lim), .val (.ref ob1), .val (.ref ob4), .unset, .unset, .unset, .unset, .unset] [(.ref ob4)])) rfl (by rw [hml]; rfl) (Steps.refl _) (argsL := []) (rest := []) (lenOf own_pd2 rfl) rfl (by show 2 * 0 + _ ≤ _; exact Nat.le_of_eq rfl) (hb hby at_57) (fun _ _ => ⟨rfl, (rfl : T14.heap = T14.heap), (by decide : 2 + 0 ≤ _), (by decide : 16 + 0 ≤ _)⟩)
  dsimp only [Pt.U, Pt.locs, Pt.cells, Pt.slots] at X17 l17 y17 z17 st17 hQ17
  subst l17 y17 z17
  obtain ⟨rfl, N17q, e17⟩ := hQ17
  have N17 := Fr.app N14 N17q
  refine own_tr st17 ?_
  show own_Run p e below s _ _ _ (T17.setTop (mkF m 60 #[.val (.int a1), .val (.int b1), .val (.int c1), .val (.int off), .val (.int len), .val (.int lim), .val (.ref ob1), .val (.ref ob4), .unset, .unset, .unset, .unset, .unset] [(.long (((lim - off).toInt64) + (0 : Int64)))]))
  refine own_of (fun _ hh_ => XS.lstore X17.here hx rfl (hb hby at_60) rfl (l' := #[.val (.int a1), .val (.int b1), .val (.int c1), .val (.int off), .val (.int len), .val (.int lim), .val (.ref ob1), .val (.ref ob4), .val (.long (((lim - off).toInt64) + (0 : Int64))), .second, .unset, .unset, .unset]) rfl hh_) ?_
  show own_Run p e below s _ _ _ (T17.setTop (mkF m 62 #[.val (.int a1), .val (.int b1), .val (.int c1), .val (.int off), .val (.int len), .val (.int lim), .val (.ref ob1), .val (.ref ob4), .val (.long (((lim - off).toInt64) + (0 : Int64))), .second, .unset, .unset, .unset] []))
  refine own_of (fun _ hh_ => XS.lload X17.here hx rfl (hb hby at_62) rfl hh_) ?_
  show own_Run p e below s _ _ _ (T17.setTop (mkF m 64 #[.val (.int a1), .val (.int b1), .val (.int c1), .val (.int off), .val (.int len), .val (.int lim), .val (.ref ob1), .val (.ref ob4), .val (.long (((lim - off).toInt64) + (0 : Int64))), .second, .unset, .unset, .unset] [(.long (((lim - off).toInt64) + (0 : Int64)))]))
  refine own_of (fun _ hh_ => XS.iload X17.here hx rfl (hb hby at_64) rfl hh_) ?_
  show own_Run p e below s _ _ _ (T17.setTop (mkF m 66 #[.val (.int a1), .val (.int b1), .val (.int c1), .val (.int off), .val (.int len), .val (.int lim), .val (.ref ob1), .val (.ref ob4), .val (.long (((lim - off).toInt64) + (0 : Int64))), .second, .unset, .unset, .unset] [(.int len), (.long (((lim - off).toInt64) + (0 : Int64)))]))
  refine own_of (fun _ hh_ => XS.i2l X17.here hx rfl (hb hby at_66) rfl hh_) ?_
  show own_Run p e below s _ _ _ (T17.setTop (mkF m 67 #[.val (.int a1), .val (.int b1), .val (.int c1), .val (.int off), .val (.int len), .val (.int lim), .val (.ref ob1), .val (.ref ob4), .val (.long (((lim - off).toInt64) + (0 : Int64))), .second, .unset, .unset, .unset] [(.long (len.toInt64)), (.long (((lim - off).toInt64) + (0 : Int64)))]))
  refine own_of (fun _ hh_ => XS.lcmp X17.here hx rfl (hb hby at_67) rfl hh_) ?_
  show own_Run p e below s _ _ _ (T17.setTop (mkF m 68 #[.val (.int a1), .val (.int b1), .val (.int c1), .val (.int off), .val (.int len), .val (.int lim), .val (.ref ob1), .val (.ref ob4), .val (.long (((lim - off).toInt64) + (0 : Int64))), .second, .unset, .unset, .unset] [(.int (lcmpW (((lim - off).toInt64) + (0 : Int64)) (len.toInt64)))]))
  have hc68_18 : (((lim - off).toInt64) + (0 : Int64)) = (len.toInt64) := by apply Int64.toInt_inj.mp; have z_0 := rng32 lim; have z_1 := rng32 off; have z_2 := c_isub lim off; have z_3 := rng32 (lim - off); have z_4 := c_i2l (lim - off); have z_5 := (show (0 : Int64).toInt = 0 from rfl); have z_6 := c_ladd ((lim - off).toInt64) (0 : Int64); have z_7 := rng64 (((lim - off).toInt64) + (0 : Int64)); have z_8 := rng32 len; have z_9 := c_i2l len; obtain ⟨o1, o2⟩ := roff; obtain ⟨o3, o4⟩ := rlen; have o5 := rlim; omega
  refine own_of (fun _ hh_ => XS.ifYes X17.here hx rfl (pc0 := 68) (pc' := 73) rfl (hb hby at_68) rfl ((if0 _ _).trans (teq ((lw_eq _ _).mpr hc68_18)).1) (by decide) (by decide) hh_) ?_
  show own_Run p e below s _ _ _ (T17.setTop (mkF m 73 #[.val (.int a1), .val (.int b1), .val (.int c1), .val (.int off), .val (.int len), .val (.int lim), .val (.ref ob1), .val (.ref ob4), .val (.long (((lim - off).toInt64) + (0 : Int64))), .second, .unset, .unset, .unset] []))
  refine own_of (fun _ hh_ => XS.iloadN X17.here hx rfl (hb hby at_73) rfl hh_) ?_
  show own_Run p e below s _ _ _ (T17.setTop (mkF m 74 #[.val (.int a1), .val (.int b1), .val (.int c1), .val (.int off), .val (.int len), .val (.int lim), .val (.ref ob1), .val (.ref ob4), .val (.long (((lim - off).toInt64) + (0 : Int64))), .second, .unset, .unset, .unset] [(.int c1)]))
  refine own_of (X17.ldcInt hx hown (mvT hZ (hw _ (List.mem_of_getElem? (i := 0) rfl))) (g := (mkF m 74 #[.val (.int a1), .val (.int b1), .val (.int c1), .val (.int off), .val (.int len), .val (.int lim), .val (.ref ob1), .val (.ref ob4), .val (.long (((lim - off).toInt64) + (0 : Int64))), .second, .unset, .unset, .unset] [(.int c1)])) rfl (hb hby at_74)) ?_
  show own_Run p e below s _ _ _ (T17.setTop (mkF m 76 #[.val (.int a1), .val (.int b1), .val (.int c1), .val (.int off), .val (.int len), .val (.int lim), .val (.ref ob1), .val (.ref ob4), .val (.long (((lim - off).toInt64) + (0 : Int64))), .second, .unset, .unset, .unset] [(.int (2147483647 : Int32)), (.int c1)]))
  refine own_of (fun _ hh_ => XS.iand X17.here hx rfl (hb hby at_76) rfl hh_) ?_
  show own_Run p e below s _ _ _ (T17.setTop (mkF m 77 #[.val (.int a1), .val (.int b1), .val (.int c1), .val (.int off), .val (.int len), .val (.int lim), .val (.ref ob1), .val (.ref ob4), .val (.long (((lim - off).toInt64) + (0 : Int64))), .second, .unset, .unset, .unset] [(.int (c1 &&& (2147483647 : Int32)))]))
  refine own_of (fun _ hh_ => XS.iconst X17.here hx rfl (hb hby at_77) hh_) ?_
  show own_Run p e below s _ _ _ (T17.setTop (mkF m 78 #[.val (.int a1), .val (.int b1), .val (.int c1), .val (.int off), .val (.int len), .val (.int lim), .val (.ref ob1), .val (.ref ob4), .val (.long (((lim - off).toInt64) + (0 : Int64))), .second, .unset, .unset, .unset] [(.int (3 : Int32)), (.int (c1 &&& (2147483647 : Int32)))]))
  refine own_of (fun _ hh_ => Jvm.RoadKit.iremM (g := (mkF m 78 #[.val (.int a1), .val (.int b1), .val (.int c1), .val (.int off), .val (.int len), .val (.int lim), .val (.ref ob1), .val (.ref ob4), .val (.long (((lim - off).toInt64) + (0 : Int64))), .second, .unset, .unset, .unset] [(.int (3 : Int32)), (.int (c1 &&& (2147483647 : Int32)))])) X17 hx rfl (hb hby at_78) rfl (by decide) hh_) ?_
  show own_Run p e below s _ _ _ (T17.setTop (mkF m 79 #[.val (.int a1), .val (.int b1), .val (.int c1), .val (.int off), .val (.int len), .val (.int lim), .val (.ref ob1), .val (.ref ob4), .val (.long (((lim - off).toInt64) + (0 : Int64))), .second, .unset, .unset, .unset] [(.int ((c1 &&& (2147483647 : Int32)) % (3 : Int32)))]))
  refine own_of (fun _ hh_ => XS.iload X17.here hx rfl (hb hby at_79) rfl hh_) ?_
  show own_Run p e below s _ _ _ (T17.setTop (mkF m 81 #[.val (.int a1), .val (.int b1), .val (.int c1), .val (.int off), .val (.int len), .val (.int lim), .val (.ref ob1), .val (.ref ob4), .val (.long (((lim - off).toInt64) + (0 : Int64))), .second, .unset, .unset, .unset] [(.int len), (.int ((c1 &&& (2147483647 : Int32)) % (3 : Int32)))]))
  obtain ⟨_, _, ⟨T19, L19, k19, n19⟩, -, X19, ⟨Lc19, hQ19, l19, y19, z19⟩, st19⟩ := Jvm.LawKit.callS X17 hx (y := (⟨"java/lang/Math", "min", "(II)I"⟩ : MethodName)) hown (mvT hZ (hw _ (List.mem_of_getElem? (i := 28) rfl))) (mvT hZ (hw _ (List.mem_of_getElem? (i := 29) rfl))) (mvT hZ (hw _ (List.mem_of_getElem? (i := 30) rfl))) (mvT hZ (hw _ (List.mem_of_getElem? (i := 31) rfl))) (by decide) (backOf (W := 0) (rmM l Z a0 hw [] ((c1 &&& (2147483647 : Int32)) % (3 : Int32)) len T14.heap n0 (Nat.le_trans (Nat.le_trans (Nat.le_trans (Nat.le_trans (Nat.le_trans Z0 E1.1) (Nat.le_of_eq W2.size.symm)) (Nat.le_of_eq W3.size.symm)) E4.1) K14.1)) hZ (hw _ (List.mem_of_getElem? (i := 31) rfl)) (hw _ (List.mem_of_getElem? (i := 30) rfl)) (by decide) (by decide)) (g := (mkF m 81 #[.val (.int a1), .val (.int b1), .val (.int c1), .val (.int off), .val (.int len), .val (.int lim), .val (.ref ob1), .val (.ref ob4), .val (.long (((lim - off).toInt64) + (0 : Int64))), .second, .unset, .unset, .unset] [(.int len), (.int ((c1 &&& (2147483647 : Int32)) % (3 : Int32)))])) rfl (by rw [hml]; rfl) (argsL := [(.int ((c1 &&& (2147483647 : Int32)) % (3 : Int32))), (.int len)]) (rest := []) (lenOf own_pd3 rfl) rfl (by show 2 * 0 + _ ≤ _; exact Nat.le_of_eq rfl) (hb hby at_81) (fun _ _ => ⟨rfl, e17, (by decide : 2 + 0 ≤ _), (by decide : 16 + 0 ≤ _)⟩)
  dsimp only [Pt.U, Pt.locs, Pt.cells, Pt.slots] at X19 l19 y19 z19 st19 hQ19
  subst l19 y19 z19
  obtain ⟨rfl, N19q, e19⟩ := hQ19
  have N19 := Fr.app N17 N19q
  refine own_of st19 ?_
  show own_Run p e below s _ _ _ (T19.setTop (mkF m 84 #[.val (.int a1), .val (.int b1), .val (.int c1), .val (.int off), .val (.int len), .val (.int lim), .val (.ref ob1), .val (.ref ob4), .val (.long (((lim - off).toInt64) + (0 : Int64))), .second, .unset, .unset, .unset] [(.int (own_minI ((c1 &&& (2147483647 : Int32)) % (3 : Int32)) len))]))
  generalize hkk : (own_minI ((c1 &&& (2147483647 : Int32)) % (3 : Int32)) len) = kk
  have rkk : 0 ≤ kk.toInt ∧ kk.toInt ≤ 2 ∧ kk.toInt ≤ len.toInt := by
    have z1 := (c_iremV (c1 &&& (2147483647 : Int32)) (3 : Int32)).1 (own_mk c1) (by decide)
    have z2 := own_minI_i ((c1 &&& (2147483647 : Int32)) % (3 : Int32)) len; have z3 : (3 : Int32).toInt = 3 := rfl; obtain ⟨o3, o4⟩ := rlen
    rw [hkk] at z2; split at z2 <;> omega
  show own_Run p e below s _ _ _ (T19.setTop (mkF m 84 #[.val (.int a1), .val (.int b1), .val (.int c1), .val (.int off), .val (.int len), .val (.int lim), .val (.ref ob1), .val (.ref ob4), .val (.long (((lim - off).toInt64) + (0 : Int64))), .second, .unset, .unset, .unset] [(.int kk)]))
  refine own_of (fun _ hh_ => XS.istore X19.here hx rfl (hb hby at_84) rfl (l' := #[.val (.int a1), .val (.int b1), .val (.int c1), .val (.int off), .val (.int len), .val (.int lim), .val (.ref ob1), .val (.ref ob4), .val (.long (((lim - off).toInt64) + (0 : Int64))), .second, .val (.int kk), .unset, .unset]) rfl hh_) ?_
  show own_Run p e below s _ _ _ (T19.setTop (mkF m 86 #[.val (.int a1), .val (.int b1), .val (.int c1), .val (.int off), .val (.int len), .val (.int lim), .val (.ref ob1), .val (.ref ob4), .val (.long (((lim - off).toInt64) + (0 : Int64))), .second, .val (.int kk), .unset, .unset] []))
  refine own_of (fun _ hh_ => XS.iload X19.here hx rfl (hb hby at_86) rfl hh_) ?_
  show own_Run p e below s _ _ _ (T19.setTop (mkF m 88 #[.val (.int a1), .val (.int b1), .val (.int c1), .val (.int off), .val (.int len), .val (.int lim), .val (.ref ob1), .val (.ref ob4), .val (.long (((lim - off).toInt64) + (0 : Int64))), .second, .val (.int kk), .unset, .unset] [(.int kk)]))
  refine own_of (fun _ hh_ => XS.iconst X19.here hx rfl (hb hby at_88) hh_) ?_
  show own_Run p e below s _ _ _ (T19.setTop (mkF m 89 #[.val (.int a1), .val (.int b1), .val (.int c1), .val (.int off), .val (.int len), .val (.int lim), .val (.ref ob1), .val (.ref ob4), .val (.long (((lim - off).toInt64) + (0 : Int64))), .second, .val (.int kk), .unset, .unset] [(.int (1 : Int32)), (.int kk)]))
  by_cases hc89_20 : kk < (1 : Int32)
  · refine own_of (fun _ hh_ => XS.icmpYes X19.here hx rfl (pc0 := 89) (pc' := 98) rfl (hb hby at_89) rfl (tlt hc89_20).1 (by decide) (by decide) hh_) ?_
    show own_Run p e below s _ _ _ (T19.setTop (mkF m 98 #[.val (.int a1), .val (.int b1), .val (.int c1), .val (.int off), .val (.int len), .val (.int lim), .val (.ref ob1), .val (.ref ob4), .val (.long (((lim - off).toInt64) + (0 : Int64))), .second, .val (.int kk), .unset, .unset] []))
    refine own_of (fun _ hh_ => XS.iload X19.here hx rfl (hb hby at_98) rfl hh_) ?_
    show own_Run p e below s _ _ _ (T19.setTop (mkF m 100 #[.val (.int a1), .val (.int b1), .val (.int c1), .val (.int off), .val (.int len), .val (.int lim), .val (.ref ob1), .val (.ref ob4), .val (.long (((lim - off).toInt64) + (0 : Int64))), .second, .val (.int kk), .unset, .unset] [(.int kk)]))
    refine own_of (fun _ hh_ => XS.iconst X19.here hx rfl (hb hby at_100) hh_) ?_
    show own_Run p e below s _ _ _ (T19.setTop (mkF m 101 #[.val (.int a1), .val (.int b1), .val (.int c1), .val (.int off), .val (.int len), .val (.int lim), .val (.ref ob1), .val (.ref ob4), .val (.long (((lim - off).toInt64) + (0 : Int64))), .second, .val (.int kk), .unset, .unset] [(.int (2 : Int32)), (.int kk)]))
    have hc101_21 : kk < (2 : Int32) := by apply Int32.lt_iff_toInt_lt.mpr; have a_hc89_20 := Int32.lt_iff_toInt_lt.mp hc89_20; have z_0 := rng32 kk; have z_1 := (show (2 : Int32).toInt = 2 from rfl); have z_2 := (show (1 : Int32).toInt = 1 from rfl); omega
    refine own_of (fun _ hh_ => XS.icmpYes X19.here hx rfl (pc0 := 101) (pc' := 110) rfl (hb hby at_101) rfl (tlt hc101_21).1 (by decide) (by decide) hh_) ?_
    show own_Run p e below s _ _ _ (T19.setTop (mkF m 110 #[.val (.int a1), .val (.int b1), .val (.int c1), .val (.int off), .val (.int len), .val (.int lim), .val (.ref ob1), .val (.ref ob4), .val (.long (((lim - off).toInt64) + (0 : Int64))), .second, .val (.int kk), .unset, .unset] []))
    refine own_of (fun _ hh_ => XS.aload X19.here hx rfl (hb hby at_110) rfl rfl hh_) ?_
    show own_Run p e below s _ _ _ (T19.setTop (mkF m 112 #[.val (.int a1), .val (.int b1), .val (.int c1), .val (.int off), .val (.int len), .val (.int lim), .val (.ref ob1), .val (.ref ob4), .val (.long (((lim - off).toInt64) + (0 : Int64))), .second, .val (.int kk), .unset, .unset] [(.ref ob4)]))
    obtain ⟨cq22, kq22, q22a, q22b, q22c⟩ := isOf hZ e19 f16
    obtain ⟨_, _, ⟨T22, L22, k22, n22⟩, -, X22, ⟨Lc22, hQ22, l22, y22, z22⟩, st22⟩ := X19.virtualBack hx (y := (⟨"org/lanner/term/TermInput", "remaining", "()J"⟩ : MethodName)) (z := (⟨"org/lanner/term/TermInput", "remaining", "()J"⟩ : MethodName)) hown (mvT hZ (hw _ (List.mem_of_getElem? (i := 23) rfl))) (mvT hZ (hw _ (List.mem_of_getElem? (i := 24) rfl))) (notFace_of_selects (args := #[]) (mvT hZ (hw _ (List.mem_of_getElem? (i := 26) rfl)))) (mvT hZ (hw _ (List.mem_of_getElem? (i := 26) rfl))) (mvT hZ (hw _ (List.mem_of_getElem? (i := 25) rfl))) (by decide) (backOf (W := 0) (rmR l Z a0 hw [] ob4 lim off T14.heap n0 (Nat.le_trans (Nat.le_trans (Nat.le_trans (Nat.le_trans (Nat.le_trans Z0 E1.1) (Nat.le_of_eq W2.size.symm)) (Nat.le_of_eq W3.size.symm)) E4.1) K14.1) flimit_14 fposition_14 finflater_14) hZ (hw _ (List.mem_of_getElem? (i := 27) rfl)) (hw _ (List.mem_of_getElem? (i := 4) rfl)) (by decide) (by decide)) q22a q22c (g := (mkF m 112 #[.val (.int a1), .val (.int b1), .val (.int c1), .val (.int off), .val (.int len), .val (.int lim), .val (.ref ob1), .val (.ref ob4), .val (.long (((lim - off).toInt64) + (0 : Int64))), .second, .val (.int kk), .unset, .unset] [(.ref ob4)])) rfl (by rw [hml]; rfl) (Steps.refl _) (argsL := []) (rest := []) (lenOf own_pd2 rfl) rfl (by show 2 * 0 + _ ≤ _; exact Nat.le_of_eq rfl) (hb hby at_112) (fun _ _ => ⟨rfl, e19, (by decide : 2 + 0 ≤ _), (by decide : 16 + 0 ≤ _)⟩)
    dsimp only [Pt.U, Pt.locs, Pt.cells, Pt.slots] at X22 l22 y22 z22 st22 hQ22
    subst l22 y22 z22
    obtain ⟨rfl, N22q, e22⟩ := hQ22
    have N22 := Fr.app N19 N22q
    refine own_tr st22 ?_
    show own_Run p e below s _ _ _ (T22.setTop (mkF m 115 #[.val (.int a1), .val (.int b1), .val (.int c1), .val (.int off), .val (.int len), .val (.int lim), .val (.ref ob1), .val (.ref ob4), .val (.long (((lim - off).toInt64) + (0 : Int64))), .second, .val (.int kk), .unset, .unset] [(.long (((lim - off).toInt64) + (0 : Int64)))]))
    refine own_of (fun _ hh_ => XS.lstore X22.here hx rfl (hb hby at_115) rfl (l' := #[.val (.int a1), .val (.int b1), .val (.int c1), .val (.int off), .val (.int len), .val (.int lim), .val (.ref ob1), .val (.ref ob4), .val (.long (((lim - off).toInt64) + (0 : Int64))), .second, .val (.int kk), .val (.long (((lim - off).toInt64) + (0 : Int64))), .second]) rfl hh_) ?_
    show own_Run p e below s _ _ _ (T22.setTop (mkF m 117 #[.val (.int a1), .val (.int b1), .val (.int c1), .val (.int off), .val (.int len), .val (.int lim), .val (.ref ob1), .val (.ref ob4), .val (.long (((lim - off).toInt64) + (0 : Int64))), .second, .val (.int kk), .val (.long (((lim - off).toInt64) + (0 : Int64))), .second] []))
    refine own_of (fun _ hh_ => XS.lload X22.here hx rfl (hb hby at_117) rfl hh_) ?_
    show own_Run p e below s _ _ _ (T22.setTop (mkF m 119 #[.val (.int a1), .val (.int b1), .val (.int c1), .val (.int off), .val (.int len), .val (.int lim), .val (.ref ob1), .val (.ref ob4), .val (.long (((lim - off).toInt64) + (0 : Int64))), .second, .val (.int kk), .val (.long (((lim - off).toInt64) + (0 : Int64))), .second] [(.long (((lim - off).toInt64) + (0 : Int64)))]))
    refine own_of (fun _ hh_ => XS.iload X22.here hx rfl (hb hby at_119) rfl hh_) ?_
    show own_Run p e below s _ _ _ (T22.setTop (mkF m 121 #[.val (.int a1), .val (.int b1), .val (.int c1), .val (.int off), .val (.int len), .val (.int lim), .val (.ref ob1), .val (.ref ob4), .val (.long (((lim - off).toInt64) + (0 : Int64))), .second, .val (.int kk), .val (.long (((lim - off).toInt64) + (0 : Int64))), .second] [(.int len), (.long (((lim - off).toInt64) + (0 : Int64)))]))
    refine own_of (fun _ hh_ => XS.iload X22.here hx rfl (hb hby at_121) rfl hh_) ?_
    show own_Run p e below s _ _ _ (T22.setTop (mkF m 123 #[.val (.int a1), .val (.int b1), .val (.int c1), .val (.int off), .val (.int len), .val (.int lim), .val (.ref ob1), .val (.ref ob4), .val (.long (((lim - off).toInt64) + (0 : Int64))), .second, .val (.int kk), .val (.long (((lim - off).toInt64) + (0 : Int64))), .second] [(.int kk), (.int len), (.long (((lim - off).toInt64) + (0 : Int64)))]))
    refine own_of (fun _ hh_ => XS.isub X22.here hx rfl (hb hby at_123) rfl hh_) ?_
    show own_Run p e below s _ _ _ (T22.setTop (mkF m 124 #[.val (.int a1), .val (.int b1), .val (.int c1), .val (.int off), .val (.int len), .val (.int lim), .val (.ref ob1), .val (.ref ob4), .val (.long (((lim - off).toInt64) + (0 : Int64))), .second, .val (.int kk), .val (.long (((lim - off).toInt64) + (0 : Int64))), .second] [(.int (len - kk)), (.long (((lim - off).toInt64) + (0 : Int64)))]))
    refine own_of (fun _ hh_ => XS.i2l X22.here hx rfl (hb hby at_124) rfl hh_) ?_
    show own_Run p e below s _ _ _ (T22.setTop (mkF m 125 #[.val (.int a1), .val (.int b1), .val (.int c1), .val (.int off), .val (.int len), .val (.int lim), .val (.ref ob1), .val (.ref ob4), .val (.long (((lim - off).toInt64) + (0 : Int64))), .second, .val (.int kk), .val (.long (((lim - off).toInt64) + (0 : Int64))), .second] [(.long ((len - kk).toInt64)), (.long (((lim - off).toInt64) + (0 : Int64)))]))
    refine own_of (fun _ hh_ => XS.lcmp X22.here hx rfl (hb hby at_125) rfl hh_) ?_
    show own_Run p e below s _ _ _ (T22.setTop (mkF m 126 #[.val (.int a1), .val (.int b1), .val (.int c1), .val (.int off), .val (.int len), .val (.int lim), .val (.ref ob1), .val (.ref ob4), .val (.long (((lim - off).toInt64) + (0 : Int64))), .second, .val (.int kk), .val (.long (((lim - off).toInt64) + (0 : Int64))), .second] [(.int (lcmpW (((lim - off).toInt64) + (0 : Int64)) ((len - kk).toInt64)))]))
    have hc126_23 : (((lim - off).toInt64) + (0 : Int64)) = ((len - kk).toInt64) := by apply Int64.toInt_inj.mp; have a_hc89_20 := Int32.lt_iff_toInt_lt.mp hc89_20; have a_hc101_21 := Int32.lt_iff_toInt_lt.mp hc101_21; have z_0 := rng32 lim; have z_1 := rng32 off; have z_2 := c_isub lim off; have z_3 := rng32 (lim - off); have z_4 := c_i2l (lim - off); have z_5 := (show (0 : Int64).toInt = 0 from rfl); have z_6 := c_ladd ((lim - off).toInt64) (0 : Int64); have z_7 := rng64 (((lim - off).toInt64) + (0 : Int64)); have z_8 := rng32 len; have z_9 := rng32 kk; have z_10 := c_isub len kk; have z_11 := rng32 (len - kk); have z_12 := c_i2l (len - kk); have z_13 := (show (1 : Int32).toInt = 1 from rfl); have z_14 := (show (2 : Int32).toInt = 2 from rfl); obtain ⟨o1, o2⟩ := roff; obtain ⟨o3, o4⟩ := rlen; have o5 := rlim; obtain ⟨o6, o7, o8⟩ := rkk; omega
    refine own_of (fun _ hh_ => XS.ifNo X22.here hx rfl (hb hby at_126) rfl ((if0 _ _).trans (teq ((lw_eq _ _).mpr hc126_23)).2) hh_) ?_
    show own_Run p e below s _ _ _ (T22.setTop (mkF m 129 #[.val (.int a1), .val (.int b1), .val (.int c1), .val (.int off), .val (.int len), .val (.int lim), .val (.ref ob1), .val (.ref ob4), .val (.long (((lim - off).toInt64) + (0 : Int64))), .second, .val (.int kk), .val (.long (((lim - off).toInt64) + (0 : Int64))), .second] []))
    refine own_of (fun _ hh_ => XS.lload X22.here hx rfl (hb hby at_129) rfl hh_) ?_
    show own_Run p e below s _ _ _ (T22.setTop (mkF m 131 #[.val (.int a1), .val (.int b1), .val (.int c1), .val (.int off), .val (.int len), .val (.int lim), .val (.ref ob1), .val (.ref ob4), .val (.long (((lim - off).toInt64) + (0 : Int64))), .second, .val (.int kk), .val (.long (((lim - off).toInt64) + (0 : Int64))), .second] [(.long (((lim - off).toInt64) + (0 : Int64)))]))
    refine own_of (fun _ hh_ => XS.aload X22.here hx rfl (hb hby at_131) rfl rfl hh_) ?_
    show own_Run p e below s _ _ _ (T22.setTop (mkF m 133 #[.val (.int a1), .val (.int b1), .val (.int c1), .val (.int off), .val (.int len), .val (.int lim), .val (.ref ob1), .val (.ref ob4), .val (.long (((lim - off).toInt64) + (0 : Int64))), .second, .val (.int kk), .val (.long (((lim - off).toInt64) + (0 : Int64))), .second] [(.ref ob4), (.long (((lim - off).toInt64) + (0 : Int64)))]))
    obtain ⟨cq24, kq24, q24a, q24b, q24c⟩ := isOf hZ e22 f16
    obtain ⟨_, _, ⟨T24, L24, k24, n24⟩, -, X24, ⟨Lc24, hQ24, l24, y24, z24⟩, st24⟩ := X22.virtualBack hx (y := (⟨"org/lanner/term/TermInput", "buffered", "()I"⟩ : MethodName)) (z := (⟨"org/lanner/term/TermInput", "buffered", "()I"⟩ : MethodName)) hown (mvT hZ (hw _ (List.mem_of_getElem? (i := 41) rfl))) (mvT hZ (hw _ (List.mem_of_getElem? (i := 42) rfl))) (notFace_of_selects (args := #[]) (mvT hZ (hw _ (List.mem_of_getElem? (i := 44) rfl)))) (mvT hZ (hw _ (List.mem_of_getElem? (i := 44) rfl))) (mvT hZ (hw _ (List.mem_of_getElem? (i := 43) rfl))) (by decide) (backOf (W := 2) (rmB l Z a0 hw [] ob4 lim off T14.heap n0 (Nat.le_trans (Nat.le_trans (Nat.le_trans (Nat.le_trans (Nat.le_trans Z0 E1.1) (Nat.le_of_eq W2.size.symm)) (Nat.le_of_eq W3.size.symm)) E4.1) K14.1) flimit_14 fposition_14) hZ (hw _ (List.mem_of_getElem? (i := 45) rfl)) (hw _ (List.mem_of_getElem? (i := 4) rfl)) (by decide) (by decide)) q24a q24c (g := (mkF m 133 #[.val (.int a1), .val (.int b1), .val (.int c1), .val (.int off), .val (.int len), .val (.int lim), .val (.ref ob1), .val (.ref ob4), .val (.long (((lim - off).toInt64) + (0 : Int64))), .second, .val (.int kk), .val (.long (((lim - off).toInt64) + (0 : Int64))), .second] [(.ref ob4), (.long (((lim - off).toInt64) + (0 : Int64)))])) rfl (by rw [hml]; rfl) (Steps.refl _) (argsL := []) (rest := [(.long (((lim - off).toInt64) + (0 : Int64)))]) (lenOf own_pd4 rfl) rfl (by show 2 * 0 + _ ≤ _; exact Nat.le_of_eq rfl) (hb hby at_133) (fun _ _ => ⟨rfl, e22, (by decide : 2 + 0 ≤ _), (by decide : 16 + 0 ≤ _)⟩)
    dsimp only [Pt.U, Pt.locs, Pt.cells, Pt.slots] at X24 l24 y24 z24 st24 hQ24
    subst l24 y24 z24
    obtain ⟨rfl, N24q, e24⟩ := hQ24
    have N24 := Fr.app N22 N24q
    refine own_tr st24 ?_
    show own_Run p e below s _ _ _ (T24.setTop (mkF m 136 #[.val (.int a1), .val (.int b1), .val (.int c1), .val (.int off), .val (.int len), .val (.int lim), .val (.ref ob1), .val (.ref ob4), .val (.long (((lim - off).toInt64) + (0 : Int64))), .second, .val (.int kk), .val (.long (((lim - off).toInt64) + (0 : Int64))), .second] [(.int (lim - off)), (.long (((lim - off).toInt64) + (0 : Int64)))]))
    refine own_of (fun _ hh_ => XS.i2l X24.here hx rfl (hb hby at_136) rfl hh_) ?_
    show own_Run p e below s _ _ _ (T24.setTop (mkF m 137 #[.val (.int a1), .val (.int b1), .val (.int c1), .val (.int off), .val (.int len), .val (.int lim), .val (.ref ob1), .val (.ref ob4), .val (.long (((lim - off).toInt64) + (0 : Int64))), .second, .val (.int kk), .val (.long (((lim - off).toInt64) + (0 : Int64))), .second] [(.long ((lim - off).toInt64)), (.long (((lim - off).toInt64) + (0 : Int64)))]))
    refine own_of (fun _ hh_ => XS.lcmp X24.here hx rfl (hb hby at_137) rfl hh_) ?_
    show own_Run p e below s _ _ _ (T24.setTop (mkF m 138 #[.val (.int a1), .val (.int b1), .val (.int c1), .val (.int off), .val (.int len), .val (.int lim), .val (.ref ob1), .val (.ref ob4), .val (.long (((lim - off).toInt64) + (0 : Int64))), .second, .val (.int kk), .val (.long (((lim - off).toInt64) + (0 : Int64))), .second] [(.int (lcmpW (((lim - off).toInt64) + (0 : Int64)) ((lim - off).toInt64)))]))
    have hc138_25 : (((lim - off).toInt64) + (0 : Int64)) = ((lim - off).toInt64) := by apply Int64.toInt_inj.mp; have z_0 := rng32 lim; have z_1 := rng32 off; have z_2 := c_isub lim off; have z_3 := rng32 (lim - off); have z_4 := c_i2l (lim - off); have z_5 := (show (0 : Int64).toInt = 0 from rfl); have z_6 := c_ladd ((lim - off).toInt64) (0 : Int64); have z_7 := rng64 (((lim - off).toInt64) + (0 : Int64)); obtain ⟨o1, o2⟩ := roff; obtain ⟨o3, o4⟩ := rlen; have o5 := rlim; obtain ⟨o6, o7, o8⟩ := rkk; omega
    refine own_of (fun _ hh_ => XS.ifNo X24.here hx rfl (hb hby at_138) rfl ((if0 _ _).trans (teq ((lw_eq _ _).mpr hc138_25)).2) hh_) ?_
    show own_Run p e below s _ _ _ (T24.setTop (mkF m 141 #[.val (.int a1), .val (.int b1), .val (.int c1), .val (.int off), .val (.int len), .val (.int lim), .val (.ref ob1), .val (.ref ob4), .val (.long (((lim - off).toInt64) + (0 : Int64))), .second, .val (.int kk), .val (.long (((lim - off).toInt64) + (0 : Int64))), .second] []))
    refine own_of (fun _ hh_ => XS.aload X24.here hx rfl (hb hby at_141) rfl rfl hh_) ?_
    show own_Run p e below s _ _ _ (T24.setTop (mkF m 143 #[.val (.int a1), .val (.int b1), .val (.int c1), .val (.int off), .val (.int len), .val (.int lim), .val (.ref ob1), .val (.ref ob4), .val (.long (((lim - off).toInt64) + (0 : Int64))), .second, .val (.int kk), .val (.long (((lim - off).toInt64) + (0 : Int64))), .second] [(.ref ob4)]))
    obtain ⟨cq26, kq26, q26a, q26b, q26c⟩ := isOf hZ e24 f16
    obtain ⟨_, _, ⟨T26, L26, k26, n26⟩, -, X26, ⟨Lc26, hQ26, l26, y26, z26⟩, st26⟩ := X24.virtualBack hx (y := (⟨"org/lanner/term/TermInput", "offset", "()J"⟩ : MethodName)) (z := (⟨"org/lanner/term/TermInput", "offset", "()J"⟩ : MethodName)) hown (mvT hZ (hw _ (List.mem_of_getElem? (i := 46) rfl))) (mvT hZ (hw _ (List.mem_of_getElem? (i := 47) rfl))) (notFace_of_selects (args := #[]) (mvT hZ (hw _ (List.mem_of_getElem? (i := 49) rfl)))) (mvT hZ (hw _ (List.mem_of_getElem? (i := 49) rfl))) (mvT hZ (hw _ (List.mem_of_getElem? (i := 48) rfl))) (by decide) (backOf (W := 0) (rmO l Z a0 hw [] ob4 (0 : Int64) off T14.heap n0 (Nat.le_trans (Nat.le_trans (Nat.le_trans (Nat.le_trans (Nat.le_trans Z0 E1.1) (Nat.le_of_eq W2.size.symm)) (Nat.le_of_eq W3.size.symm)) E4.1) K14.1) fdiscarded_14 fposition_14) hZ (hw _ (List.mem_of_getElem? (i := 50) rfl)) (hw _ (List.mem_of_getElem? (i := 4) rfl)) (by decide) (by decide)) q26a q26c (g := (mkF m 143 #[.val (.int a1), .val (.int b1), .val (.int c1), .val (.int off), .val (.int len), .val (.int lim), .val (.ref ob1), .val (.ref ob4), .val (.long (((lim - off).toInt64) + (0 : Int64))), .second, .val (.int kk), .val (.long (((lim - off).toInt64) + (0 : Int64))), .second] [(.ref ob4)])) rfl (by rw [hml]; rfl) (Steps.refl _) (argsL := []) (rest := []) (lenOf own_pd2 rfl) rfl (by show 2 * 0 + _ ≤ _; exact Nat.le_of_eq rfl) (hb hby at_143) (fun _ _ => ⟨rfl, e24, (by decide : 2 + 0 ≤ _), (by decide : 16 + 0 ≤ _)⟩)
    dsimp only [Pt.U, Pt.locs, Pt.cells, Pt.slots] at X26 l26 y26 z26 st26 hQ26
    subst l26 y26 z26
    obtain ⟨rfl, N26q, e26⟩ := hQ26
    have N26 := Fr.app N24 N26q
    refine own_tr st26 ?_
    show own_Run p e below s _ _ _ (T26.setTop (mkF m 146 #[.val (.int a1), .val (.int b1), .val (.int c1), .val (.int off), .val (.int len), .val (.int lim), .val (.ref ob1), .val (.ref ob4), .val (.long (((lim - off).toInt64) + (0 : Int64))), .second, .val (.int kk), .val (.long (((lim - off).toInt64) + (0 : Int64))), .second] [(.long ((0 : Int64) + (off.toInt64)))]))
    refine own_of (fun _ hh_ => XS.iloadN X26.here hx rfl (hb hby at_146) rfl hh_) ?_
    show own_Run p e below s _ _ _ (T26.setTop (mkF m 147 #[.val (.int a1), .val (.int b1), .val (.int c1), .val (.int off), .val (.int len), .val (.int lim), .val (.ref ob1), .val (.ref ob4), .val (.long (((lim - off).toInt64) + (0 : Int64))), .second, .val (.int kk), .val (.long (((lim - off).toInt64) + (0 : Int64))), .second] [(.int off), (.long ((0 : Int64) + (off.toInt64)))]))
    refine own_of (fun _ hh_ => XS.iload X26.here hx rfl (hb hby at_147) rfl hh_) ?_
    show own_Run p e below s _ _ _ (T26.setTop (mkF m 149 #[.val (.int a1), .val (.int b1), .val (.int c1), .val (.int off), .val (.int len), .val (.int lim), .val (.ref ob1), .val (.ref ob4), .val (.long (((lim - off).toInt64) + (0 : Int64))), .second, .val (.int kk), .val (.long (((lim - off).toInt64) + (0 : Int64))), .second] [(.int kk), (.int off), (.long ((0 : Int64) + (off.toInt64)))]))
    refine own_of (fun _ hh_ => XS.iadd X26.here hx rfl (hb hby at_149) rfl hh_) ?_
    show own_Run p e below s _ _ _ (T26.setTop (mkF m 150 #[.val (.int a1), .val (.int b1), .val (.int c1), .val (.int off), .val (.int len), .val (.int lim), .val (.ref ob1), .val (.ref ob4), .val (.long (((lim - off).toInt64) + (0 : Int64))), .second, .val (.int kk), .val (.long (((lim - off).toInt64) + (0 : Int64))), .second] [(.int (off + kk)), (.long ((0 : Int64) + (off.toInt64)))]))
    refine own_of (fun _ hh_ => XS.i2l X26.here hx rfl (hb hby at_150) rfl hh_) ?_
    show own_Run p e below s _ _ _ (T26.setTop (mkF m 151 #[.val (.int a1), .val (.int b1), .val (.int c1), .val (.int off), .val (.int len), .val (.int lim), .val (.ref ob1), .val (.ref ob4), .val (.long (((lim - off).toInt64) + (0 : Int64))), .second, .val (.int kk), .val (.long (((lim - off).toInt64) + (0 : Int64))), .second] [(.long ((off + kk).toInt64)), (.long ((0 : Int64) + (off.toInt64)))]))
    refine own_of (fun _ hh_ => XS.lcmp X26.here hx rfl (hb hby at_151) rfl hh_) ?_
    show own_Run p e below s _ _ _ (T26.setTop (mkF m 152 #[.val (.int a1), .val (.int b1), .val (.int c1), .val (.int off), .val (.int len), .val (.int lim), .val (.ref ob1), .val (.ref ob4), .val (.long (((lim - off).toInt64) + (0 : Int64))), .second, .val (.int kk), .val (.long (((lim - off).toInt64) + (0 : Int64))), .second] [(.int (lcmpW ((0 : Int64) + (off.toInt64)) ((off + kk).toInt64)))]))
    have hc152_27 : ((0 : Int64) + (off.toInt64)) = ((off + kk).toInt64) := by apply Int64.toInt_inj.mp; have a_hc89_20 := Int32.lt_iff_toInt_lt.mp hc89_20; have a_hc101_21 := Int32.lt_iff_toInt_lt.mp hc101_21; have z_0 := (show (0 : Int64).toInt = 0 from rfl); have z_1 := rng32 off; have z_2 := c_i2l off; have z_3 := c_ladd (0 : Int64) (off.toInt64); have z_4 := rng64 ((0 : Int64) + (off.toInt64)); have z_5 := rng32 kk; have z_6 := c_iadd off kk; have z_7 := rng32 (off + kk); have z_8 := c_i2l (off + kk); have z_9 := (show (1 : Int32).toInt = 1 from rfl); have z_10 := (show (2 : Int32).toInt = 2 from rfl); obtain ⟨o1, o2⟩ := roff; obtain ⟨o3, o4⟩ := rlen; have o5 := rlim; obtain ⟨o6, o7, o8⟩ := rkk; omega
    refine own_of (fun _ hh_ => XS.ifNo X26.here hx rfl (hb hby at_152) rfl ((if0 _ _).trans (teq ((lw_eq _ _).mpr hc152_27)).2) hh_) ?_
    show own_Run p e below s _ _ _ (T26.setTop (mkF m 155 #[.val (.int a1), .val (.int b1), .val (.int c1), .val (.int off), .val (.int len), .val (.int lim), .val (.ref ob1), .val (.ref ob4), .val (.long (((lim - off).toInt64) + (0 : Int64))), .second, .val (.int kk), .val (.long (((lim - off).toInt64) + (0 : Int64))), .second] []))
    refine own_of (fun _ hh_ => XS.iconst X26.here hx rfl (hb hby at_155) hh_) ?_
    show own_Run p e below s _ _ _ (T26.setTop (mkF m 156 #[.val (.int a1), .val (.int b1), .val (.int c1), .val (.int off), .val (.int len), .val (.int lim), .val (.ref ob1), .val (.ref ob4), .val (.long (((lim - off).toInt64) + (0 : Int64))), .second, .val (.int kk), .val (.long (((lim - off).toInt64) + (0 : Int64))), .second] [(.int (1 : Int32))]))
    refine own_of (fun _ hh_ => XS.goto X26.here hx rfl (pc0 := 156) (pc' := 160) rfl (hb hby at_156) (by decide) (by decide) hh_) ?_
    show own_Run p e below s _ _ _ (T26.setTop (mkF m 160 #[.val (.int a1), .val (.int b1), .val (.int c1), .val (.int off), .val (.int len), .val (.int lim), .val (.ref ob1), .val (.ref ob4), .val (.long (((lim - off).toInt64) + (0 : Int64))), .second, .val (.int kk), .val (.long (((lim - off).toInt64) + (0 : Int64))), .second] [(.int (1 : Int32))]))
    exact own_retN X26 hx (t := .boolean) hret hlk (by simp) (hb hby at_160) ⟨rfl, N26⟩ (by decide) (by decide)
  · refine own_of (fun _ hh_ => XS.icmpNo X19.here hx rfl (hb hby at_89) rfl (flt hc89_20).1 hh_) ?_
    show own_Run p e below s _ _ _ (T19.setTop (mkF m 92 #[.val (.int a1), .val (.int b1), .val (.int c1), .val (.int off), .val (.int len), .val (.int lim), .val (.ref ob1), .val (.ref ob4), .val (.long (((lim - off).toInt64) + (0 : Int64))), .second, .val (.int kk), .unset, .unset] []))
    refine own_of (fun _ hh_ => XS.aload X19.here hx rfl (hb hby at_92) rfl rfl hh_) ?_
    show own_Run p e below s _ _ _ (T19.setTop (mkF m 94 #[.val (.int a1), .val (.int b1), .val (.int c1), .val (.int off), .val (.int len), .val (.int lim), .val (.ref ob1), .val (.ref ob4), .val (.long (((lim - off).toInt64) + (0 : Int64))), .second, .val (.int kk), .unset, .unset] [(.ref ob4)]))
    have hen94 : ¬ (lim - off) < (1 : Int32) := by apply mt Int32.lt_iff_toInt_lt.mp; have a_hc89_20 := mt Int32.lt_iff_toInt_lt.mpr hc89_20; have z_0 := rng32 lim; have z_1 := rng32 off; have z_2 := c_isub lim off; have z_3 := rng32 (lim - off); have z_4 := (show (1 : Int32).toInt = 1 from rfl); have z_5 := rng32 kk; obtain ⟨o1, o2⟩ := roff; obtain ⟨o3, o4⟩ := rlen; have o5 := rlim; obtain ⟨o6, o7, o8⟩ := rkk; omega
    have hps94 : 0 ≤ off.toInt ∧ off.toInt < 8 := by have a_hc89_20 := mt Int32.lt_iff_toInt_lt.mpr hc89_20; have z_0 := rng32 off; have z_1 := rng32 kk; have z_2 := (show (1 : Int32).toInt = 1 from rfl); obtain ⟨o1, o2⟩ := roff; obtain ⟨o3, o4⟩ := rlen; have o5 := rlim; obtain ⟨o6, o7, o8⟩ := rkk; omega
    have hin94 := own_pos hps94.1
    have hnt94 := own_nat (n := 8) hps94.1 hps94.2
    obtain ⟨cq28, kq28, q28a, q28b, q28c⟩ := isOf hZ e19 f16
    obtain ⟨_, _, ⟨T28, L28, k28, n28⟩, -, X28, ⟨Lc28, hQ28, l28, y28, z28⟩, st28⟩ := X19.virtualBack hx (y := (⟨"org/lanner/term/TermInput", "u8", "()I"⟩ : MethodName)) (z := (⟨"org/lanner/term/TermInput", "u8", "()I"⟩ : MethodName)) hown (mvT hZ (hw _ (List.mem_of_getElem? (i := 32) rfl))) (mvT hZ (hw _ (List.mem_of_getElem? (i := 33) rfl))) (notFace_of_selects (args := #[]) (mvT hZ (hw _ (List.mem_of_getElem? (i := 35) rfl)))) (mvT hZ (hw _ (List.mem_of_getElem? (i := 35) rfl))) (mvT hZ (hw _ (List.mem_of_getElem? (i := 34) rfl))) (by decide) (backOf (W := 0) (rmU l Z a0 hw [] ob4 ob1 off lim (0 : Int64) 8 (own_up (own_up (fun _ => 0) 0 (c1.toInt8.toInt32).toInt8.toInt32) 7 (b1.toInt8.toInt32).toInt8.toInt32) T14.heap n0 (Nat.le_trans (Nat.le_trans (Nat.le_trans (Nat.le_trans (Nat.le_trans Z0 E1.1) (Nat.le_of_eq W2.size.symm)) (Nat.le_of_eq W3.size.symm)) E4.1) K14.1) f16 fbuffer_14 fposition_14 flimit_14 finflater_14 fdiscarded_14 f15 g_ob4 hen94 hin94 hnt94) hZ (hw _ (List.mem_of_getElem? (i := 36) rfl)) (hw _ (List.mem_of_getElem? (i := 4) rfl)) (by decide) (by decide)) q28a q28c (g := (mkF m 94 #[.val (.int a1), .val (.int b1), .val (.int c1), .val (.int off), .val (.int len), .val (.int lim), .val (.ref ob1), .val (.ref ob4), .val (.long (((lim - off).toInt64) + (0 : Int64))), .second, .val (.int kk), .unset, .unset] [(.ref ob4)])) rfl (by rw [hml]; rfl) (Steps.refl _) (argsL := []) (rest := []) (lenOf own_pd4 rfl) rfl (by show 2 * 0 + _ ≤ _; exact Nat.le_of_eq rfl) (hb hby at_94) (fun _ _ => ⟨rfl, e19, (by decide : 2 + 0 ≤ _), (by decide : 16 + 0 ≤ _)⟩)
    dsimp only [Pt.U, Pt.locs, Pt.cells, Pt.slots] at X28 l28 y28 z28 st28 hQ28
    subst l28 y28 z28
    obtain ⟨zz28, rfl, N28q, K28, fbuffer_28, fposition_28, flimit_28, finflater_28, fdiscarded_28⟩ := hQ28
    have N28 := Fr.app N19 N28q
    have f29 := f15.keep K28 (ninS ne_ob1_ob4 nin0)
    have f30 := f16.keep K28
    refine own_tr st28 ?_
    show own_Run p e below s _ _ _ (T28.setTop (mkF m 97 #[.val (.int a1), .val (.int b1), .val (.int c1), .val (.int off), .val (.int len), .val (.int lim), .val (.ref ob1), .val (.ref ob4), .val (.long (((lim - off).toInt64) + (0 : Int64))), .second, .val (.int kk), .unset, .unset] [(.int zz28)]))
    refine own_of (fun _ hh_ => XS.pop X28.here hx rfl (hb hby at_97) rfl rfl hh_) ?_
    show own_Run p e below s _ _ _ (T28.setTop (mkF m 98 #[.val (.int a1), .val (.int b1), .val (.int c1), .val (.int off), .val (.int len), .val (.int lim), .val (.ref ob1), .val (.ref ob4), .val (.long (((lim - off).toInt64) + (0 : Int64))), .second, .val (.int kk), .unset, .unset] []))
    refine own_of (fun _ hh_ => XS.iload X28.here hx rfl (hb hby at_98) rfl hh_) ?_
    show own_Run p e below s _ _ _ (T28.setTop (mkF m 100 #[.val (.int a1), .val (.int b1), .val (.int c1), .val (.int off), .val (.int len), .val (.int lim), .val (.ref ob1), .val (.ref ob4), .val (.long (((lim - off).toInt64) + (0 : Int64))), .second, .val (.int kk), .unset, .unset] [(.int kk)]))
    refine own_of (fun _ hh_ => XS.iconst X28.here hx rfl (hb hby at_100) hh_) ?_
    show own_Run p e below s _ _ _ (T28.setTop (mkF m 101 #[.val (.int a1), .val (.int b1), .val (.int c1), .val (.int off), .val (.int len), .val (.int lim), .val (.ref ob1), .val (.ref ob4), .val (.long (((lim - off).toInt64) + (0 : Int64))), .second, .val (.int kk), .unset, .unset] [(.int (2 : Int32)), (.int kk)]))
    by_cases hc101_31 : kk < (2 : Int32)
    · refine own_of (fun _ hh_ => XS.icmpYes X28.here hx rfl (pc0 := 101) (pc' := 110) rfl (hb hby at_101) rfl (tlt hc101_31).1 (by decide) (by decide) hh_) ?_
      show own_Run p e below s _ _ _ (T28.setTop (mkF m 110 #[.val (.int a1), .val (.int b1), .val (.int c1), .val (.int off), .val (.int len), .val (.int lim), .val (.ref ob1), .val (.ref ob4), .val (.long (((lim - off).toInt64) + (0 : Int64))), .second, .val (.int kk), .unset, .unset] []))
      refine own_of (fun _ hh_ => XS.aload X28.here hx rfl (hb hby at_110) rfl rfl hh_) ?_
      show own_Run p e below s _ _ _ (T28.setTop (mkF m 112 #[.val (.int a1), .val (.int b1), .val (.int c1), .val (.int off), .val (.int len), .val (.int lim), .val (.ref ob1), .val (.ref ob4), .val (.long (((lim - off).toInt64) + (0 : Int64))), .second, .val (.int kk), .unset, .unset] [(.ref ob4)]))
      obtain ⟨cq32, kq32, q32a, q32b, q32c⟩ := isOf hZ (rfl : T28.heap = T28.heap) f30
      obtain ⟨_, _, ⟨T32, L32, k32, n32⟩, -, X32, ⟨Lc32, hQ32, l32, y32, z32⟩, st32⟩ := X28.virtualBack hx (y := (⟨"org/lanner/term/TermInput", "remaining", "()J"⟩ : MethodName)) (z := (⟨"org/lanner/term/TermInput", "remaining", "()J"⟩ : MethodName)) hown (mvT hZ (hw _ (List.mem_of_getElem? (i := 23) rfl))) (mvT hZ (hw _ (List.mem_of_getElem? (i := 24) rfl))) (notFace_of_selects (args := #[]) (mvT hZ (hw _ (List.mem_of_getElem? (i := 26) rfl)))) (mvT hZ (hw _ (List.mem_of_getElem? (i := 26) rfl))) (mvT hZ (hw _ (List.mem_of_getElem? (i := 25) rfl))) (by decide) (backOf (W := 0) (rmR l Z a0 hw [] ob4 lim (off + (1 : Int32)) T28.heap n0 (Nat.le_trans (Nat.le_trans (Nat.le_trans (Nat.le_trans (Nat.le_trans (Nat.le_trans Z0 E1.1) (Nat.le_of_eq W2.size.symm)) (Nat.le_of_eq W3.size.symm)) E4.1) K14.1) K28.1) flimit_28 fposition_28 finflater_28) hZ (hw _ (List.mem_of_getElem? (i := 27) rfl)) (hw _ (List.mem_of_getElem? (i := 4) rfl)) (by decide) (by decide)) q32a q32c (g := (mkF m 112 #[.val (.int a1), .val (.int b1), .val (.int c1), .val (.int off), .val (.int len), .val (.int lim), .val (.ref ob1), .val (.ref ob4), .val (.long (((lim - off).toInt64) + (0 : Int64))), .second, .val (.int kk), .unset, .unset] [(.ref ob4)])) rfl (by rw [hml]; rfl) (Steps.refl _) (argsL := []) (rest := []) (lenOf own_pd2 rfl) rfl (by show 2 * 0 + _ ≤ _; exact Nat.le_of_eq rfl) (hb hby at_112) (fun _ _ => ⟨rfl, (rfl : T28.heap = T28.heap), (by decide : 2 + 0 ≤ _), (by decide : 16 + 0 ≤ _)⟩)
      dsimp only [Pt.U, Pt.locs, Pt.cells, Pt.slots] at X32 l32 y32 z32 st32 hQ32
      subst l32 y32 z32
      obtain ⟨rfl, N32q, e32⟩ := hQ32
      have N32 := Fr.app N28 N32q
      refine own_tr st32 ?_
      show own_Run p e below s _ _ _ (T32.setTop (mkF m 115 #[.val (.int a1), .val (.int b1), .val (.int c1), .val (.int off), .val (.int len), .val (.int lim), .val (.ref ob1), .val (.ref ob4), .val (.long (((lim - off).toInt64) + (0 : Int64))), .second, .val (.int kk), .unset, .unset] [(.long (((lim - (off + (1 : Int32))).toInt64) + (0 : Int64)))]))
      refine own_of (fun _ hh_ => XS.lstore X32.here hx rfl (hb hby at_115) rfl (l' := #[.val (.int a1), .val (.int b1), .val (.int c1), .val (.int off), .val (.int len), .val (.int lim), .val (.ref ob1), .val (.ref ob4), .val (.long (((lim - off).toInt64) + (0 : Int64))), .second, .val (.int kk), .val (.long (((lim - (off + (1 : Int32))).toInt64) + (0 : Int64))), .second]) rfl hh_) ?_
      show own_Run p e below s _ _ _ (T32.setTop (mkF m 117 #[.val (.int a1), .val (.int b1), .val (.int c1), .val (.int off), .val (.int len), .val (.int lim), .val (.ref ob1), .val (.ref ob4), .val (.long (((lim - off).toInt64) + (0 : Int64))), .second, .val (.int kk), .val (.long (((lim - (off + (1 : Int32))).toInt64) + (0 : Int64))), .second] []))
      refine own_of (fun _ hh_ => XS.lload X32.here hx rfl (hb hby at_117) rfl hh_) ?_
      show own_Run p e below s _ _ _ (T32.setTop (mkF m 119 #[.val (.int a1), .val (.int b1), .val (.int c1), .val (.int off), .val (.int len), .val (.int lim), .val (.ref ob1), .val (.ref ob4), .val (.long (((lim - off).toInt64) + (0 : Int64))), .second, .val (.int kk), .val (.long (((lim - (off + (1 : Int32))).toInt64) + (0 : Int64))), .second] [(.long (((lim - (off + (1 : Int32))).toInt64) + (0 : Int64)))]))
      refine own_of (fun _ hh_ => XS.iload X32.here hx rfl (hb hby at_119) rfl hh_) ?_
      show own_Run p e below s _ _ _ (T32.setTop (mkF m 121 #[.val (.int a1), .val (.int b1), .val (.int c1), .val (.int off), .val (.int len), .val (.int lim), .val (.ref ob1), .val (.ref ob4), .val (.long (((lim - off).toInt64) + (0 : Int64))), .second, .val (.int kk), .val (.long (((lim - (off + (1 : Int32))).toInt64) + (0 : Int64))), .second] [(.int len), (.long (((lim - (off + (1 : Int32))).toInt64) + (0 : Int64)))]))
      refine own_of (fun _ hh_ => XS.iload X32.here hx rfl (hb hby at_121) rfl hh_) ?_
      show own_Run p e below s _ _ _ (T32.setTop (mkF m 123 #[.val (.int a1), .val (.int b1), .val (.int c1), .val (.int off), .val (.int len), .val (.int lim), .val (.ref ob1), .val (.ref ob4), .val (.long (((lim - off).toInt64) + (0 : Int64))), .second, .val (.int kk), .val (.long (((lim - (off + (1 : Int32))).toInt64) + (0 : Int64))), .second] [(.int kk), (.int len), (.long (((lim - (off + (1 : Int32))).toInt64) + (0 : Int64)))]))
      refine own_of (fun _ hh_ => XS.isub X32.here hx rfl (hb hby at_123) rfl hh_) ?_
      show own_Run p e below s _ _ _ (T32.setTop (mkF m 124 #[.val (.int a1), .val (.int b1), .val (.int c1), .val (.int off), .val (.int len), .val (.int lim), .val (.ref ob1), .val (.ref ob4), .val (.long (((lim - off).toInt64) + (0 : Int64))), .second, .val (.int kk), .val (.long (((lim - (off + (1 : Int32))).toInt64) + (0 : Int64))), .second] [(.int (len - kk)), (.long (((lim - (off + (1 : Int32))).toInt64) + (0 : Int64)))]))
      refine own_of (fun _ hh_ => XS.i2l X32.here hx rfl (hb hby at_124) rfl hh_) ?_
      show own_Run p e below s _ _ _ (T32.setTop (mkF m 125 #[.val (.int a1), .val (.int b1), .val (.int c1), .val (.int off), .val (.int len), .val (.int lim), .val (.ref ob1), .val (.ref ob4), .val (.long (((lim - off).toInt64) + (0 : Int64))), .second, .val (.int kk), .val (.long (((lim - (off + (1 : Int32))).toInt64) + (0 : Int64))), .second] [(.long ((len - kk).toInt64)), (.long (((lim - (off + (1 : Int32))).toInt64) + (0 : Int64)))]))
      refine own_of (fun _ hh_ => XS.lcmp X32.here hx rfl (hb hby at_125) rfl hh_) ?_
      show own_Run p e below s _ _ _ (T32.setTop (mkF m 126 #[.val (.int a1), .val (.int b1), .val (.int c1), .val (.int off), .val (.int len), .val (.int lim), .val (.ref ob1), .val (.ref ob4), .val (.long (((lim - off).toInt64) + (0 : Int64))), .second, .val (.int kk), .val (.long (((lim - (off + (1 : Int32))).toInt64) + (0 : Int64))), .second] [(.int (lcmpW (((lim - (off + (1 : Int32))).toInt64) + (0 : Int64)) ((len - kk).toInt64)))]))
      have hc126_33 : (((lim - (off + (1 : Int32))).toInt64) + (0 : Int64)) = ((len - kk).toInt64) := by apply Int64.toInt_inj.mp; have a_hc89_20 := mt Int32.lt_iff_toInt_lt.mpr hc89_20; have a_hc101_31 := Int32.lt_iff_toInt_lt.mp hc101_31; have z_0 := rng32 lim; have z_1 := rng32 off; have z_2 := (show (1 : Int32).toInt = 1 from rfl); have z_3 := c_iadd off (1 : Int32); have z_4 := rng32 (off + (1 : Int32)); have z_5 := c_isub lim (off + (1 : Int32)); have z_6 := rng32 (lim - (off + (1 : Int32))); have z_7 := c_i2l (lim - (off + (1 : Int32))); have z_8 := (show (0 : Int64).toInt = 0 from rfl); have z_9 := c_ladd ((lim - (off + (1 : Int32))).toInt64) (0 : Int64); have z_10 := rng64 (((lim - (off + (1 : Int32))).toInt64) + (0 : Int64)); have z_11 := rng32 len; have z_12 := rng32 kk; have z_13 := c_isub len kk; have z_14 := rng32 (len - kk); have z_15 := c_i2l (len - kk); have z_16 := (show (2 : Int32).toInt = 2 from rfl); obtain ⟨o1, o2⟩ := roff; obtain ⟨o3, o4⟩ := rlen; have o5 := rlim; obtain ⟨o6, o7, o8⟩ := rkk; omega
      refine own_of (fun _ hh_ => XS.ifNo X32.here hx rfl (hb hby at_126) rfl ((if0 _ _).trans (teq ((lw_eq _ _).mpr hc126_33)).2) hh_) ?_
      show own_Run p e below s _ _ _ (T32.setTop (mkF m 129 #[.val (.int a1), .val (.int b1), .val (.int c1), .val (.int off), .val (.int len), .val (.int lim), .val (.ref ob1), .val (.ref ob4), .val (.long (((lim - off).toInt64) + (0 : Int64))), .second, .val (.int kk), .val (.long (((lim - (off + (1 : Int32))).toInt64) + (0 : Int64))), .second] []))
      refine own_of (fun _ hh_ => XS.lload X32.here hx rfl (hb hby at_129) rfl hh_) ?_
      show own_Run p e below s _ _ _ (T32.setTop (mkF m 131 #[.val (.int a1), .val (.int b1), .val (.int c1), .val (.int off), .val (.int len), .val (.int lim), .val (.ref ob1), .val (.ref ob4), .val (.long (((lim - off).toInt64) + (0 : Int64))), .second, .val (.int kk), .val (.long (((lim - (off + (1 : Int32))).toInt64) + (0 : Int64))), .second] [(.long (((lim - (off + (1 : Int32))).toInt64) + (0 : Int64)))]))
      refine own_of (fun _ hh_ => XS.aload X32.here hx rfl (hb hby at_131) rfl rfl hh_) ?_
      show own_Run p e below s _ _ _ (T32.setTop (mkF m 133 #[.val (.int a1), .val (.int b1), .val (.int c1), .val (.int off), .val (.int len), .val (.int lim), .val (.ref ob1), .val (.ref ob4), .val (.long (((lim - off).toInt64) + (0 : Int64))), .second, .val (.int kk), .val (.long (((lim - (off + (1 : Int32))).toInt64) + (0 : Int64))), .second] [(.ref ob4), (.long (((lim - (off + (1 : Int32))).toInt64) + (0 : Int64)))]))
      obtain ⟨cq34, kq34, q34a, q34b, q34c⟩ := isOf hZ e32 f30
      obtain ⟨_, _, ⟨T34, L34, k34, n34⟩, -, X34, ⟨Lc34, hQ34, l34, y34, z34⟩, st34⟩ := X32.virtualBack hx (y := (⟨"org/lanner/term/TermInput", "buffered", "()I"⟩ : MethodName)) (z := (⟨"org/lanner/term/TermInput", "buffered", "()I"⟩ : MethodName)) hown (mvT hZ (hw _ (List.mem_of_getElem? (i := 41) rfl))) (mvT hZ (hw _ (List.mem_of_getElem? (i := 42) rfl))) (notFace_of_selects (args := #[]) (mvT hZ (hw _ (List.mem_of_getElem? (i := 44) rfl)))) (mvT hZ (hw _ (List.mem_of_getElem? (i := 44) rfl))) (mvT hZ (hw _ (List.mem_of_getElem? (i := 43) rfl))) (by decide) (backOf (W := 2) (rmB l Z a0 hw [] ob4 lim (off + (1 : Int32)) T28.heap n0 (Nat.le_trans (Nat.le_trans (Nat.le_trans (Nat.le_trans (Nat.le_trans (Nat.le_trans Z0 E1.1) (Nat.le_of_eq W2.size.symm)) (Nat.le_of_eq W3.size.symm)) E4.1) K14.1) K28.1) flimit_28 fposition_28) hZ (hw _ (List.mem_of_getElem? (i := 45) rfl)) (hw _ (List.mem_of_getElem? (i := 4) rfl)) (by decide) (by decide)) q34a q34c (g := (mkF m 133 #[.val (.int a1), .val (.int b1), .val (.int c1), .val (.int off), .val (.int len), .val (.int lim), .val (.ref ob1), .val (.ref ob4), .val (.long (((lim - off).toInt64) + (0 : Int64))), .second, .val (.int kk), .val (.long (((lim - (off + (1 : Int32))).toInt64) + (0 : Int64))), .second] [(.ref ob4), (.long (((lim - (off + (1 : Int32))).toInt64) + (0 : Int64)))])) rfl (by rw [hml]; rfl) (Steps.refl _) (argsL := []) (rest := [(.long (((lim - (off + (1 : Int32))).toInt64) + (0 : Int64)))]) (lenOf own_pd4 rfl) rfl (by show 2 * 0 + _ ≤ _; exact Nat.le_of_eq rfl) (hb hby at_133) (fun _ _ => ⟨rfl, e32, (by decide : 2 + 0 ≤ _), (by decide : 16 + 0 ≤ _)⟩)
      dsimp only [Pt.U, Pt.locs, Pt.cells, Pt.slots] at X34 l34 y34 z34 st34 hQ34
      subst l34 y34 z34
      obtain ⟨rfl, N34q, e34⟩ := hQ34
      have N34 := Fr.app N32 N34q
      refine own_tr st34 ?_
      show own_Run p e below s _ _ _ (T34.setTop (mkF m 136 #[.val (.int a1), .val (.int b1), .val (.int c1), .val (.int off), .val (.int len), .val (.int lim), .val (.ref ob1), .val (.ref ob4), .val (.long (((lim - off).toInt64) + (0 : Int64))), .second, .val (.int kk), .val (.long (((lim - (off + (1 : Int32))).toInt64) + (0 : Int64))), .second] [(.int (lim - (off + (1 : Int32)))), (.long (((lim - (off + (1 : Int32))).toInt64) + (0 : Int64)))]))
      refine own_of (fun _ hh_ => XS.i2l X34.here hx rfl (hb hby at_136) rfl hh_) ?_
      show own_Run p e below s _ _ _ (T34.setTop (mkF m 137 #[.val (.int a1), .val (.int b1), .val (.int c1), .val (.int off), .val (.int len), .val (.int lim), .val (.ref ob1), .val (.ref ob4), .val (.long (((lim - off).toInt64) + (0 : Int64))), .second, .val (.int kk), .val (.long (((lim - (off + (1 : Int32))).toInt64) + (0 : Int64))), .second] [(.long ((lim - (off + (1 : Int32))).toInt64)), (.long (((lim - (off + (1 : Int32))).toInt64) + (0 : Int64)))]))
      refine own_of (fun _ hh_ => XS.lcmp X34.here hx rfl (hb hby at_137) rfl hh_) ?_
      show own_Run p e below s _ _ _ (T34.setTop (mkF m 138 #[.val (.int a1), .val (.int b1), .val (.int c1), .val (.int off), .val (.int len), .val (.int lim), .val (.ref ob1), .val (.ref ob4), .val (.long (((lim - off).toInt64) + (0 : Int64))), .second, .val (.int kk), .val (.long (((lim - (off + (1 : Int32))).toInt64) + (0 : Int64))), .second] [(.int (lcmpW (((lim - (off + (1 : Int32))).toInt64) + (0 : Int64)) ((lim - (off + (1 : Int32))).toInt64)))]))
      have hc138_35 : (((lim - (off + (1 : Int32))).toInt64) + (0 : Int64)) = ((lim - (off + (1 : Int32))).toInt64) := by apply Int64.toInt_inj.mp; have z_0 := rng32 lim; have z_1 := rng32 off; have z_2 := (show (1 : Int32).toInt = 1 from rfl); have z_3 := c_iadd off (1 : Int32); have z_4 := rng32 (off + (1 : Int32)); have z_5 := c_isub lim (off + (1 : Int32)); have z_6 := rng32 (lim - (off + (1 : Int32))); have z_7 := c_i2l (lim - (off + (1 : Int32))); have z_8 := (show (0 : Int64).toInt = 0 from rfl); have z_9 := c_ladd ((lim - (off + (1 : Int32))).toInt64) (0 : Int64); have z_10 := rng64 (((lim - (off + (1 : Int32))).toInt64) + (0 : Int64)); obtain ⟨o1, o2⟩ := roff; obtain ⟨o3, o4⟩ := rlen; have o5 := rlim; obtain ⟨o6, o7, o8⟩ := rkk; omega
      refine own_of (fun _ hh_ => XS.ifNo X34.here hx rfl (hb hby at_138) rfl ((if0 _ _).trans (teq ((lw_eq _ _).mpr hc138_35)).2) hh_) ?_
      show own_Run p e below s _ _ _ (T34.setTop (mkF m 141 #[.val (.int a1), .val (.int b1), .val (.int c1), .val (.int off), .val (.int len), .val (.int lim), .val (.ref ob1), .val (.ref ob4), .val (.long (((lim - off).toInt64) + (0 : Int64))), .second, .val (.int kk), .val (.long (((lim - (off + (1 : Int32))).toInt64) + (0 : Int64))), .second] []))
      refine own_of (fun _ hh_ => XS.aload X34.here hx rfl (hb hby at_141) rfl rfl hh_) ?_
      show own_Run p e below s _ _ _ (T34.setTop (mkF m 143 #[.val (.int a1), .val (.int b1), .val (.int c1), .val (.int off), .val (.int len), .val (.int lim), .val (.ref ob1), .val (.ref ob4), .val (.long (((lim - off).toInt64) + (0 : Int64))), .second, .val (.int kk), .val (.long (((lim - (off + (1 : Int32))).toInt64) + (0 : Int64))), .second] [(.ref ob4)]))
      obtain ⟨cq36, kq36, q36a, q36b, q36c⟩ := isOf hZ e34 f30
      obtain ⟨_, _, ⟨T36, L36, k36, n36⟩, -, X36, ⟨Lc36, hQ36, l36, y36, z36⟩, st36⟩ := X34.virtualBack hx (y := (⟨"org/lanner/term/TermInput", "offset", "()J"⟩ : MethodName)) (z := (⟨"org/lanner/term/TermInput", "offset", "()J"⟩ : MethodName)) hown (mvT hZ (hw _ (List.mem_of_getElem? (i := 46) rfl))) (mvT hZ (hw _ (List.mem_of_getElem? (i := 47) rfl))) (notFace_of_selects (args := #[]) (mvT hZ (hw _ (List.mem_of_getElem? (i := 49) rfl)))) (mvT hZ (hw _ (List.mem_of_getElem? (i := 49) rfl))) (mvT hZ (hw _ (List.mem_of_getElem? (i := 48) rfl))) (by decide) (backOf (W := 0) (rmO l Z a0 hw [] ob4 (0 : Int64) (off + (1 : Int32)) T28.heap n0 (Nat.le_trans (Nat.le_trans (Nat.le_trans (Nat.le_trans (Nat.le_trans (Nat.le_trans Z0 E1.1) (Nat.le_of_eq W2.size.symm)) (Nat.le_of_eq W3.size.symm)) E4.1) K14.1) K28.1) fdiscarded_28 fposition_28) hZ (hw _ (List.mem_of_getElem? (i := 50) rfl)) (hw _ (List.mem_of_getElem? (i := 4) rfl)) (by decide) (by decide)) q36a q36c (g := (mkF m 143 #[.val (.int a1), .val (.int b1), .val (.int c1), .val (.int off), .val (.int len), .val (.int lim), .val (.ref ob1), .val (.ref ob4), .val (.long (((lim - off).toInt64) + (0 : Int64))), .second, .val (.int kk), .val (.long (((lim - (off + (1 : Int32))).toInt64) + (0 : Int64))), .second] [(.ref ob4)])) rfl (by rw [hml]; rfl) (Steps.refl _) (argsL := []) (rest := []) (lenOf own_pd2 rfl) rfl (by show 2 * 0 + _ ≤ _; exact Nat.le_of_eq rfl) (hb hby at_143) (fun _ _ => ⟨rfl, e34, (by decide : 2 + 0 ≤ _), (by decide : 16 + 0 ≤ _)⟩)
      dsimp only [Pt.U, Pt.locs, Pt.cells, Pt.slots] at X36 l36 y36 z36 st36 hQ36
      subst l36 y36 z36
      obtain ⟨rfl, N36q, e36⟩ := hQ36
      have N36 := Fr.app N34 N36q
      refine own_tr st36 ?_
      show own_Run p e below s _ _ _ (T36.setTop (mkF m 146 #[.val (.int a1), .val (.int b1), .val (.int c1), .val (.int off), .val (.int len), .val (.int lim), .val (.ref ob1), .val (.ref ob4), .val (.long (((lim - off).toInt64) + (0 : Int64))), .second, .val (.int kk), .val (.long (((lim - (off + (1 : Int32))).toInt64) + (0 : Int64))), .second] [(.long ((0 : Int64) + ((off + (1 : Int32)).toInt64)))]))
      refine own_of (fun _ hh_ => XS.iloadN X36.here hx rfl (hb hby at_146) rfl hh_) ?_
      show own_Run p e below s _ _ _ (T36.setTop (mkF m 147 #[.val (.int a1), .val (.int b1), .val (.int c1), .val (.int off), .val (.int len), .val (.int lim), .val (.ref ob1), .val (.ref ob4), .val (.long (((lim - off).toInt64) + (0 : Int64))), .second, .val (.int kk), .val (.long (((lim - (off + (1 : Int32))).toInt64) + (0 : Int64))), .second] [(.int off), (.long ((0 : Int64) + ((off + (1 : Int32)).toInt64)))]))
      refine own_of (fun _ hh_ => XS.iload X36.here hx rfl (hb hby at_147) rfl hh_) ?_
      show own_Run p e below s _ _ _ (T36.setTop (mkF m 149 #[.val (.int a1), .val (.int b1), .val (.int c1), .val (.int off), .val (.int len), .val (.int lim), .val (.ref ob1), .val (.ref ob4), .val (.long (((lim - off).toInt64) + (0 : Int64))), .second, .val (.int kk), .val (.long (((lim - (off + (1 : Int32))).toInt64) + (0 : Int64))), .second] [(.int kk), (.int off), (.long ((0 : Int64) + ((off + (1 : Int32)).toInt64)))]))
      refine own_of (fun _ hh_ => XS.iadd X36.here hx rfl (hb hby at_149) rfl hh_) ?_
      show own_Run p e below s _ _ _ (T36.setTop (mkF m 150 #[.val (.int a1), .val (.int b1), .val (.int c1), .val (.int off), .val (.int len), .val (.int lim), .val (.ref ob1), .val (.ref ob4), .val (.long (((lim - off).toInt64) + (0 : Int64))), .second, .val (.int kk), .val (.long (((lim - (off + (1 : Int32))).toInt64) + (0 : Int64))), .second] [(.int (off + kk)), (.long ((0 : Int64) + ((off + (1 : Int32)).toInt64)))]))
      refine own_of (fun _ hh_ => XS.i2l X36.here hx rfl (hb hby at_150) rfl hh_) ?_
      show own_Run p e below s _ _ _ (T36.setTop (mkF m 151 #[.val (.int a1), .val (.int b1), .val (.int c1), .val (.int off), .val (.int len), .val (.int lim), .val (.ref ob1), .val (.ref ob4), .val (.long (((lim - off).toInt64) + (0 : Int64))), .second, .val (.int kk), .val (.long (((lim - (off + (1 : Int32))).toInt64) + (0 : Int64))), .second] [(.long ((off + kk).toInt64)), (.long ((0 : Int64) + ((off + (1 : Int32)).toInt64)))]))
      refine own_of (fun _ hh_ => XS.lcmp X36.here hx rfl (hb hby at_151) rfl hh_) ?_
      show own_Run p e below s _ _ _ (T36.setTop (mkF m 152 #[.val (.int a1), .val (.int b1), .val (.int c1), .val (.int off), .val (.int len), .val (.int lim), .val (.ref ob1), .val (.ref ob4), .val (.long (((lim - off).toInt64) + (0 : Int64))), .second, .val (.int kk), .val (.long (((lim - (off + (1 : Int32))).toInt64) + (0 : Int64))), .second] [(.int (lcmpW ((0 : Int64) + ((off + (1 : Int32)).toInt64)) ((off + kk).toInt64)))]))
      have hc152_37 : ((0 : Int64) + ((off + (1 : Int32)).toInt64)) = ((off + kk).toInt64) := by apply Int64.toInt_inj.mp; have a_hc89_20 := mt Int32.lt_iff_toInt_lt.mpr hc89_20; have a_hc101_31 := Int32.lt_iff_toInt_lt.mp hc101_31; have z_0 := (show (0 : Int64).toInt = 0 from rfl); have z_1 := rng32 off; have z_2 := (show (1 : Int32).toInt = 1 from rfl); have z_3 := c_iadd off (1 : Int32); have z_4 := rng32 (off + (1 : Int32)); have z_5 := c_i2l (off + (1 : Int32)); have z_6 := c_ladd (0 : Int64) ((off + (1 : Int32)).toInt64); have z_7 := rng64 ((0 : Int64) + ((off + (1 : Int32)).toInt64)); have z_8 := rng32 kk; have z_9 := c_iadd off kk; have z_10 := rng32 (off + kk); have z_11 := c_i2l (off + kk); have z_12 := (show (2 : Int32).toInt = 2 from rfl); obtain ⟨o1, o2⟩ := roff; obtain ⟨o3, o4⟩ := rlen; have o5 := rlim; obtain ⟨o6, o7, o8⟩ := rkk; omega
      refine own_of (fun _ hh_ => XS.ifNo X36.here hx rfl (hb hby at_152) rfl ((if0 _ _).trans (teq ((lw_eq _ _).mpr hc152_37)).2) hh_) ?_
      show own_Run p e below s _ _ _ (T36.setTop (mkF m 155 #[.val (.int a1), .val (.int b1), .val (.int c1), .val (.int off), .val (.int len), .val (.int lim), .val (.ref ob1), .val (.ref ob4), .val (.long (((lim - off).toInt64) + (0 : Int64))), .second, .val (.int kk), .val (.long (((lim - (off + (1 : Int32))).toInt64) + (0 : Int64))), .second] []))
      refine own_of (fun _ hh_ => XS.iconst X36.here hx rfl (hb hby at_155) hh_) ?_
      show own_Run p e below s _ _ _ (T36.setTop (mkF m 156 #[.val (.int a1), .val (.int b1), .val (.int c1), .val (.int off), .val (.int len), .val (.int lim), .val (.ref ob1), .val (.ref ob4), .val (.long (((lim - off).toInt64) + (0 : Int64))), .second, .val (.int kk), .val (.long (((lim - (off + (1 : Int32))).toInt64) + (0 : Int64))), .second] [(.int (1 : Int32))]))
      refine own_of (fun _ hh_ => XS.goto X36.here hx rfl (pc0 := 156) (pc' := 160) rfl (hb hby at_156) (by decide) (by decide) hh_) ?_
      show own_Run p e below s _ _ _ (T36.setTop (mkF m 160 #[.val (.int a1), .val (.int b1), .val (.int c1), .val (.int off), .val (.int len), .val (.int lim), .val (.ref ob1), .val (.ref ob4), .val (.long (((lim - off).toInt64) + (0 : Int64))), .second, .val (.int kk), .val (.long (((lim - (off + (1 : Int32))).toInt64) + (0 : Int64))), .second] [(.int (1 : Int32))]))
      exact own_retN X36 hx (t := .boolean) hret hlk (by simp) (hb hby at_160) ⟨rfl, N36⟩ (by decide) (by decide)
    · refine own_of (fun _ hh_ => XS.icmpNo X28.here hx rfl (hb hby at_101) rfl (flt hc101_31).1 hh_) ?_
      show own_Run p e below s _ _ _ (T28.setTop (mkF m 104 #[.val (.int a1), .val (.int b1), .val (.int c1), .val (.int off), .val (.int len), .val (.int lim), .val (.ref ob1), .val (.ref ob4), .val (.long (((lim - off).toInt64) + (0 : Int64))), .second, .val (.int kk), .unset, .unset] []))
      refine own_of (fun _ hh_ => XS.aload X28.here hx rfl (hb hby at_104) rfl rfl hh_) ?_
      show own_Run p e below s _ _ _ (T28.setTop (mkF m 106 #[.val (.int a1), .val (.int b1), .val (.int c1), .val (.int off), .val (.int len), .val (.int lim), .val (.ref ob1), .val (.ref ob4), .val (.long (((lim - off).toInt64) + (0 : Int64))), .second, .val (.int kk), .unset, .unset] [(.ref ob4)]))
      have hen106 : ¬ (lim - (off + (1 : Int32))) < (1 : Int32) := by apply mt Int32.lt_iff_toInt_lt.mp; have a_hc89_20 := mt Int32.lt_iff_toInt_lt.mpr hc89_20; have a_hc101_31 := mt Int32.lt_iff_toInt_lt.mpr hc101_31; have z_0 := rng32 lim; have z_1 := rng32 off; have z_2 := (show (1 : Int32).toInt = 1 from rfl); have z_3 := c_iadd off (1 : Int32); have z_4 := rng32 (off + (1 : Int32)); have z_5 := c_isub lim (off + (1 : Int32)); have z_6 := rng32 (lim - (off + (1 : Int32))); have z_7 := rng32 kk; have z_8 := (show (2 : Int32).toInt = 2 from rfl); obtain ⟨o1, o2⟩ := roff; obtain ⟨o3, o4⟩ := rlen; have o5 := rlim; obtain ⟨o6, o7, o8⟩ := rkk; omega
      have hps106 : 0 ≤ (off + (1 : Int32)).toInt ∧ (off + (1 : Int32)).toInt < 8 := by have a_hc89_20 := mt Int32.lt_iff_toInt_lt.mpr hc89_20; have a_hc101_31 := mt Int32.lt_iff_toInt_lt.mpr hc101_31; have z_0 := rng32 off; have z_1 := (show (1 : Int32).toInt = 1 from rfl); have z_2 := c_iadd off (1 : Int32); have z_3 := rng32 (off + (1 : Int32)); have z_4 := rng32 kk; have z_5 := (show (2 : Int32).toInt = 2 from rfl); obtain ⟨o1, o2⟩ := roff; obtain ⟨o3, o4⟩ := rlen; have o5 := rlim; obtain ⟨o6, o7, o8⟩ := rkk; omega
      have hin106 := own_pos hps106.1
      have hnt106 := own_nat (n := 8) hps106.1 hps106.2
      obtain ⟨cq38, kq38, q38a, q38b, q38c⟩ := isOf hZ (rfl : T28.heap = T28.heap) f30
      obtain ⟨_, _, ⟨T38, L38, k38, n38⟩, -, X38, ⟨Lc38, hQ38, l38, y38, z38⟩, st38⟩ := X28.virtualBack hx (y := (⟨"org/lanner/term/TermInput", "u8", "()I"⟩ : MethodName)) (z := (⟨"org/lanner/term/TermInput", "u8", "()I"⟩ : MethodName)) hown (mvT hZ (hw _ (List.mem_of_getElem? (i := 32) rfl))) (mvT hZ (hw _ (List.mem_of_getElem? (i := 33) rfl))) (notFace_of_selects (args := #[]) (mvT hZ (hw _ (List.mem_of_getElem? (i := 35) rfl)))) (mvT hZ (hw _ (List.mem_of_getElem? (i := 35) rfl))) (mvT hZ (hw _ (List.mem_of_getElem? (i := 34) rfl))) (by decide) (backOf (W := 0) (rmU l Z a0 hw [] ob4 ob1 (off + (1 : Int32)) lim (0 : Int64) 8 (own_up (own_up (fun _ => 0) 0 (c1.toInt8.toInt32).toInt8.toInt32) 7 (b1.toInt8.toInt32).toInt8.toInt32) T28.heap n0 (Nat.le_trans (Nat.le_trans (Nat.le_trans (Nat.le_trans (Nat.le_trans (Nat.le_trans Z0 E1.1) (Nat.le_of_eq W2.size.symm)) (Nat.le_of_eq W3.size.symm)) E4.1) K14.1) K28.1) f30 fbuffer_28 fposition_28 flimit_28 finflater_28 fdiscarded_28 f29 g_ob4 hen106 hin106 hnt106) hZ (hw _ (List.mem_of_getElem? (i := 36) rfl)) (hw _ (List.mem_of_getElem? (i := 4) rfl)) (by decide) (by decide)) q38a q38c (g := (mkF m 106 #[.val (.int a1), .val (.int b1), .val (.int c1), .val (.int off), .val (.int len), .val (.int lim), .val (.ref ob1), .val (.ref ob4), .val (.long (((lim - off).toInt64) + (0 : Int64))), .second, .val (.int kk), .unset, .unset] [(.ref ob4)])) rfl (by rw [hml]; rfl) (Steps.refl _) (argsL := []) (rest := []) (lenOf own_pd4 rfl) rfl (by show 2 * 0 + _ ≤ _; exact Nat.le_of_eq rfl) (hb hby at_106) (fun _ _ => ⟨rfl, (rfl : T28.heap = T28.heap), (by decide : 2 + 0 ≤ _), (by decide : 16 + 0 ≤ _)⟩)
      dsimp only [Pt.U, Pt.locs, Pt.cells, Pt.slots] at X38 l38 y38 z38 st38 hQ38
      subst l38 y38 z38
      obtain ⟨zz38, rfl, N38q, K38, fbuffer_38, fposition_38, flimit_38, finflater_38, fdiscarded_38⟩ := hQ38
      have N38 := Fr.app N28 N38q
      have f39 := f29.keep K38 (ninS ne_ob1_ob4 nin0)
      have f40 := f30.keep K38
      refine own_tr st38 ?_
      show own_Run p e below s _ _ _ (T38.setTop (mkF m 109 #[.val (.int a1), .val (.int b1), .val (.int c1), .val (.int off), .val (.int len), .val (.int lim), .val (.ref ob1), .val (.ref ob4), .val (.long (((lim - off).toInt64) + (0 : Int64))), .second, .val (.int kk), .unset, .unset] [(.int zz38)]))
      refine own_of (fun _ hh_ => XS.pop X38.here hx rfl (hb hby at_109) rfl rfl hh_) ?_
      show own_Run p e below s _ _ _ (T38.setTop (mkF m 110 #[.val (.int a1), .val (.int b1), .val (.int c1), .val (.int off), .val (.int len), .val (.int lim), .val (.ref ob1), .val (.ref ob4), .val (.long (((lim - off).toInt64) + (0 : Int64))), .second, .val (.int kk), .unset, .unset] []))
      refine own_of (fun _ hh_ => XS.aload X38.here hx rfl (hb hby at_110) rfl rfl hh_) ?_
      show own_Run p e below s _ _ _ (T38.setTop (mkF m 112 #[.val (.int a1), .val (.int b1), .val (.int c1), .val (.int off), .val (.int len), .val (.int lim), .val (.ref ob1), .val (.ref ob4), .val (.long (((lim - off).toInt64) + (0 : Int64))), .second, .val (.int kk), .unset, .unset] [(.ref ob4)]))
      obtain ⟨cq41, kq41, q41a, q41b, q41c⟩ := isOf hZ (rfl : T38.heap = T38.heap) f40
      obtain ⟨_, _, ⟨T41, L41, k41, n41⟩, -, X41, ⟨Lc41, hQ41, l41, y41, z41⟩, st41⟩ := X38.virtualBack hx (y := (⟨"org/lanner/term/TermInput", "remaining", "()J"⟩ : MethodName)) (z := (⟨"org/lanner/term/TermInput", "remaining", "()J"⟩ : MethodName)) hown (mvT hZ (hw _ (List.mem_of_getElem? (i := 23) rfl))) (mvT hZ (hw _ (List.mem_of_getElem? (i := 24) rfl))) (notFace_of_selects (args := #[]) (mvT hZ (hw _ (List.mem_of_getElem? (i := 26) rfl)))) (mvT hZ (hw _ (List.mem_of_getElem? (i := 26) rfl))) (mvT hZ (hw _ (List.mem_of_getElem? (i := 25) rfl))) (by decide) (backOf (W := 0) (rmR l Z a0 hw [] ob4 lim ((off + (1 : Int32)) + (1 : Int32)) T38.heap n0 (Nat.le_trans (Nat.le_trans (Nat.le_trans (Nat.le_trans (Nat.le_trans (Nat.le_trans (Nat.le_trans Z0 E1.1) (Nat.le_of_eq W2.size.symm)) (Nat.le_of_eq W3.size.symm)) E4.1) K14.1) K28.1) K38.1) flimit_38 fposition_38 finflater_38) hZ (hw _ (List.mem_of_getElem? (i := 27) rfl)) (hw _ (List.mem_of_getElem? (i := 4) rfl)) (by decide) (by decide)) q41a q41c (g := (mkF m 112 #[.val (.int a1), .val (.int b1), .val (.int c1), .val (.int off), .val (.int len), .val (.int lim), .val (.ref ob1), .val (.ref ob4), .val (.long (((lim - off).toInt64) + (0 : Int64))), .second, .val (.int kk), .unset, .unset] [(.ref ob4)])) rfl (by rw [hml]; rfl) (Steps.refl _) (argsL := []) (rest := []) (lenOf own_pd2 rfl) rfl (by show 2 * 0 + _ ≤ _; exact Nat.le_of_eq rfl) (hb hby at_112) (fun _ _ => ⟨rfl, (rfl : T38.heap = T38.heap), (by decide : 2 + 0 ≤ _), (by decide : 16 + 0 ≤ _)⟩)
      dsimp only [Pt.U, Pt.locs, Pt.cells, Pt.slots] at X41 l41 y41 z41 st41 hQ41
      subst l41 y41 z41
      obtain ⟨rfl, N41q, e41⟩ := hQ41
      have N41 := Fr.app N38 N41q
      refine own_tr st41 ?_
      show own_Run p e below s _ _ _ (T41.setTop (mkF m 115 #[.val (.int a1), .val (.int b1), .val (.int c1), .val (.int off), .val (.int len), .val (.int lim), .val (.ref ob1), .val (.ref ob4), .val (.long (((lim - off).toInt64) + (0 : Int64))), .second, .val (.int kk), .unset, .unset] [(.long (((lim - ((off + (1 : Int32)) + (1 : Int32))).toInt64) + (0 : Int64)))]))
      refine own_of (fun _ hh_ => XS.lstore X41.here hx rfl (hb hby at_115) rfl (l' := #[.val (.int a1), .val (.int b1), .val (.int c1), .val (.int off), .val (.int len), .val (.int lim), .val (.ref ob1), .val (.ref ob4), .val (.long (((lim - off).toInt64) + (0 : Int64))), .second, .val (.int kk), .val (.long (((lim - ((off + (1 : Int32)) + (1 : Int32))).toInt64) + (0 : Int64))), .second]) rfl hh_) ?_
      show own_Run p e below s _ _ _ (T41.setTop (mkF m 117 #[.val (.int a1), .val (.int b1), .val (.int c1), .val (.int off), .val (.int len), .val (.int lim), .val (.ref ob1), .val (.ref ob4), .val (.long (((lim - off).toInt64) + (0 : Int64))), .second, .val (.int kk), .val (.long (((lim - ((off + (1 : Int32)) + (1 : Int32))).toInt64) + (0 : Int64))), .second] []))
      refine own_of (fun _ hh_ => XS.lload X41.here hx rfl (hb hby at_117) rfl hh_) ?_
      show own_Run p e below s _ _ _ (T41.setTop (mkF m 119 #[.val (.int a1), .val (.int b1), .val (.int c1), .val (.int off), .val (.int len), .val (.int lim), .val (.ref ob1), .val (.ref ob4), .val (.long (((lim - off).toInt64) + (0 : Int64))), .second, .val (.int kk), .val (.long (((lim - ((off + (1 : Int32)) + (1 : Int32))).toInt64) + (0 : Int64))), .second] [(.long (((lim - ((off + (1 : Int32)) + (1 : Int32))).toInt64) + (0 : Int64)))]))
      refine own_of (fun _ hh_ => XS.iload X41.here hx rfl (hb hby at_119) rfl hh_) ?_
      show own_Run p e below s _ _ _ (T41.setTop (mkF m 121 #[.val (.int a1), .val (.int b1), .val (.int c1), .val (.int off), .val (.int len), .val (.int lim), .val (.ref ob1), .val (.ref ob4), .val (.long (((lim - off).toInt64) + (0 : Int64))), .second, .val (.int kk), .val (.long (((lim - ((off + (1 : Int32)) + (1 : Int32))).toInt64) + (0 : Int64))), .second] [(.int len), (.long (((lim - ((off + (1 : Int32)) + (1 : Int32))).toInt64) + (0 : Int64)))]))
      refine own_of (fun _ hh_ => XS.iload X41.here hx rfl (hb hby at_121) rfl hh_) ?_
      show own_Run p e below s _ _ _ (T41.setTop (mkF m 123 #[.val (.int a1), .val (.int b1), .val (.int c1), .val (.int off), .val (.int len), .val (.int lim), .val (.ref ob1), .val (.ref ob4), .val (.long (((lim - off).toInt64) + (0 : Int64))), .second, .val (.int kk), .val (.long (((lim - ((off + (1 : Int32)) + (1 : Int32))).toInt64) + (0 : Int64))), .second] [(.int kk), (.int len), (.long (((lim - ((off + (1 : Int32)) + (1 : Int32))).toInt64) + (0 : Int64)))]))
      refine own_of (fun _ hh_ => XS.isub X41.here hx rfl (hb hby at_123) rfl hh_) ?_
      show own_Run p e below s _ _ _ (T41.setTop (mkF m 124 #[.val (.int a1), .val (.int b1), .val (.int c1), .val (.int off), .val (.int len), .val (.int lim), .val (.ref ob1), .val (.ref ob4), .val (.long (((lim - off).toInt64) + (0 : Int64))), .second, .val (.int kk), .val (.long (((lim - ((off + (1 : Int32)) + (1 : Int32))).toInt64) + (0 : Int64))), .second] [(.int (len - kk)), (.long (((lim - ((off + (1 : Int32)) + (1 : Int32))).toInt64) + (0 : Int64)))]))
      refine own_of (fun _ hh_ => XS.i2l X41.here hx rfl (hb hby at_124) rfl hh_) ?_
      show own_Run p e below s _ _ _ (T41.setTop (mkF m 125 #[.val (.int a1), .val (.int b1), .val (.int c1), .val (.int off), .val (.int len), .val (.int lim), .val (.ref ob1), .val (.ref ob4), .val (.long (((lim - off).toInt64) + (0 : Int64))), .second, .val (.int kk), .val (.long (((lim - ((off + (1 : Int32)) + (1 : Int32))).toInt64) + (0 : Int64))), .second] [(.long ((len - kk).toInt64)), (.long (((lim - ((off + (1 : Int32)) + (1 : Int32))).toInt64) + (0 : Int64)))]))
      refine own_of (fun _ hh_ => XS.lcmp X41.here hx rfl (hb hby at_125) rfl hh_) ?_
      show own_Run p e below s _ _ _ (T41.setTop (mkF m 126 #[.val (.int a1), .val (.int b1), .val (.int c1), .val (.int off), .val (.int len), .val (.int lim), .val (.ref ob1), .val (.ref ob4), .val (.long (((lim - off).toInt64) + (0 : Int64))), .second, .val (.int kk), .val (.long (((lim - ((off + (1 : Int32)) + (1 : Int32))).toInt64) + (0 : Int64))), .second] [(.int (lcmpW (((lim - ((off + (1 : Int32)) + (1 : Int32))).toInt64) + (0 : Int64)) ((len - kk).toInt64)))]))
      have hc126_42 : (((lim - ((off + (1 : Int32)) + (1 : Int32))).toInt64) + (0 : Int64)) = ((len - kk).toInt64) := by apply Int64.toInt_inj.mp; have a_hc89_20 := mt Int32.lt_iff_toInt_lt.mpr hc89_20; have a_hc101_31 := mt Int32.lt_iff_toInt_lt.mpr hc101_31; have z_0 := rng32 lim; have z_1 := rng32 off; have z_2 := (show (1 : Int32).toInt = 1 from rfl); have z_3 := c_iadd off (1 : Int32); have z_4 := rng32 (off + (1 : Int32)); have z_5 := c_iadd (off + (1 : Int32)) (1 : Int32); have z_6 := rng32 ((off + (1 : Int32)) + (1 : Int32)); have z_7 := c_isub lim ((off + (1 : Int32)) + (1 : Int32)); have z_8 := rng32 (lim - ((off + (1 : Int32)) + (1 : Int32))); have z_9 := c_i2l (lim - ((off + (1 : Int32)) + (1 : Int32))); have z_10 := (show (0 : Int64).toInt = 0 from rfl); have z_11 := c_ladd ((lim - ((off + (1 : Int32)) + (1 : Int32))).toInt64) (0 : Int64); have z_12 := rng64 (((lim - ((off + (1 : Int32)) + (1 : Int32))).toInt64) + (0 : Int64)); have z_13 := rng32 len; have z_14 := rng32 kk; have z_15 := c_isub len kk; have z_16 := rng32 (len - kk); have z_17 := c_i2l (len - kk); have z_18 := (show (2 : Int32).toInt = 2 from rfl); obtain ⟨o1, o2⟩ := roff; obtain ⟨o3, o4⟩ := rlen; have o5 := rlim; obtain ⟨o6, o7, o8⟩ := rkk; omega
      refine own_of (fun _ hh_ => XS.ifNo X41.here hx rfl (hb hby at_126) rfl ((if0 _ _).trans (teq ((lw_eq _ _).mpr hc126_42)).2) hh_) ?_
      show own_Run p e below s _ _ _ (T41.setTop (mkF m 129 #[.val (.int a1), .val (.int b1), .val (.int c1), .val (.int off), .val (.int len), .val (.int lim), .val (.ref ob1), .val (.ref ob4), .val (.long (((lim - off).toInt64) + (0 : Int64))), .second, .val (.int kk), .val (.long (((lim - ((off + (1 : Int32)) + (1 : Int32))).toInt64) + (0 : Int64))), .second] []))
      refine own_of (fun _ hh_ => XS.lload X41.here hx rfl (hb hby at_129) rfl hh_) ?_
      show own_Run p e below s _ _ _ (T41.setTop (mkF m 131 #[.val (.int a1), .val (.int b1), .val (.int c1), .val (.int off), .val (.int len), .val (.int lim), .val (.ref ob1), .val (.ref ob4), .val (.long (((lim - off).toInt64) + (0 : Int64))), .second, .val (.int kk), .val (.long (((lim - ((off + (1 : Int32)) + (1 : Int32))).toInt64) + (0 : Int64))), .second] [(.long (((lim - ((off + (1 : Int32)) + (1 : Int32))).toInt64) + (0 : Int64)))]))
      refine own_of (fun _ hh_ => XS.aload X41.here hx rfl (hb hby at_131) rfl rfl hh_) ?_
      show own_Run p e below s _ _ _ (T41.setTop (mkF m 133 #[.val (.int a1), .val (.int b1), .val (.int c1), .val (.int off), .val (.int len), .val (.int lim), .val (.ref ob1), .val (.ref ob4), .val (.long (((lim - off).toInt64) + (0 : Int64))), .second, .val (.int kk), .val (.long (((lim - ((off + (1 : Int32)) + (1 : Int32))).toInt64) + (0 : Int64))), .second] [(.ref ob4), (.long (((lim - ((off + (1 : Int32)) + (1 : Int32))).toInt64) + (0 : Int64)))]))
      obtain ⟨cq43, kq43, q43a, q43b, q43c⟩ := isOf hZ e41 f40
      obtain ⟨_, _, ⟨T43, L43, k43, n43⟩, -, X43, ⟨Lc43, hQ43, l43, y43, z43⟩, st43⟩ := X41.virtualBack hx (y := (⟨"org/lanner/term/TermInput", "buffered", "()I"⟩ : MethodName)) (z := (⟨"org/lanner/term/TermInput", "buffered", "()I"⟩ : MethodName)) hown (mvT hZ (hw _ (List.mem_of_getElem? (i := 41) rfl))) (mvT hZ (hw _ (List.mem_of_getElem? (i := 42) rfl))) (notFace_of_selects (args := #[]) (mvT hZ (hw _ (List.mem_of_getElem? (i := 44) rfl)))) (mvT hZ (hw _ (List.mem_of_getElem? (i := 44) rfl))) (mvT hZ (hw _ (List.mem_of_getElem? (i := 43) rfl))) (by decide) (backOf (W := 2) (rmB l Z a0 hw [] ob4 lim ((off + (1 : Int32)) + (1 : Int32)) T38.heap n0 (Nat.le_trans (Nat.le_trans (Nat.le_trans (Nat.le_trans (Nat.le_trans (Nat.le_trans (Nat.le_trans Z0 E1.1) (Nat.le_of_eq W2.size.symm)) (Nat.le_of_eq W3.size.symm)) E4.1) K14.1) K28.1) K38.1) flimit_38 fposition_38) hZ (hw _ (List.mem_of_getElem? (i := 45) rfl)) (hw _ (List.mem_of_getElem? (i := 4) rfl)) (by decide) (by decide)) q43a q43c (g := (mkF m 133 #[.val (.int a1), .val (.int b1), .val (.int c1), .val (.int off), .val (.int len), .val (.int lim), .val (.ref ob1), .val (.ref ob4), .val (.long (((lim - off).toInt64) + (0 : Int64))), .second, .val (.int kk), .val (.long (((lim - ((off + (1 : Int32)) + (1 : Int32))).toInt64) + (0 : Int64))), .second] [(.ref ob4), (.long (((lim - ((off + (1 : Int32)) + (1 : Int32))).toInt64) + (0 : Int64)))])) rfl (by rw [hml]; rfl) (Steps.refl _) (argsL := []) (rest := [(.long (((lim - ((off + (1 : Int32)) + (1 : Int32))).toInt64) + (0 : Int64)))]) (lenOf own_pd4 rfl) rfl (by show 2 * 0 + _ ≤ _; exact Nat.le_of_eq rfl) (hb hby at_133) (fun _ _ => ⟨rfl, e41, (by decide : 2 + 0 ≤ _), (by decide : 16 + 0 ≤ _)⟩)
      dsimp only [Pt.U, Pt.locs, Pt.cells, Pt.slots] at X43 l43 y43 z43 st43 hQ43
      subst l43 y43 z43
      obtain ⟨rfl, N43q, e43⟩ := hQ43
      have N43 := Fr.app N41 N43q
      refine own_tr st43 ?_
      show own_Run p e below s _ _ _ (T43.setTop (mkF m 136 #[.val (.int a1), .val (.int b1), .val (.int c1), .val (.int off), .val (.int len), .val (.int lim), .val (.ref ob1), .val (.ref ob4), .val (.long (((lim - off).toInt64) + (0 : Int64))), .second, .val (.int kk), .val (.long (((lim - ((off + (1 : Int32)) + (1 : Int32))).toInt64) + (0 : Int64))), .second] [(.int (lim - ((off + (1 : Int32)) + (1 : Int32)))), (.long (((lim - ((off + (1 : Int32)) + (1 : Int32))).toInt64) + (0 : Int64)))]))
      refine own_of (fun _ hh_ => XS.i2l X43.here hx rfl (hb hby at_136) rfl hh_) ?_
      show own_Run p e below s _ _ _ (T43.setTop (mkF m 137 #[.val (.int a1), .val (.int b1), .val (.int c1), .val (.int off), .val (.int len), .val (.int lim), .val (.ref ob1), .val (.ref ob4), .val (.long (((lim - off).toInt64) + (0 : Int64))), .second, .val (.int kk), .val (.long (((lim - ((off + (1 : Int32)) + (1 : Int32))).toInt64) + (0 : Int64))), .second] [(.long ((lim - ((off + (1 : Int32)) + (1 : Int32))).toInt64)), (.long (((lim - ((off + (1 : Int32)) + (1 : Int32))).toInt64) + (0 : Int64)))]))
      refine own_of (fun _ hh_ => XS.lcmp X43.here hx rfl (hb hby at_137) rfl hh_) ?_
      show own_Run p e below s _ _ _ (T43.setTop (mkF m 138 #[.val (.int a1), .val (.int b1), .val (.int c1), .val (.int off), .val (.int len), .val (.int lim), .val (.ref ob1), .val (.ref ob4), .val (.long (((lim - off).toInt64) + (0 : Int64))), .second, .val (.int kk), .val (.long (((lim - ((off + (1 : Int32)) + (1 : Int32))).toInt64) + (0 : Int64))), .second] [(.int (lcmpW (((lim - ((off + (1 : Int32)) + (1 : Int32))).toInt64) + (0 : Int64)) ((lim - ((off + (1 : Int32)) + (1 : Int32))).toInt64)))]))
      have hc138_44 : (((lim - ((off + (1 : Int32)) + (1 : Int32))).toInt64) + (0 : Int64)) = ((lim - ((off + (1 : Int32)) + (1 : Int32))).toInt64) := by apply Int64.toInt_inj.mp; have z_0 := rng32 lim; have z_1 := rng32 off; have z_2 := (show (1 : Int32).toInt = 1 from rfl); have z_3 := c_iadd off (1 : Int32); have z_4 := rng32 (off + (1 : Int32)); have z_5 := c_iadd (off + (1 : Int32)) (1 : Int32); have z_6 := rng32 ((off + (1 : Int32)) + (1 : Int32)); have z_7 := c_isub lim ((off + (1 : Int32)) + (1 : Int32)); have z_8 := rng32 (lim - ((off + (1 : Int32)) + (1 : Int32))); have z_9 := c_i2l (lim - ((off + (1 : Int32)) + (1 : Int32))); have z_10 := (show (0 : Int64).toInt = 0 from rfl); have z_11 := c_ladd ((lim - ((off + (1 : Int32)) + (1 : Int32))).toInt64) (0 : Int64); have z_12 := rng64 (((lim - ((off + (1 : Int32)) + (1 : Int32))).toInt64) + (0 : Int64)); obtain ⟨o1, o2⟩ := roff; obtain ⟨o3, o4⟩ := rlen; have o5 := rlim; obtain ⟨o6, o7, o8⟩ := rkk; omega
      refine own_of (fun _ hh_ => XS.ifNo X43.here hx rfl (hb hby at_138) rfl ((if0 _ _).trans (teq ((lw_eq _ _).mpr hc138_44)).2) hh_) ?_
      show own_Run p e below s _ _ _ (T43.setTop (mkF m 141 #[.val (.int a1), .val (.int b1), .val (.int c1), .val (.int off), .val (.int len), .val (.int lim), .val (.ref ob1), .val (.ref ob4), .val (.long (((lim - off).toInt64) + (0 : Int64))), .second, .val (.int kk), .val (.long (((lim - ((off + (1 : Int32)) + (1 : Int32))).toInt64) + (0 : Int64))), .second] []))
      refine own_of (fun _ hh_ => XS.aload X43.here hx rfl (hb hby at_141) rfl rfl hh_) ?_
      show own_Run p e below s _ _ _ (T43.setTop (mkF m 143 #[.val (.int a1), .val (.int b1), .val (.int c1), .val (.int off), .val (.int len), .val (.int lim), .val (.ref ob1), .val (.ref ob4), .val (.long (((lim - off).toInt64) + (0 : Int64))), .second, .val (.int kk), .val (.long (((lim - ((off + (1 : Int32)) + (1 : Int32))).toInt64) + (0 : Int64))), .second] [(.ref ob4)]))
      obtain ⟨cq45, kq45, q45a, q45b, q45c⟩ := isOf hZ e43 f40
      obtain ⟨_, _, ⟨T45, L45, k45, n45⟩, -, X45, ⟨Lc45, hQ45, l45, y45, z45⟩, st45⟩ := X43.virtualBack hx (y := (⟨"org/lanner/term/TermInput", "offset", "()J"⟩ : MethodName)) (z := (⟨"org/lanner/term/TermInput", "offset", "()J"⟩ : MethodName)) hown (mvT hZ (hw _ (List.mem_of_getElem? (i := 46) rfl))) (mvT hZ (hw _ (List.mem_of_getElem? (i := 47) rfl))) (notFace_of_selects (args := #[]) (mvT hZ (hw _ (List.mem_of_getElem? (i := 49) rfl)))) (mvT hZ (hw _ (List.mem_of_getElem? (i := 49) rfl))) (mvT hZ (hw _ (List.mem_of_getElem? (i := 48) rfl))) (by decide) (backOf (W := 0) (rmO l Z a0 hw [] ob4 (0 : Int64) ((off + (1 : Int32)) + (1 : Int32)) T38.heap n0 (Nat.le_trans (Nat.le_trans (Nat.le_trans (Nat.le_trans (Nat.le_trans (Nat.le_trans (Nat.le_trans Z0 E1.1) (Nat.le_of_eq W2.size.symm)) (Nat.le_of_eq W3.size.symm)) E4.1) K14.1) K28.1) K38.1) fdiscarded_38 fposition_38) hZ (hw _ (List.mem_of_getElem? (i := 50) rfl)) (hw _ (List.mem_of_getElem? (i := 4) rfl)) (by decide) (by decide)) q45a q45c (g := (mkF m 143 #[.val (.int a1), .val (.int b1), .val (.int c1), .val (.int off), .val (.int len), .val (.int lim), .val (.ref ob1), .val (.ref ob4), .val (.long (((lim - off).toInt64) + (0 : Int64))), .second, .val (.int kk), .val (.long (((lim - ((off + (1 : Int32)) + (1 : Int32))).toInt64) + (0 : Int64))), .second] [(.ref ob4)])) rfl (by rw [hml]; rfl) (Steps.refl _) (argsL := []) (rest := []) (lenOf own_pd2 rfl) rfl (by show 2 * 0 + _ ≤ _; exact Nat.le_of_eq rfl) (hb hby at_143) (fun _ _ => ⟨rfl, e43, (by decide : 2 + 0 ≤ _), (by decide : 16 + 0 ≤ _)⟩)
      dsimp only [Pt.U, Pt.locs, Pt.cells, Pt.slots] at X45 l45 y45 z45 st45 hQ45
      subst l45 y45 z45
      obtain ⟨rfl, N45q, e45⟩ := hQ45
      have N45 := Fr.app N43 N45q
      refine own_tr st45 ?_
      show own_Run p e below s _ _ _ (T45.setTop (mkF m 146 #[.val (.int a1), .val (.int b1), .val (.int c1), .val (.int off), .val (.int len), .val (.int lim), .val (.ref ob1), .val (.ref ob4), .val (.long (((lim - off).toInt64) + (0 : Int64))), .second, .val (.int kk), .val (.long (((lim - ((off + (1 : Int32)) + (1 : Int32))).toInt64) + (0 : Int64))), .second] [(.long ((0 : Int64) + (((off + (1 : Int32)) + (1 : Int32)).toInt64)))]))
      refine own_of (fun _ hh_ => XS.iloadN X45.here hx rfl (hb hby at_146) rfl hh_) ?_
      show own_Run p e below s _ _ _ (T45.setTop (mkF m 147 #[.val (.int a1), .val (.int b1), .val (.int c1), .val (.int off), .val (.int len), .val (.int lim), .val (.ref ob1), .val (.ref ob4), .val (.long (((lim - off).toInt64) + (0 : Int64))), .second, .val (.int kk), .val (.long (((lim - ((off + (1 : Int32)) + (1 : Int32))).toInt64) + (0 : Int64))), .second] [(.int off), (.long ((0 : Int64) + (((off + (1 : Int32)) + (1 : Int32)).toInt64)))]))
      refine own_of (fun _ hh_ => XS.iload X45.here hx rfl (hb hby at_147) rfl hh_) ?_
      show own_Run p e below s _ _ _ (T45.setTop (mkF m 149 #[.val (.int a1), .val (.int b1), .val (.int c1), .val (.int off), .val (.int len), .val (.int lim), .val (.ref ob1), .val (.ref ob4), .val (.long (((lim - off).toInt64) + (0 : Int64))), .second, .val (.int kk), .val (.long (((lim - ((off + (1 : Int32)) + (1 : Int32))).toInt64) + (0 : Int64))), .second] [(.int kk), (.int off), (.long ((0 : Int64) + (((off + (1 : Int32)) + (1 : Int32)).toInt64)))]))
      refine own_of (fun _ hh_ => XS.iadd X45.here hx rfl (hb hby at_149) rfl hh_) ?_
      show own_Run p e below s _ _ _ (T45.setTop (mkF m 150 #[.val (.int a1), .val (.int b1), .val (.int c1), .val (.int off), .val (.int len), .val (.int lim), .val (.ref ob1), .val (.ref ob4), .val (.long (((lim - off).toInt64) + (0 : Int64))), .second, .val (.int kk), .val (.long (((lim - ((off + (1 : Int32)) + (1 : Int32))).toInt64) + (0 : Int64))), .second] [(.int (off + kk)), (.long ((0 : Int64) + (((off + (1 : Int32)) + (1 : Int32)).toInt64)))]))
      refine own_of (fun _ hh_ => XS.i2l X45.here hx rfl (hb hby at_150) rfl hh_) ?_
      show own_Run p e below s _ _ _ (T45.setTop (mkF m 151 #[.val (.int a1), .val (.int b1), .val (.int c1), .val (.int off), .val (.int len), .val (.int lim), .val (.ref ob1), .val (.ref ob4), .val (.long (((lim - off).toInt64) + (0 : Int64))), .second, .val (.int kk), .val (.long (((lim - ((off + (1 : Int32)) + (1 : Int32))).toInt64) + (0 : Int64))), .second] [(.long ((off + kk).toInt64)), (.long ((0 : Int64) + (((off + (1 : Int32)) + (1 : Int32)).toInt64)))]))
      refine own_of (fun _ hh_ => XS.lcmp X45.here hx rfl (hb hby at_151) rfl hh_) ?_
      show own_Run p e below s _ _ _ (T45.setTop (mkF m 152 #[.val (.int a1), .val (.int b1), .val (.int c1), .val (.int off), .val (.int len), .val (.int lim), .val (.ref ob1), .val (.ref ob4), .val (.long (((lim - off).toInt64) + (0 : Int64))), .second, .val (.int kk), .val (.long (((lim - ((off + (1 : Int32)) + (1 : Int32))).toInt64) + (0 : Int64))), .second] [(.int (lcmpW ((0 : Int64) + (((off + (1 : Int32)) + (1 : Int32)).toInt64)) ((off + kk).toInt64)))]))
      have hc152_46 : ((0 : Int64) + (((off + (1 : Int32)) + (1 : Int32)).toInt64)) = ((off + kk).toInt64) := by apply Int64.toInt_inj.mp; have a_hc89_20 := mt Int32.lt_iff_toInt_lt.mpr hc89_20; have a_hc101_31 := mt Int32.lt_iff_toInt_lt.mpr hc101_31; have z_0 := (show (0 : Int64).toInt = 0 from rfl); have z_1 := rng32 off; have z_2 := (show (1 : Int32).toInt = 1 from rfl); have z_3 := c_iadd off (1 : Int32); have z_4 := rng32 (off + (1 : Int32)); have z_5 := c_iadd (off + (1 : Int32)) (1 : Int32); have z_6 := rng32 ((off + (1 : Int32)) + (1 : Int32)); have z_7 := c_i2l ((off + (1 : Int32)) + (1 : Int32)); have z_8 := c_ladd (0 : Int64) (((off + (1 : Int32)) + (1 : Int32)).toInt64); have z_9 := rng64 ((0 : Int64) + (((off + (1 : Int32)) + (1 : Int32)).toInt64)); have z_10 := rng32 kk; have z_11 := c_iadd off kk; have z_12 := rng32 (off + kk); have z_13 := c_i2l (off + kk); have z_14 := (show (2 : Int32).toInt = 2 from rfl); obtain ⟨o1, o2⟩ := roff; obtain ⟨o3, o4⟩ := rlen; have o5 := rlim; obtain ⟨o6, o7, o8⟩ := rkk; omega
      refine own_of (fun _ hh_ => XS.ifNo X45.here hx rfl (hb hby at_152) rfl ((if0 _ _).trans (teq ((lw_eq _ _).mpr hc152_46)).2) hh_) ?_
      show own_Run p e below s _ _ _ (T45.setTop (mkF m 155 #[.val (.int a1), .val (.int b1), .val (.int c1), .val (.int off), .val (.int len), .val (.int lim), .val (.ref ob1), .val (.ref ob4), .val (.long (((lim - off).toInt64) + (0 : Int64))), .second, .val (.int kk), .val (.long (((lim - ((off + (1 : Int32)) + (1 : Int32))).toInt64) + (0 : Int64))), .second] []))
      refine own_of (fun _ hh_ => XS.iconst X45.here hx rfl (hb hby at_155) hh_) ?_
      show own_Run p e below s _ _ _ (T45.setTop (mkF m 156 #[.val (.int a1), .val (.int b1), .val (.int c1), .val (.int off), .val (.int len), .val (.int lim), .val (.ref ob1), .val (.ref ob4), .val (.long (((lim - off).toInt64) + (0 : Int64))), .second, .val (.int kk), .val (.long (((lim - ((off + (1 : Int32)) + (1 : Int32))).toInt64) + (0 : Int64))), .second] [(.int (1 : Int32))]))
      refine own_of (fun _ hh_ => XS.goto X45.here hx rfl (pc0 := 156) (pc' := 160) rfl (hb hby at_156) (by decide) (by decide) hh_) ?_
      show own_Run p e below s _ _ _ (T45.setTop (mkF m 160 #[.val (.int a1), .val (.int b1), .val (.int c1), .val (.int off), .val (.int len), .val (.int lim), .val (.ref ob1), .val (.ref ob4), .val (.long (((lim - off).toInt64) + (0 : Int64))), .second, .val (.int kk), .val (.long (((lim - ((off + (1 : Int32)) + (1 : Int32))).toInt64) + (0 : Int64))), .second] [(.int (1 : Int32))]))
      exact own_retN X45 hx (t := .boolean) hret hlk (by simp) (hb hby at_160) ⟨rfl, N45⟩ (by decide) (by decide)
set_option maxRecDepth 65536 in
set_option maxHeartbeats 40000000 in
theorem comes_1 {Post : Tables → Env → Array Value → State → Outcome → State → Prop} (hpost : ∀ tb e args s v u, (limb_1_1.after args s (.returned v) u = true ∧ limb_1_2.after args s (.returned v) u = true ∧ True) → FrameEnd s (.returned v) u (Jvm.fieldLocs frame_1_writes args s ++ Jvm.arrayLocs frame_1_arrays args s ++ Jvm.staticLocs frame_1_statics s) 16 128 → Post tb e args s (.returned v) u) :
    ArmFor flags0 classFile x code maxLocals ret World_1 tables_1 room_1 Calls_1 rest_1 Pre_1 Post := by
  intro l hfl _ _ p e ha hc hk s m args below hf hA hF happ hP
  obtain ⟨hcalls, hrest, hpre⟩ := hP
  obtain ⟨-, -, -, hnamed, -, -, -, hat⟩ := (Spec.applies_iff hf).mp happ
  obtain ⟨hg, hn⟩ := and_e (Cond.before_iff.mp (show (Jvm.Cond.and given_1 narrow_1).before args s = true from hpre))
  obtain ⟨gg1, gg2⟩ := and_e hg
  obtain ⟨gg3, gg4⟩ := and_e gg2
  obtain ⟨gg5, gg6⟩ := and_e gg4
  obtain ⟨w0, w1, w2, rfl⟩ : ∃ w0 w1 w2 : Value, args = #[w0, w1, w2] := by
    have hs : args.size = 3 := by simpa [Cond.value, given_1] using gg1
    obtain ⟨L⟩ := args
    match L, hs with
    | [w0, w1, w2], _ => exact ⟨w0, w1, w2, rfl⟩
  have hw := fun d (hd : d ∈ tables_1) => atoms_spec (ws := Jvm.Cond.code x code maxLocals ret :: tables_1) hat d (List.mem_cons_of_mem _ hd)
  obtain ⟨i0, ei0⟩ := is_v gg3
  obtain rfl : w0 = (.int i0) := Option.some.inj ei0
  obtain ⟨i1, ei1⟩ := is_v gg5
  obtain rfl : w1 = (.int i1) := Option.some.inj ei1
  obtain ⟨i2, ei2⟩ := is_v gg6
  obtain rfl : w2 = (.int i2) := Option.some.inj ei2
  obtain ⟨n, o, h1, h2, h3, _, L, rfl, ⟨rfl, N⟩, hq⟩ := rm0 l s _ hw tables_1 i0 i1 i2  s.heap s.heap.size (Nat.le_refl _)  p e ha hc hk s m _ below hf ((Spec.applies_iff_loose hf).mp happ).1 ⟨rfl, State.Warmed39.refl s, rfl⟩ trivial
  refine ⟨n, _, h1, h2, h3, hpost _ _ _ _ _ _ ⟨Cond.after_iff.mpr rfl, Cond.after_iff.mpr (eq_i res_at (Term.int_eval (1)) rfl), trivial⟩ ⟨hq.1, hq.2.1, (hq.2.2.sift fun y hy => Or.inr (N y hy)).mono (by decide) (by decide)⟩⟩
theorem main_1_1 : Claimed_1_1 := comes_1 fun _ _ _ _ _ _ h hF => ⟨h.1, hF⟩
theorem main_1_2 : Claimed_1_2 := comes_1 fun _ _ _ _ _ _ h hF => ⟨h.2.1, hF⟩
end Jvm.Pilot.@@N@@
namespace Jvm.Pilot.@@N@@
open Jvm Jvm.ClassFile Sem Op Lib Jvm.Free Jvm.Stand Jvm.Pilot.@@N@@.Jvm.D
/-! MADE BY PROGRAM (witnessworld.py) out of the Statement's table words and the real class files: 11 classes; the members and pool entries that the words name. The judged class is class 1, her method 1. -/
namespace start1
open Jvm.ClassFile
def u (s : String) : CpInfo := .utf8 (stringToUtf16 s)
/-- a pool by its gaps: so many unusable entries, then the entry; so many at the end -/
def gap : Nat → List CpInfo → List CpInfo
  | 0, r => r
  | n + 1, r => .unusable :: gap n r
def poolList (es : List (Nat × CpInfo)) (last : Nat) : List CpInfo := es.foldr (fun e r => gap e.1 (e.2 :: r)) (gap last [])
def pool (es : List (Nat × CpInfo)) (last : Nat) : Array CpInfo := ⟨poolList es last⟩
def fileOf (pool : Array CpInfo) (this : Nat) (attrs : Array Attribute := #[]) (ms : Array MethodInfo := #[]) (fl : Nat := 33) (sup : Nat := 0) (ifs : Array Nat := #[]) (fds : Array FieldInfo := #[]) : ClassFile where
  minorVersion := 0
  majorVersion := 65
  constantPool := pool
  accessFlags := fl
  thisClass := this
  superClass := sup
  interfaces := ifs
  fields := fds
  methods := ms
  attributes := attrs
def plain (name : String) (sup : Option ClassId) : Class where
  name := name
  kind := .ordinary
  loader := none
  accessFlags := 33
  super := sup
  interfaces := #[]
  cf := none
  fields := #[]
  methods := #[]
  instanceTypes := #[]
  staticTypes := #[]
  resolved := #[]
  callSites := []
  init := .initialized
  statics := none
  mirror := none

def pool0 : Array CpInfo := pool [(5, u "<init>"), (0, u "()V"), (1, .class_ 10), (1, u "java/lang/Object")] 113

def k0c0 : Code := { maxStack := 0, maxLocals := 1, code := object_method_1_code, exceptionTable := #[], attributes := #[] }
def k0m0 : Method := { name := "<init>", desc := "()V", sig := { parameters := [], returnType := none }, accessFlags := 1, code := some k0c0 }
/-- java/lang/Object -/
def k0 : Class := { plain "java/lang/Object" none with
  accessFlags := 33
  interfaces := #[]
  cf := some (fileOf pool0 8 #[] #[{ accessFlags := 1, nameIndex := 5, descriptorIndex := 6, attributes := #[] }] 33 0 #[] #[])
  fields := #[]
  methods := #[k0m0]
  instanceTypes := #[]
  staticTypes := #[]
  resolved := Array.replicate 124 none
  statics := none }

def pool1 : Array CpInfo := pool [(2, .class_ 4), (1, u "java/lang/Object"), (0, u "<init>"), (0, u "()V"), (0, .integer 2147483647), (0, .class_ 9), (0, u "org/lanner/term/TermInput"), (0, .methodref 8 11), (0, .nameAndType 5 12), (0, u "([BII)V"), (0, .methodref 8 14), (0, .nameAndType 15 16), (0, u "remaining"), (0, u "()J"), (0, .methodref 18 19), (0, .class_ 20), (0, .nameAndType 21 22), (0, u "java/lang/Math"), (0, u "min"), (0, u "(II)I"), (0, .methodref 8 24), (0, .nameAndType 25 26), (0, u "u8"), (0, u "()I"), (0, .methodref 8 28), (0, .nameAndType 29 26), (0, u "buffered"), (0, .methodref 8 31), (0, .nameAndType 32 16), (0, u "offset"), (0, .class_ 34), (0, u "org/lanner/term/TermInputRemainingPinLaw"), (2, u "law"), (0, u "(III)Z")] 8

def k1m0 : Method := { name := "<init>", desc := "()V", sig := { parameters := [], returnType := none }, accessFlags := 1, code := none }
def k1c1 : Code := { maxStack := 5, maxLocals := 13, code := code, exceptionTable := #[], attributes := #[] }
def k1m1 : Method := { name := "law", desc := "(III)Z", sig := { parameters := [.int, .int, .int], returnType := some .boolean }, accessFlags := 9, code := some k1c1 }
/-- org/lanner/term/TermInputRemainingPinLaw -/
def k1 : Class := { plain "org/lanner/term/TermInputRemainingPinLaw" (some 0) with
  accessFlags := 49
  interfaces := #[]
  cf := some (fileOf pool1 33 #[] #[{ accessFlags := 1, nameIndex := 5, descriptorIndex := 6, attributes := #[] }, { accessFlags := 9, nameIndex := 37, descriptorIndex := 38, attributes := #[] }] 49 2 #[] #[])
  fields := #[]
  methods := #[k1m0, k1m1]
  instanceTypes := #[]
  staticTypes := #[]
  resolved := Array.replicate 47 none
  statics := none }

def pool2 : Array CpInfo := pool [(1, .class_ 2), (0, u "java/lang/AutoCloseable"), (0, .class_ 4), (0, u "java/lang/Object")] 7

/-- java/lang/AutoCloseable -/
def k2 : Class := { plain "java/lang/AutoCloseable" (some 0) with
  accessFlags := 1537
  interfaces := #[]
  cf := some (fileOf pool2 1 #[] #[] 1537 3 #[] #[])
  fields := #[]
  methods := #[]
  instanceTypes := #[]
  staticTypes := #[]
  resolved := Array.replicate 12 none
  statics := none }

def pool3 : Array CpInfo := pool [(1, .methodref 2 3), (0, .class_ 4), (0, .nameAndType 5 6), (0, u "java/lang/Object"), (0, u "<init>"), (0, u "()V"), (0, .fieldref 8 9), (0, .class_ 10), (0, .nameAndType 11 12), (0, u "org/lanner/term/TermInput"), (0, u "buffer"), (0, u "[B"), (0, .fieldref 8 14), (0, .nameAndType 15 16), (0, u "position"), (0, u "I"), (0, .fieldref 8 18), (0, .nameAndType 19 16), (0, u "limit"), (0, .fieldref 8 21), (0, .nameAndType 22 23), (0, u "inflater"), (0, u "Ljava/util/zip/Inflater;"), (0, .fieldref 8 25), (0, .nameAndType 26 16), (0, u "dataOffset"), (0, .fieldref 8 28), (0, .nameAndType 29 30), (0, u "size"), (0, u "J"), (7, u "([BII)V"), (0, .fieldref 8 40), (0, .nameAndType 41 30), (0, u "discarded"), (0, .fieldref 8 43), (0, .nameAndType 44 30), (0, u "inflated"), (0, .methodref 8 46), (0, .nameAndType 47 48), (0, u "ensure"), (0, u "(I)V"), (3, u "()I"), (5, u "()J"), (0, .methodref 8 60), (0, .nameAndType 61 58), (0, u "remaining"), (85, .class_ 148), (0, u "java/lang/AutoCloseable"), (0, u "WINDOW"), (4, u "offset"), (1, u "buffered"), (0, u "u8")] 36

def k3c0 : Code := { maxStack := 3, maxLocals := 4, code := prog_95_method_1_code, exceptionTable := #[], attributes := #[] }
def k3m0 : Method := { name := "<init>", desc := "([BII)V", sig := { parameters := [(.array .byte), .int, .int], returnType := none }, accessFlags := 0, code := some k3c0 }
def k3c1 : Code := { maxStack := 4, maxLocals := 1, code := prog_95_method_3_code, exceptionTable := #[], attributes := #[] }
def k3m1 : Method := { name := "offset", desc := "()J", sig := { parameters := [], returnType := some .long }, accessFlags := 0, code := some k3c1 }
def k3c2 : Code := { maxStack := 6, maxLocals := 1, code := prog_95_method_4_code, exceptionTable := #[], attributes := #[] }
def k3m2 : Method := { name := "remaining", desc := "()J", sig := { parameters := [], returnType := some .long }, accessFlags := 0, code := some k3c2 }
def k3c3 : Code := { maxStack := 2, maxLocals := 1, code := prog_95_method_5_code, exceptionTable := #[], attributes := #[] }
def k3m3 : Method := { name := "buffered", desc := "()I", sig := { parameters := [], returnType := some .int }, accessFlags := 0, code := some k3c3 }
def k3c4 : Code := { maxStack := 5, maxLocals := 1, code := prog_95_method_6_code, exceptionTable := #[], attributes := #[] }
def k3m4 : Method := { name := "u8", desc := "()I", sig := { parameters := [], returnType := some .int }, accessFlags := 0, code := some k3c4 }
def k3c5 : Code := { maxStack := 6, maxLocals := 3, code := prog_95_method_16_code, exceptionTable := #[], attributes := #[] }
def k3m5 : Method := { name := "ensure", desc := "(I)V", sig := { parameters := [.int], returnType := none }, accessFlags := 2, code := some k3c5 }
/-- org/lanner/term/TermInput -/
def k3 : Class := { plain "org/lanner/term/TermInput" (some 0) with
  accessFlags := 48
  interfaces := #[2]
  cf := some (fileOf pool3 8 #[] #[{ accessFlags := 0, nameIndex := 5, descriptorIndex := 38, attributes := #[] }, { accessFlags := 0, nameIndex := 154, descriptorIndex := 58, attributes := #[] }, { accessFlags := 0, nameIndex := 61, descriptorIndex := 58, attributes := #[] }, { accessFlags := 0, nameIndex := 156, descriptorIndex := 52, attributes := #[] }, { accessFlags := 0, nameIndex := 157, descriptorIndex := 52, attributes := #[] }, { accessFlags := 2, nameIndex := 47, descriptorIndex := 48, attributes := #[] }] 48 2 #[147] #[{ accessFlags := 26, nameIndex := 149, descriptorIndex := 16, attributes := #[] }, { accessFlags := 2, nameIndex := 11, descriptorIndex := 12, attributes := #[] }, { accessFlags := 2, nameIndex := 15, descriptorIndex := 16, attributes := #[] }, { accessFlags := 2, nameIndex := 19, descriptorIndex := 16, attributes := #[] }, { accessFlags := 2, nameIndex := 41, descriptorIndex := 30, attributes := #[] }, { accessFlags := 18, nameIndex := 22, descriptorIndex := 23, attributes := #[] }, { accessFlags := 18, nameIndex := 26, descriptorIndex := 16, attributes := #[] }, { accessFlags := 18, nameIndex := 29, descriptorIndex := 30, attributes := #[] }, { accessFlags := 2, nameIndex := 44, descriptorIndex := 30, attributes := #[] }])
  fields := #[{ name := "WINDOW", type := .int, accessFlags := 26, slot := 0, constantValue := 0 }, { name := "buffer", type := (.array .byte), accessFlags := 2, slot := 0, constantValue := 0 }, { name := "position", type := .int, accessFlags := 2, slot := 1, constantValue := 0 }, { name := "limit", type := .int, accessFlags := 2, slot := 2, constantValue := 0 }, { name := "discarded", type := .long, accessFlags := 2, slot := 3, constantValue := 0 }, { name := "inflater", type := (.object "java/util/zip/Inflater"), accessFlags := 18, slot := 4, constantValue := 0 }, { name := "dataOffset", type := .int, accessFlags := 18, slot := 5, constantValue := 0 }, { name := "size", type := .long, accessFlags := 18, slot := 6, constantValue := 0 }, { name := "inflated", type := .long, accessFlags := 2, slot := 7, constantValue := 0 }]
  methods := #[k3m0, k3m1, k3m2, k3m3, k3m4, k3m5]
  instanceTypes := #[(.array .byte), .int, .int, .long, (.object "java/util/zip/Inflater"), .int, .long, .long]
  staticTypes := #[.int]
  resolved := Array.replicate 194 none
  statics := none }

def pool4 : Array CpInfo := pool [(1, .class_ 2), (0, u "java/lang/Math"), (1, .class_ 6), (1, u "java/lang/Object"), (0, u "<init>"), (0, u "()V"), (89, .class_ 100), (1, u "java/lang/Math$RandomNumberGeneratorHolder"), (71, u "negativeZeroFloatBits"), (0, u "J"), (2, u "negativeZeroDoubleBits"), (24, u "min"), (43, u "$assertionsDisabled"), (0, u "Z"), (88, u "(II)I"), (2, u "twoToTheDoubleScaleDown"), (0, u "D"), (4, u "twoToTheDoubleScaleUp"), (9, u "E"), (3, u "PI"), (2, u "TAU"), (2, u "DEGREES_TO_RADIANS"), (0, u "RADIANS_TO_DEGREES")] 94

def k4m0 : Method := { name := "<init>", desc := "()V", sig := { parameters := [], returnType := none }, accessFlags := 2, code := none }
def k4c1 : Code := { maxStack := 2, maxLocals := 2, code := jdk_29_method_69_code, exceptionTable := #[], attributes := #[] }
def k4m1 : Method := { name := "min", desc := "(II)I", sig := { parameters := [.int, .int], returnType := some .int }, accessFlags := 9, code := some k4c1 }
/-- java/lang/Math -/
def k4 : Class := { plain "java/lang/Math" (some 0) with
  accessFlags := 49
  interfaces := #[]
  cf := some (fileOf pool4 1 #[.nestMembers #[98]] #[{ accessFlags := 2, nameIndex := 7, descriptorIndex := 8, attributes := #[] }, { accessFlags := 9, nameIndex := 201, descriptorIndex := 335, attributes := #[] }] 49 4 #[] #[{ accessFlags := 25, nameIndex := 354, descriptorIndex := 339, attributes := #[] }, { accessFlags := 25, nameIndex := 358, descriptorIndex := 339, attributes := #[] }, { accessFlags := 25, nameIndex := 361, descriptorIndex := 339, attributes := #[] }, { accessFlags := 26, nameIndex := 364, descriptorIndex := 339, attributes := #[] }, { accessFlags := 26, nameIndex := 365, descriptorIndex := 339, attributes := #[] }, { accessFlags := 26, nameIndex := 172, descriptorIndex := 173, attributes := #[] }, { accessFlags := 26, nameIndex := 176, descriptorIndex := 173, attributes := #[] }, { accessFlags := 8, nameIndex := 344, descriptorIndex := 339, attributes := #[] }, { accessFlags := 8, nameIndex := 338, descriptorIndex := 339, attributes := #[] }, { accessFlags := 4120, nameIndex := 245, descriptorIndex := 246, attributes := #[] }])
  fields := #[{ name := "E", type := .double, accessFlags := 25, slot := 0, constantValue := 0 }, { name := "PI", type := .double, accessFlags := 25, slot := 1, constantValue := 0 }, { name := "TAU", type := .double, accessFlags := 25, slot := 2, constantValue := 0 }, { name := "DEGREES_TO_RADIANS", type := .double, accessFlags := 26, slot := 3, constantValue := 0 }, { name := "RADIANS_TO_DEGREES", type := .double, accessFlags := 26, slot := 4, constantValue := 0 }, { name := "negativeZeroFloatBits", type := .long, accessFlags := 26, slot := 5, constantValue := 0 }, { name := "negativeZeroDoubleBits", type := .long, accessFlags := 26, slot := 6, constantValue := 0 }, { name := "twoToTheDoubleScaleUp", type := .double, accessFlags := 8, slot := 7, constantValue := 0 }, { name := "twoToTheDoubleScaleDown", type := .double, accessFlags := 8, slot := 8, constantValue := 0 }, { name := "$assertionsDisabled", type := .boolean, accessFlags := 4120, slot := 9, constantValue := 0 }]
  methods := #[k4m0, k4m1]
  instanceTypes := #[]
  staticTypes := #[.double, .double, .double, .double, .double, .long, .long, .double, .double, .boolean]
  resolved := Array.replicate 460 none
  statics := none }

def pool5 : Array CpInfo := pool [(1, u "java/lang/Cloneable"), (0, .class_ 1), (0, u "java/lang/Object"), (0, .class_ 3)] 3

/-- java/lang/Cloneable -/
def k5 : Class := { plain "java/lang/Cloneable" (some 0) with
  accessFlags := 1537
  interfaces := #[]
  cf := some (fileOf pool5 2 #[] #[] 1537 4 #[] #[])
  fields := #[]
  methods := #[]
  instanceTypes := #[]
  staticTypes := #[]
  resolved := Array.replicate 8 none
  statics := none }

def pool6 : Array CpInfo := pool [(1, u "java/io/Serializable"), (0, .class_ 1), (0, u "java/lang/Object"), (0, .class_ 3)] 3

/-- java/io/Serializable -/
def k6 : Class := { plain "java/io/Serializable" (some 0) with
  accessFlags := 1537
  interfaces := #[]
  cf := some (fileOf pool6 2 #[] #[] 1537 4 #[] #[])
  fields := #[]
  methods := #[]
  instanceTypes := #[]
  staticTypes := #[]
  resolved := Array.replicate 8 none
  statics := none }

/-- the primitive byte -/
def k7 : Class := { plain "byte" none with kind := .primitive 'B', accessFlags := 0x411 }
/-- [B -/
def k8 : Class := { plain "[B" (some 0) with kind := .array 7 .byte, interfaces := #[5, 6], accessFlags := 1041 }

/-- the primitive int -/
def k9 : Class := { plain "int" none with kind := .primitive 'I', accessFlags := 0x411 }
/-- [I -/
def k10 : Class := { plain "[I" (some 0) with kind := .array 9 .int, interfaces := #[5, 6], accessFlags := 1041 }

def heap : Heap := #[]
def classes : Array Class := #[k0, k1, k2, k3, k4, k5, k6, k7, k8, k9, k10]
def interned : List (Array UInt16 × Addr) := []
def slotsUsed : Nat := 0
def theMethod : MethodId := ⟨1, 1⟩
def args0 : Array Value := #[.int 5, .int 5, .int 5]
def aboutOver (below : List Frame) : State where
  vm := { classes := classes, interned := interned.toArray }
  heap := heap
  slotsUsed := slotsUsed
  threads := #[{ frames := .invoking theMethod args0 :: below }]
def below0 : List Frame := [.native { method := ⟨0, 0⟩, args := #[] }]
def about1 : State := aboutOver below0
def p0 : Program := .bare "" "" ""
def e0 : Env := launch0.env 0 0 0
theorem w_frames : about1.frames = Frame.invoking theMethod args0 :: below0 := rfl
set_option maxRecDepth 65536 in
theorem w_args : argsFit about1.vm theMethod args0 = true := by decide +kernel
set_option maxRecDepth 65536 in
theorem w_heap : heapFits about1 = true := by decide +kernel
set_option maxRecDepth 65536 in
theorem w_runnable : about1.curStatus? = some .runnable := by decide +kernel
set_option maxRecDepth 65536 in
theorem w_alone : about1.alone = true := by decide +kernel
set_option maxRecDepth 65536 in
theorem w_named : about1.methodNamed? x = some theMethod := by decide +kernel
set_option maxRecDepth 65536 in
theorem w_hears : about1.hears theMethod below0 = true := by decide +kernel
set_option maxRecDepth 65536 in
theorem w_ripe : about1.ripe theMethod args0 below0 = true := by decide +kernel
theorem w_running : about1.status = .running := rfl
set_option maxRecDepth 65536 in
theorem w_room : about1.hasRoom e0.platform room_1 = true :=
  launch0.hasRoom_least _ room_1 (by decide +kernel) (by decide +kernel) (by decide +kernel) (by decide +kernel) (by decide +kernel) (by decide +kernel)
theorem allAtoms_all (ts : List Jvm.Cond) (a : Array Jvm.Value) (st : Jvm.State) : (allAtoms ts).before a st = ts.all (fun c => c.before a st) := by
  induction ts with
  | nil => rfl
  | cons c t ih =>
    show (Jvm.Cond.and c (allAtoms t)).before a st = _
    rw [Jvm.Cond.before_and, ih, List.all_cons]
def words1 : List Jvm.Cond := Jvm.Cond.code x code maxLocals ret :: tables_1
/-- a 'code' word, met by the world's own term for the bytes: nothing is compared byte by byte -/
theorem code_word {y : MethodName} {bytes : ByteArray} {mx : Nat} {rt : Option FieldType} {a : Array Value} {s : State} {m : MethodId} {meth : Method} {c : Code} (h1 : s.methodNamed? y = some m) (h2 : s.vm.method? m = some meth) (h3 : meth.code = some c) (h4 : c.code = bytes)
    (h5 : (c.maxLocals == mx && c.exceptionTable.isEmpty && decide (c.maxStack ≤ mostOperands) && decide (meth.sig.returnType = rt) && !meth.locks && decide (parseMethodDescriptor y.desc = some meth.sig)) = true) : (Jvm.Cond.code y bytes mx rt).before a s = true := by
  simp only [Bool.and_eq_true, beq_iff_eq, Bool.not_eq_true', decide_eq_true_eq] at h5
  obtain ⟨⟨⟨⟨⟨g1, g2⟩, g3⟩, g4⟩, g5⟩, g6⟩ := h5
  simp [Cond.before, Cond.holds, Cond.value, h1, h2, h3, h4, g1, g2, g3, g4, g5, g6]
def isCode : Jvm.Cond → Bool
  | .code _ _ _ _ => true
  | _ => false
theorem all_split {L : List Jvm.Cond} {P : Jvm.Cond → Bool} (h1 : L.all (fun c => isCode c || P c) = true) (h2 : ∀ c ∈ L.filter isCode, P c = true) : L.all P = true := by
  refine List.all_eq_true.mpr fun c hc => ?_
  have h := List.all_eq_true.mp h1 c hc
  rcases Bool.eq_false_or_eq_true (isCode c) with hi | hi
  · exact h2 c (List.mem_filter.mpr ⟨hc, hi⟩)
  · simpa [hi] using h
set_option maxRecDepth 65536 in
theorem w_c0 : (Jvm.Cond.code x code maxLocals ret).before args0 about1 = true := code_word (m := ⟨1, 1⟩) (meth := k1m1) (c := k1c1) (by decide +kernel) rfl rfl rfl (by decide +kernel)
set_option maxRecDepth 65536 in
theorem w_c1 : (Jvm.Cond.code ({ cls := "org/lanner/term/TermInput", name := "<init>", desc := "([BII)V" } : Jvm.MethodName) prog_95_method_1_code (4 : Nat) (Option.none : Option Jvm.ClassFile.FieldType)).before args0 about1 = true := code_word (m := ⟨3, 0⟩) (meth := k3m0) (c := k3c0) (by decide +kernel) rfl rfl rfl (by decide +kernel)
set_option maxRecDepth 65536 in
theorem w_c2 : (Jvm.Cond.code ({ cls := "java/lang/Object", name := "<init>", desc := "()V" } : Jvm.MethodName) object_method_1_code (1 : Nat) (Option.none : Option Jvm.ClassFile.FieldType)).before args0 about1 = true := code_word (m := ⟨0, 0⟩) (meth := k0m0) (c := k0c0) (by decide +kernel) rfl rfl rfl (by decide +kernel)
set_option maxRecDepth 65536 in
theorem w_c3 : (Jvm.Cond.code ({ cls := "org/lanner/term/TermInput", name := "remaining", desc := "()J" } : Jvm.MethodName) prog_95_method_4_code (1 : Nat) (Option.some Jvm.ClassFile.FieldType.long)).before args0 about1 = true := code_word (m := ⟨3, 2⟩) (meth := k3m2) (c := k3c2) (by decide +kernel) rfl rfl rfl (by decide +kernel)
set_option maxRecDepth 65536 in
theorem w_c4 : (Jvm.Cond.code ({ cls := "java/lang/Math", name := "min", desc := "(II)I" } : Jvm.MethodName) jdk_29_method_69_code (2 : Nat) (Option.some Jvm.ClassFile.FieldType.int)).before args0 about1 = true := code_word (m := ⟨4, 1⟩) (meth := k4m1) (c := k4c1) (by decide +kernel) rfl rfl rfl (by decide +kernel)
set_option maxRecDepth 65536 in
theorem w_c5 : (Jvm.Cond.code ({ cls := "org/lanner/term/TermInput", name := "u8", desc := "()I" } : Jvm.MethodName) prog_95_method_6_code (1 : Nat) (Option.some Jvm.ClassFile.FieldType.int)).before args0 about1 = true := code_word (m := ⟨3, 4⟩) (meth := k3m4) (c := k3c4) (by decide +kernel) rfl rfl rfl (by decide +kernel)
set_option maxRecDepth 65536 in
theorem w_c6 : (Jvm.Cond.code ({ cls := "org/lanner/term/TermInput", name := "ensure", desc := "(I)V" } : Jvm.MethodName) prog_95_method_16_code (3 : Nat) (Option.none : Option Jvm.ClassFile.FieldType)).before args0 about1 = true := code_word (m := ⟨3, 5⟩) (meth := k3m5) (c := k3c5) (by decide +kernel) rfl rfl rfl (by decide +kernel)
set_option maxRecDepth 65536 in
theorem w_c7 : (Jvm.Cond.code ({ cls := "org/lanner/term/TermInput", name := "buffered", desc := "()I" } : Jvm.MethodName) prog_95_method_5_code (1 : Nat) (Option.some Jvm.ClassFile.FieldType.int)).before args0 about1 = true := code_word (m := ⟨3, 3⟩) (meth := k3m3) (c := k3c3) (by decide +kernel) rfl rfl rfl (by decide +kernel)
set_option maxRecDepth 65536 in
theorem w_c8 : (Jvm.Cond.code ({ cls := "org/lanner/term/TermInput", name := "offset", desc := "()J" } : Jvm.MethodName) prog_95_method_3_code (1 : Nat) (Option.some Jvm.ClassFile.FieldType.long)).before args0 about1 = true := code_word (m := ⟨3, 1⟩) (meth := k3m1) (c := k3c1) (by decide +kernel) rfl rfl rfl (by decide +kernel)
def codes1 : List Jvm.Cond := [Jvm.Cond.code x code maxLocals ret, Jvm.Cond.code ({ cls := "org/lanner/term/TermInput", name := "<init>", desc := "([BII)V" } : Jvm.MethodName) prog_95_method_1_code (4 : Nat) (Option.none : Option Jvm.ClassFile.FieldType), Jvm.Cond.code ({ cls := "java/lang/Object", name := "<init>", desc := "()V" } : Jvm.MethodName) object_method_1_code (1 : Nat) (Option.none : Option Jvm.ClassFile.FieldType), Jvm.Cond.code ({ cls := "org/lanner/term/TermInput", name := "remaining", desc := "()J" } : Jvm.MethodName) prog_95_method_4_code (1 : Nat) (Option.some Jvm.ClassFile.FieldType.long), Jvm.Cond.code ({ cls := "java/lang/Math", name := "min", desc := "(II)I" } : Jvm.MethodName) jdk_29_method_69_code (2 : Nat) (Option.some Jvm.ClassFile.FieldType.int), Jvm.Cond.code ({ cls := "org/lanner/term/TermInput", name := "u8", desc := "()I" } : Jvm.MethodName) prog_95_method_6_code (1 : Nat) (Option.some Jvm.ClassFile.FieldType.int), Jvm.Cond.code ({ cls := "org/lanner/term/TermInput", name := "ensure", desc := "(I)V" } : Jvm.MethodName) prog_95_method_16_code (3 : Nat) (Option.none : Option Jvm.ClassFile.FieldType), Jvm.Cond.code ({ cls := "org/lanner/term/TermInput", name := "buffered", desc := "()I" } : Jvm.MethodName) prog_95_method_5_code (1 : Nat) (Option.some Jvm.ClassFile.FieldType.int), Jvm.Cond.code ({ cls := "org/lanner/term/TermInput", name := "offset", desc := "()J" } : Jvm.MethodName) prog_95_method_3_code (1 : Nat) (Option.some Jvm.ClassFile.FieldType.long)]
set_option maxRecDepth 65536 in
theorem codes_eq : words1.filter isCode = codes1 := rfl
theorem w_codes : ∀ c ∈ words1.filter isCode, c.before args0 about1 = true := by
  rw [codes_eq]
  intro c hc
  simp only [codes1, List.mem_cons, List.not_mem_nil, or_false] at hc
  rcases hc with rfl | rfl | rfl | rfl | rfl | rfl | rfl | rfl | rfl
  · exact w_c0
  · exact w_c1
  · exact w_c2
  · exact w_c3
  · exact w_c4
  · exact w_c5
  · exact w_c6
  · exact w_c7
  · exact w_c8
set_option maxRecDepth 65536 in
theorem w_t1 : (words1.take 24).all (fun c => isCode c || c.before args0 about1) = true := by decide +kernel
set_option maxRecDepth 65536 in
theorem w_t2 : ((words1.drop 24).take 24).all (fun c => isCode c || c.before args0 about1) = true := by decide +kernel
set_option maxRecDepth 65536 in
theorem w_t3 : ((words1.drop 24).drop 24).all (fun c => isCode c || c.before args0 about1) = true := by decide +kernel
theorem w_tables : (allAtoms (Jvm.Cond.code x code maxLocals ret :: tables_1)).before args0 about1 = true := by
  rw [allAtoms_all]
  show words1.all (fun c => c.before args0 about1) = true
  refine all_split ?_ w_codes
  rw [← List.take_append_drop 24 words1, List.all_append, w_t1, ← List.take_append_drop 24 (words1.drop 24), List.all_append, w_t2, w_t3]
  rfl
set_option maxRecDepth 65536 in
theorem w_case : (Jvm.Cond.and given_1 narrow_1).before args0 about1 = true := by decide +kernel
theorem w_applies : (headSpec (Jvm.Cond.code x code maxLocals ret :: tables_1) room_1).applies x e0.platform about1 = true :=
  (Spec.applies_iff w_frames).mpr ⟨w_running, w_runnable, w_alone, w_named, w_hears, w_ripe, w_room, w_tables⟩
theorem atStart : AtStart classFile x code maxLocals ret World_1 tables_1 room_1 Calls_1 rest_1 Pre_1 launch0 p0 e0 about1 theMethod args0 below0 :=
  ⟨lists_1, trivial, launch0.admits_env _ _ _, launch0.least_env, fairChoices_fair.cas, fairChoices_fair.clock, w_frames, w_args, w_heap, w_applies, trivial, trivial, w_case⟩
end start1
theorem witness_1 : WitnessClaimed_1 := ⟨start1.p0, start1.e0, start1.about1, start1.theMethod, start1.args0, start1.below0, start1.atStart⟩
end Jvm.Pilot.@@N@@
