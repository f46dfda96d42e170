import JvmDerived
import JvmDerived.Pilot.@@N@@Statement
import JvmDerived.Pilot.@@N@@Code
set_option linter.unusedVariables false
set_option linter.unusedSimpArgs false
namespace Jvm.Pilot.@@N@@
open Jvm Jvm.ClassFile Sem Op Lib Jvm.Free Jvm.Stand Jvm.LawKit Jvm.RoadKit Bundle Jvm.Pilot.@@N@@.Jvm.D
section Own
variable {p : Program} {l : Launch} {e : Env} {R : Room} {s : State} {m : MethodId} {args : Array Value} {below : List Frame} {meth : Method} {c : Code} {T : State} {locs : List Loc} {cells slots : Nat} {C N : Nat} {Q : Option Value → Heap → List Loc → Prop} {V V' : State}
/-- from the state V the method comes to its return, and leaves what Q says -/
def own_Run (p : Program) (e : Env) (below : List Frame) (s : State) (C N : Nat) (Q : Option Value → Heap → List Loc → Prop) (V : State) : Prop :=
  ∃ s₂ o, Steps p.tables e below V s₂ ∧ s₂.status = .running ∧ Ended s₂ below o ∧ ∃ v L, o = .returned v ∧ Q v s₂.heap L ∧ FrameEnd s o s₂ L C N
theorem own_of (k : ∀ t, Steps p.tables e below V' t → Steps p.tables e below V t) (r : own_Run p e below s C N Q V') : own_Run p e below s C N Q V := by
  obtain ⟨s₂, o, h, q⟩ := r
  exact ⟨s₂, o, k _ h, q⟩
theorem own_tr (k : Steps p.tables e below V V') (r : own_Run p e below s C N Q V') : own_Run p e below s C N Q V := own_of (fun _ h => k.trans h) r
theorem own_cast {g g' : JFrame} (q : g = g') (r : own_Run p e below s C N Q (T.setTop g')) : own_Run p e below s C N Q (T.setTop g) := q ▸ r
theorem own_ret (X : Stand p l e R s m args below meth c T locs cells slots) (hx : p.tables.exec = Jvm.exec) {pc : Nat} {Ls : Array Slot} {w : Value} {t : FieldType} {i : Instr} {rest : List Value} (hret : meth.sig.returnType = some t) (hlk : meth.locks = false) (hn : narrow t w = w)
    (hi : (i = .ireturn ∧ (t = .int ∨ t = .boolean ∨ t = .byte ∨ t = .char ∨ t = .short) ∧ ∃ z, w = .int z) ∨ (i = .lreturn ∧ t = .long ∧ ∃ z, w = .long z) ∨ (i = .dreturn ∧ t = .double ∧ ∃ z, w = .double z) ∨ (i = .freturn ∧ t = .float ∧ ∃ z, w = .float z) ∨ (i = .areturn ∧ t.isReference = true ∧ w.isRef = true))
    (hd : decode c.code pc = .ok (i, 1)) (q : Q (some w) T.heap locs) (hc : cells ≤ C) (hs : slots ≤ N) : own_Run p e below s C N Q (T.setTop (mkF m pc Ls (w :: rest))) := by
  obtain ⟨fs, hr, hrun, hended, hW, hsame⟩ := X.leave (v := some w) (fun h => by rw [hret] at h; cases h) hlk
  exact ⟨_, _, retOut X hx hret hn hi hd hr, hrun, hended, _, _, rfl, q, ⟨_, rfl⟩, hW, hsame.mono hc hs⟩
theorem own_retI (X : Stand p l e R s m args below meth c T locs cells slots) (hx : p.tables.exec = Jvm.exec) {pc : Nat} {Ls : Array Slot} {z : Int32} {rest : List Value} (hret : meth.sig.returnType = some .int) (hlk : meth.locks = false)
    (hd : decode c.code pc = .ok (.ireturn, 1)) (q : Q (some (.int z)) T.heap locs) (hc : cells ≤ C) (hs : slots ≤ N) : own_Run p e below s C N Q (T.setTop (mkF m pc Ls (.int z :: rest))) :=
  own_ret X hx hret hlk rfl (Or.inl ⟨rfl, Or.inl rfl, z, rfl⟩) hd q hc hs
theorem own_retJ (X : Stand p l e R s m args below meth c T locs cells slots) (hx : p.tables.exec = Jvm.exec) {pc : Nat} {Ls : Array Slot} {z : Int64} {rest : List Value} (hret : meth.sig.returnType = some .long) (hlk : meth.locks = false)
    (hd : decode c.code pc = .ok (.lreturn, 1)) (q : Q (some (.long z)) T.heap locs) (hc : cells ≤ C) (hs : slots ≤ N) : own_Run p e below s C N Q (T.setTop (mkF m pc Ls (.long z :: rest))) :=
  own_ret X hx hret hlk rfl (Or.inr (Or.inl ⟨rfl, rfl, z, rfl⟩)) hd q hc hs
theorem own_retN (X : Stand p l e R s m args below meth c T locs cells slots) (hx : p.tables.exec = Jvm.exec) {pc : Nat} {Ls : Array Slot} {z : Int32} {t : FieldType} {rest : List Value} (hret : meth.sig.returnType = some t) (hlk : meth.locks = false) (ht : t = .boolean ∨ t = .byte ∨ t = .char ∨ t = .short)
    (hd : decode c.code pc = .ok (.ireturn, 1)) (q : Q (some (.int (nar t z))) T.heap locs) (hc : cells ≤ C) (hs : slots ≤ N) : own_Run p e below s C N Q (T.setTop (mkF m pc Ls (.int z :: rest))) := by
  obtain ⟨fs, hr, hrun, hended, hW, hsame⟩ := X.leave (v := some (.int (nar t z))) (fun h => by rw [hret] at h; cases h) hlk
  exact ⟨_, _, retN X hx hret ht hd hr, hrun, hended, _, _, rfl, q, ⟨_, rfl⟩, hW, hsame.mono hc hs⟩
theorem own_retV (X : Stand p l e R s m args below meth c T locs cells slots) (hx : p.tables.exec = Jvm.exec) {pc : Nat} {Ls : Array Slot} (hret : meth.sig.returnType = none) (hlk : meth.locks = false)
    (hd : decode c.code pc = .ok (.return_, 1)) (q : Q none T.heap locs) (hc : cells ≤ C) (hs : slots ≤ N) : own_Run p e below s C N Q (T.setTop (mkF m pc Ls [])) := by
  obtain ⟨fs, hr, hrun, hended, hW, hsame⟩ := X.leave (v := none) (fun _ => rfl) hlk
  exact ⟨_, _, X.returnOut hx hret hd hr, hrun, hended, _, _, rfl, q, ⟨_, rfl⟩, hW, hsame.mono hc hs⟩
end Own
section OwnArrays
variable {p : Program} {l : Launch} {e : Env} {R : Room} {s : State} {m : MethodId} {args : Array Value} {below : List Frame} {meth : Method} {c : Code} {T : State} {locs : List Loc} {cells slots : Nat} {C N : Nat} {Q : Option Value → Heap → List Loc → Prop} {Z : State} {h h' : Heap} {a b : Addr} {ty : FieldType} {n : Nat} {f g : Nat → Int32} {v : Value} {sl : Nat} {ws : List Addr}
/-- in the heap h, at a, an array of the kind ty and n places; its place i holds the int f i -/
def own_Ar (Z : State) (h : Heap) (a : Addr) (ty : FieldType) (n : Nat) (f : Nat → Int32) : Prop := ∃ c : Cell, Arr Z h a c ty ∧ c.slots.size = n ∧ ∀ i, i < n → c.slots[i]? = some (.int (f i))
def own_up (f : Nat → Int32) (j : Nat) (v : Int32) : Nat → Int32 := fun i => if i = j then v else f i
theorem own_Ar.lt (F : own_Ar Z h a ty n f) : a < h.size := by obtain ⟨c, A, -⟩ := F; exact A.lt
theorem own_Ar.ext (F : own_Ar Z h a ty n f) (E : Ext h h') : own_Ar Z h' a ty n f := by obtain ⟨c, A, r⟩ := F; exact ⟨c, A.ext E, r⟩
theorem own_Ar.other (F : own_Ar Z h b ty n f) (W : Wr h h' a sl v) (q : b ≠ a) : own_Ar Z h' b ty n f := by obtain ⟨c, A, r⟩ := F; exact ⟨c, A.other W q, r⟩
theorem own_Ar.keep (F : own_Ar Z h a ty n f) (K : Keep h h' ws) (q : a ∉ ws) : own_Ar Z h' a ty n f := by obtain ⟨c, A, r⟩ := F; exact ⟨c, ⟨K.2.1 a c A.1 q, A.2⟩, r⟩
theorem own_Ar.congr (F : own_Ar Z h a ty n f) (q : ∀ i, i < n → f i = g i) : own_Ar Z h a ty n g := by obtain ⟨c, A, r, H⟩ := F; exact ⟨c, A, r, fun i hi => by rw [← q i hi]; exact H i hi⟩
theorem own_Ar.new {k : ClassId} {z : Int32} (A : Arr Z h a (newA k ty z) ty) (hd : defaultValue ty = .int 0) (hn : z.toNatClampNeg = n) : own_Ar Z h a ty n (fun _ => 0) :=
  ⟨_, A, by rw [sz_new, hn], fun i hi => by simp [newA, hd, hn, hi]⟩
theorem own_Ar.set {w : Int32} {j : Nat} (F : own_Ar Z h a ty n f) (W : Wr h h' a j (.int w)) (hj : j < n) : own_Ar Z h' a ty n (own_up f j w) := by
  obtain ⟨c, A, r, H⟩ := F
  refine ⟨_, A.same W, by rw [sz_set]; exact r, fun i hi => ?_⟩
  by_cases q : i = j
  · subst q
    simp [own_up, Cell.setSlot, r, hi]
  · rw [show (c.setSlot j (.int w)).slots[i]? = c.slots[i]? from Array.getElem?_setIfInBounds_ne (Ne.symm q)]
    simp [own_up, q, H i hi]
theorem own_bal (X : Stand p l e R s m args below meth c T locs cells slots) (hx : p.tables.exec = Jvm.exec) (hZ : Z.Warmed39 s.vm) (eT : T.heap = h) (A : own_Ar Z h a .byte n f) {j w : Int32} (h1 : ¬ j < 0) (h2 : j.toNatClampNeg < n) (hv : f j.toNatClampNeg = w)
    {pc : Nat} {Ls : Array Slot} {rest : List Value} (hd : decode c.code pc = .ok (.baload, 1)) (r : own_Run p e below s C N Q (T.setTop (mkF m (pc + 1) Ls (.int w :: rest)))) : own_Run p e below s C N Q (T.setTop (mkF m pc Ls (.int j :: .ref a :: rest))) := by
  obtain ⟨c, A, S, H⟩ := A
  subst hv
  exact own_of (fun t k => X.baloadBytes hx (j := j) (v := .int (f j.toNatClampNeg)) (by rw [eT]; exact A.1) (State.isArrayOf_alike hZ.alike A.2.1) A.2.2 (by rw [S]; exact fun q => q.elim h1 (Nat.not_le.mpr h2)) (H _ h2) (g := mkF m pc Ls (.int j :: .ref a :: rest)) rfl rfl hd t k) r
theorem own_ial (X : Stand p l e R s m args below meth c T locs cells slots) (hx : p.tables.exec = Jvm.exec) (hZ : Z.Warmed39 s.vm) (eT : T.heap = h) (A : own_Ar Z h a .int n f) {j w : Int32} (h1 : ¬ j < 0) (h2 : j.toNatClampNeg < n) (hv : f j.toNatClampNeg = w)
    {pc : Nat} {Ls : Array Slot} {rest : List Value} (hd : decode c.code pc = .ok (.iaload, 1)) (r : own_Run p e below s C N Q (T.setTop (mkF m (pc + 1) Ls (.int w :: rest)))) : own_Run p e below s C N Q (T.setTop (mkF m pc Ls (.int j :: .ref a :: rest))) := by
  obtain ⟨c, A, S, H⟩ := A
  subst hv
  exact own_of (fun t k => X.iaload hx (j := j) (v := .int (f j.toNatClampNeg)) (by rw [eT]; exact A.1) (State.isArrayOf_alike hZ.alike A.2.1) A.2.2 (by rw [S]; exact fun q => q.elim h1 (Nat.not_le.mpr h2)) (H _ h2) (g := mkF m pc Ls (.int j :: .ref a :: rest)) rfl rfl hd t k) r
theorem own_alen (X : Stand p l e R s m args below meth c T locs cells slots) (hx : p.tables.exec = Jvm.exec) (hZ : Z.Warmed39 s.vm) (eT : T.heap = h) (A : own_Ar Z h a ty n f) {w : Int32} (hv : n.toInt32 = w)
    {pc : Nat} {Ls : Array Slot} {rest : List Value} (hd : decode c.code pc = .ok (.arraylength, 1)) (r : own_Run p e below s C N Q (T.setTop (mkF m (pc + 1) Ls (.int w :: rest)))) : own_Run p e below s C N Q (T.setTop (mkF m pc Ls (.ref a :: rest))) := by
  obtain ⟨c, A, S, H⟩ := A
  subst hv S
  exact own_of (fun t k => X.arraylength hx (by rw [eT]; exact A.1) (State.isArrayOf_alike hZ.alike A.2.1) (g := mkF m pc Ls (.ref a :: rest)) rfl rfl hd t k) r
theorem own_bas (X : Stand p l e R s m args below meth c T locs cells slots) (hx : p.tables.exec = Jvm.exec) (hZ : Z.Warmed39 s.vm) (eT : T.heap = h) (A : own_Ar Z h a .byte n f) {j x : Int32} (h1 : ¬ j < 0) (h2 : j.toNatClampNeg < n)
    {pc : Nat} {Ls : Array Slot} {rest : List Value} (hd : decode c.code pc = .ok (.bastore, 1)) :
    ∃ T' h', Stand p l e R s m args below meth c T' (locs ++ [⟨a, j.toNatClampNeg⟩]) cells slots ∧ T'.heap = h' ∧ Wr h h' a j.toNatClampNeg (.int x.toInt8.toInt32) ∧ own_Ar Z h' a .byte n (own_up f j.toNatClampNeg x.toInt8.toInt32) ∧
      ∀ t, Steps p.tables e below (T'.setTop (mkF m (pc + 1) Ls rest)) t → Steps p.tables e below (T.setTop (mkF m pc Ls (.int x :: .int j :: .ref a :: rest))) t := by
  obtain ⟨c, A, S, H⟩ := id A
  obtain ⟨T', h', X', e', W, st⟩ := stB X hx hZ eT A (j := j) (x := x) (by rw [S]; exact fun q => q.elim h1 (Nat.not_le.mpr h2)) (g := mkF m pc Ls (.int x :: .int j :: .ref a :: rest)) rfl rfl hd
  exact ⟨T', h', X', e', W, own_Ar.set ⟨c, A, S, H⟩ W h2, st⟩
theorem own_ias (X : Stand p l e R s m args below meth c T locs cells slots) (hx : p.tables.exec = Jvm.exec) (hZ : Z.Warmed39 s.vm) (eT : T.heap = h) (A : own_Ar Z h a .int n f) {j x : Int32} (h1 : ¬ j < 0) (h2 : j.toNatClampNeg < n)
    {pc : Nat} {Ls : Array Slot} {rest : List Value} (hd : decode c.code pc = .ok (.iastore, 1)) :
    ∃ T' h', Stand p l e R s m args below meth c T' (locs ++ [⟨a, j.toNatClampNeg⟩]) cells slots ∧ T'.heap = h' ∧ Wr h h' a j.toNatClampNeg (.int x) ∧ own_Ar Z h' a .int n (own_up f j.toNatClampNeg x) ∧
      ∀ t, Steps p.tables e below (T'.setTop (mkF m (pc + 1) Ls rest)) t → Steps p.tables e below (T.setTop (mkF m pc Ls (.int x :: .int j :: .ref a :: rest))) t := by
  obtain ⟨c, A, S, H⟩ := id A
  obtain ⟨T', h', X', e', W, st⟩ := stI X hx hZ eT A (j := j) (x := x) (by rw [S]; exact fun q => q.elim h1 (Nat.not_le.mpr h2)) (g := mkF m pc Ls (.int x :: .int j :: .ref a :: rest)) rfl rfl hd
  exact ⟨T', h', X', e', W, own_Ar.set ⟨c, A, S, H⟩ W h2, st⟩
end OwnArrays
abbrev own_U (c : Int32) : Prop := (65 ≤ c.toInt ∧ c.toInt ≤ 90) ∨ (192 ≤ c.toInt ∧ c.toInt ≤ 222 ∧ c.toInt ≠ 215)
abbrev own_S (c : Int32) : Prop := (65 ≤ c.toInt ∧ c.toInt ≤ 90) ∨ (192 ≤ c.toInt ∧ c.toInt ≤ 222 ∧ c.toInt ≠ 215) ∨ c.toInt = 95
theorem own_pn0 : plainName "org/lanner/term/TermSyntax" = true := by first | (simp [plainName, overriddenIn]; done) | decide +kernel
theorem dU_0 : decode prog_112_method_9_code 0 = .ok (.iload_n 0, 1) := by decide +kernel
theorem dU_1 : decode prog_112_method_9_code 1 = .ok (.bipush 65, 2) := by decide +kernel
theorem dU_3 : decode prog_112_method_9_code 3 = .ok (.if_icmp .lt 9, 3) := by decide +kernel
theorem dU_6 : decode prog_112_method_9_code 6 = .ok (.iload_n 0, 1) := by decide +kernel
theorem dU_7 : decode prog_112_method_9_code 7 = .ok (.bipush 90, 2) := by decide +kernel
theorem dU_9 : decode prog_112_method_9_code 9 = .ok (.if_icmp .le 24, 3) := by decide +kernel
theorem dU_12 : decode prog_112_method_9_code 12 = .ok (.iload_n 0, 1) := by decide +kernel
theorem dU_13 : decode prog_112_method_9_code 13 = .ok (.sipush 192, 3) := by decide +kernel
theorem dU_16 : decode prog_112_method_9_code 16 = .ok (.if_icmp .lt 21, 3) := by decide +kernel
theorem dU_19 : decode prog_112_method_9_code 19 = .ok (.iload_n 0, 1) := by decide +kernel
theorem dU_20 : decode prog_112_method_9_code 20 = .ok (.sipush 222, 3) := by decide +kernel
theorem dU_23 : decode prog_112_method_9_code 23 = .ok (.if_icmp .gt 14, 3) := by decide +kernel
theorem dU_26 : decode prog_112_method_9_code 26 = .ok (.iload_n 0, 1) := by decide +kernel
theorem dU_27 : decode prog_112_method_9_code 27 = .ok (.sipush 215, 3) := by decide +kernel
theorem dU_30 : decode prog_112_method_9_code 30 = .ok (.if_icmp .eq 7, 3) := by decide +kernel
theorem dU_33 : decode prog_112_method_9_code 33 = .ok (.iconst 1, 1) := by decide +kernel
theorem dU_34 : decode prog_112_method_9_code 34 = .ok (.goto 4, 3) := by decide +kernel
theorem dU_37 : decode prog_112_method_9_code 37 = .ok (.iconst 0, 1) := by decide +kernel
theorem dU_38 : decode prog_112_method_9_code 38 = .ok (.ireturn, 1) := by decide +kernel
theorem efU (m : MethodId) (c1 : Int32) : entryFrame m #[(.int c1)] 1 = mkF m 0 #[.val (.int c1)] [] := by first | (simp [entryFrame, mkF, argsToLocals, Value.category]; done) | rfl
def QU (Z : State) (c1 : Int32) (h0 : Heap) (n0 : Nat) (v : Option Value) (h : Heap) (L : List Loc) : Prop := v = some (.int (if own_U c1 then 1 else 0)) ∧ Fr n0 L ∧ h = h0
set_option maxRecDepth 65536 in
set_option maxHeartbeats 40000000 in
theorem rmU (l : Launch) (Z : State) (a0 : Array Value) (hw : ∀ d ∈ tables_1, d.before a0 Z = true) (ws : List Jvm.Cond) (c1 : Int32) (h0 : Heap) (n0 : Nat) (Z0 : n0 ≤ h0.size)  :
    MetFree l (⟨"org/lanner/term/TermSyntax", "isUpperCase", "(I)Z"⟩ : MethodName) (head1 (Jvm.Cond.code (⟨"org/lanner/term/TermSyntax", "isUpperCase", "(I)Z"⟩ : MethodName) prog_112_method_9_code 1 (some .boolean) :: ws) ({ frames := 0, cells := 0, slots := 0, locals := 0 } : Room)) (fun a U => a = #[(.int c1)] ∧ Z.Warmed39 U.vm ∧ U.heap = h0) (fun _ _ _ _ _ => True) (fun _ U o U' => ∃ v L, o = .returned v ∧ QU Z c1 h0 n0 v U'.heap L ∧ FrameEnd U o U' L ({ frames := 0, cells := 0, slots := 0, locals := 0 } : Room).cells ({ frames := 0, cells := 0, slots := 0, locals := 0 } : Room).slots) := by
  refine MetFree.of_bodySF (plainFor_of_name own_pn0) hisR ?_
  intro p e s m args below meth c s₁ Bd hml0 hP hK
  obtain ⟨rfl, hZ, hh⟩ := hP
  have hx := Bd.exec
  have hby := Bd.bytes
  have hml : c.maxLocals = 1 := hml0
  have hown : s.vm.findClass "org/lanner/term/TermSyntax" = some m.cls := findClass_of_methodNamed Bd.named
  have hnm := (name_of_methodNamed Bd.named Bd.method).1
  have hlk := Bd.notSynchronized
  have hret := Bd.returns
  have X0 : Stand p l e ({ frames := 0, cells := 0, slots := 0, locals := 0 } : Room) s m #[(.int c1)] below meth c s₁ [] 0 0 := Stand.of_body Bd
  have e0 : s₁.heap = h0 := by rw [← hh, Bd.state]; rfl
  have N0 := Fr.nil n0
  show own_Run p e below s 0 0 (QU Z c1 h0 n0) (s₁.setTop (entryFrame m #[(.int c1)] 1))
  refine own_cast (efU m c1) ?_
  show own_Run p e below s _ _ _ (s₁.setTop (mkF m 0 #[.val (.int c1)] []))
  refine own_of (fun _ hh_ => XS.iloadN X0.here hx rfl (hb hby dU_0) rfl hh_) ?_
  show own_Run p e below s _ _ _ (s₁.setTop (mkF m 1 #[.val (.int c1)] [(.int c1)]))
  refine own_of (fun _ hh_ => XS.bipush X0.here hx rfl (hb hby dU_1) hh_) ?_
  show own_Run p e below s _ _ _ (s₁.setTop (mkF m 3 #[.val (.int c1)] [(.int (65 : Int32)), (.int c1)]))
  by_cases hc3_1 : c1 < (65 : Int32)
  · refine own_of (fun _ hh_ => XS.icmpYes X0.here hx rfl (pc0 := 3) (pc' := 12) rfl (hb hby dU_3) rfl (tlt hc3_1).1 (by decide) (by decide) hh_) ?_
    show own_Run p e below s _ _ _ (s₁.setTop (mkF m 12 #[.val (.int c1)] []))
    refine own_of (fun _ hh_ => XS.iloadN X0.here hx rfl (hb hby dU_12) rfl hh_) ?_
    show own_Run p e below s _ _ _ (s₁.setTop (mkF m 13 #[.val (.int c1)] [(.int c1)]))
    refine own_of (fun _ hh_ => XS.sipush X0.here hx rfl (hb hby dU_13) hh_) ?_
    show own_Run p e below s _ _ _ (s₁.setTop (mkF m 16 #[.val (.int c1)] [(.int (192 : Int32)), (.int c1)]))
    by_cases hc16_2 : c1 < (192 : Int32)
    · refine own_of (fun _ hh_ => XS.icmpYes X0.here hx rfl (pc0 := 16) (pc' := 37) rfl (hb hby dU_16) rfl (tlt hc16_2).1 (by decide) (by decide) hh_) ?_
      show own_Run p e below s _ _ _ (s₁.setTop (mkF m 37 #[.val (.int c1)] []))
      refine own_of (fun _ hh_ => XS.iconst X0.here hx rfl (hb hby dU_37) hh_) ?_
      show own_Run p e below s _ _ _ (s₁.setTop (mkF m 38 #[.val (.int c1)] [(.int (0 : Int32))]))
      exact own_retN X0 hx (t := .boolean) hret hlk (by simp) (hb hby dU_38) ⟨by rw [if_neg (show ¬ (own_U c1) from by have a_hc3_1 := Int32.lt_iff_toInt_lt.mp hc3_1; have a_hc16_2 := Int32.lt_iff_toInt_lt.mp hc16_2; have l_0 : (65 : Int32).toInt = 65 := rfl; have l_1 : (192 : Int32).toInt = 192 := rfl; omega)]; rfl, N0, e0⟩ (by decide) (by decide)
    · refine own_of (fun _ hh_ => XS.icmpNo X0.here hx rfl (hb hby dU_16) rfl (flt hc16_2).1 hh_) ?_
      show own_Run p e below s _ _ _ (s₁.setTop (mkF m 19 #[.val (.int c1)] []))
      refine own_of (fun _ hh_ => XS.iloadN X0.here hx rfl (hb hby dU_19) rfl hh_) ?_
      show own_Run p e below s _ _ _ (s₁.setTop (mkF m 20 #[.val (.int c1)] [(.int c1)]))
      refine own_of (fun _ hh_ => XS.sipush X0.here hx rfl (hb hby dU_20) hh_) ?_
      show own_Run p e below s _ _ _ (s₁.setTop (mkF m 23 #[.val (.int c1)] [(.int (222 : Int32)), (.int c1)]))
      by_cases hc23_3 : (222 : Int32) < c1
      · refine own_of (fun _ hh_ => XS.icmpYes X0.here hx rfl (pc0 := 23) (pc' := 37) rfl (hb hby dU_23) rfl (tlt hc23_3).2.2.1 (by decide) (by decide) hh_) ?_
        show own_Run p e below s _ _ _ (s₁.setTop (mkF m 37 #[.val (.int c1)] []))
        refine own_of (fun _ hh_ => XS.iconst X0.here hx rfl (hb hby dU_37) hh_) ?_
        show own_Run p e below s _ _ _ (s₁.setTop (mkF m 38 #[.val (.int c1)] [(.int (0 : Int32))]))
        exact own_retN X0 hx (t := .boolean) hret hlk (by simp) (hb hby dU_38) ⟨by rw [if_neg (show ¬ (own_U c1) from by have a_hc3_1 := Int32.lt_iff_toInt_lt.mp hc3_1; have a_hc16_2 := mt Int32.lt_iff_toInt_lt.mpr hc16_2; have a_hc23_3 := Int32.lt_iff_toInt_lt.mp hc23_3; have l_0 : (65 : Int32).toInt = 65 := rfl; have l_1 : (192 : Int32).toInt = 192 := rfl; have l_2 : (222 : Int32).toInt = 222 := rfl; omega)]; rfl, N0, e0⟩ (by decide) (by decide)
      · refine own_of (fun _ hh_ => XS.icmpNo X0.here hx rfl (hb hby dU_23) rfl (flt hc23_3).2.2.1 hh_) ?_
        show own_Run p e below s _ _ _ (s₁.setTop (mkF m 26 #[.val (.int c1)] []))
        refine own_of (fun _ hh_ => XS.iloadN X0.here hx rfl (hb hby dU_26) rfl hh_) ?_
        show own_Run p e below s _ _ _ (s₁.setTop (mkF m 27 #[.val (.int c1)] [(.int c1)]))
        refine own_of (fun _ hh_ => XS.sipush X0.here hx rfl (hb hby dU_27) hh_) ?_
        show own_Run p e below s _ _ _ (s₁.setTop (mkF m 30 #[.val (.int c1)] [(.int (215 : Int32)), (.int c1)]))
        by_cases hc30_4 : c1 = (215 : Int32)
        · refine own_of (fun _ hh_ => XS.icmpYes X0.here hx rfl (pc0 := 30) (pc' := 37) rfl (hb hby dU_30) rfl (teq hc30_4).1 (by decide) (by decide) hh_) ?_
          show own_Run p e below s _ _ _ (s₁.setTop (mkF m 37 #[.val (.int c1)] []))
          refine own_of (fun _ hh_ => XS.iconst X0.here hx rfl (hb hby dU_37) hh_) ?_
          show own_Run p e below s _ _ _ (s₁.setTop (mkF m 38 #[.val (.int c1)] [(.int (0 : Int32))]))
          exact own_retN X0 hx (t := .boolean) hret hlk (by simp) (hb hby dU_38) ⟨by rw [if_neg (show ¬ (own_U c1) from by have a_hc3_1 := Int32.lt_iff_toInt_lt.mp hc3_1; have a_hc16_2 := mt Int32.lt_iff_toInt_lt.mpr hc16_2; have a_hc23_3 := mt Int32.lt_iff_toInt_lt.mpr hc23_3; have a_hc30_4 := Int32.toInt_inj.mpr hc30_4; have l_0 : (65 : Int32).toInt = 65 := rfl; have l_1 : (192 : Int32).toInt = 192 := rfl; have l_2 : (222 : Int32).toInt = 222 := rfl; have l_3 : (215 : Int32).toInt = 215 := rfl; omega)]; rfl, N0, e0⟩ (by decide) (by decide)
        · refine own_of (fun _ hh_ => XS.icmpNo X0.here hx rfl (hb hby dU_30) rfl (feq hc30_4).1 hh_) ?_
          show own_Run p e below s _ _ _ (s₁.setTop (mkF m 33 #[.val (.int c1)] []))
          refine own_of (fun _ hh_ => XS.iconst X0.here hx rfl (hb hby dU_33) hh_) ?_
          show own_Run p e below s _ _ _ (s₁.setTop (mkF m 34 #[.val (.int c1)] [(.int (1 : Int32))]))
          refine own_of (fun _ hh_ => XS.goto X0.here hx rfl (pc0 := 34) (pc' := 38) rfl (hb hby dU_34) (by decide) (by decide) hh_) ?_
          show own_Run p e below s _ _ _ (s₁.setTop (mkF m 38 #[.val (.int c1)] [(.int (1 : Int32))]))
          exact own_retN X0 hx (t := .boolean) hret hlk (by simp) (hb hby dU_38) ⟨by rw [if_pos (show own_U c1 from by have a_hc3_1 := Int32.lt_iff_toInt_lt.mp hc3_1; have a_hc16_2 := mt Int32.lt_iff_toInt_lt.mpr hc16_2; have a_hc23_3 := mt Int32.lt_iff_toInt_lt.mpr hc23_3; have a_hc30_4 := mt Int32.toInt_inj.mp hc30_4; have l_0 : (65 : Int32).toInt = 65 := rfl; have l_1 : (192 : Int32).toInt = 192 := rfl; have l_2 : (222 : Int32).toInt = 222 := rfl; have l_3 : (215 : Int32).toInt = 215 := rfl; omega)]; rfl, N0, e0⟩ (by decide) (by decide)
  · refine own_of (fun _ hh_ => XS.icmpNo X0.here hx rfl (hb hby dU_3) rfl (flt hc3_1).1 hh_) ?_
    show own_Run p e below s _ _ _ (s₁.setTop (mkF m 6 #[.val (.int c1)] []))
    refine own_of (fun _ hh_ => XS.iloadN X0.here hx rfl (hb hby dU_6) rfl hh_) ?_
    show own_Run p e below s _ _ _ (s₁.setTop (mkF m 7 #[.val (.int c1)] [(.int c1)]))
    refine own_of (fun _ hh_ => XS.bipush X0.here hx rfl (hb hby dU_7) hh_) ?_
    show own_Run p e below s _ _ _ (s₁.setTop (mkF m 9 #[.val (.int c1)] [(.int (90 : Int32)), (.int c1)]))
    by_cases hc9_5 : (90 : Int32) < c1
    · refine own_of (fun _ hh_ => XS.icmpNo X0.here hx rfl (hb hby dU_9) rfl (tlt hc9_5).2.2.2 hh_) ?_
      show own_Run p e below s _ _ _ (s₁.setTop (mkF m 12 #[.val (.int c1)] []))
      refine own_of (fun _ hh_ => XS.iloadN X0.here hx rfl (hb hby dU_12) rfl hh_) ?_
      show own_Run p e below s _ _ _ (s₁.setTop (mkF m 13 #[.val (.int c1)] [(.int c1)]))
      refine own_of (fun _ hh_ => XS.sipush X0.here hx rfl (hb hby dU_13) hh_) ?_
      show own_Run p e below s _ _ _ (s₁.setTop (mkF m 16 #[.val (.int c1)] [(.int (192 : Int32)), (.int c1)]))
      by_cases hc16_6 : c1 < (192 : Int32)
      · refine own_of (fun _ hh_ => XS.icmpYes X0.here hx rfl (pc0 := 16) (pc' := 37) rfl (hb hby dU_16) rfl (tlt hc16_6).1 (by decide) (by decide) hh_) ?_
        show own_Run p e below s _ _ _ (s₁.setTop (mkF m 37 #[.val (.int c1)] []))
        refine own_of (fun _ hh_ => XS.iconst X0.here hx rfl (hb hby dU_37) hh_) ?_
        show own_Run p e below s _ _ _ (s₁.setTop (mkF m 38 #[.val (.int c1)] [(.int (0 : Int32))]))
        exact own_retN X0 hx (t := .boolean) hret hlk (by simp) (hb hby dU_38) ⟨by rw [if_neg (show ¬ (own_U c1) from by have a_hc3_1 := mt Int32.lt_iff_toInt_lt.mpr hc3_1; have a_hc9_5 := Int32.lt_iff_toInt_lt.mp hc9_5; have a_hc16_6 := Int32.lt_iff_toInt_lt.mp hc16_6; have l_0 : (65 : Int32).toInt = 65 := rfl; have l_1 : (90 : Int32).toInt = 90 := rfl; have l_2 : (192 : Int32).toInt = 192 := rfl; omega)]; rfl, N0, e0⟩ (by decide) (by decide)
      · refine own_of (fun _ hh_ => XS.icmpNo X0.here hx rfl (hb hby dU_16) rfl (flt hc16_6).1 hh_) ?_
        show own_Run p e below s _ _ _ (s₁.setTop (mkF m 19 #[.val (.int c1)] []))
        refine own_of (fun _ hh_ => XS.iloadN X0.here hx rfl (hb hby dU_19) rfl hh_) ?_
        show own_Run p e below s _ _ _ (s₁.setTop (mkF m 20 #[.val (.int c1)] [(.int c1)]))
        refine own_of (fun _ hh_ => XS.sipush X0.here hx rfl (hb hby dU_20) hh_) ?_
        show own_Run p e below s _ _ _ (s₁.setTop (mkF m 23 #[.val (.int c1)] [(.int (222 : Int32)), (.int c1)]))
        by_cases hc23_7 : (222 : Int32) < c1
        · refine own_of (fun _ hh_ => XS.icmpYes X0.here hx rfl (pc0 := 23) (pc' := 37) rfl (hb hby dU_23) rfl (tlt hc23_7).2.2.1 (by decide) (by decide) hh_) ?_
          show own_Run p e below s _ _ _ (s₁.setTop (mkF m 37 #[.val (.int c1)] []))
          refine own_of (fun _ hh_ => XS.iconst X0.here hx rfl (hb hby dU_37) hh_) ?_
          show own_Run p e below s _ _ _ (s₁.setTop (mkF m 38 #[.val (.int c1)] [(.int (0 : Int32))]))
          exact own_retN X0 hx (t := .boolean) hret hlk (by simp) (hb hby dU_38) ⟨by rw [if_neg (show ¬ (own_U c1) from by have a_hc3_1 := mt Int32.lt_iff_toInt_lt.mpr hc3_1; have a_hc9_5 := Int32.lt_iff_toInt_lt.mp hc9_5; have a_hc16_6 := mt Int32.lt_iff_toInt_lt.mpr hc16_6; have a_hc23_7 := Int32.lt_iff_toInt_lt.mp hc23_7; have l_0 : (65 : Int32).toInt = 65 := rfl; have l_1 : (90 : Int32).toInt = 90 := rfl; have l_2 : (192 : Int32).toInt = 192 := rfl; have l_3 : (222 : Int32).toInt = 222 := rfl; omega)]; rfl, N0, e0⟩ (by decide) (by decide)
        · refine own_of (fun _ hh_ => XS.icmpNo X0.here hx rfl (hb hby dU_23) rfl (flt hc23_7).2.2.1 hh_) ?_
          show own_Run p e below s _ _ _ (s₁.setTop (mkF m 26 #[.val (.int c1)] []))
          refine own_of (fun _ hh_ => XS.iloadN X0.here hx rfl (hb hby dU_26) rfl hh_) ?_
          show own_Run p e below s _ _ _ (s₁.setTop (mkF m 27 #[.val (.int c1)] [(.int c1)]))
          refine own_of (fun _ hh_ => XS.sipush X0.here hx rfl (hb hby dU_27) hh_) ?_
          show own_Run p e below s _ _ _ (s₁.setTop (mkF m 30 #[.val (.int c1)] [(.int (215 : Int32)), (.int c1)]))
          by_cases hc30_8 : c1 = (215 : Int32)
          · refine own_of (fun _ hh_ => XS.icmpYes X0.here hx rfl (pc0 := 30) (pc' := 37) rfl (hb hby dU_30) rfl (teq hc30_8).1 (by decide) (by decide) hh_) ?_
            show own_Run p e below s _ _ _ (s₁.setTop (mkF m 37 #[.val (.int c1)] []))
            refine own_of (fun _ hh_ => XS.iconst X0.here hx rfl (hb hby dU_37) hh_) ?_
            show own_Run p e below s _ _ _ (s₁.setTop (mkF m 38 #[.val (.int c1)] [(.int (0 : Int32))]))
            exact own_retN X0 hx (t := .boolean) hret hlk (by simp) (hb hby dU_38) ⟨by rw [if_neg (show ¬ (own_U c1) from by have a_hc3_1 := mt Int32.lt_iff_toInt_lt.mpr hc3_1; have a_hc9_5 := Int32.lt_iff_toInt_lt.mp hc9_5; have a_hc16_6 := mt Int32.lt_iff_toInt_lt.mpr hc16_6; have a_hc23_7 := mt Int32.lt_iff_toInt_lt.mpr hc23_7; have a_hc30_8 := Int32.toInt_inj.mpr hc30_8; have l_0 : (65 : Int32).toInt = 65 := rfl; have l_1 : (90 : Int32).toInt = 90 := rfl; have l_2 : (192 : Int32).toInt = 192 := rfl; have l_3 : (222 : Int32).toInt = 222 := rfl; have l_4 : (215 : Int32).toInt = 215 := rfl; omega)]; rfl, N0, e0⟩ (by decide) (by decide)
          · refine own_of (fun _ hh_ => XS.icmpNo X0.here hx rfl (hb hby dU_30) rfl (feq hc30_8).1 hh_) ?_
            show own_Run p e below s _ _ _ (s₁.setTop (mkF m 33 #[.val (.int c1)] []))
            refine own_of (fun _ hh_ => XS.iconst X0.here hx rfl (hb hby dU_33) hh_) ?_
            show own_Run p e below s _ _ _ (s₁.setTop (mkF m 34 #[.val (.int c1)] [(.int (1 : Int32))]))
            refine own_of (fun _ hh_ => XS.goto X0.here hx rfl (pc0 := 34) (pc' := 38) rfl (hb hby dU_34) (by decide) (by decide) hh_) ?_
            show own_Run p e below s _ _ _ (s₁.setTop (mkF m 38 #[.val (.int c1)] [(.int (1 : Int32))]))
            exact own_retN X0 hx (t := .boolean) hret hlk (by simp) (hb hby dU_38) ⟨by rw [if_pos (show own_U c1 from by have a_hc3_1 := mt Int32.lt_iff_toInt_lt.mpr hc3_1; have a_hc9_5 := Int32.lt_iff_toInt_lt.mp hc9_5; have a_hc16_6 := mt Int32.lt_iff_toInt_lt.mpr hc16_6; have a_hc23_7 := mt Int32.lt_iff_toInt_lt.mpr hc23_7; have a_hc30_8 := mt Int32.toInt_inj.mp hc30_8; have l_0 : (65 : Int32).toInt = 65 := rfl; have l_1 : (90 : Int32).toInt = 90 := rfl; have l_2 : (192 : Int32).toInt = 192 := rfl; have l_3 : (222 : Int32).toInt = 222 := rfl; have l_4 : (215 : Int32).toInt = 215 := rfl; omega)]; rfl, N0, e0⟩ (by decide) (by decide)
    · refine own_of (fun _ hh_ => XS.icmpYes X0.here hx rfl (pc0 := 9) (pc' := 33) rfl (hb hby dU_9) rfl (flt hc9_5).2.2.2 (by decide) (by decide) hh_) ?_
      show own_Run p e below s _ _ _ (s₁.setTop (mkF m 33 #[.val (.int c1)] []))
      refine own_of (fun _ hh_ => XS.iconst X0.here hx rfl (hb hby dU_33) hh_) ?_
      show own_Run p e below s _ _ _ (s₁.setTop (mkF m 34 #[.val (.int c1)] [(.int (1 : Int32))]))
      refine own_of (fun _ hh_ => XS.goto X0.here hx rfl (pc0 := 34) (pc' := 38) rfl (hb hby dU_34) (by decide) (by decide) hh_) ?_
      show own_Run p e below s _ _ _ (s₁.setTop (mkF m 38 #[.val (.int c1)] [(.int (1 : Int32))]))
      exact own_retN X0 hx (t := .boolean) hret hlk (by simp) (hb hby dU_38) ⟨by rw [if_pos (show own_U c1 from by have a_hc3_1 := mt Int32.lt_iff_toInt_lt.mpr hc3_1; have a_hc9_5 := mt Int32.lt_iff_toInt_lt.mpr hc9_5; have l_0 : (65 : Int32).toInt = 65 := rfl; have l_1 : (90 : Int32).toInt = 90 := rfl; omega)]; rfl, N0, e0⟩ (by decide) (by decide)
theorem own_pd0 : parseMethodDescriptor "(I)Z" = some ⟨[.int], some .boolean⟩ := by decide +kernel
theorem dV_0 : decode prog_112_method_5_code 0 = .ok (.iload_n 0, 1) := by decide +kernel
theorem dV_1 : decode prog_112_method_5_code 1 = .ok (.invokestatic 43, 3) := by decide +kernel
theorem dV_4 : decode prog_112_method_5_code 4 = .ok (.ifCond .ne 9, 3) := by decide +kernel
theorem dV_7 : decode prog_112_method_5_code 7 = .ok (.iload_n 0, 1) := by decide +kernel
theorem dV_8 : decode prog_112_method_5_code 8 = .ok (.bipush 95, 2) := by decide +kernel
theorem dV_10 : decode prog_112_method_5_code 10 = .ok (.if_icmp .ne 7, 3) := by decide +kernel
theorem dV_13 : decode prog_112_method_5_code 13 = .ok (.iconst 1, 1) := by decide +kernel
theorem dV_14 : decode prog_112_method_5_code 14 = .ok (.goto 4, 3) := by decide +kernel
theorem dV_17 : decode prog_112_method_5_code 17 = .ok (.iconst 0, 1) := by decide +kernel
theorem dV_18 : decode prog_112_method_5_code 18 = .ok (.ireturn, 1) := by decide +kernel
theorem efV (m : MethodId) (c1 : Int32) : entryFrame m #[(.int c1)] 1 = mkF m 0 #[.val (.int c1)] [] := by first | (simp [entryFrame, mkF, argsToLocals, Value.category]; done) | rfl
def QV (Z : State) (c1 : Int32) (h0 : Heap) (n0 : Nat) (v : Option Value) (h : Heap) (L : List Loc) : Prop := v = some (.int (if own_S c1 then 1 else 0)) ∧ Fr n0 L ∧ h = h0
set_option maxRecDepth 65536 in
set_option maxHeartbeats 40000000 in
theorem rmV (l : Launch) (Z : State) (a0 : Array Value) (hw : ∀ d ∈ tables_1, d.before a0 Z = true) (ws : List Jvm.Cond) (c1 : Int32) (h0 : Heap) (n0 : Nat) (Z0 : n0 ≤ h0.size)  :
    MetFree l (⟨"org/lanner/term/TermSyntax", "startsVariable", "(I)Z"⟩ : MethodName) (head1 (Jvm.Cond.code (⟨"org/lanner/term/TermSyntax", "startsVariable", "(I)Z"⟩ : MethodName) prog_112_method_5_code 1 (some .boolean) :: ws) ({ frames := 1, cells := 0, slots := 0, locals := 12 } : Room)) (fun a U => a = #[(.int c1)] ∧ Z.Warmed39 U.vm ∧ U.heap = h0) (fun _ _ _ _ _ => True) (fun _ U o U' => ∃ v L, o = .returned v ∧ QV Z c1 h0 n0 v U'.heap L ∧ FrameEnd U o U' L ({ frames := 1, cells := 0, slots := 0, locals := 12 } : Room).cells ({ frames := 1, cells := 0, slots := 0, locals := 12 } : Room).slots) := by
  refine MetFree.of_bodySF (plainFor_of_name own_pn0) hisR ?_
  intro p e s m args below meth c s₁ Bd hml0 hP hK
  obtain ⟨rfl, hZ, hh⟩ := hP
  have hx := Bd.exec
  have hby := Bd.bytes
  have hml : c.maxLocals = 1 := hml0
  have hown : s.vm.findClass "org/lanner/term/TermSyntax" = some m.cls := findClass_of_methodNamed Bd.named
  have hnm := (name_of_methodNamed Bd.named Bd.method).1
  have hlk := Bd.notSynchronized
  have hret := Bd.returns
  have X0 : Stand p l e ({ frames := 1, cells := 0, slots := 0, locals := 12 } : Room) s m #[(.int c1)] below meth c s₁ [] 0 0 := Stand.of_body Bd
  have e0 : s₁.heap = h0 := by rw [← hh, Bd.state]; rfl
  have N0 := Fr.nil n0
  show own_Run p e below s 0 0 (QV Z c1 h0 n0) (s₁.setTop (entryFrame m #[(.int c1)] 1))
  refine own_cast (efV m c1) ?_
  show own_Run p e below s _ _ _ (s₁.setTop (mkF m 0 #[.val (.int c1)] []))
  refine own_of (fun _ hh_ => XS.iloadN X0.here hx rfl (hb hby dV_0) rfl hh_) ?_
  show own_Run p e below s _ _ _ (s₁.setTop (mkF m 1 #[.val (.int c1)] [(.int c1)]))
  obtain ⟨_, _, ⟨T1, L1, k1, n1⟩, -, X1, ⟨Lc1, hQ1, l1, y1, z1⟩, st1⟩ := Jvm.LawKit.callS X0 hx (y := (⟨"org/lanner/term/TermSyntax", "isUpperCase", "(I)Z"⟩ : MethodName)) hown (mvT hZ (hw _ (List.mem_of_getElem? (i := 4) rfl))) (mvT hZ (hw _ (List.mem_of_getElem? (i := 5) rfl))) (mvT hZ (hw _ (List.mem_of_getElem? (i := 2) rfl))) (mvT hZ (hw _ (List.mem_of_getElem? (i := 6) rfl))) (by decide) (backOf (W := 0) (rmU l Z a0 hw [] c1 h0 n0 Z0) hZ (hw _ (List.mem_of_getElem? (i := 6) rfl)) (hw _ (List.mem_of_getElem? (i := 2) rfl)) (by decide) (by decide)) (g := (mkF m 1 #[.val (.int c1)] [(.int c1)])) rfl (by rw [hml]; rfl) (argsL := [(.int c1)]) (rest := []) (lenOf own_pd0 rfl) rfl (by show 2 * 0 + _ ≤ _; exact Nat.le_of_eq rfl) (hb hby dV_1) (fun _ _ => ⟨rfl, e0, (by decide : 0 + 0 ≤ _), (by decide : 0 + 0 ≤ _)⟩)
  dsimp only [Pt.U, Pt.locs, Pt.cells, Pt.slots] at X1 l1 y1 z1 st1 hQ1
  subst l1 y1 z1
  obtain ⟨rfl, N1q, e1⟩ := hQ1
  have N1 := Fr.app N0 N1q
  refine own_of st1 ?_
  show own_Run p e below s _ _ _ (T1.setTop (mkF m 4 #[.val (.int c1)] [(.int (if own_U c1 then 1 else 0 : Int32))]))
  by_cases hc4_2 : own_U c1
  · refine own_of (fun _ hh_ => XS.ifYes X1.here hx rfl (pc0 := 4) (pc' := 13) rfl (hb hby dV_4) rfl ((if0 _ _).trans (feq (show ¬ ((if own_U c1 then 1 else 0 : Int32) = 0) from by rw [if_pos hc4_2]; decide)).2) (by decide) (by decide) hh_) ?_
    show own_Run p e below s _ _ _ (T1.setTop (mkF m 13 #[.val (.int c1)] []))
    refine own_of (fun _ hh_ => XS.iconst X1.here hx rfl (hb hby dV_13) hh_) ?_
    show own_Run p e below s _ _ _ (T1.setTop (mkF m 14 #[.val (.int c1)] [(.int (1 : Int32))]))
    refine own_of (fun _ hh_ => XS.goto X1.here hx rfl (pc0 := 14) (pc' := 18) rfl (hb hby dV_14) (by decide) (by decide) hh_) ?_
    show own_Run p e below s _ _ _ (T1.setTop (mkF m 18 #[.val (.int c1)] [(.int (1 : Int32))]))
    exact own_retN X1 hx (t := .boolean) hret hlk (by simp) (hb hby dV_18) ⟨by rw [if_pos (show own_S c1 from by omega)]; rfl, N1, e1⟩ (by decide) (by decide)
  · refine own_of (fun _ hh_ => XS.ifNo X1.here hx rfl (hb hby dV_4) rfl ((if0 _ _).trans (teq (show (if own_U c1 then 1 else 0 : Int32) = 0 from if_neg hc4_2)).2) hh_) ?_
    show own_Run p e below s _ _ _ (T1.setTop (mkF m 7 #[.val (.int c1)] []))
    refine own_of (fun _ hh_ => XS.iloadN X1.here hx rfl (hb hby dV_7) rfl hh_) ?_
    show own_Run p e below s _ _ _ (T1.setTop (mkF m 8 #[.val (.int c1)] [(.int c1)]))
    refine own_of (fun _ hh_ => XS.bipush X1.here hx rfl (hb hby dV_8) hh_) ?_
    show own_Run p e below s _ _ _ (T1.setTop (mkF m 10 #[.val (.int c1)] [(.int (95 : Int32)), (.int c1)]))
    by_cases hc10_3 : c1 = (95 : Int32)
    · refine own_of (fun _ hh_ => XS.icmpNo X1.here hx rfl (hb hby dV_10) rfl (teq hc10_3).2 hh_) ?_
      show own_Run p e below s _ _ _ (T1.setTop (mkF m 13 #[.val (.int c1)] []))
      refine own_of (fun _ hh_ => XS.iconst X1.here hx rfl (hb hby dV_13) hh_) ?_
      show own_Run p e below s _ _ _ (T1.setTop (mkF m 14 #[.val (.int c1)] [(.int (1 : Int32))]))
      refine own_of (fun _ hh_ => XS.goto X1.here hx rfl (pc0 := 14) (pc' := 18) rfl (hb hby dV_14) (by decide) (by decide) hh_) ?_
      show own_Run p e below s _ _ _ (T1.setTop (mkF m 18 #[.val (.int c1)] [(.int (1 : Int32))]))
      exact own_retN X1 hx (t := .boolean) hret hlk (by simp) (hb hby dV_18) ⟨by rw [if_pos (show own_S c1 from by have a_hc10_3 := Int32.toInt_inj.mpr hc10_3; have l_0 : (95 : Int32).toInt = 95 := rfl; omega)]; rfl, N1, e1⟩ (by decide) (by decide)
    · refine own_of (fun _ hh_ => XS.icmpYes X1.here hx rfl (pc0 := 10) (pc' := 17) rfl (hb hby dV_10) rfl (feq hc10_3).2 (by decide) (by decide) hh_) ?_
      show own_Run p e below s _ _ _ (T1.setTop (mkF m 17 #[.val (.int c1)] []))
      refine own_of (fun _ hh_ => XS.iconst X1.here hx rfl (hb hby dV_17) hh_) ?_
      show own_Run p e below s _ _ _ (T1.setTop (mkF m 18 #[.val (.int c1)] [(.int (0 : Int32))]))
      exact own_retN X1 hx (t := .boolean) hret hlk (by simp) (hb hby dV_18) ⟨by rw [if_neg (show ¬ (own_S c1) from by have a_hc10_3 := mt Int32.toInt_inj.mp hc10_3; have l_0 : (95 : Int32).toInt = 95 := rfl; omega)]; rfl, N1, e1⟩ (by decide) (by decide)
theorem own_pn1 : plainName "org/lanner/term/TermSyntaxStartsVariablePinLaw" = true := by first | (simp [plainName, overriddenIn]; done) | decide +kernel
theorem dX_0 : decode method_3_code 0 = .ok (.iload_n 0, 1) := by decide +kernel
theorem dX_1 : decode method_3_code 1 = .ok (.i2l, 1) := by decide +kernel
theorem dX_2 : decode method_3_code 2 = .ok (.ldc2_w 18, 3) := by decide +kernel
theorem dX_5 : decode method_3_code 5 = .ok (.lsub, 1) := by decide +kernel
theorem dX_6 : decode method_3_code 6 = .ok (.lstore_n 1, 1) := by decide +kernel
theorem dX_7 : decode method_3_code 7 = .ok (.lload_n 1, 1) := by decide +kernel
theorem dX_8 : decode method_3_code 8 = .ok (.lconst 0, 1) := by decide +kernel
theorem dX_9 : decode method_3_code 9 = .ok (.lcmp, 1) := by decide +kernel
theorem dX_10 : decode method_3_code 10 = .ok (.ifCond .lt 15, 3) := by decide +kernel
theorem dX_13 : decode method_3_code 13 = .ok (.lload_n 1, 1) := by decide +kernel
theorem dX_14 : decode method_3_code 14 = .ok (.ldc2_w 20, 3) := by decide +kernel
theorem dX_17 : decode method_3_code 17 = .ok (.lcmp, 1) := by decide +kernel
theorem dX_18 : decode method_3_code 18 = .ok (.ifCond .gt 7, 3) := by decide +kernel
theorem dX_21 : decode method_3_code 21 = .ok (.iconst 1, 1) := by decide +kernel
theorem dX_22 : decode method_3_code 22 = .ok (.goto 4, 3) := by decide +kernel
theorem dX_25 : decode method_3_code 25 = .ok (.iconst 0, 1) := by decide +kernel
theorem dX_26 : decode method_3_code 26 = .ok (.istore_n 3, 1) := by decide +kernel
theorem dX_27 : decode method_3_code 27 = .ok (.iload_n 0, 1) := by decide +kernel
theorem dX_28 : decode method_3_code 28 = .ok (.i2l, 1) := by decide +kernel
theorem dX_29 : decode method_3_code 29 = .ok (.ldc2_w 22, 3) := by decide +kernel
theorem dX_32 : decode method_3_code 32 = .ok (.lsub, 1) := by decide +kernel
theorem dX_33 : decode method_3_code 33 = .ok (.lstore 4, 2) := by decide +kernel
theorem dX_35 : decode method_3_code 35 = .ok (.lload 4, 2) := by decide +kernel
theorem dX_37 : decode method_3_code 37 = .ok (.lconst 0, 1) := by decide +kernel
theorem dX_38 : decode method_3_code 38 = .ok (.lcmp, 1) := by decide +kernel
theorem dX_39 : decode method_3_code 39 = .ok (.ifCond .lt 25, 3) := by decide +kernel
theorem dX_42 : decode method_3_code 42 = .ok (.lload 4, 2) := by decide +kernel
theorem dX_44 : decode method_3_code 44 = .ok (.ldc2_w 24, 3) := by decide +kernel
theorem dX_47 : decode method_3_code 47 = .ok (.lcmp, 1) := by decide +kernel
theorem dX_48 : decode method_3_code 48 = .ok (.ifCond .gt 16, 3) := by decide +kernel
theorem dX_51 : decode method_3_code 51 = .ok (.lload 4, 2) := by decide +kernel
theorem dX_53 : decode method_3_code 53 = .ok (.ldc2_w 26, 3) := by decide +kernel
theorem dX_56 : decode method_3_code 56 = .ok (.lcmp, 1) := by decide +kernel
theorem dX_57 : decode method_3_code 57 = .ok (.ifCond .eq 7, 3) := by decide +kernel
theorem dX_60 : decode method_3_code 60 = .ok (.iconst 1, 1) := by decide +kernel
theorem dX_61 : decode method_3_code 61 = .ok (.goto 4, 3) := by decide +kernel
theorem dX_64 : decode method_3_code 64 = .ok (.iconst 0, 1) := by decide +kernel
theorem dX_65 : decode method_3_code 65 = .ok (.istore 6, 2) := by decide +kernel
theorem dX_67 : decode method_3_code 67 = .ok (.iload_n 0, 1) := by decide +kernel
theorem dX_68 : decode method_3_code 68 = .ok (.bipush 95, 2) := by decide +kernel
theorem dX_70 : decode method_3_code 70 = .ok (.if_icmp .ne 7, 3) := by decide +kernel
theorem dX_73 : decode method_3_code 73 = .ok (.iconst 1, 1) := by decide +kernel
theorem dX_74 : decode method_3_code 74 = .ok (.goto 4, 3) := by decide +kernel
theorem dX_77 : decode method_3_code 77 = .ok (.iconst 0, 1) := by decide +kernel
theorem dX_78 : decode method_3_code 78 = .ok (.istore 7, 2) := by decide +kernel
theorem dX_80 : decode method_3_code 80 = .ok (.iload_n 3, 1) := by decide +kernel
theorem dX_81 : decode method_3_code 81 = .ok (.ifCond .ne 13, 3) := by decide +kernel
theorem dX_84 : decode method_3_code 84 = .ok (.iload 6, 2) := by decide +kernel
theorem dX_86 : decode method_3_code 86 = .ok (.ifCond .ne 8, 3) := by decide +kernel
theorem dX_89 : decode method_3_code 89 = .ok (.iload 7, 2) := by decide +kernel
theorem dX_91 : decode method_3_code 91 = .ok (.ifCond .eq 7, 3) := by decide +kernel
theorem dX_94 : decode method_3_code 94 = .ok (.iconst 1, 1) := by decide +kernel
theorem dX_95 : decode method_3_code 95 = .ok (.goto 4, 3) := by decide +kernel
theorem dX_98 : decode method_3_code 98 = .ok (.iconst 0, 1) := by decide +kernel
theorem dX_99 : decode method_3_code 99 = .ok (.ireturn, 1) := by decide +kernel
theorem efX (m : MethodId) (c1 : Int32) : entryFrame m #[(.int c1)] 8 = mkF m 0 #[.val (.int c1), .unset, .unset, .unset, .unset, .unset, .unset, .unset] [] := by first | (simp [entryFrame, mkF, argsToLocals, Value.category]; done) | rfl
def QX (Z : State) (c1 : Int32) (h0 : Heap) (n0 : Nat) (v : Option Value) (h : Heap) (L : List Loc) : Prop := v = some (.int (if own_S c1 then 1 else 0)) ∧ Fr n0 L ∧ h = h0
set_option maxRecDepth 65536 in
set_option maxHeartbeats 40000000 in
theorem rmX (l : Launch) (Z : State) (a0 : Array Value) (hw : ∀ d ∈ tables_1, d.before a0 Z = true) (ws : List Jvm.Cond) (c1 : Int32) (h0 : Heap) (n0 : Nat) (Z0 : n0 ≤ h0.size)  :
    MetFree l (⟨"org/lanner/term/TermSyntaxStartsVariablePinLaw", "expected", "(I)Z"⟩ : MethodName) (head1 (Jvm.Cond.code (⟨"org/lanner/term/TermSyntaxStartsVariablePinLaw", "expected", "(I)Z"⟩ : MethodName) method_3_code 8 (some .boolean) :: ws) ({ frames := 0, cells := 0, slots := 0, locals := 0 } : Room)) (fun a U => a = #[(.int c1)] ∧ Z.Warmed39 U.vm ∧ U.heap = h0) (fun _ _ _ _ _ => True) (fun _ U o U' => ∃ v L, o = .returned v ∧ QX Z c1 h0 n0 v U'.heap L ∧ FrameEnd U o U' L ({ frames := 0, cells := 0, slots := 0, locals := 0 } : Room).cells ({ frames := 0, cells := 0, slots := 0, locals := 0 } : Room).slots) := by
  refine MetFree.of_bodySF (plainFor_of_name own_pn1) hisR ?_
  intro p e s m args below meth c s₁ Bd hml0 hP hK
  obtain ⟨rfl, hZ, hh⟩ := hP
  have hx := Bd.exec
  have hby := Bd.bytes
  have hml : c.maxLocals = 8 := hml0
  have hown : s.vm.findClass "org/lanner/term/TermSyntaxStartsVariablePinLaw" = some m.cls := findClass_of_methodNamed Bd.named
  have hnm := (name_of_methodNamed Bd.named Bd.method).1
  have hlk := Bd.notSynchronized
  have hret := Bd.returns
  have X0 : Stand p l e ({ frames := 0, cells := 0, slots := 0, locals := 0 } : Room) s m #[(.int c1)] below meth c s₁ [] 0 0 := Stand.of_body Bd
  have e0 : s₁.heap = h0 := by rw [← hh, Bd.state]; rfl
  have N0 := Fr.nil n0
  show own_Run p e below s 0 0 (QX Z c1 h0 n0) (s₁.setTop (entryFrame m #[(.int c1)] 8))
  refine own_cast (efX m c1) ?_
  have a1 : (c1.toInt64 - (65 : Int64)).toInt = c1.toInt - 65 := by
    have q1 := c_lsub c1.toInt64 (65 : Int64); have q2 := c_i2l c1; have q3 := rng32 c1; have q4 := rng64 (c1.toInt64 - (65 : Int64)); have l1 : (65 : Int64).toInt = 65 := rfl; omega
  have a2 : (c1.toInt64 - (192 : Int64)).toInt = c1.toInt - 192 := by
    have q1 := c_lsub c1.toInt64 (192 : Int64); have q2 := c_i2l c1; have q3 := rng32 c1; have q4 := rng64 (c1.toInt64 - (192 : Int64)); have l1 : (192 : Int64).toInt = 192 := rfl; omega
  show own_Run p e below s _ _ _ (s₁.setTop (mkF m 0 #[.val (.int c1), .unset, .unset, .unset, .unset, .unset, .unset, .unset] []))
  refine own_of (fun _ hh_ => XS.iloadN X0.here hx rfl (hb hby dX_0) rfl hh_) ?_
  show own_Run p e below s _ _ _ (s₁.setTop (mkF m 1 #[.val (.int c1), .unset, .unset, .unset, .unset, .unset, .unset, .unset] [(.int c1)]))
  refine own_of (fun _ hh_ => XS.i2l X0.here hx rfl (hb hby dX_1) rfl hh_) ?_
  show own_Run p e below s _ _ _ (s₁.setTop (mkF m 2 #[.val (.int c1), .unset, .unset, .unset, .unset, .unset, .unset, .unset] [(.long (c1.toInt64))]))
  refine own_of (X0.ldc2Long hx hown (mvT hZ (hw _ (List.mem_of_getElem? (i := 11) rfl))) (g := (mkF m 2 #[.val (.int c1), .unset, .unset, .unset, .unset, .unset, .unset, .unset] [(.long (c1.toInt64))])) rfl (hb hby dX_2)) ?_
  show own_Run p e below s _ _ _ (s₁.setTop (mkF m 5 #[.val (.int c1), .unset, .unset, .unset, .unset, .unset, .unset, .unset] [(.long (65 : Int64)), (.long (c1.toInt64))]))
  refine own_of (fun _ hh_ => XS.lsub X0.here hx rfl (hb hby dX_5) rfl hh_) ?_
  show own_Run p e below s _ _ _ (s₁.setTop (mkF m 6 #[.val (.int c1), .unset, .unset, .unset, .unset, .unset, .unset, .unset] [(.long ((c1.toInt64) - (65 : Int64)))]))
  refine own_of (fun _ hh_ => XS.lstoreN X0.here hx rfl (hb hby dX_6) rfl (l' := #[.val (.int c1), .val (.long ((c1.toInt64) - (65 : Int64))), .second, .unset, .unset, .unset, .unset, .unset]) rfl hh_) ?_
  show own_Run p e below s _ _ _ (s₁.setTop (mkF m 7 #[.val (.int c1), .val (.long ((c1.toInt64) - (65 : Int64))), .second, .unset, .unset, .unset, .unset, .unset] []))
  refine own_of (fun _ hh_ => XS.lloadN X0.here hx rfl (hb hby dX_7) rfl hh_) ?_
  show own_Run p e below s _ _ _ (s₁.setTop (mkF m 8 #[.val (.int c1), .val (.long ((c1.toInt64) - (65 : Int64))), .second, .unset, .unset, .unset, .unset, .unset] [(.long ((c1.toInt64) - (65 : Int64)))]))
  refine own_of (fun _ hh_ => XS.lconst X0.here hx rfl (hb hby dX_8) hh_) ?_
  show own_Run p e below s _ _ _ (s₁.setTop (mkF m 9 #[.val (.int c1), .val (.long ((c1.toInt64) - (65 : Int64))), .second, .unset, .unset, .unset, .unset, .unset] [(.long (0 : Int64)), (.long ((c1.toInt64) - (65 : Int64)))]))
  refine own_of (fun _ hh_ => XS.lcmp X0.here hx rfl (hb hby dX_9) rfl hh_) ?_
  show own_Run p e below s _ _ _ (s₁.setTop (mkF m 10 #[.val (.int c1), .val (.long ((c1.toInt64) - (65 : Int64))), .second, .unset, .unset, .unset, .unset, .unset] [(.int (lcmpW ((c1.toInt64) - (65 : Int64)) (0 : Int64)))]))
  by_cases hc10_1 : ((c1.toInt64) - (65 : Int64)) < (0 : Int64)
  · refine own_of (fun _ hh_ => XS.ifYes X0.here hx rfl (pc0 := 10) (pc' := 25) rfl (hb hby dX_10) rfl ((if0 _ _).trans (tlt ((lw_lt _ _).mpr hc10_1)).1) (by decide) (by decide) hh_) ?_
    show own_Run p e below s _ _ _ (s₁.setTop (mkF m 25 #[.val (.int c1), .val (.long ((c1.toInt64) - (65 : Int64))), .second, .unset, .unset, .unset, .unset, .unset] []))
    refine own_of (fun _ hh_ => XS.iconst X0.here hx rfl (hb hby dX_25) hh_) ?_
    show own_Run p e below s _ _ _ (s₁.setTop (mkF m 26 #[.val (.int c1), .val (.long ((c1.toInt64) - (65 : Int64))), .second, .unset, .unset, .unset, .unset, .unset] [(.int (0 : Int32))]))
    refine own_of (fun _ hh_ => XS.istoreN X0.here hx rfl (hb hby dX_26) rfl (l' := #[.val (.int c1), .val (.long ((c1.toInt64) - (65 : Int64))), .second, .val (.int (0 : Int32)), .unset, .unset, .unset, .unset]) rfl hh_) ?_
    show own_Run p e below s _ _ _ (s₁.setTop (mkF m 27 #[.val (.int c1), .val (.long ((c1.toInt64) - (65 : Int64))), .second, .val (.int (0 : Int32)), .unset, .unset, .unset, .unset] []))
    refine own_of (fun _ hh_ => XS.iloadN X0.here hx rfl (hb hby dX_27) rfl hh_) ?_
    show own_Run p e below s _ _ _ (s₁.setTop (mkF m 28 #[.val (.int c1), .val (.long ((c1.toInt64) - (65 : Int64))), .second, .val (.int (0 : Int32)), .unset, .unset, .unset, .unset] [(.int c1)]))
    refine own_of (fun _ hh_ => XS.i2l X0.here hx rfl (hb hby dX_28) rfl hh_) ?_
    show own_Run p e below s _ _ _ (s₁.setTop (mkF m 29 #[.val (.int c1), .val (.long ((c1.toInt64) - (65 : Int64))), .second, .val (.int (0 : Int32)), .unset, .unset, .unset, .unset] [(.long (c1.toInt64))]))
    refine own_of (X0.ldc2Long hx hown (mvT hZ (hw _ (List.mem_of_getElem? (i := 12) rfl))) (g := (mkF m 29 #[.val (.int c1), .val (.long ((c1.toInt64) - (65 : Int64))), .second, .val (.int (0 : Int32)), .unset, .unset, .unset, .unset] [(.long (c1.toInt64))])) rfl (hb hby dX_29)) ?_
    show own_Run p e below s _ _ _ (s₁.setTop (mkF m 32 #[.val (.int c1), .val (.long ((c1.toInt64) - (65 : Int64))), .second, .val (.int (0 : Int32)), .unset, .unset, .unset, .unset] [(.long (192 : Int64)), (.long (c1.toInt64))]))
    refine own_of (fun _ hh_ => XS.lsub X0.here hx rfl (hb hby dX_32) rfl hh_) ?_
    show own_Run p e below s _ _ _ (s₁.setTop (mkF m 33 #[.val (.int c1), .val (.long ((c1.toInt64) - (65 : Int64))), .second, .val (.int (0 : Int32)), .unset, .unset, .unset, .unset] [(.long ((c1.toInt64) - (192 : Int64)))]))
    refine own_of (fun _ hh_ => XS.lstore X0.here hx rfl (hb hby dX_33) rfl (l' := #[.val (.int c1), .val (.long ((c1.toInt64) - (65 : Int64))), .second, .val (.int (0 : Int32)), .val (.long ((c1.toInt64) - (192 : Int64))), .second, .unset, .unset]) rfl hh_) ?_
    show own_Run p e below s _ _ _ (s₁.setTop (mkF m 35 #[.val (.int c1), .val (.long ((c1.toInt64) - (65 : Int64))), .second, .val (.int (0 : Int32)), .val (.long ((c1.toInt64) - (192 : Int64))), .second, .unset, .unset] []))
    refine own_of (fun _ hh_ => XS.lload X0.here hx rfl (hb hby dX_35) rfl hh_) ?_
    show own_Run p e below s _ _ _ (s₁.setTop (mkF m 37 #[.val (.int c1), .val (.long ((c1.toInt64) - (65 : Int64))), .second, .val (.int (0 : Int32)), .val (.long ((c1.toInt64) - (192 : Int64))), .second, .unset, .unset] [(.long ((c1.toInt64) - (192 : Int64)))]))
    refine own_of (fun _ hh_ => XS.lconst X0.here hx rfl (hb hby dX_37) hh_) ?_
    show own_Run p e below s _ _ _ (s₁.setTop (mkF m 38 #[.val (.int c1), .val (.long ((c1.toInt64) - (65 : Int64))), .second, .val (.int (0 : Int32)), .val (.long ((c1.toInt64) - (192 : Int64))), .second, .unset, .unset] [(.long (0 : Int64)), (.long ((c1.toInt64) - (192 : Int64)))]))
    refine own_of (fun _ hh_ => XS.lcmp X0.here hx rfl (hb hby dX_38) rfl hh_) ?_
    show own_Run p e below s _ _ _ (s₁.setTop (mkF m 39 #[.val (.int c1), .val (.long ((c1.toInt64) - (65 : Int64))), .second, .val (.int (0 : Int32)), .val (.long ((c1.toInt64) - (192 : Int64))), .second, .unset, .unset] [(.int (lcmpW ((c1.toInt64) - (192 : Int64)) (0 : Int64)))]))
    by_cases hc39_2 : ((c1.toInt64) - (192 : Int64)) < (0 : Int64)
    · refine own_of (fun _ hh_ => XS.ifYes X0.here hx rfl (pc0 := 39) (pc' := 64) rfl (hb hby dX_39) rfl ((if0 _ _).trans (tlt ((lw_lt _ _).mpr hc39_2)).1) (by decide) (by decide) hh_) ?_
      show own_Run p e below s _ _ _ (s₁.setTop (mkF m 64 #[.val (.int c1), .val (.long ((c1.toInt64) - (65 : Int64))), .second, .val (.int (0 : Int32)), .val (.long ((c1.toInt64) - (192 : Int64))), .second, .unset, .unset] []))
      refine own_of (fun _ hh_ => XS.iconst X0.here hx rfl (hb hby dX_64) hh_) ?_
      show own_Run p e below s _ _ _ (s₁.setTop (mkF m 65 #[.val (.int c1), .val (.long ((c1.toInt64) - (65 : Int64))), .second, .val (.int (0 : Int32)), .val (.long ((c1.toInt64) - (192 : Int64))), .second, .unset, .unset] [(.int (0 : Int32))]))
      refine own_of (fun _ hh_ => XS.istore X0.here hx rfl (hb hby dX_65) rfl (l' := #[.val (.int c1), .val (.long ((c1.toInt64) - (65 : Int64))), .second, .val (.int (0 : Int32)), .val (.long ((c1.toInt64) - (192 : Int64))), .second, .val (.int (0 : Int32)), .unset]) rfl hh_) ?_
      show own_Run p e below s _ _ _ (s₁.setTop (mkF m 67 #[.val (.int c1), .val (.long ((c1.toInt64) - (65 : Int64))), .second, .val (.int (0 : Int32)), .val (.long ((c1.toInt64) - (192 : Int64))), .second, .val (.int (0 : Int32)), .unset] []))
      refine own_of (fun _ hh_ => XS.iloadN X0.here hx rfl (hb hby dX_67) rfl hh_) ?_
      show own_Run p e below s _ _ _ (s₁.setTop (mkF m 68 #[.val (.int c1), .val (.long ((c1.toInt64) - (65 : Int64))), .second, .val (.int (0 : Int32)), .val (.long ((c1.toInt64) - (192 : Int64))), .second, .val (.int (0 : Int32)), .unset] [(.int c1)]))
      refine own_of (fun _ hh_ => XS.bipush X0.here hx rfl (hb hby dX_68) hh_) ?_
      show own_Run p e below s _ _ _ (s₁.setTop (mkF m 70 #[.val (.int c1), .val (.long ((c1.toInt64) - (65 : Int64))), .second, .val (.int (0 : Int32)), .val (.long ((c1.toInt64) - (192 : Int64))), .second, .val (.int (0 : Int32)), .unset] [(.int (95 : Int32)), (.int c1)]))
      by_cases hc70_3 : c1 = (95 : Int32)
      · refine own_of (fun _ hh_ => XS.icmpNo X0.here hx rfl (hb hby dX_70) rfl (teq hc70_3).2 hh_) ?_
        show own_Run p e below s _ _ _ (s₁.setTop (mkF m 73 #[.val (.int c1), .val (.long ((c1.toInt64) - (65 : Int64))), .second, .val (.int (0 : Int32)), .val (.long ((c1.toInt64) - (192 : Int64))), .second, .val (.int (0 : Int32)), .unset] []))
        refine own_of (fun _ hh_ => XS.iconst X0.here hx rfl (hb hby dX_73) hh_) ?_
        show own_Run p e below s _ _ _ (s₁.setTop (mkF m 74 #[.val (.int c1), .val (.long ((c1.toInt64) - (65 : Int64))), .second, .val (.int (0 : Int32)), .val (.long ((c1.toInt64) - (192 : Int64))), .second, .val (.int (0 : Int32)), .unset] [(.int (1 : Int32))]))
        refine own_of (fun _ hh_ => XS.goto X0.here hx rfl (pc0 := 74) (pc' := 78) rfl (hb hby dX_74) (by decide) (by decide) hh_) ?_
        show own_Run p e below s _ _ _ (s₁.setTop (mkF m 78 #[.val (.int c1), .val (.long ((c1.toInt64) - (65 : Int64))), .second, .val (.int (0 : Int32)), .val (.long ((c1.toInt64) - (192 : Int64))), .second, .val (.int (0 : Int32)), .unset] [(.int (1 : Int32))]))
        refine own_of (fun _ hh_ => XS.istore X0.here hx rfl (hb hby dX_78) rfl (l' := #[.val (.int c1), .val (.long ((c1.toInt64) - (65 : Int64))), .second, .val (.int (0 : Int32)), .val (.long ((c1.toInt64) - (192 : Int64))), .second, .val (.int (0 : Int32)), .val (.int (1 : Int32))]) rfl hh_) ?_
        show own_Run p e below s _ _ _ (s₁.setTop (mkF m 80 #[.val (.int c1), .val (.long ((c1.toInt64) - (65 : Int64))), .second, .val (.int (0 : Int32)), .val (.long ((c1.toInt64) - (192 : Int64))), .second, .val (.int (0 : Int32)), .val (.int (1 : Int32))] []))
        refine own_of (fun _ hh_ => XS.iloadN X0.here hx rfl (hb hby dX_80) rfl hh_) ?_
        show own_Run p e below s _ _ _ (s₁.setTop (mkF m 81 #[.val (.int c1), .val (.long ((c1.toInt64) - (65 : Int64))), .second, .val (.int (0 : Int32)), .val (.long ((c1.toInt64) - (192 : Int64))), .second, .val (.int (0 : Int32)), .val (.int (1 : Int32))] [(.int (0 : Int32))]))
        refine own_of (fun _ hh_ => XS.ifNo X0.here hx rfl (hb hby dX_81) rfl ((if0 _ _).trans (by decide)) hh_) ?_
        show own_Run p e below s _ _ _ (s₁.setTop (mkF m 84 #[.val (.int c1), .val (.long ((c1.toInt64) - (65 : Int64))), .second, .val (.int (0 : Int32)), .val (.long ((c1.toInt64) - (192 : Int64))), .second, .val (.int (0 : Int32)), .val (.int (1 : Int32))] []))
        refine own_of (fun _ hh_ => XS.iload X0.here hx rfl (hb hby dX_84) rfl hh_) ?_
        show own_Run p e below s _ _ _ (s₁.setTop (mkF m 86 #[.val (.int c1), .val (.long ((c1.toInt64) - (65 : Int64))), .second, .val (.int (0 : Int32)), .val (.long ((c1.toInt64) - (192 : Int64))), .second, .val (.int (0 : Int32)), .val (.int (1 : Int32))] [(.int (0 : Int32))]))
        refine own_of (fun _ hh_ => XS.ifNo X0.here hx rfl (hb hby dX_86) rfl ((if0 _ _).trans (by decide)) hh_) ?_
        show own_Run p e below s _ _ _ (s₁.setTop (mkF m 89 #[.val (.int c1), .val (.long ((c1.toInt64) - (65 : Int64))), .second, .val (.int (0 : Int32)), .val (.long ((c1.toInt64) - (192 : Int64))), .second, .val (.int (0 : Int32)), .val (.int (1 : Int32))] []))
        refine own_of (fun _ hh_ => XS.iload X0.here hx rfl (hb hby dX_89) rfl hh_) ?_
        show own_Run p e below s _ _ _ (s₁.setTop (mkF m 91 #[.val (.int c1), .val (.long ((c1.toInt64) - (65 : Int64))), .second, .val (.int (0 : Int32)), .val (.long ((c1.toInt64) - (192 : Int64))), .second, .val (.int (0 : Int32)), .val (.int (1 : Int32))] [(.int (1 : Int32))]))
        refine own_of (fun _ hh_ => XS.ifNo X0.here hx rfl (hb hby dX_91) rfl ((if0 _ _).trans (by decide)) hh_) ?_
        show own_Run p e below s _ _ _ (s₁.setTop (mkF m 94 #[.val (.int c1), .val (.long ((c1.toInt64) - (65 : Int64))), .second, .val (.int (0 : Int32)), .val (.long ((c1.toInt64) - (192 : Int64))), .second, .val (.int (0 : Int32)), .val (.int (1 : Int32))] []))
        refine own_of (fun _ hh_ => XS.iconst X0.here hx rfl (hb hby dX_94) hh_) ?_
        show own_Run p e below s _ _ _ (s₁.setTop (mkF m 95 #[.val (.int c1), .val (.long ((c1.toInt64) - (65 : Int64))), .second, .val (.int (0 : Int32)), .val (.long ((c1.toInt64) - (192 : Int64))), .second, .val (.int (0 : Int32)), .val (.int (1 : Int32))] [(.int (1 : Int32))]))
        refine own_of (fun _ hh_ => XS.goto X0.here hx rfl (pc0 := 95) (pc' := 99) rfl (hb hby dX_95) (by decide) (by decide) hh_) ?_
        show own_Run p e below s _ _ _ (s₁.setTop (mkF m 99 #[.val (.int c1), .val (.long ((c1.toInt64) - (65 : Int64))), .second, .val (.int (0 : Int32)), .val (.long ((c1.toInt64) - (192 : Int64))), .second, .val (.int (0 : Int32)), .val (.int (1 : Int32))] [(.int (1 : Int32))]))
        exact own_retN X0 hx (t := .boolean) hret hlk (by simp) (hb hby dX_99) ⟨by rw [if_pos (show own_S c1 from by have a_hc10_1 := Int64.lt_iff_toInt_lt.mp hc10_1; have a_hc39_2 := Int64.lt_iff_toInt_lt.mp hc39_2; have a_hc70_3 := Int32.toInt_inj.mpr hc70_3; have l_0 : (65 : Int64).toInt = 65 := rfl; have l_1 : (0 : Int64).toInt = 0 := rfl; have l_2 : (192 : Int64).toInt = 192 := rfl; have l_3 : (95 : Int32).toInt = 95 := rfl; omega)]; rfl, N0, e0⟩ (by decide) (by decide)
      · refine own_of (fun _ hh_ => XS.icmpYes X0.here hx rfl (pc0 := 70) (pc' := 77) rfl (hb hby dX_70) rfl (feq hc70_3).2 (by decide) (by decide) hh_) ?_
        show own_Run p e below s _ _ _ (s₁.setTop (mkF m 77 #[.val (.int c1), .val (.long ((c1.toInt64) - (65 : Int64))), .second, .val (.int (0 : Int32)), .val (.long ((c1.toInt64) - (192 : Int64))), .second, .val (.int (0 : Int32)), .unset] []))
        refine own_of (fun _ hh_ => XS.iconst X0.here hx rfl (hb hby dX_77) hh_) ?_
        show own_Run p e below s _ _ _ (s₁.setTop (mkF m 78 #[.val (.int c1), .val (.long ((c1.toInt64) - (65 : Int64))), .second, .val (.int (0 : Int32)), .val (.long ((c1.toInt64) - (192 : Int64))), .second, .val (.int (0 : Int32)), .unset] [(.int (0 : Int32))]))
        refine own_of (fun _ hh_ => XS.istore X0.here hx rfl (hb hby dX_78) rfl (l' := #[.val (.int c1), .val (.long ((c1.toInt64) - (65 : Int64))), .second, .val (.int (0 : Int32)), .val (.long ((c1.toInt64) - (192 : Int64))), .second, .val (.int (0 : Int32)), .val (.int (0 : Int32))]) rfl hh_) ?_
        show own_Run p e below s _ _ _ (s₁.setTop (mkF m 80 #[.val (.int c1), .val (.long ((c1.toInt64) - (65 : Int64))), .second, .val (.int (0 : Int32)), .val (.long ((c1.toInt64) - (192 : Int64))), .second, .val (.int (0 : Int32)), .val (.int (0 : Int32))] []))
        refine own_of (fun _ hh_ => XS.iloadN X0.here hx rfl (hb hby dX_80) rfl hh_) ?_
        show own_Run p e below s _ _ _ (s₁.setTop (mkF m 81 #[.val (.int c1), .val (.long ((c1.toInt64) - (65 : Int64))), .second, .val (.int (0 : Int32)), .val (.long ((c1.toInt64) - (192 : Int64))), .second, .val (.int (0 : Int32)), .val (.int (0 : Int32))] [(.int (0 : Int32))]))
        refine own_of (fun _ hh_ => XS.ifNo X0.here hx rfl (hb hby dX_81) rfl ((if0 _ _).trans (by decide)) hh_) ?_
        show own_Run p e below s _ _ _ (s₁.setTop (mkF m 84 #[.val (.int c1), .val (.long ((c1.toInt64) - (65 : Int64))), .second, .val (.int (0 : Int32)), .val (.long ((c1.toInt64) - (192 : Int64))), .second, .val (.int (0 : Int32)), .val (.int (0 : Int32))] []))
        refine own_of (fun _ hh_ => XS.iload X0.here hx rfl (hb hby dX_84) rfl hh_) ?_
        show own_Run p e below s _ _ _ (s₁.setTop (mkF m 86 #[.val (.int c1), .val (.long ((c1.toInt64) - (65 : Int64))), .second, .val (.int (0 : Int32)), .val (.long ((c1.toInt64) - (192 : Int64))), .second, .val (.int (0 : Int32)), .val (.int (0 : Int32))] [(.int (0 : Int32))]))
        refine own_of (fun _ hh_ => XS.ifNo X0.here hx rfl (hb hby dX_86) rfl ((if0 _ _).trans (by decide)) hh_) ?_
        show own_Run p e below s _ _ _ (s₁.setTop (mkF m 89 #[.val (.int c1), .val (.long ((c1.toInt64) - (65 : Int64))), .second, .val (.int (0 : Int32)), .val (.long ((c1.toInt64) - (192 : Int64))), .second, .val (.int (0 : Int32)), .val (.int (0 : Int32))] []))
        refine own_of (fun _ hh_ => XS.iload X0.here hx rfl (hb hby dX_89) rfl hh_) ?_
        show own_Run p e below s _ _ _ (s₁.setTop (mkF m 91 #[.val (.int c1), .val (.long ((c1.toInt64) - (65 : Int64))), .second, .val (.int (0 : Int32)), .val (.long ((c1.toInt64) - (192 : Int64))), .second, .val (.int (0 : Int32)), .val (.int (0 : Int32))] [(.int (0 : Int32))]))
        refine own_of (fun _ hh_ => XS.ifYes X0.here hx rfl (pc0 := 91) (pc' := 98) rfl (hb hby dX_91) rfl ((if0 _ _).trans (by decide)) (by decide) (by decide) hh_) ?_
        show own_Run p e below s _ _ _ (s₁.setTop (mkF m 98 #[.val (.int c1), .val (.long ((c1.toInt64) - (65 : Int64))), .second, .val (.int (0 : Int32)), .val (.long ((c1.toInt64) - (192 : Int64))), .second, .val (.int (0 : Int32)), .val (.int (0 : Int32))] []))
        refine own_of (fun _ hh_ => XS.iconst X0.here hx rfl (hb hby dX_98) hh_) ?_
        show own_Run p e below s _ _ _ (s₁.setTop (mkF m 99 #[.val (.int c1), .val (.long ((c1.toInt64) - (65 : Int64))), .second, .val (.int (0 : Int32)), .val (.long ((c1.toInt64) - (192 : Int64))), .second, .val (.int (0 : Int32)), .val (.int (0 : Int32))] [(.int (0 : Int32))]))
        exact own_retN X0 hx (t := .boolean) hret hlk (by simp) (hb hby dX_99) ⟨by rw [if_neg (show ¬ (own_S c1) from by have a_hc10_1 := Int64.lt_iff_toInt_lt.mp hc10_1; have a_hc39_2 := Int64.lt_iff_toInt_lt.mp hc39_2; have a_hc70_3 := mt Int32.toInt_inj.mp hc70_3; have l_0 : (65 : Int64).toInt = 65 := rfl; have l_1 : (0 : Int64).toInt = 0 := rfl; have l_2 : (192 : Int64).toInt = 192 := rfl; have l_3 : (95 : Int32).toInt = 95 := rfl; omega)]; rfl, N0, e0⟩ (by decide) (by decide)
    · refine own_of (fun _ hh_ => XS.ifNo X0.here hx rfl (hb hby dX_39) rfl ((if0 _ _).trans (flt (fun q_ => hc39_2 ((lw_lt _ _).mp q_))).1) hh_) ?_
      show own_Run p e below s _ _ _ (s₁.setTop (mkF m 42 #[.val (.int c1), .val (.long ((c1.toInt64) - (65 : Int64))), .second, .val (.int (0 : Int32)), .val (.long ((c1.toInt64) - (192 : Int64))), .second, .unset, .unset] []))
      refine own_of (fun _ hh_ => XS.lload X0.here hx rfl (hb hby dX_42) rfl hh_) ?_
      show own_Run p e below s _ _ _ (s₁.setTop (mkF m 44 #[.val (.int c1), .val (.long ((c1.toInt64) - (65 : Int64))), .second, .val (.int (0 : Int32)), .val (.long ((c1.toInt64) - (192 : Int64))), .second, .unset, .unset] [(.long ((c1.toInt64) - (192 : Int64)))]))
      refine own_of (X0.ldc2Long hx hown (mvT hZ (hw _ (List.mem_of_getElem? (i := 14) rfl))) (g := (mkF m 44 #[.val (.int c1), .val (.long ((c1.toInt64) - (65 : Int64))), .second, .val (.int (0 : Int32)), .val (.long ((c1.toInt64) - (192 : Int64))), .second, .unset, .unset] [(.long ((c1.toInt64) - (192 : Int64)))])) rfl (hb hby dX_44)) ?_
      show own_Run p e below s _ _ _ (s₁.setTop (mkF m 47 #[.val (.int c1), .val (.long ((c1.toInt64) - (65 : Int64))), .second, .val (.int (0 : Int32)), .val (.long ((c1.toInt64) - (192 : Int64))), .second, .unset, .unset] [(.long (30 : Int64)), (.long ((c1.toInt64) - (192 : Int64)))]))
      refine own_of (fun _ hh_ => XS.lcmp X0.here hx rfl (hb hby dX_47) rfl hh_) ?_
      show own_Run p e below s _ _ _ (s₁.setTop (mkF m 48 #[.val (.int c1), .val (.long ((c1.toInt64) - (65 : Int64))), .second, .val (.int (0 : Int32)), .val (.long ((c1.toInt64) - (192 : Int64))), .second, .unset, .unset] [(.int (lcmpW ((c1.toInt64) - (192 : Int64)) (30 : Int64)))]))
      by_cases hc48_4 : (30 : Int64) < ((c1.toInt64) - (192 : Int64))
      · refine own_of (fun _ hh_ => XS.ifYes X0.here hx rfl (pc0 := 48) (pc' := 64) rfl (hb hby dX_48) rfl ((if0 _ _).trans (tlt ((lw_gt _ _).mpr hc48_4)).2.2.1) (by decide) (by decide) hh_) ?_
        show own_Run p e below s _ _ _ (s₁.setTop (mkF m 64 #[.val (.int c1), .val (.long ((c1.toInt64) - (65 : Int64))), .second, .val (.int (0 : Int32)), .val (.long ((c1.toInt64) - (192 : Int64))), .second, .unset, .unset] []))
        refine own_of (fun _ hh_ => XS.iconst X0.here hx rfl (hb hby dX_64) hh_) ?_
        show own_Run p e below s _ _ _ (s₁.setTop (mkF m 65 #[.val (.int c1), .val (.long ((c1.toInt64) - (65 : Int64))), .second, .val (.int (0 : Int32)), .val (.long ((c1.toInt64) - (192 : Int64))), .second, .unset, .unset] [(.int (0 : Int32))]))
        refine own_of (fun _ hh_ => XS.istore X0.here hx rfl (hb hby dX_65) rfl (l' := #[.val (.int c1), .val (.long ((c1.toInt64) - (65 : Int64))), .second, .val (.int (0 : Int32)), .val (.long ((c1.toInt64) - (192 : Int64))), .second, .val (.int (0 : Int32)), .unset]) rfl hh_) ?_
        show own_Run p e below s _ _ _ (s₁.setTop (mkF m 67 #[.val (.int c1), .val (.long ((c1.toInt64) - (65 : Int64))), .second, .val (.int (0 : Int32)), .val (.long ((c1.toInt64) - (192 : Int64))), .second, .val (.int (0 : Int32)), .unset] []))
        refine own_of (fun _ hh_ => XS.iloadN X0.here hx rfl (hb hby dX_67) rfl hh_) ?_
        show own_Run p e below s _ _ _ (s₁.setTop (mkF m 68 #[.val (.int c1), .val (.long ((c1.toInt64) - (65 : Int64))), .second, .val (.int (0 : Int32)), .val (.long ((c1.toInt64) - (192 : Int64))), .second, .val (.int (0 : Int32)), .unset] [(.int c1)]))
        refine own_of (fun _ hh_ => XS.bipush X0.here hx rfl (hb hby dX_68) hh_) ?_
        show own_Run p e below s _ _ _ (s₁.setTop (mkF m 70 #[.val (.int c1), .val (.long ((c1.toInt64) - (65 : Int64))), .second, .val (.int (0 : Int32)), .val (.long ((c1.toInt64) - (192 : Int64))), .second, .val (.int (0 : Int32)), .unset] [(.int (95 : Int32)), (.int c1)]))
        by_cases hc70_5 : c1 = (95 : Int32)
        · refine own_of (fun _ hh_ => XS.icmpNo X0.here hx rfl (hb hby dX_70) rfl (teq hc70_5).2 hh_) ?_
          show own_Run p e below s _ _ _ (s₁.setTop (mkF m 73 #[.val (.int c1), .val (.long ((c1.toInt64) - (65 : Int64))), .second, .val (.int (0 : Int32)), .val (.long ((c1.toInt64) - (192 : Int64))), .second, .val (.int (0 : Int32)), .unset] []))
          refine own_of (fun _ hh_ => XS.iconst X0.here hx rfl (hb hby dX_73) hh_) ?_
          show own_Run p e below s _ _ _ (s₁.setTop (mkF m 74 #[.val (.int c1), .val (.long ((c1.toInt64) - (65 : Int64))), .second, .val (.int (0 : Int32)), .val (.long ((c1.toInt64) - (192 : Int64))), .second, .val (.int (0 : Int32)), .unset] [(.int (1 : Int32))]))
          refine own_of (fun _ hh_ => XS.goto X0.here hx rfl (pc0 := 74) (pc' := 78) rfl (hb hby dX_74) (by decide) (by decide) hh_) ?_
          show own_Run p e below s _ _ _ (s₁.setTop (mkF m 78 #[.val (.int c1), .val (.long ((c1.toInt64) - (65 : Int64))), .second, .val (.int (0 : Int32)), .val (.long ((c1.toInt64) - (192 : Int64))), .second, .val (.int (0 : Int32)), .unset] [(.int (1 : Int32))]))
          refine own_of (fun _ hh_ => XS.istore X0.here hx rfl (hb hby dX_78) rfl (l' := #[.val (.int c1), .val (.long ((c1.toInt64) - (65 : Int64))), .second, .val (.int (0 : Int32)), .val (.long ((c1.toInt64) - (192 : Int64))), .second, .val (.int (0 : Int32)), .val (.int (1 : Int32))]) rfl hh_) ?_
          show own_Run p e below s _ _ _ (s₁.setTop (mkF m 80 #[.val (.int c1), .val (.long ((c1.toInt64) - (65 : Int64))), .second, .val (.int (0 : Int32)), .val (.long ((c1.toInt64) - (192 : Int64))), .second, .val (.int (0 : Int32)), .val (.int (1 : Int32))] []))
          refine own_of (fun _ hh_ => XS.iloadN X0.here hx rfl (hb hby dX_80) rfl hh_) ?_
          show own_Run p e below s _ _ _ (s₁.setTop (mkF m 81 #[.val (.int c1), .val (.long ((c1.toInt64) - (65 : Int64))), .second, .val (.int (0 : Int32)), .val (.long ((c1.toInt64) - (192 : Int64))), .second, .val (.int (0 : Int32)), .val (.int (1 : Int32))] [(.int (0 : Int32))]))
          refine own_of (fun _ hh_ => XS.ifNo X0.here hx rfl (hb hby dX_81) rfl ((if0 _ _).trans (by decide)) hh_) ?_
          show own_Run p e below s _ _ _ (s₁.setTop (mkF m 84 #[.val (.int c1), .val (.long ((c1.toInt64) - (65 : Int64))), .second, .val (.int (0 : Int32)), .val (.long ((c1.toInt64) - (192 : Int64))), .second, .val (.int (0 : Int32)), .val (.int (1 : Int32))] []))
          refine own_of (fun _ hh_ => XS.iload X0.here hx rfl (hb hby dX_84) rfl hh_) ?_
          show own_Run p e below s _ _ _ (s₁.setTop (mkF m 86 #[.val (.int c1), .val (.long ((c1.toInt64) - (65 : Int64))), .second, .val (.int (0 : Int32)), .val (.long ((c1.toInt64) - (192 : Int64))), .second, .val (.int (0 : Int32)), .val (.int (1 : Int32))] [(.int (0 : Int32))]))
          refine own_of (fun _ hh_ => XS.ifNo X0.here hx rfl (hb hby dX_86) rfl ((if0 _ _).trans (by decide)) hh_) ?_
          show own_Run p e below s _ _ _ (s₁.setTop (mkF m 89 #[.val (.int c1), .val (.long ((c1.toInt64) - (65 : Int64))), .second, .val (.int (0 : Int32)), .val (.long ((c1.toInt64) - (192 : Int64))), .second, .val (.int (0 : Int32)), .val (.int (1 : Int32))] []))
          refine own_of (fun _ hh_ => XS.iload X0.here hx rfl (hb hby dX_89) rfl hh_) ?_
          show own_Run p e below s _ _ _ (s₁.setTop (mkF m 91 #[.val (.int c1), .val (.long ((c1.toInt64) - (65 : Int64))), .second, .val (.int (0 : Int32)), .val (.long ((c1.toInt64) - (192 : Int64))), .second, .val (.int (0 : Int32)), .val (.int (1 : Int32))] [(.int (1 : Int32))]))
          refine own_of (fun _ hh_ => XS.ifNo X0.here hx rfl (hb hby dX_91) rfl ((if0 _ _).trans (by decide)) hh_) ?_
          show own_Run p e below s _ _ _ (s₁.setTop (mkF m 94 #[.val (.int c1), .val (.long ((c1.toInt64) - (65 : Int64))), .second, .val (.int (0 : Int32)), .val (.long ((c1.toInt64) - (192 : Int64))), .second, .val (.int (0 : Int32)), .val (.int (1 : Int32))] []))
          refine own_of (fun _ hh_ => XS.iconst X0.here hx rfl (hb hby dX_94) hh_) ?_
          show own_Run p e below s _ _ _ (s₁.setTop (mkF m 95 #[.val (.int c1), .val (.long ((c1.toInt64) - (65 : Int64))), .second, .val (.int (0 : Int32)), .val (.long ((c1.toInt64) - (192 : Int64))), .second, .val (.int (0 : Int32)), .val (.int (1 : Int32))] [(.int (1 : Int32))]))
          refine own_of (fun _ hh_ => XS.goto X0.here hx rfl (pc0 := 95) (pc' := 99) rfl (hb hby dX_95) (by decide) (by decide) hh_) ?_
          show own_Run p e below s _ _ _ (s₁.setTop (mkF m 99 #[.val (.int c1), .val (.long ((c1.toInt64) - (65 : Int64))), .second, .val (.int (0 : Int32)), .val (.long ((c1.toInt64) - (192 : Int64))), .second, .val (.int (0 : Int32)), .val (.int (1 : Int32))] [(.int (1 : Int32))]))
          exact own_retN X0 hx (t := .boolean) hret hlk (by simp) (hb hby dX_99) ⟨by rw [if_pos (show own_S c1 from by have a_hc10_1 := Int64.lt_iff_toInt_lt.mp hc10_1; have a_hc39_2 := mt Int64.lt_iff_toInt_lt.mpr hc39_2; have a_hc48_4 := Int64.lt_iff_toInt_lt.mp hc48_4; have a_hc70_5 := Int32.toInt_inj.mpr hc70_5; have l_0 : (65 : Int64).toInt = 65 := rfl; have l_1 : (0 : Int64).toInt = 0 := rfl; have l_2 : (192 : Int64).toInt = 192 := rfl; have l_3 : (30 : Int64).toInt = 30 := rfl; have l_4 : (95 : Int32).toInt = 95 := rfl; omega)]; rfl, N0, e0⟩ (by decide) (by decide)
        · refine own_of (fun _ hh_ => XS.icmpYes X0.here hx rfl (pc0 := 70) (pc' := 77) rfl (hb hby dX_70) rfl (feq hc70_5).2 (by decide) (by decide) hh_) ?_
          show own_Run p e below s _ _ _ (s₁.setTop (mkF m 77 #[.val (.int c1), .val (.long ((c1.toInt64) - (65 : Int64))), .second, .val (.int (0 : Int32)), .val (.long ((c1.toInt64) - (192 : Int64))), .second, .val (.int (0 : Int32)), .unset] []))
          refine own_of (fun _ hh_ => XS.iconst X0.here hx rfl (hb hby dX_77) hh_) ?_
          show own_Run p e below s _ _ _ (s₁.setTop (mkF m 78 #[.val (.int c1), .val (.long ((c1.toInt64) - (65 : Int64))), .second, .val (.int (0 : Int32)), .val (.long ((c1.toInt64) - (192 : Int64))), .second, .val (.int (0 : Int32)), .unset] [(.int (0 : Int32))]))
          refine own_of (fun _ hh_ => XS.istore X0.here hx rfl (hb hby dX_78) rfl (l' := #[.val (.int c1), .val (.long ((c1.toInt64) - (65 : Int64))), .second, .val (.int (0 : Int32)), .val (.long ((c1.toInt64) - (192 : Int64))), .second, .val (.int (0 : Int32)), .val (.int (0 : Int32))]) rfl hh_) ?_
          show own_Run p e below s _ _ _ (s₁.setTop (mkF m 80 #[.val (.int c1), .val (.long ((c1.toInt64) - (65 : Int64))), .second, .val (.int (0 : Int32)), .val (.long ((c1.toInt64) - (192 : Int64))), .second, .val (.int (0 : Int32)), .val (.int (0 : Int32))] []))
          refine own_of (fun _ hh_ => XS.iloadN X0.here hx rfl (hb hby dX_80) rfl hh_) ?_
          show own_Run p e below s _ _ _ (s₁.setTop (mkF m 81 #[.val (.int c1), .val (.long ((c1.toInt64) - (65 : Int64))), .second, .val (.int (0 : Int32)), .val (.long ((c1.toInt64) - (192 : Int64))), .second, .val (.int (0 : Int32)), .val (.int (0 : Int32))] [(.int (0 : Int32))]))
          refine own_of (fun _ hh_ => XS.ifNo X0.here hx rfl (hb hby dX_81) rfl ((if0 _ _).trans (by decide)) hh_) ?_
          show own_Run p e below s _ _ _ (s₁.setTop (mkF m 84 #[.val (.int c1), .val (.long ((c1.toInt64) - (65 : Int64))), .second, .val (.int (0 : Int32)), .val (.long ((c1.toInt64) - (192 : Int64))), .second, .val (.int (0 : Int32)), .val (.int (0 : Int32))] []))
          refine own_of (fun _ hh_ => XS.iload X0.here hx rfl (hb hby dX_84) rfl hh_) ?_
          show own_Run p e below s _ _ _ (s₁.setTop (mkF m 86 #[.val (.int c1), .val (.long ((c1.toInt64) - (65 : Int64))), .second, .val (.int (0 : Int32)), .val (.long ((c1.toInt64) - (192 : Int64))), .second, .val (.int (0 : Int32)), .val (.int (0 : Int32))] [(.int (0 : Int32))]))
          refine own_of (fun _ hh_ => XS.ifNo X0.here hx rfl (hb hby dX_86) rfl ((if0 _ _).trans (by decide)) hh_) ?_
          show own_Run p e below s _ _ _ (s₁.setTop (mkF m 89 #[.val (.int c1), .val (.long ((c1.toInt64) - (65 : Int64))), .second, .val (.int (0 : Int32)), .val (.long ((c1.toInt64) - (192 : Int64))), .second, .val (.int (0 : Int32)), .val (.int (0 : Int32))] []))
          refine own_of (fun _ hh_ => XS.iload X0.here hx rfl (hb hby dX_89) rfl hh_) ?_
          show own_Run p e below s _ _ _ (s₁.setTop (mkF m 91 #[.val (.int c1), .val (.long ((c1.toInt64) - (65 : Int64))), .second, .val (.int (0 : Int32)), .val (.long ((c1.toInt64) - (192 : Int64))), .second, .val (.int (0 : Int32)), .val (.int (0 : Int32))] [(.int (0 : Int32))]))
          refine own_of (fun _ hh_ => XS.ifYes X0.here hx rfl (pc0 := 91) (pc' := 98) rfl (hb hby dX_91) rfl ((if0 _ _).trans (by decide)) (by decide) (by decide) hh_) ?_
          show own_Run p e below s _ _ _ (s₁.setTop (mkF m 98 #[.val (.int c1), .val (.long ((c1.toInt64) - (65 : Int64))), .second, .val (.int (0 : Int32)), .val (.long ((c1.toInt64) - (192 : Int64))), .second, .val (.int (0 : Int32)), .val (.int (0 : Int32))] []))
          refine own_of (fun _ hh_ => XS.iconst X0.here hx rfl (hb hby dX_98) hh_) ?_
          show own_Run p e below s _ _ _ (s₁.setTop (mkF m 99 #[.val (.int c1), .val (.long ((c1.toInt64) - (65 : Int64))), .second, .val (.int (0 : Int32)), .val (.long ((c1.toInt64) - (192 : Int64))), .second, .val (.int (0 : Int32)), .val (.int (0 : Int32))] [(.int (0 : Int32))]))
          exact own_retN X0 hx (t := .boolean) hret hlk (by simp) (hb hby dX_99) ⟨by rw [if_neg (show ¬ (own_S c1) from by have a_hc10_1 := Int64.lt_iff_toInt_lt.mp hc10_1; have a_hc39_2 := mt Int64.lt_iff_toInt_lt.mpr hc39_2; have a_hc48_4 := Int64.lt_iff_toInt_lt.mp hc48_4; have a_hc70_5 := mt Int32.toInt_inj.mp hc70_5; have l_0 : (65 : Int64).toInt = 65 := rfl; have l_1 : (0 : Int64).toInt = 0 := rfl; have l_2 : (192 : Int64).toInt = 192 := rfl; have l_3 : (30 : Int64).toInt = 30 := rfl; have l_4 : (95 : Int32).toInt = 95 := rfl; omega)]; rfl, N0, e0⟩ (by decide) (by decide)
      · refine own_of (fun _ hh_ => XS.ifNo X0.here hx rfl (hb hby dX_48) rfl ((if0 _ _).trans (flt (fun q_ => hc48_4 ((lw_gt _ _).mp q_))).2.2.1) hh_) ?_
        show own_Run p e below s _ _ _ (s₁.setTop (mkF m 51 #[.val (.int c1), .val (.long ((c1.toInt64) - (65 : Int64))), .second, .val (.int (0 : Int32)), .val (.long ((c1.toInt64) - (192 : Int64))), .second, .unset, .unset] []))
        refine own_of (fun _ hh_ => XS.lload X0.here hx rfl (hb hby dX_51) rfl hh_) ?_
        show own_Run p e below s _ _ _ (s₁.setTop (mkF m 53 #[.val (.int c1), .val (.long ((c1.toInt64) - (65 : Int64))), .second, .val (.int (0 : Int32)), .val (.long ((c1.toInt64) - (192 : Int64))), .second, .unset, .unset] [(.long ((c1.toInt64) - (192 : Int64)))]))
        refine own_of (X0.ldc2Long hx hown (mvT hZ (hw _ (List.mem_of_getElem? (i := 15) rfl))) (g := (mkF m 53 #[.val (.int c1), .val (.long ((c1.toInt64) - (65 : Int64))), .second, .val (.int (0 : Int32)), .val (.long ((c1.toInt64) - (192 : Int64))), .second, .unset, .unset] [(.long ((c1.toInt64) - (192 : Int64)))])) rfl (hb hby dX_53)) ?_
        show own_Run p e below s _ _ _ (s₁.setTop (mkF m 56 #[.val (.int c1), .val (.long ((c1.toInt64) - (65 : Int64))), .second, .val (.int (0 : Int32)), .val (.long ((c1.toInt64) - (192 : Int64))), .second, .unset, .unset] [(.long (23 : Int64)), (.long ((c1.toInt64) - (192 : Int64)))]))
        refine own_of (fun _ hh_ => XS.lcmp X0.here hx rfl (hb hby dX_56) rfl hh_) ?_
        show own_Run p e below s _ _ _ (s₁.setTop (mkF m 57 #[.val (.int c1), .val (.long ((c1.toInt64) - (65 : Int64))), .second, .val (.int (0 : Int32)), .val (.long ((c1.toInt64) - (192 : Int64))), .second, .unset, .unset] [(.int (lcmpW ((c1.toInt64) - (192 : Int64)) (23 : Int64)))]))
        by_cases hc57_6 : ((c1.toInt64) - (192 : Int64)) = (23 : Int64)
        · refine own_of (fun _ hh_ => XS.ifYes X0.here hx rfl (pc0 := 57) (pc' := 64) rfl (hb hby dX_57) rfl ((if0 _ _).trans (teq ((lw_eq _ _).mpr hc57_6)).1) (by decide) (by decide) hh_) ?_
          show own_Run p e below s _ _ _ (s₁.setTop (mkF m 64 #[.val (.int c1), .val (.long ((c1.toInt64) - (65 : Int64))), .second, .val (.int (0 : Int32)), .val (.long ((c1.toInt64) - (192 : Int64))), .second, .unset, .unset] []))
          refine own_of (fun _ hh_ => XS.iconst X0.here hx rfl (hb hby dX_64) hh_) ?_
          show own_Run p e below s _ _ _ (s₁.setTop (mkF m 65 #[.val (.int c1), .val (.long ((c1.toInt64) - (65 : Int64))), .second, .val (.int (0 : Int32)), .val (.long ((c1.toInt64) - (192 : Int64))), .second, .unset, .unset] [(.int (0 : Int32))]))
          refine own_of (fun _ hh_ => XS.istore X0.here hx rfl (hb hby dX_65) rfl (l' := #[.val (.int c1), .val (.long ((c1.toInt64) - (65 : Int64))), .second, .val (.int (0 : Int32)), .val (.long ((c1.toInt64) - (192 : Int64))), .second, .val (.int (0 : Int32)), .unset]) rfl hh_) ?_
          show own_Run p e below s _ _ _ (s₁.setTop (mkF m 67 #[.val (.int c1), .val (.long ((c1.toInt64) - (65 : Int64))), .second, .val (.int (0 : Int32)), .val (.long ((c1.toInt64) - (192 : Int64))), .second, .val (.int (0 : Int32)), .unset] []))
          refine own_of (fun _ hh_ => XS.iloadN X0.here hx rfl (hb hby dX_67) rfl hh_) ?_
          show own_Run p e below s _ _ _ (s₁.setTop (mkF m 68 #[.val (.int c1), .val (.long ((c1.toInt64) - (65 : Int64))), .second, .val (.int (0 : Int32)), .val (.long ((c1.toInt64) - (192 : Int64))), .second, .val (.int (0 : Int32)), .unset] [(.int c1)]))
          refine own_of (fun _ hh_ => XS.bipush X0.here hx rfl (hb hby dX_68) hh_) ?_
          show own_Run p e below s _ _ _ (s₁.setTop (mkF m 70 #[.val (.int c1), .val (.long ((c1.toInt64) - (65 : Int64))), .second, .val (.int (0 : Int32)), .val (.long ((c1.toInt64) - (192 : Int64))), .second, .val (.int (0 : Int32)), .unset] [(.int (95 : Int32)), (.int c1)]))
          by_cases hc70_7 : c1 = (95 : Int32)
          · refine own_of (fun _ hh_ => XS.icmpNo X0.here hx rfl (hb hby dX_70) rfl (teq hc70_7).2 hh_) ?_
            show own_Run p e below s _ _ _ (s₁.setTop (mkF m 73 #[.val (.int c1), .val (.long ((c1.toInt64) - (65 : Int64))), .second, .val (.int (0 : Int32)), .val (.long ((c1.toInt64) - (192 : Int64))), .second, .val (.int (0 : Int32)), .unset] []))
            refine own_of (fun _ hh_ => XS.iconst X0.here hx rfl (hb hby dX_73) hh_) ?_
            show own_Run p e below s _ _ _ (s₁.setTop (mkF m 74 #[.val (.int c1), .val (.long ((c1.toInt64) - (65 : Int64))), .second, .val (.int (0 : Int32)), .val (.long ((c1.toInt64) - (192 : Int64))), .second, .val (.int (0 : Int32)), .unset] [(.int (1 : Int32))]))
            refine own_of (fun _ hh_ => XS.goto X0.here hx rfl (pc0 := 74) (pc' := 78) rfl (hb hby dX_74) (by decide) (by decide) hh_) ?_
            show own_Run p e below s _ _ _ (s₁.setTop (mkF m 78 #[.val (.int c1), .val (.long ((c1.toInt64) - (65 : Int64))), .second, .val (.int (0 : Int32)), .val (.long ((c1.toInt64) - (192 : Int64))), .second, .val (.int (0 : Int32)), .unset] [(.int (1 : Int32))]))
            refine own_of (fun _ hh_ => XS.istore X0.here hx rfl (hb hby dX_78) rfl (l' := #[.val (.int c1), .val (.long ((c1.toInt64) - (65 : Int64))), .second, .val (.int (0 : Int32)), .val (.long ((c1.toInt64) - (192 : Int64))), .second, .val (.int (0 : Int32)), .val (.int (1 : Int32))]) rfl hh_) ?_
            show own_Run p e below s _ _ _ (s₁.setTop (mkF m 80 #[.val (.int c1), .val (.long ((c1.toInt64) - (65 : Int64))), .second, .val (.int (0 : Int32)), .val (.long ((c1.toInt64) - (192 : Int64))), .second, .val (.int (0 : Int32)), .val (.int (1 : Int32))] []))
            refine own_of (fun _ hh_ => XS.iloadN X0.here hx rfl (hb hby dX_80) rfl hh_) ?_
            show own_Run p e below s _ _ _ (s₁.setTop (mkF m 81 #[.val (.int c1), .val (.long ((c1.toInt64) - (65 : Int64))), .second, .val (.int (0 : Int32)), .val (.long ((c1.toInt64) - (192 : Int64))), .second, .val (.int (0 : Int32)), .val (.int (1 : Int32))] [(.int (0 : Int32))]))
            refine own_of (fun _ hh_ => XS.ifNo X0.here hx rfl (hb hby dX_81) rfl ((if0 _ _).trans (by decide)) hh_) ?_
            show own_Run p e below s _ _ _ (s₁.setTop (mkF m 84 #[.val (.int c1), .val (.long ((c1.toInt64) - (65 : Int64))), .second, .val (.int (0 : Int32)), .val (.long ((c1.toInt64) - (192 : Int64))), .second, .val (.int (0 : Int32)), .val (.int (1 : Int32))] []))
            refine own_of (fun _ hh_ => XS.iload X0.here hx rfl (hb hby dX_84) rfl hh_) ?_
            show own_Run p e below s _ _ _ (s₁.setTop (mkF m 86 #[.val (.int c1), .val (.long ((c1.toInt64) - (65 : Int64))), .second, .val (.int (0 : Int32)), .val (.long ((c1.toInt64) - (192 : Int64))), .second, .val (.int (0 : Int32)), .val (.int (1 : Int32))] [(.int (0 : Int32))]))
            refine own_of (fun _ hh_ => XS.ifNo X0.here hx rfl (hb hby dX_86) rfl ((if0 _ _).trans (by decide)) hh_) ?_
            show own_Run p e below s _ _ _ (s₁.setTop (mkF m 89 #[.val (.int c1), .val (.long ((c1.toInt64) - (65 : Int64))), .second, .val (.int (0 : Int32)), .val (.long ((c1.toInt64) - (192 : Int64))), .second, .val (.int (0 : Int32)), .val (.int (1 : Int32))] []))
            refine own_of (fun _ hh_ => XS.iload X0.here hx rfl (hb hby dX_89) rfl hh_) ?_
            show own_Run p e below s _ _ _ (s₁.setTop (mkF m 91 #[.val (.int c1), .val (.long ((c1.toInt64) - (65 : Int64))), .second, .val (.int (0 : Int32)), .val (.long ((c1.toInt64) - (192 : Int64))), .second, .val (.int (0 : Int32)), .val (.int (1 : Int32))] [(.int (1 : Int32))]))
            refine own_of (fun _ hh_ => XS.ifNo X0.here hx rfl (hb hby dX_91) rfl ((if0 _ _).trans (by decide)) hh_) ?_
            show own_Run p e below s _ _ _ (s₁.setTop (mkF m 94 #[.val (.int c1), .val (.long ((c1.toInt64) - (65 : Int64))), .second, .val (.int (0 : Int32)), .val (.long ((c1.toInt64) - (192 : Int64))), .second, .val (.int (0 : Int32)), .val (.int (1 : Int32))] []))
            refine own_of (fun _ hh_ => XS.iconst X0.here hx rfl (hb hby dX_94) hh_) ?_
            show own_Run p e below s _ _ _ (s₁.setTop (mkF m 95 #[.val (.int c1), .val (.long ((c1.toInt64) - (65 : Int64))), .second, .val (.int (0 : Int32)), .val (.long ((c1.toInt64) - (192 : Int64))), .second, .val (.int (0 : Int32)), .val (.int (1 : Int32))] [(.int (1 : Int32))]))
            refine own_of (fun _ hh_ => XS.goto X0.here hx rfl (pc0 := 95) (pc' := 99) rfl (hb hby dX_95) (by decide) (by decide) hh_) ?_
            show own_Run p e below s _ _ _ (s₁.setTop (mkF m 99 #[.val (.int c1), .val (.long ((c1.toInt64) - (65 : Int64))), .second, .val (.int (0 : Int32)), .val (.long ((c1.toInt64) - (192 : Int64))), .second, .val (.int (0 : Int32)), .val (.int (1 : Int32))] [(.int (1 : Int32))]))
            exact own_retN X0 hx (t := .boolean) hret hlk (by simp) (hb hby dX_99) ⟨by rw [if_pos (show own_S c1 from by have a_hc10_1 := Int64.lt_iff_toInt_lt.mp hc10_1; have a_hc39_2 := mt Int64.lt_iff_toInt_lt.mpr hc39_2; have a_hc48_4 := mt Int64.lt_iff_toInt_lt.mpr hc48_4; have a_hc57_6 := Int64.toInt_inj.mpr hc57_6; have a_hc70_7 := Int32.toInt_inj.mpr hc70_7; have l_0 : (65 : Int64).toInt = 65 := rfl; have l_1 : (0 : Int64).toInt = 0 := rfl; have l_2 : (192 : Int64).toInt = 192 := rfl; have l_3 : (30 : Int64).toInt = 30 := rfl; have l_4 : (23 : Int64).toInt = 23 := rfl; have l_5 : (95 : Int32).toInt = 95 := rfl; omega)]; rfl, N0, e0⟩ (by decide) (by decide)
          · refine own_of (fun _ hh_ => XS.icmpYes X0.here hx rfl (pc0 := 70) (pc' := 77) rfl (hb hby dX_70) rfl (feq hc70_7).2 (by decide) (by decide) hh_) ?_
            show own_Run p e below s _ _ _ (s₁.setTop (mkF m 77 #[.val (.int c1), .val (.long ((c1.toInt64) - (65 : Int64))), .second, .val (.int (0 : Int32)), .val (.long ((c1.toInt64) - (192 : Int64))), .second, .val (.int (0 : Int32)), .unset] []))
            refine own_of (fun _ hh_ => XS.iconst X0.here hx rfl (hb hby dX_77) hh_) ?_
            show own_Run p e below s _ _ _ (s₁.setTop (mkF m 78 #[.val (.int c1), .val (.long ((c1.toInt64) - (65 : Int64))), .second, .val (.int (0 : Int32)), .val (.long ((c1.toInt64) - (192 : Int64))), .second, .val (.int (0 : Int32)), .unset] [(.int (0 : Int32))]))
            refine own_of (fun _ hh_ => XS.istore X0.here hx rfl (hb hby dX_78) rfl (l' := #[.val (.int c1), .val (.long ((c1.toInt64) - (65 : Int64))), .second, .val (.int (0 : Int32)), .val (.long ((c1.toInt64) - (192 : Int64))), .second, .val (.int (0 : Int32)), .val (.int (0 : Int32))]) rfl hh_) ?_
            show own_Run p e below s _ _ _ (s₁.setTop (mkF m 80 #[.val (.int c1), .val (.long ((c1.toInt64) - (65 : Int64))), .second, .val (.int (0 : Int32)), .val (.long ((c1.toInt64) - (192 : Int64))), .second, .val (.int (0 : Int32)), .val (.int (0 : Int32))] []))
            refine own_of (fun _ hh_ => XS.iloadN X0.here hx rfl (hb hby dX_80) rfl hh_) ?_
            show own_Run p e below s _ _ _ (s₁.setTop (mkF m 81 #[.val (.int c1), .val (.long ((c1.toInt64) - (65 : Int64))), .second, .val (.int (0 : Int32)), .val (.long ((c1.toInt64) - (192 : Int64))), .second, .val (.int (0 : Int32)), .val (.int (0 : Int32))] [(.int (0 : Int32))]))
            refine own_of (fun _ hh_ => XS.ifNo X0.here hx rfl (hb hby dX_81) rfl ((if0 _ _).trans (by decide)) hh_) ?_
            show own_Run p e below s _ _ _ (s₁.setTop (mkF m 84 #[.val (.int c1), .val (.long ((c1.toInt64) - (65 : Int64))), .second, .val (.int (0 : Int32)), .val (.long ((c1.toInt64) - (192 : Int64))), .second, .val (.int (0 : Int32)), .val (.int (0 : Int32))] []))
            refine own_of (fun _ hh_ => XS.iload X0.here hx rfl (hb hby dX_84) rfl hh_) ?_
            show own_Run p e below s _ _ _ (s₁.setTop (mkF m 86 #[.val (.int c1), .val (.long ((c1.toInt64) - (65 : Int64))), .second, .val (.int (0 : Int32)), .val (.long ((c1.toInt64) - (192 : Int64))), .second, .val (.int (0 : Int32)), .val (.int (0 : Int32))] [(.int (0 : Int32))]))
            refine own_of (fun _ hh_ => XS.ifNo X0.here hx rfl (hb hby dX_86) rfl ((if0 _ _).trans (by decide)) hh_) ?_
            show own_Run p e below s _ _ _ (s₁.setTop (mkF m 89 #[.val (.int c1), .val (.long ((c1.toInt64) - (65 : Int64))), .second, .val (.int (0 : Int32)), .val (.long ((c1.toInt64) - (192 : Int64))), .second, .val (.int (0 : Int32)), .val (.int (0 : Int32))] []))
            refine own_of (fun _ hh_ => XS.iload X0.here hx rfl (hb hby dX_89) rfl hh_) ?_
            show own_Run p e below s _ _ _ (s₁.setTop (mkF m 91 #[.val (.int c1), .val (.long ((c1.toInt64) - (65 : Int64))), .second, .val (.int (0 : Int32)), .val (.long ((c1.toInt64) - (192 : Int64))), .second, .val (.int (0 : Int32)), .val (.int (0 : Int32))] [(.int (0 : Int32))]))
            refine own_of (fun _ hh_ => XS.ifYes X0.here hx rfl (pc0 := 91) (pc' := 98) rfl (hb hby dX_91) rfl ((if0 _ _).trans (by decide)) (by decide) (by decide) hh_) ?_
            show own_Run p e below s _ _ _ (s₁.setTop (mkF m 98 #[.val (.int c1), .val (.long ((c1.toInt64) - (65 : Int64))), .second, .val (.int (0 : Int32)), .val (.long ((c1.toInt64) - (192 : Int64))), .second, .val (.int (0 : Int32)), .val (.int (0 : Int32))] []))
            refine own_of (fun _ hh_ => XS.iconst X0.here hx rfl (hb hby dX_98) hh_) ?_
            show own_Run p e below s _ _ _ (s₁.setTop (mkF m 99 #[.val (.int c1), .val (.long ((c1.toInt64) - (65 : Int64))), .second, .val (.int (0 : Int32)), .val (.long ((c1.toInt64) - (192 : Int64))), .second, .val (.int (0 : Int32)), .val (.int (0 : Int32))] [(.int (0 : Int32))]))
            exact own_retN X0 hx (t := .boolean) hret hlk (by simp) (hb hby dX_99) ⟨by rw [if_neg (show ¬ (own_S c1) from by have a_hc10_1 := Int64.lt_iff_toInt_lt.mp hc10_1; have a_hc39_2 := mt Int64.lt_iff_toInt_lt.mpr hc39_2; have a_hc48_4 := mt Int64.lt_iff_toInt_lt.mpr hc48_4; have a_hc57_6 := Int64.toInt_inj.mpr hc57_6; have a_hc70_7 := mt Int32.toInt_inj.mp hc70_7; have l_0 : (65 : Int64).toInt = 65 := rfl; have l_1 : (0 : Int64).toInt = 0 := rfl; have l_2 : (192 : Int64).toInt = 192 := rfl; have l_3 : (30 : Int64).toInt = 30 := rfl; have l_4 : (23 : Int64).toInt = 23 := rfl; have l_5 : (95 : Int32).toInt = 95 := rfl; omega)]; rfl, N0, e0⟩ (by decide) (by decide)
        · refine own_of (fun _ hh_ => XS.ifNo X0.here hx rfl (hb hby dX_57) rfl ((if0 _ _).trans (feq (fun q_ => hc57_6 ((lw_eq _ _).mp q_))).1) hh_) ?_
          show own_Run p e below s _ _ _ (s₁.setTop (mkF m 60 #[.val (.int c1), .val (.long ((c1.toInt64) - (65 : Int64))), .second, .val (.int (0 : Int32)), .val (.long ((c1.toInt64) - (192 : Int64))), .second, .unset, .unset] []))
          refine own_of (fun _ hh_ => XS.iconst X0.here hx rfl (hb hby dX_60) hh_) ?_
          show own_Run p e below s _ _ _ (s₁.setTop (mkF m 61 #[.val (.int c1), .val (.long ((c1.toInt64) - (65 : Int64))), .second, .val (.int (0 : Int32)), .val (.long ((c1.toInt64) - (192 : Int64))), .second, .unset, .unset] [(.int (1 : Int32))]))
          refine own_of (fun _ hh_ => XS.goto X0.here hx rfl (pc0 := 61) (pc' := 65) rfl (hb hby dX_61) (by decide) (by decide) hh_) ?_
          show own_Run p e below s _ _ _ (s₁.setTop (mkF m 65 #[.val (.int c1), .val (.long ((c1.toInt64) - (65 : Int64))), .second, .val (.int (0 : Int32)), .val (.long ((c1.toInt64) - (192 : Int64))), .second, .unset, .unset] [(.int (1 : Int32))]))
          refine own_of (fun _ hh_ => XS.istore X0.here hx rfl (hb hby dX_65) rfl (l' := #[.val (.int c1), .val (.long ((c1.toInt64) - (65 : Int64))), .second, .val (.int (0 : Int32)), .val (.long ((c1.toInt64) - (192 : Int64))), .second, .val (.int (1 : Int32)), .unset]) rfl hh_) ?_
          show own_Run p e below s _ _ _ (s₁.setTop (mkF m 67 #[.val (.int c1), .val (.long ((c1.toInt64) - (65 : Int64))), .second, .val (.int (0 : Int32)), .val (.long ((c1.toInt64) - (192 : Int64))), .second, .val (.int (1 : Int32)), .unset] []))
          refine own_of (fun _ hh_ => XS.iloadN X0.here hx rfl (hb hby dX_67) rfl hh_) ?_
          show own_Run p e below s _ _ _ (s₁.setTop (mkF m 68 #[.val (.int c1), .val (.long ((c1.toInt64) - (65 : Int64))), .second, .val (.int (0 : Int32)), .val (.long ((c1.toInt64) - (192 : Int64))), .second, .val (.int (1 : Int32)), .unset] [(.int c1)]))
          refine own_of (fun _ hh_ => XS.bipush X0.here hx rfl (hb hby dX_68) hh_) ?_
          show own_Run p e below s _ _ _ (s₁.setTop (mkF m 70 #[.val (.int c1), .val (.long ((c1.toInt64) - (65 : Int64))), .second, .val (.int (0 : Int32)), .val (.long ((c1.toInt64) - (192 : Int64))), .second, .val (.int (1 : Int32)), .unset] [(.int (95 : Int32)), (.int c1)]))
          by_cases hc70_8 : c1 = (95 : Int32)
          · refine own_of (fun _ hh_ => XS.icmpNo X0.here hx rfl (hb hby dX_70) rfl (teq hc70_8).2 hh_) ?_
            show own_Run p e below s _ _ _ (s₁.setTop (mkF m 73 #[.val (.int c1), .val (.long ((c1.toInt64) - (65 : Int64))), .second, .val (.int (0 : Int32)), .val (.long ((c1.toInt64) - (192 : Int64))), .second, .val (.int (1 : Int32)), .unset] []))
            refine own_of (fun _ hh_ => XS.iconst X0.here hx rfl (hb hby dX_73) hh_) ?_
            show own_Run p e below s _ _ _ (s₁.setTop (mkF m 74 #[.val (.int c1), .val (.long ((c1.toInt64) - (65 : Int64))), .second, .val (.int (0 : Int32)), .val (.long ((c1.toInt64) - (192 : Int64))), .second, .val (.int (1 : Int32)), .unset] [(.int (1 : Int32))]))
            refine own_of (fun _ hh_ => XS.goto X0.here hx rfl (pc0 := 74) (pc' := 78) rfl (hb hby dX_74) (by decide) (by decide) hh_) ?_
            show own_Run p e below s _ _ _ (s₁.setTop (mkF m 78 #[.val (.int c1), .val (.long ((c1.toInt64) - (65 : Int64))), .second, .val (.int (0 : Int32)), .val (.long ((c1.toInt64) - (192 : Int64))), .second, .val (.int (1 : Int32)), .unset] [(.int (1 : Int32))]))
            refine own_of (fun _ hh_ => XS.istore X0.here hx rfl (hb hby dX_78) rfl (l' := #[.val (.int c1), .val (.long ((c1.toInt64) - (65 : Int64))), .second, .val (.int (0 : Int32)), .val (.long ((c1.toInt64) - (192 : Int64))), .second, .val (.int (1 : Int32)), .val (.int (1 : Int32))]) rfl hh_) ?_
            show own_Run p e below s _ _ _ (s₁.setTop (mkF m 80 #[.val (.int c1), .val (.long ((c1.toInt64) - (65 : Int64))), .second, .val (.int (0 : Int32)), .val (.long ((c1.toInt64) - (192 : Int64))), .second, .val (.int (1 : Int32)), .val (.int (1 : Int32))] []))
            refine own_of (fun _ hh_ => XS.iloadN X0.here hx rfl (hb hby dX_80) rfl hh_) ?_
            show own_Run p e below s _ _ _ (s₁.setTop (mkF m 81 #[.val (.int c1), .val (.long ((c1.toInt64) - (65 : Int64))), .second, .val (.int (0 : Int32)), .val (.long ((c1.toInt64) - (192 : Int64))), .second, .val (.int (1 : Int32)), .val (.int (1 : Int32))] [(.int (0 : Int32))]))
            refine own_of (fun _ hh_ => XS.ifNo X0.here hx rfl (hb hby dX_81) rfl ((if0 _ _).trans (by decide)) hh_) ?_
            show own_Run p e below s _ _ _ (s₁.setTop (mkF m 84 #[.val (.int c1), .val (.long ((c1.toInt64) - (65 : Int64))), .second, .val (.int (0 : Int32)), .val (.long ((c1.toInt64) - (192 : Int64))), .second, .val (.int (1 : Int32)), .val (.int (1 : Int32))] []))
            refine own_of (fun _ hh_ => XS.iload X0.here hx rfl (hb hby dX_84) rfl hh_) ?_
            show own_Run p e below s _ _ _ (s₁.setTop (mkF m 86 #[.val (.int c1), .val (.long ((c1.toInt64) - (65 : Int64))), .second, .val (.int (0 : Int32)), .val (.long ((c1.toInt64) - (192 : Int64))), .second, .val (.int (1 : Int32)), .val (.int (1 : Int32))] [(.int (1 : Int32))]))
            refine own_of (fun _ hh_ => XS.ifYes X0.here hx rfl (pc0 := 86) (pc' := 94) rfl (hb hby dX_86) rfl ((if0 _ _).trans (by decide)) (by decide) (by decide) hh_) ?_
            show own_Run p e below s _ _ _ (s₁.setTop (mkF m 94 #[.val (.int c1), .val (.long ((c1.toInt64) - (65 : Int64))), .second, .val (.int (0 : Int32)), .val (.long ((c1.toInt64) - (192 : Int64))), .second, .val (.int (1 : Int32)), .val (.int (1 : Int32))] []))
            refine own_of (fun _ hh_ => XS.iconst X0.here hx rfl (hb hby dX_94) hh_) ?_
            show own_Run p e below s _ _ _ (s₁.setTop (mkF m 95 #[.val (.int c1), .val (.long ((c1.toInt64) - (65 : Int64))), .second, .val (.int (0 : Int32)), .val (.long ((c1.toInt64) - (192 : Int64))), .second, .val (.int (1 : Int32)), .val (.int (1 : Int32))] [(.int (1 : Int32))]))
            refine own_of (fun _ hh_ => XS.goto X0.here hx rfl (pc0 := 95) (pc' := 99) rfl (hb hby dX_95) (by decide) (by decide) hh_) ?_
            show own_Run p e below s _ _ _ (s₁.setTop (mkF m 99 #[.val (.int c1), .val (.long ((c1.toInt64) - (65 : Int64))), .second, .val (.int (0 : Int32)), .val (.long ((c1.toInt64) - (192 : Int64))), .second, .val (.int (1 : Int32)), .val (.int (1 : Int32))] [(.int (1 : Int32))]))
            exact own_retN X0 hx (t := .boolean) hret hlk (by simp) (hb hby dX_99) ⟨by rw [if_pos (show own_S c1 from by have a_hc10_1 := Int64.lt_iff_toInt_lt.mp hc10_1; have a_hc39_2 := mt Int64.lt_iff_toInt_lt.mpr hc39_2; have a_hc48_4 := mt Int64.lt_iff_toInt_lt.mpr hc48_4; have a_hc57_6 := mt Int64.toInt_inj.mp hc57_6; have a_hc70_8 := Int32.toInt_inj.mpr hc70_8; have l_0 : (65 : Int64).toInt = 65 := rfl; have l_1 : (0 : Int64).toInt = 0 := rfl; have l_2 : (192 : Int64).toInt = 192 := rfl; have l_3 : (30 : Int64).toInt = 30 := rfl; have l_4 : (23 : Int64).toInt = 23 := rfl; have l_5 : (95 : Int32).toInt = 95 := rfl; omega)]; rfl, N0, e0⟩ (by decide) (by decide)
          · refine own_of (fun _ hh_ => XS.icmpYes X0.here hx rfl (pc0 := 70) (pc' := 77) rfl (hb hby dX_70) rfl (feq hc70_8).2 (by decide) (by decide) hh_) ?_
            show own_Run p e below s _ _ _ (s₁.setTop (mkF m 77 #[.val (.int c1), .val (.long ((c1.toInt64) - (65 : Int64))), .second, .val (.int (0 : Int32)), .val (.long ((c1.toInt64) - (192 : Int64))), .second, .val (.int (1 : Int32)), .unset] []))
            refine own_of (fun _ hh_ => XS.iconst X0.here hx rfl (hb hby dX_77) hh_) ?_
            show own_Run p e below s _ _ _ (s₁.setTop (mkF m 78 #[.val (.int c1), .val (.long ((c1.toInt64) - (65 : Int64))), .second, .val (.int (0 : Int32)), .val (.long ((c1.toInt64) - (192 : Int64))), .second, .val (.int (1 : Int32)), .unset] [(.int (0 : Int32))]))
            refine own_of (fun _ hh_ => XS.istore X0.here hx rfl (hb hby dX_78) rfl (l' := #[.val (.int c1), .val (.long ((c1.toInt64) - (65 : Int64))), .second, .val (.int (0 : Int32)), .val (.long ((c1.toInt64) - (192 : Int64))), .second, .val (.int (1 : Int32)), .val (.int (0 : Int32))]) rfl hh_) ?_
            show own_Run p e below s _ _ _ (s₁.setTop (mkF m 80 #[.val (.int c1), .val (.long ((c1.toInt64) - (65 : Int64))), .second, .val (.int (0 : Int32)), .val (.long ((c1.toInt64) - (192 : Int64))), .second, .val (.int (1 : Int32)), .val (.int (0 : Int32))] []))
            refine own_of (fun _ hh_ => XS.iloadN X0.here hx rfl (hb hby dX_80) rfl hh_) ?_
            show own_Run p e below s _ _ _ (s₁.setTop (mkF m 81 #[.val (.int c1), .val (.long ((c1.toInt64) - (65 : Int64))), .second, .val (.int (0 : Int32)), .val (.long ((c1.toInt64) - (192 : Int64))), .second, .val (.int (1 : Int32)), .val (.int (0 : Int32))] [(.int (0 : Int32))]))
            refine own_of (fun _ hh_ => XS.ifNo X0.here hx rfl (hb hby dX_81) rfl ((if0 _ _).trans (by decide)) hh_) ?_
            show own_Run p e below s _ _ _ (s₁.setTop (mkF m 84 #[.val (.int c1), .val (.long ((c1.toInt64) - (65 : Int64))), .second, .val (.int (0 : Int32)), .val (.long ((c1.toInt64) - (192 : Int64))), .second, .val (.int (1 : Int32)), .val (.int (0 : Int32))] []))
            refine own_of (fun _ hh_ => XS.iload X0.here hx rfl (hb hby dX_84) rfl hh_) ?_
            show own_Run p e below s _ _ _ (s₁.setTop (mkF m 86 #[.val (.int c1), .val (.long ((c1.toInt64) - (65 : Int64))), .second, .val (.int (0 : Int32)), .val (.long ((c1.toInt64) - (192 : Int64))), .second, .val (.int (1 : Int32)), .val (.int (0 : Int32))] [(.int (1 : Int32))]))
            refine own_of (fun _ hh_ => XS.ifYes X0.here hx rfl (pc0 := 86) (pc' := 94) rfl (hb hby dX_86) rfl ((if0 _ _).trans (by decide)) (by decide) (by decide) hh_) ?_
            show own_Run p e below s _ _ _ (s₁.setTop (mkF m 94 #[.val (.int c1), .val (.long ((c1.toInt64) - (65 : Int64))), .second, .val (.int (0 : Int32)), .val (.long ((c1.toInt64) - (192 : Int64))), .second, .val (.int (1 : Int32)), .val (.int (0 : Int32))] []))
            refine own_of (fun _ hh_ => XS.iconst X0.here hx rfl (hb hby dX_94) hh_) ?_
            show own_Run p e below s _ _ _ (s₁.setTop (mkF m 95 #[.val (.int c1), .val (.long ((c1.toInt64) - (65 : Int64))), .second, .val (.int (0 : Int32)), .val (.long ((c1.toInt64) - (192 : Int64))), .second, .val (.int (1 : Int32)), .val (.int (0 : Int32))] [(.int (1 : Int32))]))
            refine own_of (fun _ hh_ => XS.goto X0.here hx rfl (pc0 := 95) (pc' := 99) rfl (hb hby dX_95) (by decide) (by decide) hh_) ?_
            show own_Run p e below s _ _ _ (s₁.setTop (mkF m 99 #[.val (.int c1), .val (.long ((c1.toInt64) - (65 : Int64))), .second, .val (.int (0 : Int32)), .val (.long ((c1.toInt64) - (192 : Int64))), .second, .val (.int (1 : Int32)), .val (.int (0 : Int32))] [(.int (1 : Int32))]))
            exact own_retN X0 hx (t := .boolean) hret hlk (by simp) (hb hby dX_99) ⟨by rw [if_pos (show own_S c1 from by have a_hc10_1 := Int64.lt_iff_toInt_lt.mp hc10_1; have a_hc39_2 := mt Int64.lt_iff_toInt_lt.mpr hc39_2; have a_hc48_4 := mt Int64.lt_iff_toInt_lt.mpr hc48_4; have a_hc57_6 := mt Int64.toInt_inj.mp hc57_6; have a_hc70_8 := mt Int32.toInt_inj.mp hc70_8; have l_0 : (65 : Int64).toInt = 65 := rfl; have l_1 : (0 : Int64).toInt = 0 := rfl; have l_2 : (192 : Int64).toInt = 192 := rfl; have l_3 : (30 : Int64).toInt = 30 := rfl; have l_4 : (23 : Int64).toInt = 23 := rfl; have l_5 : (95 : Int32).toInt = 95 := rfl; omega)]; rfl, N0, e0⟩ (by decide) (by decide)
  · refine own_of (fun _ hh_ => XS.ifNo X0.here hx rfl (hb hby dX_10) rfl ((if0 _ _).trans (flt (fun q_ => hc10_1 ((lw_lt _ _).mp q_))).1) hh_) ?_
    show own_Run p e below s _ _ _ (s₁.setTop (mkF m 13 #[.val (.int c1), .val (.long ((c1.toInt64) - (65 : Int64))), .second, .unset, .unset, .unset, .unset, .unset] []))
    refine own_of (fun _ hh_ => XS.lloadN X0.here hx rfl (hb hby dX_13) rfl hh_) ?_
    show own_Run p e below s _ _ _ (s₁.setTop (mkF m 14 #[.val (.int c1), .val (.long ((c1.toInt64) - (65 : Int64))), .second, .unset, .unset, .unset, .unset, .unset] [(.long ((c1.toInt64) - (65 : Int64)))]))
    refine own_of (X0.ldc2Long hx hown (mvT hZ (hw _ (List.mem_of_getElem? (i := 13) rfl))) (g := (mkF m 14 #[.val (.int c1), .val (.long ((c1.toInt64) - (65 : Int64))), .second, .unset, .unset, .unset, .unset, .unset] [(.long ((c1.toInt64) - (65 : Int64)))])) rfl (hb hby dX_14)) ?_
    show own_Run p e below s _ _ _ (s₁.setTop (mkF m 17 #[.val (.int c1), .val (.long ((c1.toInt64) - (65 : Int64))), .second, .unset, .unset, .unset, .unset, .unset] [(.long (25 : Int64)), (.long ((c1.toInt64) - (65 : Int64)))]))
    refine own_of (fun _ hh_ => XS.lcmp X0.here hx rfl (hb hby dX_17) rfl hh_) ?_
    show own_Run p e below s _ _ _ (s₁.setTop (mkF m 18 #[.val (.int c1), .val (.long ((c1.toInt64) - (65 : Int64))), .second, .unset, .unset, .unset, .unset, .unset] [(.int (lcmpW ((c1.toInt64) - (65 : Int64)) (25 : Int64)))]))
    by_cases hc18_9 : (25 : Int64) < ((c1.toInt64) - (65 : Int64))
    · refine own_of (fun _ hh_ => XS.ifYes X0.here hx rfl (pc0 := 18) (pc' := 25) rfl (hb hby dX_18) rfl ((if0 _ _).trans (tlt ((lw_gt _ _).mpr hc18_9)).2.2.1) (by decide) (by decide) hh_) ?_
      show own_Run p e below s _ _ _ (s₁.setTop (mkF m 25 #[.val (.int c1), .val (.long ((c1.toInt64) - (65 : Int64))), .second, .unset, .unset, .unset, .unset, .unset] []))
      refine own_of (fun _ hh_ => XS.iconst X0.here hx rfl (hb hby dX_25) hh_) ?_
      show own_Run p e below s _ _ _ (s₁.setTop (mkF m 26 #[.val (.int c1), .val (.long ((c1.toInt64) - (65 : Int64))), .second, .unset, .unset, .unset, .unset, .unset] [(.int (0 : Int32))]))
      refine own_of (fun _ hh_ => XS.istoreN X0.here hx rfl (hb hby dX_26) rfl (l' := #[.val (.int c1), .val (.long ((c1.toInt64) - (65 : Int64))), .second, .val (.int (0 : Int32)), .unset, .unset, .unset, .unset]) rfl hh_) ?_
      show own_Run p e below s _ _ _ (s₁.setTop (mkF m 27 #[.val (.int c1), .val (.long ((c1.toInt64) - (65 : Int64))), .second, .val (.int (0 : Int32)), .unset, .unset, .unset, .unset] []))
      refine own_of (fun _ hh_ => XS.iloadN X0.here hx rfl (hb hby dX_27) rfl hh_) ?_
      show own_Run p e below s _ _ _ (s₁.setTop (mkF m 28 #[.val (.int c1), .val (.long ((c1.toInt64) - (65 : Int64))), .second, .val (.int (0 : Int32)), .unset, .unset, .unset, .unset] [(.int c1)]))
      refine own_of (fun _ hh_ => XS.i2l X0.here hx rfl (hb hby dX_28) rfl hh_) ?_
      show own_Run p e below s _ _ _ (s₁.setTop (mkF m 29 #[.val (.int c1), .val (.long ((c1.toInt64) - (65 : Int64))), .second, .val (.int (0 : Int32)), .unset, .unset, .unset, .unset] [(.long (c1.toInt64))]))
      refine own_of (X0.ldc2Long hx hown (mvT hZ (hw _ (List.mem_of_getElem? (i := 12) rfl))) (g := (mkF m 29 #[.val (.int c1), .val (.long ((c1.toInt64) - (65 : Int64))), .second, .val (.int (0 : Int32)), .unset, .unset, .unset, .unset] [(.long (c1.toInt64))])) rfl (hb hby dX_29)) ?_
      show own_Run p e below s _ _ _ (s₁.setTop (mkF m 32 #[.val (.int c1), .val (.long ((c1.toInt64) - (65 : Int64))), .second, .val (.int (0 : Int32)), .unset, .unset, .unset, .unset] [(.long (192 : Int64)), (.long (c1.toInt64))]))
      refine own_of (fun _ hh_ => XS.lsub X0.here hx rfl (hb hby dX_32) rfl hh_) ?_
      show own_Run p e below s _ _ _ (s₁.setTop (mkF m 33 #[.val (.int c1), .val (.long ((c1.toInt64) - (65 : Int64))), .second, .val (.int (0 : Int32)), .unset, .unset, .unset, .unset] [(.long ((c1.toInt64) - (192 : Int64)))]))
      refine own_of (fun _ hh_ => XS.lstore X0.here hx rfl (hb hby dX_33) rfl (l' := #[.val (.int c1), .val (.long ((c1.toInt64) - (65 : Int64))), .second, .val (.int (0 : Int32)), .val (.long ((c1.toInt64) - (192 : Int64))), .second, .unset, .unset]) rfl hh_) ?_
      show own_Run p e below s _ _ _ (s₁.setTop (mkF m 35 #[.val (.int c1), .val (.long ((c1.toInt64) - (65 : Int64))), .second, .val (.int (0 : Int32)), .val (.long ((c1.toInt64) - (192 : Int64))), .second, .unset, .unset] []))
      refine own_of (fun _ hh_ => XS.lload X0.here hx rfl (hb hby dX_35) rfl hh_) ?_
      show own_Run p e below s _ _ _ (s₁.setTop (mkF m 37 #[.val (.int c1), .val (.long ((c1.toInt64) - (65 : Int64))), .second, .val (.int (0 : Int32)), .val (.long ((c1.toInt64) - (192 : Int64))), .second, .unset, .unset] [(.long ((c1.toInt64) - (192 : Int64)))]))
      refine own_of (fun _ hh_ => XS.lconst X0.here hx rfl (hb hby dX_37) hh_) ?_
      show own_Run p e below s _ _ _ (s₁.setTop (mkF m 38 #[.val (.int c1), .val (.long ((c1.toInt64) - (65 : Int64))), .second, .val (.int (0 : Int32)), .val (.long ((c1.toInt64) - (192 : Int64))), .second, .unset, .unset] [(.long (0 : Int64)), (.long ((c1.toInt64) - (192 : Int64)))]))
      refine own_of (fun _ hh_ => XS.lcmp X0.here hx rfl (hb hby dX_38) rfl hh_) ?_
      show own_Run p e below s _ _ _ (s₁.setTop (mkF m 39 #[.val (.int c1), .val (.long ((c1.toInt64) - (65 : Int64))), .second, .val (.int (0 : Int32)), .val (.long ((c1.toInt64) - (192 : Int64))), .second, .unset, .unset] [(.int (lcmpW ((c1.toInt64) - (192 : Int64)) (0 : Int64)))]))
      by_cases hc39_10 : ((c1.toInt64) - (192 : Int64)) < (0 : Int64)
      · refine own_of (fun _ hh_ => XS.ifYes X0.here hx rfl (pc0 := 39) (pc' := 64) rfl (hb hby dX_39) rfl ((if0 _ _).trans (tlt ((lw_lt _ _).mpr hc39_10)).1) (by decide) (by decide) hh_) ?_
        show own_Run p e below s _ _ _ (s₁.setTop (mkF m 64 #[.val (.int c1), .val (.long ((c1.toInt64) - (65 : Int64))), .second, .val (.int (0 : Int32)), .val (.long ((c1.toInt64) - (192 : Int64))), .second, .unset, .unset] []))
        refine own_of (fun _ hh_ => XS.iconst X0.here hx rfl (hb hby dX_64) hh_) ?_
        show own_Run p e below s _ _ _ (s₁.setTop (mkF m 65 #[.val (.int c1), .val (.long ((c1.toInt64) - (65 : Int64))), .second, .val (.int (0 : Int32)), .val (.long ((c1.toInt64) - (192 : Int64))), .second, .unset, .unset] [(.int (0 : Int32))]))
        refine own_of (fun _ hh_ => XS.istore X0.here hx rfl (hb hby dX_65) rfl (l' := #[.val (.int c1), .val (.long ((c1.toInt64) - (65 : Int64))), .second, .val (.int (0 : Int32)), .val (.long ((c1.toInt64) - (192 : Int64))), .second, .val (.int (0 : Int32)), .unset]) rfl hh_) ?_
        show own_Run p e below s _ _ _ (s₁.setTop (mkF m 67 #[.val (.int c1), .val (.long ((c1.toInt64) - (65 : Int64))), .second, .val (.int (0 : Int32)), .val (.long ((c1.toInt64) - (192 : Int64))), .second, .val (.int (0 : Int32)), .unset] []))
        refine own_of (fun _ hh_ => XS.iloadN X0.here hx rfl (hb hby dX_67) rfl hh_) ?_
        show own_Run p e below s _ _ _ (s₁.setTop (mkF m 68 #[.val (.int c1), .val (.long ((c1.toInt64) - (65 : Int64))), .second, .val (.int (0 : Int32)), .val (.long ((c1.toInt64) - (192 : Int64))), .second, .val (.int (0 : Int32)), .unset] [(.int c1)]))
        refine own_of (fun _ hh_ => XS.bipush X0.here hx rfl (hb hby dX_68) hh_) ?_
        show own_Run p e below s _ _ _ (s₁.setTop (mkF m 70 #[.val (.int c1), .val (.long ((c1.toInt64) - (65 : Int64))), .second, .val (.int (0 : Int32)), .val (.long ((c1.toInt64) - (192 : Int64))), .second, .val (.int (0 : Int32)), .unset] [(.int (95 : Int32)), (.int c1)]))
        by_cases hc70_11 : c1 = (95 : Int32)
        · refine own_of (fun _ hh_ => XS.icmpNo X0.here hx rfl (hb hby dX_70) rfl (teq hc70_11).2 hh_) ?_
          show own_Run p e below s _ _ _ (s₁.setTop (mkF m 73 #[.val (.int c1), .val (.long ((c1.toInt64) - (65 : Int64))), .second, .val (.int (0 : Int32)), .val (.long ((c1.toInt64) - (192 : Int64))), .second, .val (.int (0 : Int32)), .unset] []))
          refine own_of (fun _ hh_ => XS.iconst X0.here hx rfl (hb hby dX_73) hh_) ?_
          show own_Run p e below s _ _ _ (s₁.setTop (mkF m 74 #[.val (.int c1), .val (.long ((c1.toInt64) - (65 : Int64))), .second, .val (.int (0 : Int32)), .val (.long ((c1.toInt64) - (192 : Int64))), .second, .val (.int (0 : Int32)), .unset] [(.int (1 : Int32))]))
          refine own_of (fun _ hh_ => XS.goto X0.here hx rfl (pc0 := 74) (pc' := 78) rfl (hb hby dX_74) (by decide) (by decide) hh_) ?_
          show own_Run p e below s _ _ _ (s₁.setTop (mkF m 78 #[.val (.int c1), .val (.long ((c1.toInt64) - (65 : Int64))), .second, .val (.int (0 : Int32)), .val (.long ((c1.toInt64) - (192 : Int64))), .second, .val (.int (0 : Int32)), .unset] [(.int (1 : Int32))]))
          refine own_of (fun _ hh_ => XS.istore X0.here hx rfl (hb hby dX_78) rfl (l' := #[.val (.int c1), .val (.long ((c1.toInt64) - (65 : Int64))), .second, .val (.int (0 : Int32)), .val (.long ((c1.toInt64) - (192 : Int64))), .second, .val (.int (0 : Int32)), .val (.int (1 : Int32))]) rfl hh_) ?_
          show own_Run p e below s _ _ _ (s₁.setTop (mkF m 80 #[.val (.int c1), .val (.long ((c1.toInt64) - (65 : Int64))), .second, .val (.int (0 : Int32)), .val (.long ((c1.toInt64) - (192 : Int64))), .second, .val (.int (0 : Int32)), .val (.int (1 : Int32))] []))
          refine own_of (fun _ hh_ => XS.iloadN X0.here hx rfl (hb hby dX_80) rfl hh_) ?_
          show own_Run p e below s _ _ _ (s₁.setTop (mkF m 81 #[.val (.int c1), .val (.long ((c1.toInt64) - (65 : Int64))), .second, .val (.int (0 : Int32)), .val (.long ((c1.toInt64) - (192 : Int64))), .second, .val (.int (0 : Int32)), .val (.int (1 : Int32))] [(.int (0 : Int32))]))
          refine own_of (fun _ hh_ => XS.ifNo X0.here hx rfl (hb hby dX_81) rfl ((if0 _ _).trans (by decide)) hh_) ?_
          show own_Run p e below s _ _ _ (s₁.setTop (mkF m 84 #[.val (.int c1), .val (.long ((c1.toInt64) - (65 : Int64))), .second, .val (.int (0 : Int32)), .val (.long ((c1.toInt64) - (192 : Int64))), .second, .val (.int (0 : Int32)), .val (.int (1 : Int32))] []))
          refine own_of (fun _ hh_ => XS.iload X0.here hx rfl (hb hby dX_84) rfl hh_) ?_
          show own_Run p e below s _ _ _ (s₁.setTop (mkF m 86 #[.val (.int c1), .val (.long ((c1.toInt64) - (65 : Int64))), .second, .val (.int (0 : Int32)), .val (.long ((c1.toInt64) - (192 : Int64))), .second, .val (.int (0 : Int32)), .val (.int (1 : Int32))] [(.int (0 : Int32))]))
          refine own_of (fun _ hh_ => XS.ifNo X0.here hx rfl (hb hby dX_86) rfl ((if0 _ _).trans (by decide)) hh_) ?_
          show own_Run p e below s _ _ _ (s₁.setTop (mkF m 89 #[.val (.int c1), .val (.long ((c1.toInt64) - (65 : Int64))), .second, .val (.int (0 : Int32)), .val (.long ((c1.toInt64) - (192 : Int64))), .second, .val (.int (0 : Int32)), .val (.int (1 : Int32))] []))
          refine own_of (fun _ hh_ => XS.iload X0.here hx rfl (hb hby dX_89) rfl hh_) ?_
          show own_Run p e below s _ _ _ (s₁.setTop (mkF m 91 #[.val (.int c1), .val (.long ((c1.toInt64) - (65 : Int64))), .second, .val (.int (0 : Int32)), .val (.long ((c1.toInt64) - (192 : Int64))), .second, .val (.int (0 : Int32)), .val (.int (1 : Int32))] [(.int (1 : Int32))]))
          refine own_of (fun _ hh_ => XS.ifNo X0.here hx rfl (hb hby dX_91) rfl ((if0 _ _).trans (by decide)) hh_) ?_
          show own_Run p e below s _ _ _ (s₁.setTop (mkF m 94 #[.val (.int c1), .val (.long ((c1.toInt64) - (65 : Int64))), .second, .val (.int (0 : Int32)), .val (.long ((c1.toInt64) - (192 : Int64))), .second, .val (.int (0 : Int32)), .val (.int (1 : Int32))] []))
          refine own_of (fun _ hh_ => XS.iconst X0.here hx rfl (hb hby dX_94) hh_) ?_
          show own_Run p e below s _ _ _ (s₁.setTop (mkF m 95 #[.val (.int c1), .val (.long ((c1.toInt64) - (65 : Int64))), .second, .val (.int (0 : Int32)), .val (.long ((c1.toInt64) - (192 : Int64))), .second, .val (.int (0 : Int32)), .val (.int (1 : Int32))] [(.int (1 : Int32))]))
          refine own_of (fun _ hh_ => XS.goto X0.here hx rfl (pc0 := 95) (pc' := 99) rfl (hb hby dX_95) (by decide) (by decide) hh_) ?_
          show own_Run p e below s _ _ _ (s₁.setTop (mkF m 99 #[.val (.int c1), .val (.long ((c1.toInt64) - (65 : Int64))), .second, .val (.int (0 : Int32)), .val (.long ((c1.toInt64) - (192 : Int64))), .second, .val (.int (0 : Int32)), .val (.int (1 : Int32))] [(.int (1 : Int32))]))
          exact own_retN X0 hx (t := .boolean) hret hlk (by simp) (hb hby dX_99) ⟨by rw [if_pos (show own_S c1 from by have a_hc10_1 := mt Int64.lt_iff_toInt_lt.mpr hc10_1; have a_hc18_9 := Int64.lt_iff_toInt_lt.mp hc18_9; have a_hc39_10 := Int64.lt_iff_toInt_lt.mp hc39_10; have a_hc70_11 := Int32.toInt_inj.mpr hc70_11; have l_0 : (65 : Int64).toInt = 65 := rfl; have l_1 : (0 : Int64).toInt = 0 := rfl; have l_2 : (25 : Int64).toInt = 25 := rfl; have l_3 : (192 : Int64).toInt = 192 := rfl; have l_4 : (95 : Int32).toInt = 95 := rfl; omega)]; rfl, N0, e0⟩ (by decide) (by decide)
        · refine own_of (fun _ hh_ => XS.icmpYes X0.here hx rfl (pc0 := 70) (pc' := 77) rfl (hb hby dX_70) rfl (feq hc70_11).2 (by decide) (by decide) hh_) ?_
          show own_Run p e below s _ _ _ (s₁.setTop (mkF m 77 #[.val (.int c1), .val (.long ((c1.toInt64) - (65 : Int64))), .second, .val (.int (0 : Int32)), .val (.long ((c1.toInt64) - (192 : Int64))), .second, .val (.int (0 : Int32)), .unset] []))
          refine own_of (fun _ hh_ => XS.iconst X0.here hx rfl (hb hby dX_77) hh_) ?_
          show own_Run p e below s _ _ _ (s₁.setTop (mkF m 78 #[.val (.int c1), .val (.long ((c1.toInt64) - (65 : Int64))), .second, .val (.int (0 : Int32)), .val (.long ((c1.toInt64) - (192 : Int64))), .second, .val (.int (0 : Int32)), .unset] [(.int (0 : Int32))]))
          refine own_of (fun _ hh_ => XS.istore X0.here hx rfl (hb hby dX_78) rfl (l' := #[.val (.int c1), .val (.long ((c1.toInt64) - (65 : Int64))), .second, .val (.int (0 : Int32)), .val (.long ((c1.toInt64) - (192 : Int64))), .second, .val (.int (0 : Int32)), .val (.int (0 : Int32))]) rfl hh_) ?_
          show own_Run p e below s _ _ _ (s₁.setTop (mkF m 80 #[.val (.int c1), .val (.long ((c1.toInt64) - (65 : Int64))), .second, .val (.int (0 : Int32)), .val (.long ((c1.toInt64) - (192 : Int64))), .second, .val (.int (0 : Int32)), .val (.int (0 : Int32))] []))
          refine own_of (fun _ hh_ => XS.iloadN X0.here hx rfl (hb hby dX_80) rfl hh_) ?_
          show own_Run p e below s _ _ _ (s₁.setTop (mkF m 81 #[.val (.int c1), .val (.long ((c1.toInt64) - (65 : Int64))), .second, .val (.int (0 : Int32)), .val (.long ((c1.toInt64) - (192 : Int64))), .second, .val (.int (0 : Int32)), .val (.int (0 : Int32))] [(.int (0 : Int32))]))
          refine own_of (fun _ hh_ => XS.ifNo X0.here hx rfl (hb hby dX_81) rfl ((if0 _ _).trans (by decide)) hh_) ?_
          show own_Run p e below s _ _ _ (s₁.setTop (mkF m 84 #[.val (.int c1), .val (.long ((c1.toInt64) - (65 : Int64))), .second, .val (.int (0 : Int32)), .val (.long ((c1.toInt64) - (192 : Int64))), .second, .val (.int (0 : Int32)), .val (.int (0 : Int32))] []))
          refine own_of (fun _ hh_ => XS.iload X0.here hx rfl (hb hby dX_84) rfl hh_) ?_
          show own_Run p e below s _ _ _ (s₁.setTop (mkF m 86 #[.val (.int c1), .val (.long ((c1.toInt64) - (65 : Int64))), .second, .val (.int (0 : Int32)), .val (.long ((c1.toInt64) - (192 : Int64))), .second, .val (.int (0 : Int32)), .val (.int (0 : Int32))] [(.int (0 : Int32))]))
          refine own_of (fun _ hh_ => XS.ifNo X0.here hx rfl (hb hby dX_86) rfl ((if0 _ _).trans (by decide)) hh_) ?_
          show own_Run p e below s _ _ _ (s₁.setTop (mkF m 89 #[.val (.int c1), .val (.long ((c1.toInt64) - (65 : Int64))), .second, .val (.int (0 : Int32)), .val (.long ((c1.toInt64) - (192 : Int64))), .second, .val (.int (0 : Int32)), .val (.int (0 : Int32))] []))
          refine own_of (fun _ hh_ => XS.iload X0.here hx rfl (hb hby dX_89) rfl hh_) ?_
          show own_Run p e below s _ _ _ (s₁.setTop (mkF m 91 #[.val (.int c1), .val (.long ((c1.toInt64) - (65 : Int64))), .second, .val (.int (0 : Int32)), .val (.long ((c1.toInt64) - (192 : Int64))), .second, .val (.int (0 : Int32)), .val (.int (0 : Int32))] [(.int (0 : Int32))]))
          refine own_of (fun _ hh_ => XS.ifYes X0.here hx rfl (pc0 := 91) (pc' := 98) rfl (hb hby dX_91) rfl ((if0 _ _).trans (by decide)) (by decide) (by decide) hh_) ?_
          show own_Run p e below s _ _ _ (s₁.setTop (mkF m 98 #[.val (.int c1), .val (.long ((c1.toInt64) - (65 : Int64))), .second, .val (.int (0 : Int32)), .val (.long ((c1.toInt64) - (192 : Int64))), .second, .val (.int (0 : Int32)), .val (.int (0 : Int32))] []))
          refine own_of (fun _ hh_ => XS.iconst X0.here hx rfl (hb hby dX_98) hh_) ?_
          show own_Run p e below s _ _ _ (s₁.setTop (mkF m 99 #[.val (.int c1), .val (.long ((c1.toInt64) - (65 : Int64))), .second, .val (.int (0 : Int32)), .val (.long ((c1.toInt64) - (192 : Int64))), .second, .val (.int (0 : Int32)), .val (.int (0 : Int32))] [(.int (0 : Int32))]))
          exact own_retN X0 hx (t := .boolean) hret hlk (by simp) (hb hby dX_99) ⟨by rw [if_neg (show ¬ (own_S c1) from by have a_hc10_1 := mt Int64.lt_iff_toInt_lt.mpr hc10_1; have a_hc18_9 := Int64.lt_iff_toInt_lt.mp hc18_9; have a_hc39_10 := Int64.lt_iff_toInt_lt.mp hc39_10; have a_hc70_11 := mt Int32.toInt_inj.mp hc70_11; have l_0 : (65 : Int64).toInt = 65 := rfl; have l_1 : (0 : Int64).toInt = 0 := rfl; have l_2 : (25 : Int64).toInt = 25 := rfl; have l_3 : (192 : Int64).toInt = 192 := rfl; have l_4 : (95 : Int32).toInt = 95 := rfl; omega)]; rfl, N0, e0⟩ (by decide) (by decide)
      · refine own_of (fun _ hh_ => XS.ifNo X0.here hx rfl (hb hby dX_39) rfl ((if0 _ _).trans (flt (fun q_ => hc39_10 ((lw_lt _ _).mp q_))).1) hh_) ?_
        show own_Run p e below s _ _ _ (s₁.setTop (mkF m 42 #[.val (.int c1), .val (.long ((c1.toInt64) - (65 : Int64))), .second, .val (.int (0 : Int32)), .val (.long ((c1.toInt64) - (192 : Int64))), .second, .unset, .unset] []))
        refine own_of (fun _ hh_ => XS.lload X0.here hx rfl (hb hby dX_42) rfl hh_) ?_
        show own_Run p e below s _ _ _ (s₁.setTop (mkF m 44 #[.val (.int c1), .val (.long ((c1.toInt64) - (65 : Int64))), .second, .val (.int (0 : Int32)), .val (.long ((c1.toInt64) - (192 : Int64))), .second, .unset, .unset] [(.long ((c1.toInt64) - (192 : Int64)))]))
        refine own_of (X0.ldc2Long hx hown (mvT hZ (hw _ (List.mem_of_getElem? (i := 14) rfl))) (g := (mkF m 44 #[.val (.int c1), .val (.long ((c1.toInt64) - (65 : Int64))), .second, .val (.int (0 : Int32)), .val (.long ((c1.toInt64) - (192 : Int64))), .second, .unset, .unset] [(.long ((c1.toInt64) - (192 : Int64)))])) rfl (hb hby dX_44)) ?_
        show own_Run p e below s _ _ _ (s₁.setTop (mkF m 47 #[.val (.int c1), .val (.long ((c1.toInt64) - (65 : Int64))), .second, .val (.int (0 : Int32)), .val (.long ((c1.toInt64) - (192 : Int64))), .second, .unset, .unset] [(.long (30 : Int64)), (.long ((c1.toInt64) - (192 : Int64)))]))
        refine own_of (fun _ hh_ => XS.lcmp X0.here hx rfl (hb hby dX_47) rfl hh_) ?_
        show own_Run p e below s _ _ _ (s₁.setTop (mkF m 48 #[.val (.int c1), .val (.long ((c1.toInt64) - (65 : Int64))), .second, .val (.int (0 : Int32)), .val (.long ((c1.toInt64) - (192 : Int64))), .second, .unset, .unset] [(.int (lcmpW ((c1.toInt64) - (192 : Int64)) (30 : Int64)))]))
        by_cases hc48_12 : (30 : Int64) < ((c1.toInt64) - (192 : Int64))
        · refine own_of (fun _ hh_ => XS.ifYes X0.here hx rfl (pc0 := 48) (pc' := 64) rfl (hb hby dX_48) rfl ((if0 _ _).trans (tlt ((lw_gt _ _).mpr hc48_12)).2.2.1) (by decide) (by decide) hh_) ?_
          show own_Run p e below s _ _ _ (s₁.setTop (mkF m 64 #[.val (.int c1), .val (.long ((c1.toInt64) - (65 : Int64))), .second, .val (.int (0 : Int32)), .val (.long ((c1.toInt64) - (192 : Int64))), .second, .unset, .unset] []))
          refine own_of (fun _ hh_ => XS.iconst X0.here hx rfl (hb hby dX_64) hh_) ?_
          show own_Run p e below s _ _ _ (s₁.setTop (mkF m 65 #[.val (.int c1), .val (.long ((c1.toInt64) - (65 : Int64))), .second, .val (.int (0 : Int32)), .val (.long ((c1.toInt64) - (192 : Int64))), .second, .unset, .unset] [(.int (0 : Int32))]))
          refine own_of (fun _ hh_ => XS.istore X0.here hx rfl (hb hby dX_65) rfl (l' := #[.val (.int c1), .val (.long ((c1.toInt64) - (65 : Int64))), .second, .val (.int (0 : Int32)), .val (.long ((c1.toInt64) - (192 : Int64))), .second, .val (.int (0 : Int32)), .unset]) rfl hh_) ?_
          show own_Run p e below s _ _ _ (s₁.setTop (mkF m 67 #[.val (.int c1), .val (.long ((c1.toInt64) - (65 : Int64))), .second, .val (.int (0 : Int32)), .val (.long ((c1.toInt64) - (192 : Int64))), .second, .val (.int (0 : Int32)), .unset] []))
          refine own_of (fun _ hh_ => XS.iloadN X0.here hx rfl (hb hby dX_67) rfl hh_) ?_
          show own_Run p e below s _ _ _ (s₁.setTop (mkF m 68 #[.val (.int c1), .val (.long ((c1.toInt64) - (65 : Int64))), .second, .val (.int (0 : Int32)), .val (.long ((c1.toInt64) - (192 : Int64))), .second, .val (.int (0 : Int32)), .unset] [(.int c1)]))
          refine own_of (fun _ hh_ => XS.bipush X0.here hx rfl (hb hby dX_68) hh_) ?_
          show own_Run p e below s _ _ _ (s₁.setTop (mkF m 70 #[.val (.int c1), .val (.long ((c1.toInt64) - (65 : Int64))), .second, .val (.int (0 : Int32)), .val (.long ((c1.toInt64) - (192 : Int64))), .second, .val (.int (0 : Int32)), .unset] [(.int (95 : Int32)), (.int c1)]))
          by_cases hc70_13 : c1 = (95 : Int32)
          · refine own_of (fun _ hh_ => XS.icmpNo X0.here hx rfl (hb hby dX_70) rfl (teq hc70_13).2 hh_) ?_
            show own_Run p e below s _ _ _ (s₁.setTop (mkF m 73 #[.val (.int c1), .val (.long ((c1.toInt64) - (65 : Int64))), .second, .val (.int (0 : Int32)), .val (.long ((c1.toInt64) - (192 : Int64))), .second, .val (.int (0 : Int32)), .unset] []))
            refine own_of (fun _ hh_ => XS.iconst X0.here hx rfl (hb hby dX_73) hh_) ?_
            show own_Run p e below s _ _ _ (s₁.setTop (mkF m 74 #[.val (.int c1), .val (.long ((c1.toInt64) - (65 : Int64))), .second, .val (.int (0 : Int32)), .val (.long ((c1.toInt64) - (192 : Int64))), .second, .val (.int (0 : Int32)), .unset] [(.int (1 : Int32))]))
            refine own_of (fun _ hh_ => XS.goto X0.here hx rfl (pc0 := 74) (pc' := 78) rfl (hb hby dX_74) (by decide) (by decide) hh_) ?_
            show own_Run p e below s _ _ _ (s₁.setTop (mkF m 78 #[.val (.int c1), .val (.long ((c1.toInt64) - (65 : Int64))), .second, .val (.int (0 : Int32)), .val (.long ((c1.toInt64) - (192 : Int64))), .second, .val (.int (0 : Int32)), .unset] [(.int (1 : Int32))]))
            refine own_of (fun _ hh_ => XS.istore X0.here hx rfl (hb hby dX_78) rfl (l' := #[.val (.int c1), .val (.long ((c1.toInt64) - (65 : Int64))), .second, .val (.int (0 : Int32)), .val (.long ((c1.toInt64) - (192 : Int64))), .second, .val (.int (0 : Int32)), .val (.int (1 : Int32))]) rfl hh_) ?_
            show own_Run p e below s _ _ _ (s₁.setTop (mkF m 80 #[.val (.int c1), .val (.long ((c1.toInt64) - (65 : Int64))), .second, .val (.int (0 : Int32)), .val (.long ((c1.toInt64) - (192 : Int64))), .second, .val (.int (0 : Int32)), .val (.int (1 : Int32))] []))
            refine own_of (fun _ hh_ => XS.iloadN X0.here hx rfl (hb hby dX_80) rfl hh_) ?_
            show own_Run p e below s _ _ _ (s₁.setTop (mkF m 81 #[.val (.int c1), .val (.long ((c1.toInt64) - (65 : Int64))), .second, .val (.int (0 : Int32)), .val (.long ((c1.toInt64) - (192 : Int64))), .second, .val (.int (0 : Int32)), .val (.int (1 : Int32))] [(.int (0 : Int32))]))
            refine own_of (fun _ hh_ => XS.ifNo X0.here hx rfl (hb hby dX_81) rfl ((if0 _ _).trans (by decide)) hh_) ?_
            show own_Run p e below s _ _ _ (s₁.setTop (mkF m 84 #[.val (.int c1), .val (.long ((c1.toInt64) - (65 : Int64))), .second, .val (.int (0 : Int32)), .val (.long ((c1.toInt64) - (192 : Int64))), .second, .val (.int (0 : Int32)), .val (.int (1 : Int32))] []))
            refine own_of (fun _ hh_ => XS.iload X0.here hx rfl (hb hby dX_84) rfl hh_) ?_
            show own_Run p e below s _ _ _ (s₁.setTop (mkF m 86 #[.val (.int c1), .val (.long ((c1.toInt64) - (65 : Int64))), .second, .val (.int (0 : Int32)), .val (.long ((c1.toInt64) - (192 : Int64))), .second, .val (.int (0 : Int32)), .val (.int (1 : Int32))] [(.int (0 : Int32))]))
            refine own_of (fun _ hh_ => XS.ifNo X0.here hx rfl (hb hby dX_86) rfl ((if0 _ _).trans (by decide)) hh_) ?_
            show own_Run p e below s _ _ _ (s₁.setTop (mkF m 89 #[.val (.int c1), .val (.long ((c1.toInt64) - (65 : Int64))), .second, .val (.int (0 : Int32)), .val (.long ((c1.toInt64) - (192 : Int64))), .second, .val (.int (0 : Int32)), .val (.int (1 : Int32))] []))
            refine own_of (fun _ hh_ => XS.iload X0.here hx rfl (hb hby dX_89) rfl hh_) ?_
            show own_Run p e below s _ _ _ (s₁.setTop (mkF m 91 #[.val (.int c1), .val (.long ((c1.toInt64) - (65 : Int64))), .second, .val (.int (0 : Int32)), .val (.long ((c1.toInt64) - (192 : Int64))), .second, .val (.int (0 : Int32)), .val (.int (1 : Int32))] [(.int (1 : Int32))]))
            refine own_of (fun _ hh_ => XS.ifNo X0.here hx rfl (hb hby dX_91) rfl ((if0 _ _).trans (by decide)) hh_) ?_
            show own_Run p e below s _ _ _ (s₁.setTop (mkF m 94 #[.val (.int c1), .val (.long ((c1.toInt64) - (65 : Int64))), .second, .val (.int (0 : Int32)), .val (.long ((c1.toInt64) - (192 : Int64))), .second, .val (.int (0 : Int32)), .val (.int (1 : Int32))] []))
            refine own_of (fun _ hh_ => XS.iconst X0.here hx rfl (hb hby dX_94) hh_) ?_
            show own_Run p e below s _ _ _ (s₁.setTop (mkF m 95 #[.val (.int c1), .val (.long ((c1.toInt64) - (65 : Int64))), .second, .val (.int (0 : Int32)), .val (.long ((c1.toInt64) - (192 : Int64))), .second, .val (.int (0 : Int32)), .val (.int (1 : Int32))] [(.int (1 : Int32))]))
            refine own_of (fun _ hh_ => XS.goto X0.here hx rfl (pc0 := 95) (pc' := 99) rfl (hb hby dX_95) (by decide) (by decide) hh_) ?_
            show own_Run p e below s _ _ _ (s₁.setTop (mkF m 99 #[.val (.int c1), .val (.long ((c1.toInt64) - (65 : Int64))), .second, .val (.int (0 : Int32)), .val (.long ((c1.toInt64) - (192 : Int64))), .second, .val (.int (0 : Int32)), .val (.int (1 : Int32))] [(.int (1 : Int32))]))
            exact own_retN X0 hx (t := .boolean) hret hlk (by simp) (hb hby dX_99) ⟨by rw [if_pos (show own_S c1 from by have a_hc10_1 := mt Int64.lt_iff_toInt_lt.mpr hc10_1; have a_hc18_9 := Int64.lt_iff_toInt_lt.mp hc18_9; have a_hc39_10 := mt Int64.lt_iff_toInt_lt.mpr hc39_10; have a_hc48_12 := Int64.lt_iff_toInt_lt.mp hc48_12; have a_hc70_13 := Int32.toInt_inj.mpr hc70_13; have l_0 : (65 : Int64).toInt = 65 := rfl; have l_1 : (0 : Int64).toInt = 0 := rfl; have l_2 : (25 : Int64).toInt = 25 := rfl; have l_3 : (192 : Int64).toInt = 192 := rfl; have l_4 : (30 : Int64).toInt = 30 := rfl; have l_5 : (95 : Int32).toInt = 95 := rfl; omega)]; rfl, N0, e0⟩ (by decide) (by decide)
          · refine own_of (fun _ hh_ => XS.icmpYes X0.here hx rfl (pc0 := 70) (pc' := 77) rfl (hb hby dX_70) rfl (feq hc70_13).2 (by decide) (by decide) hh_) ?_
            show own_Run p e below s _ _ _ (s₁.setTop (mkF m 77 #[.val (.int c1), .val (.long ((c1.toInt64) - (65 : Int64))), .second, .val (.int (0 : Int32)), .val (.long ((c1.toInt64) - (192 : Int64))), .second, .val (.int (0 : Int32)), .unset] []))
            refine own_of (fun _ hh_ => XS.iconst X0.here hx rfl (hb hby dX_77) hh_) ?_
            show own_Run p e below s _ _ _ (s₁.setTop (mkF m 78 #[.val (.int c1), .val (.long ((c1.toInt64) - (65 : Int64))), .second, .val (.int (0 : Int32)), .val (.long ((c1.toInt64) - (192 : Int64))), .second, .val (.int (0 : Int32)), .unset] [(.int (0 : Int32))]))
            refine own_of (fun _ hh_ => XS.istore X0.here hx rfl (hb hby dX_78) rfl (l' := #[.val (.int c1), .val (.long ((c1.toInt64) - (65 : Int64))), .second, .val (.int (0 : Int32)), .val (.long ((c1.toInt64) - (192 : Int64))), .second, .val (.int (0 : Int32)), .val (.int (0 : Int32))]) rfl hh_) ?_
            show own_Run p e below s _ _ _ (s₁.setTop (mkF m 80 #[.val (.int c1), .val (.long ((c1.toInt64) - (65 : Int64))), .second, .val (.int (0 : Int32)), .val (.long ((c1.toInt64) - (192 : Int64))), .second, .val (.int (0 : Int32)), .val (.int (0 : Int32))] []))
            refine own_of (fun _ hh_ => XS.iloadN X0.here hx rfl (hb hby dX_80) rfl hh_) ?_
            show own_Run p e below s _ _ _ (s₁.setTop (mkF m 81 #[.val (.int c1), .val (.long ((c1.toInt64) - (65 : Int64))), .second, .val (.int (0 : Int32)), .val (.long ((c1.toInt64) - (192 : Int64))), .second, .val (.int (0 : Int32)), .val (.int (0 : Int32))] [(.int (0 : Int32))]))
            refine own_of (fun _ hh_ => XS.ifNo X0.here hx rfl (hb hby dX_81) rfl ((if0 _ _).trans (by decide)) hh_) ?_
            show own_Run p e below s _ _ _ (s₁.setTop (mkF m 84 #[.val (.int c1), .val (.long ((c1.toInt64) - (65 : Int64))), .second, .val (.int (0 : Int32)), .val (.long ((c1.toInt64) - (192 : Int64))), .second, .val (.int (0 : Int32)), .val (.int (0 : Int32))] []))
            refine own_of (fun _ hh_ => XS.iload X0.here hx rfl (hb hby dX_84) rfl hh_) ?_
            show own_Run p e below s _ _ _ (s₁.setTop (mkF m 86 #[.val (.int c1), .val (.long ((c1.toInt64) - (65 : Int64))), .second, .val (.int (0 : Int32)), .val (.long ((c1.toInt64) - (192 : Int64))), .second, .val (.int (0 : Int32)), .val (.int (0 : Int32))] [(.int (0 : Int32))]))
            refine own_of (fun _ hh_ => XS.ifNo X0.here hx rfl (hb hby dX_86) rfl ((if0 _ _).trans (by decide)) hh_) ?_
            show own_Run p e below s _ _ _ (s₁.setTop (mkF m 89 #[.val (.int c1), .val (.long ((c1.toInt64) - (65 : Int64))), .second, .val (.int (0 : Int32)), .val (.long ((c1.toInt64) - (192 : Int64))), .second, .val (.int (0 : Int32)), .val (.int (0 : Int32))] []))
            refine own_of (fun _ hh_ => XS.iload X0.here hx rfl (hb hby dX_89) rfl hh_) ?_
            show own_Run p e below s _ _ _ (s₁.setTop (mkF m 91 #[.val (.int c1), .val (.long ((c1.toInt64) - (65 : Int64))), .second, .val (.int (0 : Int32)), .val (.long ((c1.toInt64) - (192 : Int64))), .second, .val (.int (0 : Int32)), .val (.int (0 : Int32))] [(.int (0 : Int32))]))
            refine own_of (fun _ hh_ => XS.ifYes X0.here hx rfl (pc0 := 91) (pc' := 98) rfl (hb hby dX_91) rfl ((if0 _ _).trans (by decide)) (by decide) (by decide) hh_) ?_
            show own_Run p e below s _ _ _ (s₁.setTop (mkF m 98 #[.val (.int c1), .val (.long ((c1.toInt64) - (65 : Int64))), .second, .val (.int (0 : Int32)), .val (.long ((c1.toInt64) - (192 : Int64))), .second, .val (.int (0 : Int32)), .val (.int (0 : Int32))] []))
            refine own_of (fun _ hh_ => XS.iconst X0.here hx rfl (hb hby dX_98) hh_) ?_
            show own_Run p e below s _ _ _ (s₁.setTop (mkF m 99 #[.val (.int c1), .val (.long ((c1.toInt64) - (65 : Int64))), .second, .val (.int (0 : Int32)), .val (.long ((c1.toInt64) - (192 : Int64))), .second, .val (.int (0 : Int32)), .val (.int (0 : Int32))] [(.int (0 : Int32))]))
            exact own_retN X0 hx (t := .boolean) hret hlk (by simp) (hb hby dX_99) ⟨by rw [if_neg (show ¬ (own_S c1) from by have a_hc10_1 := mt Int64.lt_iff_toInt_lt.mpr hc10_1; have a_hc18_9 := Int64.lt_iff_toInt_lt.mp hc18_9; have a_hc39_10 := mt Int64.lt_iff_toInt_lt.mpr hc39_10; have a_hc48_12 := Int64.lt_iff_toInt_lt.mp hc48_12; have a_hc70_13 := mt Int32.toInt_inj.mp hc70_13; have l_0 : (65 : Int64).toInt = 65 := rfl; have l_1 : (0 : Int64).toInt = 0 := rfl; have l_2 : (25 : Int64).toInt = 25 := rfl; have l_3 : (192 : Int64).toInt = 192 := rfl; have l_4 : (30 : Int64).toInt = 30 := rfl; have l_5 : (95 : Int32).toInt = 95 := rfl; omega)]; rfl, N0, e0⟩ (by decide) (by decide)
        · refine own_of (fun _ hh_ => XS.ifNo X0.here hx rfl (hb hby dX_48) rfl ((if0 _ _).trans (flt (fun q_ => hc48_12 ((lw_gt _ _).mp q_))).2.2.1) hh_) ?_
          show own_Run p e below s _ _ _ (s₁.setTop (mkF m 51 #[.val (.int c1), .val (.long ((c1.toInt64) - (65 : Int64))), .second, .val (.int (0 : Int32)), .val (.long ((c1.toInt64) - (192 : Int64))), .second, .unset, .unset] []))
          refine own_of (fun _ hh_ => XS.lload X0.here hx rfl (hb hby dX_51) rfl hh_) ?_
          show own_Run p e below s _ _ _ (s₁.setTop (mkF m 53 #[.val (.int c1), .val (.long ((c1.toInt64) - (65 : Int64))), .second, .val (.int (0 : Int32)), .val (.long ((c1.toInt64) - (192 : Int64))), .second, .unset, .unset] [(.long ((c1.toInt64) - (192 : Int64)))]))
          refine own_of (X0.ldc2Long hx hown (mvT hZ (hw _ (List.mem_of_getElem? (i := 15) rfl))) (g := (mkF m 53 #[.val (.int c1), .val (.long ((c1.toInt64) - (65 : Int64))), .second, .val (.int (0 : Int32)), .val (.long ((c1.toInt64) - (192 : Int64))), .second, .unset, .unset] [(.long ((c1.toInt64) - (192 : Int64)))])) rfl (hb hby dX_53)) ?_
          show own_Run p e below s _ _ _ (s₁.setTop (mkF m 56 #[.val (.int c1), .val (.long ((c1.toInt64) - (65 : Int64))), .second, .val (.int (0 : Int32)), .val (.long ((c1.toInt64) - (192 : Int64))), .second, .unset, .unset] [(.long (23 : Int64)), (.long ((c1.toInt64) - (192 : Int64)))]))
          refine own_of (fun _ hh_ => XS.lcmp X0.here hx rfl (hb hby dX_56) rfl hh_) ?_
          show own_Run p e below s _ _ _ (s₁.setTop (mkF m 57 #[.val (.int c1), .val (.long ((c1.toInt64) - (65 : Int64))), .second, .val (.int (0 : Int32)), .val (.long ((c1.toInt64) - (192 : Int64))), .second, .unset, .unset] [(.int (lcmpW ((c1.toInt64) - (192 : Int64)) (23 : Int64)))]))
          by_cases hc57_14 : ((c1.toInt64) - (192 : Int64)) = (23 : Int64)
          · refine own_of (fun _ hh_ => XS.ifYes X0.here hx rfl (pc0 := 57) (pc' := 64) rfl (hb hby dX_57) rfl ((if0 _ _).trans (teq ((lw_eq _ _).mpr hc57_14)).1) (by decide) (by decide) hh_) ?_
            show own_Run p e below s _ _ _ (s₁.setTop (mkF m 64 #[.val (.int c1), .val (.long ((c1.toInt64) - (65 : Int64))), .second, .val (.int (0 : Int32)), .val (.long ((c1.toInt64) - (192 : Int64))), .second, .unset, .unset] []))
            refine own_of (fun _ hh_ => XS.iconst X0.here hx rfl (hb hby dX_64) hh_) ?_
            show own_Run p e below s _ _ _ (s₁.setTop (mkF m 65 #[.val (.int c1), .val (.long ((c1.toInt64) - (65 : Int64))), .second, .val (.int (0 : Int32)), .val (.long ((c1.toInt64) - (192 : Int64))), .second, .unset, .unset] [(.int (0 : Int32))]))
            refine own_of (fun _ hh_ => XS.istore X0.here hx rfl (hb hby dX_65) rfl (l' := #[.val (.int c1), .val (.long ((c1.toInt64) - (65 : Int64))), .second, .val (.int (0 : Int32)), .val (.long ((c1.toInt64) - (192 : Int64))), .second, .val (.int (0 : Int32)), .unset]) rfl hh_) ?_
            show own_Run p e below s _ _ _ (s₁.setTop (mkF m 67 #[.val (.int c1), .val (.long ((c1.toInt64) - (65 : Int64))), .second, .val (.int (0 : Int32)), .val (.long ((c1.toInt64) - (192 : Int64))), .second, .val (.int (0 : Int32)), .unset] []))
            refine own_of (fun _ hh_ => XS.iloadN X0.here hx rfl (hb hby dX_67) rfl hh_) ?_
            show own_Run p e below s _ _ _ (s₁.setTop (mkF m 68 #[.val (.int c1), .val (.long ((c1.toInt64) - (65 : Int64))), .second, .val (.int (0 : Int32)), .val (.long ((c1.toInt64) - (192 : Int64))), .second, .val (.int (0 : Int32)), .unset] [(.int c1)]))
            refine own_of (fun _ hh_ => XS.bipush X0.here hx rfl (hb hby dX_68) hh_) ?_
            show own_Run p e below s _ _ _ (s₁.setTop (mkF m 70 #[.val (.int c1), .val (.long ((c1.toInt64) - (65 : Int64))), .second, .val (.int (0 : Int32)), .val (.long ((c1.toInt64) - (192 : Int64))), .second, .val (.int (0 : Int32)), .unset] [(.int (95 : Int32)), (.int c1)]))
            by_cases hc70_15 : c1 = (95 : Int32)
            · refine own_of (fun _ hh_ => XS.icmpNo X0.here hx rfl (hb hby dX_70) rfl (teq hc70_15).2 hh_) ?_
              show own_Run p e below s _ _ _ (s₁.setTop (mkF m 73 #[.val (.int c1), .val (.long ((c1.toInt64) - (65 : Int64))), .second, .val (.int (0 : Int32)), .val (.long ((c1.toInt64) - (192 : Int64))), .second, .val (.int (0 : Int32)), .unset] []))
              refine own_of (fun _ hh_ => XS.iconst X0.here hx rfl (hb hby dX_73) hh_) ?_
              show own_Run p e below s _ _ _ (s₁.setTop (mkF m 74 #[.val (.int c1), .val (.long ((c1.toInt64) - (65 : Int64))), .second, .val (.int (0 : Int32)), .val (.long ((c1.toInt64) - (192 : Int64))), .second, .val (.int (0 : Int32)), .unset] [(.int (1 : Int32))]))
              refine own_of (fun _ hh_ => XS.goto X0.here hx rfl (pc0 := 74) (pc' := 78) rfl (hb hby dX_74) (by decide) (by decide) hh_) ?_
              show own_Run p e below s _ _ _ (s₁.setTop (mkF m 78 #[.val (.int c1), .val (.long ((c1.toInt64) - (65 : Int64))), .second, .val (.int (0 : Int32)), .val (.long ((c1.toInt64) - (192 : Int64))), .second, .val (.int (0 : Int32)), .unset] [(.int (1 : Int32))]))
              refine own_of (fun _ hh_ => XS.istore X0.here hx rfl (hb hby dX_78) rfl (l' := #[.val (.int c1), .val (.long ((c1.toInt64) - (65 : Int64))), .second, .val (.int (0 : Int32)), .val (.long ((c1.toInt64) - (192 : Int64))), .second, .val (.int (0 : Int32)), .val (.int (1 : Int32))]) rfl hh_) ?_
              show own_Run p e below s _ _ _ (s₁.setTop (mkF m 80 #[.val (.int c1), .val (.long ((c1.toInt64) - (65 : Int64))), .second, .val (.int (0 : Int32)), .val (.long ((c1.toInt64) - (192 : Int64))), .second, .val (.int (0 : Int32)), .val (.int (1 : Int32))] []))
              refine own_of (fun _ hh_ => XS.iloadN X0.here hx rfl (hb hby dX_80) rfl hh_) ?_
              show own_Run p e below s _ _ _ (s₁.setTop (mkF m 81 #[.val (.int c1), .val (.long ((c1.toInt64) - (65 : Int64))), .second, .val (.int (0 : Int32)), .val (.long ((c1.toInt64) - (192 : Int64))), .second, .val (.int (0 : Int32)), .val (.int (1 : Int32))] [(.int (0 : Int32))]))
              refine own_of (fun _ hh_ => XS.ifNo X0.here hx rfl (hb hby dX_81) rfl ((if0 _ _).trans (by decide)) hh_) ?_
              show own_Run p e below s _ _ _ (s₁.setTop (mkF m 84 #[.val (.int c1), .val (.long ((c1.toInt64) - (65 : Int64))), .second, .val (.int (0 : Int32)), .val (.long ((c1.toInt64) - (192 : Int64))), .second, .val (.int (0 : Int32)), .val (.int (1 : Int32))] []))
              refine own_of (fun _ hh_ => XS.iload X0.here hx rfl (hb hby dX_84) rfl hh_) ?_
              show own_Run p e below s _ _ _ (s₁.setTop (mkF m 86 #[.val (.int c1), .val (.long ((c1.toInt64) - (65 : Int64))), .second, .val (.int (0 : Int32)), .val (.long ((c1.toInt64) - (192 : Int64))), .second, .val (.int (0 : Int32)), .val (.int (1 : Int32))] [(.int (0 : Int32))]))
              refine own_of (fun _ hh_ => XS.ifNo X0.here hx rfl (hb hby dX_86) rfl ((if0 _ _).trans (by decide)) hh_) ?_
              show own_Run p e below s _ _ _ (s₁.setTop (mkF m 89 #[.val (.int c1), .val (.long ((c1.toInt64) - (65 : Int64))), .second, .val (.int (0 : Int32)), .val (.long ((c1.toInt64) - (192 : Int64))), .second, .val (.int (0 : Int32)), .val (.int (1 : Int32))] []))
              refine own_of (fun _ hh_ => XS.iload X0.here hx rfl (hb hby dX_89) rfl hh_) ?_
              show own_Run p e below s _ _ _ (s₁.setTop (mkF m 91 #[.val (.int c1), .val (.long ((c1.toInt64) - (65 : Int64))), .second, .val (.int (0 : Int32)), .val (.long ((c1.toInt64) - (192 : Int64))), .second, .val (.int (0 : Int32)), .val (.int (1 : Int32))] [(.int (1 : Int32))]))
              refine own_of (fun _ hh_ => XS.ifNo X0.here hx rfl (hb hby dX_91) rfl ((if0 _ _).trans (by decide)) hh_) ?_
              show own_Run p e below s _ _ _ (s₁.setTop (mkF m 94 #[.val (.int c1), .val (.long ((c1.toInt64) - (65 : Int64))), .second, .val (.int (0 : Int32)), .val (.long ((c1.toInt64) - (192 : Int64))), .second, .val (.int (0 : Int32)), .val (.int (1 : Int32))] []))
              refine own_of (fun _ hh_ => XS.iconst X0.here hx rfl (hb hby dX_94) hh_) ?_
              show own_Run p e below s _ _ _ (s₁.setTop (mkF m 95 #[.val (.int c1), .val (.long ((c1.toInt64) - (65 : Int64))), .second, .val (.int (0 : Int32)), .val (.long ((c1.toInt64) - (192 : Int64))), .second, .val (.int (0 : Int32)), .val (.int (1 : Int32))] [(.int (1 : Int32))]))
              refine own_of (fun _ hh_ => XS.goto X0.here hx rfl (pc0 := 95) (pc' := 99) rfl (hb hby dX_95) (by decide) (by decide) hh_) ?_
              show own_Run p e below s _ _ _ (s₁.setTop (mkF m 99 #[.val (.int c1), .val (.long ((c1.toInt64) - (65 : Int64))), .second, .val (.int (0 : Int32)), .val (.long ((c1.toInt64) - (192 : Int64))), .second, .val (.int (0 : Int32)), .val (.int (1 : Int32))] [(.int (1 : Int32))]))
              exact own_retN X0 hx (t := .boolean) hret hlk (by simp) (hb hby dX_99) ⟨by rw [if_pos (show own_S c1 from by have a_hc10_1 := mt Int64.lt_iff_toInt_lt.mpr hc10_1; have a_hc18_9 := Int64.lt_iff_toInt_lt.mp hc18_9; have a_hc39_10 := mt Int64.lt_iff_toInt_lt.mpr hc39_10; have a_hc48_12 := mt Int64.lt_iff_toInt_lt.mpr hc48_12; have a_hc57_14 := Int64.toInt_inj.mpr hc57_14; have a_hc70_15 := Int32.toInt_inj.mpr hc70_15; have l_0 : (65 : Int64).toInt = 65 := rfl; have l_1 : (0 : Int64).toInt = 0 := rfl; have l_2 : (25 : Int64).toInt = 25 := rfl; have l_3 : (192 : Int64).toInt = 192 := rfl; have l_4 : (30 : Int64).toInt = 30 := rfl; have l_5 : (23 : Int64).toInt = 23 := rfl; have l_6 : (95 : Int32).toInt = 95 := rfl; omega)]; rfl, N0, e0⟩ (by decide) (by decide)
            · refine own_of (fun _ hh_ => XS.icmpYes X0.here hx rfl (pc0 := 70) (pc' := 77) rfl (hb hby dX_70) rfl (feq hc70_15).2 (by decide) (by decide) hh_) ?_
              show own_Run p e below s _ _ _ (s₁.setTop (mkF m 77 #[.val (.int c1), .val (.long ((c1.toInt64) - (65 : Int64))), .second, .val (.int (0 : Int32)), .val (.long ((c1.toInt64) - (192 : Int64))), .second, .val (.int (0 : Int32)), .unset] []))
              refine own_of (fun _ hh_ => XS.iconst X0.here hx rfl (hb hby dX_77) hh_) ?_
              show own_Run p e below s _ _ _ (s₁.setTop (mkF m 78 #[.val (.int c1), .val (.long ((c1.toInt64) - (65 : Int64))), .second, .val (.int (0 : Int32)), .val (.long ((c1.toInt64) - (192 : Int64))), .second, .val (.int (0 : Int32)), .unset] [(.int (0 : Int32))]))
              refine own_of (fun _ hh_ => XS.istore X0.here hx rfl (hb hby dX_78) rfl (l' := #[.val (.int c1), .val (.long ((c1.toInt64) - (65 : Int64))), .second, .val (.int (0 : Int32)), .val (.long ((c1.toInt64) - (192 : Int64))), .second, .val (.int (0 : Int32)), .val (.int (0 : Int32))]) rfl hh_) ?_
              show own_Run p e below s _ _ _ (s₁.setTop (mkF m 80 #[.val (.int c1), .val (.long ((c1.toInt64) - (65 : Int64))), .second, .val (.int (0 : Int32)), .val (.long ((c1.toInt64) - (192 : Int64))), .second, .val (.int (0 : Int32)), .val (.int (0 : Int32))] []))
              refine own_of (fun _ hh_ => XS.iloadN X0.here hx rfl (hb hby dX_80) rfl hh_) ?_
              show own_Run p e below s _ _ _ (s₁.setTop (mkF m 81 #[.val (.int c1), .val (.long ((c1.toInt64) - (65 : Int64))), .second, .val (.int (0 : Int32)), .val (.long ((c1.toInt64) - (192 : Int64))), .second, .val (.int (0 : Int32)), .val (.int (0 : Int32))] [(.int (0 : Int32))]))
              refine own_of (fun _ hh_ => XS.ifNo X0.here hx rfl (hb hby dX_81) rfl ((if0 _ _).trans (by decide)) hh_) ?_
              show own_Run p e below s _ _ _ (s₁.setTop (mkF m 84 #[.val (.int c1), .val (.long ((c1.toInt64) - (65 : Int64))), .second, .val (.int (0 : Int32)), .val (.long ((c1.toInt64) - (192 : Int64))), .second, .val (.int (0 : Int32)), .val (.int (0 : Int32))] []))
              refine own_of (fun _ hh_ => XS.iload X0.here hx rfl (hb hby dX_84) rfl hh_) ?_
              show own_Run p e below s _ _ _ (s₁.setTop (mkF m 86 #[.val (.int c1), .val (.long ((c1.toInt64) - (65 : Int64))), .second, .val (.int (0 : Int32)), .val (.long ((c1.toInt64) - (192 : Int64))), .second, .val (.int (0 : Int32)), .val (.int (0 : Int32))] [(.int (0 : Int32))]))
              refine own_of (fun _ hh_ => XS.ifNo X0.here hx rfl (hb hby dX_86) rfl ((if0 _ _).trans (by decide)) hh_) ?_
              show own_Run p e below s _ _ _ (s₁.setTop (mkF m 89 #[.val (.int c1), .val (.long ((c1.toInt64) - (65 : Int64))), .second, .val (.int (0 : Int32)), .val (.long ((c1.toInt64) - (192 : Int64))), .second, .val (.int (0 : Int32)), .val (.int (0 : Int32))] []))
              refine own_of (fun _ hh_ => XS.iload X0.here hx rfl (hb hby dX_89) rfl hh_) ?_
              show own_Run p e below s _ _ _ (s₁.setTop (mkF m 91 #[.val (.int c1), .val (.long ((c1.toInt64) - (65 : Int64))), .second, .val (.int (0 : Int32)), .val (.long ((c1.toInt64) - (192 : Int64))), .second, .val (.int (0 : Int32)), .val (.int (0 : Int32))] [(.int (0 : Int32))]))
              refine own_of (fun _ hh_ => XS.ifYes X0.here hx rfl (pc0 := 91) (pc' := 98) rfl (hb hby dX_91) rfl ((if0 _ _).trans (by decide)) (by decide) (by decide) hh_) ?_
              show own_Run p e below s _ _ _ (s₁.setTop (mkF m 98 #[.val (.int c1), .val (.long ((c1.toInt64) - (65 : Int64))), .second, .val (.int (0 : Int32)), .val (.long ((c1.toInt64) - (192 : Int64))), .second, .val (.int (0 : Int32)), .val (.int (0 : Int32))] []))
              refine own_of (fun _ hh_ => XS.iconst X0.here hx rfl (hb hby dX_98) hh_) ?_
              show own_Run p e below s _ _ _ (s₁.setTop (mkF m 99 #[.val (.int c1), .val (.long ((c1.toInt64) - (65 : Int64))), .second, .val (.int (0 : Int32)), .val (.long ((c1.toInt64) - (192 : Int64))), .second, .val (.int (0 : Int32)), .val (.int (0 : Int32))] [(.int (0 : Int32))]))
              exact own_retN X0 hx (t := .boolean) hret hlk (by simp) (hb hby dX_99) ⟨by rw [if_neg (show ¬ (own_S c1) from by have a_hc10_1 := mt Int64.lt_iff_toInt_lt.mpr hc10_1; have a_hc18_9 := Int64.lt_iff_toInt_lt.mp hc18_9; have a_hc39_10 := mt Int64.lt_iff_toInt_lt.mpr hc39_10; have a_hc48_12 := mt Int64.lt_iff_toInt_lt.mpr hc48_12; have a_hc57_14 := Int64.toInt_inj.mpr hc57_14; have a_hc70_15 := mt Int32.toInt_inj.mp hc70_15; have l_0 : (65 : Int64).toInt = 65 := rfl; have l_1 : (0 : Int64).toInt = 0 := rfl; have l_2 : (25 : Int64).toInt = 25 := rfl; have l_3 : (192 : Int64).toInt = 192 := rfl; have l_4 : (30 : Int64).toInt = 30 := rfl; have l_5 : (23 : Int64).toInt = 23 := rfl; have l_6 : (95 : Int32).toInt = 95 := rfl; omega)]; rfl, N0, e0⟩ (by decide) (by decide)
          · refine own_of (fun _ hh_ => XS.ifNo X0.here hx rfl (hb hby dX_57) rfl ((if0 _ _).trans (feq (fun q_ => hc57_14 ((lw_eq _ _).mp q_))).1) hh_) ?_
            show own_Run p e below s _ _ _ (s₁.setTop (mkF m 60 #[.val (.int c1), .val (.long ((c1.toInt64) - (65 : Int64))), .second, .val (.int (0 : Int32)), .val (.long ((c1.toInt64) - (192 : Int64))), .second, .unset, .unset] []))
            refine own_of (fun _ hh_ => XS.iconst X0.here hx rfl (hb hby dX_60) hh_) ?_
            show own_Run p e below s _ _ _ (s₁.setTop (mkF m 61 #[.val (.int c1), .val (.long ((c1.toInt64) - (65 : Int64))), .second, .val (.int (0 : Int32)), .val (.long ((c1.toInt64) - (192 : Int64))), .second, .unset, .unset] [(.int (1 : Int32))]))
            refine own_of (fun _ hh_ => XS.goto X0.here hx rfl (pc0 := 61) (pc' := 65) rfl (hb hby dX_61) (by decide) (by decide) hh_) ?_
            show own_Run p e below s _ _ _ (s₁.setTop (mkF m 65 #[.val (.int c1), .val (.long ((c1.toInt64) - (65 : Int64))), .second, .val (.int (0 : Int32)), .val (.long ((c1.toInt64) - (192 : Int64))), .second, .unset, .unset] [(.int (1 : Int32))]))
            refine own_of (fun _ hh_ => XS.istore X0.here hx rfl (hb hby dX_65) rfl (l' := #[.val (.int c1), .val (.long ((c1.toInt64) - (65 : Int64))), .second, .val (.int (0 : Int32)), .val (.long ((c1.toInt64) - (192 : Int64))), .second, .val (.int (1 : Int32)), .unset]) rfl hh_) ?_
            show own_Run p e below s _ _ _ (s₁.setTop (mkF m 67 #[.val (.int c1), .val (.long ((c1.toInt64) - (65 : Int64))), .second, .val (.int (0 : Int32)), .val (.long ((c1.toInt64) - (192 : Int64))), .second, .val (.int (1 : Int32)), .unset] []))
            refine own_of (fun _ hh_ => XS.iloadN X0.here hx rfl (hb hby dX_67) rfl hh_) ?_
            show own_Run p e below s _ _ _ (s₁.setTop (mkF m 68 #[.val (.int c1), .val (.long ((c1.toInt64) - (65 : Int64))), .second, .val (.int (0 : Int32)), .val (.long ((c1.toInt64) - (192 : Int64))), .second, .val (.int (1 : Int32)), .unset] [(.int c1)]))
            refine own_of (fun _ hh_ => XS.bipush X0.here hx rfl (hb hby dX_68) hh_) ?_
            show own_Run p e below s _ _ _ (s₁.setTop (mkF m 70 #[.val (.int c1), .val (.long ((c1.toInt64) - (65 : Int64))), .second, .val (.int (0 : Int32)), .val (.long ((c1.toInt64) - (192 : Int64))), .second, .val (.int (1 : Int32)), .unset] [(.int (95 : Int32)), (.int c1)]))
            by_cases hc70_16 : c1 = (95 : Int32)
            · refine own_of (fun _ hh_ => XS.icmpNo X0.here hx rfl (hb hby dX_70) rfl (teq hc70_16).2 hh_) ?_
              show own_Run p e below s _ _ _ (s₁.setTop (mkF m 73 #[.val (.int c1), .val (.long ((c1.toInt64) - (65 : Int64))), .second, .val (.int (0 : Int32)), .val (.long ((c1.toInt64) - (192 : Int64))), .second, .val (.int (1 : Int32)), .unset] []))
              refine own_of (fun _ hh_ => XS.iconst X0.here hx rfl (hb hby dX_73) hh_) ?_
              show own_Run p e below s _ _ _ (s₁.setTop (mkF m 74 #[.val (.int c1), .val (.long ((c1.toInt64) - (65 : Int64))), .second, .val (.int (0 : Int32)), .val (.long ((c1.toInt64) - (192 : Int64))), .second, .val (.int (1 : Int32)), .unset] [(.int (1 : Int32))]))
              refine own_of (fun _ hh_ => XS.goto X0.here hx rfl (pc0 := 74) (pc' := 78) rfl (hb hby dX_74) (by decide) (by decide) hh_) ?_
              show own_Run p e below s _ _ _ (s₁.setTop (mkF m 78 #[.val (.int c1), .val (.long ((c1.toInt64) - (65 : Int64))), .second, .val (.int (0 : Int32)), .val (.long ((c1.toInt64) - (192 : Int64))), .second, .val (.int (1 : Int32)), .unset] [(.int (1 : Int32))]))
              refine own_of (fun _ hh_ => XS.istore X0.here hx rfl (hb hby dX_78) rfl (l' := #[.val (.int c1), .val (.long ((c1.toInt64) - (65 : Int64))), .second, .val (.int (0 : Int32)), .val (.long ((c1.toInt64) - (192 : Int64))), .second, .val (.int (1 : Int32)), .val (.int (1 : Int32))]) rfl hh_) ?_
              show own_Run p e below s _ _ _ (s₁.setTop (mkF m 80 #[.val (.int c1), .val (.long ((c1.toInt64) - (65 : Int64))), .second, .val (.int (0 : Int32)), .val (.long ((c1.toInt64) - (192 : Int64))), .second, .val (.int (1 : Int32)), .val (.int (1 : Int32))] []))
              refine own_of (fun _ hh_ => XS.iloadN X0.here hx rfl (hb hby dX_80) rfl hh_) ?_
              show own_Run p e below s _ _ _ (s₁.setTop (mkF m 81 #[.val (.int c1), .val (.long ((c1.toInt64) - (65 : Int64))), .second, .val (.int (0 : Int32)), .val (.long ((c1.toInt64) - (192 : Int64))), .second, .val (.int (1 : Int32)), .val (.int (1 : Int32))] [(.int (0 : Int32))]))
              refine own_of (fun _ hh_ => XS.ifNo X0.here hx rfl (hb hby dX_81) rfl ((if0 _ _).trans (by decide)) hh_) ?_
              show own_Run p e below s _ _ _ (s₁.setTop (mkF m 84 #[.val (.int c1), .val (.long ((c1.toInt64) - (65 : Int64))), .second, .val (.int (0 : Int32)), .val (.long ((c1.toInt64) - (192 : Int64))), .second, .val (.int (1 : Int32)), .val (.int (1 : Int32))] []))
              refine own_of (fun _ hh_ => XS.iload X0.here hx rfl (hb hby dX_84) rfl hh_) ?_
              show own_Run p e below s _ _ _ (s₁.setTop (mkF m 86 #[.val (.int c1), .val (.long ((c1.toInt64) - (65 : Int64))), .second, .val (.int (0 : Int32)), .val (.long ((c1.toInt64) - (192 : Int64))), .second, .val (.int (1 : Int32)), .val (.int (1 : Int32))] [(.int (1 : Int32))]))
              refine own_of (fun _ hh_ => XS.ifYes X0.here hx rfl (pc0 := 86) (pc' := 94) rfl (hb hby dX_86) rfl ((if0 _ _).trans (by decide)) (by decide) (by decide) hh_) ?_
              show own_Run p e below s _ _ _ (s₁.setTop (mkF m 94 #[.val (.int c1), .val (.long ((c1.toInt64) - (65 : Int64))), .second, .val (.int (0 : Int32)), .val (.long ((c1.toInt64) - (192 : Int64))), .second, .val (.int (1 : Int32)), .val (.int (1 : Int32))] []))
              refine own_of (fun _ hh_ => XS.iconst X0.here hx rfl (hb hby dX_94) hh_) ?_
              show own_Run p e below s _ _ _ (s₁.setTop (mkF m 95 #[.val (.int c1), .val (.long ((c1.toInt64) - (65 : Int64))), .second, .val (.int (0 : Int32)), .val (.long ((c1.toInt64) - (192 : Int64))), .second, .val (.int (1 : Int32)), .val (.int (1 : Int32))] [(.int (1 : Int32))]))
              refine own_of (fun _ hh_ => XS.goto X0.here hx rfl (pc0 := 95) (pc' := 99) rfl (hb hby dX_95) (by decide) (by decide) hh_) ?_
              show own_Run p e below s _ _ _ (s₁.setTop (mkF m 99 #[.val (.int c1), .val (.long ((c1.toInt64) - (65 : Int64))), .second, .val (.int (0 : Int32)), .val (.long ((c1.toInt64) - (192 : Int64))), .second, .val (.int (1 : Int32)), .val (.int (1 : Int32))] [(.int (1 : Int32))]))
              exact own_retN X0 hx (t := .boolean) hret hlk (by simp) (hb hby dX_99) ⟨by rw [if_pos (show own_S c1 from by have a_hc10_1 := mt Int64.lt_iff_toInt_lt.mpr hc10_1; have a_hc18_9 := Int64.lt_iff_toInt_lt.mp hc18_9; have a_hc39_10 := mt Int64.lt_iff_toInt_lt.mpr hc39_10; have a_hc48_12 := mt Int64.lt_iff_toInt_lt.mpr hc48_12; have a_hc57_14 := mt Int64.toInt_inj.mp hc57_14; have a_hc70_16 := Int32.toInt_inj.mpr hc70_16; have l_0 : (65 : Int64).toInt = 65 := rfl; have l_1 : (0 : Int64).toInt = 0 := rfl; have l_2 : (25 : Int64).toInt = 25 := rfl; have l_3 : (192 : Int64).toInt = 192 := rfl; have l_4 : (30 : Int64).toInt = 30 := rfl; have l_5 : (23 : Int64).toInt = 23 := rfl; have l_6 : (95 : Int32).toInt = 95 := rfl; omega)]; rfl, N0, e0⟩ (by decide) (by decide)
            · refine own_of (fun _ hh_ => XS.icmpYes X0.here hx rfl (pc0 := 70) (pc' := 77) rfl (hb hby dX_70) rfl (feq hc70_16).2 (by decide) (by decide) hh_) ?_
              show own_Run p e below s _ _ _ (s₁.setTop (mkF m 77 #[.val (.int c1), .val (.long ((c1.toInt64) - (65 : Int64))), .second, .val (.int (0 : Int32)), .val (.long ((c1.toInt64) - (192 : Int64))), .second, .val (.int (1 : Int32)), .unset] []))
              refine own_of (fun _ hh_ => XS.iconst X0.here hx rfl (hb hby dX_77) hh_) ?_
              show own_Run p e below s _ _ _ (s₁.setTop (mkF m 78 #[.val (.int c1), .val (.long ((c1.toInt64) - (65 : Int64))), .second, .val (.int (0 : Int32)), .val (.long ((c1.toInt64) - (192 : Int64))), .second, .val (.int (1 : Int32)), .unset] [(.int (0 : Int32))]))
              refine own_of (fun _ hh_ => XS.istore X0.here hx rfl (hb hby dX_78) rfl (l' := #[.val (.int c1), .val (.long ((c1.toInt64) - (65 : Int64))), .second, .val (.int (0 : Int32)), .val (.long ((c1.toInt64) - (192 : Int64))), .second, .val (.int (1 : Int32)), .val (.int (0 : Int32))]) rfl hh_) ?_
              show own_Run p e below s _ _ _ (s₁.setTop (mkF m 80 #[.val (.int c1), .val (.long ((c1.toInt64) - (65 : Int64))), .second, .val (.int (0 : Int32)), .val (.long ((c1.toInt64) - (192 : Int64))), .second, .val (.int (1 : Int32)), .val (.int (0 : Int32))] []))
              refine own_of (fun _ hh_ => XS.iloadN X0.here hx rfl (hb hby dX_80) rfl hh_) ?_
              show own_Run p e below s _ _ _ (s₁.setTop (mkF m 81 #[.val (.int c1), .val (.long ((c1.toInt64) - (65 : Int64))), .second, .val (.int (0 : Int32)), .val (.long ((c1.toInt64) - (192 : Int64))), .second, .val (.int (1 : Int32)), .val (.int (0 : Int32))] [(.int (0 : Int32))]))
              refine own_of (fun _ hh_ => XS.ifNo X0.here hx rfl (hb hby dX_81) rfl ((if0 _ _).trans (by decide)) hh_) ?_
              show own_Run p e below s _ _ _ (s₁.setTop (mkF m 84 #[.val (.int c1), .val (.long ((c1.toInt64) - (65 : Int64))), .second, .val (.int (0 : Int32)), .val (.long ((c1.toInt64) - (192 : Int64))), .second, .val (.int (1 : Int32)), .val (.int (0 : Int32))] []))
              refine own_of (fun _ hh_ => XS.iload X0.here hx rfl (hb hby dX_84) rfl hh_) ?_
              show own_Run p e below s _ _ _ (s₁.setTop (mkF m 86 #[.val (.int c1), .val (.long ((c1.toInt64) - (65 : Int64))), .second, .val (.int (0 : Int32)), .val (.long ((c1.toInt64) - (192 : Int64))), .second, .val (.int (1 : Int32)), .val (.int (0 : Int32))] [(.int (1 : Int32))]))
              refine own_of (fun _ hh_ => XS.ifYes X0.here hx rfl (pc0 := 86) (pc' := 94) rfl (hb hby dX_86) rfl ((if0 _ _).trans (by decide)) (by decide) (by decide) hh_) ?_
              show own_Run p e below s _ _ _ (s₁.setTop (mkF m 94 #[.val (.int c1), .val (.long ((c1.toInt64) - (65 : Int64))), .second, .val (.int (0 : Int32)), .val (.long ((c1.toInt64) - (192 : Int64))), .second, .val (.int (1 : Int32)), .val (.int (0 : Int32))] []))
              refine own_of (fun _ hh_ => XS.iconst X0.here hx rfl (hb hby dX_94) hh_) ?_
              show own_Run p e below s _ _ _ (s₁.setTop (mkF m 95 #[.val (.int c1), .val (.long ((c1.toInt64) - (65 : Int64))), .second, .val (.int (0 : Int32)), .val (.long ((c1.toInt64) - (192 : Int64))), .second, .val (.int (1 : Int32)), .val (.int (0 : Int32))] [(.int (1 : Int32))]))
              refine own_of (fun _ hh_ => XS.goto X0.here hx rfl (pc0 := 95) (pc' := 99) rfl (hb hby dX_95) (by decide) (by decide) hh_) ?_
              show own_Run p e below s _ _ _ (s₁.setTop (mkF m 99 #[.val (.int c1), .val (.long ((c1.toInt64) - (65 : Int64))), .second, .val (.int (0 : Int32)), .val (.long ((c1.toInt64) - (192 : Int64))), .second, .val (.int (1 : Int32)), .val (.int (0 : Int32))] [(.int (1 : Int32))]))
              exact own_retN X0 hx (t := .boolean) hret hlk (by simp) (hb hby dX_99) ⟨by rw [if_pos (show own_S c1 from by have a_hc10_1 := mt Int64.lt_iff_toInt_lt.mpr hc10_1; have a_hc18_9 := Int64.lt_iff_toInt_lt.mp hc18_9; have a_hc39_10 := mt Int64.lt_iff_toInt_lt.mpr hc39_10; have a_hc48_12 := mt Int64.lt_iff_toInt_lt.mpr hc48_12; have a_hc57_14 := mt Int64.toInt_inj.mp hc57_14; have a_hc70_16 := mt Int32.toInt_inj.mp hc70_16; have l_0 : (65 : Int64).toInt = 65 := rfl; have l_1 : (0 : Int64).toInt = 0 := rfl; have l_2 : (25 : Int64).toInt = 25 := rfl; have l_3 : (192 : Int64).toInt = 192 := rfl; have l_4 : (30 : Int64).toInt = 30 := rfl; have l_5 : (23 : Int64).toInt = 23 := rfl; have l_6 : (95 : Int32).toInt = 95 := rfl; omega)]; rfl, N0, e0⟩ (by decide) (by decide)
    · refine own_of (fun _ hh_ => XS.ifNo X0.here hx rfl (hb hby dX_18) rfl ((if0 _ _).trans (flt (fun q_ => hc18_9 ((lw_gt _ _).mp q_))).2.2.1) hh_) ?_
      show own_Run p e below s _ _ _ (s₁.setTop (mkF m 21 #[.val (.int c1), .val (.long ((c1.toInt64) - (65 : Int64))), .second, .unset, .unset, .unset, .unset, .unset] []))
      refine own_of (fun _ hh_ => XS.iconst X0.here hx rfl (hb hby dX_21) hh_) ?_
      show own_Run p e below s _ _ _ (s₁.setTop (mkF m 22 #[.val (.int c1), .val (.long ((c1.toInt64) - (65 : Int64))), .second, .unset, .unset, .unset, .unset, .unset] [(.int (1 : Int32))]))
      refine own_of (fun _ hh_ => XS.goto X0.here hx rfl (pc0 := 22) (pc' := 26) rfl (hb hby dX_22) (by decide) (by decide) hh_) ?_
      show own_Run p e below s _ _ _ (s₁.setTop (mkF m 26 #[.val (.int c1), .val (.long ((c1.toInt64) - (65 : Int64))), .second, .unset, .unset, .unset, .unset, .unset] [(.int (1 : Int32))]))
      refine own_of (fun _ hh_ => XS.istoreN X0.here hx rfl (hb hby dX_26) rfl (l' := #[.val (.int c1), .val (.long ((c1.toInt64) - (65 : Int64))), .second, .val (.int (1 : Int32)), .unset, .unset, .unset, .unset]) rfl hh_) ?_
      show own_Run p e below s _ _ _ (s₁.setTop (mkF m 27 #[.val (.int c1), .val (.long ((c1.toInt64) - (65 : Int64))), .second, .val (.int (1 : Int32)), .unset, .unset, .unset, .unset] []))
      refine own_of (fun _ hh_ => XS.iloadN X0.here hx rfl (hb hby dX_27) rfl hh_) ?_
      show own_Run p e below s _ _ _ (s₁.setTop (mkF m 28 #[.val (.int c1), .val (.long ((c1.toInt64) - (65 : Int64))), .second, .val (.int (1 : Int32)), .unset, .unset, .unset, .unset] [(.int c1)]))
      refine own_of (fun _ hh_ => XS.i2l X0.here hx rfl (hb hby dX_28) rfl hh_) ?_
      show own_Run p e below s _ _ _ (s₁.setTop (mkF m 29 #[.val (.int c1), .val (.long ((c1.toInt64) - (65 : Int64))), .second, .val (.int (1 : Int32)), .unset, .unset, .unset, .unset] [(.long (c1.toInt64))]))
      refine own_of (X0.ldc2Long hx hown (mvT hZ (hw _ (List.mem_of_getElem? (i := 12) rfl))) (g := (mkF m 29 #[.val (.int c1), .val (.long ((c1.toInt64) - (65 : Int64))), .second, .val (.int (1 : Int32)), .unset, .unset, .unset, .unset] [(.long (c1.toInt64))])) rfl (hb hby dX_29)) ?_
      show own_Run p e below s _ _ _ (s₁.setTop (mkF m 32 #[.val (.int c1), .val (.long ((c1.toInt64) - (65 : Int64))), .second, .val (.int (1 : Int32)), .unset, .unset, .unset, .unset] [(.long (192 : Int64)), (.long (c1.toInt64))]))
      refine own_of (fun _ hh_ => XS.lsub X0.here hx rfl (hb hby dX_32) rfl hh_) ?_
      show own_Run p e below s _ _ _ (s₁.setTop (mkF m 33 #[.val (.int c1), .val (.long ((c1.toInt64) - (65 : Int64))), .second, .val (.int (1 : Int32)), .unset, .unset, .unset, .unset] [(.long ((c1.toInt64) - (192 : Int64)))]))
      refine own_of (fun _ hh_ => XS.lstore X0.here hx rfl (hb hby dX_33) rfl (l' := #[.val (.int c1), .val (.long ((c1.toInt64) - (65 : Int64))), .second, .val (.int (1 : Int32)), .val (.long ((c1.toInt64) - (192 : Int64))), .second, .unset, .unset]) rfl hh_) ?_
      show own_Run p e below s _ _ _ (s₁.setTop (mkF m 35 #[.val (.int c1), .val (.long ((c1.toInt64) - (65 : Int64))), .second, .val (.int (1 : Int32)), .val (.long ((c1.toInt64) - (192 : Int64))), .second, .unset, .unset] []))
      refine own_of (fun _ hh_ => XS.lload X0.here hx rfl (hb hby dX_35) rfl hh_) ?_
      show own_Run p e below s _ _ _ (s₁.setTop (mkF m 37 #[.val (.int c1), .val (.long ((c1.toInt64) - (65 : Int64))), .second, .val (.int (1 : Int32)), .val (.long ((c1.toInt64) - (192 : Int64))), .second, .unset, .unset] [(.long ((c1.toInt64) - (192 : Int64)))]))
      refine own_of (fun _ hh_ => XS.lconst X0.here hx rfl (hb hby dX_37) hh_) ?_
      show own_Run p e below s _ _ _ (s₁.setTop (mkF m 38 #[.val (.int c1), .val (.long ((c1.toInt64) - (65 : Int64))), .second, .val (.int (1 : Int32)), .val (.long ((c1.toInt64) - (192 : Int64))), .second, .unset, .unset] [(.long (0 : Int64)), (.long ((c1.toInt64) - (192 : Int64)))]))
      refine own_of (fun _ hh_ => XS.lcmp X0.here hx rfl (hb hby dX_38) rfl hh_) ?_
      show own_Run p e below s _ _ _ (s₁.setTop (mkF m 39 #[.val (.int c1), .val (.long ((c1.toInt64) - (65 : Int64))), .second, .val (.int (1 : Int32)), .val (.long ((c1.toInt64) - (192 : Int64))), .second, .unset, .unset] [(.int (lcmpW ((c1.toInt64) - (192 : Int64)) (0 : Int64)))]))
      by_cases hc39_17 : ((c1.toInt64) - (192 : Int64)) < (0 : Int64)
      · refine own_of (fun _ hh_ => XS.ifYes X0.here hx rfl (pc0 := 39) (pc' := 64) rfl (hb hby dX_39) rfl ((if0 _ _).trans (tlt ((lw_lt _ _).mpr hc39_17)).1) (by decide) (by decide) hh_) ?_
        show own_Run p e below s _ _ _ (s₁.setTop (mkF m 64 #[.val (.int c1), .val (.long ((c1.toInt64) - (65 : Int64))), .second, .val (.int (1 : Int32)), .val (.long ((c1.toInt64) - (192 : Int64))), .second, .unset, .unset] []))
        refine own_of (fun _ hh_ => XS.iconst X0.here hx rfl (hb hby dX_64) hh_) ?_
        show own_Run p e below s _ _ _ (s₁.setTop (mkF m 65 #[.val (.int c1), .val (.long ((c1.toInt64) - (65 : Int64))), .second, .val (.int (1 : Int32)), .val (.long ((c1.toInt64) - (192 : Int64))), .second, .unset, .unset] [(.int (0 : Int32))]))
        refine own_of (fun _ hh_ => XS.istore X0.here hx rfl (hb hby dX_65) rfl (l' := #[.val (.int c1), .val (.long ((c1.toInt64) - (65 : Int64))), .second, .val (.int (1 : Int32)), .val (.long ((c1.toInt64) - (192 : Int64))), .second, .val (.int (0 : Int32)), .unset]) rfl hh_) ?_
        show own_Run p e below s _ _ _ (s₁.setTop (mkF m 67 #[.val (.int c1), .val (.long ((c1.toInt64) - (65 : Int64))), .second, .val (.int (1 : Int32)), .val (.long ((c1.toInt64) - (192 : Int64))), .second, .val (.int (0 : Int32)), .unset] []))
        refine own_of (fun _ hh_ => XS.iloadN X0.here hx rfl (hb hby dX_67) rfl hh_) ?_
        show own_Run p e below s _ _ _ (s₁.setTop (mkF m 68 #[.val (.int c1), .val (.long ((c1.toInt64) - (65 : Int64))), .second, .val (.int (1 : Int32)), .val (.long ((c1.toInt64) - (192 : Int64))), .second, .val (.int (0 : Int32)), .unset] [(.int c1)]))
        refine own_of (fun _ hh_ => XS.bipush X0.here hx rfl (hb hby dX_68) hh_) ?_
        show own_Run p e below s _ _ _ (s₁.setTop (mkF m 70 #[.val (.int c1), .val (.long ((c1.toInt64) - (65 : Int64))), .second, .val (.int (1 : Int32)), .val (.long ((c1.toInt64) - (192 : Int64))), .second, .val (.int (0 : Int32)), .unset] [(.int (95 : Int32)), (.int c1)]))
        by_cases hc70_18 : c1 = (95 : Int32)
        · refine own_of (fun _ hh_ => XS.icmpNo X0.here hx rfl (hb hby dX_70) rfl (teq hc70_18).2 hh_) ?_
          show own_Run p e below s _ _ _ (s₁.setTop (mkF m 73 #[.val (.int c1), .val (.long ((c1.toInt64) - (65 : Int64))), .second, .val (.int (1 : Int32)), .val (.long ((c1.toInt64) - (192 : Int64))), .second, .val (.int (0 : Int32)), .unset] []))
          refine own_of (fun _ hh_ => XS.iconst X0.here hx rfl (hb hby dX_73) hh_) ?_
          show own_Run p e below s _ _ _ (s₁.setTop (mkF m 74 #[.val (.int c1), .val (.long ((c1.toInt64) - (65 : Int64))), .second, .val (.int (1 : Int32)), .val (.long ((c1.toInt64) - (192 : Int64))), .second, .val (.int (0 : Int32)), .unset] [(.int (1 : Int32))]))
          refine own_of (fun _ hh_ => XS.goto X0.here hx rfl (pc0 := 74) (pc' := 78) rfl (hb hby dX_74) (by decide) (by decide) hh_) ?_
          show own_Run p e below s _ _ _ (s₁.setTop (mkF m 78 #[.val (.int c1), .val (.long ((c1.toInt64) - (65 : Int64))), .second, .val (.int (1 : Int32)), .val (.long ((c1.toInt64) - (192 : Int64))), .second, .val (.int (0 : Int32)), .unset] [(.int (1 : Int32))]))
          refine own_of (fun _ hh_ => XS.istore X0.here hx rfl (hb hby dX_78) rfl (l' := #[.val (.int c1), .val (.long ((c1.toInt64) - (65 : Int64))), .second, .val (.int (1 : Int32)), .val (.long ((c1.toInt64) - (192 : Int64))), .second, .val (.int (0 : Int32)), .val (.int (1 : Int32))]) rfl hh_) ?_
          show own_Run p e below s _ _ _ (s₁.setTop (mkF m 80 #[.val (.int c1), .val (.long ((c1.toInt64) - (65 : Int64))), .second, .val (.int (1 : Int32)), .val (.long ((c1.toInt64) - (192 : Int64))), .second, .val (.int (0 : Int32)), .val (.int (1 : Int32))] []))
          refine own_of (fun _ hh_ => XS.iloadN X0.here hx rfl (hb hby dX_80) rfl hh_) ?_
          show own_Run p e below s _ _ _ (s₁.setTop (mkF m 81 #[.val (.int c1), .val (.long ((c1.toInt64) - (65 : Int64))), .second, .val (.int (1 : Int32)), .val (.long ((c1.toInt64) - (192 : Int64))), .second, .val (.int (0 : Int32)), .val (.int (1 : Int32))] [(.int (1 : Int32))]))
          refine own_of (fun _ hh_ => XS.ifYes X0.here hx rfl (pc0 := 81) (pc' := 94) rfl (hb hby dX_81) rfl ((if0 _ _).trans (by decide)) (by decide) (by decide) hh_) ?_
          show own_Run p e below s _ _ _ (s₁.setTop (mkF m 94 #[.val (.int c1), .val (.long ((c1.toInt64) - (65 : Int64))), .second, .val (.int (1 : Int32)), .val (.long ((c1.toInt64) - (192 : Int64))), .second, .val (.int (0 : Int32)), .val (.int (1 : Int32))] []))
          refine own_of (fun _ hh_ => XS.iconst X0.here hx rfl (hb hby dX_94) hh_) ?_
          show own_Run p e below s _ _ _ (s₁.setTop (mkF m 95 #[.val (.int c1), .val (.long ((c1.toInt64) - (65 : Int64))), .second, .val (.int (1 : Int32)), .val (.long ((c1.toInt64) - (192 : Int64))), .second, .val (.int (0 : Int32)), .val (.int (1 : Int32))] [(.int (1 : Int32))]))
          refine own_of (fun _ hh_ => XS.goto X0.here hx rfl (pc0 := 95) (pc' := 99) rfl (hb hby dX_95) (by decide) (by decide) hh_) ?_
          show own_Run p e below s _ _ _ (s₁.setTop (mkF m 99 #[.val (.int c1), .val (.long ((c1.toInt64) - (65 : Int64))), .second, .val (.int (1 : Int32)), .val (.long ((c1.toInt64) - (192 : Int64))), .second, .val (.int (0 : Int32)), .val (.int (1 : Int32))] [(.int (1 : Int32))]))
          exact own_retN X0 hx (t := .boolean) hret hlk (by simp) (hb hby dX_99) ⟨by rw [if_pos (show own_S c1 from by have a_hc10_1 := mt Int64.lt_iff_toInt_lt.mpr hc10_1; have a_hc18_9 := mt Int64.lt_iff_toInt_lt.mpr hc18_9; have a_hc39_17 := Int64.lt_iff_toInt_lt.mp hc39_17; have a_hc70_18 := Int32.toInt_inj.mpr hc70_18; have l_0 : (65 : Int64).toInt = 65 := rfl; have l_1 : (0 : Int64).toInt = 0 := rfl; have l_2 : (25 : Int64).toInt = 25 := rfl; have l_3 : (192 : Int64).toInt = 192 := rfl; have l_4 : (95 : Int32).toInt = 95 := rfl; omega)]; rfl, N0, e0⟩ (by decide) (by decide)
        · refine own_of (fun _ hh_ => XS.icmpYes X0.here hx rfl (pc0 := 70) (pc' := 77) rfl (hb hby dX_70) rfl (feq hc70_18).2 (by decide) (by decide) hh_) ?_
          show own_Run p e below s _ _ _ (s₁.setTop (mkF m 77 #[.val (.int c1), .val (.long ((c1.toInt64) - (65 : Int64))), .second, .val (.int (1 : Int32)), .val (.long ((c1.toInt64) - (192 : Int64))), .second, .val (.int (0 : Int32)), .unset] []))
          refine own_of (fun _ hh_ => XS.iconst X0.here hx rfl (hb hby dX_77) hh_) ?_
          show own_Run p e below s _ _ _ (s₁.setTop (mkF m 78 #[.val (.int c1), .val (.long ((c1.toInt64) - (65 : Int64))), .second, .val (.int (1 : Int32)), .val (.long ((c1.toInt64) - (192 : Int64))), .second, .val (.int (0 : Int32)), .unset] [(.int (0 : Int32))]))
          refine own_of (fun _ hh_ => XS.istore X0.here hx rfl (hb hby dX_78) rfl (l' := #[.val (.int c1), .val (.long ((c1.toInt64) - (65 : Int64))), .second, .val (.int (1 : Int32)), .val (.long ((c1.toInt64) - (192 : Int64))), .second, .val (.int (0 : Int32)), .val (.int (0 : Int32))]) rfl hh_) ?_
          show own_Run p e below s _ _ _ (s₁.setTop (mkF m 80 #[.val (.int c1), .val (.long ((c1.toInt64) - (65 : Int64))), .second, .val (.int (1 : Int32)), .val (.long ((c1.toInt64) - (192 : Int64))), .second, .val (.int (0 : Int32)), .val (.int (0 : Int32))] []))
          refine own_of (fun _ hh_ => XS.iloadN X0.here hx rfl (hb hby dX_80) rfl hh_) ?_
          show own_Run p e below s _ _ _ (s₁.setTop (mkF m 81 #[.val (.int c1), .val (.long ((c1.toInt64) - (65 : Int64))), .second, .val (.int (1 : Int32)), .val (.long ((c1.toInt64) - (192 : Int64))), .second, .val (.int (0 : Int32)), .val (.int (0 : Int32))] [(.int (1 : Int32))]))
          refine own_of (fun _ hh_ => XS.ifYes X0.here hx rfl (pc0 := 81) (pc' := 94) rfl (hb hby dX_81) rfl ((if0 _ _).trans (by decide)) (by decide) (by decide) hh_) ?_
          show own_Run p e below s _ _ _ (s₁.setTop (mkF m 94 #[.val (.int c1), .val (.long ((c1.toInt64) - (65 : Int64))), .second, .val (.int (1 : Int32)), .val (.long ((c1.toInt64) - (192 : Int64))), .second, .val (.int (0 : Int32)), .val (.int (0 : Int32))] []))
          refine own_of (fun _ hh_ => XS.iconst X0.here hx rfl (hb hby dX_94) hh_) ?_
          show own_Run p e below s _ _ _ (s₁.setTop (mkF m 95 #[.val (.int c1), .val (.long ((c1.toInt64) - (65 : Int64))), .second, .val (.int (1 : Int32)), .val (.long ((c1.toInt64) - (192 : Int64))), .second, .val (.int (0 : Int32)), .val (.int (0 : Int32))] [(.int (1 : Int32))]))
          refine own_of (fun _ hh_ => XS.goto X0.here hx rfl (pc0 := 95) (pc' := 99) rfl (hb hby dX_95) (by decide) (by decide) hh_) ?_
          show own_Run p e below s _ _ _ (s₁.setTop (mkF m 99 #[.val (.int c1), .val (.long ((c1.toInt64) - (65 : Int64))), .second, .val (.int (1 : Int32)), .val (.long ((c1.toInt64) - (192 : Int64))), .second, .val (.int (0 : Int32)), .val (.int (0 : Int32))] [(.int (1 : Int32))]))
          exact own_retN X0 hx (t := .boolean) hret hlk (by simp) (hb hby dX_99) ⟨by rw [if_pos (show own_S c1 from by have a_hc10_1 := mt Int64.lt_iff_toInt_lt.mpr hc10_1; have a_hc18_9 := mt Int64.lt_iff_toInt_lt.mpr hc18_9; have a_hc39_17 := Int64.lt_iff_toInt_lt.mp hc39_17; have a_hc70_18 := mt Int32.toInt_inj.mp hc70_18; have l_0 : (65 : Int64).toInt = 65 := rfl; have l_1 : (0 : Int64).toInt = 0 := rfl; have l_2 : (25 : Int64).toInt = 25 := rfl; have l_3 : (192 : Int64).toInt = 192 := rfl; have l_4 : (95 : Int32).toInt = 95 := rfl; omega)]; rfl, N0, e0⟩ (by decide) (by decide)
      · refine own_of (fun _ hh_ => XS.ifNo X0.here hx rfl (hb hby dX_39) rfl ((if0 _ _).trans (flt (fun q_ => hc39_17 ((lw_lt _ _).mp q_))).1) hh_) ?_
        show own_Run p e below s _ _ _ (s₁.setTop (mkF m 42 #[.val (.int c1), .val (.long ((c1.toInt64) - (65 : Int64))), .second, .val (.int (1 : Int32)), .val (.long ((c1.toInt64) - (192 : Int64))), .second, .unset, .unset] []))
        refine own_of (fun _ hh_ => XS.lload X0.here hx rfl (hb hby dX_42) rfl hh_) ?_
        show own_Run p e below s _ _ _ (s₁.setTop (mkF m 44 #[.val (.int c1), .val (.long ((c1.toInt64) - (65 : Int64))), .second, .val (.int (1 : Int32)), .val (.long ((c1.toInt64) - (192 : Int64))), .second, .unset, .unset] [(.long ((c1.toInt64) - (192 : Int64)))]))
        refine own_of (X0.ldc2Long hx hown (mvT hZ (hw _ (List.mem_of_getElem? (i := 14) rfl))) (g := (mkF m 44 #[.val (.int c1), .val (.long ((c1.toInt64) - (65 : Int64))), .second, .val (.int (1 : Int32)), .val (.long ((c1.toInt64) - (192 : Int64))), .second, .unset, .unset] [(.long ((c1.toInt64) - (192 : Int64)))])) rfl (hb hby dX_44)) ?_
        show own_Run p e below s _ _ _ (s₁.setTop (mkF m 47 #[.val (.int c1), .val (.long ((c1.toInt64) - (65 : Int64))), .second, .val (.int (1 : Int32)), .val (.long ((c1.toInt64) - (192 : Int64))), .second, .unset, .unset] [(.long (30 : Int64)), (.long ((c1.toInt64) - (192 : Int64)))]))
        refine own_of (fun _ hh_ => XS.lcmp X0.here hx rfl (hb hby dX_47) rfl hh_) ?_
        show own_Run p e below s _ _ _ (s₁.setTop (mkF m 48 #[.val (.int c1), .val (.long ((c1.toInt64) - (65 : Int64))), .second, .val (.int (1 : Int32)), .val (.long ((c1.toInt64) - (192 : Int64))), .second, .unset, .unset] [(.int (lcmpW ((c1.toInt64) - (192 : Int64)) (30 : Int64)))]))
        by_cases hc48_19 : (30 : Int64) < ((c1.toInt64) - (192 : Int64))
        · refine own_of (fun _ hh_ => XS.ifYes X0.here hx rfl (pc0 := 48) (pc' := 64) rfl (hb hby dX_48) rfl ((if0 _ _).trans (tlt ((lw_gt _ _).mpr hc48_19)).2.2.1) (by decide) (by decide) hh_) ?_
          show own_Run p e below s _ _ _ (s₁.setTop (mkF m 64 #[.val (.int c1), .val (.long ((c1.toInt64) - (65 : Int64))), .second, .val (.int (1 : Int32)), .val (.long ((c1.toInt64) - (192 : Int64))), .second, .unset, .unset] []))
          refine own_of (fun _ hh_ => XS.iconst X0.here hx rfl (hb hby dX_64) hh_) ?_
          show own_Run p e below s _ _ _ (s₁.setTop (mkF m 65 #[.val (.int c1), .val (.long ((c1.toInt64) - (65 : Int64))), .second, .val (.int (1 : Int32)), .val (.long ((c1.toInt64) - (192 : Int64))), .second, .unset, .unset] [(.int (0 : Int32))]))
          refine own_of (fun _ hh_ => XS.istore X0.here hx rfl (hb hby dX_65) rfl (l' := #[.val (.int c1), .val (.long ((c1.toInt64) - (65 : Int64))), .second, .val (.int (1 : Int32)), .val (.long ((c1.toInt64) - (192 : Int64))), .second, .val (.int (0 : Int32)), .unset]) rfl hh_) ?_
          show own_Run p e below s _ _ _ (s₁.setTop (mkF m 67 #[.val (.int c1), .val (.long ((c1.toInt64) - (65 : Int64))), .second, .val (.int (1 : Int32)), .val (.long ((c1.toInt64) - (192 : Int64))), .second, .val (.int (0 : Int32)), .unset] []))
          refine own_of (fun _ hh_ => XS.iloadN X0.here hx rfl (hb hby dX_67) rfl hh_) ?_
          show own_Run p e below s _ _ _ (s₁.setTop (mkF m 68 #[.val (.int c1), .val (.long ((c1.toInt64) - (65 : Int64))), .second, .val (.int (1 : Int32)), .val (.long ((c1.toInt64) - (192 : Int64))), .second, .val (.int (0 : Int32)), .unset] [(.int c1)]))
          refine own_of (fun _ hh_ => XS.bipush X0.here hx rfl (hb hby dX_68) hh_) ?_
          show own_Run p e below s _ _ _ (s₁.setTop (mkF m 70 #[.val (.int c1), .val (.long ((c1.toInt64) - (65 : Int64))), .second, .val (.int (1 : Int32)), .val (.long ((c1.toInt64) - (192 : Int64))), .second, .val (.int (0 : Int32)), .unset] [(.int (95 : Int32)), (.int c1)]))
          by_cases hc70_20 : c1 = (95 : Int32)
          · refine own_of (fun _ hh_ => XS.icmpNo X0.here hx rfl (hb hby dX_70) rfl (teq hc70_20).2 hh_) ?_
            show own_Run p e below s _ _ _ (s₁.setTop (mkF m 73 #[.val (.int c1), .val (.long ((c1.toInt64) - (65 : Int64))), .second, .val (.int (1 : Int32)), .val (.long ((c1.toInt64) - (192 : Int64))), .second, .val (.int (0 : Int32)), .unset] []))
            refine own_of (fun _ hh_ => XS.iconst X0.here hx rfl (hb hby dX_73) hh_) ?_
            show own_Run p e below s _ _ _ (s₁.setTop (mkF m 74 #[.val (.int c1), .val (.long ((c1.toInt64) - (65 : Int64))), .second, .val (.int (1 : Int32)), .val (.long ((c1.toInt64) - (192 : Int64))), .second, .val (.int (0 : Int32)), .unset] [(.int (1 : Int32))]))
            refine own_of (fun _ hh_ => XS.goto X0.here hx rfl (pc0 := 74) (pc' := 78) rfl (hb hby dX_74) (by decide) (by decide) hh_) ?_
            show own_Run p e below s _ _ _ (s₁.setTop (mkF m 78 #[.val (.int c1), .val (.long ((c1.toInt64) - (65 : Int64))), .second, .val (.int (1 : Int32)), .val (.long ((c1.toInt64) - (192 : Int64))), .second, .val (.int (0 : Int32)), .unset] [(.int (1 : Int32))]))
            refine own_of (fun _ hh_ => XS.istore X0.here hx rfl (hb hby dX_78) rfl (l' := #[.val (.int c1), .val (.long ((c1.toInt64) - (65 : Int64))), .second, .val (.int (1 : Int32)), .val (.long ((c1.toInt64) - (192 : Int64))), .second, .val (.int (0 : Int32)), .val (.int (1 : Int32))]) rfl hh_) ?_
            show own_Run p e below s _ _ _ (s₁.setTop (mkF m 80 #[.val (.int c1), .val (.long ((c1.toInt64) - (65 : Int64))), .second, .val (.int (1 : Int32)), .val (.long ((c1.toInt64) - (192 : Int64))), .second, .val (.int (0 : Int32)), .val (.int (1 : Int32))] []))
            refine own_of (fun _ hh_ => XS.iloadN X0.here hx rfl (hb hby dX_80) rfl hh_) ?_
            show own_Run p e below s _ _ _ (s₁.setTop (mkF m 81 #[.val (.int c1), .val (.long ((c1.toInt64) - (65 : Int64))), .second, .val (.int (1 : Int32)), .val (.long ((c1.toInt64) - (192 : Int64))), .second, .val (.int (0 : Int32)), .val (.int (1 : Int32))] [(.int (1 : Int32))]))
            refine own_of (fun _ hh_ => XS.ifYes X0.here hx rfl (pc0 := 81) (pc' := 94) rfl (hb hby dX_81) rfl ((if0 _ _).trans (by decide)) (by decide) (by decide) hh_) ?_
            show own_Run p e below s _ _ _ (s₁.setTop (mkF m 94 #[.val (.int c1), .val (.long ((c1.toInt64) - (65 : Int64))), .second, .val (.int (1 : Int32)), .val (.long ((c1.toInt64) - (192 : Int64))), .second, .val (.int (0 : Int32)), .val (.int (1 : Int32))] []))
            refine own_of (fun _ hh_ => XS.iconst X0.here hx rfl (hb hby dX_94) hh_) ?_
            show own_Run p e below s _ _ _ (s₁.setTop (mkF m 95 #[.val (.int c1), .val (.long ((c1.toInt64) - (65 : Int64))), .second, .val (.int (1 : Int32)), .val (.long ((c1.toInt64) - (192 : Int64))), .second, .val (.int (0 : Int32)), .val (.int (1 : Int32))] [(.int (1 : Int32))]))
            refine own_of (fun _ hh_ => XS.goto X0.here hx rfl (pc0 := 95) (pc' := 99) rfl (hb hby dX_95) (by decide) (by decide) hh_) ?_
            show own_Run p e below s _ _ _ (s₁.setTop (mkF m 99 #[.val (.int c1), .val (.long ((c1.toInt64) - (65 : Int64))), .second, .val (.int (1 : Int32)), .val (.long ((c1.toInt64) - (192 : Int64))), .second, .val (.int (0 : Int32)), .val (.int (1 : Int32))] [(.int (1 : Int32))]))
            exact own_retN X0 hx (t := .boolean) hret hlk (by simp) (hb hby dX_99) ⟨by rw [if_pos (show own_S c1 from by have a_hc10_1 := mt Int64.lt_iff_toInt_lt.mpr hc10_1; have a_hc18_9 := mt Int64.lt_iff_toInt_lt.mpr hc18_9; have a_hc39_17 := mt Int64.lt_iff_toInt_lt.mpr hc39_17; have a_hc48_19 := Int64.lt_iff_toInt_lt.mp hc48_19; have a_hc70_20 := Int32.toInt_inj.mpr hc70_20; have l_0 : (65 : Int64).toInt = 65 := rfl; have l_1 : (0 : Int64).toInt = 0 := rfl; have l_2 : (25 : Int64).toInt = 25 := rfl; have l_3 : (192 : Int64).toInt = 192 := rfl; have l_4 : (30 : Int64).toInt = 30 := rfl; have l_5 : (95 : Int32).toInt = 95 := rfl; omega)]; rfl, N0, e0⟩ (by decide) (by decide)
          · refine own_of (fun _ hh_ => XS.icmpYes X0.here hx rfl (pc0 := 70) (pc' := 77) rfl (hb hby dX_70) rfl (feq hc70_20).2 (by decide) (by decide) hh_) ?_
            show own_Run p e below s _ _ _ (s₁.setTop (mkF m 77 #[.val (.int c1), .val (.long ((c1.toInt64) - (65 : Int64))), .second, .val (.int (1 : Int32)), .val (.long ((c1.toInt64) - (192 : Int64))), .second, .val (.int (0 : Int32)), .unset] []))
            refine own_of (fun _ hh_ => XS.iconst X0.here hx rfl (hb hby dX_77) hh_) ?_
            show own_Run p e below s _ _ _ (s₁.setTop (mkF m 78 #[.val (.int c1), .val (.long ((c1.toInt64) - (65 : Int64))), .second, .val (.int (1 : Int32)), .val (.long ((c1.toInt64) - (192 : Int64))), .second, .val (.int (0 : Int32)), .unset] [(.int (0 : Int32))]))
            refine own_of (fun _ hh_ => XS.istore X0.here hx rfl (hb hby dX_78) rfl (l' := #[.val (.int c1), .val (.long ((c1.toInt64) - (65 : Int64))), .second, .val (.int (1 : Int32)), .val (.long ((c1.toInt64) - (192 : Int64))), .second, .val (.int (0 : Int32)), .val (.int (0 : Int32))]) rfl hh_) ?_
            show own_Run p e below s _ _ _ (s₁.setTop (mkF m 80 #[.val (.int c1), .val (.long ((c1.toInt64) - (65 : Int64))), .second, .val (.int (1 : Int32)), .val (.long ((c1.toInt64) - (192 : Int64))), .second, .val (.int (0 : Int32)), .val (.int (0 : Int32))] []))
            refine own_of (fun _ hh_ => XS.iloadN X0.here hx rfl (hb hby dX_80) rfl hh_) ?_
            show own_Run p e below s _ _ _ (s₁.setTop (mkF m 81 #[.val (.int c1), .val (.long ((c1.toInt64) - (65 : Int64))), .second, .val (.int (1 : Int32)), .val (.long ((c1.toInt64) - (192 : Int64))), .second, .val (.int (0 : Int32)), .val (.int (0 : Int32))] [(.int (1 : Int32))]))
            refine own_of (fun _ hh_ => XS.ifYes X0.here hx rfl (pc0 := 81) (pc' := 94) rfl (hb hby dX_81) rfl ((if0 _ _).trans (by decide)) (by decide) (by decide) hh_) ?_
            show own_Run p e below s _ _ _ (s₁.setTop (mkF m 94 #[.val (.int c1), .val (.long ((c1.toInt64) - (65 : Int64))), .second, .val (.int (1 : Int32)), .val (.long ((c1.toInt64) - (192 : Int64))), .second, .val (.int (0 : Int32)), .val (.int (0 : Int32))] []))
            refine own_of (fun _ hh_ => XS.iconst X0.here hx rfl (hb hby dX_94) hh_) ?_
            show own_Run p e below s _ _ _ (s₁.setTop (mkF m 95 #[.val (.int c1), .val (.long ((c1.toInt64) - (65 : Int64))), .second, .val (.int (1 : Int32)), .val (.long ((c1.toInt64) - (192 : Int64))), .second, .val (.int (0 : Int32)), .val (.int (0 : Int32))] [(.int (1 : Int32))]))
            refine own_of (fun _ hh_ => XS.goto X0.here hx rfl (pc0 := 95) (pc' := 99) rfl (hb hby dX_95) (by decide) (by decide) hh_) ?_
            show own_Run p e below s _ _ _ (s₁.setTop (mkF m 99 #[.val (.int c1), .val (.long ((c1.toInt64) - (65 : Int64))), .second, .val (.int (1 : Int32)), .val (.long ((c1.toInt64) - (192 : Int64))), .second, .val (.int (0 : Int32)), .val (.int (0 : Int32))] [(.int (1 : Int32))]))
            exact own_retN X0 hx (t := .boolean) hret hlk (by simp) (hb hby dX_99) ⟨by rw [if_pos (show own_S c1 from by have a_hc10_1 := mt Int64.lt_iff_toInt_lt.mpr hc10_1; have a_hc18_9 := mt Int64.lt_iff_toInt_lt.mpr hc18_9; have a_hc39_17 := mt Int64.lt_iff_toInt_lt.mpr hc39_17; have a_hc48_19 := Int64.lt_iff_toInt_lt.mp hc48_19; have a_hc70_20 := mt Int32.toInt_inj.mp hc70_20; have l_0 : (65 : Int64).toInt = 65 := rfl; have l_1 : (0 : Int64).toInt = 0 := rfl; have l_2 : (25 : Int64).toInt = 25 := rfl; have l_3 : (192 : Int64).toInt = 192 := rfl; have l_4 : (30 : Int64).toInt = 30 := rfl; have l_5 : (95 : Int32).toInt = 95 := rfl; omega)]; rfl, N0, e0⟩ (by decide) (by decide)
        · refine own_of (fun _ hh_ => XS.ifNo X0.here hx rfl (hb hby dX_48) rfl ((if0 _ _).trans (flt (fun q_ => hc48_19 ((lw_gt _ _).mp q_))).2.2.1) hh_) ?_
          show own_Run p e below s _ _ _ (s₁.setTop (mkF m 51 #[.val (.int c1), .val (.long ((c1.toInt64) - (65 : Int64))), .second, .val (.int (1 : Int32)), .val (.long ((c1.toInt64) - (192 : Int64))), .second, .unset, .unset] []))
          refine own_of (fun _ hh_ => XS.lload X0.here hx rfl (hb hby dX_51) rfl hh_) ?_
          show own_Run p e below s _ _ _ (s₁.setTop (mkF m 53 #[.val (.int c1), .val (.long ((c1.toInt64) - (65 : Int64))), .second, .val (.int (1 : Int32)), .val (.long ((c1.toInt64) - (192 : Int64))), .second, .unset, .unset] [(.long ((c1.toInt64) - (192 : Int64)))]))
          refine own_of (X0.ldc2Long hx hown (mvT hZ (hw _ (List.mem_of_getElem? (i := 15) rfl))) (g := (mkF m 53 #[.val (.int c1), .val (.long ((c1.toInt64) - (65 : Int64))), .second, .val (.int (1 : Int32)), .val (.long ((c1.toInt64) - (192 : Int64))), .second, .unset, .unset] [(.long ((c1.toInt64) - (192 : Int64)))])) rfl (hb hby dX_53)) ?_
          show own_Run p e below s _ _ _ (s₁.setTop (mkF m 56 #[.val (.int c1), .val (.long ((c1.toInt64) - (65 : Int64))), .second, .val (.int (1 : Int32)), .val (.long ((c1.toInt64) - (192 : Int64))), .second, .unset, .unset] [(.long (23 : Int64)), (.long ((c1.toInt64) - (192 : Int64)))]))
          refine own_of (fun _ hh_ => XS.lcmp X0.here hx rfl (hb hby dX_56) rfl hh_) ?_
          show own_Run p e below s _ _ _ (s₁.setTop (mkF m 57 #[.val (.int c1), .val (.long ((c1.toInt64) - (65 : Int64))), .second, .val (.int (1 : Int32)), .val (.long ((c1.toInt64) - (192 : Int64))), .second, .unset, .unset] [(.int (lcmpW ((c1.toInt64) - (192 : Int64)) (23 : Int64)))]))
          by_cases hc57_21 : ((c1.toInt64) - (192 : Int64)) = (23 : Int64)
          · refine own_of (fun _ hh_ => XS.ifYes X0.here hx rfl (pc0 := 57) (pc' := 64) rfl (hb hby dX_57) rfl ((if0 _ _).trans (teq ((lw_eq _ _).mpr hc57_21)).1) (by decide) (by decide) hh_) ?_
            show own_Run p e below s _ _ _ (s₁.setTop (mkF m 64 #[.val (.int c1), .val (.long ((c1.toInt64) - (65 : Int64))), .second, .val (.int (1 : Int32)), .val (.long ((c1.toInt64) - (192 : Int64))), .second, .unset, .unset] []))
            refine own_of (fun _ hh_ => XS.iconst X0.here hx rfl (hb hby dX_64) hh_) ?_
            show own_Run p e below s _ _ _ (s₁.setTop (mkF m 65 #[.val (.int c1), .val (.long ((c1.toInt64) - (65 : Int64))), .second, .val (.int (1 : Int32)), .val (.long ((c1.toInt64) - (192 : Int64))), .second, .unset, .unset] [(.int (0 : Int32))]))
            refine own_of (fun _ hh_ => XS.istore X0.here hx rfl (hb hby dX_65) rfl (l' := #[.val (.int c1), .val (.long ((c1.toInt64) - (65 : Int64))), .second, .val (.int (1 : Int32)), .val (.long ((c1.toInt64) - (192 : Int64))), .second, .val (.int (0 : Int32)), .unset]) rfl hh_) ?_
            show own_Run p e below s _ _ _ (s₁.setTop (mkF m 67 #[.val (.int c1), .val (.long ((c1.toInt64) - (65 : Int64))), .second, .val (.int (1 : Int32)), .val (.long ((c1.toInt64) - (192 : Int64))), .second, .val (.int (0 : Int32)), .unset] []))
            refine own_of (fun _ hh_ => XS.iloadN X0.here hx rfl (hb hby dX_67) rfl hh_) ?_
            show own_Run p e below s _ _ _ (s₁.setTop (mkF m 68 #[.val (.int c1), .val (.long ((c1.toInt64) - (65 : Int64))), .second, .val (.int (1 : Int32)), .val (.long ((c1.toInt64) - (192 : Int64))), .second, .val (.int (0 : Int32)), .unset] [(.int c1)]))
            refine own_of (fun _ hh_ => XS.bipush X0.here hx rfl (hb hby dX_68) hh_) ?_
            show own_Run p e below s _ _ _ (s₁.setTop (mkF m 70 #[.val (.int c1), .val (.long ((c1.toInt64) - (65 : Int64))), .second, .val (.int (1 : Int32)), .val (.long ((c1.toInt64) - (192 : Int64))), .second, .val (.int (0 : Int32)), .unset] [(.int (95 : Int32)), (.int c1)]))
            by_cases hc70_22 : c1 = (95 : Int32)
            · refine own_of (fun _ hh_ => XS.icmpNo X0.here hx rfl (hb hby dX_70) rfl (teq hc70_22).2 hh_) ?_
              show own_Run p e below s _ _ _ (s₁.setTop (mkF m 73 #[.val (.int c1), .val (.long ((c1.toInt64) - (65 : Int64))), .second, .val (.int (1 : Int32)), .val (.long ((c1.toInt64) - (192 : Int64))), .second, .val (.int (0 : Int32)), .unset] []))
              refine own_of (fun _ hh_ => XS.iconst X0.here hx rfl (hb hby dX_73) hh_) ?_
              show own_Run p e below s _ _ _ (s₁.setTop (mkF m 74 #[.val (.int c1), .val (.long ((c1.toInt64) - (65 : Int64))), .second, .val (.int (1 : Int32)), .val (.long ((c1.toInt64) - (192 : Int64))), .second, .val (.int (0 : Int32)), .unset] [(.int (1 : Int32))]))
              refine own_of (fun _ hh_ => XS.goto X0.here hx rfl (pc0 := 74) (pc' := 78) rfl (hb hby dX_74) (by decide) (by decide) hh_) ?_
              show own_Run p e below s _ _ _ (s₁.setTop (mkF m 78 #[.val (.int c1), .val (.long ((c1.toInt64) - (65 : Int64))), .second, .val (.int (1 : Int32)), .val (.long ((c1.toInt64) - (192 : Int64))), .second, .val (.int (0 : Int32)), .unset] [(.int (1 : Int32))]))
              refine own_of (fun _ hh_ => XS.istore X0.here hx rfl (hb hby dX_78) rfl (l' := #[.val (.int c1), .val (.long ((c1.toInt64) - (65 : Int64))), .second, .val (.int (1 : Int32)), .val (.long ((c1.toInt64) - (192 : Int64))), .second, .val (.int (0 : Int32)), .val (.int (1 : Int32))]) rfl hh_) ?_
              show own_Run p e below s _ _ _ (s₁.setTop (mkF m 80 #[.val (.int c1), .val (.long ((c1.toInt64) - (65 : Int64))), .second, .val (.int (1 : Int32)), .val (.long ((c1.toInt64) - (192 : Int64))), .second, .val (.int (0 : Int32)), .val (.int (1 : Int32))] []))
              refine own_of (fun _ hh_ => XS.iloadN X0.here hx rfl (hb hby dX_80) rfl hh_) ?_
              show own_Run p e below s _ _ _ (s₁.setTop (mkF m 81 #[.val (.int c1), .val (.long ((c1.toInt64) - (65 : Int64))), .second, .val (.int (1 : Int32)), .val (.long ((c1.toInt64) - (192 : Int64))), .second, .val (.int (0 : Int32)), .val (.int (1 : Int32))] [(.int (1 : Int32))]))
              refine own_of (fun _ hh_ => XS.ifYes X0.here hx rfl (pc0 := 81) (pc' := 94) rfl (hb hby dX_81) rfl ((if0 _ _).trans (by decide)) (by decide) (by decide) hh_) ?_
              show own_Run p e below s _ _ _ (s₁.setTop (mkF m 94 #[.val (.int c1), .val (.long ((c1.toInt64) - (65 : Int64))), .second, .val (.int (1 : Int32)), .val (.long ((c1.toInt64) - (192 : Int64))), .second, .val (.int (0 : Int32)), .val (.int (1 : Int32))] []))
              refine own_of (fun _ hh_ => XS.iconst X0.here hx rfl (hb hby dX_94) hh_) ?_
              show own_Run p e below s _ _ _ (s₁.setTop (mkF m 95 #[.val (.int c1), .val (.long ((c1.toInt64) - (65 : Int64))), .second, .val (.int (1 : Int32)), .val (.long ((c1.toInt64) - (192 : Int64))), .second, .val (.int (0 : Int32)), .val (.int (1 : Int32))] [(.int (1 : Int32))]))
              refine own_of (fun _ hh_ => XS.goto X0.here hx rfl (pc0 := 95) (pc' := 99) rfl (hb hby dX_95) (by decide) (by decide) hh_) ?_
              show own_Run p e below s _ _ _ (s₁.setTop (mkF m 99 #[.val (.int c1), .val (.long ((c1.toInt64) - (65 : Int64))), .second, .val (.int (1 : Int32)), .val (.long ((c1.toInt64) - (192 : Int64))), .second, .val (.int (0 : Int32)), .val (.int (1 : Int32))] [(.int (1 : Int32))]))
              exact own_retN X0 hx (t := .boolean) hret hlk (by simp) (hb hby dX_99) ⟨by rw [if_pos (show own_S c1 from by have a_hc10_1 := mt Int64.lt_iff_toInt_lt.mpr hc10_1; have a_hc18_9 := mt Int64.lt_iff_toInt_lt.mpr hc18_9; have a_hc39_17 := mt Int64.lt_iff_toInt_lt.mpr hc39_17; have a_hc48_19 := mt Int64.lt_iff_toInt_lt.mpr hc48_19; have a_hc57_21 := Int64.toInt_inj.mpr hc57_21; have a_hc70_22 := Int32.toInt_inj.mpr hc70_22; have l_0 : (65 : Int64).toInt = 65 := rfl; have l_1 : (0 : Int64).toInt = 0 := rfl; have l_2 : (25 : Int64).toInt = 25 := rfl; have l_3 : (192 : Int64).toInt = 192 := rfl; have l_4 : (30 : Int64).toInt = 30 := rfl; have l_5 : (23 : Int64).toInt = 23 := rfl; have l_6 : (95 : Int32).toInt = 95 := rfl; omega)]; rfl, N0, e0⟩ (by decide) (by decide)
            · refine own_of (fun _ hh_ => XS.icmpYes X0.here hx rfl (pc0 := 70) (pc' := 77) rfl (hb hby dX_70) rfl (feq hc70_22).2 (by decide) (by decide) hh_) ?_
              show own_Run p e below s _ _ _ (s₁.setTop (mkF m 77 #[.val (.int c1), .val (.long ((c1.toInt64) - (65 : Int64))), .second, .val (.int (1 : Int32)), .val (.long ((c1.toInt64) - (192 : Int64))), .second, .val (.int (0 : Int32)), .unset] []))
              refine own_of (fun _ hh_ => XS.iconst X0.here hx rfl (hb hby dX_77) hh_) ?_
              show own_Run p e below s _ _ _ (s₁.setTop (mkF m 78 #[.val (.int c1), .val (.long ((c1.toInt64) - (65 : Int64))), .second, .val (.int (1 : Int32)), .val (.long ((c1.toInt64) - (192 : Int64))), .second, .val (.int (0 : Int32)), .unset] [(.int (0 : Int32))]))
              refine own_of (fun _ hh_ => XS.istore X0.here hx rfl (hb hby dX_78) rfl (l' := #[.val (.int c1), .val (.long ((c1.toInt64) - (65 : Int64))), .second, .val (.int (1 : Int32)), .val (.long ((c1.toInt64) - (192 : Int64))), .second, .val (.int (0 : Int32)), .val (.int (0 : Int32))]) rfl hh_) ?_
              show own_Run p e below s _ _ _ (s₁.setTop (mkF m 80 #[.val (.int c1), .val (.long ((c1.toInt64) - (65 : Int64))), .second, .val (.int (1 : Int32)), .val (.long ((c1.toInt64) - (192 : Int64))), .second, .val (.int (0 : Int32)), .val (.int (0 : Int32))] []))
              refine own_of (fun _ hh_ => XS.iloadN X0.here hx rfl (hb hby dX_80) rfl hh_) ?_
              show own_Run p e below s _ _ _ (s₁.setTop (mkF m 81 #[.val (.int c1), .val (.long ((c1.toInt64) - (65 : Int64))), .second, .val (.int (1 : Int32)), .val (.long ((c1.toInt64) - (192 : Int64))), .second, .val (.int (0 : Int32)), .val (.int (0 : Int32))] [(.int (1 : Int32))]))
              refine own_of (fun _ hh_ => XS.ifYes X0.here hx rfl (pc0 := 81) (pc' := 94) rfl (hb hby dX_81) rfl ((if0 _ _).trans (by decide)) (by decide) (by decide) hh_) ?_
              show own_Run p e below s _ _ _ (s₁.setTop (mkF m 94 #[.val (.int c1), .val (.long ((c1.toInt64) - (65 : Int64))), .second, .val (.int (1 : Int32)), .val (.long ((c1.toInt64) - (192 : Int64))), .second, .val (.int (0 : Int32)), .val (.int (0 : Int32))] []))
              refine own_of (fun _ hh_ => XS.iconst X0.here hx rfl (hb hby dX_94) hh_) ?_
              show own_Run p e below s _ _ _ (s₁.setTop (mkF m 95 #[.val (.int c1), .val (.long ((c1.toInt64) - (65 : Int64))), .second, .val (.int (1 : Int32)), .val (.long ((c1.toInt64) - (192 : Int64))), .second, .val (.int (0 : Int32)), .val (.int (0 : Int32))] [(.int (1 : Int32))]))
              refine own_of (fun _ hh_ => XS.goto X0.here hx rfl (pc0 := 95) (pc' := 99) rfl (hb hby dX_95) (by decide) (by decide) hh_) ?_
              show own_Run p e below s _ _ _ (s₁.setTop (mkF m 99 #[.val (.int c1), .val (.long ((c1.toInt64) - (65 : Int64))), .second, .val (.int (1 : Int32)), .val (.long ((c1.toInt64) - (192 : Int64))), .second, .val (.int (0 : Int32)), .val (.int (0 : Int32))] [(.int (1 : Int32))]))
              exact own_retN X0 hx (t := .boolean) hret hlk (by simp) (hb hby dX_99) ⟨by rw [if_pos (show own_S c1 from by have a_hc10_1 := mt Int64.lt_iff_toInt_lt.mpr hc10_1; have a_hc18_9 := mt Int64.lt_iff_toInt_lt.mpr hc18_9; have a_hc39_17 := mt Int64.lt_iff_toInt_lt.mpr hc39_17; have a_hc48_19 := mt Int64.lt_iff_toInt_lt.mpr hc48_19; have a_hc57_21 := Int64.toInt_inj.mpr hc57_21; have a_hc70_22 := mt Int32.toInt_inj.mp hc70_22; have l_0 : (65 : Int64).toInt = 65 := rfl; have l_1 : (0 : Int64).toInt = 0 := rfl; have l_2 : (25 : Int64).toInt = 25 := rfl; have l_3 : (192 : Int64).toInt = 192 := rfl; have l_4 : (30 : Int64).toInt = 30 := rfl; have l_5 : (23 : Int64).toInt = 23 := rfl; have l_6 : (95 : Int32).toInt = 95 := rfl; omega)]; rfl, N0, e0⟩ (by decide) (by decide)
          · refine own_of (fun _ hh_ => XS.ifNo X0.here hx rfl (hb hby dX_57) rfl ((if0 _ _).trans (feq (fun q_ => hc57_21 ((lw_eq _ _).mp q_))).1) hh_) ?_
            show own_Run p e below s _ _ _ (s₁.setTop (mkF m 60 #[.val (.int c1), .val (.long ((c1.toInt64) - (65 : Int64))), .second, .val (.int (1 : Int32)), .val (.long ((c1.toInt64) - (192 : Int64))), .second, .unset, .unset] []))
            refine own_of (fun _ hh_ => XS.iconst X0.here hx rfl (hb hby dX_60) hh_) ?_
            show own_Run p e below s _ _ _ (s₁.setTop (mkF m 61 #[.val (.int c1), .val (.long ((c1.toInt64) - (65 : Int64))), .second, .val (.int (1 : Int32)), .val (.long ((c1.toInt64) - (192 : Int64))), .second, .unset, .unset] [(.int (1 : Int32))]))
            refine own_of (fun _ hh_ => XS.goto X0.here hx rfl (pc0 := 61) (pc' := 65) rfl (hb hby dX_61) (by decide) (by decide) hh_) ?_
            show own_Run p e below s _ _ _ (s₁.setTop (mkF m 65 #[.val (.int c1), .val (.long ((c1.toInt64) - (65 : Int64))), .second, .val (.int (1 : Int32)), .val (.long ((c1.toInt64) - (192 : Int64))), .second, .unset, .unset] [(.int (1 : Int32))]))
            refine own_of (fun _ hh_ => XS.istore X0.here hx rfl (hb hby dX_65) rfl (l' := #[.val (.int c1), .val (.long ((c1.toInt64) - (65 : Int64))), .second, .val (.int (1 : Int32)), .val (.long ((c1.toInt64) - (192 : Int64))), .second, .val (.int (1 : Int32)), .unset]) rfl hh_) ?_
            show own_Run p e below s _ _ _ (s₁.setTop (mkF m 67 #[.val (.int c1), .val (.long ((c1.toInt64) - (65 : Int64))), .second, .val (.int (1 : Int32)), .val (.long ((c1.toInt64) - (192 : Int64))), .second, .val (.int (1 : Int32)), .unset] []))
            refine own_of (fun _ hh_ => XS.iloadN X0.here hx rfl (hb hby dX_67) rfl hh_) ?_
            show own_Run p e below s _ _ _ (s₁.setTop (mkF m 68 #[.val (.int c1), .val (.long ((c1.toInt64) - (65 : Int64))), .second, .val (.int (1 : Int32)), .val (.long ((c1.toInt64) - (192 : Int64))), .second, .val (.int (1 : Int32)), .unset] [(.int c1)]))
            refine own_of (fun _ hh_ => XS.bipush X0.here hx rfl (hb hby dX_68) hh_) ?_
            show own_Run p e below s _ _ _ (s₁.setTop (mkF m 70 #[.val (.int c1), .val (.long ((c1.toInt64) - (65 : Int64))), .second, .val (.int (1 : Int32)), .val (.long ((c1.toInt64) - (192 : Int64))), .second, .val (.int (1 : Int32)), .unset] [(.int (95 : Int32)), (.int c1)]))
            by_cases hc70_23 : c1 = (95 : Int32)
            · refine own_of (fun _ hh_ => XS.icmpNo X0.here hx rfl (hb hby dX_70) rfl (teq hc70_23).2 hh_) ?_
              show own_Run p e below s _ _ _ (s₁.setTop (mkF m 73 #[.val (.int c1), .val (.long ((c1.toInt64) - (65 : Int64))), .second, .val (.int (1 : Int32)), .val (.long ((c1.toInt64) - (192 : Int64))), .second, .val (.int (1 : Int32)), .unset] []))
              refine own_of (fun _ hh_ => XS.iconst X0.here hx rfl (hb hby dX_73) hh_) ?_
              show own_Run p e below s _ _ _ (s₁.setTop (mkF m 74 #[.val (.int c1), .val (.long ((c1.toInt64) - (65 : Int64))), .second, .val (.int (1 : Int32)), .val (.long ((c1.toInt64) - (192 : Int64))), .second, .val (.int (1 : Int32)), .unset] [(.int (1 : Int32))]))
              refine own_of (fun _ hh_ => XS.goto X0.here hx rfl (pc0 := 74) (pc' := 78) rfl (hb hby dX_74) (by decide) (by decide) hh_) ?_
              show own_Run p e below s _ _ _ (s₁.setTop (mkF m 78 #[.val (.int c1), .val (.long ((c1.toInt64) - (65 : Int64))), .second, .val (.int (1 : Int32)), .val (.long ((c1.toInt64) - (192 : Int64))), .second, .val (.int (1 : Int32)), .unset] [(.int (1 : Int32))]))
              refine own_of (fun _ hh_ => XS.istore X0.here hx rfl (hb hby dX_78) rfl (l' := #[.val (.int c1), .val (.long ((c1.toInt64) - (65 : Int64))), .second, .val (.int (1 : Int32)), .val (.long ((c1.toInt64) - (192 : Int64))), .second, .val (.int (1 : Int32)), .val (.int (1 : Int32))]) rfl hh_) ?_
              show own_Run p e below s _ _ _ (s₁.setTop (mkF m 80 #[.val (.int c1), .val (.long ((c1.toInt64) - (65 : Int64))), .second, .val (.int (1 : Int32)), .val (.long ((c1.toInt64) - (192 : Int64))), .second, .val (.int (1 : Int32)), .val (.int (1 : Int32))] []))
              refine own_of (fun _ hh_ => XS.iloadN X0.here hx rfl (hb hby dX_80) rfl hh_) ?_
              show own_Run p e below s _ _ _ (s₁.setTop (mkF m 81 #[.val (.int c1), .val (.long ((c1.toInt64) - (65 : Int64))), .second, .val (.int (1 : Int32)), .val (.long ((c1.toInt64) - (192 : Int64))), .second, .val (.int (1 : Int32)), .val (.int (1 : Int32))] [(.int (1 : Int32))]))
              refine own_of (fun _ hh_ => XS.ifYes X0.here hx rfl (pc0 := 81) (pc' := 94) rfl (hb hby dX_81) rfl ((if0 _ _).trans (by decide)) (by decide) (by decide) hh_) ?_
              show own_Run p e below s _ _ _ (s₁.setTop (mkF m 94 #[.val (.int c1), .val (.long ((c1.toInt64) - (65 : Int64))), .second, .val (.int (1 : Int32)), .val (.long ((c1.toInt64) - (192 : Int64))), .second, .val (.int (1 : Int32)), .val (.int (1 : Int32))] []))
              refine own_of (fun _ hh_ => XS.iconst X0.here hx rfl (hb hby dX_94) hh_) ?_
              show own_Run p e below s _ _ _ (s₁.setTop (mkF m 95 #[.val (.int c1), .val (.long ((c1.toInt64) - (65 : Int64))), .second, .val (.int (1 : Int32)), .val (.long ((c1.toInt64) - (192 : Int64))), .second, .val (.int (1 : Int32)), .val (.int (1 : Int32))] [(.int (1 : Int32))]))
              refine own_of (fun _ hh_ => XS.goto X0.here hx rfl (pc0 := 95) (pc' := 99) rfl (hb hby dX_95) (by decide) (by decide) hh_) ?_
              show own_Run p e below s _ _ _ (s₁.setTop (mkF m 99 #[.val (.int c1), .val (.long ((c1.toInt64) - (65 : Int64))), .second, .val (.int (1 : Int32)), .val (.long ((c1.toInt64) - (192 : Int64))), .second, .val (.int (1 : Int32)), .val (.int (1 : Int32))] [(.int (1 : Int32))]))
              exact own_retN X0 hx (t := .boolean) hret hlk (by simp) (hb hby dX_99) ⟨by rw [if_pos (show own_S c1 from by have a_hc10_1 := mt Int64.lt_iff_toInt_lt.mpr hc10_1; have a_hc18_9 := mt Int64.lt_iff_toInt_lt.mpr hc18_9; have a_hc39_17 := mt Int64.lt_iff_toInt_lt.mpr hc39_17; have a_hc48_19 := mt Int64.lt_iff_toInt_lt.mpr hc48_19; have a_hc57_21 := mt Int64.toInt_inj.mp hc57_21; have a_hc70_23 := Int32.toInt_inj.mpr hc70_23; have l_0 : (65 : Int64).toInt = 65 := rfl; have l_1 : (0 : Int64).toInt = 0 := rfl; have l_2 : (25 : Int64).toInt = 25 := rfl; have l_3 : (192 : Int64).toInt = 192 := rfl; have l_4 : (30 : Int64).toInt = 30 := rfl; have l_5 : (23 : Int64).toInt = 23 := rfl; have l_6 : (95 : Int32).toInt = 95 := rfl; omega)]; rfl, N0, e0⟩ (by decide) (by decide)
            · refine own_of (fun _ hh_ => XS.icmpYes X0.here hx rfl (pc0 := 70) (pc' := 77) rfl (hb hby dX_70) rfl (feq hc70_23).2 (by decide) (by decide) hh_) ?_
              show own_Run p e below s _ _ _ (s₁.setTop (mkF m 77 #[.val (.int c1), .val (.long ((c1.toInt64) - (65 : Int64))), .second, .val (.int (1 : Int32)), .val (.long ((c1.toInt64) - (192 : Int64))), .second, .val (.int (1 : Int32)), .unset] []))
              refine own_of (fun _ hh_ => XS.iconst X0.here hx rfl (hb hby dX_77) hh_) ?_
              show own_Run p e below s _ _ _ (s₁.setTop (mkF m 78 #[.val (.int c1), .val (.long ((c1.toInt64) - (65 : Int64))), .second, .val (.int (1 : Int32)), .val (.long ((c1.toInt64) - (192 : Int64))), .second, .val (.int (1 : Int32)), .unset] [(.int (0 : Int32))]))
              refine own_of (fun _ hh_ => XS.istore X0.here hx rfl (hb hby dX_78) rfl (l' := #[.val (.int c1), .val (.long ((c1.toInt64) - (65 : Int64))), .second, .val (.int (1 : Int32)), .val (.long ((c1.toInt64) - (192 : Int64))), .second, .val (.int (1 : Int32)), .val (.int (0 : Int32))]) rfl hh_) ?_
              show own_Run p e below s _ _ _ (s₁.setTop (mkF m 80 #[.val (.int c1), .val (.long ((c1.toInt64) - (65 : Int64))), .second, .val (.int (1 : Int32)), .val (.long ((c1.toInt64) - (192 : Int64))), .second, .val (.int (1 : Int32)), .val (.int (0 : Int32))] []))
              refine own_of (fun _ hh_ => XS.iloadN X0.here hx rfl (hb hby dX_80) rfl hh_) ?_
              show own_Run p e below s _ _ _ (s₁.setTop (mkF m 81 #[.val (.int c1), .val (.long ((c1.toInt64) - (65 : Int64))), .second, .val (.int (1 : Int32)), .val (.long ((c1.toInt64) - (192 : Int64))), .second, .val (.int (1 : Int32)), .val (.int (0 : Int32))] [(.int (1 : Int32))]))
              refine own_of (fun _ hh_ => XS.ifYes X0.here hx rfl (pc0 := 81) (pc' := 94) rfl (hb hby dX_81) rfl ((if0 _ _).trans (by decide)) (by decide) (by decide) hh_) ?_
              show own_Run p e below s _ _ _ (s₁.setTop (mkF m 94 #[.val (.int c1), .val (.long ((c1.toInt64) - (65 : Int64))), .second, .val (.int (1 : Int32)), .val (.long ((c1.toInt64) - (192 : Int64))), .second, .val (.int (1 : Int32)), .val (.int (0 : Int32))] []))
              refine own_of (fun _ hh_ => XS.iconst X0.here hx rfl (hb hby dX_94) hh_) ?_
              show own_Run p e below s _ _ _ (s₁.setTop (mkF m 95 #[.val (.int c1), .val (.long ((c1.toInt64) - (65 : Int64))), .second, .val (.int (1 : Int32)), .val (.long ((c1.toInt64) - (192 : Int64))), .second, .val (.int (1 : Int32)), .val (.int (0 : Int32))] [(.int (1 : Int32))]))
              refine own_of (fun _ hh_ => XS.goto X0.here hx rfl (pc0 := 95) (pc' := 99) rfl (hb hby dX_95) (by decide) (by decide) hh_) ?_
              show own_Run p e below s _ _ _ (s₁.setTop (mkF m 99 #[.val (.int c1), .val (.long ((c1.toInt64) - (65 : Int64))), .second, .val (.int (1 : Int32)), .val (.long ((c1.toInt64) - (192 : Int64))), .second, .val (.int (1 : Int32)), .val (.int (0 : Int32))] [(.int (1 : Int32))]))
              exact own_retN X0 hx (t := .boolean) hret hlk (by simp) (hb hby dX_99) ⟨by rw [if_pos (show own_S c1 from by have a_hc10_1 := mt Int64.lt_iff_toInt_lt.mpr hc10_1; have a_hc18_9 := mt Int64.lt_iff_toInt_lt.mpr hc18_9; have a_hc39_17 := mt Int64.lt_iff_toInt_lt.mpr hc39_17; have a_hc48_19 := mt Int64.lt_iff_toInt_lt.mpr hc48_19; have a_hc57_21 := mt Int64.toInt_inj.mp hc57_21; have a_hc70_23 := mt Int32.toInt_inj.mp hc70_23; have l_0 : (65 : Int64).toInt = 65 := rfl; have l_1 : (0 : Int64).toInt = 0 := rfl; have l_2 : (25 : Int64).toInt = 25 := rfl; have l_3 : (192 : Int64).toInt = 192 := rfl; have l_4 : (30 : Int64).toInt = 30 := rfl; have l_5 : (23 : Int64).toInt = 23 := rfl; have l_6 : (95 : Int32).toInt = 95 := rfl; omega)]; rfl, N0, e0⟩ (by decide) (by decide)
theorem ef0 (m : MethodId) (x1 : Int32) (m1 : Int32) : entryFrame m #[(.int x1), (.int m1)] maxLocals = mkF m 0 #[.val (.int x1), .val (.int m1), .unset] [] := by first | (simp [entryFrame, mkF, argsToLocals, Value.category, maxLocals]; done) | rfl
def Q0 (Z : State) (x1 : Int32) (m1 : Int32) (h0 : Heap) (n0 : Nat) (v : Option Value) (h : Heap) (L : List Loc) : Prop := v = some (.int 1) ∧ Fr n0 L
set_option maxRecDepth 65536 in
set_option maxHeartbeats 40000000 in
theorem rm0 (l : Launch) (Z : State) (a0 : Array Value) (hw : ∀ d ∈ tables_1, d.before a0 Z = true) (ws : List Jvm.Cond) (x1 : Int32) (m1 : Int32) (h0 : Heap) (n0 : Nat) (Z0 : n0 ≤ h0.size)  :
    MetFree l x (head1 (Jvm.Cond.code x code maxLocals ret :: ws) room_1) (fun a U => a = #[(.int x1), (.int m1)] ∧ Z.Warmed39 U.vm ∧ U.heap = h0) (fun _ _ _ _ _ => True) (fun _ U o U' => ∃ v L, o = .returned v ∧ Q0 Z x1 m1 h0 n0 v U'.heap L ∧ FrameEnd U o U' L 0 0) := by
  refine MetFree.of_bodySF (plainFor_of_name own_pn1) hisR ?_
  intro p e s m args below meth c s₁ Bd hml0 hP hK
  obtain ⟨rfl, hZ, hh⟩ := hP
  have hx := Bd.exec
  have hby := Bd.bytes
  have hml : c.maxLocals = 3 := hml0
  have hown : s.vm.findClass "org/lanner/term/TermSyntaxStartsVariablePinLaw" = some m.cls := findClass_of_methodNamed Bd.named
  have hnm := (name_of_methodNamed Bd.named Bd.method).1
  have hlk := Bd.notSynchronized
  have hret := Bd.returns
  have X0 : Stand p l e room_1 s m #[(.int x1), (.int m1)] below meth c s₁ [] 0 0 := Stand.of_body Bd
  have e0 : s₁.heap = h0 := by rw [← hh, Bd.state]; rfl
  have N0 := Fr.nil n0
  show own_Run p e below s 0 0 (Q0 Z x1 m1 h0 n0) (s₁.setTop (entryFrame m #[(.int x1), (.int m1)] maxLocals))
  refine own_cast (ef0 m x1 m1) ?_
  show own_Run p e below s _ _ _ (s₁.setTop (mkF m 0 #[.val (.int x1), .val (.int m1), .unset] []))
  refine own_of (fun _ hh_ => XS.iloadN X0.here hx rfl (hb hby at_0) rfl hh_) ?_
  show own_Run p e below s _ _ _ (s₁.setTop (mkF m 1 #[.val (.int x1), .val (.int m1), .unset] [(.int m1)]))
  refine own_of (fun _ hh_ => XS.iconst X0.here hx rfl (hb hby at_1) hh_) ?_
  show own_Run p e below s _ _ _ (s₁.setTop (mkF m 2 #[.val (.int x1), .val (.int m1), .unset] [(.int (1 : Int32)), (.int m1)]))
  refine own_of (fun _ hh_ => XS.iand X0.here hx rfl (hb hby at_2) rfl hh_) ?_
  show own_Run p e below s _ _ _ (s₁.setTop (mkF m 3 #[.val (.int x1), .val (.int m1), .unset] [(.int (m1 &&& (1 : Int32)))]))
  by_cases hc3_1 : (m1 &&& (1 : Int32)) = (0 : Int32)
  · refine own_of (fun _ hh_ => XS.ifYes X0.here hx rfl (pc0 := 3) (pc' := 14) rfl (hb hby at_3) rfl ((if0 _ _).trans (teq hc3_1).1) (by decide) (by decide) hh_) ?_
    show own_Run p e below s _ _ _ (s₁.setTop (mkF m 14 #[.val (.int x1), .val (.int m1), .unset] []))
    refine own_of (fun _ hh_ => XS.iloadN X0.here hx rfl (hb hby at_14) rfl hh_) ?_
    show own_Run p e below s _ _ _ (s₁.setTop (mkF m 15 #[.val (.int x1), .val (.int m1), .unset] [(.int x1)]))
    refine own_of (fun _ hh_ => XS.istoreN X0.here hx rfl (hb hby at_15) rfl (l' := #[.val (.int x1), .val (.int m1), .val (.int x1)]) rfl hh_) ?_
    show own_Run p e below s _ _ _ (s₁.setTop (mkF m 16 #[.val (.int x1), .val (.int m1), .val (.int x1)] []))
    refine own_of (fun _ hh_ => XS.iloadN X0.here hx rfl (hb hby at_16) rfl hh_) ?_
    show own_Run p e below s _ _ _ (s₁.setTop (mkF m 17 #[.val (.int x1), .val (.int m1), .val (.int x1)] [(.int x1)]))
    obtain ⟨_, _, ⟨T2, L2, k2, n2⟩, -, X2, ⟨Lc2, hQ2, l2, y2, z2⟩, st2⟩ := Jvm.LawKit.callS X0 hx (y := (⟨"org/lanner/term/TermSyntax", "startsVariable", "(I)Z"⟩ : MethodName)) hown (mvT hZ (hw _ (List.mem_of_getElem? (i := 0) rfl))) (mvT hZ (hw _ (List.mem_of_getElem? (i := 1) rfl))) (mvT hZ (hw _ (List.mem_of_getElem? (i := 2) rfl))) (mvT hZ (hw _ (List.mem_of_getElem? (i := 3) rfl))) (by decide) (backOf (W := 0) (rmV l Z a0 hw [] x1 h0 n0 Z0) hZ (hw _ (List.mem_of_getElem? (i := 3) rfl)) (hw _ (List.mem_of_getElem? (i := 2) rfl)) (by decide) (by decide)) (g := (mkF m 17 #[.val (.int x1), .val (.int m1), .val (.int x1)] [(.int x1)])) rfl (by rw [hml]; rfl) (argsL := [(.int x1)]) (rest := []) (lenOf own_pd0 rfl) rfl (by show 2 * 0 + _ ≤ _; exact Nat.le_of_eq rfl) (hb hby at_17) (fun _ _ => ⟨rfl, e0, (by decide : 0 + 0 ≤ _), (by decide : 0 + 0 ≤ _)⟩)
    dsimp only [Pt.U, Pt.locs, Pt.cells, Pt.slots] at X2 l2 y2 z2 st2 hQ2
    subst l2 y2 z2
    obtain ⟨rfl, N2q, e2⟩ := hQ2
    have N2 := Fr.app N0 N2q
    refine own_of st2 ?_
    show own_Run p e below s _ _ _ (T2.setTop (mkF m 20 #[.val (.int x1), .val (.int m1), .val (.int x1)] [(.int (if own_S x1 then 1 else 0 : Int32))]))
    refine own_of (fun _ hh_ => XS.iloadN X2.here hx rfl (hb hby at_20) rfl hh_) ?_
    show own_Run p e below s _ _ _ (T2.setTop (mkF m 21 #[.val (.int x1), .val (.int m1), .val (.int x1)] [(.int x1), (.int (if own_S x1 then 1 else 0 : Int32))]))
    obtain ⟨_, _, ⟨T3, L3, k3, n3⟩, -, X3, ⟨Lc3, hQ3, l3, y3, z3⟩, st3⟩ := Jvm.LawKit.callS X2 hx (y := (⟨"org/lanner/term/TermSyntaxStartsVariablePinLaw", "expected", "(I)Z"⟩ : MethodName)) hown (mvT hZ (hw _ (List.mem_of_getElem? (i := 7) rfl))) (mvT hZ (hw _ (List.mem_of_getElem? (i := 8) rfl))) (mvT hZ (hw _ (List.mem_of_getElem? (i := 9) rfl))) (mvT hZ (hw _ (List.mem_of_getElem? (i := 10) rfl))) (by decide) (backOf (W := 1) (rmX l Z a0 hw [] x1 h0 n0 Z0) hZ (hw _ (List.mem_of_getElem? (i := 10) rfl)) (hw _ (List.mem_of_getElem? (i := 9) rfl)) (by decide) (by decide)) (g := (mkF m 21 #[.val (.int x1), .val (.int m1), .val (.int x1)] [(.int x1), (.int (if own_S x1 then 1 else 0 : Int32))])) rfl (by rw [hml]; rfl) (argsL := [(.int x1)]) (rest := [(.int (if own_S x1 then 1 else 0 : Int32))]) (lenOf own_pd0 rfl) rfl (by show 2 * 0 + _ ≤ _; exact Nat.le_of_eq rfl) (hb hby at_21) (fun _ _ => ⟨rfl, e2, (by decide : 0 + 0 ≤ _), (by decide : 0 + 0 ≤ _)⟩)
    dsimp only [Pt.U, Pt.locs, Pt.cells, Pt.slots] at X3 l3 y3 z3 st3 hQ3
    subst l3 y3 z3
    obtain ⟨rfl, N3q, e3⟩ := hQ3
    have N3 := Fr.app N2 N3q
    refine own_of st3 ?_
    show own_Run p e below s _ _ _ (T3.setTop (mkF m 24 #[.val (.int x1), .val (.int m1), .val (.int x1)] [(.int (if own_S x1 then 1 else 0 : Int32)), (.int (if own_S x1 then 1 else 0 : Int32))]))
    have hc24_4 : (if own_S x1 then 1 else 0 : Int32) = (if own_S x1 then 1 else 0 : Int32) := rfl
    refine own_of (fun _ hh_ => XS.icmpNo X3.here hx rfl (hb hby at_24) rfl (teq hc24_4).2 hh_) ?_
    show own_Run p e below s _ _ _ (T3.setTop (mkF m 27 #[.val (.int x1), .val (.int m1), .val (.int x1)] []))
    refine own_of (fun _ hh_ => XS.iconst X3.here hx rfl (hb hby at_27) hh_) ?_
    show own_Run p e below s _ _ _ (T3.setTop (mkF m 28 #[.val (.int x1), .val (.int m1), .val (.int x1)] [(.int (1 : Int32))]))
    refine own_of (fun _ hh_ => XS.goto X3.here hx rfl (pc0 := 28) (pc' := 32) rfl (hb hby at_28) (by decide) (by decide) hh_) ?_
    show own_Run p e below s _ _ _ (T3.setTop (mkF m 32 #[.val (.int x1), .val (.int m1), .val (.int x1)] [(.int (1 : Int32))]))
    exact own_retN X3 hx (t := .boolean) hret hlk (by simp) (hb hby at_32) ⟨rfl, N3⟩ (by decide) (by decide)
  · refine own_of (fun _ hh_ => XS.ifNo X0.here hx rfl (hb hby at_3) rfl ((if0 _ _).trans (feq hc3_1).1) hh_) ?_
    show own_Run p e below s _ _ _ (s₁.setTop (mkF m 6 #[.val (.int x1), .val (.int m1), .unset] []))
    refine own_of (fun _ hh_ => XS.iloadN X0.here hx rfl (hb hby at_6) rfl hh_) ?_
    show own_Run p e below s _ _ _ (s₁.setTop (mkF m 7 #[.val (.int x1), .val (.int m1), .unset] [(.int x1)]))
    refine own_of (fun _ hh_ => XS.sipush X0.here hx rfl (hb hby at_7) hh_) ?_
    show own_Run p e below s _ _ _ (s₁.setTop (mkF m 10 #[.val (.int x1), .val (.int m1), .unset] [(.int (255 : Int32)), (.int x1)]))
    refine own_of (fun _ hh_ => XS.iand X0.here hx rfl (hb hby at_10) rfl hh_) ?_
    show own_Run p e below s _ _ _ (s₁.setTop (mkF m 11 #[.val (.int x1), .val (.int m1), .unset] [(.int (x1 &&& (255 : Int32)))]))
    refine own_of (fun _ hh_ => XS.goto X0.here hx rfl (pc0 := 11) (pc' := 15) rfl (hb hby at_11) (by decide) (by decide) hh_) ?_
    show own_Run p e below s _ _ _ (s₁.setTop (mkF m 15 #[.val (.int x1), .val (.int m1), .unset] [(.int (x1 &&& (255 : Int32)))]))
    refine own_of (fun _ hh_ => XS.istoreN X0.here hx rfl (hb hby at_15) rfl (l' := #[.val (.int x1), .val (.int m1), .val (.int (x1 &&& (255 : Int32)))]) rfl hh_) ?_
    show own_Run p e below s _ _ _ (s₁.setTop (mkF m 16 #[.val (.int x1), .val (.int m1), .val (.int (x1 &&& (255 : Int32)))] []))
    refine own_of (fun _ hh_ => XS.iloadN X0.here hx rfl (hb hby at_16) rfl hh_) ?_
    show own_Run p e below s _ _ _ (s₁.setTop (mkF m 17 #[.val (.int x1), .val (.int m1), .val (.int (x1 &&& (255 : Int32)))] [(.int (x1 &&& (255 : Int32)))]))
    obtain ⟨_, _, ⟨T5, L5, k5, n5⟩, -, X5, ⟨Lc5, hQ5, l5, y5, z5⟩, st5⟩ := Jvm.LawKit.callS X0 hx (y := (⟨"org/lanner/term/TermSyntax", "startsVariable", "(I)Z"⟩ : MethodName)) hown (mvT hZ (hw _ (List.mem_of_getElem? (i := 0) rfl))) (mvT hZ (hw _ (List.mem_of_getElem? (i := 1) rfl))) (mvT hZ (hw _ (List.mem_of_getElem? (i := 2) rfl))) (mvT hZ (hw _ (List.mem_of_getElem? (i := 3) rfl))) (by decide) (backOf (W := 0) (rmV l Z a0 hw [] (x1 &&& (255 : Int32)) h0 n0 Z0) hZ (hw _ (List.mem_of_getElem? (i := 3) rfl)) (hw _ (List.mem_of_getElem? (i := 2) rfl)) (by decide) (by decide)) (g := (mkF m 17 #[.val (.int x1), .val (.int m1), .val (.int (x1 &&& (255 : Int32)))] [(.int (x1 &&& (255 : Int32)))])) rfl (by rw [hml]; rfl) (argsL := [(.int (x1 &&& (255 : Int32)))]) (rest := []) (lenOf own_pd0 rfl) rfl (by show 2 * 0 + _ ≤ _; exact Nat.le_of_eq rfl) (hb hby at_17) (fun _ _ => ⟨rfl, e0, (by decide : 0 + 0 ≤ _), (by decide : 0 + 0 ≤ _)⟩)
    dsimp only [Pt.U, Pt.locs, Pt.cells, Pt.slots] at X5 l5 y5 z5 st5 hQ5
    subst l5 y5 z5
    obtain ⟨rfl, N5q, e5⟩ := hQ5
    have N5 := Fr.app N0 N5q
    refine own_of st5 ?_
    show own_Run p e below s _ _ _ (T5.setTop (mkF m 20 #[.val (.int x1), .val (.int m1), .val (.int (x1 &&& (255 : Int32)))] [(.int (if own_S (x1 &&& (255 : Int32)) then 1 else 0 : Int32))]))
    refine own_of (fun _ hh_ => XS.iloadN X5.here hx rfl (hb hby at_20) rfl hh_) ?_
    show own_Run p e below s _ _ _ (T5.setTop (mkF m 21 #[.val (.int x1), .val (.int m1), .val (.int (x1 &&& (255 : Int32)))] [(.int (x1 &&& (255 : Int32))), (.int (if own_S (x1 &&& (255 : Int32)) then 1 else 0 : Int32))]))
    obtain ⟨_, _, ⟨T6, L6, k6, n6⟩, -, X6, ⟨Lc6, hQ6, l6, y6, z6⟩, st6⟩ := Jvm.LawKit.callS X5 hx (y := (⟨"org/lanner/term/TermSyntaxStartsVariablePinLaw", "expected", "(I)Z"⟩ : MethodName)) hown (mvT hZ (hw _ (List.mem_of_getElem? (i := 7) rfl))) (mvT hZ (hw _ (List.mem_of_getElem? (i := 8) rfl))) (mvT hZ (hw _ (List.mem_of_getElem? (i := 9) rfl))) (mvT hZ (hw _ (List.mem_of_getElem? (i := 10) rfl))) (by decide) (backOf (W := 1) (rmX l Z a0 hw [] (x1 &&& (255 : Int32)) h0 n0 Z0) hZ (hw _ (List.mem_of_getElem? (i := 10) rfl)) (hw _ (List.mem_of_getElem? (i := 9) rfl)) (by decide) (by decide)) (g := (mkF m 21 #[.val (.int x1), .val (.int m1), .val (.int (x1 &&& (255 : Int32)))] [(.int (x1 &&& (255 : Int32))), (.int (if own_S (x1 &&& (255 : Int32)) then 1 else 0 : Int32))])) rfl (by rw [hml]; rfl) (argsL := [(.int (x1 &&& (255 : Int32)))]) (rest := [(.int (if own_S (x1 &&& (255 : Int32)) then 1 else 0 : Int32))]) (lenOf own_pd0 rfl) rfl (by show 2 * 0 + _ ≤ _; exact Nat.le_of_eq rfl) (hb hby at_21) (fun _ _ => ⟨rfl, e5, (by decide : 0 + 0 ≤ _), (by decide : 0 + 0 ≤ _)⟩)
    dsimp only [Pt.U, Pt.locs, Pt.cells, Pt.slots] at X6 l6 y6 z6 st6 hQ6
    subst l6 y6 z6
    obtain ⟨rfl, N6q, e6⟩ := hQ6
    have N6 := Fr.app N5 N6q
    refine own_of st6 ?_
    show own_Run p e below s _ _ _ (T6.setTop (mkF m 24 #[.val (.int x1), .val (.int m1), .val (.int (x1 &&& (255 : Int32)))] [(.int (if own_S (x1 &&& (255 : Int32)) then 1 else 0 : Int32)), (.int (if own_S (x1 &&& (255 : Int32)) then 1 else 0 : Int32))]))
    have hc24_7 : (if own_S (x1 &&& (255 : Int32)) then 1 else 0 : Int32) = (if own_S (x1 &&& (255 : Int32)) then 1 else 0 : Int32) := rfl
    refine own_of (fun _ hh_ => XS.icmpNo X6.here hx rfl (hb hby at_24) rfl (teq hc24_7).2 hh_) ?_
    show own_Run p e below s _ _ _ (T6.setTop (mkF m 27 #[.val (.int x1), .val (.int m1), .val (.int (x1 &&& (255 : Int32)))] []))
    refine own_of (fun _ hh_ => XS.iconst X6.here hx rfl (hb hby at_27) hh_) ?_
    show own_Run p e below s _ _ _ (T6.setTop (mkF m 28 #[.val (.int x1), .val (.int m1), .val (.int (x1 &&& (255 : Int32)))] [(.int (1 : Int32))]))
    refine own_of (fun _ hh_ => XS.goto X6.here hx rfl (pc0 := 28) (pc' := 32) rfl (hb hby at_28) (by decide) (by decide) hh_) ?_
    show own_Run p e below s _ _ _ (T6.setTop (mkF m 32 #[.val (.int x1), .val (.int m1), .val (.int (x1 &&& (255 : Int32)))] [(.int (1 : Int32))]))
    exact own_retN X6 hx (t := .boolean) hret hlk (by simp) (hb hby at_32) ⟨rfl, N6⟩ (by decide) (by decide)
set_option maxRecDepth 65536 in
set_option maxHeartbeats 40000000 in
theorem comes_1 {Post : Tables → Env → Array Value → State → Outcome → State → Prop} (hpost : ∀ tb e args s v u, (limb_1_1.after args s (.returned v) u = true ∧ limb_1_2.after args s (.returned v) u = true ∧ True) → FrameEnd s (.returned v) u (Jvm.fieldLocs frame_1_writes args s ++ Jvm.arrayLocs frame_1_arrays args s ++ Jvm.staticLocs frame_1_statics s) 0 0 → Post tb e args s (.returned v) u) :
    ArmFor flags0 classFile x code maxLocals ret World_1 tables_1 room_1 Calls_1 rest_1 Pre_1 Post := by
  intro l hfl _ _ p e ha hc hk s m args below hf hA hF happ hP
  obtain ⟨hcalls, hrest, hpre⟩ := hP
  obtain ⟨-, -, -, hnamed, -, -, -, hat⟩ := (Spec.applies_iff hf).mp happ
  obtain ⟨hg, hn⟩ := and_e (Cond.before_iff.mp (show (Jvm.Cond.and given_1 narrow_1).before args s = true from hpre))
  obtain ⟨gg1, gg2⟩ := and_e hg
  obtain ⟨gg3, gg4⟩ := and_e gg2
  obtain ⟨w0, w1, rfl⟩ : ∃ w0 w1 : Value, args = #[w0, w1] := by
    have hs : args.size = 2 := by simpa [Cond.value, given_1] using gg1
    obtain ⟨L⟩ := args
    match L, hs with
    | [w0, w1], _ => exact ⟨w0, w1, rfl⟩
  have hw := fun d (hd : d ∈ tables_1) => atoms_spec (ws := Jvm.Cond.code x code maxLocals ret :: tables_1) hat d (List.mem_cons_of_mem _ hd)
  obtain ⟨i0, ei0⟩ := is_v gg3
  obtain rfl : w0 = (.int i0) := Option.some.inj ei0
  obtain ⟨i1, ei1⟩ := is_v gg4
  obtain rfl : w1 = (.int i1) := Option.some.inj ei1
  obtain ⟨n, o, h1, h2, h3, _, L, rfl, ⟨rfl, N⟩, hq⟩ := rm0 l s _ hw tables_1 i0 i1  s.heap s.heap.size (Nat.le_refl _)  p e ha hc hk s m _ below hf ((Spec.applies_iff_loose hf).mp happ).1 ⟨rfl, State.Warmed39.refl s, rfl⟩ trivial
  refine ⟨n, _, h1, h2, h3, hpost _ _ _ _ _ _ ⟨Cond.after_iff.mpr rfl, Cond.after_iff.mpr (eq_i res_at (Term.int_eval (1)) rfl), trivial⟩ ⟨hq.1, hq.2.1, (hq.2.2.sift fun y hy => Or.inr (N y hy)).mono (by decide) (by decide)⟩⟩
theorem main_1_1 : Claimed_1_1 := comes_1 fun _ _ _ _ _ _ h hF => ⟨h.1, hF⟩
theorem main_1_2 : Claimed_1_2 := comes_1 fun _ _ _ _ _ _ h hF => ⟨h.2.1, hF⟩
end Jvm.Pilot.@@N@@
namespace Jvm.Pilot.@@N@@
open Jvm Jvm.ClassFile Sem Op Lib Jvm.Free Jvm.Stand Jvm.Pilot.@@N@@.Jvm.D
/-! MADE BY PROGRAM (witnessworld.py) out of the Statement's table words and the real class files: 9 classes; the members and pool entries that the words name. The judged class is class 1, her method 1. -/
namespace start1
open Jvm.ClassFile
def u (s : String) : CpInfo := .utf8 (stringToUtf16 s)
/-- a pool by its gaps: so many unusable entries, then the entry; so many at the end -/
def gap : Nat → List CpInfo → List CpInfo
  | 0, r => r
  | n + 1, r => .unusable :: gap n r
def poolList (es : List (Nat × CpInfo)) (last : Nat) : List CpInfo := es.foldr (fun e r => gap e.1 (e.2 :: r)) (gap last [])
def pool (es : List (Nat × CpInfo)) (last : Nat) : Array CpInfo := ⟨poolList es last⟩
def fileOf (pool : Array CpInfo) (this : Nat) (attrs : Array Attribute := #[]) (ms : Array MethodInfo := #[]) (fl : Nat := 33) (sup : Nat := 0) (ifs : Array Nat := #[]) (fds : Array FieldInfo := #[]) : ClassFile where
  minorVersion := 0
  majorVersion := 65
  constantPool := pool
  accessFlags := fl
  thisClass := this
  superClass := sup
  interfaces := ifs
  fields := fds
  methods := ms
  attributes := attrs
def plain (name : String) (sup : Option ClassId) : Class where
  name := name
  kind := .ordinary
  loader := none
  accessFlags := 33
  super := sup
  interfaces := #[]
  cf := none
  fields := #[]
  methods := #[]
  instanceTypes := #[]
  staticTypes := #[]
  resolved := #[]
  callSites := []
  init := .initialized
  statics := none
  mirror := none

def pool0 : Array CpInfo := pool [(5, u "<init>"), (0, u "()V"), (1, .class_ 10), (1, u "java/lang/Object")] 113

def k0m0 : Method := { name := "<init>", desc := "()V", sig := { parameters := [], returnType := none }, accessFlags := 1, code := none }
/-- java/lang/Object -/
def k0 : Class := { plain "java/lang/Object" none with
  accessFlags := 33
  interfaces := #[]
  cf := some (fileOf pool0 8 #[] #[{ accessFlags := 1, nameIndex := 5, descriptorIndex := 6, attributes := #[] }] 33 0 #[] #[])
  fields := #[]
  methods := #[k0m0]
  instanceTypes := #[]
  staticTypes := #[]
  resolved := Array.replicate 124 none
  statics := none }

def pool1 : Array CpInfo := pool [(2, .class_ 4), (1, u "java/lang/Object"), (0, u "<init>"), (0, u "()V"), (0, .methodref 8 9), (0, .class_ 10), (0, .nameAndType 11 12), (0, u "org/lanner/term/TermSyntax"), (0, u "startsVariable"), (0, u "(I)Z"), (0, .methodref 14 15), (0, .class_ 16), (0, .nameAndType 17 12), (0, u "org/lanner/term/TermSyntaxStartsVariablePinLaw"), (0, u "expected"), (0, .long 65), (1, .long 25), (1, .long 192), (1, .long 30), (1, .long 23), (3, u "law"), (0, u "(II)Z")] 3

def k1m0 : Method := { name := "<init>", desc := "()V", sig := { parameters := [], returnType := none }, accessFlags := 2, code := none }
def k1c1 : Code := { maxStack := 2, maxLocals := 3, code := code, exceptionTable := #[], attributes := #[] }
def k1m1 : Method := { name := "law", desc := "(II)Z", sig := { parameters := [.int, .int], returnType := some .boolean }, accessFlags := 9, code := some k1c1 }
def k1c2 : Code := { maxStack := 4, maxLocals := 8, code := method_3_code, exceptionTable := #[], attributes := #[] }
def k1m2 : Method := { name := "expected", desc := "(I)Z", sig := { parameters := [.int], returnType := some .boolean }, accessFlags := 10, code := some k1c2 }
/-- org/lanner/term/TermSyntaxStartsVariablePinLaw -/
def k1 : Class := { plain "org/lanner/term/TermSyntaxStartsVariablePinLaw" (some 0) with
  accessFlags := 49
  interfaces := #[]
  cf := some (fileOf pool1 14 #[] #[{ accessFlags := 2, nameIndex := 5, descriptorIndex := 6, attributes := #[] }, { accessFlags := 9, nameIndex := 30, descriptorIndex := 31, attributes := #[] }, { accessFlags := 10, nameIndex := 17, descriptorIndex := 12, attributes := #[] }] 49 2 #[] #[])
  fields := #[]
  methods := #[k1m0, k1m1, k1m2]
  instanceTypes := #[]
  staticTypes := #[]
  resolved := Array.replicate 35 none
  statics := none }

def pool2 : Array CpInfo := pool [(2, .class_ 4), (1, u "java/lang/Object"), (0, u "<init>"), (0, u "()V"), (11, .class_ 20), (1, u "org/lanner/term/TermSyntax"), (1, u "(I)Z"), (2, u "RESERVED_WORDS"), (0, u "Ljava/util/Set;"), (16, .methodref 18 44), (0, .nameAndType 45 22), (0, u "isUpperCase"), (67, u "ESCAPE_LETTERS"), (0, u "Ljava/lang/String;"), (1, u "ESCAPED"), (5, u "startsVariable")] 5

def k2m0 : Method := { name := "<init>", desc := "()V", sig := { parameters := [], returnType := none }, accessFlags := 2, code := none }
def k2c1 : Code := { maxStack := 2, maxLocals := 1, code := prog_112_method_5_code, exceptionTable := #[], attributes := #[] }
def k2m1 : Method := { name := "startsVariable", desc := "(I)Z", sig := { parameters := [.int], returnType := some .boolean }, accessFlags := 8, code := some k2c1 }
def k2c2 : Code := { maxStack := 2, maxLocals := 1, code := prog_112_method_9_code, exceptionTable := #[], attributes := #[] }
def k2m2 : Method := { name := "isUpperCase", desc := "(I)Z", sig := { parameters := [.int], returnType := some .boolean }, accessFlags := 10, code := some k2c2 }
/-- org/lanner/term/TermSyntax -/
def k2 : Class := { plain "org/lanner/term/TermSyntax" (some 0) with
  accessFlags := 48
  interfaces := #[]
  cf := some (fileOf pool2 18 #[] #[{ accessFlags := 2, nameIndex := 5, descriptorIndex := 6, attributes := #[] }, { accessFlags := 8, nameIndex := 122, descriptorIndex := 22, attributes := #[] }, { accessFlags := 10, nameIndex := 45, descriptorIndex := 22, attributes := #[] }] 48 2 #[] #[{ accessFlags := 24, nameIndex := 25, descriptorIndex := 26, attributes := #[] }, { accessFlags := 26, nameIndex := 113, descriptorIndex := 114, attributes := #[] }, { accessFlags := 26, nameIndex := 116, descriptorIndex := 114, attributes := #[] }])
  fields := #[{ name := "RESERVED_WORDS", type := (.object "java/util/Set"), accessFlags := 24, slot := 0, constantValue := 0 }, { name := "ESCAPE_LETTERS", type := (.object "java/lang/String"), accessFlags := 26, slot := 1, constantValue := 0 }, { name := "ESCAPED", type := (.object "java/lang/String"), accessFlags := 26, slot := 2, constantValue := 0 }]
  methods := #[k2m0, k2m1, k2m2]
  instanceTypes := #[]
  staticTypes := #[(.object "java/util/Set"), (.object "java/lang/String"), (.object "java/lang/String")]
  resolved := Array.replicate 128 none
  statics := none }

def pool3 : Array CpInfo := pool [(1, u "java/lang/Cloneable"), (0, .class_ 1), (0, u "java/lang/Object"), (0, .class_ 3)] 3

/-- java/lang/Cloneable -/
def k3 : Class := { plain "java/lang/Cloneable" (some 0) with
  accessFlags := 1537
  interfaces := #[]
  cf := some (fileOf pool3 2 #[] #[] 1537 4 #[] #[])
  fields := #[]
  methods := #[]
  instanceTypes := #[]
  staticTypes := #[]
  resolved := Array.replicate 8 none
  statics := none }

def pool4 : Array CpInfo := pool [(1, u "java/io/Serializable"), (0, .class_ 1), (0, u "java/lang/Object"), (0, .class_ 3)] 3

/-- java/io/Serializable -/
def k4 : Class := { plain "java/io/Serializable" (some 0) with
  accessFlags := 1537
  interfaces := #[]
  cf := some (fileOf pool4 2 #[] #[] 1537 4 #[] #[])
  fields := #[]
  methods := #[]
  instanceTypes := #[]
  staticTypes := #[]
  resolved := Array.replicate 8 none
  statics := none }

/-- the primitive byte -/
def k5 : Class := { plain "byte" none with kind := .primitive 'B', accessFlags := 0x411 }
/-- [B -/
def k6 : Class := { plain "[B" (some 0) with kind := .array 5 .byte, interfaces := #[3, 4], accessFlags := 1041 }

/-- the primitive int -/
def k7 : Class := { plain "int" none with kind := .primitive 'I', accessFlags := 0x411 }
/-- [I -/
def k8 : Class := { plain "[I" (some 0) with kind := .array 7 .int, interfaces := #[3, 4], accessFlags := 1041 }

def heap : Heap := #[]
def classes : Array Class := #[k0, k1, k2, k3, k4, k5, k6, k7, k8]
def interned : List (Array UInt16 × Addr) := []
def slotsUsed : Nat := 0
def theMethod : MethodId := ⟨1, 1⟩
def args0 : Array Value := #[.int 5, .int 5]
def aboutOver (below : List Frame) : State where
  vm := { classes := classes, interned := interned.toArray }
  heap := heap
  slotsUsed := slotsUsed
  threads := #[{ frames := .invoking theMethod args0 :: below }]
def below0 : List Frame := [.native { method := ⟨0, 0⟩, args := #[] }]
def about1 : State := aboutOver below0
def p0 : Program := .bare "" "" ""
def e0 : Env := launch0.env 0 0 0
theorem w_frames : about1.frames = Frame.invoking theMethod args0 :: below0 := rfl
set_option maxRecDepth 65536 in
theorem w_args : argsFit about1.vm theMethod args0 = true := by decide +kernel
set_option maxRecDepth 65536 in
theorem w_heap : heapFits about1 = true := by decide +kernel
set_option maxRecDepth 65536 in
theorem w_runnable : about1.curStatus? = some .runnable := by decide +kernel
set_option maxRecDepth 65536 in
theorem w_alone : about1.alone = true := by decide +kernel
set_option maxRecDepth 65536 in
theorem w_named : about1.methodNamed? x = some theMethod := by decide +kernel
set_option maxRecDepth 65536 in
theorem w_hears : about1.hears theMethod below0 = true := by decide +kernel
set_option maxRecDepth 65536 in
theorem w_ripe : about1.ripe theMethod args0 below0 = true := by decide +kernel
theorem w_running : about1.status = .running := rfl
set_option maxRecDepth 65536 in
theorem w_room : about1.hasRoom e0.platform room_1 = true :=
  launch0.hasRoom_least _ room_1 (by decide +kernel) (by decide +kernel) (by decide +kernel) (by decide +kernel) (by decide +kernel) (by decide +kernel)
theorem allAtoms_all (ts : List Jvm.Cond) (a : Array Jvm.Value) (st : Jvm.State) : (allAtoms ts).before a st = ts.all (fun c => c.before a st) := by
  induction ts with
  | nil => rfl
  | cons c t ih =>
    show (Jvm.Cond.and c (allAtoms t)).before a st = _
    rw [Jvm.Cond.before_and, ih, List.all_cons]
def words1 : List Jvm.Cond := Jvm.Cond.code x code maxLocals ret :: tables_1
/-- a 'code' word, met by the world's own term for the bytes: nothing is compared byte by byte -/
theorem code_word {y : MethodName} {bytes : ByteArray} {mx : Nat} {rt : Option FieldType} {a : Array Value} {s : State} {m : MethodId} {meth : Method} {c : Code} (h1 : s.methodNamed? y = some m) (h2 : s.vm.method? m = some meth) (h3 : meth.code = some c) (h4 : c.code = bytes)
    (h5 : (c.maxLocals == mx && c.exceptionTable.isEmpty && decide (c.maxStack ≤ mostOperands) && decide (meth.sig.returnType = rt) && !meth.locks && decide (parseMethodDescriptor y.desc = some meth.sig)) = true) : (Jvm.Cond.code y bytes mx rt).before a s = true := by
  simp only [Bool.and_eq_true, beq_iff_eq, Bool.not_eq_true', decide_eq_true_eq] at h5
  obtain ⟨⟨⟨⟨⟨g1, g2⟩, g3⟩, g4⟩, g5⟩, g6⟩ := h5
  simp [Cond.before, Cond.holds, Cond.value, h1, h2, h3, h4, g1, g2, g3, g4, g5, g6]
def isCode : Jvm.Cond → Bool
  | .code _ _ _ _ => true
  | _ => false
theorem all_split {L : List Jvm.Cond} {P : Jvm.Cond → Bool} (h1 : L.all (fun c => isCode c || P c) = true) (h2 : ∀ c ∈ L.filter isCode, P c = true) : L.all P = true := by
  refine List.all_eq_true.mpr fun c hc => ?_
  have h := List.all_eq_true.mp h1 c hc
  rcases Bool.eq_false_or_eq_true (isCode c) with hi | hi
  · exact h2 c (List.mem_filter.mpr ⟨hc, hi⟩)
  · simpa [hi] using h
set_option maxRecDepth 65536 in
theorem w_c0 : (Jvm.Cond.code x code maxLocals ret).before args0 about1 = true := code_word (m := ⟨1, 1⟩) (meth := k1m1) (c := k1c1) (by decide +kernel) rfl rfl rfl (by decide +kernel)
set_option maxRecDepth 65536 in
theorem w_c1 : (Jvm.Cond.code ({ cls := "org/lanner/term/TermSyntax", name := "startsVariable", desc := "(I)Z" } : Jvm.MethodName) prog_112_method_5_code (1 : Nat) (Option.some Jvm.ClassFile.FieldType.boolean)).before args0 about1 = true := code_word (m := ⟨2, 1⟩) (meth := k2m1) (c := k2c1) (by decide +kernel) rfl rfl rfl (by decide +kernel)
set_option maxRecDepth 65536 in
theorem w_c2 : (Jvm.Cond.code ({ cls := "org/lanner/term/TermSyntax", name := "isUpperCase", desc := "(I)Z" } : Jvm.MethodName) prog_112_method_9_code (1 : Nat) (Option.some Jvm.ClassFile.FieldType.boolean)).before args0 about1 = true := code_word (m := ⟨2, 2⟩) (meth := k2m2) (c := k2c2) (by decide +kernel) rfl rfl rfl (by decide +kernel)
set_option maxRecDepth 65536 in
theorem w_c3 : (Jvm.Cond.code ({ cls := "org/lanner/term/TermSyntaxStartsVariablePinLaw", name := "expected", desc := "(I)Z" } : Jvm.MethodName) method_3_code (8 : Nat) (Option.some Jvm.ClassFile.FieldType.boolean)).before args0 about1 = true := code_word (m := ⟨1, 2⟩) (meth := k1m2) (c := k1c2) (by decide +kernel) rfl rfl rfl (by decide +kernel)
def codes1 : List Jvm.Cond := [Jvm.Cond.code x code maxLocals ret, Jvm.Cond.code ({ cls := "org/lanner/term/TermSyntax", name := "startsVariable", desc := "(I)Z" } : Jvm.MethodName) prog_112_method_5_code (1 : Nat) (Option.some Jvm.ClassFile.FieldType.boolean), Jvm.Cond.code ({ cls := "org/lanner/term/TermSyntax", name := "isUpperCase", desc := "(I)Z" } : Jvm.MethodName) prog_112_method_9_code (1 : Nat) (Option.some Jvm.ClassFile.FieldType.boolean), Jvm.Cond.code ({ cls := "org/lanner/term/TermSyntaxStartsVariablePinLaw", name := "expected", desc := "(I)Z" } : Jvm.MethodName) method_3_code (8 : Nat) (Option.some Jvm.ClassFile.FieldType.boolean)]
set_option maxRecDepth 65536 in
theorem codes_eq : words1.filter isCode = codes1 := rfl
theorem w_codes : ∀ c ∈ words1.filter isCode, c.before args0 about1 = true := by
  rw [codes_eq]
  intro c hc
  simp only [codes1, List.mem_cons, List.not_mem_nil, or_false] at hc
  rcases hc with rfl | rfl | rfl | rfl
  · exact w_c0
  · exact w_c1
  · exact w_c2
  · exact w_c3
set_option maxRecDepth 65536 in
theorem w_t1 : words1.all (fun c => isCode c || c.before args0 about1) = true := by decide +kernel
theorem w_tables : (allAtoms (Jvm.Cond.code x code maxLocals ret :: tables_1)).before args0 about1 = true := by
  rw [allAtoms_all]
  show words1.all (fun c => c.before args0 about1) = true
  refine all_split ?_ w_codes
  rw [w_t1]
set_option maxRecDepth 65536 in
theorem w_case : (Jvm.Cond.and given_1 narrow_1).before args0 about1 = true := by decide +kernel
theorem w_applies : (headSpec (Jvm.Cond.code x code maxLocals ret :: tables_1) room_1).applies x e0.platform about1 = true :=
  (Spec.applies_iff w_frames).mpr ⟨w_running, w_runnable, w_alone, w_named, w_hears, w_ripe, w_room, w_tables⟩
theorem atStart : AtStart classFile x code maxLocals ret World_1 tables_1 room_1 Calls_1 rest_1 Pre_1 launch0 p0 e0 about1 theMethod args0 below0 :=
  ⟨lists_1, trivial, launch0.admits_env _ _ _, launch0.least_env, fairChoices_fair.cas, fairChoices_fair.clock, w_frames, w_args, w_heap, w_applies, trivial, trivial, w_case⟩
end start1
theorem witness_1 : WitnessClaimed_1 := ⟨start1.p0, start1.e0, start1.about1, start1.theMethod, start1.args0, start1.below0, start1.atStart⟩
end Jvm.Pilot.@@N@@
