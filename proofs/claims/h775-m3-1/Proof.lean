import JvmDerived
import JvmDerived.Pilot.@@N@@Statement
import JvmDerived.Pilot.@@N@@Code
set_option linter.unusedVariables false
set_option linter.unusedSimpArgs false
namespace Jvm.Pilot.@@N@@
open Jvm Jvm.ClassFile Sem Op Lib Jvm.Free Jvm.Stand Jvm.LawKit Jvm.RoadKit Bundle Jvm.Pilot.@@N@@.Jvm.D
section Own
variable {p : Program} {l : Launch} {e : Env} {R : Room} {s : State} {m : MethodId} {args : Array Value} {below : List Frame} {meth : Method} {c : Code} {T : State} {locs : List Loc} {cells slots : Nat} {C N : Nat} {Q : Option Value → Heap → List Loc → Prop} {V V' : State}
/-- from the state V the method comes to its return, and leaves what Q says -/
def own_Run (p : Program) (e : Env) (below : List Frame) (s : State) (C N : Nat) (Q : Option Value → Heap → List Loc → Prop) (V : State) : Prop :=
  ∃ s₂ o, Steps p.tables e below V s₂ ∧ s₂.status = .running ∧ Ended s₂ below o ∧ ∃ v L, o = .returned v ∧ Q v s₂.heap L ∧ FrameEnd s o s₂ L C N
theorem own_of (k : ∀ t, Steps p.tables e below V' t → Steps p.tables e below V t) (r : own_Run p e below s C N Q V') : own_Run p e below s C N Q V := by
  obtain ⟨s₂, o, h, q⟩ := r
  exact ⟨s₂, o, k _ h, q⟩
theorem own_tr (k : Steps p.tables e below V V') (r : own_Run p e below s C N Q V') : own_Run p e below s C N Q V := own_of (fun _ h => k.trans h) r
theorem own_cast {g g' : JFrame} (q : g = g') (r : own_Run p e below s C N Q (T.setTop g')) : own_Run p e below s C N Q (T.setTop g) := q ▸ r
theorem own_ret (X : Stand p l e R s m args below meth c T locs cells slots) (hx : p.tables.exec = Jvm.exec) {pc : Nat} {Ls : Array Slot} {w : Value} {t : FieldType} {i : Instr} {rest : List Value} (hret : meth.sig.returnType = some t) (hlk : meth.locks = false) (hn : narrow t w = w)
    (hi : (i = .ireturn ∧ (t = .int ∨ t = .boolean ∨ t = .byte ∨ t = .char ∨ t = .short) ∧ ∃ z, w = .int z) ∨ (i = .lreturn ∧ t = .long ∧ ∃ z, w = .long z) ∨ (i = .dreturn ∧ t = .double ∧ ∃ z, w = .double z) ∨ (i = .freturn ∧ t = .float ∧ ∃ z, w = .float z) ∨ (i = .areturn ∧ t.isReference = true ∧ w.isRef = true))
    (hd : decode c.code pc = .ok (i, 1)) (q : Q (some w) T.heap locs) (hc : cells ≤ C) (hs : slots ≤ N) : own_Run p e below s C N Q (T.setTop (mkF m pc Ls (w :: rest))) := by
  obtain ⟨fs, hr, hrun, hended, hW, hsame⟩ := X.leave (v := some w) (fun h => by rw [hret] at h; cases h) hlk
  exact ⟨_, _, retOut X hx hret hn hi hd hr, hrun, hended, _, _, rfl, q, ⟨_, rfl⟩, hW, hsame.mono hc hs⟩
theorem own_retI (X : Stand p l e R s m args below meth c T locs cells slots) (hx : p.tables.exec = Jvm.exec) {pc : Nat} {Ls : Array Slot} {z : Int32} {rest : List Value} (hret : meth.sig.returnType = some .int) (hlk : meth.locks = false)
    (hd : decode c.code pc = .ok (.ireturn, 1)) (q : Q (some (.int z)) T.heap locs) (hc : cells ≤ C) (hs : slots ≤ N) : own_Run p e below s C N Q (T.setTop (mkF m pc Ls (.int z :: rest))) :=
  own_ret X hx hret hlk rfl (Or.inl ⟨rfl, Or.inl rfl, z, rfl⟩) hd q hc hs
theorem own_retJ (X : Stand p l e R s m args below meth c T locs cells slots) (hx : p.tables.exec = Jvm.exec) {pc : Nat} {Ls : Array Slot} {z : Int64} {rest : List Value} (hret : meth.sig.returnType = some .long) (hlk : meth.locks = false)
    (hd : decode c.code pc = .ok (.lreturn, 1)) (q : Q (some (.long z)) T.heap locs) (hc : cells ≤ C) (hs : slots ≤ N) : own_Run p e below s C N Q (T.setTop (mkF m pc Ls (.long z :: rest))) :=
  own_ret X hx hret hlk rfl (Or.inr (Or.inl ⟨rfl, rfl, z, rfl⟩)) hd q hc hs
theorem own_retN (X : Stand p l e R s m args below meth c T locs cells slots) (hx : p.tables.exec = Jvm.exec) {pc : Nat} {Ls : Array Slot} {z : Int32} {t : FieldType} {rest : List Value} (hret : meth.sig.returnType = some t) (hlk : meth.locks = false) (ht : t = .boolean ∨ t = .byte ∨ t = .char ∨ t = .short)
    (hd : decode c.code pc = .ok (.ireturn, 1)) (q : Q (some (.int (nar t z))) T.heap locs) (hc : cells ≤ C) (hs : slots ≤ N) : own_Run p e below s C N Q (T.setTop (mkF m pc Ls (.int z :: rest))) := by
  obtain ⟨fs, hr, hrun, hended, hW, hsame⟩ := X.leave (v := some (.int (nar t z))) (fun h => by rw [hret] at h; cases h) hlk
  exact ⟨_, _, retN X hx hret ht hd hr, hrun, hended, _, _, rfl, q, ⟨_, rfl⟩, hW, hsame.mono hc hs⟩
theorem own_retV (X : Stand p l e R s m args below meth c T locs cells slots) (hx : p.tables.exec = Jvm.exec) {pc : Nat} {Ls : Array Slot} (hret : meth.sig.returnType = none) (hlk : meth.locks = false)
    (hd : decode c.code pc = .ok (.return_, 1)) (q : Q none T.heap locs) (hc : cells ≤ C) (hs : slots ≤ N) : own_Run p e below s C N Q (T.setTop (mkF m pc Ls [])) := by
  obtain ⟨fs, hr, hrun, hended, hW, hsame⟩ := X.leave (v := none) (fun _ => rfl) hlk
  exact ⟨_, _, X.returnOut hx hret hd hr, hrun, hended, _, _, rfl, q, ⟨_, rfl⟩, hW, hsame.mono hc hs⟩
end Own
section OwnArrays
variable {p : Program} {l : Launch} {e : Env} {R : Room} {s : State} {m : MethodId} {args : Array Value} {below : List Frame} {meth : Method} {c : Code} {T : State} {locs : List Loc} {cells slots : Nat} {C N : Nat} {Q : Option Value → Heap → List Loc → Prop} {Z : State} {h h' : Heap} {a b : Addr} {ty : FieldType} {n : Nat} {f g : Nat → Int32} {v : Value} {sl : Nat} {ws : List Addr}
/-- in the heap h, at a, an array of the kind ty and n places; its place i holds the int f i -/
def own_Ar (Z : State) (h : Heap) (a : Addr) (ty : FieldType) (n : Nat) (f : Nat → Int32) : Prop := ∃ c : Cell, Arr Z h a c ty ∧ c.slots.size = n ∧ ∀ i, i < n → c.slots[i]? = some (.int (f i))
def own_up (f : Nat → Int32) (j : Nat) (v : Int32) : Nat → Int32 := fun i => if i = j then v else f i
theorem own_Ar.lt (F : own_Ar Z h a ty n f) : a < h.size := by obtain ⟨c, A, -⟩ := F; exact A.lt
theorem own_Ar.ext (F : own_Ar Z h a ty n f) (E : Ext h h') : own_Ar Z h' a ty n f := by obtain ⟨c, A, r⟩ := F; exact ⟨c, A.ext E, r⟩
theorem own_Ar.other (F : own_Ar Z h b ty n f) (W : Wr h h' a sl v) (q : b ≠ a) : own_Ar Z h' b ty n f := by obtain ⟨c, A, r⟩ := F; exact ⟨c, A.other W q, r⟩
theorem own_Ar.keep (F : own_Ar Z h a ty n f) (K : Keep h h' ws) (q : a ∉ ws) : own_Ar Z h' a ty n f := by obtain ⟨c, A, r⟩ := F; exact ⟨c, ⟨K.2.1 a c A.1 q, A.2⟩, r⟩
theorem own_Ar.congr (F : own_Ar Z h a ty n f) (q : ∀ i, i < n → f i = g i) : own_Ar Z h a ty n g := by obtain ⟨c, A, r, H⟩ := F; exact ⟨c, A, r, fun i hi => by rw [← q i hi]; exact H i hi⟩
theorem own_Ar.new {k : ClassId} {z : Int32} (A : Arr Z h a (newA k ty z) ty) (hd : defaultValue ty = .int 0) (hn : z.toNatClampNeg = n) : own_Ar Z h a ty n (fun _ => 0) :=
  ⟨_, A, by rw [sz_new, hn], fun i hi => by simp [newA, hd, hn, hi]⟩
theorem own_Ar.set {w : Int32} {j : Nat} (F : own_Ar Z h a ty n f) (W : Wr h h' a j (.int w)) (hj : j < n) : own_Ar Z h' a ty n (own_up f j w) := by
  obtain ⟨c, A, r, H⟩ := F
  refine ⟨_, A.same W, by rw [sz_set]; exact r, fun i hi => ?_⟩
  by_cases q : i = j
  · subst q
    simp [own_up, Cell.setSlot, r, hi]
  · rw [show (c.setSlot j (.int w)).slots[i]? = c.slots[i]? from Array.getElem?_setIfInBounds_ne (Ne.symm q)]
    simp [own_up, q, H i hi]
theorem own_bal (X : Stand p l e R s m args below meth c T locs cells slots) (hx : p.tables.exec = Jvm.exec) (hZ : Z.Warmed39 s.vm) (eT : T.heap = h) (A : own_Ar Z h a .byte n f) {j w : Int32} (h1 : ¬ j < 0) (h2 : j.toNatClampNeg < n) (hv : f j.toNatClampNeg = w)
    {pc : Nat} {Ls : Array Slot} {rest : List Value} (hd : decode c.code pc = .ok (.baload, 1)) (r : own_Run p e below s C N Q (T.setTop (mkF m (pc + 1) Ls (.int w :: rest)))) : own_Run p e below s C N Q (T.setTop (mkF m pc Ls (.int j :: .ref a :: rest))) := by
  obtain ⟨c, A, S, H⟩ := A
  subst hv
  exact own_of (fun t k => X.baloadBytes hx (j := j) (v := .int (f j.toNatClampNeg)) (by rw [eT]; exact A.1) (State.isArrayOf_alike hZ.alike A.2.1) A.2.2 (by rw [S]; exact fun q => q.elim h1 (Nat.not_le.mpr h2)) (H _ h2) (g := mkF m pc Ls (.int j :: .ref a :: rest)) rfl rfl hd t k) r
theorem own_ial (X : Stand p l e R s m args below meth c T locs cells slots) (hx : p.tables.exec = Jvm.exec) (hZ : Z.Warmed39 s.vm) (eT : T.heap = h) (A : own_Ar Z h a .int n f) {j w : Int32} (h1 : ¬ j < 0) (h2 : j.toNatClampNeg < n) (hv : f j.toNatClampNeg = w)
    {pc : Nat} {Ls : Array Slot} {rest : List Value} (hd : decode c.code pc = .ok (.iaload, 1)) (r : own_Run p e below s C N Q (T.setTop (mkF m (pc + 1) Ls (.int w :: rest)))) : own_Run p e below s C N Q (T.setTop (mkF m pc Ls (.int j :: .ref a :: rest))) := by
  obtain ⟨c, A, S, H⟩ := A
  subst hv
  exact own_of (fun t k => X.iaload hx (j := j) (v := .int (f j.toNatClampNeg)) (by rw [eT]; exact A.1) (State.isArrayOf_alike hZ.alike A.2.1) A.2.2 (by rw [S]; exact fun q => q.elim h1 (Nat.not_le.mpr h2)) (H _ h2) (g := mkF m pc Ls (.int j :: .ref a :: rest)) rfl rfl hd t k) r
theorem own_alen (X : Stand p l e R s m args below meth c T locs cells slots) (hx : p.tables.exec = Jvm.exec) (hZ : Z.Warmed39 s.vm) (eT : T.heap = h) (A : own_Ar Z h a ty n f) {w : Int32} (hv : n.toInt32 = w)
    {pc : Nat} {Ls : Array Slot} {rest : List Value} (hd : decode c.code pc = .ok (.arraylength, 1)) (r : own_Run p e below s C N Q (T.setTop (mkF m (pc + 1) Ls (.int w :: rest)))) : own_Run p e below s C N Q (T.setTop (mkF m pc Ls (.ref a :: rest))) := by
  obtain ⟨c, A, S, H⟩ := A
  subst hv S
  exact own_of (fun t k => X.arraylength hx (by rw [eT]; exact A.1) (State.isArrayOf_alike hZ.alike A.2.1) (g := mkF m pc Ls (.ref a :: rest)) rfl rfl hd t k) r
theorem own_bas (X : Stand p l e R s m args below meth c T locs cells slots) (hx : p.tables.exec = Jvm.exec) (hZ : Z.Warmed39 s.vm) (eT : T.heap = h) (A : own_Ar Z h a .byte n f) {j x : Int32} (h1 : ¬ j < 0) (h2 : j.toNatClampNeg < n)
    {pc : Nat} {Ls : Array Slot} {rest : List Value} (hd : decode c.code pc = .ok (.bastore, 1)) :
    ∃ T' h', Stand p l e R s m args below meth c T' (locs ++ [⟨a, j.toNatClampNeg⟩]) cells slots ∧ T'.heap = h' ∧ Wr h h' a j.toNatClampNeg (.int x.toInt8.toInt32) ∧ own_Ar Z h' a .byte n (own_up f j.toNatClampNeg x.toInt8.toInt32) ∧
      ∀ t, Steps p.tables e below (T'.setTop (mkF m (pc + 1) Ls rest)) t → Steps p.tables e below (T.setTop (mkF m pc Ls (.int x :: .int j :: .ref a :: rest))) t := by
  obtain ⟨c, A, S, H⟩ := id A
  obtain ⟨T', h', X', e', W, st⟩ := stB X hx hZ eT A (j := j) (x := x) (by rw [S]; exact fun q => q.elim h1 (Nat.not_le.mpr h2)) (g := mkF m pc Ls (.int x :: .int j :: .ref a :: rest)) rfl rfl hd
  exact ⟨T', h', X', e', W, own_Ar.set ⟨c, A, S, H⟩ W h2, st⟩
theorem own_ias (X : Stand p l e R s m args below meth c T locs cells slots) (hx : p.tables.exec = Jvm.exec) (hZ : Z.Warmed39 s.vm) (eT : T.heap = h) (A : own_Ar Z h a .int n f) {j x : Int32} (h1 : ¬ j < 0) (h2 : j.toNatClampNeg < n)
    {pc : Nat} {Ls : Array Slot} {rest : List Value} (hd : decode c.code pc = .ok (.iastore, 1)) :
    ∃ T' h', Stand p l e R s m args below meth c T' (locs ++ [⟨a, j.toNatClampNeg⟩]) cells slots ∧ T'.heap = h' ∧ Wr h h' a j.toNatClampNeg (.int x) ∧ own_Ar Z h' a .int n (own_up f j.toNatClampNeg x) ∧
      ∀ t, Steps p.tables e below (T'.setTop (mkF m (pc + 1) Ls rest)) t → Steps p.tables e below (T.setTop (mkF m pc Ls (.int x :: .int j :: .ref a :: rest))) t := by
  obtain ⟨c, A, S, H⟩ := id A
  obtain ⟨T', h', X', e', W, st⟩ := stI X hx hZ eT A (j := j) (x := x) (by rw [S]; exact fun q => q.elim h1 (Nat.not_le.mpr h2)) (g := mkF m pc Ls (.int x :: .int j :: .ref a :: rest)) rfl rfl hd
  exact ⟨T', h', X', e', W, own_Ar.set ⟨c, A, S, H⟩ W h2, st⟩
end OwnArrays
abbrev own_U (c : Int32) : Prop := (65 ≤ c.toInt ∧ c.toInt ≤ 90) ∨ (192 ≤ c.toInt ∧ c.toInt ≤ 222 ∧ c.toInt ≠ 215)
abbrev own_Lo (c : Int32) : Prop := (97 ≤ c.toInt ∧ c.toInt ≤ 122) ∨ (223 ≤ c.toInt ∧ c.toInt ≤ 255 ∧ c.toInt ≠ 247)
abbrev own_B (c : Int32) : Prop := (48 ≤ c.toInt ∧ c.toInt ≤ 57) ∨ (64 ≤ c.toInt ∧ c.toInt ≤ 90) ∨ c.toInt = 95 ∨ (97 ≤ c.toInt ∧ c.toInt ≤ 122) ∨ (192 ≤ c.toInt ∧ c.toInt ≤ 255 ∧ c.toInt ≠ 215 ∧ c.toInt ≠ 247)
theorem own_pn0 : plainName "org/lanner/term/TermSyntax" = true := by first | (simp [plainName, overriddenIn]; done) | decide +kernel
theorem dL_0 : decode prog_112_method_8_code 0 = .ok (.iload_n 0, 1) := by decide +kernel
theorem dL_1 : decode prog_112_method_8_code 1 = .ok (.bipush 97, 2) := by decide +kernel
theorem dL_3 : decode prog_112_method_8_code 3 = .ok (.if_icmp .lt 9, 3) := by decide +kernel
theorem dL_6 : decode prog_112_method_8_code 6 = .ok (.iload_n 0, 1) := by decide +kernel
theorem dL_7 : decode prog_112_method_8_code 7 = .ok (.bipush 122, 2) := by decide +kernel
theorem dL_9 : decode prog_112_method_8_code 9 = .ok (.if_icmp .le 24, 3) := by decide +kernel
theorem dL_12 : decode prog_112_method_8_code 12 = .ok (.iload_n 0, 1) := by decide +kernel
theorem dL_13 : decode prog_112_method_8_code 13 = .ok (.sipush 223, 3) := by decide +kernel
theorem dL_16 : decode prog_112_method_8_code 16 = .ok (.if_icmp .lt 21, 3) := by decide +kernel
theorem dL_19 : decode prog_112_method_8_code 19 = .ok (.iload_n 0, 1) := by decide +kernel
theorem dL_20 : decode prog_112_method_8_code 20 = .ok (.sipush 255, 3) := by decide +kernel
theorem dL_23 : decode prog_112_method_8_code 23 = .ok (.if_icmp .gt 14, 3) := by decide +kernel
theorem dL_26 : decode prog_112_method_8_code 26 = .ok (.iload_n 0, 1) := by decide +kernel
theorem dL_27 : decode prog_112_method_8_code 27 = .ok (.sipush 247, 3) := by decide +kernel
theorem dL_30 : decode prog_112_method_8_code 30 = .ok (.if_icmp .eq 7, 3) := by decide +kernel
theorem dL_33 : decode prog_112_method_8_code 33 = .ok (.iconst 1, 1) := by decide +kernel
theorem dL_34 : decode prog_112_method_8_code 34 = .ok (.goto 4, 3) := by decide +kernel
theorem dL_37 : decode prog_112_method_8_code 37 = .ok (.iconst 0, 1) := by decide +kernel
theorem dL_38 : decode prog_112_method_8_code 38 = .ok (.ireturn, 1) := by decide +kernel
theorem efL (m : MethodId) (c1 : Int32) : entryFrame m #[(.int c1)] 1 = mkF m 0 #[.val (.int c1)] [] := by first | (simp [entryFrame, mkF, argsToLocals, Value.category]; done) | rfl
def QL (Z : State) (c1 : Int32) (h0 : Heap) (n0 : Nat) (v : Option Value) (h : Heap) (L : List Loc) : Prop := v = some (.int (if own_Lo c1 then 1 else 0)) ∧ Fr n0 L ∧ h = h0
set_option maxRecDepth 65536 in
set_option maxHeartbeats 40000000 in
theorem rmL (l : Launch) (Z : State) (a0 : Array Value) (hw : ∀ d ∈ tables_1, d.before a0 Z = true) (ws : List Jvm.Cond) (c1 : Int32) (h0 : Heap) (n0 : Nat) (Z0 : n0 ≤ h0.size)  :
    MetFree l (⟨"org/lanner/term/TermSyntax", "isLowerCase", "(I)Z"⟩ : MethodName) (head1 (Jvm.Cond.code (⟨"org/lanner/term/TermSyntax", "isLowerCase", "(I)Z"⟩ : MethodName) prog_112_method_8_code 1 (some .boolean) :: ws) ({ frames := 0, cells := 0, slots := 0, locals := 0 } : Room)) (fun a U => a = #[(.int c1)] ∧ Z.Warmed39 U.vm ∧ U.heap = h0) (fun _ _ _ _ _ => True) (fun _ U o U' => ∃ v L, o = .returned v ∧ QL Z c1 h0 n0 v U'.heap L ∧ FrameEnd U o U' L ({ frames := 0, cells := 0, slots := 0, locals := 0 } : Room).cells ({ frames := 0, cells := 0, slots := 0, locals := 0 } : Room).slots) := by
  refine MetFree.of_bodySF (plainFor_of_name own_pn0) hisR ?_
  intro p e s m args below meth c s₁ Bd hml0 hP hK
  obtain ⟨rfl, hZ, hh⟩ := hP
  have hx := Bd.exec
  have hby := Bd.bytes
  have hml : c.maxLocals = 1 := hml0
  have hown : s.vm.findClass "org/lanner/term/TermSyntax" = some m.cls := findClass_of_methodNamed Bd.named
  have hnm := (name_of_methodNamed Bd.named Bd.method).1
  have hlk := Bd.notSynchronized
  have hret := Bd.returns
  have X0 : Stand p l e ({ frames := 0, cells := 0, slots := 0, locals := 0 } : Room) s m #[(.int c1)] below meth c s₁ [] 0 0 := Stand.of_body Bd
  have e0 : s₁.heap = h0 := by rw [← hh, Bd.state]; rfl
  have N0 := Fr.nil n0
  show own_Run p e below s 0 0 (QL Z c1 h0 n0) (s₁.setTop (entryFrame m #[(.int c1)] 1))
  refine own_cast (efL m c1) ?_
  show own_Run p e below s _ _ _ (s₁.setTop (mkF m 0 #[.val (.int c1)] []))
  refine own_of (fun _ hh_ => XS.iloadN X0.here hx rfl (hb hby dL_0) rfl hh_) ?_
  show own_Run p e below s _ _ _ (s₁.setTop (mkF m 1 #[.val (.int c1)] [(.int c1)]))
  refine own_of (fun _ hh_ => XS.bipush X0.here hx rfl (hb hby dL_1) hh_) ?_
  show own_Run p e below s _ _ _ (s₁.setTop (mkF m 3 #[.val (.int c1)] [(.int (97 : Int32)), (.int c1)]))
  by_cases hc3_1 : c1 < (97 : Int32)
  · refine own_of (fun _ hh_ => XS.icmpYes X0.here hx rfl (pc0 := 3) (pc' := 12) rfl (hb hby dL_3) rfl (tlt hc3_1).1 (by decide) (by decide) hh_) ?_
    show own_Run p e below s _ _ _ (s₁.setTop (mkF m 12 #[.val (.int c1)] []))
    refine own_of (fun _ hh_ => XS.iloadN X0.here hx rfl (hb hby dL_12) rfl hh_) ?_
    show own_Run p e below s _ _ _ (s₁.setTop (mkF m 13 #[.val (.int c1)] [(.int c1)]))
    refine own_of (fun _ hh_ => XS.sipush X0.here hx rfl (hb hby dL_13) hh_) ?_
    show own_Run p e below s _ _ _ (s₁.setTop (mkF m 16 #[.val (.int c1)] [(.int (223 : Int32)), (.int c1)]))
    by_cases hc16_2 : c1 < (223 : Int32)
    · refine own_of (fun _ hh_ => XS.icmpYes X0.here hx rfl (pc0 := 16) (pc' := 37) rfl (hb hby dL_16) rfl (tlt hc16_2).1 (by decide) (by decide) hh_) ?_
      show own_Run p e below s _ _ _ (s₁.setTop (mkF m 37 #[.val (.int c1)] []))
      refine own_of (fun _ hh_ => XS.iconst X0.here hx rfl (hb hby dL_37) hh_) ?_
      show own_Run p e below s _ _ _ (s₁.setTop (mkF m 38 #[.val (.int c1)] [(.int (0 : Int32))]))
      exact own_retN X0 hx (t := .boolean) hret hlk (by simp) (hb hby dL_38) ⟨by rw [if_neg (show ¬ (own_Lo c1) from by have a_hc3_1 := Int32.lt_iff_toInt_lt.mp hc3_1; have a_hc16_2 := Int32.lt_iff_toInt_lt.mp hc16_2; have l_0 : (97 : Int32).toInt = 97 := rfl; have l_1 : (223 : Int32).toInt = 223 := rfl; omega)]; rfl, N0, e0⟩ (by decide) (by decide)
    · refine own_of (fun _ hh_ => XS.icmpNo X0.here hx rfl (hb hby dL_16) rfl (flt hc16_2).1 hh_) ?_
      show own_Run p e below s _ _ _ (s₁.setTop (mkF m 19 #[.val (.int c1)] []))
      refine own_of (fun _ hh_ => XS.iloadN X0.here hx rfl (hb hby dL_19) rfl hh_) ?_
      show own_Run p e below s _ _ _ (s₁.setTop (mkF m 20 #[.val (.int c1)] [(.int c1)]))
      refine own_of (fun _ hh_ => XS.sipush X0.here hx rfl (hb hby dL_20) hh_) ?_
      show own_Run p e below s _ _ _ (s₁.setTop (mkF m 23 #[.val (.int c1)] [(.int (255 : Int32)), (.int c1)]))
      by_cases hc23_3 : (255 : Int32) < c1
      · refine own_of (fun _ hh_ => XS.icmpYes X0.here hx rfl (pc0 := 23) (pc' := 37) rfl (hb hby dL_23) rfl (tlt hc23_3).2.2.1 (by decide) (by decide) hh_) ?_
        show own_Run p e below s _ _ _ (s₁.setTop (mkF m 37 #[.val (.int c1)] []))
        refine own_of (fun _ hh_ => XS.iconst X0.here hx rfl (hb hby dL_37) hh_) ?_
        show own_Run p e below s _ _ _ (s₁.setTop (mkF m 38 #[.val (.int c1)] [(.int (0 : Int32))]))
        exact own_retN X0 hx (t := .boolean) hret hlk (by simp) (hb hby dL_38) ⟨by rw [if_neg (show ¬ (own_Lo c1) from by have a_hc3_1 := Int32.lt_iff_toInt_lt.mp hc3_1; have a_hc16_2 := mt Int32.lt_iff_toInt_lt.mpr hc16_2; have a_hc23_3 := Int32.lt_iff_toInt_lt.mp hc23_3; have l_0 : (97 : Int32).toInt = 97 := rfl; have l_1 : (223 : Int32).toInt = 223 := rfl; have l_2 : (255 : Int32).toInt = 255 := rfl; omega)]; rfl, N0, e0⟩ (by decide) (by decide)
      · refine own_of (fun _ hh_ => XS.icmpNo X0.here hx rfl (hb hby dL_23) rfl (flt hc23_3).2.2.1 hh_) ?_
        show own_Run p e below s _ _ _ (s₁.setTop (mkF m 26 #[.val (.int c1)] []))
        refine own_of (fun _ hh_ => XS.iloadN X0.here hx rfl (hb hby dL_26) rfl hh_) ?_
        show own_Run p e below s _ _ _ (s₁.setTop (mkF m 27 #[.val (.int c1)] [(.int c1)]))
        refine own_of (fun _ hh_ => XS.sipush X0.here hx rfl (hb hby dL_27) hh_) ?_
        show own_Run p e below s _ _ _ (s₁.setTop (mkF m 30 #[.val (.int c1)] [(.int (247 : Int32)), (.int c1)]))
        by_cases hc30_4 : c1 = (247 : Int32)
        · refine own_of (fun _ hh_ => XS.icmpYes X0.here hx rfl (pc0 := 30) (pc' := 37) rfl (hb hby dL_30) rfl (teq hc30_4).1 (by decide) (by decide) hh_) ?_
          show own_Run p e below s _ _ _ (s₁.setTop (mkF m 37 #[.val (.int c1)] []))
          refine own_of (fun _ hh_ => XS.iconst X0.here hx rfl (hb hby dL_37) hh_) ?_
          show own_Run p e below s _ _ _ (s₁.setTop (mkF m 38 #[.val (.int c1)] [(.int (0 : Int32))]))
          exact own_retN X0 hx (t := .boolean) hret hlk (by simp) (hb hby dL_38) ⟨by rw [if_neg (show ¬ (own_Lo c1) from by have a_hc3_1 := Int32.lt_iff_toInt_lt.mp hc3_1; have a_hc16_2 := mt Int32.lt_iff_toInt_lt.mpr hc16_2; have a_hc23_3 := mt Int32.lt_iff_toInt_lt.mpr hc23_3; have a_hc30_4 := Int32.toInt_inj.mpr hc30_4; have l_0 : (97 : Int32).toInt = 97 := rfl; have l_1 : (223 : Int32).toInt = 223 := rfl; have l_2 : (255 : Int32).toInt = 255 := rfl; have l_3 : (247 : Int32).toInt = 247 := rfl; omega)]; rfl, N0, e0⟩ (by decide) (by decide)
        · refine own_of (fun _ hh_ => XS.icmpNo X0.here hx rfl (hb hby dL_30) rfl (feq hc30_4).1 hh_) ?_
          show own_Run p e below s _ _ _ (s₁.setTop (mkF m 33 #[.val (.int c1)] []))
          refine own_of (fun _ hh_ => XS.iconst X0.here hx rfl (hb hby dL_33) hh_) ?_
          show own_Run p e below s _ _ _ (s₁.setTop (mkF m 34 #[.val (.int c1)] [(.int (1 : Int32))]))
          refine own_of (fun _ hh_ => XS.goto X0.here hx rfl (pc0 := 34) (pc' := 38) rfl (hb hby dL_34) (by decide) (by decide) hh_) ?_
          show own_Run p e below s _ _ _ (s₁.setTop (mkF m 38 #[.val (.int c1)] [(.int (1 : Int32))]))
          exact own_retN X0 hx (t := .boolean) hret hlk (by simp) (hb hby dL_38) ⟨by rw [if_pos (show own_Lo c1 from by have a_hc3_1 := Int32.lt_iff_toInt_lt.mp hc3_1; have a_hc16_2 := mt Int32.lt_iff_toInt_lt.mpr hc16_2; have a_hc23_3 := mt Int32.lt_iff_toInt_lt.mpr hc23_3; have a_hc30_4 := mt Int32.toInt_inj.mp hc30_4; have l_0 : (97 : Int32).toInt = 97 := rfl; have l_1 : (223 : Int32).toInt = 223 := rfl; have l_2 : (255 : Int32).toInt = 255 := rfl; have l_3 : (247 : Int32).toInt = 247 := rfl; omega)]; rfl, N0, e0⟩ (by decide) (by decide)
  · refine own_of (fun _ hh_ => XS.icmpNo X0.here hx rfl (hb hby dL_3) rfl (flt hc3_1).1 hh_) ?_
    show own_Run p e below s _ _ _ (s₁.setTop (mkF m 6 #[.val (.int c1)] []))
    refine own_of (fun _ hh_ => XS.iloadN X0.here hx rfl (hb hby dL_6) rfl hh_) ?_
    show own_Run p e below s _ _ _ (s₁.setTop (mkF m 7 #[.val (.int c1)] [(.int c1)]))
    refine own_of (fun _ hh_ => XS.bipush X0.here hx rfl (hb hby dL_7) hh_) ?_
    show own_Run p e below s _ _ _ (s₁.setTop (mkF m 9 #[.val (.int c1)] [(.int (122 : Int32)), (.int c1)]))
    by_cases hc9_5 : (122 : Int32) < c1
    · refine own_of (fun _ hh_ => XS.icmpNo X0.here hx rfl (hb hby dL_9) rfl (tlt hc9_5).2.2.2 hh_) ?_
      show own_Run p e below s _ _ _ (s₁.setTop (mkF m 12 #[.val (.int c1)] []))
      refine own_of (fun _ hh_ => XS.iloadN X0.here hx rfl (hb hby dL_12) rfl hh_) ?_
      show own_Run p e below s _ _ _ (s₁.setTop (mkF m 13 #[.val (.int c1)] [(.int c1)]))
      refine own_of (fun _ hh_ => XS.sipush X0.here hx rfl (hb hby dL_13) hh_) ?_
      show own_Run p e below s _ _ _ (s₁.setTop (mkF m 16 #[.val (.int c1)] [(.int (223 : Int32)), (.int c1)]))
      by_cases hc16_6 : c1 < (223 : Int32)
      · refine own_of (fun _ hh_ => XS.icmpYes X0.here hx rfl (pc0 := 16) (pc' := 37) rfl (hb hby dL_16) rfl (tlt hc16_6).1 (by decide) (by decide) hh_) ?_
        show own_Run p e below s _ _ _ (s₁.setTop (mkF m 37 #[.val (.int c1)] []))
        refine own_of (fun _ hh_ => XS.iconst X0.here hx rfl (hb hby dL_37) hh_) ?_
        show own_Run p e below s _ _ _ (s₁.setTop (mkF m 38 #[.val (.int c1)] [(.int (0 : Int32))]))
        exact own_retN X0 hx (t := .boolean) hret hlk (by simp) (hb hby dL_38) ⟨by rw [if_neg (show ¬ (own_Lo c1) from by have a_hc3_1 := mt Int32.lt_iff_toInt_lt.mpr hc3_1; have a_hc9_5 := Int32.lt_iff_toInt_lt.mp hc9_5; have a_hc16_6 := Int32.lt_iff_toInt_lt.mp hc16_6; have l_0 : (97 : Int32).toInt = 97 := rfl; have l_1 : (122 : Int32).toInt = 122 := rfl; have l_2 : (223 : Int32).toInt = 223 := rfl; omega)]; rfl, N0, e0⟩ (by decide) (by decide)
      · refine own_of (fun _ hh_ => XS.icmpNo X0.here hx rfl (hb hby dL_16) rfl (flt hc16_6).1 hh_) ?_
        show own_Run p e below s _ _ _ (s₁.setTop (mkF m 19 #[.val (.int c1)] []))
        refine own_of (fun _ hh_ => XS.iloadN X0.here hx rfl (hb hby dL_19) rfl hh_) ?_
        show own_Run p e below s _ _ _ (s₁.setTop (mkF m 20 #[.val (.int c1)] [(.int c1)]))
        refine own_of (fun _ hh_ => XS.sipush X0.here hx rfl (hb hby dL_20) hh_) ?_
        show own_Run p e below s _ _ _ (s₁.setTop (mkF m 23 #[.val (.int c1)] [(.int (255 : Int32)), (.int c1)]))
        by_cases hc23_7 : (255 : Int32) < c1
        · refine own_of (fun _ hh_ => XS.icmpYes X0.here hx rfl (pc0 := 23) (pc' := 37) rfl (hb hby dL_23) rfl (tlt hc23_7).2.2.1 (by decide) (by decide) hh_) ?_
          show own_Run p e below s _ _ _ (s₁.setTop (mkF m 37 #[.val (.int c1)] []))
          refine own_of (fun _ hh_ => XS.iconst X0.here hx rfl (hb hby dL_37) hh_) ?_
          show own_Run p e below s _ _ _ (s₁.setTop (mkF m 38 #[.val (.int c1)] [(.int (0 : Int32))]))
          exact own_retN X0 hx (t := .boolean) hret hlk (by simp) (hb hby dL_38) ⟨by rw [if_neg (show ¬ (own_Lo c1) from by have a_hc3_1 := mt Int32.lt_iff_toInt_lt.mpr hc3_1; have a_hc9_5 := Int32.lt_iff_toInt_lt.mp hc9_5; have a_hc16_6 := mt Int32.lt_iff_toInt_lt.mpr hc16_6; have a_hc23_7 := Int32.lt_iff_toInt_lt.mp hc23_7; have l_0 : (97 : Int32).toInt = 97 := rfl; have l_1 : (122 : Int32).toInt = 122 := rfl; have l_2 : (223 : Int32).toInt = 223 := rfl; have l_3 : (255 : Int32).toInt = 255 := rfl; omega)]; rfl, N0, e0⟩ (by decide) (by decide)
        · refine own_of (fun _ hh_ => XS.icmpNo X0.here hx rfl (hb hby dL_23) rfl (flt hc23_7).2.2.1 hh_) ?_
          show own_Run p e below s _ _ _ (s₁.setTop (mkF m 26 #[.val (.int c1)] []))
          refine own_of (fun _ hh_ => XS.iloadN X0.here hx rfl (hb hby dL_26) rfl hh_) ?_
          show own_Run p e below s _ _ _ (s₁.setTop (mkF m 27 #[.val (.int c1)] [(.int c1)]))
          refine own_of (fun _ hh_ => XS.sipush X0.here hx rfl (hb hby dL_27) hh_) ?_
          show own_Run p e below s _ _ _ (s₁.setTop (mkF m 30 #[.val (.int c1)] [(.int (247 : Int32)), (.int c1)]))
          by_cases hc30_8 : c1 = (247 : Int32)
          · refine own_of (fun _ hh_ => XS.icmpYes X0.here hx rfl (pc0 := 30) (pc' := 37) rfl (hb hby dL_30) rfl (teq hc30_8).1 (by decide) (by decide) hh_) ?_
            show own_Run p e below s _ _ _ (s₁.setTop (mkF m 37 #[.val (.int c1)] []))
            refine own_of (fun _ hh_ => XS.iconst X0.here hx rfl (hb hby dL_37) hh_) ?_
            show own_Run p e below s _ _ _ (s₁.setTop (mkF m 38 #[.val (.int c1)] [(.int (0 : Int32))]))
            exact own_retN X0 hx (t := .boolean) hret hlk (by simp) (hb hby dL_38) ⟨by rw [if_neg (show ¬ (own_Lo c1) from by have a_hc3_1 := mt Int32.lt_iff_toInt_lt.mpr hc3_1; have a_hc9_5 := Int32.lt_iff_toInt_lt.mp hc9_5; have a_hc16_6 := mt Int32.lt_iff_toInt_lt.mpr hc16_6; have a_hc23_7 := mt Int32.lt_iff_toInt_lt.mpr hc23_7; have a_hc30_8 := Int32.toInt_inj.mpr hc30_8; have l_0 : (97 : Int32).toInt = 97 := rfl; have l_1 : (122 : Int32).toInt = 122 := rfl; have l_2 : (223 : Int32).toInt = 223 := rfl; have l_3 : (255 : Int32).toInt = 255 := rfl; have l_4 : (247 : Int32).toInt = 247 := rfl; omega)]; rfl, N0, e0⟩ (by decide) (by decide)
          · refine own_of (fun _ hh_ => XS.icmpNo X0.here hx rfl (hb hby dL_30) rfl (feq hc30_8).1 hh_) ?_
            show own_Run p e below s _ _ _ (s₁.setTop (mkF m 33 #[.val (.int c1)] []))
            refine own_of (fun _ hh_ => XS.iconst X0.here hx rfl (hb hby dL_33) hh_) ?_
            show own_Run p e below s _ _ _ (s₁.setTop (mkF m 34 #[.val (.int c1)] [(.int (1 : Int32))]))
            refine own_of (fun _ hh_ => XS.goto X0.here hx rfl (pc0 := 34) (pc' := 38) rfl (hb hby dL_34) (by decide) (by decide) hh_) ?_
            show own_Run p e below s _ _ _ (s₁.setTop (mkF m 38 #[.val (.int c1)] [(.int (1 : Int32))]))
            exact own_retN X0 hx (t := .boolean) hret hlk (by simp) (hb hby dL_38) ⟨by rw [if_pos (show own_Lo c1 from by have a_hc3_1 := mt Int32.lt_iff_toInt_lt.mpr hc3_1; have a_hc9_5 := Int32.lt_iff_toInt_lt.mp hc9_5; have a_hc16_6 := mt Int32.lt_iff_toInt_lt.mpr hc16_6; have a_hc23_7 := mt Int32.lt_iff_toInt_lt.mpr hc23_7; have a_hc30_8 := mt Int32.toInt_inj.mp hc30_8; have l_0 : (97 : Int32).toInt = 97 := rfl; have l_1 : (122 : Int32).toInt = 122 := rfl; have l_2 : (223 : Int32).toInt = 223 := rfl; have l_3 : (255 : Int32).toInt = 255 := rfl; have l_4 : (247 : Int32).toInt = 247 := rfl; omega)]; rfl, N0, e0⟩ (by decide) (by decide)
    · refine own_of (fun _ hh_ => XS.icmpYes X0.here hx rfl (pc0 := 9) (pc' := 33) rfl (hb hby dL_9) rfl (flt hc9_5).2.2.2 (by decide) (by decide) hh_) ?_
      show own_Run p e below s _ _ _ (s₁.setTop (mkF m 33 #[.val (.int c1)] []))
      refine own_of (fun _ hh_ => XS.iconst X0.here hx rfl (hb hby dL_33) hh_) ?_
      show own_Run p e below s _ _ _ (s₁.setTop (mkF m 34 #[.val (.int c1)] [(.int (1 : Int32))]))
      refine own_of (fun _ hh_ => XS.goto X0.here hx rfl (pc0 := 34) (pc' := 38) rfl (hb hby dL_34) (by decide) (by decide) hh_) ?_
      show own_Run p e below s _ _ _ (s₁.setTop (mkF m 38 #[.val (.int c1)] [(.int (1 : Int32))]))
      exact own_retN X0 hx (t := .boolean) hret hlk (by simp) (hb hby dL_38) ⟨by rw [if_pos (show own_Lo c1 from by have a_hc3_1 := mt Int32.lt_iff_toInt_lt.mpr hc3_1; have a_hc9_5 := mt Int32.lt_iff_toInt_lt.mpr hc9_5; have l_0 : (97 : Int32).toInt = 97 := rfl; have l_1 : (122 : Int32).toInt = 122 := rfl; omega)]; rfl, N0, e0⟩ (by decide) (by decide)
theorem dU_0 : decode prog_112_method_9_code 0 = .ok (.iload_n 0, 1) := by decide +kernel
theorem dU_1 : decode prog_112_method_9_code 1 = .ok (.bipush 65, 2) := by decide +kernel
theorem dU_3 : decode prog_112_method_9_code 3 = .ok (.if_icmp .lt 9, 3) := by decide +kernel
theorem dU_6 : decode prog_112_method_9_code 6 = .ok (.iload_n 0, 1) := by decide +kernel
theorem dU_7 : decode prog_112_method_9_code 7 = .ok (.bipush 90, 2) := by decide +kernel
theorem dU_9 : decode prog_112_method_9_code 9 = .ok (.if_icmp .le 24, 3) := by decide +kernel
theorem dU_12 : decode prog_112_method_9_code 12 = .ok (.iload_n 0, 1) := by decide +kernel
theorem dU_13 : decode prog_112_method_9_code 13 = .ok (.sipush 192, 3) := by decide +kernel
theorem dU_16 : decode prog_112_method_9_code 16 = .ok (.if_icmp .lt 21, 3) := by decide +kernel
theorem dU_19 : decode prog_112_method_9_code 19 = .ok (.iload_n 0, 1) := by decide +kernel
theorem dU_20 : decode prog_112_method_9_code 20 = .ok (.sipush 222, 3) := by decide +kernel
theorem dU_23 : decode prog_112_method_9_code 23 = .ok (.if_icmp .gt 14, 3) := by decide +kernel
theorem dU_26 : decode prog_112_method_9_code 26 = .ok (.iload_n 0, 1) := by decide +kernel
theorem dU_27 : decode prog_112_method_9_code 27 = .ok (.sipush 215, 3) := by decide +kernel
theorem dU_30 : decode prog_112_method_9_code 30 = .ok (.if_icmp .eq 7, 3) := by decide +kernel
theorem dU_33 : decode prog_112_method_9_code 33 = .ok (.iconst 1, 1) := by decide +kernel
theorem dU_34 : decode prog_112_method_9_code 34 = .ok (.goto 4, 3) := by decide +kernel
theorem dU_37 : decode prog_112_method_9_code 37 = .ok (.iconst 0, 1) := by decide +kernel
theorem dU_38 : decode prog_112_method_9_code 38 = .ok (.ireturn, 1) := by decide +kernel
theorem efU (m : MethodId) (c1 : Int32) : entryFrame m #[(.int c1)] 1 = mkF m 0 #[.val (.int c1)] [] := by first | (simp [entryFrame, mkF, argsToLocals, Value.category]; done) | rfl
def QU (Z : State) (c1 : Int32) (h0 : Heap) (n0 : Nat) (v : Option Value) (h : Heap) (L : List Loc) : Prop := v = some (.int (if own_U c1 then 1 else 0)) ∧ Fr n0 L ∧ h = h0
set_option maxRecDepth 65536 in
set_option maxHeartbeats 40000000 in
theorem rmU (l : Launch) (Z : State) (a0 : Array Value) (hw : ∀ d ∈ tables_1, d.before a0 Z = true) (ws : List Jvm.Cond) (c1 : Int32) (h0 : Heap) (n0 : Nat) (Z0 : n0 ≤ h0.size)  :
    MetFree l (⟨"org/lanner/term/TermSyntax", "isUpperCase", "(I)Z"⟩ : MethodName) (head1 (Jvm.Cond.code (⟨"org/lanner/term/TermSyntax", "isUpperCase", "(I)Z"⟩ : MethodName) prog_112_method_9_code 1 (some .boolean) :: ws) ({ frames := 0, cells := 0, slots := 0, locals := 0 } : Room)) (fun a U => a = #[(.int c1)] ∧ Z.Warmed39 U.vm ∧ U.heap = h0) (fun _ _ _ _ _ => True) (fun _ U o U' => ∃ v L, o = .returned v ∧ QU Z c1 h0 n0 v U'.heap L ∧ FrameEnd U o U' L ({ frames := 0, cells := 0, slots := 0, locals := 0 } : Room).cells ({ frames := 0, cells := 0, slots := 0, locals := 0 } : Room).slots) := by
  refine MetFree.of_bodySF (plainFor_of_name own_pn0) hisR ?_
  intro p e s m args below meth c s₁ Bd hml0 hP hK
  obtain ⟨rfl, hZ, hh⟩ := hP
  have hx := Bd.exec
  have hby := Bd.bytes
  have hml : c.maxLocals = 1 := hml0
  have hown : s.vm.findClass "org/lanner/term/TermSyntax" = some m.cls := findClass_of_methodNamed Bd.named
  have hnm := (name_of_methodNamed Bd.named Bd.method).1
  have hlk := Bd.notSynchronized
  have hret := Bd.returns
  have X0 : Stand p l e ({ frames := 0, cells := 0, slots := 0, locals := 0 } : Room) s m #[(.int c1)] below meth c s₁ [] 0 0 := Stand.of_body Bd
  have e0 : s₁.heap = h0 := by rw [← hh, Bd.state]; rfl
  have N0 := Fr.nil n0
  show own_Run p e below s 0 0 (QU Z c1 h0 n0) (s₁.setTop (entryFrame m #[(.int c1)] 1))
  refine own_cast (efU m c1) ?_
  show own_Run p e below s _ _ _ (s₁.setTop (mkF m 0 #[.val (.int c1)] []))
  refine own_of (fun _ hh_ => XS.iloadN X0.here hx rfl (hb hby dU_0) rfl hh_) ?_
  show own_Run p e below s _ _ _ (s₁.setTop (mkF m 1 #[.val (.int c1)] [(.int c1)]))
  refine own_of (fun _ hh_ => XS.bipush X0.here hx rfl (hb hby dU_1) hh_) ?_
  show own_Run p e below s _ _ _ (s₁.setTop (mkF m 3 #[.val (.int c1)] [(.int (65 : Int32)), (.int c1)]))
  by_cases hc3_1 : c1 < (65 : Int32)
  · refine own_of (fun _ hh_ => XS.icmpYes X0.here hx rfl (pc0 := 3) (pc' := 12) rfl (hb hby dU_3) rfl (tlt hc3_1).1 (by decide) (by decide) hh_) ?_
    show own_Run p e below s _ _ _ (s₁.setTop (mkF m 12 #[.val (.int c1)] []))
    refine own_of (fun _ hh_ => XS.iloadN X0.here hx rfl (hb hby dU_12) rfl hh_) ?_
    show own_Run p e below s _ _ _ (s₁.setTop (mkF m 13 #[.val (.int c1)] [(.int c1)]))
    refine own_of (fun _ hh_ => XS.sipush X0.here hx rfl (hb hby dU_13) hh_) ?_
    show own_Run p e below s _ _ _ (s₁.setTop (mkF m 16 #[.val (.int c1)] [(.int (192 : Int32)), (.int c1)]))
    by_cases hc16_2 : c1 < (192 : Int32)
    · refine own_of (fun _ hh_ => XS.icmpYes X0.here hx rfl (pc0 := 16) (pc' := 37) rfl (hb hby dU_16) rfl (tlt hc16_2).1 (by decide) (by decide) hh_) ?_
      show own_Run p e below s _ _ _ (s₁.setTop (mkF m 37 #[.val (.int c1)] []))
      refine own_of (fun _ hh_ => XS.iconst X0.here hx rfl (hb hby dU_37) hh_) ?_
      show own_Run p e below s _ _ _ (s₁.setTop (mkF m 38 #[.val (.int c1)] [(.int (0 : Int32))]))
      exact own_retN X0 hx (t := .boolean) hret hlk (by simp) (hb hby dU_38) ⟨by rw [if_neg (show ¬ (own_U c1) from by have a_hc3_1 := Int32.lt_iff_toInt_lt.mp hc3_1; have a_hc16_2 := Int32.lt_iff_toInt_lt.mp hc16_2; have l_0 : (65 : Int32).toInt = 65 := rfl; have l_1 : (192 : Int32).toInt = 192 := rfl; omega)]; rfl, N0, e0⟩ (by decide) (by decide)
    · refine own_of (fun _ hh_ => XS.icmpNo X0.here hx rfl (hb hby dU_16) rfl (flt hc16_2).1 hh_) ?_
      show own_Run p e below s _ _ _ (s₁.setTop (mkF m 19 #[.val (.int c1)] []))
      refine own_of (fun _ hh_ => XS.iloadN X0.here hx rfl (hb hby dU_19) rfl hh_) ?_
      show own_Run p e below s _ _ _ (s₁.setTop (mkF m 20 #[.val (.int c1)] [(.int c1)]))
      refine own_of (fun _ hh_ => XS.sipush X0.here hx rfl (hb hby dU_20) hh_) ?_
      show own_Run p e below s _ _ _ (s₁.setTop (mkF m 23 #[.val (.int c1)] [(.int (222 : Int32)), (.int c1)]))
      by_cases hc23_3 : (222 : Int32) < c1
      · refine own_of (fun _ hh_ => XS.icmpYes X0.here hx rfl (pc0 := 23) (pc' := 37) rfl (hb hby dU_23) rfl (tlt hc23_3).2.2.1 (by decide) (by decide) hh_) ?_
        show own_Run p e below s _ _ _ (s₁.setTop (mkF m 37 #[.val (.int c1)] []))
        refine own_of (fun _ hh_ => XS.iconst X0.here hx rfl (hb hby dU_37) hh_) ?_
        show own_Run p e below s _ _ _ (s₁.setTop (mkF m 38 #[.val (.int c1)] [(.int (0 : Int32))]))
        exact own_retN X0 hx (t := .boolean) hret hlk (by simp) (hb hby dU_38) ⟨by rw [if_neg (show ¬ (own_U c1) from by have a_hc3_1 := Int32.lt_iff_toInt_lt.mp hc3_1; have a_hc16_2 := mt Int32.lt_iff_toInt_lt.mpr hc16_2; have a_hc23_3 := Int32.lt_iff_toInt_lt.mp hc23_3; have l_0 : (65 : Int32).toInt = 65 := rfl; have l_1 : (192 : Int32).toInt = 192 := rfl; have l_2 : (222 : Int32).toInt = 222 := rfl; omega)]; rfl, N0, e0⟩ (by decide) (by decide)
      · refine own_of (fun _ hh_ => XS.icmpNo X0.here hx rfl (hb hby dU_23) rfl (flt hc23_3).2.2.1 hh_) ?_
        show own_Run p e below s _ _ _ (s₁.setTop (mkF m 26 #[.val (.int c1)] []))
        refine own_of (fun _ hh_ => XS.iloadN X0.here hx rfl (hb hby dU_26) rfl hh_) ?_
        show own_Run p e below s _ _ _ (s₁.setTop (mkF m 27 #[.val (.int c1)] [(.int c1)]))
        refine own_of (fun _ hh_ => XS.sipush X0.here hx rfl (hb hby dU_27) hh_) ?_
        show own_Run p e below s _ _ _ (s₁.setTop (mkF m 30 #[.val (.int c1)] [(.int (215 : Int32)), (.int c1)]))
        by_cases hc30_4 : c1 = (215 : Int32)
        · refine own_of (fun _ hh_ => XS.icmpYes X0.here hx rfl (pc0 := 30) (pc' := 37) rfl (hb hby dU_30) rfl (teq hc30_4).1 (by decide) (by decide) hh_) ?_
          show own_Run p e below s _ _ _ (s₁.setTop (mkF m 37 #[.val (.int c1)] []))
          refine own_of (fun _ hh_ => XS.iconst X0.here hx rfl (hb hby dU_37) hh_) ?_
          show own_Run p e below s _ _ _ (s₁.setTop (mkF m 38 #[.val (.int c1)] [(.int (0 : Int32))]))
          exact own_retN X0 hx (t := .boolean) hret hlk (by simp) (hb hby dU_38) ⟨by rw [if_neg (show ¬ (own_U c1) from by have a_hc3_1 := Int32.lt_iff_toInt_lt.mp hc3_1; have a_hc16_2 := mt Int32.lt_iff_toInt_lt.mpr hc16_2; have a_hc23_3 := mt Int32.lt_iff_toInt_lt.mpr hc23_3; have a_hc30_4 := Int32.toInt_inj.mpr hc30_4; have l_0 : (65 : Int32).toInt = 65 := rfl; have l_1 : (192 : Int32).toInt = 192 := rfl; have l_2 : (222 : Int32).toInt = 222 := rfl; have l_3 : (215 : Int32).toInt = 215 := rfl; omega)]; rfl, N0, e0⟩ (by decide) (by decide)
        · refine own_of (fun _ hh_ => XS.icmpNo X0.here hx rfl (hb hby dU_30) rfl (feq hc30_4).1 hh_) ?_
          show own_Run p e below s _ _ _ (s₁.setTop (mkF m 33 #[.val (.int c1)] []))
          refine own_of (fun _ hh_ => XS.iconst X0.here hx rfl (hb hby dU_33) hh_) ?_
          show own_Run p e below s _ _ _ (s₁.setTop (mkF m 34 #[.val (.int c1)] [(.int (1 : Int32))]))
          refine own_of (fun _ hh_ => XS.goto X0.here hx rfl (pc0 := 34) (pc' := 38) rfl (hb hby dU_34) (by decide) (by decide) hh_) ?_
          show own_Run p e below s _ _ _ (s₁.setTop (mkF m 38 #[.val (.int c1)] [(.int (1 : Int32))]))
          exact own_retN X0 hx (t := .boolean) hret hlk (by simp) (hb hby dU_38) ⟨by rw [if_pos (show own_U c1 from by have a_hc3_1 := Int32.lt_iff_toInt_lt.mp hc3_1; have a_hc16_2 := mt Int32.lt_iff_toInt_lt.mpr hc16_2; have a_hc23_3 := mt Int32.lt_iff_toInt_lt.mpr hc23_3; have a_hc30_4 := mt Int32.toInt_inj.mp hc30_4; have l_0 : (65 : Int32).toInt = 65 := rfl; have l_1 : (192 : Int32).toInt = 192 := rfl; have l_2 : (222 : Int32).toInt = 222 := rfl; have l_3 : (215 : Int32).toInt = 215 := rfl; omega)]; rfl, N0, e0⟩ (by decide) (by decide)
  · refine own_of (fun _ hh_ => XS.icmpNo X0.here hx rfl (hb hby dU_3) rfl (flt hc3_1).1 hh_) ?_
    show own_Run p e below s _ _ _ (s₁.setTop (mkF m 6 #[.val (.int c1)] []))
    refine own_of (fun _ hh_ => XS.iloadN X0.here hx rfl (hb hby dU_6) rfl hh_) ?_
    show own_Run p e below s _ _ _ (s₁.setTop (mkF m 7 #[.val (.int c1)] [(.int c1)]))
    refine own_of (fun _ hh_ => XS.bipush X0.here hx rfl (hb hby dU_7) hh_) ?_
    show own_Run p e below s _ _ _ (s₁.setTop (mkF m 9 #[.val (.int c1)] [(.int (90 : Int32)), (.int c1)]))
    by_cases hc9_5 : (90 : Int32) < c1
    · refine own_of (fun _ hh_ => XS.icmpNo X0.here hx rfl (hb hby dU_9) rfl (tlt hc9_5).2.2.2 hh_) ?_
      show own_Run p e below s _ _ _ (s₁.setTop (mkF m 12 #[.val (.int c1)] []))
      refine own_of (fun _ hh_ => XS.iloadN X0.here hx rfl (hb hby dU_12) rfl hh_) ?_
      show own_Run p e below s _ _ _ (s₁.setTop (mkF m 13 #[.val (.int c1)] [(.int c1)]))
      refine own_of (fun _ hh_ => XS.sipush X0.here hx rfl (hb hby dU_13) hh_) ?_
      show own_Run p e below s _ _ _ (s₁.setTop (mkF m 16 #[.val (.int c1)] [(.int (192 : Int32)), (.int c1)]))
      by_cases hc16_6 : c1 < (192 : Int32)
      · refine own_of (fun _ hh_ => XS.icmpYes X0.here hx rfl (pc0 := 16) (pc' := 37) rfl (hb hby dU_16) rfl (tlt hc16_6).1 (by decide) (by decide) hh_) ?_
        show own_Run p e below s _ _ _ (s₁.setTop (mkF m 37 #[.val (.int c1)] []))
        refine own_of (fun _ hh_ => XS.iconst X0.here hx rfl (hb hby dU_37) hh_) ?_
        show own_Run p e below s _ _ _ (s₁.setTop (mkF m 38 #[.val (.int c1)] [(.int (0 : Int32))]))
        exact own_retN X0 hx (t := .boolean) hret hlk (by simp) (hb hby dU_38) ⟨by rw [if_neg (show ¬ (own_U c1) from by have a_hc3_1 := mt Int32.lt_iff_toInt_lt.mpr hc3_1; have a_hc9_5 := Int32.lt_iff_toInt_lt.mp hc9_5; have a_hc16_6 := Int32.lt_iff_toInt_lt.mp hc16_6; have l_0 : (65 : Int32).toInt = 65 := rfl; have l_1 : (90 : Int32).toInt = 90 := rfl; have l_2 : (192 : Int32).toInt = 192 := rfl; omega)]; rfl, N0, e0⟩ (by decide) (by decide)
      · refine own_of (fun _ hh_ => XS.icmpNo X0.here hx rfl (hb hby dU_16) rfl (flt hc16_6).1 hh_) ?_
        show own_Run p e below s _ _ _ (s₁.setTop (mkF m 19 #[.val (.int c1)] []))
        refine own_of (fun _ hh_ => XS.iloadN X0.here hx rfl (hb hby dU_19) rfl hh_) ?_
        show own_Run p e below s _ _ _ (s₁.setTop (mkF m 20 #[.val (.int c1)] [(.int c1)]))
        refine own_of (fun _ hh_ => XS.sipush X0.here hx rfl (hb hby dU_20) hh_) ?_
        show own_Run p e below s _ _ _ (s₁.setTop (mkF m 23 #[.val (.int c1)] [(.int (222 : Int32)), (.int c1)]))
        by_cases hc23_7 : (222 : Int32) < c1
        · refine own_of (fun _ hh_ => XS.icmpYes X0.here hx rfl (pc0 := 23) (pc' := 37) rfl (hb hby dU_23) rfl (tlt hc23_7).2.2.1 (by decide) (by decide) hh_) ?_
          show own_Run p e below s _ _ _ (s₁.setTop (mkF m 37 #[.val (.int c1)] []))
          refine own_of (fun _ hh_ => XS.iconst X0.here hx rfl (hb hby dU_37) hh_) ?_
          show own_Run p e below s _ _ _ (s₁.setTop (mkF m 38 #[.val (.int c1)] [(.int (0 : Int32))]))
          exact own_retN X0 hx (t := .boolean) hret hlk (by simp) (hb hby dU_38) ⟨by rw [if_neg (show ¬ (own_U c1) from by have a_hc3_1 := mt Int32.lt_iff_toInt_lt.mpr hc3_1; have a_hc9_5 := Int32.lt_iff_toInt_lt.mp hc9_5; have a_hc16_6 := mt Int32.lt_iff_toInt_lt.mpr hc16_6; have a_hc23_7 := Int32.lt_iff_toInt_lt.mp hc23_7; have l_0 : (65 : Int32).toInt = 65 := rfl; have l_1 : (90 : Int32).toInt = 90 := rfl; have l_2 : (192 : Int32).toInt = 192 := rfl; have l_3 : (222 : Int32).toInt = 222 := rfl; omega)]; rfl, N0, e0⟩ (by decide) (by decide)
        · refine own_of (fun _ hh_ => XS.icmpNo X0.here hx rfl (hb hby dU_23) rfl (flt hc23_7).2.2.1 hh_) ?_
          show own_Run p e below s _ _ _ (s₁.setTop (mkF m 26 #[.val (.int c1)] []))
          refine own_of (fun _ hh_ => XS.iloadN X0.here hx rfl (hb hby dU_26) rfl hh_) ?_
          show own_Run p e below s _ _ _ (s₁.setTop (mkF m 27 #[.val (.int c1)] [(.int c1)]))
          refine own_of (fun _ hh_ => XS.sipush X0.here hx rfl (hb hby dU_27) hh_) ?_
          show own_Run p e below s _ _ _ (s₁.setTop (mkF m 30 #[.val (.int c1)] [(.int (215 : Int32)), (.int c1)]))
          by_cases hc30_8 : c1 = (215 : Int32)
          · refine own_of (fun _ hh_ => XS.icmpYes X0.here hx rfl (pc0 := 30) (pc' := 37) rfl (hb hby dU_30) rfl (teq hc30_8).1 (by decide) (by decide) hh_) ?_
            show own_Run p e below s _ _ _ (s₁.setTop (mkF m 37 #[.val (.int c1)] []))
            refine own_of (fun _ hh_ => XS.iconst X0.here hx rfl (hb hby dU_37) hh_) ?_
            show own_Run p e below s _ _ _ (s₁.setTop (mkF m 38 #[.val (.int c1)] [(.int (0 : Int32))]))
            exact own_retN X0 hx (t := .boolean) hret hlk (by simp) (hb hby dU_38) ⟨by rw [if_neg (show ¬ (own_U c1) from by have a_hc3_1 := mt Int32.lt_iff_toInt_lt.mpr hc3_1; have a_hc9_5 := Int32.lt_iff_toInt_lt.mp hc9_5; have a_hc16_6 := mt Int32.lt_iff_toInt_lt.mpr hc16_6; have a_hc23_7 := mt Int32.lt_iff_toInt_lt.mpr hc23_7; have a_hc30_8 := Int32.toInt_inj.mpr hc30_8; have l_0 : (65 : Int32).toInt = 65 := rfl; have l_1 : (90 : Int32).toInt = 90 := rfl; have l_2 : (192 : Int32).toInt = 192 := rfl; have l_3 : (222 : Int32).toInt = 222 := rfl; have l_4 : (215 : Int32).toInt = 215 := rfl; omega)]; rfl, N0, e0⟩ (by decide) (by decide)
          · refine own_of (fun _ hh_ => XS.icmpNo X0.here hx rfl (hb hby dU_30) rfl (feq hc30_8).1 hh_) ?_
            show own_Run p e below s _ _ _ (s₁.setTop (mkF m 33 #[.val (.int c1)] []))
            refine own_of (fun _ hh_ => XS.iconst X0.here hx rfl (hb hby dU_33) hh_) ?_
            show own_Run p e below s _ _ _ (s₁.setTop (mkF m 34 #[.val (.int c1)] [(.int (1 : Int32))]))
            refine own_of (fun _ hh_ => XS.goto X0.here hx rfl (pc0 := 34) (pc' := 38) rfl (hb hby dU_34) (by decide) (by decide) hh_) ?_
            show own_Run p e below s _ _ _ (s₁.setTop (mkF m 38 #[.val (.int c1)] [(.int (1 : Int32))]))
            exact own_retN X0 hx (t := .boolean) hret hlk (by simp) (hb hby dU_38) ⟨by rw [if_pos (show own_U c1 from by have a_hc3_1 := mt Int32.lt_iff_toInt_lt.mpr hc3_1; have a_hc9_5 := Int32.lt_iff_toInt_lt.mp hc9_5; have a_hc16_6 := mt Int32.lt_iff_toInt_lt.mpr hc16_6; have a_hc23_7 := mt Int32.lt_iff_toInt_lt.mpr hc23_7; have a_hc30_8 := mt Int32.toInt_inj.mp hc30_8; have l_0 : (65 : Int32).toInt = 65 := rfl; have l_1 : (90 : Int32).toInt = 90 := rfl; have l_2 : (192 : Int32).toInt = 192 := rfl; have l_3 : (222 : Int32).toInt = 222 := rfl; have l_4 : (215 : Int32).toInt = 215 := rfl; omega)]; rfl, N0, e0⟩ (by decide) (by decide)
    · refine own_of (fun _ hh_ => XS.icmpYes X0.here hx rfl (pc0 := 9) (pc' := 33) rfl (hb hby dU_9) rfl (flt hc9_5).2.2.2 (by decide) (by decide) hh_) ?_
      show own_Run p e below s _ _ _ (s₁.setTop (mkF m 33 #[.val (.int c1)] []))
      refine own_of (fun _ hh_ => XS.iconst X0.here hx rfl (hb hby dU_33) hh_) ?_
      show own_Run p e below s _ _ _ (s₁.setTop (mkF m 34 #[.val (.int c1)] [(.int (1 : Int32))]))
      refine own_of (fun _ hh_ => XS.goto X0.here hx rfl (pc0 := 34) (pc' := 38) rfl (hb hby dU_34) (by decide) (by decide) hh_) ?_
      show own_Run p e below s _ _ _ (s₁.setTop (mkF m 38 #[.val (.int c1)] [(.int (1 : Int32))]))
      exact own_retN X0 hx (t := .boolean) hret hlk (by simp) (hb hby dU_38) ⟨by rw [if_pos (show own_U c1 from by have a_hc3_1 := mt Int32.lt_iff_toInt_lt.mpr hc3_1; have a_hc9_5 := mt Int32.lt_iff_toInt_lt.mpr hc9_5; have l_0 : (65 : Int32).toInt = 65 := rfl; have l_1 : (90 : Int32).toInt = 90 := rfl; omega)]; rfl, N0, e0⟩ (by decide) (by decide)
theorem own_pd0 : parseMethodDescriptor "(I)Z" = some ⟨[.int], some .boolean⟩ := by decide +kernel
theorem dC_0 : decode prog_112_method_4_code 0 = .ok (.iload_n 0, 1) := by decide +kernel
theorem dC_1 : decode prog_112_method_4_code 1 = .ok (.invokestatic 40, 3) := by decide +kernel
theorem dC_4 : decode prog_112_method_4_code 4 = .ok (.ifCond .ne 34, 3) := by decide +kernel
theorem dC_7 : decode prog_112_method_4_code 7 = .ok (.iload_n 0, 1) := by decide +kernel
theorem dC_8 : decode prog_112_method_4_code 8 = .ok (.invokestatic 43, 3) := by decide +kernel
theorem dC_11 : decode prog_112_method_4_code 11 = .ok (.ifCond .ne 27, 3) := by decide +kernel
theorem dC_14 : decode prog_112_method_4_code 14 = .ok (.iload_n 0, 1) := by decide +kernel
theorem dC_15 : decode prog_112_method_4_code 15 = .ok (.bipush 48, 2) := by decide +kernel
theorem dC_17 : decode prog_112_method_4_code 17 = .ok (.if_icmp .lt 9, 3) := by decide +kernel
theorem dC_20 : decode prog_112_method_4_code 20 = .ok (.iload_n 0, 1) := by decide +kernel
theorem dC_21 : decode prog_112_method_4_code 21 = .ok (.bipush 57, 2) := by decide +kernel
theorem dC_23 : decode prog_112_method_4_code 23 = .ok (.if_icmp .le 15, 3) := by decide +kernel
theorem dC_26 : decode prog_112_method_4_code 26 = .ok (.iload_n 0, 1) := by decide +kernel
theorem dC_27 : decode prog_112_method_4_code 27 = .ok (.bipush 95, 2) := by decide +kernel
theorem dC_29 : decode prog_112_method_4_code 29 = .ok (.if_icmp .eq 9, 3) := by decide +kernel
theorem dC_32 : decode prog_112_method_4_code 32 = .ok (.iload_n 0, 1) := by decide +kernel
theorem dC_33 : decode prog_112_method_4_code 33 = .ok (.bipush 64, 2) := by decide +kernel
theorem dC_35 : decode prog_112_method_4_code 35 = .ok (.if_icmp .ne 7, 3) := by decide +kernel
theorem dC_38 : decode prog_112_method_4_code 38 = .ok (.iconst 1, 1) := by decide +kernel
theorem dC_39 : decode prog_112_method_4_code 39 = .ok (.goto 4, 3) := by decide +kernel
theorem dC_42 : decode prog_112_method_4_code 42 = .ok (.iconst 0, 1) := by decide +kernel
theorem dC_43 : decode prog_112_method_4_code 43 = .ok (.ireturn, 1) := by decide +kernel
theorem efC (m : MethodId) (c1 : Int32) : entryFrame m #[(.int c1)] 1 = mkF m 0 #[.val (.int c1)] [] := by first | (simp [entryFrame, mkF, argsToLocals, Value.category]; done) | rfl
def QC (Z : State) (c1 : Int32) (h0 : Heap) (n0 : Nat) (v : Option Value) (h : Heap) (L : List Loc) : Prop := v = some (.int (if own_B c1 then 1 else 0)) ∧ Fr n0 L ∧ h = h0
set_option maxRecDepth 65536 in
set_option maxHeartbeats 40000000 in
theorem rmC (l : Launch) (Z : State) (a0 : Array Value) (hw : ∀ d ∈ tables_1, d.before a0 Z = true) (ws : List Jvm.Cond) (c1 : Int32) (h0 : Heap) (n0 : Nat) (Z0 : n0 ≤ h0.size)  :
    MetFree l (⟨"org/lanner/term/TermSyntax", "continuesBare", "(I)Z"⟩ : MethodName) (head1 (Jvm.Cond.code (⟨"org/lanner/term/TermSyntax", "continuesBare", "(I)Z"⟩ : MethodName) prog_112_method_4_code 1 (some .boolean) :: ws) ({ frames := 1, cells := 0, slots := 0, locals := 12 } : Room)) (fun a U => a = #[(.int c1)] ∧ Z.Warmed39 U.vm ∧ U.heap = h0) (fun _ _ _ _ _ => True) (fun _ U o U' => ∃ v L, o = .returned v ∧ QC Z c1 h0 n0 v U'.heap L ∧ FrameEnd U o U' L ({ frames := 1, cells := 0, slots := 0, locals := 12 } : Room).cells ({ frames := 1, cells := 0, slots := 0, locals := 12 } : Room).slots) := by
  refine MetFree.of_bodySF (plainFor_of_name own_pn0) hisR ?_
  intro p e s m args below meth c s₁ Bd hml0 hP hK
  obtain ⟨rfl, hZ, hh⟩ := hP
  have hx := Bd.exec
  have hby := Bd.bytes
  have hml : c.maxLocals = 1 := hml0
  have hown : s.vm.findClass "org/lanner/term/TermSyntax" = some m.cls := findClass_of_methodNamed Bd.named
  have hnm := (name_of_methodNamed Bd.named Bd.method).1
  have hlk := Bd.notSynchronized
  have hret := Bd.returns
  have X0 : Stand p l e ({ frames := 1, cells := 0, slots := 0, locals := 12 } : Room) s m #[(.int c1)] below meth c s₁ [] 0 0 := Stand.of_body Bd
  have e0 : s₁.heap = h0 := by rw [← hh, Bd.state]; rfl
  have N0 := Fr.nil n0
  show own_Run p e below s 0 0 (QC Z c1 h0 n0) (s₁.setTop (entryFrame m #[(.int c1)] 1))
  refine own_cast (efC m c1) ?_
  show own_Run p e below s _ _ _ (s₁.setTop (mkF m 0 #[.val (.int c1)] []))
  refine own_of (fun _ hh_ => XS.iloadN X0.here hx rfl (hb hby dC_0) rfl hh_) ?_
  show own_Run p e below s _ _ _ (s₁.setTop (mkF m 1 #[.val (.int c1)] [(.int c1)]))
  obtain ⟨_, _, ⟨T1, L1, k1, n1⟩, -, X1, ⟨Lc1, hQ1, l1, y1, z1⟩, st1⟩ := Jvm.LawKit.callS X0 hx (y := (⟨"org/lanner/term/TermSyntax", "isLowerCase", "(I)Z"⟩ : MethodName)) hown (mvT hZ (hw _ (List.mem_of_getElem? (i := 4) rfl))) (mvT hZ (hw _ (List.mem_of_getElem? (i := 5) rfl))) (mvT hZ (hw _ (List.mem_of_getElem? (i := 2) rfl))) (mvT hZ (hw _ (List.mem_of_getElem? (i := 6) rfl))) (by decide) (backOf (W := 0) (rmL l Z a0 hw [] c1 h0 n0 Z0) hZ (hw _ (List.mem_of_getElem? (i := 6) rfl)) (hw _ (List.mem_of_getElem? (i := 2) rfl)) (by decide) (by decide)) (g := (mkF m 1 #[.val (.int c1)] [(.int c1)])) rfl (by rw [hml]; rfl) (argsL := [(.int c1)]) (rest := []) (lenOf own_pd0 rfl) rfl (by show 2 * 0 + _ ≤ _; exact Nat.le_of_eq rfl) (hb hby dC_1) (fun _ _ => ⟨rfl, e0, (by decide : 0 + 0 ≤ _), (by decide : 0 + 0 ≤ _)⟩)
  dsimp only [Pt.U, Pt.locs, Pt.cells, Pt.slots] at X1 l1 y1 z1 st1 hQ1
  subst l1 y1 z1
  obtain ⟨rfl, N1q, e1⟩ := hQ1
  have N1 := Fr.app N0 N1q
  refine own_of st1 ?_
  show own_Run p e below s _ _ _ (T1.setTop (mkF m 4 #[.val (.int c1)] [(.int (if own_Lo c1 then 1 else 0 : Int32))]))
  by_cases hc4_2 : own_Lo c1
  · refine own_of (fun _ hh_ => XS.ifYes X1.here hx rfl (pc0 := 4) (pc' := 38) rfl (hb hby dC_4) rfl ((if0 _ _).trans (feq (show ¬ ((if own_Lo c1 then 1 else 0 : Int32) = 0) from by rw [if_pos hc4_2]; decide)).2) (by decide) (by decide) hh_) ?_
    show own_Run p e below s _ _ _ (T1.setTop (mkF m 38 #[.val (.int c1)] []))
    refine own_of (fun _ hh_ => XS.iconst X1.here hx rfl (hb hby dC_38) hh_) ?_
    show own_Run p e below s _ _ _ (T1.setTop (mkF m 39 #[.val (.int c1)] [(.int (1 : Int32))]))
    refine own_of (fun _ hh_ => XS.goto X1.here hx rfl (pc0 := 39) (pc' := 43) rfl (hb hby dC_39) (by decide) (by decide) hh_) ?_
    show own_Run p e below s _ _ _ (T1.setTop (mkF m 43 #[.val (.int c1)] [(.int (1 : Int32))]))
    exact own_retN X1 hx (t := .boolean) hret hlk (by simp) (hb hby dC_43) ⟨by rw [if_pos (show own_B c1 from by omega)]; rfl, N1, e1⟩ (by decide) (by decide)
  · refine own_of (fun _ hh_ => XS.ifNo X1.here hx rfl (hb hby dC_4) rfl ((if0 _ _).trans (teq (show (if own_Lo c1 then 1 else 0 : Int32) = 0 from if_neg hc4_2)).2) hh_) ?_
    show own_Run p e below s _ _ _ (T1.setTop (mkF m 7 #[.val (.int c1)] []))
    refine own_of (fun _ hh_ => XS.iloadN X1.here hx rfl (hb hby dC_7) rfl hh_) ?_
    show own_Run p e below s _ _ _ (T1.setTop (mkF m 8 #[.val (.int c1)] [(.int c1)]))
    obtain ⟨_, _, ⟨T3, L3, k3, n3⟩, -, X3, ⟨Lc3, hQ3, l3, y3, z3⟩, st3⟩ := Jvm.LawKit.callS X1 hx (y := (⟨"org/lanner/term/TermSyntax", "isUpperCase", "(I)Z"⟩ : MethodName)) hown (mvT hZ (hw _ (List.mem_of_getElem? (i := 7) rfl))) (mvT hZ (hw _ (List.mem_of_getElem? (i := 8) rfl))) (mvT hZ (hw _ (List.mem_of_getElem? (i := 2) rfl))) (mvT hZ (hw _ (List.mem_of_getElem? (i := 9) rfl))) (by decide) (backOf (W := 0) (rmU l Z a0 hw [] c1 h0 n0 Z0) hZ (hw _ (List.mem_of_getElem? (i := 9) rfl)) (hw _ (List.mem_of_getElem? (i := 2) rfl)) (by decide) (by decide)) (g := (mkF m 8 #[.val (.int c1)] [(.int c1)])) rfl (by rw [hml]; rfl) (argsL := [(.int c1)]) (rest := []) (lenOf own_pd0 rfl) rfl (by show 2 * 0 + _ ≤ _; exact Nat.le_of_eq rfl) (hb hby dC_8) (fun _ _ => ⟨rfl, e1, (by decide : 0 + 0 ≤ _), (by decide : 0 + 0 ≤ _)⟩)
    dsimp only [Pt.U, Pt.locs, Pt.cells, Pt.slots] at X3 l3 y3 z3 st3 hQ3
    subst l3 y3 z3
    obtain ⟨rfl, N3q, e3⟩ := hQ3
    have N3 := Fr.app N1 N3q
    refine own_of st3 ?_
    show own_Run p e below s _ _ _ (T3.setTop (mkF m 11 #[.val (.int c1)] [(.int (if own_U c1 then 1 else 0 : Int32))]))
    by_cases hc11_4 : own_U c1
    · refine own_of (fun _ hh_ => XS.ifYes X3.here hx rfl (pc0 := 11) (pc' := 38) rfl (hb hby dC_11) rfl ((if0 _ _).trans (feq (show ¬ ((if own_U c1 then 1 else 0 : Int32) = 0) from by rw [if_pos hc11_4]; decide)).2) (by decide) (by decide) hh_) ?_
      show own_Run p e below s _ _ _ (T3.setTop (mkF m 38 #[.val (.int c1)] []))
      refine own_of (fun _ hh_ => XS.iconst X3.here hx rfl (hb hby dC_38) hh_) ?_
      show own_Run p e below s _ _ _ (T3.setTop (mkF m 39 #[.val (.int c1)] [(.int (1 : Int32))]))
      refine own_of (fun _ hh_ => XS.goto X3.here hx rfl (pc0 := 39) (pc' := 43) rfl (hb hby dC_39) (by decide) (by decide) hh_) ?_
      show own_Run p e below s _ _ _ (T3.setTop (mkF m 43 #[.val (.int c1)] [(.int (1 : Int32))]))
      exact own_retN X3 hx (t := .boolean) hret hlk (by simp) (hb hby dC_43) ⟨by rw [if_pos (show own_B c1 from by omega)]; rfl, N3, e3⟩ (by decide) (by decide)
    · refine own_of (fun _ hh_ => XS.ifNo X3.here hx rfl (hb hby dC_11) rfl ((if0 _ _).trans (teq (show (if own_U c1 then 1 else 0 : Int32) = 0 from if_neg hc11_4)).2) hh_) ?_
      show own_Run p e below s _ _ _ (T3.setTop (mkF m 14 #[.val (.int c1)] []))
      refine own_of (fun _ hh_ => XS.iloadN X3.here hx rfl (hb hby dC_14) rfl hh_) ?_
      show own_Run p e below s _ _ _ (T3.setTop (mkF m 15 #[.val (.int c1)] [(.int c1)]))
      refine own_of (fun _ hh_ => XS.bipush X3.here hx rfl (hb hby dC_15) hh_) ?_
      show own_Run p e below s _ _ _ (T3.setTop (mkF m 17 #[.val (.int c1)] [(.int (48 : Int32)), (.int c1)]))
      by_cases hc17_5 : c1 < (48 : Int32)
      · refine own_of (fun _ hh_ => XS.icmpYes X3.here hx rfl (pc0 := 17) (pc' := 26) rfl (hb hby dC_17) rfl (tlt hc17_5).1 (by decide) (by decide) hh_) ?_
        show own_Run p e below s _ _ _ (T3.setTop (mkF m 26 #[.val (.int c1)] []))
        refine own_of (fun _ hh_ => XS.iloadN X3.here hx rfl (hb hby dC_26) rfl hh_) ?_
        show own_Run p e below s _ _ _ (T3.setTop (mkF m 27 #[.val (.int c1)] [(.int c1)]))
        refine own_of (fun _ hh_ => XS.bipush X3.here hx rfl (hb hby dC_27) hh_) ?_
        show own_Run p e below s _ _ _ (T3.setTop (mkF m 29 #[.val (.int c1)] [(.int (95 : Int32)), (.int c1)]))
        by_cases hc29_6 : c1 = (95 : Int32)
        · refine own_of (fun _ hh_ => XS.icmpYes X3.here hx rfl (pc0 := 29) (pc' := 38) rfl (hb hby dC_29) rfl (teq hc29_6).1 (by decide) (by decide) hh_) ?_
          show own_Run p e below s _ _ _ (T3.setTop (mkF m 38 #[.val (.int c1)] []))
          refine own_of (fun _ hh_ => XS.iconst X3.here hx rfl (hb hby dC_38) hh_) ?_
          show own_Run p e below s _ _ _ (T3.setTop (mkF m 39 #[.val (.int c1)] [(.int (1 : Int32))]))
          refine own_of (fun _ hh_ => XS.goto X3.here hx rfl (pc0 := 39) (pc' := 43) rfl (hb hby dC_39) (by decide) (by decide) hh_) ?_
          show own_Run p e below s _ _ _ (T3.setTop (mkF m 43 #[.val (.int c1)] [(.int (1 : Int32))]))
          exact own_retN X3 hx (t := .boolean) hret hlk (by simp) (hb hby dC_43) ⟨by rw [if_pos (show own_B c1 from by have a_hc17_5 := Int32.lt_iff_toInt_lt.mp hc17_5; have a_hc29_6 := Int32.toInt_inj.mpr hc29_6; have l_0 : (48 : Int32).toInt = 48 := rfl; have l_1 : (95 : Int32).toInt = 95 := rfl; omega)]; rfl, N3, e3⟩ (by decide) (by decide)
        · refine own_of (fun _ hh_ => XS.icmpNo X3.here hx rfl (hb hby dC_29) rfl (feq hc29_6).1 hh_) ?_
          show own_Run p e below s _ _ _ (T3.setTop (mkF m 32 #[.val (.int c1)] []))
          refine own_of (fun _ hh_ => XS.iloadN X3.here hx rfl (hb hby dC_32) rfl hh_) ?_
          show own_Run p e below s _ _ _ (T3.setTop (mkF m 33 #[.val (.int c1)] [(.int c1)]))
          refine own_of (fun _ hh_ => XS.bipush X3.here hx rfl (hb hby dC_33) hh_) ?_
          show own_Run p e below s _ _ _ (T3.setTop (mkF m 35 #[.val (.int c1)] [(.int (64 : Int32)), (.int c1)]))
          by_cases hc35_7 : c1 = (64 : Int32)
          · refine own_of (fun _ hh_ => XS.icmpNo X3.here hx rfl (hb hby dC_35) rfl (teq hc35_7).2 hh_) ?_
            show own_Run p e below s _ _ _ (T3.setTop (mkF m 38 #[.val (.int c1)] []))
            refine own_of (fun _ hh_ => XS.iconst X3.here hx rfl (hb hby dC_38) hh_) ?_
            show own_Run p e below s _ _ _ (T3.setTop (mkF m 39 #[.val (.int c1)] [(.int (1 : Int32))]))
            refine own_of (fun _ hh_ => XS.goto X3.here hx rfl (pc0 := 39) (pc' := 43) rfl (hb hby dC_39) (by decide) (by decide) hh_) ?_
            show own_Run p e below s _ _ _ (T3.setTop (mkF m 43 #[.val (.int c1)] [(.int (1 : Int32))]))
            exact own_retN X3 hx (t := .boolean) hret hlk (by simp) (hb hby dC_43) ⟨by rw [if_pos (show own_B c1 from by have a_hc17_5 := Int32.lt_iff_toInt_lt.mp hc17_5; have a_hc29_6 := mt Int32.toInt_inj.mp hc29_6; have a_hc35_7 := Int32.toInt_inj.mpr hc35_7; have l_0 : (48 : Int32).toInt = 48 := rfl; have l_1 : (95 : Int32).toInt = 95 := rfl; have l_2 : (64 : Int32).toInt = 64 := rfl; omega)]; rfl, N3, e3⟩ (by decide) (by decide)
          · refine own_of (fun _ hh_ => XS.icmpYes X3.here hx rfl (pc0 := 35) (pc' := 42) rfl (hb hby dC_35) rfl (feq hc35_7).2 (by decide) (by decide) hh_) ?_
            show own_Run p e below s _ _ _ (T3.setTop (mkF m 42 #[.val (.int c1)] []))
            refine own_of (fun _ hh_ => XS.iconst X3.here hx rfl (hb hby dC_42) hh_) ?_
            show own_Run p e below s _ _ _ (T3.setTop (mkF m 43 #[.val (.int c1)] [(.int (0 : Int32))]))
            exact own_retN X3 hx (t := .boolean) hret hlk (by simp) (hb hby dC_43) ⟨by rw [if_neg (show ¬ (own_B c1) from by have a_hc17_5 := Int32.lt_iff_toInt_lt.mp hc17_5; have a_hc29_6 := mt Int32.toInt_inj.mp hc29_6; have a_hc35_7 := mt Int32.toInt_inj.mp hc35_7; have l_0 : (48 : Int32).toInt = 48 := rfl; have l_1 : (95 : Int32).toInt = 95 := rfl; have l_2 : (64 : Int32).toInt = 64 := rfl; omega)]; rfl, N3, e3⟩ (by decide) (by decide)
      · refine own_of (fun _ hh_ => XS.icmpNo X3.here hx rfl (hb hby dC_17) rfl (flt hc17_5).1 hh_) ?_
        show own_Run p e below s _ _ _ (T3.setTop (mkF m 20 #[.val (.int c1)] []))
        refine own_of (fun _ hh_ => XS.iloadN X3.here hx rfl (hb hby dC_20) rfl hh_) ?_
        show own_Run p e below s _ _ _ (T3.setTop (mkF m 21 #[.val (.int c1)] [(.int c1)]))
        refine own_of (fun _ hh_ => XS.bipush X3.here hx rfl (hb hby dC_21) hh_) ?_
        show own_Run p e below s _ _ _ (T3.setTop (mkF m 23 #[.val (.int c1)] [(.int (57 : Int32)), (.int c1)]))
        by_cases hc23_8 : (57 : Int32) < c1
        · refine own_of (fun _ hh_ => XS.icmpNo X3.here hx rfl (hb hby dC_23) rfl (tlt hc23_8).2.2.2 hh_) ?_
          show own_Run p e below s _ _ _ (T3.setTop (mkF m 26 #[.val (.int c1)] []))
          refine own_of (fun _ hh_ => XS.iloadN X3.here hx rfl (hb hby dC_26) rfl hh_) ?_
          show own_Run p e below s _ _ _ (T3.setTop (mkF m 27 #[.val (.int c1)] [(.int c1)]))
          refine own_of (fun _ hh_ => XS.bipush X3.here hx rfl (hb hby dC_27) hh_) ?_
          show own_Run p e below s _ _ _ (T3.setTop (mkF m 29 #[.val (.int c1)] [(.int (95 : Int32)), (.int c1)]))
          by_cases hc29_9 : c1 = (95 : Int32)
          · refine own_of (fun _ hh_ => XS.icmpYes X3.here hx rfl (pc0 := 29) (pc' := 38) rfl (hb hby dC_29) rfl (teq hc29_9).1 (by decide) (by decide) hh_) ?_
            show own_Run p e below s _ _ _ (T3.setTop (mkF m 38 #[.val (.int c1)] []))
            refine own_of (fun _ hh_ => XS.iconst X3.here hx rfl (hb hby dC_38) hh_) ?_
            show own_Run p e below s _ _ _ (T3.setTop (mkF m 39 #[.val (.int c1)] [(.int (1 : Int32))]))
            refine own_of (fun _ hh_ => XS.goto X3.here hx rfl (pc0 := 39) (pc' := 43) rfl (hb hby dC_39) (by decide) (by decide) hh_) ?_
            show own_Run p e below s _ _ _ (T3.setTop (mkF m 43 #[.val (.int c1)] [(.int (1 : Int32))]))
            exact own_retN X3 hx (t := .boolean) hret hlk (by simp) (hb hby dC_43) ⟨by rw [if_pos (show own_B c1 from by have a_hc17_5 := mt Int32.lt_iff_toInt_lt.mpr hc17_5; have a_hc23_8 := Int32.lt_iff_toInt_lt.mp hc23_8; have a_hc29_9 := Int32.toInt_inj.mpr hc29_9; have l_0 : (48 : Int32).toInt = 48 := rfl; have l_1 : (57 : Int32).toInt = 57 := rfl; have l_2 : (95 : Int32).toInt = 95 := rfl; omega)]; rfl, N3, e3⟩ (by decide) (by decide)
          · refine own_of (fun _ hh_ => XS.icmpNo X3.here hx rfl (hb hby dC_29) rfl (feq hc29_9).1 hh_) ?_
            show own_Run p e below s _ _ _ (T3.setTop (mkF m 32 #[.val (.int c1)] []))
            refine own_of (fun _ hh_ => XS.iloadN X3.here hx rfl (hb hby dC_32) rfl hh_) ?_
            show own_Run p e below s _ _ _ (T3.setTop (mkF m 33 #[.val (.int c1)] [(.int c1)]))
            refine own_of (fun _ hh_ => XS.bipush X3.here hx rfl (hb hby dC_33) hh_) ?_
            show own_Run p e below s _ _ _ (T3.setTop (mkF m 35 #[.val (.int c1)] [(.int (64 : Int32)), (.int c1)]))
            by_cases hc35_10 : c1 = (64 : Int32)
            · refine own_of (fun _ hh_ => XS.icmpNo X3.here hx rfl (hb hby dC_35) rfl (teq hc35_10).2 hh_) ?_
              show own_Run p e below s _ _ _ (T3.setTop (mkF m 38 #[.val (.int c1)] []))
              refine own_of (fun _ hh_ => XS.iconst X3.here hx rfl (hb hby dC_38) hh_) ?_
              show own_Run p e below s _ _ _ (T3.setTop (mkF m 39 #[.val (.int c1)] [(.int (1 : Int32))]))
              refine own_of (fun _ hh_ => XS.goto X3.here hx rfl (pc0 := 39) (pc' := 43) rfl (hb hby dC_39) (by decide) (by decide) hh_) ?_
              show own_Run p e below s _ _ _ (T3.setTop (mkF m 43 #[.val (.int c1)] [(.int (1 : Int32))]))
              exact own_retN X3 hx (t := .boolean) hret hlk (by simp) (hb hby dC_43) ⟨by rw [if_pos (show own_B c1 from by have a_hc17_5 := mt Int32.lt_iff_toInt_lt.mpr hc17_5; have a_hc23_8 := Int32.lt_iff_toInt_lt.mp hc23_8; have a_hc29_9 := mt Int32.toInt_inj.mp hc29_9; have a_hc35_10 := Int32.toInt_inj.mpr hc35_10; have l_0 : (48 : Int32).toInt = 48 := rfl; have l_1 : (57 : Int32).toInt = 57 := rfl; have l_2 : (95 : Int32).toInt = 95 := rfl; have l_3 : (64 : Int32).toInt = 64 := rfl; omega)]; rfl, N3, e3⟩ (by decide) (by decide)
            · refine own_of (fun _ hh_ => XS.icmpYes X3.here hx rfl (pc0 := 35) (pc' := 42) rfl (hb hby dC_35) rfl (feq hc35_10).2 (by decide) (by decide) hh_) ?_
              show own_Run p e below s _ _ _ (T3.setTop (mkF m 42 #[.val (.int c1)] []))
              refine own_of (fun _ hh_ => XS.iconst X3.here hx rfl (hb hby dC_42) hh_) ?_
              show own_Run p e below s _ _ _ (T3.setTop (mkF m 43 #[.val (.int c1)] [(.int (0 : Int32))]))
              exact own_retN X3 hx (t := .boolean) hret hlk (by simp) (hb hby dC_43) ⟨by rw [if_neg (show ¬ (own_B c1) from by have a_hc17_5 := mt Int32.lt_iff_toInt_lt.mpr hc17_5; have a_hc23_8 := Int32.lt_iff_toInt_lt.mp hc23_8; have a_hc29_9 := mt Int32.toInt_inj.mp hc29_9; have a_hc35_10 := mt Int32.toInt_inj.mp hc35_10; have l_0 : (48 : Int32).toInt = 48 := rfl; have l_1 : (57 : Int32).toInt = 57 := rfl; have l_2 : (95 : Int32).toInt = 95 := rfl; have l_3 : (64 : Int32).toInt = 64 := rfl; omega)]; rfl, N3, e3⟩ (by decide) (by decide)
        · refine own_of (fun _ hh_ => XS.icmpYes X3.here hx rfl (pc0 := 23) (pc' := 38) rfl (hb hby dC_23) rfl (flt hc23_8).2.2.2 (by decide) (by decide) hh_) ?_
          show own_Run p e below s _ _ _ (T3.setTop (mkF m 38 #[.val (.int c1)] []))
          refine own_of (fun _ hh_ => XS.iconst X3.here hx rfl (hb hby dC_38) hh_) ?_
          show own_Run p e below s _ _ _ (T3.setTop (mkF m 39 #[.val (.int c1)] [(.int (1 : Int32))]))
          refine own_of (fun _ hh_ => XS.goto X3.here hx rfl (pc0 := 39) (pc' := 43) rfl (hb hby dC_39) (by decide) (by decide) hh_) ?_
          show own_Run p e below s _ _ _ (T3.setTop (mkF m 43 #[.val (.int c1)] [(.int (1 : Int32))]))
          exact own_retN X3 hx (t := .boolean) hret hlk (by simp) (hb hby dC_43) ⟨by rw [if_pos (show own_B c1 from by have a_hc17_5 := mt Int32.lt_iff_toInt_lt.mpr hc17_5; have a_hc23_8 := mt Int32.lt_iff_toInt_lt.mpr hc23_8; have l_0 : (48 : Int32).toInt = 48 := rfl; have l_1 : (57 : Int32).toInt = 57 := rfl; omega)]; rfl, N3, e3⟩ (by decide) (by decide)
theorem own_pn1 : plainName "org/lanner/term/TermSyntaxContinuesBarePinLaw" = true := by first | (simp [plainName, overriddenIn]; done) | decide +kernel
theorem dX_0 : decode method_2_code 0 = .ok (.iload_n 0, 1) := by decide +kernel
theorem dX_1 : decode method_2_code 1 = .ok (.bipush 48, 2) := by decide +kernel
theorem dX_3 : decode method_2_code 3 = .ok (.if_icmp .lt 11, 3) := by decide +kernel
theorem dX_6 : decode method_2_code 6 = .ok (.iload_n 0, 1) := by decide +kernel
theorem dX_7 : decode method_2_code 7 = .ok (.bipush 57, 2) := by decide +kernel
theorem dX_9 : decode method_2_code 9 = .ok (.if_icmp .gt 5, 3) := by decide +kernel
theorem dX_12 : decode method_2_code 12 = .ok (.iconst 1, 1) := by decide +kernel
theorem dX_13 : decode method_2_code 13 = .ok (.ireturn, 1) := by decide +kernel
theorem dX_14 : decode method_2_code 14 = .ok (.iload_n 0, 1) := by decide +kernel
theorem dX_15 : decode method_2_code 15 = .ok (.bipush 64, 2) := by decide +kernel
theorem dX_17 : decode method_2_code 17 = .ok (.if_icmp .lt 11, 3) := by decide +kernel
theorem dX_20 : decode method_2_code 20 = .ok (.iload_n 0, 1) := by decide +kernel
theorem dX_21 : decode method_2_code 21 = .ok (.bipush 90, 2) := by decide +kernel
theorem dX_23 : decode method_2_code 23 = .ok (.if_icmp .gt 5, 3) := by decide +kernel
theorem dX_26 : decode method_2_code 26 = .ok (.iconst 1, 1) := by decide +kernel
theorem dX_27 : decode method_2_code 27 = .ok (.ireturn, 1) := by decide +kernel
theorem dX_28 : decode method_2_code 28 = .ok (.iload_n 0, 1) := by decide +kernel
theorem dX_29 : decode method_2_code 29 = .ok (.bipush 95, 2) := by decide +kernel
theorem dX_31 : decode method_2_code 31 = .ok (.if_icmp .ne 5, 3) := by decide +kernel
theorem dX_34 : decode method_2_code 34 = .ok (.iconst 1, 1) := by decide +kernel
theorem dX_35 : decode method_2_code 35 = .ok (.ireturn, 1) := by decide +kernel
theorem dX_36 : decode method_2_code 36 = .ok (.iload_n 0, 1) := by decide +kernel
theorem dX_37 : decode method_2_code 37 = .ok (.bipush 97, 2) := by decide +kernel
theorem dX_39 : decode method_2_code 39 = .ok (.if_icmp .lt 11, 3) := by decide +kernel
theorem dX_42 : decode method_2_code 42 = .ok (.iload_n 0, 1) := by decide +kernel
theorem dX_43 : decode method_2_code 43 = .ok (.bipush 122, 2) := by decide +kernel
theorem dX_45 : decode method_2_code 45 = .ok (.if_icmp .gt 5, 3) := by decide +kernel
theorem dX_48 : decode method_2_code 48 = .ok (.iconst 1, 1) := by decide +kernel
theorem dX_49 : decode method_2_code 49 = .ok (.ireturn, 1) := by decide +kernel
theorem dX_50 : decode method_2_code 50 = .ok (.iload_n 0, 1) := by decide +kernel
theorem dX_51 : decode method_2_code 51 = .ok (.sipush 192, 3) := by decide +kernel
theorem dX_54 : decode method_2_code 54 = .ok (.if_icmp .lt 30, 3) := by decide +kernel
theorem dX_57 : decode method_2_code 57 = .ok (.iload_n 0, 1) := by decide +kernel
theorem dX_58 : decode method_2_code 58 = .ok (.sipush 255, 3) := by decide +kernel
theorem dX_61 : decode method_2_code 61 = .ok (.if_icmp .gt 23, 3) := by decide +kernel
theorem dX_64 : decode method_2_code 64 = .ok (.iload_n 0, 1) := by decide +kernel
theorem dX_65 : decode method_2_code 65 = .ok (.sipush 215, 3) := by decide +kernel
theorem dX_68 : decode method_2_code 68 = .ok (.if_icmp .eq 14, 3) := by decide +kernel
theorem dX_71 : decode method_2_code 71 = .ok (.iload_n 0, 1) := by decide +kernel
theorem dX_72 : decode method_2_code 72 = .ok (.sipush 247, 3) := by decide +kernel
theorem dX_75 : decode method_2_code 75 = .ok (.if_icmp .eq 7, 3) := by decide +kernel
theorem dX_78 : decode method_2_code 78 = .ok (.iconst 1, 1) := by decide +kernel
theorem dX_79 : decode method_2_code 79 = .ok (.goto 4, 3) := by decide +kernel
theorem dX_82 : decode method_2_code 82 = .ok (.iconst 0, 1) := by decide +kernel
theorem dX_83 : decode method_2_code 83 = .ok (.ireturn, 1) := by decide +kernel
theorem dX_84 : decode method_2_code 84 = .ok (.iconst 0, 1) := by decide +kernel
theorem dX_85 : decode method_2_code 85 = .ok (.ireturn, 1) := by decide +kernel
theorem efX (m : MethodId) (c1 : Int32) : entryFrame m #[(.int c1)] 1 = mkF m 0 #[.val (.int c1)] [] := by first | (simp [entryFrame, mkF, argsToLocals, Value.category]; done) | rfl
def QX (Z : State) (c1 : Int32) (h0 : Heap) (n0 : Nat) (v : Option Value) (h : Heap) (L : List Loc) : Prop := v = some (.int (if own_B c1 then 1 else 0)) ∧ Fr n0 L ∧ h = h0
set_option maxRecDepth 65536 in
set_option maxHeartbeats 40000000 in
theorem rmX (l : Launch) (Z : State) (a0 : Array Value) (hw : ∀ d ∈ tables_1, d.before a0 Z = true) (ws : List Jvm.Cond) (c1 : Int32) (h0 : Heap) (n0 : Nat) (Z0 : n0 ≤ h0.size)  :
    MetFree l (⟨"org/lanner/term/TermSyntaxContinuesBarePinLaw", "expected", "(I)Z"⟩ : MethodName) (head1 (Jvm.Cond.code (⟨"org/lanner/term/TermSyntaxContinuesBarePinLaw", "expected", "(I)Z"⟩ : MethodName) method_2_code 1 (some .boolean) :: ws) ({ frames := 0, cells := 0, slots := 0, locals := 0 } : Room)) (fun a U => a = #[(.int c1)] ∧ Z.Warmed39 U.vm ∧ U.heap = h0) (fun _ _ _ _ _ => True) (fun _ U o U' => ∃ v L, o = .returned v ∧ QX Z c1 h0 n0 v U'.heap L ∧ FrameEnd U o U' L ({ frames := 0, cells := 0, slots := 0, locals := 0 } : Room).cells ({ frames := 0, cells := 0, slots := 0, locals := 0 } : Room).slots) := by
  refine MetFree.of_bodySF (plainFor_of_name own_pn1) hisR ?_
  intro p e s m args below meth c s₁ Bd hml0 hP hK
  obtain ⟨rfl, hZ, hh⟩ := hP
  have hx := Bd.exec
  have hby := Bd.bytes
  have hml : c.maxLocals = 1 := hml0
  have hown : s.vm.findClass "org/lanner/term/TermSyntaxContinuesBarePinLaw" = some m.cls := findClass_of_methodNamed Bd.named
  have hnm := (name_of_methodNamed Bd.named Bd.method).1
  have hlk := Bd.notSynchronized
  have hret := Bd.returns
  have X0 : Stand p l e ({ frames := 0, cells := 0, slots := 0, locals := 0 } : Room) s m #[(.int c1)] below meth c s₁ [] 0 0 := Stand.of_body Bd
  have e0 : s₁.heap = h0 := by rw [← hh, Bd.state]; rfl
  have N0 := Fr.nil n0
  show own_Run p e below s 0 0 (QX Z c1 h0 n0) (s₁.setTop (entryFrame m #[(.int c1)] 1))
  refine own_cast (efX m c1) ?_
  show own_Run p e below s _ _ _ (s₁.setTop (mkF m 0 #[.val (.int c1)] []))
  refine own_of (fun _ hh_ => XS.iloadN X0.here hx rfl (hb hby dX_0) rfl hh_) ?_
  show own_Run p e below s _ _ _ (s₁.setTop (mkF m 1 #[.val (.int c1)] [(.int c1)]))
  refine own_of (fun _ hh_ => XS.bipush X0.here hx rfl (hb hby dX_1) hh_) ?_
  show own_Run p e below s _ _ _ (s₁.setTop (mkF m 3 #[.val (.int c1)] [(.int (48 : Int32)), (.int c1)]))
  by_cases hc3_1 : c1 < (48 : Int32)
  · refine own_of (fun _ hh_ => XS.icmpYes X0.here hx rfl (pc0 := 3) (pc' := 14) rfl (hb hby dX_3) rfl (tlt hc3_1).1 (by decide) (by decide) hh_) ?_
    show own_Run p e below s _ _ _ (s₁.setTop (mkF m 14 #[.val (.int c1)] []))
    refine own_of (fun _ hh_ => XS.iloadN X0.here hx rfl (hb hby dX_14) rfl hh_) ?_
    show own_Run p e below s _ _ _ (s₁.setTop (mkF m 15 #[.val (.int c1)] [(.int c1)]))
    refine own_of (fun _ hh_ => XS.bipush X0.here hx rfl (hb hby dX_15) hh_) ?_
    show own_Run p e below s _ _ _ (s₁.setTop (mkF m 17 #[.val (.int c1)] [(.int (64 : Int32)), (.int c1)]))
    by_cases hc17_2 : c1 < (64 : Int32)
    · refine own_of (fun _ hh_ => XS.icmpYes X0.here hx rfl (pc0 := 17) (pc' := 28) rfl (hb hby dX_17) rfl (tlt hc17_2).1 (by decide) (by decide) hh_) ?_
      show own_Run p e below s _ _ _ (s₁.setTop (mkF m 28 #[.val (.int c1)] []))
      refine own_of (fun _ hh_ => XS.iloadN X0.here hx rfl (hb hby dX_28) rfl hh_) ?_
      show own_Run p e below s _ _ _ (s₁.setTop (mkF m 29 #[.val (.int c1)] [(.int c1)]))
      refine own_of (fun _ hh_ => XS.bipush X0.here hx rfl (hb hby dX_29) hh_) ?_
      show own_Run p e below s _ _ _ (s₁.setTop (mkF m 31 #[.val (.int c1)] [(.int (95 : Int32)), (.int c1)]))
      by_cases hc31_3 : c1 = (95 : Int32)
      · refine own_of (fun _ hh_ => XS.icmpNo X0.here hx rfl (hb hby dX_31) rfl (teq hc31_3).2 hh_) ?_
        show own_Run p e below s _ _ _ (s₁.setTop (mkF m 34 #[.val (.int c1)] []))
        refine own_of (fun _ hh_ => XS.iconst X0.here hx rfl (hb hby dX_34) hh_) ?_
        show own_Run p e below s _ _ _ (s₁.setTop (mkF m 35 #[.val (.int c1)] [(.int (1 : Int32))]))
        exact own_retN X0 hx (t := .boolean) hret hlk (by simp) (hb hby dX_35) ⟨by rw [if_pos (show own_B c1 from by have a_hc3_1 := Int32.lt_iff_toInt_lt.mp hc3_1; have a_hc17_2 := Int32.lt_iff_toInt_lt.mp hc17_2; have a_hc31_3 := Int32.toInt_inj.mpr hc31_3; have l_0 : (48 : Int32).toInt = 48 := rfl; have l_1 : (64 : Int32).toInt = 64 := rfl; have l_2 : (95 : Int32).toInt = 95 := rfl; omega)]; rfl, N0, e0⟩ (by decide) (by decide)
      · refine own_of (fun _ hh_ => XS.icmpYes X0.here hx rfl (pc0 := 31) (pc' := 36) rfl (hb hby dX_31) rfl (feq hc31_3).2 (by decide) (by decide) hh_) ?_
        show own_Run p e below s _ _ _ (s₁.setTop (mkF m 36 #[.val (.int c1)] []))
        refine own_of (fun _ hh_ => XS.iloadN X0.here hx rfl (hb hby dX_36) rfl hh_) ?_
        show own_Run p e below s _ _ _ (s₁.setTop (mkF m 37 #[.val (.int c1)] [(.int c1)]))
        refine own_of (fun _ hh_ => XS.bipush X0.here hx rfl (hb hby dX_37) hh_) ?_
        show own_Run p e below s _ _ _ (s₁.setTop (mkF m 39 #[.val (.int c1)] [(.int (97 : Int32)), (.int c1)]))
        by_cases hc39_4 : c1 < (97 : Int32)
        · refine own_of (fun _ hh_ => XS.icmpYes X0.here hx rfl (pc0 := 39) (pc' := 50) rfl (hb hby dX_39) rfl (tlt hc39_4).1 (by decide) (by decide) hh_) ?_
          show own_Run p e below s _ _ _ (s₁.setTop (mkF m 50 #[.val (.int c1)] []))
          refine own_of (fun _ hh_ => XS.iloadN X0.here hx rfl (hb hby dX_50) rfl hh_) ?_
          show own_Run p e below s _ _ _ (s₁.setTop (mkF m 51 #[.val (.int c1)] [(.int c1)]))
          refine own_of (fun _ hh_ => XS.sipush X0.here hx rfl (hb hby dX_51) hh_) ?_
          show own_Run p e below s _ _ _ (s₁.setTop (mkF m 54 #[.val (.int c1)] [(.int (192 : Int32)), (.int c1)]))
          by_cases hc54_5 : c1 < (192 : Int32)
          · refine own_of (fun _ hh_ => XS.icmpYes X0.here hx rfl (pc0 := 54) (pc' := 84) rfl (hb hby dX_54) rfl (tlt hc54_5).1 (by decide) (by decide) hh_) ?_
            show own_Run p e below s _ _ _ (s₁.setTop (mkF m 84 #[.val (.int c1)] []))
            refine own_of (fun _ hh_ => XS.iconst X0.here hx rfl (hb hby dX_84) hh_) ?_
            show own_Run p e below s _ _ _ (s₁.setTop (mkF m 85 #[.val (.int c1)] [(.int (0 : Int32))]))
            exact own_retN X0 hx (t := .boolean) hret hlk (by simp) (hb hby dX_85) ⟨by rw [if_neg (show ¬ (own_B c1) from by have a_hc3_1 := Int32.lt_iff_toInt_lt.mp hc3_1; have a_hc17_2 := Int32.lt_iff_toInt_lt.mp hc17_2; have a_hc31_3 := mt Int32.toInt_inj.mp hc31_3; have a_hc39_4 := Int32.lt_iff_toInt_lt.mp hc39_4; have a_hc54_5 := Int32.lt_iff_toInt_lt.mp hc54_5; have l_0 : (48 : Int32).toInt = 48 := rfl; have l_1 : (64 : Int32).toInt = 64 := rfl; have l_2 : (95 : Int32).toInt = 95 := rfl; have l_3 : (97 : Int32).toInt = 97 := rfl; have l_4 : (192 : Int32).toInt = 192 := rfl; omega)]; rfl, N0, e0⟩ (by decide) (by decide)
          · refine own_of (fun _ hh_ => XS.icmpNo X0.here hx rfl (hb hby dX_54) rfl (flt hc54_5).1 hh_) ?_
            show own_Run p e below s _ _ _ (s₁.setTop (mkF m 57 #[.val (.int c1)] []))
            refine own_of (fun _ hh_ => XS.iloadN X0.here hx rfl (hb hby dX_57) rfl hh_) ?_
            show own_Run p e below s _ _ _ (s₁.setTop (mkF m 58 #[.val (.int c1)] [(.int c1)]))
            refine own_of (fun _ hh_ => XS.sipush X0.here hx rfl (hb hby dX_58) hh_) ?_
            show own_Run p e below s _ _ _ (s₁.setTop (mkF m 61 #[.val (.int c1)] [(.int (255 : Int32)), (.int c1)]))
            by_cases hc61_6 : (255 : Int32) < c1
            · refine own_of (fun _ hh_ => XS.icmpYes X0.here hx rfl (pc0 := 61) (pc' := 84) rfl (hb hby dX_61) rfl (tlt hc61_6).2.2.1 (by decide) (by decide) hh_) ?_
              show own_Run p e below s _ _ _ (s₁.setTop (mkF m 84 #[.val (.int c1)] []))
              refine own_of (fun _ hh_ => XS.iconst X0.here hx rfl (hb hby dX_84) hh_) ?_
              show own_Run p e below s _ _ _ (s₁.setTop (mkF m 85 #[.val (.int c1)] [(.int (0 : Int32))]))
              exact own_retN X0 hx (t := .boolean) hret hlk (by simp) (hb hby dX_85) ⟨by rw [if_neg (show ¬ (own_B c1) from by have a_hc3_1 := Int32.lt_iff_toInt_lt.mp hc3_1; have a_hc17_2 := Int32.lt_iff_toInt_lt.mp hc17_2; have a_hc31_3 := mt Int32.toInt_inj.mp hc31_3; have a_hc39_4 := Int32.lt_iff_toInt_lt.mp hc39_4; have a_hc54_5 := mt Int32.lt_iff_toInt_lt.mpr hc54_5; have a_hc61_6 := Int32.lt_iff_toInt_lt.mp hc61_6; have l_0 : (48 : Int32).toInt = 48 := rfl; have l_1 : (64 : Int32).toInt = 64 := rfl; have l_2 : (95 : Int32).toInt = 95 := rfl; have l_3 : (97 : Int32).toInt = 97 := rfl; have l_4 : (192 : Int32).toInt = 192 := rfl; have l_5 : (255 : Int32).toInt = 255 := rfl; omega)]; rfl, N0, e0⟩ (by decide) (by decide)
            · refine own_of (fun _ hh_ => XS.icmpNo X0.here hx rfl (hb hby dX_61) rfl (flt hc61_6).2.2.1 hh_) ?_
              show own_Run p e below s _ _ _ (s₁.setTop (mkF m 64 #[.val (.int c1)] []))
              refine own_of (fun _ hh_ => XS.iloadN X0.here hx rfl (hb hby dX_64) rfl hh_) ?_
              show own_Run p e below s _ _ _ (s₁.setTop (mkF m 65 #[.val (.int c1)] [(.int c1)]))
              refine own_of (fun _ hh_ => XS.sipush X0.here hx rfl (hb hby dX_65) hh_) ?_
              show own_Run p e below s _ _ _ (s₁.setTop (mkF m 68 #[.val (.int c1)] [(.int (215 : Int32)), (.int c1)]))
              by_cases hc68_7 : c1 = (215 : Int32)
              · refine own_of (fun _ hh_ => XS.icmpYes X0.here hx rfl (pc0 := 68) (pc' := 82) rfl (hb hby dX_68) rfl (teq hc68_7).1 (by decide) (by decide) hh_) ?_
                show own_Run p e below s _ _ _ (s₁.setTop (mkF m 82 #[.val (.int c1)] []))
                refine own_of (fun _ hh_ => XS.iconst X0.here hx rfl (hb hby dX_82) hh_) ?_
                show own_Run p e below s _ _ _ (s₁.setTop (mkF m 83 #[.val (.int c1)] [(.int (0 : Int32))]))
                exact own_retN X0 hx (t := .boolean) hret hlk (by simp) (hb hby dX_83) ⟨by rw [if_neg (show ¬ (own_B c1) from by have a_hc3_1 := Int32.lt_iff_toInt_lt.mp hc3_1; have a_hc17_2 := Int32.lt_iff_toInt_lt.mp hc17_2; have a_hc31_3 := mt Int32.toInt_inj.mp hc31_3; have a_hc39_4 := Int32.lt_iff_toInt_lt.mp hc39_4; have a_hc54_5 := mt Int32.lt_iff_toInt_lt.mpr hc54_5; have a_hc61_6 := mt Int32.lt_iff_toInt_lt.mpr hc61_6; have a_hc68_7 := Int32.toInt_inj.mpr hc68_7; have l_0 : (48 : Int32).toInt = 48 := rfl; have l_1 : (64 : Int32).toInt = 64 := rfl; have l_2 : (95 : Int32).toInt = 95 := rfl; have l_3 : (97 : Int32).toInt = 97 := rfl; have l_4 : (192 : Int32).toInt = 192 := rfl; have l_5 : (255 : Int32).toInt = 255 := rfl; have l_6 : (215 : Int32).toInt = 215 := rfl; omega)]; rfl, N0, e0⟩ (by decide) (by decide)
              · refine own_of (fun _ hh_ => XS.icmpNo X0.here hx rfl (hb hby dX_68) rfl (feq hc68_7).1 hh_) ?_
                show own_Run p e below s _ _ _ (s₁.setTop (mkF m 71 #[.val (.int c1)] []))
                refine own_of (fun _ hh_ => XS.iloadN X0.here hx rfl (hb hby dX_71) rfl hh_) ?_
                show own_Run p e below s _ _ _ (s₁.setTop (mkF m 72 #[.val (.int c1)] [(.int c1)]))
                refine own_of (fun _ hh_ => XS.sipush X0.here hx rfl (hb hby dX_72) hh_) ?_
                show own_Run p e below s _ _ _ (s₁.setTop (mkF m 75 #[.val (.int c1)] [(.int (247 : Int32)), (.int c1)]))
                by_cases hc75_8 : c1 = (247 : Int32)
                · refine own_of (fun _ hh_ => XS.icmpYes X0.here hx rfl (pc0 := 75) (pc' := 82) rfl (hb hby dX_75) rfl (teq hc75_8).1 (by decide) (by decide) hh_) ?_
                  show own_Run p e below s _ _ _ (s₁.setTop (mkF m 82 #[.val (.int c1)] []))
                  refine own_of (fun _ hh_ => XS.iconst X0.here hx rfl (hb hby dX_82) hh_) ?_
                  show own_Run p e below s _ _ _ (s₁.setTop (mkF m 83 #[.val (.int c1)] [(.int (0 : Int32))]))
                  exact own_retN X0 hx (t := .boolean) hret hlk (by simp) (hb hby dX_83) ⟨by rw [if_neg (show ¬ (own_B c1) from by have a_hc3_1 := Int32.lt_iff_toInt_lt.mp hc3_1; have a_hc17_2 := Int32.lt_iff_toInt_lt.mp hc17_2; have a_hc31_3 := mt Int32.toInt_inj.mp hc31_3; have a_hc39_4 := Int32.lt_iff_toInt_lt.mp hc39_4; have a_hc54_5 := mt Int32.lt_iff_toInt_lt.mpr hc54_5; have a_hc61_6 := mt Int32.lt_iff_toInt_lt.mpr hc61_6; have a_hc68_7 := mt Int32.toInt_inj.mp hc68_7; have a_hc75_8 := Int32.toInt_inj.mpr hc75_8; have l_0 : (48 : Int32).toInt = 48 := rfl; have l_1 : (64 : Int32).toInt = 64 := rfl; have l_2 : (95 : Int32).toInt = 95 := rfl; have l_3 : (97 : Int32).toInt = 97 := rfl; have l_4 : (192 : Int32).toInt = 192 := rfl; have l_5 : (255 : Int32).toInt = 255 := rfl; have l_6 : (215 : Int32).toInt = 215 := rfl; have l_7 : (247 : Int32).toInt = 247 := rfl; omega)]; rfl, N0, e0⟩ (by decide) (by decide)
                · refine own_of (fun _ hh_ => XS.icmpNo X0.here hx rfl (hb hby dX_75) rfl (feq hc75_8).1 hh_) ?_
                  show own_Run p e below s _ _ _ (s₁.setTop (mkF m 78 #[.val (.int c1)] []))
                  refine own_of (fun _ hh_ => XS.iconst X0.here hx rfl (hb hby dX_78) hh_) ?_
                  show own_Run p e below s _ _ _ (s₁.setTop (mkF m 79 #[.val (.int c1)] [(.int (1 : Int32))]))
                  refine own_of (fun _ hh_ => XS.goto X0.here hx rfl (pc0 := 79) (pc' := 83) rfl (hb hby dX_79) (by decide) (by decide) hh_) ?_
                  show own_Run p e below s _ _ _ (s₁.setTop (mkF m 83 #[.val (.int c1)] [(.int (1 : Int32))]))
                  exact own_retN X0 hx (t := .boolean) hret hlk (by simp) (hb hby dX_83) ⟨by rw [if_pos (show own_B c1 from by have a_hc3_1 := Int32.lt_iff_toInt_lt.mp hc3_1; have a_hc17_2 := Int32.lt_iff_toInt_lt.mp hc17_2; have a_hc31_3 := mt Int32.toInt_inj.mp hc31_3; have a_hc39_4 := Int32.lt_iff_toInt_lt.mp hc39_4; have a_hc54_5 := mt Int32.lt_iff_toInt_lt.mpr hc54_5; have a_hc61_6 := mt Int32.lt_iff_toInt_lt.mpr hc61_6; have a_hc68_7 := mt Int32.toInt_inj.mp hc68_7; have a_hc75_8 := mt Int32.toInt_inj.mp hc75_8; have l_0 : (48 : Int32).toInt = 48 := rfl; have l_1 : (64 : Int32).toInt = 64 := rfl; have l_2 : (95 : Int32).toInt = 95 := rfl; have l_3 : (97 : Int32).toInt = 97 := rfl; have l_4 : (192 : Int32).toInt = 192 := rfl; have l_5 : (255 : Int32).toInt = 255 := rfl; have l_6 : (215 : Int32).toInt = 215 := rfl; have l_7 : (247 : Int32).toInt = 247 := rfl; omega)]; rfl, N0, e0⟩ (by decide) (by decide)
        · refine own_of (fun _ hh_ => XS.icmpNo X0.here hx rfl (hb hby dX_39) rfl (flt hc39_4).1 hh_) ?_
          show own_Run p e below s _ _ _ (s₁.setTop (mkF m 42 #[.val (.int c1)] []))
          refine own_of (fun _ hh_ => XS.iloadN X0.here hx rfl (hb hby dX_42) rfl hh_) ?_
          show own_Run p e below s _ _ _ (s₁.setTop (mkF m 43 #[.val (.int c1)] [(.int c1)]))
          refine own_of (fun _ hh_ => XS.bipush X0.here hx rfl (hb hby dX_43) hh_) ?_
          show own_Run p e below s _ _ _ (s₁.setTop (mkF m 45 #[.val (.int c1)] [(.int (122 : Int32)), (.int c1)]))
          by_cases hc45_9 : (122 : Int32) < c1
          · refine own_of (fun _ hh_ => XS.icmpYes X0.here hx rfl (pc0 := 45) (pc' := 50) rfl (hb hby dX_45) rfl (tlt hc45_9).2.2.1 (by decide) (by decide) hh_) ?_
            show own_Run p e below s _ _ _ (s₁.setTop (mkF m 50 #[.val (.int c1)] []))
            refine own_of (fun _ hh_ => XS.iloadN X0.here hx rfl (hb hby dX_50) rfl hh_) ?_
            show own_Run p e below s _ _ _ (s₁.setTop (mkF m 51 #[.val (.int c1)] [(.int c1)]))
            refine own_of (fun _ hh_ => XS.sipush X0.here hx rfl (hb hby dX_51) hh_) ?_
            show own_Run p e below s _ _ _ (s₁.setTop (mkF m 54 #[.val (.int c1)] [(.int (192 : Int32)), (.int c1)]))
            by_cases hc54_10 : c1 < (192 : Int32)
            · refine own_of (fun _ hh_ => XS.icmpYes X0.here hx rfl (pc0 := 54) (pc' := 84) rfl (hb hby dX_54) rfl (tlt hc54_10).1 (by decide) (by decide) hh_) ?_
              show own_Run p e below s _ _ _ (s₁.setTop (mkF m 84 #[.val (.int c1)] []))
              refine own_of (fun _ hh_ => XS.iconst X0.here hx rfl (hb hby dX_84) hh_) ?_
              show own_Run p e below s _ _ _ (s₁.setTop (mkF m 85 #[.val (.int c1)] [(.int (0 : Int32))]))
              exact own_retN X0 hx (t := .boolean) hret hlk (by simp) (hb hby dX_85) ⟨by rw [if_neg (show ¬ (own_B c1) from by have a_hc3_1 := Int32.lt_iff_toInt_lt.mp hc3_1; have a_hc17_2 := Int32.lt_iff_toInt_lt.mp hc17_2; have a_hc31_3 := mt Int32.toInt_inj.mp hc31_3; have a_hc39_4 := mt Int32.lt_iff_toInt_lt.mpr hc39_4; have a_hc45_9 := Int32.lt_iff_toInt_lt.mp hc45_9; have a_hc54_10 := Int32.lt_iff_toInt_lt.mp hc54_10; have l_0 : (48 : Int32).toInt = 48 := rfl; have l_1 : (64 : Int32).toInt = 64 := rfl; have l_2 : (95 : Int32).toInt = 95 := rfl; have l_3 : (97 : Int32).toInt = 97 := rfl; have l_4 : (122 : Int32).toInt = 122 := rfl; have l_5 : (192 : Int32).toInt = 192 := rfl; omega)]; rfl, N0, e0⟩ (by decide) (by decide)
            · refine own_of (fun _ hh_ => XS.icmpNo X0.here hx rfl (hb hby dX_54) rfl (flt hc54_10).1 hh_) ?_
              show own_Run p e below s _ _ _ (s₁.setTop (mkF m 57 #[.val (.int c1)] []))
              refine own_of (fun _ hh_ => XS.iloadN X0.here hx rfl (hb hby dX_57) rfl hh_) ?_
              show own_Run p e below s _ _ _ (s₁.setTop (mkF m 58 #[.val (.int c1)] [(.int c1)]))
              refine own_of (fun _ hh_ => XS.sipush X0.here hx rfl (hb hby dX_58) hh_) ?_
              show own_Run p e below s _ _ _ (s₁.setTop (mkF m 61 #[.val (.int c1)] [(.int (255 : Int32)), (.int c1)]))
              by_cases hc61_11 : (255 : Int32) < c1
              · refine own_of (fun _ hh_ => XS.icmpYes X0.here hx rfl (pc0 := 61) (pc' := 84) rfl (hb hby dX_61) rfl (tlt hc61_11).2.2.1 (by decide) (by decide) hh_) ?_
                show own_Run p e below s _ _ _ (s₁.setTop (mkF m 84 #[.val (.int c1)] []))
                refine own_of (fun _ hh_ => XS.iconst X0.here hx rfl (hb hby dX_84) hh_) ?_
                show own_Run p e below s _ _ _ (s₁.setTop (mkF m 85 #[.val (.int c1)] [(.int (0 : Int32))]))
                exact own_retN X0 hx (t := .boolean) hret hlk (by simp) (hb hby dX_85) ⟨by rw [if_neg (show ¬ (own_B c1) from by have a_hc3_1 := Int32.lt_iff_toInt_lt.mp hc3_1; have a_hc17_2 := Int32.lt_iff_toInt_lt.mp hc17_2; have a_hc31_3 := mt Int32.toInt_inj.mp hc31_3; have a_hc39_4 := mt Int32.lt_iff_toInt_lt.mpr hc39_4; have a_hc45_9 := Int32.lt_iff_toInt_lt.mp hc45_9; have a_hc54_10 := mt Int32.lt_iff_toInt_lt.mpr hc54_10; have a_hc61_11 := Int32.lt_iff_toInt_lt.mp hc61_11; have l_0 : (48 : Int32).toInt = 48 := rfl; have l_1 : (64 : Int32).toInt = 64 := rfl; have l_2 : (95 : Int32).toInt = 95 := rfl; have l_3 : (97 : Int32).toInt = 97 := rfl; have l_4 : (122 : Int32).toInt = 122 := rfl; have l_5 : (192 : Int32).toInt = 192 := rfl; have l_6 : (255 : Int32).toInt = 255 := rfl; omega)]; rfl, N0, e0⟩ (by decide) (by decide)
              · refine own_of (fun _ hh_ => XS.icmpNo X0.here hx rfl (hb hby dX_61) rfl (flt hc61_11).2.2.1 hh_) ?_
                show own_Run p e below s _ _ _ (s₁.setTop (mkF m 64 #[.val (.int c1)] []))
                refine own_of (fun _ hh_ => XS.iloadN X0.here hx rfl (hb hby dX_64) rfl hh_) ?_
                show own_Run p e below s _ _ _ (s₁.setTop (mkF m 65 #[.val (.int c1)] [(.int c1)]))
                refine own_of (fun _ hh_ => XS.sipush X0.here hx rfl (hb hby dX_65) hh_) ?_
                show own_Run p e below s _ _ _ (s₁.setTop (mkF m 68 #[.val (.int c1)] [(.int (215 : Int32)), (.int c1)]))
                by_cases hc68_12 : c1 = (215 : Int32)
                · refine own_of (fun _ hh_ => XS.icmpYes X0.here hx rfl (pc0 := 68) (pc' := 82) rfl (hb hby dX_68) rfl (teq hc68_12).1 (by decide) (by decide) hh_) ?_
                  show own_Run p e below s _ _ _ (s₁.setTop (mkF m 82 #[.val (.int c1)] []))
                  refine own_of (fun _ hh_ => XS.iconst X0.here hx rfl (hb hby dX_82) hh_) ?_
                  show own_Run p e below s _ _ _ (s₁.setTop (mkF m 83 #[.val (.int c1)] [(.int (0 : Int32))]))
                  exact own_retN X0 hx (t := .boolean) hret hlk (by simp) (hb hby dX_83) ⟨by rw [if_neg (show ¬ (own_B c1) from by have a_hc3_1 := Int32.lt_iff_toInt_lt.mp hc3_1; have a_hc17_2 := Int32.lt_iff_toInt_lt.mp hc17_2; have a_hc31_3 := mt Int32.toInt_inj.mp hc31_3; have a_hc39_4 := mt Int32.lt_iff_toInt_lt.mpr hc39_4; have a_hc45_9 := Int32.lt_iff_toInt_lt.mp hc45_9; have a_hc54_10 := mt Int32.lt_iff_toInt_lt.mpr hc54_10; have a_hc61_11 := mt Int32.lt_iff_toInt_lt.mpr hc61_11; have a_hc68_12 := Int32.toInt_inj.mpr hc68_12; have l_0 : (48 : Int32).toInt = 48 := rfl; have l_1 : (64 : Int32).toInt = 64 := rfl; have l_2 : (95 : Int32).toInt = 95 := rfl; have l_3 : (97 : Int32).toInt = 97 := rfl; have l_4 : (122 : Int32).toInt = 122 := rfl; have l_5 : (192 : Int32).toInt = 192 := rfl; have l_6 : (255 : Int32).toInt = 255 := rfl; have l_7 : (215 : Int32).toInt = 215 := rfl; omega)]; rfl, N0, e0⟩ (by decide) (by decide)
                · refine own_of (fun _ hh_ => XS.icmpNo X0.here hx rfl (hb hby dX_68) rfl (feq hc68_12).1 hh_) ?_
                  show own_Run p e below s _ _ _ (s₁.setTop (mkF m 71 #[.val (.int c1)] []))
                  refine own_of (fun _ hh_ => XS.iloadN X0.here hx rfl (hb hby dX_71) rfl hh_) ?_
                  show own_Run p e below s _ _ _ (s₁.setTop (mkF m 72 #[.val (.int c1)] [(.int c1)]))
                  refine own_of (fun _ hh_ => XS.sipush X0.here hx rfl (hb hby dX_72) hh_) ?_
                  show own_Run p e below s _ _ _ (s₁.setTop (mkF m 75 #[.val (.int c1)] [(.int (247 : Int32)), (.int c1)]))
                  by_cases hc75_13 : c1 = (247 : Int32)
                  · refine own_of (fun _ hh_ => XS.icmpYes X0.here hx rfl (pc0 := 75) (pc' := 82) rfl (hb hby dX_75) rfl (teq hc75_13).1 (by decide) (by decide) hh_) ?_
                    show own_Run p e below s _ _ _ (s₁.setTop (mkF m 82 #[.val (.int c1)] []))
                    refine own_of (fun _ hh_ => XS.iconst X0.here hx rfl (hb hby dX_82) hh_) ?_
                    show own_Run p e below s _ _ _ (s₁.setTop (mkF m 83 #[.val (.int c1)] [(.int (0 : Int32))]))
                    exact own_retN X0 hx (t := .boolean) hret hlk (by simp) (hb hby dX_83) ⟨by rw [if_neg (show ¬ (own_B c1) from by have a_hc3_1 := Int32.lt_iff_toInt_lt.mp hc3_1; have a_hc17_2 := Int32.lt_iff_toInt_lt.mp hc17_2; have a_hc31_3 := mt Int32.toInt_inj.mp hc31_3; have a_hc39_4 := mt Int32.lt_iff_toInt_lt.mpr hc39_4; have a_hc45_9 := Int32.lt_iff_toInt_lt.mp hc45_9; have a_hc54_10 := mt Int32.lt_iff_toInt_lt.mpr hc54_10; have a_hc61_11 := mt Int32.lt_iff_toInt_lt.mpr hc61_11; have a_hc68_12 := mt Int32.toInt_inj.mp hc68_12; have a_hc75_13 := Int32.toInt_inj.mpr hc75_13; have l_0 : (48 : Int32).toInt = 48 := rfl; have l_1 : (64 : Int32).toInt = 64 := rfl; have l_2 : (95 : Int32).toInt = 95 := rfl; have l_3 : (97 : Int32).toInt = 97 := rfl; have l_4 : (122 : Int32).toInt = 122 := rfl; have l_5 : (192 : Int32).toInt = 192 := rfl; have l_6 : (255 : Int32).toInt = 255 := rfl; have l_7 : (215 : Int32).toInt = 215 := rfl; have l_8 : (247 : Int32).toInt = 247 := rfl; omega)]; rfl, N0, e0⟩ (by decide) (by decide)
                  · refine own_of (fun _ hh_ => XS.icmpNo X0.here hx rfl (hb hby dX_75) rfl (feq hc75_13).1 hh_) ?_
                    show own_Run p e below s _ _ _ (s₁.setTop (mkF m 78 #[.val (.int c1)] []))
                    refine own_of (fun _ hh_ => XS.iconst X0.here hx rfl (hb hby dX_78) hh_) ?_
                    show own_Run p e below s _ _ _ (s₁.setTop (mkF m 79 #[.val (.int c1)] [(.int (1 : Int32))]))
                    refine own_of (fun _ hh_ => XS.goto X0.here hx rfl (pc0 := 79) (pc' := 83) rfl (hb hby dX_79) (by decide) (by decide) hh_) ?_
                    show own_Run p e below s _ _ _ (s₁.setTop (mkF m 83 #[.val (.int c1)] [(.int (1 : Int32))]))
                    exact own_retN X0 hx (t := .boolean) hret hlk (by simp) (hb hby dX_83) ⟨by rw [if_pos (show own_B c1 from by have a_hc3_1 := Int32.lt_iff_toInt_lt.mp hc3_1; have a_hc17_2 := Int32.lt_iff_toInt_lt.mp hc17_2; have a_hc31_3 := mt Int32.toInt_inj.mp hc31_3; have a_hc39_4 := mt Int32.lt_iff_toInt_lt.mpr hc39_4; have a_hc45_9 := Int32.lt_iff_toInt_lt.mp hc45_9; have a_hc54_10 := mt Int32.lt_iff_toInt_lt.mpr hc54_10; have a_hc61_11 := mt Int32.lt_iff_toInt_lt.mpr hc61_11; have a_hc68_12 := mt Int32.toInt_inj.mp hc68_12; have a_hc75_13 := mt Int32.toInt_inj.mp hc75_13; have l_0 : (48 : Int32).toInt = 48 := rfl; have l_1 : (64 : Int32).toInt = 64 := rfl; have l_2 : (95 : Int32).toInt = 95 := rfl; have l_3 : (97 : Int32).toInt = 97 := rfl; have l_4 : (122 : Int32).toInt = 122 := rfl; have l_5 : (192 : Int32).toInt = 192 := rfl; have l_6 : (255 : Int32).toInt = 255 := rfl; have l_7 : (215 : Int32).toInt = 215 := rfl; have l_8 : (247 : Int32).toInt = 247 := rfl; omega)]; rfl, N0, e0⟩ (by decide) (by decide)
          · refine own_of (fun _ hh_ => XS.icmpNo X0.here hx rfl (hb hby dX_45) rfl (flt hc45_9).2.2.1 hh_) ?_
            show own_Run p e below s _ _ _ (s₁.setTop (mkF m 48 #[.val (.int c1)] []))
            refine own_of (fun _ hh_ => XS.iconst X0.here hx rfl (hb hby dX_48) hh_) ?_
            show own_Run p e below s _ _ _ (s₁.setTop (mkF m 49 #[.val (.int c1)] [(.int (1 : Int32))]))
            exact own_retN X0 hx (t := .boolean) hret hlk (by simp) (hb hby dX_49) ⟨by rw [if_pos (show own_B c1 from by have a_hc3_1 := Int32.lt_iff_toInt_lt.mp hc3_1; have a_hc17_2 := Int32.lt_iff_toInt_lt.mp hc17_2; have a_hc31_3 := mt Int32.toInt_inj.mp hc31_3; have a_hc39_4 := mt Int32.lt_iff_toInt_lt.mpr hc39_4; have a_hc45_9 := mt Int32.lt_iff_toInt_lt.mpr hc45_9; have l_0 : (48 : Int32).toInt = 48 := rfl; have l_1 : (64 : Int32).toInt = 64 := rfl; have l_2 : (95 : Int32).toInt = 95 := rfl; have l_3 : (97 : Int32).toInt = 97 := rfl; have l_4 : (122 : Int32).toInt = 122 := rfl; omega)]; rfl, N0, e0⟩ (by decide) (by decide)
    · refine own_of (fun _ hh_ => XS.icmpNo X0.here hx rfl (hb hby dX_17) rfl (flt hc17_2).1 hh_) ?_
      show own_Run p e below s _ _ _ (s₁.setTop (mkF m 20 #[.val (.int c1)] []))
      refine own_of (fun _ hh_ => XS.iloadN X0.here hx rfl (hb hby dX_20) rfl hh_) ?_
      show own_Run p e below s _ _ _ (s₁.setTop (mkF m 21 #[.val (.int c1)] [(.int c1)]))
      refine own_of (fun _ hh_ => XS.bipush X0.here hx rfl (hb hby dX_21) hh_) ?_
      show own_Run p e below s _ _ _ (s₁.setTop (mkF m 23 #[.val (.int c1)] [(.int (90 : Int32)), (.int c1)]))
      by_cases hc23_14 : (90 : Int32) < c1
      · refine own_of (fun _ hh_ => XS.icmpYes X0.here hx rfl (pc0 := 23) (pc' := 28) rfl (hb hby dX_23) rfl (tlt hc23_14).2.2.1 (by decide) (by decide) hh_) ?_
        show own_Run p e below s _ _ _ (s₁.setTop (mkF m 28 #[.val (.int c1)] []))
        refine own_of (fun _ hh_ => XS.iloadN X0.here hx rfl (hb hby dX_28) rfl hh_) ?_
        show own_Run p e below s _ _ _ (s₁.setTop (mkF m 29 #[.val (.int c1)] [(.int c1)]))
        refine own_of (fun _ hh_ => XS.bipush X0.here hx rfl (hb hby dX_29) hh_) ?_
        show own_Run p e below s _ _ _ (s₁.setTop (mkF m 31 #[.val (.int c1)] [(.int (95 : Int32)), (.int c1)]))
        by_cases hc31_15 : c1 = (95 : Int32)
        · refine own_of (fun _ hh_ => XS.icmpNo X0.here hx rfl (hb hby dX_31) rfl (teq hc31_15).2 hh_) ?_
          show own_Run p e below s _ _ _ (s₁.setTop (mkF m 34 #[.val (.int c1)] []))
          refine own_of (fun _ hh_ => XS.iconst X0.here hx rfl (hb hby dX_34) hh_) ?_
          show own_Run p e below s _ _ _ (s₁.setTop (mkF m 35 #[.val (.int c1)] [(.int (1 : Int32))]))
          exact own_retN X0 hx (t := .boolean) hret hlk (by simp) (hb hby dX_35) ⟨by rw [if_pos (show own_B c1 from by have a_hc3_1 := Int32.lt_iff_toInt_lt.mp hc3_1; have a_hc17_2 := mt Int32.lt_iff_toInt_lt.mpr hc17_2; have a_hc23_14 := Int32.lt_iff_toInt_lt.mp hc23_14; have a_hc31_15 := Int32.toInt_inj.mpr hc31_15; have l_0 : (48 : Int32).toInt = 48 := rfl; have l_1 : (64 : Int32).toInt = 64 := rfl; have l_2 : (90 : Int32).toInt = 90 := rfl; have l_3 : (95 : Int32).toInt = 95 := rfl; omega)]; rfl, N0, e0⟩ (by decide) (by decide)
        · refine own_of (fun _ hh_ => XS.icmpYes X0.here hx rfl (pc0 := 31) (pc' := 36) rfl (hb hby dX_31) rfl (feq hc31_15).2 (by decide) (by decide) hh_) ?_
          show own_Run p e below s _ _ _ (s₁.setTop (mkF m 36 #[.val (.int c1)] []))
          refine own_of (fun _ hh_ => XS.iloadN X0.here hx rfl (hb hby dX_36) rfl hh_) ?_
          show own_Run p e below s _ _ _ (s₁.setTop (mkF m 37 #[.val (.int c1)] [(.int c1)]))
          refine own_of (fun _ hh_ => XS.bipush X0.here hx rfl (hb hby dX_37) hh_) ?_
          show own_Run p e below s _ _ _ (s₁.setTop (mkF m 39 #[.val (.int c1)] [(.int (97 : Int32)), (.int c1)]))
          by_cases hc39_16 : c1 < (97 : Int32)
          · refine own_of (fun _ hh_ => XS.icmpYes X0.here hx rfl (pc0 := 39) (pc' := 50) rfl (hb hby dX_39) rfl (tlt hc39_16).1 (by decide) (by decide) hh_) ?_
            show own_Run p e below s _ _ _ (s₁.setTop (mkF m 50 #[.val (.int c1)] []))
            refine own_of (fun _ hh_ => XS.iloadN X0.here hx rfl (hb hby dX_50) rfl hh_) ?_
            show own_Run p e below s _ _ _ (s₁.setTop (mkF m 51 #[.val (.int c1)] [(.int c1)]))
            refine own_of (fun _ hh_ => XS.sipush X0.here hx rfl (hb hby dX_51) hh_) ?_
            show own_Run p e below s _ _ _ (s₁.setTop (mkF m 54 #[.val (.int c1)] [(.int (192 : Int32)), (.int c1)]))
            by_cases hc54_17 : c1 < (192 : Int32)
            · refine own_of (fun _ hh_ => XS.icmpYes X0.here hx rfl (pc0 := 54) (pc' := 84) rfl (hb hby dX_54) rfl (tlt hc54_17).1 (by decide) (by decide) hh_) ?_
              show own_Run p e below s _ _ _ (s₁.setTop (mkF m 84 #[.val (.int c1)] []))
              refine own_of (fun _ hh_ => XS.iconst X0.here hx rfl (hb hby dX_84) hh_) ?_
              show own_Run p e below s _ _ _ (s₁.setTop (mkF m 85 #[.val (.int c1)] [(.int (0 : Int32))]))
              exact own_retN X0 hx (t := .boolean) hret hlk (by simp) (hb hby dX_85) ⟨by rw [if_neg (show ¬ (own_B c1) from by have a_hc3_1 := Int32.lt_iff_toInt_lt.mp hc3_1; have a_hc17_2 := mt Int32.lt_iff_toInt_lt.mpr hc17_2; have a_hc23_14 := Int32.lt_iff_toInt_lt.mp hc23_14; have a_hc31_15 := mt Int32.toInt_inj.mp hc31_15; have a_hc39_16 := Int32.lt_iff_toInt_lt.mp hc39_16; have a_hc54_17 := Int32.lt_iff_toInt_lt.mp hc54_17; have l_0 : (48 : Int32).toInt = 48 := rfl; have l_1 : (64 : Int32).toInt = 64 := rfl; have l_2 : (90 : Int32).toInt = 90 := rfl; have l_3 : (95 : Int32).toInt = 95 := rfl; have l_4 : (97 : Int32).toInt = 97 := rfl; have l_5 : (192 : Int32).toInt = 192 := rfl; omega)]; rfl, N0, e0⟩ (by decide) (by decide)
            · refine own_of (fun _ hh_ => XS.icmpNo X0.here hx rfl (hb hby dX_54) rfl (flt hc54_17).1 hh_) ?_
              show own_Run p e below s _ _ _ (s₁.setTop (mkF m 57 #[.val (.int c1)] []))
              refine own_of (fun _ hh_ => XS.iloadN X0.here hx rfl (hb hby dX_57) rfl hh_) ?_
              show own_Run p e below s _ _ _ (s₁.setTop (mkF m 58 #[.val (.int c1)] [(.int c1)]))
              refine own_of (fun _ hh_ => XS.sipush X0.here hx rfl (hb hby dX_58) hh_) ?_
              show own_Run p e below s _ _ _ (s₁.setTop (mkF m 61 #[.val (.int c1)] [(.int (255 : Int32)), (.int c1)]))
              by_cases hc61_18 : (255 : Int32) < c1
              · refine own_of (fun _ hh_ => XS.icmpYes X0.here hx rfl (pc0 := 61) (pc' := 84) rfl (hb hby dX_61) rfl (tlt hc61_18).2.2.1 (by decide) (by decide) hh_) ?_
                show own_Run p e below s _ _ _ (s₁.setTop (mkF m 84 #[.val (.int c1)] []))
                refine own_of (fun _ hh_ => XS.iconst X0.here hx rfl (hb hby dX_84) hh_) ?_
                show own_Run p e below s _ _ _ (s₁.setTop (mkF m 85 #[.val (.int c1)] [(.int (0 : Int32))]))
                exact own_retN X0 hx (t := .boolean) hret hlk (by simp) (hb hby dX_85) ⟨by rw [if_neg (show ¬ (own_B c1) from by have a_hc3_1 := Int32.lt_iff_toInt_lt.mp hc3_1; have a_hc17_2 := mt Int32.lt_iff_toInt_lt.mpr hc17_2; have a_hc23_14 := Int32.lt_iff_toInt_lt.mp hc23_14; have a_hc31_15 := mt Int32.toInt_inj.mp hc31_15; have a_hc39_16 := Int32.lt_iff_toInt_lt.mp hc39_16; have a_hc54_17 := mt Int32.lt_iff_toInt_lt.mpr hc54_17; have a_hc61_18 := Int32.lt_iff_toInt_lt.mp hc61_18; have l_0 : (48 : Int32).toInt = 48 := rfl; have l_1 : (64 : Int32).toInt = 64 := rfl; have l_2 : (90 : Int32).toInt = 90 := rfl; have l_3 : (95 : Int32).toInt = 95 := rfl; have l_4 : (97 : Int32).toInt = 97 := rfl; have l_5 : (192 : Int32).toInt = 192 := rfl; have l_6 : (255 : Int32).toInt = 255 := rfl; omega)]; rfl, N0, e0⟩ (by decide) (by decide)
              · refine own_of (fun _ hh_ => XS.icmpNo X0.here hx rfl (hb hby dX_61) rfl (flt hc61_18).2.2.1 hh_) ?_
                show own_Run p e below s _ _ _ (s₁.setTop (mkF m 64 #[.val (.int c1)] []))
                refine own_of (fun _ hh_ => XS.iloadN X0.here hx rfl (hb hby dX_64) rfl hh_) ?_
                show own_Run p e below s _ _ _ (s₁.setTop (mkF m 65 #[.val (.int c1)] [(.int c1)]))
                refine own_of (fun _ hh_ => XS.sipush X0.here hx rfl (hb hby dX_65) hh_) ?_
                show own_Run p e below s _ _ _ (s₁.setTop (mkF m 68 #[.val (.int c1)] [(.int (215 : Int32)), (.int c1)]))
                by_cases hc68_19 : c1 = (215 : Int32)
                · refine own_of (fun _ hh_ => XS.icmpYes X0.here hx rfl (pc0 := 68) (pc' := 82) rfl (hb hby dX_68) rfl (teq hc68_19).1 (by decide) (by decide) hh_) ?_
                  show own_Run p e below s _ _ _ (s₁.setTop (mkF m 82 #[.val (.int c1)] []))
                  refine own_of (fun _ hh_ => XS.iconst X0.here hx rfl (hb hby dX_82) hh_) ?_
                  show own_Run p e below s _ _ _ (s₁.setTop (mkF m 83 #[.val (.int c1)] [(.int (0 : Int32))]))
                  exact own_retN X0 hx (t := .boolean) hret hlk (by simp) (hb hby dX_83) ⟨by rw [if_neg (show ¬ (own_B c1) from by have a_hc3_1 := Int32.lt_iff_toInt_lt.mp hc3_1; have a_hc17_2 := mt Int32.lt_iff_toInt_lt.mpr hc17_2; have a_hc23_14 := Int32.lt_iff_toInt_lt.mp hc23_14; have a_hc31_15 := mt Int32.toInt_inj.mp hc31_15; have a_hc39_16 := Int32.lt_iff_toInt_lt.mp hc39_16; have a_hc54_17 := mt Int32.lt_iff_toInt_lt.mpr hc54_17; have a_hc61_18 := mt Int32.lt_iff_toInt_lt.mpr hc61_18; have a_hc68_19 := Int32.toInt_inj.mpr hc68_19; have l_0 : (48 : Int32).toInt = 48 := rfl; have l_1 : (64 : Int32).toInt = 64 := rfl; have l_2 : (90 : Int32).toInt = 90 := rfl; have l_3 : (95 : Int32).toInt = 95 := rfl; have l_4 : (97 : Int32).toInt = 97 := rfl; have l_5 : (192 : Int32).toInt = 192 := rfl; have l_6 : (255 : Int32).toInt = 255 := rfl; have l_7 : (215 : Int32).toInt = 215 := rfl; omega)]; rfl, N0, e0⟩ (by decide) (by decide)
                · refine own_of (fun _ hh_ => XS.icmpNo X0.here hx rfl (hb hby dX_68) rfl (feq hc68_19).1 hh_) ?_
                  show own_Run p e below s _ _ _ (s₁.setTop (mkF m 71 #[.val (.int c1)] []))
                  refine own_of (fun _ hh_ => XS.iloadN X0.here hx rfl (hb hby dX_71) rfl hh_) ?_
                  show own_Run p e below s _ _ _ (s₁.setTop (mkF m 72 #[.val (.int c1)] [(.int c1)]))
                  refine own_of (fun _ hh_ => XS.sipush X0.here hx rfl (hb hby dX_72) hh_) ?_
                  show own_Run p e below s _ _ _ (s₁.setTop (mkF m 75 #[.val (.int c1)] [(.int (247 : Int32)), (.int c1)]))
                  by_cases hc75_20 : c1 = (247 : Int32)
                  · refine own_of (fun _ hh_ => XS.icmpYes X0.here hx rfl (pc0 := 75) (pc' := 82) rfl (hb hby dX_75) rfl (teq hc75_20).1 (by decide) (by decide) hh_) ?_
                    show own_Run p e below s _ _ _ (s₁.setTop (mkF m 82 #[.val (.int c1)] []))
                    refine own_of (fun _ hh_ => XS.iconst X0.here hx rfl (hb hby dX_82) hh_) ?_
                    show own_Run p e below s _ _ _ (s₁.setTop (mkF m 83 #[.val (.int c1)] [(.int (0 : Int32))]))
                    exact own_retN X0 hx (t := .boolean) hret hlk (by simp) (hb hby dX_83) ⟨by rw [if_neg (show ¬ (own_B c1) from by have a_hc3_1 := Int32.lt_iff_toInt_lt.mp hc3_1; have a_hc17_2 := mt Int32.lt_iff_toInt_lt.mpr hc17_2; have a_hc23_14 := Int32.lt_iff_toInt_lt.mp hc23_14; have a_hc31_15 := mt Int32.toInt_inj.mp hc31_15; have a_hc39_16 := Int32.lt_iff_toInt_lt.mp hc39_16; have a_hc54_17 := mt Int32.lt_iff_toInt_lt.mpr hc54_17; have a_hc61_18 := mt Int32.lt_iff_toInt_lt.mpr hc61_18; have a_hc68_19 := mt Int32.toInt_inj.mp hc68_19; have a_hc75_20 := Int32.toInt_inj.mpr hc75_20; have l_0 : (48 : Int32).toInt = 48 := rfl; have l_1 : (64 : Int32).toInt = 64 := rfl; have l_2 : (90 : Int32).toInt = 90 := rfl; have l_3 : (95 : Int32).toInt = 95 := rfl; have l_4 : (97 : Int32).toInt = 97 := rfl; have l_5 : (192 : Int32).toInt = 192 := rfl; have l_6 : (255 : Int32).toInt = 255 := rfl; have l_7 : (215 : Int32).toInt = 215 := rfl; have l_8 : (247 : Int32).toInt = 247 := rfl; omega)]; rfl, N0, e0⟩ (by decide) (by decide)
                  · refine own_of (fun _ hh_ => XS.icmpNo X0.here hx rfl (hb hby dX_75) rfl (feq hc75_20).1 hh_) ?_
                    show own_Run p e below s _ _ _ (s₁.setTop (mkF m 78 #[.val (.int c1)] []))
                    refine own_of (fun _ hh_ => XS.iconst X0.here hx rfl (hb hby dX_78) hh_) ?_
                    show own_Run p e below s _ _ _ (s₁.setTop (mkF m 79 #[.val (.int c1)] [(.int (1 : Int32))]))
                    refine own_of (fun _ hh_ => XS.goto X0.here hx rfl (pc0 := 79) (pc' := 83) rfl (hb hby dX_79) (by decide) (by decide) hh_) ?_
                    show own_Run p e below s _ _ _ (s₁.setTop (mkF m 83 #[.val (.int c1)] [(.int (1 : Int32))]))
                    exact own_retN X0 hx (t := .boolean) hret hlk (by simp) (hb hby dX_83) ⟨by rw [if_pos (show own_B c1 from by have a_hc3_1 := Int32.lt_iff_toInt_lt.mp hc3_1; have a_hc17_2 := mt Int32.lt_iff_toInt_lt.mpr hc17_2; have a_hc23_14 := Int32.lt_iff_toInt_lt.mp hc23_14; have a_hc31_15 := mt Int32.toInt_inj.mp hc31_15; have a_hc39_16 := Int32.lt_iff_toInt_lt.mp hc39_16; have a_hc54_17 := mt Int32.lt_iff_toInt_lt.mpr hc54_17; have a_hc61_18 := mt Int32.lt_iff_toInt_lt.mpr hc61_18; have a_hc68_19 := mt Int32.toInt_inj.mp hc68_19; have a_hc75_20 := mt Int32.toInt_inj.mp hc75_20; have l_0 : (48 : Int32).toInt = 48 := rfl; have l_1 : (64 : Int32).toInt = 64 := rfl; have l_2 : (90 : Int32).toInt = 90 := rfl; have l_3 : (95 : Int32).toInt = 95 := rfl; have l_4 : (97 : Int32).toInt = 97 := rfl; have l_5 : (192 : Int32).toInt = 192 := rfl; have l_6 : (255 : Int32).toInt = 255 := rfl; have l_7 : (215 : Int32).toInt = 215 := rfl; have l_8 : (247 : Int32).toInt = 247 := rfl; omega)]; rfl, N0, e0⟩ (by decide) (by decide)
          · refine own_of (fun _ hh_ => XS.icmpNo X0.here hx rfl (hb hby dX_39) rfl (flt hc39_16).1 hh_) ?_
            show own_Run p e below s _ _ _ (s₁.setTop (mkF m 42 #[.val (.int c1)] []))
            refine own_of (fun _ hh_ => XS.iloadN X0.here hx rfl (hb hby dX_42) rfl hh_) ?_
            show own_Run p e below s _ _ _ (s₁.setTop (mkF m 43 #[.val (.int c1)] [(.int c1)]))
            refine own_of (fun _ hh_ => XS.bipush X0.here hx rfl (hb hby dX_43) hh_) ?_
            show own_Run p e below s _ _ _ (s₁.setTop (mkF m 45 #[.val (.int c1)] [(.int (122 : Int32)), (.int c1)]))
            by_cases hc45_21 : (122 : Int32) < c1
            · refine own_of (fun _ hh_ => XS.icmpYes X0.here hx rfl (pc0 := 45) (pc' := 50) rfl (hb hby dX_45) rfl (tlt hc45_21).2.2.1 (by decide) (by decide) hh_) ?_
              show own_Run p e below s _ _ _ (s₁.setTop (mkF m 50 #[.val (.int c1)] []))
              refine own_of (fun _ hh_ => XS.iloadN X0.here hx rfl (hb hby dX_50) rfl hh_) ?_
              show own_Run p e below s _ _ _ (s₁.setTop (mkF m 51 #[.val (.int c1)] [(.int c1)]))
              refine own_of (fun _ hh_ => XS.sipush X0.here hx rfl (hb hby dX_51) hh_) ?_
              show own_Run p e below s _ _ _ (s₁.setTop (mkF m 54 #[.val (.int c1)] [(.int (192 : Int32)), (.int c1)]))
              by_cases hc54_22 : c1 < (192 : Int32)
              · refine own_of (fun _ hh_ => XS.icmpYes X0.here hx rfl (pc0 := 54) (pc' := 84) rfl (hb hby dX_54) rfl (tlt hc54_22).1 (by decide) (by decide) hh_) ?_
                show own_Run p e below s _ _ _ (s₁.setTop (mkF m 84 #[.val (.int c1)] []))
                refine own_of (fun _ hh_ => XS.iconst X0.here hx rfl (hb hby dX_84) hh_) ?_
                show own_Run p e below s _ _ _ (s₁.setTop (mkF m 85 #[.val (.int c1)] [(.int (0 : Int32))]))
                exact own_retN X0 hx (t := .boolean) hret hlk (by simp) (hb hby dX_85) ⟨by rw [if_neg (show ¬ (own_B c1) from by have a_hc3_1 := Int32.lt_iff_toInt_lt.mp hc3_1; have a_hc17_2 := mt Int32.lt_iff_toInt_lt.mpr hc17_2; have a_hc23_14 := Int32.lt_iff_toInt_lt.mp hc23_14; have a_hc31_15 := mt Int32.toInt_inj.mp hc31_15; have a_hc39_16 := mt Int32.lt_iff_toInt_lt.mpr hc39_16; have a_hc45_21 := Int32.lt_iff_toInt_lt.mp hc45_21; have a_hc54_22 := Int32.lt_iff_toInt_lt.mp hc54_22; have l_0 : (48 : Int32).toInt = 48 := rfl; have l_1 : (64 : Int32).toInt = 64 := rfl; have l_2 : (90 : Int32).toInt = 90 := rfl; have l_3 : (95 : Int32).toInt = 95 := rfl; have l_4 : (97 : Int32).toInt = 97 := rfl; have l_5 : (122 : Int32).toInt = 122 := rfl; have l_6 : (192 : Int32).toInt = 192 := rfl; omega)]; rfl, N0, e0⟩ (by decide) (by decide)
              · refine own_of (fun _ hh_ => XS.icmpNo X0.here hx rfl (hb hby dX_54) rfl (flt hc54_22).1 hh_) ?_
                show own_Run p e below s _ _ _ (s₁.setTop (mkF m 57 #[.val (.int c1)] []))
                refine own_of (fun _ hh_ => XS.iloadN X0.here hx rfl (hb hby dX_57) rfl hh_) ?_
                show own_Run p e below s _ _ _ (s₁.setTop (mkF m 58 #[.val (.int c1)] [(.int c1)]))
                refine own_of (fun _ hh_ => XS.sipush X0.here hx rfl (hb hby dX_58) hh_) ?_
                show own_Run p e below s _ _ _ (s₁.setTop (mkF m 61 #[.val (.int c1)] [(.int (255 : Int32)), (.int c1)]))
                by_cases hc61_23 : (255 : Int32) < c1
                · refine own_of (fun _ hh_ => XS.icmpYes X0.here hx rfl (pc0 := 61) (pc' := 84) rfl (hb hby dX_61) rfl (tlt hc61_23).2.2.1 (by decide) (by decide) hh_) ?_
                  show own_Run p e below s _ _ _ (s₁.setTop (mkF m 84 #[.val (.int c1)] []))
                  refine own_of (fun _ hh_ => XS.iconst X0.here hx rfl (hb hby dX_84) hh_) ?_
                  show own_Run p e below s _ _ _ (s₁.setTop (mkF m 85 #[.val (.int c1)] [(.int (0 : Int32))]))
                  exact own_retN X0 hx (t := .boolean) hret hlk (by simp) (hb hby dX_85) ⟨by rw [if_neg (show ¬ (own_B c1) from by have a_hc3_1 := Int32.lt_iff_toInt_lt.mp hc3_1; have a_hc17_2 := mt Int32.lt_iff_toInt_lt.mpr hc17_2; have a_hc23_14 := Int32.lt_iff_toInt_lt.mp hc23_14; have a_hc31_15 := mt Int32.toInt_inj.mp hc31_15; have a_hc39_16 := mt Int32.lt_iff_toInt_lt.mpr hc39_16; have a_hc45_21 := Int32.lt_iff_toInt_lt.mp hc45_21; have a_hc54_22 := mt Int32.lt_iff_toInt_lt.mpr hc54_22; have a_hc61_23 := Int32.lt_iff_toInt_lt.mp hc61_23; have l_0 : (48 : Int32).toInt = 48 := rfl; have l_1 : (64 : Int32).toInt = 64 := rfl; have l_2 : (90 : Int32).toInt = 90 := rfl; have l_3 : (95 : Int32).toInt = 95 := rfl; have l_4 : (97 : Int32).toInt = 97 := rfl; have l_5 : (122 : Int32).toInt = 122 := rfl; have l_6 : (192 : Int32).toInt = 192 := rfl; have l_7 : (255 : Int32).toInt = 255 := rfl; omega)]; rfl, N0, e0⟩ (by decide) (by decide)
                · refine own_of (fun _ hh_ => XS.icmpNo X0.here hx rfl (hb hby dX_61) rfl (flt hc61_23).2.2.1 hh_) ?_
                  show own_Run p e below s _ _ _ (s₁.setTop (mkF m 64 #[.val (.int c1)] []))
                  refine own_of (fun _ hh_ => XS.iloadN X0.here hx rfl (hb hby dX_64) rfl hh_) ?_
                  show own_Run p e below s _ _ _ (s₁.setTop (mkF m 65 #[.val (.int c1)] [(.int c1)]))
                  refine own_of (fun _ hh_ => XS.sipush X0.here hx rfl (hb hby dX_65) hh_) ?_
                  show own_Run p e below s _ _ _ (s₁.setTop (mkF m 68 #[.val (.int c1)] [(.int (215 : Int32)), (.int c1)]))
                  by_cases hc68_24 : c1 = (215 : Int32)
                  · refine own_of (fun _ hh_ => XS.icmpYes X0.here hx rfl (pc0 := 68) (pc' := 82) rfl (hb hby dX_68) rfl (teq hc68_24).1 (by decide) (by decide) hh_) ?_
                    show own_Run p e below s _ _ _ (s₁.setTop (mkF m 82 #[.val (.int c1)] []))
                    refine own_of (fun _ hh_ => XS.iconst X0.here hx rfl (hb hby dX_82) hh_) ?_
                    show own_Run p e below s _ _ _ (s₁.setTop (mkF m 83 #[.val (.int c1)] [(.int (0 : Int32))]))
                    exact own_retN X0 hx (t := .boolean) hret hlk (by simp) (hb hby dX_83) ⟨by rw [if_neg (show ¬ (own_B c1) from by have a_hc3_1 := Int32.lt_iff_toInt_lt.mp hc3_1; have a_hc17_2 := mt Int32.lt_iff_toInt_lt.mpr hc17_2; have a_hc23_14 := Int32.lt_iff_toInt_lt.mp hc23_14; have a_hc31_15 := mt Int32.toInt_inj.mp hc31_15; have a_hc39_16 := mt Int32.lt_iff_toInt_lt.mpr hc39_16; have a_hc45_21 := Int32.lt_iff_toInt_lt.mp hc45_21; have a_hc54_22 := mt Int32.lt_iff_toInt_lt.mpr hc54_22; have a_hc61_23 := mt Int32.lt_iff_toInt_lt.mpr hc61_23; have a_hc68_24 := Int32.toInt_inj.mpr hc68_24; have l_0 : (48 : Int32).toInt = 48 := rfl; have l_1 : (64 : Int32).toInt = 64 := rfl; have l_2 : (90 : Int32).toInt = 90 := rfl; have l_3 : (95 : Int32).toInt = 95 := rfl; have l_4 : (97 : Int32).toInt = 97 := rfl; have l_5 : (122 : Int32).toInt = 122 := rfl; have l_6 : (192 : Int32).toInt = 192 := rfl; have l_7 : (255 : Int32).toInt = 255 := rfl; have l_8 : (215 : Int32).toInt = 215 := rfl; omega)]; rfl, N0, e0⟩ (by decide) (by decide)
                  · refine own_of (fun _ hh_ => XS.icmpNo X0.here hx rfl (hb hby dX_68) rfl (feq hc68_24).1 hh_) ?_
                    show own_Run p e below s _ _ _ (s₁.setTop (mkF m 71 #[.val (.int c1)] []))
                    refine own_of (fun _ hh_ => XS.iloadN X0.here hx rfl (hb hby dX_71) rfl hh_) ?_
                    show own_Run p e below s _ _ _ (s₁.setTop (mkF m 72 #[.val (.int c1)] [(.int c1)]))
                    refine own_of (fun _ hh_ => XS.sipush X0.here hx rfl (hb hby dX_72) hh_) ?_
                    show own_Run p e below s _ _ _ (s₁.setTop (mkF m 75 #[.val (.int c1)] [(.int (247 : Int32)), (.int c1)]))
                    by_cases hc75_25 : c1 = (247 : Int32)
                    · refine own_of (fun _ hh_ => XS.icmpYes X0.here hx rfl (pc0 := 75) (pc' := 82) rfl (hb hby dX_75) rfl (teq hc75_25).1 (by decide) (by decide) hh_) ?_
                      show own_Run p e below s _ _ _ (s₁.setTop (mkF m 82 #[.val (.int c1)] []))
                      refine own_of (fun _ hh_ => XS.iconst X0.here hx rfl (hb hby dX_82) hh_) ?_
                      show own_Run p e below s _ _ _ (s₁.setTop (mkF m 83 #[.val (.int c1)] [(.int (0 : Int32))]))
                      exact own_retN X0 hx (t := .boolean) hret hlk (by simp) (hb hby dX_83) ⟨by rw [if_neg (show ¬ (own_B c1) from by have a_hc3_1 := Int32.lt_iff_toInt_lt.mp hc3_1; have a_hc17_2 := mt Int32.lt_iff_toInt_lt.mpr hc17_2; have a_hc23_14 := Int32.lt_iff_toInt_lt.mp hc23_14; have a_hc31_15 := mt Int32.toInt_inj.mp hc31_15; have a_hc39_16 := mt Int32.lt_iff_toInt_lt.mpr hc39_16; have a_hc45_21 := Int32.lt_iff_toInt_lt.mp hc45_21; have a_hc54_22 := mt Int32.lt_iff_toInt_lt.mpr hc54_22; have a_hc61_23 := mt Int32.lt_iff_toInt_lt.mpr hc61_23; have a_hc68_24 := mt Int32.toInt_inj.mp hc68_24; have a_hc75_25 := Int32.toInt_inj.mpr hc75_25; have l_0 : (48 : Int32).toInt = 48 := rfl; have l_1 : (64 : Int32).toInt = 64 := rfl; have l_2 : (90 : Int32).toInt = 90 := rfl; have l_3 : (95 : Int32).toInt = 95 := rfl; have l_4 : (97 : Int32).toInt = 97 := rfl; have l_5 : (122 : Int32).toInt = 122 := rfl; have l_6 : (192 : Int32).toInt = 192 := rfl; have l_7 : (255 : Int32).toInt = 255 := rfl; have l_8 : (215 : Int32).toInt = 215 := rfl; have l_9 : (247 : Int32).toInt = 247 := rfl; omega)]; rfl, N0, e0⟩ (by decide) (by decide)
                    · refine own_of (fun _ hh_ => XS.icmpNo X0.here hx rfl (hb hby dX_75) rfl (feq hc75_25).1 hh_) ?_
                      show own_Run p e below s _ _ _ (s₁.setTop (mkF m 78 #[.val (.int c1)] []))
                      refine own_of (fun _ hh_ => XS.iconst X0.here hx rfl (hb hby dX_78) hh_) ?_
                      show own_Run p e below s _ _ _ (s₁.setTop (mkF m 79 #[.val (.int c1)] [(.int (1 : Int32))]))
                      refine own_of (fun _ hh_ => XS.goto X0.here hx rfl (pc0 := 79) (pc' := 83) rfl (hb hby dX_79) (by decide) (by decide) hh_) ?_
                      show own_Run p e below s _ _ _ (s₁.setTop (mkF m 83 #[.val (.int c1)] [(.int (1 : Int32))]))
                      exact own_retN X0 hx (t := .boolean) hret hlk (by simp) (hb hby dX_83) ⟨by rw [if_pos (show own_B c1 from by have a_hc3_1 := Int32.lt_iff_toInt_lt.mp hc3_1; have a_hc17_2 := mt Int32.lt_iff_toInt_lt.mpr hc17_2; have a_hc23_14 := Int32.lt_iff_toInt_lt.mp hc23_14; have a_hc31_15 := mt Int32.toInt_inj.mp hc31_15; have a_hc39_16 := mt Int32.lt_iff_toInt_lt.mpr hc39_16; have a_hc45_21 := Int32.lt_iff_toInt_lt.mp hc45_21; have a_hc54_22 := mt Int32.lt_iff_toInt_lt.mpr hc54_22; have a_hc61_23 := mt Int32.lt_iff_toInt_lt.mpr hc61_23; have a_hc68_24 := mt Int32.toInt_inj.mp hc68_24; have a_hc75_25 := mt Int32.toInt_inj.mp hc75_25; have l_0 : (48 : Int32).toInt = 48 := rfl; have l_1 : (64 : Int32).toInt = 64 := rfl; have l_2 : (90 : Int32).toInt = 90 := rfl; have l_3 : (95 : Int32).toInt = 95 := rfl; have l_4 : (97 : Int32).toInt = 97 := rfl; have l_5 : (122 : Int32).toInt = 122 := rfl; have l_6 : (192 : Int32).toInt = 192 := rfl; have l_7 : (255 : Int32).toInt = 255 := rfl; have l_8 : (215 : Int32).toInt = 215 := rfl; have l_9 : (247 : Int32).toInt = 247 := rfl; omega)]; rfl, N0, e0⟩ (by decide) (by decide)
            · refine own_of (fun _ hh_ => XS.icmpNo X0.here hx rfl (hb hby dX_45) rfl (flt hc45_21).2.2.1 hh_) ?_
              show own_Run p e below s _ _ _ (s₁.setTop (mkF m 48 #[.val (.int c1)] []))
              refine own_of (fun _ hh_ => XS.iconst X0.here hx rfl (hb hby dX_48) hh_) ?_
              show own_Run p e below s _ _ _ (s₁.setTop (mkF m 49 #[.val (.int c1)] [(.int (1 : Int32))]))
              exact own_retN X0 hx (t := .boolean) hret hlk (by simp) (hb hby dX_49) ⟨by rw [if_pos (show own_B c1 from by have a_hc3_1 := Int32.lt_iff_toInt_lt.mp hc3_1; have a_hc17_2 := mt Int32.lt_iff_toInt_lt.mpr hc17_2; have a_hc23_14 := Int32.lt_iff_toInt_lt.mp hc23_14; have a_hc31_15 := mt Int32.toInt_inj.mp hc31_15; have a_hc39_16 := mt Int32.lt_iff_toInt_lt.mpr hc39_16; have a_hc45_21 := mt Int32.lt_iff_toInt_lt.mpr hc45_21; have l_0 : (48 : Int32).toInt = 48 := rfl; have l_1 : (64 : Int32).toInt = 64 := rfl; have l_2 : (90 : Int32).toInt = 90 := rfl; have l_3 : (95 : Int32).toInt = 95 := rfl; have l_4 : (97 : Int32).toInt = 97 := rfl; have l_5 : (122 : Int32).toInt = 122 := rfl; omega)]; rfl, N0, e0⟩ (by decide) (by decide)
      · refine own_of (fun _ hh_ => XS.icmpNo X0.here hx rfl (hb hby dX_23) rfl (flt hc23_14).2.2.1 hh_) ?_
        show own_Run p e below s _ _ _ (s₁.setTop (mkF m 26 #[.val (.int c1)] []))
        refine own_of (fun _ hh_ => XS.iconst X0.here hx rfl (hb hby dX_26) hh_) ?_
        show own_Run p e below s _ _ _ (s₁.setTop (mkF m 27 #[.val (.int c1)] [(.int (1 : Int32))]))
        exact own_retN X0 hx (t := .boolean) hret hlk (by simp) (hb hby dX_27) ⟨by rw [if_pos (show own_B c1 from by have a_hc3_1 := Int32.lt_iff_toInt_lt.mp hc3_1; have a_hc17_2 := mt Int32.lt_iff_toInt_lt.mpr hc17_2; have a_hc23_14 := mt Int32.lt_iff_toInt_lt.mpr hc23_14; have l_0 : (48 : Int32).toInt = 48 := rfl; have l_1 : (64 : Int32).toInt = 64 := rfl; have l_2 : (90 : Int32).toInt = 90 := rfl; omega)]; rfl, N0, e0⟩ (by decide) (by decide)
  · refine own_of (fun _ hh_ => XS.icmpNo X0.here hx rfl (hb hby dX_3) rfl (flt hc3_1).1 hh_) ?_
    show own_Run p e below s _ _ _ (s₁.setTop (mkF m 6 #[.val (.int c1)] []))
    refine own_of (fun _ hh_ => XS.iloadN X0.here hx rfl (hb hby dX_6) rfl hh_) ?_
    show own_Run p e below s _ _ _ (s₁.setTop (mkF m 7 #[.val (.int c1)] [(.int c1)]))
    refine own_of (fun _ hh_ => XS.bipush X0.here hx rfl (hb hby dX_7) hh_) ?_
    show own_Run p e below s _ _ _ (s₁.setTop (mkF m 9 #[.val (.int c1)] [(.int (57 : Int32)), (.int c1)]))
    by_cases hc9_26 : (57 : Int32) < c1
    · refine own_of (fun _ hh_ => XS.icmpYes X0.here hx rfl (pc0 := 9) (pc' := 14) rfl (hb hby dX_9) rfl (tlt hc9_26).2.2.1 (by decide) (by decide) hh_) ?_
      show own_Run p e below s _ _ _ (s₁.setTop (mkF m 14 #[.val (.int c1)] []))
      refine own_of (fun _ hh_ => XS.iloadN X0.here hx rfl (hb hby dX_14) rfl hh_) ?_
      show own_Run p e below s _ _ _ (s₁.setTop (mkF m 15 #[.val (.int c1)] [(.int c1)]))
      refine own_of (fun _ hh_ => XS.bipush X0.here hx rfl (hb hby dX_15) hh_) ?_
      show own_Run p e below s _ _ _ (s₁.setTop (mkF m 17 #[.val (.int c1)] [(.int (64 : Int32)), (.int c1)]))
      by_cases hc17_27 : c1 < (64 : Int32)
      · refine own_of (fun _ hh_ => XS.icmpYes X0.here hx rfl (pc0 := 17) (pc' := 28) rfl (hb hby dX_17) rfl (tlt hc17_27).1 (by decide) (by decide) hh_) ?_
        show own_Run p e below s _ _ _ (s₁.setTop (mkF m 28 #[.val (.int c1)] []))
        refine own_of (fun _ hh_ => XS.iloadN X0.here hx rfl (hb hby dX_28) rfl hh_) ?_
        show own_Run p e below s _ _ _ (s₁.setTop (mkF m 29 #[.val (.int c1)] [(.int c1)]))
        refine own_of (fun _ hh_ => XS.bipush X0.here hx rfl (hb hby dX_29) hh_) ?_
        show own_Run p e below s _ _ _ (s₁.setTop (mkF m 31 #[.val (.int c1)] [(.int (95 : Int32)), (.int c1)]))
        by_cases hc31_28 : c1 = (95 : Int32)
        · refine own_of (fun _ hh_ => XS.icmpNo X0.here hx rfl (hb hby dX_31) rfl (teq hc31_28).2 hh_) ?_
          show own_Run p e below s _ _ _ (s₁.setTop (mkF m 34 #[.val (.int c1)] []))
          refine own_of (fun _ hh_ => XS.iconst X0.here hx rfl (hb hby dX_34) hh_) ?_
          show own_Run p e below s _ _ _ (s₁.setTop (mkF m 35 #[.val (.int c1)] [(.int (1 : Int32))]))
          exact own_retN X0 hx (t := .boolean) hret hlk (by simp) (hb hby dX_35) ⟨by rw [if_pos (show own_B c1 from by have a_hc3_1 := mt Int32.lt_iff_toInt_lt.mpr hc3_1; have a_hc9_26 := Int32.lt_iff_toInt_lt.mp hc9_26; have a_hc17_27 := Int32.lt_iff_toInt_lt.mp hc17_27; have a_hc31_28 := Int32.toInt_inj.mpr hc31_28; have l_0 : (48 : Int32).toInt = 48 := rfl; have l_1 : (57 : Int32).toInt = 57 := rfl; have l_2 : (64 : Int32).toInt = 64 := rfl; have l_3 : (95 : Int32).toInt = 95 := rfl; omega)]; rfl, N0, e0⟩ (by decide) (by decide)
        · refine own_of (fun _ hh_ => XS.icmpYes X0.here hx rfl (pc0 := 31) (pc' := 36) rfl (hb hby dX_31) rfl (feq hc31_28).2 (by decide) (by decide) hh_) ?_
          show own_Run p e below s _ _ _ (s₁.setTop (mkF m 36 #[.val (.int c1)] []))
          refine own_of (fun _ hh_ => XS.iloadN X0.here hx rfl (hb hby dX_36) rfl hh_) ?_
          show own_Run p e below s _ _ _ (s₁.setTop (mkF m 37 #[.val (.int c1)] [(.int c1)]))
          refine own_of (fun _ hh_ => XS.bipush X0.here hx rfl (hb hby dX_37) hh_) ?_
          show own_Run p e below s _ _ _ (s₁.setTop (mkF m 39 #[.val (.int c1)] [(.int (97 : Int32)), (.int c1)]))
          by_cases hc39_29 : c1 < (97 : Int32)
          · refine own_of (fun _ hh_ => XS.icmpYes X0.here hx rfl (pc0 := 39) (pc' := 50) rfl (hb hby dX_39) rfl (tlt hc39_29).1 (by decide) (by decide) hh_) ?_
            show own_Run p e below s _ _ _ (s₁.setTop (mkF m 50 #[.val (.int c1)] []))
            refine own_of (fun _ hh_ => XS.iloadN X0.here hx rfl (hb hby dX_50) rfl hh_) ?_
            show own_Run p e below s _ _ _ (s₁.setTop (mkF m 51 #[.val (.int c1)] [(.int c1)]))
            refine own_of (fun _ hh_ => XS.sipush X0.here hx rfl (hb hby dX_51) hh_) ?_
            show own_Run p e below s _ _ _ (s₁.setTop (mkF m 54 #[.val (.int c1)] [(.int (192 : Int32)), (.int c1)]))
            by_cases hc54_30 : c1 < (192 : Int32)
            · refine own_of (fun _ hh_ => XS.icmpYes X0.here hx rfl (pc0 := 54) (pc' := 84) rfl (hb hby dX_54) rfl (tlt hc54_30).1 (by decide) (by decide) hh_) ?_
              show own_Run p e below s _ _ _ (s₁.setTop (mkF m 84 #[.val (.int c1)] []))
              refine own_of (fun _ hh_ => XS.iconst X0.here hx rfl (hb hby dX_84) hh_) ?_
              show own_Run p e below s _ _ _ (s₁.setTop (mkF m 85 #[.val (.int c1)] [(.int (0 : Int32))]))
              exact own_retN X0 hx (t := .boolean) hret hlk (by simp) (hb hby dX_85) ⟨by rw [if_neg (show ¬ (own_B c1) from by have a_hc3_1 := mt Int32.lt_iff_toInt_lt.mpr hc3_1; have a_hc9_26 := Int32.lt_iff_toInt_lt.mp hc9_26; have a_hc17_27 := Int32.lt_iff_toInt_lt.mp hc17_27; have a_hc31_28 := mt Int32.toInt_inj.mp hc31_28; have a_hc39_29 := Int32.lt_iff_toInt_lt.mp hc39_29; have a_hc54_30 := Int32.lt_iff_toInt_lt.mp hc54_30; have l_0 : (48 : Int32).toInt = 48 := rfl; have l_1 : (57 : Int32).toInt = 57 := rfl; have l_2 : (64 : Int32).toInt = 64 := rfl; have l_3 : (95 : Int32).toInt = 95 := rfl; have l_4 : (97 : Int32).toInt = 97 := rfl; have l_5 : (192 : Int32).toInt = 192 := rfl; omega)]; rfl, N0, e0⟩ (by decide) (by decide)
            · refine own_of (fun _ hh_ => XS.icmpNo X0.here hx rfl (hb hby dX_54) rfl (flt hc54_30).1 hh_) ?_
              show own_Run p e below s _ _ _ (s₁.setTop (mkF m 57 #[.val (.int c1)] []))
              refine own_of (fun _ hh_ => XS.iloadN X0.here hx rfl (hb hby dX_57) rfl hh_) ?_
              show own_Run p e below s _ _ _ (s₁.setTop (mkF m 58 #[.val (.int c1)] [(.int c1)]))
              refine own_of (fun _ hh_ => XS.sipush X0.here hx rfl (hb hby dX_58) hh_) ?_
              show own_Run p e below s _ _ _ (s₁.setTop (mkF m 61 #[.val (.int c1)] [(.int (255 : Int32)), (.int c1)]))
              by_cases hc61_31 : (255 : Int32) < c1
              · refine own_of (fun _ hh_ => XS.icmpYes X0.here hx rfl (pc0 := 61) (pc' := 84) rfl (hb hby dX_61) rfl (tlt hc61_31).2.2.1 (by decide) (by decide) hh_) ?_
                show own_Run p e below s _ _ _ (s₁.setTop (mkF m 84 #[.val (.int c1)] []))
                refine own_of (fun _ hh_ => XS.iconst X0.here hx rfl (hb hby dX_84) hh_) ?_
                show own_Run p e below s _ _ _ (s₁.setTop (mkF m 85 #[.val (.int c1)] [(.int (0 : Int32))]))
                exact own_retN X0 hx (t := .boolean) hret hlk (by simp) (hb hby dX_85) ⟨by rw [if_neg (show ¬ (own_B c1) from by have a_hc3_1 := mt Int32.lt_iff_toInt_lt.mpr hc3_1; have a_hc9_26 := Int32.lt_iff_toInt_lt.mp hc9_26; have a_hc17_27 := Int32.lt_iff_toInt_lt.mp hc17_27; have a_hc31_28 := mt Int32.toInt_inj.mp hc31_28; have a_hc39_29 := Int32.lt_iff_toInt_lt.mp hc39_29; have a_hc54_30 := mt Int32.lt_iff_toInt_lt.mpr hc54_30; have a_hc61_31 := Int32.lt_iff_toInt_lt.mp hc61_31; have l_0 : (48 : Int32).toInt = 48 := rfl; have l_1 : (57 : Int32).toInt = 57 := rfl; have l_2 : (64 : Int32).toInt = 64 := rfl; have l_3 : (95 : Int32).toInt = 95 := rfl; have l_4 : (97 : Int32).toInt = 97 := rfl; have l_5 : (192 : Int32).toInt = 192 := rfl; have l_6 : (255 : Int32).toInt = 255 := rfl; omega)]; rfl, N0, e0⟩ (by decide) (by decide)
              · refine own_of (fun _ hh_ => XS.icmpNo X0.here hx rfl (hb hby dX_61) rfl (flt hc61_31).2.2.1 hh_) ?_
                show own_Run p e below s _ _ _ (s₁.setTop (mkF m 64 #[.val (.int c1)] []))
                refine own_of (fun _ hh_ => XS.iloadN X0.here hx rfl (hb hby dX_64) rfl hh_) ?_
                show own_Run p e below s _ _ _ (s₁.setTop (mkF m 65 #[.val (.int c1)] [(.int c1)]))
                refine own_of (fun _ hh_ => XS.sipush X0.here hx rfl (hb hby dX_65) hh_) ?_
                show own_Run p e below s _ _ _ (s₁.setTop (mkF m 68 #[.val (.int c1)] [(.int (215 : Int32)), (.int c1)]))
                by_cases hc68_32 : c1 = (215 : Int32)
                · refine own_of (fun _ hh_ => XS.icmpYes X0.here hx rfl (pc0 := 68) (pc' := 82) rfl (hb hby dX_68) rfl (teq hc68_32).1 (by decide) (by decide) hh_) ?_
                  show own_Run p e below s _ _ _ (s₁.setTop (mkF m 82 #[.val (.int c1)] []))
                  refine own_of (fun _ hh_ => XS.iconst X0.here hx rfl (hb hby dX_82) hh_) ?_
                  show own_Run p e below s _ _ _ (s₁.setTop (mkF m 83 #[.val (.int c1)] [(.int (0 : Int32))]))
                  exact own_retN X0 hx (t := .boolean) hret hlk (by simp) (hb hby dX_83) ⟨by rw [if_neg (show ¬ (own_B c1) from by have a_hc3_1 := mt Int32.lt_iff_toInt_lt.mpr hc3_1; have a_hc9_26 := Int32.lt_iff_toInt_lt.mp hc9_26; have a_hc17_27 := Int32.lt_iff_toInt_lt.mp hc17_27; have a_hc31_28 := mt Int32.toInt_inj.mp hc31_28; have a_hc39_29 := Int32.lt_iff_toInt_lt.mp hc39_29; have a_hc54_30 := mt Int32.lt_iff_toInt_lt.mpr hc54_30; have a_hc61_31 := mt Int32.lt_iff_toInt_lt.mpr hc61_31; have a_hc68_32 := Int32.toInt_inj.mpr hc68_32; have l_0 : (48 : Int32).toInt = 48 := rfl; have l_1 : (57 : Int32).toInt = 57 := rfl; have l_2 : (64 : Int32).toInt = 64 := rfl; have l_3 : (95 : Int32).toInt = 95 := rfl; have l_4 : (97 : Int32).toInt = 97 := rfl; have l_5 : (192 : Int32).toInt = 192 := rfl; have l_6 : (255 : Int32).toInt = 255 := rfl; have l_7 : (215 : Int32).toInt = 215 := rfl; omega)]; rfl, N0, e0⟩ (by decide) (by decide)
                · refine own_of (fun _ hh_ => XS.icmpNo X0.here hx rfl (hb hby dX_68) rfl (feq hc68_32).1 hh_) ?_
                  show own_Run p e below s _ _ _ (s₁.setTop (mkF m 71 #[.val (.int c1)] []))
                  refine own_of (fun _ hh_ => XS.iloadN X0.here hx rfl (hb hby dX_71) rfl hh_) ?_
                  show own_Run p e below s _ _ _ (s₁.setTop (mkF m 72 #[.val (.int c1)] [(.int c1)]))
                  refine own_of (fun _ hh_ => XS.sipush X0.here hx rfl (hb hby dX_72) hh_) ?_
                  show own_Run p e below s _ _ _ (s₁.setTop (mkF m 75 #[.val (.int c1)] [(.int (247 : Int32)), (.int c1)]))
                  by_cases hc75_33 : c1 = (247 : Int32)
                  · refine own_of (fun _ hh_ => XS.icmpYes X0.here hx rfl (pc0 := 75) (pc' := 82) rfl (hb hby dX_75) rfl (teq hc75_33).1 (by decide) (by decide) hh_) ?_
                    show own_Run p e below s _ _ _ (s₁.setTop (mkF m 82 #[.val (.int c1)] []))
                    refine own_of (fun _ hh_ => XS.iconst X0.here hx rfl (hb hby dX_82) hh_) ?_
                    show own_Run p e below s _ _ _ (s₁.setTop (mkF m 83 #[.val (.int c1)] [(.int (0 : Int32))]))
                    exact own_retN X0 hx (t := .boolean) hret hlk (by simp) (hb hby dX_83) ⟨by rw [if_neg (show ¬ (own_B c1) from by have a_hc3_1 := mt Int32.lt_iff_toInt_lt.mpr hc3_1; have a_hc9_26 := Int32.lt_iff_toInt_lt.mp hc9_26; have a_hc17_27 := Int32.lt_iff_toInt_lt.mp hc17_27; have a_hc31_28 := mt Int32.toInt_inj.mp hc31_28; have a_hc39_29 := Int32.lt_iff_toInt_lt.mp hc39_29; have a_hc54_30 := mt Int32.lt_iff_toInt_lt.mpr hc54_30; have a_hc61_31 := mt Int32.lt_iff_toInt_lt.mpr hc61_31; have a_hc68_32 := mt Int32.toInt_inj.mp hc68_32; have a_hc75_33 := Int32.toInt_inj.mpr hc75_33; have l_0 : (48 : Int32).toInt = 48 := rfl; have l_1 : (57 : Int32).toInt = 57 := rfl; have l_2 : (64 : Int32).toInt = 64 := rfl; have l_3 : (95 : Int32).toInt = 95 := rfl; have l_4 : (97 : Int32).toInt = 97 := rfl; have l_5 : (192 : Int32).toInt = 192 := rfl; have l_6 : (255 : Int32).toInt = 255 := rfl; have l_7 : (215 : Int32).toInt = 215 := rfl; have l_8 : (247 : Int32).toInt = 247 := rfl; omega)]; rfl, N0, e0⟩ (by decide) (by decide)
                  · refine own_of (fun _ hh_ => XS.icmpNo X0.here hx rfl (hb hby dX_75) rfl (feq hc75_33).1 hh_) ?_
                    show own_Run p e below s _ _ _ (s₁.setTop (mkF m 78 #[.val (.int c1)] []))
                    refine own_of (fun _ hh_ => XS.iconst X0.here hx rfl (hb hby dX_78) hh_) ?_
                    show own_Run p e below s _ _ _ (s₁.setTop (mkF m 79 #[.val (.int c1)] [(.int (1 : Int32))]))
                    refine own_of (fun _ hh_ => XS.goto X0.here hx rfl (pc0 := 79) (pc' := 83) rfl (hb hby dX_79) (by decide) (by decide) hh_) ?_
                    show own_Run p e below s _ _ _ (s₁.setTop (mkF m 83 #[.val (.int c1)] [(.int (1 : Int32))]))
                    exact own_retN X0 hx (t := .boolean) hret hlk (by simp) (hb hby dX_83) ⟨by rw [if_pos (show own_B c1 from by have a_hc3_1 := mt Int32.lt_iff_toInt_lt.mpr hc3_1; have a_hc9_26 := Int32.lt_iff_toInt_lt.mp hc9_26; have a_hc17_27 := Int32.lt_iff_toInt_lt.mp hc17_27; have a_hc31_28 := mt Int32.toInt_inj.mp hc31_28; have a_hc39_29 := Int32.lt_iff_toInt_lt.mp hc39_29; have a_hc54_30 := mt Int32.lt_iff_toInt_lt.mpr hc54_30; have a_hc61_31 := mt Int32.lt_iff_toInt_lt.mpr hc61_31; have a_hc68_32 := mt Int32.toInt_inj.mp hc68_32; have a_hc75_33 := mt Int32.toInt_inj.mp hc75_33; have l_0 : (48 : Int32).toInt = 48 := rfl; have l_1 : (57 : Int32).toInt = 57 := rfl; have l_2 : (64 : Int32).toInt = 64 := rfl; have l_3 : (95 : Int32).toInt = 95 := rfl; have l_4 : (97 : Int32).toInt = 97 := rfl; have l_5 : (192 : Int32).toInt = 192 := rfl; have l_6 : (255 : Int32).toInt = 255 := rfl; have l_7 : (215 : Int32).toInt = 215 := rfl; have l_8 : (247 : Int32).toInt = 247 := rfl; omega)]; rfl, N0, e0⟩ (by decide) (by decide)
          · refine own_of (fun _ hh_ => XS.icmpNo X0.here hx rfl (hb hby dX_39) rfl (flt hc39_29).1 hh_) ?_
            show own_Run p e below s _ _ _ (s₁.setTop (mkF m 42 #[.val (.int c1)] []))
            refine own_of (fun _ hh_ => XS.iloadN X0.here hx rfl (hb hby dX_42) rfl hh_) ?_
            show own_Run p e below s _ _ _ (s₁.setTop (mkF m 43 #[.val (.int c1)] [(.int c1)]))
            refine own_of (fun _ hh_ => XS.bipush X0.here hx rfl (hb hby dX_43) hh_) ?_
            show own_Run p e below s _ _ _ (s₁.setTop (mkF m 45 #[.val (.int c1)] [(.int (122 : Int32)), (.int c1)]))
            by_cases hc45_34 : (122 : Int32) < c1
            · refine own_of (fun _ hh_ => XS.icmpYes X0.here hx rfl (pc0 := 45) (pc' := 50) rfl (hb hby dX_45) rfl (tlt hc45_34).2.2.1 (by decide) (by decide) hh_) ?_
              show own_Run p e below s _ _ _ (s₁.setTop (mkF m 50 #[.val (.int c1)] []))
              refine own_of (fun _ hh_ => XS.iloadN X0.here hx rfl (hb hby dX_50) rfl hh_) ?_
              show own_Run p e below s _ _ _ (s₁.setTop (mkF m 51 #[.val (.int c1)] [(.int c1)]))
              refine own_of (fun _ hh_ => XS.sipush X0.here hx rfl (hb hby dX_51) hh_) ?_
              show own_Run p e below s _ _ _ (s₁.setTop (mkF m 54 #[.val (.int c1)] [(.int (192 : Int32)), (.int c1)]))
              by_cases hc54_35 : c1 < (192 : Int32)
              · refine own_of (fun _ hh_ => XS.icmpYes X0.here hx rfl (pc0 := 54) (pc' := 84) rfl (hb hby dX_54) rfl (tlt hc54_35).1 (by decide) (by decide) hh_) ?_
                show own_Run p e below s _ _ _ (s₁.setTop (mkF m 84 #[.val (.int c1)] []))
                refine own_of (fun _ hh_ => XS.iconst X0.here hx rfl (hb hby dX_84) hh_) ?_
                show own_Run p e below s _ _ _ (s₁.setTop (mkF m 85 #[.val (.int c1)] [(.int (0 : Int32))]))
                exact own_retN X0 hx (t := .boolean) hret hlk (by simp) (hb hby dX_85) ⟨by rw [if_neg (show ¬ (own_B c1) from by have a_hc3_1 := mt Int32.lt_iff_toInt_lt.mpr hc3_1; have a_hc9_26 := Int32.lt_iff_toInt_lt.mp hc9_26; have a_hc17_27 := Int32.lt_iff_toInt_lt.mp hc17_27; have a_hc31_28 := mt Int32.toInt_inj.mp hc31_28; have a_hc39_29 := mt Int32.lt_iff_toInt_lt.mpr hc39_29; have a_hc45_34 := Int32.lt_iff_toInt_lt.mp hc45_34; have a_hc54_35 := Int32.lt_iff_toInt_lt.mp hc54_35; have l_0 : (48 : Int32).toInt = 48 := rfl; have l_1 : (57 : Int32).toInt = 57 := rfl; have l_2 : (64 : Int32).toInt = 64 := rfl; have l_3 : (95 : Int32).toInt = 95 := rfl; have l_4 : (97 : Int32).toInt = 97 := rfl; have l_5 : (122 : Int32).toInt = 122 := rfl; have l_6 : (192 : Int32).toInt = 192 := rfl; omega)]; rfl, N0, e0⟩ (by decide) (by decide)
              · refine own_of (fun _ hh_ => XS.icmpNo X0.here hx rfl (hb hby dX_54) rfl (flt hc54_35).1 hh_) ?_
                show own_Run p e below s _ _ _ (s₁.setTop (mkF m 57 #[.val (.int c1)] []))
                refine own_of (fun _ hh_ => XS.iloadN X0.here hx rfl (hb hby dX_57) rfl hh_) ?_
                show own_Run p e below s _ _ _ (s₁.setTop (mkF m 58 #[.val (.int c1)] [(.int c1)]))
                refine own_of (fun _ hh_ => XS.sipush X0.here hx rfl (hb hby dX_58) hh_) ?_
                show own_Run p e below s _ _ _ (s₁.setTop (mkF m 61 #[.val (.int c1)] [(.int (255 : Int32)), (.int c1)]))
                by_cases hc61_36 : (255 : Int32) < c1
                · refine own_of (fun _ hh_ => XS.icmpYes X0.here hx rfl (pc0 := 61) (pc' := 84) rfl (hb hby dX_61) rfl (tlt hc61_36).2.2.1 (by decide) (by decide) hh_) ?_
                  show own_Run p e below s _ _ _ (s₁.setTop (mkF m 84 #[.val (.int c1)] []))
                  refine own_of (fun _ hh_ => XS.iconst X0.here hx rfl (hb hby dX_84) hh_) ?_
                  show own_Run p e below s _ _ _ (s₁.setTop (mkF m 85 #[.val (.int c1)] [(.int (0 : Int32))]))
                  exact own_retN X0 hx (t := .boolean) hret hlk (by simp) (hb hby dX_85) ⟨by rw [if_neg (show ¬ (own_B c1) from by have a_hc3_1 := mt Int32.lt_iff_toInt_lt.mpr hc3_1; have a_hc9_26 := Int32.lt_iff_toInt_lt.mp hc9_26; have a_hc17_27 := Int32.lt_iff_toInt_lt.mp hc17_27; have a_hc31_28 := mt Int32.toInt_inj.mp hc31_28; have a_hc39_29 := mt Int32.lt_iff_toInt_lt.mpr hc39_29; have a_hc45_34 := Int32.lt_iff_toInt_lt.mp hc45_34; have a_hc54_35 := mt Int32.lt_iff_toInt_lt.mpr hc54_35; have a_hc61_36 := Int32.lt_iff_toInt_lt.mp hc61_36; have l_0 : (48 : Int32).toInt = 48 := rfl; have l_1 : (57 : Int32).toInt = 57 := rfl; have l_2 : (64 : Int32).toInt = 64 := rfl; have l_3 : (95 : Int32).toInt = 95 := rfl; have l_4 : (97 : Int32).toInt = 97 := rfl; have l_5 : (122 : Int32).toInt = 122 := rfl; have l_6 : (192 : Int32).toInt = 192 := rfl; have l_7 : (255 : Int32).toInt = 255 := rfl; omega)]; rfl, N0, e0⟩ (by decide) (by decide)
                · refine own_of (fun _ hh_ => XS.icmpNo X0.here hx rfl (hb hby dX_61) rfl (flt hc61_36).2.2.1 hh_) ?_
                  show own_Run p e below s _ _ _ (s₁.setTop (mkF m 64 #[.val (.int c1)] []))
                  refine own_of (fun _ hh_ => XS.iloadN X0.here hx rfl (hb hby dX_64) rfl hh_) ?_
                  show own_Run p e below s _ _ _ (s₁.setTop (mkF m 65 #[.val (.int c1)] [(.int c1)]))
                  refine own_of (fun _ hh_ => XS.sipush X0.here hx rfl (hb hby dX_65) hh_) ?_
                  show own_Run p e below s _ _ _ (s₁.setTop (mkF m 68 #[.val (.int c1)] [(.int (215 : Int32)), (.int c1)]))
                  by_cases hc68_37 : c1 = (215 : Int32)
                  · refine own_of (fun _ hh_ => XS.icmpYes X0.here hx rfl (pc0 := 68) (pc' := 82) rfl (hb hby dX_68) rfl (teq hc68_37).1 (by decide) (by decide) hh_) ?_
                    show own_Run p e below s _ _ _ (s₁.setTop (mkF m 82 #[.val (.int c1)] []))
                    refine own_of (fun _ hh_ => XS.iconst X0.here hx rfl (hb hby dX_82) hh_) ?_
                    show own_Run p e below s _ _ _ (s₁.setTop (mkF m 83 #[.val (.int c1)] [(.int (0 : Int32))]))
                    exact own_retN X0 hx (t := .boolean) hret hlk (by simp) (hb hby dX_83) ⟨by rw [if_neg (show ¬ (own_B c1) from by have a_hc3_1 := mt Int32.lt_iff_toInt_lt.mpr hc3_1; have a_hc9_26 := Int32.lt_iff_toInt_lt.mp hc9_26; have a_hc17_27 := Int32.lt_iff_toInt_lt.mp hc17_27; have a_hc31_28 := mt Int32.toInt_inj.mp hc31_28; have a_hc39_29 := mt Int32.lt_iff_toInt_lt.mpr hc39_29; have a_hc45_34 := Int32.lt_iff_toInt_lt.mp hc45_34; have a_hc54_35 := mt Int32.lt_iff_toInt_lt.mpr hc54_35; have a_hc61_36 := mt Int32.lt_iff_toInt_lt.mpr hc61_36; have a_hc68_37 := Int32.toInt_inj.mpr hc68_37; have l_0 : (48 : Int32).toInt = 48 := rfl; have l_1 : (57 : Int32).toInt = 57 := rfl; have l_2 : (64 : Int32).toInt = 64 := rfl; have l_3 : (95 : Int32).toInt = 95 := rfl; have l_4 : (97 : Int32).toInt = 97 := rfl; have l_5 : (122 : Int32).toInt = 122 := rfl; have l_6 : (192 : Int32).toInt = 192 := rfl; have l_7 : (255 : Int32).toInt = 255 := rfl; have l_8 : (215 : Int32).toInt = 215 := rfl; omega)]; rfl, N0, e0⟩ (by decide) (by decide)
                  · refine own_of (fun _ hh_ => XS.icmpNo X0.here hx rfl (hb hby dX_68) rfl (feq hc68_37).1 hh_) ?_
                    show own_Run p e below s _ _ _ (s₁.setTop (mkF m 71 #[.val (.int c1)] []))
                    refine own_of (fun _ hh_ => XS.iloadN X0.here hx rfl (hb hby dX_71) rfl hh_) ?_
                    show own_Run p e below s _ _ _ (s₁.setTop (mkF m 72 #[.val (.int c1)] [(.int c1)]))
                    refine own_of (fun _ hh_ => XS.sipush X0.here hx rfl (hb hby dX_72) hh_) ?_
                    show own_Run p e below s _ _ _ (s₁.setTop (mkF m 75 #[.val (.int c1)] [(.int (247 : Int32)), (.int c1)]))
                    by_cases hc75_38 : c1 = (247 : Int32)
                    · refine own_of (fun _ hh_ => XS.icmpYes X0.here hx rfl (pc0 := 75) (pc' := 82) rfl (hb hby dX_75) rfl (teq hc75_38).1 (by decide) (by decide) hh_) ?_
                      show own_Run p e below s _ _ _ (s₁.setTop (mkF m 82 #[.val (.int c1)] []))
                      refine own_of (fun _ hh_ => XS.iconst X0.here hx rfl (hb hby dX_82) hh_) ?_
                      show own_Run p e below s _ _ _ (s₁.setTop (mkF m 83 #[.val (.int c1)] [(.int (0 : Int32))]))
                      exact own_retN X0 hx (t := .boolean) hret hlk (by simp) (hb hby dX_83) ⟨by rw [if_neg (show ¬ (own_B c1) from by have a_hc3_1 := mt Int32.lt_iff_toInt_lt.mpr hc3_1; have a_hc9_26 := Int32.lt_iff_toInt_lt.mp hc9_26; have a_hc17_27 := Int32.lt_iff_toInt_lt.mp hc17_27; have a_hc31_28 := mt Int32.toInt_inj.mp hc31_28; have a_hc39_29 := mt Int32.lt_iff_toInt_lt.mpr hc39_29; have a_hc45_34 := Int32.lt_iff_toInt_lt.mp hc45_34; have a_hc54_35 := mt Int32.lt_iff_toInt_lt.mpr hc54_35; have a_hc61_36 := mt Int32.lt_iff_toInt_lt.mpr hc61_36; have a_hc68_37 := mt Int32.toInt_inj.mp hc68_37; have a_hc75_38 := Int32.toInt_inj.mpr hc75_38; have l_0 : (48 : Int32).toInt = 48 := rfl; have l_1 : (57 : Int32).toInt = 57 := rfl; have l_2 : (64 : Int32).toInt = 64 := rfl; have l_3 : (95 : Int32).toInt = 95 := rfl; have l_4 : (97 : Int32).toInt = 97 := rfl; have l_5 : (122 : Int32).toInt = 122 := rfl; have l_6 : (192 : Int32).toInt = 192 := rfl; have l_7 : (255 : Int32).toInt = 255 := rfl; have l_8 : (215 : Int32).toInt = 215 := rfl; have l_9 : (247 : Int32).toInt = 247 := rfl; omega)]; rfl, N0, e0⟩ (by decide) (by decide)
                    · refine own_of (fun _ hh_ => XS.icmpNo X0.here hx rfl (hb hby dX_75) rfl (feq hc75_38).1 hh_) ?_
                      show own_Run p e below s _ _ _ (s₁.setTop (mkF m 78 #[.val (.int c1)] []))
                      refine own_of (fun _ hh_ => XS.iconst X0.here hx rfl (hb hby dX_78) hh_) ?_
                      show own_Run p e below s _ _ _ (s₁.setTop (mkF m 79 #[.val (.int c1)] [(.int (1 : Int32))]))
                      refine own_of (fun _ hh_ => XS.goto X0.here hx rfl (pc0 := 79) (pc' := 83) rfl (hb hby dX_79) (by decide) (by decide) hh_) ?_
                      show own_Run p e below s _ _ _ (s₁.setTop (mkF m 83 #[.val (.int c1)] [(.int (1 : Int32))]))
                      exact own_retN X0 hx (t := .boolean) hret hlk (by simp) (hb hby dX_83) ⟨by rw [if_pos (show own_B c1 from by have a_hc3_1 := mt Int32.lt_iff_toInt_lt.mpr hc3_1; have a_hc9_26 := Int32.lt_iff_toInt_lt.mp hc9_26; have a_hc17_27 := Int32.lt_iff_toInt_lt.mp hc17_27; have a_hc31_28 := mt Int32.toInt_inj.mp hc31_28; have a_hc39_29 := mt Int32.lt_iff_toInt_lt.mpr hc39_29; have a_hc45_34 := Int32.lt_iff_toInt_lt.mp hc45_34; have a_hc54_35 := mt Int32.lt_iff_toInt_lt.mpr hc54_35; have a_hc61_36 := mt Int32.lt_iff_toInt_lt.mpr hc61_36; have a_hc68_37 := mt Int32.toInt_inj.mp hc68_37; have a_hc75_38 := mt Int32.toInt_inj.mp hc75_38; have l_0 : (48 : Int32).toInt = 48 := rfl; have l_1 : (57 : Int32).toInt = 57 := rfl; have l_2 : (64 : Int32).toInt = 64 := rfl; have l_3 : (95 : Int32).toInt = 95 := rfl; have l_4 : (97 : Int32).toInt = 97 := rfl; have l_5 : (122 : Int32).toInt = 122 := rfl; have l_6 : (192 : Int32).toInt = 192 := rfl; have l_7 : (255 : Int32).toInt = 255 := rfl; have l_8 : (215 : Int32).toInt = 215 := rfl; have l_9 : (247 : Int32).toInt = 247 := rfl; omega)]; rfl, N0, e0⟩ (by decide) (by decide)
            · refine own_of (fun _ hh_ => XS.icmpNo X0.here hx rfl (hb hby dX_45) rfl (flt hc45_34).2.2.1 hh_) ?_
              show own_Run p e below s _ _ _ (s₁.setTop (mkF m 48 #[.val (.int c1)] []))
              refine own_of (fun _ hh_ => XS.iconst X0.here hx rfl (hb hby dX_48) hh_) ?_
              show own_Run p e below s _ _ _ (s₁.setTop (mkF m 49 #[.val (.int c1)] [(.int (1 : Int32))]))
              exact own_retN X0 hx (t := .boolean) hret hlk (by simp) (hb hby dX_49) ⟨by rw [if_pos (show own_B c1 from by have a_hc3_1 := mt Int32.lt_iff_toInt_lt.mpr hc3_1; have a_hc9_26 := Int32.lt_iff_toInt_lt.mp hc9_26; have a_hc17_27 := Int32.lt_iff_toInt_lt.mp hc17_27; have a_hc31_28 := mt Int32.toInt_inj.mp hc31_28; have a_hc39_29 := mt Int32.lt_iff_toInt_lt.mpr hc39_29; have a_hc45_34 := mt Int32.lt_iff_toInt_lt.mpr hc45_34; have l_0 : (48 : Int32).toInt = 48 := rfl; have l_1 : (57 : Int32).toInt = 57 := rfl; have l_2 : (64 : Int32).toInt = 64 := rfl; have l_3 : (95 : Int32).toInt = 95 := rfl; have l_4 : (97 : Int32).toInt = 97 := rfl; have l_5 : (122 : Int32).toInt = 122 := rfl; omega)]; rfl, N0, e0⟩ (by decide) (by decide)
      · refine own_of (fun _ hh_ => XS.icmpNo X0.here hx rfl (hb hby dX_17) rfl (flt hc17_27).1 hh_) ?_
        show own_Run p e below s _ _ _ (s₁.setTop (mkF m 20 #[.val (.int c1)] []))
        refine own_of (fun _ hh_ => XS.iloadN X0.here hx rfl (hb hby dX_20) rfl hh_) ?_
        show own_Run p e below s _ _ _ (s₁.setTop (mkF m 21 #[.val (.int c1)] [(.int c1)]))
        refine own_of (fun _ hh_ => XS.bipush X0.here hx rfl (hb hby dX_21) hh_) ?_
        show own_Run p e below s _ _ _ (s₁.setTop (mkF m 23 #[.val (.int c1)] [(.int (90 : Int32)), (.int c1)]))
        by_cases hc23_39 : (90 : Int32) < c1
        · refine own_of (fun _ hh_ => XS.icmpYes X0.here hx rfl (pc0 := 23) (pc' := 28) rfl (hb hby dX_23) rfl (tlt hc23_39).2.2.1 (by decide) (by decide) hh_) ?_
          show own_Run p e below s _ _ _ (s₁.setTop (mkF m 28 #[.val (.int c1)] []))
          refine own_of (fun _ hh_ => XS.iloadN X0.here hx rfl (hb hby dX_28) rfl hh_) ?_
          show own_Run p e below s _ _ _ (s₁.setTop (mkF m 29 #[.val (.int c1)] [(.int c1)]))
          refine own_of (fun _ hh_ => XS.bipush X0.here hx rfl (hb hby dX_29) hh_) ?_
          show own_Run p e below s _ _ _ (s₁.setTop (mkF m 31 #[.val (.int c1)] [(.int (95 : Int32)), (.int c1)]))
          by_cases hc31_40 : c1 = (95 : Int32)
          · refine own_of (fun _ hh_ => XS.icmpNo X0.here hx rfl (hb hby dX_31) rfl (teq hc31_40).2 hh_) ?_
            show own_Run p e below s _ _ _ (s₁.setTop (mkF m 34 #[.val (.int c1)] []))
            refine own_of (fun _ hh_ => XS.iconst X0.here hx rfl (hb hby dX_34) hh_) ?_
            show own_Run p e below s _ _ _ (s₁.setTop (mkF m 35 #[.val (.int c1)] [(.int (1 : Int32))]))
            exact own_retN X0 hx (t := .boolean) hret hlk (by simp) (hb hby dX_35) ⟨by rw [if_pos (show own_B c1 from by have a_hc3_1 := mt Int32.lt_iff_toInt_lt.mpr hc3_1; have a_hc9_26 := Int32.lt_iff_toInt_lt.mp hc9_26; have a_hc17_27 := mt Int32.lt_iff_toInt_lt.mpr hc17_27; have a_hc23_39 := Int32.lt_iff_toInt_lt.mp hc23_39; have a_hc31_40 := Int32.toInt_inj.mpr hc31_40; have l_0 : (48 : Int32).toInt = 48 := rfl; have l_1 : (57 : Int32).toInt = 57 := rfl; have l_2 : (64 : Int32).toInt = 64 := rfl; have l_3 : (90 : Int32).toInt = 90 := rfl; have l_4 : (95 : Int32).toInt = 95 := rfl; omega)]; rfl, N0, e0⟩ (by decide) (by decide)
          · refine own_of (fun _ hh_ => XS.icmpYes X0.here hx rfl (pc0 := 31) (pc' := 36) rfl (hb hby dX_31) rfl (feq hc31_40).2 (by decide) (by decide) hh_) ?_
            show own_Run p e below s _ _ _ (s₁.setTop (mkF m 36 #[.val (.int c1)] []))
            refine own_of (fun _ hh_ => XS.iloadN X0.here hx rfl (hb hby dX_36) rfl hh_) ?_
            show own_Run p e below s _ _ _ (s₁.setTop (mkF m 37 #[.val (.int c1)] [(.int c1)]))
            refine own_of (fun _ hh_ => XS.bipush X0.here hx rfl (hb hby dX_37) hh_) ?_
            show own_Run p e below s _ _ _ (s₁.setTop (mkF m 39 #[.val (.int c1)] [(.int (97 : Int32)), (.int c1)]))
            by_cases hc39_41 : c1 < (97 : Int32)
            · refine own_of (fun _ hh_ => XS.icmpYes X0.here hx rfl (pc0 := 39) (pc' := 50) rfl (hb hby dX_39) rfl (tlt hc39_41).1 (by decide) (by decide) hh_) ?_
              show own_Run p e below s _ _ _ (s₁.setTop (mkF m 50 #[.val (.int c1)] []))
              refine own_of (fun _ hh_ => XS.iloadN X0.here hx rfl (hb hby dX_50) rfl hh_) ?_
              show own_Run p e below s _ _ _ (s₁.setTop (mkF m 51 #[.val (.int c1)] [(.int c1)]))
              refine own_of (fun _ hh_ => XS.sipush X0.here hx rfl (hb hby dX_51) hh_) ?_
              show own_Run p e below s _ _ _ (s₁.setTop (mkF m 54 #[.val (.int c1)] [(.int (192 : Int32)), (.int c1)]))
              by_cases hc54_42 : c1 < (192 : Int32)
              · refine own_of (fun _ hh_ => XS.icmpYes X0.here hx rfl (pc0 := 54) (pc' := 84) rfl (hb hby dX_54) rfl (tlt hc54_42).1 (by decide) (by decide) hh_) ?_
                show own_Run p e below s _ _ _ (s₁.setTop (mkF m 84 #[.val (.int c1)] []))
                refine own_of (fun _ hh_ => XS.iconst X0.here hx rfl (hb hby dX_84) hh_) ?_
                show own_Run p e below s _ _ _ (s₁.setTop (mkF m 85 #[.val (.int c1)] [(.int (0 : Int32))]))
                exact own_retN X0 hx (t := .boolean) hret hlk (by simp) (hb hby dX_85) ⟨by rw [if_neg (show ¬ (own_B c1) from by have a_hc3_1 := mt Int32.lt_iff_toInt_lt.mpr hc3_1; have a_hc9_26 := Int32.lt_iff_toInt_lt.mp hc9_26; have a_hc17_27 := mt Int32.lt_iff_toInt_lt.mpr hc17_27; have a_hc23_39 := Int32.lt_iff_toInt_lt.mp hc23_39; have a_hc31_40 := mt Int32.toInt_inj.mp hc31_40; have a_hc39_41 := Int32.lt_iff_toInt_lt.mp hc39_41; have a_hc54_42 := Int32.lt_iff_toInt_lt.mp hc54_42; have l_0 : (48 : Int32).toInt = 48 := rfl; have l_1 : (57 : Int32).toInt = 57 := rfl; have l_2 : (64 : Int32).toInt = 64 := rfl; have l_3 : (90 : Int32).toInt = 90 := rfl; have l_4 : (95 : Int32).toInt = 95 := rfl; have l_5 : (97 : Int32).toInt = 97 := rfl; have l_6 : (192 : Int32).toInt = 192 := rfl; omega)]; rfl, N0, e0⟩ (by decide) (by decide)
              · refine own_of (fun _ hh_ => XS.icmpNo X0.here hx rfl (hb hby dX_54) rfl (flt hc54_42).1 hh_) ?_
                show own_Run p e below s _ _ _ (s₁.setTop (mkF m 57 #[.val (.int c1)] []))
                refine own_of (fun _ hh_ => XS.iloadN X0.here hx rfl (hb hby dX_57) rfl hh_) ?_
                show own_Run p e below s _ _ _ (s₁.setTop (mkF m 58 #[.val (.int c1)] [(.int c1)]))
                refine own_of (fun _ hh_ => XS.sipush X0.here hx rfl (hb hby dX_58) hh_) ?_
                show own_Run p e below s _ _ _ (s₁.setTop (mkF m 61 #[.val (.int c1)] [(.int (255 : Int32)), (.int c1)]))
                by_cases hc61_43 : (255 : Int32) < c1
                · refine own_of (fun _ hh_ => XS.icmpYes X0.here hx rfl (pc0 := 61) (pc' := 84) rfl (hb hby dX_61) rfl (tlt hc61_43).2.2.1 (by decide) (by decide) hh_) ?_
                  show own_Run p e below s _ _ _ (s₁.setTop (mkF m 84 #[.val (.int c1)] []))
                  refine own_of (fun _ hh_ => XS.iconst X0.here hx rfl (hb hby dX_84) hh_) ?_
                  show own_Run p e below s _ _ _ (s₁.setTop (mkF m 85 #[.val (.int c1)] [(.int (0 : Int32))]))
                  exact own_retN X0 hx (t := .boolean) hret hlk (by simp) (hb hby dX_85) ⟨by rw [if_neg (show ¬ (own_B c1) from by have a_hc3_1 := mt Int32.lt_iff_toInt_lt.mpr hc3_1; have a_hc9_26 := Int32.lt_iff_toInt_lt.mp hc9_26; have a_hc17_27 := mt Int32.lt_iff_toInt_lt.mpr hc17_27; have a_hc23_39 := Int32.lt_iff_toInt_lt.mp hc23_39; have a_hc31_40 := mt Int32.toInt_inj.mp hc31_40; have a_hc39_41 := Int32.lt_iff_toInt_lt.mp hc39_41; have a_hc54_42 := mt Int32.lt_iff_toInt_lt.mpr hc54_42; have a_hc61_43 := Int32.lt_iff_toInt_lt.mp hc61_43; have l_0 : (48 : Int32).toInt = 48 := rfl; have l_1 : (57 : Int32).toInt = 57 := rfl; have l_2 : (64 : Int32).toInt = 64 := rfl; have l_3 : (90 : Int32).toInt = 90 := rfl; have l_4 : (95 : Int32).toInt = 95 := rfl; have l_5 : (97 : Int32).toInt = 97 := rfl; have l_6 : (192 : Int32).toInt = 192 := rfl; have l_7 : (255 : Int32).toInt = 255 := rfl; omega)]; rfl, N0, e0⟩ (by decide) (by decide)
                · refine own_of (fun _ hh_ => XS.icmpNo X0.here hx rfl (hb hby dX_61) rfl (flt hc61_43).2.2.1 hh_) ?_
                  show own_Run p e below s _ _ _ (s₁.setTop (mkF m 64 #[.val (.int c1)] []))
                  refine own_of (fun _ hh_ => XS.iloadN X0.here hx rfl (hb hby dX_64) rfl hh_) ?_
                  show own_Run p e below s _ _ _ (s₁.setTop (mkF m 65 #[.val (.int c1)] [(.int c1)]))
                  refine own_of (fun _ hh_ => XS.sipush X0.here hx rfl (hb hby dX_65) hh_) ?_
                  show own_Run p e below s _ _ _ (s₁.setTop (mkF m 68 #[.val (.int c1)] [(.int (215 : Int32)), (.int c1)]))
                  by_cases hc68_44 : c1 = (215 : Int32)
                  · refine own_of (fun _ hh_ => XS.icmpYes X0.here hx rfl (pc0 := 68) (pc' := 82) rfl (hb hby dX_68) rfl (teq hc68_44).1 (by decide) (by decide) hh_) ?_
                    show own_Run p e below s _ _ _ (s₁.setTop (mkF m 82 #[.val (.int c1)] []))
                    refine own_of (fun _ hh_ => XS.iconst X0.here hx rfl (hb hby dX_82) hh_) ?_
                    show own_Run p e below s _ _ _ (s₁.setTop (mkF m 83 #[.val (.int c1)] [(.int (0 : Int32))]))
                    exact own_retN X0 hx (t := .boolean) hret hlk (by simp) (hb hby dX_83) ⟨by rw [if_neg (show ¬ (own_B c1) from by have a_hc3_1 := mt Int32.lt_iff_toInt_lt.mpr hc3_1; have a_hc9_26 := Int32.lt_iff_toInt_lt.mp hc9_26; have a_hc17_27 := mt Int32.lt_iff_toInt_lt.mpr hc17_27; have a_hc23_39 := Int32.lt_iff_toInt_lt.mp hc23_39; have a_hc31_40 := mt Int32.toInt_inj.mp hc31_40; have a_hc39_41 := Int32.lt_iff_toInt_lt.mp hc39_41; have a_hc54_42 := mt Int32.lt_iff_toInt_lt.mpr hc54_42; have a_hc61_43 := mt Int32.lt_iff_toInt_lt.mpr hc61_43; have a_hc68_44 := Int32.toInt_inj.mpr hc68_44; have l_0 : (48 : Int32).toInt = 48 := rfl; have l_1 : (57 : Int32).toInt = 57 := rfl; have l_2 : (64 : Int32).toInt = 64 := rfl; have l_3 : (90 : Int32).toInt = 90 := rfl; have l_4 : (95 : Int32).toInt = 95 := rfl; have l_5 : (97 : Int32).toInt = 97 := rfl; have l_6 : (192 : Int32).toInt = 192 := rfl; have l_7 : (255 : Int32).toInt = 255 := rfl; have l_8 : (215 : Int32).toInt = 215 := rfl; omega)]; rfl, N0, e0⟩ (by decide) (by decide)
                  · refine own_of (fun _ hh_ => XS.icmpNo X0.here hx rfl (hb hby dX_68) rfl (feq hc68_44).1 hh_) ?_
                    show own_Run p e below s _ _ _ (s₁.setTop (mkF m 71 #[.val (.int c1)] []))
                    refine own_of (fun _ hh_ => XS.iloadN X0.here hx rfl (hb hby dX_71) rfl hh_) ?_
                    show own_Run p e below s _ _ _ (s₁.setTop (mkF m 72 #[.val (.int c1)] [(.int c1)]))
                    refine own_of (fun _ hh_ => XS.sipush X0.here hx rfl (hb hby dX_72) hh_) ?_
                    show own_Run p e below s _ _ _ (s₁.setTop (mkF m 75 #[.val (.int c1)] [(.int (247 : Int32)), (.int c1)]))
                    by_cases hc75_45 : c1 = (247 : Int32)
                    · refine own_of (fun _ hh_ => XS.icmpYes X0.here hx rfl (pc0 := 75) (pc' := 82) rfl (hb hby dX_75) rfl (teq hc75_45).1 (by decide) (by decide) hh_) ?_
                      show own_Run p e below s _ _ _ (s₁.setTop (mkF m 82 #[.val (.int c1)] []))
                      refine own_of (fun _ hh_ => XS.iconst X0.here hx rfl (hb hby dX_82) hh_) ?_
                      show own_Run p e below s _ _ _ (s₁.setTop (mkF m 83 #[.val (.int c1)] [(.int (0 : Int32))]))
                      exact own_retN X0 hx (t := .boolean) hret hlk (by simp) (hb hby dX_83) ⟨by rw [if_neg (show ¬ (own_B c1) from by have a_hc3_1 := mt Int32.lt_iff_toInt_lt.mpr hc3_1; have a_hc9_26 := Int32.lt_iff_toInt_lt.mp hc9_26; have a_hc17_27 := mt Int32.lt_iff_toInt_lt.mpr hc17_27; have a_hc23_39 := Int32.lt_iff_toInt_lt.mp hc23_39; have a_hc31_40 := mt Int32.toInt_inj.mp hc31_40; have a_hc39_41 := Int32.lt_iff_toInt_lt.mp hc39_41; have a_hc54_42 := mt Int32.lt_iff_toInt_lt.mpr hc54_42; have a_hc61_43 := mt Int32.lt_iff_toInt_lt.mpr hc61_43; have a_hc68_44 := mt Int32.toInt_inj.mp hc68_44; have a_hc75_45 := Int32.toInt_inj.mpr hc75_45; have l_0 : (48 : Int32).toInt = 48 := rfl; have l_1 : (57 : Int32).toInt = 57 := rfl; have l_2 : (64 : Int32).toInt = 64 := rfl; have l_3 : (90 : Int32).toInt = 90 := rfl; have l_4 : (95 : Int32).toInt = 95 := rfl; have l_5 : (97 : Int32).toInt = 97 := rfl; have l_6 : (192 : Int32).toInt = 192 := rfl; have l_7 : (255 : Int32).toInt = 255 := rfl; have l_8 : (215 : Int32).toInt = 215 := rfl; have l_9 : (247 : Int32).toInt = 247 := rfl; omega)]; rfl, N0, e0⟩ (by decide) (by decide)
                    · refine own_of (fun _ hh_ => XS.icmpNo X0.here hx rfl (hb hby dX_75) rfl (feq hc75_45).1 hh_) ?_
                      show own_Run p e below s _ _ _ (s₁.setTop (mkF m 78 #[.val (.int c1)] []))
                      refine own_of (fun _ hh_ => XS.iconst X0.here hx rfl (hb hby dX_78) hh_) ?_
                      show own_Run p e below s _ _ _ (s₁.setTop (mkF m 79 #[.val (.int c1)] [(.int (1 : Int32))]))
                      refine own_of (fun _ hh_ => XS.goto X0.here hx rfl (pc0 := 79) (pc' := 83) rfl (hb hby dX_79) (by decide) (by decide) hh_) ?_
                      show own_Run p e below s _ _ _ (s₁.setTop (mkF m 83 #[.val (.int c1)] [(.int (1 : Int32))]))
                      exact own_retN X0 hx (t := .boolean) hret hlk (by simp) (hb hby dX_83) ⟨by rw [if_pos (show own_B c1 from by have a_hc3_1 := mt Int32.lt_iff_toInt_lt.mpr hc3_1; have a_hc9_26 := Int32.lt_iff_toInt_lt.mp hc9_26; have a_hc17_27 := mt Int32.lt_iff_toInt_lt.mpr hc17_27; have a_hc23_39 := Int32.lt_iff_toInt_lt.mp hc23_39; have a_hc31_40 := mt Int32.toInt_inj.mp hc31_40; have a_hc39_41 := Int32.lt_iff_toInt_lt.mp hc39_41; have a_hc54_42 := mt Int32.lt_iff_toInt_lt.mpr hc54_42; have a_hc61_43 := mt Int32.lt_iff_toInt_lt.mpr hc61_43; have a_hc68_44 := mt Int32.toInt_inj.mp hc68_44; have a_hc75_45 := mt Int32.toInt_inj.mp hc75_45; have l_0 : (48 : Int32).toInt = 48 := rfl; have l_1 : (57 : Int32).toInt = 57 := rfl; have l_2 : (64 : Int32).toInt = 64 := rfl; have l_3 : (90 : Int32).toInt = 90 := rfl; have l_4 : (95 : Int32).toInt = 95 := rfl; have l_5 : (97 : Int32).toInt = 97 := rfl; have l_6 : (192 : Int32).toInt = 192 := rfl; have l_7 : (255 : Int32).toInt = 255 := rfl; have l_8 : (215 : Int32).toInt = 215 := rfl; have l_9 : (247 : Int32).toInt = 247 := rfl; omega)]; rfl, N0, e0⟩ (by decide) (by decide)
            · refine own_of (fun _ hh_ => XS.icmpNo X0.here hx rfl (hb hby dX_39) rfl (flt hc39_41).1 hh_) ?_
              show own_Run p e below s _ _ _ (s₁.setTop (mkF m 42 #[.val (.int c1)] []))
              refine own_of (fun _ hh_ => XS.iloadN X0.here hx rfl (hb hby dX_42) rfl hh_) ?_
              show own_Run p e below s _ _ _ (s₁.setTop (mkF m 43 #[.val (.int c1)] [(.int c1)]))
              refine own_of (fun _ hh_ => XS.bipush X0.here hx rfl (hb hby dX_43) hh_) ?_
              show own_Run p e below s _ _ _ (s₁.setTop (mkF m 45 #[.val (.int c1)] [(.int (122 : Int32)), (.int c1)]))
              by_cases hc45_46 : (122 : Int32) < c1
              · refine own_of (fun _ hh_ => XS.icmpYes X0.here hx rfl (pc0 := 45) (pc' := 50) rfl (hb hby dX_45) rfl (tlt hc45_46).2.2.1 (by decide) (by decide) hh_) ?_
                show own_Run p e below s _ _ _ (s₁.setTop (mkF m 50 #[.val (.int c1)] []))
                refine own_of (fun _ hh_ => XS.iloadN X0.here hx rfl (hb hby dX_50) rfl hh_) ?_
                show own_Run p e below s _ _ _ (s₁.setTop (mkF m 51 #[.val (.int c1)] [(.int c1)]))
                refine own_of (fun _ hh_ => XS.sipush X0.here hx rfl (hb hby dX_51) hh_) ?_
                show own_Run p e below s _ _ _ (s₁.setTop (mkF m 54 #[.val (.int c1)] [(.int (192 : Int32)), (.int c1)]))
                by_cases hc54_47 : c1 < (192 : Int32)
                · refine own_of (fun _ hh_ => XS.icmpYes X0.here hx rfl (pc0 := 54) (pc' := 84) rfl (hb hby dX_54) rfl (tlt hc54_47).1 (by decide) (by decide) hh_) ?_
                  show own_Run p e below s _ _ _ (s₁.setTop (mkF m 84 #[.val (.int c1)] []))
                  refine own_of (fun _ hh_ => XS.iconst X0.here hx rfl (hb hby dX_84) hh_) ?_
                  show own_Run p e below s _ _ _ (s₁.setTop (mkF m 85 #[.val (.int c1)] [(.int (0 : Int32))]))
                  exact own_retN X0 hx (t := .boolean) hret hlk (by simp) (hb hby dX_85) ⟨by rw [if_neg (show ¬ (own_B c1) from by have a_hc3_1 := mt Int32.lt_iff_toInt_lt.mpr hc3_1; have a_hc9_26 := Int32.lt_iff_toInt_lt.mp hc9_26; have a_hc17_27 := mt Int32.lt_iff_toInt_lt.mpr hc17_27; have a_hc23_39 := Int32.lt_iff_toInt_lt.mp hc23_39; have a_hc31_40 := mt Int32.toInt_inj.mp hc31_40; have a_hc39_41 := mt Int32.lt_iff_toInt_lt.mpr hc39_41; have a_hc45_46 := Int32.lt_iff_toInt_lt.mp hc45_46; have a_hc54_47 := Int32.lt_iff_toInt_lt.mp hc54_47; have l_0 : (48 : Int32).toInt = 48 := rfl; have l_1 : (57 : Int32).toInt = 57 := rfl; have l_2 : (64 : Int32).toInt = 64 := rfl; have l_3 : (90 : Int32).toInt = 90 := rfl; have l_4 : (95 : Int32).toInt = 95 := rfl; have l_5 : (97 : Int32).toInt = 97 := rfl; have l_6 : (122 : Int32).toInt = 122 := rfl; have l_7 : (192 : Int32).toInt = 192 := rfl; omega)]; rfl, N0, e0⟩ (by decide) (by decide)
                · refine own_of (fun _ hh_ => XS.icmpNo X0.here hx rfl (hb hby dX_54) rfl (flt hc54_47).1 hh_) ?_
                  show own_Run p e below s _ _ _ (s₁.setTop (mkF m 57 #[.val (.int c1)] []))
                  refine own_of (fun _ hh_ => XS.iloadN X0.here hx rfl (hb hby dX_57) rfl hh_) ?_
                  show own_Run p e below s _ _ _ (s₁.setTop (mkF m 58 #[.val (.int c1)] [(.int c1)]))
                  refine own_of (fun _ hh_ => XS.sipush X0.here hx rfl (hb hby dX_58) hh_) ?_
                  show own_Run p e below s _ _ _ (s₁.setTop (mkF m 61 #[.val (.int c1)] [(.int (255 : Int32)), (.int c1)]))
                  by_cases hc61_48 : (255 : Int32) < c1
                  · refine own_of (fun _ hh_ => XS.icmpYes X0.here hx rfl (pc0 := 61) (pc' := 84) rfl (hb hby dX_61) rfl (tlt hc61_48).2.2.1 (by decide) (by decide) hh_) ?_
                    show own_Run p e below s _ _ _ (s₁.setTop (mkF m 84 #[.val (.int c1)] []))
                    refine own_of (fun _ hh_ => XS.iconst X0.here hx rfl (hb hby dX_84) hh_) ?_
                    show own_Run p e below s _ _ _ (s₁.setTop (mkF m 85 #[.val (.int c1)] [(.int (0 : Int32))]))
                    exact own_retN X0 hx (t := .boolean) hret hlk (by simp) (hb hby dX_85) ⟨by rw [if_neg (show ¬ (own_B c1) from by have a_hc3_1 := mt Int32.lt_iff_toInt_lt.mpr hc3_1; have a_hc9_26 := Int32.lt_iff_toInt_lt.mp hc9_26; have a_hc17_27 := mt Int32.lt_iff_toInt_lt.mpr hc17_27; have a_hc23_39 := Int32.lt_iff_toInt_lt.mp hc23_39; have a_hc31_40 := mt Int32.toInt_inj.mp hc31_40; have a_hc39_41 := mt Int32.lt_iff_toInt_lt.mpr hc39_41; have a_hc45_46 := Int32.lt_iff_toInt_lt.mp hc45_46; have a_hc54_47 := mt Int32.lt_iff_toInt_lt.mpr hc54_47; have a_hc61_48 := Int32.lt_iff_toInt_lt.mp hc61_48; have l_0 : (48 : Int32).toInt = 48 := rfl; have l_1 : (57 : Int32).toInt = 57 := rfl; have l_2 : (64 : Int32).toInt = 64 := rfl; have l_3 : (90 : Int32).toInt = 90 := rfl; have l_4 : (95 : Int32).toInt = 95 := rfl; have l_5 : (97 : Int32).toInt = 97 := rfl; have l_6 : (122 : Int32).toInt = 122 := rfl; have l_7 : (192 : Int32).toInt = 192 := rfl; have l_8 : (255 : Int32).toInt = 255 := rfl; omega)]; rfl, N0, e0⟩ (by decide) (by decide)
                  · refine own_of (fun _ hh_ => XS.icmpNo X0.here hx rfl (hb hby dX_61) rfl (flt hc61_48).2.2.1 hh_) ?_
                    show own_Run p e below s _ _ _ (s₁.setTop (mkF m 64 #[.val (.int c1)] []))
                    refine own_of (fun _ hh_ => XS.iloadN X0.here hx rfl (hb hby dX_64) rfl hh_) ?_
                    show own_Run p e below s _ _ _ (s₁.setTop (mkF m 65 #[.val (.int c1)] [(.int c1)]))
                    refine own_of (fun _ hh_ => XS.sipush X0.here hx rfl (hb hby dX_65) hh_) ?_
                    show own_Run p e below s _ _ _ (s₁.setTop (mkF m 68 #[.val (.int c1)] [(.int (215 : Int32)), (.int c1)]))
                    by_cases hc68_49 : c1 = (215 : Int32)
                    · refine own_of (fun _ hh_ => XS.icmpYes X0.here hx rfl (pc0 := 68) (pc' := 82) rfl (hb hby dX_68) rfl (teq hc68_49).1 (by decide) (by decide) hh_) ?_
                      show own_Run p e below s _ _ _ (s₁.setTop (mkF m 82 #[.val (.int c1)] []))
                      refine own_of (fun _ hh_ => XS.iconst X0.here hx rfl (hb hby dX_82) hh_) ?_
                      show own_Run p e below s _ _ _ (s₁.setTop (mkF m 83 #[.val (.int c1)] [(.int (0 : Int32))]))
                      exact own_retN X0 hx (t := .boolean) hret hlk (by simp) (hb hby dX_83) ⟨by rw [if_neg (show ¬ (own_B c1) from by have a_hc3_1 := mt Int32.lt_iff_toInt_lt.mpr hc3_1; have a_hc9_26 := Int32.lt_iff_toInt_lt.mp hc9_26; have a_hc17_27 := mt Int32.lt_iff_toInt_lt.mpr hc17_27; have a_hc23_39 := Int32.lt_iff_toInt_lt.mp hc23_39; have a_hc31_40 := mt Int32.toInt_inj.mp hc31_40; have a_hc39_41 := mt Int32.lt_iff_toInt_lt.mpr hc39_41; have a_hc45_46 := Int32.lt_iff_toInt_lt.mp hc45_46; have a_hc54_47 := mt Int32.lt_iff_toInt_lt.mpr hc54_47; have a_hc61_48 := mt Int32.lt_iff_toInt_lt.mpr hc61_48; have a_hc68_49 := Int32.toInt_inj.mpr hc68_49; have l_0 : (48 : Int32).toInt = 48 := rfl; have l_1 : (57 : Int32).toInt = 57 := rfl; have l_2 : (64 : Int32).toInt = 64 := rfl; have l_3 : (90 : Int32).toInt = 90 := rfl; have l_4 : (95 : Int32).toInt = 95 := rfl; have l_5 : (97 : Int32).toInt = 97 := rfl; have l_6 : (122 : Int32).toInt = 122 := rfl; have l_7 : (192 : Int32).toInt = 192 := rfl; have l_8 : (255 : Int32).toInt = 255 := rfl; have l_9 : (215 : Int32).toInt = 215 := rfl; omega)]; rfl, N0, e0⟩ (by decide) (by decide)
                    · refine own_of (fun _ hh_ => XS.icmpNo X0.here hx rfl (hb hby dX_68) rfl (feq hc68_49).1 hh_) ?_
                      show own_Run p e below s _ _ _ (s₁.setTop (mkF m 71 #[.val (.int c1)] []))
                      refine own_of (fun _ hh_ => XS.iloadN X0.here hx rfl (hb hby dX_71) rfl hh_) ?_
                      show own_Run p e below s _ _ _ (s₁.setTop (mkF m 72 #[.val (.int c1)] [(.int c1)]))
                      refine own_of (fun _ hh_ => XS.sipush X0.here hx rfl (hb hby dX_72) hh_) ?_
                      show own_Run p e below s _ _ _ (s₁.setTop (mkF m 75 #[.val (.int c1)] [(.int (247 : Int32)), (.int c1)]))
                      by_cases hc75_50 : c1 = (247 : Int32)
                      · refine own_of (fun _ hh_ => XS.icmpYes X0.here hx rfl (pc0 := 75) (pc' := 82) rfl (hb hby dX_75) rfl (teq hc75_50).1 (by decide) (by decide) hh_) ?_
                        show own_Run p e below s _ _ _ (s₁.setTop (mkF m 82 #[.val (.int c1)] []))
                        refine own_of (fun _ hh_ => XS.iconst X0.here hx rfl (hb hby dX_82) hh_) ?_
                        show own_Run p e below s _ _ _ (s₁.setTop (mkF m 83 #[.val (.int c1)] [(.int (0 : Int32))]))
                        exact own_retN X0 hx (t := .boolean) hret hlk (by simp) (hb hby dX_83) ⟨by rw [if_neg (show ¬ (own_B c1) from by have a_hc3_1 := mt Int32.lt_iff_toInt_lt.mpr hc3_1; have a_hc9_26 := Int32.lt_iff_toInt_lt.mp hc9_26; have a_hc17_27 := mt Int32.lt_iff_toInt_lt.mpr hc17_27; have a_hc23_39 := Int32.lt_iff_toInt_lt.mp hc23_39; have a_hc31_40 := mt Int32.toInt_inj.mp hc31_40; have a_hc39_41 := mt Int32.lt_iff_toInt_lt.mpr hc39_41; have a_hc45_46 := Int32.lt_iff_toInt_lt.mp hc45_46; have a_hc54_47 := mt Int32.lt_iff_toInt_lt.mpr hc54_47; have a_hc61_48 := mt Int32.lt_iff_toInt_lt.mpr hc61_48; have a_hc68_49 := mt Int32.toInt_inj.mp hc68_49; have a_hc75_50 := Int32.toInt_inj.mpr hc75_50; have l_0 : (48 : Int32).toInt = 48 := rfl; have l_1 : (57 : Int32).toInt = 57 := rfl; have l_2 : (64 : Int32).toInt = 64 := rfl; have l_3 : (90 : Int32).toInt = 90 := rfl; have l_4 : (95 : Int32).toInt = 95 := rfl; have l_5 : (97 : Int32).toInt = 97 := rfl; have l_6 : (122 : Int32).toInt = 122 := rfl; have l_7 : (192 : Int32).toInt = 192 := rfl; have l_8 : (255 : Int32).toInt = 255 := rfl; have l_9 : (215 : Int32).toInt = 215 := rfl; have l_10 : (247 : Int32).toInt = 247 := rfl; omega)]; rfl, N0, e0⟩ (by decide) (by decide)
                      · refine own_of (fun _ hh_ => XS.icmpNo X0.here hx rfl (hb hby dX_75) rfl (feq hc75_50).1 hh_) ?_
                        show own_Run p e below s _ _ _ (s₁.setTop (mkF m 78 #[.val (.int c1)] []))
                        refine own_of (fun _ hh_ => XS.iconst X0.here hx rfl (hb hby dX_78) hh_) ?_
                        show own_Run p e below s _ _ _ (s₁.setTop (mkF m 79 #[.val (.int c1)] [(.int (1 : Int32))]))
                        refine own_of (fun _ hh_ => XS.goto X0.here hx rfl (pc0 := 79) (pc' := 83) rfl (hb hby dX_79) (by decide) (by decide) hh_) ?_
                        show own_Run p e below s _ _ _ (s₁.setTop (mkF m 83 #[.val (.int c1)] [(.int (1 : Int32))]))
                        exact own_retN X0 hx (t := .boolean) hret hlk (by simp) (hb hby dX_83) ⟨by rw [if_pos (show own_B c1 from by have a_hc3_1 := mt Int32.lt_iff_toInt_lt.mpr hc3_1; have a_hc9_26 := Int32.lt_iff_toInt_lt.mp hc9_26; have a_hc17_27 := mt Int32.lt_iff_toInt_lt.mpr hc17_27; have a_hc23_39 := Int32.lt_iff_toInt_lt.mp hc23_39; have a_hc31_40 := mt Int32.toInt_inj.mp hc31_40; have a_hc39_41 := mt Int32.lt_iff_toInt_lt.mpr hc39_41; have a_hc45_46 := Int32.lt_iff_toInt_lt.mp hc45_46; have a_hc54_47 := mt Int32.lt_iff_toInt_lt.mpr hc54_47; have a_hc61_48 := mt Int32.lt_iff_toInt_lt.mpr hc61_48; have a_hc68_49 := mt Int32.toInt_inj.mp hc68_49; have a_hc75_50 := mt Int32.toInt_inj.mp hc75_50; have l_0 : (48 : Int32).toInt = 48 := rfl; have l_1 : (57 : Int32).toInt = 57 := rfl; have l_2 : (64 : Int32).toInt = 64 := rfl; have l_3 : (90 : Int32).toInt = 90 := rfl; have l_4 : (95 : Int32).toInt = 95 := rfl; have l_5 : (97 : Int32).toInt = 97 := rfl; have l_6 : (122 : Int32).toInt = 122 := rfl; have l_7 : (192 : Int32).toInt = 192 := rfl; have l_8 : (255 : Int32).toInt = 255 := rfl; have l_9 : (215 : Int32).toInt = 215 := rfl; have l_10 : (247 : Int32).toInt = 247 := rfl; omega)]; rfl, N0, e0⟩ (by decide) (by decide)
              · refine own_of (fun _ hh_ => XS.icmpNo X0.here hx rfl (hb hby dX_45) rfl (flt hc45_46).2.2.1 hh_) ?_
                show own_Run p e below s _ _ _ (s₁.setTop (mkF m 48 #[.val (.int c1)] []))
                refine own_of (fun _ hh_ => XS.iconst X0.here hx rfl (hb hby dX_48) hh_) ?_
                show own_Run p e below s _ _ _ (s₁.setTop (mkF m 49 #[.val (.int c1)] [(.int (1 : Int32))]))
                exact own_retN X0 hx (t := .boolean) hret hlk (by simp) (hb hby dX_49) ⟨by rw [if_pos (show own_B c1 from by have a_hc3_1 := mt Int32.lt_iff_toInt_lt.mpr hc3_1; have a_hc9_26 := Int32.lt_iff_toInt_lt.mp hc9_26; have a_hc17_27 := mt Int32.lt_iff_toInt_lt.mpr hc17_27; have a_hc23_39 := Int32.lt_iff_toInt_lt.mp hc23_39; have a_hc31_40 := mt Int32.toInt_inj.mp hc31_40; have a_hc39_41 := mt Int32.lt_iff_toInt_lt.mpr hc39_41; have a_hc45_46 := mt Int32.lt_iff_toInt_lt.mpr hc45_46; have l_0 : (48 : Int32).toInt = 48 := rfl; have l_1 : (57 : Int32).toInt = 57 := rfl; have l_2 : (64 : Int32).toInt = 64 := rfl; have l_3 : (90 : Int32).toInt = 90 := rfl; have l_4 : (95 : Int32).toInt = 95 := rfl; have l_5 : (97 : Int32).toInt = 97 := rfl; have l_6 : (122 : Int32).toInt = 122 := rfl; omega)]; rfl, N0, e0⟩ (by decide) (by decide)
        · refine own_of (fun _ hh_ => XS.icmpNo X0.here hx rfl (hb hby dX_23) rfl (flt hc23_39).2.2.1 hh_) ?_
          show own_Run p e below s _ _ _ (s₁.setTop (mkF m 26 #[.val (.int c1)] []))
          refine own_of (fun _ hh_ => XS.iconst X0.here hx rfl (hb hby dX_26) hh_) ?_
          show own_Run p e below s _ _ _ (s₁.setTop (mkF m 27 #[.val (.int c1)] [(.int (1 : Int32))]))
          exact own_retN X0 hx (t := .boolean) hret hlk (by simp) (hb hby dX_27) ⟨by rw [if_pos (show own_B c1 from by have a_hc3_1 := mt Int32.lt_iff_toInt_lt.mpr hc3_1; have a_hc9_26 := Int32.lt_iff_toInt_lt.mp hc9_26; have a_hc17_27 := mt Int32.lt_iff_toInt_lt.mpr hc17_27; have a_hc23_39 := mt Int32.lt_iff_toInt_lt.mpr hc23_39; have l_0 : (48 : Int32).toInt = 48 := rfl; have l_1 : (57 : Int32).toInt = 57 := rfl; have l_2 : (64 : Int32).toInt = 64 := rfl; have l_3 : (90 : Int32).toInt = 90 := rfl; omega)]; rfl, N0, e0⟩ (by decide) (by decide)
    · refine own_of (fun _ hh_ => XS.icmpNo X0.here hx rfl (hb hby dX_9) rfl (flt hc9_26).2.2.1 hh_) ?_
      show own_Run p e below s _ _ _ (s₁.setTop (mkF m 12 #[.val (.int c1)] []))
      refine own_of (fun _ hh_ => XS.iconst X0.here hx rfl (hb hby dX_12) hh_) ?_
      show own_Run p e below s _ _ _ (s₁.setTop (mkF m 13 #[.val (.int c1)] [(.int (1 : Int32))]))
      exact own_retN X0 hx (t := .boolean) hret hlk (by simp) (hb hby dX_13) ⟨by rw [if_pos (show own_B c1 from by have a_hc3_1 := mt Int32.lt_iff_toInt_lt.mpr hc3_1; have a_hc9_26 := mt Int32.lt_iff_toInt_lt.mpr hc9_26; have l_0 : (48 : Int32).toInt = 48 := rfl; have l_1 : (57 : Int32).toInt = 57 := rfl; omega)]; rfl, N0, e0⟩ (by decide) (by decide)
theorem ef0 (m : MethodId) (x1 : Int32) (m1 : Int32) : entryFrame m #[(.int x1), (.int m1)] maxLocals = mkF m 0 #[.val (.int x1), .val (.int m1), .unset] [] := by first | (simp [entryFrame, mkF, argsToLocals, Value.category, maxLocals]; done) | rfl
def Q0 (Z : State) (x1 : Int32) (m1 : Int32) (h0 : Heap) (n0 : Nat) (v : Option Value) (h : Heap) (L : List Loc) : Prop := v = some (.int 1) ∧ Fr n0 L
set_option maxRecDepth 65536 in
set_option maxHeartbeats 40000000 in
theorem rm0 (l : Launch) (Z : State) (a0 : Array Value) (hw : ∀ d ∈ tables_1, d.before a0 Z = true) (ws : List Jvm.Cond) (x1 : Int32) (m1 : Int32) (h0 : Heap) (n0 : Nat) (Z0 : n0 ≤ h0.size)  :
    MetFree l x (head1 (Jvm.Cond.code x code maxLocals ret :: ws) room_1) (fun a U => a = #[(.int x1), (.int m1)] ∧ Z.Warmed39 U.vm ∧ U.heap = h0) (fun _ _ _ _ _ => True) (fun _ U o U' => ∃ v L, o = .returned v ∧ Q0 Z x1 m1 h0 n0 v U'.heap L ∧ FrameEnd U o U' L 0 0) := by
  refine MetFree.of_bodySF (plainFor_of_name own_pn1) hisR ?_
  intro p e s m args below meth c s₁ Bd hml0 hP hK
  obtain ⟨rfl, hZ, hh⟩ := hP
  have hx := Bd.exec
  have hby := Bd.bytes
  have hml : c.maxLocals = 3 := hml0
  have hown : s.vm.findClass "org/lanner/term/TermSyntaxContinuesBarePinLaw" = some m.cls := findClass_of_methodNamed Bd.named
  have hnm := (name_of_methodNamed Bd.named Bd.method).1
  have hlk := Bd.notSynchronized
  have hret := Bd.returns
  have X0 : Stand p l e room_1 s m #[(.int x1), (.int m1)] below meth c s₁ [] 0 0 := Stand.of_body Bd
  have e0 : s₁.heap = h0 := by rw [← hh, Bd.state]; rfl
  have N0 := Fr.nil n0
  show own_Run p e below s 0 0 (Q0 Z x1 m1 h0 n0) (s₁.setTop (entryFrame m #[(.int x1), (.int m1)] maxLocals))
  refine own_cast (ef0 m x1 m1) ?_
  show own_Run p e below s _ _ _ (s₁.setTop (mkF m 0 #[.val (.int x1), .val (.int m1), .unset] []))
  refine own_of (fun _ hh_ => XS.iloadN X0.here hx rfl (hb hby at_0) rfl hh_) ?_
  show own_Run p e below s _ _ _ (s₁.setTop (mkF m 1 #[.val (.int x1), .val (.int m1), .unset] [(.int m1)]))
  refine own_of (fun _ hh_ => XS.iconst X0.here hx rfl (hb hby at_1) hh_) ?_
  show own_Run p e below s _ _ _ (s₁.setTop (mkF m 2 #[.val (.int x1), .val (.int m1), .unset] [(.int (1 : Int32)), (.int m1)]))
  refine own_of (fun _ hh_ => XS.iand X0.here hx rfl (hb hby at_2) rfl hh_) ?_
  show own_Run p e below s _ _ _ (s₁.setTop (mkF m 3 #[.val (.int x1), .val (.int m1), .unset] [(.int (m1 &&& (1 : Int32)))]))
  by_cases hc3_1 : (m1 &&& (1 : Int32)) = (0 : Int32)
  · refine own_of (fun _ hh_ => XS.ifYes X0.here hx rfl (pc0 := 3) (pc' := 10) rfl (hb hby at_3) rfl ((if0 _ _).trans (teq hc3_1).1) (by decide) (by decide) hh_) ?_
    show own_Run p e below s _ _ _ (s₁.setTop (mkF m 10 #[.val (.int x1), .val (.int m1), .unset] []))
    refine own_of (fun _ hh_ => XS.iloadN X0.here hx rfl (hb hby at_10) rfl hh_) ?_
    show own_Run p e below s _ _ _ (s₁.setTop (mkF m 11 #[.val (.int x1), .val (.int m1), .unset] [(.int x1)]))
    refine own_of (fun _ hh_ => XS.sipush X0.here hx rfl (hb hby at_11) hh_) ?_
    show own_Run p e below s _ _ _ (s₁.setTop (mkF m 14 #[.val (.int x1), .val (.int m1), .unset] [(.int (511 : Int32)), (.int x1)]))
    refine own_of (fun _ hh_ => XS.iand X0.here hx rfl (hb hby at_14) rfl hh_) ?_
    show own_Run p e below s _ _ _ (s₁.setTop (mkF m 15 #[.val (.int x1), .val (.int m1), .unset] [(.int (x1 &&& (511 : Int32)))]))
    refine own_of (fun _ hh_ => XS.istoreN X0.here hx rfl (hb hby at_15) rfl (l' := #[.val (.int x1), .val (.int m1), .val (.int (x1 &&& (511 : Int32)))]) rfl hh_) ?_
    show own_Run p e below s _ _ _ (s₁.setTop (mkF m 16 #[.val (.int x1), .val (.int m1), .val (.int (x1 &&& (511 : Int32)))] []))
    refine own_of (fun _ hh_ => XS.iloadN X0.here hx rfl (hb hby at_16) rfl hh_) ?_
    show own_Run p e below s _ _ _ (s₁.setTop (mkF m 17 #[.val (.int x1), .val (.int m1), .val (.int (x1 &&& (511 : Int32)))] [(.int (x1 &&& (511 : Int32)))]))
    obtain ⟨_, _, ⟨T2, L2, k2, n2⟩, -, X2, ⟨Lc2, hQ2, l2, y2, z2⟩, st2⟩ := Jvm.LawKit.callS X0 hx (y := (⟨"org/lanner/term/TermSyntax", "continuesBare", "(I)Z"⟩ : MethodName)) hown (mvT hZ (hw _ (List.mem_of_getElem? (i := 0) rfl))) (mvT hZ (hw _ (List.mem_of_getElem? (i := 1) rfl))) (mvT hZ (hw _ (List.mem_of_getElem? (i := 2) rfl))) (mvT hZ (hw _ (List.mem_of_getElem? (i := 3) rfl))) (by decide) (backOf (W := 0) (rmC l Z a0 hw [] (x1 &&& (511 : Int32)) h0 n0 Z0) hZ (hw _ (List.mem_of_getElem? (i := 3) rfl)) (hw _ (List.mem_of_getElem? (i := 2) rfl)) (by decide) (by decide)) (g := (mkF m 17 #[.val (.int x1), .val (.int m1), .val (.int (x1 &&& (511 : Int32)))] [(.int (x1 &&& (511 : Int32)))])) rfl (by rw [hml]; rfl) (argsL := [(.int (x1 &&& (511 : Int32)))]) (rest := []) (lenOf own_pd0 rfl) rfl (by show 2 * 0 + _ ≤ _; exact Nat.le_of_eq rfl) (hb hby at_17) (fun _ _ => ⟨rfl, e0, (by decide : 0 + 0 ≤ _), (by decide : 0 + 0 ≤ _)⟩)
    dsimp only [Pt.U, Pt.locs, Pt.cells, Pt.slots] at X2 l2 y2 z2 st2 hQ2
    subst l2 y2 z2
    obtain ⟨rfl, N2q, e2⟩ := hQ2
    have N2 := Fr.app N0 N2q
    refine own_of st2 ?_
    show own_Run p e below s _ _ _ (T2.setTop (mkF m 20 #[.val (.int x1), .val (.int m1), .val (.int (x1 &&& (511 : Int32)))] [(.int (if own_B (x1 &&& (511 : Int32)) then 1 else 0 : Int32))]))
    refine own_of (fun _ hh_ => XS.iloadN X2.here hx rfl (hb hby at_20) rfl hh_) ?_
    show own_Run p e below s _ _ _ (T2.setTop (mkF m 21 #[.val (.int x1), .val (.int m1), .val (.int (x1 &&& (511 : Int32)))] [(.int (x1 &&& (511 : Int32))), (.int (if own_B (x1 &&& (511 : Int32)) then 1 else 0 : Int32))]))
    obtain ⟨_, _, ⟨T3, L3, k3, n3⟩, -, X3, ⟨Lc3, hQ3, l3, y3, z3⟩, st3⟩ := Jvm.LawKit.callS X2 hx (y := (⟨"org/lanner/term/TermSyntaxContinuesBarePinLaw", "expected", "(I)Z"⟩ : MethodName)) hown (mvT hZ (hw _ (List.mem_of_getElem? (i := 10) rfl))) (mvT hZ (hw _ (List.mem_of_getElem? (i := 11) rfl))) (mvT hZ (hw _ (List.mem_of_getElem? (i := 12) rfl))) (mvT hZ (hw _ (List.mem_of_getElem? (i := 13) rfl))) (by decide) (backOf (W := 1) (rmX l Z a0 hw [] (x1 &&& (511 : Int32)) h0 n0 Z0) hZ (hw _ (List.mem_of_getElem? (i := 13) rfl)) (hw _ (List.mem_of_getElem? (i := 12) rfl)) (by decide) (by decide)) (g := (mkF m 21 #[.val (.int x1), .val (.int m1), .val (.int (x1 &&& (511 : Int32)))] [(.int (x1 &&& (511 : Int32))), (.int (if own_B (x1 &&& (511 : Int32)) then 1 else 0 : Int32))])) rfl (by rw [hml]; rfl) (argsL := [(.int (x1 &&& (511 : Int32)))]) (rest := [(.int (if own_B (x1 &&& (511 : Int32)) then 1 else 0 : Int32))]) (lenOf own_pd0 rfl) rfl (by show 2 * 0 + _ ≤ _; exact Nat.le_of_eq rfl) (hb hby at_21) (fun _ _ => ⟨rfl, e2, (by decide : 0 + 0 ≤ _), (by decide : 0 + 0 ≤ _)⟩)
    dsimp only [Pt.U, Pt.locs, Pt.cells, Pt.slots] at X3 l3 y3 z3 st3 hQ3
    subst l3 y3 z3
    obtain ⟨rfl, N3q, e3⟩ := hQ3
    have N3 := Fr.app N2 N3q
    refine own_of st3 ?_
    show own_Run p e below s _ _ _ (T3.setTop (mkF m 24 #[.val (.int x1), .val (.int m1), .val (.int (x1 &&& (511 : Int32)))] [(.int (if own_B (x1 &&& (511 : Int32)) then 1 else 0 : Int32)), (.int (if own_B (x1 &&& (511 : Int32)) then 1 else 0 : Int32))]))
    have hc24_4 : (if own_B (x1 &&& (511 : Int32)) then 1 else 0 : Int32) = (if own_B (x1 &&& (511 : Int32)) then 1 else 0 : Int32) := rfl
    refine own_of (fun _ hh_ => XS.icmpNo X3.here hx rfl (hb hby at_24) rfl (teq hc24_4).2 hh_) ?_
    show own_Run p e below s _ _ _ (T3.setTop (mkF m 27 #[.val (.int x1), .val (.int m1), .val (.int (x1 &&& (511 : Int32)))] []))
    refine own_of (fun _ hh_ => XS.iconst X3.here hx rfl (hb hby at_27) hh_) ?_
    show own_Run p e below s _ _ _ (T3.setTop (mkF m 28 #[.val (.int x1), .val (.int m1), .val (.int (x1 &&& (511 : Int32)))] [(.int (1 : Int32))]))
    refine own_of (fun _ hh_ => XS.goto X3.here hx rfl (pc0 := 28) (pc' := 32) rfl (hb hby at_28) (by decide) (by decide) hh_) ?_
    show own_Run p e below s _ _ _ (T3.setTop (mkF m 32 #[.val (.int x1), .val (.int m1), .val (.int (x1 &&& (511 : Int32)))] [(.int (1 : Int32))]))
    exact own_retN X3 hx (t := .boolean) hret hlk (by simp) (hb hby at_32) ⟨rfl, N3⟩ (by decide) (by decide)
  · refine own_of (fun _ hh_ => XS.ifNo X0.here hx rfl (hb hby at_3) rfl ((if0 _ _).trans (feq hc3_1).1) hh_) ?_
    show own_Run p e below s _ _ _ (s₁.setTop (mkF m 6 #[.val (.int x1), .val (.int m1), .unset] []))
    refine own_of (fun _ hh_ => XS.iloadN X0.here hx rfl (hb hby at_6) rfl hh_) ?_
    show own_Run p e below s _ _ _ (s₁.setTop (mkF m 7 #[.val (.int x1), .val (.int m1), .unset] [(.int x1)]))
    refine own_of (fun _ hh_ => XS.goto X0.here hx rfl (pc0 := 7) (pc' := 15) rfl (hb hby at_7) (by decide) (by decide) hh_) ?_
    show own_Run p e below s _ _ _ (s₁.setTop (mkF m 15 #[.val (.int x1), .val (.int m1), .unset] [(.int x1)]))
    refine own_of (fun _ hh_ => XS.istoreN X0.here hx rfl (hb hby at_15) rfl (l' := #[.val (.int x1), .val (.int m1), .val (.int x1)]) rfl hh_) ?_
    show own_Run p e below s _ _ _ (s₁.setTop (mkF m 16 #[.val (.int x1), .val (.int m1), .val (.int x1)] []))
    refine own_of (fun _ hh_ => XS.iloadN X0.here hx rfl (hb hby at_16) rfl hh_) ?_
    show own_Run p e below s _ _ _ (s₁.setTop (mkF m 17 #[.val (.int x1), .val (.int m1), .val (.int x1)] [(.int x1)]))
    obtain ⟨_, _, ⟨T5, L5, k5, n5⟩, -, X5, ⟨Lc5, hQ5, l5, y5, z5⟩, st5⟩ := Jvm.LawKit.callS X0 hx (y := (⟨"org/lanner/term/TermSyntax", "continuesBare", "(I)Z"⟩ : MethodName)) hown (mvT hZ (hw _ (List.mem_of_getElem? (i := 0) rfl))) (mvT hZ (hw _ (List.mem_of_getElem? (i := 1) rfl))) (mvT hZ (hw _ (List.mem_of_getElem? (i := 2) rfl))) (mvT hZ (hw _ (List.mem_of_getElem? (i := 3) rfl))) (by decide) (backOf (W := 0) (rmC l Z a0 hw [] x1 h0 n0 Z0) hZ (hw _ (List.mem_of_getElem? (i := 3) rfl)) (hw _ (List.mem_of_getElem? (i := 2) rfl)) (by decide) (by decide)) (g := (mkF m 17 #[.val (.int x1), .val (.int m1), .val (.int x1)] [(.int x1)])) rfl (by rw [hml]; rfl) (argsL := [(.int x1)]) (rest := []) (lenOf own_pd0 rfl) rfl (by show 2 * 0 + _ ≤ _; exact Nat.le_of_eq rfl) (hb hby at_17) (fun _ _ => ⟨rfl, e0, (by decide : 0 + 0 ≤ _), (by decide : 0 + 0 ≤ _)⟩)
    dsimp only [Pt.U, Pt.locs, Pt.cells, Pt.slots] at X5 l5 y5 z5 st5 hQ5
    subst l5 y5 z5
    obtain ⟨rfl, N5q, e5⟩ := hQ5
    have N5 := Fr.app N0 N5q
    refine own_of st5 ?_
    show own_Run p e below s _ _ _ (T5.setTop (mkF m 20 #[.val (.int x1), .val (.int m1), .val (.int x1)] [(.int (if own_B x1 then 1 else 0 : Int32))]))
    refine own_of (fun _ hh_ => XS.iloadN X5.here hx rfl (hb hby at_20) rfl hh_) ?_
    show own_Run p e below s _ _ _ (T5.setTop (mkF m 21 #[.val (.int x1), .val (.int m1), .val (.int x1)] [(.int x1), (.int (if own_B x1 then 1 else 0 : Int32))]))
    obtain ⟨_, _, ⟨T6, L6, k6, n6⟩, -, X6, ⟨Lc6, hQ6, l6, y6, z6⟩, st6⟩ := Jvm.LawKit.callS X5 hx (y := (⟨"org/lanner/term/TermSyntaxContinuesBarePinLaw", "expected", "(I)Z"⟩ : MethodName)) hown (mvT hZ (hw _ (List.mem_of_getElem? (i := 10) rfl))) (mvT hZ (hw _ (List.mem_of_getElem? (i := 11) rfl))) (mvT hZ (hw _ (List.mem_of_getElem? (i := 12) rfl))) (mvT hZ (hw _ (List.mem_of_getElem? (i := 13) rfl))) (by decide) (backOf (W := 1) (rmX l Z a0 hw [] x1 h0 n0 Z0) hZ (hw _ (List.mem_of_getElem? (i := 13) rfl)) (hw _ (List.mem_of_getElem? (i := 12) rfl)) (by decide) (by decide)) (g := (mkF m 21 #[.val (.int x1), .val (.int m1), .val (.int x1)] [(.int x1), (.int (if own_B x1 then 1 else 0 : Int32))])) rfl (by rw [hml]; rfl) (argsL := [(.int x1)]) (rest := [(.int (if own_B x1 then 1 else 0 : Int32))]) (lenOf own_pd0 rfl) rfl (by show 2 * 0 + _ ≤ _; exact Nat.le_of_eq rfl) (hb hby at_21) (fun _ _ => ⟨rfl, e5, (by decide : 0 + 0 ≤ _), (by decide : 0 + 0 ≤ _)⟩)
    dsimp only [Pt.U, Pt.locs, Pt.cells, Pt.slots] at X6 l6 y6 z6 st6 hQ6
    subst l6 y6 z6
    obtain ⟨rfl, N6q, e6⟩ := hQ6
    have N6 := Fr.app N5 N6q
    refine own_of st6 ?_
    show own_Run p e below s _ _ _ (T6.setTop (mkF m 24 #[.val (.int x1), .val (.int m1), .val (.int x1)] [(.int (if own_B x1 then 1 else 0 : Int32)), (.int (if own_B x1 then 1 else 0 : Int32))]))
    have hc24_7 : (if own_B x1 then 1 else 0 : Int32) = (if own_B x1 then 1 else 0 : Int32) := rfl
    refine own_of (fun _ hh_ => XS.icmpNo X6.here hx rfl (hb hby at_24) rfl (teq hc24_7).2 hh_) ?_
    show own_Run p e below s _ _ _ (T6.setTop (mkF m 27 #[.val (.int x1), .val (.int m1), .val (.int x1)] []))
    refine own_of (fun _ hh_ => XS.iconst X6.here hx rfl (hb hby at_27) hh_) ?_
    show own_Run p e below s _ _ _ (T6.setTop (mkF m 28 #[.val (.int x1), .val (.int m1), .val (.int x1)] [(.int (1 : Int32))]))
    refine own_of (fun _ hh_ => XS.goto X6.here hx rfl (pc0 := 28) (pc' := 32) rfl (hb hby at_28) (by decide) (by decide) hh_) ?_
    show own_Run p e below s _ _ _ (T6.setTop (mkF m 32 #[.val (.int x1), .val (.int m1), .val (.int x1)] [(.int (1 : Int32))]))
    exact own_retN X6 hx (t := .boolean) hret hlk (by simp) (hb hby at_32) ⟨rfl, N6⟩ (by decide) (by decide)
set_option maxRecDepth 65536 in
set_option maxHeartbeats 40000000 in
theorem comes_1 {Post : Tables → Env → Array Value → State → Outcome → State → Prop} (hpost : ∀ tb e args s v u, (limb_1_1.after args s (.returned v) u = true ∧ limb_1_2.after args s (.returned v) u = true ∧ True) → FrameEnd s (.returned v) u (Jvm.fieldLocs frame_1_writes args s ++ Jvm.arrayLocs frame_1_arrays args s ++ Jvm.staticLocs frame_1_statics s) 0 0 → Post tb e args s (.returned v) u) :
    ArmFor flags0 classFile x code maxLocals ret World_1 tables_1 room_1 Calls_1 rest_1 Pre_1 Post := by
  intro l hfl _ _ p e ha hc hk s m args below hf hA hF happ hP
  obtain ⟨hcalls, hrest, hpre⟩ := hP
  obtain ⟨-, -, -, hnamed, -, -, -, hat⟩ := (Spec.applies_iff hf).mp happ
  obtain ⟨hg, hn⟩ := and_e (Cond.before_iff.mp (show (Jvm.Cond.and given_1 narrow_1).before args s = true from hpre))
  obtain ⟨gg1, gg2⟩ := and_e hg
  obtain ⟨gg3, gg4⟩ := and_e gg2
  obtain ⟨w0, w1, rfl⟩ : ∃ w0 w1 : Value, args = #[w0, w1] := by
    have hs : args.size = 2 := by simpa [Cond.value, given_1] using gg1
    obtain ⟨L⟩ := args
    match L, hs with
    | [w0, w1], _ => exact ⟨w0, w1, rfl⟩
  have hw := fun d (hd : d ∈ tables_1) => atoms_spec (ws := Jvm.Cond.code x code maxLocals ret :: tables_1) hat d (List.mem_cons_of_mem _ hd)
  obtain ⟨i0, ei0⟩ := is_v gg3
  obtain rfl : w0 = (.int i0) := Option.some.inj ei0
  obtain ⟨i1, ei1⟩ := is_v gg4
  obtain rfl : w1 = (.int i1) := Option.some.inj ei1
  obtain ⟨n, o, h1, h2, h3, _, L, rfl, ⟨rfl, N⟩, hq⟩ := rm0 l s _ hw tables_1 i0 i1  s.heap s.heap.size (Nat.le_refl _)  p e ha hc hk s m _ below hf ((Spec.applies_iff_loose hf).mp happ).1 ⟨rfl, State.Warmed39.refl s, rfl⟩ trivial
  refine ⟨n, _, h1, h2, h3, hpost _ _ _ _ _ _ ⟨Cond.after_iff.mpr rfl, Cond.after_iff.mpr (eq_i res_at (Term.int_eval (1)) rfl), trivial⟩ ⟨hq.1, hq.2.1, (hq.2.2.sift fun y hy => Or.inr (N y hy)).mono (by decide) (by decide)⟩⟩
theorem main_1_1 : Claimed_1_1 := comes_1 fun _ _ _ _ _ _ h hF => ⟨h.1, hF⟩
theorem main_1_2 : Claimed_1_2 := comes_1 fun _ _ _ _ _ _ h hF => ⟨h.2.1, hF⟩
end Jvm.Pilot.@@N@@
namespace Jvm.Pilot.@@N@@
open Jvm Jvm.ClassFile Sem Op Lib Jvm.Free Jvm.Stand Jvm.Pilot.@@N@@.Jvm.D
/-! MADE BY PROGRAM (witnessworld.py) out of the Statement's table words and the real class files: 9 classes; the members and pool entries that the words name. The judged class is class 1, her method 2. -/
namespace start1
open Jvm.ClassFile
def u (s : String) : CpInfo := .utf8 (stringToUtf16 s)
/-- a pool by its gaps: so many unusable entries, then the entry; so many at the end -/
def gap : Nat → List CpInfo → List CpInfo
  | 0, r => r
  | n + 1, r => .unusable :: gap n r
def poolList (es : List (Nat × CpInfo)) (last : Nat) : List CpInfo := es.foldr (fun e r => gap e.1 (e.2 :: r)) (gap last [])
def pool (es : List (Nat × CpInfo)) (last : Nat) : Array CpInfo := ⟨poolList es last⟩
def fileOf (pool : Array CpInfo) (this : Nat) (attrs : Array Attribute := #[]) (ms : Array MethodInfo := #[]) (fl : Nat := 33) (sup : Nat := 0) (ifs : Array Nat := #[]) (fds : Array FieldInfo := #[]) : ClassFile where
  minorVersion := 0
  majorVersion := 65
  constantPool := pool
  accessFlags := fl
  thisClass := this
  superClass := sup
  interfaces := ifs
  fields := fds
  methods := ms
  attributes := attrs
def plain (name : String) (sup : Option ClassId) : Class where
  name := name
  kind := .ordinary
  loader := none
  accessFlags := 33
  super := sup
  interfaces := #[]
  cf := none
  fields := #[]
  methods := #[]
  instanceTypes := #[]
  staticTypes := #[]
  resolved := #[]
  callSites := []
  init := .initialized
  statics := none
  mirror := none

def pool0 : Array CpInfo := pool [(5, u "<init>"), (0, u "()V"), (1, .class_ 10), (1, u "java/lang/Object")] 113

def k0m0 : Method := { name := "<init>", desc := "()V", sig := { parameters := [], returnType := none }, accessFlags := 1, code := none }
/-- java/lang/Object -/
def k0 : Class := { plain "java/lang/Object" none with
  accessFlags := 33
  interfaces := #[]
  cf := some (fileOf pool0 8 #[] #[{ accessFlags := 1, nameIndex := 5, descriptorIndex := 6, attributes := #[] }] 33 0 #[] #[])
  fields := #[]
  methods := #[k0m0]
  instanceTypes := #[]
  staticTypes := #[]
  resolved := Array.replicate 124 none
  statics := none }

def pool1 : Array CpInfo := pool [(2, .class_ 4), (1, u "java/lang/Object"), (0, u "<init>"), (0, u "()V"), (0, .methodref 8 9), (0, .class_ 10), (0, .nameAndType 11 12), (0, u "org/lanner/term/TermSyntax"), (0, u "continuesBare"), (0, u "(I)Z"), (0, .methodref 14 15), (0, .class_ 16), (0, .nameAndType 17 12), (0, u "org/lanner/term/TermSyntaxContinuesBarePinLaw"), (0, u "expected"), (3, u "law"), (0, u "(II)Z")] 2

def k1m0 : Method := { name := "<init>", desc := "()V", sig := { parameters := [], returnType := none }, accessFlags := 2, code := none }
def k1c1 : Code := { maxStack := 2, maxLocals := 1, code := method_2_code, exceptionTable := #[], attributes := #[] }
def k1m1 : Method := { name := "expected", desc := "(I)Z", sig := { parameters := [.int], returnType := some .boolean }, accessFlags := 10, code := some k1c1 }
def k1c2 : Code := { maxStack := 2, maxLocals := 3, code := code, exceptionTable := #[], attributes := #[] }
def k1m2 : Method := { name := "law", desc := "(II)Z", sig := { parameters := [.int, .int], returnType := some .boolean }, accessFlags := 9, code := some k1c2 }
/-- org/lanner/term/TermSyntaxContinuesBarePinLaw -/
def k1 : Class := { plain "org/lanner/term/TermSyntaxContinuesBarePinLaw" (some 0) with
  accessFlags := 49
  interfaces := #[]
  cf := some (fileOf pool1 14 #[] #[{ accessFlags := 2, nameIndex := 5, descriptorIndex := 6, attributes := #[] }, { accessFlags := 10, nameIndex := 17, descriptorIndex := 12, attributes := #[] }, { accessFlags := 9, nameIndex := 21, descriptorIndex := 22, attributes := #[] }] 49 2 #[] #[])
  fields := #[]
  methods := #[k1m0, k1m1, k1m2]
  instanceTypes := #[]
  staticTypes := #[]
  resolved := Array.replicate 25 none
  statics := none }

def pool2 : Array CpInfo := pool [(2, .class_ 4), (1, u "java/lang/Object"), (0, u "<init>"), (0, u "()V"), (11, .class_ 20), (1, u "org/lanner/term/TermSyntax"), (1, u "(I)Z"), (2, u "RESERVED_WORDS"), (0, u "Ljava/util/Set;"), (12, u "continuesBare"), (0, .methodref 18 41), (0, .nameAndType 42 22), (0, u "isLowerCase"), (0, .methodref 18 44), (0, .nameAndType 45 22), (0, u "isUpperCase"), (67, u "ESCAPE_LETTERS"), (0, u "Ljava/lang/String;"), (1, u "ESCAPED")] 11

def k2m0 : Method := { name := "<init>", desc := "()V", sig := { parameters := [], returnType := none }, accessFlags := 2, code := none }
def k2c1 : Code := { maxStack := 2, maxLocals := 1, code := prog_112_method_4_code, exceptionTable := #[], attributes := #[] }
def k2m1 : Method := { name := "continuesBare", desc := "(I)Z", sig := { parameters := [.int], returnType := some .boolean }, accessFlags := 8, code := some k2c1 }
def k2c2 : Code := { maxStack := 2, maxLocals := 1, code := prog_112_method_8_code, exceptionTable := #[], attributes := #[] }
def k2m2 : Method := { name := "isLowerCase", desc := "(I)Z", sig := { parameters := [.int], returnType := some .boolean }, accessFlags := 10, code := some k2c2 }
def k2c3 : Code := { maxStack := 2, maxLocals := 1, code := prog_112_method_9_code, exceptionTable := #[], attributes := #[] }
def k2m3 : Method := { name := "isUpperCase", desc := "(I)Z", sig := { parameters := [.int], returnType := some .boolean }, accessFlags := 10, code := some k2c3 }
/-- org/lanner/term/TermSyntax -/
def k2 : Class := { plain "org/lanner/term/TermSyntax" (some 0) with
  accessFlags := 48
  interfaces := #[]
  cf := some (fileOf pool2 18 #[] #[{ accessFlags := 2, nameIndex := 5, descriptorIndex := 6, attributes := #[] }, { accessFlags := 8, nameIndex := 39, descriptorIndex := 22, attributes := #[] }, { accessFlags := 10, nameIndex := 42, descriptorIndex := 22, attributes := #[] }, { accessFlags := 10, nameIndex := 45, descriptorIndex := 22, attributes := #[] }] 48 2 #[] #[{ accessFlags := 24, nameIndex := 25, descriptorIndex := 26, attributes := #[] }, { accessFlags := 26, nameIndex := 113, descriptorIndex := 114, attributes := #[] }, { accessFlags := 26, nameIndex := 116, descriptorIndex := 114, attributes := #[] }])
  fields := #[{ name := "RESERVED_WORDS", type := (.object "java/util/Set"), accessFlags := 24, slot := 0, constantValue := 0 }, { name := "ESCAPE_LETTERS", type := (.object "java/lang/String"), accessFlags := 26, slot := 1, constantValue := 0 }, { name := "ESCAPED", type := (.object "java/lang/String"), accessFlags := 26, slot := 2, constantValue := 0 }]
  methods := #[k2m0, k2m1, k2m2, k2m3]
  instanceTypes := #[]
  staticTypes := #[(.object "java/util/Set"), (.object "java/lang/String"), (.object "java/lang/String")]
  resolved := Array.replicate 128 none
  statics := none }

def pool3 : Array CpInfo := pool [(1, u "java/lang/Cloneable"), (0, .class_ 1), (0, u "java/lang/Object"), (0, .class_ 3)] 3

/-- java/lang/Cloneable -/
def k3 : Class := { plain "java/lang/Cloneable" (some 0) with
  accessFlags := 1537
  interfaces := #[]
  cf := some (fileOf pool3 2 #[] #[] 1537 4 #[] #[])
  fields := #[]
  methods := #[]
  instanceTypes := #[]
  staticTypes := #[]
  resolved := Array.replicate 8 none
  statics := none }

def pool4 : Array CpInfo := pool [(1, u "java/io/Serializable"), (0, .class_ 1), (0, u "java/lang/Object"), (0, .class_ 3)] 3

/-- java/io/Serializable -/
def k4 : Class := { plain "java/io/Serializable" (some 0) with
  accessFlags := 1537
  interfaces := #[]
  cf := some (fileOf pool4 2 #[] #[] 1537 4 #[] #[])
  fields := #[]
  methods := #[]
  instanceTypes := #[]
  staticTypes := #[]
  resolved := Array.replicate 8 none
  statics := none }

/-- the primitive byte -/
def k5 : Class := { plain "byte" none with kind := .primitive 'B', accessFlags := 0x411 }
/-- [B -/
def k6 : Class := { plain "[B" (some 0) with kind := .array 5 .byte, interfaces := #[3, 4], accessFlags := 1041 }

/-- the primitive int -/
def k7 : Class := { plain "int" none with kind := .primitive 'I', accessFlags := 0x411 }
/-- [I -/
def k8 : Class := { plain "[I" (some 0) with kind := .array 7 .int, interfaces := #[3, 4], accessFlags := 1041 }

def heap : Heap := #[]
def classes : Array Class := #[k0, k1, k2, k3, k4, k5, k6, k7, k8]
def interned : List (Array UInt16 × Addr) := []
def slotsUsed : Nat := 0
def theMethod : MethodId := ⟨1, 2⟩
def args0 : Array Value := #[.int 5, .int 5]
def aboutOver (below : List Frame) : State where
  vm := { classes := classes, interned := interned.toArray }
  heap := heap
  slotsUsed := slotsUsed
  threads := #[{ frames := .invoking theMethod args0 :: below }]
def below0 : List Frame := [.native { method := ⟨0, 0⟩, args := #[] }]
def about1 : State := aboutOver below0
def p0 : Program := .bare "" "" ""
def e0 : Env := launch0.env 0 0 0
theorem w_frames : about1.frames = Frame.invoking theMethod args0 :: below0 := rfl
set_option maxRecDepth 65536 in
theorem w_args : argsFit about1.vm theMethod args0 = true := by decide +kernel
set_option maxRecDepth 65536 in
theorem w_heap : heapFits about1 = true := by decide +kernel
set_option maxRecDepth 65536 in
theorem w_runnable : about1.curStatus? = some .runnable := by decide +kernel
set_option maxRecDepth 65536 in
theorem w_alone : about1.alone = true := by decide +kernel
set_option maxRecDepth 65536 in
theorem w_named : about1.methodNamed? x = some theMethod := by decide +kernel
set_option maxRecDepth 65536 in
theorem w_hears : about1.hears theMethod below0 = true := by decide +kernel
set_option maxRecDepth 65536 in
theorem w_ripe : about1.ripe theMethod args0 below0 = true := by decide +kernel
theorem w_running : about1.status = .running := rfl
set_option maxRecDepth 65536 in
theorem w_room : about1.hasRoom e0.platform room_1 = true :=
  launch0.hasRoom_least _ room_1 (by decide +kernel) (by decide +kernel) (by decide +kernel) (by decide +kernel) (by decide +kernel) (by decide +kernel)
theorem allAtoms_all (ts : List Jvm.Cond) (a : Array Jvm.Value) (st : Jvm.State) : (allAtoms ts).before a st = ts.all (fun c => c.before a st) := by
  induction ts with
  | nil => rfl
  | cons c t ih =>
    show (Jvm.Cond.and c (allAtoms t)).before a st = _
    rw [Jvm.Cond.before_and, ih, List.all_cons]
def words1 : List Jvm.Cond := Jvm.Cond.code x code maxLocals ret :: tables_1
/-- a 'code' word, met by the world's own term for the bytes: nothing is compared byte by byte -/
theorem code_word {y : MethodName} {bytes : ByteArray} {mx : Nat} {rt : Option FieldType} {a : Array Value} {s : State} {m : MethodId} {meth : Method} {c : Code} (h1 : s.methodNamed? y = some m) (h2 : s.vm.method? m = some meth) (h3 : meth.code = some c) (h4 : c.code = bytes)
    (h5 : (c.maxLocals == mx && c.exceptionTable.isEmpty && decide (c.maxStack ≤ mostOperands) && decide (meth.sig.returnType = rt) && !meth.locks && decide (parseMethodDescriptor y.desc = some meth.sig)) = true) : (Jvm.Cond.code y bytes mx rt).before a s = true := by
  simp only [Bool.and_eq_true, beq_iff_eq, Bool.not_eq_true', decide_eq_true_eq] at h5
  obtain ⟨⟨⟨⟨⟨g1, g2⟩, g3⟩, g4⟩, g5⟩, g6⟩ := h5
  simp [Cond.before, Cond.holds, Cond.value, h1, h2, h3, h4, g1, g2, g3, g4, g5, g6]
def isCode : Jvm.Cond → Bool
  | .code _ _ _ _ => true
  | _ => false
theorem all_split {L : List Jvm.Cond} {P : Jvm.Cond → Bool} (h1 : L.all (fun c => isCode c || P c) = true) (h2 : ∀ c ∈ L.filter isCode, P c = true) : L.all P = true := by
  refine List.all_eq_true.mpr fun c hc => ?_
  have h := List.all_eq_true.mp h1 c hc
  rcases Bool.eq_false_or_eq_true (isCode c) with hi | hi
  · exact h2 c (List.mem_filter.mpr ⟨hc, hi⟩)
  · simpa [hi] using h
set_option maxRecDepth 65536 in
theorem w_c0 : (Jvm.Cond.code x code maxLocals ret).before args0 about1 = true := code_word (m := ⟨1, 2⟩) (meth := k1m2) (c := k1c2) (by decide +kernel) rfl rfl rfl (by decide +kernel)
set_option maxRecDepth 65536 in
theorem w_c1 : (Jvm.Cond.code ({ cls := "org/lanner/term/TermSyntax", name := "continuesBare", desc := "(I)Z" } : Jvm.MethodName) prog_112_method_4_code (1 : Nat) (Option.some Jvm.ClassFile.FieldType.boolean)).before args0 about1 = true := code_word (m := ⟨2, 1⟩) (meth := k2m1) (c := k2c1) (by decide +kernel) rfl rfl rfl (by decide +kernel)
set_option maxRecDepth 65536 in
theorem w_c2 : (Jvm.Cond.code ({ cls := "org/lanner/term/TermSyntax", name := "isLowerCase", desc := "(I)Z" } : Jvm.MethodName) prog_112_method_8_code (1 : Nat) (Option.some Jvm.ClassFile.FieldType.boolean)).before args0 about1 = true := code_word (m := ⟨2, 2⟩) (meth := k2m2) (c := k2c2) (by decide +kernel) rfl rfl rfl (by decide +kernel)
set_option maxRecDepth 65536 in
theorem w_c3 : (Jvm.Cond.code ({ cls := "org/lanner/term/TermSyntax", name := "isUpperCase", desc := "(I)Z" } : Jvm.MethodName) prog_112_method_9_code (1 : Nat) (Option.some Jvm.ClassFile.FieldType.boolean)).before args0 about1 = true := code_word (m := ⟨2, 3⟩) (meth := k2m3) (c := k2c3) (by decide +kernel) rfl rfl rfl (by decide +kernel)
set_option maxRecDepth 65536 in
theorem w_c4 : (Jvm.Cond.code ({ cls := "org/lanner/term/TermSyntaxContinuesBarePinLaw", name := "expected", desc := "(I)Z" } : Jvm.MethodName) method_2_code (1 : Nat) (Option.some Jvm.ClassFile.FieldType.boolean)).before args0 about1 = true := code_word (m := ⟨1, 1⟩) (meth := k1m1) (c := k1c1) (by decide +kernel) rfl rfl rfl (by decide +kernel)
def codes1 : List Jvm.Cond := [Jvm.Cond.code x code maxLocals ret, Jvm.Cond.code ({ cls := "org/lanner/term/TermSyntax", name := "continuesBare", desc := "(I)Z" } : Jvm.MethodName) prog_112_method_4_code (1 : Nat) (Option.some Jvm.ClassFile.FieldType.boolean), Jvm.Cond.code ({ cls := "org/lanner/term/TermSyntax", name := "isLowerCase", desc := "(I)Z" } : Jvm.MethodName) prog_112_method_8_code (1 : Nat) (Option.some Jvm.ClassFile.FieldType.boolean), Jvm.Cond.code ({ cls := "org/lanner/term/TermSyntax", name := "isUpperCase", desc := "(I)Z" } : Jvm.MethodName) prog_112_method_9_code (1 : Nat) (Option.some Jvm.ClassFile.FieldType.boolean), Jvm.Cond.code ({ cls := "org/lanner/term/TermSyntaxContinuesBarePinLaw", name := "expected", desc := "(I)Z" } : Jvm.MethodName) method_2_code (1 : Nat) (Option.some Jvm.ClassFile.FieldType.boolean)]
set_option maxRecDepth 65536 in
theorem codes_eq : words1.filter isCode = codes1 := rfl
theorem w_codes : ∀ c ∈ words1.filter isCode, c.before args0 about1 = true := by
  rw [codes_eq]
  intro c hc
  simp only [codes1, List.mem_cons, List.not_mem_nil, or_false] at hc
  rcases hc with rfl | rfl | rfl | rfl | rfl
  · exact w_c0
  · exact w_c1
  · exact w_c2
  · exact w_c3
  · exact w_c4
set_option maxRecDepth 65536 in
theorem w_t1 : words1.all (fun c => isCode c || c.before args0 about1) = true := by decide +kernel
theorem w_tables : (allAtoms (Jvm.Cond.code x code maxLocals ret :: tables_1)).before args0 about1 = true := by
  rw [allAtoms_all]
  show words1.all (fun c => c.before args0 about1) = true
  refine all_split ?_ w_codes
  rw [w_t1]
set_option maxRecDepth 65536 in
theorem w_case : (Jvm.Cond.and given_1 narrow_1).before args0 about1 = true := by decide +kernel
theorem w_applies : (headSpec (Jvm.Cond.code x code maxLocals ret :: tables_1) room_1).applies x e0.platform about1 = true :=
  (Spec.applies_iff w_frames).mpr ⟨w_running, w_runnable, w_alone, w_named, w_hears, w_ripe, w_room, w_tables⟩
theorem atStart : AtStart classFile x code maxLocals ret World_1 tables_1 room_1 Calls_1 rest_1 Pre_1 launch0 p0 e0 about1 theMethod args0 below0 :=
  ⟨lists_1, trivial, launch0.admits_env _ _ _, launch0.least_env, fairChoices_fair.cas, fairChoices_fair.clock, w_frames, w_args, w_heap, w_applies, trivial, trivial, w_case⟩
end start1
theorem witness_1 : WitnessClaimed_1 := ⟨start1.p0, start1.e0, start1.about1, start1.theMethod, start1.args0, start1.below0, start1.atStart⟩
end Jvm.Pilot.@@N@@
