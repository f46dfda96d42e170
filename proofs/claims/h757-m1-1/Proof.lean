import JvmDerived
import JvmDerived.Pilot.@@N@@Statement
import JvmDerived.Pilot.@@N@@Code
set_option linter.unusedVariables false
set_option linter.unusedSimpArgs false
namespace Jvm.Pilot.@@N@@
open Jvm Jvm.ClassFile Sem Op Lib Jvm.Free Jvm.Stand Jvm.LawKit Jvm.RoadKit Bundle Jvm.Pilot.@@N@@.Jvm.D
section Own
variable {p : Program} {l : Launch} {e : Env} {R : Room} {s : State} {m : MethodId} {args : Array Value} {below : List Frame} {meth : Method} {c : Code} {T : State} {locs : List Loc} {cells slots : Nat} {C N : Nat} {Q : Option Value → Heap → List Loc → Prop} {V V' : State}
/-- from the state V the method comes to its return, and leaves what Q says -/
def own_Run (p : Program) (e : Env) (below : List Frame) (s : State) (C N : Nat) (Q : Option Value → Heap → List Loc → Prop) (V : State) : Prop :=
  ∃ s₂ o, Steps p.tables e below V s₂ ∧ s₂.status = .running ∧ Ended s₂ below o ∧ ∃ v L, o = .returned v ∧ Q v s₂.heap L ∧ FrameEnd s o s₂ L C N
theorem own_of (k : ∀ t, Steps p.tables e below V' t → Steps p.tables e below V t) (r : own_Run p e below s C N Q V') : own_Run p e below s C N Q V := by
  obtain ⟨s₂, o, h, q⟩ := r
  exact ⟨s₂, o, k _ h, q⟩
theorem own_tr (k : Steps p.tables e below V V') (r : own_Run p e below s C N Q V') : own_Run p e below s C N Q V := own_of (fun _ h => k.trans h) r
theorem own_cast {g g' : JFrame} (q : g = g') (r : own_Run p e below s C N Q (T.setTop g')) : own_Run p e below s C N Q (T.setTop g) := q ▸ r
theorem own_ret (X : Stand p l e R s m args below meth c T locs cells slots) (hx : p.tables.exec = Jvm.exec) {pc : Nat} {Ls : Array Slot} {w : Value} {t : FieldType} {i : Instr} {rest : List Value} (hret : meth.sig.returnType = some t) (hlk : meth.locks = false) (hn : narrow t w = w)
    (hi : (i = .ireturn ∧ (t = .int ∨ t = .boolean ∨ t = .byte ∨ t = .char ∨ t = .short) ∧ ∃ z, w = .int z) ∨ (i = .lreturn ∧ t = .long ∧ ∃ z, w = .long z) ∨ (i = .dreturn ∧ t = .double ∧ ∃ z, w = .double z) ∨ (i = .freturn ∧ t = .float ∧ ∃ z, w = .float z) ∨ (i = .areturn ∧ t.isReference = true ∧ w.isRef = true))
    (hd : decode c.code pc = .ok (i, 1)) (q : Q (some w) T.heap locs) (hc : cells ≤ C) (hs : slots ≤ N) : own_Run p e below s C N Q (T.setTop (mkF m pc Ls (w :: rest))) := by
  obtain ⟨fs, hr, hrun, hended, hW, hsame⟩ := X.leave (v := some w) (fun h => by rw [hret] at h; cases h) hlk
  exact ⟨_, _, retOut X hx hret hn hi hd hr, hrun, hended, _, _, rfl, q, ⟨_, rfl⟩, hW, hsame.mono hc hs⟩
theorem own_retI (X : Stand p l e R s m args below meth c T locs cells slots) (hx : p.tables.exec = Jvm.exec) {pc : Nat} {Ls : Array Slot} {z : Int32} {rest : List Value} (hret : meth.sig.returnType = some .int) (hlk : meth.locks = false)
    (hd : decode c.code pc = .ok (.ireturn, 1)) (q : Q (some (.int z)) T.heap locs) (hc : cells ≤ C) (hs : slots ≤ N) : own_Run p e below s C N Q (T.setTop (mkF m pc Ls (.int z :: rest))) :=
  own_ret X hx hret hlk rfl (Or.inl ⟨rfl, Or.inl rfl, z, rfl⟩) hd q hc hs
theorem own_retJ (X : Stand p l e R s m args below meth c T locs cells slots) (hx : p.tables.exec = Jvm.exec) {pc : Nat} {Ls : Array Slot} {z : Int64} {rest : List Value} (hret : meth.sig.returnType = some .long) (hlk : meth.locks = false)
    (hd : decode c.code pc = .ok (.lreturn, 1)) (q : Q (some (.long z)) T.heap locs) (hc : cells ≤ C) (hs : slots ≤ N) : own_Run p e below s C N Q (T.setTop (mkF m pc Ls (.long z :: rest))) :=
  own_ret X hx hret hlk rfl (Or.inr (Or.inl ⟨rfl, rfl, z, rfl⟩)) hd q hc hs
theorem own_retN (X : Stand p l e R s m args below meth c T locs cells slots) (hx : p.tables.exec = Jvm.exec) {pc : Nat} {Ls : Array Slot} {z : Int32} {t : FieldType} {rest : List Value} (hret : meth.sig.returnType = some t) (hlk : meth.locks = false) (ht : t = .boolean ∨ t = .byte ∨ t = .char ∨ t = .short)
    (hd : decode c.code pc = .ok (.ireturn, 1)) (q : Q (some (.int (nar t z))) T.heap locs) (hc : cells ≤ C) (hs : slots ≤ N) : own_Run p e below s C N Q (T.setTop (mkF m pc Ls (.int z :: rest))) := by
  obtain ⟨fs, hr, hrun, hended, hW, hsame⟩ := X.leave (v := some (.int (nar t z))) (fun h => by rw [hret] at h; cases h) hlk
  exact ⟨_, _, retN X hx hret ht hd hr, hrun, hended, _, _, rfl, q, ⟨_, rfl⟩, hW, hsame.mono hc hs⟩
theorem own_retV (X : Stand p l e R s m args below meth c T locs cells slots) (hx : p.tables.exec = Jvm.exec) {pc : Nat} {Ls : Array Slot} (hret : meth.sig.returnType = none) (hlk : meth.locks = false)
    (hd : decode c.code pc = .ok (.return_, 1)) (q : Q none T.heap locs) (hc : cells ≤ C) (hs : slots ≤ N) : own_Run p e below s C N Q (T.setTop (mkF m pc Ls [])) := by
  obtain ⟨fs, hr, hrun, hended, hW, hsame⟩ := X.leave (v := none) (fun _ => rfl) hlk
  exact ⟨_, _, X.returnOut hx hret hd hr, hrun, hended, _, _, rfl, q, ⟨_, rfl⟩, hW, hsame.mono hc hs⟩
end Own
section OwnArrays
variable {p : Program} {l : Launch} {e : Env} {R : Room} {s : State} {m : MethodId} {args : Array Value} {below : List Frame} {meth : Method} {c : Code} {T : State} {locs : List Loc} {cells slots : Nat} {C N : Nat} {Q : Option Value → Heap → List Loc → Prop} {Z : State} {h h' : Heap} {a b : Addr} {ty : FieldType} {n : Nat} {f g : Nat → Int32} {v : Value} {sl : Nat} {ws : List Addr}
/-- in the heap h, at a, an array of the kind ty and n places; its place i holds the int f i -/
def own_Ar (Z : State) (h : Heap) (a : Addr) (ty : FieldType) (n : Nat) (f : Nat → Int32) : Prop := ∃ c : Cell, Arr Z h a c ty ∧ c.slots.size = n ∧ ∀ i, i < n → c.slots[i]? = some (.int (f i))
def own_up (f : Nat → Int32) (j : Nat) (v : Int32) : Nat → Int32 := fun i => if i = j then v else f i
theorem own_Ar.lt (F : own_Ar Z h a ty n f) : a < h.size := by obtain ⟨c, A, -⟩ := F; exact A.lt
theorem own_Ar.ext (F : own_Ar Z h a ty n f) (E : Ext h h') : own_Ar Z h' a ty n f := by obtain ⟨c, A, r⟩ := F; exact ⟨c, A.ext E, r⟩
theorem own_Ar.other (F : own_Ar Z h b ty n f) (W : Wr h h' a sl v) (q : b ≠ a) : own_Ar Z h' b ty n f := by obtain ⟨c, A, r⟩ := F; exact ⟨c, A.other W q, r⟩
theorem own_Ar.keep (F : own_Ar Z h a ty n f) (K : Keep h h' ws) (q : a ∉ ws) : own_Ar Z h' a ty n f := by obtain ⟨c, A, r⟩ := F; exact ⟨c, ⟨K.2.1 a c A.1 q, A.2⟩, r⟩
theorem own_Ar.congr (F : own_Ar Z h a ty n f) (q : ∀ i, i < n → f i = g i) : own_Ar Z h a ty n g := by obtain ⟨c, A, r, H⟩ := F; exact ⟨c, A, r, fun i hi => by rw [← q i hi]; exact H i hi⟩
theorem own_Ar.new {k : ClassId} {z : Int32} (A : Arr Z h a (newA k ty z) ty) (hd : defaultValue ty = .int 0) (hn : z.toNatClampNeg = n) : own_Ar Z h a ty n (fun _ => 0) :=
  ⟨_, A, by rw [sz_new, hn], fun i hi => by simp [newA, hd, hn, hi]⟩
theorem own_Ar.set {w : Int32} {j : Nat} (F : own_Ar Z h a ty n f) (W : Wr h h' a j (.int w)) (hj : j < n) : own_Ar Z h' a ty n (own_up f j w) := by
  obtain ⟨c, A, r, H⟩ := F
  refine ⟨_, A.same W, by rw [sz_set]; exact r, fun i hi => ?_⟩
  by_cases q : i = j
  · subst q
    simp [own_up, Cell.setSlot, r, hi]
  · rw [show (c.setSlot j (.int w)).slots[i]? = c.slots[i]? from Array.getElem?_setIfInBounds_ne (Ne.symm q)]
    simp [own_up, q, H i hi]
theorem own_bal (X : Stand p l e R s m args below meth c T locs cells slots) (hx : p.tables.exec = Jvm.exec) (hZ : Z.Warmed39 s.vm) (eT : T.heap = h) (A : own_Ar Z h a .byte n f) {j w : Int32} (h1 : ¬ j < 0) (h2 : j.toNatClampNeg < n) (hv : f j.toNatClampNeg = w)
    {pc : Nat} {Ls : Array Slot} {rest : List Value} (hd : decode c.code pc = .ok (.baload, 1)) (r : own_Run p e below s C N Q (T.setTop (mkF m (pc + 1) Ls (.int w :: rest)))) : own_Run p e below s C N Q (T.setTop (mkF m pc Ls (.int j :: .ref a :: rest))) := by
  obtain ⟨c, A, S, H⟩ := A
  subst hv
  exact own_of (fun t k => X.baloadBytes hx (j := j) (v := .int (f j.toNatClampNeg)) (by rw [eT]; exact A.1) (State.isArrayOf_alike hZ.alike A.2.1) A.2.2 (by rw [S]; exact fun q => q.elim h1 (Nat.not_le.mpr h2)) (H _ h2) (g := mkF m pc Ls (.int j :: .ref a :: rest)) rfl rfl hd t k) r
theorem own_ial (X : Stand p l e R s m args below meth c T locs cells slots) (hx : p.tables.exec = Jvm.exec) (hZ : Z.Warmed39 s.vm) (eT : T.heap = h) (A : own_Ar Z h a .int n f) {j w : Int32} (h1 : ¬ j < 0) (h2 : j.toNatClampNeg < n) (hv : f j.toNatClampNeg = w)
    {pc : Nat} {Ls : Array Slot} {rest : List Value} (hd : decode c.code pc = .ok (.iaload, 1)) (r : own_Run p e below s C N Q (T.setTop (mkF m (pc + 1) Ls (.int w :: rest)))) : own_Run p e below s C N Q (T.setTop (mkF m pc Ls (.int j :: .ref a :: rest))) := by
  obtain ⟨c, A, S, H⟩ := A
  subst hv
  exact own_of (fun t k => X.iaload hx (j := j) (v := .int (f j.toNatClampNeg)) (by rw [eT]; exact A.1) (State.isArrayOf_alike hZ.alike A.2.1) A.2.2 (by rw [S]; exact fun q => q.elim h1 (Nat.not_le.mpr h2)) (H _ h2) (g := mkF m pc Ls (.int j :: .ref a :: rest)) rfl rfl hd t k) r
theorem own_alen (X : Stand p l e R s m args below meth c T locs cells slots) (hx : p.tables.exec = Jvm.exec) (hZ : Z.Warmed39 s.vm) (eT : T.heap = h) (A : own_Ar Z h a ty n f) {w : Int32} (hv : n.toInt32 = w)
    {pc : Nat} {Ls : Array Slot} {rest : List Value} (hd : decode c.code pc = .ok (.arraylength, 1)) (r : own_Run p e below s C N Q (T.setTop (mkF m (pc + 1) Ls (.int w :: rest)))) : own_Run p e below s C N Q (T.setTop (mkF m pc Ls (.ref a :: rest))) := by
  obtain ⟨c, A, S, H⟩ := A
  subst hv S
  exact own_of (fun t k => X.arraylength hx (by rw [eT]; exact A.1) (State.isArrayOf_alike hZ.alike A.2.1) (g := mkF m pc Ls (.ref a :: rest)) rfl rfl hd t k) r
theorem own_bas (X : Stand p l e R s m args below meth c T locs cells slots) (hx : p.tables.exec = Jvm.exec) (hZ : Z.Warmed39 s.vm) (eT : T.heap = h) (A : own_Ar Z h a .byte n f) {j x : Int32} (h1 : ¬ j < 0) (h2 : j.toNatClampNeg < n)
    {pc : Nat} {Ls : Array Slot} {rest : List Value} (hd : decode c.code pc = .ok (.bastore, 1)) :
    ∃ T' h', Stand p l e R s m args below meth c T' (locs ++ [⟨a, j.toNatClampNeg⟩]) cells slots ∧ T'.heap = h' ∧ Wr h h' a j.toNatClampNeg (.int x.toInt8.toInt32) ∧ own_Ar Z h' a .byte n (own_up f j.toNatClampNeg x.toInt8.toInt32) ∧
      ∀ t, Steps p.tables e below (T'.setTop (mkF m (pc + 1) Ls rest)) t → Steps p.tables e below (T.setTop (mkF m pc Ls (.int x :: .int j :: .ref a :: rest))) t := by
  obtain ⟨c, A, S, H⟩ := id A
  obtain ⟨T', h', X', e', W, st⟩ := stB X hx hZ eT A (j := j) (x := x) (by rw [S]; exact fun q => q.elim h1 (Nat.not_le.mpr h2)) (g := mkF m pc Ls (.int x :: .int j :: .ref a :: rest)) rfl rfl hd
  exact ⟨T', h', X', e', W, own_Ar.set ⟨c, A, S, H⟩ W h2, st⟩
theorem own_ias (X : Stand p l e R s m args below meth c T locs cells slots) (hx : p.tables.exec = Jvm.exec) (hZ : Z.Warmed39 s.vm) (eT : T.heap = h) (A : own_Ar Z h a .int n f) {j x : Int32} (h1 : ¬ j < 0) (h2 : j.toNatClampNeg < n)
    {pc : Nat} {Ls : Array Slot} {rest : List Value} (hd : decode c.code pc = .ok (.iastore, 1)) :
    ∃ T' h', Stand p l e R s m args below meth c T' (locs ++ [⟨a, j.toNatClampNeg⟩]) cells slots ∧ T'.heap = h' ∧ Wr h h' a j.toNatClampNeg (.int x) ∧ own_Ar Z h' a .int n (own_up f j.toNatClampNeg x) ∧
      ∀ t, Steps p.tables e below (T'.setTop (mkF m (pc + 1) Ls rest)) t → Steps p.tables e below (T.setTop (mkF m pc Ls (.int x :: .int j :: .ref a :: rest))) t := by
  obtain ⟨c, A, S, H⟩ := id A
  obtain ⟨T', h', X', e', W, st⟩ := stI X hx hZ eT A (j := j) (x := x) (by rw [S]; exact fun q => q.elim h1 (Nat.not_le.mpr h2)) (g := mkF m pc Ls (.int x :: .int j :: .ref a :: rest)) rfl rfl hd
  exact ⟨T', h', X', e', W, own_Ar.set ⟨c, A, S, H⟩ W h2, st⟩
end OwnArrays
def own_sl (x t e : Int32) : Int32 := if t < e then (if x < (0 : Int32) then (-1 : Int32) else if x < e - t then x else (-1 : Int32)) else (-1 : Int32)
theorem own_m3 (q : Int32) : q &&& (3 : Int32) = (0 : Int32) ∨ q &&& (3 : Int32) = (1 : Int32) ∨ q &&& (3 : Int32) = (2 : Int32) ∨ q &&& (3 : Int32) = (3 : Int32) := by
  have a := c_mask q (3 : Int32) 2 (by decide) (by decide)
  have a' : (q &&& (3 : Int32)).toInt = q.toInt % 4 := a
  have l0 : (0 : Int32).toInt = 0 := rfl
  have l1 : (1 : Int32).toInt = 1 := rfl
  have l2 : (2 : Int32).toInt = 2 := rfl
  have l3 : (3 : Int32).toInt = 3 := rfl
  have h : (q &&& (3 : Int32)).toInt = 0 ∨ (q &&& (3 : Int32)).toInt = 1 ∨ (q &&& (3 : Int32)).toInt = 2 ∨ (q &&& (3 : Int32)).toInt = 3 := by omega
  rcases h with h | h | h | h
  · exact Or.inl (Int32.toInt_inj.mp (h.trans l0.symm))
  · exact Or.inr (Or.inl (Int32.toInt_inj.mp (h.trans l1.symm)))
  · exact Or.inr (Or.inr (Or.inl (Int32.toInt_inj.mp (h.trans l2.symm))))
  · exact Or.inr (Or.inr (Or.inr (Int32.toInt_inj.mp (h.trans l3.symm))))
theorem own_u (x : Int32) : (x &&& (255 : Int32)).toInt = x.toInt % 256 := c_mask x (255 : Int32) 8 (by decide) (by decide)
theorem own_pn0 : plainName "com/example/pagewright/pagewright/RecordCodec" = true := by first | (simp [plainName, overriddenIn]; done) | decide +kernel
theorem dS_0 : decode prog_58_method_7_code 0 = .ok (.iload_n 1, 1) := by decide +kernel
theorem dS_1 : decode prog_58_method_7_code 1 = .ok (.iload_n 2, 1) := by decide +kernel
theorem dS_2 : decode prog_58_method_7_code 2 = .ok (.if_icmp .lt 5, 3) := by decide +kernel
theorem dS_5 : decode prog_58_method_7_code 5 = .ok (.iconst (-1), 1) := by decide +kernel
theorem dS_6 : decode prog_58_method_7_code 6 = .ok (.ireturn, 1) := by decide +kernel
theorem dS_7 : decode prog_58_method_7_code 7 = .ok (.aload_n 0, 1) := by decide +kernel
theorem dS_8 : decode prog_58_method_7_code 8 = .ok (.iload_n 1, 1) := by decide +kernel
theorem dS_9 : decode prog_58_method_7_code 9 = .ok (.baload, 1) := by decide +kernel
theorem dS_10 : decode prog_58_method_7_code 10 = .ok (.istore_n 3, 1) := by decide +kernel
theorem dS_11 : decode prog_58_method_7_code 11 = .ok (.iload_n 3, 1) := by decide +kernel
theorem dS_12 : decode prog_58_method_7_code 12 = .ok (.ifCond .lt 14, 3) := by decide +kernel
theorem dS_15 : decode prog_58_method_7_code 15 = .ok (.iload_n 3, 1) := by decide +kernel
theorem dS_16 : decode prog_58_method_7_code 16 = .ok (.iload_n 2, 1) := by decide +kernel
theorem dS_17 : decode prog_58_method_7_code 17 = .ok (.iload_n 1, 1) := by decide +kernel
theorem dS_18 : decode prog_58_method_7_code 18 = .ok (.isub, 1) := by decide +kernel
theorem dS_19 : decode prog_58_method_7_code 19 = .ok (.if_icmp .ge 7, 3) := by decide +kernel
theorem dS_22 : decode prog_58_method_7_code 22 = .ok (.iload_n 3, 1) := by decide +kernel
theorem dS_23 : decode prog_58_method_7_code 23 = .ok (.goto 4, 3) := by decide +kernel
theorem dS_26 : decode prog_58_method_7_code 26 = .ok (.iconst (-1), 1) := by decide +kernel
theorem dS_27 : decode prog_58_method_7_code 27 = .ok (.ireturn, 1) := by decide +kernel
theorem efS (m : MethodId) (r1 : Addr) (p1 : Int32) (p2 : Int32) : entryFrame m #[(.ref r1), (.int p1), (.int p2)] 4 = mkF m 0 #[.val (.ref r1), .val (.int p1), .val (.int p2), .unset] [] := by first | (simp [entryFrame, mkF, argsToLocals, Value.category]; done) | rfl
def QS (Z : State) (r1 : Addr) (p1 : Int32) (p2 : Int32) (n : Nat) (f : Nat → Int32) (x : Int32) (h0 : Heap) (n0 : Nat) (v : Option Value) (h : Heap) (L : List Loc) : Prop := v = some (.int (own_sl x p1 p2)) ∧ Fr n0 L ∧ h = h0
set_option maxRecDepth 65536 in
set_option maxHeartbeats 40000000 in
theorem rmS (l : Launch) (Z : State) (a0 : Array Value) (hw : ∀ d ∈ tables_1, d.before a0 Z = true) (ws : List Jvm.Cond) (r1 : Addr) (p1 : Int32) (p2 : Int32) (n : Nat) (f : Nat → Int32) (x : Int32) (h0 : Heap) (n0 : Nat) (Z0 : n0 ≤ h0.size) (A : own_Ar Z h0 r1 .byte n f) (hp1 : ¬ p1 < 0) (hp2 : p1.toNatClampNeg < n) (hp3 : f p1.toNatClampNeg = x) :
    MetFree l (⟨"com/example/pagewright/pagewright/RecordCodec", "shortLength", "([BII)I"⟩ : MethodName) (head1 (Jvm.Cond.code (⟨"com/example/pagewright/pagewright/RecordCodec", "shortLength", "([BII)I"⟩ : MethodName) prog_58_method_7_code 4 (some .int) :: ws) ({ frames := 0, cells := 0, slots := 0, locals := 0 } : Room)) (fun a U => a = #[(.ref r1), (.int p1), (.int p2)] ∧ Z.Warmed39 U.vm ∧ U.heap = h0) (fun _ _ _ _ _ => True) (fun _ U o U' => ∃ v L, o = .returned v ∧ QS Z r1 p1 p2 n f x h0 n0 v U'.heap L ∧ FrameEnd U o U' L ({ frames := 0, cells := 0, slots := 0, locals := 0 } : Room).cells ({ frames := 0, cells := 0, slots := 0, locals := 0 } : Room).slots) := by
  refine MetFree.of_bodySF (plainFor_of_name own_pn0) hisR ?_
  intro p e s m args below meth c s₁ Bd hml0 hP hK
  obtain ⟨rfl, hZ, hh⟩ := hP
  have hx := Bd.exec
  have hby := Bd.bytes
  have hml : c.maxLocals = 4 := hml0
  have hown : s.vm.findClass "com/example/pagewright/pagewright/RecordCodec" = some m.cls := findClass_of_methodNamed Bd.named
  have hnm := (name_of_methodNamed Bd.named Bd.method).1
  have hlk := Bd.notSynchronized
  have hret := Bd.returns
  have X0 : Stand p l e ({ frames := 0, cells := 0, slots := 0, locals := 0 } : Room) s m #[(.ref r1), (.int p1), (.int p2)] below meth c s₁ [] 0 0 := Stand.of_body Bd
  have e0 : s₁.heap = h0 := by rw [← hh, Bd.state]; rfl
  have N0 := Fr.nil n0
  show own_Run p e below s 0 0 (QS Z r1 p1 p2 n f x h0 n0) (s₁.setTop (entryFrame m #[(.ref r1), (.int p1), (.int p2)] 4))
  refine own_cast (efS m r1 p1 p2) ?_
  show own_Run p e below s _ _ _ (s₁.setTop (mkF m 0 #[.val (.ref r1), .val (.int p1), .val (.int p2), .unset] []))
  refine own_of (fun _ hh_ => XS.iloadN X0.here hx rfl (hb hby dS_0) rfl hh_) ?_
  show own_Run p e below s _ _ _ (s₁.setTop (mkF m 1 #[.val (.ref r1), .val (.int p1), .val (.int p2), .unset] [(.int p1)]))
  refine own_of (fun _ hh_ => XS.iloadN X0.here hx rfl (hb hby dS_1) rfl hh_) ?_
  show own_Run p e below s _ _ _ (s₁.setTop (mkF m 2 #[.val (.ref r1), .val (.int p1), .val (.int p2), .unset] [(.int p2), (.int p1)]))
  by_cases hc2_1 : p1 < p2
  · refine own_of (fun _ hh_ => XS.icmpYes X0.here hx rfl (pc0 := 2) (pc' := 7) rfl (hb hby dS_2) rfl (tlt hc2_1).1 (by decide) (by decide) hh_) ?_
    show own_Run p e below s _ _ _ (s₁.setTop (mkF m 7 #[.val (.ref r1), .val (.int p1), .val (.int p2), .unset] []))
    refine own_of (fun _ hh_ => XS.aloadN X0.here hx rfl (hb hby dS_7) rfl rfl hh_) ?_
    show own_Run p e below s _ _ _ (s₁.setTop (mkF m 8 #[.val (.ref r1), .val (.int p1), .val (.int p2), .unset] [(.ref r1)]))
    refine own_of (fun _ hh_ => XS.iloadN X0.here hx rfl (hb hby dS_8) rfl hh_) ?_
    show own_Run p e below s _ _ _ (s₁.setTop (mkF m 9 #[.val (.ref r1), .val (.int p1), .val (.int p2), .unset] [(.int p1), (.ref r1)]))
    refine own_bal X0 hx hZ e0 A (j := p1) (w := x) hp1 hp2 hp3 (hb hby dS_9) ?_
    show own_Run p e below s _ _ _ (s₁.setTop (mkF m 10 #[.val (.ref r1), .val (.int p1), .val (.int p2), .unset] [(.int x)]))
    refine own_of (fun _ hh_ => XS.istoreN X0.here hx rfl (hb hby dS_10) rfl (l' := #[.val (.ref r1), .val (.int p1), .val (.int p2), .val (.int x)]) rfl hh_) ?_
    show own_Run p e below s _ _ _ (s₁.setTop (mkF m 11 #[.val (.ref r1), .val (.int p1), .val (.int p2), .val (.int x)] []))
    refine own_of (fun _ hh_ => XS.iloadN X0.here hx rfl (hb hby dS_11) rfl hh_) ?_
    show own_Run p e below s _ _ _ (s₁.setTop (mkF m 12 #[.val (.ref r1), .val (.int p1), .val (.int p2), .val (.int x)] [(.int x)]))
    by_cases hc12_2 : x < (0 : Int32)
    · refine own_of (fun _ hh_ => XS.ifYes X0.here hx rfl (pc0 := 12) (pc' := 26) rfl (hb hby dS_12) rfl ((if0 _ _).trans (tlt hc12_2).1) (by decide) (by decide) hh_) ?_
      show own_Run p e below s _ _ _ (s₁.setTop (mkF m 26 #[.val (.ref r1), .val (.int p1), .val (.int p2), .val (.int x)] []))
      refine own_of (fun _ hh_ => XS.iconst X0.here hx rfl (hb hby dS_26) hh_) ?_
      show own_Run p e below s _ _ _ (s₁.setTop (mkF m 27 #[.val (.ref r1), .val (.int p1), .val (.int p2), .val (.int x)] [(.int (-1 : Int32))]))
      exact own_retI X0 hx hret hlk (hb hby dS_27) ⟨by unfold own_sl; rw [if_pos hc2_1, if_pos hc12_2], N0, e0⟩ (by decide) (by decide)
    · refine own_of (fun _ hh_ => XS.ifNo X0.here hx rfl (hb hby dS_12) rfl ((if0 _ _).trans (flt hc12_2).1) hh_) ?_
      show own_Run p e below s _ _ _ (s₁.setTop (mkF m 15 #[.val (.ref r1), .val (.int p1), .val (.int p2), .val (.int x)] []))
      refine own_of (fun _ hh_ => XS.iloadN X0.here hx rfl (hb hby dS_15) rfl hh_) ?_
      show own_Run p e below s _ _ _ (s₁.setTop (mkF m 16 #[.val (.ref r1), .val (.int p1), .val (.int p2), .val (.int x)] [(.int x)]))
      refine own_of (fun _ hh_ => XS.iloadN X0.here hx rfl (hb hby dS_16) rfl hh_) ?_
      show own_Run p e below s _ _ _ (s₁.setTop (mkF m 17 #[.val (.ref r1), .val (.int p1), .val (.int p2), .val (.int x)] [(.int p2), (.int x)]))
      refine own_of (fun _ hh_ => XS.iloadN X0.here hx rfl (hb hby dS_17) rfl hh_) ?_
      show own_Run p e below s _ _ _ (s₁.setTop (mkF m 18 #[.val (.ref r1), .val (.int p1), .val (.int p2), .val (.int x)] [(.int p1), (.int p2), (.int x)]))
      refine own_of (fun _ hh_ => XS.isub X0.here hx rfl (hb hby dS_18) rfl hh_) ?_
      show own_Run p e below s _ _ _ (s₁.setTop (mkF m 19 #[.val (.ref r1), .val (.int p1), .val (.int p2), .val (.int x)] [(.int (p2 - p1)), (.int x)]))
      by_cases hc19_3 : x < (p2 - p1)
      · refine own_of (fun _ hh_ => XS.icmpNo X0.here hx rfl (hb hby dS_19) rfl (tlt hc19_3).2.1 hh_) ?_
        show own_Run p e below s _ _ _ (s₁.setTop (mkF m 22 #[.val (.ref r1), .val (.int p1), .val (.int p2), .val (.int x)] []))
        refine own_of (fun _ hh_ => XS.iloadN X0.here hx rfl (hb hby dS_22) rfl hh_) ?_
        show own_Run p e below s _ _ _ (s₁.setTop (mkF m 23 #[.val (.ref r1), .val (.int p1), .val (.int p2), .val (.int x)] [(.int x)]))
        refine own_of (fun _ hh_ => XS.goto X0.here hx rfl (pc0 := 23) (pc' := 27) rfl (hb hby dS_23) (by decide) (by decide) hh_) ?_
        show own_Run p e below s _ _ _ (s₁.setTop (mkF m 27 #[.val (.ref r1), .val (.int p1), .val (.int p2), .val (.int x)] [(.int x)]))
        exact own_retI X0 hx hret hlk (hb hby dS_27) ⟨by unfold own_sl; rw [if_pos hc2_1, if_neg hc12_2, if_pos hc19_3], N0, e0⟩ (by decide) (by decide)
      · refine own_of (fun _ hh_ => XS.icmpYes X0.here hx rfl (pc0 := 19) (pc' := 26) rfl (hb hby dS_19) rfl (flt hc19_3).2.1 (by decide) (by decide) hh_) ?_
        show own_Run p e below s _ _ _ (s₁.setTop (mkF m 26 #[.val (.ref r1), .val (.int p1), .val (.int p2), .val (.int x)] []))
        refine own_of (fun _ hh_ => XS.iconst X0.here hx rfl (hb hby dS_26) hh_) ?_
        show own_Run p e below s _ _ _ (s₁.setTop (mkF m 27 #[.val (.ref r1), .val (.int p1), .val (.int p2), .val (.int x)] [(.int (-1 : Int32))]))
        exact own_retI X0 hx hret hlk (hb hby dS_27) ⟨by unfold own_sl; rw [if_pos hc2_1, if_neg hc12_2, if_neg hc19_3], N0, e0⟩ (by decide) (by decide)
  · refine own_of (fun _ hh_ => XS.icmpNo X0.here hx rfl (hb hby dS_2) rfl (flt hc2_1).1 hh_) ?_
    show own_Run p e below s _ _ _ (s₁.setTop (mkF m 5 #[.val (.ref r1), .val (.int p1), .val (.int p2), .unset] []))
    refine own_of (fun _ hh_ => XS.iconst X0.here hx rfl (hb hby dS_5) hh_) ?_
    show own_Run p e below s _ _ _ (s₁.setTop (mkF m 6 #[.val (.ref r1), .val (.int p1), .val (.int p2), .unset] [(.int (-1 : Int32))]))
    exact own_retI X0 hx hret hlk (hb hby dS_6) ⟨by unfold own_sl; rw [if_neg hc2_1], N0, e0⟩ (by decide) (by decide)
theorem own_pd0 : parseMethodDescriptor "([BII)I" = some ⟨[(.array .byte), .int, .int], some .int⟩ := by decide +kernel
theorem own_pn1 : plainName "com/example/pagewright/pagewright/RecordCodecShortLengthPinLaw" = true := by first | (simp [plainName, overriddenIn]; done) | decide +kernel
theorem ef0 (m : MethodId) (w1 : Int32) (a1 : Int32) (ve : Int32) : entryFrame m #[(.int w1), (.int a1), (.int ve)] maxLocals = mkF m 0 #[.val (.int w1), .val (.int a1), .val (.int ve), .unset, .unset, .unset, .unset, .unset] [] := by first | (simp [entryFrame, mkF, argsToLocals, Value.category, maxLocals]; done) | rfl
def Q0 (Z : State) (w1 : Int32) (a1 : Int32) (ve : Int32) (h0 : Heap) (n0 : Nat) (v : Option Value) (h : Heap) (L : List Loc) : Prop := v = some (.int 1) ∧ Fr n0 L
set_option maxRecDepth 65536 in
set_option maxHeartbeats 40000000 in
theorem rm0 (l : Launch) (Z : State) (a0 : Array Value) (hw : ∀ d ∈ tables_1, d.before a0 Z = true) (ws : List Jvm.Cond) (w1 : Int32) (a1 : Int32) (ve : Int32) (h0 : Heap) (n0 : Nat) (Z0 : n0 ≤ h0.size)  :
    MetFree l x (head1 (Jvm.Cond.code x code maxLocals ret :: ws) room_1) (fun a U => a = #[(.int w1), (.int a1), (.int ve)] ∧ Z.Warmed39 U.vm ∧ U.heap = h0) (fun _ _ _ _ _ => True) (fun _ U o U' => ∃ v L, o = .returned v ∧ Q0 Z w1 a1 ve h0 n0 v U'.heap L ∧ FrameEnd U o U' L 16 128) := by
  refine MetFree.of_bodySF (plainFor_of_name own_pn1) hisR ?_
  intro p e s m args below meth c s₁ Bd hml0 hP hK
  obtain ⟨rfl, hZ, hh⟩ := hP
  have hx := Bd.exec
  have hby := Bd.bytes
  have hml : c.maxLocals = 8 := hml0
  have hown : s.vm.findClass "com/example/pagewright/pagewright/RecordCodecShortLengthPinLaw" = some m.cls := findClass_of_methodNamed Bd.named
  have hnm := (name_of_methodNamed Bd.named Bd.method).1
  have hlk := Bd.notSynchronized
  have hret := Bd.returns
  have X0 : Stand p l e room_1 s m #[(.int w1), (.int a1), (.int ve)] below meth c s₁ [] 0 0 := Stand.of_body Bd
  have e0 : s₁.heap = h0 := by rw [← hh, Bd.state]; rfl
  have N0 := Fr.nil n0
  show own_Run p e below s 16 128 (Q0 Z w1 a1 ve h0 n0) (s₁.setTop (entryFrame m #[(.int w1), (.int a1), (.int ve)] maxLocals))
  refine own_cast (ef0 m w1 a1 ve) ?_
  show own_Run p e below s _ _ _ (s₁.setTop (mkF m 0 #[.val (.int w1), .val (.int a1), .val (.int ve), .unset, .unset, .unset, .unset, .unset] []))
  refine own_of (fun _ hh_ => XS.iconst X0.here hx rfl (hb hby at_0) hh_) ?_
  show own_Run p e below s _ _ _ (s₁.setTop (mkF m 1 #[.val (.int w1), .val (.int a1), .val (.int ve), .unset, .unset, .unset, .unset, .unset] [(.int (4 : Int32))]))
  obtain ⟨T1, h1, k1, X1, e1, E1, A1, st1⟩ := newP X0 hx hZ (hw _ (List.mem_of_getElem? (i := 0) rfl)) e0 (g := (mkF m 1 #[.val (.int w1), .val (.int a1), .val (.int ve), .unset, .unset, .unset, .unset, .unset] [(.int (4 : Int32))])) rfl (hb hby at_1) rfl (by decide) (cap := 4) (by decide) (by decide) (by decide) (by decide)
  obtain ⟨ob1, g1⟩ : ∃ z, z = h0.size := ⟨_, rfl⟩
  rw [← g1] at A1 st1
  have g_ob1 : n0 ≤ ob1 := Nat.le_trans Z0 (Nat.le_of_eq g1.symm)
  have V1 : own_Ar Z h1 ob1 .byte 4 (fun _ => 0) := own_Ar.new A1 rfl rfl
  refine own_of st1 ?_
  show own_Run p e below s _ _ _ (T1.setTop (mkF m 3 #[.val (.int w1), .val (.int a1), .val (.int ve), .unset, .unset, .unset, .unset, .unset] [(.ref ob1)]))
  refine own_of (fun _ hh_ => XS.astoreN X1.here hx rfl (hb hby at_3) rfl rfl (l' := #[.val (.int w1), .val (.int a1), .val (.int ve), .val (.ref ob1), .unset, .unset, .unset, .unset]) rfl hh_) ?_
  show own_Run p e below s _ _ _ (T1.setTop (mkF m 4 #[.val (.int w1), .val (.int a1), .val (.int ve), .val (.ref ob1), .unset, .unset, .unset, .unset] []))
  refine own_of (fun _ hh_ => XS.aloadN X1.here hx rfl (hb hby at_4) rfl rfl hh_) ?_
  show own_Run p e below s _ _ _ (T1.setTop (mkF m 5 #[.val (.int w1), .val (.int a1), .val (.int ve), .val (.ref ob1), .unset, .unset, .unset, .unset] [(.ref ob1)]))
  refine own_of (fun _ hh_ => XS.iconst X1.here hx rfl (hb hby at_5) hh_) ?_
  show own_Run p e below s _ _ _ (T1.setTop (mkF m 6 #[.val (.int w1), .val (.int a1), .val (.int ve), .val (.ref ob1), .unset, .unset, .unset, .unset] [(.int (0 : Int32)), (.ref ob1)]))
  refine own_of (fun _ hh_ => XS.iloadN X1.here hx rfl (hb hby at_6) rfl hh_) ?_
  show own_Run p e below s _ _ _ (T1.setTop (mkF m 7 #[.val (.int w1), .val (.int a1), .val (.int ve), .val (.ref ob1), .unset, .unset, .unset, .unset] [(.int w1), (.int (0 : Int32)), (.ref ob1)]))
  refine own_of (fun _ hh_ => XS.i2b X1.here hx rfl (hb hby at_7) rfl hh_) ?_
  show own_Run p e below s _ _ _ (T1.setTop (mkF m 8 #[.val (.int w1), .val (.int a1), .val (.int ve), .val (.ref ob1), .unset, .unset, .unset, .unset] [(.int (w1.toInt8.toInt32)), (.int (0 : Int32)), (.ref ob1)]))
  obtain ⟨T2, h2, X2, e2, W2, V2, st2⟩ := own_bas X1 hx hZ e1 V1 (j := (0 : Int32)) (x := (w1.toInt8.toInt32)) (by decide) (by decide) (pc := 8) (Ls := #[.val (.int w1), .val (.int a1), .val (.int ve), .val (.ref ob1), .unset, .unset, .unset, .unset]) (rest := []) (hb hby at_8)
  have N2 := Fr.snoc X2 N0 g_ob1
  replace V2 : own_Ar Z h2 ob1 .byte 4 (own_up (fun _ => 0) 0 (w1.toInt8.toInt32).toInt8.toInt32) := V2
  refine own_of st2 ?_
  show own_Run p e below s _ _ _ (T2.setTop (mkF m 9 #[.val (.int w1), .val (.int a1), .val (.int ve), .val (.ref ob1), .unset, .unset, .unset, .unset] []))
  refine own_of (fun _ hh_ => XS.aloadN X2.here hx rfl (hb hby at_9) rfl rfl hh_) ?_
  show own_Run p e below s _ _ _ (T2.setTop (mkF m 10 #[.val (.int w1), .val (.int a1), .val (.int ve), .val (.ref ob1), .unset, .unset, .unset, .unset] [(.ref ob1)]))
  refine own_of (fun _ hh_ => XS.iconst X2.here hx rfl (hb hby at_10) hh_) ?_
  show own_Run p e below s _ _ _ (T2.setTop (mkF m 11 #[.val (.int w1), .val (.int a1), .val (.int ve), .val (.ref ob1), .unset, .unset, .unset, .unset] [(.int (1 : Int32)), (.ref ob1)]))
  refine own_of (fun _ hh_ => XS.iloadN X2.here hx rfl (hb hby at_11) rfl hh_) ?_
  show own_Run p e below s _ _ _ (T2.setTop (mkF m 12 #[.val (.int w1), .val (.int a1), .val (.int ve), .val (.ref ob1), .unset, .unset, .unset, .unset] [(.int w1), (.int (1 : Int32)), (.ref ob1)]))
  refine own_of (fun _ hh_ => XS.bipush X2.here hx rfl (hb hby at_12) hh_) ?_
  show own_Run p e below s _ _ _ (T2.setTop (mkF m 14 #[.val (.int w1), .val (.int a1), .val (.int ve), .val (.ref ob1), .unset, .unset, .unset, .unset] [(.int (8 : Int32)), (.int w1), (.int (1 : Int32)), (.ref ob1)]))
  refine own_of (fun _ hh_ => XS.iushr X2.here hx rfl (hb hby at_14) rfl hh_) ?_
  show own_Run p e below s _ _ _ (T2.setTop (mkF m 15 #[.val (.int w1), .val (.int a1), .val (.int ve), .val (.ref ob1), .unset, .unset, .unset, .unset] [(.int ((w1.toUInt32 >>> ((8 : Int32) &&& 31).toUInt32).toInt32)), (.int (1 : Int32)), (.ref ob1)]))
  refine own_of (fun _ hh_ => XS.i2b X2.here hx rfl (hb hby at_15) rfl hh_) ?_
  show own_Run p e below s _ _ _ (T2.setTop (mkF m 16 #[.val (.int w1), .val (.int a1), .val (.int ve), .val (.ref ob1), .unset, .unset, .unset, .unset] [(.int (((w1.toUInt32 >>> ((8 : Int32) &&& 31).toUInt32).toInt32).toInt8.toInt32)), (.int (1 : Int32)), (.ref ob1)]))
  obtain ⟨T3, h3, X3, e3, W3, V3, st3⟩ := own_bas X2 hx hZ e2 V2 (j := (1 : Int32)) (x := (((w1.toUInt32 >>> ((8 : Int32) &&& 31).toUInt32).toInt32).toInt8.toInt32)) (by decide) (by decide) (pc := 16) (Ls := #[.val (.int w1), .val (.int a1), .val (.int ve), .val (.ref ob1), .unset, .unset, .unset, .unset]) (rest := []) (hb hby at_16)
  have N3 := Fr.snoc X3 N2 g_ob1
  replace V3 : own_Ar Z h3 ob1 .byte 4 (own_up (own_up (fun _ => 0) 0 (w1.toInt8.toInt32).toInt8.toInt32) 1 (((w1.toUInt32 >>> ((8 : Int32) &&& 31).toUInt32).toInt32).toInt8.toInt32).toInt8.toInt32) := V3
  refine own_of st3 ?_
  show own_Run p e below s _ _ _ (T3.setTop (mkF m 17 #[.val (.int w1), .val (.int a1), .val (.int ve), .val (.ref ob1), .unset, .unset, .unset, .unset] []))
  refine own_of (fun _ hh_ => XS.aloadN X3.here hx rfl (hb hby at_17) rfl rfl hh_) ?_
  show own_Run p e below s _ _ _ (T3.setTop (mkF m 18 #[.val (.int w1), .val (.int a1), .val (.int ve), .val (.ref ob1), .unset, .unset, .unset, .unset] [(.ref ob1)]))
  refine own_of (fun _ hh_ => XS.iconst X3.here hx rfl (hb hby at_18) hh_) ?_
  show own_Run p e below s _ _ _ (T3.setTop (mkF m 19 #[.val (.int w1), .val (.int a1), .val (.int ve), .val (.ref ob1), .unset, .unset, .unset, .unset] [(.int (2 : Int32)), (.ref ob1)]))
  refine own_of (fun _ hh_ => XS.iloadN X3.here hx rfl (hb hby at_19) rfl hh_) ?_
  show own_Run p e below s _ _ _ (T3.setTop (mkF m 20 #[.val (.int w1), .val (.int a1), .val (.int ve), .val (.ref ob1), .unset, .unset, .unset, .unset] [(.int w1), (.int (2 : Int32)), (.ref ob1)]))
  refine own_of (fun _ hh_ => XS.bipush X3.here hx rfl (hb hby at_20) hh_) ?_
  show own_Run p e below s _ _ _ (T3.setTop (mkF m 22 #[.val (.int w1), .val (.int a1), .val (.int ve), .val (.ref ob1), .unset, .unset, .unset, .unset] [(.int (16 : Int32)), (.int w1), (.int (2 : Int32)), (.ref ob1)]))
  refine own_of (fun _ hh_ => XS.iushr X3.here hx rfl (hb hby at_22) rfl hh_) ?_
  show own_Run p e below s _ _ _ (T3.setTop (mkF m 23 #[.val (.int w1), .val (.int a1), .val (.int ve), .val (.ref ob1), .unset, .unset, .unset, .unset] [(.int ((w1.toUInt32 >>> ((16 : Int32) &&& 31).toUInt32).toInt32)), (.int (2 : Int32)), (.ref ob1)]))
  refine own_of (fun _ hh_ => XS.i2b X3.here hx rfl (hb hby at_23) rfl hh_) ?_
  show own_Run p e below s _ _ _ (T3.setTop (mkF m 24 #[.val (.int w1), .val (.int a1), .val (.int ve), .val (.ref ob1), .unset, .unset, .unset, .unset] [(.int (((w1.toUInt32 >>> ((16 : Int32) &&& 31).toUInt32).toInt32).toInt8.toInt32)), (.int (2 : Int32)), (.ref ob1)]))
  obtain ⟨T4, h4, X4, e4, W4, V4, st4⟩ := own_bas X3 hx hZ e3 V3 (j := (2 : Int32)) (x := (((w1.toUInt32 >>> ((16 : Int32) &&& 31).toUInt32).toInt32).toInt8.toInt32)) (by decide) (by decide) (pc := 24) (Ls := #[.val (.int w1), .val (.int a1), .val (.int ve), .val (.ref ob1), .unset, .unset, .unset, .unset]) (rest := []) (hb hby at_24)
  have N4 := Fr.snoc X4 N3 g_ob1
  replace V4 : own_Ar Z h4 ob1 .byte 4 (own_up (own_up (own_up (fun _ => 0) 0 (w1.toInt8.toInt32).toInt8.toInt32) 1 (((w1.toUInt32 >>> ((8 : Int32) &&& 31).toUInt32).toInt32).toInt8.toInt32).toInt8.toInt32) 2 (((w1.toUInt32 >>> ((16 : Int32) &&& 31).toUInt32).toInt32).toInt8.toInt32).toInt8.toInt32) := V4
  refine own_of st4 ?_
  show own_Run p e below s _ _ _ (T4.setTop (mkF m 25 #[.val (.int w1), .val (.int a1), .val (.int ve), .val (.ref ob1), .unset, .unset, .unset, .unset] []))
  refine own_of (fun _ hh_ => XS.aloadN X4.here hx rfl (hb hby at_25) rfl rfl hh_) ?_
  show own_Run p e below s _ _ _ (T4.setTop (mkF m 26 #[.val (.int w1), .val (.int a1), .val (.int ve), .val (.ref ob1), .unset, .unset, .unset, .unset] [(.ref ob1)]))
  refine own_of (fun _ hh_ => XS.iconst X4.here hx rfl (hb hby at_26) hh_) ?_
  show own_Run p e below s _ _ _ (T4.setTop (mkF m 27 #[.val (.int w1), .val (.int a1), .val (.int ve), .val (.ref ob1), .unset, .unset, .unset, .unset] [(.int (3 : Int32)), (.ref ob1)]))
  refine own_of (fun _ hh_ => XS.iloadN X4.here hx rfl (hb hby at_27) rfl hh_) ?_
  show own_Run p e below s _ _ _ (T4.setTop (mkF m 28 #[.val (.int w1), .val (.int a1), .val (.int ve), .val (.ref ob1), .unset, .unset, .unset, .unset] [(.int w1), (.int (3 : Int32)), (.ref ob1)]))
  refine own_of (fun _ hh_ => XS.bipush X4.here hx rfl (hb hby at_28) hh_) ?_
  show own_Run p e below s _ _ _ (T4.setTop (mkF m 30 #[.val (.int w1), .val (.int a1), .val (.int ve), .val (.ref ob1), .unset, .unset, .unset, .unset] [(.int (24 : Int32)), (.int w1), (.int (3 : Int32)), (.ref ob1)]))
  refine own_of (fun _ hh_ => XS.iushr X4.here hx rfl (hb hby at_30) rfl hh_) ?_
  show own_Run p e below s _ _ _ (T4.setTop (mkF m 31 #[.val (.int w1), .val (.int a1), .val (.int ve), .val (.ref ob1), .unset, .unset, .unset, .unset] [(.int ((w1.toUInt32 >>> ((24 : Int32) &&& 31).toUInt32).toInt32)), (.int (3 : Int32)), (.ref ob1)]))
  refine own_of (fun _ hh_ => XS.i2b X4.here hx rfl (hb hby at_31) rfl hh_) ?_
  show own_Run p e below s _ _ _ (T4.setTop (mkF m 32 #[.val (.int w1), .val (.int a1), .val (.int ve), .val (.ref ob1), .unset, .unset, .unset, .unset] [(.int (((w1.toUInt32 >>> ((24 : Int32) &&& 31).toUInt32).toInt32).toInt8.toInt32)), (.int (3 : Int32)), (.ref ob1)]))
  obtain ⟨T5, h5, X5, e5, W5, V5, st5⟩ := own_bas X4 hx hZ e4 V4 (j := (3 : Int32)) (x := (((w1.toUInt32 >>> ((24 : Int32) &&& 31).toUInt32).toInt32).toInt8.toInt32)) (by decide) (by decide) (pc := 32) (Ls := #[.val (.int w1), .val (.int a1), .val (.int ve), .val (.ref ob1), .unset, .unset, .unset, .unset]) (rest := []) (hb hby at_32)
  have N5 := Fr.snoc X5 N4 g_ob1
  replace V5 : own_Ar Z h5 ob1 .byte 4 (own_up (own_up (own_up (own_up (fun _ => 0) 0 (w1.toInt8.toInt32).toInt8.toInt32) 1 (((w1.toUInt32 >>> ((8 : Int32) &&& 31).toUInt32).toInt32).toInt8.toInt32).toInt8.toInt32) 2 (((w1.toUInt32 >>> ((16 : Int32) &&& 31).toUInt32).toInt32).toInt8.toInt32).toInt8.toInt32) 3 (((w1.toUInt32 >>> ((24 : Int32) &&& 31).toUInt32).toInt32).toInt8.toInt32).toInt8.toInt32) := V5
  refine own_of st5 ?_
  show own_Run p e below s _ _ _ (T5.setTop (mkF m 33 #[.val (.int w1), .val (.int a1), .val (.int ve), .val (.ref ob1), .unset, .unset, .unset, .unset] []))
  refine own_of (fun _ hh_ => XS.iloadN X5.here hx rfl (hb hby at_33) rfl hh_) ?_
  show own_Run p e below s _ _ _ (T5.setTop (mkF m 34 #[.val (.int w1), .val (.int a1), .val (.int ve), .val (.ref ob1), .unset, .unset, .unset, .unset] [(.int a1)]))
  refine own_of (fun _ hh_ => XS.iconst X5.here hx rfl (hb hby at_34) hh_) ?_
  show own_Run p e below s _ _ _ (T5.setTop (mkF m 35 #[.val (.int w1), .val (.int a1), .val (.int ve), .val (.ref ob1), .unset, .unset, .unset, .unset] [(.int (3 : Int32)), (.int a1)]))
  refine own_of (fun _ hh_ => XS.iand X5.here hx rfl (hb hby at_35) rfl hh_) ?_
  show own_Run p e below s _ _ _ (T5.setTop (mkF m 36 #[.val (.int w1), .val (.int a1), .val (.int ve), .val (.ref ob1), .unset, .unset, .unset, .unset] [(.int (a1 &&& (3 : Int32)))]))
  rcases own_m3 a1 with hs6 | hs6 | hs6 | hs6
  · rw [hs6]
    show own_Run p e below s _ _ _ (T5.setTop (mkF m 36 #[.val (.int w1), .val (.int a1), .val (.int ve), .val (.ref ob1), .unset, .unset, .unset, .unset] [(.int (0 : Int32))]))
    refine own_of (fun _ hh_ => XS.istore X5.here hx rfl (hb hby at_36) rfl (l' := #[.val (.int w1), .val (.int a1), .val (.int ve), .val (.ref ob1), .val (.int (0 : Int32)), .unset, .unset, .unset]) rfl hh_) ?_
    show own_Run p e below s _ _ _ (T5.setTop (mkF m 38 #[.val (.int w1), .val (.int a1), .val (.int ve), .val (.ref ob1), .val (.int (0 : Int32)), .unset, .unset, .unset] []))
    refine own_of (fun _ hh_ => XS.aloadN X5.here hx rfl (hb hby at_38) rfl rfl hh_) ?_
    show own_Run p e below s _ _ _ (T5.setTop (mkF m 39 #[.val (.int w1), .val (.int a1), .val (.int ve), .val (.ref ob1), .val (.int (0 : Int32)), .unset, .unset, .unset] [(.ref ob1)]))
    refine own_of (fun _ hh_ => XS.iload X5.here hx rfl (hb hby at_39) rfl hh_) ?_
    show own_Run p e below s _ _ _ (T5.setTop (mkF m 41 #[.val (.int w1), .val (.int a1), .val (.int ve), .val (.ref ob1), .val (.int (0 : Int32)), .unset, .unset, .unset] [(.int (0 : Int32)), (.ref ob1)]))
    refine own_bal X5 hx hZ e5 V5 (j := (0 : Int32)) (w := (w1.toInt8.toInt32).toInt8.toInt32) (by decide) (by decide) rfl (hb hby at_41) ?_
    show own_Run p e below s _ _ _ (T5.setTop (mkF m 42 #[.val (.int w1), .val (.int a1), .val (.int ve), .val (.ref ob1), .val (.int (0 : Int32)), .unset, .unset, .unset] [(.int (w1.toInt8.toInt32).toInt8.toInt32)]))
    generalize hxx : (w1.toInt8.toInt32).toInt8.toInt32 = xx
    have rx : -128 ≤ xx.toInt ∧ xx.toInt < 128 := by rw [← hxx]; exact (c_i2b _).2
    show own_Run p e below s _ _ _ (T5.setTop (mkF m 42 #[.val (.int w1), .val (.int a1), .val (.int ve), .val (.ref ob1), .val (.int (0 : Int32)), .unset, .unset, .unset] [(.int xx)]))
    refine own_of (fun _ hh_ => XS.sipush X5.here hx rfl (hb hby at_42) hh_) ?_
    show own_Run p e below s _ _ _ (T5.setTop (mkF m 45 #[.val (.int w1), .val (.int a1), .val (.int ve), .val (.ref ob1), .val (.int (0 : Int32)), .unset, .unset, .unset] [(.int (255 : Int32)), (.int xx)]))
    refine own_of (fun _ hh_ => XS.iand X5.here hx rfl (hb hby at_45) rfl hh_) ?_
    show own_Run p e below s _ _ _ (T5.setTop (mkF m 46 #[.val (.int w1), .val (.int a1), .val (.int ve), .val (.ref ob1), .val (.int (0 : Int32)), .unset, .unset, .unset] [(.int (xx &&& (255 : Int32)))]))
    refine own_of (fun _ hh_ => XS.istore X5.here hx rfl (hb hby at_46) rfl (l' := #[.val (.int w1), .val (.int a1), .val (.int ve), .val (.ref ob1), .val (.int (0 : Int32)), .val (.int (xx &&& (255 : Int32))), .unset, .unset]) rfl hh_) ?_
    show own_Run p e below s _ _ _ (T5.setTop (mkF m 48 #[.val (.int w1), .val (.int a1), .val (.int ve), .val (.ref ob1), .val (.int (0 : Int32)), .val (.int (xx &&& (255 : Int32))), .unset, .unset] []))
    refine own_of (fun _ hh_ => XS.aloadN X5.here hx rfl (hb hby at_48) rfl rfl hh_) ?_
    show own_Run p e below s _ _ _ (T5.setTop (mkF m 49 #[.val (.int w1), .val (.int a1), .val (.int ve), .val (.ref ob1), .val (.int (0 : Int32)), .val (.int (xx &&& (255 : Int32))), .unset, .unset] [(.ref ob1)]))
    refine own_of (fun _ hh_ => XS.iload X5.here hx rfl (hb hby at_49) rfl hh_) ?_
    show own_Run p e below s _ _ _ (T5.setTop (mkF m 51 #[.val (.int w1), .val (.int a1), .val (.int ve), .val (.ref ob1), .val (.int (0 : Int32)), .val (.int (xx &&& (255 : Int32))), .unset, .unset] [(.int (0 : Int32)), (.ref ob1)]))
    refine own_of (fun _ hh_ => XS.iloadN X5.here hx rfl (hb hby at_51) rfl hh_) ?_
    show own_Run p e below s _ _ _ (T5.setTop (mkF m 52 #[.val (.int w1), .val (.int a1), .val (.int ve), .val (.ref ob1), .val (.int (0 : Int32)), .val (.int (xx &&& (255 : Int32))), .unset, .unset] [(.int ve), (.int (0 : Int32)), (.ref ob1)]))
    obtain ⟨_, _, ⟨T7, L7, k7, n7⟩, -, X7, ⟨Lc7, hQ7, l7, y7, z7⟩, st7⟩ := Jvm.LawKit.callS X5 hx (y := (⟨"com/example/pagewright/pagewright/RecordCodec", "shortLength", "([BII)I"⟩ : MethodName)) hown (mvT hZ (hw _ (List.mem_of_getElem? (i := 1) rfl))) (mvT hZ (hw _ (List.mem_of_getElem? (i := 2) rfl))) (mvT hZ (hw _ (List.mem_of_getElem? (i := 3) rfl))) (mvT hZ (hw _ (List.mem_of_getElem? (i := 4) rfl))) (by decide) (backOf (W := 0) (rmS l Z a0 hw [] ob1 (0 : Int32) ve 4 (own_up (own_up (own_up (own_up (fun _ => 0) 0 (w1.toInt8.toInt32).toInt8.toInt32) 1 (((w1.toUInt32 >>> ((8 : Int32) &&& 31).toUInt32).toInt32).toInt8.toInt32).toInt8.toInt32) 2 (((w1.toUInt32 >>> ((16 : Int32) &&& 31).toUInt32).toInt32).toInt8.toInt32).toInt8.toInt32) 3 (((w1.toUInt32 >>> ((24 : Int32) &&& 31).toUInt32).toInt32).toInt8.toInt32).toInt8.toInt32) xx h5 n0 (Nat.le_trans (Nat.le_trans (Nat.le_trans (Nat.le_trans (Nat.le_trans Z0 E1.1) (Nat.le_of_eq W2.size.symm)) (Nat.le_of_eq W3.size.symm)) (Nat.le_of_eq W4.size.symm)) (Nat.le_of_eq W5.size.symm)) V5 (by decide) (by decide) hxx) hZ (hw _ (List.mem_of_getElem? (i := 4) rfl)) (hw _ (List.mem_of_getElem? (i := 3) rfl)) (by decide) (by decide)) (g := (mkF m 52 #[.val (.int w1), .val (.int a1), .val (.int ve), .val (.ref ob1), .val (.int (0 : Int32)), .val (.int (xx &&& (255 : Int32))), .unset, .unset] [(.int ve), (.int (0 : Int32)), (.ref ob1)])) rfl (by rw [hml]; rfl) (argsL := [(.ref ob1), (.int (0 : Int32)), (.int ve)]) (rest := []) (lenOf own_pd0 rfl) rfl (by show 2 * 0 + _ ≤ _; exact Nat.le_of_eq rfl) (hb hby at_52) (fun _ _ => ⟨rfl, e5, (by decide : 1 + 0 ≤ _), (by decide : 4 + 0 ≤ _)⟩)
    dsimp only [Pt.U, Pt.locs, Pt.cells, Pt.slots] at X7 l7 y7 z7 st7 hQ7
    subst l7 y7 z7
    obtain ⟨rfl, N7q, e7⟩ := hQ7
    have N7 := Fr.app N5 N7q
    refine own_of st7 ?_
    show own_Run p e below s _ _ _ (T7.setTop (mkF m 55 #[.val (.int w1), .val (.int a1), .val (.int ve), .val (.ref ob1), .val (.int (0 : Int32)), .val (.int (xx &&& (255 : Int32))), .unset, .unset] [(.int (own_sl xx (0 : Int32) ve))]))
    refine own_of (fun _ hh_ => XS.istore X7.here hx rfl (hb hby at_55) rfl (l' := #[.val (.int w1), .val (.int a1), .val (.int ve), .val (.ref ob1), .val (.int (0 : Int32)), .val (.int (xx &&& (255 : Int32))), .val (.int (own_sl xx (0 : Int32) ve)), .unset]) rfl hh_) ?_
    show own_Run p e below s _ _ _ (T7.setTop (mkF m 57 #[.val (.int w1), .val (.int a1), .val (.int ve), .val (.ref ob1), .val (.int (0 : Int32)), .val (.int (xx &&& (255 : Int32))), .val (.int (own_sl xx (0 : Int32) ve)), .unset] []))
    refine own_of (fun _ hh_ => XS.iloadN X7.here hx rfl (hb hby at_57) rfl hh_) ?_
    show own_Run p e below s _ _ _ (T7.setTop (mkF m 58 #[.val (.int w1), .val (.int a1), .val (.int ve), .val (.ref ob1), .val (.int (0 : Int32)), .val (.int (xx &&& (255 : Int32))), .val (.int (own_sl xx (0 : Int32) ve)), .unset] [(.int ve)]))
    refine own_of (fun _ hh_ => XS.iload X7.here hx rfl (hb hby at_58) rfl hh_) ?_
    show own_Run p e below s _ _ _ (T7.setTop (mkF m 60 #[.val (.int w1), .val (.int a1), .val (.int ve), .val (.ref ob1), .val (.int (0 : Int32)), .val (.int (xx &&& (255 : Int32))), .val (.int (own_sl xx (0 : Int32) ve)), .unset] [(.int (0 : Int32)), (.int ve)]))
    by_cases hc60_8 : (0 : Int32) < ve
    · refine own_of (fun _ hh_ => XS.icmpYes X7.here hx rfl (pc0 := 60) (pc' := 69) rfl (hb hby at_60) rfl (tlt hc60_8).2.2.1 (by decide) (by decide) hh_) ?_
      show own_Run p e below s _ _ _ (T7.setTop (mkF m 69 #[.val (.int w1), .val (.int a1), .val (.int ve), .val (.ref ob1), .val (.int (0 : Int32)), .val (.int (xx &&& (255 : Int32))), .val (.int (own_sl xx (0 : Int32) ve)), .unset] []))
      refine own_of (fun _ hh_ => XS.iload X7.here hx rfl (hb hby at_69) rfl hh_) ?_
      show own_Run p e below s _ _ _ (T7.setTop (mkF m 71 #[.val (.int w1), .val (.int a1), .val (.int ve), .val (.ref ob1), .val (.int (0 : Int32)), .val (.int (xx &&& (255 : Int32))), .val (.int (own_sl xx (0 : Int32) ve)), .unset] [(.int (xx &&& (255 : Int32)))]))
      refine own_of (fun _ hh_ => XS.sipush X7.here hx rfl (hb hby at_71) hh_) ?_
      show own_Run p e below s _ _ _ (T7.setTop (mkF m 74 #[.val (.int w1), .val (.int a1), .val (.int ve), .val (.ref ob1), .val (.int (0 : Int32)), .val (.int (xx &&& (255 : Int32))), .val (.int (own_sl xx (0 : Int32) ve)), .unset] [(.int (128 : Int32)), (.int (xx &&& (255 : Int32)))]))
      by_cases hc74_9 : (xx &&& (255 : Int32)) < (128 : Int32)
      · refine own_of (fun _ hh_ => XS.icmpYes X7.here hx rfl (pc0 := 74) (pc' := 83) rfl (hb hby at_74) rfl (tlt hc74_9).1 (by decide) (by decide) hh_) ?_
        show own_Run p e below s _ _ _ (T7.setTop (mkF m 83 #[.val (.int w1), .val (.int a1), .val (.int ve), .val (.ref ob1), .val (.int (0 : Int32)), .val (.int (xx &&& (255 : Int32))), .val (.int (own_sl xx (0 : Int32) ve)), .unset] []))
        refine own_of (fun _ hh_ => XS.iload X7.here hx rfl (hb hby at_83) rfl hh_) ?_
        show own_Run p e below s _ _ _ (T7.setTop (mkF m 85 #[.val (.int w1), .val (.int a1), .val (.int ve), .val (.ref ob1), .val (.int (0 : Int32)), .val (.int (xx &&& (255 : Int32))), .val (.int (own_sl xx (0 : Int32) ve)), .unset] [(.int (0 : Int32))]))
        refine own_of (fun _ hh_ => XS.i2l X7.here hx rfl (hb hby at_85) rfl hh_) ?_
        show own_Run p e below s _ _ _ (T7.setTop (mkF m 86 #[.val (.int w1), .val (.int a1), .val (.int ve), .val (.ref ob1), .val (.int (0 : Int32)), .val (.int (xx &&& (255 : Int32))), .val (.int (own_sl xx (0 : Int32) ve)), .unset] [(.long ((0 : Int32).toInt64))]))
        refine own_of (fun _ hh_ => XS.lconst X7.here hx rfl (hb hby at_86) hh_) ?_
        show own_Run p e below s _ _ _ (T7.setTop (mkF m 87 #[.val (.int w1), .val (.int a1), .val (.int ve), .val (.ref ob1), .val (.int (0 : Int32)), .val (.int (xx &&& (255 : Int32))), .val (.int (own_sl xx (0 : Int32) ve)), .unset] [(.long (1 : Int64)), (.long ((0 : Int32).toInt64))]))
        refine own_of (fun _ hh_ => XS.ladd X7.here hx rfl (hb hby at_87) rfl hh_) ?_
        show own_Run p e below s _ _ _ (T7.setTop (mkF m 88 #[.val (.int w1), .val (.int a1), .val (.int ve), .val (.ref ob1), .val (.int (0 : Int32)), .val (.int (xx &&& (255 : Int32))), .val (.int (own_sl xx (0 : Int32) ve)), .unset] [(.long (((0 : Int32).toInt64) + (1 : Int64)))]))
        refine own_of (fun _ hh_ => XS.iload X7.here hx rfl (hb hby at_88) rfl hh_) ?_
        show own_Run p e below s _ _ _ (T7.setTop (mkF m 90 #[.val (.int w1), .val (.int a1), .val (.int ve), .val (.ref ob1), .val (.int (0 : Int32)), .val (.int (xx &&& (255 : Int32))), .val (.int (own_sl xx (0 : Int32) ve)), .unset] [(.int (xx &&& (255 : Int32))), (.long (((0 : Int32).toInt64) + (1 : Int64)))]))
        refine own_of (fun _ hh_ => XS.i2l X7.here hx rfl (hb hby at_90) rfl hh_) ?_
        show own_Run p e below s _ _ _ (T7.setTop (mkF m 91 #[.val (.int w1), .val (.int a1), .val (.int ve), .val (.ref ob1), .val (.int (0 : Int32)), .val (.int (xx &&& (255 : Int32))), .val (.int (own_sl xx (0 : Int32) ve)), .unset] [(.long ((xx &&& (255 : Int32)).toInt64)), (.long (((0 : Int32).toInt64) + (1 : Int64)))]))
        refine own_of (fun _ hh_ => XS.ladd X7.here hx rfl (hb hby at_91) rfl hh_) ?_
        show own_Run p e below s _ _ _ (T7.setTop (mkF m 92 #[.val (.int w1), .val (.int a1), .val (.int ve), .val (.ref ob1), .val (.int (0 : Int32)), .val (.int (xx &&& (255 : Int32))), .val (.int (own_sl xx (0 : Int32) ve)), .unset] [(.long ((((0 : Int32).toInt64) + (1 : Int64)) + ((xx &&& (255 : Int32)).toInt64)))]))
        refine own_of (fun _ hh_ => XS.iloadN X7.here hx rfl (hb hby at_92) rfl hh_) ?_
        show own_Run p e below s _ _ _ (T7.setTop (mkF m 93 #[.val (.int w1), .val (.int a1), .val (.int ve), .val (.ref ob1), .val (.int (0 : Int32)), .val (.int (xx &&& (255 : Int32))), .val (.int (own_sl xx (0 : Int32) ve)), .unset] [(.int ve), (.long ((((0 : Int32).toInt64) + (1 : Int64)) + ((xx &&& (255 : Int32)).toInt64)))]))
        refine own_of (fun _ hh_ => XS.i2l X7.here hx rfl (hb hby at_93) rfl hh_) ?_
        show own_Run p e below s _ _ _ (T7.setTop (mkF m 94 #[.val (.int w1), .val (.int a1), .val (.int ve), .val (.ref ob1), .val (.int (0 : Int32)), .val (.int (xx &&& (255 : Int32))), .val (.int (own_sl xx (0 : Int32) ve)), .unset] [(.long (ve.toInt64)), (.long ((((0 : Int32).toInt64) + (1 : Int64)) + ((xx &&& (255 : Int32)).toInt64)))]))
        refine own_of (fun _ hh_ => XS.lcmp X7.here hx rfl (hb hby at_94) rfl hh_) ?_
        show own_Run p e below s _ _ _ (T7.setTop (mkF m 95 #[.val (.int w1), .val (.int a1), .val (.int ve), .val (.ref ob1), .val (.int (0 : Int32)), .val (.int (xx &&& (255 : Int32))), .val (.int (own_sl xx (0 : Int32) ve)), .unset] [(.int (lcmpW ((((0 : Int32).toInt64) + (1 : Int64)) + ((xx &&& (255 : Int32)).toInt64)) (ve.toInt64)))]))
        by_cases hc95_10 : (ve.toInt64) < ((((0 : Int32).toInt64) + (1 : Int64)) + ((xx &&& (255 : Int32)).toInt64))
        · refine own_of (fun _ hh_ => XS.ifNo X7.here hx rfl (hb hby at_95) rfl ((if0 _ _).trans (tlt ((lw_gt _ _).mpr hc95_10)).2.2.2) hh_) ?_
          show own_Run p e below s _ _ _ (T7.setTop (mkF m 98 #[.val (.int w1), .val (.int a1), .val (.int ve), .val (.ref ob1), .val (.int (0 : Int32)), .val (.int (xx &&& (255 : Int32))), .val (.int (own_sl xx (0 : Int32) ve)), .unset] []))
          refine own_of (fun _ hh_ => XS.iconst X7.here hx rfl (hb hby at_98) hh_) ?_
          show own_Run p e below s _ _ _ (T7.setTop (mkF m 99 #[.val (.int w1), .val (.int a1), .val (.int ve), .val (.ref ob1), .val (.int (0 : Int32)), .val (.int (xx &&& (255 : Int32))), .val (.int (own_sl xx (0 : Int32) ve)), .unset] [(.int (-1 : Int32))]))
          refine own_of (fun _ hh_ => XS.istore X7.here hx rfl (hb hby at_99) rfl (l' := #[.val (.int w1), .val (.int a1), .val (.int ve), .val (.ref ob1), .val (.int (0 : Int32)), .val (.int (xx &&& (255 : Int32))), .val (.int (own_sl xx (0 : Int32) ve)), .val (.int (-1 : Int32))]) rfl hh_) ?_
          show own_Run p e below s _ _ _ (T7.setTop (mkF m 101 #[.val (.int w1), .val (.int a1), .val (.int ve), .val (.ref ob1), .val (.int (0 : Int32)), .val (.int (xx &&& (255 : Int32))), .val (.int (own_sl xx (0 : Int32) ve)), .val (.int (-1 : Int32))] []))
          refine own_of (fun _ hh_ => XS.goto X7.here hx rfl (pc0 := 101) (pc' := 108) rfl (hb hby at_101) (by decide) (by decide) hh_) ?_
          show own_Run p e below s _ _ _ (T7.setTop (mkF m 108 #[.val (.int w1), .val (.int a1), .val (.int ve), .val (.ref ob1), .val (.int (0 : Int32)), .val (.int (xx &&& (255 : Int32))), .val (.int (own_sl xx (0 : Int32) ve)), .val (.int (-1 : Int32))] []))
          refine own_of (fun _ hh_ => XS.iload X7.here hx rfl (hb hby at_108) rfl hh_) ?_
          show own_Run p e below s _ _ _ (T7.setTop (mkF m 110 #[.val (.int w1), .val (.int a1), .val (.int ve), .val (.ref ob1), .val (.int (0 : Int32)), .val (.int (xx &&& (255 : Int32))), .val (.int (own_sl xx (0 : Int32) ve)), .val (.int (-1 : Int32))] [(.int (own_sl xx (0 : Int32) ve))]))
          refine own_of (fun _ hh_ => XS.iload X7.here hx rfl (hb hby at_110) rfl hh_) ?_
          show own_Run p e below s _ _ _ (T7.setTop (mkF m 112 #[.val (.int w1), .val (.int a1), .val (.int ve), .val (.ref ob1), .val (.int (0 : Int32)), .val (.int (xx &&& (255 : Int32))), .val (.int (own_sl xx (0 : Int32) ve)), .val (.int (-1 : Int32))] [(.int (-1 : Int32)), (.int (own_sl xx (0 : Int32) ve))]))
          have hc112_11 : (own_sl xx (0 : Int32) ve) = (-1 : Int32) := by unfold own_sl; rw [if_pos hc60_8, if_neg (show ¬ xx < (0 : Int32) from mt Int32.lt_iff_toInt_lt.mp <| by have a_hc60_8 := Int32.lt_iff_toInt_lt.mp hc60_8; have a_hc74_9 := Int32.lt_iff_toInt_lt.mp hc74_9; have a_hc95_10 := Int64.lt_iff_toInt_lt.mp hc95_10; have l_0 : (0 : Int32).toInt = 0 := rfl; have l_1 : (255 : Int32).toInt = 255 := rfl; have l_2 : (128 : Int32).toInt = 128 := rfl; have l_3 : (1 : Int64).toInt = 1 := rfl; have q1 := c_i2l ve; have q2 := c_i2l (xx &&& (255 : Int32)); have q3 := c_i2l (0 : Int32); have q4 := c_ladd (0 : Int32).toInt64 (1 : Int64); have q5 := c_ladd ((0 : Int32).toInt64 + (1 : Int64)) (xx &&& (255 : Int32)).toInt64; have q6 := rng64 ((0 : Int32).toInt64 + (1 : Int64)); have q7 := rng64 (((0 : Int32).toInt64 + (1 : Int64)) + (xx &&& (255 : Int32)).toInt64); have q8 := rng32 ve; have q9 := c_isub ve (0 : Int32); have qa := rng32 (ve - (0 : Int32)); have qb := own_u xx; obtain ⟨qc, qd⟩ := rx; omega), if_neg (show ¬ xx < ve - (0 : Int32) from mt Int32.lt_iff_toInt_lt.mp <| by have a_hc60_8 := Int32.lt_iff_toInt_lt.mp hc60_8; have a_hc74_9 := Int32.lt_iff_toInt_lt.mp hc74_9; have a_hc95_10 := Int64.lt_iff_toInt_lt.mp hc95_10; have l_0 : (0 : Int32).toInt = 0 := rfl; have l_1 : (255 : Int32).toInt = 255 := rfl; have l_2 : (128 : Int32).toInt = 128 := rfl; have l_3 : (1 : Int64).toInt = 1 := rfl; have q1 := c_i2l ve; have q2 := c_i2l (xx &&& (255 : Int32)); have q3 := c_i2l (0 : Int32); have q4 := c_ladd (0 : Int32).toInt64 (1 : Int64); have q5 := c_ladd ((0 : Int32).toInt64 + (1 : Int64)) (xx &&& (255 : Int32)).toInt64; have q6 := rng64 ((0 : Int32).toInt64 + (1 : Int64)); have q7 := rng64 (((0 : Int32).toInt64 + (1 : Int64)) + (xx &&& (255 : Int32)).toInt64); have q8 := rng32 ve; have q9 := c_isub ve (0 : Int32); have qa := rng32 (ve - (0 : Int32)); have qb := own_u xx; obtain ⟨qc, qd⟩ := rx; omega)]
          refine own_of (fun _ hh_ => XS.icmpNo X7.here hx rfl (hb hby at_112) rfl (teq hc112_11).2 hh_) ?_
          show own_Run p e below s _ _ _ (T7.setTop (mkF m 115 #[.val (.int w1), .val (.int a1), .val (.int ve), .val (.ref ob1), .val (.int (0 : Int32)), .val (.int (xx &&& (255 : Int32))), .val (.int (own_sl xx (0 : Int32) ve)), .val (.int (-1 : Int32))] []))
          refine own_of (fun _ hh_ => XS.iconst X7.here hx rfl (hb hby at_115) hh_) ?_
          show own_Run p e below s _ _ _ (T7.setTop (mkF m 116 #[.val (.int w1), .val (.int a1), .val (.int ve), .val (.ref ob1), .val (.int (0 : Int32)), .val (.int (xx &&& (255 : Int32))), .val (.int (own_sl xx (0 : Int32) ve)), .val (.int (-1 : Int32))] [(.int (1 : Int32))]))
          refine own_of (fun _ hh_ => XS.goto X7.here hx rfl (pc0 := 116) (pc' := 120) rfl (hb hby at_116) (by decide) (by decide) hh_) ?_
          show own_Run p e below s _ _ _ (T7.setTop (mkF m 120 #[.val (.int w1), .val (.int a1), .val (.int ve), .val (.ref ob1), .val (.int (0 : Int32)), .val (.int (xx &&& (255 : Int32))), .val (.int (own_sl xx (0 : Int32) ve)), .val (.int (-1 : Int32))] [(.int (1 : Int32))]))
          exact own_retN X7 hx (t := .boolean) hret hlk (by simp) (hb hby at_120) ⟨rfl, N7⟩ (by decide) (by decide)
        · refine own_of (fun _ hh_ => XS.ifYes X7.here hx rfl (pc0 := 95) (pc' := 104) rfl (hb hby at_95) rfl ((if0 _ _).trans (flt (fun q_ => hc95_10 ((lw_gt _ _).mp q_))).2.2.2) (by decide) (by decide) hh_) ?_
          show own_Run p e below s _ _ _ (T7.setTop (mkF m 104 #[.val (.int w1), .val (.int a1), .val (.int ve), .val (.ref ob1), .val (.int (0 : Int32)), .val (.int (xx &&& (255 : Int32))), .val (.int (own_sl xx (0 : Int32) ve)), .unset] []))
          refine own_of (fun _ hh_ => XS.iload X7.here hx rfl (hb hby at_104) rfl hh_) ?_
          show own_Run p e below s _ _ _ (T7.setTop (mkF m 106 #[.val (.int w1), .val (.int a1), .val (.int ve), .val (.ref ob1), .val (.int (0 : Int32)), .val (.int (xx &&& (255 : Int32))), .val (.int (own_sl xx (0 : Int32) ve)), .unset] [(.int (xx &&& (255 : Int32)))]))
          refine own_of (fun _ hh_ => XS.istore X7.here hx rfl (hb hby at_106) rfl (l' := #[.val (.int w1), .val (.int a1), .val (.int ve), .val (.ref ob1), .val (.int (0 : Int32)), .val (.int (xx &&& (255 : Int32))), .val (.int (own_sl xx (0 : Int32) ve)), .val (.int (xx &&& (255 : Int32)))]) rfl hh_) ?_
          show own_Run p e below s _ _ _ (T7.setTop (mkF m 108 #[.val (.int w1), .val (.int a1), .val (.int ve), .val (.ref ob1), .val (.int (0 : Int32)), .val (.int (xx &&& (255 : Int32))), .val (.int (own_sl xx (0 : Int32) ve)), .val (.int (xx &&& (255 : Int32)))] []))
          refine own_of (fun _ hh_ => XS.iload X7.here hx rfl (hb hby at_108) rfl hh_) ?_
          show own_Run p e below s _ _ _ (T7.setTop (mkF m 110 #[.val (.int w1), .val (.int a1), .val (.int ve), .val (.ref ob1), .val (.int (0 : Int32)), .val (.int (xx &&& (255 : Int32))), .val (.int (own_sl xx (0 : Int32) ve)), .val (.int (xx &&& (255 : Int32)))] [(.int (own_sl xx (0 : Int32) ve))]))
          refine own_of (fun _ hh_ => XS.iload X7.here hx rfl (hb hby at_110) rfl hh_) ?_
          show own_Run p e below s _ _ _ (T7.setTop (mkF m 112 #[.val (.int w1), .val (.int a1), .val (.int ve), .val (.ref ob1), .val (.int (0 : Int32)), .val (.int (xx &&& (255 : Int32))), .val (.int (own_sl xx (0 : Int32) ve)), .val (.int (xx &&& (255 : Int32)))] [(.int (xx &&& (255 : Int32))), (.int (own_sl xx (0 : Int32) ve))]))
          have hc112_12 : (own_sl xx (0 : Int32) ve) = (xx &&& (255 : Int32)) := by unfold own_sl; rw [if_pos hc60_8, if_neg (show ¬ xx < (0 : Int32) from mt Int32.lt_iff_toInt_lt.mp <| by have a_hc60_8 := Int32.lt_iff_toInt_lt.mp hc60_8; have a_hc74_9 := Int32.lt_iff_toInt_lt.mp hc74_9; have a_hc95_10 := mt Int64.lt_iff_toInt_lt.mpr hc95_10; have l_0 : (0 : Int32).toInt = 0 := rfl; have l_1 : (255 : Int32).toInt = 255 := rfl; have l_2 : (128 : Int32).toInt = 128 := rfl; have l_3 : (1 : Int64).toInt = 1 := rfl; have q1 := c_i2l ve; have q2 := c_i2l (xx &&& (255 : Int32)); have q3 := c_i2l (0 : Int32); have q4 := c_ladd (0 : Int32).toInt64 (1 : Int64); have q5 := c_ladd ((0 : Int32).toInt64 + (1 : Int64)) (xx &&& (255 : Int32)).toInt64; have q6 := rng64 ((0 : Int32).toInt64 + (1 : Int64)); have q7 := rng64 (((0 : Int32).toInt64 + (1 : Int64)) + (xx &&& (255 : Int32)).toInt64); have q8 := rng32 ve; have q9 := c_isub ve (0 : Int32); have qa := rng32 (ve - (0 : Int32)); have qb := own_u xx; obtain ⟨qc, qd⟩ := rx; omega), if_pos (show xx < ve - (0 : Int32) from Int32.lt_iff_toInt_lt.mpr <| by have a_hc60_8 := Int32.lt_iff_toInt_lt.mp hc60_8; have a_hc74_9 := Int32.lt_iff_toInt_lt.mp hc74_9; have a_hc95_10 := mt Int64.lt_iff_toInt_lt.mpr hc95_10; have l_0 : (0 : Int32).toInt = 0 := rfl; have l_1 : (255 : Int32).toInt = 255 := rfl; have l_2 : (128 : Int32).toInt = 128 := rfl; have l_3 : (1 : Int64).toInt = 1 := rfl; have q1 := c_i2l ve; have q2 := c_i2l (xx &&& (255 : Int32)); have q3 := c_i2l (0 : Int32); have q4 := c_ladd (0 : Int32).toInt64 (1 : Int64); have q5 := c_ladd ((0 : Int32).toInt64 + (1 : Int64)) (xx &&& (255 : Int32)).toInt64; have q6 := rng64 ((0 : Int32).toInt64 + (1 : Int64)); have q7 := rng64 (((0 : Int32).toInt64 + (1 : Int64)) + (xx &&& (255 : Int32)).toInt64); have q8 := rng32 ve; have q9 := c_isub ve (0 : Int32); have qa := rng32 (ve - (0 : Int32)); have qb := own_u xx; obtain ⟨qc, qd⟩ := rx; omega)]; apply Int32.toInt_inj.mp; have a_hc60_8 := Int32.lt_iff_toInt_lt.mp hc60_8; have a_hc74_9 := Int32.lt_iff_toInt_lt.mp hc74_9; have a_hc95_10 := mt Int64.lt_iff_toInt_lt.mpr hc95_10; have l_0 : (0 : Int32).toInt = 0 := rfl; have l_1 : (255 : Int32).toInt = 255 := rfl; have l_2 : (128 : Int32).toInt = 128 := rfl; have l_3 : (1 : Int64).toInt = 1 := rfl; have q1 := c_i2l ve; have q2 := c_i2l (xx &&& (255 : Int32)); have q3 := c_i2l (0 : Int32); have q4 := c_ladd (0 : Int32).toInt64 (1 : Int64); have q5 := c_ladd ((0 : Int32).toInt64 + (1 : Int64)) (xx &&& (255 : Int32)).toInt64; have q6 := rng64 ((0 : Int32).toInt64 + (1 : Int64)); have q7 := rng64 (((0 : Int32).toInt64 + (1 : Int64)) + (xx &&& (255 : Int32)).toInt64); have q8 := rng32 ve; have q9 := c_isub ve (0 : Int32); have qa := rng32 (ve - (0 : Int32)); have qb := own_u xx; obtain ⟨qc, qd⟩ := rx; omega
          refine own_of (fun _ hh_ => XS.icmpNo X7.here hx rfl (hb hby at_112) rfl (teq hc112_12).2 hh_) ?_
          show own_Run p e below s _ _ _ (T7.setTop (mkF m 115 #[.val (.int w1), .val (.int a1), .val (.int ve), .val (.ref ob1), .val (.int (0 : Int32)), .val (.int (xx &&& (255 : Int32))), .val (.int (own_sl xx (0 : Int32) ve)), .val (.int (xx &&& (255 : Int32)))] []))
          refine own_of (fun _ hh_ => XS.iconst X7.here hx rfl (hb hby at_115) hh_) ?_
          show own_Run p e below s _ _ _ (T7.setTop (mkF m 116 #[.val (.int w1), .val (.int a1), .val (.int ve), .val (.ref ob1), .val (.int (0 : Int32)), .val (.int (xx &&& (255 : Int32))), .val (.int (own_sl xx (0 : Int32) ve)), .val (.int (xx &&& (255 : Int32)))] [(.int (1 : Int32))]))
          refine own_of (fun _ hh_ => XS.goto X7.here hx rfl (pc0 := 116) (pc' := 120) rfl (hb hby at_116) (by decide) (by decide) hh_) ?_
          show own_Run p e below s _ _ _ (T7.setTop (mkF m 120 #[.val (.int w1), .val (.int a1), .val (.int ve), .val (.ref ob1), .val (.int (0 : Int32)), .val (.int (xx &&& (255 : Int32))), .val (.int (own_sl xx (0 : Int32) ve)), .val (.int (xx &&& (255 : Int32)))] [(.int (1 : Int32))]))
          exact own_retN X7 hx (t := .boolean) hret hlk (by simp) (hb hby at_120) ⟨rfl, N7⟩ (by decide) (by decide)
      · refine own_of (fun _ hh_ => XS.icmpNo X7.here hx rfl (hb hby at_74) rfl (flt hc74_9).1 hh_) ?_
        show own_Run p e below s _ _ _ (T7.setTop (mkF m 77 #[.val (.int w1), .val (.int a1), .val (.int ve), .val (.ref ob1), .val (.int (0 : Int32)), .val (.int (xx &&& (255 : Int32))), .val (.int (own_sl xx (0 : Int32) ve)), .unset] []))
        refine own_of (fun _ hh_ => XS.iconst X7.here hx rfl (hb hby at_77) hh_) ?_
        show own_Run p e below s _ _ _ (T7.setTop (mkF m 78 #[.val (.int w1), .val (.int a1), .val (.int ve), .val (.ref ob1), .val (.int (0 : Int32)), .val (.int (xx &&& (255 : Int32))), .val (.int (own_sl xx (0 : Int32) ve)), .unset] [(.int (-1 : Int32))]))
        refine own_of (fun _ hh_ => XS.istore X7.here hx rfl (hb hby at_78) rfl (l' := #[.val (.int w1), .val (.int a1), .val (.int ve), .val (.ref ob1), .val (.int (0 : Int32)), .val (.int (xx &&& (255 : Int32))), .val (.int (own_sl xx (0 : Int32) ve)), .val (.int (-1 : Int32))]) rfl hh_) ?_
        show own_Run p e below s _ _ _ (T7.setTop (mkF m 80 #[.val (.int w1), .val (.int a1), .val (.int ve), .val (.ref ob1), .val (.int (0 : Int32)), .val (.int (xx &&& (255 : Int32))), .val (.int (own_sl xx (0 : Int32) ve)), .val (.int (-1 : Int32))] []))
        refine own_of (fun _ hh_ => XS.goto X7.here hx rfl (pc0 := 80) (pc' := 108) rfl (hb hby at_80) (by decide) (by decide) hh_) ?_
        show own_Run p e below s _ _ _ (T7.setTop (mkF m 108 #[.val (.int w1), .val (.int a1), .val (.int ve), .val (.ref ob1), .val (.int (0 : Int32)), .val (.int (xx &&& (255 : Int32))), .val (.int (own_sl xx (0 : Int32) ve)), .val (.int (-1 : Int32))] []))
        refine own_of (fun _ hh_ => XS.iload X7.here hx rfl (hb hby at_108) rfl hh_) ?_
        show own_Run p e below s _ _ _ (T7.setTop (mkF m 110 #[.val (.int w1), .val (.int a1), .val (.int ve), .val (.ref ob1), .val (.int (0 : Int32)), .val (.int (xx &&& (255 : Int32))), .val (.int (own_sl xx (0 : Int32) ve)), .val (.int (-1 : Int32))] [(.int (own_sl xx (0 : Int32) ve))]))
        refine own_of (fun _ hh_ => XS.iload X7.here hx rfl (hb hby at_110) rfl hh_) ?_
        show own_Run p e below s _ _ _ (T7.setTop (mkF m 112 #[.val (.int w1), .val (.int a1), .val (.int ve), .val (.ref ob1), .val (.int (0 : Int32)), .val (.int (xx &&& (255 : Int32))), .val (.int (own_sl xx (0 : Int32) ve)), .val (.int (-1 : Int32))] [(.int (-1 : Int32)), (.int (own_sl xx (0 : Int32) ve))]))
        have hc112_13 : (own_sl xx (0 : Int32) ve) = (-1 : Int32) := by unfold own_sl; rw [if_pos hc60_8, if_pos (show xx < (0 : Int32) from Int32.lt_iff_toInt_lt.mpr <| by have a_hc60_8 := Int32.lt_iff_toInt_lt.mp hc60_8; have a_hc74_9 := mt Int32.lt_iff_toInt_lt.mpr hc74_9; have l_0 : (0 : Int32).toInt = 0 := rfl; have l_1 : (255 : Int32).toInt = 255 := rfl; have l_2 : (128 : Int32).toInt = 128 := rfl; have l_3 : (1 : Int64).toInt = 1 := rfl; have q1 := c_i2l ve; have q2 := c_i2l (xx &&& (255 : Int32)); have q3 := c_i2l (0 : Int32); have q4 := c_ladd (0 : Int32).toInt64 (1 : Int64); have q5 := c_ladd ((0 : Int32).toInt64 + (1 : Int64)) (xx &&& (255 : Int32)).toInt64; have q6 := rng64 ((0 : Int32).toInt64 + (1 : Int64)); have q7 := rng64 (((0 : Int32).toInt64 + (1 : Int64)) + (xx &&& (255 : Int32)).toInt64); have q8 := rng32 ve; have q9 := c_isub ve (0 : Int32); have qa := rng32 (ve - (0 : Int32)); have qb := own_u xx; obtain ⟨qc, qd⟩ := rx; omega)]
        refine own_of (fun _ hh_ => XS.icmpNo X7.here hx rfl (hb hby at_112) rfl (teq hc112_13).2 hh_) ?_
        show own_Run p e below s _ _ _ (T7.setTop (mkF m 115 #[.val (.int w1), .val (.int a1), .val (.int ve), .val (.ref ob1), .val (.int (0 : Int32)), .val (.int (xx &&& (255 : Int32))), .val (.int (own_sl xx (0 : Int32) ve)), .val (.int (-1 : Int32))] []))
        refine own_of (fun _ hh_ => XS.iconst X7.here hx rfl (hb hby at_115) hh_) ?_
        show own_Run p e below s _ _ _ (T7.setTop (mkF m 116 #[.val (.int w1), .val (.int a1), .val (.int ve), .val (.ref ob1), .val (.int (0 : Int32)), .val (.int (xx &&& (255 : Int32))), .val (.int (own_sl xx (0 : Int32) ve)), .val (.int (-1 : Int32))] [(.int (1 : Int32))]))
        refine own_of (fun _ hh_ => XS.goto X7.here hx rfl (pc0 := 116) (pc' := 120) rfl (hb hby at_116) (by decide) (by decide) hh_) ?_
        show own_Run p e below s _ _ _ (T7.setTop (mkF m 120 #[.val (.int w1), .val (.int a1), .val (.int ve), .val (.ref ob1), .val (.int (0 : Int32)), .val (.int (xx &&& (255 : Int32))), .val (.int (own_sl xx (0 : Int32) ve)), .val (.int (-1 : Int32))] [(.int (1 : Int32))]))
        exact own_retN X7 hx (t := .boolean) hret hlk (by simp) (hb hby at_120) ⟨rfl, N7⟩ (by decide) (by decide)
    · refine own_of (fun _ hh_ => XS.icmpNo X7.here hx rfl (hb hby at_60) rfl (flt hc60_8).2.2.1 hh_) ?_
      show own_Run p e below s _ _ _ (T7.setTop (mkF m 63 #[.val (.int w1), .val (.int a1), .val (.int ve), .val (.ref ob1), .val (.int (0 : Int32)), .val (.int (xx &&& (255 : Int32))), .val (.int (own_sl xx (0 : Int32) ve)), .unset] []))
      refine own_of (fun _ hh_ => XS.iconst X7.here hx rfl (hb hby at_63) hh_) ?_
      show own_Run p e below s _ _ _ (T7.setTop (mkF m 64 #[.val (.int w1), .val (.int a1), .val (.int ve), .val (.ref ob1), .val (.int (0 : Int32)), .val (.int (xx &&& (255 : Int32))), .val (.int (own_sl xx (0 : Int32) ve)), .unset] [(.int (-1 : Int32))]))
      refine own_of (fun _ hh_ => XS.istore X7.here hx rfl (hb hby at_64) rfl (l' := #[.val (.int w1), .val (.int a1), .val (.int ve), .val (.ref ob1), .val (.int (0 : Int32)), .val (.int (xx &&& (255 : Int32))), .val (.int (own_sl xx (0 : Int32) ve)), .val (.int (-1 : Int32))]) rfl hh_) ?_
      show own_Run p e below s _ _ _ (T7.setTop (mkF m 66 #[.val (.int w1), .val (.int a1), .val (.int ve), .val (.ref ob1), .val (.int (0 : Int32)), .val (.int (xx &&& (255 : Int32))), .val (.int (own_sl xx (0 : Int32) ve)), .val (.int (-1 : Int32))] []))
      refine own_of (fun _ hh_ => XS.goto X7.here hx rfl (pc0 := 66) (pc' := 108) rfl (hb hby at_66) (by decide) (by decide) hh_) ?_
      show own_Run p e below s _ _ _ (T7.setTop (mkF m 108 #[.val (.int w1), .val (.int a1), .val (.int ve), .val (.ref ob1), .val (.int (0 : Int32)), .val (.int (xx &&& (255 : Int32))), .val (.int (own_sl xx (0 : Int32) ve)), .val (.int (-1 : Int32))] []))
      refine own_of (fun _ hh_ => XS.iload X7.here hx rfl (hb hby at_108) rfl hh_) ?_
      show own_Run p e below s _ _ _ (T7.setTop (mkF m 110 #[.val (.int w1), .val (.int a1), .val (.int ve), .val (.ref ob1), .val (.int (0 : Int32)), .val (.int (xx &&& (255 : Int32))), .val (.int (own_sl xx (0 : Int32) ve)), .val (.int (-1 : Int32))] [(.int (own_sl xx (0 : Int32) ve))]))
      refine own_of (fun _ hh_ => XS.iload X7.here hx rfl (hb hby at_110) rfl hh_) ?_
      show own_Run p e below s _ _ _ (T7.setTop (mkF m 112 #[.val (.int w1), .val (.int a1), .val (.int ve), .val (.ref ob1), .val (.int (0 : Int32)), .val (.int (xx &&& (255 : Int32))), .val (.int (own_sl xx (0 : Int32) ve)), .val (.int (-1 : Int32))] [(.int (-1 : Int32)), (.int (own_sl xx (0 : Int32) ve))]))
      have hc112_14 : (own_sl xx (0 : Int32) ve) = (-1 : Int32) := by unfold own_sl; rw [if_neg hc60_8]
      refine own_of (fun _ hh_ => XS.icmpNo X7.here hx rfl (hb hby at_112) rfl (teq hc112_14).2 hh_) ?_
      show own_Run p e below s _ _ _ (T7.setTop (mkF m 115 #[.val (.int w1), .val (.int a1), .val (.int ve), .val (.ref ob1), .val (.int (0 : Int32)), .val (.int (xx &&& (255 : Int32))), .val (.int (own_sl xx (0 : Int32) ve)), .val (.int (-1 : Int32))] []))
      refine own_of (fun _ hh_ => XS.iconst X7.here hx rfl (hb hby at_115) hh_) ?_
      show own_Run p e below s _ _ _ (T7.setTop (mkF m 116 #[.val (.int w1), .val (.int a1), .val (.int ve), .val (.ref ob1), .val (.int (0 : Int32)), .val (.int (xx &&& (255 : Int32))), .val (.int (own_sl xx (0 : Int32) ve)), .val (.int (-1 : Int32))] [(.int (1 : Int32))]))
      refine own_of (fun _ hh_ => XS.goto X7.here hx rfl (pc0 := 116) (pc' := 120) rfl (hb hby at_116) (by decide) (by decide) hh_) ?_
      show own_Run p e below s _ _ _ (T7.setTop (mkF m 120 #[.val (.int w1), .val (.int a1), .val (.int ve), .val (.ref ob1), .val (.int (0 : Int32)), .val (.int (xx &&& (255 : Int32))), .val (.int (own_sl xx (0 : Int32) ve)), .val (.int (-1 : Int32))] [(.int (1 : Int32))]))
      exact own_retN X7 hx (t := .boolean) hret hlk (by simp) (hb hby at_120) ⟨rfl, N7⟩ (by decide) (by decide)
  · rw [hs6]
    show own_Run p e below s _ _ _ (T5.setTop (mkF m 36 #[.val (.int w1), .val (.int a1), .val (.int ve), .val (.ref ob1), .unset, .unset, .unset, .unset] [(.int (1 : Int32))]))
    refine own_of (fun _ hh_ => XS.istore X5.here hx rfl (hb hby at_36) rfl (l' := #[.val (.int w1), .val (.int a1), .val (.int ve), .val (.ref ob1), .val (.int (1 : Int32)), .unset, .unset, .unset]) rfl hh_) ?_
    show own_Run p e below s _ _ _ (T5.setTop (mkF m 38 #[.val (.int w1), .val (.int a1), .val (.int ve), .val (.ref ob1), .val (.int (1 : Int32)), .unset, .unset, .unset] []))
    refine own_of (fun _ hh_ => XS.aloadN X5.here hx rfl (hb hby at_38) rfl rfl hh_) ?_
    show own_Run p e below s _ _ _ (T5.setTop (mkF m 39 #[.val (.int w1), .val (.int a1), .val (.int ve), .val (.ref ob1), .val (.int (1 : Int32)), .unset, .unset, .unset] [(.ref ob1)]))
    refine own_of (fun _ hh_ => XS.iload X5.here hx rfl (hb hby at_39) rfl hh_) ?_
    show own_Run p e below s _ _ _ (T5.setTop (mkF m 41 #[.val (.int w1), .val (.int a1), .val (.int ve), .val (.ref ob1), .val (.int (1 : Int32)), .unset, .unset, .unset] [(.int (1 : Int32)), (.ref ob1)]))
    refine own_bal X5 hx hZ e5 V5 (j := (1 : Int32)) (w := (((w1.toUInt32 >>> ((8 : Int32) &&& 31).toUInt32).toInt32).toInt8.toInt32).toInt8.toInt32) (by decide) (by decide) rfl (hb hby at_41) ?_
    show own_Run p e below s _ _ _ (T5.setTop (mkF m 42 #[.val (.int w1), .val (.int a1), .val (.int ve), .val (.ref ob1), .val (.int (1 : Int32)), .unset, .unset, .unset] [(.int (((w1.toUInt32 >>> ((8 : Int32) &&& 31).toUInt32).toInt32).toInt8.toInt32).toInt8.toInt32)]))
    generalize hxx : (((w1.toUInt32 >>> ((8 : Int32) &&& 31).toUInt32).toInt32).toInt8.toInt32).toInt8.toInt32 = xx
    have rx : -128 ≤ xx.toInt ∧ xx.toInt < 128 := by rw [← hxx]; exact (c_i2b _).2
    show own_Run p e below s _ _ _ (T5.setTop (mkF m 42 #[.val (.int w1), .val (.int a1), .val (.int ve), .val (.ref ob1), .val (.int (1 : Int32)), .unset, .unset, .unset] [(.int xx)]))
    refine own_of (fun _ hh_ => XS.sipush X5.here hx rfl (hb hby at_42) hh_) ?_
    show own_Run p e below s _ _ _ (T5.setTop (mkF m 45 #[.val (.int w1), .val (.int a1), .val (.int ve), .val (.ref ob1), .val (.int (1 : Int32)), .unset, .unset, .unset] [(.int (255 : Int32)), (.int xx)]))
    refine own_of (fun _ hh_ => XS.iand X5.here hx rfl (hb hby at_45) rfl hh_) ?_
    show own_Run p e below s _ _ _ (T5.setTop (mkF m 46 #[.val (.int w1), .val (.int a1), .val (.int ve), .val (.ref ob1), .val (.int (1 : Int32)), .unset, .unset, .unset] [(.int (xx &&& (255 : Int32)))]))
    refine own_of (fun _ hh_ => XS.istore X5.here hx rfl (hb hby at_46) rfl (l' := #[.val (.int w1), .val (.int a1), .val (.int ve), .val (.ref ob1), .val (.int (1 : Int32)), .val (.int (xx &&& (255 : Int32))), .unset, .unset]) rfl hh_) ?_
    show own_Run p e below s _ _ _ (T5.setTop (mkF m 48 #[.val (.int w1), .val (.int a1), .val (.int ve), .val (.ref ob1), .val (.int (1 : Int32)), .val (.int (xx &&& (255 : Int32))), .unset, .unset] []))
    refine own_of (fun _ hh_ => XS.aloadN X5.here hx rfl (hb hby at_48) rfl rfl hh_) ?_
    show own_Run p e below s _ _ _ (T5.setTop (mkF m 49 #[.val (.int w1), .val (.int a1), .val (.int ve), .val (.ref ob1), .val (.int (1 : Int32)), .val (.int (xx &&& (255 : Int32))), .unset, .unset] [(.ref ob1)]))
    refine own_of (fun _ hh_ => XS.iload X5.here hx rfl (hb hby at_49) rfl hh_) ?_
    show own_Run p e below s _ _ _ (T5.setTop (mkF m 51 #[.val (.int w1), .val (.int a1), .val (.int ve), .val (.ref ob1), .val (.int (1 : Int32)), .val (.int (xx &&& (255 : Int32))), .unset, .unset] [(.int (1 : Int32)), (.ref ob1)]))
    refine own_of (fun _ hh_ => XS.iloadN X5.here hx rfl (hb hby at_51) rfl hh_) ?_
    show own_Run p e below s _ _ _ (T5.setTop (mkF m 52 #[.val (.int w1), .val (.int a1), .val (.int ve), .val (.ref ob1), .val (.int (1 : Int32)), .val (.int (xx &&& (255 : Int32))), .unset, .unset] [(.int ve), (.int (1 : Int32)), (.ref ob1)]))
    obtain ⟨_, _, ⟨T15, L15, k15, n15⟩, -, X15, ⟨Lc15, hQ15, l15, y15, z15⟩, st15⟩ := Jvm.LawKit.callS X5 hx (y := (⟨"com/example/pagewright/pagewright/RecordCodec", "shortLength", "([BII)I"⟩ : MethodName)) hown (mvT hZ (hw _ (List.mem_of_getElem? (i := 1) rfl))) (mvT hZ (hw _ (List.mem_of_getElem? (i := 2) rfl))) (mvT hZ (hw _ (List.mem_of_getElem? (i := 3) rfl))) (mvT hZ (hw _ (List.mem_of_getElem? (i := 4) rfl))) (by decide) (backOf (W := 0) (rmS l Z a0 hw [] ob1 (1 : Int32) ve 4 (own_up (own_up (own_up (own_up (fun _ => 0) 0 (w1.toInt8.toInt32).toInt8.toInt32) 1 (((w1.toUInt32 >>> ((8 : Int32) &&& 31).toUInt32).toInt32).toInt8.toInt32).toInt8.toInt32) 2 (((w1.toUInt32 >>> ((16 : Int32) &&& 31).toUInt32).toInt32).toInt8.toInt32).toInt8.toInt32) 3 (((w1.toUInt32 >>> ((24 : Int32) &&& 31).toUInt32).toInt32).toInt8.toInt32).toInt8.toInt32) xx h5 n0 (Nat.le_trans (Nat.le_trans (Nat.le_trans (Nat.le_trans (Nat.le_trans Z0 E1.1) (Nat.le_of_eq W2.size.symm)) (Nat.le_of_eq W3.size.symm)) (Nat.le_of_eq W4.size.symm)) (Nat.le_of_eq W5.size.symm)) V5 (by decide) (by decide) hxx) hZ (hw _ (List.mem_of_getElem? (i := 4) rfl)) (hw _ (List.mem_of_getElem? (i := 3) rfl)) (by decide) (by decide)) (g := (mkF m 52 #[.val (.int w1), .val (.int a1), .val (.int ve), .val (.ref ob1), .val (.int (1 : Int32)), .val (.int (xx &&& (255 : Int32))), .unset, .unset] [(.int ve), (.int (1 : Int32)), (.ref ob1)])) rfl (by rw [hml]; rfl) (argsL := [(.ref ob1), (.int (1 : Int32)), (.int ve)]) (rest := []) (lenOf own_pd0 rfl) rfl (by show 2 * 0 + _ ≤ _; exact Nat.le_of_eq rfl) (hb hby at_52) (fun _ _ => ⟨rfl, e5, (by decide : 1 + 0 ≤ _), (by decide : 4 + 0 ≤ _)⟩)
    dsimp only [Pt.U, Pt.locs, Pt.cells, Pt.slots] at X15 l15 y15 z15 st15 hQ15
    subst l15 y15 z15
    obtain ⟨rfl, N15q, e15⟩ := hQ15
    have N15 := Fr.app N5 N15q
    refine own_of st15 ?_
    show own_Run p e below s _ _ _ (T15.setTop (mkF m 55 #[.val (.int w1), .val (.int a1), .val (.int ve), .val (.ref ob1), .val (.int (1 : Int32)), .val (.int (xx &&& (255 : Int32))), .unset, .unset] [(.int (own_sl xx (1 : Int32) ve))]))
    refine own_of (fun _ hh_ => XS.istore X15.here hx rfl (hb hby at_55) rfl (l' := #[.val (.int w1), .val (.int a1), .val (.int ve), .val (.ref ob1), .val (.int (1 : Int32)), .val (.int (xx &&& (255 : Int32))), .val (.int (own_sl xx (1 : Int32) ve)), .unset]) rfl hh_) ?_
    show own_Run p e below s _ _ _ (T15.setTop (mkF m 57 #[.val (.int w1), .val (.int a1), .val (.int ve), .val (.ref ob1), .val (.int (1 : Int32)), .val (.int (xx &&& (255 : Int32))), .val (.int (own_sl xx (1 : Int32) ve)), .unset] []))
    refine own_of (fun _ hh_ => XS.iloadN X15.here hx rfl (hb hby at_57) rfl hh_) ?_
    show own_Run p e below s _ _ _ (T15.setTop (mkF m 58 #[.val (.int w1), .val (.int a1), .val (.int ve), .val (.ref ob1), .val (.int (1 : Int32)), .val (.int (xx &&& (255 : Int32))), .val (.int (own_sl xx (1 : Int32) ve)), .unset] [(.int ve)]))
    refine own_of (fun _ hh_ => XS.iload X15.here hx rfl (hb hby at_58) rfl hh_) ?_
    show own_Run p e below s _ _ _ (T15.setTop (mkF m 60 #[.val (.int w1), .val (.int a1), .val (.int ve), .val (.ref ob1), .val (.int (1 : Int32)), .val (.int (xx &&& (255 : Int32))), .val (.int (own_sl xx (1 : Int32) ve)), .unset] [(.int (1 : Int32)), (.int ve)]))
    by_cases hc60_16 : (1 : Int32) < ve
    · refine own_of (fun _ hh_ => XS.icmpYes X15.here hx rfl (pc0 := 60) (pc' := 69) rfl (hb hby at_60) rfl (tlt hc60_16).2.2.1 (by decide) (by decide) hh_) ?_
      show own_Run p e below s _ _ _ (T15.setTop (mkF m 69 #[.val (.int w1), .val (.int a1), .val (.int ve), .val (.ref ob1), .val (.int (1 : Int32)), .val (.int (xx &&& (255 : Int32))), .val (.int (own_sl xx (1 : Int32) ve)), .unset] []))
      refine own_of (fun _ hh_ => XS.iload X15.here hx rfl (hb hby at_69) rfl hh_) ?_
      show own_Run p e below s _ _ _ (T15.setTop (mkF m 71 #[.val (.int w1), .val (.int a1), .val (.int ve), .val (.ref ob1), .val (.int (1 : Int32)), .val (.int (xx &&& (255 : Int32))), .val (.int (own_sl xx (1 : Int32) ve)), .unset] [(.int (xx &&& (255 : Int32)))]))
      refine own_of (fun _ hh_ => XS.sipush X15.here hx rfl (hb hby at_71) hh_) ?_
      show own_Run p e below s _ _ _ (T15.setTop (mkF m 74 #[.val (.int w1), .val (.int a1), .val (.int ve), .val (.ref ob1), .val (.int (1 : Int32)), .val (.int (xx &&& (255 : Int32))), .val (.int (own_sl xx (1 : Int32) ve)), .unset] [(.int (128 : Int32)), (.int (xx &&& (255 : Int32)))]))
      by_cases hc74_17 : (xx &&& (255 : Int32)) < (128 : Int32)
      · refine own_of (fun _ hh_ => XS.icmpYes X15.here hx rfl (pc0 := 74) (pc' := 83) rfl (hb hby at_74) rfl (tlt hc74_17).1 (by decide) (by decide) hh_) ?_
        show own_Run p e below s _ _ _ (T15.setTop (mkF m 83 #[.val (.int w1), .val (.int a1), .val (.int ve), .val (.ref ob1), .val (.int (1 : Int32)), .val (.int (xx &&& (255 : Int32))), .val (.int (own_sl xx (1 : Int32) ve)), .unset] []))
        refine own_of (fun _ hh_ => XS.iload X15.here hx rfl (hb hby at_83) rfl hh_) ?_
        show own_Run p e below s _ _ _ (T15.setTop (mkF m 85 #[.val (.int w1), .val (.int a1), .val (.int ve), .val (.ref ob1), .val (.int (1 : Int32)), .val (.int (xx &&& (255 : Int32))), .val (.int (own_sl xx (1 : Int32) ve)), .unset] [(.int (1 : Int32))]))
        refine own_of (fun _ hh_ => XS.i2l X15.here hx rfl (hb hby at_85) rfl hh_) ?_
        show own_Run p e below s _ _ _ (T15.setTop (mkF m 86 #[.val (.int w1), .val (.int a1), .val (.int ve), .val (.ref ob1), .val (.int (1 : Int32)), .val (.int (xx &&& (255 : Int32))), .val (.int (own_sl xx (1 : Int32) ve)), .unset] [(.long ((1 : Int32).toInt64))]))
        refine own_of (fun _ hh_ => XS.lconst X15.here hx rfl (hb hby at_86) hh_) ?_
        show own_Run p e below s _ _ _ (T15.setTop (mkF m 87 #[.val (.int w1), .val (.int a1), .val (.int ve), .val (.ref ob1), .val (.int (1 : Int32)), .val (.int (xx &&& (255 : Int32))), .val (.int (own_sl xx (1 : Int32) ve)), .unset] [(.long (1 : Int64)), (.long ((1 : Int32).toInt64))]))
        refine own_of (fun _ hh_ => XS.ladd X15.here hx rfl (hb hby at_87) rfl hh_) ?_
        show own_Run p e below s _ _ _ (T15.setTop (mkF m 88 #[.val (.int w1), .val (.int a1), .val (.int ve), .val (.ref ob1), .val (.int (1 : Int32)), .val (.int (xx &&& (255 : Int32))), .val (.int (own_sl xx (1 : Int32) ve)), .unset] [(.long (((1 : Int32).toInt64) + (1 : Int64)))]))
        refine own_of (fun _ hh_ => XS.iload X15.here hx rfl (hb hby at_88) rfl hh_) ?_
        show own_Run p e below s _ _ _ (T15.setTop (mkF m 90 #[.val (.int w1), .val (.int a1), .val (.int ve), .val (.ref ob1), .val (.int (1 : Int32)), .val (.int (xx &&& (255 : Int32))), .val (.int (own_sl xx (1 : Int32) ve)), .unset] [(.int (xx &&& (255 : Int32))), (.long (((1 : Int32).toInt64) + (1 : Int64)))]))
        refine own_of (fun _ hh_ => XS.i2l X15.here hx rfl (hb hby at_90) rfl hh_) ?_
        show own_Run p e below s _ _ _ (T15.setTop (mkF m 91 #[.val (.int w1), .val (.int a1), .val (.int ve), .val (.ref ob1), .val (.int (1 : Int32)), .val (.int (xx &&& (255 : Int32))), .val (.int (own_sl xx (1 : Int32) ve)), .unset] [(.long ((xx &&& (255 : Int32)).toInt64)), (.long (((1 : Int32).toInt64) + (1 : Int64)))]))
        refine own_of (fun _ hh_ => XS.ladd X15.here hx rfl (hb hby at_91) rfl hh_) ?_
        show own_Run p e below s _ _ _ (T15.setTop (mkF m 92 #[.val (.int w1), .val (.int a1), .val (.int ve), .val (.ref ob1), .val (.int (1 : Int32)), .val (.int (xx &&& (255 : Int32))), .val (.int (own_sl xx (1 : Int32) ve)), .unset] [(.long ((((1 : Int32).toInt64) + (1 : Int64)) + ((xx &&& (255 : Int32)).toInt64)))]))
        refine own_of (fun _ hh_ => XS.iloadN X15.here hx rfl (hb hby at_92) rfl hh_) ?_
        show own_Run p e below s _ _ _ (T15.setTop (mkF m 93 #[.val (.int w1), .val (.int a1), .val (.int ve), .val (.ref ob1), .val (.int (1 : Int32)), .val (.int (xx &&& (255 : Int32))), .val (.int (own_sl xx (1 : Int32) ve)), .unset] [(.int ve), (.long ((((1 : Int32).toInt64) + (1 : Int64)) + ((xx &&& (255 : Int32)).toInt64)))]))
        refine own_of (fun _ hh_ => XS.i2l X15.here hx rfl (hb hby at_93) rfl hh_) ?_
        show own_Run p e below s _ _ _ (T15.setTop (mkF m 94 #[.val (.int w1), .val (.int a1), .val (.int ve), .val (.ref ob1), .val (.int (1 : Int32)), .val (.int (xx &&& (255 : Int32))), .val (.int (own_sl xx (1 : Int32) ve)), .unset] [(.long (ve.toInt64)), (.long ((((1 : Int32).toInt64) + (1 : Int64)) + ((xx &&& (255 : Int32)).toInt64)))]))
        refine own_of (fun _ hh_ => XS.lcmp X15.here hx rfl (hb hby at_94) rfl hh_) ?_
        show own_Run p e below s _ _ _ (T15.setTop (mkF m 95 #[.val (.int w1), .val (.int a1), .val (.int ve), .val (.ref ob1), .val (.int (1 : Int32)), .val (.int (xx &&& (255 : Int32))), .val (.int (own_sl xx (1 : Int32) ve)), .unset] [(.int (lcmpW ((((1 : Int32).toInt64) + (1 : Int64)) + ((xx &&& (255 : Int32)).toInt64)) (ve.toInt64)))]))
        by_cases hc95_18 : (ve.toInt64) < ((((1 : Int32).toInt64) + (1 : Int64)) + ((xx &&& (255 : Int32)).toInt64))
        · refine own_of (fun _ hh_ => XS.ifNo X15.here hx rfl (hb hby at_95) rfl ((if0 _ _).trans (tlt ((lw_gt _ _).mpr hc95_18)).2.2.2) hh_) ?_
          show own_Run p e below s _ _ _ (T15.setTop (mkF m 98 #[.val (.int w1), .val (.int a1), .val (.int ve), .val (.ref ob1), .val (.int (1 : Int32)), .val (.int (xx &&& (255 : Int32))), .val (.int (own_sl xx (1 : Int32) ve)), .unset] []))
          refine own_of (fun _ hh_ => XS.iconst X15.here hx rfl (hb hby at_98) hh_) ?_
          show own_Run p e below s _ _ _ (T15.setTop (mkF m 99 #[.val (.int w1), .val (.int a1), .val (.int ve), .val (.ref ob1), .val (.int (1 : Int32)), .val (.int (xx &&& (255 : Int32))), .val (.int (own_sl xx (1 : Int32) ve)), .unset] [(.int (-1 : Int32))]))
          refine own_of (fun _ hh_ => XS.istore X15.here hx rfl (hb hby at_99) rfl (l' := #[.val (.int w1), .val (.int a1), .val (.int ve), .val (.ref ob1), .val (.int (1 : Int32)), .val (.int (xx &&& (255 : Int32))), .val (.int (own_sl xx (1 : Int32) ve)), .val (.int (-1 : Int32))]) rfl hh_) ?_
          show own_Run p e below s _ _ _ (T15.setTop (mkF m 101 #[.val (.int w1), .val (.int a1), .val (.int ve), .val (.ref ob1), .val (.int (1 : Int32)), .val (.int (xx &&& (255 : Int32))), .val (.int (own_sl xx (1 : Int32) ve)), .val (.int (-1 : Int32))] []))
          refine own_of (fun _ hh_ => XS.goto X15.here hx rfl (pc0 := 101) (pc' := 108) rfl (hb hby at_101) (by decide) (by decide) hh_) ?_
          show own_Run p e below s _ _ _ (T15.setTop (mkF m 108 #[.val (.int w1), .val (.int a1), .val (.int ve), .val (.ref ob1), .val (.int (1 : Int32)), .val (.int (xx &&& (255 : Int32))), .val (.int (own_sl xx (1 : Int32) ve)), .val (.int (-1 : Int32))] []))
          refine own_of (fun _ hh_ => XS.iload X15.here hx rfl (hb hby at_108) rfl hh_) ?_
          show own_Run p e below s _ _ _ (T15.setTop (mkF m 110 #[.val (.int w1), .val (.int a1), .val (.int ve), .val (.ref ob1), .val (.int (1 : Int32)), .val (.int (xx &&& (255 : Int32))), .val (.int (own_sl xx (1 : Int32) ve)), .val (.int (-1 : Int32))] [(.int (own_sl xx (1 : Int32) ve))]))
          refine own_of (fun _ hh_ => XS.iload X15.here hx rfl (hb hby at_110) rfl hh_) ?_
          show own_Run p e below s _ _ _ (T15.setTop (mkF m 112 #[.val (.int w1), .val (.int a1), .val (.int ve), .val (.ref ob1), .val (.int (1 : Int32)), .val (.int (xx &&& (255 : Int32))), .val (.int (own_sl xx (1 : Int32) ve)), .val (.int (-1 : Int32))] [(.int (-1 : Int32)), (.int (own_sl xx (1 : Int32) ve))]))
          have hc112_19 : (own_sl xx (1 : Int32) ve) = (-1 : Int32) := by unfold own_sl; rw [if_pos hc60_16, if_neg (show ¬ xx < (0 : Int32) from mt Int32.lt_iff_toInt_lt.mp <| by have a_hc60_16 := Int32.lt_iff_toInt_lt.mp hc60_16; have a_hc74_17 := Int32.lt_iff_toInt_lt.mp hc74_17; have a_hc95_18 := Int64.lt_iff_toInt_lt.mp hc95_18; have l_0 : (1 : Int32).toInt = 1 := rfl; have l_1 : (255 : Int32).toInt = 255 := rfl; have l_2 : (128 : Int32).toInt = 128 := rfl; have l_3 : (1 : Int64).toInt = 1 := rfl; have l_4 : (0 : Int32).toInt = 0 := rfl; have q1 := c_i2l ve; have q2 := c_i2l (xx &&& (255 : Int32)); have q3 := c_i2l (1 : Int32); have q4 := c_ladd (1 : Int32).toInt64 (1 : Int64); have q5 := c_ladd ((1 : Int32).toInt64 + (1 : Int64)) (xx &&& (255 : Int32)).toInt64; have q6 := rng64 ((1 : Int32).toInt64 + (1 : Int64)); have q7 := rng64 (((1 : Int32).toInt64 + (1 : Int64)) + (xx &&& (255 : Int32)).toInt64); have q8 := rng32 ve; have q9 := c_isub ve (1 : Int32); have qa := rng32 (ve - (1 : Int32)); have qb := own_u xx; obtain ⟨qc, qd⟩ := rx; omega), if_neg (show ¬ xx < ve - (1 : Int32) from mt Int32.lt_iff_toInt_lt.mp <| by have a_hc60_16 := Int32.lt_iff_toInt_lt.mp hc60_16; have a_hc74_17 := Int32.lt_iff_toInt_lt.mp hc74_17; have a_hc95_18 := Int64.lt_iff_toInt_lt.mp hc95_18; have l_0 : (1 : Int32).toInt = 1 := rfl; have l_1 : (255 : Int32).toInt = 255 := rfl; have l_2 : (128 : Int32).toInt = 128 := rfl; have l_3 : (1 : Int64).toInt = 1 := rfl; have l_4 : (0 : Int32).toInt = 0 := rfl; have q1 := c_i2l ve; have q2 := c_i2l (xx &&& (255 : Int32)); have q3 := c_i2l (1 : Int32); have q4 := c_ladd (1 : Int32).toInt64 (1 : Int64); have q5 := c_ladd ((1 : Int32).toInt64 + (1 : Int64)) (xx &&& (255 : Int32)).toInt64; have q6 := rng64 ((1 : Int32).toInt64 + (1 : Int64)); have q7 := rng64 (((1 : Int32).toInt64 + (1 : Int64)) + (xx &&& (255 : Int32)).toInt64); have q8 := rng32 ve; have q9 := c_isub ve (1 : Int32); have qa := rng32 (ve - (1 : Int32)); have qb := own_u xx; obtain ⟨qc, qd⟩ := rx; omega)]
          refine own_of (fun _ hh_ => XS.icmpNo X15.here hx rfl (hb hby at_112) rfl (teq hc112_19).2 hh_) ?_
          show own_Run p e below s _ _ _ (T15.setTop (mkF m 115 #[.val (.int w1), .val (.int a1), .val (.int ve), .val (.ref ob1), .val (.int (1 : Int32)), .val (.int (xx &&& (255 : Int32))), .val (.int (own_sl xx (1 : Int32) ve)), .val (.int (-1 : Int32))] []))
          refine own_of (fun _ hh_ => XS.iconst X15.here hx rfl (hb hby at_115) hh_) ?_
          show own_Run p e below s _ _ _ (T15.setTop (mkF m 116 #[.val (.int w1), .val (.int a1), .val (.int ve), .val (.ref ob1), .val (.int (1 : Int32)), .val (.int (xx &&& (255 : Int32))), .val (.int (own_sl xx (1 : Int32) ve)), .val (.int (-1 : Int32))] [(.int (1 : Int32))]))
          refine own_of (fun _ hh_ => XS.goto X15.here hx rfl (pc0 := 116) (pc' := 120) rfl (hb hby at_116) (by decide) (by decide) hh_) ?_
          show own_Run p e below s _ _ _ (T15.setTop (mkF m 120 #[.val (.int w1), .val (.int a1), .val (.int ve), .val (.ref ob1), .val (.int (1 : Int32)), .val (.int (xx &&& (255 : Int32))), .val (.int (own_sl xx (1 : Int32) ve)), .val (.int (-1 : Int32))] [(.int (1 : Int32))]))
          exact own_retN X15 hx (t := .boolean) hret hlk (by simp) (hb hby at_120) ⟨rfl, N15⟩ (by decide) (by decide)
        · refine own_of (fun _ hh_ => XS.ifYes X15.here hx rfl (pc0 := 95) (pc' := 104) rfl (hb hby at_95) rfl ((if0 _ _).trans (flt (fun q_ => hc95_18 ((lw_gt _ _).mp q_))).2.2.2) (by decide) (by decide) hh_) ?_
          show own_Run p e below s _ _ _ (T15.setTop (mkF m 104 #[.val (.int w1), .val (.int a1), .val (.int ve), .val (.ref ob1), .val (.int (1 : Int32)), .val (.int (xx &&& (255 : Int32))), .val (.int (own_sl xx (1 : Int32) ve)), .unset] []))
          refine own_of (fun _ hh_ => XS.iload X15.here hx rfl (hb hby at_104) rfl hh_) ?_
          show own_Run p e below s _ _ _ (T15.setTop (mkF m 106 #[.val (.int w1), .val (.int a1), .val (.int ve), .val (.ref ob1), .val (.int (1 : Int32)), .val (.int (xx &&& (255 : Int32))), .val (.int (own_sl xx (1 : Int32) ve)), .unset] [(.int (xx &&& (255 : Int32)))]))
          refine own_of (fun _ hh_ => XS.istore X15.here hx rfl (hb hby at_106) rfl (l' := #[.val (.int w1), .val (.int a1), .val (.int ve), .val (.ref ob1), .val (.int (1 : Int32)), .val (.int (xx &&& (255 : Int32))), .val (.int (own_sl xx (1 : Int32) ve)), .val (.int (xx &&& (255 : Int32)))]) rfl hh_) ?_
          show own_Run p e below s _ _ _ (T15.setTop (mkF m 108 #[.val (.int w1), .val (.int a1), .val (.int ve), .val (.ref ob1), .val (.int (1 : Int32)), .val (.int (xx &&& (255 : Int32))), .val (.int (own_sl xx (1 : Int32) ve)), .val (.int (xx &&& (255 : Int32)))] []))
          refine own_of (fun _ hh_ => XS.iload X15.here hx rfl (hb hby at_108) rfl hh_) ?_
          show own_Run p e below s _ _ _ (T15.setTop (mkF m 110 #[.val (.int w1), .val (.int a1), .val (.int ve), .val (.ref ob1), .val (.int (1 : Int32)), .val (.int (xx &&& (255 : Int32))), .val (.int (own_sl xx (1 : Int32) ve)), .val (.int (xx &&& (255 : Int32)))] [(.int (own_sl xx (1 : Int32) ve))]))
          refine own_of (fun _ hh_ => XS.iload X15.here hx rfl (hb hby at_110) rfl hh_) ?_
          show own_Run p e below s _ _ _ (T15.setTop (mkF m 112 #[.val (.int w1), .val (.int a1), .val (.int ve), .val (.ref ob1), .val (.int (1 : Int32)), .val (.int (xx &&& (255 : Int32))), .val (.int (own_sl xx (1 : Int32) ve)), .val (.int (xx &&& (255 : Int32)))] [(.int (xx &&& (255 : Int32))), (.int (own_sl xx (1 : Int32) ve))]))
          have hc112_20 : (own_sl xx (1 : Int32) ve) = (xx &&& (255 : Int32)) := by unfold own_sl; rw [if_pos hc60_16, if_neg (show ¬ xx < (0 : Int32) from mt Int32.lt_iff_toInt_lt.mp <| by have a_hc60_16 := Int32.lt_iff_toInt_lt.mp hc60_16; have a_hc74_17 := Int32.lt_iff_toInt_lt.mp hc74_17; have a_hc95_18 := mt Int64.lt_iff_toInt_lt.mpr hc95_18; have l_0 : (1 : Int32).toInt = 1 := rfl; have l_1 : (255 : Int32).toInt = 255 := rfl; have l_2 : (128 : Int32).toInt = 128 := rfl; have l_3 : (1 : Int64).toInt = 1 := rfl; have l_4 : (0 : Int32).toInt = 0 := rfl; have q1 := c_i2l ve; have q2 := c_i2l (xx &&& (255 : Int32)); have q3 := c_i2l (1 : Int32); have q4 := c_ladd (1 : Int32).toInt64 (1 : Int64); have q5 := c_ladd ((1 : Int32).toInt64 + (1 : Int64)) (xx &&& (255 : Int32)).toInt64; have q6 := rng64 ((1 : Int32).toInt64 + (1 : Int64)); have q7 := rng64 (((1 : Int32).toInt64 + (1 : Int64)) + (xx &&& (255 : Int32)).toInt64); have q8 := rng32 ve; have q9 := c_isub ve (1 : Int32); have qa := rng32 (ve - (1 : Int32)); have qb := own_u xx; obtain ⟨qc, qd⟩ := rx; omega), if_pos (show xx < ve - (1 : Int32) from Int32.lt_iff_toInt_lt.mpr <| by have a_hc60_16 := Int32.lt_iff_toInt_lt.mp hc60_16; have a_hc74_17 := Int32.lt_iff_toInt_lt.mp hc74_17; have a_hc95_18 := mt Int64.lt_iff_toInt_lt.mpr hc95_18; have l_0 : (1 : Int32).toInt = 1 := rfl; have l_1 : (255 : Int32).toInt = 255 := rfl; have l_2 : (128 : Int32).toInt = 128 := rfl; have l_3 : (1 : Int64).toInt = 1 := rfl; have l_4 : (0 : Int32).toInt = 0 := rfl; have q1 := c_i2l ve; have q2 := c_i2l (xx &&& (255 : Int32)); have q3 := c_i2l (1 : Int32); have q4 := c_ladd (1 : Int32).toInt64 (1 : Int64); have q5 := c_ladd ((1 : Int32).toInt64 + (1 : Int64)) (xx &&& (255 : Int32)).toInt64; have q6 := rng64 ((1 : Int32).toInt64 + (1 : Int64)); have q7 := rng64 (((1 : Int32).toInt64 + (1 : Int64)) + (xx &&& (255 : Int32)).toInt64); have q8 := rng32 ve; have q9 := c_isub ve (1 : Int32); have qa := rng32 (ve - (1 : Int32)); have qb := own_u xx; obtain ⟨qc, qd⟩ := rx; omega)]; apply Int32.toInt_inj.mp; have a_hc60_16 := Int32.lt_iff_toInt_lt.mp hc60_16; have a_hc74_17 := Int32.lt_iff_toInt_lt.mp hc74_17; have a_hc95_18 := mt Int64.lt_iff_toInt_lt.mpr hc95_18; have l_0 : (1 : Int32).toInt = 1 := rfl; have l_1 : (255 : Int32).toInt = 255 := rfl; have l_2 : (128 : Int32).toInt = 128 := rfl; have l_3 : (1 : Int64).toInt = 1 := rfl; have l_4 : (0 : Int32).toInt = 0 := rfl; have q1 := c_i2l ve; have q2 := c_i2l (xx &&& (255 : Int32)); have q3 := c_i2l (1 : Int32); have q4 := c_ladd (1 : Int32).toInt64 (1 : Int64); have q5 := c_ladd ((1 : Int32).toInt64 + (1 : Int64)) (xx &&& (255 : Int32)).toInt64; have q6 := rng64 ((1 : Int32).toInt64 + (1 : Int64)); have q7 := rng64 (((1 : Int32).toInt64 + (1 : Int64)) + (xx &&& (255 : Int32)).toInt64); have q8 := rng32 ve; have q9 := c_isub ve (1 : Int32); have qa := rng32 (ve - (1 : Int32)); have qb := own_u xx; obtain ⟨qc, qd⟩ := rx; omega
          refine own_of (fun _ hh_ => XS.icmpNo X15.here hx rfl (hb hby at_112) rfl (teq hc112_20).2 hh_) ?_
          show own_Run p e below s _ _ _ (T15.setTop (mkF m 115 #[.val (.int w1), .val (.int a1), .val (.int ve), .val (.ref ob1), .val (.int (1 : Int32)), .val (.int (xx &&& (255 : Int32))), .val (.int (own_sl xx (1 : Int32) ve)), .val (.int (xx &&& (255 : Int32)))] []))
          refine own_of (fun _ hh_ => XS.iconst X15.here hx rfl (hb hby at_115) hh_) ?_
          show own_Run p e below s _ _ _ (T15.setTop (mkF m 116 #[.val (.int w1), .val (.int a1), .val (.int ve), .val (.ref ob1), .val (.int (1 : Int32)), .val (.int (xx &&& (255 : Int32))), .val (.int (own_sl xx (1 : Int32) ve)), .val (.int (xx &&& (255 : Int32)))] [(.int (1 : Int32))]))
          refine own_of (fun _ hh_ => XS.goto X15.here hx rfl (pc0 := 116) (pc' := 120) rfl (hb hby at_116) (by decide) (by decide) hh_) ?_
          show own_Run p e below s _ _ _ (T15.setTop (mkF m 120 #[.val (.int w1), .val (.int a1), .val (.int ve), .val (.ref ob1), .val (.int (1 : Int32)), .val (.int (xx &&& (255 : Int32))), .val (.int (own_sl xx (1 : Int32) ve)), .val (.int (xx &&& (255 : Int32)))] [(.int (1 : Int32))]))
          exact own_retN X15 hx (t := .boolean) hret hlk (by simp) (hb hby at_120) ⟨rfl, N15⟩ (by decide) (by decide)
      · refine own_of (fun _ hh_ => XS.icmpNo X15.here hx rfl (hb hby at_74) rfl (flt hc74_17).1 hh_) ?_
        show own_Run p e below s _ _ _ (T15.setTop (mkF m 77 #[.val (.int w1), .val (.int a1), .val (.int ve), .val (.ref ob1), .val (.int (1 : Int32)), .val (.int (xx &&& (255 : Int32))), .val (.int (own_sl xx (1 : Int32) ve)), .unset] []))
        refine own_of (fun _ hh_ => XS.iconst X15.here hx rfl (hb hby at_77) hh_) ?_
        show own_Run p e below s _ _ _ (T15.setTop (mkF m 78 #[.val (.int w1), .val (.int a1), .val (.int ve), .val (.ref ob1), .val (.int (1 : Int32)), .val (.int (xx &&& (255 : Int32))), .val (.int (own_sl xx (1 : Int32) ve)), .unset] [(.int (-1 : Int32))]))
        refine own_of (fun _ hh_ => XS.istore X15.here hx rfl (hb hby at_78) rfl (l' := #[.val (.int w1), .val (.int a1), .val (.int ve), .val (.ref ob1), .val (.int (1 : Int32)), .val (.int (xx &&& (255 : Int32))), .val (.int (own_sl xx (1 : Int32) ve)), .val (.int (-1 : Int32))]) rfl hh_) ?_
        show own_Run p e below s _ _ _ (T15.setTop (mkF m 80 #[.val (.int w1), .val (.int a1), .val (.int ve), .val (.ref ob1), .val (.int (1 : Int32)), .val (.int (xx &&& (255 : Int32))), .val (.int (own_sl xx (1 : Int32) ve)), .val (.int (-1 : Int32))] []))
        refine own_of (fun _ hh_ => XS.goto X15.here hx rfl (pc0 := 80) (pc' := 108) rfl (hb hby at_80) (by decide) (by decide) hh_) ?_
        show own_Run p e below s _ _ _ (T15.setTop (mkF m 108 #[.val (.int w1), .val (.int a1), .val (.int ve), .val (.ref ob1), .val (.int (1 : Int32)), .val (.int (xx &&& (255 : Int32))), .val (.int (own_sl xx (1 : Int32) ve)), .val (.int (-1 : Int32))] []))
        refine own_of (fun _ hh_ => XS.iload X15.here hx rfl (hb hby at_108) rfl hh_) ?_
        show own_Run p e below s _ _ _ (T15.setTop (mkF m 110 #[.val (.int w1), .val (.int a1), .val (.int ve), .val (.ref ob1), .val (.int (1 : Int32)), .val (.int (xx &&& (255 : Int32))), .val (.int (own_sl xx (1 : Int32) ve)), .val (.int (-1 : Int32))] [(.int (own_sl xx (1 : Int32) ve))]))
        refine own_of (fun _ hh_ => XS.iload X15.here hx rfl (hb hby at_110) rfl hh_) ?_
        show own_Run p e below s _ _ _ (T15.setTop (mkF m 112 #[.val (.int w1), .val (.int a1), .val (.int ve), .val (.ref ob1), .val (.int (1 : Int32)), .val (.int (xx &&& (255 : Int32))), .val (.int (own_sl xx (1 : Int32) ve)), .val (.int (-1 : Int32))] [(.int (-1 : Int32)), (.int (own_sl xx (1 : Int32) ve))]))
        have hc112_21 : (own_sl xx (1 : Int32) ve) = (-1 : Int32) := by unfold own_sl; rw [if_pos hc60_16, if_pos (show xx < (0 : Int32) from Int32.lt_iff_toInt_lt.mpr <| by have a_hc60_16 := Int32.lt_iff_toInt_lt.mp hc60_16; have a_hc74_17 := mt Int32.lt_iff_toInt_lt.mpr hc74_17; have l_0 : (1 : Int32).toInt = 1 := rfl; have l_1 : (255 : Int32).toInt = 255 := rfl; have l_2 : (128 : Int32).toInt = 128 := rfl; have l_3 : (1 : Int64).toInt = 1 := rfl; have l_4 : (0 : Int32).toInt = 0 := rfl; have q1 := c_i2l ve; have q2 := c_i2l (xx &&& (255 : Int32)); have q3 := c_i2l (1 : Int32); have q4 := c_ladd (1 : Int32).toInt64 (1 : Int64); have q5 := c_ladd ((1 : Int32).toInt64 + (1 : Int64)) (xx &&& (255 : Int32)).toInt64; have q6 := rng64 ((1 : Int32).toInt64 + (1 : Int64)); have q7 := rng64 (((1 : Int32).toInt64 + (1 : Int64)) + (xx &&& (255 : Int32)).toInt64); have q8 := rng32 ve; have q9 := c_isub ve (1 : Int32); have qa := rng32 (ve - (1 : Int32)); have qb := own_u xx; obtain ⟨qc, qd⟩ := rx; omega)]
        refine own_of (fun _ hh_ => XS.icmpNo X15.here hx rfl (hb hby at_112) rfl (teq hc112_21).2 hh_) ?_
        show own_Run p e below s _ _ _ (T15.setTop (mkF m 115 #[.val (.int w1), .val (.int a1), .val (.int ve), .val (.ref ob1), .val (.int (1 : Int32)), .val (.int (xx &&& (255 : Int32))), .val (.int (own_sl xx (1 : Int32) ve)), .val (.int (-1 : Int32))] []))
        refine own_of (fun _ hh_ => XS.iconst X15.here hx rfl (hb hby at_115) hh_) ?_
        show own_Run p e below s _ _ _ (T15.setTop (mkF m 116 #[.val (.int w1), .val (.int a1), .val (.int ve), .val (.ref ob1), .val (.int (1 : Int32)), .val (.int (xx &&& (255 : Int32))), .val (.int (own_sl xx (1 : Int32) ve)), .val (.int (-1 : Int32))] [(.int (1 : Int32))]))
        refine own_of (fun _ hh_ => XS.goto X15.here hx rfl (pc0 := 116) (pc' := 120) rfl (hb hby at_116) (by decide) (by decide) hh_) ?_
        show own_Run p e below s _ _ _ (T15.setTop (mkF m 120 #[.val (.int w1), .val (.int a1), .val (.int ve), .val (.ref ob1), .val (.int (1 : Int32)), .val (.int (xx &&& (255 : Int32))), .val (.int (own_sl xx (1 : Int32) ve)), .val (.int (-1 : Int32))] [(.int (1 : Int32))]))
        exact own_retN X15 hx (t := .boolean) hret hlk (by simp) (hb hby at_120) ⟨rfl, N15⟩ (by decide) (by decide)
    · refine own_of (fun _ hh_ => XS.icmpNo X15.here hx rfl (hb hby at_60) rfl (flt hc60_16).2.2.1 hh_) ?_
      show own_Run p e below s _ _ _ (T15.setTop (mkF m 63 #[.val (.int w1), .val (.int a1), .val (.int ve), .val (.ref ob1), .val (.int (1 : Int32)), .val (.int (xx &&& (255 : Int32))), .val (.int (own_sl xx (1 : Int32) ve)), .unset] []))
      refine own_of (fun _ hh_ => XS.iconst X15.here hx rfl (hb hby at_63) hh_) ?_
      show own_Run p e below s _ _ _ (T15.setTop (mkF m 64 #[.val (.int w1), .val (.int a1), .val (.int ve), .val (.ref ob1), .val (.int (1 : Int32)), .val (.int (xx &&& (255 : Int32))), .val (.int (own_sl xx (1 : Int32) ve)), .unset] [(.int (-1 : Int32))]))
      refine own_of (fun _ hh_ => XS.istore X15.here hx rfl (hb hby at_64) rfl (l' := #[.val (.int w1), .val (.int a1), .val (.int ve), .val (.ref ob1), .val (.int (1 : Int32)), .val (.int (xx &&& (255 : Int32))), .val (.int (own_sl xx (1 : Int32) ve)), .val (.int (-1 : Int32))]) rfl hh_) ?_
      show own_Run p e below s _ _ _ (T15.setTop (mkF m 66 #[.val (.int w1), .val (.int a1), .val (.int ve), .val (.ref ob1), .val (.int (1 : Int32)), .val (.int (xx &&& (255 : Int32))), .val (.int (own_sl xx (1 : Int32) ve)), .val (.int (-1 : Int32))] []))
      refine own_of (fun _ hh_ => XS.goto X15.here hx rfl (pc0 := 66) (pc' := 108) rfl (hb hby at_66) (by decide) (by decide) hh_) ?_
      show own_Run p e below s _ _ _ (T15.setTop (mkF m 108 #[.val (.int w1), .val (.int a1), .val (.int ve), .val (.ref ob1), .val (.int (1 : Int32)), .val (.int (xx &&& (255 : Int32))), .val (.int (own_sl xx (1 : Int32) ve)), .val (.int (-1 : Int32))] []))
      refine own_of (fun _ hh_ => XS.iload X15.here hx rfl (hb hby at_108) rfl hh_) ?_
      show own_Run p e below s _ _ _ (T15.setTop (mkF m 110 #[.val (.int w1), .val (.int a1), .val (.int ve), .val (.ref ob1), .val (.int (1 : Int32)), .val (.int (xx &&& (255 : Int32))), .val (.int (own_sl xx (1 : Int32) ve)), .val (.int (-1 : Int32))] [(.int (own_sl xx (1 : Int32) ve))]))
      refine own_of (fun _ hh_ => XS.iload X15.here hx rfl (hb hby at_110) rfl hh_) ?_
      show own_Run p e below s _ _ _ (T15.setTop (mkF m 112 #[.val (.int w1), .val (.int a1), .val (.int ve), .val (.ref ob1), .val (.int (1 : Int32)), .val (.int (xx &&& (255 : Int32))), .val (.int (own_sl xx (1 : Int32) ve)), .val (.int (-1 : Int32))] [(.int (-1 : Int32)), (.int (own_sl xx (1 : Int32) ve))]))
      have hc112_22 : (own_sl xx (1 : Int32) ve) = (-1 : Int32) := by unfold own_sl; rw [if_neg hc60_16]
      refine own_of (fun _ hh_ => XS.icmpNo X15.here hx rfl (hb hby at_112) rfl (teq hc112_22).2 hh_) ?_
      show own_Run p e below s _ _ _ (T15.setTop (mkF m 115 #[.val (.int w1), .val (.int a1), .val (.int ve), .val (.ref ob1), .val (.int (1 : Int32)), .val (.int (xx &&& (255 : Int32))), .val (.int (own_sl xx (1 : Int32) ve)), .val (.int (-1 : Int32))] []))
      refine own_of (fun _ hh_ => XS.iconst X15.here hx rfl (hb hby at_115) hh_) ?_
      show own_Run p e below s _ _ _ (T15.setTop (mkF m 116 #[.val (.int w1), .val (.int a1), .val (.int ve), .val (.ref ob1), .val (.int (1 : Int32)), .val (.int (xx &&& (255 : Int32))), .val (.int (own_sl xx (1 : Int32) ve)), .val (.int (-1 : Int32))] [(.int (1 : Int32))]))
      refine own_of (fun _ hh_ => XS.goto X15.here hx rfl (pc0 := 116) (pc' := 120) rfl (hb hby at_116) (by decide) (by decide) hh_) ?_
      show own_Run p e below s _ _ _ (T15.setTop (mkF m 120 #[.val (.int w1), .val (.int a1), .val (.int ve), .val (.ref ob1), .val (.int (1 : Int32)), .val (.int (xx &&& (255 : Int32))), .val (.int (own_sl xx (1 : Int32) ve)), .val (.int (-1 : Int32))] [(.int (1 : Int32))]))
      exact own_retN X15 hx (t := .boolean) hret hlk (by simp) (hb hby at_120) ⟨rfl, N15⟩ (by decide) (by decide)
  · rw [hs6]
    show own_Run p e below s _ _ _ (T5.setTop (mkF m 36 #[.val (.int w1), .val (.int a1), .val (.int ve), .val (.ref ob1), .unset, .unset, .unset, .unset] [(.int (2 : Int32))]))
    refine own_of (fun _ hh_ => XS.istore X5.here hx rfl (hb hby at_36) rfl (l' := #[.val (.int w1), .val (.int a1), .val (.int ve), .val (.ref ob1), .val (.int (2 : Int32)), .unset, .unset, .unset]) rfl hh_) ?_
    show own_Run p e below s _ _ _ (T5.setTop (mkF m 38 #[.val (.int w1), .val (.int a1), .val (.int ve), .val (.ref ob1), .val (.int (2 : Int32)), .unset, .unset, .unset] []))
    refine own_of (fun _ hh_ => XS.aloadN X5.here hx rfl (hb hby at_38) rfl rfl hh_) ?_
    show own_Run p e below s _ _ _ (T5.setTop (mkF m 39 #[.val (.int w1), .val (.int a1), .val (.int ve), .val (.ref ob1), .val (.int (2 : Int32)), .unset, .unset, .unset] [(.ref ob1)]))
    refine own_of (fun _ hh_ => XS.iload X5.here hx rfl (hb hby at_39) rfl hh_) ?_
    show own_Run p e below s _ _ _ (T5.setTop (mkF m 41 #[.val (.int w1), .val (.int a1), .val (.int ve), .val (.ref ob1), .val (.int (2 : Int32)), .unset, .unset, .unset] [(.int (2 : Int32)), (.ref ob1)]))
    refine own_bal X5 hx hZ e5 V5 (j := (2 : Int32)) (w := (((w1.toUInt32 >>> ((16 : Int32) &&& 31).toUInt32).toInt32).toInt8.toInt32).toInt8.toInt32) (by decide) (by decide) rfl (hb hby at_41) ?_
    show own_Run p e below s _ _ _ (T5.setTop (mkF m 42 #[.val (.int w1), .val (.int a1), .val (.int ve), .val (.ref ob1), .val (.int (2 : Int32)), .unset, .unset, .unset] [(.int (((w1.toUInt32 >>> ((16 : Int32) &&& 31).toUInt32).toInt32).toInt8.toInt32).toInt8.toInt32)]))
    generalize hxx : (((w1.toUInt32 >>> ((16 : Int32) &&& 31).toUInt32).toInt32).toInt8.toInt32).toInt8.toInt32 = xx
    have rx : -128 ≤ xx.toInt ∧ xx.toInt < 128 := by rw [← hxx]; exact (c_i2b _).2
    show own_Run p e below s _ _ _ (T5.setTop (mkF m 42 #[.val (.int w1), .val (.int a1), .val (.int ve), .val (.ref ob1), .val (.int (2 : Int32)), .unset, .unset, .unset] [(.int xx)]))
    refine own_of (fun _ hh_ => XS.sipush X5.here hx rfl (hb hby at_42) hh_) ?_
    show own_Run p e below s _ _ _ (T5.setTop (mkF m 45 #[.val (.int w1), .val (.int a1), .val (.int ve), .val (.ref ob1), .val (.int (2 : Int32)), .unset, .unset, .unset] [(.int (255 : Int32)), (.int xx)]))
    refine own_of (fun _ hh_ => XS.iand X5.here hx rfl (hb hby at_45) rfl hh_) ?_
    show own_Run p e below s _ _ _ (T5.setTop (mkF m 46 #[.val (.int w1), .val (.int a1), .val (.int ve), .val (.ref ob1), .val (.int (2 : Int32)), .unset, .unset, .unset] [(.int (xx &&& (255 : Int32)))]))
    refine own_of (fun _ hh_ => XS.istore X5.here hx rfl (hb hby at_46) rfl (l' := #[.val (.int w1), .val (.int a1), .val (.int ve), .val (.ref ob1), .val (.int (2 : Int32)), .val (.int (xx &&& (255 : Int32))), .unset, .unset]) rfl hh_) ?_
    show own_Run p e below s _ _ _ (T5.setTop (mkF m 48 #[.val (.int w1), .val (.int a1), .val (.int ve), .val (.ref ob1), .val (.int (2 : Int32)), .val (.int (xx &&& (255 : Int32))), .unset, .unset] []))
    refine own_of (fun _ hh_ => XS.aloadN X5.here hx rfl (hb hby at_48) rfl rfl hh_) ?_
    show own_Run p e below s _ _ _ (T5.setTop (mkF m 49 #[.val (.int w1), .val (.int a1), .val (.int ve), .val (.ref ob1), .val (.int (2 : Int32)), .val (.int (xx &&& (255 : Int32))), .unset, .unset] [(.ref ob1)]))
    refine own_of (fun _ hh_ => XS.iload X5.here hx rfl (hb hby at_49) rfl hh_) ?_
    show own_Run p e below s _ _ _ (T5.setTop (mkF m 51 #[.val (.int w1), .val (.int a1), .val (.int ve), .val (.ref ob1), .val (.int (2 : Int32)), .val (.int (xx &&& (255 : Int32))), .unset, .unset] [(.int (2 : Int32)), (.ref ob1)]))
    refine own_of (fun _ hh_ => XS.iloadN X5.here hx rfl (hb hby at_51) rfl hh_) ?_
    show own_Run p e below s _ _ _ (T5.setTop (mkF m 52 #[.val (.int w1), .val (.int a1), .val (.int ve), .val (.ref ob1), .val (.int (2 : Int32)), .val (.int (xx &&& (255 : Int32))), .unset, .unset] [(.int ve), (.int (2 : Int32)), (.ref ob1)]))
    obtain ⟨_, _, ⟨T23, L23, k23, n23⟩, -, X23, ⟨Lc23, hQ23, l23, y23, z23⟩, st23⟩ := Jvm.LawKit.callS X5 hx (y := (⟨"com/example/pagewright/pagewright/RecordCodec", "shortLength", "([BII)I"⟩ : MethodName)) hown (mvT hZ (hw _ (List.mem_of_getElem? (i := 1) rfl))) (mvT hZ (hw _ (List.mem_of_getElem? (i := 2) rfl))) (mvT hZ (hw _ (List.mem_of_getElem? (i := 3) rfl))) (mvT hZ (hw _ (List.mem_of_getElem? (i := 4) rfl))) (by decide) (backOf (W := 0) (rmS l Z a0 hw [] ob1 (2 : Int32) ve 4 (own_up (own_up (own_up (own_up (fun _ => 0) 0 (w1.toInt8.toInt32).toInt8.toInt32) 1 (((w1.toUInt32 >>> ((8 : Int32) &&& 31).toUInt32).toInt32).toInt8.toInt32).toInt8.toInt32) 2 (((w1.toUInt32 >>> ((16 : Int32) &&& 31).toUInt32).toInt32).toInt8.toInt32).toInt8.toInt32) 3 (((w1.toUInt32 >>> ((24 : Int32) &&& 31).toUInt32).toInt32).toInt8.toInt32).toInt8.toInt32) xx h5 n0 (Nat.le_trans (Nat.le_trans (Nat.le_trans (Nat.le_trans (Nat.le_trans Z0 E1.1) (Nat.le_of_eq W2.size.symm)) (Nat.le_of_eq W3.size.symm)) (Nat.le_of_eq W4.size.symm)) (Nat.le_of_eq W5.size.symm)) V5 (by decide) (by decide) hxx) hZ (hw _ (List.mem_of_getElem? (i := 4) rfl)) (hw _ (List.mem_of_getElem? (i := 3) rfl)) (by decide) (by decide)) (g := (mkF m 52 #[.val (.int w1), .val (.int a1), .val (.int ve), .val (.ref ob1), .val (.int (2 : Int32)), .val (.int (xx &&& (255 : Int32))), .unset, .unset] [(.int ve), (.int (2 : Int32)), (.ref ob1)])) rfl (by rw [hml]; rfl) (argsL := [(.ref ob1), (.int (2 : Int32)), (.int ve)]) (rest := []) (lenOf own_pd0 rfl) rfl (by show 2 * 0 + _ ≤ _; exact Nat.le_of_eq rfl) (hb hby at_52) (fun _ _ => ⟨rfl, e5, (by decide : 1 + 0 ≤ _), (by decide : 4 + 0 ≤ _)⟩)
    dsimp only [Pt.U, Pt.locs, Pt.cells, Pt.slots] at X23 l23 y23 z23 st23 hQ23
    subst l23 y23 z23
    obtain ⟨rfl, N23q, e23⟩ := hQ23
    have N23 := Fr.app N5 N23q
    refine own_of st23 ?_
    show own_Run p e below s _ _ _ (T23.setTop (mkF m 55 #[.val (.int w1), .val (.int a1), .val (.int ve), .val (.ref ob1), .val (.int (2 : Int32)), .val (.int (xx &&& (255 : Int32))), .unset, .unset] [(.int (own_sl xx (2 : Int32) ve))]))
    refine own_of (fun _ hh_ => XS.istore X23.here hx rfl (hb hby at_55) rfl (l' := #[.val (.int w1), .val (.int a1), .val (.int ve), .val (.ref ob1), .val (.int (2 : Int32)), .val (.int (xx &&& (255 : Int32))), .val (.int (own_sl xx (2 : Int32) ve)), .unset]) rfl hh_) ?_
    show own_Run p e below s _ _ _ (T23.setTop (mkF m 57 #[.val (.int w1), .val (.int a1), .val (.int ve), .val (.ref ob1), .val (.int (2 : Int32)), .val (.int (xx &&& (255 : Int32))), .val (.int (own_sl xx (2 : Int32) ve)), .unset] []))
    refine own_of (fun _ hh_ => XS.iloadN X23.here hx rfl (hb hby at_57) rfl hh_) ?_
    show own_Run p e below s _ _ _ (T23.setTop (mkF m 58 #[.val (.int w1), .val (.int a1), .val (.int ve), .val (.ref ob1), .val (.int (2 : Int32)), .val (.int (xx &&& (255 : Int32))), .val (.int (own_sl xx (2 : Int32) ve)), .unset] [(.int ve)]))
    refine own_of (fun _ hh_ => XS.iload X23.here hx rfl (hb hby at_58) rfl hh_) ?_
    show own_Run p e below s _ _ _ (T23.setTop (mkF m 60 #[.val (.int w1), .val (.int a1), .val (.int ve), .val (.ref ob1), .val (.int (2 : Int32)), .val (.int (xx &&& (255 : Int32))), .val (.int (own_sl xx (2 : Int32) ve)), .unset] [(.int (2 : Int32)), (.int ve)]))
    by_cases hc60_24 : (2 : Int32) < ve
    · refine own_of (fun _ hh_ => XS.icmpYes X23.here hx rfl (pc0 := 60) (pc' := 69) rfl (hb hby at_60) rfl (tlt hc60_24).2.2.1 (by decide) (by decide) hh_) ?_
      show own_Run p e below s _ _ _ (T23.setTop (mkF m 69 #[.val (.int w1), .val (.int a1), .val (.int ve), .val (.ref ob1), .val (.int (2 : Int32)), .val (.int (xx &&& (255 : Int32))), .val (.int (own_sl xx (2 : Int32) ve)), .unset] []))
      refine own_of (fun _ hh_ => XS.iload X23.here hx rfl (hb hby at_69) rfl hh_) ?_
      show own_Run p e below s _ _ _ (T23.setTop (mkF m 71 #[.val (.int w1), .val (.int a1), .val (.int ve), .val (.ref ob1), .val (.int (2 : Int32)), .val (.int (xx &&& (255 : Int32))), .val (.int (own_sl xx (2 : Int32) ve)), .unset] [(.int (xx &&& (255 : Int32)))]))
      refine own_of (fun _ hh_ => XS.sipush X23.here hx rfl (hb hby at_71) hh_) ?_
      show own_Run p e below s _ _ _ (T23.setTop (mkF m 74 #[.val (.int w1), .val (.int a1), .val (.int ve), .val (.ref ob1), .val (.int (2 : Int32)), .val (.int (xx &&& (255 : Int32))), .val (.int (own_sl xx (2 : Int32) ve)), .unset] [(.int (128 : Int32)), (.int (xx &&& (255 : Int32)))]))
      by_cases hc74_25 : (xx &&& (255 : Int32)) < (128 : Int32)
      · refine own_of (fun _ hh_ => XS.icmpYes X23.here hx rfl (pc0 := 74) (pc' := 83) rfl (hb hby at_74) rfl (tlt hc74_25).1 (by decide) (by decide) hh_) ?_
        show own_Run p e below s _ _ _ (T23.setTop (mkF m 83 #[.val (.int w1), .val (.int a1), .val (.int ve), .val (.ref ob1), .val (.int (2 : Int32)), .val (.int (xx &&& (255 : Int32))), .val (.int (own_sl xx (2 : Int32) ve)), .unset] []))
        refine own_of (fun _ hh_ => XS.iload X23.here hx rfl (hb hby at_83) rfl hh_) ?_
        show own_Run p e below s _ _ _ (T23.setTop (mkF m 85 #[.val (.int w1), .val (.int a1), .val (.int ve), .val (.ref ob1), .val (.int (2 : Int32)), .val (.int (xx &&& (255 : Int32))), .val (.int (own_sl xx (2 : Int32) ve)), .unset] [(.int (2 : Int32))]))
        refine own_of (fun _ hh_ => XS.i2l X23.here hx rfl (hb hby at_85) rfl hh_) ?_
        show own_Run p e below s _ _ _ (T23.setTop (mkF m 86 #[.val (.int w1), .val (.int a1), .val (.int ve), .val (.ref ob1), .val (.int (2 : Int32)), .val (.int (xx &&& (255 : Int32))), .val (.int (own_sl xx (2 : Int32) ve)), .unset] [(.long ((2 : Int32).toInt64))]))
        refine own_of (fun _ hh_ => XS.lconst X23.here hx rfl (hb hby at_86) hh_) ?_
        show own_Run p e below s _ _ _ (T23.setTop (mkF m 87 #[.val (.int w1), .val (.int a1), .val (.int ve), .val (.ref ob1), .val (.int (2 : Int32)), .val (.int (xx &&& (255 : Int32))), .val (.int (own_sl xx (2 : Int32) ve)), .unset] [(.long (1 : Int64)), (.long ((2 : Int32).toInt64))]))
        refine own_of (fun _ hh_ => XS.ladd X23.here hx rfl (hb hby at_87) rfl hh_) ?_
        show own_Run p e below s _ _ _ (T23.setTop (mkF m 88 #[.val (.int w1), .val (.int a1), .val (.int ve), .val (.ref ob1), .val (.int (2 : Int32)), .val (.int (xx &&& (255 : Int32))), .val (.int (own_sl xx (2 : Int32) ve)), .unset] [(.long (((2 : Int32).toInt64) + (1 : Int64)))]))
        refine own_of (fun _ hh_ => XS.iload X23.here hx rfl (hb hby at_88) rfl hh_) ?_
        show own_Run p e below s _ _ _ (T23.setTop (mkF m 90 #[.val (.int w1), .val (.int a1), .val (.int ve), .val (.ref ob1), .val (.int (2 : Int32)), .val (.int (xx &&& (255 : Int32))), .val (.int (own_sl xx (2 : Int32) ve)), .unset] [(.int (xx &&& (255 : Int32))), (.long (((2 : Int32).toInt64) + (1 : Int64)))]))
        refine own_of (fun _ hh_ => XS.i2l X23.here hx rfl (hb hby at_90) rfl hh_) ?_
        show own_Run p e below s _ _ _ (T23.setTop (mkF m 91 #[.val (.int w1), .val (.int a1), .val (.int ve), .val (.ref ob1), .val (.int (2 : Int32)), .val (.int (xx &&& (255 : Int32))), .val (.int (own_sl xx (2 : Int32) ve)), .unset] [(.long ((xx &&& (255 : Int32)).toInt64)), (.long (((2 : Int32).toInt64) + (1 : Int64)))]))
        refine own_of (fun _ hh_ => XS.ladd X23.here hx rfl (hb hby at_91) rfl hh_) ?_
        show own_Run p e below s _ _ _ (T23.setTop (mkF m 92 #[.val (.int w1), .val (.int a1), .val (.int ve), .val (.ref ob1), .val (.int (2 : Int32)), .val (.int (xx &&& (255 : Int32))), .val (.int (own_sl xx (2 : Int32) ve)), .unset] [(.long ((((2 : Int32).toInt64) + (1 : Int64)) + ((xx &&& (255 : Int32)).toInt64)))]))
        refine own_of (fun _ hh_ => XS.iloadN X23.here hx rfl (hb hby at_92) rfl hh_) ?_
        show own_Run p e below s _ _ _ (T23.setTop (mkF m 93 #[.val (.int w1), .val (.int a1), .val (.int ve), .val (.ref ob1), .val (.int (2 : Int32)), .val (.int (xx &&& (255 : Int32))), .val (.int (own_sl xx (2 : Int32) ve)), .unset] [(.int ve), (.long ((((2 : Int32).toInt64) + (1 : Int64)) + ((xx &&& (255 : Int32)).toInt64)))]))
        refine own_of (fun _ hh_ => XS.i2l X23.here hx rfl (hb hby at_93) rfl hh_) ?_
        show own_Run p e below s _ _ _ (T23.setTop (mkF m 94 #[.val (.int w1), .val (.int a1), .val (.int ve), .val (.ref ob1), .val (.int (2 : Int32)), .val (.int (xx &&& (255 : Int32))), .val (.int (own_sl xx (2 : Int32) ve)), .unset] [(.long (ve.toInt64)), (.long ((((2 : Int32).toInt64) + (1 : Int64)) + ((xx &&& (255 : Int32)).toInt64)))]))
        refine own_of (fun _ hh_ => XS.lcmp X23.here hx rfl (hb hby at_94) rfl hh_) ?_
        show own_Run p e below s _ _ _ (T23.setTop (mkF m 95 #[.val (.int w1), .val (.int a1), .val (.int ve), .val (.ref ob1), .val (.int (2 : Int32)), .val (.int (xx &&& (255 : Int32))), .val (.int (own_sl xx (2 : Int32) ve)), .unset] [(.int (lcmpW ((((2 : Int32).toInt64) + (1 : Int64)) + ((xx &&& (255 : Int32)).toInt64)) (ve.toInt64)))]))
        by_cases hc95_26 : (ve.toInt64) < ((((2 : Int32).toInt64) + (1 : Int64)) + ((xx &&& (255 : Int32)).toInt64))
        · refine own_of (fun _ hh_ => XS.ifNo X23.here hx rfl (hb hby at_95) rfl ((if0 _ _).trans (tlt ((lw_gt _ _).mpr hc95_26)).2.2.2) hh_) ?_
          show own_Run p e below s _ _ _ (T23.setTop (mkF m 98 #[.val (.int w1), .val (.int a1), .val (.int ve), .val (.ref ob1), .val (.int (2 : Int32)), .val (.int (xx &&& (255 : Int32))), .val (.int (own_sl xx (2 : Int32) ve)), .unset] []))
          refine own_of (fun _ hh_ => XS.iconst X23.here hx rfl (hb hby at_98) hh_) ?_
          show own_Run p e below s _ _ _ (T23.setTop (mkF m 99 #[.val (.int w1), .val (.int a1), .val (.int ve), .val (.ref ob1), .val (.int (2 : Int32)), .val (.int (xx &&& (255 : Int32))), .val (.int (own_sl xx (2 : Int32) ve)), .unset] [(.int (-1 : Int32))]))
          refine own_of (fun _ hh_ => XS.istore X23.here hx rfl (hb hby at_99) rfl (l' := #[.val (.int w1), .val (.int a1), .val (.int ve), .val (.ref ob1), .val (.int (2 : Int32)), .val (.int (xx &&& (255 : Int32))), .val (.int (own_sl xx (2 : Int32) ve)), .val (.int (-1 : Int32))]) rfl hh_) ?_
          show own_Run p e below s _ _ _ (T23.setTop (mkF m 101 #[.val (.int w1), .val (.int a1), .val (.int ve), .val (.ref ob1), .val (.int (2 : Int32)), .val (.int (xx &&& (255 : Int32))), .val (.int (own_sl xx (2 : Int32) ve)), .val (.int (-1 : Int32))] []))
          refine own_of (fun _ hh_ => XS.goto X23.here hx rfl (pc0 := 101) (pc' := 108) rfl (hb hby at_101) (by decide) (by decide) hh_) ?_
          show own_Run p e below s _ _ _ (T23.setTop (mkF m 108 #[.val (.int w1), .val (.int a1), .val (.int ve), .val (.ref ob1), .val (.int (2 : Int32)), .val (.int (xx &&& (255 : Int32))), .val (.int (own_sl xx (2 : Int32) ve)), .val (.int (-1 : Int32))] []))
          refine own_of (fun _ hh_ => XS.iload X23.here hx rfl (hb hby at_108) rfl hh_) ?_
          show own_Run p e below s _ _ _ (T23.setTop (mkF m 110 #[.val (.int w1), .val (.int a1), .val (.int ve), .val (.ref ob1), .val (.int (2 : Int32)), .val (.int (xx &&& (255 : Int32))), .val (.int (own_sl xx (2 : Int32) ve)), .val (.int (-1 : Int32))] [(.int (own_sl xx (2 : Int32) ve))]))
          refine own_of (fun _ hh_ => XS.iload X23.here hx rfl (hb hby at_110) rfl hh_) ?_
          show own_Run p e below s _ _ _ (T23.setTop (mkF m 112 #[.val (.int w1), .val (.int a1), .val (.int ve), .val (.ref ob1), .val (.int (2 : Int32)), .val (.int (xx &&& (255 : Int32))), .val (.int (own_sl xx (2 : Int32) ve)), .val (.int (-1 : Int32))] [(.int (-1 : Int32)), (.int (own_sl xx (2 : Int32) ve))]))
          have hc112_27 : (own_sl xx (2 : Int32) ve) = (-1 : Int32) := by unfold own_sl; rw [if_pos hc60_24, if_neg (show ¬ xx < (0 : Int32) from mt Int32.lt_iff_toInt_lt.mp <| by have a_hc60_24 := Int32.lt_iff_toInt_lt.mp hc60_24; have a_hc74_25 := Int32.lt_iff_toInt_lt.mp hc74_25; have a_hc95_26 := Int64.lt_iff_toInt_lt.mp hc95_26; have l_0 : (2 : Int32).toInt = 2 := rfl; have l_1 : (255 : Int32).toInt = 255 := rfl; have l_2 : (128 : Int32).toInt = 128 := rfl; have l_3 : (1 : Int64).toInt = 1 := rfl; have l_4 : (0 : Int32).toInt = 0 := rfl; have q1 := c_i2l ve; have q2 := c_i2l (xx &&& (255 : Int32)); have q3 := c_i2l (2 : Int32); have q4 := c_ladd (2 : Int32).toInt64 (1 : Int64); have q5 := c_ladd ((2 : Int32).toInt64 + (1 : Int64)) (xx &&& (255 : Int32)).toInt64; have q6 := rng64 ((2 : Int32).toInt64 + (1 : Int64)); have q7 := rng64 (((2 : Int32).toInt64 + (1 : Int64)) + (xx &&& (255 : Int32)).toInt64); have q8 := rng32 ve; have q9 := c_isub ve (2 : Int32); have qa := rng32 (ve - (2 : Int32)); have qb := own_u xx; obtain ⟨qc, qd⟩ := rx; omega), if_neg (show ¬ xx < ve - (2 : Int32) from mt Int32.lt_iff_toInt_lt.mp <| by have a_hc60_24 := Int32.lt_iff_toInt_lt.mp hc60_24; have a_hc74_25 := Int32.lt_iff_toInt_lt.mp hc74_25; have a_hc95_26 := Int64.lt_iff_toInt_lt.mp hc95_26; have l_0 : (2 : Int32).toInt = 2 := rfl; have l_1 : (255 : Int32).toInt = 255 := rfl; have l_2 : (128 : Int32).toInt = 128 := rfl; have l_3 : (1 : Int64).toInt = 1 := rfl; have l_4 : (0 : Int32).toInt = 0 := rfl; have q1 := c_i2l ve; have q2 := c_i2l (xx &&& (255 : Int32)); have q3 := c_i2l (2 : Int32); have q4 := c_ladd (2 : Int32).toInt64 (1 : Int64); have q5 := c_ladd ((2 : Int32).toInt64 + (1 : Int64)) (xx &&& (255 : Int32)).toInt64; have q6 := rng64 ((2 : Int32).toInt64 + (1 : Int64)); have q7 := rng64 (((2 : Int32).toInt64 + (1 : Int64)) + (xx &&& (255 : Int32)).toInt64); have q8 := rng32 ve; have q9 := c_isub ve (2 : Int32); have qa := rng32 (ve - (2 : Int32)); have qb := own_u xx; obtain ⟨qc, qd⟩ := rx; omega)]
          refine own_of (fun _ hh_ => XS.icmpNo X23.here hx rfl (hb hby at_112) rfl (teq hc112_27).2 hh_) ?_
          show own_Run p e below s _ _ _ (T23.setTop (mkF m 115 #[.val (.int w1), .val (.int a1), .val (.int ve), .val (.ref ob1), .val (.int (2 : Int32)), .val (.int (xx &&& (255 : Int32))), .val (.int (own_sl xx (2 : Int32) ve)), .val (.int (-1 : Int32))] []))
          refine own_of (fun _ hh_ => XS.iconst X23.here hx rfl (hb hby at_115) hh_) ?_
          show own_Run p e below s _ _ _ (T23.setTop (mkF m 116 #[.val (.int w1), .val (.int a1), .val (.int ve), .val (.ref ob1), .val (.int (2 : Int32)), .val (.int (xx &&& (255 : Int32))), .val (.int (own_sl xx (2 : Int32) ve)), .val (.int (-1 : Int32))] [(.int (1 : Int32))]))
          refine own_of (fun _ hh_ => XS.goto X23.here hx rfl (pc0 := 116) (pc' := 120) rfl (hb hby at_116) (by decide) (by decide) hh_) ?_
          show own_Run p e below s _ _ _ (T23.setTop (mkF m 120 #[.val (.int w1), .val (.int a1), .val (.int ve), .val (.ref ob1), .val (.int (2 : Int32)), .val (.int (xx &&& (255 : Int32))), .val (.int (own_sl xx (2 : Int32) ve)), .val (.int (-1 : Int32))] [(.int (1 : Int32))]))
          exact own_retN X23 hx (t := .boolean) hret hlk (by simp) (hb hby at_120) ⟨rfl, N23⟩ (by decide) (by decide)
        · refine own_of (fun _ hh_ => XS.ifYes X23.here hx rfl (pc0 := 95) (pc' := 104) rfl (hb hby at_95) rfl ((if0 _ _).trans (flt (fun q_ => hc95_26 ((lw_gt _ _).mp q_))).2.2.2) (by decide) (by decide) hh_) ?_
          show own_Run p e below s _ _ _ (T23.setTop (mkF m 104 #[.val (.int w1), .val (.int a1), .val (.int ve), .val (.ref ob1), .val (.int (2 : Int32)), .val (.int (xx &&& (255 : Int32))), .val (.int (own_sl xx (2 : Int32) ve)), .unset] []))
          refine own_of (fun _ hh_ => XS.iload X23.here hx rfl (hb hby at_104) rfl hh_) ?_
          show own_Run p e below s _ _ _ (T23.setTop (mkF m 106 #[.val (.int w1), .val (.int a1), .val (.int ve), .val (.ref ob1), .val (.int (2 : Int32)), .val (.int (xx &&& (255 : Int32))), .val (.int (own_sl xx (2 : Int32) ve)), .unset] [(.int (xx &&& (255 : Int32)))]))
          refine own_of (fun _ hh_ => XS.istore X23.here hx rfl (hb hby at_106) rfl (l' := #[.val (.int w1), .val (.int a1), .val (.int ve), .val (.ref ob1), .val (.int (2 : Int32)), .val (.int (xx &&& (255 : Int32))), .val (.int (own_sl xx (2 : Int32) ve)), .val (.int (xx &&& (255 : Int32)))]) rfl hh_) ?_
          show own_Run p e below s _ _ _ (T23.setTop (mkF m 108 #[.val (.int w1), .val (.int a1), .val (.int ve), .val (.ref ob1), .val (.int (2 : Int32)), .val (.int (xx &&& (255 : Int32))), .val (.int (own_sl xx (2 : Int32) ve)), .val (.int (xx &&& (255 : Int32)))] []))
          refine own_of (fun _ hh_ => XS.iload X23.here hx rfl (hb hby at_108) rfl hh_) ?_
          show own_Run p e below s _ _ _ (T23.setTop (mkF m 110 #[.val (.int w1), .val (.int a1), .val (.int ve), .val (.ref ob1), .val (.int (2 : Int32)), .val (.int (xx &&& (255 : Int32))), .val (.int (own_sl xx (2 : Int32) ve)), .val (.int (xx &&& (255 : Int32)))] [(.int (own_sl xx (2 : Int32) ve))]))
          refine own_of (fun _ hh_ => XS.iload X23.here hx rfl (hb hby at_110) rfl hh_) ?_
          show own_Run p e below s _ _ _ (T23.setTop (mkF m 112 #[.val (.int w1), .val (.int a1), .val (.int ve), .val (.ref ob1), .val (.int (2 : Int32)), .val (.int (xx &&& (255 : Int32))), .val (.int (own_sl xx (2 : Int32) ve)), .val (.int (xx &&& (255 : Int32)))] [(.int (xx &&& (255 : Int32))), (.int (own_sl xx (2 : Int32) ve))]))
          have hc112_28 : (own_sl xx (2 : Int32) ve) = (xx &&& (255 : Int32)) := by unfold own_sl; rw [if_pos hc60_24, if_neg (show ¬ xx < (0 : Int32) from mt Int32.lt_iff_toInt_lt.mp <| by have a_hc60_24 := Int32.lt_iff_toInt_lt.mp hc60_24; have a_hc74_25 := Int32.lt_iff_toInt_lt.mp hc74_25; have a_hc95_26 := mt Int64.lt_iff_toInt_lt.mpr hc95_26; have l_0 : (2 : Int32).toInt = 2 := rfl; have l_1 : (255 : Int32).toInt = 255 := rfl; have l_2 : (128 : Int32).toInt = 128 := rfl; have l_3 : (1 : Int64).toInt = 1 := rfl; have l_4 : (0 : Int32).toInt = 0 := rfl; have q1 := c_i2l ve; have q2 := c_i2l (xx &&& (255 : Int32)); have q3 := c_i2l (2 : Int32); have q4 := c_ladd (2 : Int32).toInt64 (1 : Int64); have q5 := c_ladd ((2 : Int32).toInt64 + (1 : Int64)) (xx &&& (255 : Int32)).toInt64; have q6 := rng64 ((2 : Int32).toInt64 + (1 : Int64)); have q7 := rng64 (((2 : Int32).toInt64 + (1 : Int64)) + (xx &&& (255 : Int32)).toInt64); have q8 := rng32 ve; have q9 := c_isub ve (2 : Int32); have qa := rng32 (ve - (2 : Int32)); have qb := own_u xx; obtain ⟨qc, qd⟩ := rx; omega), if_pos (show xx < ve - (2 : Int32) from Int32.lt_iff_toInt_lt.mpr <| by have a_hc60_24 := Int32.lt_iff_toInt_lt.mp hc60_24; have a_hc74_25 := Int32.lt_iff_toInt_lt.mp hc74_25; have a_hc95_26 := mt Int64.lt_iff_toInt_lt.mpr hc95_26; have l_0 : (2 : Int32).toInt = 2 := rfl; have l_1 : (255 : Int32).toInt = 255 := rfl; have l_2 : (128 : Int32).toInt = 128 := rfl; have l_3 : (1 : Int64).toInt = 1 := rfl; have l_4 : (0 : Int32).toInt = 0 := rfl; have q1 := c_i2l ve; have q2 := c_i2l (xx &&& (255 : Int32)); have q3 := c_i2l (2 : Int32); have q4 := c_ladd (2 : Int32).toInt64 (1 : Int64); have q5 := c_ladd ((2 : Int32).toInt64 + (1 : Int64)) (xx &&& (255 : Int32)).toInt64; have q6 := rng64 ((2 : Int32).toInt64 + (1 : Int64)); have q7 := rng64 (((2 : Int32).toInt64 + (1 : Int64)) + (xx &&& (255 : Int32)).toInt64); have q8 := rng32 ve; have q9 := c_isub ve (2 : Int32); have qa := rng32 (ve - (2 : Int32)); have qb := own_u xx; obtain ⟨qc, qd⟩ := rx; omega)]; apply Int32.toInt_inj.mp; have a_hc60_24 := Int32.lt_iff_toInt_lt.mp hc60_24; have a_hc74_25 := Int32.lt_iff_toInt_lt.mp hc74_25; have a_hc95_26 := mt Int64.lt_iff_toInt_lt.mpr hc95_26; have l_0 : (2 : Int32).toInt = 2 := rfl; have l_1 : (255 : Int32).toInt = 255 := rfl; have l_2 : (128 : Int32).toInt = 128 := rfl; have l_3 : (1 : Int64).toInt = 1 := rfl; have l_4 : (0 : Int32).toInt = 0 := rfl; have q1 := c_i2l ve; have q2 := c_i2l (xx &&& (255 : Int32)); have q3 := c_i2l (2 : Int32); have q4 := c_ladd (2 : Int32).toInt64 (1 : Int64); have q5 := c_ladd ((2 : Int32).toInt64 + (1 : Int64)) (xx &&& (255 : Int32)).toInt64; have q6 := rng64 ((2 : Int32).toInt64 + (1 : Int64)); have q7 := rng64 (((2 : Int32).toInt64 + (1 : Int64)) + (xx &&& (255 : Int32)).toInt64); have q8 := rng32 ve; have q9 := c_isub ve (2 : Int32); have qa := rng32 (ve - (2 : Int32)); have qb := own_u xx; obtain ⟨qc, qd⟩ := rx; omega
          refine own_of (fun _ hh_ => XS.icmpNo X23.here hx rfl (hb hby at_112) rfl (teq hc112_28).2 hh_) ?_
          show own_Run p e below s _ _ _ (T23.setTop (mkF m 115 #[.val (.int w1), .val (.int a1), .val (.int ve), .val (.ref ob1), .val (.int (2 : Int32)), .val (.int (xx &&& (255 : Int32))), .val (.int (own_sl xx (2 : Int32) ve)), .val (.int (xx &&& (255 : Int32)))] []))
          refine own_of (fun _ hh_ => XS.iconst X23.here hx rfl (hb hby at_115) hh_) ?_
          show own_Run p e below s _ _ _ (T23.setTop (mkF m 116 #[.val (.int w1), .val (.int a1), .val (.int ve), .val (.ref ob1), .val (.int (2 : Int32)), .val (.int (xx &&& (255 : Int32))), .val (.int (own_sl xx (2 : Int32) ve)), .val (.int (xx &&& (255 : Int32)))] [(.int (1 : Int32))]))
          refine own_of (fun _ hh_ => XS.goto X23.here hx rfl (pc0 := 116) (pc' := 120) rfl (hb hby at_116) (by decide) (by decide) hh_) ?_
          show own_Run p e below s _ _ _ (T23.setTop (mkF m 120 #[.val (.int w1), .val (.int a1), .val (.int ve), .val (.ref ob1), .val (.int (2 : Int32)), .val (.int (xx &&& (255 : Int32))), .val (.int (own_sl xx (2 : Int32) ve)), .val (.int (xx &&& (255 : Int32)))] [(.int (1 : Int32))]))
          exact own_retN X23 hx (t := .boolean) hret hlk (by simp) (hb hby at_120) ⟨rfl, N23⟩ (by decide) (by decide)
      · refine own_of (fun _ hh_ => XS.icmpNo X23.here hx rfl (hb hby at_74) rfl (flt hc74_25).1 hh_) ?_
        show own_Run p e below s _ _ _ (T23.setTop (mkF m 77 #[.val (.int w1), .val (.int a1), .val (.int ve), .val (.ref ob1), .val (.int (2 : Int32)), .val (.int (xx &&& (255 : Int32))), .val (.int (own_sl xx (2 : Int32) ve)), .unset] []))
        refine own_of (fun _ hh_ => XS.iconst X23.here hx rfl (hb hby at_77) hh_) ?_
        show own_Run p e below s _ _ _ (T23.setTop (mkF m 78 #[.val (.int w1), .val (.int a1), .val (.int ve), .val (.ref ob1), .val (.int (2 : Int32)), .val (.int (xx &&& (255 : Int32))), .val (.int (own_sl xx (2 : Int32) ve)), .unset] [(.int (-1 : Int32))]))
        refine own_of (fun _ hh_ => XS.istore X23.here hx rfl (hb hby at_78) rfl (l' := #[.val (.int w1), .val (.int a1), .val (.int ve), .val (.ref ob1), .val (.int (2 : Int32)), .val (.int (xx &&& (255 : Int32))), .val (.int (own_sl xx (2 : Int32) ve)), .val (.int (-1 : Int32))]) rfl hh_) ?_
        show own_Run p e below s _ _ _ (T23.setTop (mkF m 80 #[.val (.int w1), .val (.int a1), .val (.int ve), .val (.ref ob1), .val (.int (2 : Int32)), .val (.int (xx &&& (255 : Int32))), .val (.int (own_sl xx (2 : Int32) ve)), .val (.int (-1 : Int32))] []))
        refine own_of (fun _ hh_ => XS.goto X23.here hx rfl (pc0 := 80) (pc' := 108) rfl (hb hby at_80) (by decide) (by decide) hh_) ?_
        show own_Run p e below s _ _ _ (T23.setTop (mkF m 108 #[.val (.int w1), .val (.int a1), .val (.int ve), .val (.ref ob1), .val (.int (2 : Int32)), .val (.int (xx &&& (255 : Int32))), .val (.int (own_sl xx (2 : Int32) ve)), .val (.int (-1 : Int32))] []))
        refine own_of (fun _ hh_ => XS.iload X23.here hx rfl (hb hby at_108) rfl hh_) ?_
        show own_Run p e below s _ _ _ (T23.setTop (mkF m 110 #[.val (.int w1), .val (.int a1), .val (.int ve), .val (.ref ob1), .val (.int (2 : Int32)), .val (.int (xx &&& (255 : Int32))), .val (.int (own_sl xx (2 : Int32) ve)), .val (.int (-1 : Int32))] [(.int (own_sl xx (2 : Int32) ve))]))
        refine own_of (fun _ hh_ => XS.iload X23.here hx rfl (hb hby at_110) rfl hh_) ?_
        show own_Run p e below s _ _ _ (T23.setTop (mkF m 112 #[.val (.int w1), .val (.int a1), .val (.int ve), .val (.ref ob1), .val (.int (2 : Int32)), .val (.int (xx &&& (255 : Int32))), .val (.int (own_sl xx (2 : Int32) ve)), .val (.int (-1 : Int32))] [(.int (-1 : Int32)), (.int (own_sl xx (2 : Int32) ve))]))
        have hc112_29 : (own_sl xx (2 : Int32) ve) = (-1 : Int32) := by unfold own_sl; rw [if_pos hc60_24, if_pos (show xx < (0 : Int32) from Int32.lt_iff_toInt_lt.mpr <| by have a_hc60_24 := Int32.lt_iff_toInt_lt.mp hc60_24; have a_hc74_25 := mt Int32.lt_iff_toInt_lt.mpr hc74_25; have l_0 : (2 : Int32).toInt = 2 := rfl; have l_1 : (255 : Int32).toInt = 255 := rfl; have l_2 : (128 : Int32).toInt = 128 := rfl; have l_3 : (1 : Int64).toInt = 1 := rfl; have l_4 : (0 : Int32).toInt = 0 := rfl; have q1 := c_i2l ve; have q2 := c_i2l (xx &&& (255 : Int32)); have q3 := c_i2l (2 : Int32); have q4 := c_ladd (2 : Int32).toInt64 (1 : Int64); have q5 := c_ladd ((2 : Int32).toInt64 + (1 : Int64)) (xx &&& (255 : Int32)).toInt64; have q6 := rng64 ((2 : Int32).toInt64 + (1 : Int64)); have q7 := rng64 (((2 : Int32).toInt64 + (1 : Int64)) + (xx &&& (255 : Int32)).toInt64); have q8 := rng32 ve; have q9 := c_isub ve (2 : Int32); have qa := rng32 (ve - (2 : Int32)); have qb := own_u xx; obtain ⟨qc, qd⟩ := rx; omega)]
        refine own_of (fun _ hh_ => XS.icmpNo X23.here hx rfl (hb hby at_112) rfl (teq hc112_29).2 hh_) ?_
        show own_Run p e below s _ _ _ (T23.setTop (mkF m 115 #[.val (.int w1), .val (.int a1), .val (.int ve), .val (.ref ob1), .val (.int (2 : Int32)), .val (.int (xx &&& (255 : Int32))), .val (.int (own_sl xx (2 : Int32) ve)), .val (.int (-1 : Int32))] []))
        refine own_of (fun _ hh_ => XS.iconst X23.here hx rfl (hb hby at_115) hh_) ?_
        show own_Run p e below s _ _ _ (T23.setTop (mkF m 116 #[.val (.int w1), .val (.int a1), .val (.int ve), .val (.ref ob1), .val (.int (2 : Int32)), .val (.int (xx &&& (255 : Int32))), .val (.int (own_sl xx (2 : Int32) ve)), .val (.int (-1 : Int32))] [(.int (1 : Int32))]))
        refine own_of (fun _ hh_ => XS.goto X23.here hx rfl (pc0 := 116) (pc' := 120) rfl (hb hby at_116) (by decide) (by decide) hh_) ?_
        show own_Run p e below s _ _ _ (T23.setTop (mkF m 120 #[.val (.int w1), .val (.int a1), .val (.int ve), .val (.ref ob1), .val (.int (2 : Int32)), .val (.int (xx &&& (255 : Int32))), .val (.int (own_sl xx (2 : Int32) ve)), .val (.int (-1 : Int32))] [(.int (1 : Int32))]))
        exact own_retN X23 hx (t := .boolean) hret hlk (by simp) (hb hby at_120) ⟨rfl, N23⟩ (by decide) (by decide)
    · refine own_of (fun _ hh_ => XS.icmpNo X23.here hx rfl (hb hby at_60) rfl (flt hc60_24).2.2.1 hh_) ?_
      show own_Run p e below s _ _ _ (T23.setTop (mkF m 63 #[.val (.int w1), .val (.int a1), .val (.int ve), .val (.ref ob1), .val (.int (2 : Int32)), .val (.int (xx &&& (255 : Int32))), .val (.int (own_sl xx (2 : Int32) ve)), .unset] []))
      refine own_of (fun _ hh_ => XS.iconst X23.here hx rfl (hb hby at_63) hh_) ?_
      show own_Run p e below s _ _ _ (T23.setTop (mkF m 64 #[.val (.int w1), .val (.int a1), .val (.int ve), .val (.ref ob1), .val (.int (2 : Int32)), .val (.int (xx &&& (255 : Int32))), .val (.int (own_sl xx (2 : Int32) ve)), .unset] [(.int (-1 : Int32))]))
      refine own_of (fun _ hh_ => XS.istore X23.here hx rfl (hb hby at_64) rfl (l' := #[.val (.int w1), .val (.int a1), .val (.int ve), .val (.ref ob1), .val (.int (2 : Int32)), .val (.int (xx &&& (255 : Int32))), .val (.int (own_sl xx (2 : Int32) ve)), .val (.int (-1 : Int32))]) rfl hh_) ?_
      show own_Run p e below s _ _ _ (T23.setTop (mkF m 66 #[.val (.int w1), .val (.int a1), .val (.int ve), .val (.ref ob1), .val (.int (2 : Int32)), .val (.int (xx &&& (255 : Int32))), .val (.int (own_sl xx (2 : Int32) ve)), .val (.int (-1 : Int32))] []))
      refine own_of (fun _ hh_ => XS.goto X23.here hx rfl (pc0 := 66) (pc' := 108) rfl (hb hby at_66) (by decide) (by decide) hh_) ?_
      show own_Run p e below s _ _ _ (T23.setTop (mkF m 108 #[.val (.int w1), .val (.int a1), .val (.int ve), .val (.ref ob1), .val (.int (2 : Int32)), .val (.int (xx &&& (255 : Int32))), .val (.int (own_sl xx (2 : Int32) ve)), .val (.int (-1 : Int32))] []))
      refine own_of (fun _ hh_ => XS.iload X23.here hx rfl (hb hby at_108) rfl hh_) ?_
      show own_Run p e below s _ _ _ (T23.setTop (mkF m 110 #[.val (.int w1), .val (.int a1), .val (.int ve), .val (.ref ob1), .val (.int (2 : Int32)), .val (.int (xx &&& (255 : Int32))), .val (.int (own_sl xx (2 : Int32) ve)), .val (.int (-1 : Int32))] [(.int (own_sl xx (2 : Int32) ve))]))
      refine own_of (fun _ hh_ => XS.iload X23.here hx rfl (hb hby at_110) rfl hh_) ?_
      show own_Run p e below s _ _ _ (T23.setTop (mkF m 112 #[.val (.int w1), .val (.int a1), .val (.int ve), .val (.ref ob1), .val (.int (2 : Int32)), .val (.int (xx &&& (255 : Int32))), .val (.int (own_sl xx (2 : Int32) ve)), .val (.int (-1 : Int32))] [(.int (-1 : Int32)), (.int (own_sl xx (2 : Int32) ve))]))
      have hc112_30 : (own_sl xx (2 : Int32) ve) = (-1 : Int32) := by unfold own_sl; rw [if_neg hc60_24]
      refine own_of (fun _ hh_ => XS.icmpNo X23.here hx rfl (hb hby at_112) rfl (teq hc112_30).2 hh_) ?_
      show own_Run p e below s _ _ _ (T23.setTop (mkF m 115 #[.val (.int w1), .val (.int a1), .val (.int ve), .val (.ref ob1), .val (.int (2 : Int32)), .val (.int (xx &&& (255 : Int32))), .val (.int (own_sl xx (2 : Int32) ve)), .val (.int (-1 : Int32))] []))
      refine own_of (fun _ hh_ => XS.iconst X23.here hx rfl (hb hby at_115) hh_) ?_
      show own_Run p e below s _ _ _ (T23.setTop (mkF m 116 #[.val (.int w1), .val (.int a1), .val (.int ve), .val (.ref ob1), .val (.int (2 : Int32)), .val (.int (xx &&& (255 : Int32))), .val (.int (own_sl xx (2 : Int32) ve)), .val (.int (-1 : Int32))] [(.int (1 : Int32))]))
      refine own_of (fun _ hh_ => XS.goto X23.here hx rfl (pc0 := 116) (pc' := 120) rfl (hb hby at_116) (by decide) (by decide) hh_) ?_
      show own_Run p e below s _ _ _ (T23.setTop (mkF m 120 #[.val (.int w1), .val (.int a1), .val (.int ve), .val (.ref ob1), .val (.int (2 : Int32)), .val (.int (xx &&& (255 : Int32))), .val (.int (own_sl xx (2 : Int32) ve)), .val (.int (-1 : Int32))] [(.int (1 : Int32))]))
      exact own_retN X23 hx (t := .boolean) hret hlk (by simp) (hb hby at_120) ⟨rfl, N23⟩ (by decide) (by decide)
  · rw [hs6]
    show own_Run p e below s _ _ _ (T5.setTop (mkF m 36 #[.val (.int w1), .val (.int a1), .val (.int ve), .val (.ref ob1), .unset, .unset, .unset, .unset] [(.int (3 : Int32))]))
    refine own_of (fun _ hh_ => XS.istore X5.here hx rfl (hb hby at_36) rfl (l' := #[.val (.int w1), .val (.int a1), .val (.int ve), .val (.ref ob1), .val (.int (3 : Int32)), .unset, .unset, .unset]) rfl hh_) ?_
    show own_Run p e below s _ _ _ (T5.setTop (mkF m 38 #[.val (.int w1), .val (.int a1), .val (.int ve), .val (.ref ob1), .val (.int (3 : Int32)), .unset, .unset, .unset] []))
    refine own_of (fun _ hh_ => XS.aloadN X5.here hx rfl (hb hby at_38) rfl rfl hh_) ?_
    show own_Run p e below s _ _ _ (T5.setTop (mkF m 39 #[.val (.int w1), .val (.int a1), .val (.int ve), .val (.ref ob1), .val (.int (3 : Int32)), .unset, .unset, .unset] [(.ref ob1)]))
    refine own_of (fun _ hh_ => XS.iload X5.here hx rfl (hb hby at_39) rfl hh_) ?_
    show own_Run p e below s _ _ _ (T5.setTop (mkF m 41 #[.val (.int w1), .val (.int a1), .val (.int ve), .val (.ref ob1), .val (.int (3 : Int32)), .unset, .unset, .unset] [(.int (3 : Int32)), (.ref ob1)]))
    refine own_bal X5 hx hZ e5 V5 (j := (3 : Int32)) (w := (((w1.toUInt32 >>> ((24 : Int32) &&& 31).toUInt32).toInt32).toInt8.toInt32).toInt8.toInt32) (by decide) (by decide) rfl (hb hby at_41) ?_
    show own_Run p e below s _ _ _ (T5.setTop (mkF m 42 #[.val (.int w1), .val (.int a1), .val (.int ve), .val (.ref ob1), .val (.int (3 : Int32)), .unset, .unset, .unset] [(.int (((w1.toUInt32 >>> ((24 : Int32) &&& 31).toUInt32).toInt32).toInt8.toInt32).toInt8.toInt32)]))
    generalize hxx : (((w1.toUInt32 >>> ((24 : Int32) &&& 31).toUInt32).toInt32).toInt8.toInt32).toInt8.toInt32 = xx
    have rx : -128 ≤ xx.toInt ∧ xx.toInt < 128 := by rw [← hxx]; exact (c_i2b _).2
    show own_Run p e below s _ _ _ (T5.setTop (mkF m 42 #[.val (.int w1), .val (.int a1), .val (.int ve), .val (.ref ob1), .val (.int (3 : Int32)), .unset, .unset, .unset] [(.int xx)]))
    refine own_of (fun _ hh_ => XS.sipush X5.here hx rfl (hb hby at_42) hh_) ?_
    show own_Run p e below s _ _ _ (T5.setTop (mkF m 45 #[.val (.int w1), .val (.int a1), .val (.int ve), .val (.ref ob1), .val (.int (3 : Int32)), .unset, .unset, .unset] [(.int (255 : Int32)), (.int xx)]))
    refine own_of (fun _ hh_ => XS.iand X5.here hx rfl (hb hby at_45) rfl hh_) ?_
    show own_Run p e below s _ _ _ (T5.setTop (mkF m 46 #[.val (.int w1), .val (.int a1), .val (.int ve), .val (.ref ob1), .val (.int (3 : Int32)), .unset, .unset, .unset] [(.int (xx &&& (255 : Int32)))]))
    refine own_of (fun _ hh_ => XS.istore X5.here hx rfl (hb hby at_46) rfl (l' := #[.val (.int w1), .val (.int a1), .val (.int ve), .val (.ref ob1), .val (.int (3 : Int32)), .val (.int (xx &&& (255 : Int32))), .unset, .unset]) rfl hh_) ?_
    show own_Run p e below s _ _ _ (T5.setTop (mkF m 48 #[.val (.int w1), .val (.int a1), .val (.int ve), .val (.ref ob1), .val (.int (3 : Int32)), .val (.int (xx &&& (255 : Int32))), .unset, .unset] []))
    refine own_of (fun _ hh_ => XS.aloadN X5.here hx rfl (hb hby at_48) rfl rfl hh_) ?_
    show own_Run p e below s _ _ _ (T5.setTop (mkF m 49 #[.val (.int w1), .val (.int a1), .val (.int ve), .val (.ref ob1), .val (.int (3 : Int32)), .val (.int (xx &&& (255 : Int32))), .unset, .unset] [(.ref ob1)]))
    refine own_of (fun _ hh_ => XS.iload X5.here hx rfl (hb hby at_49) rfl hh_) ?_
    show own_Run p e below s _ _ _ (T5.setTop (mkF m 51 #[.val (.int w1), .val (.int a1), .val (.int ve), .val (.ref ob1), .val (.int (3 : Int32)), .val (.int (xx &&& (255 : Int32))), .unset, .unset] [(.int (3 : Int32)), (.ref ob1)]))
    refine own_of (fun _ hh_ => XS.iloadN X5.here hx rfl (hb hby at_51) rfl hh_) ?_
    show own_Run p e below s _ _ _ (T5.setTop (mkF m 52 #[.val (.int w1), .val (.int a1), .val (.int ve), .val (.ref ob1), .val (.int (3 : Int32)), .val (.int (xx &&& (255 : Int32))), .unset, .unset] [(.int ve), (.int (3 : Int32)), (.ref ob1)]))
    obtain ⟨_, _, ⟨T31, L31, k31, n31⟩, -, X31, ⟨Lc31, hQ31, l31, y31, z31⟩, st31⟩ := Jvm.LawKit.callS X5 hx (y := (⟨"com/example/pagewright/pagewright/RecordCodec", "shortLength", "([BII)I"⟩ : MethodName)) hown (mvT hZ (hw _ (List.mem_of_getElem? (i := 1) rfl))) (mvT hZ (hw _ (List.mem_of_getElem? (i := 2) rfl))) (mvT hZ (hw _ (List.mem_of_getElem? (i := 3) rfl))) (mvT hZ (hw _ (List.mem_of_getElem? (i := 4) rfl))) (by decide) (backOf (W := 0) (rmS l Z a0 hw [] ob1 (3 : Int32) ve 4 (own_up (own_up (own_up (own_up (fun _ => 0) 0 (w1.toInt8.toInt32).toInt8.toInt32) 1 (((w1.toUInt32 >>> ((8 : Int32) &&& 31).toUInt32).toInt32).toInt8.toInt32).toInt8.toInt32) 2 (((w1.toUInt32 >>> ((16 : Int32) &&& 31).toUInt32).toInt32).toInt8.toInt32).toInt8.toInt32) 3 (((w1.toUInt32 >>> ((24 : Int32) &&& 31).toUInt32).toInt32).toInt8.toInt32).toInt8.toInt32) xx h5 n0 (Nat.le_trans (Nat.le_trans (Nat.le_trans (Nat.le_trans (Nat.le_trans Z0 E1.1) (Nat.le_of_eq W2.size.symm)) (Nat.le_of_eq W3.size.symm)) (Nat.le_of_eq W4.size.symm)) (Nat.le_of_eq W5.size.symm)) V5 (by decide) (by decide) hxx) hZ (hw _ (List.mem_of_getElem? (i := 4) rfl)) (hw _ (List.mem_of_getElem? (i := 3) rfl)) (by decide) (by decide)) (g := (mkF m 52 #[.val (.int w1), .val (.int a1), .val (.int ve), .val (.ref ob1), .val (.int (3 : Int32)), .val (.int (xx &&& (255 : Int32))), .unset, .unset] [(.int ve), (.int (3 : Int32)), (.ref ob1)])) rfl (by rw [hml]; rfl) (argsL := [(.ref ob1), (.int (3 : Int32)), (.int ve)]) (rest := []) (lenOf own_pd0 rfl) rfl (by show 2 * 0 + _ ≤ _; exact Nat.le_of_eq rfl) (hb hby at_52) (fun _ _ => ⟨rfl, e5, (by decide : 1 + 0 ≤ _), (by decide : 4 + 0 ≤ _)⟩)
    dsimp only [Pt.U, Pt.locs, Pt.cells, Pt.slots] at X31 l31 y31 z31 st31 hQ31
    subst l31 y31 z31
    obtain ⟨rfl, N31q, e31⟩ := hQ31
    have N31 := Fr.app N5 N31q
    refine own_of st31 ?_
    show own_Run p e below s _ _ _ (T31.setTop (mkF m 55 #[.val (.int w1), .val (.int a1), .val (.int ve), .val (.ref ob1), .val (.int (3 : Int32)), .val (.int (xx &&& (255 : Int32))), .unset, .unset] [(.int (own_sl xx (3 : Int32) ve))]))
    refine own_of (fun _ hh_ => XS.istore X31.here hx rfl (hb hby at_55) rfl (l' := #[.val (.int w1), .val (.int a1), .val (.int ve), .val (.ref ob1), .val (.int (3 : Int32)), .val (.int (xx &&& (255 : Int32))), .val (.int (own_sl xx (3 : Int32) ve)), .unset]) rfl hh_) ?_
    show own_Run p e below s _ _ _ (T31.setTop (mkF m 57 #[.val (.int w1), .val (.int a1), .val (.int ve), .val (.ref ob1), .val (.int (3 : Int32)), .val (.int (xx &&& (255 : Int32))), .val (.int (own_sl xx (3 : Int32) ve)), .unset] []))
    refine own_of (fun _ hh_ => XS.iloadN X31.here hx rfl (hb hby at_57) rfl hh_) ?_
    show own_Run p e below s _ _ _ (T31.setTop (mkF m 58 #[.val (.int w1), .val (.int a1), .val (.int ve), .val (.ref ob1), .val (.int (3 : Int32)), .val (.int (xx &&& (255 : Int32))), .val (.int (own_sl xx (3 : Int32) ve)), .unset] [(.int ve)]))
    refine own_of (fun _ hh_ => XS.iload X31.here hx rfl (hb hby at_58) rfl hh_) ?_
    show own_Run p e below s _ _ _ (T31.setTop (mkF m 60 #[.val (.int w1), .val (.int a1), .val (.int ve), .val (.ref ob1), .val (.int (3 : Int32)), .val (.int (xx &&& (255 : Int32))), .val (.int (own_sl xx (3 : Int32) ve)), .unset] [(.int (3 : Int32)), (.int ve)]))
    by_cases hc60_32 : (3 : Int32) < ve
    · refine own_of (fun _ hh_ => XS.icmpYes X31.here hx rfl (pc0 := 60) (pc' := 69) rfl (hb hby at_60) rfl (tlt hc60_32).2.2.1 (by decide) (by decide) hh_) ?_
      show own_Run p e below s _ _ _ (T31.setTop (mkF m 69 #[.val (.int w1), .val (.int a1), .val (.int ve), .val (.ref ob1), .val (.int (3 : Int32)), .val (.int (xx &&& (255 : Int32))), .val (.int (own_sl xx (3 : Int32) ve)), .unset] []))
      refine own_of (fun _ hh_ => XS.iload X31.here hx rfl (hb hby at_69) rfl hh_) ?_
      show own_Run p e below s _ _ _ (T31.setTop (mkF m 71 #[.val (.int w1), .val (.int a1), .val (.int ve), .val (.ref ob1), .val (.int (3 : Int32)), .val (.int (xx &&& (255 : Int32))), .val (.int (own_sl xx (3 : Int32) ve)), .unset] [(.int (xx &&& (255 : Int32)))]))
      refine own_of (fun _ hh_ => XS.sipush X31.here hx rfl (hb hby at_71) hh_) ?_
      show own_Run p e below s _ _ _ (T31.setTop (mkF m 74 #[.val (.int w1), .val (.int a1), .val (.int ve), .val (.ref ob1), .val (.int (3 : Int32)), .val (.int (xx &&& (255 : Int32))), .val (.int (own_sl xx (3 : Int32) ve)), .unset] [(.int (128 : Int32)), (.int (xx &&& (255 : Int32)))]))
      by_cases hc74_33 : (xx &&& (255 : Int32)) < (128 : Int32)
      · refine own_of (fun _ hh_ => XS.icmpYes X31.here hx rfl (pc0 := 74) (pc' := 83) rfl (hb hby at_74) rfl (tlt hc74_33).1 (by decide) (by decide) hh_) ?_
        show own_Run p e below s _ _ _ (T31.setTop (mkF m 83 #[.val (.int w1), .val (.int a1), .val (.int ve), .val (.ref ob1), .val (.int (3 : Int32)), .val (.int (xx &&& (255 : Int32))), .val (.int (own_sl xx (3 : Int32) ve)), .unset] []))
        refine own_of (fun _ hh_ => XS.iload X31.here hx rfl (hb hby at_83) rfl hh_) ?_
        show own_Run p e below s _ _ _ (T31.setTop (mkF m 85 #[.val (.int w1), .val (.int a1), .val (.int ve), .val (.ref ob1), .val (.int (3 : Int32)), .val (.int (xx &&& (255 : Int32))), .val (.int (own_sl xx (3 : Int32) ve)), .unset] [(.int (3 : Int32))]))
        refine own_of (fun _ hh_ => XS.i2l X31.here hx rfl (hb hby at_85) rfl hh_) ?_
        show own_Run p e below s _ _ _ (T31.setTop (mkF m 86 #[.val (.int w1), .val (.int a1), .val (.int ve), .val (.ref ob1), .val (.int (3 : Int32)), .val (.int (xx &&& (255 : Int32))), .val (.int (own_sl xx (3 : Int32) ve)), .unset] [(.long ((3 : Int32).toInt64))]))
        refine own_of (fun _ hh_ => XS.lconst X31.here hx rfl (hb hby at_86) hh_) ?_
        show own_Run p e below s _ _ _ (T31.setTop (mkF m 87 #[.val (.int w1), .val (.int a1), .val (.int ve), .val (.ref ob1), .val (.int (3 : Int32)), .val (.int (xx &&& (255 : Int32))), .val (.int (own_sl xx (3 : Int32) ve)), .unset] [(.long (1 : Int64)), (.long ((3 : Int32).toInt64))]))
        refine own_of (fun _ hh_ => XS.ladd X31.here hx rfl (hb hby at_87) rfl hh_) ?_
        show own_Run p e below s _ _ _ (T31.setTop (mkF m 88 #[.val (.int w1), .val (.int a1), .val (.int ve), .val (.ref ob1), .val (.int (3 : Int32)), .val (.int (xx &&& (255 : Int32))), .val (.int (own_sl xx (3 : Int32) ve)), .unset] [(.long (((3 : Int32).toInt64) + (1 : Int64)))]))
        refine own_of (fun _ hh_ => XS.iload X31.here hx rfl (hb hby at_88) rfl hh_) ?_
        show own_Run p e below s _ _ _ (T31.setTop (mkF m 90 #[.val (.int w1), .val (.int a1), .val (.int ve), .val (.ref ob1), .val (.int (3 : Int32)), .val (.int (xx &&& (255 : Int32))), .val (.int (own_sl xx (3 : Int32) ve)), .unset] [(.int (xx &&& (255 : Int32))), (.long (((3 : Int32).toInt64) + (1 : Int64)))]))
        refine own_of (fun _ hh_ => XS.i2l X31.here hx rfl (hb hby at_90) rfl hh_) ?_
        show own_Run p e below s _ _ _ (T31.setTop (mkF m 91 #[.val (.int w1), .val (.int a1), .val (.int ve), .val (.ref ob1), .val (.int (3 : Int32)), .val (.int (xx &&& (255 : Int32))), .val (.int (own_sl xx (3 : Int32) ve)), .unset] [(.long ((xx &&& (255 : Int32)).toInt64)), (.long (((3 : Int32).toInt64) + (1 : Int64)))]))
        refine own_of (fun _ hh_ => XS.ladd X31.here hx rfl (hb hby at_91) rfl hh_) ?_
        show own_Run p e below s _ _ _ (T31.setTop (mkF m 92 #[.val (.int w1), .val (.int a1), .val (.int ve), .val (.ref ob1), .val (.int (3 : Int32)), .val (.int (xx &&& (255 : Int32))), .val (.int (own_sl xx (3 : Int32) ve)), .unset] [(.long ((((3 : Int32).toInt64) + (1 : Int64)) + ((xx &&& (255 : Int32)).toInt64)))]))
        refine own_of (fun _ hh_ => XS.iloadN X31.here hx rfl (hb hby at_92) rfl hh_) ?_
        show own_Run p e below s _ _ _ (T31.setTop (mkF m 93 #[.val (.int w1), .val (.int a1), .val (.int ve), .val (.ref ob1), .val (.int (3 : Int32)), .val (.int (xx &&& (255 : Int32))), .val (.int (own_sl xx (3 : Int32) ve)), .unset] [(.int ve), (.long ((((3 : Int32).toInt64) + (1 : Int64)) + ((xx &&& (255 : Int32)).toInt64)))]))
        refine own_of (fun _ hh_ => XS.i2l X31.here hx rfl (hb hby at_93) rfl hh_) ?_
        show own_Run p e below s _ _ _ (T31.setTop (mkF m 94 #[.val (.int w1), .val (.int a1), .val (.int ve), .val (.ref ob1), .val (.int (3 : Int32)), .val (.int (xx &&& (255 : Int32))), .val (.int (own_sl xx (3 : Int32) ve)), .unset] [(.long (ve.toInt64)), (.long ((((3 : Int32).toInt64) + (1 : Int64)) + ((xx &&& (255 : Int32)).toInt64)))]))
        refine own_of (fun _ hh_ => XS.lcmp X31.here hx rfl (hb hby at_94) rfl hh_) ?_
        show own_Run p e below s _ _ _ (T31.setTop (mkF m 95 #[.val (.int w1), .val (.int a1), .val (.int ve), .val (.ref ob1), .val (.int (3 : Int32)), .val (.int (xx &&& (255 : Int32))), .val (.int (own_sl xx (3 : Int32) ve)), .unset] [(.int (lcmpW ((((3 : Int32).toInt64) + (1 : Int64)) + ((xx &&& (255 : Int32)).toInt64)) (ve.toInt64)))]))
        by_cases hc95_34 : (ve.toInt64) < ((((3 : Int32).toInt64) + (1 : Int64)) + ((xx &&& (255 : Int32)).toInt64))
        · refine own_of (fun _ hh_ => XS.ifNo X31.here hx rfl (hb hby at_95) rfl ((if0 _ _).trans (tlt ((lw_gt _ _).mpr hc95_34)).2.2.2) hh_) ?_
          show own_Run p e below s _ _ _ (T31.setTop (mkF m 98 #[.val (.int w1), .val (.int a1), .val (.int ve), .val (.ref ob1), .val (.int (3 : Int32)), .val (.int (xx &&& (255 : Int32))), .val (.int (own_sl xx (3 : Int32) ve)), .unset] []))
          refine own_of (fun _ hh_ => XS.iconst X31.here hx rfl (hb hby at_98) hh_) ?_
          show own_Run p e below s _ _ _ (T31.setTop (mkF m 99 #[.val (.int w1), .val (.int a1), .val (.int ve), .val (.ref ob1), .val (.int (3 : Int32)), .val (.int (xx &&& (255 : Int32))), .val (.int (own_sl xx (3 : Int32) ve)), .unset] [(.int (-1 : Int32))]))
          refine own_of (fun _ hh_ => XS.istore X31.here hx rfl (hb hby at_99) rfl (l' := #[.val (.int w1), .val (.int a1), .val (.int ve), .val (.ref ob1), .val (.int (3 : Int32)), .val (.int (xx &&& (255 : Int32))), .val (.int (own_sl xx (3 : Int32) ve)), .val (.int (-1 : Int32))]) rfl hh_) ?_
          show own_Run p e below s _ _ _ (T31.setTop (mkF m 101 #[.val (.int w1), .val (.int a1), .val (.int ve), .val (.ref ob1), .val (.int (3 : Int32)), .val (.int (xx &&& (255 : Int32))), .val (.int (own_sl xx (3 : Int32) ve)), .val (.int (-1 : Int32))] []))
          refine own_of (fun _ hh_ => XS.goto X31.here hx rfl (pc0 := 101) (pc' := 108) rfl (hb hby at_101) (by decide) (by decide) hh_) ?_
          show own_Run p e below s _ _ _ (T31.setTop (mkF m 108 #[.val (.int w1), .val (.int a1), .val (.int ve), .val (.ref ob1), .val (.int (3 : Int32)), .val (.int (xx &&& (255 : Int32))), .val (.int (own_sl xx (3 : Int32) ve)), .val (.int (-1 : Int32))] []))
          refine own_of (fun _ hh_ => XS.iload X31.here hx rfl (hb hby at_108) rfl hh_) ?_
          show own_Run p e below s _ _ _ (T31.setTop (mkF m 110 #[.val (.int w1), .val (.int a1), .val (.int ve), .val (.ref ob1), .val (.int (3 : Int32)), .val (.int (xx &&& (255 : Int32))), .val (.int (own_sl xx (3 : Int32) ve)), .val (.int (-1 : Int32))] [(.int (own_sl xx (3 : Int32) ve))]))
          refine own_of (fun _ hh_ => XS.iload X31.here hx rfl (hb hby at_110) rfl hh_) ?_
          show own_Run p e below s _ _ _ (T31.setTop (mkF m 112 #[.val (.int w1), .val (.int a1), .val (.int ve), .val (.ref ob1), .val (.int (3 : Int32)), .val (.int (xx &&& (255 : Int32))), .val (.int (own_sl xx (3 : Int32) ve)), .val (.int (-1 : Int32))] [(.int (-1 : Int32)), (.int (own_sl xx (3 : Int32) ve))]))
          have hc112_35 : (own_sl xx (3 : Int32) ve) = (-1 : Int32) := by unfold own_sl; rw [if_pos hc60_32, if_neg (show ¬ xx < (0 : Int32) from mt Int32.lt_iff_toInt_lt.mp <| by have a_hc60_32 := Int32.lt_iff_toInt_lt.mp hc60_32; have a_hc74_33 := Int32.lt_iff_toInt_lt.mp hc74_33; have a_hc95_34 := Int64.lt_iff_toInt_lt.mp hc95_34; have l_0 : (3 : Int32).toInt = 3 := rfl; have l_1 : (255 : Int32).toInt = 255 := rfl; have l_2 : (128 : Int32).toInt = 128 := rfl; have l_3 : (1 : Int64).toInt = 1 := rfl; have l_4 : (0 : Int32).toInt = 0 := rfl; have q1 := c_i2l ve; have q2 := c_i2l (xx &&& (255 : Int32)); have q3 := c_i2l (3 : Int32); have q4 := c_ladd (3 : Int32).toInt64 (1 : Int64); have q5 := c_ladd ((3 : Int32).toInt64 + (1 : Int64)) (xx &&& (255 : Int32)).toInt64; have q6 := rng64 ((3 : Int32).toInt64 + (1 : Int64)); have q7 := rng64 (((3 : Int32).toInt64 + (1 : Int64)) + (xx &&& (255 : Int32)).toInt64); have q8 := rng32 ve; have q9 := c_isub ve (3 : Int32); have qa := rng32 (ve - (3 : Int32)); have qb := own_u xx; obtain ⟨qc, qd⟩ := rx; omega), if_neg (show ¬ xx < ve - (3 : Int32) from mt Int32.lt_iff_toInt_lt.mp <| by have a_hc60_32 := Int32.lt_iff_toInt_lt.mp hc60_32; have a_hc74_33 := Int32.lt_iff_toInt_lt.mp hc74_33; have a_hc95_34 := Int64.lt_iff_toInt_lt.mp hc95_34; have l_0 : (3 : Int32).toInt = 3 := rfl; have l_1 : (255 : Int32).toInt = 255 := rfl; have l_2 : (128 : Int32).toInt = 128 := rfl; have l_3 : (1 : Int64).toInt = 1 := rfl; have l_4 : (0 : Int32).toInt = 0 := rfl; have q1 := c_i2l ve; have q2 := c_i2l (xx &&& (255 : Int32)); have q3 := c_i2l (3 : Int32); have q4 := c_ladd (3 : Int32).toInt64 (1 : Int64); have q5 := c_ladd ((3 : Int32).toInt64 + (1 : Int64)) (xx &&& (255 : Int32)).toInt64; have q6 := rng64 ((3 : Int32).toInt64 + (1 : Int64)); have q7 := rng64 (((3 : Int32).toInt64 + (1 : Int64)) + (xx &&& (255 : Int32)).toInt64); have q8 := rng32 ve; have q9 := c_isub ve (3 : Int32); have qa := rng32 (ve - (3 : Int32)); have qb := own_u xx; obtain ⟨qc, qd⟩ := rx; omega)]
          refine own_of (fun _ hh_ => XS.icmpNo X31.here hx rfl (hb hby at_112) rfl (teq hc112_35).2 hh_) ?_
          show own_Run p e below s _ _ _ (T31.setTop (mkF m 115 #[.val (.int w1), .val (.int a1), .val (.int ve), .val (.ref ob1), .val (.int (3 : Int32)), .val (.int (xx &&& (255 : Int32))), .val (.int (own_sl xx (3 : Int32) ve)), .val (.int (-1 : Int32))] []))
          refine own_of (fun _ hh_ => XS.iconst X31.here hx rfl (hb hby at_115) hh_) ?_
          show own_Run p e below s _ _ _ (T31.setTop (mkF m 116 #[.val (.int w1), .val (.int a1), .val (.int ve), .val (.ref ob1), .val (.int (3 : Int32)), .val (.int (xx &&& (255 : Int32))), .val (.int (own_sl xx (3 : Int32) ve)), .val (.int (-1 : Int32))] [(.int (1 : Int32))]))
          refine own_of (fun _ hh_ => XS.goto X31.here hx rfl (pc0 := 116) (pc' := 120) rfl (hb hby at_116) (by decide) (by decide) hh_) ?_
          show own_Run p e below s _ _ _ (T31.setTop (mkF m 120 #[.val (.int w1), .val (.int a1), .val (.int ve), .val (.ref ob1), .val (.int (3 : Int32)), .val (.int (xx &&& (255 : Int32))), .val (.int (own_sl xx (3 : Int32) ve)), .val (.int (-1 : Int32))] [(.int (1 : Int32))]))
          exact own_retN X31 hx (t := .boolean) hret hlk (by simp) (hb hby at_120) ⟨rfl, N31⟩ (by decide) (by decide)
        · refine own_of (fun _ hh_ => XS.ifYes X31.here hx rfl (pc0 := 95) (pc' := 104) rfl (hb hby at_95) rfl ((if0 _ _).trans (flt (fun q_ => hc95_34 ((lw_gt _ _).mp q_))).2.2.2) (by decide) (by decide) hh_) ?_
          show own_Run p e below s _ _ _ (T31.setTop (mkF m 104 #[.val (.int w1), .val (.int a1), .val (.int ve), .val (.ref ob1), .val (.int (3 : Int32)), .val (.int (xx &&& (255 : Int32))), .val (.int (own_sl xx (3 : Int32) ve)), .unset] []))
          refine own_of (fun _ hh_ => XS.iload X31.here hx rfl (hb hby at_104) rfl hh_) ?_
          show own_Run p e below s _ _ _ (T31.setTop (mkF m 106 #[.val (.int w1), .val (.int a1), .val (.int ve), .val (.ref ob1), .val (.int (3 : Int32)), .val (.int (xx &&& (255 : Int32))), .val (.int (own_sl xx (3 : Int32) ve)), .unset] [(.int (xx &&& (255 : Int32)))]))
          refine own_of (fun _ hh_ => XS.istore X31.here hx rfl (hb hby at_106) rfl (l' := #[.val (.int w1), .val (.int a1), .val (.int ve), .val (.ref ob1), .val (.int (3 : Int32)), .val (.int (xx &&& (255 : Int32))), .val (.int (own_sl xx (3 : Int32) ve)), .val (.int (xx &&& (255 : Int32)))]) rfl hh_) ?_
          show own_Run p e below s _ _ _ (T31.setTop (mkF m 108 #[.val (.int w1), .val (.int a1), .val (.int ve), .val (.ref ob1), .val (.int (3 : Int32)), .val (.int (xx &&& (255 : Int32))), .val (.int (own_sl xx (3 : Int32) ve)), .val (.int (xx &&& (255 : Int32)))] []))
          refine own_of (fun _ hh_ => XS.iload X31.here hx rfl (hb hby at_108) rfl hh_) ?_
          show own_Run p e below s _ _ _ (T31.setTop (mkF m 110 #[.val (.int w1), .val (.int a1), .val (.int ve), .val (.ref ob1), .val (.int (3 : Int32)), .val (.int (xx &&& (255 : Int32))), .val (.int (own_sl xx (3 : Int32) ve)), .val (.int (xx &&& (255 : Int32)))] [(.int (own_sl xx (3 : Int32) ve))]))
          refine own_of (fun _ hh_ => XS.iload X31.here hx rfl (hb hby at_110) rfl hh_) ?_
          show own_Run p e below s _ _ _ (T31.setTop (mkF m 112 #[.val (.int w1), .val (.int a1), .val (.int ve), .val (.ref ob1), .val (.int (3 : Int32)), .val (.int (xx &&& (255 : Int32))), .val (.int (own_sl xx (3 : Int32) ve)), .val (.int (xx &&& (255 : Int32)))] [(.int (xx &&& (255 : Int32))), (.int (own_sl xx (3 : Int32) ve))]))
          have hc112_36 : (own_sl xx (3 : Int32) ve) = (xx &&& (255 : Int32)) := by unfold own_sl; rw [if_pos hc60_32, if_neg (show ¬ xx < (0 : Int32) from mt Int32.lt_iff_toInt_lt.mp <| by have a_hc60_32 := Int32.lt_iff_toInt_lt.mp hc60_32; have a_hc74_33 := Int32.lt_iff_toInt_lt.mp hc74_33; have a_hc95_34 := mt Int64.lt_iff_toInt_lt.mpr hc95_34; have l_0 : (3 : Int32).toInt = 3 := rfl; have l_1 : (255 : Int32).toInt = 255 := rfl; have l_2 : (128 : Int32).toInt = 128 := rfl; have l_3 : (1 : Int64).toInt = 1 := rfl; have l_4 : (0 : Int32).toInt = 0 := rfl; have q1 := c_i2l ve; have q2 := c_i2l (xx &&& (255 : Int32)); have q3 := c_i2l (3 : Int32); have q4 := c_ladd (3 : Int32).toInt64 (1 : Int64); have q5 := c_ladd ((3 : Int32).toInt64 + (1 : Int64)) (xx &&& (255 : Int32)).toInt64; have q6 := rng64 ((3 : Int32).toInt64 + (1 : Int64)); have q7 := rng64 (((3 : Int32).toInt64 + (1 : Int64)) + (xx &&& (255 : Int32)).toInt64); have q8 := rng32 ve; have q9 := c_isub ve (3 : Int32); have qa := rng32 (ve - (3 : Int32)); have qb := own_u xx; obtain ⟨qc, qd⟩ := rx; omega), if_pos (show xx < ve - (3 : Int32) from Int32.lt_iff_toInt_lt.mpr <| by have a_hc60_32 := Int32.lt_iff_toInt_lt.mp hc60_32; have a_hc74_33 := Int32.lt_iff_toInt_lt.mp hc74_33; have a_hc95_34 := mt Int64.lt_iff_toInt_lt.mpr hc95_34; have l_0 : (3 : Int32).toInt = 3 := rfl; have l_1 : (255 : Int32).toInt = 255 := rfl; have l_2 : (128 : Int32).toInt = 128 := rfl; have l_3 : (1 : Int64).toInt = 1 := rfl; have l_4 : (0 : Int32).toInt = 0 := rfl; have q1 := c_i2l ve; have q2 := c_i2l (xx &&& (255 : Int32)); have q3 := c_i2l (3 : Int32); have q4 := c_ladd (3 : Int32).toInt64 (1 : Int64); have q5 := c_ladd ((3 : Int32).toInt64 + (1 : Int64)) (xx &&& (255 : Int32)).toInt64; have q6 := rng64 ((3 : Int32).toInt64 + (1 : Int64)); have q7 := rng64 (((3 : Int32).toInt64 + (1 : Int64)) + (xx &&& (255 : Int32)).toInt64); have q8 := rng32 ve; have q9 := c_isub ve (3 : Int32); have qa := rng32 (ve - (3 : Int32)); have qb := own_u xx; obtain ⟨qc, qd⟩ := rx; omega)]; apply Int32.toInt_inj.mp; have a_hc60_32 := Int32.lt_iff_toInt_lt.mp hc60_32; have a_hc74_33 := Int32.lt_iff_toInt_lt.mp hc74_33; have a_hc95_34 := mt Int64.lt_iff_toInt_lt.mpr hc95_34; have l_0 : (3 : Int32).toInt = 3 := rfl; have l_1 : (255 : Int32).toInt = 255 := rfl; have l_2 : (128 : Int32).toInt = 128 := rfl; have l_3 : (1 : Int64).toInt = 1 := rfl; have l_4 : (0 : Int32).toInt = 0 := rfl; have q1 := c_i2l ve; have q2 := c_i2l (xx &&& (255 : Int32)); have q3 := c_i2l (3 : Int32); have q4 := c_ladd (3 : Int32).toInt64 (1 : Int64); have q5 := c_ladd ((3 : Int32).toInt64 + (1 : Int64)) (xx &&& (255 : Int32)).toInt64; have q6 := rng64 ((3 : Int32).toInt64 + (1 : Int64)); have q7 := rng64 (((3 : Int32).toInt64 + (1 : Int64)) + (xx &&& (255 : Int32)).toInt64); have q8 := rng32 ve; have q9 := c_isub ve (3 : Int32); have qa := rng32 (ve - (3 : Int32)); have qb := own_u xx; obtain ⟨qc, qd⟩ := rx; omega
          refine own_of (fun _ hh_ => XS.icmpNo X31.here hx rfl (hb hby at_112) rfl (teq hc112_36).2 hh_) ?_
          show own_Run p e below s _ _ _ (T31.setTop (mkF m 115 #[.val (.int w1), .val (.int a1), .val (.int ve), .val (.ref ob1), .val (.int (3 : Int32)), .val (.int (xx &&& (255 : Int32))), .val (.int (own_sl xx (3 : Int32) ve)), .val (.int (xx &&& (255 : Int32)))] []))
          refine own_of (fun _ hh_ => XS.iconst X31.here hx rfl (hb hby at_115) hh_) ?_
          show own_Run p e below s _ _ _ (T31.setTop (mkF m 116 #[.val (.int w1), .val (.int a1), .val (.int ve), .val (.ref ob1), .val (.int (3 : Int32)), .val (.int (xx &&& (255 : Int32))), .val (.int (own_sl xx (3 : Int32) ve)), .val (.int (xx &&& (255 : Int32)))] [(.int (1 : Int32))]))
          refine own_of (fun _ hh_ => XS.goto X31.here hx rfl (pc0 := 116) (pc' := 120) rfl (hb hby at_116) (by decide) (by decide) hh_) ?_
          show own_Run p e below s _ _ _ (T31.setTop (mkF m 120 #[.val (.int w1), .val (.int a1), .val (.int ve), .val (.ref ob1), .val (.int (3 : Int32)), .val (.int (xx &&& (255 : Int32))), .val (.int (own_sl xx (3 : Int32) ve)), .val (.int (xx &&& (255 : Int32)))] [(.int (1 : Int32))]))
          exact own_retN X31 hx (t := .boolean) hret hlk (by simp) (hb hby at_120) ⟨rfl, N31⟩ (by decide) (by decide)
      · refine own_of (fun _ hh_ => XS.icmpNo X31.here hx rfl (hb hby at_74) rfl (flt hc74_33).1 hh_) ?_
        show own_Run p e below s _ _ _ (T31.setTop (mkF m 77 #[.val (.int w1), .val (.int a1), .val (.int ve), .val (.ref ob1), .val (.int (3 : Int32)), .val (.int (xx &&& (255 : Int32))), .val (.int (own_sl xx (3 : Int32) ve)), .unset] []))
        refine own_of (fun _ hh_ => XS.iconst X31.here hx rfl (hb hby at_77) hh_) ?_
        show own_Run p e below s _ _ _ (T31.setTop (mkF m 78 #[.val (.int w1), .val (.int a1), .val (.int ve), .val (.ref ob1), .val (.int (3 : Int32)), .val (.int (xx &&& (255 : Int32))), .val (.int (own_sl xx (3 : Int32) ve)), .unset] [(.int (-1 : Int32))]))
        refine own_of (fun _ hh_ => XS.istore X31.here hx rfl (hb hby at_78) rfl (l' := #[.val (.int w1), .val (.int a1), .val (.int ve), .val (.ref ob1), .val (.int (3 : Int32)), .val (.int (xx &&& (255 : Int32))), .val (.int (own_sl xx (3 : Int32) ve)), .val (.int (-1 : Int32))]) rfl hh_) ?_
        show own_Run p e below s _ _ _ (T31.setTop (mkF m 80 #[.val (.int w1), .val (.int a1), .val (.int ve), .val (.ref ob1), .val (.int (3 : Int32)), .val (.int (xx &&& (255 : Int32))), .val (.int (own_sl xx (3 : Int32) ve)), .val (.int (-1 : Int32))] []))
        refine own_of (fun _ hh_ => XS.goto X31.here hx rfl (pc0 := 80) (pc' := 108) rfl (hb hby at_80) (by decide) (by decide) hh_) ?_
        show own_Run p e below s _ _ _ (T31.setTop (mkF m 108 #[.val (.int w1), .val (.int a1), .val (.int ve), .val (.ref ob1), .val (.int (3 : Int32)), .val (.int (xx &&& (255 : Int32))), .val (.int (own_sl xx (3 : Int32) ve)), .val (.int (-1 : Int32))] []))
        refine own_of (fun _ hh_ => XS.iload X31.here hx rfl (hb hby at_108) rfl hh_) ?_
        show own_Run p e below s _ _ _ (T31.setTop (mkF m 110 #[.val (.int w1), .val (.int a1), .val (.int ve), .val (.ref ob1), .val (.int (3 : Int32)), .val (.int (xx &&& (255 : Int32))), .val (.int (own_sl xx (3 : Int32) ve)), .val (.int (-1 : Int32))] [(.int (own_sl xx (3 : Int32) ve))]))
        refine own_of (fun _ hh_ => XS.iload X31.here hx rfl (hb hby at_110) rfl hh_) ?_
        show own_Run p e below s _ _ _ (T31.setTop (mkF m 112 #[.val (.int w1), .val (.int a1), .val (.int ve), .val (.ref ob1), .val (.int (3 : Int32)), .val (.int (xx &&& (255 : Int32))), .val (.int (own_sl xx (3 : Int32) ve)), .val (.int (-1 : Int32))] [(.int (-1 : Int32)), (.int (own_sl xx (3 : Int32) ve))]))
        have hc112_37 : (own_sl xx (3 : Int32) ve) = (-1 : Int32) := by unfold own_sl; rw [if_pos hc60_32, if_pos (show xx < (0 : Int32) from Int32.lt_iff_toInt_lt.mpr <| by have a_hc60_32 := Int32.lt_iff_toInt_lt.mp hc60_32; have a_hc74_33 := mt Int32.lt_iff_toInt_lt.mpr hc74_33; have l_0 : (3 : Int32).toInt = 3 := rfl; have l_1 : (255 : Int32).toInt = 255 := rfl; have l_2 : (128 : Int32).toInt = 128 := rfl; have l_3 : (1 : Int64).toInt = 1 := rfl; have l_4 : (0 : Int32).toInt = 0 := rfl; have q1 := c_i2l ve; have q2 := c_i2l (xx &&& (255 : Int32)); have q3 := c_i2l (3 : Int32); have q4 := c_ladd (3 : Int32).toInt64 (1 : Int64); have q5 := c_ladd ((3 : Int32).toInt64 + (1 : Int64)) (xx &&& (255 : Int32)).toInt64; have q6 := rng64 ((3 : Int32).toInt64 + (1 : Int64)); have q7 := rng64 (((3 : Int32).toInt64 + (1 : Int64)) + (xx &&& (255 : Int32)).toInt64); have q8 := rng32 ve; have q9 := c_isub ve (3 : Int32); have qa := rng32 (ve - (3 : Int32)); have qb := own_u xx; obtain ⟨qc, qd⟩ := rx; omega)]
        refine own_of (fun _ hh_ => XS.icmpNo X31.here hx rfl (hb hby at_112) rfl (teq hc112_37).2 hh_) ?_
        show own_Run p e below s _ _ _ (T31.setTop (mkF m 115 #[.val (.int w1), .val (.int a1), .val (.int ve), .val (.ref ob1), .val (.int (3 : Int32)), .val (.int (xx &&& (255 : Int32))), .val (.int (own_sl xx (3 : Int32) ve)), .val (.int (-1 : Int32))] []))
        refine own_of (fun _ hh_ => XS.iconst X31.here hx rfl (hb hby at_115) hh_) ?_
        show own_Run p e below s _ _ _ (T31.setTop (mkF m 116 #[.val (.int w1), .val (.int a1), .val (.int ve), .val (.ref ob1), .val (.int (3 : Int32)), .val (.int (xx &&& (255 : Int32))), .val (.int (own_sl xx (3 : Int32) ve)), .val (.int (-1 : Int32))] [(.int (1 : Int32))]))
        refine own_of (fun _ hh_ => XS.goto X31.here hx rfl (pc0 := 116) (pc' := 120) rfl (hb hby at_116) (by decide) (by decide) hh_) ?_
        show own_Run p e below s _ _ _ (T31.setTop (mkF m 120 #[.val (.int w1), .val (.int a1), .val (.int ve), .val (.ref ob1), .val (.int (3 : Int32)), .val (.int (xx &&& (255 : Int32))), .val (.int (own_sl xx (3 : Int32) ve)), .val (.int (-1 : Int32))] [(.int (1 : Int32))]))
        exact own_retN X31 hx (t := .boolean) hret hlk (by simp) (hb hby at_120) ⟨rfl, N31⟩ (by decide) (by decide)
    · refine own_of (fun _ hh_ => XS.icmpNo X31.here hx rfl (hb hby at_60) rfl (flt hc60_32).2.2.1 hh_) ?_
      show own_Run p e below s _ _ _ (T31.setTop (mkF m 63 #[.val (.int w1), .val (.int a1), .val (.int ve), .val (.ref ob1), .val (.int (3 : Int32)), .val (.int (xx &&& (255 : Int32))), .val (.int (own_sl xx (3 : Int32) ve)), .unset] []))
      refine own_of (fun _ hh_ => XS.iconst X31.here hx rfl (hb hby at_63) hh_) ?_
      show own_Run p e below s _ _ _ (T31.setTop (mkF m 64 #[.val (.int w1), .val (.int a1), .val (.int ve), .val (.ref ob1), .val (.int (3 : Int32)), .val (.int (xx &&& (255 : Int32))), .val (.int (own_sl xx (3 : Int32) ve)), .unset] [(.int (-1 : Int32))]))
      refine own_of (fun _ hh_ => XS.istore X31.here hx rfl (hb hby at_64) rfl (l' := #[.val (.int w1), .val (.int a1), .val (.int ve), .val (.ref ob1), .val (.int (3 : Int32)), .val (.int (xx &&& (255 : Int32))), .val (.int (own_sl xx (3 : Int32) ve)), .val (.int (-1 : Int32))]) rfl hh_) ?_
      show own_Run p e below s _ _ _ (T31.setTop (mkF m 66 #[.val (.int w1), .val (.int a1), .val (.int ve), .val (.ref ob1), .val (.int (3 : Int32)), .val (.int (xx &&& (255 : Int32))), .val (.int (own_sl xx (3 : Int32) ve)), .val (.int (-1 : Int32))] []))
      refine own_of (fun _ hh_ => XS.goto X31.here hx rfl (pc0 := 66) (pc' := 108) rfl (hb hby at_66) (by decide) (by decide) hh_) ?_
      show own_Run p e below s _ _ _ (T31.setTop (mkF m 108 #[.val (.int w1), .val (.int a1), .val (.int ve), .val (.ref ob1), .val (.int (3 : Int32)), .val (.int (xx &&& (255 : Int32))), .val (.int (own_sl xx (3 : Int32) ve)), .val (.int (-1 : Int32))] []))
      refine own_of (fun _ hh_ => XS.iload X31.here hx rfl (hb hby at_108) rfl hh_) ?_
      show own_Run p e below s _ _ _ (T31.setTop (mkF m 110 #[.val (.int w1), .val (.int a1), .val (.int ve), .val (.ref ob1), .val (.int (3 : Int32)), .val (.int (xx &&& (255 : Int32))), .val (.int (own_sl xx (3 : Int32) ve)), .val (.int (-1 : Int32))] [(.int (own_sl xx (3 : Int32) ve))]))
      refine own_of (fun _ hh_ => XS.iload X31.here hx rfl (hb hby at_110) rfl hh_) ?_
      show own_Run p e below s _ _ _ (T31.setTop (mkF m 112 #[.val (.int w1), .val (.int a1), .val (.int ve), .val (.ref ob1), .val (.int (3 : Int32)), .val (.int (xx &&& (255 : Int32))), .val (.int (own_sl xx (3 : Int32) ve)), .val (.int (-1 : Int32))] [(.int (-1 : Int32)), (.int (own_sl xx (3 : Int32) ve))]))
      have hc112_38 : (own_sl xx (3 : Int32) ve) = (-1 : Int32) := by unfold own_sl; rw [if_neg hc60_32]
      refine own_of (fun _ hh_ => XS.icmpNo X31.here hx rfl (hb hby at_112) rfl (teq hc112_38).2 hh_) ?_
      show own_Run p e below s _ _ _ (T31.setTop (mkF m 115 #[.val (.int w1), .val (.int a1), .val (.int ve), .val (.ref ob1), .val (.int (3 : Int32)), .val (.int (xx &&& (255 : Int32))), .val (.int (own_sl xx (3 : Int32) ve)), .val (.int (-1 : Int32))] []))
      refine own_of (fun _ hh_ => XS.iconst X31.here hx rfl (hb hby at_115) hh_) ?_
      show own_Run p e below s _ _ _ (T31.setTop (mkF m 116 #[.val (.int w1), .val (.int a1), .val (.int ve), .val (.ref ob1), .val (.int (3 : Int32)), .val (.int (xx &&& (255 : Int32))), .val (.int (own_sl xx (3 : Int32) ve)), .val (.int (-1 : Int32))] [(.int (1 : Int32))]))
      refine own_of (fun _ hh_ => XS.goto X31.here hx rfl (pc0 := 116) (pc' := 120) rfl (hb hby at_116) (by decide) (by decide) hh_) ?_
      show own_Run p e below s _ _ _ (T31.setTop (mkF m 120 #[.val (.int w1), .val (.int a1), .val (.int ve), .val (.ref ob1), .val (.int (3 : Int32)), .val (.int (xx &&& (255 : Int32))), .val (.int (own_sl xx (3 : Int32) ve)), .val (.int (-1 : Int32))] [(.int (1 : Int32))]))
      exact own_retN X31 hx (t := .boolean) hret hlk (by simp) (hb hby at_120) ⟨rfl, N31⟩ (by decide) (by decide)
set_option maxRecDepth 65536 in
set_option maxHeartbeats 40000000 in
theorem comes_1 {Post : Tables → Env → Array Value → State → Outcome → State → Prop} (hpost : ∀ tb e args s v u, (limb_1_1.after args s (.returned v) u = true ∧ limb_1_2.after args s (.returned v) u = true ∧ True) → FrameEnd s (.returned v) u (Jvm.fieldLocs frame_1_writes args s ++ Jvm.arrayLocs frame_1_arrays args s ++ Jvm.staticLocs frame_1_statics s) 16 128 → Post tb e args s (.returned v) u) :
    ArmFor flags0 classFile x code maxLocals ret World_1 tables_1 room_1 Calls_1 rest_1 Pre_1 Post := by
  intro l hfl _ _ p e ha hc hk s m args below hf hA hF happ hP
  obtain ⟨hcalls, hrest, hpre⟩ := hP
  obtain ⟨-, -, -, hnamed, -, -, -, hat⟩ := (Spec.applies_iff hf).mp happ
  obtain ⟨hg, hn⟩ := and_e (Cond.before_iff.mp (show (Jvm.Cond.and given_1 narrow_1).before args s = true from hpre))
  obtain ⟨gg1, gg2⟩ := and_e hg
  obtain ⟨gg3, gg4⟩ := and_e gg2
  obtain ⟨gg5, gg6⟩ := and_e gg4
  obtain ⟨w0, w1, w2, rfl⟩ : ∃ w0 w1 w2 : Value, args = #[w0, w1, w2] := by
    have hs : args.size = 3 := by simpa [Cond.value, given_1] using gg1
    obtain ⟨L⟩ := args
    match L, hs with
    | [w0, w1, w2], _ => exact ⟨w0, w1, w2, rfl⟩
  have hw := fun d (hd : d ∈ tables_1) => atoms_spec (ws := Jvm.Cond.code x code maxLocals ret :: tables_1) hat d (List.mem_cons_of_mem _ hd)
  obtain ⟨i0, ei0⟩ := is_v gg3
  obtain rfl : w0 = (.int i0) := Option.some.inj ei0
  obtain ⟨i1, ei1⟩ := is_v gg5
  obtain rfl : w1 = (.int i1) := Option.some.inj ei1
  obtain ⟨i2, ei2⟩ := is_v gg6
  obtain rfl : w2 = (.int i2) := Option.some.inj ei2
  obtain ⟨n, o, h1, h2, h3, _, L, rfl, ⟨rfl, N⟩, hq⟩ := rm0 l s _ hw tables_1 i0 i1 i2  s.heap s.heap.size (Nat.le_refl _)  p e ha hc hk s m _ below hf ((Spec.applies_iff_loose hf).mp happ).1 ⟨rfl, State.Warmed39.refl s, rfl⟩ trivial
  refine ⟨n, _, h1, h2, h3, hpost _ _ _ _ _ _ ⟨Cond.after_iff.mpr rfl, Cond.after_iff.mpr (eq_i res_at (Term.int_eval (1)) rfl), trivial⟩ ⟨hq.1, hq.2.1, (hq.2.2.sift fun y hy => Or.inr (N y hy)).mono (by decide) (by decide)⟩⟩
theorem main_1_1 : Claimed_1_1 := comes_1 fun _ _ _ _ _ _ h hF => ⟨h.1, hF⟩
theorem main_1_2 : Claimed_1_2 := comes_1 fun _ _ _ _ _ _ h hF => ⟨h.2.1, hF⟩
end Jvm.Pilot.@@N@@
namespace Jvm.Pilot.@@N@@
open Jvm Jvm.ClassFile Sem Op Lib Jvm.Free Jvm.Stand Jvm.Pilot.@@N@@.Jvm.D
/-! MADE BY PROGRAM (witnessworld.py) out of the Statement's table words and the real class files: 9 classes; the members and pool entries that the words name. The judged class is class 1, her method 1. -/
namespace start1
open Jvm.ClassFile
def u (s : String) : CpInfo := .utf8 (stringToUtf16 s)
/-- a pool by its gaps: so many unusable entries, then the entry; so many at the end -/
def gap : Nat → List CpInfo → List CpInfo
  | 0, r => r
  | n + 1, r => .unusable :: gap n r
def poolList (es : List (Nat × CpInfo)) (last : Nat) : List CpInfo := es.foldr (fun e r => gap e.1 (e.2 :: r)) (gap last [])
def pool (es : List (Nat × CpInfo)) (last : Nat) : Array CpInfo := ⟨poolList es last⟩
def fileOf (pool : Array CpInfo) (this : Nat) (attrs : Array Attribute := #[]) (ms : Array MethodInfo := #[]) (fl : Nat := 33) (sup : Nat := 0) (ifs : Array Nat := #[]) (fds : Array FieldInfo := #[]) : ClassFile where
  minorVersion := 0
  majorVersion := 65
  constantPool := pool
  accessFlags := fl
  thisClass := this
  superClass := sup
  interfaces := ifs
  fields := fds
  methods := ms
  attributes := attrs
def plain (name : String) (sup : Option ClassId) : Class where
  name := name
  kind := .ordinary
  loader := none
  accessFlags := 33
  super := sup
  interfaces := #[]
  cf := none
  fields := #[]
  methods := #[]
  instanceTypes := #[]
  staticTypes := #[]
  resolved := #[]
  callSites := []
  init := .initialized
  statics := none
  mirror := none

def pool0 : Array CpInfo := pool [(5, u "<init>"), (0, u "()V"), (1, .class_ 10), (1, u "java/lang/Object")] 113

def k0m0 : Method := { name := "<init>", desc := "()V", sig := { parameters := [], returnType := none }, accessFlags := 1, code := none }
/-- java/lang/Object -/
def k0 : Class := { plain "java/lang/Object" none with
  accessFlags := 33
  interfaces := #[]
  cf := some (fileOf pool0 8 #[] #[{ accessFlags := 1, nameIndex := 5, descriptorIndex := 6, attributes := #[] }] 33 0 #[] #[])
  fields := #[]
  methods := #[k0m0]
  instanceTypes := #[]
  staticTypes := #[]
  resolved := Array.replicate 124 none
  statics := none }

def pool1 : Array CpInfo := pool [(2, .class_ 4), (1, u "java/lang/Object"), (0, u "<init>"), (0, u "()V"), (0, .methodref 8 9), (0, .class_ 10), (0, .nameAndType 11 12), (0, u "com/example/pagewright/pagewright/RecordCodec"), (0, u "shortLength"), (0, u "([BII)I"), (0, .class_ 14), (0, u "com/example/pagewright/pagewright/RecordCodecShortLengthPinLaw"), (2, u "law"), (0, u "(III)Z")] 5

def k1m0 : Method := { name := "<init>", desc := "()V", sig := { parameters := [], returnType := none }, accessFlags := 1, code := none }
def k1c1 : Code := { maxStack := 4, maxLocals := 8, code := code, exceptionTable := #[], attributes := #[] }
def k1m1 : Method := { name := "law", desc := "(III)Z", sig := { parameters := [.int, .int, .int], returnType := some .boolean }, accessFlags := 9, code := some k1c1 }
/-- com/example/pagewright/pagewright/RecordCodecShortLengthPinLaw -/
def k1 : Class := { plain "com/example/pagewright/pagewright/RecordCodecShortLengthPinLaw" (some 0) with
  accessFlags := 49
  interfaces := #[]
  cf := some (fileOf pool1 13 #[] #[{ accessFlags := 1, nameIndex := 5, descriptorIndex := 6, attributes := #[] }, { accessFlags := 9, nameIndex := 17, descriptorIndex := 18, attributes := #[] }] 49 2 #[] #[])
  fields := #[]
  methods := #[k1m0, k1m1]
  instanceTypes := #[]
  staticTypes := #[]
  resolved := Array.replicate 24 none
  statics := none }

def pool2 : Array CpInfo := pool [(2, .class_ 4), (1, u "java/lang/Object"), (0, u "<init>"), (0, u "()V"), (19, .class_ 28), (1, u "com/example/pagewright/pagewright/RecordCodec"), (5, .class_ 35), (0, u "com/example/pagewright/pagewright/RecordCodec$Writer"), (23, .class_ 61), (1, u "com/example/pagewright/pagewright/RecordCodec$FieldReader"), (29, u "shortLength"), (0, u "([BII)I")] 20

def k2m0 : Method := { name := "<init>", desc := "()V", sig := { parameters := [], returnType := none }, accessFlags := 2, code := none }
def k2c1 : Code := { maxStack := 3, maxLocals := 4, code := prog_58_method_7_code, exceptionTable := #[], attributes := #[] }
def k2m1 : Method := { name := "shortLength", desc := "([BII)I", sig := { parameters := [(.array .byte), .int, .int], returnType := some .int }, accessFlags := 8, code := some k2c1 }
/-- com/example/pagewright/pagewright/RecordCodec -/
def k2 : Class := { plain "com/example/pagewright/pagewright/RecordCodec" (some 0) with
  accessFlags := 48
  interfaces := #[]
  cf := some (fileOf pool2 26 #[.nestMembers #[59, 34]] #[{ accessFlags := 2, nameIndex := 5, descriptorIndex := 6, attributes := #[] }, { accessFlags := 8, nameIndex := 91, descriptorIndex := 92, attributes := #[] }] 48 2 #[] #[])
  fields := #[]
  methods := #[k2m0, k2m1]
  instanceTypes := #[]
  staticTypes := #[]
  resolved := Array.replicate 113 none
  statics := none }

def pool3 : Array CpInfo := pool [(1, u "java/lang/Cloneable"), (0, .class_ 1), (0, u "java/lang/Object"), (0, .class_ 3)] 3

/-- java/lang/Cloneable -/
def k3 : Class := { plain "java/lang/Cloneable" (some 0) with
  accessFlags := 1537
  interfaces := #[]
  cf := some (fileOf pool3 2 #[] #[] 1537 4 #[] #[])
  fields := #[]
  methods := #[]
  instanceTypes := #[]
  staticTypes := #[]
  resolved := Array.replicate 8 none
  statics := none }

def pool4 : Array CpInfo := pool [(1, u "java/io/Serializable"), (0, .class_ 1), (0, u "java/lang/Object"), (0, .class_ 3)] 3

/-- java/io/Serializable -/
def k4 : Class := { plain "java/io/Serializable" (some 0) with
  accessFlags := 1537
  interfaces := #[]
  cf := some (fileOf pool4 2 #[] #[] 1537 4 #[] #[])
  fields := #[]
  methods := #[]
  instanceTypes := #[]
  staticTypes := #[]
  resolved := Array.replicate 8 none
  statics := none }

/-- the primitive byte -/
def k5 : Class := { plain "byte" none with kind := .primitive 'B', accessFlags := 0x411 }
/-- [B -/
def k6 : Class := { plain "[B" (some 0) with kind := .array 5 .byte, interfaces := #[3, 4], accessFlags := 1041 }

/-- the primitive int -/
def k7 : Class := { plain "int" none with kind := .primitive 'I', accessFlags := 0x411 }
/-- [I -/
def k8 : Class := { plain "[I" (some 0) with kind := .array 7 .int, interfaces := #[3, 4], accessFlags := 1041 }

def heap : Heap := #[]
def classes : Array Class := #[k0, k1, k2, k3, k4, k5, k6, k7, k8]
def interned : List (Array UInt16 × Addr) := []
def slotsUsed : Nat := 0
def theMethod : MethodId := ⟨1, 1⟩
def args0 : Array Value := #[.int 5, .int 5, .int 5]
def aboutOver (below : List Frame) : State where
  vm := { classes := classes, interned := interned.toArray }
  heap := heap
  slotsUsed := slotsUsed
  threads := #[{ frames := .invoking theMethod args0 :: below }]
def below0 : List Frame := [.native { method := ⟨0, 0⟩, args := #[] }]
def about1 : State := aboutOver below0
def p0 : Program := .bare "" "" ""
def e0 : Env := launch0.env 0 0 0
theorem w_frames : about1.frames = Frame.invoking theMethod args0 :: below0 := rfl
set_option maxRecDepth 65536 in
theorem w_args : argsFit about1.vm theMethod args0 = true := by decide +kernel
set_option maxRecDepth 65536 in
theorem w_heap : heapFits about1 = true := by decide +kernel
set_option maxRecDepth 65536 in
theorem w_runnable : about1.curStatus? = some .runnable := by decide +kernel
set_option maxRecDepth 65536 in
theorem w_alone : about1.alone = true := by decide +kernel
set_option maxRecDepth 65536 in
theorem w_named : about1.methodNamed? x = some theMethod := by decide +kernel
set_option maxRecDepth 65536 in
theorem w_hears : about1.hears theMethod below0 = true := by decide +kernel
set_option maxRecDepth 65536 in
theorem w_ripe : about1.ripe theMethod args0 below0 = true := by decide +kernel
theorem w_running : about1.status = .running := rfl
set_option maxRecDepth 65536 in
theorem w_room : about1.hasRoom e0.platform room_1 = true :=
  launch0.hasRoom_least _ room_1 (by decide +kernel) (by decide +kernel) (by decide +kernel) (by decide +kernel) (by decide +kernel) (by decide +kernel)
theorem allAtoms_all (ts : List Jvm.Cond) (a : Array Jvm.Value) (st : Jvm.State) : (allAtoms ts).before a st = ts.all (fun c => c.before a st) := by
  induction ts with
  | nil => rfl
  | cons c t ih =>
    show (Jvm.Cond.and c (allAtoms t)).before a st = _
    rw [Jvm.Cond.before_and, ih, List.all_cons]
def words1 : List Jvm.Cond := Jvm.Cond.code x code maxLocals ret :: tables_1
/-- a 'code' word, met by the world's own term for the bytes: nothing is compared byte by byte -/
theorem code_word {y : MethodName} {bytes : ByteArray} {mx : Nat} {rt : Option FieldType} {a : Array Value} {s : State} {m : MethodId} {meth : Method} {c : Code} (h1 : s.methodNamed? y = some m) (h2 : s.vm.method? m = some meth) (h3 : meth.code = some c) (h4 : c.code = bytes)
    (h5 : (c.maxLocals == mx && c.exceptionTable.isEmpty && decide (c.maxStack ≤ mostOperands) && decide (meth.sig.returnType = rt) && !meth.locks && decide (parseMethodDescriptor y.desc = some meth.sig)) = true) : (Jvm.Cond.code y bytes mx rt).before a s = true := by
  simp only [Bool.and_eq_true, beq_iff_eq, Bool.not_eq_true', decide_eq_true_eq] at h5
  obtain ⟨⟨⟨⟨⟨g1, g2⟩, g3⟩, g4⟩, g5⟩, g6⟩ := h5
  simp [Cond.before, Cond.holds, Cond.value, h1, h2, h3, h4, g1, g2, g3, g4, g5, g6]
def isCode : Jvm.Cond → Bool
  | .code _ _ _ _ => true
  | _ => false
theorem all_split {L : List Jvm.Cond} {P : Jvm.Cond → Bool} (h1 : L.all (fun c => isCode c || P c) = true) (h2 : ∀ c ∈ L.filter isCode, P c = true) : L.all P = true := by
  refine List.all_eq_true.mpr fun c hc => ?_
  have h := List.all_eq_true.mp h1 c hc
  rcases Bool.eq_false_or_eq_true (isCode c) with hi | hi
  · exact h2 c (List.mem_filter.mpr ⟨hc, hi⟩)
  · simpa [hi] using h
set_option maxRecDepth 65536 in
theorem w_c0 : (Jvm.Cond.code x code maxLocals ret).before args0 about1 = true := code_word (m := ⟨1, 1⟩) (meth := k1m1) (c := k1c1) (by decide +kernel) rfl rfl rfl (by decide +kernel)
set_option maxRecDepth 65536 in
theorem w_c1 : (Jvm.Cond.code ({ cls := "com/example/pagewright/pagewright/RecordCodec", name := "shortLength", desc := "([BII)I" } : Jvm.MethodName) prog_58_method_7_code (4 : Nat) (Option.some Jvm.ClassFile.FieldType.int)).before args0 about1 = true := code_word (m := ⟨2, 1⟩) (meth := k2m1) (c := k2c1) (by decide +kernel) rfl rfl rfl (by decide +kernel)
def codes1 : List Jvm.Cond := [Jvm.Cond.code x code maxLocals ret, Jvm.Cond.code ({ cls := "com/example/pagewright/pagewright/RecordCodec", name := "shortLength", desc := "([BII)I" } : Jvm.MethodName) prog_58_method_7_code (4 : Nat) (Option.some Jvm.ClassFile.FieldType.int)]
set_option maxRecDepth 65536 in
theorem codes_eq : words1.filter isCode = codes1 := rfl
theorem w_codes : ∀ c ∈ words1.filter isCode, c.before args0 about1 = true := by
  rw [codes_eq]
  intro c hc
  simp only [codes1, List.mem_cons, List.not_mem_nil, or_false] at hc
  rcases hc with rfl | rfl
  · exact w_c0
  · exact w_c1
set_option maxRecDepth 65536 in
theorem w_t1 : words1.all (fun c => isCode c || c.before args0 about1) = true := by decide +kernel
theorem w_tables : (allAtoms (Jvm.Cond.code x code maxLocals ret :: tables_1)).before args0 about1 = true := by
  rw [allAtoms_all]
  show words1.all (fun c => c.before args0 about1) = true
  refine all_split ?_ w_codes
  rw [w_t1]
set_option maxRecDepth 65536 in
theorem w_case : (Jvm.Cond.and given_1 narrow_1).before args0 about1 = true := by decide +kernel
theorem w_applies : (headSpec (Jvm.Cond.code x code maxLocals ret :: tables_1) room_1).applies x e0.platform about1 = true :=
  (Spec.applies_iff w_frames).mpr ⟨w_running, w_runnable, w_alone, w_named, w_hears, w_ripe, w_room, w_tables⟩
theorem atStart : AtStart classFile x code maxLocals ret World_1 tables_1 room_1 Calls_1 rest_1 Pre_1 launch0 p0 e0 about1 theMethod args0 below0 :=
  ⟨lists_1, trivial, launch0.admits_env _ _ _, launch0.least_env, fairChoices_fair.cas, fairChoices_fair.clock, w_frames, w_args, w_heap, w_applies, trivial, trivial, w_case⟩
end start1
theorem witness_1 : WitnessClaimed_1 := ⟨start1.p0, start1.e0, start1.about1, start1.theMethod, start1.args0, start1.below0, start1.atStart⟩
end Jvm.Pilot.@@N@@
