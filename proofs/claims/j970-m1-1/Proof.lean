import JvmDerived
import JvmDerived.Pilot.@@N@@Statement
import JvmDerived.Pilot.@@N@@Code
set_option linter.unusedVariables false
set_option linter.unusedSimpArgs false
@@BLOCK:NumsL.lean.txt@@
namespace Jvm.Pilot.@@N@@
open Jvm Jvm.ClassFile Sem Op Lib Jvm.Free Jvm.Stand Jvm.LawKit Jvm.RoadKit Bundle Jvm.Pilot.@@N@@.Jvm.D
/-! the walk's own form: from this state and frame the run ends as P says -/
def Go (p : Program) (e : Env) (below : List Frame) (T : State) (g : JFrame) (P : Outcome → State → Prop) : Prop := ∃ s₂ o, Steps p.tables e below (T.setTop g) s₂ ∧ s₂.status = .running ∧ Ended s₂ below o ∧ P o s₂
theorem Go.of {p : Program} {e : Env} {below : List Frame} {T T' : State} {g g' : JFrame} {P : Outcome → State → Prop} (k : ∀ t, Steps p.tables e below (T'.setTop g') t → Steps p.tables e below (T.setTop g) t) (h : Go p e below T' g' P) : Go p e below T g P := by
  obtain ⟨s2, o, h1, h2⟩ := h; exact ⟨s2, o, k _ h1, h2⟩
theorem Go.enter {p : Program} {e : Env} {below : List Frame} {T : State} {g g' : JFrame} {P : Outcome → State → Prop} (q : g = g') (h : Go p e below T g' P) : ∃ s₂ o, Steps p.tables e below (T.setTop g) s₂ ∧ s₂.status = .running ∧ Ended s₂ below o ∧ P o s₂ := by
  subst q; exact h
theorem own_selp {s : State} {args : Array Value} {y : MethodName} {n : Nat} (hi : (Jvm.Cond.instantiable y.cls n).before args s = true) (hp : s.PrivateAt y) (hm : (Jvm.Cond.instanceMethod y).before args s = true) (hy : y.cls ≠ "java/lang/invoke/MethodHandle" ∧ y.cls ≠ "java/lang/invoke/VarHandle") : (Jvm.Cond.selects y.cls y y).before args s = true := by
  obtain ⟨c, k, h1, h2, -, h3, -⟩ := Cond.instantiable_spec hi
  rw [Bool.or_eq_false_iff] at h3
  exact selects_self_of_private h1 h2 h3.1 hp hm hy
/-- a local that holds nothing or one word -/
def Sl (o : Slot) : Prop := o = .unset ∨ ∃ w : Value, o = .val w ∧ w.category = 1
/-! an array of small ints: its kind, its length, its components as a function -/
def Af (Z : State) (h : Heap) (a : Addr) (ty : FieldType) (n : Nat) (f : Nat → Int32) : Prop := ∃ c : Cell, Arr Z h a c ty ∧ c.slots.size = n ∧ ∀ i, i < n → c.slots[i]? = some (.int (f i))
def upd (f : Nat → Int32) (j : Nat) (v : Int32) : Nat → Int32 := fun i => if i = j then v else f i
theorem Af.lt {Z : State} {h : Heap} {a : Addr} {ty : FieldType} {n : Nat} {f : Nat → Int32} (F : Af Z h a ty n f) : a < h.size := by obtain ⟨c, A, -⟩ := F; exact A.lt
theorem Af.ext {Z : State} {h h' : Heap} {a : Addr} {ty : FieldType} {n : Nat} {f : Nat → Int32} (F : Af Z h a ty n f) (E : Ext h h') : Af Z h' a ty n f := by obtain ⟨c, A, r⟩ := F; exact ⟨c, A.ext E, r⟩
theorem Af.other {Z : State} {h h' : Heap} {a b : Addr} {ty : FieldType} {n sl : Nat} {v : Value} {f : Nat → Int32} (F : Af Z h b ty n f) (W : Wr h h' a sl v) (q : b ≠ a) : Af Z h' b ty n f := by obtain ⟨c, A, r⟩ := F; exact ⟨c, A.other W q, r⟩
theorem Af.keep {Z : State} {h h' : Heap} {a : Addr} {ws : List Addr} {ty : FieldType} {n : Nat} {f : Nat → Int32} (F : Af Z h a ty n f) (K : Keep h h' ws) (q : a ∉ ws) : Af Z h' a ty n f := by obtain ⟨c, A, r⟩ := F; exact ⟨c, ⟨K.2.1 a c A.1 q, A.2⟩, r⟩
theorem Af.new {Z : State} {h : Heap} {a : Addr} {k : ClassId} {ty : FieldType} {z : Int32} {n : Nat} (hd : defaultValue ty = .int 0) (A : Arr Z h a (newA k ty z) ty) (hn : z.toNatClampNeg = n) : Af Z h a ty n (fun _ => 0) := by
  subst hn; exact ⟨_, A, sz_new _ _ _, fun i hi => by simp [newA, hd, hi]⟩
theorem Af.at {c : Cell} {n i : Nat} {j : Int32} {f : Nat → Int32} (H : ∀ i, i < n → c.slots[i]? = some (.int (f i))) (hj : j.toNatClampNeg = i) (q : ¬ (j < 0) ∧ j.toNatClampNeg < n) : c.slots[j.toNatClampNeg]? = some (.int (f i)) := by
  subst hj; exact H _ q.2
theorem Af.inb {c : Cell} {n : Nat} {j : Int32} (S : c.slots.size = n) (q : ¬ (j < 0) ∧ j.toNatClampNeg < n) : ¬ (j < 0 ∨ c.slots.size ≤ j.toNatClampNeg) := by rw [S]; exact fun z => z.elim q.1 (Nat.not_le.mpr q.2)
theorem Af.set {Z : State} {h h' : Heap} {a : Addr} {c : Cell} {ty : FieldType} {n j j' : Nat} {x : Int32} {f : Nat → Int32} (A : Arr Z h a c ty) (S : c.slots.size = n) (H : ∀ i, i < n → c.slots[i]? = some (.int (f i))) (W : Wr h h' a j' (.int x)) (hj : j' = j) : Af Z h' a ty n (upd f j x) := by
  subst hj
  refine ⟨_, A.same W, by rw [sz_set]; exact S, fun i hi => ?_⟩
  by_cases e : i = j'
  · subst e; simp [upd, Cell.setSlot, S, hi]
  · have q : (c.setSlot j' (.int x)).slots[i]? = c.slots[i]? := Array.getElem?_setIfInBounds_ne (Ne.symm e)
    rw [q, H i hi]; simp [upd, e]
theorem Af.congr {Z : State} {h : Heap} {a : Addr} {ty : FieldType} {n : Nat} {f g : Nat → Int32} (F : Af Z h a ty n f) (q : ∀ i, i < n → f i = g i) : Af Z h a ty n g := by
  obtain ⟨c, A, S, H⟩ := F; exact ⟨c, A, S, fun i hi => by rw [← q i hi]; exact H i hi⟩
theorem pn_0 : plainName "java/lang/Record" = true := by first | (simp [plainName, overriddenIn]; done) | decide +kernel
theorem pd_0 : parseMethodDescriptor "()V" = some ⟨[], none⟩ := by decide +kernel
theorem pn_1 : plainName "com/example/attestry/attestry/DerReader$BitString" = true := by first | (simp [plainName, overriddenIn]; done) | decide +kernel
theorem pd_1 : parseMethodDescriptor "([BI)V" = some ⟨[(.array .byte), .int], none⟩ := by decide +kernel
theorem pd_2 : parseMethodDescriptor "(I)Z" = some ⟨[.int], some .boolean⟩ := by decide +kernel
theorem pn_2 : plainName "com/example/attestry/attestry/BitStringBitPinLaw" = true := by first | (simp [plainName, overriddenIn]; done) | decide +kernel
theorem d2_0 : decode jdk_30_method_1_code 0 = .ok (.aload_n 0, 1) := by decide +kernel
theorem d2_1 : decode jdk_30_method_1_code 1 = .ok (.invokespecial 1, 3) := by decide +kernel
theorem d2_4 : decode jdk_30_method_1_code 4 = .ok (.return_, 1) := by decide +kernel
theorem ef_2 (m : MethodId) (x0 : Addr) : entryFrame m #[(.ref x0)] 1 = mkF m 0 #[.val (.ref x0)] [] := by first | (simp [entryFrame, mkF, argsToLocals, Value.category]; done) | rfl
def Q2 (Z : State) (a : Addr) (h0 : Heap) (n0 : Nat) (v : Option Value) (h : Heap) (L : List Loc) : Prop := v = none ∧ Fr n0 L ∧ h = h0
set_option maxRecDepth 65536 in
set_option maxHeartbeats 40000000 in
theorem rm2 (l : Launch) (Z : State) (a0 : Array Value) (hw : ∀ d ∈ tables_1, d.before a0 Z = true) (ws : List Jvm.Cond) (a : Addr) (h0 : Heap) (n0 : Nat) (Z0 : n0 ≤ h0.size) :
    MetFree l (⟨"java/lang/Record", "<init>", "()V"⟩ : MethodName) (head1 (Jvm.Cond.code (⟨"java/lang/Record", "<init>", "()V"⟩ : MethodName) jdk_30_method_1_code 1 none :: ws) ({ frames := 1, cells := 0, slots := 0, locals := 12 } : Room)) (fun aa_ U => aa_ = #[(.ref a)] ∧ Z.Warmed39 U.vm ∧ U.heap = h0) (fun _ _ _ _ _ => True) (fun _ U o U' => ∃ vv_ LL_, o = .returned vv_ ∧ Q2 Z a h0 n0 vv_ U'.heap LL_ ∧ FrameEnd U o U' LL_ ({ frames := 1, cells := 0, slots := 0, locals := 12 } : Room).cells ({ frames := 1, cells := 0, slots := 0, locals := 12 } : Room).slots) := by
  refine MetFree.of_bodySF (plainFor_of_name pn_0) hisR ?_
  intro p e s m args below meth c s₁ Bd hml0 hP hK
  obtain ⟨rfl, hZ, hh⟩ := hP
  have hx := Bd.exec
  have hby := Bd.bytes
  have hml : c.maxLocals = 1 := hml0
  have hown : s.vm.findClass "java/lang/Record" = some m.cls := findClass_of_methodNamed Bd.named
  have hnm := (name_of_methodNamed Bd.named Bd.method).1
  have X0 : Stand p l e ({ frames := 1, cells := 0, slots := 0, locals := 12 } : Room) s m #[(.ref a)] below meth c s₁ [] 0 0 := Stand.of_body Bd
  have e0 : s₁.heap = h0 := by rw [← hh, Bd.state]; rfl
  have N0 := Fr.nil n0
  have K0 : Keep h0 h0 [] := Keep.refl h0 _
  refine Go.enter (P := fun o U' => ∃ vv_ LL_, o = .returned vv_ ∧ Q2 Z a h0 n0 vv_ U'.heap LL_ ∧ FrameEnd s o U' LL_ ({ frames := 1, cells := 0, slots := 0, locals := 12 } : Room).cells ({ frames := 1, cells := 0, slots := 0, locals := 12 } : Room).slots) (ef_2 m a) ?_
  show Go p e below s₁ (mkF m 0 #[.val (.ref a)] []) _
  refine Go.of (fun tg_ kk_ => XS.aloadN X0.here hx rfl (hb hby d2_0) rfl rfl kk_) ?_
  show Go p e below s₁ (mkF m 1 #[.val (.ref a)] [(.ref a)]) _
  obtain ⟨T1, X1, e1, st1⟩ := initO X0 hx hZ hown (hw _ (List.mem_of_getElem? (i := 12) rfl)) (hw _ (List.mem_of_getElem? (i := 13) rfl)) (hw _ (List.mem_of_getElem? (i := 14) rfl)) e0 (g := (mkF m 1 #[.val (.ref a)] [(.ref a)])) rfl (by rw [hml]; rfl) rfl (hb hby d2_1) (by decide) (W := 0) (by show 2 * 0 + _ ≤ _; exact Nat.le_of_eq rfl) (by decide)
  refine Go.of (st1) ?_
  show Go p e below T1 (mkF m 4 #[.val (.ref a)] []) _
  obtain ⟨fs, hr, hrun, hended, hW, hsame⟩ := X1.leave (v := none) (fun _ => rfl)
  refine ⟨_, _, ?_, hrun, hended, _, _, rfl, ?_, ⟨_, rfl⟩, hW, hsame.mono (by decide) (by decide)⟩
  · exact X1.returnOut hx Bd.returns (hb hby d2_4) hr
  · show Q2 Z a h0 n0 _ T1.heap _
    rw [e1]
    exact ⟨rfl, N0, rfl⟩
theorem d1_0 : decode prog_6_method_1_code 0 = .ok (.aload_n 0, 1) := by decide +kernel
theorem d1_1 : decode prog_6_method_1_code 1 = .ok (.invokespecial 1, 3) := by decide +kernel
theorem d1_4 : decode prog_6_method_1_code 4 = .ok (.aload_n 0, 1) := by decide +kernel
theorem d1_5 : decode prog_6_method_1_code 5 = .ok (.aload_n 1, 1) := by decide +kernel
theorem d1_6 : decode prog_6_method_1_code 6 = .ok (.putfield 7, 3) := by decide +kernel
theorem d1_9 : decode prog_6_method_1_code 9 = .ok (.aload_n 0, 1) := by decide +kernel
theorem d1_10 : decode prog_6_method_1_code 10 = .ok (.iload_n 2, 1) := by decide +kernel
theorem d1_11 : decode prog_6_method_1_code 11 = .ok (.putfield 13, 3) := by decide +kernel
theorem d1_14 : decode prog_6_method_1_code 14 = .ok (.return_, 1) := by decide +kernel
theorem ef_1 (m : MethodId) (x0 : Addr) (x1 : Addr) (x2 : Int32) : entryFrame m #[(.ref x0), (.ref x1), (.int x2)] 3 = mkF m 0 #[.val (.ref x0), .val (.ref x1), .val (.int x2)] [] := by first | (simp [entryFrame, mkF, argsToLocals, Value.category]; done) | rfl
def Q1 (Z : State) (a : Addr) (u : Addr) (x : Int32) (h0 : Heap) (n0 : Nat) (v : Option Value) (h : Heap) (L : List Loc) : Prop := v = none ∧ Fr n0 L ∧ Keep h0 h [a] ∧ Fld Z h a "com/example/attestry/attestry/DerReader$BitString" "octets" "[B" (.ref u)
set_option maxRecDepth 65536 in
set_option maxHeartbeats 40000000 in
theorem rm1 (l : Launch) (Z : State) (a0 : Array Value) (hw : ∀ d ∈ tables_1, d.before a0 Z = true) (ws : List Jvm.Cond) (a : Addr) (u : Addr) (x : Int32) (h0 : Heap) (n0 : Nat) (Z0 : n0 ≤ h0.size) (g_a : n0 ≤ a) (E_a : Exa Z h0 a "com/example/attestry/attestry/DerReader$BitString") (Fo : Fld Z h0 a "com/example/attestry/attestry/DerReader$BitString" "octets" "[B" .null) (Fi : Fld Z h0 a "com/example/attestry/attestry/DerReader$BitString" "length" "I" (.int (0 : Int32))) :
    MetFree l (⟨"com/example/attestry/attestry/DerReader$BitString", "<init>", "([BI)V"⟩ : MethodName) (head1 (Jvm.Cond.code (⟨"com/example/attestry/attestry/DerReader$BitString", "<init>", "([BI)V"⟩ : MethodName) prog_6_method_1_code 3 none :: ws) ({ frames := 2, cells := 0, slots := 0, locals := 24 } : Room)) (fun aa_ U => aa_ = #[(.ref a), (.ref u), (.int x)] ∧ Z.Warmed39 U.vm ∧ U.heap = h0) (fun _ _ _ _ _ => True) (fun _ U o U' => ∃ vv_ LL_, o = .returned vv_ ∧ Q1 Z a u x h0 n0 vv_ U'.heap LL_ ∧ FrameEnd U o U' LL_ ({ frames := 2, cells := 0, slots := 0, locals := 24 } : Room).cells ({ frames := 2, cells := 0, slots := 0, locals := 24 } : Room).slots) := by
  refine MetFree.of_bodySF (plainFor_of_name pn_1) hisR ?_
  intro p e s m args below meth c s₁ Bd hml0 hP hK
  obtain ⟨rfl, hZ, hh⟩ := hP
  have hx := Bd.exec
  have hby := Bd.bytes
  have hml : c.maxLocals = 3 := hml0
  have hown : s.vm.findClass "com/example/attestry/attestry/DerReader$BitString" = some m.cls := findClass_of_methodNamed Bd.named
  have hnm := (name_of_methodNamed Bd.named Bd.method).1
  have X0 : Stand p l e ({ frames := 2, cells := 0, slots := 0, locals := 24 } : Room) s m #[(.ref a), (.ref u), (.int x)] below meth c s₁ [] 0 0 := Stand.of_body Bd
  have e0 : s₁.heap = h0 := by rw [← hh, Bd.state]; rfl
  have N0 := Fr.nil n0
  have K0 : Keep h0 h0 [a] := Keep.refl h0 _
  refine Go.enter (P := fun o U' => ∃ vv_ LL_, o = .returned vv_ ∧ Q1 Z a u x h0 n0 vv_ U'.heap LL_ ∧ FrameEnd s o U' LL_ ({ frames := 2, cells := 0, slots := 0, locals := 24 } : Room).cells ({ frames := 2, cells := 0, slots := 0, locals := 24 } : Room).slots) (ef_1 m a u x) ?_
  show Go p e below s₁ (mkF m 0 #[.val (.ref a), .val (.ref u), .val (.int x)] []) _
  refine Go.of (fun tg_ kk_ => XS.aloadN X0.here hx rfl (hb hby d1_0) rfl rfl kk_) ?_
  show Go p e below s₁ (mkF m 1 #[.val (.ref a), .val (.ref u), .val (.int x)] [(.ref a)]) _
  obtain ⟨_, _, ⟨T1, L1, k1, n1⟩, -, X1, ⟨Lc1, hQ1, l1, y1, z1⟩, st1⟩ := X0.specialBack hx (y := (⟨"java/lang/Record", "<init>", "()V"⟩ : MethodName)) rfl hown (mvT hZ (hw _ (List.mem_of_getElem? (i := 7) rfl))) (mvT hZ (hw _ (List.mem_of_getElem? (i := 8) rfl))) (mvT hZ (hw _ (List.mem_of_getElem? (i := 11) rfl))) (by decide) (backOf (W := 0) (rm2 l Z a0 hw [] a h0 n0 Z0) hZ (hw _ (List.mem_of_getElem? (i := 11) rfl)) (hw _ (List.mem_of_getElem? (i := 10) rfl)) (by decide) (by decide)) (g := (mkF m 1 #[.val (.ref a), .val (.ref u), .val (.int x)] [(.ref a)])) rfl (by rw [hml]; rfl) (Steps.refl _) (a := a) (argsL := []) (rest := []) (lenOf pd_0 rfl) rfl (by show 2 * 0 + _ ≤ _; exact Nat.le_of_eq rfl) (hb hby d1_1) (fun _ _ => ⟨rfl, e0, (by decide : 0 + 0 ≤ _), (by decide : 0 + 0 ≤ _)⟩)
  dsimp only [Pt.U, Pt.locs, Pt.cells, Pt.slots] at X1 l1 y1 z1 st1 hQ1
  subst l1 y1 z1
  obtain ⟨rfl, N1q, e1⟩ := hQ1
  have N1 := Fr.app N0 N1q
  refine Go.of (fun tg_ kk_ => st1.trans kk_) ?_
  show Go p e below T1 (mkF m 4 #[.val (.ref a), .val (.ref u), .val (.int x)] []) _
  refine Go.of (fun tg_ kk_ => XS.aloadN X1.here hx rfl (hb hby d1_4) rfl rfl kk_) ?_
  show Go p e below T1 (mkF m 5 #[.val (.ref a), .val (.ref u), .val (.int x)] [(.ref a)]) _
  refine Go.of (fun tg_ kk_ => XS.aloadN X1.here hx rfl (hb hby d1_5) rfl rfl kk_) ?_
  show Go p e below T1 (mkF m 6 #[.val (.ref a), .val (.ref u), .val (.int x)] [(.ref u), (.ref a)]) _
  obtain ⟨T2, h2, X2, e2, W2, st2⟩ := putF X1 hx hZ hown (host := "") (Or.inl (hw _ (List.mem_of_getElem? (i := 15) rfl))) Via.refl e1 Fo E_a (Or.inr ⟨(hw _ (List.mem_of_getElem? (i := 16) rfl)), rfl, hnm⟩) (hw _ (List.mem_of_getElem? (i := 2) rfl)) (ty := (.array .byte)) (by decide) rfl rfl (g := (mkF m 6 #[.val (.ref a), .val (.ref u), .val (.int x)] [(.ref u), (.ref a)])) rfl rfl (hb hby d1_6)
  have Fw2 := Fo.same W2
  have F3 := E_a.wr W2
  have F5 := Fi.other W2 (Or.inr (slot_ne (Or.inr (hw _ (List.mem_of_getElem? (i := 18) rfl))) (Or.inr (hw _ (List.mem_of_getElem? (i := 16) rfl))) (by decide) (t := .int) (t' := (.array .byte)) (by decide) (by decide)))
  have K6 := K0.wr W2 (Or.inl (List.mem_of_getElem? (i := 0) rfl))
  have Zs7 : n0 ≤ h2.size := Nat.le_trans Z0 (Keep.of_wr W2).1
  have N2 := Fr.snoc X2 N1 g_a
  refine Go.of (st2) ?_
  show Go p e below T2 (mkF m 9 #[.val (.ref a), .val (.ref u), .val (.int x)] []) _
  refine Go.of (fun tg_ kk_ => XS.aloadN X2.here hx rfl (hb hby d1_9) rfl rfl kk_) ?_
  show Go p e below T2 (mkF m 10 #[.val (.ref a), .val (.ref u), .val (.int x)] [(.ref a)]) _
  refine Go.of (fun tg_ kk_ => XS.iloadN X2.here hx rfl (hb hby d1_10) rfl kk_) ?_
  show Go p e below T2 (mkF m 11 #[.val (.ref a), .val (.ref u), .val (.int x)] [(.int x), (.ref a)]) _
  obtain ⟨T8, h8, X8, e8, W8, st8⟩ := putF X2 hx hZ hown (host := "") (Or.inl (hw _ (List.mem_of_getElem? (i := 17) rfl))) Via.refl e2 F5 F3 (Or.inr ⟨(hw _ (List.mem_of_getElem? (i := 18) rfl)), rfl, hnm⟩) (hw _ (List.mem_of_getElem? (i := 2) rfl)) (ty := .int) (by decide) rfl rfl (g := (mkF m 11 #[.val (.ref a), .val (.ref u), .val (.int x)] [(.int x), (.ref a)])) rfl rfl (hb hby d1_11)
  have Fw8 := F5.same W8
  have F9 := F3.wr W8
  have F11 := Fw2.other W8 (Or.inr (slot_ne (Or.inr (hw _ (List.mem_of_getElem? (i := 16) rfl))) (Or.inr (hw _ (List.mem_of_getElem? (i := 18) rfl))) (by decide) (t := (.array .byte)) (t' := .int) (by decide) (by decide)))
  have K12 := K6.wr W8 (Or.inl (List.mem_of_getElem? (i := 0) rfl))
  have Zs13 : n0 ≤ h8.size := Nat.le_trans Zs7 (Keep.of_wr W8).1
  have N8 := Fr.snoc X8 N2 g_a
  refine Go.of (st8) ?_
  show Go p e below T8 (mkF m 14 #[.val (.ref a), .val (.ref u), .val (.int x)] []) _
  obtain ⟨fs, hr, hrun, hended, hW, hsame⟩ := X8.leave (v := none) (fun _ => rfl)
  refine ⟨_, _, ?_, hrun, hended, _, _, rfl, ?_, ⟨_, rfl⟩, hW, hsame.mono (by decide) (by decide)⟩
  · exact X8.returnOut hx Bd.returns (hb hby d1_14) hr
  · show Q1 Z a u x h0 n0 _ T8.heap _
    rw [e8]
    exact ⟨rfl, N8, K12, F11⟩
def bitF (f : Nat → Int32) (x : Int32) : Int32 := if (f (x / (8 : Int32)).toNatClampNeg &&& ((128 : Int32).toUInt32 >>> ((x % (8 : Int32)) &&& 31).toUInt32).toInt32) = (0 : Int32) then (0 : Int32) else (1 : Int32)
theorem own_and3 (x : Int32) : x &&& 3 = 0 ∨ x &&& 3 = 1 ∨ x &&& 3 = 2 ∨ x &&& 3 = 3 := by
  have h : (x &&& 3).toInt = x.toInt % 2 ^ 2 := Jvm.Kit.i32_mask x 3 (k := 2) (by decide) (by decide)
  have h0 : (0 : Int32).toInt = 0 := by decide
  have h1 : (1 : Int32).toInt = 1 := by decide
  have h2 : (2 : Int32).toInt = 2 := by decide
  have h3 : (3 : Int32).toInt = 3 := by decide
  simp only [← Int32.toInt_inj, h, h0, h1, h2, h3]; omega
theorem own_in (x : Int32) : ¬ ((x &&& (3 : Int32)) < 0) ∧ (x &&& (3 : Int32)).toNatClampNeg < 4 := by
  rcases own_and3 x with h | h | h | h <;> rw [h] <;> decide
theorem own_and2 (n k : Nat) : n &&& 2 ^ k = if n.testBit k = true then 2 ^ k else 0 := by
  apply Nat.eq_of_testBit_eq
  intro i
  rw [Nat.testBit_and, Nat.testBit_two_pow]
  by_cases h : k = i
  · subst h; cases hb : n.testBit k <;> simp [Nat.testBit_two_pow_self]
  · cases hb : n.testBit k <;> simp [h, Nat.testBit_two_pow_of_ne h]
theorem own_one (b m : Int32) (k : Nat) (hm : m.toBitVec.toNat = 2 ^ k) : b &&& m = 0 ∨ b &&& m = m := by
  have e1 : (b &&& m).toBitVec.toNat = if b.toBitVec.toNat.testBit k = true then 2 ^ k else 0 := by rw [Int32.toBitVec_and, BitVec.toNat_and, hm, own_and2]
  cases hb : b.toBitVec.toNat.testBit k
  · left; rw [← Int32.toBitVec_inj, ← BitVec.toNat_inj, e1, hb]; simp
  · right; rw [← Int32.toBitVec_inj, ← BitVec.toNat_inj, e1, hb, hm]; simp
theorem own_st {f : Nat → Int32} {x kk j m v w : Int32} {k : Nat} (h1 : x / (8 : Int32) = kk) (h2 : x % (8 : Int32) = j) (hj : ((128 : Int32).toUInt32 >>> (j &&& 31).toUInt32).toInt32 = m) (hm : m.toBitVec.toNat = 2 ^ k)
    (q : w = (if (bitF f x) = (0 : Int32) then v else (v ||| m))) : w = (v ||| (f kk.toNatClampNeg &&& m)) := by
  rw [q, bitF, h1, h2, hj]
  rcases own_one (f kk.toNatClampNeg) m k hm with h | h
  · rw [h]; simp
  · rw [h]
    have hm0 : m ≠ 0 := by
      intro e; rw [e] at hm
      have : (0 : Int32).toBitVec.toNat = 0 := by decide
      have h2 := Nat.two_pow_pos k
      omega
    simp [hm0]
theorem own_or8 (b : Int32) : ((((((((((0 : Int32) ||| (b &&& (128 : Int32))) ||| (b &&& (64 : Int32))) ||| (b &&& (32 : Int32))) ||| (b &&& (16 : Int32))) ||| (b &&& (8 : Int32))) ||| (b &&& (4 : Int32))) ||| (b &&& (2 : Int32))) ||| (b &&& (1 : Int32)))) = (b &&& (255 : Int32)) := by
  apply Int32.toBitVec_inj.mp
  simp only [Int32.toBitVec_or, Int32.toBitVec_and, ← BitVec.and_or_distrib_left]
  rw [show (0 : Int32).toBitVec ||| b.toBitVec &&& (128 : Int32).toBitVec = b.toBitVec &&& (128 : Int32).toBitVec from by simp]
  simp only [← BitVec.and_or_distrib_left]
  rfl
theorem d4_0 : decode prog_6_method_2_code 0 = .ok (.aload_n 0, 1) := by decide +kernel
theorem d4_1 : decode prog_6_method_2_code 1 = .ok (.getfield 7, 3) := by decide +kernel
theorem d4_4 : decode prog_6_method_2_code 4 = .ok (.iload_n 1, 1) := by decide +kernel
theorem d4_5 : decode prog_6_method_2_code 5 = .ok (.bipush 8, 2) := by decide +kernel
theorem d4_7 : decode prog_6_method_2_code 7 = .ok (.idiv, 1) := by decide +kernel
theorem d4_8 : decode prog_6_method_2_code 8 = .ok (.baload, 1) := by decide +kernel
theorem d4_9 : decode prog_6_method_2_code 9 = .ok (.sipush 128, 3) := by decide +kernel
theorem d4_12 : decode prog_6_method_2_code 12 = .ok (.iload_n 1, 1) := by decide +kernel
theorem d4_13 : decode prog_6_method_2_code 13 = .ok (.bipush 8, 2) := by decide +kernel
theorem d4_15 : decode prog_6_method_2_code 15 = .ok (.irem, 1) := by decide +kernel
theorem d4_16 : decode prog_6_method_2_code 16 = .ok (.iushr, 1) := by decide +kernel
theorem d4_17 : decode prog_6_method_2_code 17 = .ok (.iand, 1) := by decide +kernel
theorem d4_18 : decode prog_6_method_2_code 18 = .ok (.ifCond .eq 7, 3) := by decide +kernel
theorem d4_21 : decode prog_6_method_2_code 21 = .ok (.iconst 1, 1) := by decide +kernel
theorem d4_22 : decode prog_6_method_2_code 22 = .ok (.goto 4, 3) := by decide +kernel
theorem d4_25 : decode prog_6_method_2_code 25 = .ok (.iconst 0, 1) := by decide +kernel
theorem d4_26 : decode prog_6_method_2_code 26 = .ok (.ireturn, 1) := by decide +kernel
theorem ef_4 (m : MethodId) (x0 : Addr) (x1 : Int32) : entryFrame m #[(.ref x0), (.int x1)] 2 = mkF m 0 #[.val (.ref x0), .val (.int x1)] [] := by first | (simp [entryFrame, mkF, argsToLocals, Value.category]; done) | rfl
def Q4 (Z : State) (a : Addr) (x : Int32) (b : Addr) (f : Nat → Int32) (h0 : Heap) (n0 : Nat) (v : Option Value) (h : Heap) (L : List Loc) : Prop := v = some (.int (bitF f x)) ∧ Fr n0 L ∧ h = h0
set_option maxRecDepth 65536 in
set_option maxHeartbeats 40000000 in
theorem rm4 (l : Launch) (Z : State) (a0 : Array Value) (hw : ∀ d ∈ tables_1, d.before a0 Z = true) (ws : List Jvm.Cond) (a : Addr) (x : Int32) (b : Addr) (f : Nat → Int32) (h0 : Heap) (n0 : Nat) (Z0 : n0 ≤ h0.size) (Fo : Fld Z h0 a "com/example/attestry/attestry/DerReader$BitString" "octets" "[B" (.ref b)) (Ab : Af Z h0 b .byte 4 f) (hin : ¬ ((x / (8 : Int32)) < 0) ∧ ((x / (8 : Int32))).toNatClampNeg < 4) :
    MetFree l (⟨"com/example/attestry/attestry/DerReader$BitString", "bit", "(I)Z"⟩ : MethodName) (head1 (Jvm.Cond.code (⟨"com/example/attestry/attestry/DerReader$BitString", "bit", "(I)Z"⟩ : MethodName) prog_6_method_2_code 2 (some .boolean) :: ws) ({ frames := 0, cells := 0, slots := 0, locals := 0 } : Room)) (fun aa_ U => aa_ = #[(.ref a), (.int x)] ∧ Z.Warmed39 U.vm ∧ U.heap = h0) (fun _ _ _ _ _ => True) (fun _ U o U' => ∃ vv_ LL_, o = .returned vv_ ∧ Q4 Z a x b f h0 n0 vv_ U'.heap LL_ ∧ FrameEnd U o U' LL_ ({ frames := 0, cells := 0, slots := 0, locals := 0 } : Room).cells ({ frames := 0, cells := 0, slots := 0, locals := 0 } : Room).slots) := by
  refine MetFree.of_bodySF (plainFor_of_name pn_1) hisR ?_
  intro p e s m args below meth c s₁ Bd hml0 hP hK
  obtain ⟨rfl, hZ, hh⟩ := hP
  have hx := Bd.exec
  have hby := Bd.bytes
  have hml : c.maxLocals = 2 := hml0
  have hown : s.vm.findClass "com/example/attestry/attestry/DerReader$BitString" = some m.cls := findClass_of_methodNamed Bd.named
  have hnm := (name_of_methodNamed Bd.named Bd.method).1
  have X0 : Stand p l e ({ frames := 0, cells := 0, slots := 0, locals := 0 } : Room) s m #[(.ref a), (.int x)] below meth c s₁ [] 0 0 := Stand.of_body Bd
  have e0 : s₁.heap = h0 := by rw [← hh, Bd.state]; rfl
  have N0 := Fr.nil n0
  have K0 : Keep h0 h0 [] := Keep.refl h0 _
  refine Go.enter (P := fun o U' => ∃ vv_ LL_, o = .returned vv_ ∧ Q4 Z a x b f h0 n0 vv_ U'.heap LL_ ∧ FrameEnd s o U' LL_ ({ frames := 0, cells := 0, slots := 0, locals := 0 } : Room).cells ({ frames := 0, cells := 0, slots := 0, locals := 0 } : Room).slots) (ef_4 m a x) ?_
  show Go p e below s₁ (mkF m 0 #[.val (.ref a), .val (.int x)] []) _
  refine Go.of (fun tg_ kk_ => XS.aloadN X0.here hx rfl (hb hby d4_0) rfl rfl kk_) ?_
  show Go p e below s₁ (mkF m 1 #[.val (.ref a), .val (.int x)] [(.ref a)]) _
  obtain ⟨T1, X1, e1, st1⟩ := getF X0 hx hZ hown (host := "") (Or.inl (hw _ (List.mem_of_getElem? (i := 15) rfl))) Via.refl e0 Fo (g := (mkF m 1 #[.val (.ref a), .val (.int x)] [(.ref a)])) rfl rfl (hb hby d4_1)
  refine Go.of (st1) ?_
  show Go p e below T1 (mkF m 4 #[.val (.ref a), .val (.int x)] [(.ref b)]) _
  refine Go.of (fun tg_ kk_ => XS.iloadN X1.here hx rfl (hb hby d4_4) rfl kk_) ?_
  show Go p e below T1 (mkF m 5 #[.val (.ref a), .val (.int x)] [(.int x), (.ref b)]) _
  refine Go.of (fun tg_ kk_ => XS.bipush X1.here hx rfl (hb hby d4_5) kk_) ?_
  show Go p e below T1 (mkF m 7 #[.val (.ref a), .val (.int x)] [(.int (8 : Int32)), (.int x), (.ref b)]) _
  refine Go.of (fun tg_ kk_ => XS.idiv X1.here hx rfl (hb hby d4_7) rfl (by decide) kk_) ?_
  show Go p e below T1 (mkF m 8 #[.val (.ref a), .val (.int x)] [(.int (x / (8 : Int32))), (.ref b)]) _
  have ib2 := (show ¬ ((x / (8 : Int32)) < 0) ∧ ((x / (8 : Int32))).toNatClampNeg < 4 from hin)
  obtain ⟨cl2, Ar2, S2, H2⟩ := Ab
  refine Go.of (X1.baloadBytes hx (j := (x / (8 : Int32))) (v := (.int (f ((x / (8 : Int32))).toNatClampNeg))) (by rw [e1]; exact Ar2.1) (State.isArrayOf_alike hZ.alike Ar2.2.1) Ar2.2.2 (Af.inb S2 ib2) (Af.at H2 rfl ib2) (g := (mkF m 8 #[.val (.ref a), .val (.int x)] [(.int (x / (8 : Int32))), (.ref b)])) rfl rfl (hb hby d4_8)) ?_
  show Go p e below T1 (mkF m 9 #[.val (.ref a), .val (.int x)] [(.int (f ((x / (8 : Int32))).toNatClampNeg))]) _
  refine Go.of (fun tg_ kk_ => XS.sipush X1.here hx rfl (hb hby d4_9) kk_) ?_
  show Go p e below T1 (mkF m 12 #[.val (.ref a), .val (.int x)] [(.int (128 : Int32)), (.int (f ((x / (8 : Int32))).toNatClampNeg))]) _
  refine Go.of (fun tg_ kk_ => XS.iloadN X1.here hx rfl (hb hby d4_12) rfl kk_) ?_
  show Go p e below T1 (mkF m 13 #[.val (.ref a), .val (.int x)] [(.int x), (.int (128 : Int32)), (.int (f ((x / (8 : Int32))).toNatClampNeg))]) _
  refine Go.of (fun tg_ kk_ => XS.bipush X1.here hx rfl (hb hby d4_13) kk_) ?_
  show Go p e below T1 (mkF m 15 #[.val (.ref a), .val (.int x)] [(.int (8 : Int32)), (.int x), (.int (128 : Int32)), (.int (f ((x / (8 : Int32))).toNatClampNeg))]) _
  refine Go.of (fun tg_ kk_ => Jvm.RoadKit.iremM (g := (mkF m 15 #[.val (.ref a), .val (.int x)] [(.int (8 : Int32)), (.int x), (.int (128 : Int32)), (.int (f ((x / (8 : Int32))).toNatClampNeg))])) X1 hx rfl (hb hby d4_15) rfl (by decide) kk_) ?_
  show Go p e below T1 (mkF m 16 #[.val (.ref a), .val (.int x)] [(.int (x % (8 : Int32))), (.int (128 : Int32)), (.int (f ((x / (8 : Int32))).toNatClampNeg))]) _
  refine Go.of (fun tg_ kk_ => XS.iushr X1.here hx rfl (hb hby d4_16) rfl kk_) ?_
  show Go p e below T1 (mkF m 17 #[.val (.ref a), .val (.int x)] [(.int (((128 : Int32).toUInt32 >>> ((x % (8 : Int32)) &&& 31).toUInt32).toInt32)), (.int (f ((x / (8 : Int32))).toNatClampNeg))]) _
  refine Go.of (fun tg_ kk_ => XS.iand X1.here hx rfl (hb hby d4_17) rfl kk_) ?_
  show Go p e below T1 (mkF m 18 #[.val (.ref a), .val (.int x)] [(.int ((f ((x / (8 : Int32))).toNatClampNeg) &&& (((128 : Int32).toUInt32 >>> ((x % (8 : Int32)) &&& 31).toUInt32).toInt32)))]) _
  by_cases hc3 : ((f ((x / (8 : Int32))).toNatClampNeg) &&& (((128 : Int32).toUInt32 >>> ((x % (8 : Int32)) &&& 31).toUInt32).toInt32)) = (0 : Int32)
  · skip
    refine Go.of (fun tg_ kk_ => XS.ifYes X1.here hx rfl (pc0 := 18) (pc' := 25) rfl (hb hby d4_18) rfl ((if0 _ _).trans (teq hc3).1) (by decide) (by decide) kk_) ?_
    show Go p e below T1 (mkF m 25 #[.val (.ref a), .val (.int x)] []) _
    refine Go.of (fun tg_ kk_ => XS.iconst X1.here hx rfl (hb hby d4_25) kk_) ?_
    show Go p e below T1 (mkF m 26 #[.val (.ref a), .val (.int x)] [(.int (0 : Int32))]) _
    obtain ⟨fs, hr, hrun, hended, hW, hsame⟩ := X1.leave (v := some (.int (0 : Int32))) (fun h => by rw [Bd.returns] at h; cases h)
    refine ⟨_, _, ?_, hrun, hended, _, _, rfl, ?_, ⟨_, rfl⟩, hW, hsame.mono (by decide) (by decide)⟩
    · exact retN X1 hx (t := .boolean) Bd.returns (by simp) (hb hby d4_26) hr
    · show Q4 Z a x b f h0 n0 _ T1.heap _
      rw [e1]
      exact ⟨by rw [bitF, if_pos hc3], N0, rfl⟩
  · skip
    refine Go.of (fun tg_ kk_ => XS.ifNo X1.here hx rfl (hb hby d4_18) rfl ((if0 _ _).trans (feq hc3).1) kk_) ?_
    show Go p e below T1 (mkF m 21 #[.val (.ref a), .val (.int x)] []) _
    refine Go.of (fun tg_ kk_ => XS.iconst X1.here hx rfl (hb hby d4_21) kk_) ?_
    show Go p e below T1 (mkF m 22 #[.val (.ref a), .val (.int x)] [(.int (1 : Int32))]) _
    refine Go.of (fun tg_ kk_ => XS.goto X1.here hx rfl (pc0 := 22) (pc' := 26) rfl (hb hby d4_22) (by decide) (by decide) kk_) ?_
    show Go p e below T1 (mkF m 26 #[.val (.ref a), .val (.int x)] [(.int (1 : Int32))]) _
    obtain ⟨fs, hr, hrun, hended, hW, hsame⟩ := X1.leave (v := some (.int (1 : Int32))) (fun h => by rw [Bd.returns] at h; cases h)
    refine ⟨_, _, ?_, hrun, hended, _, _, rfl, ?_, ⟨_, rfl⟩, hW, hsame.mono (by decide) (by decide)⟩
    · exact retN X1 hx (t := .boolean) Bd.returns (by simp) (hb hby d4_26) hr
    · show Q4 Z a x b f h0 n0 _ T1.heap _
      rw [e1]
      exact ⟨by rw [bitF, if_neg hc3], N0, rfl⟩
theorem ef_0 (m : MethodId) (x0 : Int32) (x1 : Int32) (x2 : Int32) (x3 : Int32) (x4 : Int32) : entryFrame m #[(.int x0), (.int x1), (.int x2), (.int x3), (.int x4)] maxLocals = mkF m 0 #[.val (.int x0), .val (.int x1), .val (.int x2), .val (.int x3), .val (.int x4), .unset, .unset, .unset, .unset, .unset, .unset] [] := by first | (simp [entryFrame, mkF, argsToLocals, Value.category, maxLocals]; done) | rfl
def Q0 (Z : State) (p0 : Int32) (p1 : Int32) (p2 : Int32) (p3 : Int32) (p4 : Int32) (h0 : Heap) (n0 : Nat) (v : Option Value) (h : Heap) (L : List Loc) : Prop := v = some (.int 1) ∧ Fr n0 L
set_option maxRecDepth 65536 in
set_option maxHeartbeats 40000000 in
theorem rm0 (l : Launch) (Z : State) (a0 : Array Value) (hw : ∀ d ∈ tables_1, d.before a0 Z = true) (ws : List Jvm.Cond) (p0 : Int32) (p1 : Int32) (p2 : Int32) (p3 : Int32) (p4 : Int32) (h0 : Heap) (n0 : Nat) (Z0 : n0 ≤ h0.size) :
    MetFree l x (head1 (Jvm.Cond.code x code maxLocals ret :: ws) room_1) (fun aa_ U => aa_ = #[(.int p0), (.int p1), (.int p2), (.int p3), (.int p4)] ∧ Z.Warmed39 U.vm ∧ U.heap = h0) (fun _ _ _ _ _ => True) (fun _ U o U' => ∃ vv_ LL_, o = .returned vv_ ∧ Q0 Z p0 p1 p2 p3 p4 h0 n0 vv_ U'.heap LL_ ∧ FrameEnd U o U' LL_ 16 128) := by
  refine MetFree.of_bodySF (plainFor_of_name pn_2) hisR ?_
  intro p e s m args below meth c s₁ Bd hml0 hP hK
  obtain ⟨rfl, hZ, hh⟩ := hP
  have hx := Bd.exec
  have hby := Bd.bytes
  have hml : c.maxLocals = 11 := hml0
  have hown : s.vm.findClass "com/example/attestry/attestry/BitStringBitPinLaw" = some m.cls := findClass_of_methodNamed Bd.named
  have hnm := (name_of_methodNamed Bd.named Bd.method).1
  have X0 : Stand p l e room_1 s m #[(.int p0), (.int p1), (.int p2), (.int p3), (.int p4)] below meth c s₁ [] 0 0 := Stand.of_body Bd
  have e0 : s₁.heap = h0 := by rw [← hh, Bd.state]; rfl
  have N0 := Fr.nil n0
  have K0 : Keep h0 h0 [] := Keep.refl h0 _
  refine Go.enter (P := fun o U' => ∃ vv_ LL_, o = .returned vv_ ∧ Q0 Z p0 p1 p2 p3 p4 h0 n0 vv_ U'.heap LL_ ∧ FrameEnd s o U' LL_ 16 128) (ef_0 m p0 p1 p2 p3 p4) ?_
  show Go p e below s₁ (mkF m 0 #[.val (.int p0), .val (.int p1), .val (.int p2), .val (.int p3), .val (.int p4), .unset, .unset, .unset, .unset, .unset, .unset] []) _
  refine Go.of (fun tg_ kk_ => XS.iconst X0.here hx rfl (hb hby at_0) kk_) ?_
  show Go p e below s₁ (mkF m 1 #[.val (.int p0), .val (.int p1), .val (.int p2), .val (.int p3), .val (.int p4), .unset, .unset, .unset, .unset, .unset, .unset] [(.int (4 : Int32))]) _
  obtain ⟨T1, h1, k1, X1, e1, E1, A1, st1⟩ := newP X0 hx hZ (hw _ (List.mem_of_getElem? (i := 0) rfl)) e0 (g := (mkF m 1 #[.val (.int p0), .val (.int p1), .val (.int p2), .val (.int p3), .val (.int p4), .unset, .unset, .unset, .unset, .unset, .unset] [(.int (4 : Int32))])) rfl (hb hby at_1) rfl (by decide) (cap := 4) (by decide) (by decide) (by decide) (by decide)
  obtain ⟨b1, g1⟩ : ∃ z, z = h0.size := ⟨_, rfl⟩
  rw [← g1] at A1 st1
  have gx1 : n0 ≤ b1 := Nat.le_trans Z0 (Nat.le_of_eq g1.symm)
  have sz1 : h0.size ≤ b1 := Nat.le_trans K0.1 (Nat.le_of_eq g1.symm)
  have K2 := K0.ext E1
  have Zs3 : n0 ≤ h1.size := Nat.le_trans Z0 E1.1
  have V1 : Af Z h1 b1 .byte 4 (fun _ => 0) := Af.new rfl A1 (by decide)
  refine Go.of (st1) ?_
  show Go p e below T1 (mkF m 3 #[.val (.int p0), .val (.int p1), .val (.int p2), .val (.int p3), .val (.int p4), .unset, .unset, .unset, .unset, .unset, .unset] [(.ref b1)]) _
  refine Go.of (fun tg_ kk_ => XS.dup X1.here hx rfl (hb hby at_3) rfl rfl kk_) ?_
  show Go p e below T1 (mkF m 4 #[.val (.int p0), .val (.int p1), .val (.int p2), .val (.int p3), .val (.int p4), .unset, .unset, .unset, .unset, .unset, .unset] [(.ref b1), (.ref b1)]) _
  refine Go.of (fun tg_ kk_ => XS.iconst X1.here hx rfl (hb hby at_4) kk_) ?_
  show Go p e below T1 (mkF m 5 #[.val (.int p0), .val (.int p1), .val (.int p2), .val (.int p3), .val (.int p4), .unset, .unset, .unset, .unset, .unset, .unset] [(.int (0 : Int32)), (.ref b1), (.ref b1)]) _
  refine Go.of (fun tg_ kk_ => XS.iloadN X1.here hx rfl (hb hby at_5) rfl kk_) ?_
  show Go p e below T1 (mkF m 6 #[.val (.int p0), .val (.int p1), .val (.int p2), .val (.int p3), .val (.int p4), .unset, .unset, .unset, .unset, .unset, .unset] [(.int p0), (.int (0 : Int32)), (.ref b1), (.ref b1)]) _
  refine Go.of (fun tg_ kk_ => XS.i2b X1.here hx rfl (hb hby at_6) rfl kk_) ?_
  show Go p e below T1 (mkF m 7 #[.val (.int p0), .val (.int p1), .val (.int p2), .val (.int p3), .val (.int p4), .unset, .unset, .unset, .unset, .unset, .unset] [(.int (p0.toInt8.toInt32)), (.int (0 : Int32)), (.ref b1), (.ref b1)]) _
  have ib4 := (show ¬ ((0 : Int32) < 0) ∧ ((0 : Int32)).toNatClampNeg < 4 from ⟨by decide, by decide⟩)
  obtain ⟨cl4, Ar4, S4, H4⟩ := V1
  obtain ⟨T4, h4, X4, e4, W4, st4⟩ := stB X1 hx hZ e1 Ar4 (j := (0 : Int32)) (Af.inb S4 ib4) (g := (mkF m 7 #[.val (.int p0), .val (.int p1), .val (.int p2), .val (.int p3), .val (.int p4), .unset, .unset, .unset, .unset, .unset, .unset] [(.int (p0.toInt8.toInt32)), (.int (0 : Int32)), (.ref b1), (.ref b1)])) rfl rfl (hb hby at_7)
  obtain ⟨f4, qf4⟩ : ∃ q : Nat → Int32, q = upd (fun _ => 0) 0 (nar .byte (p0.toInt8.toInt32)) := ⟨_, rfl⟩
  have V4 : Af Z h4 b1 .byte 4 f4 := by rw [qf4]; exact Af.set Ar4 S4 H4 W4 (by decide)
  have K6 := K2.wr W4 (Or.inr sz1)
  have Zs7 : n0 ≤ h4.size := Nat.le_trans Zs3 (Keep.of_wr W4).1
  have N4 := Fr.snoc X4 N0 gx1
  refine Go.of (st4) ?_
  show Go p e below T4 (mkF m 8 #[.val (.int p0), .val (.int p1), .val (.int p2), .val (.int p3), .val (.int p4), .unset, .unset, .unset, .unset, .unset, .unset] [(.ref b1)]) _
  refine Go.of (fun tg_ kk_ => XS.dup X4.here hx rfl (hb hby at_8) rfl rfl kk_) ?_
  show Go p e below T4 (mkF m 9 #[.val (.int p0), .val (.int p1), .val (.int p2), .val (.int p3), .val (.int p4), .unset, .unset, .unset, .unset, .unset, .unset] [(.ref b1), (.ref b1)]) _
  refine Go.of (fun tg_ kk_ => XS.iconst X4.here hx rfl (hb hby at_9) kk_) ?_
  show Go p e below T4 (mkF m 10 #[.val (.int p0), .val (.int p1), .val (.int p2), .val (.int p3), .val (.int p4), .unset, .unset, .unset, .unset, .unset, .unset] [(.int (1 : Int32)), (.ref b1), (.ref b1)]) _
  refine Go.of (fun tg_ kk_ => XS.iloadN X4.here hx rfl (hb hby at_10) rfl kk_) ?_
  show Go p e below T4 (mkF m 11 #[.val (.int p0), .val (.int p1), .val (.int p2), .val (.int p3), .val (.int p4), .unset, .unset, .unset, .unset, .unset, .unset] [(.int p1), (.int (1 : Int32)), (.ref b1), (.ref b1)]) _
  refine Go.of (fun tg_ kk_ => XS.i2b X4.here hx rfl (hb hby at_11) rfl kk_) ?_
  show Go p e below T4 (mkF m 12 #[.val (.int p0), .val (.int p1), .val (.int p2), .val (.int p3), .val (.int p4), .unset, .unset, .unset, .unset, .unset, .unset] [(.int (p1.toInt8.toInt32)), (.int (1 : Int32)), (.ref b1), (.ref b1)]) _
  have ib8 := (show ¬ ((1 : Int32) < 0) ∧ ((1 : Int32)).toNatClampNeg < 4 from ⟨by decide, by decide⟩)
  obtain ⟨cl8, Ar8, S8, H8⟩ := V4
  obtain ⟨T8, h8, X8, e8, W8, st8⟩ := stB X4 hx hZ e4 Ar8 (j := (1 : Int32)) (Af.inb S8 ib8) (g := (mkF m 12 #[.val (.int p0), .val (.int p1), .val (.int p2), .val (.int p3), .val (.int p4), .unset, .unset, .unset, .unset, .unset, .unset] [(.int (p1.toInt8.toInt32)), (.int (1 : Int32)), (.ref b1), (.ref b1)])) rfl rfl (hb hby at_12)
  obtain ⟨f8, qf8⟩ : ∃ q : Nat → Int32, q = upd f4 1 (nar .byte (p1.toInt8.toInt32)) := ⟨_, rfl⟩
  have V8 : Af Z h8 b1 .byte 4 f8 := by rw [qf8]; exact Af.set Ar8 S8 H8 W8 (by decide)
  have K10 := K6.wr W8 (Or.inr sz1)
  have Zs11 : n0 ≤ h8.size := Nat.le_trans Zs7 (Keep.of_wr W8).1
  have N8 := Fr.snoc X8 N4 gx1
  refine Go.of (st8) ?_
  show Go p e below T8 (mkF m 13 #[.val (.int p0), .val (.int p1), .val (.int p2), .val (.int p3), .val (.int p4), .unset, .unset, .unset, .unset, .unset, .unset] [(.ref b1)]) _
  refine Go.of (fun tg_ kk_ => XS.dup X8.here hx rfl (hb hby at_13) rfl rfl kk_) ?_
  show Go p e below T8 (mkF m 14 #[.val (.int p0), .val (.int p1), .val (.int p2), .val (.int p3), .val (.int p4), .unset, .unset, .unset, .unset, .unset, .unset] [(.ref b1), (.ref b1)]) _
  refine Go.of (fun tg_ kk_ => XS.iconst X8.here hx rfl (hb hby at_14) kk_) ?_
  show Go p e below T8 (mkF m 15 #[.val (.int p0), .val (.int p1), .val (.int p2), .val (.int p3), .val (.int p4), .unset, .unset, .unset, .unset, .unset, .unset] [(.int (2 : Int32)), (.ref b1), (.ref b1)]) _
  refine Go.of (fun tg_ kk_ => XS.iloadN X8.here hx rfl (hb hby at_15) rfl kk_) ?_
  show Go p e below T8 (mkF m 16 #[.val (.int p0), .val (.int p1), .val (.int p2), .val (.int p3), .val (.int p4), .unset, .unset, .unset, .unset, .unset, .unset] [(.int p2), (.int (2 : Int32)), (.ref b1), (.ref b1)]) _
  refine Go.of (fun tg_ kk_ => XS.i2b X8.here hx rfl (hb hby at_16) rfl kk_) ?_
  show Go p e below T8 (mkF m 17 #[.val (.int p0), .val (.int p1), .val (.int p2), .val (.int p3), .val (.int p4), .unset, .unset, .unset, .unset, .unset, .unset] [(.int (p2.toInt8.toInt32)), (.int (2 : Int32)), (.ref b1), (.ref b1)]) _
  have ib12 := (show ¬ ((2 : Int32) < 0) ∧ ((2 : Int32)).toNatClampNeg < 4 from ⟨by decide, by decide⟩)
  obtain ⟨cl12, Ar12, S12, H12⟩ := V8
  obtain ⟨T12, h12, X12, e12, W12, st12⟩ := stB X8 hx hZ e8 Ar12 (j := (2 : Int32)) (Af.inb S12 ib12) (g := (mkF m 17 #[.val (.int p0), .val (.int p1), .val (.int p2), .val (.int p3), .val (.int p4), .unset, .unset, .unset, .unset, .unset, .unset] [(.int (p2.toInt8.toInt32)), (.int (2 : Int32)), (.ref b1), (.ref b1)])) rfl rfl (hb hby at_17)
  obtain ⟨f12, qf12⟩ : ∃ q : Nat → Int32, q = upd f8 2 (nar .byte (p2.toInt8.toInt32)) := ⟨_, rfl⟩
  have V12 : Af Z h12 b1 .byte 4 f12 := by rw [qf12]; exact Af.set Ar12 S12 H12 W12 (by decide)
  have K14 := K10.wr W12 (Or.inr sz1)
  have Zs15 : n0 ≤ h12.size := Nat.le_trans Zs11 (Keep.of_wr W12).1
  have N12 := Fr.snoc X12 N8 gx1
  refine Go.of (st12) ?_
  show Go p e below T12 (mkF m 18 #[.val (.int p0), .val (.int p1), .val (.int p2), .val (.int p3), .val (.int p4), .unset, .unset, .unset, .unset, .unset, .unset] [(.ref b1)]) _
  refine Go.of (fun tg_ kk_ => XS.dup X12.here hx rfl (hb hby at_18) rfl rfl kk_) ?_
  show Go p e below T12 (mkF m 19 #[.val (.int p0), .val (.int p1), .val (.int p2), .val (.int p3), .val (.int p4), .unset, .unset, .unset, .unset, .unset, .unset] [(.ref b1), (.ref b1)]) _
  refine Go.of (fun tg_ kk_ => XS.iconst X12.here hx rfl (hb hby at_19) kk_) ?_
  show Go p e below T12 (mkF m 20 #[.val (.int p0), .val (.int p1), .val (.int p2), .val (.int p3), .val (.int p4), .unset, .unset, .unset, .unset, .unset, .unset] [(.int (3 : Int32)), (.ref b1), (.ref b1)]) _
  refine Go.of (fun tg_ kk_ => XS.iloadN X12.here hx rfl (hb hby at_20) rfl kk_) ?_
  show Go p e below T12 (mkF m 21 #[.val (.int p0), .val (.int p1), .val (.int p2), .val (.int p3), .val (.int p4), .unset, .unset, .unset, .unset, .unset, .unset] [(.int p3), (.int (3 : Int32)), (.ref b1), (.ref b1)]) _
  refine Go.of (fun tg_ kk_ => XS.i2b X12.here hx rfl (hb hby at_21) rfl kk_) ?_
  show Go p e below T12 (mkF m 22 #[.val (.int p0), .val (.int p1), .val (.int p2), .val (.int p3), .val (.int p4), .unset, .unset, .unset, .unset, .unset, .unset] [(.int (p3.toInt8.toInt32)), (.int (3 : Int32)), (.ref b1), (.ref b1)]) _
  have ib16 := (show ¬ ((3 : Int32) < 0) ∧ ((3 : Int32)).toNatClampNeg < 4 from ⟨by decide, by decide⟩)
  obtain ⟨cl16, Ar16, S16, H16⟩ := V12
  obtain ⟨T16, h16, X16, e16, W16, st16⟩ := stB X12 hx hZ e12 Ar16 (j := (3 : Int32)) (Af.inb S16 ib16) (g := (mkF m 22 #[.val (.int p0), .val (.int p1), .val (.int p2), .val (.int p3), .val (.int p4), .unset, .unset, .unset, .unset, .unset, .unset] [(.int (p3.toInt8.toInt32)), (.int (3 : Int32)), (.ref b1), (.ref b1)])) rfl rfl (hb hby at_22)
  obtain ⟨f16, qf16⟩ : ∃ q : Nat → Int32, q = upd f12 3 (nar .byte (p3.toInt8.toInt32)) := ⟨_, rfl⟩
  have V16 : Af Z h16 b1 .byte 4 f16 := by rw [qf16]; exact Af.set Ar16 S16 H16 W16 (by decide)
  have K18 := K14.wr W16 (Or.inr sz1)
  have Zs19 : n0 ≤ h16.size := Nat.le_trans Zs15 (Keep.of_wr W16).1
  have N16 := Fr.snoc X16 N12 gx1
  refine Go.of (st16) ?_
  show Go p e below T16 (mkF m 23 #[.val (.int p0), .val (.int p1), .val (.int p2), .val (.int p3), .val (.int p4), .unset, .unset, .unset, .unset, .unset, .unset] [(.ref b1)]) _
  refine Go.of (fun tg_ kk_ => XS.astore X16.here hx rfl (hb hby at_23) rfl rfl (l' := #[.val (.int p0), .val (.int p1), .val (.int p2), .val (.int p3), .val (.int p4), .val (.ref b1), .unset, .unset, .unset, .unset, .unset]) rfl kk_) ?_
  show Go p e below T16 (mkF m 25 #[.val (.int p0), .val (.int p1), .val (.int p2), .val (.int p3), .val (.int p4), .val (.ref b1), .unset, .unset, .unset, .unset, .unset] []) _
  obtain ⟨T20, h20, X20, e20, E20, A20, D20, -, st20⟩ := newO X16 hx hZ hown (hw _ (List.mem_of_getElem? (i := 1) rfl)) (hw _ (List.mem_of_getElem? (i := 2) rfl)) (hw _ (List.mem_of_getElem? (i := 3) rfl)) e16 (g := (mkF m 25 #[.val (.int p0), .val (.int p1), .val (.int p2), .val (.int p3), .val (.int p4), .val (.ref b1), .unset, .unset, .unset, .unset, .unset] [])) rfl (hb hby at_25) (by decide) (by decide)
  obtain ⟨b20, g20⟩ : ∃ z, z = h16.size := ⟨_, rfl⟩
  rw [← g20] at A20 D20 st20
  have gx20 : n0 ≤ b20 := Nat.le_trans Zs19 (Nat.le_of_eq g20.symm)
  have sz20 : h0.size ≤ b20 := Nat.le_trans K18.1 (Nat.le_of_eq g20.symm)
  have ne21 : b1 ≠ b20 := Nat.ne_of_lt (Nat.lt_of_lt_of_le V16.lt (Nat.le_of_eq g20.symm))
  have F22 := V16.ext E20
  have K23 := K18.ext E20
  have Zs24 : n0 ≤ h20.size := Nat.le_trans Zs19 E20.1
  have F25 : Fld Z h20 b20 "com/example/attestry/attestry/DerReader$BitString" "octets" "[B" .null := D20 (Or.inr (hw _ (List.mem_of_getElem? (i := 16) rfl))) (ty := (.array .byte)) (by decide)
  have F26 : Fld Z h20 b20 "com/example/attestry/attestry/DerReader$BitString" "length" "I" (.int (0 : Int32)) := D20 (Or.inr (hw _ (List.mem_of_getElem? (i := 18) rfl))) (ty := .int) (by decide)
  refine Go.of (st20) ?_
  show Go p e below T20 (mkF m 28 #[.val (.int p0), .val (.int p1), .val (.int p2), .val (.int p3), .val (.int p4), .val (.ref b1), .unset, .unset, .unset, .unset, .unset] [(.ref b20)]) _
  refine Go.of (fun tg_ kk_ => XS.dup X20.here hx rfl (hb hby at_28) rfl rfl kk_) ?_
  show Go p e below T20 (mkF m 29 #[.val (.int p0), .val (.int p1), .val (.int p2), .val (.int p3), .val (.int p4), .val (.ref b1), .unset, .unset, .unset, .unset, .unset] [(.ref b20), (.ref b20)]) _
  refine Go.of (fun tg_ kk_ => XS.aload X20.here hx rfl (hb hby at_29) rfl rfl kk_) ?_
  show Go p e below T20 (mkF m 31 #[.val (.int p0), .val (.int p1), .val (.int p2), .val (.int p3), .val (.int p4), .val (.ref b1), .unset, .unset, .unset, .unset, .unset] [(.ref b1), (.ref b20), (.ref b20)]) _
  refine Go.of (fun tg_ kk_ => XS.bipush X20.here hx rfl (hb hby at_31) kk_) ?_
  show Go p e below T20 (mkF m 33 #[.val (.int p0), .val (.int p1), .val (.int p2), .val (.int p3), .val (.int p4), .val (.ref b1), .unset, .unset, .unset, .unset, .unset] [(.int (32 : Int32)), (.ref b1), (.ref b20), (.ref b20)]) _
  obtain ⟨_, _, ⟨T27, L27, k27, n27⟩, -, X27, ⟨Lc27, hQ27, l27, y27, z27⟩, st27⟩ := X20.specialBack hx (y := (⟨"com/example/attestry/attestry/DerReader$BitString", "<init>", "([BI)V"⟩ : MethodName)) rfl hown (mvT hZ (hw _ (List.mem_of_getElem? (i := 4) rfl))) (mvT hZ (hw _ (List.mem_of_getElem? (i := 5) rfl))) (mvT hZ (hw _ (List.mem_of_getElem? (i := 6) rfl))) (by decide) (backOf (W := 1) (rm1 l Z a0 hw [] b20 b1 (32 : Int32) h20 n0 Zs24 gx20 A20 F25 F26) hZ (hw _ (List.mem_of_getElem? (i := 6) rfl)) (hw _ (List.mem_of_getElem? (i := 3) rfl)) (by decide) (by decide)) (g := (mkF m 33 #[.val (.int p0), .val (.int p1), .val (.int p2), .val (.int p3), .val (.int p4), .val (.ref b1), .unset, .unset, .unset, .unset, .unset] [(.int (32 : Int32)), (.ref b1), (.ref b20), (.ref b20)])) rfl (by rw [hml]; rfl) (Steps.refl _) (a := b20) (argsL := [(.ref b1), (.int (32 : Int32))]) (rest := [(.ref b20)]) (lenOf pd_1 rfl) rfl (by show 2 * 0 + _ ≤ _; exact Nat.le_of_eq rfl) (hb hby at_33) (fun _ _ => ⟨rfl, e20, (by decide : 2 + 0 ≤ _), (by decide : 6 + 0 ≤ _)⟩)
  dsimp only [Pt.U, Pt.locs, Pt.cells, Pt.slots] at X27 l27 y27 z27 st27 hQ27
  subst l27 y27 z27
  obtain ⟨rfl, N27q, K27q, F27a⟩ := hQ27
  have N27 := Fr.app N16 N27q
  have F28 := F22.keep K27q (ninS ne21 nin0)
  have F29 := A20.keep K27q
  have K32 := K23.trans K27q (allS (Or.inr sz20) all0)
  have Zs33 : n0 ≤ T27.heap.size := Nat.le_trans Zs24 K27q.1
  refine Go.of (fun tg_ kk_ => st27.trans kk_) ?_
  show Go p e below T27 (mkF m 36 #[.val (.int p0), .val (.int p1), .val (.int p2), .val (.int p3), .val (.int p4), .val (.ref b1), .unset, .unset, .unset, .unset, .unset] [(.ref b20)]) _
  refine Go.of (fun tg_ kk_ => XS.astore X27.here hx rfl (hb hby at_36) rfl rfl (l' := #[.val (.int p0), .val (.int p1), .val (.int p2), .val (.int p3), .val (.int p4), .val (.ref b1), .val (.ref b20), .unset, .unset, .unset, .unset]) rfl kk_) ?_
  show Go p e below T27 (mkF m 38 #[.val (.int p0), .val (.int p1), .val (.int p2), .val (.int p3), .val (.int p4), .val (.ref b1), .val (.ref b20), .unset, .unset, .unset, .unset] []) _
  refine Go.of (fun tg_ kk_ => XS.iload X27.here hx rfl (hb hby at_38) rfl kk_) ?_
  show Go p e below T27 (mkF m 40 #[.val (.int p0), .val (.int p1), .val (.int p2), .val (.int p3), .val (.int p4), .val (.ref b1), .val (.ref b20), .unset, .unset, .unset, .unset] [(.int p4)]) _
  refine Go.of (fun tg_ kk_ => XS.iconst X27.here hx rfl (hb hby at_40) kk_) ?_
  show Go p e below T27 (mkF m 41 #[.val (.int p0), .val (.int p1), .val (.int p2), .val (.int p3), .val (.int p4), .val (.ref b1), .val (.ref b20), .unset, .unset, .unset, .unset] [(.int (3 : Int32)), (.int p4)]) _
  refine Go.of (fun tg_ kk_ => XS.iand X27.here hx rfl (hb hby at_41) rfl kk_) ?_
  show Go p e below T27 (mkF m 42 #[.val (.int p0), .val (.int p1), .val (.int p2), .val (.int p3), .val (.int p4), .val (.ref b1), .val (.ref b20), .unset, .unset, .unset, .unset] [(.int (p4 &&& (3 : Int32)))]) _
  obtain ⟨kk, qkk⟩ : ∃ z : Int32, z = (p4 &&& (3 : Int32)) := ⟨_, rfl⟩
  rw [← qkk]
  show Go p e below T27 (mkF m 42 #[.val (.int p0), .val (.int p1), .val (.int p2), .val (.int p3), .val (.int p4), .val (.ref b1), .val (.ref b20), .unset, .unset, .unset, .unset] [(.int kk)]) _
  refine Go.of (fun tg_ kk_ => XS.istore X27.here hx rfl (hb hby at_42) rfl (l' := #[.val (.int p0), .val (.int p1), .val (.int p2), .val (.int p3), .val (.int p4), .val (.ref b1), .val (.ref b20), .val (.int kk), .unset, .unset, .unset]) rfl kk_) ?_
  show Go p e below T27 (mkF m 44 #[.val (.int p0), .val (.int p1), .val (.int p2), .val (.int p3), .val (.int p4), .val (.ref b1), .val (.ref b20), .val (.int kk), .unset, .unset, .unset] []) _
  refine Go.of (fun tg_ kk_ => XS.bipush X27.here hx rfl (hb hby at_44) kk_) ?_
  show Go p e below T27 (mkF m 46 #[.val (.int p0), .val (.int p1), .val (.int p2), .val (.int p3), .val (.int p4), .val (.ref b1), .val (.ref b20), .val (.int kk), .unset, .unset, .unset] [(.int (8 : Int32))]) _
  refine Go.of (fun tg_ kk_ => XS.iload X27.here hx rfl (hb hby at_46) rfl kk_) ?_
  show Go p e below T27 (mkF m 48 #[.val (.int p0), .val (.int p1), .val (.int p2), .val (.int p3), .val (.int p4), .val (.ref b1), .val (.ref b20), .val (.int kk), .unset, .unset, .unset] [(.int kk), (.int (8 : Int32))]) _
  refine Go.of (fun tg_ kk_ => XS.imul X27.here hx rfl (hb hby at_48) rfl kk_) ?_
  show Go p e below T27 (mkF m 49 #[.val (.int p0), .val (.int p1), .val (.int p2), .val (.int p3), .val (.int p4), .val (.ref b1), .val (.ref b20), .val (.int kk), .unset, .unset, .unset] [(.int ((8 : Int32) * kk))]) _
  obtain ⟨bs, qbs⟩ : ∃ z : Int32, z = ((8 : Int32) * kk) := ⟨_, rfl⟩
  rw [← qbs]
  show Go p e below T27 (mkF m 49 #[.val (.int p0), .val (.int p1), .val (.int p2), .val (.int p3), .val (.int p4), .val (.ref b1), .val (.ref b20), .val (.int kk), .unset, .unset, .unset] [(.int bs)]) _
  have hkk : ¬ (kk < 0) ∧ (kk).toNatClampNeg < 4 := by rw [qkk]; exact own_in p4
  have hq0 : bs / (8 : Int32) = kk ∧ bs % (8 : Int32) = (0 : Int32) := by rw [qbs, qkk]; rcases own_and3 p4 with h | h | h | h <;> rw [h] <;> decide
  have hq1 : (bs + (1 : Int32)) / (8 : Int32) = kk ∧ (bs + (1 : Int32)) % (8 : Int32) = (1 : Int32) := by rw [qbs, qkk]; rcases own_and3 p4 with h | h | h | h <;> rw [h] <;> decide
  have hq2 : (bs + (2 : Int32)) / (8 : Int32) = kk ∧ (bs + (2 : Int32)) % (8 : Int32) = (2 : Int32) := by rw [qbs, qkk]; rcases own_and3 p4 with h | h | h | h <;> rw [h] <;> decide
  have hq3 : (bs + (3 : Int32)) / (8 : Int32) = kk ∧ (bs + (3 : Int32)) % (8 : Int32) = (3 : Int32) := by rw [qbs, qkk]; rcases own_and3 p4 with h | h | h | h <;> rw [h] <;> decide
  have hq4 : (bs + (4 : Int32)) / (8 : Int32) = kk ∧ (bs + (4 : Int32)) % (8 : Int32) = (4 : Int32) := by rw [qbs, qkk]; rcases own_and3 p4 with h | h | h | h <;> rw [h] <;> decide
  have hq5 : (bs + (5 : Int32)) / (8 : Int32) = kk ∧ (bs + (5 : Int32)) % (8 : Int32) = (5 : Int32) := by rw [qbs, qkk]; rcases own_and3 p4 with h | h | h | h <;> rw [h] <;> decide
  have hq6 : (bs + (6 : Int32)) / (8 : Int32) = kk ∧ (bs + (6 : Int32)) % (8 : Int32) = (6 : Int32) := by rw [qbs, qkk]; rcases own_and3 p4 with h | h | h | h <;> rw [h] <;> decide
  have hq7 : (bs + (7 : Int32)) / (8 : Int32) = kk ∧ (bs + (7 : Int32)) % (8 : Int32) = (7 : Int32) := by rw [qbs, qkk]; rcases own_and3 p4 with h | h | h | h <;> rw [h] <;> decide
  refine Go.of (fun tg_ kk_ => XS.istore X27.here hx rfl (hb hby at_49) rfl (l' := #[.val (.int p0), .val (.int p1), .val (.int p2), .val (.int p3), .val (.int p4), .val (.ref b1), .val (.ref b20), .val (.int kk), .val (.int bs), .unset, .unset]) rfl kk_) ?_
  show Go p e below T27 (mkF m 51 #[.val (.int p0), .val (.int p1), .val (.int p2), .val (.int p3), .val (.int p4), .val (.ref b1), .val (.ref b20), .val (.int kk), .val (.int bs), .unset, .unset] []) _
  refine Go.of (fun tg_ kk_ => XS.iconst X27.here hx rfl (hb hby at_51) kk_) ?_
  show Go p e below T27 (mkF m 52 #[.val (.int p0), .val (.int p1), .val (.int p2), .val (.int p3), .val (.int p4), .val (.ref b1), .val (.ref b20), .val (.int kk), .val (.int bs), .unset, .unset] [(.int (0 : Int32))]) _
  refine Go.of (fun tg_ kk_ => XS.istore X27.here hx rfl (hb hby at_52) rfl (l' := #[.val (.int p0), .val (.int p1), .val (.int p2), .val (.int p3), .val (.int p4), .val (.ref b1), .val (.ref b20), .val (.int kk), .val (.int bs), .val (.int (0 : Int32)), .unset]) rfl kk_) ?_
  show Go p e below T27 (mkF m 54 #[.val (.int p0), .val (.int p1), .val (.int p2), .val (.int p3), .val (.int p4), .val (.ref b1), .val (.ref b20), .val (.int kk), .val (.int bs), .val (.int (0 : Int32)), .unset] []) _
  refine Go.of (fun tg_ kk_ => XS.aload X27.here hx rfl (hb hby at_54) rfl rfl kk_) ?_
  show Go p e below T27 (mkF m 56 #[.val (.int p0), .val (.int p1), .val (.int p2), .val (.int p3), .val (.int p4), .val (.ref b1), .val (.ref b20), .val (.int kk), .val (.int bs), .val (.int (0 : Int32)), .unset] [(.ref b20)]) _
  refine Go.of (fun tg_ kk_ => XS.iload X27.here hx rfl (hb hby at_56) rfl kk_) ?_
  show Go p e below T27 (mkF m 58 #[.val (.int p0), .val (.int p1), .val (.int p2), .val (.int p3), .val (.int p4), .val (.ref b1), .val (.ref b20), .val (.int kk), .val (.int bs), .val (.int (0 : Int32)), .unset] [(.int bs), (.ref b20)]) _
  obtain ⟨cq34, kq34, q34a, q34b, q34c⟩ := isOf hZ rfl F29
  obtain ⟨_, _, ⟨T34, L34, k34, n34⟩, -, X34, ⟨Lc34, hQ34, l34, y34, z34⟩, st34⟩ := X27.virtualBack hx (y := (⟨"com/example/attestry/attestry/DerReader$BitString", "bit", "(I)Z"⟩ : MethodName)) (z := (⟨"com/example/attestry/attestry/DerReader$BitString", "bit", "(I)Z"⟩ : MethodName)) hown (mvT hZ (hw _ (List.mem_of_getElem? (i := 19) rfl))) (mvT hZ (hw _ (List.mem_of_getElem? (i := 20) rfl))) (notFace_of_selects (args := #[]) (mvT hZ (hw _ (List.mem_of_getElem? (i := 22) rfl)))) (mvT hZ (hw _ (List.mem_of_getElem? (i := 22) rfl))) (mvT hZ (hw _ (List.mem_of_getElem? (i := 21) rfl))) (by decide) (backOf (W := 0) (rm4 l Z a0 hw [] b20 bs b1 f16 T27.heap n0 Zs33 F27a F28 (by rw [hq0.1]; exact hkk)) hZ (hw _ (List.mem_of_getElem? (i := 23) rfl)) (hw _ (List.mem_of_getElem? (i := 3) rfl)) (by decide) (by decide)) q34a q34c (g := (mkF m 58 #[.val (.int p0), .val (.int p1), .val (.int p2), .val (.int p3), .val (.int p4), .val (.ref b1), .val (.ref b20), .val (.int kk), .val (.int bs), .val (.int (0 : Int32)), .unset] [(.int bs), (.ref b20)])) rfl (by rw [hml]; rfl) (Steps.refl _) (argsL := [(.int bs)]) (rest := []) (lenOf pd_2 rfl) rfl (by show 2 * 0 + _ ≤ _; exact Nat.le_of_eq rfl) (hb hby at_58) (fun _ _ => ⟨rfl, rfl, (by decide : 2 + 0 ≤ _), (by decide : 6 + 0 ≤ _)⟩)
  dsimp only [Pt.U, Pt.locs, Pt.cells, Pt.slots] at X34 l34 y34 z34 st34 hQ34
  subst l34 y34 z34
  obtain ⟨rfl, N34q, e34⟩ := hQ34
  have N34 := Fr.app N27 N34q
  refine Go.of (fun tg_ kk_ => st34.trans kk_) ?_
  show Go p e below T34 (mkF m 61 #[.val (.int p0), .val (.int p1), .val (.int p2), .val (.int p3), .val (.int p4), .val (.ref b1), .val (.ref b20), .val (.int kk), .val (.int bs), .val (.int (0 : Int32)), .unset] [(.int (bitF f16 bs))]) _
  have st35 : ∀ w1 : Int32, w1 = (if (bitF f16 bs) = (0 : Int32) then (0 : Int32) else ((0 : Int32) ||| (128 : Int32))) → ∀ t, Steps p.tables e below (T34.setTop (mkF m 72 #[.val (.int p0), .val (.int p1), .val (.int p2), .val (.int p3), .val (.int p4), .val (.ref b1), .val (.ref b20), .val (.int kk), .val (.int bs), .val (.int w1), .unset] [])) t → Steps p.tables e below (T34.setTop (mkF m 61 #[.val (.int p0), .val (.int p1), .val (.int p2), .val (.int p3), .val (.int p4), .val (.ref b1), .val (.ref b20), .val (.int kk), .val (.int bs), .val (.int (0 : Int32)), .unset] [(.int (bitF f16 bs))])) t := by
    intro w1 qw1 tg_ kk_
    by_cases hc : (bitF f16 bs) = (0 : Int32)
    · rw [if_pos hc] at qw1; rw [qw1] at kk_
      show Steps p.tables e below (T34.setTop (mkF m 61 #[.val (.int p0), .val (.int p1), .val (.int p2), .val (.int p3), .val (.int p4), .val (.ref b1), .val (.ref b20), .val (.int kk), .val (.int bs), .val (.int (0 : Int32)), .unset] [(.int (bitF f16 bs))])) _
      refine XS.ifYes X34.here hx rfl (pc0 := 61) (pc' := 72) rfl (hb hby at_61) rfl ((if0 _ _).trans (teq hc).1) (by decide) (by decide) ?_
      show Steps p.tables e below (T34.setTop (mkF m 72 #[.val (.int p0), .val (.int p1), .val (.int p2), .val (.int p3), .val (.int p4), .val (.ref b1), .val (.ref b20), .val (.int kk), .val (.int bs), .val (.int (0 : Int32)), .unset] [])) _
      exact kk_
    · rw [if_neg hc] at qw1; rw [qw1] at kk_
      show Steps p.tables e below (T34.setTop (mkF m 61 #[.val (.int p0), .val (.int p1), .val (.int p2), .val (.int p3), .val (.int p4), .val (.ref b1), .val (.ref b20), .val (.int kk), .val (.int bs), .val (.int (0 : Int32)), .unset] [(.int (bitF f16 bs))])) _
      refine XS.ifNo X34.here hx rfl (hb hby at_61) rfl ((if0 _ _).trans (feq hc).1) ?_
      show Steps p.tables e below (T34.setTop (mkF m 64 #[.val (.int p0), .val (.int p1), .val (.int p2), .val (.int p3), .val (.int p4), .val (.ref b1), .val (.ref b20), .val (.int kk), .val (.int bs), .val (.int (0 : Int32)), .unset] [])) _
      refine XS.iload X34.here hx rfl (hb hby at_64) rfl ?_
      show Steps p.tables e below (T34.setTop (mkF m 66 #[.val (.int p0), .val (.int p1), .val (.int p2), .val (.int p3), .val (.int p4), .val (.ref b1), .val (.ref b20), .val (.int kk), .val (.int bs), .val (.int (0 : Int32)), .unset] [(.int (0 : Int32))])) _
      refine XS.sipush X34.here hx rfl (hb hby at_66) ?_
      show Steps p.tables e below (T34.setTop (mkF m 69 #[.val (.int p0), .val (.int p1), .val (.int p2), .val (.int p3), .val (.int p4), .val (.ref b1), .val (.ref b20), .val (.int kk), .val (.int bs), .val (.int (0 : Int32)), .unset] [(.int (128 : Int32)), (.int (0 : Int32))])) _
      refine XS.ior X34.here hx rfl (hb hby at_69) rfl ?_
      show Steps p.tables e below (T34.setTop (mkF m 70 #[.val (.int p0), .val (.int p1), .val (.int p2), .val (.int p3), .val (.int p4), .val (.ref b1), .val (.ref b20), .val (.int kk), .val (.int bs), .val (.int (0 : Int32)), .unset] [(.int ((0 : Int32) ||| (128 : Int32)))])) _
      refine XS.istore X34.here hx rfl (hb hby at_70) rfl (l' := #[.val (.int p0), .val (.int p1), .val (.int p2), .val (.int p3), .val (.int p4), .val (.ref b1), .val (.ref b20), .val (.int kk), .val (.int bs), .val (.int ((0 : Int32) ||| (128 : Int32))), .unset]) rfl ?_
      show Steps p.tables e below (T34.setTop (mkF m 72 #[.val (.int p0), .val (.int p1), .val (.int p2), .val (.int p3), .val (.int p4), .val (.ref b1), .val (.ref b20), .val (.int kk), .val (.int bs), .val (.int ((0 : Int32) ||| (128 : Int32))), .unset] [])) _
      exact kk_
  obtain ⟨w1, qw1⟩ : ∃ z : Int32, z = (if (bitF f16 bs) = (0 : Int32) then (0 : Int32) else ((0 : Int32) ||| (128 : Int32))) := ⟨_, rfl⟩
  refine Go.of (st35 w1 qw1) ?_
  show Go p e below T34 (mkF m 72 #[.val (.int p0), .val (.int p1), .val (.int p2), .val (.int p3), .val (.int p4), .val (.ref b1), .val (.ref b20), .val (.int kk), .val (.int bs), .val (.int w1), .unset] []) _
  refine Go.of (fun tg_ kk_ => XS.aload X34.here hx rfl (hb hby at_72) rfl rfl kk_) ?_
  show Go p e below T34 (mkF m 74 #[.val (.int p0), .val (.int p1), .val (.int p2), .val (.int p3), .val (.int p4), .val (.ref b1), .val (.ref b20), .val (.int kk), .val (.int bs), .val (.int w1), .unset] [(.ref b20)]) _
  refine Go.of (fun tg_ kk_ => XS.iload X34.here hx rfl (hb hby at_74) rfl kk_) ?_
  show Go p e below T34 (mkF m 76 #[.val (.int p0), .val (.int p1), .val (.int p2), .val (.int p3), .val (.int p4), .val (.ref b1), .val (.ref b20), .val (.int kk), .val (.int bs), .val (.int w1), .unset] [(.int bs), (.ref b20)]) _
  refine Go.of (fun tg_ kk_ => XS.iconst X34.here hx rfl (hb hby at_76) kk_) ?_
  show Go p e below T34 (mkF m 77 #[.val (.int p0), .val (.int p1), .val (.int p2), .val (.int p3), .val (.int p4), .val (.ref b1), .val (.ref b20), .val (.int kk), .val (.int bs), .val (.int w1), .unset] [(.int (1 : Int32)), (.int bs), (.ref b20)]) _
  refine Go.of (fun tg_ kk_ => XS.iadd X34.here hx rfl (hb hby at_77) rfl kk_) ?_
  show Go p e below T34 (mkF m 78 #[.val (.int p0), .val (.int p1), .val (.int p2), .val (.int p3), .val (.int p4), .val (.ref b1), .val (.ref b20), .val (.int kk), .val (.int bs), .val (.int w1), .unset] [(.int (bs + (1 : Int32))), (.ref b20)]) _
  obtain ⟨cq36, kq36, q36a, q36b, q36c⟩ := isOf hZ e34 F29
  obtain ⟨_, _, ⟨T36, L36, k36, n36⟩, -, X36, ⟨Lc36, hQ36, l36, y36, z36⟩, st36⟩ := X34.virtualBack hx (y := (⟨"com/example/attestry/attestry/DerReader$BitString", "bit", "(I)Z"⟩ : MethodName)) (z := (⟨"com/example/attestry/attestry/DerReader$BitString", "bit", "(I)Z"⟩ : MethodName)) hown (mvT hZ (hw _ (List.mem_of_getElem? (i := 19) rfl))) (mvT hZ (hw _ (List.mem_of_getElem? (i := 20) rfl))) (notFace_of_selects (args := #[]) (mvT hZ (hw _ (List.mem_of_getElem? (i := 22) rfl)))) (mvT hZ (hw _ (List.mem_of_getElem? (i := 22) rfl))) (mvT hZ (hw _ (List.mem_of_getElem? (i := 21) rfl))) (by decide) (backOf (W := 0) (rm4 l Z a0 hw [] b20 (bs + (1 : Int32)) b1 f16 T27.heap n0 Zs33 F27a F28 (by rw [hq1.1]; exact hkk)) hZ (hw _ (List.mem_of_getElem? (i := 23) rfl)) (hw _ (List.mem_of_getElem? (i := 3) rfl)) (by decide) (by decide)) q36a q36c (g := (mkF m 78 #[.val (.int p0), .val (.int p1), .val (.int p2), .val (.int p3), .val (.int p4), .val (.ref b1), .val (.ref b20), .val (.int kk), .val (.int bs), .val (.int w1), .unset] [(.int (bs + (1 : Int32))), (.ref b20)])) rfl (by rw [hml]; rfl) (Steps.refl _) (argsL := [(.int (bs + (1 : Int32)))]) (rest := []) (lenOf pd_2 rfl) rfl (by show 2 * 0 + _ ≤ _; exact Nat.le_of_eq rfl) (hb hby at_78) (fun _ _ => ⟨rfl, e34, (by decide : 2 + 0 ≤ _), (by decide : 6 + 0 ≤ _)⟩)
  dsimp only [Pt.U, Pt.locs, Pt.cells, Pt.slots] at X36 l36 y36 z36 st36 hQ36
  subst l36 y36 z36
  obtain ⟨rfl, N36q, e36⟩ := hQ36
  have N36 := Fr.app N34 N36q
  refine Go.of (fun tg_ kk_ => st36.trans kk_) ?_
  show Go p e below T36 (mkF m 81 #[.val (.int p0), .val (.int p1), .val (.int p2), .val (.int p3), .val (.int p4), .val (.ref b1), .val (.ref b20), .val (.int kk), .val (.int bs), .val (.int w1), .unset] [(.int (bitF f16 (bs + (1 : Int32))))]) _
  have st37 : ∀ w2 : Int32, w2 = (if (bitF f16 (bs + (1 : Int32))) = (0 : Int32) then w1 else (w1 ||| (64 : Int32))) → ∀ t, Steps p.tables e below (T36.setTop (mkF m 91 #[.val (.int p0), .val (.int p1), .val (.int p2), .val (.int p3), .val (.int p4), .val (.ref b1), .val (.ref b20), .val (.int kk), .val (.int bs), .val (.int w2), .unset] [])) t → Steps p.tables e below (T36.setTop (mkF m 81 #[.val (.int p0), .val (.int p1), .val (.int p2), .val (.int p3), .val (.int p4), .val (.ref b1), .val (.ref b20), .val (.int kk), .val (.int bs), .val (.int w1), .unset] [(.int (bitF f16 (bs + (1 : Int32))))])) t := by
    intro w2 qw2 tg_ kk_
    by_cases hc : (bitF f16 (bs + (1 : Int32))) = (0 : Int32)
    · rw [if_pos hc] at qw2; rw [qw2] at kk_
      show Steps p.tables e below (T36.setTop (mkF m 81 #[.val (.int p0), .val (.int p1), .val (.int p2), .val (.int p3), .val (.int p4), .val (.ref b1), .val (.ref b20), .val (.int kk), .val (.int bs), .val (.int w1), .unset] [(.int (bitF f16 (bs + (1 : Int32))))])) _
      refine XS.ifYes X36.here hx rfl (pc0 := 81) (pc' := 91) rfl (hb hby at_81) rfl ((if0 _ _).trans (teq hc).1) (by decide) (by decide) ?_
      show Steps p.tables e below (T36.setTop (mkF m 91 #[.val (.int p0), .val (.int p1), .val (.int p2), .val (.int p3), .val (.int p4), .val (.ref b1), .val (.ref b20), .val (.int kk), .val (.int bs), .val (.int w1), .unset] [])) _
      exact kk_
    · rw [if_neg hc] at qw2; rw [qw2] at kk_
      show Steps p.tables e below (T36.setTop (mkF m 81 #[.val (.int p0), .val (.int p1), .val (.int p2), .val (.int p3), .val (.int p4), .val (.ref b1), .val (.ref b20), .val (.int kk), .val (.int bs), .val (.int w1), .unset] [(.int (bitF f16 (bs + (1 : Int32))))])) _
      refine XS.ifNo X36.here hx rfl (hb hby at_81) rfl ((if0 _ _).trans (feq hc).1) ?_
      show Steps p.tables e below (T36.setTop (mkF m 84 #[.val (.int p0), .val (.int p1), .val (.int p2), .val (.int p3), .val (.int p4), .val (.ref b1), .val (.ref b20), .val (.int kk), .val (.int bs), .val (.int w1), .unset] [])) _
      refine XS.iload X36.here hx rfl (hb hby at_84) rfl ?_
      show Steps p.tables e below (T36.setTop (mkF m 86 #[.val (.int p0), .val (.int p1), .val (.int p2), .val (.int p3), .val (.int p4), .val (.ref b1), .val (.ref b20), .val (.int kk), .val (.int bs), .val (.int w1), .unset] [(.int w1)])) _
      refine XS.bipush X36.here hx rfl (hb hby at_86) ?_
      show Steps p.tables e below (T36.setTop (mkF m 88 #[.val (.int p0), .val (.int p1), .val (.int p2), .val (.int p3), .val (.int p4), .val (.ref b1), .val (.ref b20), .val (.int kk), .val (.int bs), .val (.int w1), .unset] [(.int (64 : Int32)), (.int w1)])) _
      refine XS.ior X36.here hx rfl (hb hby at_88) rfl ?_
      show Steps p.tables e below (T36.setTop (mkF m 89 #[.val (.int p0), .val (.int p1), .val (.int p2), .val (.int p3), .val (.int p4), .val (.ref b1), .val (.ref b20), .val (.int kk), .val (.int bs), .val (.int w1), .unset] [(.int (w1 ||| (64 : Int32)))])) _
      refine XS.istore X36.here hx rfl (hb hby at_89) rfl (l' := #[.val (.int p0), .val (.int p1), .val (.int p2), .val (.int p3), .val (.int p4), .val (.ref b1), .val (.ref b20), .val (.int kk), .val (.int bs), .val (.int (w1 ||| (64 : Int32))), .unset]) rfl ?_
      show Steps p.tables e below (T36.setTop (mkF m 91 #[.val (.int p0), .val (.int p1), .val (.int p2), .val (.int p3), .val (.int p4), .val (.ref b1), .val (.ref b20), .val (.int kk), .val (.int bs), .val (.int (w1 ||| (64 : Int32))), .unset] [])) _
      exact kk_
  obtain ⟨w2, qw2⟩ : ∃ z : Int32, z = (if (bitF f16 (bs + (1 : Int32))) = (0 : Int32) then w1 else (w1 ||| (64 : Int32))) := ⟨_, rfl⟩
  refine Go.of (st37 w2 qw2) ?_
  show Go p e below T36 (mkF m 91 #[.val (.int p0), .val (.int p1), .val (.int p2), .val (.int p3), .val (.int p4), .val (.ref b1), .val (.ref b20), .val (.int kk), .val (.int bs), .val (.int w2), .unset] []) _
  refine Go.of (fun tg_ kk_ => XS.aload X36.here hx rfl (hb hby at_91) rfl rfl kk_) ?_
  show Go p e below T36 (mkF m 93 #[.val (.int p0), .val (.int p1), .val (.int p2), .val (.int p3), .val (.int p4), .val (.ref b1), .val (.ref b20), .val (.int kk), .val (.int bs), .val (.int w2), .unset] [(.ref b20)]) _
  refine Go.of (fun tg_ kk_ => XS.iload X36.here hx rfl (hb hby at_93) rfl kk_) ?_
  show Go p e below T36 (mkF m 95 #[.val (.int p0), .val (.int p1), .val (.int p2), .val (.int p3), .val (.int p4), .val (.ref b1), .val (.ref b20), .val (.int kk), .val (.int bs), .val (.int w2), .unset] [(.int bs), (.ref b20)]) _
  refine Go.of (fun tg_ kk_ => XS.iconst X36.here hx rfl (hb hby at_95) kk_) ?_
  show Go p e below T36 (mkF m 96 #[.val (.int p0), .val (.int p1), .val (.int p2), .val (.int p3), .val (.int p4), .val (.ref b1), .val (.ref b20), .val (.int kk), .val (.int bs), .val (.int w2), .unset] [(.int (2 : Int32)), (.int bs), (.ref b20)]) _
  refine Go.of (fun tg_ kk_ => XS.iadd X36.here hx rfl (hb hby at_96) rfl kk_) ?_
  show Go p e below T36 (mkF m 97 #[.val (.int p0), .val (.int p1), .val (.int p2), .val (.int p3), .val (.int p4), .val (.ref b1), .val (.ref b20), .val (.int kk), .val (.int bs), .val (.int w2), .unset] [(.int (bs + (2 : Int32))), (.ref b20)]) _
  obtain ⟨cq38, kq38, q38a, q38b, q38c⟩ := isOf hZ e36 F29
  obtain ⟨_, _, ⟨T38, L38, k38, n38⟩, -, X38, ⟨Lc38, hQ38, l38, y38, z38⟩, st38⟩ := X36.virtualBack hx (y := (⟨"com/example/attestry/attestry/DerReader$BitString", "bit", "(I)Z"⟩ : MethodName)) (z := (⟨"com/example/attestry/attestry/DerReader$BitString", "bit", "(I)Z"⟩ : MethodName)) hown (mvT hZ (hw _ (List.mem_of_getElem? (i := 19) rfl))) (mvT hZ (hw _ (List.mem_of_getElem? (i := 20) rfl))) (notFace_of_selects (args := #[]) (mvT hZ (hw _ (List.mem_of_getElem? (i := 22) rfl)))) (mvT hZ (hw _ (List.mem_of_getElem? (i := 22) rfl))) (mvT hZ (hw _ (List.mem_of_getElem? (i := 21) rfl))) (by decide) (backOf (W := 0) (rm4 l Z a0 hw [] b20 (bs + (2 : Int32)) b1 f16 T27.heap n0 Zs33 F27a F28 (by rw [hq2.1]; exact hkk)) hZ (hw _ (List.mem_of_getElem? (i := 23) rfl)) (hw _ (List.mem_of_getElem? (i := 3) rfl)) (by decide) (by decide)) q38a q38c (g := (mkF m 97 #[.val (.int p0), .val (.int p1), .val (.int p2), .val (.int p3), .val (.int p4), .val (.ref b1), .val (.ref b20), .val (.int kk), .val (.int bs), .val (.int w2), .unset] [(.int (bs + (2 : Int32))), (.ref b20)])) rfl (by rw [hml]; rfl) (Steps.refl _) (argsL := [(.int (bs + (2 : Int32)))]) (rest := []) (lenOf pd_2 rfl) rfl (by show 2 * 0 + _ ≤ _; exact Nat.le_of_eq rfl) (hb hby at_97) (fun _ _ => ⟨rfl, e36, (by decide : 2 + 0 ≤ _), (by decide : 6 + 0 ≤ _)⟩)
  dsimp only [Pt.U, Pt.locs, Pt.cells, Pt.slots] at X38 l38 y38 z38 st38 hQ38
  subst l38 y38 z38
  obtain ⟨rfl, N38q, e38⟩ := hQ38
  have N38 := Fr.app N36 N38q
  refine Go.of (fun tg_ kk_ => st38.trans kk_) ?_
  show Go p e below T38 (mkF m 100 #[.val (.int p0), .val (.int p1), .val (.int p2), .val (.int p3), .val (.int p4), .val (.ref b1), .val (.ref b20), .val (.int kk), .val (.int bs), .val (.int w2), .unset] [(.int (bitF f16 (bs + (2 : Int32))))]) _
  have st39 : ∀ w3 : Int32, w3 = (if (bitF f16 (bs + (2 : Int32))) = (0 : Int32) then w2 else (w2 ||| (32 : Int32))) → ∀ t, Steps p.tables e below (T38.setTop (mkF m 110 #[.val (.int p0), .val (.int p1), .val (.int p2), .val (.int p3), .val (.int p4), .val (.ref b1), .val (.ref b20), .val (.int kk), .val (.int bs), .val (.int w3), .unset] [])) t → Steps p.tables e below (T38.setTop (mkF m 100 #[.val (.int p0), .val (.int p1), .val (.int p2), .val (.int p3), .val (.int p4), .val (.ref b1), .val (.ref b20), .val (.int kk), .val (.int bs), .val (.int w2), .unset] [(.int (bitF f16 (bs + (2 : Int32))))])) t := by
    intro w3 qw3 tg_ kk_
    by_cases hc : (bitF f16 (bs + (2 : Int32))) = (0 : Int32)
    · rw [if_pos hc] at qw3; rw [qw3] at kk_
      show Steps p.tables e below (T38.setTop (mkF m 100 #[.val (.int p0), .val (.int p1), .val (.int p2), .val (.int p3), .val (.int p4), .val (.ref b1), .val (.ref b20), .val (.int kk), .val (.int bs), .val (.int w2), .unset] [(.int (bitF f16 (bs + (2 : Int32))))])) _
      refine XS.ifYes X38.here hx rfl (pc0 := 100) (pc' := 110) rfl (hb hby at_100) rfl ((if0 _ _).trans (teq hc).1) (by decide) (by decide) ?_
      show Steps p.tables e below (T38.setTop (mkF m 110 #[.val (.int p0), .val (.int p1), .val (.int p2), .val (.int p3), .val (.int p4), .val (.ref b1), .val (.ref b20), .val (.int kk), .val (.int bs), .val (.int w2), .unset] [])) _
      exact kk_
    · rw [if_neg hc] at qw3; rw [qw3] at kk_
      show Steps p.tables e below (T38.setTop (mkF m 100 #[.val (.int p0), .val (.int p1), .val (.int p2), .val (.int p3), .val (.int p4), .val (.ref b1), .val (.ref b20), .val (.int kk), .val (.int bs), .val (.int w2), .unset] [(.int (bitF f16 (bs + (2 : Int32))))])) _
      refine XS.ifNo X38.here hx rfl (hb hby at_100) rfl ((if0 _ _).trans (feq hc).1) ?_
      show Steps p.tables e below (T38.setTop (mkF m 103 #[.val (.int p0), .val (.int p1), .val (.int p2), .val (.int p3), .val (.int p4), .val (.ref b1), .val (.ref b20), .val (.int kk), .val (.int bs), .val (.int w2), .unset] [])) _
      refine XS.iload X38.here hx rfl (hb hby at_103) rfl ?_
      show Steps p.tables e below (T38.setTop (mkF m 105 #[.val (.int p0), .val (.int p1), .val (.int p2), .val (.int p3), .val (.int p4), .val (.ref b1), .val (.ref b20), .val (.int kk), .val (.int bs), .val (.int w2), .unset] [(.int w2)])) _
      refine XS.bipush X38.here hx rfl (hb hby at_105) ?_
      show Steps p.tables e below (T38.setTop (mkF m 107 #[.val (.int p0), .val (.int p1), .val (.int p2), .val (.int p3), .val (.int p4), .val (.ref b1), .val (.ref b20), .val (.int kk), .val (.int bs), .val (.int w2), .unset] [(.int (32 : Int32)), (.int w2)])) _
      refine XS.ior X38.here hx rfl (hb hby at_107) rfl ?_
      show Steps p.tables e below (T38.setTop (mkF m 108 #[.val (.int p0), .val (.int p1), .val (.int p2), .val (.int p3), .val (.int p4), .val (.ref b1), .val (.ref b20), .val (.int kk), .val (.int bs), .val (.int w2), .unset] [(.int (w2 ||| (32 : Int32)))])) _
      refine XS.istore X38.here hx rfl (hb hby at_108) rfl (l' := #[.val (.int p0), .val (.int p1), .val (.int p2), .val (.int p3), .val (.int p4), .val (.ref b1), .val (.ref b20), .val (.int kk), .val (.int bs), .val (.int (w2 ||| (32 : Int32))), .unset]) rfl ?_
      show Steps p.tables e below (T38.setTop (mkF m 110 #[.val (.int p0), .val (.int p1), .val (.int p2), .val (.int p3), .val (.int p4), .val (.ref b1), .val (.ref b20), .val (.int kk), .val (.int bs), .val (.int (w2 ||| (32 : Int32))), .unset] [])) _
      exact kk_
  obtain ⟨w3, qw3⟩ : ∃ z : Int32, z = (if (bitF f16 (bs + (2 : Int32))) = (0 : Int32) then w2 else (w2 ||| (32 : Int32))) := ⟨_, rfl⟩
  refine Go.of (st39 w3 qw3) ?_
  show Go p e below T38 (mkF m 110 #[.val (.int p0), .val (.int p1), .val (.int p2), .val (.int p3), .val (.int p4), .val (.ref b1), .val (.ref b20), .val (.int kk), .val (.int bs), .val (.int w3), .unset] []) _
  refine Go.of (fun tg_ kk_ => XS.aload X38.here hx rfl (hb hby at_110) rfl rfl kk_) ?_
  show Go p e below T38 (mkF m 112 #[.val (.int p0), .val (.int p1), .val (.int p2), .val (.int p3), .val (.int p4), .val (.ref b1), .val (.ref b20), .val (.int kk), .val (.int bs), .val (.int w3), .unset] [(.ref b20)]) _
  refine Go.of (fun tg_ kk_ => XS.iload X38.here hx rfl (hb hby at_112) rfl kk_) ?_
  show Go p e below T38 (mkF m 114 #[.val (.int p0), .val (.int p1), .val (.int p2), .val (.int p3), .val (.int p4), .val (.ref b1), .val (.ref b20), .val (.int kk), .val (.int bs), .val (.int w3), .unset] [(.int bs), (.ref b20)]) _
  refine Go.of (fun tg_ kk_ => XS.iconst X38.here hx rfl (hb hby at_114) kk_) ?_
  show Go p e below T38 (mkF m 115 #[.val (.int p0), .val (.int p1), .val (.int p2), .val (.int p3), .val (.int p4), .val (.ref b1), .val (.ref b20), .val (.int kk), .val (.int bs), .val (.int w3), .unset] [(.int (3 : Int32)), (.int bs), (.ref b20)]) _
  refine Go.of (fun tg_ kk_ => XS.iadd X38.here hx rfl (hb hby at_115) rfl kk_) ?_
  show Go p e below T38 (mkF m 116 #[.val (.int p0), .val (.int p1), .val (.int p2), .val (.int p3), .val (.int p4), .val (.ref b1), .val (.ref b20), .val (.int kk), .val (.int bs), .val (.int w3), .unset] [(.int (bs + (3 : Int32))), (.ref b20)]) _
  obtain ⟨cq40, kq40, q40a, q40b, q40c⟩ := isOf hZ e38 F29
  obtain ⟨_, _, ⟨T40, L40, k40, n40⟩, -, X40, ⟨Lc40, hQ40, l40, y40, z40⟩, st40⟩ := X38.virtualBack hx (y := (⟨"com/example/attestry/attestry/DerReader$BitString", "bit", "(I)Z"⟩ : MethodName)) (z := (⟨"com/example/attestry/attestry/DerReader$BitString", "bit", "(I)Z"⟩ : MethodName)) hown (mvT hZ (hw _ (List.mem_of_getElem? (i := 19) rfl))) (mvT hZ (hw _ (List.mem_of_getElem? (i := 20) rfl))) (notFace_of_selects (args := #[]) (mvT hZ (hw _ (List.mem_of_getElem? (i := 22) rfl)))) (mvT hZ (hw _ (List.mem_of_getElem? (i := 22) rfl))) (mvT hZ (hw _ (List.mem_of_getElem? (i := 21) rfl))) (by decide) (backOf (W := 0) (rm4 l Z a0 hw [] b20 (bs + (3 : Int32)) b1 f16 T27.heap n0 Zs33 F27a F28 (by rw [hq3.1]; exact hkk)) hZ (hw _ (List.mem_of_getElem? (i := 23) rfl)) (hw _ (List.mem_of_getElem? (i := 3) rfl)) (by decide) (by decide)) q40a q40c (g := (mkF m 116 #[.val (.int p0), .val (.int p1), .val (.int p2), .val (.int p3), .val (.int p4), .val (.ref b1), .val (.ref b20), .val (.int kk), .val (.int bs), .val (.int w3), .unset] [(.int (bs + (3 : Int32))), (.ref b20)])) rfl (by rw [hml]; rfl) (Steps.refl _) (argsL := [(.int (bs + (3 : Int32)))]) (rest := []) (lenOf pd_2 rfl) rfl (by show 2 * 0 + _ ≤ _; exact Nat.le_of_eq rfl) (hb hby at_116) (fun _ _ => ⟨rfl, e38, (by decide : 2 + 0 ≤ _), (by decide : 6 + 0 ≤ _)⟩)
  dsimp only [Pt.U, Pt.locs, Pt.cells, Pt.slots] at X40 l40 y40 z40 st40 hQ40
  subst l40 y40 z40
  obtain ⟨rfl, N40q, e40⟩ := hQ40
  have N40 := Fr.app N38 N40q
  refine Go.of (fun tg_ kk_ => st40.trans kk_) ?_
  show Go p e below T40 (mkF m 119 #[.val (.int p0), .val (.int p1), .val (.int p2), .val (.int p3), .val (.int p4), .val (.ref b1), .val (.ref b20), .val (.int kk), .val (.int bs), .val (.int w3), .unset] [(.int (bitF f16 (bs + (3 : Int32))))]) _
  have st41 : ∀ w4 : Int32, w4 = (if (bitF f16 (bs + (3 : Int32))) = (0 : Int32) then w3 else (w3 ||| (16 : Int32))) → ∀ t, Steps p.tables e below (T40.setTop (mkF m 129 #[.val (.int p0), .val (.int p1), .val (.int p2), .val (.int p3), .val (.int p4), .val (.ref b1), .val (.ref b20), .val (.int kk), .val (.int bs), .val (.int w4), .unset] [])) t → Steps p.tables e below (T40.setTop (mkF m 119 #[.val (.int p0), .val (.int p1), .val (.int p2), .val (.int p3), .val (.int p4), .val (.ref b1), .val (.ref b20), .val (.int kk), .val (.int bs), .val (.int w3), .unset] [(.int (bitF f16 (bs + (3 : Int32))))])) t := by
    intro w4 qw4 tg_ kk_
    by_cases hc : (bitF f16 (bs + (3 : Int32))) = (0 : Int32)
    · rw [if_pos hc] at qw4; rw [qw4] at kk_
      show Steps p.tables e below (T40.setTop (mkF m 119 #[.val (.int p0), .val (.int p1), .val (.int p2), .val (.int p3), .val (.int p4), .val (.ref b1), .val (.ref b20), .val (.int kk), .val (.int bs), .val (.int w3), .unset] [(.int (bitF f16 (bs + (3 : Int32))))])) _
      refine XS.ifYes X40.here hx rfl (pc0 := 119) (pc' := 129) rfl (hb hby at_119) rfl ((if0 _ _).trans (teq hc).1) (by decide) (by decide) ?_
      show Steps p.tables e below (T40.setTop (mkF m 129 #[.val (.int p0), .val (.int p1), .val (.int p2), .val (.int p3), .val (.int p4), .val (.ref b1), .val (.ref b20), .val (.int kk), .val (.int bs), .val (.int w3), .unset] [])) _
      exact kk_
    · rw [if_neg hc] at qw4; rw [qw4] at kk_
      show Steps p.tables e below (T40.setTop (mkF m 119 #[.val (.int p0), .val (.int p1), .val (.int p2), .val (.int p3), .val (.int p4), .val (.ref b1), .val (.ref b20), .val (.int kk), .val (.int bs), .val (.int w3), .unset] [(.int (bitF f16 (bs + (3 : Int32))))])) _
      refine XS.ifNo X40.here hx rfl (hb hby at_119) rfl ((if0 _ _).trans (feq hc).1) ?_
      show Steps p.tables e below (T40.setTop (mkF m 122 #[.val (.int p0), .val (.int p1), .val (.int p2), .val (.int p3), .val (.int p4), .val (.ref b1), .val (.ref b20), .val (.int kk), .val (.int bs), .val (.int w3), .unset] [])) _
      refine XS.iload X40.here hx rfl (hb hby at_122) rfl ?_
      show Steps p.tables e below (T40.setTop (mkF m 124 #[.val (.int p0), .val (.int p1), .val (.int p2), .val (.int p3), .val (.int p4), .val (.ref b1), .val (.ref b20), .val (.int kk), .val (.int bs), .val (.int w3), .unset] [(.int w3)])) _
      refine XS.bipush X40.here hx rfl (hb hby at_124) ?_
      show Steps p.tables e below (T40.setTop (mkF m 126 #[.val (.int p0), .val (.int p1), .val (.int p2), .val (.int p3), .val (.int p4), .val (.ref b1), .val (.ref b20), .val (.int kk), .val (.int bs), .val (.int w3), .unset] [(.int (16 : Int32)), (.int w3)])) _
      refine XS.ior X40.here hx rfl (hb hby at_126) rfl ?_
      show Steps p.tables e below (T40.setTop (mkF m 127 #[.val (.int p0), .val (.int p1), .val (.int p2), .val (.int p3), .val (.int p4), .val (.ref b1), .val (.ref b20), .val (.int kk), .val (.int bs), .val (.int w3), .unset] [(.int (w3 ||| (16 : Int32)))])) _
      refine XS.istore X40.here hx rfl (hb hby at_127) rfl (l' := #[.val (.int p0), .val (.int p1), .val (.int p2), .val (.int p3), .val (.int p4), .val (.ref b1), .val (.ref b20), .val (.int kk), .val (.int bs), .val (.int (w3 ||| (16 : Int32))), .unset]) rfl ?_
      show Steps p.tables e below (T40.setTop (mkF m 129 #[.val (.int p0), .val (.int p1), .val (.int p2), .val (.int p3), .val (.int p4), .val (.ref b1), .val (.ref b20), .val (.int kk), .val (.int bs), .val (.int (w3 ||| (16 : Int32))), .unset] [])) _
      exact kk_
  obtain ⟨w4, qw4⟩ : ∃ z : Int32, z = (if (bitF f16 (bs + (3 : Int32))) = (0 : Int32) then w3 else (w3 ||| (16 : Int32))) := ⟨_, rfl⟩
  refine Go.of (st41 w4 qw4) ?_
  show Go p e below T40 (mkF m 129 #[.val (.int p0), .val (.int p1), .val (.int p2), .val (.int p3), .val (.int p4), .val (.ref b1), .val (.ref b20), .val (.int kk), .val (.int bs), .val (.int w4), .unset] []) _
  refine Go.of (fun tg_ kk_ => XS.aload X40.here hx rfl (hb hby at_129) rfl rfl kk_) ?_
  show Go p e below T40 (mkF m 131 #[.val (.int p0), .val (.int p1), .val (.int p2), .val (.int p3), .val (.int p4), .val (.ref b1), .val (.ref b20), .val (.int kk), .val (.int bs), .val (.int w4), .unset] [(.ref b20)]) _
  refine Go.of (fun tg_ kk_ => XS.iload X40.here hx rfl (hb hby at_131) rfl kk_) ?_
  show Go p e below T40 (mkF m 133 #[.val (.int p0), .val (.int p1), .val (.int p2), .val (.int p3), .val (.int p4), .val (.ref b1), .val (.ref b20), .val (.int kk), .val (.int bs), .val (.int w4), .unset] [(.int bs), (.ref b20)]) _
  refine Go.of (fun tg_ kk_ => XS.iconst X40.here hx rfl (hb hby at_133) kk_) ?_
  show Go p e below T40 (mkF m 134 #[.val (.int p0), .val (.int p1), .val (.int p2), .val (.int p3), .val (.int p4), .val (.ref b1), .val (.ref b20), .val (.int kk), .val (.int bs), .val (.int w4), .unset] [(.int (4 : Int32)), (.int bs), (.ref b20)]) _
  refine Go.of (fun tg_ kk_ => XS.iadd X40.here hx rfl (hb hby at_134) rfl kk_) ?_
  show Go p e below T40 (mkF m 135 #[.val (.int p0), .val (.int p1), .val (.int p2), .val (.int p3), .val (.int p4), .val (.ref b1), .val (.ref b20), .val (.int kk), .val (.int bs), .val (.int w4), .unset] [(.int (bs + (4 : Int32))), (.ref b20)]) _
  obtain ⟨cq42, kq42, q42a, q42b, q42c⟩ := isOf hZ e40 F29
  obtain ⟨_, _, ⟨T42, L42, k42, n42⟩, -, X42, ⟨Lc42, hQ42, l42, y42, z42⟩, st42⟩ := X40.virtualBack hx (y := (⟨"com/example/attestry/attestry/DerReader$BitString", "bit", "(I)Z"⟩ : MethodName)) (z := (⟨"com/example/attestry/attestry/DerReader$BitString", "bit", "(I)Z"⟩ : MethodName)) hown (mvT hZ (hw _ (List.mem_of_getElem? (i := 19) rfl))) (mvT hZ (hw _ (List.mem_of_getElem? (i := 20) rfl))) (notFace_of_selects (args := #[]) (mvT hZ (hw _ (List.mem_of_getElem? (i := 22) rfl)))) (mvT hZ (hw _ (List.mem_of_getElem? (i := 22) rfl))) (mvT hZ (hw _ (List.mem_of_getElem? (i := 21) rfl))) (by decide) (backOf (W := 0) (rm4 l Z a0 hw [] b20 (bs + (4 : Int32)) b1 f16 T27.heap n0 Zs33 F27a F28 (by rw [hq4.1]; exact hkk)) hZ (hw _ (List.mem_of_getElem? (i := 23) rfl)) (hw _ (List.mem_of_getElem? (i := 3) rfl)) (by decide) (by decide)) q42a q42c (g := (mkF m 135 #[.val (.int p0), .val (.int p1), .val (.int p2), .val (.int p3), .val (.int p4), .val (.ref b1), .val (.ref b20), .val (.int kk), .val (.int bs), .val (.int w4), .unset] [(.int (bs + (4 : Int32))), (.ref b20)])) rfl (by rw [hml]; rfl) (Steps.refl _) (argsL := [(.int (bs + (4 : Int32)))]) (rest := []) (lenOf pd_2 rfl) rfl (by show 2 * 0 + _ ≤ _; exact Nat.le_of_eq rfl) (hb hby at_135) (fun _ _ => ⟨rfl, e40, (by decide : 2 + 0 ≤ _), (by decide : 6 + 0 ≤ _)⟩)
  dsimp only [Pt.U, Pt.locs, Pt.cells, Pt.slots] at X42 l42 y42 z42 st42 hQ42
  subst l42 y42 z42
  obtain ⟨rfl, N42q, e42⟩ := hQ42
  have N42 := Fr.app N40 N42q
  refine Go.of (fun tg_ kk_ => st42.trans kk_) ?_
  show Go p e below T42 (mkF m 138 #[.val (.int p0), .val (.int p1), .val (.int p2), .val (.int p3), .val (.int p4), .val (.ref b1), .val (.ref b20), .val (.int kk), .val (.int bs), .val (.int w4), .unset] [(.int (bitF f16 (bs + (4 : Int32))))]) _
  have st43 : ∀ w5 : Int32, w5 = (if (bitF f16 (bs + (4 : Int32))) = (0 : Int32) then w4 else (w4 ||| (8 : Int32))) → ∀ t, Steps p.tables e below (T42.setTop (mkF m 148 #[.val (.int p0), .val (.int p1), .val (.int p2), .val (.int p3), .val (.int p4), .val (.ref b1), .val (.ref b20), .val (.int kk), .val (.int bs), .val (.int w5), .unset] [])) t → Steps p.tables e below (T42.setTop (mkF m 138 #[.val (.int p0), .val (.int p1), .val (.int p2), .val (.int p3), .val (.int p4), .val (.ref b1), .val (.ref b20), .val (.int kk), .val (.int bs), .val (.int w4), .unset] [(.int (bitF f16 (bs + (4 : Int32))))])) t := by
    intro w5 qw5 tg_ kk_
    by_cases hc : (bitF f16 (bs + (4 : Int32))) = (0 : Int32)
    · rw [if_pos hc] at qw5; rw [qw5] at kk_
      show Steps p.tables e below (T42.setTop (mkF m 138 #[.val (.int p0), .val (.int p1), .val (.int p2), .val (.int p3), .val (.int p4), .val (.ref b1), .val (.ref b20), .val (.int kk), .val (.int bs), .val (.int w4), .unset] [(.int (bitF f16 (bs + (4 : Int32))))])) _
      refine XS.ifYes X42.here hx rfl (pc0 := 138) (pc' := 148) rfl (hb hby at_138) rfl ((if0 _ _).trans (teq hc).1) (by decide) (by decide) ?_
      show Steps p.tables e below (T42.setTop (mkF m 148 #[.val (.int p0), .val (.int p1), .val (.int p2), .val (.int p3), .val (.int p4), .val (.ref b1), .val (.ref b20), .val (.int kk), .val (.int bs), .val (.int w4), .unset] [])) _
      exact kk_
    · rw [if_neg hc] at qw5; rw [qw5] at kk_
      show Steps p.tables e below (T42.setTop (mkF m 138 #[.val (.int p0), .val (.int p1), .val (.int p2), .val (.int p3), .val (.int p4), .val (.ref b1), .val (.ref b20), .val (.int kk), .val (.int bs), .val (.int w4), .unset] [(.int (bitF f16 (bs + (4 : Int32))))])) _
      refine XS.ifNo X42.here hx rfl (hb hby at_138) rfl ((if0 _ _).trans (feq hc).1) ?_
      show Steps p.tables e below (T42.setTop (mkF m 141 #[.val (.int p0), .val (.int p1), .val (.int p2), .val (.int p3), .val (.int p4), .val (.ref b1), .val (.ref b20), .val (.int kk), .val (.int bs), .val (.int w4), .unset] [])) _
      refine XS.iload X42.here hx rfl (hb hby at_141) rfl ?_
      show Steps p.tables e below (T42.setTop (mkF m 143 #[.val (.int p0), .val (.int p1), .val (.int p2), .val (.int p3), .val (.int p4), .val (.ref b1), .val (.ref b20), .val (.int kk), .val (.int bs), .val (.int w4), .unset] [(.int w4)])) _
      refine XS.bipush X42.here hx rfl (hb hby at_143) ?_
      show Steps p.tables e below (T42.setTop (mkF m 145 #[.val (.int p0), .val (.int p1), .val (.int p2), .val (.int p3), .val (.int p4), .val (.ref b1), .val (.ref b20), .val (.int kk), .val (.int bs), .val (.int w4), .unset] [(.int (8 : Int32)), (.int w4)])) _
      refine XS.ior X42.here hx rfl (hb hby at_145) rfl ?_
      show Steps p.tables e below (T42.setTop (mkF m 146 #[.val (.int p0), .val (.int p1), .val (.int p2), .val (.int p3), .val (.int p4), .val (.ref b1), .val (.ref b20), .val (.int kk), .val (.int bs), .val (.int w4), .unset] [(.int (w4 ||| (8 : Int32)))])) _
      refine XS.istore X42.here hx rfl (hb hby at_146) rfl (l' := #[.val (.int p0), .val (.int p1), .val (.int p2), .val (.int p3), .val (.int p4), .val (.ref b1), .val (.ref b20), .val (.int kk), .val (.int bs), .val (.int (w4 ||| (8 : Int32))), .unset]) rfl ?_
      show Steps p.tables e below (T42.setTop (mkF m 148 #[.val (.int p0), .val (.int p1), .val (.int p2), .val (.int p3), .val (.int p4), .val (.ref b1), .val (.ref b20), .val (.int kk), .val (.int bs), .val (.int (w4 ||| (8 : Int32))), .unset] [])) _
      exact kk_
  obtain ⟨w5, qw5⟩ : ∃ z : Int32, z = (if (bitF f16 (bs + (4 : Int32))) = (0 : Int32) then w4 else (w4 ||| (8 : Int32))) := ⟨_, rfl⟩
  refine Go.of (st43 w5 qw5) ?_
  show Go p e below T42 (mkF m 148 #[.val (.int p0), .val (.int p1), .val (.int p2), .val (.int p3), .val (.int p4), .val (.ref b1), .val (.ref b20), .val (.int kk), .val (.int bs), .val (.int w5), .unset] []) _
  refine Go.of (fun tg_ kk_ => XS.aload X42.here hx rfl (hb hby at_148) rfl rfl kk_) ?_
  show Go p e below T42 (mkF m 150 #[.val (.int p0), .val (.int p1), .val (.int p2), .val (.int p3), .val (.int p4), .val (.ref b1), .val (.ref b20), .val (.int kk), .val (.int bs), .val (.int w5), .unset] [(.ref b20)]) _
  refine Go.of (fun tg_ kk_ => XS.iload X42.here hx rfl (hb hby at_150) rfl kk_) ?_
  show Go p e below T42 (mkF m 152 #[.val (.int p0), .val (.int p1), .val (.int p2), .val (.int p3), .val (.int p4), .val (.ref b1), .val (.ref b20), .val (.int kk), .val (.int bs), .val (.int w5), .unset] [(.int bs), (.ref b20)]) _
  refine Go.of (fun tg_ kk_ => XS.iconst X42.here hx rfl (hb hby at_152) kk_) ?_
  show Go p e below T42 (mkF m 153 #[.val (.int p0), .val (.int p1), .val (.int p2), .val (.int p3), .val (.int p4), .val (.ref b1), .val (.ref b20), .val (.int kk), .val (.int bs), .val (.int w5), .unset] [(.int (5 : Int32)), (.int bs), (.ref b20)]) _
  refine Go.of (fun tg_ kk_ => XS.iadd X42.here hx rfl (hb hby at_153) rfl kk_) ?_
  show Go p e below T42 (mkF m 154 #[.val (.int p0), .val (.int p1), .val (.int p2), .val (.int p3), .val (.int p4), .val (.ref b1), .val (.ref b20), .val (.int kk), .val (.int bs), .val (.int w5), .unset] [(.int (bs + (5 : Int32))), (.ref b20)]) _
  obtain ⟨cq44, kq44, q44a, q44b, q44c⟩ := isOf hZ e42 F29
  obtain ⟨_, _, ⟨T44, L44, k44, n44⟩, -, X44, ⟨Lc44, hQ44, l44, y44, z44⟩, st44⟩ := X42.virtualBack hx (y := (⟨"com/example/attestry/attestry/DerReader$BitString", "bit", "(I)Z"⟩ : MethodName)) (z := (⟨"com/example/attestry/attestry/DerReader$BitString", "bit", "(I)Z"⟩ : MethodName)) hown (mvT hZ (hw _ (List.mem_of_getElem? (i := 19) rfl))) (mvT hZ (hw _ (List.mem_of_getElem? (i := 20) rfl))) (notFace_of_selects (args := #[]) (mvT hZ (hw _ (List.mem_of_getElem? (i := 22) rfl)))) (mvT hZ (hw _ (List.mem_of_getElem? (i := 22) rfl))) (mvT hZ (hw _ (List.mem_of_getElem? (i := 21) rfl))) (by decide) (backOf (W := 0) (rm4 l Z a0 hw [] b20 (bs + (5 : Int32)) b1 f16 T27.heap n0 Zs33 F27a F28 (by rw [hq5.1]; exact hkk)) hZ (hw _ (List.mem_of_getElem? (i := 23) rfl)) (hw _ (List.mem_of_getElem? (i := 3) rfl)) (by decide) (by decide)) q44a q44c (g := (mkF m 154 #[.val (.int p0), .val (.int p1), .val (.int p2), .val (.int p3), .val (.int p4), .val (.ref b1), .val (.ref b20), .val (.int kk), .val (.int bs), .val (.int w5), .unset] [(.int (bs + (5 : Int32))), (.ref b20)])) rfl (by rw [hml]; rfl) (Steps.refl _) (argsL := [(.int (bs + (5 : Int32)))]) (rest := []) (lenOf pd_2 rfl) rfl (by show 2 * 0 + _ ≤ _; exact Nat.le_of_eq rfl) (hb hby at_154) (fun _ _ => ⟨rfl, e42, (by decide : 2 + 0 ≤ _), (by decide : 6 + 0 ≤ _)⟩)
  dsimp only [Pt.U, Pt.locs, Pt.cells, Pt.slots] at X44 l44 y44 z44 st44 hQ44
  subst l44 y44 z44
  obtain ⟨rfl, N44q, e44⟩ := hQ44
  have N44 := Fr.app N42 N44q
  refine Go.of (fun tg_ kk_ => st44.trans kk_) ?_
  show Go p e below T44 (mkF m 157 #[.val (.int p0), .val (.int p1), .val (.int p2), .val (.int p3), .val (.int p4), .val (.ref b1), .val (.ref b20), .val (.int kk), .val (.int bs), .val (.int w5), .unset] [(.int (bitF f16 (bs + (5 : Int32))))]) _
  have st45 : ∀ w6 : Int32, w6 = (if (bitF f16 (bs + (5 : Int32))) = (0 : Int32) then w5 else (w5 ||| (4 : Int32))) → ∀ t, Steps p.tables e below (T44.setTop (mkF m 166 #[.val (.int p0), .val (.int p1), .val (.int p2), .val (.int p3), .val (.int p4), .val (.ref b1), .val (.ref b20), .val (.int kk), .val (.int bs), .val (.int w6), .unset] [])) t → Steps p.tables e below (T44.setTop (mkF m 157 #[.val (.int p0), .val (.int p1), .val (.int p2), .val (.int p3), .val (.int p4), .val (.ref b1), .val (.ref b20), .val (.int kk), .val (.int bs), .val (.int w5), .unset] [(.int (bitF f16 (bs + (5 : Int32))))])) t := by
    intro w6 qw6 tg_ kk_
    by_cases hc : (bitF f16 (bs + (5 : Int32))) = (0 : Int32)
    · rw [if_pos hc] at qw6; rw [qw6] at kk_
      show Steps p.tables e below (T44.setTop (mkF m 157 #[.val (.int p0), .val (.int p1), .val (.int p2), .val (.int p3), .val (.int p4), .val (.ref b1), .val (.ref b20), .val (.int kk), .val (.int bs), .val (.int w5), .unset] [(.int (bitF f16 (bs + (5 : Int32))))])) _
      refine XS.ifYes X44.here hx rfl (pc0 := 157) (pc' := 166) rfl (hb hby at_157) rfl ((if0 _ _).trans (teq hc).1) (by decide) (by decide) ?_
      show Steps p.tables e below (T44.setTop (mkF m 166 #[.val (.int p0), .val (.int p1), .val (.int p2), .val (.int p3), .val (.int p4), .val (.ref b1), .val (.ref b20), .val (.int kk), .val (.int bs), .val (.int w5), .unset] [])) _
      exact kk_
    · rw [if_neg hc] at qw6; rw [qw6] at kk_
      show Steps p.tables e below (T44.setTop (mkF m 157 #[.val (.int p0), .val (.int p1), .val (.int p2), .val (.int p3), .val (.int p4), .val (.ref b1), .val (.ref b20), .val (.int kk), .val (.int bs), .val (.int w5), .unset] [(.int (bitF f16 (bs + (5 : Int32))))])) _
      refine XS.ifNo X44.here hx rfl (hb hby at_157) rfl ((if0 _ _).trans (feq hc).1) ?_
      show Steps p.tables e below (T44.setTop (mkF m 160 #[.val (.int p0), .val (.int p1), .val (.int p2), .val (.int p3), .val (.int p4), .val (.ref b1), .val (.ref b20), .val (.int kk), .val (.int bs), .val (.int w5), .unset] [])) _
      refine XS.iload X44.here hx rfl (hb hby at_160) rfl ?_
      show Steps p.tables e below (T44.setTop (mkF m 162 #[.val (.int p0), .val (.int p1), .val (.int p2), .val (.int p3), .val (.int p4), .val (.ref b1), .val (.ref b20), .val (.int kk), .val (.int bs), .val (.int w5), .unset] [(.int w5)])) _
      refine XS.iconst X44.here hx rfl (hb hby at_162) ?_
      show Steps p.tables e below (T44.setTop (mkF m 163 #[.val (.int p0), .val (.int p1), .val (.int p2), .val (.int p3), .val (.int p4), .val (.ref b1), .val (.ref b20), .val (.int kk), .val (.int bs), .val (.int w5), .unset] [(.int (4 : Int32)), (.int w5)])) _
      refine XS.ior X44.here hx rfl (hb hby at_163) rfl ?_
      show Steps p.tables e below (T44.setTop (mkF m 164 #[.val (.int p0), .val (.int p1), .val (.int p2), .val (.int p3), .val (.int p4), .val (.ref b1), .val (.ref b20), .val (.int kk), .val (.int bs), .val (.int w5), .unset] [(.int (w5 ||| (4 : Int32)))])) _
      refine XS.istore X44.here hx rfl (hb hby at_164) rfl (l' := #[.val (.int p0), .val (.int p1), .val (.int p2), .val (.int p3), .val (.int p4), .val (.ref b1), .val (.ref b20), .val (.int kk), .val (.int bs), .val (.int (w5 ||| (4 : Int32))), .unset]) rfl ?_
      show Steps p.tables e below (T44.setTop (mkF m 166 #[.val (.int p0), .val (.int p1), .val (.int p2), .val (.int p3), .val (.int p4), .val (.ref b1), .val (.ref b20), .val (.int kk), .val (.int bs), .val (.int (w5 ||| (4 : Int32))), .unset] [])) _
      exact kk_
  obtain ⟨w6, qw6⟩ : ∃ z : Int32, z = (if (bitF f16 (bs + (5 : Int32))) = (0 : Int32) then w5 else (w5 ||| (4 : Int32))) := ⟨_, rfl⟩
  refine Go.of (st45 w6 qw6) ?_
  show Go p e below T44 (mkF m 166 #[.val (.int p0), .val (.int p1), .val (.int p2), .val (.int p3), .val (.int p4), .val (.ref b1), .val (.ref b20), .val (.int kk), .val (.int bs), .val (.int w6), .unset] []) _
  refine Go.of (fun tg_ kk_ => XS.aload X44.here hx rfl (hb hby at_166) rfl rfl kk_) ?_
  show Go p e below T44 (mkF m 168 #[.val (.int p0), .val (.int p1), .val (.int p2), .val (.int p3), .val (.int p4), .val (.ref b1), .val (.ref b20), .val (.int kk), .val (.int bs), .val (.int w6), .unset] [(.ref b20)]) _
  refine Go.of (fun tg_ kk_ => XS.iload X44.here hx rfl (hb hby at_168) rfl kk_) ?_
  show Go p e below T44 (mkF m 170 #[.val (.int p0), .val (.int p1), .val (.int p2), .val (.int p3), .val (.int p4), .val (.ref b1), .val (.ref b20), .val (.int kk), .val (.int bs), .val (.int w6), .unset] [(.int bs), (.ref b20)]) _
  refine Go.of (fun tg_ kk_ => XS.bipush X44.here hx rfl (hb hby at_170) kk_) ?_
  show Go p e below T44 (mkF m 172 #[.val (.int p0), .val (.int p1), .val (.int p2), .val (.int p3), .val (.int p4), .val (.ref b1), .val (.ref b20), .val (.int kk), .val (.int bs), .val (.int w6), .unset] [(.int (6 : Int32)), (.int bs), (.ref b20)]) _
  refine Go.of (fun tg_ kk_ => XS.iadd X44.here hx rfl (hb hby at_172) rfl kk_) ?_
  show Go p e below T44 (mkF m 173 #[.val (.int p0), .val (.int p1), .val (.int p2), .val (.int p3), .val (.int p4), .val (.ref b1), .val (.ref b20), .val (.int kk), .val (.int bs), .val (.int w6), .unset] [(.int (bs + (6 : Int32))), (.ref b20)]) _
  obtain ⟨cq46, kq46, q46a, q46b, q46c⟩ := isOf hZ e44 F29
  obtain ⟨_, _, ⟨T46, L46, k46, n46⟩, -, X46, ⟨Lc46, hQ46, l46, y46, z46⟩, st46⟩ := X44.virtualBack hx (y := (⟨"com/example/attestry/attestry/DerReader$BitString", "bit", "(I)Z"⟩ : MethodName)) (z := (⟨"com/example/attestry/attestry/DerReader$BitString", "bit", "(I)Z"⟩ : MethodName)) hown (mvT hZ (hw _ (List.mem_of_getElem? (i := 19) rfl))) (mvT hZ (hw _ (List.mem_of_getElem? (i := 20) rfl))) (notFace_of_selects (args := #[]) (mvT hZ (hw _ (List.mem_of_getElem? (i := 22) rfl)))) (mvT hZ (hw _ (List.mem_of_getElem? (i := 22) rfl))) (mvT hZ (hw _ (List.mem_of_getElem? (i := 21) rfl))) (by decide) (backOf (W := 0) (rm4 l Z a0 hw [] b20 (bs + (6 : Int32)) b1 f16 T27.heap n0 Zs33 F27a F28 (by rw [hq6.1]; exact hkk)) hZ (hw _ (List.mem_of_getElem? (i := 23) rfl)) (hw _ (List.mem_of_getElem? (i := 3) rfl)) (by decide) (by decide)) q46a q46c (g := (mkF m 173 #[.val (.int p0), .val (.int p1), .val (.int p2), .val (.int p3), .val (.int p4), .val (.ref b1), .val (.ref b20), .val (.int kk), .val (.int bs), .val (.int w6), .unset] [(.int (bs + (6 : Int32))), (.ref b20)])) rfl (by rw [hml]; rfl) (Steps.refl _) (argsL := [(.int (bs + (6 : Int32)))]) (rest := []) (lenOf pd_2 rfl) rfl (by show 2 * 0 + _ ≤ _; exact Nat.le_of_eq rfl) (hb hby at_173) (fun _ _ => ⟨rfl, e44, (by decide : 2 + 0 ≤ _), (by decide : 6 + 0 ≤ _)⟩)
  dsimp only [Pt.U, Pt.locs, Pt.cells, Pt.slots] at X46 l46 y46 z46 st46 hQ46
  subst l46 y46 z46
  obtain ⟨rfl, N46q, e46⟩ := hQ46
  have N46 := Fr.app N44 N46q
  refine Go.of (fun tg_ kk_ => st46.trans kk_) ?_
  show Go p e below T46 (mkF m 176 #[.val (.int p0), .val (.int p1), .val (.int p2), .val (.int p3), .val (.int p4), .val (.ref b1), .val (.ref b20), .val (.int kk), .val (.int bs), .val (.int w6), .unset] [(.int (bitF f16 (bs + (6 : Int32))))]) _
  have st47 : ∀ w7 : Int32, w7 = (if (bitF f16 (bs + (6 : Int32))) = (0 : Int32) then w6 else (w6 ||| (2 : Int32))) → ∀ t, Steps p.tables e below (T46.setTop (mkF m 185 #[.val (.int p0), .val (.int p1), .val (.int p2), .val (.int p3), .val (.int p4), .val (.ref b1), .val (.ref b20), .val (.int kk), .val (.int bs), .val (.int w7), .unset] [])) t → Steps p.tables e below (T46.setTop (mkF m 176 #[.val (.int p0), .val (.int p1), .val (.int p2), .val (.int p3), .val (.int p4), .val (.ref b1), .val (.ref b20), .val (.int kk), .val (.int bs), .val (.int w6), .unset] [(.int (bitF f16 (bs + (6 : Int32))))])) t := by
    intro w7 qw7 tg_ kk_
    by_cases hc : (bitF f16 (bs + (6 : Int32))) = (0 : Int32)
    · rw [if_pos hc] at qw7; rw [qw7] at kk_
      show Steps p.tables e below (T46.setTop (mkF m 176 #[.val (.int p0), .val (.int p1), .val (.int p2), .val (.int p3), .val (.int p4), .val (.ref b1), .val (.ref b20), .val (.int kk), .val (.int bs), .val (.int w6), .unset] [(.int (bitF f16 (bs + (6 : Int32))))])) _
      refine XS.ifYes X46.here hx rfl (pc0 := 176) (pc' := 185) rfl (hb hby at_176) rfl ((if0 _ _).trans (teq hc).1) (by decide) (by decide) ?_
      show Steps p.tables e below (T46.setTop (mkF m 185 #[.val (.int p0), .val (.int p1), .val (.int p2), .val (.int p3), .val (.int p4), .val (.ref b1), .val (.ref b20), .val (.int kk), .val (.int bs), .val (.int w6), .unset] [])) _
      exact kk_
    · rw [if_neg hc] at qw7; rw [qw7] at kk_
      show Steps p.tables e below (T46.setTop (mkF m 176 #[.val (.int p0), .val (.int p1), .val (.int p2), .val (.int p3), .val (.int p4), .val (.ref b1), .val (.ref b20), .val (.int kk), .val (.int bs), .val (.int w6), .unset] [(.int (bitF f16 (bs + (6 : Int32))))])) _
      refine XS.ifNo X46.here hx rfl (hb hby at_176) rfl ((if0 _ _).trans (feq hc).1) ?_
      show Steps p.tables e below (T46.setTop (mkF m 179 #[.val (.int p0), .val (.int p1), .val (.int p2), .val (.int p3), .val (.int p4), .val (.ref b1), .val (.ref b20), .val (.int kk), .val (.int bs), .val (.int w6), .unset] [])) _
      refine XS.iload X46.here hx rfl (hb hby at_179) rfl ?_
      show Steps p.tables e below (T46.setTop (mkF m 181 #[.val (.int p0), .val (.int p1), .val (.int p2), .val (.int p3), .val (.int p4), .val (.ref b1), .val (.ref b20), .val (.int kk), .val (.int bs), .val (.int w6), .unset] [(.int w6)])) _
      refine XS.iconst X46.here hx rfl (hb hby at_181) ?_
      show Steps p.tables e below (T46.setTop (mkF m 182 #[.val (.int p0), .val (.int p1), .val (.int p2), .val (.int p3), .val (.int p4), .val (.ref b1), .val (.ref b20), .val (.int kk), .val (.int bs), .val (.int w6), .unset] [(.int (2 : Int32)), (.int w6)])) _
      refine XS.ior X46.here hx rfl (hb hby at_182) rfl ?_
      show Steps p.tables e below (T46.setTop (mkF m 183 #[.val (.int p0), .val (.int p1), .val (.int p2), .val (.int p3), .val (.int p4), .val (.ref b1), .val (.ref b20), .val (.int kk), .val (.int bs), .val (.int w6), .unset] [(.int (w6 ||| (2 : Int32)))])) _
      refine XS.istore X46.here hx rfl (hb hby at_183) rfl (l' := #[.val (.int p0), .val (.int p1), .val (.int p2), .val (.int p3), .val (.int p4), .val (.ref b1), .val (.ref b20), .val (.int kk), .val (.int bs), .val (.int (w6 ||| (2 : Int32))), .unset]) rfl ?_
      show Steps p.tables e below (T46.setTop (mkF m 185 #[.val (.int p0), .val (.int p1), .val (.int p2), .val (.int p3), .val (.int p4), .val (.ref b1), .val (.ref b20), .val (.int kk), .val (.int bs), .val (.int (w6 ||| (2 : Int32))), .unset] [])) _
      exact kk_
  obtain ⟨w7, qw7⟩ : ∃ z : Int32, z = (if (bitF f16 (bs + (6 : Int32))) = (0 : Int32) then w6 else (w6 ||| (2 : Int32))) := ⟨_, rfl⟩
  refine Go.of (st47 w7 qw7) ?_
  show Go p e below T46 (mkF m 185 #[.val (.int p0), .val (.int p1), .val (.int p2), .val (.int p3), .val (.int p4), .val (.ref b1), .val (.ref b20), .val (.int kk), .val (.int bs), .val (.int w7), .unset] []) _
  refine Go.of (fun tg_ kk_ => XS.aload X46.here hx rfl (hb hby at_185) rfl rfl kk_) ?_
  show Go p e below T46 (mkF m 187 #[.val (.int p0), .val (.int p1), .val (.int p2), .val (.int p3), .val (.int p4), .val (.ref b1), .val (.ref b20), .val (.int kk), .val (.int bs), .val (.int w7), .unset] [(.ref b20)]) _
  refine Go.of (fun tg_ kk_ => XS.iload X46.here hx rfl (hb hby at_187) rfl kk_) ?_
  show Go p e below T46 (mkF m 189 #[.val (.int p0), .val (.int p1), .val (.int p2), .val (.int p3), .val (.int p4), .val (.ref b1), .val (.ref b20), .val (.int kk), .val (.int bs), .val (.int w7), .unset] [(.int bs), (.ref b20)]) _
  refine Go.of (fun tg_ kk_ => XS.bipush X46.here hx rfl (hb hby at_189) kk_) ?_
  show Go p e below T46 (mkF m 191 #[.val (.int p0), .val (.int p1), .val (.int p2), .val (.int p3), .val (.int p4), .val (.ref b1), .val (.ref b20), .val (.int kk), .val (.int bs), .val (.int w7), .unset] [(.int (7 : Int32)), (.int bs), (.ref b20)]) _
  refine Go.of (fun tg_ kk_ => XS.iadd X46.here hx rfl (hb hby at_191) rfl kk_) ?_
  show Go p e below T46 (mkF m 192 #[.val (.int p0), .val (.int p1), .val (.int p2), .val (.int p3), .val (.int p4), .val (.ref b1), .val (.ref b20), .val (.int kk), .val (.int bs), .val (.int w7), .unset] [(.int (bs + (7 : Int32))), (.ref b20)]) _
  obtain ⟨cq48, kq48, q48a, q48b, q48c⟩ := isOf hZ e46 F29
  obtain ⟨_, _, ⟨T48, L48, k48, n48⟩, -, X48, ⟨Lc48, hQ48, l48, y48, z48⟩, st48⟩ := X46.virtualBack hx (y := (⟨"com/example/attestry/attestry/DerReader$BitString", "bit", "(I)Z"⟩ : MethodName)) (z := (⟨"com/example/attestry/attestry/DerReader$BitString", "bit", "(I)Z"⟩ : MethodName)) hown (mvT hZ (hw _ (List.mem_of_getElem? (i := 19) rfl))) (mvT hZ (hw _ (List.mem_of_getElem? (i := 20) rfl))) (notFace_of_selects (args := #[]) (mvT hZ (hw _ (List.mem_of_getElem? (i := 22) rfl)))) (mvT hZ (hw _ (List.mem_of_getElem? (i := 22) rfl))) (mvT hZ (hw _ (List.mem_of_getElem? (i := 21) rfl))) (by decide) (backOf (W := 0) (rm4 l Z a0 hw [] b20 (bs + (7 : Int32)) b1 f16 T27.heap n0 Zs33 F27a F28 (by rw [hq7.1]; exact hkk)) hZ (hw _ (List.mem_of_getElem? (i := 23) rfl)) (hw _ (List.mem_of_getElem? (i := 3) rfl)) (by decide) (by decide)) q48a q48c (g := (mkF m 192 #[.val (.int p0), .val (.int p1), .val (.int p2), .val (.int p3), .val (.int p4), .val (.ref b1), .val (.ref b20), .val (.int kk), .val (.int bs), .val (.int w7), .unset] [(.int (bs + (7 : Int32))), (.ref b20)])) rfl (by rw [hml]; rfl) (Steps.refl _) (argsL := [(.int (bs + (7 : Int32)))]) (rest := []) (lenOf pd_2 rfl) rfl (by show 2 * 0 + _ ≤ _; exact Nat.le_of_eq rfl) (hb hby at_192) (fun _ _ => ⟨rfl, e46, (by decide : 2 + 0 ≤ _), (by decide : 6 + 0 ≤ _)⟩)
  dsimp only [Pt.U, Pt.locs, Pt.cells, Pt.slots] at X48 l48 y48 z48 st48 hQ48
  subst l48 y48 z48
  obtain ⟨rfl, N48q, e48⟩ := hQ48
  have N48 := Fr.app N46 N48q
  refine Go.of (fun tg_ kk_ => st48.trans kk_) ?_
  show Go p e below T48 (mkF m 195 #[.val (.int p0), .val (.int p1), .val (.int p2), .val (.int p3), .val (.int p4), .val (.ref b1), .val (.ref b20), .val (.int kk), .val (.int bs), .val (.int w7), .unset] [(.int (bitF f16 (bs + (7 : Int32))))]) _
  have st49 : ∀ w8 : Int32, w8 = (if (bitF f16 (bs + (7 : Int32))) = (0 : Int32) then w7 else (w7 ||| (1 : Int32))) → ∀ t, Steps p.tables e below (T48.setTop (mkF m 204 #[.val (.int p0), .val (.int p1), .val (.int p2), .val (.int p3), .val (.int p4), .val (.ref b1), .val (.ref b20), .val (.int kk), .val (.int bs), .val (.int w8), .unset] [])) t → Steps p.tables e below (T48.setTop (mkF m 195 #[.val (.int p0), .val (.int p1), .val (.int p2), .val (.int p3), .val (.int p4), .val (.ref b1), .val (.ref b20), .val (.int kk), .val (.int bs), .val (.int w7), .unset] [(.int (bitF f16 (bs + (7 : Int32))))])) t := by
    intro w8 qw8 tg_ kk_
    by_cases hc : (bitF f16 (bs + (7 : Int32))) = (0 : Int32)
    · rw [if_pos hc] at qw8; rw [qw8] at kk_
      show Steps p.tables e below (T48.setTop (mkF m 195 #[.val (.int p0), .val (.int p1), .val (.int p2), .val (.int p3), .val (.int p4), .val (.ref b1), .val (.ref b20), .val (.int kk), .val (.int bs), .val (.int w7), .unset] [(.int (bitF f16 (bs + (7 : Int32))))])) _
      refine XS.ifYes X48.here hx rfl (pc0 := 195) (pc' := 204) rfl (hb hby at_195) rfl ((if0 _ _).trans (teq hc).1) (by decide) (by decide) ?_
      show Steps p.tables e below (T48.setTop (mkF m 204 #[.val (.int p0), .val (.int p1), .val (.int p2), .val (.int p3), .val (.int p4), .val (.ref b1), .val (.ref b20), .val (.int kk), .val (.int bs), .val (.int w7), .unset] [])) _
      exact kk_
    · rw [if_neg hc] at qw8; rw [qw8] at kk_
      show Steps p.tables e below (T48.setTop (mkF m 195 #[.val (.int p0), .val (.int p1), .val (.int p2), .val (.int p3), .val (.int p4), .val (.ref b1), .val (.ref b20), .val (.int kk), .val (.int bs), .val (.int w7), .unset] [(.int (bitF f16 (bs + (7 : Int32))))])) _
      refine XS.ifNo X48.here hx rfl (hb hby at_195) rfl ((if0 _ _).trans (feq hc).1) ?_
      show Steps p.tables e below (T48.setTop (mkF m 198 #[.val (.int p0), .val (.int p1), .val (.int p2), .val (.int p3), .val (.int p4), .val (.ref b1), .val (.ref b20), .val (.int kk), .val (.int bs), .val (.int w7), .unset] [])) _
      refine XS.iload X48.here hx rfl (hb hby at_198) rfl ?_
      show Steps p.tables e below (T48.setTop (mkF m 200 #[.val (.int p0), .val (.int p1), .val (.int p2), .val (.int p3), .val (.int p4), .val (.ref b1), .val (.ref b20), .val (.int kk), .val (.int bs), .val (.int w7), .unset] [(.int w7)])) _
      refine XS.iconst X48.here hx rfl (hb hby at_200) ?_
      show Steps p.tables e below (T48.setTop (mkF m 201 #[.val (.int p0), .val (.int p1), .val (.int p2), .val (.int p3), .val (.int p4), .val (.ref b1), .val (.ref b20), .val (.int kk), .val (.int bs), .val (.int w7), .unset] [(.int (1 : Int32)), (.int w7)])) _
      refine XS.ior X48.here hx rfl (hb hby at_201) rfl ?_
      show Steps p.tables e below (T48.setTop (mkF m 202 #[.val (.int p0), .val (.int p1), .val (.int p2), .val (.int p3), .val (.int p4), .val (.ref b1), .val (.ref b20), .val (.int kk), .val (.int bs), .val (.int w7), .unset] [(.int (w7 ||| (1 : Int32)))])) _
      refine XS.istore X48.here hx rfl (hb hby at_202) rfl (l' := #[.val (.int p0), .val (.int p1), .val (.int p2), .val (.int p3), .val (.int p4), .val (.ref b1), .val (.ref b20), .val (.int kk), .val (.int bs), .val (.int (w7 ||| (1 : Int32))), .unset]) rfl ?_
      show Steps p.tables e below (T48.setTop (mkF m 204 #[.val (.int p0), .val (.int p1), .val (.int p2), .val (.int p3), .val (.int p4), .val (.ref b1), .val (.ref b20), .val (.int kk), .val (.int bs), .val (.int (w7 ||| (1 : Int32))), .unset] [])) _
      exact kk_
  obtain ⟨w8, qw8⟩ : ∃ z : Int32, z = (if (bitF f16 (bs + (7 : Int32))) = (0 : Int32) then w7 else (w7 ||| (1 : Int32))) := ⟨_, rfl⟩
  refine Go.of (st49 w8 qw8) ?_
  show Go p e below T48 (mkF m 204 #[.val (.int p0), .val (.int p1), .val (.int p2), .val (.int p3), .val (.int p4), .val (.ref b1), .val (.ref b20), .val (.int kk), .val (.int bs), .val (.int w8), .unset] []) _
  refine Go.of (fun tg_ kk_ => XS.aload X48.here hx rfl (hb hby at_204) rfl rfl kk_) ?_
  show Go p e below T48 (mkF m 206 #[.val (.int p0), .val (.int p1), .val (.int p2), .val (.int p3), .val (.int p4), .val (.ref b1), .val (.ref b20), .val (.int kk), .val (.int bs), .val (.int w8), .unset] [(.ref b1)]) _
  refine Go.of (fun tg_ kk_ => XS.iload X48.here hx rfl (hb hby at_206) rfl kk_) ?_
  show Go p e below T48 (mkF m 208 #[.val (.int p0), .val (.int p1), .val (.int p2), .val (.int p3), .val (.int p4), .val (.ref b1), .val (.ref b20), .val (.int kk), .val (.int bs), .val (.int w8), .unset] [(.int kk), (.ref b1)]) _
  have ib50 := (show ¬ (kk < 0) ∧ (kk).toNatClampNeg < 4 from hkk)
  obtain ⟨cl50, Ar50, S50, H50⟩ := F28
  refine Go.of (X48.baloadBytes hx (j := kk) (v := (.int (f16 (kk).toNatClampNeg))) (by rw [e48]; exact Ar50.1) (State.isArrayOf_alike hZ.alike Ar50.2.1) Ar50.2.2 (Af.inb S50 ib50) (Af.at H50 rfl ib50) (g := (mkF m 208 #[.val (.int p0), .val (.int p1), .val (.int p2), .val (.int p3), .val (.int p4), .val (.ref b1), .val (.ref b20), .val (.int kk), .val (.int bs), .val (.int w8), .unset] [(.int kk), (.ref b1)])) rfl rfl (hb hby at_208)) ?_
  show Go p e below T48 (mkF m 209 #[.val (.int p0), .val (.int p1), .val (.int p2), .val (.int p3), .val (.int p4), .val (.ref b1), .val (.ref b20), .val (.int kk), .val (.int bs), .val (.int w8), .unset] [(.int (f16 (kk).toNatClampNeg))]) _
  refine Go.of (fun tg_ kk_ => XS.sipush X48.here hx rfl (hb hby at_209) kk_) ?_
  show Go p e below T48 (mkF m 212 #[.val (.int p0), .val (.int p1), .val (.int p2), .val (.int p3), .val (.int p4), .val (.ref b1), .val (.ref b20), .val (.int kk), .val (.int bs), .val (.int w8), .unset] [(.int (255 : Int32)), (.int (f16 (kk).toNatClampNeg))]) _
  refine Go.of (fun tg_ kk_ => XS.iand X48.here hx rfl (hb hby at_212) rfl kk_) ?_
  show Go p e below T48 (mkF m 213 #[.val (.int p0), .val (.int p1), .val (.int p2), .val (.int p3), .val (.int p4), .val (.ref b1), .val (.ref b20), .val (.int kk), .val (.int bs), .val (.int w8), .unset] [(.int ((f16 (kk).toNatClampNeg) &&& (255 : Int32)))]) _
  refine Go.of (fun tg_ kk_ => XS.istore X48.here hx rfl (hb hby at_213) rfl (l' := #[.val (.int p0), .val (.int p1), .val (.int p2), .val (.int p3), .val (.int p4), .val (.ref b1), .val (.ref b20), .val (.int kk), .val (.int bs), .val (.int w8), .val (.int ((f16 (kk).toNatClampNeg) &&& (255 : Int32)))]) rfl kk_) ?_
  show Go p e below T48 (mkF m 215 #[.val (.int p0), .val (.int p1), .val (.int p2), .val (.int p3), .val (.int p4), .val (.ref b1), .val (.ref b20), .val (.int kk), .val (.int bs), .val (.int w8), .val (.int ((f16 (kk).toNatClampNeg) &&& (255 : Int32)))] []) _
  refine Go.of (fun tg_ kk_ => XS.iload X48.here hx rfl (hb hby at_215) rfl kk_) ?_
  show Go p e below T48 (mkF m 217 #[.val (.int p0), .val (.int p1), .val (.int p2), .val (.int p3), .val (.int p4), .val (.ref b1), .val (.ref b20), .val (.int kk), .val (.int bs), .val (.int w8), .val (.int ((f16 (kk).toNatClampNeg) &&& (255 : Int32)))] [(.int w8)]) _
  refine Go.of (fun tg_ kk_ => XS.iload X48.here hx rfl (hb hby at_217) rfl kk_) ?_
  show Go p e below T48 (mkF m 219 #[.val (.int p0), .val (.int p1), .val (.int p2), .val (.int p3), .val (.int p4), .val (.ref b1), .val (.ref b20), .val (.int kk), .val (.int bs), .val (.int w8), .val (.int ((f16 (kk).toNatClampNeg) &&& (255 : Int32)))] [(.int ((f16 (kk).toNatClampNeg) &&& (255 : Int32))), (.int w8)]) _
  have r1 := own_st (k := 7) (m := (128 : Int32)) hq0.1 hq0.2 (by decide) (by decide) qw1
  have r2 := own_st (k := 6) (m := (64 : Int32)) hq1.1 hq1.2 (by decide) (by decide) qw2
  have r3 := own_st (k := 5) (m := (32 : Int32)) hq2.1 hq2.2 (by decide) (by decide) qw3
  have r4 := own_st (k := 4) (m := (16 : Int32)) hq3.1 hq3.2 (by decide) (by decide) qw4
  have r5 := own_st (k := 3) (m := (8 : Int32)) hq4.1 hq4.2 (by decide) (by decide) qw5
  have r6 := own_st (k := 2) (m := (4 : Int32)) hq5.1 hq5.2 (by decide) (by decide) qw6
  have r7 := own_st (k := 1) (m := (2 : Int32)) hq6.1 hq6.2 (by decide) (by decide) qw7
  have r8 := own_st (k := 0) (m := (1 : Int32)) hq7.1 hq7.2 (by decide) (by decide) qw8
  refine Go.of (fun tg_ kk_ => XS.icmpNo X48.here hx rfl (hb hby at_219) rfl (teq (show w8 = ((f16 (kk).toNatClampNeg) &&& (255 : Int32)) from (by rw [r8, r7, r6, r5, r4, r3, r2, r1]; exact own_or8 _))).2 kk_) ?_
  show Go p e below T48 (mkF m 222 #[.val (.int p0), .val (.int p1), .val (.int p2), .val (.int p3), .val (.int p4), .val (.ref b1), .val (.ref b20), .val (.int kk), .val (.int bs), .val (.int w8), .val (.int ((f16 (kk).toNatClampNeg) &&& (255 : Int32)))] []) _
  refine Go.of (fun tg_ kk_ => XS.iconst X48.here hx rfl (hb hby at_222) kk_) ?_
  show Go p e below T48 (mkF m 223 #[.val (.int p0), .val (.int p1), .val (.int p2), .val (.int p3), .val (.int p4), .val (.ref b1), .val (.ref b20), .val (.int kk), .val (.int bs), .val (.int w8), .val (.int ((f16 (kk).toNatClampNeg) &&& (255 : Int32)))] [(.int (1 : Int32))]) _
  refine Go.of (fun tg_ kk_ => XS.goto X48.here hx rfl (pc0 := 223) (pc' := 227) rfl (hb hby at_223) (by decide) (by decide) kk_) ?_
  show Go p e below T48 (mkF m 227 #[.val (.int p0), .val (.int p1), .val (.int p2), .val (.int p3), .val (.int p4), .val (.ref b1), .val (.ref b20), .val (.int kk), .val (.int bs), .val (.int w8), .val (.int ((f16 (kk).toNatClampNeg) &&& (255 : Int32)))] [(.int (1 : Int32))]) _
  obtain ⟨fs, hr, hrun, hended, hW, hsame⟩ := X48.leave (v := some (.int (1 : Int32))) (fun h => by rw [Bd.returns] at h; cases h)
  refine ⟨_, _, ?_, hrun, hended, _, _, rfl, ?_, ⟨_, rfl⟩, hW, hsame.mono (by decide) (by decide)⟩
  · exact retN X48 hx (t := .boolean) Bd.returns (by simp) (hb hby at_227) hr
  · show Q0 Z p0 p1 p2 p3 p4 h0 n0 _ T48.heap _
    rw [e48]
    exact ⟨rfl, N48⟩
set_option maxRecDepth 65536 in
set_option maxHeartbeats 40000000 in
theorem comes_1 {Post : Tables → Env → Array Value → State → Outcome → State → Prop} (hpost : ∀ tb e args s v u, (limb_1_1.after args s (.returned v) u = true ∧ limb_1_2.after args s (.returned v) u = true ∧ True) → FrameEnd s (.returned v) u (Jvm.fieldLocs frame_1_writes args s ++ Jvm.arrayLocs frame_1_arrays args s ++ Jvm.staticLocs frame_1_statics s) 16 128 → Post tb e args s (.returned v) u) :
    ArmFor flags0 classFile x code maxLocals ret World_1 tables_1 room_1 Calls_1 rest_1 Pre_1 Post := by
  intro l hfl _ _ p e ha hc hk s m args below hf hA hF happ hP
  obtain ⟨hcalls, hrest, hpre⟩ := hP
  obtain ⟨-, -, -, hnamed, -, -, -, hat⟩ := (Spec.applies_iff hf).mp happ
  obtain ⟨hg, hn⟩ := and_e (Cond.before_iff.mp (show (Jvm.Cond.and given_1 narrow_1).before args s = true from hpre))
  obtain ⟨gc, gr0⟩ := and_e hg
  obtain ⟨ga0, gr1⟩ := and_e gr0
  obtain ⟨ga1, gr2⟩ := and_e gr1
  obtain ⟨ga2, gr3⟩ := and_e gr2
  obtain ⟨ga3, gr4⟩ := and_e gr3
  obtain ⟨w0, w1, w2, w3, w4, rfl⟩ : ∃ w0 w1 w2 w3 w4 : Value, args = #[w0, w1, w2, w3, w4] := by
    have hs : args.size = 5 := by simpa [Cond.value, given_1] using gc
    obtain ⟨L⟩ := args
    match L, hs with
    | [w0, w1, w2, w3, w4], _ => exact ⟨w0, w1, w2, w3, w4, rfl⟩
  have hw := fun d (hd : d ∈ tables_1) => atoms_spec (ws := Jvm.Cond.code x code maxLocals ret :: tables_1) hat d (List.mem_cons_of_mem _ hd)
  obtain ⟨i0, ei0⟩ := is_v ga0
  obtain rfl : w0 = (.int i0) := Option.some.inj ei0
  obtain ⟨i1, ei1⟩ := is_v ga1
  obtain rfl : w1 = (.int i1) := Option.some.inj ei1
  obtain ⟨i2, ei2⟩ := is_v ga2
  obtain rfl : w2 = (.int i2) := Option.some.inj ei2
  obtain ⟨i3, ei3⟩ := is_v ga3
  obtain rfl : w3 = (.int i3) := Option.some.inj ei3
  obtain ⟨i4, ei4⟩ := is_v gr4
  obtain rfl : w4 = (.int i4) := Option.some.inj ei4
  obtain ⟨n, o, h1, h2, h3, _, L, rfl, ⟨rfl, N⟩, hq⟩ := rm0 l s _ hw tables_1 i0 i1 i2 i3 i4 s.heap s.heap.size (Nat.le_refl _) p e ha hc hk s m _ below hf ((Spec.applies_iff_loose hf).mp happ).1 ⟨rfl, State.Warmed39.refl s, rfl⟩ trivial
  refine ⟨n, _, h1, h2, h3, hpost _ _ _ _ _ _ ⟨Cond.after_iff.mpr rfl, Cond.after_iff.mpr (eq_i res_at (Term.int_eval (1)) rfl), trivial⟩ ⟨hq.1, hq.2.1, (hq.2.2.sift fun y hy => Or.inr (N y hy)).mono (by decide) (by decide)⟩⟩
theorem main_1_1 : Claimed_1_1 := comes_1 fun _ _ _ _ _ _ h hF => ⟨h.1, hF⟩
theorem main_1_2 : Claimed_1_2 := comes_1 fun _ _ _ _ _ _ h hF => ⟨h.2.1, hF⟩
end Jvm.Pilot.@@N@@
namespace Jvm.Pilot.@@N@@
open Jvm Jvm.ClassFile Sem Op Lib Jvm.Free Jvm.Stand Jvm.Pilot.@@N@@.Jvm.D
/-! MADE BY PROGRAM (witnessworld.py) out of the Statement's table words and the real class files: 10 classes; the members and pool entries that the words name. The judged class is class 1, her method 1. -/
namespace start1
open Jvm.ClassFile
def u (s : String) : CpInfo := .utf8 (stringToUtf16 s)
/-- a pool by its gaps: so many unusable entries, then the entry; so many at the end -/
def gap : Nat → List CpInfo → List CpInfo
  | 0, r => r
  | n + 1, r => .unusable :: gap n r
def poolList (es : List (Nat × CpInfo)) (last : Nat) : List CpInfo := es.foldr (fun e r => gap e.1 (e.2 :: r)) (gap last [])
def pool (es : List (Nat × CpInfo)) (last : Nat) : Array CpInfo := ⟨poolList es last⟩
def fileOf (pool : Array CpInfo) (this : Nat) (attrs : Array Attribute := #[]) (ms : Array MethodInfo := #[]) (fl : Nat := 33) (sup : Nat := 0) (ifs : Array Nat := #[]) (fds : Array FieldInfo := #[]) : ClassFile where
  minorVersion := 0
  majorVersion := 65
  constantPool := pool
  accessFlags := fl
  thisClass := this
  superClass := sup
  interfaces := ifs
  fields := fds
  methods := ms
  attributes := attrs
def plain (name : String) (sup : Option ClassId) : Class where
  name := name
  kind := .ordinary
  loader := none
  accessFlags := 33
  super := sup
  interfaces := #[]
  cf := none
  fields := #[]
  methods := #[]
  instanceTypes := #[]
  staticTypes := #[]
  resolved := #[]
  callSites := []
  init := .initialized
  statics := none
  mirror := none

def pool0 : Array CpInfo := pool [(5, u "<init>"), (0, u "()V"), (1, .class_ 10), (1, u "java/lang/Object")] 113

def k0c0 : Code := { maxStack := 0, maxLocals := 1, code := object_method_1_code, exceptionTable := #[], attributes := #[] }
def k0m0 : Method := { name := "<init>", desc := "()V", sig := { parameters := [], returnType := none }, accessFlags := 1, code := some k0c0 }
/-- java/lang/Object -/
def k0 : Class := { plain "java/lang/Object" none with
  accessFlags := 33
  interfaces := #[]
  cf := some (fileOf pool0 8 #[] #[{ accessFlags := 1, nameIndex := 5, descriptorIndex := 6, attributes := #[] }] 33 0 #[] #[])
  fields := #[]
  methods := #[k0m0]
  instanceTypes := #[]
  staticTypes := #[]
  resolved := Array.replicate 124 none
  statics := none }

def pool1 : Array CpInfo := pool [(2, .class_ 4), (1, u "java/lang/Object"), (0, u "<init>"), (0, u "()V"), (0, .class_ 8), (0, u "com/example/attestry/attestry/DerReader$BitString"), (0, .methodref 7 10), (0, .nameAndType 5 11), (0, u "([BI)V"), (0, .methodref 7 13), (0, .nameAndType 14 15), (0, u "bit"), (0, u "(I)Z"), (0, .class_ 17), (0, u "com/example/attestry/attestry/BitStringBitPinLaw"), (2, u "law"), (0, u "(IIIII)Z")] 9

def k1m0 : Method := { name := "<init>", desc := "()V", sig := { parameters := [], returnType := none }, accessFlags := 1, code := none }
def k1c1 : Code := { maxStack := 4, maxLocals := 11, code := code, exceptionTable := #[], attributes := #[] }
def k1m1 : Method := { name := "law", desc := "(IIIII)Z", sig := { parameters := [.int, .int, .int, .int, .int], returnType := some .boolean }, accessFlags := 9, code := some k1c1 }
/-- com/example/attestry/attestry/BitStringBitPinLaw -/
def k1 : Class := { plain "com/example/attestry/attestry/BitStringBitPinLaw" (some 0) with
  accessFlags := 49
  interfaces := #[]
  cf := some (fileOf pool1 16 #[] #[{ accessFlags := 1, nameIndex := 5, descriptorIndex := 6, attributes := #[] }, { accessFlags := 9, nameIndex := 20, descriptorIndex := 21, attributes := #[] }] 49 2 #[] #[])
  fields := #[]
  methods := #[k1m0, k1m1]
  instanceTypes := #[]
  staticTypes := #[]
  resolved := Array.replicate 31 none
  statics := none }

def pool2 : Array CpInfo := pool [(1, .methodref 2 3), (0, .class_ 4), (0, .nameAndType 5 6), (0, u "java/lang/Object"), (0, u "<init>"), (0, u "()V"), (0, .class_ 8), (0, u "java/lang/Record")] 13

def k2c0 : Code := { maxStack := 1, maxLocals := 1, code := jdk_30_method_1_code, exceptionTable := #[], attributes := #[] }
def k2m0 : Method := { name := "<init>", desc := "()V", sig := { parameters := [], returnType := none }, accessFlags := 4, code := some k2c0 }
/-- java/lang/Record -/
def k2 : Class := { plain "java/lang/Record" (some 0) with
  accessFlags := 1057
  interfaces := #[]
  cf := some (fileOf pool2 7 #[] #[{ accessFlags := 4, nameIndex := 5, descriptorIndex := 6, attributes := #[] }] 1057 2 #[] #[])
  fields := #[]
  methods := #[k2m0]
  instanceTypes := #[]
  staticTypes := #[]
  resolved := Array.replicate 22 none
  statics := none }

def pool3 : Array CpInfo := pool [(1, .methodref 2 3), (0, .class_ 4), (0, .nameAndType 5 6), (0, u "java/lang/Record"), (0, u "<init>"), (0, u "()V"), (0, .fieldref 8 9), (0, .class_ 10), (0, .nameAndType 11 12), (0, u "com/example/attestry/attestry/DerReader$BitString"), (0, u "octets"), (0, u "[B"), (0, .fieldref 8 14), (0, .nameAndType 15 16), (0, u "length"), (0, u "I"), (14, u "([BI)V"), (3, u "bit"), (0, u "(I)Z"), (8, .class_ 46), (0, u "com/example/attestry/attestry/DerReader")] 20

def k3c0 : Code := { maxStack := 2, maxLocals := 3, code := prog_6_method_1_code, exceptionTable := #[], attributes := #[] }
def k3m0 : Method := { name := "<init>", desc := "([BI)V", sig := { parameters := [(.array .byte), .int], returnType := none }, accessFlags := 0, code := some k3c0 }
def k3c1 : Code := { maxStack := 4, maxLocals := 2, code := prog_6_method_2_code, exceptionTable := #[], attributes := #[] }
def k3m1 : Method := { name := "bit", desc := "(I)Z", sig := { parameters := [.int], returnType := some .boolean }, accessFlags := 0, code := some k3c1 }
/-- com/example/attestry/attestry/DerReader$BitString -/
def k3 : Class := { plain "com/example/attestry/attestry/DerReader$BitString" (some 2) with
  accessFlags := 48
  interfaces := #[]
  cf := some (fileOf pool3 8 #[.nestHost 45] #[{ accessFlags := 0, nameIndex := 5, descriptorIndex := 31, attributes := #[] }, { accessFlags := 0, nameIndex := 35, descriptorIndex := 36, attributes := #[] }] 48 2 #[] #[{ accessFlags := 18, nameIndex := 11, descriptorIndex := 12, attributes := #[] }, { accessFlags := 18, nameIndex := 15, descriptorIndex := 16, attributes := #[] }])
  fields := #[{ name := "octets", type := (.array .byte), accessFlags := 18, slot := 0, constantValue := 0 }, { name := "length", type := .int, accessFlags := 18, slot := 1, constantValue := 0 }]
  methods := #[k3m0, k3m1]
  instanceTypes := #[(.array .byte), .int]
  staticTypes := #[]
  resolved := Array.replicate 67 none
  statics := none }

def pool4 : Array CpInfo := pool [(1, u "java/lang/Cloneable"), (0, .class_ 1), (0, u "java/lang/Object"), (0, .class_ 3)] 3

/-- java/lang/Cloneable -/
def k4 : Class := { plain "java/lang/Cloneable" (some 0) with
  accessFlags := 1537
  interfaces := #[]
  cf := some (fileOf pool4 2 #[] #[] 1537 4 #[] #[])
  fields := #[]
  methods := #[]
  instanceTypes := #[]
  staticTypes := #[]
  resolved := Array.replicate 8 none
  statics := none }

def pool5 : Array CpInfo := pool [(1, u "java/io/Serializable"), (0, .class_ 1), (0, u "java/lang/Object"), (0, .class_ 3)] 3

/-- java/io/Serializable -/
def k5 : Class := { plain "java/io/Serializable" (some 0) with
  accessFlags := 1537
  interfaces := #[]
  cf := some (fileOf pool5 2 #[] #[] 1537 4 #[] #[])
  fields := #[]
  methods := #[]
  instanceTypes := #[]
  staticTypes := #[]
  resolved := Array.replicate 8 none
  statics := none }

/-- the primitive byte -/
def k6 : Class := { plain "byte" none with kind := .primitive 'B', accessFlags := 0x411 }
/-- [B -/
def k7 : Class := { plain "[B" (some 0) with kind := .array 6 .byte, interfaces := #[4, 5], accessFlags := 1041 }

/-- the primitive int -/
def k8 : Class := { plain "int" none with kind := .primitive 'I', accessFlags := 0x411 }
/-- [I -/
def k9 : Class := { plain "[I" (some 0) with kind := .array 8 .int, interfaces := #[4, 5], accessFlags := 1041 }

def heap : Heap := #[]
def classes : Array Class := #[k0, k1, k2, k3, k4, k5, k6, k7, k8, k9]
def interned : List (Array UInt16 × Addr) := []
def slotsUsed : Nat := 0
def theMethod : MethodId := ⟨1, 1⟩
def args0 : Array Value := #[.int 5, .int 6, .int 7, .int 8, .int 2]
def aboutOver (below : List Frame) : State where
  vm := { classes := classes, interned := interned.toArray }
  heap := heap
  slotsUsed := slotsUsed
  threads := #[{ frames := .invoking theMethod args0 :: below }]
def below0 : List Frame := [.native { method := ⟨0, 0⟩, args := #[] }]
def about1 : State := aboutOver below0
def p0 : Program := .bare "" "" ""
def e0 : Env := launch0.env 0 0 0
theorem w_frames : about1.frames = Frame.invoking theMethod args0 :: below0 := rfl
set_option maxRecDepth 65536 in
theorem w_args : argsFit about1.vm theMethod args0 = true := by decide +kernel
set_option maxRecDepth 65536 in
theorem w_heap : heapFits about1 = true := by decide +kernel
set_option maxRecDepth 65536 in
theorem w_runnable : about1.curStatus? = some .runnable := by decide +kernel
set_option maxRecDepth 65536 in
theorem w_alone : about1.alone = true := by decide +kernel
set_option maxRecDepth 65536 in
theorem w_named : about1.methodNamed? x = some theMethod := by decide +kernel
set_option maxRecDepth 65536 in
theorem w_hears : about1.hears theMethod below0 = true := by decide +kernel
set_option maxRecDepth 65536 in
theorem w_ripe : about1.ripe theMethod args0 below0 = true := by decide +kernel
theorem w_running : about1.status = .running := rfl
set_option maxRecDepth 65536 in
theorem w_room : about1.hasRoom e0.platform room_1 = true :=
  launch0.hasRoom_least _ room_1 (by decide +kernel) (by decide +kernel) (by decide +kernel) (by decide +kernel) (by decide +kernel) (by decide +kernel)
theorem allAtoms_all (ts : List Jvm.Cond) (a : Array Jvm.Value) (st : Jvm.State) : (allAtoms ts).before a st = ts.all (fun c => c.before a st) := by
  induction ts with
  | nil => rfl
  | cons c t ih =>
    show (Jvm.Cond.and c (allAtoms t)).before a st = _
    rw [Jvm.Cond.before_and, ih, List.all_cons]
def words1 : List Jvm.Cond := Jvm.Cond.code x code maxLocals ret :: tables_1
/-- a 'code' word, met by the world's own term for the bytes: nothing is compared byte by byte -/
theorem code_word {y : MethodName} {bytes : ByteArray} {mx : Nat} {rt : Option FieldType} {a : Array Value} {s : State} {m : MethodId} {meth : Method} {c : Code} (h1 : s.methodNamed? y = some m) (h2 : s.vm.method? m = some meth) (h3 : meth.code = some c) (h4 : c.code = bytes)
    (h5 : (c.maxLocals == mx && c.exceptionTable.isEmpty && decide (c.maxStack ≤ mostOperands) && decide (meth.sig.returnType = rt) && !meth.locks && decide (parseMethodDescriptor y.desc = some meth.sig)) = true) : (Jvm.Cond.code y bytes mx rt).before a s = true := by
  simp only [Bool.and_eq_true, beq_iff_eq, Bool.not_eq_true', decide_eq_true_eq] at h5
  obtain ⟨⟨⟨⟨⟨g1, g2⟩, g3⟩, g4⟩, g5⟩, g6⟩ := h5
  simp [Cond.before, Cond.holds, Cond.value, h1, h2, h3, h4, g1, g2, g3, g4, g5, g6]
def isCode : Jvm.Cond → Bool
  | .code _ _ _ _ => true
  | _ => false
theorem all_split {L : List Jvm.Cond} {P : Jvm.Cond → Bool} (h1 : L.all (fun c => isCode c || P c) = true) (h2 : ∀ c ∈ L.filter isCode, P c = true) : L.all P = true := by
  refine List.all_eq_true.mpr fun c hc => ?_
  have h := List.all_eq_true.mp h1 c hc
  rcases Bool.eq_false_or_eq_true (isCode c) with hi | hi
  · exact h2 c (List.mem_filter.mpr ⟨hc, hi⟩)
  · simpa [hi] using h
set_option maxRecDepth 65536 in
theorem w_c0 : (Jvm.Cond.code x code maxLocals ret).before args0 about1 = true := code_word (m := ⟨1, 1⟩) (meth := k1m1) (c := k1c1) (by decide +kernel) rfl rfl rfl (by decide +kernel)
set_option maxRecDepth 65536 in
theorem w_c1 : (Jvm.Cond.code ({ cls := "com/example/attestry/attestry/DerReader$BitString", name := "<init>", desc := "([BI)V" } : Jvm.MethodName) prog_6_method_1_code (3 : Nat) (Option.none : Option Jvm.ClassFile.FieldType)).before args0 about1 = true := code_word (m := ⟨3, 0⟩) (meth := k3m0) (c := k3c0) (by decide +kernel) rfl rfl rfl (by decide +kernel)
set_option maxRecDepth 65536 in
theorem w_c2 : (Jvm.Cond.code ({ cls := "java/lang/Record", name := "<init>", desc := "()V" } : Jvm.MethodName) jdk_30_method_1_code (1 : Nat) (Option.none : Option Jvm.ClassFile.FieldType)).before args0 about1 = true := code_word (m := ⟨2, 0⟩) (meth := k2m0) (c := k2c0) (by decide +kernel) rfl rfl rfl (by decide +kernel)
set_option maxRecDepth 65536 in
theorem w_c3 : (Jvm.Cond.code ({ cls := "java/lang/Object", name := "<init>", desc := "()V" } : Jvm.MethodName) object_method_1_code (1 : Nat) (Option.none : Option Jvm.ClassFile.FieldType)).before args0 about1 = true := code_word (m := ⟨0, 0⟩) (meth := k0m0) (c := k0c0) (by decide +kernel) rfl rfl rfl (by decide +kernel)
set_option maxRecDepth 65536 in
theorem w_c4 : (Jvm.Cond.code ({ cls := "com/example/attestry/attestry/DerReader$BitString", name := "bit", desc := "(I)Z" } : Jvm.MethodName) prog_6_method_2_code (2 : Nat) (Option.some Jvm.ClassFile.FieldType.boolean)).before args0 about1 = true := code_word (m := ⟨3, 1⟩) (meth := k3m1) (c := k3c1) (by decide +kernel) rfl rfl rfl (by decide +kernel)
def codes1 : List Jvm.Cond := [Jvm.Cond.code x code maxLocals ret, Jvm.Cond.code ({ cls := "com/example/attestry/attestry/DerReader$BitString", name := "<init>", desc := "([BI)V" } : Jvm.MethodName) prog_6_method_1_code (3 : Nat) (Option.none : Option Jvm.ClassFile.FieldType), Jvm.Cond.code ({ cls := "java/lang/Record", name := "<init>", desc := "()V" } : Jvm.MethodName) jdk_30_method_1_code (1 : Nat) (Option.none : Option Jvm.ClassFile.FieldType), Jvm.Cond.code ({ cls := "java/lang/Object", name := "<init>", desc := "()V" } : Jvm.MethodName) object_method_1_code (1 : Nat) (Option.none : Option Jvm.ClassFile.FieldType), Jvm.Cond.code ({ cls := "com/example/attestry/attestry/DerReader$BitString", name := "bit", desc := "(I)Z" } : Jvm.MethodName) prog_6_method_2_code (2 : Nat) (Option.some Jvm.ClassFile.FieldType.boolean)]
set_option maxRecDepth 65536 in
theorem codes_eq : words1.filter isCode = codes1 := rfl
theorem w_codes : ∀ c ∈ words1.filter isCode, c.before args0 about1 = true := by
  rw [codes_eq]
  intro c hc
  simp only [codes1, List.mem_cons, List.not_mem_nil, or_false] at hc
  rcases hc with rfl | rfl | rfl | rfl | rfl
  · exact w_c0
  · exact w_c1
  · exact w_c2
  · exact w_c3
  · exact w_c4
set_option maxRecDepth 65536 in
theorem w_t1 : (words1.take 24).all (fun c => isCode c || c.before args0 about1) = true := by decide +kernel
set_option maxRecDepth 65536 in
theorem w_t2 : (words1.drop 24).all (fun c => isCode c || c.before args0 about1) = true := by decide +kernel
theorem w_tables : (allAtoms (Jvm.Cond.code x code maxLocals ret :: tables_1)).before args0 about1 = true := by
  rw [allAtoms_all]
  show words1.all (fun c => c.before args0 about1) = true
  refine all_split ?_ w_codes
  rw [← List.take_append_drop 24 words1, List.all_append, w_t1, w_t2]
  rfl
set_option maxRecDepth 65536 in
theorem w_case : (Jvm.Cond.and given_1 narrow_1).before args0 about1 = true := by decide +kernel
theorem w_applies : (headSpec (Jvm.Cond.code x code maxLocals ret :: tables_1) room_1).applies x e0.platform about1 = true :=
  (Spec.applies_iff w_frames).mpr ⟨w_running, w_runnable, w_alone, w_named, w_hears, w_ripe, w_room, w_tables⟩
theorem atStart : AtStart classFile x code maxLocals ret World_1 tables_1 room_1 Calls_1 rest_1 Pre_1 launch0 p0 e0 about1 theMethod args0 below0 :=
  ⟨lists_1, trivial, launch0.admits_env _ _ _, launch0.least_env, fairChoices_fair.cas, fairChoices_fair.clock, w_frames, w_args, w_heap, w_applies, trivial, trivial, w_case⟩
end start1
theorem witness_1 : WitnessClaimed_1 := ⟨start1.p0, start1.e0, start1.about1, start1.theMethod, start1.args0, start1.below0, start1.atStart⟩
end Jvm.Pilot.@@N@@
