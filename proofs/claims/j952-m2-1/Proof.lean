import JvmDerived
import JvmDerived.Pilot.@@N@@Statement
import JvmDerived.Pilot.@@N@@Code
set_option linter.unusedVariables false
set_option linter.unusedSimpArgs false
@@BLOCK:NumsL.lean.txt@@
namespace Jvm.Pilot.@@N@@
open Jvm Jvm.ClassFile Sem Op Lib Jvm.Free Jvm.Stand Jvm.LawKit Jvm.RoadKit Bundle Jvm.Pilot.@@N@@.Jvm.D
/-! the walk's own form: from this state and frame the run ends as P says -/
def Go (p : Program) (e : Env) (below : List Frame) (T : State) (g : JFrame) (P : Outcome → State → Prop) : Prop := ∃ s₂ o, Steps p.tables e below (T.setTop g) s₂ ∧ s₂.status = .running ∧ Ended s₂ below o ∧ P o s₂
theorem Go.of {p : Program} {e : Env} {below : List Frame} {T T' : State} {g g' : JFrame} {P : Outcome → State → Prop} (k : ∀ t, Steps p.tables e below (T'.setTop g') t → Steps p.tables e below (T.setTop g) t) (h : Go p e below T' g' P) : Go p e below T g P := by
  obtain ⟨s2, o, h1, h2⟩ := h; exact ⟨s2, o, k _ h1, h2⟩
theorem Go.enter {p : Program} {e : Env} {below : List Frame} {T : State} {g g' : JFrame} {P : Outcome → State → Prop} (q : g = g') (h : Go p e below T g' P) : ∃ s₂ o, Steps p.tables e below (T.setTop g) s₂ ∧ s₂.status = .running ∧ Ended s₂ below o ∧ P o s₂ := by
  subst q; exact h
theorem own_selp {s : State} {args : Array Value} {y : MethodName} {n : Nat} (hi : (Jvm.Cond.instantiable y.cls n).before args s = true) (hp : s.PrivateAt y) (hm : (Jvm.Cond.instanceMethod y).before args s = true) (hy : y.cls ≠ "java/lang/invoke/MethodHandle" ∧ y.cls ≠ "java/lang/invoke/VarHandle") : (Jvm.Cond.selects y.cls y y).before args s = true := by
  obtain ⟨c, k, h1, h2, -, h3, -⟩ := Cond.instantiable_spec hi
  rw [Bool.or_eq_false_iff] at h3
  exact selects_self_of_private h1 h2 h3.1 hp hm hy
/-- a local that holds nothing or one word -/
def Sl (o : Slot) : Prop := o = .unset ∨ ∃ w : Value, o = .val w ∧ w.category = 1
theorem pn_0 : plainName "com/example/stairstep/stairstep/Script" = true := by first | (simp [plainName, overriddenIn]; done) | decide +kernel
theorem pn_1 : plainName "java/util/AbstractCollection" = true := by first | (simp [plainName, overriddenIn]; done) | decide +kernel
theorem pd_0 : parseMethodDescriptor "()V" = some ⟨[], none⟩ := by decide +kernel
theorem pn_2 : plainName "java/util/AbstractList" = true := by first | (simp [plainName, overriddenIn]; done) | decide +kernel
theorem pn_3 : plainName "java/util/ArrayList" = true := by first | (simp [plainName, overriddenIn]; done) | decide +kernel
theorem pd_1 : parseMethodDescriptor "(Ljava/lang/String;)V" = some ⟨[(.object "java/lang/String")], none⟩ := by decide +kernel
theorem pd_2 : parseMethodDescriptor "(I)V" = some ⟨[.int], none⟩ := by decide +kernel
theorem pn_4 : plainName "com/example/stairstep/stairstep/PostgreSqlScript" = true := by first | (simp [plainName, overriddenIn]; done) | decide +kernel
theorem pd_3 : parseMethodDescriptor "(C)Z" = some ⟨[.char], some .boolean⟩ := by decide +kernel
theorem pn_5 : plainName "com/example/stairstep/stairstep/PostgreSqlScriptBlankPinLaw" = true := by first | (simp [plainName, overriddenIn]; done) | decide +kernel
theorem d2_0 : decode prog_37_method_1_code 0 = .ok (.aload_n 0, 1) := by decide +kernel
theorem d2_1 : decode prog_37_method_1_code 1 = .ok (.invokespecial 1, 3) := by decide +kernel
theorem d2_4 : decode prog_37_method_1_code 4 = .ok (.aload_n 0, 1) := by decide +kernel
theorem d2_5 : decode prog_37_method_1_code 5 = .ok (.aload_n 1, 1) := by decide +kernel
theorem d2_6 : decode prog_37_method_1_code 6 = .ok (.putfield 7, 3) := by decide +kernel
theorem d2_9 : decode prog_37_method_1_code 9 = .ok (.return_, 1) := by decide +kernel
theorem ef_2 (m : MethodId) (x0 : Addr) (x1 : Addr) : entryFrame m #[(.ref x0), (.ref x1)] 2 = mkF m 0 #[.val (.ref x0), .val (.ref x1)] [] := by first | (simp [entryFrame, mkF, argsToLocals, Value.category]; done) | rfl
def Q2 (Z : State) (a : Addr) (b : Addr) (h0 : Heap) (n0 : Nat) (v : Option Value) (h : Heap) (L : List Loc) : Prop := v = none ∧ Fr n0 L ∧ Keep h0 h [a] ∧ Fld Z h a "com/example/stairstep/stairstep/PostgreSqlScript" "opening" "Ljava/util/List;" .null
set_option maxRecDepth 65536 in
set_option maxHeartbeats 40000000 in
theorem rm2 (l : Launch) (Z : State) (a0 : Array Value) (hw : ∀ d ∈ tables_1, d.before a0 Z = true) (ws : List Jvm.Cond) (a : Addr) (b : Addr) (h0 : Heap) (n0 : Nat) (Z0 : n0 ≤ h0.size) (g_a : n0 ≤ a) (E_a : Exa Z h0 a "com/example/stairstep/stairstep/PostgreSqlScript") (Fs : Fld Z h0 a "com/example/stairstep/stairstep/Script" "sql" "Ljava/lang/String;" .null) (Fo : Fld Z h0 a "com/example/stairstep/stairstep/PostgreSqlScript" "opening" "Ljava/util/List;" .null) :
    MetFree l (⟨"com/example/stairstep/stairstep/Script", "<init>", "(Ljava/lang/String;)V"⟩ : MethodName) (head1 (Jvm.Cond.code (⟨"com/example/stairstep/stairstep/Script", "<init>", "(Ljava/lang/String;)V"⟩ : MethodName) prog_37_method_1_code 2 none :: ws) ({ frames := 1, cells := 0, slots := 0, locals := 12 } : Room)) (fun aa_ U => aa_ = #[(.ref a), (.ref b)] ∧ Z.Warmed39 U.vm ∧ U.heap = h0) (fun _ _ _ _ _ => True) (fun _ U o U' => ∃ vv_ LL_, o = .returned vv_ ∧ Q2 Z a b h0 n0 vv_ U'.heap LL_ ∧ FrameEnd U o U' LL_ ({ frames := 1, cells := 0, slots := 0, locals := 12 } : Room).cells ({ frames := 1, cells := 0, slots := 0, locals := 12 } : Room).slots) := by
  refine MetFree.of_bodySF (plainFor_of_name pn_0) hisR ?_
  intro p e s m args below meth c s₁ Bd hml0 hP hK
  obtain ⟨rfl, hZ, hh⟩ := hP
  have hx := Bd.exec
  have hby := Bd.bytes
  have hml : c.maxLocals = 2 := hml0
  have hown : s.vm.findClass "com/example/stairstep/stairstep/Script" = some m.cls := findClass_of_methodNamed Bd.named
  have hnm := (name_of_methodNamed Bd.named Bd.method).1
  have X0 : Stand p l e ({ frames := 1, cells := 0, slots := 0, locals := 12 } : Room) s m #[(.ref a), (.ref b)] below meth c s₁ [] 0 0 := Stand.of_body Bd
  have e0 : s₁.heap = h0 := by rw [← hh, Bd.state]; rfl
  have N0 := Fr.nil n0
  have K0 : Keep h0 h0 [a] := Keep.refl h0 _
  refine Go.enter (P := fun o U' => ∃ vv_ LL_, o = .returned vv_ ∧ Q2 Z a b h0 n0 vv_ U'.heap LL_ ∧ FrameEnd s o U' LL_ ({ frames := 1, cells := 0, slots := 0, locals := 12 } : Room).cells ({ frames := 1, cells := 0, slots := 0, locals := 12 } : Room).slots) (ef_2 m a b) ?_
  show Go p e below s₁ (mkF m 0 #[.val (.ref a), .val (.ref b)] []) _
  refine Go.of (fun tg_ kk_ => XS.aloadN X0.here hx rfl (hb hby d2_0) rfl rfl kk_) ?_
  show Go p e below s₁ (mkF m 1 #[.val (.ref a), .val (.ref b)] [(.ref a)]) _
  obtain ⟨T1, X1, e1, st1⟩ := initO X0 hx hZ hown (hw _ (List.mem_of_getElem? (i := 20) rfl)) (hw _ (List.mem_of_getElem? (i := 21) rfl)) (hw _ (List.mem_of_getElem? (i := 22) rfl)) e0 (g := (mkF m 1 #[.val (.ref a), .val (.ref b)] [(.ref a)])) rfl (by rw [hml]; rfl) rfl (hb hby d2_1) (by decide) (W := 0) (by show 2 * 0 + _ ≤ _; exact Nat.le_of_eq rfl) (by decide)
  refine Go.of (st1) ?_
  show Go p e below T1 (mkF m 4 #[.val (.ref a), .val (.ref b)] []) _
  refine Go.of (fun tg_ kk_ => XS.aloadN X1.here hx rfl (hb hby d2_4) rfl rfl kk_) ?_
  show Go p e below T1 (mkF m 5 #[.val (.ref a), .val (.ref b)] [(.ref a)]) _
  refine Go.of (fun tg_ kk_ => XS.aloadN X1.here hx rfl (hb hby d2_5) rfl rfl kk_) ?_
  show Go p e below T1 (mkF m 6 #[.val (.ref a), .val (.ref b)] [(.ref b), (.ref a)]) _
  obtain ⟨T2, h2, X2, e2, W2, st2⟩ := putF X1 hx hZ hown (host := "") (Or.inl (hw _ (List.mem_of_getElem? (i := 23) rfl))) Via.refl e1 Fs E_a (Or.inr ⟨(hw _ (List.mem_of_getElem? (i := 24) rfl)), rfl, hnm⟩) (hw _ (List.mem_of_getElem? (i := 2) rfl)) (ty := (.object "java/lang/String")) (by decide) rfl rfl (g := (mkF m 6 #[.val (.ref a), .val (.ref b)] [(.ref b), (.ref a)])) rfl rfl (hb hby d2_6)
  have Fw2 := Fs.same W2
  have F3 := E_a.wr W2
  have F5 := Fo.other W2 (Or.inr (slot_ne (Or.inr (hw _ (List.mem_of_getElem? (i := 51) rfl))) (Or.inr (hw _ (List.mem_of_getElem? (i := 24) rfl))) (by decide) (t := (.object "java/util/List")) (t' := (.object "java/lang/String")) (by decide) (by decide)))
  have K6 := K0.wr W2 (Or.inl (List.mem_of_getElem? (i := 0) rfl))
  have Zs7 : n0 ≤ h2.size := Nat.le_trans Z0 (Keep.of_wr W2).1
  have N2 := Fr.snoc X2 N0 g_a
  refine Go.of (st2) ?_
  show Go p e below T2 (mkF m 9 #[.val (.ref a), .val (.ref b)] []) _
  obtain ⟨fs, hr, hrun, hended, hW, hsame⟩ := X2.leave (v := none) (fun _ => rfl)
  refine ⟨_, _, ?_, hrun, hended, _, _, rfl, ?_, ⟨_, rfl⟩, hW, hsame.mono (by decide) (by decide)⟩
  · exact X2.returnOut hx Bd.returns (hb hby d2_9) hr
  · show Q2 Z a b h0 n0 _ T2.heap _
    rw [e2]
    exact ⟨rfl, N2, K6, F5⟩
theorem d6_0 : decode jdk_22_method_1_code 0 = .ok (.aload_n 0, 1) := by decide +kernel
theorem d6_1 : decode jdk_22_method_1_code 1 = .ok (.invokespecial 1, 3) := by decide +kernel
theorem d6_4 : decode jdk_22_method_1_code 4 = .ok (.return_, 1) := by decide +kernel
theorem ef_6 (m : MethodId) (x0 : Addr) : entryFrame m #[(.ref x0)] 1 = mkF m 0 #[.val (.ref x0)] [] := by first | (simp [entryFrame, mkF, argsToLocals, Value.category]; done) | rfl
def Q6 (Z : State) (a : Addr) (h0 : Heap) (n0 : Nat) (v : Option Value) (h : Heap) (L : List Loc) : Prop := v = none ∧ Fr n0 L ∧ h = h0
set_option maxRecDepth 65536 in
set_option maxHeartbeats 40000000 in
theorem rm6 (l : Launch) (Z : State) (a0 : Array Value) (hw : ∀ d ∈ tables_1, d.before a0 Z = true) (ws : List Jvm.Cond) (a : Addr) (h0 : Heap) (n0 : Nat) (Z0 : n0 ≤ h0.size) :
    MetFree l (⟨"java/util/AbstractCollection", "<init>", "()V"⟩ : MethodName) (head1 (Jvm.Cond.code (⟨"java/util/AbstractCollection", "<init>", "()V"⟩ : MethodName) jdk_22_method_1_code 1 none :: ws) ({ frames := 1, cells := 0, slots := 0, locals := 12 } : Room)) (fun aa_ U => aa_ = #[(.ref a)] ∧ Z.Warmed39 U.vm ∧ U.heap = h0) (fun _ _ _ _ _ => True) (fun _ U o U' => ∃ vv_ LL_, o = .returned vv_ ∧ Q6 Z a h0 n0 vv_ U'.heap LL_ ∧ FrameEnd U o U' LL_ ({ frames := 1, cells := 0, slots := 0, locals := 12 } : Room).cells ({ frames := 1, cells := 0, slots := 0, locals := 12 } : Room).slots) := by
  refine MetFree.of_bodySF (plainFor_of_name pn_1) hisR ?_
  intro p e s m args below meth c s₁ Bd hml0 hP hK
  obtain ⟨rfl, hZ, hh⟩ := hP
  have hx := Bd.exec
  have hby := Bd.bytes
  have hml : c.maxLocals = 1 := hml0
  have hown : s.vm.findClass "java/util/AbstractCollection" = some m.cls := findClass_of_methodNamed Bd.named
  have hnm := (name_of_methodNamed Bd.named Bd.method).1
  have X0 : Stand p l e ({ frames := 1, cells := 0, slots := 0, locals := 12 } : Room) s m #[(.ref a)] below meth c s₁ [] 0 0 := Stand.of_body Bd
  have e0 : s₁.heap = h0 := by rw [← hh, Bd.state]; rfl
  have N0 := Fr.nil n0
  have K0 : Keep h0 h0 [] := Keep.refl h0 _
  refine Go.enter (P := fun o U' => ∃ vv_ LL_, o = .returned vv_ ∧ Q6 Z a h0 n0 vv_ U'.heap LL_ ∧ FrameEnd s o U' LL_ ({ frames := 1, cells := 0, slots := 0, locals := 12 } : Room).cells ({ frames := 1, cells := 0, slots := 0, locals := 12 } : Room).slots) (ef_6 m a) ?_
  show Go p e below s₁ (mkF m 0 #[.val (.ref a)] []) _
  refine Go.of (fun tg_ kk_ => XS.aloadN X0.here hx rfl (hb hby d6_0) rfl rfl kk_) ?_
  show Go p e below s₁ (mkF m 1 #[.val (.ref a)] [(.ref a)]) _
  obtain ⟨T1, X1, e1, st1⟩ := initO X0 hx hZ hown (hw _ (List.mem_of_getElem? (i := 43) rfl)) (hw _ (List.mem_of_getElem? (i := 21) rfl)) (hw _ (List.mem_of_getElem? (i := 22) rfl)) e0 (g := (mkF m 1 #[.val (.ref a)] [(.ref a)])) rfl (by rw [hml]; rfl) rfl (hb hby d6_1) (by decide) (W := 0) (by show 2 * 0 + _ ≤ _; exact Nat.le_of_eq rfl) (by decide)
  refine Go.of (st1) ?_
  show Go p e below T1 (mkF m 4 #[.val (.ref a)] []) _
  obtain ⟨fs, hr, hrun, hended, hW, hsame⟩ := X1.leave (v := none) (fun _ => rfl)
  refine ⟨_, _, ?_, hrun, hended, _, _, rfl, ?_, ⟨_, rfl⟩, hW, hsame.mono (by decide) (by decide)⟩
  · exact X1.returnOut hx Bd.returns (hb hby d6_4) hr
  · show Q6 Z a h0 n0 _ T1.heap _
    rw [e1]
    exact ⟨rfl, N0, rfl⟩
theorem d5_0 : decode jdk_39_method_1_code 0 = .ok (.aload_n 0, 1) := by decide +kernel
theorem d5_1 : decode jdk_39_method_1_code 1 = .ok (.invokespecial 1, 3) := by decide +kernel
theorem d5_4 : decode jdk_39_method_1_code 4 = .ok (.aload_n 0, 1) := by decide +kernel
theorem d5_5 : decode jdk_39_method_1_code 5 = .ok (.iconst 0, 1) := by decide +kernel
theorem d5_6 : decode jdk_39_method_1_code 6 = .ok (.putfield 7, 3) := by decide +kernel
theorem d5_9 : decode jdk_39_method_1_code 9 = .ok (.return_, 1) := by decide +kernel
theorem ef_5 (m : MethodId) (x0 : Addr) : entryFrame m #[(.ref x0)] 1 = mkF m 0 #[.val (.ref x0)] [] := by first | (simp [entryFrame, mkF, argsToLocals, Value.category]; done) | rfl
def Q5 (Z : State) (a : Addr) (h0 : Heap) (n0 : Nat) (v : Option Value) (h : Heap) (L : List Loc) : Prop := v = none ∧ Fr n0 L ∧ Keep h0 h [a] ∧ Fld Z h a "java/util/ArrayList" "elementData" "[Ljava/lang/Object;" .null
set_option maxRecDepth 65536 in
set_option maxHeartbeats 40000000 in
theorem rm5 (l : Launch) (Z : State) (a0 : Array Value) (hw : ∀ d ∈ tables_1, d.before a0 Z = true) (ws : List Jvm.Cond) (a : Addr) (h0 : Heap) (n0 : Nat) (Z0 : n0 ≤ h0.size) (g_a : n0 ≤ a) (E_a : Exa Z h0 a "java/util/ArrayList") (Fm : Fld Z h0 a "java/util/AbstractList" "modCount" "I" (.int (0 : Int32))) (Fe : Fld Z h0 a "java/util/ArrayList" "elementData" "[Ljava/lang/Object;" .null) :
    MetFree l (⟨"java/util/AbstractList", "<init>", "()V"⟩ : MethodName) (head1 (Jvm.Cond.code (⟨"java/util/AbstractList", "<init>", "()V"⟩ : MethodName) jdk_39_method_1_code 1 none :: ws) ({ frames := 2, cells := 0, slots := 0, locals := 24 } : Room)) (fun aa_ U => aa_ = #[(.ref a)] ∧ Z.Warmed39 U.vm ∧ U.heap = h0) (fun _ _ _ _ _ => True) (fun _ U o U' => ∃ vv_ LL_, o = .returned vv_ ∧ Q5 Z a h0 n0 vv_ U'.heap LL_ ∧ FrameEnd U o U' LL_ ({ frames := 2, cells := 0, slots := 0, locals := 24 } : Room).cells ({ frames := 2, cells := 0, slots := 0, locals := 24 } : Room).slots) := by
  refine MetFree.of_bodySF (plainFor_of_name pn_2) hisR ?_
  intro p e s m args below meth c s₁ Bd hml0 hP hK
  obtain ⟨rfl, hZ, hh⟩ := hP
  have hx := Bd.exec
  have hby := Bd.bytes
  have hml : c.maxLocals = 1 := hml0
  have hown : s.vm.findClass "java/util/AbstractList" = some m.cls := findClass_of_methodNamed Bd.named
  have hnm := (name_of_methodNamed Bd.named Bd.method).1
  have X0 : Stand p l e ({ frames := 2, cells := 0, slots := 0, locals := 24 } : Room) s m #[(.ref a)] below meth c s₁ [] 0 0 := Stand.of_body Bd
  have e0 : s₁.heap = h0 := by rw [← hh, Bd.state]; rfl
  have N0 := Fr.nil n0
  have K0 : Keep h0 h0 [a] := Keep.refl h0 _
  refine Go.enter (P := fun o U' => ∃ vv_ LL_, o = .returned vv_ ∧ Q5 Z a h0 n0 vv_ U'.heap LL_ ∧ FrameEnd s o U' LL_ ({ frames := 2, cells := 0, slots := 0, locals := 24 } : Room).cells ({ frames := 2, cells := 0, slots := 0, locals := 24 } : Room).slots) (ef_5 m a) ?_
  show Go p e below s₁ (mkF m 0 #[.val (.ref a)] []) _
  refine Go.of (fun tg_ kk_ => XS.aloadN X0.here hx rfl (hb hby d5_0) rfl rfl kk_) ?_
  show Go p e below s₁ (mkF m 1 #[.val (.ref a)] [(.ref a)]) _
  obtain ⟨_, _, ⟨T1, L1, k1, n1⟩, -, X1, ⟨Lc1, hQ1, l1, y1, z1⟩, st1⟩ := X0.specialBack hx (y := (⟨"java/util/AbstractCollection", "<init>", "()V"⟩ : MethodName)) rfl hown (mvT hZ (hw _ (List.mem_of_getElem? (i := 37) rfl))) (mvT hZ (hw _ (List.mem_of_getElem? (i := 38) rfl))) (mvT hZ (hw _ (List.mem_of_getElem? (i := 42) rfl))) (by decide) (backOf (W := 0) (rm6 l Z a0 hw [] a h0 n0 Z0) hZ (hw _ (List.mem_of_getElem? (i := 42) rfl)) (hw _ (List.mem_of_getElem? (i := 41) rfl)) (by decide) (by decide)) (g := (mkF m 1 #[.val (.ref a)] [(.ref a)])) rfl (by rw [hml]; rfl) (Steps.refl _) (a := a) (argsL := []) (rest := []) (lenOf pd_0 rfl) rfl (by show 2 * 0 + _ ≤ _; exact Nat.le_of_eq rfl) (hb hby d5_1) (fun _ _ => ⟨rfl, e0, (by decide : 0 + 0 ≤ _), (by decide : 0 + 0 ≤ _)⟩)
  dsimp only [Pt.U, Pt.locs, Pt.cells, Pt.slots] at X1 l1 y1 z1 st1 hQ1
  subst l1 y1 z1
  obtain ⟨rfl, N1q, e1⟩ := hQ1
  have N1 := Fr.app N0 N1q
  refine Go.of (fun tg_ kk_ => st1.trans kk_) ?_
  show Go p e below T1 (mkF m 4 #[.val (.ref a)] []) _
  refine Go.of (fun tg_ kk_ => XS.aloadN X1.here hx rfl (hb hby d5_4) rfl rfl kk_) ?_
  show Go p e below T1 (mkF m 5 #[.val (.ref a)] [(.ref a)]) _
  refine Go.of (fun tg_ kk_ => XS.iconst X1.here hx rfl (hb hby d5_5) kk_) ?_
  show Go p e below T1 (mkF m 6 #[.val (.ref a)] [(.int (0 : Int32)), (.ref a)]) _
  obtain ⟨T2, h2, X2, e2, W2, st2⟩ := putF X1 hx hZ hown (host := "") (Or.inl (hw _ (List.mem_of_getElem? (i := 44) rfl))) Via.refl e1 Fm E_a (Or.inl (hw _ (List.mem_of_getElem? (i := 45) rfl))) (hw _ (List.mem_of_getElem? (i := 26) rfl)) (ty := .int) (by decide) rfl rfl (g := (mkF m 6 #[.val (.ref a)] [(.int (0 : Int32)), (.ref a)])) rfl rfl (hb hby d5_6)
  have Fw2 := Fm.same W2
  have F3 := E_a.wr W2
  have F5 := Fe.other W2 (Or.inr (slot_ne (Or.inl (hw _ (List.mem_of_getElem? (i := 49) rfl))) (Or.inl (hw _ (List.mem_of_getElem? (i := 45) rfl))) (by decide) (t := (.array (.object "java/lang/Object"))) (t' := .int) (by decide) (by decide)))
  have K6 := K0.wr W2 (Or.inl (List.mem_of_getElem? (i := 0) rfl))
  have Zs7 : n0 ≤ h2.size := Nat.le_trans Z0 (Keep.of_wr W2).1
  have N2 := Fr.snoc X2 N1 g_a
  refine Go.of (st2) ?_
  show Go p e below T2 (mkF m 9 #[.val (.ref a)] []) _
  obtain ⟨fs, hr, hrun, hended, hW, hsame⟩ := X2.leave (v := none) (fun _ => rfl)
  refine ⟨_, _, ?_, hrun, hended, _, _, rfl, ?_, ⟨_, rfl⟩, hW, hsame.mono (by decide) (by decide)⟩
  · exact X2.returnOut hx Bd.returns (hb hby d5_9) hr
  · show Q5 Z a h0 n0 _ T2.heap _
    rw [e2]
    exact ⟨rfl, N2, K6, F5⟩
theorem d4_0 : decode jdk_38_method_1_code 0 = .ok (.aload_n 0, 1) := by decide +kernel
theorem d4_1 : decode jdk_38_method_1_code 1 = .ok (.invokespecial 1, 3) := by decide +kernel
theorem d4_4 : decode jdk_38_method_1_code 4 = .ok (.iload_n 1, 1) := by decide +kernel
theorem d4_5 : decode jdk_38_method_1_code 5 = .ok (.ifCond .le 14, 3) := by decide +kernel
theorem d4_8 : decode jdk_38_method_1_code 8 = .ok (.aload_n 0, 1) := by decide +kernel
theorem d4_9 : decode jdk_38_method_1_code 9 = .ok (.iload_n 1, 1) := by decide +kernel
theorem d4_10 : decode jdk_38_method_1_code 10 = .ok (.anewarray 7, 3) := by decide +kernel
theorem d4_13 : decode jdk_38_method_1_code 13 = .ok (.putfield 9, 3) := by decide +kernel
theorem d4_16 : decode jdk_38_method_1_code 16 = .ok (.goto 44, 3) := by decide +kernel
theorem d4_60 : decode jdk_38_method_1_code 60 = .ok (.return_, 1) := by decide +kernel
theorem ef_4 (m : MethodId) (x0 : Addr) (x1 : Int32) : entryFrame m #[(.ref x0), (.int x1)] 2 = mkF m 0 #[.val (.ref x0), .val (.int x1)] [] := by first | (simp [entryFrame, mkF, argsToLocals, Value.category]; done) | rfl
def Q4 (Z : State) (a : Addr) (h0 : Heap) (n0 : Nat) (v : Option Value) (h : Heap) (L : List Loc) : Prop := v = none ∧ Fr n0 L ∧ Keep h0 h [a]
set_option maxRecDepth 65536 in
set_option maxHeartbeats 40000000 in
theorem rm4 (l : Launch) (Z : State) (a0 : Array Value) (hw : ∀ d ∈ tables_1, d.before a0 Z = true) (ws : List Jvm.Cond) (a : Addr) (h0 : Heap) (n0 : Nat) (Z0 : n0 ≤ h0.size) (g_a : n0 ≤ a) (E_a : Exa Z h0 a "java/util/ArrayList") (Fm : Fld Z h0 a "java/util/AbstractList" "modCount" "I" (.int (0 : Int32))) (Fe : Fld Z h0 a "java/util/ArrayList" "elementData" "[Ljava/lang/Object;" .null) :
    MetFree l (⟨"java/util/ArrayList", "<init>", "(I)V"⟩ : MethodName) (head1 (Jvm.Cond.code (⟨"java/util/ArrayList", "<init>", "(I)V"⟩ : MethodName) jdk_38_method_1_code 2 none :: ws) ({ frames := 3, cells := 1, slots := 4, locals := 36 } : Room)) (fun aa_ U => aa_ = #[(.ref a), (.int (4 : Int32))] ∧ Z.Warmed39 U.vm ∧ U.heap = h0) (fun _ _ _ _ _ => True) (fun _ U o U' => ∃ vv_ LL_, o = .returned vv_ ∧ Q4 Z a h0 n0 vv_ U'.heap LL_ ∧ FrameEnd U o U' LL_ ({ frames := 3, cells := 1, slots := 4, locals := 36 } : Room).cells ({ frames := 3, cells := 1, slots := 4, locals := 36 } : Room).slots) := by
  refine MetFree.of_bodySF (plainFor_of_name pn_3) hisR ?_
  intro p e s m args below meth c s₁ Bd hml0 hP hK
  obtain ⟨rfl, hZ, hh⟩ := hP
  have hx := Bd.exec
  have hby := Bd.bytes
  have hml : c.maxLocals = 2 := hml0
  have hown : s.vm.findClass "java/util/ArrayList" = some m.cls := findClass_of_methodNamed Bd.named
  have hnm := (name_of_methodNamed Bd.named Bd.method).1
  have X0 : Stand p l e ({ frames := 3, cells := 1, slots := 4, locals := 36 } : Room) s m #[(.ref a), (.int (4 : Int32))] below meth c s₁ [] 0 0 := Stand.of_body Bd
  have e0 : s₁.heap = h0 := by rw [← hh, Bd.state]; rfl
  have N0 := Fr.nil n0
  have K0 : Keep h0 h0 [a] := Keep.refl h0 _
  refine Go.enter (P := fun o U' => ∃ vv_ LL_, o = .returned vv_ ∧ Q4 Z a h0 n0 vv_ U'.heap LL_ ∧ FrameEnd s o U' LL_ ({ frames := 3, cells := 1, slots := 4, locals := 36 } : Room).cells ({ frames := 3, cells := 1, slots := 4, locals := 36 } : Room).slots) (ef_4 m a (4 : Int32)) ?_
  show Go p e below s₁ (mkF m 0 #[.val (.ref a), .val (.int (4 : Int32))] []) _
  refine Go.of (fun tg_ kk_ => XS.aloadN X0.here hx rfl (hb hby d4_0) rfl rfl kk_) ?_
  show Go p e below s₁ (mkF m 1 #[.val (.ref a), .val (.int (4 : Int32))] [(.ref a)]) _
  obtain ⟨_, _, ⟨T1, L1, k1, n1⟩, -, X1, ⟨Lc1, hQ1, l1, y1, z1⟩, st1⟩ := X0.specialBack hx (y := (⟨"java/util/AbstractList", "<init>", "()V"⟩ : MethodName)) rfl hown (mvT hZ (hw _ (List.mem_of_getElem? (i := 31) rfl))) (mvT hZ (hw _ (List.mem_of_getElem? (i := 32) rfl))) (mvT hZ (hw _ (List.mem_of_getElem? (i := 36) rfl))) (by decide) (backOf (W := 0) (rm5 l Z a0 hw [] a h0 n0 Z0 g_a E_a Fm Fe) hZ (hw _ (List.mem_of_getElem? (i := 36) rfl)) (hw _ (List.mem_of_getElem? (i := 35) rfl)) (by decide) (by decide)) (g := (mkF m 1 #[.val (.ref a), .val (.int (4 : Int32))] [(.ref a)])) rfl (by rw [hml]; rfl) (Steps.refl _) (a := a) (argsL := []) (rest := []) (lenOf pd_0 rfl) rfl (by show 2 * 0 + _ ≤ _; exact Nat.le_of_eq rfl) (hb hby d4_1) (fun _ _ => ⟨rfl, e0, (by decide : 0 + 0 ≤ _), (by decide : 0 + 0 ≤ _)⟩)
  dsimp only [Pt.U, Pt.locs, Pt.cells, Pt.slots] at X1 l1 y1 z1 st1 hQ1
  subst l1 y1 z1
  obtain ⟨rfl, N1q, K1q, F1a⟩ := hQ1
  have N1 := Fr.app N0 N1q
  have F2 := E_a.keep K1q
  have K5 := K0.trans K1q (allS (Or.inl (List.mem_of_getElem? (i := 0) rfl)) all0)
  have Zs6 : n0 ≤ T1.heap.size := Nat.le_trans Z0 K1q.1
  refine Go.of (fun tg_ kk_ => st1.trans kk_) ?_
  show Go p e below T1 (mkF m 4 #[.val (.ref a), .val (.int (4 : Int32))] []) _
  refine Go.of (fun tg_ kk_ => XS.iloadN X1.here hx rfl (hb hby d4_4) rfl kk_) ?_
  show Go p e below T1 (mkF m 5 #[.val (.ref a), .val (.int (4 : Int32))] [(.int (4 : Int32))]) _
  refine Go.of (fun tg_ kk_ => XS.ifNo X1.here hx rfl (hb hby d4_5) rfl ((if0 _ _).trans (tlt (show (0 : Int32) < (4 : Int32) by decide)).2.2.2) kk_) ?_
  show Go p e below T1 (mkF m 8 #[.val (.ref a), .val (.int (4 : Int32))] []) _
  refine Go.of (fun tg_ kk_ => XS.aloadN X1.here hx rfl (hb hby d4_8) rfl rfl kk_) ?_
  show Go p e below T1 (mkF m 9 #[.val (.ref a), .val (.int (4 : Int32))] [(.ref a)]) _
  refine Go.of (fun tg_ kk_ => XS.iloadN X1.here hx rfl (hb hby d4_9) rfl kk_) ?_
  show Go p e below T1 (mkF m 10 #[.val (.ref a), .val (.int (4 : Int32))] [(.int (4 : Int32)), (.ref a)]) _
  obtain ⟨T7, h7, k7, X7, e7, E7, A7, O7, st7⟩ := newR X1 hx hZ hown (hw _ (List.mem_of_getElem? (i := 46) rfl)) (hw _ (List.mem_of_getElem? (i := 47) rfl)) rfl (g := (mkF m 10 #[.val (.ref a), .val (.int (4 : Int32))] [(.int (4 : Int32)), (.ref a)])) rfl (hb hby d4_10) rfl (by decide) (cap := 4) (by decide) (by decide) (by decide) (by decide)
  obtain ⟨b7, g7⟩ : ∃ z, z = T1.heap.size := ⟨_, rfl⟩
  rw [← g7] at A7 st7
  have gx7 : n0 ≤ b7 := Nat.le_trans Zs6 (Nat.le_of_eq g7.symm)
  have sz7 : h0.size ≤ b7 := Nat.le_trans K5.1 (Nat.le_of_eq g7.symm)
  have ne8 : a ≠ b7 := Nat.ne_of_lt (Nat.lt_of_lt_of_le F2.lt (Nat.le_of_eq g7.symm))
  have F9 := F2.ext E7
  have F10 := F1a.ext E7
  have K11 := K5.ext E7
  have Zs12 : n0 ≤ h7.size := Nat.le_trans Zs6 E7.1
  refine Go.of (st7) ?_
  show Go p e below T7 (mkF m 13 #[.val (.ref a), .val (.int (4 : Int32))] [(.ref b7), (.ref a)]) _
  obtain ⟨T13, h13, X13, e13, W13, st13⟩ := putF X7 hx hZ hown (host := "") (Or.inl (hw _ (List.mem_of_getElem? (i := 48) rfl))) Via.refl e7 F10 F9 (Or.inl (hw _ (List.mem_of_getElem? (i := 49) rfl))) (hw _ (List.mem_of_getElem? (i := 26) rfl)) (ty := (.array (.object "java/lang/Object"))) (by decide) rfl rfl (g := (mkF m 13 #[.val (.ref a), .val (.int (4 : Int32))] [(.ref b7), (.ref a)])) rfl rfl (hb hby d4_13)
  have Fw13 := F10.same W13
  have F14 := F9.wr W13
  have K16 := K11.wr W13 (Or.inl (List.mem_of_getElem? (i := 0) rfl))
  have Zs17 : n0 ≤ h13.size := Nat.le_trans Zs12 (Keep.of_wr W13).1
  have N13 := Fr.snoc X13 N1 g_a
  refine Go.of (st13) ?_
  show Go p e below T13 (mkF m 16 #[.val (.ref a), .val (.int (4 : Int32))] []) _
  refine Go.of (fun tg_ kk_ => XS.goto X13.here hx rfl (pc0 := 16) (pc' := 60) rfl (hb hby d4_16) (by decide) (by decide) kk_) ?_
  show Go p e below T13 (mkF m 60 #[.val (.ref a), .val (.int (4 : Int32))] []) _
  obtain ⟨fs, hr, hrun, hended, hW, hsame⟩ := X13.leave (v := none) (fun _ => rfl)
  refine ⟨_, _, ?_, hrun, hended, _, _, rfl, ?_, ⟨_, rfl⟩, hW, hsame.mono (by decide) (by decide)⟩
  · exact X13.returnOut hx Bd.returns (hb hby d4_60) hr
  · show Q4 Z a h0 n0 _ T13.heap _
    rw [e13]
    exact ⟨rfl, N13, K16⟩
theorem d1_0 : decode prog_30_method_1_code 0 = .ok (.aload_n 0, 1) := by decide +kernel
theorem d1_1 : decode prog_30_method_1_code 1 = .ok (.aload_n 1, 1) := by decide +kernel
theorem d1_2 : decode prog_30_method_1_code 2 = .ok (.invokespecial 1, 3) := by decide +kernel
theorem d1_5 : decode prog_30_method_1_code 5 = .ok (.aload_n 0, 1) := by decide +kernel
theorem d1_6 : decode prog_30_method_1_code 6 = .ok (.new 7, 3) := by decide +kernel
theorem d1_9 : decode prog_30_method_1_code 9 = .ok (.dup, 1) := by decide +kernel
theorem d1_10 : decode prog_30_method_1_code 10 = .ok (.iconst 4, 1) := by decide +kernel
theorem d1_11 : decode prog_30_method_1_code 11 = .ok (.invokespecial 11, 3) := by decide +kernel
theorem d1_14 : decode prog_30_method_1_code 14 = .ok (.putfield 14, 3) := by decide +kernel
theorem d1_17 : decode prog_30_method_1_code 17 = .ok (.return_, 1) := by decide +kernel
theorem ef_1 (m : MethodId) (x0 : Addr) (x1 : Addr) : entryFrame m #[(.ref x0), (.ref x1)] 2 = mkF m 0 #[.val (.ref x0), .val (.ref x1)] [] := by first | (simp [entryFrame, mkF, argsToLocals, Value.category]; done) | rfl
def Q1 (Z : State) (a : Addr) (b : Addr) (h0 : Heap) (n0 : Nat) (v : Option Value) (h : Heap) (L : List Loc) : Prop := v = none ∧ Fr n0 L ∧ Keep h0 h [a]
set_option maxRecDepth 65536 in
set_option maxHeartbeats 40000000 in
theorem rm1 (l : Launch) (Z : State) (a0 : Array Value) (hw : ∀ d ∈ tables_1, d.before a0 Z = true) (ws : List Jvm.Cond) (a : Addr) (b : Addr) (h0 : Heap) (n0 : Nat) (Z0 : n0 ≤ h0.size) (g_a : n0 ≤ a) (E_a : Exa Z h0 a "com/example/stairstep/stairstep/PostgreSqlScript") (Fs : Fld Z h0 a "com/example/stairstep/stairstep/Script" "sql" "Ljava/lang/String;" .null) (Fo : Fld Z h0 a "com/example/stairstep/stairstep/PostgreSqlScript" "opening" "Ljava/util/List;" .null) :
    MetFree l (⟨"com/example/stairstep/stairstep/PostgreSqlScript", "<init>", "(Ljava/lang/String;)V"⟩ : MethodName) (head1 (Jvm.Cond.code (⟨"com/example/stairstep/stairstep/PostgreSqlScript", "<init>", "(Ljava/lang/String;)V"⟩ : MethodName) prog_30_method_1_code 2 none :: ws) ({ frames := 4, cells := 2, slots := 7, locals := 51 } : Room)) (fun aa_ U => aa_ = #[(.ref a), (.ref b)] ∧ Z.Warmed39 U.vm ∧ U.heap = h0) (fun _ _ _ _ _ => True) (fun _ U o U' => ∃ vv_ LL_, o = .returned vv_ ∧ Q1 Z a b h0 n0 vv_ U'.heap LL_ ∧ FrameEnd U o U' LL_ ({ frames := 4, cells := 2, slots := 7, locals := 51 } : Room).cells ({ frames := 4, cells := 2, slots := 7, locals := 51 } : Room).slots) := by
  refine MetFree.of_bodySF (plainFor_of_name pn_4) hisR ?_
  intro p e s m args below meth c s₁ Bd hml0 hP hK
  obtain ⟨rfl, hZ, hh⟩ := hP
  have hx := Bd.exec
  have hby := Bd.bytes
  have hml : c.maxLocals = 2 := hml0
  have hown : s.vm.findClass "com/example/stairstep/stairstep/PostgreSqlScript" = some m.cls := findClass_of_methodNamed Bd.named
  have hnm := (name_of_methodNamed Bd.named Bd.method).1
  have X0 : Stand p l e ({ frames := 4, cells := 2, slots := 7, locals := 51 } : Room) s m #[(.ref a), (.ref b)] below meth c s₁ [] 0 0 := Stand.of_body Bd
  have e0 : s₁.heap = h0 := by rw [← hh, Bd.state]; rfl
  have N0 := Fr.nil n0
  have K0 : Keep h0 h0 [a] := Keep.refl h0 _
  refine Go.enter (P := fun o U' => ∃ vv_ LL_, o = .returned vv_ ∧ Q1 Z a b h0 n0 vv_ U'.heap LL_ ∧ FrameEnd s o U' LL_ ({ frames := 4, cells := 2, slots := 7, locals := 51 } : Room).cells ({ frames := 4, cells := 2, slots := 7, locals := 51 } : Room).slots) (ef_1 m a b) ?_
  show Go p e below s₁ (mkF m 0 #[.val (.ref a), .val (.ref b)] []) _
  refine Go.of (fun tg_ kk_ => XS.aloadN X0.here hx rfl (hb hby d1_0) rfl rfl kk_) ?_
  show Go p e below s₁ (mkF m 1 #[.val (.ref a), .val (.ref b)] [(.ref a)]) _
  refine Go.of (fun tg_ kk_ => XS.aloadN X0.here hx rfl (hb hby d1_1) rfl rfl kk_) ?_
  show Go p e below s₁ (mkF m 2 #[.val (.ref a), .val (.ref b)] [(.ref b), (.ref a)]) _
  obtain ⟨_, _, ⟨T1, L1, k1, n1⟩, -, X1, ⟨Lc1, hQ1, l1, y1, z1⟩, st1⟩ := X0.specialBack hx (y := (⟨"com/example/stairstep/stairstep/Script", "<init>", "(Ljava/lang/String;)V"⟩ : MethodName)) rfl hown (mvT hZ (hw _ (List.mem_of_getElem? (i := 15) rfl))) (mvT hZ (hw _ (List.mem_of_getElem? (i := 16) rfl))) (mvT hZ (hw _ (List.mem_of_getElem? (i := 19) rfl))) (by decide) (backOf (W := 0) (rm2 l Z a0 hw [] a b h0 n0 Z0 g_a E_a Fs Fo) hZ (hw _ (List.mem_of_getElem? (i := 19) rfl)) (hw _ (List.mem_of_getElem? (i := 18) rfl)) (by decide) (by decide)) (g := (mkF m 2 #[.val (.ref a), .val (.ref b)] [(.ref b), (.ref a)])) rfl (by rw [hml]; rfl) (Steps.refl _) (a := a) (argsL := [(.ref b)]) (rest := []) (lenOf pd_1 rfl) rfl (by show 2 * 0 + _ ≤ _; exact Nat.le_of_eq rfl) (hb hby d1_2) (fun _ _ => ⟨rfl, e0, (by decide : 0 + 0 ≤ _), (by decide : 0 + 0 ≤ _)⟩)
  dsimp only [Pt.U, Pt.locs, Pt.cells, Pt.slots] at X1 l1 y1 z1 st1 hQ1
  subst l1 y1 z1
  obtain ⟨rfl, N1q, K1q, F1a⟩ := hQ1
  have N1 := Fr.app N0 N1q
  have F2 := E_a.keep K1q
  have K5 := K0.trans K1q (allS (Or.inl (List.mem_of_getElem? (i := 0) rfl)) all0)
  have Zs6 : n0 ≤ T1.heap.size := Nat.le_trans Z0 K1q.1
  refine Go.of (fun tg_ kk_ => st1.trans kk_) ?_
  show Go p e below T1 (mkF m 5 #[.val (.ref a), .val (.ref b)] []) _
  refine Go.of (fun tg_ kk_ => XS.aloadN X1.here hx rfl (hb hby d1_5) rfl rfl kk_) ?_
  show Go p e below T1 (mkF m 6 #[.val (.ref a), .val (.ref b)] [(.ref a)]) _
  obtain ⟨T7, h7, X7, e7, E7, A7, D7, -, st7⟩ := newO X1 hx hZ hown (hw _ (List.mem_of_getElem? (i := 25) rfl)) (hw _ (List.mem_of_getElem? (i := 26) rfl)) (hw _ (List.mem_of_getElem? (i := 27) rfl)) rfl (g := (mkF m 6 #[.val (.ref a), .val (.ref b)] [(.ref a)])) rfl (hb hby d1_6) (by decide) (by decide)
  obtain ⟨b7, g7⟩ : ∃ z, z = T1.heap.size := ⟨_, rfl⟩
  rw [← g7] at A7 D7 st7
  have gx7 : n0 ≤ b7 := Nat.le_trans Zs6 (Nat.le_of_eq g7.symm)
  have sz7 : h0.size ≤ b7 := Nat.le_trans K5.1 (Nat.le_of_eq g7.symm)
  have ne8 : a ≠ b7 := Nat.ne_of_lt (Nat.lt_of_lt_of_le F2.lt (Nat.le_of_eq g7.symm))
  have F9 := F2.ext E7
  have F10 := F1a.ext E7
  have K11 := K5.ext E7
  have Zs12 : n0 ≤ h7.size := Nat.le_trans Zs6 E7.1
  have F13 : Fld Z h7 b7 "java/util/AbstractList" "modCount" "I" (.int (0 : Int32)) := D7 (Or.inl (hw _ (List.mem_of_getElem? (i := 45) rfl))) (ty := .int) (by decide)
  have F14 : Fld Z h7 b7 "java/util/ArrayList" "elementData" "[Ljava/lang/Object;" .null := D7 (Or.inl (hw _ (List.mem_of_getElem? (i := 49) rfl))) (ty := (.array (.object "java/lang/Object"))) (by decide)
  refine Go.of (st7) ?_
  show Go p e below T7 (mkF m 9 #[.val (.ref a), .val (.ref b)] [(.ref b7), (.ref a)]) _
  refine Go.of (fun tg_ kk_ => XS.dup X7.here hx rfl (hb hby d1_9) rfl rfl kk_) ?_
  show Go p e below T7 (mkF m 10 #[.val (.ref a), .val (.ref b)] [(.ref b7), (.ref b7), (.ref a)]) _
  refine Go.of (fun tg_ kk_ => XS.iconst X7.here hx rfl (hb hby d1_10) kk_) ?_
  show Go p e below T7 (mkF m 11 #[.val (.ref a), .val (.ref b)] [(.int (4 : Int32)), (.ref b7), (.ref b7), (.ref a)]) _
  obtain ⟨_, _, ⟨T15, L15, k15, n15⟩, -, X15, ⟨Lc15, hQ15, l15, y15, z15⟩, st15⟩ := X7.specialBack hx (y := (⟨"java/util/ArrayList", "<init>", "(I)V"⟩ : MethodName)) rfl hown (mvT hZ (hw _ (List.mem_of_getElem? (i := 28) rfl))) (mvT hZ (hw _ (List.mem_of_getElem? (i := 29) rfl))) (mvT hZ (hw _ (List.mem_of_getElem? (i := 30) rfl))) (by decide) (backOf (W := 2) (rm4 l Z a0 hw [] b7 h7 n0 Zs12 gx7 A7 F13 F14) hZ (hw _ (List.mem_of_getElem? (i := 30) rfl)) (hw _ (List.mem_of_getElem? (i := 27) rfl)) (by decide) (by decide)) (g := (mkF m 11 #[.val (.ref a), .val (.ref b)] [(.int (4 : Int32)), (.ref b7), (.ref b7), (.ref a)])) rfl (by rw [hml]; rfl) (Steps.refl _) (a := b7) (argsL := [(.int (4 : Int32))]) (rest := [(.ref b7), (.ref a)]) (lenOf pd_2 rfl) rfl (by show 2 * 0 + _ ≤ _; exact Nat.le_of_eq rfl) (hb hby d1_11) (fun _ _ => ⟨rfl, e7, (by decide : 1 + 1 ≤ _), (by decide : 3 + 4 ≤ _)⟩)
  dsimp only [Pt.U, Pt.locs, Pt.cells, Pt.slots] at X15 l15 y15 z15 st15 hQ15
  subst l15 y15 z15
  obtain ⟨rfl, N15q, K15q⟩ := hQ15
  have N15 := Fr.app N1 N15q
  have F16 := F9.keep K15q
  have F17 := F10.keep K15q (ninS ne8 nin0)
  have F18 := A7.keep K15q
  have K21 := K11.trans K15q (allS (Or.inr sz7) all0)
  have Zs22 : n0 ≤ T15.heap.size := Nat.le_trans Zs12 K15q.1
  refine Go.of (fun tg_ kk_ => st15.trans kk_) ?_
  show Go p e below T15 (mkF m 14 #[.val (.ref a), .val (.ref b)] [(.ref b7), (.ref a)]) _
  obtain ⟨T23, h23, X23, e23, W23, st23⟩ := putF X15 hx hZ hown (host := "") (Or.inl (hw _ (List.mem_of_getElem? (i := 50) rfl))) Via.refl rfl F17 F16 (Or.inr ⟨(hw _ (List.mem_of_getElem? (i := 51) rfl)), rfl, hnm⟩) (hw _ (List.mem_of_getElem? (i := 2) rfl)) (ty := (.object "java/util/List")) (by decide) rfl rfl (g := (mkF m 14 #[.val (.ref a), .val (.ref b)] [(.ref b7), (.ref a)])) rfl rfl (hb hby d1_14)
  have Fw23 := F17.same W23
  have F24 := F16.wr W23
  have F26 := F18.wr W23
  have K27 := K21.wr W23 (Or.inl (List.mem_of_getElem? (i := 0) rfl))
  have Zs28 : n0 ≤ h23.size := Nat.le_trans Zs22 (Keep.of_wr W23).1
  have N23 := Fr.snoc X23 N15 g_a
  refine Go.of (st23) ?_
  show Go p e below T23 (mkF m 17 #[.val (.ref a), .val (.ref b)] []) _
  obtain ⟨fs, hr, hrun, hended, hW, hsame⟩ := X23.leave (v := none) (fun _ => rfl)
  refine ⟨_, _, ?_, hrun, hended, _, _, rfl, ?_, ⟨_, rfl⟩, hW, hsame.mono (by decide) (by decide)⟩
  · exact X23.returnOut hx Bd.returns (hb hby d1_17) hr
  · show Q1 Z a b h0 n0 _ T23.heap _
    rw [e23]
    exact ⟨rfl, N23, K27⟩
def blankF (x : Int32) : Int32 := if x = (32 : Int32) then (1 : Int32) else if x = (9 : Int32) then (1 : Int32) else if x = (10 : Int32) then (1 : Int32) else if x = (13 : Int32) then (1 : Int32) else if x = (12 : Int32) then (1 : Int32) else (0 : Int32)
theorem own_9 : (9 : Int32).toInt = 9 := by decide
theorem own_10 : (10 : Int32).toInt = 10 := by decide
theorem own_11 : (11 : Int32).toInt = 11 := by decide
theorem own_12 : (12 : Int32).toInt = 12 := by decide
theorem own_13 : (13 : Int32).toInt = 13 := by decide
theorem own_32 : (32 : Int32).toInt = 32 := by decide
theorem own_b1 (x : Int32) (h : (9 ≤ x.toInt ∧ x.toInt ≤ 13 ∧ x.toInt ≠ 11) ∨ x.toInt = 32) : blankF x = 1 := by
  simp only [blankF, ← Int32.toInt_inj, own_9, own_10, own_12, own_13, own_32]
  repeat' split
  all_goals first | rfl | (exfalso; omega)
theorem own_b0 (x : Int32) (h : ¬ ((9 ≤ x.toInt ∧ x.toInt ≤ 13 ∧ x.toInt ≠ 11) ∨ x.toInt = 32)) : blankF x = 0 := by
  simp only [blankF, ← Int32.toInt_inj, own_9, own_10, own_12, own_13, own_32]
  repeat' split
  all_goals first | rfl | (exfalso; omega)
theorem d7_0 : decode prog_30_method_14_code 0 = .ok (.iload_n 1, 1) := by decide +kernel
theorem d7_1 : decode prog_30_method_14_code 1 = .ok (.bipush 32, 2) := by decide +kernel
theorem d7_3 : decode prog_30_method_14_code 3 = .ok (.if_icmp .eq 27, 3) := by decide +kernel
theorem d7_6 : decode prog_30_method_14_code 6 = .ok (.iload_n 1, 1) := by decide +kernel
theorem d7_7 : decode prog_30_method_14_code 7 = .ok (.bipush 9, 2) := by decide +kernel
theorem d7_9 : decode prog_30_method_14_code 9 = .ok (.if_icmp .eq 21, 3) := by decide +kernel
theorem d7_12 : decode prog_30_method_14_code 12 = .ok (.iload_n 1, 1) := by decide +kernel
theorem d7_13 : decode prog_30_method_14_code 13 = .ok (.bipush 10, 2) := by decide +kernel
theorem d7_15 : decode prog_30_method_14_code 15 = .ok (.if_icmp .eq 15, 3) := by decide +kernel
theorem d7_18 : decode prog_30_method_14_code 18 = .ok (.iload_n 1, 1) := by decide +kernel
theorem d7_19 : decode prog_30_method_14_code 19 = .ok (.bipush 13, 2) := by decide +kernel
theorem d7_21 : decode prog_30_method_14_code 21 = .ok (.if_icmp .eq 9, 3) := by decide +kernel
theorem d7_24 : decode prog_30_method_14_code 24 = .ok (.iload_n 1, 1) := by decide +kernel
theorem d7_25 : decode prog_30_method_14_code 25 = .ok (.bipush 12, 2) := by decide +kernel
theorem d7_27 : decode prog_30_method_14_code 27 = .ok (.if_icmp .ne 7, 3) := by decide +kernel
theorem d7_30 : decode prog_30_method_14_code 30 = .ok (.iconst 1, 1) := by decide +kernel
theorem d7_31 : decode prog_30_method_14_code 31 = .ok (.goto 4, 3) := by decide +kernel
theorem d7_34 : decode prog_30_method_14_code 34 = .ok (.iconst 0, 1) := by decide +kernel
theorem d7_35 : decode prog_30_method_14_code 35 = .ok (.ireturn, 1) := by decide +kernel
theorem ef_7 (m : MethodId) (x0 : Addr) (x1 : Int32) : entryFrame m #[(.ref x0), (.int x1)] 2 = mkF m 0 #[.val (.ref x0), .val (.int x1)] [] := by first | (simp [entryFrame, mkF, argsToLocals, Value.category]; done) | rfl
def Q7 (Z : State) (a : Addr) (x : Int32) (h0 : Heap) (n0 : Nat) (v : Option Value) (h : Heap) (L : List Loc) : Prop := v = some (.int (blankF x)) ∧ Fr n0 L ∧ h = h0
set_option maxRecDepth 65536 in
set_option maxHeartbeats 40000000 in
theorem rm7 (l : Launch) (Z : State) (a0 : Array Value) (hw : ∀ d ∈ tables_1, d.before a0 Z = true) (ws : List Jvm.Cond) (a : Addr) (x : Int32) (h0 : Heap) (n0 : Nat) (Z0 : n0 ≤ h0.size) :
    MetFree l (⟨"com/example/stairstep/stairstep/PostgreSqlScript", "blank", "(C)Z"⟩ : MethodName) (head1 (Jvm.Cond.code (⟨"com/example/stairstep/stairstep/PostgreSqlScript", "blank", "(C)Z"⟩ : MethodName) prog_30_method_14_code 2 (some .boolean) :: ws) ({ frames := 0, cells := 0, slots := 0, locals := 0 } : Room)) (fun aa_ U => aa_ = #[(.ref a), (.int x)] ∧ Z.Warmed39 U.vm ∧ U.heap = h0) (fun _ _ _ _ _ => True) (fun _ U o U' => ∃ vv_ LL_, o = .returned vv_ ∧ Q7 Z a x h0 n0 vv_ U'.heap LL_ ∧ FrameEnd U o U' LL_ ({ frames := 0, cells := 0, slots := 0, locals := 0 } : Room).cells ({ frames := 0, cells := 0, slots := 0, locals := 0 } : Room).slots) := by
  refine MetFree.of_bodySF (plainFor_of_name pn_4) hisR ?_
  intro p e s m args below meth c s₁ Bd hml0 hP hK
  obtain ⟨rfl, hZ, hh⟩ := hP
  have hx := Bd.exec
  have hby := Bd.bytes
  have hml : c.maxLocals = 2 := hml0
  have hown : s.vm.findClass "com/example/stairstep/stairstep/PostgreSqlScript" = some m.cls := findClass_of_methodNamed Bd.named
  have hnm := (name_of_methodNamed Bd.named Bd.method).1
  have X0 : Stand p l e ({ frames := 0, cells := 0, slots := 0, locals := 0 } : Room) s m #[(.ref a), (.int x)] below meth c s₁ [] 0 0 := Stand.of_body Bd
  have e0 : s₁.heap = h0 := by rw [← hh, Bd.state]; rfl
  have N0 := Fr.nil n0
  have K0 : Keep h0 h0 [] := Keep.refl h0 _
  refine Go.enter (P := fun o U' => ∃ vv_ LL_, o = .returned vv_ ∧ Q7 Z a x h0 n0 vv_ U'.heap LL_ ∧ FrameEnd s o U' LL_ ({ frames := 0, cells := 0, slots := 0, locals := 0 } : Room).cells ({ frames := 0, cells := 0, slots := 0, locals := 0 } : Room).slots) (ef_7 m a x) ?_
  show Go p e below s₁ (mkF m 0 #[.val (.ref a), .val (.int x)] []) _
  refine Go.of (fun tg_ kk_ => XS.iloadN X0.here hx rfl (hb hby d7_0) rfl kk_) ?_
  show Go p e below s₁ (mkF m 1 #[.val (.ref a), .val (.int x)] [(.int x)]) _
  refine Go.of (fun tg_ kk_ => XS.bipush X0.here hx rfl (hb hby d7_1) kk_) ?_
  show Go p e below s₁ (mkF m 3 #[.val (.ref a), .val (.int x)] [(.int (32 : Int32)), (.int x)]) _
  by_cases hc1 : x = (32 : Int32)
  · skip
    refine Go.of (fun tg_ kk_ => XS.icmpYes X0.here hx rfl (pc0 := 3) (pc' := 30) rfl (hb hby d7_3) rfl (teq hc1).1 (by decide) (by decide) kk_) ?_
    show Go p e below s₁ (mkF m 30 #[.val (.ref a), .val (.int x)] []) _
    refine Go.of (fun tg_ kk_ => XS.iconst X0.here hx rfl (hb hby d7_30) kk_) ?_
    show Go p e below s₁ (mkF m 31 #[.val (.ref a), .val (.int x)] [(.int (1 : Int32))]) _
    refine Go.of (fun tg_ kk_ => XS.goto X0.here hx rfl (pc0 := 31) (pc' := 35) rfl (hb hby d7_31) (by decide) (by decide) kk_) ?_
    show Go p e below s₁ (mkF m 35 #[.val (.ref a), .val (.int x)] [(.int (1 : Int32))]) _
    obtain ⟨fs, hr, hrun, hended, hW, hsame⟩ := X0.leave (v := some (.int (1 : Int32))) (fun h => by rw [Bd.returns] at h; cases h)
    refine ⟨_, _, ?_, hrun, hended, _, _, rfl, ?_, ⟨_, rfl⟩, hW, hsame.mono (by decide) (by decide)⟩
    · exact retN X0 hx (t := .boolean) Bd.returns (by simp) (hb hby d7_35) hr
    · show Q7 Z a x h0 n0 _ s₁.heap _
      rw [e0]
      exact ⟨by simp [blankF, hc1], N0, rfl⟩
  · skip
    refine Go.of (fun tg_ kk_ => XS.icmpNo X0.here hx rfl (hb hby d7_3) rfl (feq hc1).1 kk_) ?_
    show Go p e below s₁ (mkF m 6 #[.val (.ref a), .val (.int x)] []) _
    refine Go.of (fun tg_ kk_ => XS.iloadN X0.here hx rfl (hb hby d7_6) rfl kk_) ?_
    show Go p e below s₁ (mkF m 7 #[.val (.ref a), .val (.int x)] [(.int x)]) _
    refine Go.of (fun tg_ kk_ => XS.bipush X0.here hx rfl (hb hby d7_7) kk_) ?_
    show Go p e below s₁ (mkF m 9 #[.val (.ref a), .val (.int x)] [(.int (9 : Int32)), (.int x)]) _
    by_cases hc2 : x = (9 : Int32)
    · skip
      refine Go.of (fun tg_ kk_ => XS.icmpYes X0.here hx rfl (pc0 := 9) (pc' := 30) rfl (hb hby d7_9) rfl (teq hc2).1 (by decide) (by decide) kk_) ?_
      show Go p e below s₁ (mkF m 30 #[.val (.ref a), .val (.int x)] []) _
      refine Go.of (fun tg_ kk_ => XS.iconst X0.here hx rfl (hb hby d7_30) kk_) ?_
      show Go p e below s₁ (mkF m 31 #[.val (.ref a), .val (.int x)] [(.int (1 : Int32))]) _
      refine Go.of (fun tg_ kk_ => XS.goto X0.here hx rfl (pc0 := 31) (pc' := 35) rfl (hb hby d7_31) (by decide) (by decide) kk_) ?_
      show Go p e below s₁ (mkF m 35 #[.val (.ref a), .val (.int x)] [(.int (1 : Int32))]) _
      obtain ⟨fs, hr, hrun, hended, hW, hsame⟩ := X0.leave (v := some (.int (1 : Int32))) (fun h => by rw [Bd.returns] at h; cases h)
      refine ⟨_, _, ?_, hrun, hended, _, _, rfl, ?_, ⟨_, rfl⟩, hW, hsame.mono (by decide) (by decide)⟩
      · exact retN X0 hx (t := .boolean) Bd.returns (by simp) (hb hby d7_35) hr
      · show Q7 Z a x h0 n0 _ s₁.heap _
        rw [e0]
        exact ⟨by simp [blankF, hc1, hc2], N0, rfl⟩
    · skip
      refine Go.of (fun tg_ kk_ => XS.icmpNo X0.here hx rfl (hb hby d7_9) rfl (feq hc2).1 kk_) ?_
      show Go p e below s₁ (mkF m 12 #[.val (.ref a), .val (.int x)] []) _
      refine Go.of (fun tg_ kk_ => XS.iloadN X0.here hx rfl (hb hby d7_12) rfl kk_) ?_
      show Go p e below s₁ (mkF m 13 #[.val (.ref a), .val (.int x)] [(.int x)]) _
      refine Go.of (fun tg_ kk_ => XS.bipush X0.here hx rfl (hb hby d7_13) kk_) ?_
      show Go p e below s₁ (mkF m 15 #[.val (.ref a), .val (.int x)] [(.int (10 : Int32)), (.int x)]) _
      by_cases hc3 : x = (10 : Int32)
      · skip
        refine Go.of (fun tg_ kk_ => XS.icmpYes X0.here hx rfl (pc0 := 15) (pc' := 30) rfl (hb hby d7_15) rfl (teq hc3).1 (by decide) (by decide) kk_) ?_
        show Go p e below s₁ (mkF m 30 #[.val (.ref a), .val (.int x)] []) _
        refine Go.of (fun tg_ kk_ => XS.iconst X0.here hx rfl (hb hby d7_30) kk_) ?_
        show Go p e below s₁ (mkF m 31 #[.val (.ref a), .val (.int x)] [(.int (1 : Int32))]) _
        refine Go.of (fun tg_ kk_ => XS.goto X0.here hx rfl (pc0 := 31) (pc' := 35) rfl (hb hby d7_31) (by decide) (by decide) kk_) ?_
        show Go p e below s₁ (mkF m 35 #[.val (.ref a), .val (.int x)] [(.int (1 : Int32))]) _
        obtain ⟨fs, hr, hrun, hended, hW, hsame⟩ := X0.leave (v := some (.int (1 : Int32))) (fun h => by rw [Bd.returns] at h; cases h)
        refine ⟨_, _, ?_, hrun, hended, _, _, rfl, ?_, ⟨_, rfl⟩, hW, hsame.mono (by decide) (by decide)⟩
        · exact retN X0 hx (t := .boolean) Bd.returns (by simp) (hb hby d7_35) hr
        · show Q7 Z a x h0 n0 _ s₁.heap _
          rw [e0]
          exact ⟨by simp [blankF, hc1, hc2, hc3], N0, rfl⟩
      · skip
        refine Go.of (fun tg_ kk_ => XS.icmpNo X0.here hx rfl (hb hby d7_15) rfl (feq hc3).1 kk_) ?_
        show Go p e below s₁ (mkF m 18 #[.val (.ref a), .val (.int x)] []) _
        refine Go.of (fun tg_ kk_ => XS.iloadN X0.here hx rfl (hb hby d7_18) rfl kk_) ?_
        show Go p e below s₁ (mkF m 19 #[.val (.ref a), .val (.int x)] [(.int x)]) _
        refine Go.of (fun tg_ kk_ => XS.bipush X0.here hx rfl (hb hby d7_19) kk_) ?_
        show Go p e below s₁ (mkF m 21 #[.val (.ref a), .val (.int x)] [(.int (13 : Int32)), (.int x)]) _
        by_cases hc4 : x = (13 : Int32)
        · skip
          refine Go.of (fun tg_ kk_ => XS.icmpYes X0.here hx rfl (pc0 := 21) (pc' := 30) rfl (hb hby d7_21) rfl (teq hc4).1 (by decide) (by decide) kk_) ?_
          show Go p e below s₁ (mkF m 30 #[.val (.ref a), .val (.int x)] []) _
          refine Go.of (fun tg_ kk_ => XS.iconst X0.here hx rfl (hb hby d7_30) kk_) ?_
          show Go p e below s₁ (mkF m 31 #[.val (.ref a), .val (.int x)] [(.int (1 : Int32))]) _
          refine Go.of (fun tg_ kk_ => XS.goto X0.here hx rfl (pc0 := 31) (pc' := 35) rfl (hb hby d7_31) (by decide) (by decide) kk_) ?_
          show Go p e below s₁ (mkF m 35 #[.val (.ref a), .val (.int x)] [(.int (1 : Int32))]) _
          obtain ⟨fs, hr, hrun, hended, hW, hsame⟩ := X0.leave (v := some (.int (1 : Int32))) (fun h => by rw [Bd.returns] at h; cases h)
          refine ⟨_, _, ?_, hrun, hended, _, _, rfl, ?_, ⟨_, rfl⟩, hW, hsame.mono (by decide) (by decide)⟩
          · exact retN X0 hx (t := .boolean) Bd.returns (by simp) (hb hby d7_35) hr
          · show Q7 Z a x h0 n0 _ s₁.heap _
            rw [e0]
            exact ⟨by simp [blankF, hc1, hc2, hc3, hc4], N0, rfl⟩
        · skip
          refine Go.of (fun tg_ kk_ => XS.icmpNo X0.here hx rfl (hb hby d7_21) rfl (feq hc4).1 kk_) ?_
          show Go p e below s₁ (mkF m 24 #[.val (.ref a), .val (.int x)] []) _
          refine Go.of (fun tg_ kk_ => XS.iloadN X0.here hx rfl (hb hby d7_24) rfl kk_) ?_
          show Go p e below s₁ (mkF m 25 #[.val (.ref a), .val (.int x)] [(.int x)]) _
          refine Go.of (fun tg_ kk_ => XS.bipush X0.here hx rfl (hb hby d7_25) kk_) ?_
          show Go p e below s₁ (mkF m 27 #[.val (.ref a), .val (.int x)] [(.int (12 : Int32)), (.int x)]) _
          by_cases hc5 : x = (12 : Int32)
          · skip
            refine Go.of (fun tg_ kk_ => XS.icmpNo X0.here hx rfl (hb hby d7_27) rfl (teq hc5).2 kk_) ?_
            show Go p e below s₁ (mkF m 30 #[.val (.ref a), .val (.int x)] []) _
            refine Go.of (fun tg_ kk_ => XS.iconst X0.here hx rfl (hb hby d7_30) kk_) ?_
            show Go p e below s₁ (mkF m 31 #[.val (.ref a), .val (.int x)] [(.int (1 : Int32))]) _
            refine Go.of (fun tg_ kk_ => XS.goto X0.here hx rfl (pc0 := 31) (pc' := 35) rfl (hb hby d7_31) (by decide) (by decide) kk_) ?_
            show Go p e below s₁ (mkF m 35 #[.val (.ref a), .val (.int x)] [(.int (1 : Int32))]) _
            obtain ⟨fs, hr, hrun, hended, hW, hsame⟩ := X0.leave (v := some (.int (1 : Int32))) (fun h => by rw [Bd.returns] at h; cases h)
            refine ⟨_, _, ?_, hrun, hended, _, _, rfl, ?_, ⟨_, rfl⟩, hW, hsame.mono (by decide) (by decide)⟩
            · exact retN X0 hx (t := .boolean) Bd.returns (by simp) (hb hby d7_35) hr
            · show Q7 Z a x h0 n0 _ s₁.heap _
              rw [e0]
              exact ⟨by simp [blankF, hc1, hc2, hc3, hc4, hc5], N0, rfl⟩
          · skip
            refine Go.of (fun tg_ kk_ => XS.icmpYes X0.here hx rfl (pc0 := 27) (pc' := 34) rfl (hb hby d7_27) rfl (feq hc5).2 (by decide) (by decide) kk_) ?_
            show Go p e below s₁ (mkF m 34 #[.val (.ref a), .val (.int x)] []) _
            refine Go.of (fun tg_ kk_ => XS.iconst X0.here hx rfl (hb hby d7_34) kk_) ?_
            show Go p e below s₁ (mkF m 35 #[.val (.ref a), .val (.int x)] [(.int (0 : Int32))]) _
            obtain ⟨fs, hr, hrun, hended, hW, hsame⟩ := X0.leave (v := some (.int (0 : Int32))) (fun h => by rw [Bd.returns] at h; cases h)
            refine ⟨_, _, ?_, hrun, hended, _, _, rfl, ?_, ⟨_, rfl⟩, hW, hsame.mono (by decide) (by decide)⟩
            · exact retN X0 hx (t := .boolean) Bd.returns (by simp) (hb hby d7_35) hr
            · show Q7 Z a x h0 n0 _ s₁.heap _
              rw [e0]
              exact ⟨by simp [blankF, hc1, hc2, hc3, hc4, hc5], N0, rfl⟩
theorem ef_0 (m : MethodId) (x0 : Int32) : entryFrame m #[(.int x0)] maxLocals = mkF m 0 #[.val (.int x0), .unset, .unset, .unset, .unset] [] := by first | (simp [entryFrame, mkF, argsToLocals, Value.category, maxLocals]; done) | rfl
def Q0 (Z : State) (p0 : Int32) (h0 : Heap) (n0 : Nat) (v : Option Value) (h : Heap) (L : List Loc) : Prop := v = some (.int 1) ∧ Fr n0 L
set_option maxRecDepth 65536 in
set_option maxHeartbeats 40000000 in
theorem rm0 (l : Launch) (Z : State) (a0 : Array Value) (hw : ∀ d ∈ tables_1, d.before a0 Z = true) (ws : List Jvm.Cond) (p0 : Int32) (h0 : Heap) (n0 : Nat) (Z0 : n0 ≤ h0.size) :
    MetFree l x (head1 (Jvm.Cond.code x code maxLocals ret :: ws) room_1) (fun aa_ U => aa_ = #[(.int p0)] ∧ Z.Warmed39 U.vm ∧ U.heap = h0) (fun _ _ _ _ _ => True) (fun _ U o U' => ∃ vv_ LL_, o = .returned vv_ ∧ Q0 Z p0 h0 n0 vv_ U'.heap LL_ ∧ ReturnedEndW U o U' LL_ 16 1152) := by
  refine MetFree.of_bodySF (plainFor_of_name pn_5) hisR ?_
  intro p e s m args below meth c s₁ Bd hml0 hP hK
  obtain ⟨rfl, hZ, hh⟩ := hP
  have hx := Bd.exec
  have hby := Bd.bytes
  have hml : c.maxLocals = 5 := hml0
  have hown : s.vm.findClass "com/example/stairstep/stairstep/PostgreSqlScriptBlankPinLaw" = some m.cls := findClass_of_methodNamed Bd.named
  have hnm := (name_of_methodNamed Bd.named Bd.method).1
  have X0 : Stand p l e room_1 (s.setVm s.vm) m #[(.int p0)] below meth c s₁ [] 0 0 := Stand.of_body Bd
  have e0 : s₁.heap = h0 := by rw [← hh, Bd.state]; rfl
  have N0 := Fr.nil n0
  have K0 : Keep h0 h0 [] := Keep.refl h0 _
  have hS0 : s.Since s.vm h0.size := (State.WarmedH.refl s).since _
  have hk0 : h0.size ≤ h0.size := Nat.le_refl _
  have wS : ∀ a ∈ Bundle.stringAtoms, a.before a0 Z = true := by
    intro d hd
    simp only [Bundle.stringAtoms, List.mem_cons, List.not_mem_nil, or_false] at hd
    rcases hd with rfl | rfl | rfl | rfl | rfl | rfl | rfl
    · exact (hw _ (List.mem_of_getElem? (i := 5) rfl))
    · exact (hw _ (List.mem_of_getElem? (i := 6) rfl))
    · exact (hw _ (List.mem_of_getElem? (i := 7) rfl))
    · exact (hw _ (List.mem_of_getElem? (i := 8) rfl))
    · exact (hw _ (List.mem_of_getElem? (i := 9) rfl))
    · exact (hw _ (List.mem_of_getElem? (i := 10) rfl))
    · exact (hw _ (List.mem_of_getElem? (i := 11) rfl))
  refine Go.enter (P := fun o U' => ∃ vv_ LL_, o = .returned vv_ ∧ Q0 Z p0 h0 n0 vv_ U'.heap LL_ ∧ ReturnedEndW s o U' LL_ 16 1152) (ef_0 m p0) ?_
  show Go p e below s₁ (mkF m 0 #[.val (.int p0), .unset, .unset, .unset, .unset] []) _
  refine Go.of (fun tg_ kk_ => XS.iloadN X0.here hx rfl (hb hby at_0) rfl kk_) ?_
  show Go p e below s₁ (mkF m 1 #[.val (.int p0), .unset, .unset, .unset, .unset] [(.int p0)]) _
  refine Go.of (X0.ldcInt hx hown (mvT hZ (hw _ (List.mem_of_getElem? (i := 0) rfl))) (g := (mkF m 1 #[.val (.int p0), .unset, .unset, .unset, .unset] [(.int p0)])) rfl (hb hby at_1)) ?_
  show Go p e below s₁ (mkF m 3 #[.val (.int p0), .unset, .unset, .unset, .unset] [(.int (65535 : Int32)), (.int p0)]) _
  refine Go.of (fun tg_ kk_ => XS.iand X0.here hx rfl (hb hby at_3) rfl kk_) ?_
  show Go p e below s₁ (mkF m 4 #[.val (.int p0), .unset, .unset, .unset, .unset] [(.int (p0 &&& (65535 : Int32)))]) _
  refine Go.of (fun tg_ kk_ => XS.i2c X0.here hx rfl (hb hby at_4) rfl kk_) ?_
  show Go p e below s₁ (mkF m 5 #[.val (.int p0), .unset, .unset, .unset, .unset] [(.int ((p0 &&& (65535 : Int32)).toUInt32.toUInt16.toUInt32.toInt32))]) _
  obtain ⟨cc, qcc⟩ : ∃ z : Int32, z = ((p0 &&& (65535 : Int32)).toUInt32.toUInt16.toUInt32.toInt32) := ⟨_, rfl⟩
  rw [← qcc]
  show Go p e below s₁ (mkF m 5 #[.val (.int p0), .unset, .unset, .unset, .unset] [(.int cc)]) _
  refine Go.of (fun tg_ kk_ => XS.istoreN X0.here hx rfl (hb hby at_5) rfl (l' := #[.val (.int p0), .val (.int cc), .unset, .unset, .unset]) rfl kk_) ?_
  show Go p e below s₁ (mkF m 6 #[.val (.int p0), .val (.int cc), .unset, .unset, .unset] []) _
  obtain ⟨T1, h1, X1, e1, E1, A1, D1, -, st1⟩ := newO X0 hx hZ hown (hw _ (List.mem_of_getElem? (i := 1) rfl)) (hw _ (List.mem_of_getElem? (i := 2) rfl)) (hw _ (List.mem_of_getElem? (i := 3) rfl)) e0 (g := (mkF m 6 #[.val (.int p0), .val (.int cc), .unset, .unset, .unset] [])) rfl (hb hby at_6) (by decide) (by decide)
  obtain ⟨b1, g1⟩ : ∃ z, z = h0.size := ⟨_, rfl⟩
  rw [← g1] at A1 D1 st1
  have gx1 : n0 ≤ b1 := Nat.le_trans Z0 (Nat.le_of_eq g1.symm)
  have sz1 : h0.size ≤ b1 := Nat.le_trans K0.1 (Nat.le_of_eq g1.symm)
  have K2 := K0.ext E1
  have Zs3 : n0 ≤ h1.size := Nat.le_trans Z0 E1.1
  have hk4 := Nat.le_trans hk0 E1.1
  have F5 : Fld Z h1 b1 "com/example/stairstep/stairstep/Script" "sql" "Ljava/lang/String;" .null := D1 (Or.inr (hw _ (List.mem_of_getElem? (i := 24) rfl))) (ty := (.object "java/lang/String")) (by decide)
  have F6 : Fld Z h1 b1 "com/example/stairstep/stairstep/PostgreSqlScript" "opening" "Ljava/util/List;" .null := D1 (Or.inr (hw _ (List.mem_of_getElem? (i := 51) rfl))) (ty := (.object "java/util/List")) (by decide)
  refine Go.of (st1) ?_
  show Go p e below T1 (mkF m 9 #[.val (.int p0), .val (.int cc), .unset, .unset, .unset] [(.ref b1)]) _
  refine Go.of (fun tg_ kk_ => XS.dup X1.here hx rfl (hb hby at_9) rfl rfl kk_) ?_
  show Go p e below T1 (mkF m 10 #[.val (.int p0), .val (.int cc), .unset, .unset, .unset] [(.ref b1), (.ref b1)]) _
  obtain ⟨sa7, T7, h7, kk7, X7, e7, E7, hS7, hj7, hZ7, hown7, st7⟩ := ldcS X1 hx hZ hown (hw _ (List.mem_of_getElem? (i := 4) rfl)) wS e1 hS0 hk4 (g := (mkF m 10 #[.val (.int p0), .val (.int cc), .unset, .unset, .unset] [(.ref b1), (.ref b1)])) rfl (hb hby at_10) (n := 0) (by decide +kernel) (by decide) (by decide) (by decide)
  have F8 := A1.ext E7
  have F9 := F5.ext E7
  have F10 := F6.ext E7
  have K11 := K2.ext E7
  have Zs12 : n0 ≤ h7.size := Nat.le_trans Zs3 E7.1
  have hk13 := Nat.le_trans hk4 E7.1
  refine Go.of (st7) ?_
  show Go p e below T7 (mkF m 12 #[.val (.int p0), .val (.int cc), .unset, .unset, .unset] [(.ref sa7), (.ref b1), (.ref b1)]) _
  obtain ⟨_, _, ⟨T14, L14, k14, n14⟩, -, X14, ⟨Lc14, hQ14, l14, y14, z14⟩, st14⟩ := X7.specialBack hx (y := (⟨"com/example/stairstep/stairstep/PostgreSqlScript", "<init>", "(Ljava/lang/String;)V"⟩ : MethodName)) rfl hown7 (mvT hZ7 (hw _ (List.mem_of_getElem? (i := 12) rfl))) (mvT hZ7 (hw _ (List.mem_of_getElem? (i := 13) rfl))) (mvT hZ7 (hw _ (List.mem_of_getElem? (i := 14) rfl))) (by decide) (backOf (W := 1) (rm1 l Z a0 hw [] b1 sa7 h7 n0 Zs12 gx1 F8 F9 F10) hZ7 (hw _ (List.mem_of_getElem? (i := 14) rfl)) (hw _ (List.mem_of_getElem? (i := 3) rfl)) (by decide) (by decide)) (g := (mkF m 12 #[.val (.int p0), .val (.int cc), .unset, .unset, .unset] [(.ref sa7), (.ref b1), (.ref b1)])) rfl (by rw [hml]; rfl) (Steps.refl _) (a := b1) (argsL := [(.ref sa7)]) (rest := [(.ref b1)]) (lenOf pd_1 rfl) rfl (by show 2 * 0 + _ ≤ _; exact Nat.le_of_eq rfl) (hb hby at_12) (fun _ _ => ⟨rfl, e7, (by decide : 3 + 2 ≤ _), (by decide : 18 + 7 ≤ _)⟩)
  dsimp only [Pt.U, Pt.locs, Pt.cells, Pt.slots] at X14 l14 y14 z14 st14 hQ14
  subst l14 y14 z14
  obtain ⟨rfl, N14q, K14q⟩ := hQ14
  have N14 := Fr.app N0 N14q
  have F15 := F8.keep K14q
  have K18 := K11.trans K14q (allS (Or.inr sz1) all0)
  have Zs19 : n0 ≤ T14.heap.size := Nat.le_trans Zs12 K14q.1
  have hk20 := Nat.le_trans hj7 K14q.1
  refine Go.of (fun tg_ kk_ => st14.trans kk_) ?_
  show Go p e below T14 (mkF m 15 #[.val (.int p0), .val (.int cc), .unset, .unset, .unset] [(.ref b1)]) _
  refine Go.of (fun tg_ kk_ => XS.astoreN X14.here hx rfl (hb hby at_15) rfl rfl (l' := #[.val (.int p0), .val (.int cc), .val (.ref b1), .unset, .unset]) rfl kk_) ?_
  show Go p e below T14 (mkF m 16 #[.val (.int p0), .val (.int cc), .val (.ref b1), .unset, .unset] []) _
  refine Go.of (fun tg_ kk_ => XS.iloadN X14.here hx rfl (hb hby at_16) rfl kk_) ?_
  show Go p e below T14 (mkF m 17 #[.val (.int p0), .val (.int cc), .val (.ref b1), .unset, .unset] [(.int cc)]) _
  refine Go.of (fun tg_ kk_ => XS.istoreN X14.here hx rfl (hb hby at_17) rfl (l' := #[.val (.int p0), .val (.int cc), .val (.ref b1), .val (.int cc), .unset]) rfl kk_) ?_
  show Go p e below T14 (mkF m 18 #[.val (.int p0), .val (.int cc), .val (.ref b1), .val (.int cc), .unset] []) _
  refine Go.of (fun tg_ kk_ => XS.iloadN X14.here hx rfl (hb hby at_18) rfl kk_) ?_
  show Go p e below T14 (mkF m 19 #[.val (.int p0), .val (.int cc), .val (.ref b1), .val (.int cc), .unset] [(.int cc)]) _
  refine Go.of (fun tg_ kk_ => XS.bipush X14.here hx rfl (hb hby at_19) kk_) ?_
  show Go p e below T14 (mkF m 21 #[.val (.int p0), .val (.int cc), .val (.ref b1), .val (.int cc), .unset] [(.int (32 : Int32)), (.int cc)]) _
  by_cases hc21 : cc = (32 : Int32)
  · skip
    refine Go.of (fun tg_ kk_ => XS.icmpYes X14.here hx rfl (pc0 := 21) (pc' := 42) rfl (hb hby at_21) rfl (teq hc21).1 (by decide) (by decide) kk_) ?_
    show Go p e below T14 (mkF m 42 #[.val (.int p0), .val (.int cc), .val (.ref b1), .val (.int cc), .unset] []) _
    refine Go.of (fun tg_ kk_ => XS.iconst X14.here hx rfl (hb hby at_42) kk_) ?_
    show Go p e below T14 (mkF m 43 #[.val (.int p0), .val (.int cc), .val (.ref b1), .val (.int cc), .unset] [(.int (1 : Int32))]) _
    refine Go.of (fun tg_ kk_ => XS.goto X14.here hx rfl (pc0 := 43) (pc' := 47) rfl (hb hby at_43) (by decide) (by decide) kk_) ?_
    show Go p e below T14 (mkF m 47 #[.val (.int p0), .val (.int cc), .val (.ref b1), .val (.int cc), .unset] [(.int (1 : Int32))]) _
    refine Go.of (fun tg_ kk_ => XS.istore X14.here hx rfl (hb hby at_47) rfl (l' := #[.val (.int p0), .val (.int cc), .val (.ref b1), .val (.int cc), .val (.int (1 : Int32))]) rfl kk_) ?_
    show Go p e below T14 (mkF m 49 #[.val (.int p0), .val (.int cc), .val (.ref b1), .val (.int cc), .val (.int (1 : Int32))] []) _
    refine Go.of (fun tg_ kk_ => XS.aloadN X14.here hx rfl (hb hby at_49) rfl rfl kk_) ?_
    show Go p e below T14 (mkF m 50 #[.val (.int p0), .val (.int cc), .val (.ref b1), .val (.int cc), .val (.int (1 : Int32))] [(.ref b1)]) _
    refine Go.of (fun tg_ kk_ => XS.iloadN X14.here hx rfl (hb hby at_50) rfl kk_) ?_
    show Go p e below T14 (mkF m 51 #[.val (.int p0), .val (.int cc), .val (.ref b1), .val (.int cc), .val (.int (1 : Int32))] [(.int cc), (.ref b1)]) _
    obtain ⟨cq22, kq22, q22a, q22b, q22c⟩ := isOf hZ7 rfl F15
    obtain ⟨_, _, ⟨T22, L22, k22, n22⟩, -, X22, ⟨Lc22, hQ22, l22, y22, z22⟩, st22⟩ := X14.virtualBack hx (y := (⟨"com/example/stairstep/stairstep/PostgreSqlScript", "blank", "(C)Z"⟩ : MethodName)) (z := (⟨"com/example/stairstep/stairstep/PostgreSqlScript", "blank", "(C)Z"⟩ : MethodName)) hown7 (mvT hZ7 (hw _ (List.mem_of_getElem? (i := 52) rfl))) (mvT hZ7 (hw _ (List.mem_of_getElem? (i := 53) rfl))) (notFace_of_selects (args := #[]) (mvT hZ7 (hw _ (List.mem_of_getElem? (i := 55) rfl)))) (mvT hZ7 (hw _ (List.mem_of_getElem? (i := 55) rfl))) (mvT hZ7 (hw _ (List.mem_of_getElem? (i := 54) rfl))) (by decide) (backOf (W := 0) (rm7 l Z a0 hw [] b1 cc T14.heap n0 Zs19) hZ7 (hw _ (List.mem_of_getElem? (i := 56) rfl)) (hw _ (List.mem_of_getElem? (i := 3) rfl)) (by decide) (by decide)) q22a q22c (g := (mkF m 51 #[.val (.int p0), .val (.int cc), .val (.ref b1), .val (.int cc), .val (.int (1 : Int32))] [(.int cc), (.ref b1)])) rfl (by rw [hml]; rfl) (Steps.refl _) (argsL := [(.int cc)]) (rest := []) (lenOf pd_3 rfl) rfl (by show 2 * 0 + _ ≤ _; exact Nat.le_of_eq rfl) (hb hby at_51) (fun _ _ => ⟨rfl, rfl, (by decide : 5 + 0 ≤ _), (by decide : 25 + 0 ≤ _)⟩)
    dsimp only [Pt.U, Pt.locs, Pt.cells, Pt.slots] at X22 l22 y22 z22 st22 hQ22
    subst l22 y22 z22
    obtain ⟨rfl, N22q, e22⟩ := hQ22
    have N22 := Fr.app N14 N22q
    refine Go.of (fun tg_ kk_ => st22.trans kk_) ?_
    show Go p e below T22 (mkF m 54 #[.val (.int p0), .val (.int cc), .val (.ref b1), .val (.int cc), .val (.int (1 : Int32))] [(.int (blankF cc))]) _
    refine Go.of (fun tg_ kk_ => XS.iload X22.here hx rfl (hb hby at_54) rfl kk_) ?_
    show Go p e below T22 (mkF m 56 #[.val (.int p0), .val (.int cc), .val (.ref b1), .val (.int cc), .val (.int (1 : Int32))] [(.int (1 : Int32)), (.int (blankF cc))]) _
    refine Go.of (fun tg_ kk_ => XS.icmpNo X22.here hx rfl (hb hby at_56) rfl (teq (show (blankF cc) = (1 : Int32) from (own_b1 cc (by simp only [Int32.lt_iff_toInt_lt, ← Int32.toInt_inj, own_9, own_11, own_13, own_32] at hc21; omega)))).2 kk_) ?_
    show Go p e below T22 (mkF m 59 #[.val (.int p0), .val (.int cc), .val (.ref b1), .val (.int cc), .val (.int (1 : Int32))] []) _
    refine Go.of (fun tg_ kk_ => XS.iconst X22.here hx rfl (hb hby at_59) kk_) ?_
    show Go p e below T22 (mkF m 60 #[.val (.int p0), .val (.int cc), .val (.ref b1), .val (.int cc), .val (.int (1 : Int32))] [(.int (1 : Int32))]) _
    refine Go.of (fun tg_ kk_ => XS.goto X22.here hx rfl (pc0 := 60) (pc' := 64) rfl (hb hby at_60) (by decide) (by decide) kk_) ?_
    show Go p e below T22 (mkF m 64 #[.val (.int p0), .val (.int cc), .val (.ref b1), .val (.int cc), .val (.int (1 : Int32))] [(.int (1 : Int32))]) _
    obtain ⟨fs, hr, hrun, hended, hend⟩ := X22.leaveW hS7 (by rw [e22]; exact hk20) (v := some (.int (1 : Int32))) (fun h => by rw [Bd.returns] at h; cases h)
    refine ⟨_, _, ?_, hrun, hended, _, _, rfl, ?_, hend.1, hend.2.1, hend.2.2.1, hend.2.2.2.mono (by decide) (by decide)⟩
    · exact retN X22 hx (t := .boolean) Bd.returns (by simp) (hb hby at_64) hr
    · show Q0 Z p0 h0 n0 _ T22.heap _
      rw [e22]
      exact ⟨rfl, N22⟩
  · skip
    refine Go.of (fun tg_ kk_ => XS.icmpNo X14.here hx rfl (hb hby at_21) rfl (feq hc21).1 kk_) ?_
    show Go p e below T14 (mkF m 24 #[.val (.int p0), .val (.int cc), .val (.ref b1), .val (.int cc), .unset] []) _
    refine Go.of (fun tg_ kk_ => XS.iloadN X14.here hx rfl (hb hby at_24) rfl kk_) ?_
    show Go p e below T14 (mkF m 25 #[.val (.int p0), .val (.int cc), .val (.ref b1), .val (.int cc), .unset] [(.int cc)]) _
    refine Go.of (fun tg_ kk_ => XS.bipush X14.here hx rfl (hb hby at_25) kk_) ?_
    show Go p e below T14 (mkF m 27 #[.val (.int p0), .val (.int cc), .val (.ref b1), .val (.int cc), .unset] [(.int (9 : Int32)), (.int cc)]) _
    by_cases hc23 : cc < (9 : Int32)
    · skip
      refine Go.of (fun tg_ kk_ => XS.icmpYes X14.here hx rfl (pc0 := 27) (pc' := 46) rfl (hb hby at_27) rfl (tlt hc23).1 (by decide) (by decide) kk_) ?_
      show Go p e below T14 (mkF m 46 #[.val (.int p0), .val (.int cc), .val (.ref b1), .val (.int cc), .unset] []) _
      refine Go.of (fun tg_ kk_ => XS.iconst X14.here hx rfl (hb hby at_46) kk_) ?_
      show Go p e below T14 (mkF m 47 #[.val (.int p0), .val (.int cc), .val (.ref b1), .val (.int cc), .unset] [(.int (0 : Int32))]) _
      refine Go.of (fun tg_ kk_ => XS.istore X14.here hx rfl (hb hby at_47) rfl (l' := #[.val (.int p0), .val (.int cc), .val (.ref b1), .val (.int cc), .val (.int (0 : Int32))]) rfl kk_) ?_
      show Go p e below T14 (mkF m 49 #[.val (.int p0), .val (.int cc), .val (.ref b1), .val (.int cc), .val (.int (0 : Int32))] []) _
      refine Go.of (fun tg_ kk_ => XS.aloadN X14.here hx rfl (hb hby at_49) rfl rfl kk_) ?_
      show Go p e below T14 (mkF m 50 #[.val (.int p0), .val (.int cc), .val (.ref b1), .val (.int cc), .val (.int (0 : Int32))] [(.ref b1)]) _
      refine Go.of (fun tg_ kk_ => XS.iloadN X14.here hx rfl (hb hby at_50) rfl kk_) ?_
      show Go p e below T14 (mkF m 51 #[.val (.int p0), .val (.int cc), .val (.ref b1), .val (.int cc), .val (.int (0 : Int32))] [(.int cc), (.ref b1)]) _
      obtain ⟨cq24, kq24, q24a, q24b, q24c⟩ := isOf hZ7 rfl F15
      obtain ⟨_, _, ⟨T24, L24, k24, n24⟩, -, X24, ⟨Lc24, hQ24, l24, y24, z24⟩, st24⟩ := X14.virtualBack hx (y := (⟨"com/example/stairstep/stairstep/PostgreSqlScript", "blank", "(C)Z"⟩ : MethodName)) (z := (⟨"com/example/stairstep/stairstep/PostgreSqlScript", "blank", "(C)Z"⟩ : MethodName)) hown7 (mvT hZ7 (hw _ (List.mem_of_getElem? (i := 52) rfl))) (mvT hZ7 (hw _ (List.mem_of_getElem? (i := 53) rfl))) (notFace_of_selects (args := #[]) (mvT hZ7 (hw _ (List.mem_of_getElem? (i := 55) rfl)))) (mvT hZ7 (hw _ (List.mem_of_getElem? (i := 55) rfl))) (mvT hZ7 (hw _ (List.mem_of_getElem? (i := 54) rfl))) (by decide) (backOf (W := 0) (rm7 l Z a0 hw [] b1 cc T14.heap n0 Zs19) hZ7 (hw _ (List.mem_of_getElem? (i := 56) rfl)) (hw _ (List.mem_of_getElem? (i := 3) rfl)) (by decide) (by decide)) q24a q24c (g := (mkF m 51 #[.val (.int p0), .val (.int cc), .val (.ref b1), .val (.int cc), .val (.int (0 : Int32))] [(.int cc), (.ref b1)])) rfl (by rw [hml]; rfl) (Steps.refl _) (argsL := [(.int cc)]) (rest := []) (lenOf pd_3 rfl) rfl (by show 2 * 0 + _ ≤ _; exact Nat.le_of_eq rfl) (hb hby at_51) (fun _ _ => ⟨rfl, rfl, (by decide : 5 + 0 ≤ _), (by decide : 25 + 0 ≤ _)⟩)
      dsimp only [Pt.U, Pt.locs, Pt.cells, Pt.slots] at X24 l24 y24 z24 st24 hQ24
      subst l24 y24 z24
      obtain ⟨rfl, N24q, e24⟩ := hQ24
      have N24 := Fr.app N14 N24q
      refine Go.of (fun tg_ kk_ => st24.trans kk_) ?_
      show Go p e below T24 (mkF m 54 #[.val (.int p0), .val (.int cc), .val (.ref b1), .val (.int cc), .val (.int (0 : Int32))] [(.int (blankF cc))]) _
      refine Go.of (fun tg_ kk_ => XS.iload X24.here hx rfl (hb hby at_54) rfl kk_) ?_
      show Go p e below T24 (mkF m 56 #[.val (.int p0), .val (.int cc), .val (.ref b1), .val (.int cc), .val (.int (0 : Int32))] [(.int (0 : Int32)), (.int (blankF cc))]) _
      refine Go.of (fun tg_ kk_ => XS.icmpNo X24.here hx rfl (hb hby at_56) rfl (teq (show (blankF cc) = (0 : Int32) from (own_b0 cc (by simp only [Int32.lt_iff_toInt_lt, ← Int32.toInt_inj, own_9, own_11, own_13, own_32] at hc21 hc23; omega)))).2 kk_) ?_
      show Go p e below T24 (mkF m 59 #[.val (.int p0), .val (.int cc), .val (.ref b1), .val (.int cc), .val (.int (0 : Int32))] []) _
      refine Go.of (fun tg_ kk_ => XS.iconst X24.here hx rfl (hb hby at_59) kk_) ?_
      show Go p e below T24 (mkF m 60 #[.val (.int p0), .val (.int cc), .val (.ref b1), .val (.int cc), .val (.int (0 : Int32))] [(.int (1 : Int32))]) _
      refine Go.of (fun tg_ kk_ => XS.goto X24.here hx rfl (pc0 := 60) (pc' := 64) rfl (hb hby at_60) (by decide) (by decide) kk_) ?_
      show Go p e below T24 (mkF m 64 #[.val (.int p0), .val (.int cc), .val (.ref b1), .val (.int cc), .val (.int (0 : Int32))] [(.int (1 : Int32))]) _
      obtain ⟨fs, hr, hrun, hended, hend⟩ := X24.leaveW hS7 (by rw [e24]; exact hk20) (v := some (.int (1 : Int32))) (fun h => by rw [Bd.returns] at h; cases h)
      refine ⟨_, _, ?_, hrun, hended, _, _, rfl, ?_, hend.1, hend.2.1, hend.2.2.1, hend.2.2.2.mono (by decide) (by decide)⟩
      · exact retN X24 hx (t := .boolean) Bd.returns (by simp) (hb hby at_64) hr
      · show Q0 Z p0 h0 n0 _ T24.heap _
        rw [e24]
        exact ⟨rfl, N24⟩
    · skip
      refine Go.of (fun tg_ kk_ => XS.icmpNo X14.here hx rfl (hb hby at_27) rfl (flt hc23).1 kk_) ?_
      show Go p e below T14 (mkF m 30 #[.val (.int p0), .val (.int cc), .val (.ref b1), .val (.int cc), .unset] []) _
      refine Go.of (fun tg_ kk_ => XS.iloadN X14.here hx rfl (hb hby at_30) rfl kk_) ?_
      show Go p e below T14 (mkF m 31 #[.val (.int p0), .val (.int cc), .val (.ref b1), .val (.int cc), .unset] [(.int cc)]) _
      refine Go.of (fun tg_ kk_ => XS.bipush X14.here hx rfl (hb hby at_31) kk_) ?_
      show Go p e below T14 (mkF m 33 #[.val (.int p0), .val (.int cc), .val (.ref b1), .val (.int cc), .unset] [(.int (13 : Int32)), (.int cc)]) _
      by_cases hc25 : (13 : Int32) < cc
      · skip
        refine Go.of (fun tg_ kk_ => XS.icmpYes X14.here hx rfl (pc0 := 33) (pc' := 46) rfl (hb hby at_33) rfl (tlt hc25).2.2.1 (by decide) (by decide) kk_) ?_
        show Go p e below T14 (mkF m 46 #[.val (.int p0), .val (.int cc), .val (.ref b1), .val (.int cc), .unset] []) _
        refine Go.of (fun tg_ kk_ => XS.iconst X14.here hx rfl (hb hby at_46) kk_) ?_
        show Go p e below T14 (mkF m 47 #[.val (.int p0), .val (.int cc), .val (.ref b1), .val (.int cc), .unset] [(.int (0 : Int32))]) _
        refine Go.of (fun tg_ kk_ => XS.istore X14.here hx rfl (hb hby at_47) rfl (l' := #[.val (.int p0), .val (.int cc), .val (.ref b1), .val (.int cc), .val (.int (0 : Int32))]) rfl kk_) ?_
        show Go p e below T14 (mkF m 49 #[.val (.int p0), .val (.int cc), .val (.ref b1), .val (.int cc), .val (.int (0 : Int32))] []) _
        refine Go.of (fun tg_ kk_ => XS.aloadN X14.here hx rfl (hb hby at_49) rfl rfl kk_) ?_
        show Go p e below T14 (mkF m 50 #[.val (.int p0), .val (.int cc), .val (.ref b1), .val (.int cc), .val (.int (0 : Int32))] [(.ref b1)]) _
        refine Go.of (fun tg_ kk_ => XS.iloadN X14.here hx rfl (hb hby at_50) rfl kk_) ?_
        show Go p e below T14 (mkF m 51 #[.val (.int p0), .val (.int cc), .val (.ref b1), .val (.int cc), .val (.int (0 : Int32))] [(.int cc), (.ref b1)]) _
        obtain ⟨cq26, kq26, q26a, q26b, q26c⟩ := isOf hZ7 rfl F15
        obtain ⟨_, _, ⟨T26, L26, k26, n26⟩, -, X26, ⟨Lc26, hQ26, l26, y26, z26⟩, st26⟩ := X14.virtualBack hx (y := (⟨"com/example/stairstep/stairstep/PostgreSqlScript", "blank", "(C)Z"⟩ : MethodName)) (z := (⟨"com/example/stairstep/stairstep/PostgreSqlScript", "blank", "(C)Z"⟩ : MethodName)) hown7 (mvT hZ7 (hw _ (List.mem_of_getElem? (i := 52) rfl))) (mvT hZ7 (hw _ (List.mem_of_getElem? (i := 53) rfl))) (notFace_of_selects (args := #[]) (mvT hZ7 (hw _ (List.mem_of_getElem? (i := 55) rfl)))) (mvT hZ7 (hw _ (List.mem_of_getElem? (i := 55) rfl))) (mvT hZ7 (hw _ (List.mem_of_getElem? (i := 54) rfl))) (by decide) (backOf (W := 0) (rm7 l Z a0 hw [] b1 cc T14.heap n0 Zs19) hZ7 (hw _ (List.mem_of_getElem? (i := 56) rfl)) (hw _ (List.mem_of_getElem? (i := 3) rfl)) (by decide) (by decide)) q26a q26c (g := (mkF m 51 #[.val (.int p0), .val (.int cc), .val (.ref b1), .val (.int cc), .val (.int (0 : Int32))] [(.int cc), (.ref b1)])) rfl (by rw [hml]; rfl) (Steps.refl _) (argsL := [(.int cc)]) (rest := []) (lenOf pd_3 rfl) rfl (by show 2 * 0 + _ ≤ _; exact Nat.le_of_eq rfl) (hb hby at_51) (fun _ _ => ⟨rfl, rfl, (by decide : 5 + 0 ≤ _), (by decide : 25 + 0 ≤ _)⟩)
        dsimp only [Pt.U, Pt.locs, Pt.cells, Pt.slots] at X26 l26 y26 z26 st26 hQ26
        subst l26 y26 z26
        obtain ⟨rfl, N26q, e26⟩ := hQ26
        have N26 := Fr.app N14 N26q
        refine Go.of (fun tg_ kk_ => st26.trans kk_) ?_
        show Go p e below T26 (mkF m 54 #[.val (.int p0), .val (.int cc), .val (.ref b1), .val (.int cc), .val (.int (0 : Int32))] [(.int (blankF cc))]) _
        refine Go.of (fun tg_ kk_ => XS.iload X26.here hx rfl (hb hby at_54) rfl kk_) ?_
        show Go p e below T26 (mkF m 56 #[.val (.int p0), .val (.int cc), .val (.ref b1), .val (.int cc), .val (.int (0 : Int32))] [(.int (0 : Int32)), (.int (blankF cc))]) _
        refine Go.of (fun tg_ kk_ => XS.icmpNo X26.here hx rfl (hb hby at_56) rfl (teq (show (blankF cc) = (0 : Int32) from (own_b0 cc (by simp only [Int32.lt_iff_toInt_lt, ← Int32.toInt_inj, own_9, own_11, own_13, own_32] at hc21 hc23 hc25; omega)))).2 kk_) ?_
        show Go p e below T26 (mkF m 59 #[.val (.int p0), .val (.int cc), .val (.ref b1), .val (.int cc), .val (.int (0 : Int32))] []) _
        refine Go.of (fun tg_ kk_ => XS.iconst X26.here hx rfl (hb hby at_59) kk_) ?_
        show Go p e below T26 (mkF m 60 #[.val (.int p0), .val (.int cc), .val (.ref b1), .val (.int cc), .val (.int (0 : Int32))] [(.int (1 : Int32))]) _
        refine Go.of (fun tg_ kk_ => XS.goto X26.here hx rfl (pc0 := 60) (pc' := 64) rfl (hb hby at_60) (by decide) (by decide) kk_) ?_
        show Go p e below T26 (mkF m 64 #[.val (.int p0), .val (.int cc), .val (.ref b1), .val (.int cc), .val (.int (0 : Int32))] [(.int (1 : Int32))]) _
        obtain ⟨fs, hr, hrun, hended, hend⟩ := X26.leaveW hS7 (by rw [e26]; exact hk20) (v := some (.int (1 : Int32))) (fun h => by rw [Bd.returns] at h; cases h)
        refine ⟨_, _, ?_, hrun, hended, _, _, rfl, ?_, hend.1, hend.2.1, hend.2.2.1, hend.2.2.2.mono (by decide) (by decide)⟩
        · exact retN X26 hx (t := .boolean) Bd.returns (by simp) (hb hby at_64) hr
        · show Q0 Z p0 h0 n0 _ T26.heap _
          rw [e26]
          exact ⟨rfl, N26⟩
      · skip
        refine Go.of (fun tg_ kk_ => XS.icmpNo X14.here hx rfl (hb hby at_33) rfl (flt hc25).2.2.1 kk_) ?_
        show Go p e below T14 (mkF m 36 #[.val (.int p0), .val (.int cc), .val (.ref b1), .val (.int cc), .unset] []) _
        refine Go.of (fun tg_ kk_ => XS.iloadN X14.here hx rfl (hb hby at_36) rfl kk_) ?_
        show Go p e below T14 (mkF m 37 #[.val (.int p0), .val (.int cc), .val (.ref b1), .val (.int cc), .unset] [(.int cc)]) _
        refine Go.of (fun tg_ kk_ => XS.bipush X14.here hx rfl (hb hby at_37) kk_) ?_
        show Go p e below T14 (mkF m 39 #[.val (.int p0), .val (.int cc), .val (.ref b1), .val (.int cc), .unset] [(.int (11 : Int32)), (.int cc)]) _
        by_cases hc27 : cc = (11 : Int32)
        · skip
          refine Go.of (fun tg_ kk_ => XS.icmpYes X14.here hx rfl (pc0 := 39) (pc' := 46) rfl (hb hby at_39) rfl (teq hc27).1 (by decide) (by decide) kk_) ?_
          show Go p e below T14 (mkF m 46 #[.val (.int p0), .val (.int cc), .val (.ref b1), .val (.int cc), .unset] []) _
          refine Go.of (fun tg_ kk_ => XS.iconst X14.here hx rfl (hb hby at_46) kk_) ?_
          show Go p e below T14 (mkF m 47 #[.val (.int p0), .val (.int cc), .val (.ref b1), .val (.int cc), .unset] [(.int (0 : Int32))]) _
          refine Go.of (fun tg_ kk_ => XS.istore X14.here hx rfl (hb hby at_47) rfl (l' := #[.val (.int p0), .val (.int cc), .val (.ref b1), .val (.int cc), .val (.int (0 : Int32))]) rfl kk_) ?_
          show Go p e below T14 (mkF m 49 #[.val (.int p0), .val (.int cc), .val (.ref b1), .val (.int cc), .val (.int (0 : Int32))] []) _
          refine Go.of (fun tg_ kk_ => XS.aloadN X14.here hx rfl (hb hby at_49) rfl rfl kk_) ?_
          show Go p e below T14 (mkF m 50 #[.val (.int p0), .val (.int cc), .val (.ref b1), .val (.int cc), .val (.int (0 : Int32))] [(.ref b1)]) _
          refine Go.of (fun tg_ kk_ => XS.iloadN X14.here hx rfl (hb hby at_50) rfl kk_) ?_
          show Go p e below T14 (mkF m 51 #[.val (.int p0), .val (.int cc), .val (.ref b1), .val (.int cc), .val (.int (0 : Int32))] [(.int cc), (.ref b1)]) _
          obtain ⟨cq28, kq28, q28a, q28b, q28c⟩ := isOf hZ7 rfl F15
          obtain ⟨_, _, ⟨T28, L28, k28, n28⟩, -, X28, ⟨Lc28, hQ28, l28, y28, z28⟩, st28⟩ := X14.virtualBack hx (y := (⟨"com/example/stairstep/stairstep/PostgreSqlScript", "blank", "(C)Z"⟩ : MethodName)) (z := (⟨"com/example/stairstep/stairstep/PostgreSqlScript", "blank", "(C)Z"⟩ : MethodName)) hown7 (mvT hZ7 (hw _ (List.mem_of_getElem? (i := 52) rfl))) (mvT hZ7 (hw _ (List.mem_of_getElem? (i := 53) rfl))) (notFace_of_selects (args := #[]) (mvT hZ7 (hw _ (List.mem_of_getElem? (i := 55) rfl)))) (mvT hZ7 (hw _ (List.mem_of_getElem? (i := 55) rfl))) (mvT hZ7 (hw _ (List.mem_of_getElem? (i := 54) rfl))) (by decide) (backOf (W := 0) (rm7 l Z a0 hw [] b1 cc T14.heap n0 Zs19) hZ7 (hw _ (List.mem_of_getElem? (i := 56) rfl)) (hw _ (List.mem_of_getElem? (i := 3) rfl)) (by decide) (by decide)) q28a q28c (g := (mkF m 51 #[.val (.int p0), .val (.int cc), .val (.ref b1), .val (.int cc), .val (.int (0 : Int32))] [(.int cc), (.ref b1)])) rfl (by rw [hml]; rfl) (Steps.refl _) (argsL := [(.int cc)]) (rest := []) (lenOf pd_3 rfl) rfl (by show 2 * 0 + _ ≤ _; exact Nat.le_of_eq rfl) (hb hby at_51) (fun _ _ => ⟨rfl, rfl, (by decide : 5 + 0 ≤ _), (by decide : 25 + 0 ≤ _)⟩)
          dsimp only [Pt.U, Pt.locs, Pt.cells, Pt.slots] at X28 l28 y28 z28 st28 hQ28
          subst l28 y28 z28
          obtain ⟨rfl, N28q, e28⟩ := hQ28
          have N28 := Fr.app N14 N28q
          refine Go.of (fun tg_ kk_ => st28.trans kk_) ?_
          show Go p e below T28 (mkF m 54 #[.val (.int p0), .val (.int cc), .val (.ref b1), .val (.int cc), .val (.int (0 : Int32))] [(.int (blankF cc))]) _
          refine Go.of (fun tg_ kk_ => XS.iload X28.here hx rfl (hb hby at_54) rfl kk_) ?_
          show Go p e below T28 (mkF m 56 #[.val (.int p0), .val (.int cc), .val (.ref b1), .val (.int cc), .val (.int (0 : Int32))] [(.int (0 : Int32)), (.int (blankF cc))]) _
          refine Go.of (fun tg_ kk_ => XS.icmpNo X28.here hx rfl (hb hby at_56) rfl (teq (show (blankF cc) = (0 : Int32) from (own_b0 cc (by simp only [Int32.lt_iff_toInt_lt, ← Int32.toInt_inj, own_9, own_11, own_13, own_32] at hc21 hc23 hc25 hc27; omega)))).2 kk_) ?_
          show Go p e below T28 (mkF m 59 #[.val (.int p0), .val (.int cc), .val (.ref b1), .val (.int cc), .val (.int (0 : Int32))] []) _
          refine Go.of (fun tg_ kk_ => XS.iconst X28.here hx rfl (hb hby at_59) kk_) ?_
          show Go p e below T28 (mkF m 60 #[.val (.int p0), .val (.int cc), .val (.ref b1), .val (.int cc), .val (.int (0 : Int32))] [(.int (1 : Int32))]) _
          refine Go.of (fun tg_ kk_ => XS.goto X28.here hx rfl (pc0 := 60) (pc' := 64) rfl (hb hby at_60) (by decide) (by decide) kk_) ?_
          show Go p e below T28 (mkF m 64 #[.val (.int p0), .val (.int cc), .val (.ref b1), .val (.int cc), .val (.int (0 : Int32))] [(.int (1 : Int32))]) _
          obtain ⟨fs, hr, hrun, hended, hend⟩ := X28.leaveW hS7 (by rw [e28]; exact hk20) (v := some (.int (1 : Int32))) (fun h => by rw [Bd.returns] at h; cases h)
          refine ⟨_, _, ?_, hrun, hended, _, _, rfl, ?_, hend.1, hend.2.1, hend.2.2.1, hend.2.2.2.mono (by decide) (by decide)⟩
          · exact retN X28 hx (t := .boolean) Bd.returns (by simp) (hb hby at_64) hr
          · show Q0 Z p0 h0 n0 _ T28.heap _
            rw [e28]
            exact ⟨rfl, N28⟩
        · skip
          refine Go.of (fun tg_ kk_ => XS.icmpNo X14.here hx rfl (hb hby at_39) rfl (feq hc27).1 kk_) ?_
          show Go p e below T14 (mkF m 42 #[.val (.int p0), .val (.int cc), .val (.ref b1), .val (.int cc), .unset] []) _
          refine Go.of (fun tg_ kk_ => XS.iconst X14.here hx rfl (hb hby at_42) kk_) ?_
          show Go p e below T14 (mkF m 43 #[.val (.int p0), .val (.int cc), .val (.ref b1), .val (.int cc), .unset] [(.int (1 : Int32))]) _
          refine Go.of (fun tg_ kk_ => XS.goto X14.here hx rfl (pc0 := 43) (pc' := 47) rfl (hb hby at_43) (by decide) (by decide) kk_) ?_
          show Go p e below T14 (mkF m 47 #[.val (.int p0), .val (.int cc), .val (.ref b1), .val (.int cc), .unset] [(.int (1 : Int32))]) _
          refine Go.of (fun tg_ kk_ => XS.istore X14.here hx rfl (hb hby at_47) rfl (l' := #[.val (.int p0), .val (.int cc), .val (.ref b1), .val (.int cc), .val (.int (1 : Int32))]) rfl kk_) ?_
          show Go p e below T14 (mkF m 49 #[.val (.int p0), .val (.int cc), .val (.ref b1), .val (.int cc), .val (.int (1 : Int32))] []) _
          refine Go.of (fun tg_ kk_ => XS.aloadN X14.here hx rfl (hb hby at_49) rfl rfl kk_) ?_
          show Go p e below T14 (mkF m 50 #[.val (.int p0), .val (.int cc), .val (.ref b1), .val (.int cc), .val (.int (1 : Int32))] [(.ref b1)]) _
          refine Go.of (fun tg_ kk_ => XS.iloadN X14.here hx rfl (hb hby at_50) rfl kk_) ?_
          show Go p e below T14 (mkF m 51 #[.val (.int p0), .val (.int cc), .val (.ref b1), .val (.int cc), .val (.int (1 : Int32))] [(.int cc), (.ref b1)]) _
          obtain ⟨cq29, kq29, q29a, q29b, q29c⟩ := isOf hZ7 rfl F15
          obtain ⟨_, _, ⟨T29, L29, k29, n29⟩, -, X29, ⟨Lc29, hQ29, l29, y29, z29⟩, st29⟩ := X14.virtualBack hx (y := (⟨"com/example/stairstep/stairstep/PostgreSqlScript", "blank", "(C)Z"⟩ : MethodName)) (z := (⟨"com/example/stairstep/stairstep/PostgreSqlScript", "blank", "(C)Z"⟩ : MethodName)) hown7 (mvT hZ7 (hw _ (List.mem_of_getElem? (i := 52) rfl))) (mvT hZ7 (hw _ (List.mem_of_getElem? (i := 53) rfl))) (notFace_of_selects (args := #[]) (mvT hZ7 (hw _ (List.mem_of_getElem? (i := 55) rfl)))) (mvT hZ7 (hw _ (List.mem_of_getElem? (i := 55) rfl))) (mvT hZ7 (hw _ (List.mem_of_getElem? (i := 54) rfl))) (by decide) (backOf (W := 0) (rm7 l Z a0 hw [] b1 cc T14.heap n0 Zs19) hZ7 (hw _ (List.mem_of_getElem? (i := 56) rfl)) (hw _ (List.mem_of_getElem? (i := 3) rfl)) (by decide) (by decide)) q29a q29c (g := (mkF m 51 #[.val (.int p0), .val (.int cc), .val (.ref b1), .val (.int cc), .val (.int (1 : Int32))] [(.int cc), (.ref b1)])) rfl (by rw [hml]; rfl) (Steps.refl _) (argsL := [(.int cc)]) (rest := []) (lenOf pd_3 rfl) rfl (by show 2 * 0 + _ ≤ _; exact Nat.le_of_eq rfl) (hb hby at_51) (fun _ _ => ⟨rfl, rfl, (by decide : 5 + 0 ≤ _), (by decide : 25 + 0 ≤ _)⟩)
          dsimp only [Pt.U, Pt.locs, Pt.cells, Pt.slots] at X29 l29 y29 z29 st29 hQ29
          subst l29 y29 z29
          obtain ⟨rfl, N29q, e29⟩ := hQ29
          have N29 := Fr.app N14 N29q
          refine Go.of (fun tg_ kk_ => st29.trans kk_) ?_
          show Go p e below T29 (mkF m 54 #[.val (.int p0), .val (.int cc), .val (.ref b1), .val (.int cc), .val (.int (1 : Int32))] [(.int (blankF cc))]) _
          refine Go.of (fun tg_ kk_ => XS.iload X29.here hx rfl (hb hby at_54) rfl kk_) ?_
          show Go p e below T29 (mkF m 56 #[.val (.int p0), .val (.int cc), .val (.ref b1), .val (.int cc), .val (.int (1 : Int32))] [(.int (1 : Int32)), (.int (blankF cc))]) _
          refine Go.of (fun tg_ kk_ => XS.icmpNo X29.here hx rfl (hb hby at_56) rfl (teq (show (blankF cc) = (1 : Int32) from (own_b1 cc (by simp only [Int32.lt_iff_toInt_lt, ← Int32.toInt_inj, own_9, own_11, own_13, own_32] at hc21 hc23 hc25 hc27; omega)))).2 kk_) ?_
          show Go p e below T29 (mkF m 59 #[.val (.int p0), .val (.int cc), .val (.ref b1), .val (.int cc), .val (.int (1 : Int32))] []) _
          refine Go.of (fun tg_ kk_ => XS.iconst X29.here hx rfl (hb hby at_59) kk_) ?_
          show Go p e below T29 (mkF m 60 #[.val (.int p0), .val (.int cc), .val (.ref b1), .val (.int cc), .val (.int (1 : Int32))] [(.int (1 : Int32))]) _
          refine Go.of (fun tg_ kk_ => XS.goto X29.here hx rfl (pc0 := 60) (pc' := 64) rfl (hb hby at_60) (by decide) (by decide) kk_) ?_
          show Go p e below T29 (mkF m 64 #[.val (.int p0), .val (.int cc), .val (.ref b1), .val (.int cc), .val (.int (1 : Int32))] [(.int (1 : Int32))]) _
          obtain ⟨fs, hr, hrun, hended, hend⟩ := X29.leaveW hS7 (by rw [e29]; exact hk20) (v := some (.int (1 : Int32))) (fun h => by rw [Bd.returns] at h; cases h)
          refine ⟨_, _, ?_, hrun, hended, _, _, rfl, ?_, hend.1, hend.2.1, hend.2.2.1, hend.2.2.2.mono (by decide) (by decide)⟩
          · exact retN X29 hx (t := .boolean) Bd.returns (by simp) (hb hby at_64) hr
          · show Q0 Z p0 h0 n0 _ T29.heap _
            rw [e29]
            exact ⟨rfl, N29⟩
set_option maxRecDepth 65536 in
set_option maxHeartbeats 40000000 in
theorem comes_1 {Post : Tables → Env → Array Value → State → Outcome → State → Prop} (hpost : ∀ tb e args s v u, (limb_1_1.after args s (.returned v) u = true ∧ limb_1_2.after args s (.returned v) u = true ∧ True) → ReturnedEndW s (.returned v) u (Jvm.fieldLocs frame_1_writes args s ++ Jvm.arrayLocs frame_1_arrays args s ++ Jvm.staticLocs frame_1_statics s) 16 1152 → Post tb e args s (.returned v) u) :
    ArmFor flags0 classFile x code maxLocals ret World_1 tables_1 room_1 Calls_1 rest_1 Pre_1 Post := by
  intro l hfl _ _ p e ha hc hk s m args below hf hA hF happ hP
  obtain ⟨hcalls, hrest, hpre⟩ := hP
  obtain ⟨-, -, -, hnamed, -, -, -, hat⟩ := (Spec.applies_iff hf).mp happ
  obtain ⟨hg, hn⟩ := and_e (Cond.before_iff.mp (show (Jvm.Cond.and given_1 narrow_1).before args s = true from hpre))
  obtain ⟨gc, gr0⟩ := and_e hg
  obtain ⟨w0, rfl⟩ : ∃ w0 : Value, args = #[w0] := by
    have hs : args.size = 1 := by simpa [Cond.value, given_1] using gc
    obtain ⟨L⟩ := args
    match L, hs with
    | [w0], _ => exact ⟨w0, rfl⟩
  have hw := fun d (hd : d ∈ tables_1) => atoms_spec (ws := Jvm.Cond.code x code maxLocals ret :: tables_1) hat d (List.mem_cons_of_mem _ hd)
  obtain ⟨i0, ei0⟩ := is_v gr0
  obtain rfl : w0 = (.int i0) := Option.some.inj ei0
  obtain ⟨n, o, h1, h2, h3, _, L, rfl, ⟨rfl, N⟩, hq⟩ := rm0 l s _ hw tables_1 i0 s.heap s.heap.size (Nat.le_refl _) p e ha hc hk s m _ below hf ((Spec.applies_iff_loose hf).mp happ).1 ⟨rfl, State.Warmed39.refl s, rfl⟩ trivial
  refine ⟨n, _, h1, h2, h3, hpost _ _ _ _ _ _ ⟨Cond.after_iff.mpr rfl, Cond.after_iff.mpr (eq_i res_at (Term.int_eval (1)) rfl), trivial⟩ ⟨hq.1, hq.2.1, hq.2.2.1, (hq.2.2.2.sift fun y hy => Or.inr (N y hy)).mono (by decide) (by decide)⟩⟩
theorem main_1_1 : Claimed_1_1 := comes_1 fun _ _ _ _ _ _ h hF => ⟨h.1, hF⟩
theorem main_1_2 : Claimed_1_2 := comes_1 fun _ _ _ _ _ _ h hF => ⟨h.2.1, hF⟩
end Jvm.Pilot.@@N@@
namespace Jvm.Pilot.@@N@@
open Jvm Jvm.ClassFile Sem Op Lib Jvm.Free Jvm.Stand Jvm.Pilot.@@N@@.Jvm.D
/-! MADE BY PROGRAM (witnessworld.py) out of the Statement's table words and the real class files: 24 classes; the members and pool entries that the words name. The judged class is class 1, her method 1. -/
namespace start1
open Jvm.ClassFile
def u (s : String) : CpInfo := .utf8 (stringToUtf16 s)
/-- a pool by its gaps: so many unusable entries, then the entry; so many at the end -/
def gap : Nat → List CpInfo → List CpInfo
  | 0, r => r
  | n + 1, r => .unusable :: gap n r
def poolList (es : List (Nat × CpInfo)) (last : Nat) : List CpInfo := es.foldr (fun e r => gap e.1 (e.2 :: r)) (gap last [])
def pool (es : List (Nat × CpInfo)) (last : Nat) : Array CpInfo := ⟨poolList es last⟩
def fileOf (pool : Array CpInfo) (this : Nat) (attrs : Array Attribute := #[]) (ms : Array MethodInfo := #[]) (fl : Nat := 33) (sup : Nat := 0) (ifs : Array Nat := #[]) (fds : Array FieldInfo := #[]) : ClassFile where
  minorVersion := 0
  majorVersion := 65
  constantPool := pool
  accessFlags := fl
  thisClass := this
  superClass := sup
  interfaces := ifs
  fields := fds
  methods := ms
  attributes := attrs
def plain (name : String) (sup : Option ClassId) : Class where
  name := name
  kind := .ordinary
  loader := none
  accessFlags := 33
  super := sup
  interfaces := #[]
  cf := none
  fields := #[]
  methods := #[]
  instanceTypes := #[]
  staticTypes := #[]
  resolved := #[]
  callSites := []
  init := .initialized
  statics := none
  mirror := none

def pool0 : Array CpInfo := pool [(5, u "<init>"), (0, u "()V"), (1, .class_ 10), (1, u "java/lang/Object")] 113

def k0c0 : Code := { maxStack := 0, maxLocals := 1, code := object_method_1_code, exceptionTable := #[], attributes := #[] }
def k0m0 : Method := { name := "<init>", desc := "()V", sig := { parameters := [], returnType := none }, accessFlags := 1, code := some k0c0 }
/-- java/lang/Object -/
def k0 : Class := { plain "java/lang/Object" none with
  accessFlags := 33
  interfaces := #[]
  cf := some (fileOf pool0 8 #[] #[{ accessFlags := 1, nameIndex := 5, descriptorIndex := 6, attributes := #[] }] 33 0 #[] #[])
  fields := #[]
  methods := #[k0m0]
  instanceTypes := #[]
  staticTypes := #[]
  resolved := Array.replicate 124 none
  statics := none }

def pool1 : Array CpInfo := pool [(2, .class_ 4), (1, u "java/lang/Object"), (0, u "<init>"), (0, u "()V"), (0, .integer 65535), (0, .class_ 9), (0, u "com/example/stairstep/stairstep/PostgreSqlScript"), (0, .string 11), (0, u ""), (0, .methodref 8 13), (0, .nameAndType 5 14), (0, u "(Ljava/lang/String;)V"), (0, .methodref 8 16), (0, .nameAndType 17 18), (0, u "blank"), (0, u "(C)Z"), (0, .class_ 20), (0, u "com/example/stairstep/stairstep/PostgreSqlScriptBlankPinLaw"), (2, u "law"), (0, u "(I)Z")] 3

def k1m0 : Method := { name := "<init>", desc := "()V", sig := { parameters := [], returnType := none }, accessFlags := 1, code := none }
def k1c1 : Code := { maxStack := 3, maxLocals := 5, code := code, exceptionTable := #[], attributes := #[] }
def k1m1 : Method := { name := "law", desc := "(I)Z", sig := { parameters := [.int], returnType := some .boolean }, accessFlags := 9, code := some k1c1 }
/-- com/example/stairstep/stairstep/PostgreSqlScriptBlankPinLaw -/
def k1 : Class := { plain "com/example/stairstep/stairstep/PostgreSqlScriptBlankPinLaw" (some 0) with
  accessFlags := 49
  interfaces := #[]
  cf := some (fileOf pool1 19 #[] #[{ accessFlags := 1, nameIndex := 5, descriptorIndex := 6, attributes := #[] }, { accessFlags := 9, nameIndex := 23, descriptorIndex := 24, attributes := #[] }] 49 2 #[] #[])
  fields := #[]
  methods := #[k1m0, k1m1]
  instanceTypes := #[]
  staticTypes := #[]
  resolved := Array.replicate 28 none
  statics := none }

def pool2 : Array CpInfo := pool [(1, .methodref 2 3), (0, .class_ 4), (0, .nameAndType 5 6), (0, u "java/lang/Object"), (0, u "<init>"), (0, u "()V"), (0, .fieldref 8 9), (0, .class_ 10), (0, .nameAndType 11 12), (0, u "com/example/stairstep/stairstep/Script"), (0, u "sql"), (0, u "Ljava/lang/String;"), (2, u "position"), (0, u "I"), (2, u "from"), (10, u "start"), (2, u "settingDecides"), (0, u "Z"), (2, u "backslashEscapes"), (2, u "statement"), (32, u "text"), (13, .class_ 89), (1, u "com/example/stairstep/stairstep/Script$Backslash"), (5, u "(Ljava/lang/String;)V")] 22

def k2c0 : Code := { maxStack := 2, maxLocals := 2, code := prog_37_method_1_code, exceptionTable := #[], attributes := #[] }
def k2m0 : Method := { name := "<init>", desc := "(Ljava/lang/String;)V", sig := { parameters := [(.object "java/lang/String")], returnType := none }, accessFlags := 0, code := some k2c0 }
/-- com/example/stairstep/stairstep/Script -/
def k2 : Class := { plain "com/example/stairstep/stairstep/Script" (some 0) with
  accessFlags := 1056
  interfaces := #[]
  cf := some (fileOf pool2 8 #[.nestMembers #[87]] #[{ accessFlags := 0, nameIndex := 5, descriptorIndex := 95, attributes := #[] }] 1056 2 #[] #[{ accessFlags := 16, nameIndex := 11, descriptorIndex := 12, attributes := #[] }, { accessFlags := 2, nameIndex := 37, descriptorIndex := 34, attributes := #[] }, { accessFlags := 2, nameIndex := 33, descriptorIndex := 34, attributes := #[] }, { accessFlags := 2, nameIndex := 19, descriptorIndex := 16, attributes := #[] }, { accessFlags := 2, nameIndex := 15, descriptorIndex := 16, attributes := #[] }, { accessFlags := 2, nameIndex := 30, descriptorIndex := 16, attributes := #[] }, { accessFlags := 2, nameIndex := 73, descriptorIndex := 34, attributes := #[] }, { accessFlags := 2, nameIndex := 40, descriptorIndex := 12, attributes := #[] }])
  fields := #[{ name := "sql", type := (.object "java/lang/String"), accessFlags := 16, slot := 0, constantValue := 0 }, { name := "backslashEscapes", type := .boolean, accessFlags := 2, slot := 1, constantValue := 0 }, { name := "settingDecides", type := .boolean, accessFlags := 2, slot := 2, constantValue := 0 }, { name := "from", type := .int, accessFlags := 2, slot := 3, constantValue := 0 }, { name := "position", type := .int, accessFlags := 2, slot := 4, constantValue := 0 }, { name := "start", type := .int, accessFlags := 2, slot := 5, constantValue := 0 }, { name := "text", type := .boolean, accessFlags := 2, slot := 6, constantValue := 0 }, { name := "statement", type := (.object "java/lang/String"), accessFlags := 2, slot := 7, constantValue := 0 }]
  methods := #[k2m0]
  instanceTypes := #[(.object "java/lang/String"), .boolean, .boolean, .int, .int, .int, .boolean, (.object "java/lang/String")]
  staticTypes := #[]
  resolved := Array.replicate 118 none
  statics := none }

def pool3 : Array CpInfo := pool [(1, .methodref 2 3), (0, .class_ 4), (0, .nameAndType 5 6), (0, u "com/example/stairstep/stairstep/Script"), (0, u "<init>"), (0, u "(Ljava/lang/String;)V"), (0, .class_ 8), (0, u "java/util/ArrayList"), (0, .class_ 10), (0, u "com/example/stairstep/stairstep/PostgreSqlScript"), (0, .methodref 7 12), (0, .nameAndType 5 13), (0, u "(I)V"), (0, .fieldref 9 15), (0, .nameAndType 16 17), (0, u "opening"), (0, u "Ljava/util/List;"), (13, u "routine"), (0, u "Z"), (2, u "parens"), (0, u "I"), (2, u "body"), (2, u "begin"), (2, u "name"), (35, u "blank"), (0, u "(C)Z"), (68, u "ROUTINE_OPENINGS"), (0, u "Ljava/util/Set;"), (45, u "OPENING_WORDS")] 15

def k3c0 : Code := { maxStack := 4, maxLocals := 2, code := prog_30_method_1_code, exceptionTable := #[], attributes := #[] }
def k3m0 : Method := { name := "<init>", desc := "(Ljava/lang/String;)V", sig := { parameters := [(.object "java/lang/String")], returnType := none }, accessFlags := 0, code := some k3c0 }
def k3c1 : Code := { maxStack := 2, maxLocals := 2, code := prog_30_method_14_code, exceptionTable := #[], attributes := #[] }
def k3m1 : Method := { name := "blank", desc := "(C)Z", sig := { parameters := [.char], returnType := some .boolean }, accessFlags := 0, code := some k3c1 }
/-- com/example/stairstep/stairstep/PostgreSqlScript -/
def k3 : Class := { plain "com/example/stairstep/stairstep/PostgreSqlScript" (some 2) with
  accessFlags := 48
  interfaces := #[]
  cf := some (fileOf pool3 9 #[] #[{ accessFlags := 0, nameIndex := 5, descriptorIndex := 6, attributes := #[] }, { accessFlags := 0, nameIndex := 81, descriptorIndex := 82, attributes := #[] }] 48 2 #[] #[{ accessFlags := 26, nameIndex := 151, descriptorIndex := 152, attributes := #[] }, { accessFlags := 26, nameIndex := 198, descriptorIndex := 36, attributes := #[] }, { accessFlags := 18, nameIndex := 16, descriptorIndex := 17, attributes := #[] }, { accessFlags := 2, nameIndex := 31, descriptorIndex := 32, attributes := #[] }, { accessFlags := 2, nameIndex := 35, descriptorIndex := 36, attributes := #[] }, { accessFlags := 2, nameIndex := 39, descriptorIndex := 36, attributes := #[] }, { accessFlags := 2, nameIndex := 42, descriptorIndex := 32, attributes := #[] }, { accessFlags := 2, nameIndex := 45, descriptorIndex := 32, attributes := #[] }])
  fields := #[{ name := "ROUTINE_OPENINGS", type := (.object "java/util/Set"), accessFlags := 26, slot := 0, constantValue := 0 }, { name := "OPENING_WORDS", type := .int, accessFlags := 26, slot := 1, constantValue := 0 }, { name := "opening", type := (.object "java/util/List"), accessFlags := 18, slot := 8, constantValue := 0 }, { name := "routine", type := .boolean, accessFlags := 2, slot := 9, constantValue := 0 }, { name := "parens", type := .int, accessFlags := 2, slot := 10, constantValue := 0 }, { name := "body", type := .int, accessFlags := 2, slot := 11, constantValue := 0 }, { name := "begin", type := .boolean, accessFlags := 2, slot := 12, constantValue := 0 }, { name := "name", type := .boolean, accessFlags := 2, slot := 13, constantValue := 0 }]
  methods := #[k3m0, k3m1]
  instanceTypes := #[(.object "java/lang/String"), .boolean, .boolean, .int, .int, .int, .boolean, (.object "java/lang/String"), (.object "java/util/List"), .boolean, .int, .int, .boolean, .boolean]
  staticTypes := #[(.object "java/util/Set"), .int]
  resolved := Array.replicate 214 none
  statics := none }

def pool4 : Array CpInfo := pool [(1, .class_ 2), (0, u "java/io/Serializable"), (0, .class_ 4), (0, u "java/lang/Object")] 2

/-- java/io/Serializable -/
def k4 : Class := { plain "java/io/Serializable" (some 0) with
  accessFlags := 1537
  interfaces := #[]
  cf := some (fileOf pool4 1 #[] #[] 1537 3 #[] #[])
  fields := #[]
  methods := #[]
  instanceTypes := #[]
  staticTypes := #[]
  resolved := Array.replicate 7 none
  statics := none }

def pool5 : Array CpInfo := pool [(1, .class_ 2), (0, u "java/lang/Comparable"), (0, .class_ 4), (0, u "java/lang/Object")] 7

/-- java/lang/Comparable -/
def k5 : Class := { plain "java/lang/Comparable" (some 0) with
  accessFlags := 1537
  interfaces := #[]
  cf := some (fileOf pool5 1 #[] #[] 1537 3 #[] #[])
  fields := #[]
  methods := #[]
  instanceTypes := #[]
  staticTypes := #[]
  resolved := Array.replicate 12 none
  statics := none }

def pool6 : Array CpInfo := pool [(2, .class_ 4), (1, u "java/lang/CharSequence"), (42, .class_ 48), (0, u "java/lang/CharSequence$1CodePointIterator"), (10, .class_ 60), (0, u "java/lang/CharSequence$1CharIterator"), (5, .class_ 67), (0, u "java/lang/Object")] 63

/-- java/lang/CharSequence -/
def k6 : Class := { plain "java/lang/CharSequence" (some 0) with
  accessFlags := 1537
  interfaces := #[]
  cf := some (fileOf pool6 2 #[.nestMembers #[47, 59]] #[] 1537 66 #[] #[])
  fields := #[]
  methods := #[]
  instanceTypes := #[]
  staticTypes := #[]
  resolved := Array.replicate 131 none
  statics := none }

def pool7 : Array CpInfo := pool [(1, .class_ 2), (0, u "java/lang/constant/Constable"), (0, .class_ 4), (0, u "java/lang/Object")] 6

/-- java/lang/constant/Constable -/
def k7 : Class := { plain "java/lang/constant/Constable" (some 0) with
  accessFlags := 1537
  interfaces := #[]
  cf := some (fileOf pool7 1 #[] #[] 1537 3 #[] #[])
  fields := #[]
  methods := #[]
  instanceTypes := #[]
  staticTypes := #[]
  resolved := Array.replicate 11 none
  statics := none }

def pool8 : Array CpInfo := pool [(1, .class_ 2), (0, u "java/lang/constant/ConstantDesc"), (0, .class_ 4), (0, u "java/lang/Object")] 32

/-- java/lang/constant/ConstantDesc -/
def k8 : Class := { plain "java/lang/constant/ConstantDesc" (some 0) with
  accessFlags := 1537
  interfaces := #[]
  cf := some (fileOf pool8 1 #[] #[] 1537 3 #[] #[])
  fields := #[]
  methods := #[]
  instanceTypes := #[]
  staticTypes := #[]
  resolved := Array.replicate 37 none
  statics := none }

def pool9 : Array CpInfo := pool [(2, .class_ 4), (1, u "java/lang/Object"), (0, u "<init>"), (0, u "()V"), (3, .class_ 12), (1, u "java/lang/String"), (0, u "value"), (0, u "[B"), (2, u "coder"), (0, u "B"), (2, u "hash"), (0, u "I"), (2, u "hashIsZero"), (0, u "Z"), (13, u "COMPACT_STRINGS"), (534, .class_ 576), (0, u "java/lang/CharSequence"), (22, u "CASE_INSENSITIVE_ORDER"), (0, u "Ljava/util/Comparator;"), (500, u "serialPersistentFields"), (0, u "[Ljava/io/ObjectStreamField;"), (0, .class_ 1104), (0, u "java/lang/String$CaseInsensitiveComparator"), (1, .class_ 1107), (0, u "java/io/Serializable"), (0, .class_ 1109), (0, u "java/lang/Comparable"), (0, .class_ 1111), (0, u "java/lang/constant/Constable"), (0, .class_ 1113), (0, u "java/lang/constant/ConstantDesc"), (2, u "serialVersionUID"), (0, u "J"), (3, u "REPL"), (0, u "C"), (2, u "LATIN1"), (1, u "UTF16")] 323

def k9m0 : Method := { name := "<init>", desc := "()V", sig := { parameters := [], returnType := none }, accessFlags := 1, code := none }
/-- java/lang/String -/
def k9 : Class := { plain "java/lang/String" (some 0) with
  accessFlags := 49
  interfaces := #[4, 5, 6, 7, 8]
  cf := some (fileOf pool9 10 #[.nestMembers #[1103]] #[{ accessFlags := 1, nameIndex := 5, descriptorIndex := 6, attributes := #[] }] 49 2 #[1106, 1108, 575, 1110, 1112] #[{ accessFlags := 18, nameIndex := 13, descriptorIndex := 14, attributes := #[] }, { accessFlags := 18, nameIndex := 17, descriptorIndex := 18, attributes := #[] }, { accessFlags := 2, nameIndex := 21, descriptorIndex := 22, attributes := #[] }, { accessFlags := 2, nameIndex := 25, descriptorIndex := 26, attributes := #[] }, { accessFlags := 26, nameIndex := 1116, descriptorIndex := 1117, attributes := #[] }, { accessFlags := 24, nameIndex := 40, descriptorIndex := 26, attributes := #[] }, { accessFlags := 26, nameIndex := 1101, descriptorIndex := 1102, attributes := #[] }, { accessFlags := 26, nameIndex := 1121, descriptorIndex := 1122, attributes := #[] }, { accessFlags := 25, nameIndex := 599, descriptorIndex := 600, attributes := #[] }, { accessFlags := 24, nameIndex := 1125, descriptorIndex := 18, attributes := #[] }, { accessFlags := 24, nameIndex := 1127, descriptorIndex := 18, attributes := #[] }])
  fields := #[{ name := "value", type := (.array .byte), accessFlags := 18, slot := 0, constantValue := 0 }, { name := "coder", type := .byte, accessFlags := 18, slot := 1, constantValue := 0 }, { name := "hash", type := .int, accessFlags := 2, slot := 2, constantValue := 0 }, { name := "hashIsZero", type := .boolean, accessFlags := 2, slot := 3, constantValue := 0 }, { name := "serialVersionUID", type := .long, accessFlags := 26, slot := 0, constantValue := 0 }, { name := "COMPACT_STRINGS", type := .boolean, accessFlags := 24, slot := 1, constantValue := 0 }, { name := "serialPersistentFields", type := (.array (.object "java/io/ObjectStreamField")), accessFlags := 26, slot := 2, constantValue := 0 }, { name := "REPL", type := .char, accessFlags := 26, slot := 3, constantValue := 0 }, { name := "CASE_INSENSITIVE_ORDER", type := (.object "java/util/Comparator"), accessFlags := 25, slot := 4, constantValue := 0 }, { name := "LATIN1", type := .byte, accessFlags := 24, slot := 5, constantValue := 0 }, { name := "UTF16", type := .byte, accessFlags := 24, slot := 6, constantValue := 0 }]
  methods := #[k9m0]
  instanceTypes := #[(.array .byte), .byte, .int, .boolean]
  staticTypes := #[.long, .boolean, (.array (.object "java/io/ObjectStreamField")), .char, (.object "java/util/Comparator"), .byte, .byte]
  resolved := Array.replicate 1451 none
  statics := none }

def pool10 : Array CpInfo := pool [(8, .class_ 10), (1, u "java/lang/Iterable"), (24, .class_ 36), (0, u "java/lang/Object")] 25

/-- java/lang/Iterable -/
def k10 : Class := { plain "java/lang/Iterable" (some 0) with
  accessFlags := 1537
  interfaces := #[]
  cf := some (fileOf pool10 8 #[] #[] 1537 35 #[] #[])
  fields := #[]
  methods := #[]
  instanceTypes := #[]
  staticTypes := #[]
  resolved := Array.replicate 62 none
  statics := none }

def pool11 : Array CpInfo := pool [(10, .class_ 12), (1, u "java/util/Collection"), (47, .class_ 61), (0, u "java/lang/Object"), (0, .class_ 63), (0, u "java/lang/Iterable")] 51

/-- java/util/Collection -/
def k11 : Class := { plain "java/util/Collection" (some 0) with
  accessFlags := 1537
  interfaces := #[10]
  cf := some (fileOf pool11 10 #[] #[] 1537 60 #[62] #[])
  fields := #[]
  methods := #[]
  instanceTypes := #[]
  staticTypes := #[]
  resolved := Array.replicate 115 none
  statics := none }

def pool12 : Array CpInfo := pool [(1, .methodref 2 3), (0, .class_ 4), (0, .nameAndType 5 6), (0, u "java/lang/Object"), (0, u "<init>"), (0, u "()V"), (1, .class_ 10), (1, u "java/util/AbstractCollection"), (66, .class_ 78), (0, u "java/util/Collection")] 81

def k12c0 : Code := { maxStack := 1, maxLocals := 1, code := jdk_22_method_1_code, exceptionTable := #[], attributes := #[] }
def k12m0 : Method := { name := "<init>", desc := "()V", sig := { parameters := [], returnType := none }, accessFlags := 4, code := some k12c0 }
/-- java/util/AbstractCollection -/
def k12 : Class := { plain "java/util/AbstractCollection" (some 0) with
  accessFlags := 1057
  interfaces := #[11]
  cf := some (fileOf pool12 8 #[] #[{ accessFlags := 4, nameIndex := 5, descriptorIndex := 6, attributes := #[] }] 1057 2 #[77] #[])
  fields := #[]
  methods := #[k12m0]
  instanceTypes := #[]
  staticTypes := #[]
  resolved := Array.replicate 160 none
  statics := none }

def pool13 : Array CpInfo := pool [(8, .class_ 10), (1, u "java/util/SequencedCollection"), (15, .class_ 27), (0, u "java/lang/Object"), (0, .class_ 29), (0, u "java/util/Collection")] 27

/-- java/util/SequencedCollection -/
def k13 : Class := { plain "java/util/SequencedCollection" (some 0) with
  accessFlags := 1537
  interfaces := #[11]
  cf := some (fileOf pool13 8 #[] #[] 1537 26 #[28] #[])
  fields := #[]
  methods := #[]
  instanceTypes := #[]
  staticTypes := #[]
  resolved := Array.replicate 57 none
  statics := none }

def pool14 : Array CpInfo := pool [(8, .class_ 10), (1, u "java/util/List"), (92, .class_ 104), (0, u "java/lang/Object"), (15, .class_ 121), (0, u "java/util/SequencedCollection")] 129

/-- java/util/List -/
def k14 : Class := { plain "java/util/List" (some 0) with
  accessFlags := 1537
  interfaces := #[13]
  cf := some (fileOf pool14 8 #[] #[] 1537 103 #[120] #[])
  fields := #[]
  methods := #[]
  instanceTypes := #[]
  staticTypes := #[]
  resolved := Array.replicate 251 none
  statics := none }

def pool15 : Array CpInfo := pool [(1, .methodref 2 3), (0, .class_ 4), (0, .nameAndType 5 6), (0, u "java/util/AbstractCollection"), (0, u "<init>"), (0, u "()V"), (0, .fieldref 8 9), (0, .class_ 10), (0, .nameAndType 11 12), (0, u "java/util/AbstractList"), (0, u "modCount"), (0, u "I"), (64, .class_ 78), (0, u "java/util/AbstractList$Itr"), (3, .class_ 83), (0, u "java/util/AbstractList$ListItr"), (9, .class_ 94), (0, u "java/util/AbstractList$RandomAccessSubList"), (3, .class_ 99), (0, u "java/util/AbstractList$SubList"), (33, .class_ 134), (0, u "java/util/List"), (73, .class_ 209), (0, u "java/util/AbstractList$SubList$1"), (0, .class_ 211), (0, u "java/util/AbstractList$RandomAccessSpliterator")] 6

def k15c0 : Code := { maxStack := 2, maxLocals := 1, code := jdk_39_method_1_code, exceptionTable := #[], attributes := #[] }
def k15m0 : Method := { name := "<init>", desc := "()V", sig := { parameters := [], returnType := none }, accessFlags := 4, code := some k15c0 }
/-- java/util/AbstractList -/
def k15 : Class := { plain "java/util/AbstractList" (some 12) with
  accessFlags := 1057
  interfaces := #[14]
  cf := some (fileOf pool15 8 #[.nestMembers #[93, 98, 208, 210, 82, 77]] #[{ accessFlags := 4, nameIndex := 5, descriptorIndex := 6, attributes := #[] }] 1057 2 #[133] #[{ accessFlags := 132, nameIndex := 11, descriptorIndex := 12, attributes := #[] }])
  fields := #[{ name := "modCount", type := .int, accessFlags := 132, slot := 0, constantValue := 0 }]
  methods := #[k15m0]
  instanceTypes := #[.int]
  staticTypes := #[]
  resolved := Array.replicate 218 none
  statics := none }

def pool16 : Array CpInfo := pool [(1, .class_ 2), (0, u "java/util/RandomAccess"), (0, .class_ 4), (0, u "java/lang/Object")] 2

/-- java/util/RandomAccess -/
def k16 : Class := { plain "java/util/RandomAccess" (some 0) with
  accessFlags := 1537
  interfaces := #[]
  cf := some (fileOf pool16 1 #[] #[] 1537 3 #[] #[])
  fields := #[]
  methods := #[]
  instanceTypes := #[]
  staticTypes := #[]
  resolved := Array.replicate 7 none
  statics := none }

def pool17 : Array CpInfo := pool [(1, .class_ 2), (0, u "java/lang/Cloneable"), (0, .class_ 4), (0, u "java/lang/Object")] 2

/-- java/lang/Cloneable -/
def k17 : Class := { plain "java/lang/Cloneable" (some 0) with
  accessFlags := 1537
  interfaces := #[]
  cf := some (fileOf pool17 1 #[] #[] 1537 3 #[] #[])
  fields := #[]
  methods := #[]
  instanceTypes := #[]
  staticTypes := #[]
  resolved := Array.replicate 7 none
  statics := none }

def pool18 : Array CpInfo := pool [(1, .methodref 2 3), (0, .class_ 4), (0, .nameAndType 5 6), (0, u "java/util/AbstractList"), (0, u "<init>"), (0, u "()V"), (0, .class_ 8), (0, u "java/lang/Object"), (0, .fieldref 10 11), (0, .class_ 12), (0, .nameAndType 13 14), (0, u "java/util/ArrayList"), (0, u "elementData"), (0, u "[Ljava/lang/Object;"), (2, u "EMPTY_ELEMENTDATA"), (23, u "DEFAULTCAPACITY_EMPTY_ELEMENTDATA"), (8, u "size"), (0, u "I"), (86, u "(I)V"), (9, .class_ 149), (0, u "java/util/List"), (112, .class_ 263), (0, u "java/util/ArrayList$ListItr"), (3, .class_ 268), (0, u "java/util/ArrayList$Itr"), (7, .class_ 277), (0, u "java/util/ArrayList$SubList"), (12, .class_ 291), (0, u "java/util/ArrayList$ArrayListSpliterator"), (37, .class_ 330), (0, u "java/util/RandomAccess"), (0, .class_ 332), (0, u "java/lang/Cloneable"), (0, .class_ 334), (0, u "java/io/Serializable"), (0, u "serialVersionUID"), (0, u "J"), (3, u "DEFAULT_CAPACITY"), (159, .class_ 501), (0, u "java/util/ArrayList$SubList$2"), (0, .class_ 503), (0, u "java/util/ArrayList$SubList$1")] 5

def k18c0 : Code := { maxStack := 4, maxLocals := 2, code := jdk_38_method_1_code, exceptionTable := #[], attributes := #[] }
def k18m0 : Method := { name := "<init>", desc := "(I)V", sig := { parameters := [.int], returnType := none }, accessFlags := 1, code := some k18c0 }
def k18m1 : Method := { name := "<init>", desc := "()V", sig := { parameters := [], returnType := none }, accessFlags := 1, code := none }
/-- java/util/ArrayList -/
def k18 : Class := { plain "java/util/ArrayList" (some 15) with
  accessFlags := 33
  interfaces := #[14, 16, 17, 4]
  cf := some (fileOf pool18 10 #[.nestMembers #[290, 276, 500, 502, 262, 267]] #[{ accessFlags := 1, nameIndex := 5, descriptorIndex := 138, attributes := #[] }, { accessFlags := 1, nameIndex := 5, descriptorIndex := 6, attributes := #[] }] 33 2 #[148, 329, 331, 333] #[{ accessFlags := 26, nameIndex := 335, descriptorIndex := 336, attributes := #[] }, { accessFlags := 26, nameIndex := 340, descriptorIndex := 51, attributes := #[] }, { accessFlags := 26, nameIndex := 17, descriptorIndex := 14, attributes := #[] }, { accessFlags := 26, nameIndex := 41, descriptorIndex := 14, attributes := #[] }, { accessFlags := 128, nameIndex := 13, descriptorIndex := 14, attributes := #[] }, { accessFlags := 2, nameIndex := 50, descriptorIndex := 51, attributes := #[] }])
  fields := #[{ name := "serialVersionUID", type := .long, accessFlags := 26, slot := 0, constantValue := 0 }, { name := "DEFAULT_CAPACITY", type := .int, accessFlags := 26, slot := 1, constantValue := 0 }, { name := "EMPTY_ELEMENTDATA", type := (.array (.object "java/lang/Object")), accessFlags := 26, slot := 2, constantValue := 0 }, { name := "DEFAULTCAPACITY_EMPTY_ELEMENTDATA", type := (.array (.object "java/lang/Object")), accessFlags := 26, slot := 3, constantValue := 0 }, { name := "elementData", type := (.array (.object "java/lang/Object")), accessFlags := 128, slot := 1, constantValue := 0 }, { name := "size", type := .int, accessFlags := 2, slot := 2, constantValue := 0 }]
  methods := #[k18m0, k18m1]
  instanceTypes := #[.int, (.array (.object "java/lang/Object")), .int]
  staticTypes := #[.long, .int, (.array (.object "java/lang/Object")), (.array (.object "java/lang/Object"))]
  resolved := Array.replicate 509 none
  statics := none }

/-- the primitive byte -/
def k19 : Class := { plain "byte" none with kind := .primitive 'B', accessFlags := 0x411 }
/-- [B -/
def k20 : Class := { plain "[B" (some 0) with kind := .array 19 .byte, interfaces := #[17, 4], accessFlags := 1041 }

/-- the primitive int -/
def k21 : Class := { plain "int" none with kind := .primitive 'I', accessFlags := 0x411 }
/-- [I -/
def k22 : Class := { plain "[I" (some 0) with kind := .array 21 .int, interfaces := #[17, 4], accessFlags := 1041 }

/-- [Ljava/lang/Object; -/
def k23 : Class := { plain "[Ljava/lang/Object;" (some 0) with kind := .array 0 (.object "java/lang/Object"), interfaces := #[17, 4], accessFlags := 1041 }

def heap : Heap := #[]
def classes : Array Class := #[k0, k1, k2, k3, k4, k5, k6, k7, k8, k9, k10, k11, k12, k13, k14, k15, k16, k17, k18, k19, k20, k21, k22, k23]
def interned : List (Array UInt16 × Addr) := []
def slotsUsed : Nat := 0
def theMethod : MethodId := ⟨1, 1⟩
def args0 : Array Value := #[.int 5]
def aboutOver (below : List Frame) : State where
  vm := { classes := classes, interned := interned.toArray }
  heap := heap
  slotsUsed := slotsUsed
  threads := #[{ frames := .invoking theMethod args0 :: below }]
def below0 : List Frame := [.native { method := ⟨0, 0⟩, args := #[] }]
def about1 : State := aboutOver below0
def p0 : Program := .bare "" "" ""
def e0 : Env := launch0.env 0 0 0
theorem w_frames : about1.frames = Frame.invoking theMethod args0 :: below0 := rfl
set_option maxRecDepth 65536 in
theorem w_args : argsFit about1.vm theMethod args0 = true := by decide +kernel
set_option maxRecDepth 65536 in
theorem w_heap : heapFits about1 = true := by decide +kernel
set_option maxRecDepth 65536 in
theorem w_runnable : about1.curStatus? = some .runnable := by decide +kernel
set_option maxRecDepth 65536 in
theorem w_alone : about1.alone = true := by decide +kernel
set_option maxRecDepth 65536 in
theorem w_named : about1.methodNamed? x = some theMethod := by decide +kernel
set_option maxRecDepth 65536 in
theorem w_hears : about1.hears theMethod below0 = true := by decide +kernel
set_option maxRecDepth 65536 in
theorem w_ripe : about1.ripe theMethod args0 below0 = true := by decide +kernel
theorem w_running : about1.status = .running := rfl
set_option maxRecDepth 65536 in
theorem w_room : about1.hasRoom e0.platform room_1 = true :=
  launch0.hasRoom_least _ room_1 (by decide +kernel) (by decide +kernel) (by decide +kernel) (by decide +kernel) (by decide +kernel) (by decide +kernel)
theorem allAtoms_all (ts : List Jvm.Cond) (a : Array Jvm.Value) (st : Jvm.State) : (allAtoms ts).before a st = ts.all (fun c => c.before a st) := by
  induction ts with
  | nil => rfl
  | cons c t ih =>
    show (Jvm.Cond.and c (allAtoms t)).before a st = _
    rw [Jvm.Cond.before_and, ih, List.all_cons]
def words1 : List Jvm.Cond := Jvm.Cond.code x code maxLocals ret :: tables_1
/-- a 'code' word, met by the world's own term for the bytes: nothing is compared byte by byte -/
theorem code_word {y : MethodName} {bytes : ByteArray} {mx : Nat} {rt : Option FieldType} {a : Array Value} {s : State} {m : MethodId} {meth : Method} {c : Code} (h1 : s.methodNamed? y = some m) (h2 : s.vm.method? m = some meth) (h3 : meth.code = some c) (h4 : c.code = bytes)
    (h5 : (c.maxLocals == mx && c.exceptionTable.isEmpty && decide (c.maxStack ≤ mostOperands) && decide (meth.sig.returnType = rt) && !meth.locks && decide (parseMethodDescriptor y.desc = some meth.sig)) = true) : (Jvm.Cond.code y bytes mx rt).before a s = true := by
  simp only [Bool.and_eq_true, beq_iff_eq, Bool.not_eq_true', decide_eq_true_eq] at h5
  obtain ⟨⟨⟨⟨⟨g1, g2⟩, g3⟩, g4⟩, g5⟩, g6⟩ := h5
  simp [Cond.before, Cond.holds, Cond.value, h1, h2, h3, h4, g1, g2, g3, g4, g5, g6]
def isCode : Jvm.Cond → Bool
  | .code _ _ _ _ => true
  | _ => false
theorem all_split {L : List Jvm.Cond} {P : Jvm.Cond → Bool} (h1 : L.all (fun c => isCode c || P c) = true) (h2 : ∀ c ∈ L.filter isCode, P c = true) : L.all P = true := by
  refine List.all_eq_true.mpr fun c hc => ?_
  have h := List.all_eq_true.mp h1 c hc
  rcases Bool.eq_false_or_eq_true (isCode c) with hi | hi
  · exact h2 c (List.mem_filter.mpr ⟨hc, hi⟩)
  · simpa [hi] using h
set_option maxRecDepth 65536 in
theorem w_c0 : (Jvm.Cond.code x code maxLocals ret).before args0 about1 = true := code_word (m := ⟨1, 1⟩) (meth := k1m1) (c := k1c1) (by decide +kernel) rfl rfl rfl (by decide +kernel)
set_option maxRecDepth 65536 in
theorem w_c1 : (Jvm.Cond.code ({ cls := "com/example/stairstep/stairstep/PostgreSqlScript", name := "<init>", desc := "(Ljava/lang/String;)V" } : Jvm.MethodName) prog_30_method_1_code (2 : Nat) (Option.none : Option Jvm.ClassFile.FieldType)).before args0 about1 = true := code_word (m := ⟨3, 0⟩) (meth := k3m0) (c := k3c0) (by decide +kernel) rfl rfl rfl (by decide +kernel)
set_option maxRecDepth 65536 in
theorem w_c2 : (Jvm.Cond.code ({ cls := "com/example/stairstep/stairstep/Script", name := "<init>", desc := "(Ljava/lang/String;)V" } : Jvm.MethodName) prog_37_method_1_code (2 : Nat) (Option.none : Option Jvm.ClassFile.FieldType)).before args0 about1 = true := code_word (m := ⟨2, 0⟩) (meth := k2m0) (c := k2c0) (by decide +kernel) rfl rfl rfl (by decide +kernel)
set_option maxRecDepth 65536 in
theorem w_c3 : (Jvm.Cond.code ({ cls := "java/lang/Object", name := "<init>", desc := "()V" } : Jvm.MethodName) object_method_1_code (1 : Nat) (Option.none : Option Jvm.ClassFile.FieldType)).before args0 about1 = true := code_word (m := ⟨0, 0⟩) (meth := k0m0) (c := k0c0) (by decide +kernel) rfl rfl rfl (by decide +kernel)
set_option maxRecDepth 65536 in
theorem w_c4 : (Jvm.Cond.code ({ cls := "java/util/ArrayList", name := "<init>", desc := "(I)V" } : Jvm.MethodName) jdk_38_method_1_code (2 : Nat) (Option.none : Option Jvm.ClassFile.FieldType)).before args0 about1 = true := code_word (m := ⟨18, 0⟩) (meth := k18m0) (c := k18c0) (by decide +kernel) rfl rfl rfl (by decide +kernel)
set_option maxRecDepth 65536 in
theorem w_c5 : (Jvm.Cond.code ({ cls := "java/util/AbstractList", name := "<init>", desc := "()V" } : Jvm.MethodName) jdk_39_method_1_code (1 : Nat) (Option.none : Option Jvm.ClassFile.FieldType)).before args0 about1 = true := code_word (m := ⟨15, 0⟩) (meth := k15m0) (c := k15c0) (by decide +kernel) rfl rfl rfl (by decide +kernel)
set_option maxRecDepth 65536 in
theorem w_c6 : (Jvm.Cond.code ({ cls := "java/util/AbstractCollection", name := "<init>", desc := "()V" } : Jvm.MethodName) jdk_22_method_1_code (1 : Nat) (Option.none : Option Jvm.ClassFile.FieldType)).before args0 about1 = true := code_word (m := ⟨12, 0⟩) (meth := k12m0) (c := k12c0) (by decide +kernel) rfl rfl rfl (by decide +kernel)
set_option maxRecDepth 65536 in
theorem w_c7 : (Jvm.Cond.code ({ cls := "com/example/stairstep/stairstep/PostgreSqlScript", name := "blank", desc := "(C)Z" } : Jvm.MethodName) prog_30_method_14_code (2 : Nat) (Option.some Jvm.ClassFile.FieldType.boolean)).before args0 about1 = true := code_word (m := ⟨3, 1⟩) (meth := k3m1) (c := k3c1) (by decide +kernel) rfl rfl rfl (by decide +kernel)
def codes1 : List Jvm.Cond := [Jvm.Cond.code x code maxLocals ret, Jvm.Cond.code ({ cls := "com/example/stairstep/stairstep/PostgreSqlScript", name := "<init>", desc := "(Ljava/lang/String;)V" } : Jvm.MethodName) prog_30_method_1_code (2 : Nat) (Option.none : Option Jvm.ClassFile.FieldType), Jvm.Cond.code ({ cls := "com/example/stairstep/stairstep/Script", name := "<init>", desc := "(Ljava/lang/String;)V" } : Jvm.MethodName) prog_37_method_1_code (2 : Nat) (Option.none : Option Jvm.ClassFile.FieldType), Jvm.Cond.code ({ cls := "java/lang/Object", name := "<init>", desc := "()V" } : Jvm.MethodName) object_method_1_code (1 : Nat) (Option.none : Option Jvm.ClassFile.FieldType), Jvm.Cond.code ({ cls := "java/util/ArrayList", name := "<init>", desc := "(I)V" } : Jvm.MethodName) jdk_38_method_1_code (2 : Nat) (Option.none : Option Jvm.ClassFile.FieldType), Jvm.Cond.code ({ cls := "java/util/AbstractList", name := "<init>", desc := "()V" } : Jvm.MethodName) jdk_39_method_1_code (1 : Nat) (Option.none : Option Jvm.ClassFile.FieldType), Jvm.Cond.code ({ cls := "java/util/AbstractCollection", name := "<init>", desc := "()V" } : Jvm.MethodName) jdk_22_method_1_code (1 : Nat) (Option.none : Option Jvm.ClassFile.FieldType), Jvm.Cond.code ({ cls := "com/example/stairstep/stairstep/PostgreSqlScript", name := "blank", desc := "(C)Z" } : Jvm.MethodName) prog_30_method_14_code (2 : Nat) (Option.some Jvm.ClassFile.FieldType.boolean)]
set_option maxRecDepth 65536 in
theorem codes_eq : words1.filter isCode = codes1 := rfl
theorem w_codes : ∀ c ∈ words1.filter isCode, c.before args0 about1 = true := by
  rw [codes_eq]
  intro c hc
  simp only [codes1, List.mem_cons, List.not_mem_nil, or_false] at hc
  rcases hc with rfl | rfl | rfl | rfl | rfl | rfl | rfl | rfl
  · exact w_c0
  · exact w_c1
  · exact w_c2
  · exact w_c3
  · exact w_c4
  · exact w_c5
  · exact w_c6
  · exact w_c7
set_option maxRecDepth 65536 in
theorem w_t1 : (words1.take 24).all (fun c => isCode c || c.before args0 about1) = true := by decide +kernel
set_option maxRecDepth 65536 in
theorem w_t2 : ((words1.drop 24).take 24).all (fun c => isCode c || c.before args0 about1) = true := by decide +kernel
set_option maxRecDepth 65536 in
theorem w_t3 : ((words1.drop 24).drop 24).all (fun c => isCode c || c.before args0 about1) = true := by decide +kernel
theorem w_tables : (allAtoms (Jvm.Cond.code x code maxLocals ret :: tables_1)).before args0 about1 = true := by
  rw [allAtoms_all]
  show words1.all (fun c => c.before args0 about1) = true
  refine all_split ?_ w_codes
  rw [← List.take_append_drop 24 words1, List.all_append, w_t1, ← List.take_append_drop 24 (words1.drop 24), List.all_append, w_t2, w_t3]
  rfl
set_option maxRecDepth 65536 in
theorem w_case : (Jvm.Cond.and given_1 narrow_1).before args0 about1 = true := by decide +kernel
theorem w_applies : (headSpec (Jvm.Cond.code x code maxLocals ret :: tables_1) room_1).applies x e0.platform about1 = true :=
  (Spec.applies_iff w_frames).mpr ⟨w_running, w_runnable, w_alone, w_named, w_hears, w_ripe, w_room, w_tables⟩
theorem atStart : AtStart classFile x code maxLocals ret World_1 tables_1 room_1 Calls_1 rest_1 Pre_1 launch0 p0 e0 about1 theMethod args0 below0 :=
  ⟨lists_1, trivial, launch0.admits_env _ _ _, launch0.least_env, fairChoices_fair.cas, fairChoices_fair.clock, w_frames, w_args, w_heap, w_applies, trivial, trivial, w_case⟩
end start1
theorem witness_1 : WitnessClaimed_1 := ⟨start1.p0, start1.e0, start1.about1, start1.theMethod, start1.args0, start1.below0, start1.atStart⟩
end Jvm.Pilot.@@N@@
