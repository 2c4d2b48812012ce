import JvmDerived
import JvmDerived.Pilot.@@N@@Statement
import JvmDerived.Pilot.@@N@@Code
set_option linter.unusedVariables false
set_option linter.unusedSimpArgs false
@@BLOCK:NumsL.lean.txt@@
namespace Jvm.Pilot.@@N@@
open Jvm Jvm.ClassFile Sem Op Lib Jvm.Free Jvm.Stand Jvm.LawKit Jvm.RoadKit Bundle Jvm.Pilot.@@N@@.Jvm.D
/-! the walk's own form: from this state and frame the run ends as P says -/
def Go (p : Program) (e : Env) (below : List Frame) (T : State) (g : JFrame) (P : Outcome → State → Prop) : Prop := ∃ s₂ o, Steps p.tables e below (T.setTop g) s₂ ∧ s₂.status = .running ∧ Ended s₂ below o ∧ P o s₂
theorem Go.of {p : Program} {e : Env} {below : List Frame} {T T' : State} {g g' : JFrame} {P : Outcome → State → Prop} (k : ∀ t, Steps p.tables e below (T'.setTop g') t → Steps p.tables e below (T.setTop g) t) (h : Go p e below T' g' P) : Go p e below T g P := by
  obtain ⟨s2, o, h1, h2⟩ := h; exact ⟨s2, o, k _ h1, h2⟩
theorem Go.enter {p : Program} {e : Env} {below : List Frame} {T : State} {g g' : JFrame} {P : Outcome → State → Prop} (q : g = g') (h : Go p e below T g' P) : ∃ s₂ o, Steps p.tables e below (T.setTop g) s₂ ∧ s₂.status = .running ∧ Ended s₂ below o ∧ P o s₂ := by
  subst q; exact h
theorem own_selp {s : State} {args : Array Value} {y : MethodName} {n : Nat} (hi : (Jvm.Cond.instantiable y.cls n).before args s = true) (hp : s.PrivateAt y) (hm : (Jvm.Cond.instanceMethod y).before args s = true) (hy : y.cls ≠ "java/lang/invoke/MethodHandle" ∧ y.cls ≠ "java/lang/invoke/VarHandle") : (Jvm.Cond.selects y.cls y y).before args s = true := by
  obtain ⟨c, k, h1, h2, -, h3, -⟩ := Cond.instantiable_spec hi
  rw [Bool.or_eq_false_iff] at h3
  exact selects_self_of_private h1 h2 h3.1 hp hm hy
/-- a local that holds nothing or one word -/
def Sl (o : Slot) : Prop := o = .unset ∨ ∃ w : Value, o = .val w ∧ w.category = 1
theorem own_mask (x : Int32) : ¬ ((x &&& 2147483647) < 0) := by
  rw [Int32.lt_iff_toInt_lt]
  have h : (x &&& 2147483647).toInt = x.toInt % 2 ^ 31 := Jvm.Kit.i32_mask x 2147483647 (k := 31) (by decide) (by decide)
  have h0 : (0 : Int32).toInt = 0 := by decide
  rw [h, h0]; omega
theorem own_pos (x : Int32) : (0 : Int32) < (if (1 : Int32) < (x &&& 2147483647) then (x &&& 2147483647) else 1) := by
  split
  · rename_i h; rw [Int32.lt_iff_toInt_lt] at *; have h1 : (1 : Int32).toInt = 1 := by decide
    have h0 : (0 : Int32).toInt = 0 := by decide
    omega
  · decide
theorem pn_0 : plainName "java/lang/Record" = true := by first | (simp [plainName, overriddenIn]; done) | decide +kernel
theorem pn_1 : plainName "com/example/vestline/vestline/model/Citation" = true := by first | (simp [plainName, overriddenIn]; done) | decide +kernel
theorem pd_0 : parseMethodDescriptor "()V" = some ⟨[], none⟩ := by decide +kernel
theorem pd_1 : parseMethodDescriptor "(I)V" = some ⟨[.int], none⟩ := by decide +kernel
theorem pn_2 : plainName "com/example/vestline/vestline/model/FullVesting$RetirementAge" = true := by first | (simp [plainName, overriddenIn]; done) | decide +kernel
theorem pd_2 : parseMethodDescriptor "(II)I" = some ⟨[.int, .int], some .int⟩ := by decide +kernel
theorem pd_3 : parseMethodDescriptor "(III)V" = some ⟨[.int, .int, .int], none⟩ := by decide +kernel
theorem pd_4 : parseMethodDescriptor "(II)Z" = some ⟨[.int, .int], some .boolean⟩ := by decide +kernel
theorem pn_3 : plainName "com/example/vestline/vestline/model/RetirementAgeReachedByPinLaw" = true := by first | (simp [plainName, overriddenIn]; done) | decide +kernel
theorem d1_0 : decode jdk_29_method_65_code 0 = .ok (.iload_n 0, 1) := by decide +kernel
theorem d1_1 : decode jdk_29_method_65_code 1 = .ok (.iload_n 1, 1) := by decide +kernel
theorem d1_2 : decode jdk_29_method_65_code 2 = .ok (.if_icmp .lt 7, 3) := by decide +kernel
theorem d1_5 : decode jdk_29_method_65_code 5 = .ok (.iload_n 0, 1) := by decide +kernel
theorem d1_6 : decode jdk_29_method_65_code 6 = .ok (.goto 4, 3) := by decide +kernel
theorem d1_9 : decode jdk_29_method_65_code 9 = .ok (.iload_n 1, 1) := by decide +kernel
theorem d1_10 : decode jdk_29_method_65_code 10 = .ok (.ireturn, 1) := by decide +kernel
theorem ef_1 (m : MethodId) (x0 : Int32) (x1 : Int32) : entryFrame m #[(.int x0), (.int x1)] 2 = mkF m 0 #[.val (.int x0), .val (.int x1)] [] := by first | (simp [entryFrame, mkF, argsToLocals, Value.category]; done) | rfl
def Q1 (Z : State) (x : Int32) (y : Int32) (h0 : Heap) (n0 : Nat) (v : Option Value) (h : Heap) (L : List Loc) : Prop := v = some (.int (if x < y then y else x)) ∧ Fr n0 L ∧ h = h0
set_option maxRecDepth 65536 in
set_option maxHeartbeats 40000000 in
theorem rm1 (l : Launch) (Z : State) (a0 : Array Value) (hw : ∀ d ∈ tables_1, d.before a0 Z = true) (ws : List Jvm.Cond) (x : Int32) (y : Int32) (h0 : Heap) (n0 : Nat) (Z0 : n0 ≤ h0.size) :
    MetFree l (⟨"java/lang/Math", "max", "(II)I"⟩ : MethodName) (head1 (Jvm.Cond.code (⟨"java/lang/Math", "max", "(II)I"⟩ : MethodName) jdk_29_method_65_code 2 (some .int) :: ws) ({ frames := 0, cells := 0, slots := 0, locals := 0 } : Room)) (fun aa_ U => aa_ = #[(.int x), (.int y)] ∧ Z.Warmed39 U.vm ∧ U.heap = h0) (fun _ _ _ _ _ => True) (fun _ U o U' => ∃ vv_ LL_, o = .returned vv_ ∧ Q1 Z x y h0 n0 vv_ U'.heap LL_ ∧ FrameEnd U o U' LL_ ({ frames := 0, cells := 0, slots := 0, locals := 0 } : Room).cells ({ frames := 0, cells := 0, slots := 0, locals := 0 } : Room).slots) := by
  refine MetFree.of_bodySF (Jvm.Free.JP.mathPlain rfl (by decide +kernel)) hisR ?_
  intro p e s m args below meth c s₁ Bd hml0 hP hK
  obtain ⟨rfl, hZ, hh⟩ := hP
  have hx := Bd.exec
  have hby := Bd.bytes
  have hml : c.maxLocals = 2 := hml0
  have hown : s.vm.findClass "java/lang/Math" = some m.cls := findClass_of_methodNamed Bd.named
  have hnm := (name_of_methodNamed Bd.named Bd.method).1
  have X0 : Stand p l e ({ frames := 0, cells := 0, slots := 0, locals := 0 } : Room) s m #[(.int x), (.int y)] below meth c s₁ [] 0 0 := Stand.of_body Bd
  have e0 : s₁.heap = h0 := by rw [← hh, Bd.state]; rfl
  have N0 := Fr.nil n0
  have K0 : Keep h0 h0 [] := Keep.refl h0 _
  refine Go.enter (P := fun o U' => ∃ vv_ LL_, o = .returned vv_ ∧ Q1 Z x y h0 n0 vv_ U'.heap LL_ ∧ FrameEnd s o U' LL_ ({ frames := 0, cells := 0, slots := 0, locals := 0 } : Room).cells ({ frames := 0, cells := 0, slots := 0, locals := 0 } : Room).slots) (ef_1 m x y) ?_
  show Go p e below s₁ (mkF m 0 #[.val (.int x), .val (.int y)] []) _
  refine Go.of (fun tg_ kk_ => XS.iloadN X0.here hx rfl (hb hby d1_0) rfl kk_) ?_
  show Go p e below s₁ (mkF m 1 #[.val (.int x), .val (.int y)] [(.int x)]) _
  refine Go.of (fun tg_ kk_ => XS.iloadN X0.here hx rfl (hb hby d1_1) rfl kk_) ?_
  show Go p e below s₁ (mkF m 2 #[.val (.int x), .val (.int y)] [(.int y), (.int x)]) _
  by_cases hm : x < y
  · skip
    refine Go.of (fun tg_ kk_ => XS.icmpYes X0.here hx rfl (pc0 := 2) (pc' := 9) rfl (hb hby d1_2) rfl (tlt hm).1 (by decide) (by decide) kk_) ?_
    show Go p e below s₁ (mkF m 9 #[.val (.int x), .val (.int y)] []) _
    refine Go.of (fun tg_ kk_ => XS.iloadN X0.here hx rfl (hb hby d1_9) rfl kk_) ?_
    show Go p e below s₁ (mkF m 10 #[.val (.int x), .val (.int y)] [(.int y)]) _
    obtain ⟨fs, hr, hrun, hended, hW, hsame⟩ := X0.leave (v := some (.int y)) (fun h => by rw [Bd.returns] at h; cases h)
    refine ⟨_, _, ?_, hrun, hended, _, _, rfl, ?_, ⟨_, rfl⟩, hW, hsame.mono (by decide) (by decide)⟩
    · exact retOut X0 hx Bd.returns rfl (Or.inl ⟨rfl, Or.inl rfl, _, rfl⟩) (hb hby d1_10) hr
    · show Q1 Z x y h0 n0 _ s₁.heap _
      rw [e0]
      exact ⟨by first | rw [if_pos hm] | rw [if_neg hm], N0, rfl⟩
  · skip
    refine Go.of (fun tg_ kk_ => XS.icmpNo X0.here hx rfl (hb hby d1_2) rfl (flt hm).1 kk_) ?_
    show Go p e below s₁ (mkF m 5 #[.val (.int x), .val (.int y)] []) _
    refine Go.of (fun tg_ kk_ => XS.iloadN X0.here hx rfl (hb hby d1_5) rfl kk_) ?_
    show Go p e below s₁ (mkF m 6 #[.val (.int x), .val (.int y)] [(.int x)]) _
    refine Go.of (fun tg_ kk_ => XS.goto X0.here hx rfl (pc0 := 6) (pc' := 10) rfl (hb hby d1_6) (by decide) (by decide) kk_) ?_
    show Go p e below s₁ (mkF m 10 #[.val (.int x), .val (.int y)] [(.int x)]) _
    obtain ⟨fs, hr, hrun, hended, hW, hsame⟩ := X0.leave (v := some (.int x)) (fun h => by rw [Bd.returns] at h; cases h)
    refine ⟨_, _, ?_, hrun, hended, _, _, rfl, ?_, ⟨_, rfl⟩, hW, hsame.mono (by decide) (by decide)⟩
    · exact retOut X0 hx Bd.returns rfl (Or.inl ⟨rfl, Or.inl rfl, _, rfl⟩) (hb hby d1_10) hr
    · show Q1 Z x y h0 n0 _ s₁.heap _
      rw [e0]
      exact ⟨by first | rw [if_pos hm] | rw [if_neg hm], N0, rfl⟩
theorem d3_0 : decode jdk_30_method_1_code 0 = .ok (.aload_n 0, 1) := by decide +kernel
theorem d3_1 : decode jdk_30_method_1_code 1 = .ok (.invokespecial 1, 3) := by decide +kernel
theorem d3_4 : decode jdk_30_method_1_code 4 = .ok (.return_, 1) := by decide +kernel
theorem ef_3 (m : MethodId) (x0 : Addr) : entryFrame m #[(.ref x0)] 1 = mkF m 0 #[.val (.ref x0)] [] := by first | (simp [entryFrame, mkF, argsToLocals, Value.category]; done) | rfl
def Q3 (Z : State) (a : Addr) (h0 : Heap) (n0 : Nat) (v : Option Value) (h : Heap) (L : List Loc) : Prop := v = none ∧ Fr n0 L ∧ h = h0
set_option maxRecDepth 65536 in
set_option maxHeartbeats 40000000 in
theorem rm3 (l : Launch) (Z : State) (a0 : Array Value) (hw : ∀ d ∈ tables_1, d.before a0 Z = true) (ws : List Jvm.Cond) (a : Addr) (h0 : Heap) (n0 : Nat) (Z0 : n0 ≤ h0.size) :
    MetFree l (⟨"java/lang/Record", "<init>", "()V"⟩ : MethodName) (head1 (Jvm.Cond.code (⟨"java/lang/Record", "<init>", "()V"⟩ : MethodName) jdk_30_method_1_code 1 none :: ws) ({ frames := 1, cells := 0, slots := 0, locals := 12 } : Room)) (fun aa_ U => aa_ = #[(.ref a)] ∧ Z.Warmed39 U.vm ∧ U.heap = h0) (fun _ _ _ _ _ => True) (fun _ U o U' => ∃ vv_ LL_, o = .returned vv_ ∧ Q3 Z a h0 n0 vv_ U'.heap LL_ ∧ FrameEnd U o U' LL_ ({ frames := 1, cells := 0, slots := 0, locals := 12 } : Room).cells ({ frames := 1, cells := 0, slots := 0, locals := 12 } : Room).slots) := by
  refine MetFree.of_bodySF (plainFor_of_name pn_0) hisR ?_
  intro p e s m args below meth c s₁ Bd hml0 hP hK
  obtain ⟨rfl, hZ, hh⟩ := hP
  have hx := Bd.exec
  have hby := Bd.bytes
  have hml : c.maxLocals = 1 := hml0
  have hown : s.vm.findClass "java/lang/Record" = some m.cls := findClass_of_methodNamed Bd.named
  have hnm := (name_of_methodNamed Bd.named Bd.method).1
  have X0 : Stand p l e ({ frames := 1, cells := 0, slots := 0, locals := 12 } : Room) s m #[(.ref a)] below meth c s₁ [] 0 0 := Stand.of_body Bd
  have e0 : s₁.heap = h0 := by rw [← hh, Bd.state]; rfl
  have N0 := Fr.nil n0
  have K0 : Keep h0 h0 [] := Keep.refl h0 _
  refine Go.enter (P := fun o U' => ∃ vv_ LL_, o = .returned vv_ ∧ Q3 Z a h0 n0 vv_ U'.heap LL_ ∧ FrameEnd s o U' LL_ ({ frames := 1, cells := 0, slots := 0, locals := 12 } : Room).cells ({ frames := 1, cells := 0, slots := 0, locals := 12 } : Room).slots) (ef_3 m a) ?_
  show Go p e below s₁ (mkF m 0 #[.val (.ref a)] []) _
  refine Go.of (fun tg_ kk_ => XS.aloadN X0.here hx rfl (hb hby d3_0) rfl rfl kk_) ?_
  show Go p e below s₁ (mkF m 1 #[.val (.ref a)] [(.ref a)]) _
  obtain ⟨T1, X1, e1, st1⟩ := initO X0 hx hZ hown (hw _ (List.mem_of_getElem? (i := 16) rfl)) (hw _ (List.mem_of_getElem? (i := 17) rfl)) (hw _ (List.mem_of_getElem? (i := 18) rfl)) e0 (g := (mkF m 1 #[.val (.ref a)] [(.ref a)])) rfl (by rw [hml]; rfl) rfl (hb hby d3_1) (by decide) (W := 0) (by show 2 * 0 + _ ≤ _; exact Nat.le_of_eq rfl) (by decide)
  refine Go.of (st1) ?_
  show Go p e below T1 (mkF m 4 #[.val (.ref a)] []) _
  obtain ⟨fs, hr, hrun, hended, hW, hsame⟩ := X1.leave (v := none) (fun _ => rfl)
  refine ⟨_, _, ?_, hrun, hended, _, _, rfl, ?_, ⟨_, rfl⟩, hW, hsame.mono (by decide) (by decide)⟩
  · exact X1.returnOut hx Bd.returns (hb hby d3_4) hr
  · show Q3 Z a h0 n0 _ T1.heap _
    rw [e1]
    exact ⟨rfl, N0, rfl⟩
theorem d5_0 : decode prog_40_method_2_code 0 = .ok (.iload_n 0, 1) := by decide +kernel
theorem d5_1 : decode prog_40_method_2_code 1 = .ok (.ifCond .ge 17, 3) := by decide +kernel
theorem d5_18 : decode prog_40_method_2_code 18 = .ok (.return_, 1) := by decide +kernel
theorem ef_5 (m : MethodId) (x0 : Int32) : entryFrame m #[(.int x0)] 1 = mkF m 0 #[.val (.int x0)] [] := by first | (simp [entryFrame, mkF, argsToLocals, Value.category]; done) | rfl
def Q5 (Z : State) (x : Int32) (h0 : Heap) (n0 : Nat) (v : Option Value) (h : Heap) (L : List Loc) : Prop := v = none ∧ Fr n0 L ∧ h = h0
set_option maxRecDepth 65536 in
set_option maxHeartbeats 40000000 in
theorem rm5 (l : Launch) (Z : State) (a0 : Array Value) (hw : ∀ d ∈ tables_1, d.before a0 Z = true) (ws : List Jvm.Cond) (x : Int32) (h0 : Heap) (n0 : Nat) (Z0 : n0 ≤ h0.size) (hx0 : ¬ (x < 0)) :
    MetFree l (⟨"com/example/vestline/vestline/model/Citation", "requireLine", "(I)V"⟩ : MethodName) (head1 (Jvm.Cond.code (⟨"com/example/vestline/vestline/model/Citation", "requireLine", "(I)V"⟩ : MethodName) prog_40_method_2_code 1 none :: ws) ({ frames := 0, cells := 0, slots := 0, locals := 0 } : Room)) (fun aa_ U => aa_ = #[(.int x)] ∧ Z.Warmed39 U.vm ∧ U.heap = h0) (fun _ _ _ _ _ => True) (fun _ U o U' => ∃ vv_ LL_, o = .returned vv_ ∧ Q5 Z x h0 n0 vv_ U'.heap LL_ ∧ FrameEnd U o U' LL_ ({ frames := 0, cells := 0, slots := 0, locals := 0 } : Room).cells ({ frames := 0, cells := 0, slots := 0, locals := 0 } : Room).slots) := by
  refine MetFree.of_bodySF (plainFor_of_name pn_1) hisR ?_
  intro p e s m args below meth c s₁ Bd hml0 hP hK
  obtain ⟨rfl, hZ, hh⟩ := hP
  have hx := Bd.exec
  have hby := Bd.bytes
  have hml : c.maxLocals = 1 := hml0
  have hown : s.vm.findClass "com/example/vestline/vestline/model/Citation" = some m.cls := findClass_of_methodNamed Bd.named
  have hnm := (name_of_methodNamed Bd.named Bd.method).1
  have X0 : Stand p l e ({ frames := 0, cells := 0, slots := 0, locals := 0 } : Room) s m #[(.int x)] below meth c s₁ [] 0 0 := Stand.of_body Bd
  have e0 : s₁.heap = h0 := by rw [← hh, Bd.state]; rfl
  have N0 := Fr.nil n0
  have K0 : Keep h0 h0 [] := Keep.refl h0 _
  refine Go.enter (P := fun o U' => ∃ vv_ LL_, o = .returned vv_ ∧ Q5 Z x h0 n0 vv_ U'.heap LL_ ∧ FrameEnd s o U' LL_ ({ frames := 0, cells := 0, slots := 0, locals := 0 } : Room).cells ({ frames := 0, cells := 0, slots := 0, locals := 0 } : Room).slots) (ef_5 m x) ?_
  show Go p e below s₁ (mkF m 0 #[.val (.int x)] []) _
  refine Go.of (fun tg_ kk_ => XS.iloadN X0.here hx rfl (hb hby d5_0) rfl kk_) ?_
  show Go p e below s₁ (mkF m 1 #[.val (.int x)] [(.int x)]) _
  refine Go.of (fun tg_ kk_ => XS.ifYes X0.here hx rfl (pc0 := 1) (pc' := 18) rfl (hb hby d5_1) rfl ((if0 _ _).trans (flt (show ¬ (x < (0 : Int32)) from hx0)).2.1) (by decide) (by decide) kk_) ?_
  show Go p e below s₁ (mkF m 18 #[.val (.int x)] []) _
  obtain ⟨fs, hr, hrun, hended, hW, hsame⟩ := X0.leave (v := none) (fun _ => rfl)
  refine ⟨_, _, ?_, hrun, hended, _, _, rfl, ?_, ⟨_, rfl⟩, hW, hsame.mono (by decide) (by decide)⟩
  · exact X0.returnOut hx Bd.returns (hb hby d5_18) hr
  · show Q5 Z x h0 n0 _ s₁.heap _
    rw [e0]
    exact ⟨rfl, N0, rfl⟩
theorem d2_0 : decode prog_59_method_1_code 0 = .ok (.aload_n 0, 1) := by decide +kernel
theorem d2_1 : decode prog_59_method_1_code 1 = .ok (.invokespecial 1, 3) := by decide +kernel
theorem d2_4 : decode prog_59_method_1_code 4 = .ok (.iload_n 1, 1) := by decide +kernel
theorem d2_5 : decode prog_59_method_1_code 5 = .ok (.ifCond .gt 17, 3) := by decide +kernel
theorem d2_22 : decode prog_59_method_1_code 22 = .ok (.iload_n 2, 1) := by decide +kernel
theorem d2_23 : decode prog_59_method_1_code 23 = .ok (.ifCond .ge 17, 3) := by decide +kernel
theorem d2_40 : decode prog_59_method_1_code 40 = .ok (.iload_n 3, 1) := by decide +kernel
theorem d2_41 : decode prog_59_method_1_code 41 = .ok (.invokestatic 17, 3) := by decide +kernel
theorem d2_44 : decode prog_59_method_1_code 44 = .ok (.aload_n 0, 1) := by decide +kernel
theorem d2_45 : decode prog_59_method_1_code 45 = .ok (.iload_n 1, 1) := by decide +kernel
theorem d2_46 : decode prog_59_method_1_code 46 = .ok (.putfield 23, 3) := by decide +kernel
theorem d2_49 : decode prog_59_method_1_code 49 = .ok (.aload_n 0, 1) := by decide +kernel
theorem d2_50 : decode prog_59_method_1_code 50 = .ok (.iload_n 2, 1) := by decide +kernel
theorem d2_51 : decode prog_59_method_1_code 51 = .ok (.putfield 29, 3) := by decide +kernel
theorem d2_54 : decode prog_59_method_1_code 54 = .ok (.aload_n 0, 1) := by decide +kernel
theorem d2_55 : decode prog_59_method_1_code 55 = .ok (.iload_n 3, 1) := by decide +kernel
theorem d2_56 : decode prog_59_method_1_code 56 = .ok (.putfield 32, 3) := by decide +kernel
theorem d2_59 : decode prog_59_method_1_code 59 = .ok (.return_, 1) := by decide +kernel
theorem ef_2 (m : MethodId) (x0 : Addr) (x1 : Int32) (x2 : Int32) (x3 : Int32) : entryFrame m #[(.ref x0), (.int x1), (.int x2), (.int x3)] 4 = mkF m 0 #[.val (.ref x0), .val (.int x1), .val (.int x2), .val (.int x3)] [] := by first | (simp [entryFrame, mkF, argsToLocals, Value.category]; done) | rfl
def Q2 (Z : State) (a : Addr) (x : Int32) (y : Int32) (z : Int32) (h0 : Heap) (n0 : Nat) (v : Option Value) (h : Heap) (L : List Loc) : Prop := v = none ∧ Fr n0 L ∧ Keep h0 h [a] ∧ Fld Z h a "com/example/vestline/vestline/model/FullVesting$RetirementAge" "age" "I" (.int x) ∧ Fld Z h a "com/example/vestline/vestline/model/FullVesting$RetirementAge" "years" "I" (.int y)
set_option maxRecDepth 65536 in
set_option maxHeartbeats 40000000 in
theorem rm2 (l : Launch) (Z : State) (a0 : Array Value) (hw : ∀ d ∈ tables_1, d.before a0 Z = true) (ws : List Jvm.Cond) (a : Addr) (x : Int32) (y : Int32) (z : Int32) (h0 : Heap) (n0 : Nat) (Z0 : n0 ≤ h0.size) (hx0 : (0 : Int32) < x) (hy0 : ¬ (y < 0)) (hz0 : ¬ (z < 0)) (g_a : n0 ≤ a) (E_a : Exa Z h0 a "com/example/vestline/vestline/model/FullVesting$RetirementAge") (Fa : Fld Z h0 a "com/example/vestline/vestline/model/FullVesting$RetirementAge" "age" "I" (.int (0 : Int32))) (Fy : Fld Z h0 a "com/example/vestline/vestline/model/FullVesting$RetirementAge" "years" "I" (.int (0 : Int32))) (Fl : Fld Z h0 a "com/example/vestline/vestline/model/FullVesting$RetirementAge" "line" "I" (.int (0 : Int32))) :
    MetFree l (⟨"com/example/vestline/vestline/model/FullVesting$RetirementAge", "<init>", "(III)V"⟩ : MethodName) (head1 (Jvm.Cond.code (⟨"com/example/vestline/vestline/model/FullVesting$RetirementAge", "<init>", "(III)V"⟩ : MethodName) prog_59_method_1_code 4 none :: ws) ({ frames := 2, cells := 0, slots := 0, locals := 24 } : Room)) (fun aa_ U => aa_ = #[(.ref a), (.int x), (.int y), (.int z)] ∧ Z.Warmed39 U.vm ∧ U.heap = h0) (fun _ _ _ _ _ => True) (fun _ U o U' => ∃ vv_ LL_, o = .returned vv_ ∧ Q2 Z a x y z h0 n0 vv_ U'.heap LL_ ∧ FrameEnd U o U' LL_ ({ frames := 2, cells := 0, slots := 0, locals := 24 } : Room).cells ({ frames := 2, cells := 0, slots := 0, locals := 24 } : Room).slots) := by
  refine MetFree.of_bodySF (plainFor_of_name pn_2) hisR ?_
  intro p e s m args below meth c s₁ Bd hml0 hP hK
  obtain ⟨rfl, hZ, hh⟩ := hP
  have hx := Bd.exec
  have hby := Bd.bytes
  have hml : c.maxLocals = 4 := hml0
  have hown : s.vm.findClass "com/example/vestline/vestline/model/FullVesting$RetirementAge" = some m.cls := findClass_of_methodNamed Bd.named
  have hnm := (name_of_methodNamed Bd.named Bd.method).1
  have X0 : Stand p l e ({ frames := 2, cells := 0, slots := 0, locals := 24 } : Room) s m #[(.ref a), (.int x), (.int y), (.int z)] below meth c s₁ [] 0 0 := Stand.of_body Bd
  have e0 : s₁.heap = h0 := by rw [← hh, Bd.state]; rfl
  have N0 := Fr.nil n0
  have K0 : Keep h0 h0 [a] := Keep.refl h0 _
  refine Go.enter (P := fun o U' => ∃ vv_ LL_, o = .returned vv_ ∧ Q2 Z a x y z h0 n0 vv_ U'.heap LL_ ∧ FrameEnd s o U' LL_ ({ frames := 2, cells := 0, slots := 0, locals := 24 } : Room).cells ({ frames := 2, cells := 0, slots := 0, locals := 24 } : Room).slots) (ef_2 m a x y z) ?_
  show Go p e below s₁ (mkF m 0 #[.val (.ref a), .val (.int x), .val (.int y), .val (.int z)] []) _
  refine Go.of (fun tg_ kk_ => XS.aloadN X0.here hx rfl (hb hby d2_0) rfl rfl kk_) ?_
  show Go p e below s₁ (mkF m 1 #[.val (.ref a), .val (.int x), .val (.int y), .val (.int z)] [(.ref a)]) _
  obtain ⟨_, _, ⟨T1, L1, k1, n1⟩, -, X1, ⟨Lc1, hQ1, l1, y1, z1⟩, st1⟩ := X0.specialBack hx (y := (⟨"java/lang/Record", "<init>", "()V"⟩ : MethodName)) rfl hown (mvT hZ (hw _ (List.mem_of_getElem? (i := 11) rfl))) (mvT hZ (hw _ (List.mem_of_getElem? (i := 12) rfl))) (mvT hZ (hw _ (List.mem_of_getElem? (i := 15) rfl))) (by decide) (backOf (W := 0) (rm3 l Z a0 hw [] a h0 n0 Z0) hZ (hw _ (List.mem_of_getElem? (i := 15) rfl)) (hw _ (List.mem_of_getElem? (i := 14) rfl)) (by decide) (by decide)) (g := (mkF m 1 #[.val (.ref a), .val (.int x), .val (.int y), .val (.int z)] [(.ref a)])) rfl (by rw [hml]; rfl) (Steps.refl _) (a := a) (argsL := []) (rest := []) (lenOf pd_0 rfl) rfl (by show 2 * 0 + _ ≤ _; exact Nat.le_of_eq rfl) (hb hby d2_1) (fun _ _ => ⟨rfl, e0, (by decide : 0 + 0 ≤ _), (by decide : 0 + 0 ≤ _)⟩)
  dsimp only [Pt.U, Pt.locs, Pt.cells, Pt.slots] at X1 l1 y1 z1 st1 hQ1
  subst l1 y1 z1
  obtain ⟨rfl, N1q, e1⟩ := hQ1
  have N1 := Fr.app N0 N1q
  refine Go.of (fun tg_ kk_ => st1.trans kk_) ?_
  show Go p e below T1 (mkF m 4 #[.val (.ref a), .val (.int x), .val (.int y), .val (.int z)] []) _
  refine Go.of (fun tg_ kk_ => XS.iloadN X1.here hx rfl (hb hby d2_4) rfl kk_) ?_
  show Go p e below T1 (mkF m 5 #[.val (.ref a), .val (.int x), .val (.int y), .val (.int z)] [(.int x)]) _
  refine Go.of (fun tg_ kk_ => XS.ifYes X1.here hx rfl (pc0 := 5) (pc' := 22) rfl (hb hby d2_5) rfl ((if0 _ _).trans (tlt (show (0 : Int32) < x from hx0)).2.2.1) (by decide) (by decide) kk_) ?_
  show Go p e below T1 (mkF m 22 #[.val (.ref a), .val (.int x), .val (.int y), .val (.int z)] []) _
  refine Go.of (fun tg_ kk_ => XS.iloadN X1.here hx rfl (hb hby d2_22) rfl kk_) ?_
  show Go p e below T1 (mkF m 23 #[.val (.ref a), .val (.int x), .val (.int y), .val (.int z)] [(.int y)]) _
  refine Go.of (fun tg_ kk_ => XS.ifYes X1.here hx rfl (pc0 := 23) (pc' := 40) rfl (hb hby d2_23) rfl ((if0 _ _).trans (flt (show ¬ (y < (0 : Int32)) from hy0)).2.1) (by decide) (by decide) kk_) ?_
  show Go p e below T1 (mkF m 40 #[.val (.ref a), .val (.int x), .val (.int y), .val (.int z)] []) _
  refine Go.of (fun tg_ kk_ => XS.iloadN X1.here hx rfl (hb hby d2_40) rfl kk_) ?_
  show Go p e below T1 (mkF m 41 #[.val (.ref a), .val (.int x), .val (.int y), .val (.int z)] [(.int z)]) _
  obtain ⟨_, _, ⟨T2, L2, k2, n2⟩, -, X2, ⟨Lc2, hQ2, l2, y2, z2⟩, st2⟩ := Jvm.LawKit.callS X1 hx (y := (⟨"com/example/vestline/vestline/model/Citation", "requireLine", "(I)V"⟩ : MethodName)) hown (mvT hZ (hw _ (List.mem_of_getElem? (i := 19) rfl))) (mvT hZ (hw _ (List.mem_of_getElem? (i := 20) rfl))) (mvT hZ (hw _ (List.mem_of_getElem? (i := 21) rfl))) (mvT hZ (hw _ (List.mem_of_getElem? (i := 22) rfl))) (by decide) (backOf (W := 0) (rm5 l Z a0 hw [] z h0 n0 Z0 hz0) hZ (hw _ (List.mem_of_getElem? (i := 22) rfl)) (hw _ (List.mem_of_getElem? (i := 21) rfl)) (by decide) (by decide)) (g := (mkF m 41 #[.val (.ref a), .val (.int x), .val (.int y), .val (.int z)] [(.int z)])) rfl (by rw [hml]; rfl) (argsL := [(.int z)]) (rest := []) (lenOf pd_1 rfl) rfl (by show 2 * 0 + _ ≤ _; exact Nat.le_of_eq rfl) (hb hby d2_41) (fun _ _ => ⟨rfl, e1, (by decide : 0 + 0 ≤ _), (by decide : 0 + 0 ≤ _)⟩)
  dsimp only [Pt.U, Pt.locs, Pt.cells, Pt.slots] at X2 l2 y2 z2 st2 hQ2
  subst l2 y2 z2
  obtain ⟨rfl, N2q, e2⟩ := hQ2
  have N2 := Fr.app N1 N2q
  refine Go.of (st2) ?_
  show Go p e below T2 (mkF m 44 #[.val (.ref a), .val (.int x), .val (.int y), .val (.int z)] []) _
  refine Go.of (fun tg_ kk_ => XS.aloadN X2.here hx rfl (hb hby d2_44) rfl rfl kk_) ?_
  show Go p e below T2 (mkF m 45 #[.val (.ref a), .val (.int x), .val (.int y), .val (.int z)] [(.ref a)]) _
  refine Go.of (fun tg_ kk_ => XS.iloadN X2.here hx rfl (hb hby d2_45) rfl kk_) ?_
  show Go p e below T2 (mkF m 46 #[.val (.ref a), .val (.int x), .val (.int y), .val (.int z)] [(.int x), (.ref a)]) _
  obtain ⟨T3, h3, X3, e3, W3, st3⟩ := putF X2 hx hZ hown (host := "") (Or.inl (hw _ (List.mem_of_getElem? (i := 23) rfl))) Via.refl e2 Fa E_a (Or.inr ⟨(hw _ (List.mem_of_getElem? (i := 24) rfl)), rfl, hnm⟩) (hw _ (List.mem_of_getElem? (i := 6) rfl)) (ty := .int) (by decide) rfl rfl (g := (mkF m 46 #[.val (.ref a), .val (.int x), .val (.int y), .val (.int z)] [(.int x), (.ref a)])) rfl rfl (hb hby d2_46)
  have Fw3 := Fa.same W3
  have F4 := E_a.wr W3
  have F6 := Fy.other W3 (Or.inr (slot_ne (Or.inr (hw _ (List.mem_of_getElem? (i := 26) rfl))) (Or.inr (hw _ (List.mem_of_getElem? (i := 24) rfl))) (by decide) (t := .int) (t' := .int) (by decide) (by decide)))
  have F7 := Fl.other W3 (Or.inr (slot_ne (Or.inr (hw _ (List.mem_of_getElem? (i := 28) rfl))) (Or.inr (hw _ (List.mem_of_getElem? (i := 24) rfl))) (by decide) (t := .int) (t' := .int) (by decide) (by decide)))
  have K8 := K0.wr W3 (Or.inl (List.mem_of_getElem? (i := 0) rfl))
  have Zs9 : n0 ≤ h3.size := Nat.le_trans Z0 (Keep.of_wr W3).1
  have N3 := Fr.snoc X3 N2 g_a
  refine Go.of (st3) ?_
  show Go p e below T3 (mkF m 49 #[.val (.ref a), .val (.int x), .val (.int y), .val (.int z)] []) _
  refine Go.of (fun tg_ kk_ => XS.aloadN X3.here hx rfl (hb hby d2_49) rfl rfl kk_) ?_
  show Go p e below T3 (mkF m 50 #[.val (.ref a), .val (.int x), .val (.int y), .val (.int z)] [(.ref a)]) _
  refine Go.of (fun tg_ kk_ => XS.iloadN X3.here hx rfl (hb hby d2_50) rfl kk_) ?_
  show Go p e below T3 (mkF m 51 #[.val (.ref a), .val (.int x), .val (.int y), .val (.int z)] [(.int y), (.ref a)]) _
  obtain ⟨T10, h10, X10, e10, W10, st10⟩ := putF X3 hx hZ hown (host := "") (Or.inl (hw _ (List.mem_of_getElem? (i := 25) rfl))) Via.refl e3 F6 F4 (Or.inr ⟨(hw _ (List.mem_of_getElem? (i := 26) rfl)), rfl, hnm⟩) (hw _ (List.mem_of_getElem? (i := 6) rfl)) (ty := .int) (by decide) rfl rfl (g := (mkF m 51 #[.val (.ref a), .val (.int x), .val (.int y), .val (.int z)] [(.int y), (.ref a)])) rfl rfl (hb hby d2_51)
  have Fw10 := F6.same W10
  have F11 := F4.wr W10
  have F13 := F7.other W10 (Or.inr (slot_ne (Or.inr (hw _ (List.mem_of_getElem? (i := 28) rfl))) (Or.inr (hw _ (List.mem_of_getElem? (i := 26) rfl))) (by decide) (t := .int) (t' := .int) (by decide) (by decide)))
  have F14 := Fw3.other W10 (Or.inr (slot_ne (Or.inr (hw _ (List.mem_of_getElem? (i := 24) rfl))) (Or.inr (hw _ (List.mem_of_getElem? (i := 26) rfl))) (by decide) (t := .int) (t' := .int) (by decide) (by decide)))
  have K15 := K8.wr W10 (Or.inl (List.mem_of_getElem? (i := 0) rfl))
  have Zs16 : n0 ≤ h10.size := Nat.le_trans Zs9 (Keep.of_wr W10).1
  have N10 := Fr.snoc X10 N3 g_a
  refine Go.of (st10) ?_
  show Go p e below T10 (mkF m 54 #[.val (.ref a), .val (.int x), .val (.int y), .val (.int z)] []) _
  refine Go.of (fun tg_ kk_ => XS.aloadN X10.here hx rfl (hb hby d2_54) rfl rfl kk_) ?_
  show Go p e below T10 (mkF m 55 #[.val (.ref a), .val (.int x), .val (.int y), .val (.int z)] [(.ref a)]) _
  refine Go.of (fun tg_ kk_ => XS.iloadN X10.here hx rfl (hb hby d2_55) rfl kk_) ?_
  show Go p e below T10 (mkF m 56 #[.val (.ref a), .val (.int x), .val (.int y), .val (.int z)] [(.int z), (.ref a)]) _
  obtain ⟨T17, h17, X17, e17, W17, st17⟩ := putF X10 hx hZ hown (host := "") (Or.inl (hw _ (List.mem_of_getElem? (i := 27) rfl))) Via.refl e10 F13 F11 (Or.inr ⟨(hw _ (List.mem_of_getElem? (i := 28) rfl)), rfl, hnm⟩) (hw _ (List.mem_of_getElem? (i := 6) rfl)) (ty := .int) (by decide) rfl rfl (g := (mkF m 56 #[.val (.ref a), .val (.int x), .val (.int y), .val (.int z)] [(.int z), (.ref a)])) rfl rfl (hb hby d2_56)
  have Fw17 := F13.same W17
  have F18 := F11.wr W17
  have F20 := F14.other W17 (Or.inr (slot_ne (Or.inr (hw _ (List.mem_of_getElem? (i := 24) rfl))) (Or.inr (hw _ (List.mem_of_getElem? (i := 28) rfl))) (by decide) (t := .int) (t' := .int) (by decide) (by decide)))
  have F21 := Fw10.other W17 (Or.inr (slot_ne (Or.inr (hw _ (List.mem_of_getElem? (i := 26) rfl))) (Or.inr (hw _ (List.mem_of_getElem? (i := 28) rfl))) (by decide) (t := .int) (t' := .int) (by decide) (by decide)))
  have K22 := K15.wr W17 (Or.inl (List.mem_of_getElem? (i := 0) rfl))
  have Zs23 : n0 ≤ h17.size := Nat.le_trans Zs16 (Keep.of_wr W17).1
  have N17 := Fr.snoc X17 N10 g_a
  refine Go.of (st17) ?_
  show Go p e below T17 (mkF m 59 #[.val (.ref a), .val (.int x), .val (.int y), .val (.int z)] []) _
  obtain ⟨fs, hr, hrun, hended, hW, hsame⟩ := X17.leave (v := none) (fun _ => rfl)
  refine ⟨_, _, ?_, hrun, hended, _, _, rfl, ?_, ⟨_, rfl⟩, hW, hsame.mono (by decide) (by decide)⟩
  · exact X17.returnOut hx Bd.returns (hb hby d2_59) hr
  · show Q2 Z a x y z h0 n0 _ T17.heap _
    rw [e17]
    exact ⟨rfl, N17, K22, F20, F21⟩
theorem d6_0 : decode prog_59_method_3_code 0 = .ok (.iload_n 1, 1) := by decide +kernel
theorem d6_1 : decode prog_59_method_3_code 1 = .ok (.aload_n 0, 1) := by decide +kernel
theorem d6_2 : decode prog_59_method_3_code 2 = .ok (.getfield 23, 3) := by decide +kernel
theorem d6_5 : decode prog_59_method_3_code 5 = .ok (.if_icmp .lt 15, 3) := by decide +kernel
theorem d6_8 : decode prog_59_method_3_code 8 = .ok (.iload_n 2, 1) := by decide +kernel
theorem d6_9 : decode prog_59_method_3_code 9 = .ok (.aload_n 0, 1) := by decide +kernel
theorem d6_10 : decode prog_59_method_3_code 10 = .ok (.getfield 29, 3) := by decide +kernel
theorem d6_13 : decode prog_59_method_3_code 13 = .ok (.if_icmp .lt 7, 3) := by decide +kernel
theorem d6_16 : decode prog_59_method_3_code 16 = .ok (.iconst 1, 1) := by decide +kernel
theorem d6_17 : decode prog_59_method_3_code 17 = .ok (.goto 4, 3) := by decide +kernel
theorem d6_20 : decode prog_59_method_3_code 20 = .ok (.iconst 0, 1) := by decide +kernel
theorem d6_21 : decode prog_59_method_3_code 21 = .ok (.ireturn, 1) := by decide +kernel
theorem ef_6 (m : MethodId) (x0 : Addr) (x1 : Int32) (x2 : Int32) : entryFrame m #[(.ref x0), (.int x1), (.int x2)] 3 = mkF m 0 #[.val (.ref x0), .val (.int x1), .val (.int x2)] [] := by first | (simp [entryFrame, mkF, argsToLocals, Value.category]; done) | rfl
def Q6 (Z : State) (a : Addr) (x : Int32) (y : Int32) (u : Int32) (w : Int32) (h0 : Heap) (n0 : Nat) (v : Option Value) (h : Heap) (L : List Loc) : Prop := v = some (.int (if x < u then 0 else if y < w then 0 else 1)) ∧ Fr n0 L ∧ h = h0
set_option maxRecDepth 65536 in
set_option maxHeartbeats 40000000 in
theorem rm6 (l : Launch) (Z : State) (a0 : Array Value) (hw : ∀ d ∈ tables_1, d.before a0 Z = true) (ws : List Jvm.Cond) (a : Addr) (x : Int32) (y : Int32) (u : Int32) (w : Int32) (h0 : Heap) (n0 : Nat) (Z0 : n0 ≤ h0.size) (Fa : Fld Z h0 a "com/example/vestline/vestline/model/FullVesting$RetirementAge" "age" "I" (.int u)) (Fy : Fld Z h0 a "com/example/vestline/vestline/model/FullVesting$RetirementAge" "years" "I" (.int w)) :
    MetFree l (⟨"com/example/vestline/vestline/model/FullVesting$RetirementAge", "reachedBy", "(II)Z"⟩ : MethodName) (head1 (Jvm.Cond.code (⟨"com/example/vestline/vestline/model/FullVesting$RetirementAge", "reachedBy", "(II)Z"⟩ : MethodName) prog_59_method_3_code 3 (some .boolean) :: ws) ({ frames := 0, cells := 0, slots := 0, locals := 0 } : Room)) (fun aa_ U => aa_ = #[(.ref a), (.int x), (.int y)] ∧ Z.Warmed39 U.vm ∧ U.heap = h0) (fun _ _ _ _ _ => True) (fun _ U o U' => ∃ vv_ LL_, o = .returned vv_ ∧ Q6 Z a x y u w h0 n0 vv_ U'.heap LL_ ∧ FrameEnd U o U' LL_ ({ frames := 0, cells := 0, slots := 0, locals := 0 } : Room).cells ({ frames := 0, cells := 0, slots := 0, locals := 0 } : Room).slots) := by
  refine MetFree.of_bodySF (plainFor_of_name pn_2) hisR ?_
  intro p e s m args below meth c s₁ Bd hml0 hP hK
  obtain ⟨rfl, hZ, hh⟩ := hP
  have hx := Bd.exec
  have hby := Bd.bytes
  have hml : c.maxLocals = 3 := hml0
  have hown : s.vm.findClass "com/example/vestline/vestline/model/FullVesting$RetirementAge" = some m.cls := findClass_of_methodNamed Bd.named
  have hnm := (name_of_methodNamed Bd.named Bd.method).1
  have X0 : Stand p l e ({ frames := 0, cells := 0, slots := 0, locals := 0 } : Room) s m #[(.ref a), (.int x), (.int y)] below meth c s₁ [] 0 0 := Stand.of_body Bd
  have e0 : s₁.heap = h0 := by rw [← hh, Bd.state]; rfl
  have N0 := Fr.nil n0
  have K0 : Keep h0 h0 [] := Keep.refl h0 _
  refine Go.enter (P := fun o U' => ∃ vv_ LL_, o = .returned vv_ ∧ Q6 Z a x y u w h0 n0 vv_ U'.heap LL_ ∧ FrameEnd s o U' LL_ ({ frames := 0, cells := 0, slots := 0, locals := 0 } : Room).cells ({ frames := 0, cells := 0, slots := 0, locals := 0 } : Room).slots) (ef_6 m a x y) ?_
  show Go p e below s₁ (mkF m 0 #[.val (.ref a), .val (.int x), .val (.int y)] []) _
  refine Go.of (fun tg_ kk_ => XS.iloadN X0.here hx rfl (hb hby d6_0) rfl kk_) ?_
  show Go p e below s₁ (mkF m 1 #[.val (.ref a), .val (.int x), .val (.int y)] [(.int x)]) _
  refine Go.of (fun tg_ kk_ => XS.aloadN X0.here hx rfl (hb hby d6_1) rfl rfl kk_) ?_
  show Go p e below s₁ (mkF m 2 #[.val (.ref a), .val (.int x), .val (.int y)] [(.ref a), (.int x)]) _
  obtain ⟨T1, X1, e1, st1⟩ := getF X0 hx hZ hown (host := "") (Or.inl (hw _ (List.mem_of_getElem? (i := 23) rfl))) Via.refl e0 Fa (g := (mkF m 2 #[.val (.ref a), .val (.int x), .val (.int y)] [(.ref a), (.int x)])) rfl rfl (hb hby d6_2)
  refine Go.of (st1) ?_
  show Go p e below T1 (mkF m 5 #[.val (.ref a), .val (.int x), .val (.int y)] [(.int u), (.int x)]) _
  by_cases h1 : x < u
  · skip
    refine Go.of (fun tg_ kk_ => XS.icmpYes X1.here hx rfl (pc0 := 5) (pc' := 20) rfl (hb hby d6_5) rfl (tlt h1).1 (by decide) (by decide) kk_) ?_
    show Go p e below T1 (mkF m 20 #[.val (.ref a), .val (.int x), .val (.int y)] []) _
    refine Go.of (fun tg_ kk_ => XS.iconst X1.here hx rfl (hb hby d6_20) kk_) ?_
    show Go p e below T1 (mkF m 21 #[.val (.ref a), .val (.int x), .val (.int y)] [(.int (0 : Int32))]) _
    obtain ⟨fs, hr, hrun, hended, hW, hsame⟩ := X1.leave (v := some (.int (0 : Int32))) (fun h => by rw [Bd.returns] at h; cases h)
    refine ⟨_, _, ?_, hrun, hended, _, _, rfl, ?_, ⟨_, rfl⟩, hW, hsame.mono (by decide) (by decide)⟩
    · exact retN X1 hx (t := .boolean) Bd.returns (by simp) (hb hby d6_21) hr
    · show Q6 Z a x y u w h0 n0 _ T1.heap _
      rw [e1]
      exact ⟨by simp [h1], N0, rfl⟩
  · skip
    refine Go.of (fun tg_ kk_ => XS.icmpNo X1.here hx rfl (hb hby d6_5) rfl (flt h1).1 kk_) ?_
    show Go p e below T1 (mkF m 8 #[.val (.ref a), .val (.int x), .val (.int y)] []) _
    refine Go.of (fun tg_ kk_ => XS.iloadN X1.here hx rfl (hb hby d6_8) rfl kk_) ?_
    show Go p e below T1 (mkF m 9 #[.val (.ref a), .val (.int x), .val (.int y)] [(.int y)]) _
    refine Go.of (fun tg_ kk_ => XS.aloadN X1.here hx rfl (hb hby d6_9) rfl rfl kk_) ?_
    show Go p e below T1 (mkF m 10 #[.val (.ref a), .val (.int x), .val (.int y)] [(.ref a), (.int y)]) _
    obtain ⟨T2, X2, e2, st2⟩ := getF X1 hx hZ hown (host := "") (Or.inl (hw _ (List.mem_of_getElem? (i := 25) rfl))) Via.refl e1 Fy (g := (mkF m 10 #[.val (.ref a), .val (.int x), .val (.int y)] [(.ref a), (.int y)])) rfl rfl (hb hby d6_10)
    refine Go.of (st2) ?_
    show Go p e below T2 (mkF m 13 #[.val (.ref a), .val (.int x), .val (.int y)] [(.int w), (.int y)]) _
    by_cases h2 : y < w
    · skip
      refine Go.of (fun tg_ kk_ => XS.icmpYes X2.here hx rfl (pc0 := 13) (pc' := 20) rfl (hb hby d6_13) rfl (tlt h2).1 (by decide) (by decide) kk_) ?_
      show Go p e below T2 (mkF m 20 #[.val (.ref a), .val (.int x), .val (.int y)] []) _
      refine Go.of (fun tg_ kk_ => XS.iconst X2.here hx rfl (hb hby d6_20) kk_) ?_
      show Go p e below T2 (mkF m 21 #[.val (.ref a), .val (.int x), .val (.int y)] [(.int (0 : Int32))]) _
      obtain ⟨fs, hr, hrun, hended, hW, hsame⟩ := X2.leave (v := some (.int (0 : Int32))) (fun h => by rw [Bd.returns] at h; cases h)
      refine ⟨_, _, ?_, hrun, hended, _, _, rfl, ?_, ⟨_, rfl⟩, hW, hsame.mono (by decide) (by decide)⟩
      · exact retN X2 hx (t := .boolean) Bd.returns (by simp) (hb hby d6_21) hr
      · show Q6 Z a x y u w h0 n0 _ T2.heap _
        rw [e2]
        exact ⟨by simp [h1, h2], N0, rfl⟩
    · skip
      refine Go.of (fun tg_ kk_ => XS.icmpNo X2.here hx rfl (hb hby d6_13) rfl (flt h2).1 kk_) ?_
      show Go p e below T2 (mkF m 16 #[.val (.ref a), .val (.int x), .val (.int y)] []) _
      refine Go.of (fun tg_ kk_ => XS.iconst X2.here hx rfl (hb hby d6_16) kk_) ?_
      show Go p e below T2 (mkF m 17 #[.val (.ref a), .val (.int x), .val (.int y)] [(.int (1 : Int32))]) _
      refine Go.of (fun tg_ kk_ => XS.goto X2.here hx rfl (pc0 := 17) (pc' := 21) rfl (hb hby d6_17) (by decide) (by decide) kk_) ?_
      show Go p e below T2 (mkF m 21 #[.val (.ref a), .val (.int x), .val (.int y)] [(.int (1 : Int32))]) _
      obtain ⟨fs, hr, hrun, hended, hW, hsame⟩ := X2.leave (v := some (.int (1 : Int32))) (fun h => by rw [Bd.returns] at h; cases h)
      refine ⟨_, _, ?_, hrun, hended, _, _, rfl, ?_, ⟨_, rfl⟩, hW, hsame.mono (by decide) (by decide)⟩
      · exact retN X2 hx (t := .boolean) Bd.returns (by simp) (hb hby d6_21) hr
      · show Q6 Z a x y u w h0 n0 _ T2.heap _
        rw [e2]
        exact ⟨by simp [h1, h2], N0, rfl⟩
theorem ef_0 (m : MethodId) (x0 : Int32) (x1 : Int32) (x2 : Int32) (x3 : Int32) (x4 : Int32) (x5 : Int32) : entryFrame m #[(.int x0), (.int x1), (.int x2), (.int x3), (.int x4), (.int x5)] maxLocals = mkF m 0 #[.val (.int x0), .val (.int x1), .val (.int x2), .val (.int x3), .val (.int x4), .val (.int x5), .unset, .unset, .unset, .unset, .unset, .unset, .unset] [] := by first | (simp [entryFrame, mkF, argsToLocals, Value.category, maxLocals]; done) | rfl
def Q0 (Z : State) (p0 : Int32) (p1 : Int32) (p2 : Int32) (p3 : Int32) (p4 : Int32) (p5 : Int32) (h0 : Heap) (n0 : Nat) (v : Option Value) (h : Heap) (L : List Loc) : Prop := v = some (.int 1) ∧ Fr n0 L
set_option maxRecDepth 65536 in
set_option maxHeartbeats 40000000 in
theorem rm0 (l : Launch) (Z : State) (a0 : Array Value) (hw : ∀ d ∈ tables_1, d.before a0 Z = true) (ws : List Jvm.Cond) (p0 : Int32) (p1 : Int32) (p2 : Int32) (p3 : Int32) (p4 : Int32) (p5 : Int32) (h0 : Heap) (n0 : Nat) (Z0 : n0 ≤ h0.size) :
    MetFree l x (head1 (Jvm.Cond.code x code maxLocals ret :: ws) room_1) (fun aa_ U => aa_ = #[(.int p0), (.int p1), (.int p2), (.int p3), (.int p4), (.int p5)] ∧ Z.Warmed39 U.vm ∧ U.heap = h0) (fun _ _ _ _ _ => True) (fun _ U o U' => ∃ vv_ LL_, o = .returned vv_ ∧ Q0 Z p0 p1 p2 p3 p4 p5 h0 n0 vv_ U'.heap LL_ ∧ FrameEnd U o U' LL_ 16 128) := by
  refine MetFree.of_bodySF (plainFor_of_name pn_3) hisR ?_
  intro p e s m args below meth c s₁ Bd hml0 hP hK
  obtain ⟨rfl, hZ, hh⟩ := hP
  have hx := Bd.exec
  have hby := Bd.bytes
  have hml : c.maxLocals = 13 := hml0
  have hown : s.vm.findClass "com/example/vestline/vestline/model/RetirementAgeReachedByPinLaw" = some m.cls := findClass_of_methodNamed Bd.named
  have hnm := (name_of_methodNamed Bd.named Bd.method).1
  have X0 : Stand p l e room_1 s m #[(.int p0), (.int p1), (.int p2), (.int p3), (.int p4), (.int p5)] below meth c s₁ [] 0 0 := Stand.of_body Bd
  have e0 : s₁.heap = h0 := by rw [← hh, Bd.state]; rfl
  have N0 := Fr.nil n0
  have K0 : Keep h0 h0 [] := Keep.refl h0 _
  refine Go.enter (P := fun o U' => ∃ vv_ LL_, o = .returned vv_ ∧ Q0 Z p0 p1 p2 p3 p4 p5 h0 n0 vv_ U'.heap LL_ ∧ FrameEnd s o U' LL_ 16 128) (ef_0 m p0 p1 p2 p3 p4 p5) ?_
  show Go p e below s₁ (mkF m 0 #[.val (.int p0), .val (.int p1), .val (.int p2), .val (.int p3), .val (.int p4), .val (.int p5), .unset, .unset, .unset, .unset, .unset, .unset, .unset] []) _
  refine Go.of (fun tg_ kk_ => XS.iconst X0.here hx rfl (hb hby at_0) kk_) ?_
  show Go p e below s₁ (mkF m 1 #[.val (.int p0), .val (.int p1), .val (.int p2), .val (.int p3), .val (.int p4), .val (.int p5), .unset, .unset, .unset, .unset, .unset, .unset, .unset] [(.int (1 : Int32))]) _
  refine Go.of (fun tg_ kk_ => XS.iloadN X0.here hx rfl (hb hby at_1) rfl kk_) ?_
  show Go p e below s₁ (mkF m 2 #[.val (.int p0), .val (.int p1), .val (.int p2), .val (.int p3), .val (.int p4), .val (.int p5), .unset, .unset, .unset, .unset, .unset, .unset, .unset] [(.int p0), (.int (1 : Int32))]) _
  refine Go.of (X0.ldcInt hx hown (mvT hZ (hw _ (List.mem_of_getElem? (i := 0) rfl))) (g := (mkF m 2 #[.val (.int p0), .val (.int p1), .val (.int p2), .val (.int p3), .val (.int p4), .val (.int p5), .unset, .unset, .unset, .unset, .unset, .unset, .unset] [(.int p0), (.int (1 : Int32))])) rfl (hb hby at_2)) ?_
  show Go p e below s₁ (mkF m 4 #[.val (.int p0), .val (.int p1), .val (.int p2), .val (.int p3), .val (.int p4), .val (.int p5), .unset, .unset, .unset, .unset, .unset, .unset, .unset] [(.int (2147483647 : Int32)), (.int p0), (.int (1 : Int32))]) _
  refine Go.of (fun tg_ kk_ => XS.iand X0.here hx rfl (hb hby at_4) rfl kk_) ?_
  show Go p e below s₁ (mkF m 5 #[.val (.int p0), .val (.int p1), .val (.int p2), .val (.int p3), .val (.int p4), .val (.int p5), .unset, .unset, .unset, .unset, .unset, .unset, .unset] [(.int (p0 &&& (2147483647 : Int32))), (.int (1 : Int32))]) _
  obtain ⟨_, _, ⟨T1, L1, k1, n1⟩, -, X1, ⟨Lc1, hQ1, l1, y1, z1⟩, st1⟩ := Jvm.LawKit.callS X0 hx (y := (⟨"java/lang/Math", "max", "(II)I"⟩ : MethodName)) hown (mvT hZ (hw _ (List.mem_of_getElem? (i := 1) rfl))) (mvT hZ (hw _ (List.mem_of_getElem? (i := 2) rfl))) (mvT hZ (hw _ (List.mem_of_getElem? (i := 3) rfl))) (mvT hZ (hw _ (List.mem_of_getElem? (i := 4) rfl))) (by decide) (backOf (W := 0) (rm1 l Z a0 hw [] (1 : Int32) (p0 &&& (2147483647 : Int32)) h0 n0 Z0) hZ (hw _ (List.mem_of_getElem? (i := 4) rfl)) (hw _ (List.mem_of_getElem? (i := 3) rfl)) (by decide) (by decide)) (g := (mkF m 5 #[.val (.int p0), .val (.int p1), .val (.int p2), .val (.int p3), .val (.int p4), .val (.int p5), .unset, .unset, .unset, .unset, .unset, .unset, .unset] [(.int (p0 &&& (2147483647 : Int32))), (.int (1 : Int32))])) rfl (by rw [hml]; rfl) (argsL := [(.int (1 : Int32)), (.int (p0 &&& (2147483647 : Int32)))]) (rest := []) (lenOf pd_2 rfl) rfl (by show 2 * 0 + _ ≤ _; exact Nat.le_of_eq rfl) (hb hby at_5) (fun _ _ => ⟨rfl, e0, (by decide : 0 + 0 ≤ _), (by decide : 0 + 0 ≤ _)⟩)
  dsimp only [Pt.U, Pt.locs, Pt.cells, Pt.slots] at X1 l1 y1 z1 st1 hQ1
  subst l1 y1 z1
  obtain ⟨rfl, N1q, e1⟩ := hQ1
  have N1 := Fr.app N0 N1q
  refine Go.of (st1) ?_
  show Go p e below T1 (mkF m 8 #[.val (.int p0), .val (.int p1), .val (.int p2), .val (.int p3), .val (.int p4), .val (.int p5), .unset, .unset, .unset, .unset, .unset, .unset, .unset] [(.int (if (1 : Int32) < (p0 &&& (2147483647 : Int32)) then (p0 &&& (2147483647 : Int32)) else (1 : Int32)))]) _
  obtain ⟨ra, qra⟩ : ∃ z : Int32, z = (if (1 : Int32) < (p0 &&& (2147483647 : Int32)) then (p0 &&& (2147483647 : Int32)) else (1 : Int32)) := ⟨_, rfl⟩
  rw [← qra]
  show Go p e below T1 (mkF m 8 #[.val (.int p0), .val (.int p1), .val (.int p2), .val (.int p3), .val (.int p4), .val (.int p5), .unset, .unset, .unset, .unset, .unset, .unset, .unset] [(.int ra)]) _
  refine Go.of (fun tg_ kk_ => XS.istore X1.here hx rfl (hb hby at_8) rfl (l' := #[.val (.int p0), .val (.int p1), .val (.int p2), .val (.int p3), .val (.int p4), .val (.int p5), .val (.int ra), .unset, .unset, .unset, .unset, .unset, .unset]) rfl kk_) ?_
  show Go p e below T1 (mkF m 10 #[.val (.int p0), .val (.int p1), .val (.int p2), .val (.int p3), .val (.int p4), .val (.int p5), .val (.int ra), .unset, .unset, .unset, .unset, .unset, .unset] []) _
  refine Go.of (fun tg_ kk_ => XS.iloadN X1.here hx rfl (hb hby at_10) rfl kk_) ?_
  show Go p e below T1 (mkF m 11 #[.val (.int p0), .val (.int p1), .val (.int p2), .val (.int p3), .val (.int p4), .val (.int p5), .val (.int ra), .unset, .unset, .unset, .unset, .unset, .unset] [(.int p1)]) _
  refine Go.of (X1.ldcInt hx hown (mvT hZ (hw _ (List.mem_of_getElem? (i := 0) rfl))) (g := (mkF m 11 #[.val (.int p0), .val (.int p1), .val (.int p2), .val (.int p3), .val (.int p4), .val (.int p5), .val (.int ra), .unset, .unset, .unset, .unset, .unset, .unset] [(.int p1)])) rfl (hb hby at_11)) ?_
  show Go p e below T1 (mkF m 13 #[.val (.int p0), .val (.int p1), .val (.int p2), .val (.int p3), .val (.int p4), .val (.int p5), .val (.int ra), .unset, .unset, .unset, .unset, .unset, .unset] [(.int (2147483647 : Int32)), (.int p1)]) _
  refine Go.of (fun tg_ kk_ => XS.iand X1.here hx rfl (hb hby at_13) rfl kk_) ?_
  show Go p e below T1 (mkF m 14 #[.val (.int p0), .val (.int p1), .val (.int p2), .val (.int p3), .val (.int p4), .val (.int p5), .val (.int ra), .unset, .unset, .unset, .unset, .unset, .unset] [(.int (p1 &&& (2147483647 : Int32)))]) _
  obtain ⟨ry, qry⟩ : ∃ z : Int32, z = (p1 &&& (2147483647 : Int32)) := ⟨_, rfl⟩
  rw [← qry]
  show Go p e below T1 (mkF m 14 #[.val (.int p0), .val (.int p1), .val (.int p2), .val (.int p3), .val (.int p4), .val (.int p5), .val (.int ra), .unset, .unset, .unset, .unset, .unset, .unset] [(.int ry)]) _
  refine Go.of (fun tg_ kk_ => XS.istore X1.here hx rfl (hb hby at_14) rfl (l' := #[.val (.int p0), .val (.int p1), .val (.int p2), .val (.int p3), .val (.int p4), .val (.int p5), .val (.int ra), .val (.int ry), .unset, .unset, .unset, .unset, .unset]) rfl kk_) ?_
  show Go p e below T1 (mkF m 16 #[.val (.int p0), .val (.int p1), .val (.int p2), .val (.int p3), .val (.int p4), .val (.int p5), .val (.int ra), .val (.int ry), .unset, .unset, .unset, .unset, .unset] []) _
  refine Go.of (fun tg_ kk_ => XS.iloadN X1.here hx rfl (hb hby at_16) rfl kk_) ?_
  show Go p e below T1 (mkF m 17 #[.val (.int p0), .val (.int p1), .val (.int p2), .val (.int p3), .val (.int p4), .val (.int p5), .val (.int ra), .val (.int ry), .unset, .unset, .unset, .unset, .unset] [(.int p2)]) _
  refine Go.of (X1.ldcInt hx hown (mvT hZ (hw _ (List.mem_of_getElem? (i := 0) rfl))) (g := (mkF m 17 #[.val (.int p0), .val (.int p1), .val (.int p2), .val (.int p3), .val (.int p4), .val (.int p5), .val (.int ra), .val (.int ry), .unset, .unset, .unset, .unset, .unset] [(.int p2)])) rfl (hb hby at_17)) ?_
  show Go p e below T1 (mkF m 19 #[.val (.int p0), .val (.int p1), .val (.int p2), .val (.int p3), .val (.int p4), .val (.int p5), .val (.int ra), .val (.int ry), .unset, .unset, .unset, .unset, .unset] [(.int (2147483647 : Int32)), (.int p2)]) _
  refine Go.of (fun tg_ kk_ => XS.iand X1.here hx rfl (hb hby at_19) rfl kk_) ?_
  show Go p e below T1 (mkF m 20 #[.val (.int p0), .val (.int p1), .val (.int p2), .val (.int p3), .val (.int p4), .val (.int p5), .val (.int ra), .val (.int ry), .unset, .unset, .unset, .unset, .unset] [(.int (p2 &&& (2147483647 : Int32)))]) _
  obtain ⟨rl, qrl⟩ : ∃ z : Int32, z = (p2 &&& (2147483647 : Int32)) := ⟨_, rfl⟩
  rw [← qrl]
  show Go p e below T1 (mkF m 20 #[.val (.int p0), .val (.int p1), .val (.int p2), .val (.int p3), .val (.int p4), .val (.int p5), .val (.int ra), .val (.int ry), .unset, .unset, .unset, .unset, .unset] [(.int rl)]) _
  refine Go.of (fun tg_ kk_ => XS.istore X1.here hx rfl (hb hby at_20) rfl (l' := #[.val (.int p0), .val (.int p1), .val (.int p2), .val (.int p3), .val (.int p4), .val (.int p5), .val (.int ra), .val (.int ry), .val (.int rl), .unset, .unset, .unset, .unset]) rfl kk_) ?_
  show Go p e below T1 (mkF m 22 #[.val (.int p0), .val (.int p1), .val (.int p2), .val (.int p3), .val (.int p4), .val (.int p5), .val (.int ra), .val (.int ry), .val (.int rl), .unset, .unset, .unset, .unset] []) _
  refine Go.of (fun tg_ kk_ => XS.iload X1.here hx rfl (hb hby at_22) rfl kk_) ?_
  show Go p e below T1 (mkF m 24 #[.val (.int p0), .val (.int p1), .val (.int p2), .val (.int p3), .val (.int p4), .val (.int p5), .val (.int ra), .val (.int ry), .val (.int rl), .unset, .unset, .unset, .unset] [(.int p5)]) _
  refine Go.of (fun tg_ kk_ => XS.iconst X1.here hx rfl (hb hby at_24) kk_) ?_
  show Go p e below T1 (mkF m 25 #[.val (.int p0), .val (.int p1), .val (.int p2), .val (.int p3), .val (.int p4), .val (.int p5), .val (.int ra), .val (.int ry), .val (.int rl), .unset, .unset, .unset, .unset] [(.int (1 : Int32)), (.int p5)]) _
  refine Go.of (fun tg_ kk_ => XS.iand X1.here hx rfl (hb hby at_25) rfl kk_) ?_
  show Go p e below T1 (mkF m 26 #[.val (.int p0), .val (.int p1), .val (.int p2), .val (.int p3), .val (.int p4), .val (.int p5), .val (.int ra), .val (.int ry), .val (.int rl), .unset, .unset, .unset, .unset] [(.int (p5 &&& (1 : Int32)))]) _
  have st2 : ∀ ag : Int32, ag = (if (p5 &&& (1 : Int32)) = (0 : Int32) then p3 else (ra + ((p3 &&& (3 : Int32)) - (2 : Int32)))) → ∀ t, Steps p.tables e below (T1.setTop (mkF m 41 #[.val (.int p0), .val (.int p1), .val (.int p2), .val (.int p3), .val (.int p4), .val (.int p5), .val (.int ra), .val (.int ry), .val (.int rl), .unset, .unset, .unset, .unset] [(.int ag)])) t → Steps p.tables e below (T1.setTop (mkF m 26 #[.val (.int p0), .val (.int p1), .val (.int p2), .val (.int p3), .val (.int p4), .val (.int p5), .val (.int ra), .val (.int ry), .val (.int rl), .unset, .unset, .unset, .unset] [(.int (p5 &&& (1 : Int32)))])) t := by
    intro ag qag tg_ kk_
    by_cases hc : (p5 &&& (1 : Int32)) = (0 : Int32)
    · rw [if_pos hc] at qag; rw [qag] at kk_
      show Steps p.tables e below (T1.setTop (mkF m 26 #[.val (.int p0), .val (.int p1), .val (.int p2), .val (.int p3), .val (.int p4), .val (.int p5), .val (.int ra), .val (.int ry), .val (.int rl), .unset, .unset, .unset, .unset] [(.int (p5 &&& (1 : Int32)))])) _
      refine XS.ifYes X1.here hx rfl (pc0 := 26) (pc' := 40) rfl (hb hby at_26) rfl ((if0 _ _).trans (teq hc).1) (by decide) (by decide) ?_
      show Steps p.tables e below (T1.setTop (mkF m 40 #[.val (.int p0), .val (.int p1), .val (.int p2), .val (.int p3), .val (.int p4), .val (.int p5), .val (.int ra), .val (.int ry), .val (.int rl), .unset, .unset, .unset, .unset] [])) _
      refine XS.iloadN X1.here hx rfl (hb hby at_40) rfl ?_
      show Steps p.tables e below (T1.setTop (mkF m 41 #[.val (.int p0), .val (.int p1), .val (.int p2), .val (.int p3), .val (.int p4), .val (.int p5), .val (.int ra), .val (.int ry), .val (.int rl), .unset, .unset, .unset, .unset] [(.int p3)])) _
      exact kk_
    · rw [if_neg hc] at qag; rw [qag] at kk_
      show Steps p.tables e below (T1.setTop (mkF m 26 #[.val (.int p0), .val (.int p1), .val (.int p2), .val (.int p3), .val (.int p4), .val (.int p5), .val (.int ra), .val (.int ry), .val (.int rl), .unset, .unset, .unset, .unset] [(.int (p5 &&& (1 : Int32)))])) _
      refine XS.ifNo X1.here hx rfl (hb hby at_26) rfl ((if0 _ _).trans (feq hc).1) ?_
      show Steps p.tables e below (T1.setTop (mkF m 29 #[.val (.int p0), .val (.int p1), .val (.int p2), .val (.int p3), .val (.int p4), .val (.int p5), .val (.int ra), .val (.int ry), .val (.int rl), .unset, .unset, .unset, .unset] [])) _
      refine XS.iload X1.here hx rfl (hb hby at_29) rfl ?_
      show Steps p.tables e below (T1.setTop (mkF m 31 #[.val (.int p0), .val (.int p1), .val (.int p2), .val (.int p3), .val (.int p4), .val (.int p5), .val (.int ra), .val (.int ry), .val (.int rl), .unset, .unset, .unset, .unset] [(.int ra)])) _
      refine XS.iloadN X1.here hx rfl (hb hby at_31) rfl ?_
      show Steps p.tables e below (T1.setTop (mkF m 32 #[.val (.int p0), .val (.int p1), .val (.int p2), .val (.int p3), .val (.int p4), .val (.int p5), .val (.int ra), .val (.int ry), .val (.int rl), .unset, .unset, .unset, .unset] [(.int p3), (.int ra)])) _
      refine XS.iconst X1.here hx rfl (hb hby at_32) ?_
      show Steps p.tables e below (T1.setTop (mkF m 33 #[.val (.int p0), .val (.int p1), .val (.int p2), .val (.int p3), .val (.int p4), .val (.int p5), .val (.int ra), .val (.int ry), .val (.int rl), .unset, .unset, .unset, .unset] [(.int (3 : Int32)), (.int p3), (.int ra)])) _
      refine XS.iand X1.here hx rfl (hb hby at_33) rfl ?_
      show Steps p.tables e below (T1.setTop (mkF m 34 #[.val (.int p0), .val (.int p1), .val (.int p2), .val (.int p3), .val (.int p4), .val (.int p5), .val (.int ra), .val (.int ry), .val (.int rl), .unset, .unset, .unset, .unset] [(.int (p3 &&& (3 : Int32))), (.int ra)])) _
      refine XS.iconst X1.here hx rfl (hb hby at_34) ?_
      show Steps p.tables e below (T1.setTop (mkF m 35 #[.val (.int p0), .val (.int p1), .val (.int p2), .val (.int p3), .val (.int p4), .val (.int p5), .val (.int ra), .val (.int ry), .val (.int rl), .unset, .unset, .unset, .unset] [(.int (2 : Int32)), (.int (p3 &&& (3 : Int32))), (.int ra)])) _
      refine XS.isub X1.here hx rfl (hb hby at_35) rfl ?_
      show Steps p.tables e below (T1.setTop (mkF m 36 #[.val (.int p0), .val (.int p1), .val (.int p2), .val (.int p3), .val (.int p4), .val (.int p5), .val (.int ra), .val (.int ry), .val (.int rl), .unset, .unset, .unset, .unset] [(.int ((p3 &&& (3 : Int32)) - (2 : Int32))), (.int ra)])) _
      refine XS.iadd X1.here hx rfl (hb hby at_36) rfl ?_
      show Steps p.tables e below (T1.setTop (mkF m 37 #[.val (.int p0), .val (.int p1), .val (.int p2), .val (.int p3), .val (.int p4), .val (.int p5), .val (.int ra), .val (.int ry), .val (.int rl), .unset, .unset, .unset, .unset] [(.int (ra + ((p3 &&& (3 : Int32)) - (2 : Int32))))])) _
      refine XS.goto X1.here hx rfl (pc0 := 37) (pc' := 41) rfl (hb hby at_37) (by decide) (by decide) ?_
      show Steps p.tables e below (T1.setTop (mkF m 41 #[.val (.int p0), .val (.int p1), .val (.int p2), .val (.int p3), .val (.int p4), .val (.int p5), .val (.int ra), .val (.int ry), .val (.int rl), .unset, .unset, .unset, .unset] [(.int (ra + ((p3 &&& (3 : Int32)) - (2 : Int32))))])) _
      exact kk_
  obtain ⟨ag, qag⟩ : ∃ z : Int32, z = (if (p5 &&& (1 : Int32)) = (0 : Int32) then p3 else (ra + ((p3 &&& (3 : Int32)) - (2 : Int32)))) := ⟨_, rfl⟩
  refine Go.of (st2 ag qag) ?_
  show Go p e below T1 (mkF m 41 #[.val (.int p0), .val (.int p1), .val (.int p2), .val (.int p3), .val (.int p4), .val (.int p5), .val (.int ra), .val (.int ry), .val (.int rl), .unset, .unset, .unset, .unset] [(.int ag)]) _
  refine Go.of (fun tg_ kk_ => XS.istore X1.here hx rfl (hb hby at_41) rfl (l' := #[.val (.int p0), .val (.int p1), .val (.int p2), .val (.int p3), .val (.int p4), .val (.int p5), .val (.int ra), .val (.int ry), .val (.int rl), .val (.int ag), .unset, .unset, .unset]) rfl kk_) ?_
  show Go p e below T1 (mkF m 43 #[.val (.int p0), .val (.int p1), .val (.int p2), .val (.int p3), .val (.int p4), .val (.int p5), .val (.int ra), .val (.int ry), .val (.int rl), .val (.int ag), .unset, .unset, .unset] []) _
  refine Go.of (fun tg_ kk_ => XS.iload X1.here hx rfl (hb hby at_43) rfl kk_) ?_
  show Go p e below T1 (mkF m 45 #[.val (.int p0), .val (.int p1), .val (.int p2), .val (.int p3), .val (.int p4), .val (.int p5), .val (.int ra), .val (.int ry), .val (.int rl), .val (.int ag), .unset, .unset, .unset] [(.int p5)]) _
  refine Go.of (fun tg_ kk_ => XS.iconst X1.here hx rfl (hb hby at_45) kk_) ?_
  show Go p e below T1 (mkF m 46 #[.val (.int p0), .val (.int p1), .val (.int p2), .val (.int p3), .val (.int p4), .val (.int p5), .val (.int ra), .val (.int ry), .val (.int rl), .val (.int ag), .unset, .unset, .unset] [(.int (2 : Int32)), (.int p5)]) _
  refine Go.of (fun tg_ kk_ => XS.iand X1.here hx rfl (hb hby at_46) rfl kk_) ?_
  show Go p e below T1 (mkF m 47 #[.val (.int p0), .val (.int p1), .val (.int p2), .val (.int p3), .val (.int p4), .val (.int p5), .val (.int ra), .val (.int ry), .val (.int rl), .val (.int ag), .unset, .unset, .unset] [(.int (p5 &&& (2 : Int32)))]) _
  have st3 : ∀ yr : Int32, yr = (if (p5 &&& (2 : Int32)) = (0 : Int32) then p4 else (ry + ((p4 &&& (3 : Int32)) - (2 : Int32)))) → ∀ t, Steps p.tables e below (T1.setTop (mkF m 64 #[.val (.int p0), .val (.int p1), .val (.int p2), .val (.int p3), .val (.int p4), .val (.int p5), .val (.int ra), .val (.int ry), .val (.int rl), .val (.int ag), .unset, .unset, .unset] [(.int yr)])) t → Steps p.tables e below (T1.setTop (mkF m 47 #[.val (.int p0), .val (.int p1), .val (.int p2), .val (.int p3), .val (.int p4), .val (.int p5), .val (.int ra), .val (.int ry), .val (.int rl), .val (.int ag), .unset, .unset, .unset] [(.int (p5 &&& (2 : Int32)))])) t := by
    intro yr qyr tg_ kk_
    by_cases hc : (p5 &&& (2 : Int32)) = (0 : Int32)
    · rw [if_pos hc] at qyr; rw [qyr] at kk_
      show Steps p.tables e below (T1.setTop (mkF m 47 #[.val (.int p0), .val (.int p1), .val (.int p2), .val (.int p3), .val (.int p4), .val (.int p5), .val (.int ra), .val (.int ry), .val (.int rl), .val (.int ag), .unset, .unset, .unset] [(.int (p5 &&& (2 : Int32)))])) _
      refine XS.ifYes X1.here hx rfl (pc0 := 47) (pc' := 62) rfl (hb hby at_47) rfl ((if0 _ _).trans (teq hc).1) (by decide) (by decide) ?_
      show Steps p.tables e below (T1.setTop (mkF m 62 #[.val (.int p0), .val (.int p1), .val (.int p2), .val (.int p3), .val (.int p4), .val (.int p5), .val (.int ra), .val (.int ry), .val (.int rl), .val (.int ag), .unset, .unset, .unset] [])) _
      refine XS.iload X1.here hx rfl (hb hby at_62) rfl ?_
      show Steps p.tables e below (T1.setTop (mkF m 64 #[.val (.int p0), .val (.int p1), .val (.int p2), .val (.int p3), .val (.int p4), .val (.int p5), .val (.int ra), .val (.int ry), .val (.int rl), .val (.int ag), .unset, .unset, .unset] [(.int p4)])) _
      exact kk_
    · rw [if_neg hc] at qyr; rw [qyr] at kk_
      show Steps p.tables e below (T1.setTop (mkF m 47 #[.val (.int p0), .val (.int p1), .val (.int p2), .val (.int p3), .val (.int p4), .val (.int p5), .val (.int ra), .val (.int ry), .val (.int rl), .val (.int ag), .unset, .unset, .unset] [(.int (p5 &&& (2 : Int32)))])) _
      refine XS.ifNo X1.here hx rfl (hb hby at_47) rfl ((if0 _ _).trans (feq hc).1) ?_
      show Steps p.tables e below (T1.setTop (mkF m 50 #[.val (.int p0), .val (.int p1), .val (.int p2), .val (.int p3), .val (.int p4), .val (.int p5), .val (.int ra), .val (.int ry), .val (.int rl), .val (.int ag), .unset, .unset, .unset] [])) _
      refine XS.iload X1.here hx rfl (hb hby at_50) rfl ?_
      show Steps p.tables e below (T1.setTop (mkF m 52 #[.val (.int p0), .val (.int p1), .val (.int p2), .val (.int p3), .val (.int p4), .val (.int p5), .val (.int ra), .val (.int ry), .val (.int rl), .val (.int ag), .unset, .unset, .unset] [(.int ry)])) _
      refine XS.iload X1.here hx rfl (hb hby at_52) rfl ?_
      show Steps p.tables e below (T1.setTop (mkF m 54 #[.val (.int p0), .val (.int p1), .val (.int p2), .val (.int p3), .val (.int p4), .val (.int p5), .val (.int ra), .val (.int ry), .val (.int rl), .val (.int ag), .unset, .unset, .unset] [(.int p4), (.int ry)])) _
      refine XS.iconst X1.here hx rfl (hb hby at_54) ?_
      show Steps p.tables e below (T1.setTop (mkF m 55 #[.val (.int p0), .val (.int p1), .val (.int p2), .val (.int p3), .val (.int p4), .val (.int p5), .val (.int ra), .val (.int ry), .val (.int rl), .val (.int ag), .unset, .unset, .unset] [(.int (3 : Int32)), (.int p4), (.int ry)])) _
      refine XS.iand X1.here hx rfl (hb hby at_55) rfl ?_
      show Steps p.tables e below (T1.setTop (mkF m 56 #[.val (.int p0), .val (.int p1), .val (.int p2), .val (.int p3), .val (.int p4), .val (.int p5), .val (.int ra), .val (.int ry), .val (.int rl), .val (.int ag), .unset, .unset, .unset] [(.int (p4 &&& (3 : Int32))), (.int ry)])) _
      refine XS.iconst X1.here hx rfl (hb hby at_56) ?_
      show Steps p.tables e below (T1.setTop (mkF m 57 #[.val (.int p0), .val (.int p1), .val (.int p2), .val (.int p3), .val (.int p4), .val (.int p5), .val (.int ra), .val (.int ry), .val (.int rl), .val (.int ag), .unset, .unset, .unset] [(.int (2 : Int32)), (.int (p4 &&& (3 : Int32))), (.int ry)])) _
      refine XS.isub X1.here hx rfl (hb hby at_57) rfl ?_
      show Steps p.tables e below (T1.setTop (mkF m 58 #[.val (.int p0), .val (.int p1), .val (.int p2), .val (.int p3), .val (.int p4), .val (.int p5), .val (.int ra), .val (.int ry), .val (.int rl), .val (.int ag), .unset, .unset, .unset] [(.int ((p4 &&& (3 : Int32)) - (2 : Int32))), (.int ry)])) _
      refine XS.iadd X1.here hx rfl (hb hby at_58) rfl ?_
      show Steps p.tables e below (T1.setTop (mkF m 59 #[.val (.int p0), .val (.int p1), .val (.int p2), .val (.int p3), .val (.int p4), .val (.int p5), .val (.int ra), .val (.int ry), .val (.int rl), .val (.int ag), .unset, .unset, .unset] [(.int (ry + ((p4 &&& (3 : Int32)) - (2 : Int32))))])) _
      refine XS.goto X1.here hx rfl (pc0 := 59) (pc' := 64) rfl (hb hby at_59) (by decide) (by decide) ?_
      show Steps p.tables e below (T1.setTop (mkF m 64 #[.val (.int p0), .val (.int p1), .val (.int p2), .val (.int p3), .val (.int p4), .val (.int p5), .val (.int ra), .val (.int ry), .val (.int rl), .val (.int ag), .unset, .unset, .unset] [(.int (ry + ((p4 &&& (3 : Int32)) - (2 : Int32))))])) _
      exact kk_
  obtain ⟨yr, qyr⟩ : ∃ z : Int32, z = (if (p5 &&& (2 : Int32)) = (0 : Int32) then p4 else (ry + ((p4 &&& (3 : Int32)) - (2 : Int32)))) := ⟨_, rfl⟩
  refine Go.of (st3 yr qyr) ?_
  show Go p e below T1 (mkF m 64 #[.val (.int p0), .val (.int p1), .val (.int p2), .val (.int p3), .val (.int p4), .val (.int p5), .val (.int ra), .val (.int ry), .val (.int rl), .val (.int ag), .unset, .unset, .unset] [(.int yr)]) _
  refine Go.of (fun tg_ kk_ => XS.istore X1.here hx rfl (hb hby at_64) rfl (l' := #[.val (.int p0), .val (.int p1), .val (.int p2), .val (.int p3), .val (.int p4), .val (.int p5), .val (.int ra), .val (.int ry), .val (.int rl), .val (.int ag), .val (.int yr), .unset, .unset]) rfl kk_) ?_
  show Go p e below T1 (mkF m 66 #[.val (.int p0), .val (.int p1), .val (.int p2), .val (.int p3), .val (.int p4), .val (.int p5), .val (.int ra), .val (.int ry), .val (.int rl), .val (.int ag), .val (.int yr), .unset, .unset] []) _
  have hage : (0 : Int32) < ra := by rw [qra]; exact own_pos p0
  have hyrs : ¬ (ry < 0) := by rw [qry]; exact own_mask p1
  have hlin : ¬ (rl < 0) := by rw [qrl]; exact own_mask p2
  obtain ⟨T4, h4, X4, e4, E4, A4, D4, -, st4⟩ := newO X1 hx hZ hown (hw _ (List.mem_of_getElem? (i := 5) rfl)) (hw _ (List.mem_of_getElem? (i := 6) rfl)) (hw _ (List.mem_of_getElem? (i := 7) rfl)) e1 (g := (mkF m 66 #[.val (.int p0), .val (.int p1), .val (.int p2), .val (.int p3), .val (.int p4), .val (.int p5), .val (.int ra), .val (.int ry), .val (.int rl), .val (.int ag), .val (.int yr), .unset, .unset] [])) rfl (hb hby at_66) (by decide) (by decide)
  obtain ⟨b4, g4⟩ : ∃ z, z = h0.size := ⟨_, rfl⟩
  rw [← g4] at A4 D4 st4
  have gx4 : n0 ≤ b4 := Nat.le_trans Z0 (Nat.le_of_eq g4.symm)
  have sz4 : h0.size ≤ b4 := Nat.le_trans K0.1 (Nat.le_of_eq g4.symm)
  have K5 := K0.ext E4
  have Zs6 : n0 ≤ h4.size := Nat.le_trans Z0 E4.1
  have F7 : Fld Z h4 b4 "com/example/vestline/vestline/model/FullVesting$RetirementAge" "age" "I" (.int (0 : Int32)) := D4 (Or.inr (hw _ (List.mem_of_getElem? (i := 24) rfl))) (ty := .int) (by decide)
  have F8 : Fld Z h4 b4 "com/example/vestline/vestline/model/FullVesting$RetirementAge" "years" "I" (.int (0 : Int32)) := D4 (Or.inr (hw _ (List.mem_of_getElem? (i := 26) rfl))) (ty := .int) (by decide)
  have F9 : Fld Z h4 b4 "com/example/vestline/vestline/model/FullVesting$RetirementAge" "line" "I" (.int (0 : Int32)) := D4 (Or.inr (hw _ (List.mem_of_getElem? (i := 28) rfl))) (ty := .int) (by decide)
  refine Go.of (st4) ?_
  show Go p e below T4 (mkF m 69 #[.val (.int p0), .val (.int p1), .val (.int p2), .val (.int p3), .val (.int p4), .val (.int p5), .val (.int ra), .val (.int ry), .val (.int rl), .val (.int ag), .val (.int yr), .unset, .unset] [(.ref b4)]) _
  refine Go.of (fun tg_ kk_ => XS.dup X4.here hx rfl (hb hby at_69) rfl rfl kk_) ?_
  show Go p e below T4 (mkF m 70 #[.val (.int p0), .val (.int p1), .val (.int p2), .val (.int p3), .val (.int p4), .val (.int p5), .val (.int ra), .val (.int ry), .val (.int rl), .val (.int ag), .val (.int yr), .unset, .unset] [(.ref b4), (.ref b4)]) _
  refine Go.of (fun tg_ kk_ => XS.iload X4.here hx rfl (hb hby at_70) rfl kk_) ?_
  show Go p e below T4 (mkF m 72 #[.val (.int p0), .val (.int p1), .val (.int p2), .val (.int p3), .val (.int p4), .val (.int p5), .val (.int ra), .val (.int ry), .val (.int rl), .val (.int ag), .val (.int yr), .unset, .unset] [(.int ra), (.ref b4), (.ref b4)]) _
  refine Go.of (fun tg_ kk_ => XS.iload X4.here hx rfl (hb hby at_72) rfl kk_) ?_
  show Go p e below T4 (mkF m 74 #[.val (.int p0), .val (.int p1), .val (.int p2), .val (.int p3), .val (.int p4), .val (.int p5), .val (.int ra), .val (.int ry), .val (.int rl), .val (.int ag), .val (.int yr), .unset, .unset] [(.int ry), (.int ra), (.ref b4), (.ref b4)]) _
  refine Go.of (fun tg_ kk_ => XS.iload X4.here hx rfl (hb hby at_74) rfl kk_) ?_
  show Go p e below T4 (mkF m 76 #[.val (.int p0), .val (.int p1), .val (.int p2), .val (.int p3), .val (.int p4), .val (.int p5), .val (.int ra), .val (.int ry), .val (.int rl), .val (.int ag), .val (.int yr), .unset, .unset] [(.int rl), (.int ry), (.int ra), (.ref b4), (.ref b4)]) _
  obtain ⟨_, _, ⟨T10, L10, k10, n10⟩, -, X10, ⟨Lc10, hQ10, l10, y10, z10⟩, st10⟩ := X4.specialBack hx (y := (⟨"com/example/vestline/vestline/model/FullVesting$RetirementAge", "<init>", "(III)V"⟩ : MethodName)) rfl hown (mvT hZ (hw _ (List.mem_of_getElem? (i := 8) rfl))) (mvT hZ (hw _ (List.mem_of_getElem? (i := 9) rfl))) (mvT hZ (hw _ (List.mem_of_getElem? (i := 10) rfl))) (by decide) (backOf (W := 1) (rm2 l Z a0 hw [] b4 ra ry rl h4 n0 Zs6 hage hyrs hlin gx4 A4 F7 F8 F9) hZ (hw _ (List.mem_of_getElem? (i := 10) rfl)) (hw _ (List.mem_of_getElem? (i := 7) rfl)) (by decide) (by decide)) (g := (mkF m 76 #[.val (.int p0), .val (.int p1), .val (.int p2), .val (.int p3), .val (.int p4), .val (.int p5), .val (.int ra), .val (.int ry), .val (.int rl), .val (.int ag), .val (.int yr), .unset, .unset] [(.int rl), (.int ry), (.int ra), (.ref b4), (.ref b4)])) rfl (by rw [hml]; rfl) (Steps.refl _) (a := b4) (argsL := [(.int ra), (.int ry), (.int rl)]) (rest := [(.ref b4)]) (lenOf pd_3 rfl) rfl (by show 2 * 0 + _ ≤ _; exact Nat.le_of_eq rfl) (hb hby at_76) (fun _ _ => ⟨rfl, e4, (by decide : 1 + 0 ≤ _), (by decide : 3 + 0 ≤ _)⟩)
  dsimp only [Pt.U, Pt.locs, Pt.cells, Pt.slots] at X10 l10 y10 z10 st10 hQ10
  subst l10 y10 z10
  obtain ⟨rfl, N10q, K10q, F10a, F10y⟩ := hQ10
  have N10 := Fr.app N1 N10q
  have F11 := A4.keep K10q
  have K15 := K5.trans K10q (allS (Or.inr sz4) all0)
  have Zs16 : n0 ≤ T10.heap.size := Nat.le_trans Zs6 K10q.1
  refine Go.of (fun tg_ kk_ => st10.trans kk_) ?_
  show Go p e below T10 (mkF m 79 #[.val (.int p0), .val (.int p1), .val (.int p2), .val (.int p3), .val (.int p4), .val (.int p5), .val (.int ra), .val (.int ry), .val (.int rl), .val (.int ag), .val (.int yr), .unset, .unset] [(.ref b4)]) _
  refine Go.of (fun tg_ kk_ => XS.astore X10.here hx rfl (hb hby at_79) rfl rfl (l' := #[.val (.int p0), .val (.int p1), .val (.int p2), .val (.int p3), .val (.int p4), .val (.int p5), .val (.int ra), .val (.int ry), .val (.int rl), .val (.int ag), .val (.int yr), .val (.ref b4), .unset]) rfl kk_) ?_
  show Go p e below T10 (mkF m 81 #[.val (.int p0), .val (.int p1), .val (.int p2), .val (.int p3), .val (.int p4), .val (.int p5), .val (.int ra), .val (.int ry), .val (.int rl), .val (.int ag), .val (.int yr), .val (.ref b4), .unset] []) _
  refine Go.of (fun tg_ kk_ => XS.iload X10.here hx rfl (hb hby at_81) rfl kk_) ?_
  show Go p e below T10 (mkF m 83 #[.val (.int p0), .val (.int p1), .val (.int p2), .val (.int p3), .val (.int p4), .val (.int p5), .val (.int ra), .val (.int ry), .val (.int rl), .val (.int ag), .val (.int yr), .val (.ref b4), .unset] [(.int ag)]) _
  refine Go.of (fun tg_ kk_ => XS.iload X10.here hx rfl (hb hby at_83) rfl kk_) ?_
  show Go p e below T10 (mkF m 85 #[.val (.int p0), .val (.int p1), .val (.int p2), .val (.int p3), .val (.int p4), .val (.int p5), .val (.int ra), .val (.int ry), .val (.int rl), .val (.int ag), .val (.int yr), .val (.ref b4), .unset] [(.int ra), (.int ag)]) _
  by_cases h1 : ag < ra
  · skip
    refine Go.of (fun tg_ kk_ => XS.icmpNo X10.here hx rfl (hb hby at_85) rfl (tlt h1).2.1 kk_) ?_
    show Go p e below T10 (mkF m 88 #[.val (.int p0), .val (.int p1), .val (.int p2), .val (.int p3), .val (.int p4), .val (.int p5), .val (.int ra), .val (.int ry), .val (.int rl), .val (.int ag), .val (.int yr), .val (.ref b4), .unset] []) _
    refine Go.of (fun tg_ kk_ => XS.iconst X10.here hx rfl (hb hby at_88) kk_) ?_
    show Go p e below T10 (mkF m 89 #[.val (.int p0), .val (.int p1), .val (.int p2), .val (.int p3), .val (.int p4), .val (.int p5), .val (.int ra), .val (.int ry), .val (.int rl), .val (.int ag), .val (.int yr), .val (.ref b4), .unset] [(.int (0 : Int32))]) _
    refine Go.of (fun tg_ kk_ => XS.istore X10.here hx rfl (hb hby at_89) rfl (l' := #[.val (.int p0), .val (.int p1), .val (.int p2), .val (.int p3), .val (.int p4), .val (.int p5), .val (.int ra), .val (.int ry), .val (.int rl), .val (.int ag), .val (.int yr), .val (.ref b4), .val (.int (0 : Int32))]) rfl kk_) ?_
    show Go p e below T10 (mkF m 91 #[.val (.int p0), .val (.int p1), .val (.int p2), .val (.int p3), .val (.int p4), .val (.int p5), .val (.int ra), .val (.int ry), .val (.int rl), .val (.int ag), .val (.int yr), .val (.ref b4), .val (.int (0 : Int32))] []) _
    refine Go.of (fun tg_ kk_ => XS.goto X10.here hx rfl (pc0 := 91) (pc' := 110) rfl (hb hby at_91) (by decide) (by decide) kk_) ?_
    show Go p e below T10 (mkF m 110 #[.val (.int p0), .val (.int p1), .val (.int p2), .val (.int p3), .val (.int p4), .val (.int p5), .val (.int ra), .val (.int ry), .val (.int rl), .val (.int ag), .val (.int yr), .val (.ref b4), .val (.int (0 : Int32))] []) _
    refine Go.of (fun tg_ kk_ => XS.aload X10.here hx rfl (hb hby at_110) rfl rfl kk_) ?_
    show Go p e below T10 (mkF m 112 #[.val (.int p0), .val (.int p1), .val (.int p2), .val (.int p3), .val (.int p4), .val (.int p5), .val (.int ra), .val (.int ry), .val (.int rl), .val (.int ag), .val (.int yr), .val (.ref b4), .val (.int (0 : Int32))] [(.ref b4)]) _
    refine Go.of (fun tg_ kk_ => XS.iload X10.here hx rfl (hb hby at_112) rfl kk_) ?_
    show Go p e below T10 (mkF m 114 #[.val (.int p0), .val (.int p1), .val (.int p2), .val (.int p3), .val (.int p4), .val (.int p5), .val (.int ra), .val (.int ry), .val (.int rl), .val (.int ag), .val (.int yr), .val (.ref b4), .val (.int (0 : Int32))] [(.int ag), (.ref b4)]) _
    refine Go.of (fun tg_ kk_ => XS.iload X10.here hx rfl (hb hby at_114) rfl kk_) ?_
    show Go p e below T10 (mkF m 116 #[.val (.int p0), .val (.int p1), .val (.int p2), .val (.int p3), .val (.int p4), .val (.int p5), .val (.int ra), .val (.int ry), .val (.int rl), .val (.int ag), .val (.int yr), .val (.ref b4), .val (.int (0 : Int32))] [(.int yr), (.int ag), (.ref b4)]) _
    obtain ⟨cq17, kq17, q17a, q17b, q17c⟩ := isOf hZ rfl F11
    obtain ⟨_, _, ⟨T17, L17, k17, n17⟩, -, X17, ⟨Lc17, hQ17, l17, y17, z17⟩, st17⟩ := X10.virtualBack hx (y := (⟨"com/example/vestline/vestline/model/FullVesting$RetirementAge", "reachedBy", "(II)Z"⟩ : MethodName)) (z := (⟨"com/example/vestline/vestline/model/FullVesting$RetirementAge", "reachedBy", "(II)Z"⟩ : MethodName)) hown (mvT hZ (hw _ (List.mem_of_getElem? (i := 29) rfl))) (mvT hZ (hw _ (List.mem_of_getElem? (i := 30) rfl))) (notFace_of_selects (args := #[]) (mvT hZ (hw _ (List.mem_of_getElem? (i := 32) rfl)))) (mvT hZ (hw _ (List.mem_of_getElem? (i := 32) rfl))) (mvT hZ (hw _ (List.mem_of_getElem? (i := 31) rfl))) (by decide) (backOf (W := 0) (rm6 l Z a0 hw [] b4 ag yr ra ry T10.heap n0 Zs16 F10a F10y) hZ (hw _ (List.mem_of_getElem? (i := 33) rfl)) (hw _ (List.mem_of_getElem? (i := 7) rfl)) (by decide) (by decide)) q17a q17c (g := (mkF m 116 #[.val (.int p0), .val (.int p1), .val (.int p2), .val (.int p3), .val (.int p4), .val (.int p5), .val (.int ra), .val (.int ry), .val (.int rl), .val (.int ag), .val (.int yr), .val (.ref b4), .val (.int (0 : Int32))] [(.int yr), (.int ag), (.ref b4)])) rfl (by rw [hml]; rfl) (Steps.refl _) (argsL := [(.int ag), (.int yr)]) (rest := []) (lenOf pd_4 rfl) rfl (by show 2 * 0 + _ ≤ _; exact Nat.le_of_eq rfl) (hb hby at_116) (fun _ _ => ⟨rfl, rfl, (by decide : 1 + 0 ≤ _), (by decide : 3 + 0 ≤ _)⟩)
    dsimp only [Pt.U, Pt.locs, Pt.cells, Pt.slots] at X17 l17 y17 z17 st17 hQ17
    subst l17 y17 z17
    obtain ⟨rfl, N17q, e17⟩ := hQ17
    have N17 := Fr.app N10 N17q
    refine Go.of (fun tg_ kk_ => st17.trans kk_) ?_
    show Go p e below T17 (mkF m 119 #[.val (.int p0), .val (.int p1), .val (.int p2), .val (.int p3), .val (.int p4), .val (.int p5), .val (.int ra), .val (.int ry), .val (.int rl), .val (.int ag), .val (.int yr), .val (.ref b4), .val (.int (0 : Int32))] [(.int (if ag < ra then (0 : Int32) else if yr < ry then (0 : Int32) else (1 : Int32)))]) _
    refine Go.of (fun tg_ kk_ => XS.iload X17.here hx rfl (hb hby at_119) rfl kk_) ?_
    show Go p e below T17 (mkF m 121 #[.val (.int p0), .val (.int p1), .val (.int p2), .val (.int p3), .val (.int p4), .val (.int p5), .val (.int ra), .val (.int ry), .val (.int rl), .val (.int ag), .val (.int yr), .val (.ref b4), .val (.int (0 : Int32))] [(.int (0 : Int32)), (.int (if ag < ra then (0 : Int32) else if yr < ry then (0 : Int32) else (1 : Int32)))]) _
    refine Go.of (fun tg_ kk_ => XS.icmpNo X17.here hx rfl (hb hby at_121) rfl (teq (show (if ag < ra then (0 : Int32) else if yr < ry then (0 : Int32) else (1 : Int32)) = (0 : Int32) from (by simp [h1]))).2 kk_) ?_
    show Go p e below T17 (mkF m 124 #[.val (.int p0), .val (.int p1), .val (.int p2), .val (.int p3), .val (.int p4), .val (.int p5), .val (.int ra), .val (.int ry), .val (.int rl), .val (.int ag), .val (.int yr), .val (.ref b4), .val (.int (0 : Int32))] []) _
    refine Go.of (fun tg_ kk_ => XS.iconst X17.here hx rfl (hb hby at_124) kk_) ?_
    show Go p e below T17 (mkF m 125 #[.val (.int p0), .val (.int p1), .val (.int p2), .val (.int p3), .val (.int p4), .val (.int p5), .val (.int ra), .val (.int ry), .val (.int rl), .val (.int ag), .val (.int yr), .val (.ref b4), .val (.int (0 : Int32))] [(.int (1 : Int32))]) _
    refine Go.of (fun tg_ kk_ => XS.goto X17.here hx rfl (pc0 := 125) (pc' := 129) rfl (hb hby at_125) (by decide) (by decide) kk_) ?_
    show Go p e below T17 (mkF m 129 #[.val (.int p0), .val (.int p1), .val (.int p2), .val (.int p3), .val (.int p4), .val (.int p5), .val (.int ra), .val (.int ry), .val (.int rl), .val (.int ag), .val (.int yr), .val (.ref b4), .val (.int (0 : Int32))] [(.int (1 : Int32))]) _
    obtain ⟨fs, hr, hrun, hended, hW, hsame⟩ := X17.leave (v := some (.int (1 : Int32))) (fun h => by rw [Bd.returns] at h; cases h)
    refine ⟨_, _, ?_, hrun, hended, _, _, rfl, ?_, ⟨_, rfl⟩, hW, hsame.mono (by decide) (by decide)⟩
    · exact retN X17 hx (t := .boolean) Bd.returns (by simp) (hb hby at_129) hr
    · show Q0 Z p0 p1 p2 p3 p4 p5 h0 n0 _ T17.heap _
      rw [e17]
      exact ⟨rfl, N17⟩
  · skip
    refine Go.of (fun tg_ kk_ => XS.icmpYes X10.here hx rfl (pc0 := 85) (pc' := 94) rfl (hb hby at_85) rfl (flt h1).2.1 (by decide) (by decide) kk_) ?_
    show Go p e below T10 (mkF m 94 #[.val (.int p0), .val (.int p1), .val (.int p2), .val (.int p3), .val (.int p4), .val (.int p5), .val (.int ra), .val (.int ry), .val (.int rl), .val (.int ag), .val (.int yr), .val (.ref b4), .unset] []) _
    refine Go.of (fun tg_ kk_ => XS.iload X10.here hx rfl (hb hby at_94) rfl kk_) ?_
    show Go p e below T10 (mkF m 96 #[.val (.int p0), .val (.int p1), .val (.int p2), .val (.int p3), .val (.int p4), .val (.int p5), .val (.int ra), .val (.int ry), .val (.int rl), .val (.int ag), .val (.int yr), .val (.ref b4), .unset] [(.int yr)]) _
    refine Go.of (fun tg_ kk_ => XS.iload X10.here hx rfl (hb hby at_96) rfl kk_) ?_
    show Go p e below T10 (mkF m 98 #[.val (.int p0), .val (.int p1), .val (.int p2), .val (.int p3), .val (.int p4), .val (.int p5), .val (.int ra), .val (.int ry), .val (.int rl), .val (.int ag), .val (.int yr), .val (.ref b4), .unset] [(.int ry), (.int yr)]) _
    by_cases h2 : yr < ry
    · skip
      refine Go.of (fun tg_ kk_ => XS.icmpNo X10.here hx rfl (hb hby at_98) rfl (tlt h2).2.1 kk_) ?_
      show Go p e below T10 (mkF m 101 #[.val (.int p0), .val (.int p1), .val (.int p2), .val (.int p3), .val (.int p4), .val (.int p5), .val (.int ra), .val (.int ry), .val (.int rl), .val (.int ag), .val (.int yr), .val (.ref b4), .unset] []) _
      refine Go.of (fun tg_ kk_ => XS.iconst X10.here hx rfl (hb hby at_101) kk_) ?_
      show Go p e below T10 (mkF m 102 #[.val (.int p0), .val (.int p1), .val (.int p2), .val (.int p3), .val (.int p4), .val (.int p5), .val (.int ra), .val (.int ry), .val (.int rl), .val (.int ag), .val (.int yr), .val (.ref b4), .unset] [(.int (0 : Int32))]) _
      refine Go.of (fun tg_ kk_ => XS.istore X10.here hx rfl (hb hby at_102) rfl (l' := #[.val (.int p0), .val (.int p1), .val (.int p2), .val (.int p3), .val (.int p4), .val (.int p5), .val (.int ra), .val (.int ry), .val (.int rl), .val (.int ag), .val (.int yr), .val (.ref b4), .val (.int (0 : Int32))]) rfl kk_) ?_
      show Go p e below T10 (mkF m 104 #[.val (.int p0), .val (.int p1), .val (.int p2), .val (.int p3), .val (.int p4), .val (.int p5), .val (.int ra), .val (.int ry), .val (.int rl), .val (.int ag), .val (.int yr), .val (.ref b4), .val (.int (0 : Int32))] []) _
      refine Go.of (fun tg_ kk_ => XS.goto X10.here hx rfl (pc0 := 104) (pc' := 110) rfl (hb hby at_104) (by decide) (by decide) kk_) ?_
      show Go p e below T10 (mkF m 110 #[.val (.int p0), .val (.int p1), .val (.int p2), .val (.int p3), .val (.int p4), .val (.int p5), .val (.int ra), .val (.int ry), .val (.int rl), .val (.int ag), .val (.int yr), .val (.ref b4), .val (.int (0 : Int32))] []) _
      refine Go.of (fun tg_ kk_ => XS.aload X10.here hx rfl (hb hby at_110) rfl rfl kk_) ?_
      show Go p e below T10 (mkF m 112 #[.val (.int p0), .val (.int p1), .val (.int p2), .val (.int p3), .val (.int p4), .val (.int p5), .val (.int ra), .val (.int ry), .val (.int rl), .val (.int ag), .val (.int yr), .val (.ref b4), .val (.int (0 : Int32))] [(.ref b4)]) _
      refine Go.of (fun tg_ kk_ => XS.iload X10.here hx rfl (hb hby at_112) rfl kk_) ?_
      show Go p e below T10 (mkF m 114 #[.val (.int p0), .val (.int p1), .val (.int p2), .val (.int p3), .val (.int p4), .val (.int p5), .val (.int ra), .val (.int ry), .val (.int rl), .val (.int ag), .val (.int yr), .val (.ref b4), .val (.int (0 : Int32))] [(.int ag), (.ref b4)]) _
      refine Go.of (fun tg_ kk_ => XS.iload X10.here hx rfl (hb hby at_114) rfl kk_) ?_
      show Go p e below T10 (mkF m 116 #[.val (.int p0), .val (.int p1), .val (.int p2), .val (.int p3), .val (.int p4), .val (.int p5), .val (.int ra), .val (.int ry), .val (.int rl), .val (.int ag), .val (.int yr), .val (.ref b4), .val (.int (0 : Int32))] [(.int yr), (.int ag), (.ref b4)]) _
      obtain ⟨cq18, kq18, q18a, q18b, q18c⟩ := isOf hZ rfl F11
      obtain ⟨_, _, ⟨T18, L18, k18, n18⟩, -, X18, ⟨Lc18, hQ18, l18, y18, z18⟩, st18⟩ := X10.virtualBack hx (y := (⟨"com/example/vestline/vestline/model/FullVesting$RetirementAge", "reachedBy", "(II)Z"⟩ : MethodName)) (z := (⟨"com/example/vestline/vestline/model/FullVesting$RetirementAge", "reachedBy", "(II)Z"⟩ : MethodName)) hown (mvT hZ (hw _ (List.mem_of_getElem? (i := 29) rfl))) (mvT hZ (hw _ (List.mem_of_getElem? (i := 30) rfl))) (notFace_of_selects (args := #[]) (mvT hZ (hw _ (List.mem_of_getElem? (i := 32) rfl)))) (mvT hZ (hw _ (List.mem_of_getElem? (i := 32) rfl))) (mvT hZ (hw _ (List.mem_of_getElem? (i := 31) rfl))) (by decide) (backOf (W := 0) (rm6 l Z a0 hw [] b4 ag yr ra ry T10.heap n0 Zs16 F10a F10y) hZ (hw _ (List.mem_of_getElem? (i := 33) rfl)) (hw _ (List.mem_of_getElem? (i := 7) rfl)) (by decide) (by decide)) q18a q18c (g := (mkF m 116 #[.val (.int p0), .val (.int p1), .val (.int p2), .val (.int p3), .val (.int p4), .val (.int p5), .val (.int ra), .val (.int ry), .val (.int rl), .val (.int ag), .val (.int yr), .val (.ref b4), .val (.int (0 : Int32))] [(.int yr), (.int ag), (.ref b4)])) rfl (by rw [hml]; rfl) (Steps.refl _) (argsL := [(.int ag), (.int yr)]) (rest := []) (lenOf pd_4 rfl) rfl (by show 2 * 0 + _ ≤ _; exact Nat.le_of_eq rfl) (hb hby at_116) (fun _ _ => ⟨rfl, rfl, (by decide : 1 + 0 ≤ _), (by decide : 3 + 0 ≤ _)⟩)
      dsimp only [Pt.U, Pt.locs, Pt.cells, Pt.slots] at X18 l18 y18 z18 st18 hQ18
      subst l18 y18 z18
      obtain ⟨rfl, N18q, e18⟩ := hQ18
      have N18 := Fr.app N10 N18q
      refine Go.of (fun tg_ kk_ => st18.trans kk_) ?_
      show Go p e below T18 (mkF m 119 #[.val (.int p0), .val (.int p1), .val (.int p2), .val (.int p3), .val (.int p4), .val (.int p5), .val (.int ra), .val (.int ry), .val (.int rl), .val (.int ag), .val (.int yr), .val (.ref b4), .val (.int (0 : Int32))] [(.int (if ag < ra then (0 : Int32) else if yr < ry then (0 : Int32) else (1 : Int32)))]) _
      refine Go.of (fun tg_ kk_ => XS.iload X18.here hx rfl (hb hby at_119) rfl kk_) ?_
      show Go p e below T18 (mkF m 121 #[.val (.int p0), .val (.int p1), .val (.int p2), .val (.int p3), .val (.int p4), .val (.int p5), .val (.int ra), .val (.int ry), .val (.int rl), .val (.int ag), .val (.int yr), .val (.ref b4), .val (.int (0 : Int32))] [(.int (0 : Int32)), (.int (if ag < ra then (0 : Int32) else if yr < ry then (0 : Int32) else (1 : Int32)))]) _
      refine Go.of (fun tg_ kk_ => XS.icmpNo X18.here hx rfl (hb hby at_121) rfl (teq (show (if ag < ra then (0 : Int32) else if yr < ry then (0 : Int32) else (1 : Int32)) = (0 : Int32) from (by simp [h1, h2]))).2 kk_) ?_
      show Go p e below T18 (mkF m 124 #[.val (.int p0), .val (.int p1), .val (.int p2), .val (.int p3), .val (.int p4), .val (.int p5), .val (.int ra), .val (.int ry), .val (.int rl), .val (.int ag), .val (.int yr), .val (.ref b4), .val (.int (0 : Int32))] []) _
      refine Go.of (fun tg_ kk_ => XS.iconst X18.here hx rfl (hb hby at_124) kk_) ?_
      show Go p e below T18 (mkF m 125 #[.val (.int p0), .val (.int p1), .val (.int p2), .val (.int p3), .val (.int p4), .val (.int p5), .val (.int ra), .val (.int ry), .val (.int rl), .val (.int ag), .val (.int yr), .val (.ref b4), .val (.int (0 : Int32))] [(.int (1 : Int32))]) _
      refine Go.of (fun tg_ kk_ => XS.goto X18.here hx rfl (pc0 := 125) (pc' := 129) rfl (hb hby at_125) (by decide) (by decide) kk_) ?_
      show Go p e below T18 (mkF m 129 #[.val (.int p0), .val (.int p1), .val (.int p2), .val (.int p3), .val (.int p4), .val (.int p5), .val (.int ra), .val (.int ry), .val (.int rl), .val (.int ag), .val (.int yr), .val (.ref b4), .val (.int (0 : Int32))] [(.int (1 : Int32))]) _
      obtain ⟨fs, hr, hrun, hended, hW, hsame⟩ := X18.leave (v := some (.int (1 : Int32))) (fun h => by rw [Bd.returns] at h; cases h)
      refine ⟨_, _, ?_, hrun, hended, _, _, rfl, ?_, ⟨_, rfl⟩, hW, hsame.mono (by decide) (by decide)⟩
      · exact retN X18 hx (t := .boolean) Bd.returns (by simp) (hb hby at_129) hr
      · show Q0 Z p0 p1 p2 p3 p4 p5 h0 n0 _ T18.heap _
        rw [e18]
        exact ⟨rfl, N18⟩
    · skip
      refine Go.of (fun tg_ kk_ => XS.icmpYes X10.here hx rfl (pc0 := 98) (pc' := 107) rfl (hb hby at_98) rfl (flt h2).2.1 (by decide) (by decide) kk_) ?_
      show Go p e below T10 (mkF m 107 #[.val (.int p0), .val (.int p1), .val (.int p2), .val (.int p3), .val (.int p4), .val (.int p5), .val (.int ra), .val (.int ry), .val (.int rl), .val (.int ag), .val (.int yr), .val (.ref b4), .unset] []) _
      refine Go.of (fun tg_ kk_ => XS.iconst X10.here hx rfl (hb hby at_107) kk_) ?_
      show Go p e below T10 (mkF m 108 #[.val (.int p0), .val (.int p1), .val (.int p2), .val (.int p3), .val (.int p4), .val (.int p5), .val (.int ra), .val (.int ry), .val (.int rl), .val (.int ag), .val (.int yr), .val (.ref b4), .unset] [(.int (1 : Int32))]) _
      refine Go.of (fun tg_ kk_ => XS.istore X10.here hx rfl (hb hby at_108) rfl (l' := #[.val (.int p0), .val (.int p1), .val (.int p2), .val (.int p3), .val (.int p4), .val (.int p5), .val (.int ra), .val (.int ry), .val (.int rl), .val (.int ag), .val (.int yr), .val (.ref b4), .val (.int (1 : Int32))]) rfl kk_) ?_
      show Go p e below T10 (mkF m 110 #[.val (.int p0), .val (.int p1), .val (.int p2), .val (.int p3), .val (.int p4), .val (.int p5), .val (.int ra), .val (.int ry), .val (.int rl), .val (.int ag), .val (.int yr), .val (.ref b4), .val (.int (1 : Int32))] []) _
      refine Go.of (fun tg_ kk_ => XS.aload X10.here hx rfl (hb hby at_110) rfl rfl kk_) ?_
      show Go p e below T10 (mkF m 112 #[.val (.int p0), .val (.int p1), .val (.int p2), .val (.int p3), .val (.int p4), .val (.int p5), .val (.int ra), .val (.int ry), .val (.int rl), .val (.int ag), .val (.int yr), .val (.ref b4), .val (.int (1 : Int32))] [(.ref b4)]) _
      refine Go.of (fun tg_ kk_ => XS.iload X10.here hx rfl (hb hby at_112) rfl kk_) ?_
      show Go p e below T10 (mkF m 114 #[.val (.int p0), .val (.int p1), .val (.int p2), .val (.int p3), .val (.int p4), .val (.int p5), .val (.int ra), .val (.int ry), .val (.int rl), .val (.int ag), .val (.int yr), .val (.ref b4), .val (.int (1 : Int32))] [(.int ag), (.ref b4)]) _
      refine Go.of (fun tg_ kk_ => XS.iload X10.here hx rfl (hb hby at_114) rfl kk_) ?_
      show Go p e below T10 (mkF m 116 #[.val (.int p0), .val (.int p1), .val (.int p2), .val (.int p3), .val (.int p4), .val (.int p5), .val (.int ra), .val (.int ry), .val (.int rl), .val (.int ag), .val (.int yr), .val (.ref b4), .val (.int (1 : Int32))] [(.int yr), (.int ag), (.ref b4)]) _
      obtain ⟨cq19, kq19, q19a, q19b, q19c⟩ := isOf hZ rfl F11
      obtain ⟨_, _, ⟨T19, L19, k19, n19⟩, -, X19, ⟨Lc19, hQ19, l19, y19, z19⟩, st19⟩ := X10.virtualBack hx (y := (⟨"com/example/vestline/vestline/model/FullVesting$RetirementAge", "reachedBy", "(II)Z"⟩ : MethodName)) (z := (⟨"com/example/vestline/vestline/model/FullVesting$RetirementAge", "reachedBy", "(II)Z"⟩ : MethodName)) hown (mvT hZ (hw _ (List.mem_of_getElem? (i := 29) rfl))) (mvT hZ (hw _ (List.mem_of_getElem? (i := 30) rfl))) (notFace_of_selects (args := #[]) (mvT hZ (hw _ (List.mem_of_getElem? (i := 32) rfl)))) (mvT hZ (hw _ (List.mem_of_getElem? (i := 32) rfl))) (mvT hZ (hw _ (List.mem_of_getElem? (i := 31) rfl))) (by decide) (backOf (W := 0) (rm6 l Z a0 hw [] b4 ag yr ra ry T10.heap n0 Zs16 F10a F10y) hZ (hw _ (List.mem_of_getElem? (i := 33) rfl)) (hw _ (List.mem_of_getElem? (i := 7) rfl)) (by decide) (by decide)) q19a q19c (g := (mkF m 116 #[.val (.int p0), .val (.int p1), .val (.int p2), .val (.int p3), .val (.int p4), .val (.int p5), .val (.int ra), .val (.int ry), .val (.int rl), .val (.int ag), .val (.int yr), .val (.ref b4), .val (.int (1 : Int32))] [(.int yr), (.int ag), (.ref b4)])) rfl (by rw [hml]; rfl) (Steps.refl _) (argsL := [(.int ag), (.int yr)]) (rest := []) (lenOf pd_4 rfl) rfl (by show 2 * 0 + _ ≤ _; exact Nat.le_of_eq rfl) (hb hby at_116) (fun _ _ => ⟨rfl, rfl, (by decide : 1 + 0 ≤ _), (by decide : 3 + 0 ≤ _)⟩)
      dsimp only [Pt.U, Pt.locs, Pt.cells, Pt.slots] at X19 l19 y19 z19 st19 hQ19
      subst l19 y19 z19
      obtain ⟨rfl, N19q, e19⟩ := hQ19
      have N19 := Fr.app N10 N19q
      refine Go.of (fun tg_ kk_ => st19.trans kk_) ?_
      show Go p e below T19 (mkF m 119 #[.val (.int p0), .val (.int p1), .val (.int p2), .val (.int p3), .val (.int p4), .val (.int p5), .val (.int ra), .val (.int ry), .val (.int rl), .val (.int ag), .val (.int yr), .val (.ref b4), .val (.int (1 : Int32))] [(.int (if ag < ra then (0 : Int32) else if yr < ry then (0 : Int32) else (1 : Int32)))]) _
      refine Go.of (fun tg_ kk_ => XS.iload X19.here hx rfl (hb hby at_119) rfl kk_) ?_
      show Go p e below T19 (mkF m 121 #[.val (.int p0), .val (.int p1), .val (.int p2), .val (.int p3), .val (.int p4), .val (.int p5), .val (.int ra), .val (.int ry), .val (.int rl), .val (.int ag), .val (.int yr), .val (.ref b4), .val (.int (1 : Int32))] [(.int (1 : Int32)), (.int (if ag < ra then (0 : Int32) else if yr < ry then (0 : Int32) else (1 : Int32)))]) _
      refine Go.of (fun tg_ kk_ => XS.icmpNo X19.here hx rfl (hb hby at_121) rfl (teq (show (if ag < ra then (0 : Int32) else if yr < ry then (0 : Int32) else (1 : Int32)) = (1 : Int32) from (by simp [h1, h2]))).2 kk_) ?_
      show Go p e below T19 (mkF m 124 #[.val (.int p0), .val (.int p1), .val (.int p2), .val (.int p3), .val (.int p4), .val (.int p5), .val (.int ra), .val (.int ry), .val (.int rl), .val (.int ag), .val (.int yr), .val (.ref b4), .val (.int (1 : Int32))] []) _
      refine Go.of (fun tg_ kk_ => XS.iconst X19.here hx rfl (hb hby at_124) kk_) ?_
      show Go p e below T19 (mkF m 125 #[.val (.int p0), .val (.int p1), .val (.int p2), .val (.int p3), .val (.int p4), .val (.int p5), .val (.int ra), .val (.int ry), .val (.int rl), .val (.int ag), .val (.int yr), .val (.ref b4), .val (.int (1 : Int32))] [(.int (1 : Int32))]) _
      refine Go.of (fun tg_ kk_ => XS.goto X19.here hx rfl (pc0 := 125) (pc' := 129) rfl (hb hby at_125) (by decide) (by decide) kk_) ?_
      show Go p e below T19 (mkF m 129 #[.val (.int p0), .val (.int p1), .val (.int p2), .val (.int p3), .val (.int p4), .val (.int p5), .val (.int ra), .val (.int ry), .val (.int rl), .val (.int ag), .val (.int yr), .val (.ref b4), .val (.int (1 : Int32))] [(.int (1 : Int32))]) _
      obtain ⟨fs, hr, hrun, hended, hW, hsame⟩ := X19.leave (v := some (.int (1 : Int32))) (fun h => by rw [Bd.returns] at h; cases h)
      refine ⟨_, _, ?_, hrun, hended, _, _, rfl, ?_, ⟨_, rfl⟩, hW, hsame.mono (by decide) (by decide)⟩
      · exact retN X19 hx (t := .boolean) Bd.returns (by simp) (hb hby at_129) hr
      · show Q0 Z p0 p1 p2 p3 p4 p5 h0 n0 _ T19.heap _
        rw [e19]
        exact ⟨rfl, N19⟩
set_option maxRecDepth 65536 in
set_option maxHeartbeats 40000000 in
theorem comes_1 {Post : Tables → Env → Array Value → State → Outcome → State → Prop} (hpost : ∀ tb e args s v u, (limb_1_1.after args s (.returned v) u = true ∧ limb_1_2.after args s (.returned v) u = true ∧ True) → FrameEnd s (.returned v) u (Jvm.fieldLocs frame_1_writes args s ++ Jvm.arrayLocs frame_1_arrays args s ++ Jvm.staticLocs frame_1_statics s) 16 128 → Post tb e args s (.returned v) u) :
    ArmFor flags0 classFile x code maxLocals ret World_1 tables_1 room_1 Calls_1 rest_1 Pre_1 Post := by
  intro l hfl _ _ p e ha hc hk s m args below hf hA hF happ hP
  obtain ⟨hcalls, hrest, hpre⟩ := hP
  obtain ⟨-, -, -, hnamed, -, -, -, hat⟩ := (Spec.applies_iff hf).mp happ
  obtain ⟨hg, hn⟩ := and_e (Cond.before_iff.mp (show (Jvm.Cond.and given_1 narrow_1).before args s = true from hpre))
  obtain ⟨gc, gr0⟩ := and_e hg
  obtain ⟨ga0, gr1⟩ := and_e gr0
  obtain ⟨ga1, gr2⟩ := and_e gr1
  obtain ⟨ga2, gr3⟩ := and_e gr2
  obtain ⟨ga3, gr4⟩ := and_e gr3
  obtain ⟨ga4, gr5⟩ := and_e gr4
  obtain ⟨w0, w1, w2, w3, w4, w5, rfl⟩ : ∃ w0 w1 w2 w3 w4 w5 : Value, args = #[w0, w1, w2, w3, w4, w5] := by
    have hs : args.size = 6 := by simpa [Cond.value, given_1] using gc
    obtain ⟨L⟩ := args
    match L, hs with
    | [w0, w1, w2, w3, w4, w5], _ => exact ⟨w0, w1, w2, w3, w4, w5, rfl⟩
  have hw := fun d (hd : d ∈ tables_1) => atoms_spec (ws := Jvm.Cond.code x code maxLocals ret :: tables_1) hat d (List.mem_cons_of_mem _ hd)
  obtain ⟨i0, ei0⟩ := is_v ga0
  obtain rfl : w0 = (.int i0) := Option.some.inj ei0
  obtain ⟨i1, ei1⟩ := is_v ga1
  obtain rfl : w1 = (.int i1) := Option.some.inj ei1
  obtain ⟨i2, ei2⟩ := is_v ga2
  obtain rfl : w2 = (.int i2) := Option.some.inj ei2
  obtain ⟨i3, ei3⟩ := is_v ga3
  obtain rfl : w3 = (.int i3) := Option.some.inj ei3
  obtain ⟨i4, ei4⟩ := is_v ga4
  obtain rfl : w4 = (.int i4) := Option.some.inj ei4
  obtain ⟨i5, ei5⟩ := is_v gr5
  obtain rfl : w5 = (.int i5) := Option.some.inj ei5
  obtain ⟨n, o, h1, h2, h3, _, L, rfl, ⟨rfl, N⟩, hq⟩ := rm0 l s _ hw tables_1 i0 i1 i2 i3 i4 i5 s.heap s.heap.size (Nat.le_refl _) p e ha hc hk s m _ below hf ((Spec.applies_iff_loose hf).mp happ).1 ⟨rfl, State.Warmed39.refl s, rfl⟩ trivial
  refine ⟨n, _, h1, h2, h3, hpost _ _ _ _ _ _ ⟨Cond.after_iff.mpr rfl, Cond.after_iff.mpr (eq_i res_at (Term.int_eval (1)) rfl), trivial⟩ ⟨hq.1, hq.2.1, (hq.2.2.sift fun y hy => Or.inr (N y hy)).mono (by decide) (by decide)⟩⟩
theorem main_1_1 : Claimed_1_1 := comes_1 fun _ _ _ _ _ _ h hF => ⟨h.1, hF⟩
theorem main_1_2 : Claimed_1_2 := comes_1 fun _ _ _ _ _ _ h hF => ⟨h.2.1, hF⟩
end Jvm.Pilot.@@N@@
namespace Jvm.Pilot.@@N@@
open Jvm Jvm.ClassFile Sem Op Lib Jvm.Free Jvm.Stand Jvm.Pilot.@@N@@.Jvm.D
/-! MADE BY PROGRAM (witnessworld.py) out of the Statement's table words and the real class files: 13 classes; the members and pool entries that the words name. The judged class is class 1, her method 1. -/
namespace start1
open Jvm.ClassFile
def u (s : String) : CpInfo := .utf8 (stringToUtf16 s)
/-- a pool by its gaps: so many unusable entries, then the entry; so many at the end -/
def gap : Nat → List CpInfo → List CpInfo
  | 0, r => r
  | n + 1, r => .unusable :: gap n r
def poolList (es : List (Nat × CpInfo)) (last : Nat) : List CpInfo := es.foldr (fun e r => gap e.1 (e.2 :: r)) (gap last [])
def pool (es : List (Nat × CpInfo)) (last : Nat) : Array CpInfo := ⟨poolList es last⟩
def fileOf (pool : Array CpInfo) (this : Nat) (attrs : Array Attribute := #[]) (ms : Array MethodInfo := #[]) (fl : Nat := 33) (sup : Nat := 0) (ifs : Array Nat := #[]) (fds : Array FieldInfo := #[]) : ClassFile where
  minorVersion := 0
  majorVersion := 65
  constantPool := pool
  accessFlags := fl
  thisClass := this
  superClass := sup
  interfaces := ifs
  fields := fds
  methods := ms
  attributes := attrs
def plain (name : String) (sup : Option ClassId) : Class where
  name := name
  kind := .ordinary
  loader := none
  accessFlags := 33
  super := sup
  interfaces := #[]
  cf := none
  fields := #[]
  methods := #[]
  instanceTypes := #[]
  staticTypes := #[]
  resolved := #[]
  callSites := []
  init := .initialized
  statics := none
  mirror := none

def pool0 : Array CpInfo := pool [(5, u "<init>"), (0, u "()V"), (1, .class_ 10), (1, u "java/lang/Object")] 113

def k0c0 : Code := { maxStack := 0, maxLocals := 1, code := object_method_1_code, exceptionTable := #[], attributes := #[] }
def k0m0 : Method := { name := "<init>", desc := "()V", sig := { parameters := [], returnType := none }, accessFlags := 1, code := some k0c0 }
/-- java/lang/Object -/
def k0 : Class := { plain "java/lang/Object" none with
  accessFlags := 33
  interfaces := #[]
  cf := some (fileOf pool0 8 #[] #[{ accessFlags := 1, nameIndex := 5, descriptorIndex := 6, attributes := #[] }] 33 0 #[] #[])
  fields := #[]
  methods := #[k0m0]
  instanceTypes := #[]
  staticTypes := #[]
  resolved := Array.replicate 124 none
  statics := none }

def pool1 : Array CpInfo := pool [(2, .class_ 4), (1, u "java/lang/Object"), (0, u "<init>"), (0, u "()V"), (0, .integer 2147483647), (0, .methodref 9 10), (0, .class_ 11), (0, .nameAndType 12 13), (0, u "java/lang/Math"), (0, u "max"), (0, u "(II)I"), (0, .class_ 15), (0, u "com/example/vestline/vestline/model/FullVesting$RetirementAge"), (0, .methodref 14 17), (0, .nameAndType 5 18), (0, u "(III)V"), (0, .methodref 14 20), (0, .nameAndType 21 22), (0, u "reachedBy"), (0, u "(II)Z"), (0, .class_ 24), (0, u "com/example/vestline/vestline/model/RetirementAgeReachedByPinLaw"), (2, u "law"), (0, u "(IIIIII)Z")] 7

def k1m0 : Method := { name := "<init>", desc := "()V", sig := { parameters := [], returnType := none }, accessFlags := 1, code := none }
def k1c1 : Code := { maxStack := 5, maxLocals := 13, code := code, exceptionTable := #[], attributes := #[] }
def k1m1 : Method := { name := "law", desc := "(IIIIII)Z", sig := { parameters := [.int, .int, .int, .int, .int, .int], returnType := some .boolean }, accessFlags := 9, code := some k1c1 }
/-- com/example/vestline/vestline/model/RetirementAgeReachedByPinLaw -/
def k1 : Class := { plain "com/example/vestline/vestline/model/RetirementAgeReachedByPinLaw" (some 0) with
  accessFlags := 49
  interfaces := #[]
  cf := some (fileOf pool1 23 #[] #[{ accessFlags := 1, nameIndex := 5, descriptorIndex := 6, attributes := #[] }, { accessFlags := 9, nameIndex := 27, descriptorIndex := 28, attributes := #[] }] 49 2 #[] #[])
  fields := #[]
  methods := #[k1m0, k1m1]
  instanceTypes := #[]
  staticTypes := #[]
  resolved := Array.replicate 36 none
  statics := none }

def pool2 : Array CpInfo := pool [(1, .class_ 2), (0, u "java/lang/Math"), (1, .class_ 6), (1, u "java/lang/Object"), (0, u "<init>"), (0, u "()V"), (89, .class_ 100), (1, u "java/lang/Math$RandomNumberGeneratorHolder"), (71, u "negativeZeroFloatBits"), (0, u "J"), (2, u "negativeZeroDoubleBits"), (21, u "max"), (46, u "$assertionsDisabled"), (0, u "Z"), (88, u "(II)I"), (2, u "twoToTheDoubleScaleDown"), (0, u "D"), (4, u "twoToTheDoubleScaleUp"), (9, u "E"), (3, u "PI"), (2, u "TAU"), (2, u "DEGREES_TO_RADIANS"), (0, u "RADIANS_TO_DEGREES")] 94

def k2m0 : Method := { name := "<init>", desc := "()V", sig := { parameters := [], returnType := none }, accessFlags := 2, code := none }
def k2c1 : Code := { maxStack := 2, maxLocals := 2, code := jdk_29_method_65_code, exceptionTable := #[], attributes := #[] }
def k2m1 : Method := { name := "max", desc := "(II)I", sig := { parameters := [.int, .int], returnType := some .int }, accessFlags := 9, code := some k2c1 }
/-- java/lang/Math -/
def k2 : Class := { plain "java/lang/Math" (some 0) with
  accessFlags := 49
  interfaces := #[]
  cf := some (fileOf pool2 1 #[.nestMembers #[98]] #[{ accessFlags := 2, nameIndex := 7, descriptorIndex := 8, attributes := #[] }, { accessFlags := 9, nameIndex := 198, descriptorIndex := 335, attributes := #[] }] 49 4 #[] #[{ accessFlags := 25, nameIndex := 354, descriptorIndex := 339, attributes := #[] }, { accessFlags := 25, nameIndex := 358, descriptorIndex := 339, attributes := #[] }, { accessFlags := 25, nameIndex := 361, descriptorIndex := 339, attributes := #[] }, { accessFlags := 26, nameIndex := 364, descriptorIndex := 339, attributes := #[] }, { accessFlags := 26, nameIndex := 365, descriptorIndex := 339, attributes := #[] }, { accessFlags := 26, nameIndex := 172, descriptorIndex := 173, attributes := #[] }, { accessFlags := 26, nameIndex := 176, descriptorIndex := 173, attributes := #[] }, { accessFlags := 8, nameIndex := 344, descriptorIndex := 339, attributes := #[] }, { accessFlags := 8, nameIndex := 338, descriptorIndex := 339, attributes := #[] }, { accessFlags := 4120, nameIndex := 245, descriptorIndex := 246, attributes := #[] }])
  fields := #[{ name := "E", type := .double, accessFlags := 25, slot := 0, constantValue := 0 }, { name := "PI", type := .double, accessFlags := 25, slot := 1, constantValue := 0 }, { name := "TAU", type := .double, accessFlags := 25, slot := 2, constantValue := 0 }, { name := "DEGREES_TO_RADIANS", type := .double, accessFlags := 26, slot := 3, constantValue := 0 }, { name := "RADIANS_TO_DEGREES", type := .double, accessFlags := 26, slot := 4, constantValue := 0 }, { name := "negativeZeroFloatBits", type := .long, accessFlags := 26, slot := 5, constantValue := 0 }, { name := "negativeZeroDoubleBits", type := .long, accessFlags := 26, slot := 6, constantValue := 0 }, { name := "twoToTheDoubleScaleUp", type := .double, accessFlags := 8, slot := 7, constantValue := 0 }, { name := "twoToTheDoubleScaleDown", type := .double, accessFlags := 8, slot := 8, constantValue := 0 }, { name := "$assertionsDisabled", type := .boolean, accessFlags := 4120, slot := 9, constantValue := 0 }]
  methods := #[k2m0, k2m1]
  instanceTypes := #[]
  staticTypes := #[.double, .double, .double, .double, .double, .long, .long, .double, .double, .boolean]
  resolved := Array.replicate 460 none
  statics := none }

def pool3 : Array CpInfo := pool [(1, .methodref 2 3), (0, .class_ 4), (0, .nameAndType 5 6), (0, u "java/lang/Object"), (0, u "<init>"), (0, u "()V"), (0, .class_ 8), (0, u "java/lang/Record")] 13

def k3c0 : Code := { maxStack := 1, maxLocals := 1, code := jdk_30_method_1_code, exceptionTable := #[], attributes := #[] }
def k3m0 : Method := { name := "<init>", desc := "()V", sig := { parameters := [], returnType := none }, accessFlags := 4, code := some k3c0 }
/-- java/lang/Record -/
def k3 : Class := { plain "java/lang/Record" (some 0) with
  accessFlags := 1057
  interfaces := #[]
  cf := some (fileOf pool3 7 #[] #[{ accessFlags := 4, nameIndex := 5, descriptorIndex := 6, attributes := #[] }] 1057 2 #[] #[])
  fields := #[]
  methods := #[k3m0]
  instanceTypes := #[]
  staticTypes := #[]
  resolved := Array.replicate 22 none
  statics := none }

def pool4 : Array CpInfo := pool [(1, .class_ 2), (0, u "com/example/vestline/vestline/model/FullVesting$Rule"), (0, .class_ 4), (0, u "java/lang/Object"), (5, .class_ 11), (0, u "com/example/vestline/vestline/model/FullVesting")] 9

/-- com/example/vestline/vestline/model/FullVesting$Rule -/
def k4 : Class := { plain "com/example/vestline/vestline/model/FullVesting$Rule" (some 0) with
  accessFlags := 1537
  interfaces := #[]
  cf := some (fileOf pool4 1 #[.nestHost 10] #[] 1537 3 #[] #[])
  fields := #[]
  methods := #[]
  instanceTypes := #[]
  staticTypes := #[]
  resolved := Array.replicate 21 none
  statics := none }

def pool5 : Array CpInfo := pool [(1, .methodref 2 3), (0, .class_ 4), (0, .nameAndType 5 6), (0, u "java/lang/Record"), (0, u "<init>"), (0, u "()V"), (10, .methodref 18 19), (0, .class_ 20), (0, .nameAndType 21 22), (0, u "com/example/vestline/vestline/model/Citation"), (0, u "requireLine"), (0, u "(I)V"), (0, .fieldref 24 25), (0, .class_ 26), (0, .nameAndType 27 28), (0, u "com/example/vestline/vestline/model/FullVesting$RetirementAge"), (0, u "age"), (0, u "I"), (0, .fieldref 24 30), (0, .nameAndType 31 28), (0, u "years"), (0, .fieldref 24 33), (0, .nameAndType 34 28), (0, u "line"), (2, u "(III)V"), (12, .class_ 51), (0, u "com/example/vestline/vestline/model/FullVesting$Rule"), (5, u "reachedBy"), (0, u "(II)Z"), (6, .class_ 66), (0, u "com/example/vestline/vestline/model/FullVesting")] 32

def k5c0 : Code := { maxStack := 3, maxLocals := 4, code := prog_59_method_1_code, exceptionTable := #[], attributes := #[] }
def k5m0 : Method := { name := "<init>", desc := "(III)V", sig := { parameters := [.int, .int, .int], returnType := none }, accessFlags := 1, code := some k5c0 }
def k5c1 : Code := { maxStack := 2, maxLocals := 3, code := prog_59_method_3_code, exceptionTable := #[], attributes := #[] }
def k5m1 : Method := { name := "reachedBy", desc := "(II)Z", sig := { parameters := [.int, .int], returnType := some .boolean }, accessFlags := 1, code := some k5c1 }
/-- com/example/vestline/vestline/model/FullVesting$RetirementAge -/
def k5 : Class := { plain "com/example/vestline/vestline/model/FullVesting$RetirementAge" (some 3) with
  accessFlags := 49
  interfaces := #[4]
  cf := some (fileOf pool5 24 #[.nestHost 65] #[{ accessFlags := 1, nameIndex := 5, descriptorIndex := 37, attributes := #[] }, { accessFlags := 1, nameIndex := 57, descriptorIndex := 58, attributes := #[] }] 49 2 #[50] #[{ accessFlags := 18, nameIndex := 27, descriptorIndex := 28, attributes := #[] }, { accessFlags := 18, nameIndex := 31, descriptorIndex := 28, attributes := #[] }, { accessFlags := 18, nameIndex := 34, descriptorIndex := 28, attributes := #[] }])
  fields := #[{ name := "age", type := .int, accessFlags := 18, slot := 0, constantValue := 0 }, { name := "years", type := .int, accessFlags := 18, slot := 1, constantValue := 0 }, { name := "line", type := .int, accessFlags := 18, slot := 2, constantValue := 0 }]
  methods := #[k5m0, k5m1]
  instanceTypes := #[.int, .int, .int]
  staticTypes := #[]
  resolved := Array.replicate 99 none
  statics := none }

def pool6 : Array CpInfo := pool [(2, .class_ 4), (1, u "java/lang/Record"), (3, u "file"), (7, .class_ 18), (1, u "com/example/vestline/vestline/model/Citation"), (0, u "requireLine"), (0, u "(I)V"), (2, u "Lcom/example/vestline/vestline/model/InputFile;"), (2, u "line"), (0, u "I")] 71

def k6c0 : Code := { maxStack := 3, maxLocals := 1, code := prog_40_method_2_code, exceptionTable := #[], attributes := #[] }
def k6m0 : Method := { name := "requireLine", desc := "(I)V", sig := { parameters := [.int], returnType := none }, accessFlags := 8, code := some k6c0 }
/-- com/example/vestline/vestline/model/Citation -/
def k6 : Class := { plain "com/example/vestline/vestline/model/Citation" (some 3) with
  accessFlags := 49
  interfaces := #[]
  cf := some (fileOf pool6 16 #[] #[{ accessFlags := 8, nameIndex := 19, descriptorIndex := 20, attributes := #[] }] 49 2 #[] #[{ accessFlags := 18, nameIndex := 8, descriptorIndex := 23, attributes := #[] }, { accessFlags := 18, nameIndex := 26, descriptorIndex := 27, attributes := #[] }])
  fields := #[{ name := "file", type := (.object "com/example/vestline/vestline/model/InputFile"), accessFlags := 18, slot := 0, constantValue := 0 }, { name := "line", type := .int, accessFlags := 18, slot := 1, constantValue := 0 }]
  methods := #[k6m0]
  instanceTypes := #[(.object "com/example/vestline/vestline/model/InputFile"), .int]
  staticTypes := #[]
  resolved := Array.replicate 99 none
  statics := none }

def pool7 : Array CpInfo := pool [(1, u "java/lang/Cloneable"), (0, .class_ 1), (0, u "java/lang/Object"), (0, .class_ 3)] 3

/-- java/lang/Cloneable -/
def k7 : Class := { plain "java/lang/Cloneable" (some 0) with
  accessFlags := 1537
  interfaces := #[]
  cf := some (fileOf pool7 2 #[] #[] 1537 4 #[] #[])
  fields := #[]
  methods := #[]
  instanceTypes := #[]
  staticTypes := #[]
  resolved := Array.replicate 8 none
  statics := none }

def pool8 : Array CpInfo := pool [(1, u "java/io/Serializable"), (0, .class_ 1), (0, u "java/lang/Object"), (0, .class_ 3)] 3

/-- java/io/Serializable -/
def k8 : Class := { plain "java/io/Serializable" (some 0) with
  accessFlags := 1537
  interfaces := #[]
  cf := some (fileOf pool8 2 #[] #[] 1537 4 #[] #[])
  fields := #[]
  methods := #[]
  instanceTypes := #[]
  staticTypes := #[]
  resolved := Array.replicate 8 none
  statics := none }

/-- the primitive byte -/
def k9 : Class := { plain "byte" none with kind := .primitive 'B', accessFlags := 0x411 }
/-- [B -/
def k10 : Class := { plain "[B" (some 0) with kind := .array 9 .byte, interfaces := #[7, 8], accessFlags := 1041 }

/-- the primitive int -/
def k11 : Class := { plain "int" none with kind := .primitive 'I', accessFlags := 0x411 }
/-- [I -/
def k12 : Class := { plain "[I" (some 0) with kind := .array 11 .int, interfaces := #[7, 8], accessFlags := 1041 }

def heap : Heap := #[]
def classes : Array Class := #[k0, k1, k2, k3, k4, k5, k6, k7, k8, k9, k10, k11, k12]
def interned : List (Array UInt16 × Addr) := []
def slotsUsed : Nat := 0
def theMethod : MethodId := ⟨1, 1⟩
def args0 : Array Value := #[.int 5, .int 6, .int 7, .int 8, .int 9, .int 3]
def aboutOver (below : List Frame) : State where
  vm := { classes := classes, interned := interned.toArray }
  heap := heap
  slotsUsed := slotsUsed
  threads := #[{ frames := .invoking theMethod args0 :: below }]
def below0 : List Frame := [.native { method := ⟨0, 0⟩, args := #[] }]
def about1 : State := aboutOver below0
def p0 : Program := .bare "" "" ""
def e0 : Env := launch0.env 0 0 0
theorem w_frames : about1.frames = Frame.invoking theMethod args0 :: below0 := rfl
set_option maxRecDepth 65536 in
theorem w_args : argsFit about1.vm theMethod args0 = true := by decide +kernel
set_option maxRecDepth 65536 in
theorem w_heap : heapFits about1 = true := by decide +kernel
set_option maxRecDepth 65536 in
theorem w_runnable : about1.curStatus? = some .runnable := by decide +kernel
set_option maxRecDepth 65536 in
theorem w_alone : about1.alone = true := by decide +kernel
set_option maxRecDepth 65536 in
theorem w_named : about1.methodNamed? x = some theMethod := by decide +kernel
set_option maxRecDepth 65536 in
theorem w_hears : about1.hears theMethod below0 = true := by decide +kernel
set_option maxRecDepth 65536 in
theorem w_ripe : about1.ripe theMethod args0 below0 = true := by decide +kernel
theorem w_running : about1.status = .running := rfl
set_option maxRecDepth 65536 in
theorem w_room : about1.hasRoom e0.platform room_1 = true :=
  launch0.hasRoom_least _ room_1 (by decide +kernel) (by decide +kernel) (by decide +kernel) (by decide +kernel) (by decide +kernel) (by decide +kernel)
theorem allAtoms_all (ts : List Jvm.Cond) (a : Array Jvm.Value) (st : Jvm.State) : (allAtoms ts).before a st = ts.all (fun c => c.before a st) := by
  induction ts with
  | nil => rfl
  | cons c t ih =>
    show (Jvm.Cond.and c (allAtoms t)).before a st = _
    rw [Jvm.Cond.before_and, ih, List.all_cons]
def words1 : List Jvm.Cond := Jvm.Cond.code x code maxLocals ret :: tables_1
/-- a 'code' word, met by the world's own term for the bytes: nothing is compared byte by byte -/
theorem code_word {y : MethodName} {bytes : ByteArray} {mx : Nat} {rt : Option FieldType} {a : Array Value} {s : State} {m : MethodId} {meth : Method} {c : Code} (h1 : s.methodNamed? y = some m) (h2 : s.vm.method? m = some meth) (h3 : meth.code = some c) (h4 : c.code = bytes)
    (h5 : (c.maxLocals == mx && c.exceptionTable.isEmpty && decide (c.maxStack ≤ mostOperands) && decide (meth.sig.returnType = rt) && !meth.locks && decide (parseMethodDescriptor y.desc = some meth.sig)) = true) : (Jvm.Cond.code y bytes mx rt).before a s = true := by
  simp only [Bool.and_eq_true, beq_iff_eq, Bool.not_eq_true', decide_eq_true_eq] at h5
  obtain ⟨⟨⟨⟨⟨g1, g2⟩, g3⟩, g4⟩, g5⟩, g6⟩ := h5
  simp [Cond.before, Cond.holds, Cond.value, h1, h2, h3, h4, g1, g2, g3, g4, g5, g6]
def isCode : Jvm.Cond → Bool
  | .code _ _ _ _ => true
  | _ => false
theorem all_split {L : List Jvm.Cond} {P : Jvm.Cond → Bool} (h1 : L.all (fun c => isCode c || P c) = true) (h2 : ∀ c ∈ L.filter isCode, P c = true) : L.all P = true := by
  refine List.all_eq_true.mpr fun c hc => ?_
  have h := List.all_eq_true.mp h1 c hc
  rcases Bool.eq_false_or_eq_true (isCode c) with hi | hi
  · exact h2 c (List.mem_filter.mpr ⟨hc, hi⟩)
  · simpa [hi] using h
set_option maxRecDepth 65536 in
theorem w_c0 : (Jvm.Cond.code x code maxLocals ret).before args0 about1 = true := code_word (m := ⟨1, 1⟩) (meth := k1m1) (c := k1c1) (by decide +kernel) rfl rfl rfl (by decide +kernel)
set_option maxRecDepth 65536 in
theorem w_c1 : (Jvm.Cond.code ({ cls := "java/lang/Math", name := "max", desc := "(II)I" } : Jvm.MethodName) jdk_29_method_65_code (2 : Nat) (Option.some Jvm.ClassFile.FieldType.int)).before args0 about1 = true := code_word (m := ⟨2, 1⟩) (meth := k2m1) (c := k2c1) (by decide +kernel) rfl rfl rfl (by decide +kernel)
set_option maxRecDepth 65536 in
theorem w_c2 : (Jvm.Cond.code ({ cls := "com/example/vestline/vestline/model/FullVesting$RetirementAge", name := "<init>", desc := "(III)V" } : Jvm.MethodName) prog_59_method_1_code (4 : Nat) (Option.none : Option Jvm.ClassFile.FieldType)).before args0 about1 = true := code_word (m := ⟨5, 0⟩) (meth := k5m0) (c := k5c0) (by decide +kernel) rfl rfl rfl (by decide +kernel)
set_option maxRecDepth 65536 in
theorem w_c3 : (Jvm.Cond.code ({ cls := "java/lang/Record", name := "<init>", desc := "()V" } : Jvm.MethodName) jdk_30_method_1_code (1 : Nat) (Option.none : Option Jvm.ClassFile.FieldType)).before args0 about1 = true := code_word (m := ⟨3, 0⟩) (meth := k3m0) (c := k3c0) (by decide +kernel) rfl rfl rfl (by decide +kernel)
set_option maxRecDepth 65536 in
theorem w_c4 : (Jvm.Cond.code ({ cls := "java/lang/Object", name := "<init>", desc := "()V" } : Jvm.MethodName) object_method_1_code (1 : Nat) (Option.none : Option Jvm.ClassFile.FieldType)).before args0 about1 = true := code_word (m := ⟨0, 0⟩) (meth := k0m0) (c := k0c0) (by decide +kernel) rfl rfl rfl (by decide +kernel)
set_option maxRecDepth 65536 in
theorem w_c5 : (Jvm.Cond.code ({ cls := "com/example/vestline/vestline/model/Citation", name := "requireLine", desc := "(I)V" } : Jvm.MethodName) prog_40_method_2_code (1 : Nat) (Option.none : Option Jvm.ClassFile.FieldType)).before args0 about1 = true := code_word (m := ⟨6, 0⟩) (meth := k6m0) (c := k6c0) (by decide +kernel) rfl rfl rfl (by decide +kernel)
set_option maxRecDepth 65536 in
theorem w_c6 : (Jvm.Cond.code ({ cls := "com/example/vestline/vestline/model/FullVesting$RetirementAge", name := "reachedBy", desc := "(II)Z" } : Jvm.MethodName) prog_59_method_3_code (3 : Nat) (Option.some Jvm.ClassFile.FieldType.boolean)).before args0 about1 = true := code_word (m := ⟨5, 1⟩) (meth := k5m1) (c := k5c1) (by decide +kernel) rfl rfl rfl (by decide +kernel)
def codes1 : List Jvm.Cond := [Jvm.Cond.code x code maxLocals ret, Jvm.Cond.code ({ cls := "java/lang/Math", name := "max", desc := "(II)I" } : Jvm.MethodName) jdk_29_method_65_code (2 : Nat) (Option.some Jvm.ClassFile.FieldType.int), Jvm.Cond.code ({ cls := "com/example/vestline/vestline/model/FullVesting$RetirementAge", name := "<init>", desc := "(III)V" } : Jvm.MethodName) prog_59_method_1_code (4 : Nat) (Option.none : Option Jvm.ClassFile.FieldType), Jvm.Cond.code ({ cls := "java/lang/Record", name := "<init>", desc := "()V" } : Jvm.MethodName) jdk_30_method_1_code (1 : Nat) (Option.none : Option Jvm.ClassFile.FieldType), Jvm.Cond.code ({ cls := "java/lang/Object", name := "<init>", desc := "()V" } : Jvm.MethodName) object_method_1_code (1 : Nat) (Option.none : Option Jvm.ClassFile.FieldType), Jvm.Cond.code ({ cls := "com/example/vestline/vestline/model/Citation", name := "requireLine", desc := "(I)V" } : Jvm.MethodName) prog_40_method_2_code (1 : Nat) (Option.none : Option Jvm.ClassFile.FieldType), Jvm.Cond.code ({ cls := "com/example/vestline/vestline/model/FullVesting$RetirementAge", name := "reachedBy", desc := "(II)Z" } : Jvm.MethodName) prog_59_method_3_code (3 : Nat) (Option.some Jvm.ClassFile.FieldType.boolean)]
set_option maxRecDepth 65536 in
theorem codes_eq : words1.filter isCode = codes1 := rfl
theorem w_codes : ∀ c ∈ words1.filter isCode, c.before args0 about1 = true := by
  rw [codes_eq]
  intro c hc
  simp only [codes1, List.mem_cons, List.not_mem_nil, or_false] at hc
  rcases hc with rfl | rfl | rfl | rfl | rfl | rfl | rfl
  · exact w_c0
  · exact w_c1
  · exact w_c2
  · exact w_c3
  · exact w_c4
  · exact w_c5
  · exact w_c6
set_option maxRecDepth 65536 in
theorem w_t1 : (words1.take 24).all (fun c => isCode c || c.before args0 about1) = true := by decide +kernel
set_option maxRecDepth 65536 in
theorem w_t2 : (words1.drop 24).all (fun c => isCode c || c.before args0 about1) = true := by decide +kernel
theorem w_tables : (allAtoms (Jvm.Cond.code x code maxLocals ret :: tables_1)).before args0 about1 = true := by
  rw [allAtoms_all]
  show words1.all (fun c => c.before args0 about1) = true
  refine all_split ?_ w_codes
  rw [← List.take_append_drop 24 words1, List.all_append, w_t1, w_t2]
  rfl
set_option maxRecDepth 65536 in
theorem w_case : (Jvm.Cond.and given_1 narrow_1).before args0 about1 = true := by decide +kernel
theorem w_applies : (headSpec (Jvm.Cond.code x code maxLocals ret :: tables_1) room_1).applies x e0.platform about1 = true :=
  (Spec.applies_iff w_frames).mpr ⟨w_running, w_runnable, w_alone, w_named, w_hears, w_ripe, w_room, w_tables⟩
theorem atStart : AtStart classFile x code maxLocals ret World_1 tables_1 room_1 Calls_1 rest_1 Pre_1 launch0 p0 e0 about1 theMethod args0 below0 :=
  ⟨lists_1, trivial, launch0.admits_env _ _ _, launch0.least_env, fairChoices_fair.cas, fairChoices_fair.clock, w_frames, w_args, w_heap, w_applies, trivial, trivial, w_case⟩
end start1
theorem witness_1 : WitnessClaimed_1 := ⟨start1.p0, start1.e0, start1.about1, start1.theMethod, start1.args0, start1.below0, start1.atStart⟩
end Jvm.Pilot.@@N@@
