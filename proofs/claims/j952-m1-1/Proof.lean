import JvmDerived
import JvmDerived.Pilot.@@N@@Statement
import JvmDerived.Pilot.@@N@@Code
set_option linter.unusedVariables false
set_option linter.unusedSimpArgs false
@@BLOCK:NumsL.lean.txt@@
namespace Jvm.Pilot.@@N@@
open Jvm Jvm.ClassFile Sem Op Lib Jvm.Free Jvm.Stand Jvm.LawKit Jvm.RoadKit Bundle Jvm.Pilot.@@N@@.Jvm.D
/-! the walk's own form: from this state and frame the run ends as P says -/
def Go (p : Program) (e : Env) (below : List Frame) (T : State) (g : JFrame) (P : Outcome → State → Prop) : Prop := ∃ s₂ o, Steps p.tables e below (T.setTop g) s₂ ∧ s₂.status = .running ∧ Ended s₂ below o ∧ P o s₂
theorem Go.of {p : Program} {e : Env} {below : List Frame} {T T' : State} {g g' : JFrame} {P : Outcome → State → Prop} (k : ∀ t, Steps p.tables e below (T'.setTop g') t → Steps p.tables e below (T.setTop g) t) (h : Go p e below T' g' P) : Go p e below T g P := by
  obtain ⟨s2, o, h1, h2⟩ := h; exact ⟨s2, o, k _ h1, h2⟩
theorem Go.enter {p : Program} {e : Env} {below : List Frame} {T : State} {g g' : JFrame} {P : Outcome → State → Prop} (q : g = g') (h : Go p e below T g' P) : ∃ s₂ o, Steps p.tables e below (T.setTop g) s₂ ∧ s₂.status = .running ∧ Ended s₂ below o ∧ P o s₂ := by
  subst q; exact h
theorem own_selp {s : State} {args : Array Value} {y : MethodName} {n : Nat} (hi : (Jvm.Cond.instantiable y.cls n).before args s = true) (hp : s.PrivateAt y) (hm : (Jvm.Cond.instanceMethod y).before args s = true) (hy : y.cls ≠ "java/lang/invoke/MethodHandle" ∧ y.cls ≠ "java/lang/invoke/VarHandle") : (Jvm.Cond.selects y.cls y y).before args s = true := by
  obtain ⟨c, k, h1, h2, -, h3, -⟩ := Cond.instantiable_spec hi
  rw [Bool.or_eq_false_iff] at h3
  exact selects_self_of_private h1 h2 h3.1 hp hm hy
/-- a local that holds nothing or one word -/
def Sl (o : Slot) : Prop := o = .unset ∨ ∃ w : Value, o = .val w ∧ w.category = 1
theorem pn_0 : plainName "com/example/stairstep/stairstep/Script" = true := by first | (simp [plainName, overriddenIn]; done) | decide +kernel
theorem pd_0 : parseMethodDescriptor "(Ljava/lang/String;)V" = some ⟨[(.object "java/lang/String")], none⟩ := by decide +kernel
theorem pn_1 : plainName "com/example/stairstep/stairstep/MariaDbScript" = true := by first | (simp [plainName, overriddenIn]; done) | decide +kernel
theorem pd_1 : parseMethodDescriptor "(C)Z" = some ⟨[.char], some .boolean⟩ := by decide +kernel
theorem pn_2 : plainName "com/example/stairstep/stairstep/MariaDbScriptBlankPinLaw" = true := by first | (simp [plainName, overriddenIn]; done) | decide +kernel
theorem d2_0 : decode prog_37_method_1_code 0 = .ok (.aload_n 0, 1) := by decide +kernel
theorem d2_1 : decode prog_37_method_1_code 1 = .ok (.invokespecial 1, 3) := by decide +kernel
theorem d2_4 : decode prog_37_method_1_code 4 = .ok (.aload_n 0, 1) := by decide +kernel
theorem d2_5 : decode prog_37_method_1_code 5 = .ok (.aload_n 1, 1) := by decide +kernel
theorem d2_6 : decode prog_37_method_1_code 6 = .ok (.putfield 7, 3) := by decide +kernel
theorem d2_9 : decode prog_37_method_1_code 9 = .ok (.return_, 1) := by decide +kernel
theorem ef_2 (m : MethodId) (x0 : Addr) (x1 : Addr) : entryFrame m #[(.ref x0), (.ref x1)] 2 = mkF m 0 #[.val (.ref x0), .val (.ref x1)] [] := by first | (simp [entryFrame, mkF, argsToLocals, Value.category]; done) | rfl
def Q2 (Z : State) (a : Addr) (b : Addr) (h0 : Heap) (n0 : Nat) (v : Option Value) (h : Heap) (L : List Loc) : Prop := v = none ∧ Fr n0 L ∧ Keep h0 h [a] ∧ Fld Z h a "com/example/stairstep/stairstep/MariaDbScript" "delimiter" "Ljava/lang/String;" .null ∧ Fld Z h a "com/example/stairstep/stairstep/MariaDbScript" "delimiterBefore" "Ljava/lang/String;" .null
set_option maxRecDepth 65536 in
set_option maxHeartbeats 40000000 in
theorem rm2 (l : Launch) (Z : State) (a0 : Array Value) (hw : ∀ d ∈ tables_1, d.before a0 Z = true) (ws : List Jvm.Cond) (a : Addr) (b : Addr) (h0 : Heap) (n0 : Nat) (Z0 : n0 ≤ h0.size) (g_a : n0 ≤ a) (E_a : Exa Z h0 a "com/example/stairstep/stairstep/MariaDbScript") (Fsql : Fld Z h0 a "com/example/stairstep/stairstep/Script" "sql" "Ljava/lang/String;" .null) (Fdelimiter : Fld Z h0 a "com/example/stairstep/stairstep/MariaDbScript" "delimiter" "Ljava/lang/String;" .null) (FdelimiterBefore : Fld Z h0 a "com/example/stairstep/stairstep/MariaDbScript" "delimiterBefore" "Ljava/lang/String;" .null) :
    MetFree l (⟨"com/example/stairstep/stairstep/Script", "<init>", "(Ljava/lang/String;)V"⟩ : MethodName) (head1 (Jvm.Cond.code (⟨"com/example/stairstep/stairstep/Script", "<init>", "(Ljava/lang/String;)V"⟩ : MethodName) prog_37_method_1_code 2 none :: ws) ({ frames := 1, cells := 0, slots := 0, locals := 12 } : Room)) (fun aa_ U => aa_ = #[(.ref a), (.ref b)] ∧ Z.Warmed39 U.vm ∧ U.heap = h0) (fun _ _ _ _ _ => True) (fun _ U o U' => ∃ vv_ LL_, o = .returned vv_ ∧ Q2 Z a b h0 n0 vv_ U'.heap LL_ ∧ FrameEnd U o U' LL_ ({ frames := 1, cells := 0, slots := 0, locals := 12 } : Room).cells ({ frames := 1, cells := 0, slots := 0, locals := 12 } : Room).slots) := by
  refine MetFree.of_bodySF (plainFor_of_name pn_0) hisR ?_
  intro p e s m args below meth c s₁ Bd hml0 hP hK
  obtain ⟨rfl, hZ, hh⟩ := hP
  have hx := Bd.exec
  have hby := Bd.bytes
  have hml : c.maxLocals = 2 := hml0
  have hown : s.vm.findClass "com/example/stairstep/stairstep/Script" = some m.cls := findClass_of_methodNamed Bd.named
  have hnm := (name_of_methodNamed Bd.named Bd.method).1
  have X0 : Stand p l e ({ frames := 1, cells := 0, slots := 0, locals := 12 } : Room) s m #[(.ref a), (.ref b)] below meth c s₁ [] 0 0 := Stand.of_body Bd
  have e0 : s₁.heap = h0 := by rw [← hh, Bd.state]; rfl
  have N0 := Fr.nil n0
  have K0 : Keep h0 h0 [a] := Keep.refl h0 _
  refine Go.enter (P := fun o U' => ∃ vv_ LL_, o = .returned vv_ ∧ Q2 Z a b h0 n0 vv_ U'.heap LL_ ∧ FrameEnd s o U' LL_ ({ frames := 1, cells := 0, slots := 0, locals := 12 } : Room).cells ({ frames := 1, cells := 0, slots := 0, locals := 12 } : Room).slots) (ef_2 m a b) ?_
  show Go p e below s₁ (mkF m 0 #[.val (.ref a), .val (.ref b)] []) _
  refine Go.of (fun tg_ kk_ => XS.aloadN X0.here hx rfl (hb hby d2_0) rfl rfl kk_) ?_
  show Go p e below s₁ (mkF m 1 #[.val (.ref a), .val (.ref b)] [(.ref a)]) _
  obtain ⟨T1, X1, e1, st1⟩ := initO X0 hx hZ hown (hw _ (List.mem_of_getElem? (i := 20) rfl)) (hw _ (List.mem_of_getElem? (i := 21) rfl)) (hw _ (List.mem_of_getElem? (i := 22) rfl)) e0 (g := (mkF m 1 #[.val (.ref a), .val (.ref b)] [(.ref a)])) rfl (by rw [hml]; rfl) rfl (hb hby d2_1) (by decide) (W := 0) (by show 2 * 0 + _ ≤ _; exact Nat.le_of_eq rfl) (by decide)
  refine Go.of (st1) ?_
  show Go p e below T1 (mkF m 4 #[.val (.ref a), .val (.ref b)] []) _
  refine Go.of (fun tg_ kk_ => XS.aloadN X1.here hx rfl (hb hby d2_4) rfl rfl kk_) ?_
  show Go p e below T1 (mkF m 5 #[.val (.ref a), .val (.ref b)] [(.ref a)]) _
  refine Go.of (fun tg_ kk_ => XS.aloadN X1.here hx rfl (hb hby d2_5) rfl rfl kk_) ?_
  show Go p e below T1 (mkF m 6 #[.val (.ref a), .val (.ref b)] [(.ref b), (.ref a)]) _
  obtain ⟨T2, h2, X2, e2, W2, st2⟩ := putF X1 hx hZ hown (host := "") (Or.inl (hw _ (List.mem_of_getElem? (i := 23) rfl))) Via.refl e1 Fsql E_a (Or.inr ⟨(hw _ (List.mem_of_getElem? (i := 24) rfl)), rfl, hnm⟩) (hw _ (List.mem_of_getElem? (i := 2) rfl)) (ty := (.object "java/lang/String")) (by decide) rfl rfl (g := (mkF m 6 #[.val (.ref a), .val (.ref b)] [(.ref b), (.ref a)])) rfl rfl (hb hby d2_6)
  have Fw2 := Fsql.same W2
  have F3 := E_a.wr W2
  have F5 := Fdelimiter.other W2 (Or.inr (slot_ne (Or.inl (hw _ (List.mem_of_getElem? (i := 27) rfl))) (Or.inr (hw _ (List.mem_of_getElem? (i := 24) rfl))) (by decide) (t := (.object "java/lang/String")) (t' := (.object "java/lang/String")) (by decide) (by decide)))
  have F6 := FdelimiterBefore.other W2 (Or.inr (slot_ne (Or.inl (hw _ (List.mem_of_getElem? (i := 29) rfl))) (Or.inr (hw _ (List.mem_of_getElem? (i := 24) rfl))) (by decide) (t := (.object "java/lang/String")) (t' := (.object "java/lang/String")) (by decide) (by decide)))
  have K7 := K0.wr W2 (Or.inl (List.mem_of_getElem? (i := 0) rfl))
  have Zs8 : n0 ≤ h2.size := Nat.le_trans Z0 (Keep.of_wr W2).1
  have N2 := Fr.snoc X2 N0 g_a
  refine Go.of (st2) ?_
  show Go p e below T2 (mkF m 9 #[.val (.ref a), .val (.ref b)] []) _
  obtain ⟨fs, hr, hrun, hended, hW, hsame⟩ := X2.leave (v := none) (fun _ => rfl)
  refine ⟨_, _, ?_, hrun, hended, _, _, rfl, ?_, ⟨_, rfl⟩, hW, hsame.mono (by decide) (by decide)⟩
  · exact X2.returnOut hx Bd.returns (hb hby d2_9) hr
  · show Q2 Z a b h0 n0 _ T2.heap _
    rw [e2]
    exact ⟨rfl, N2, K7, F5, F6⟩
theorem d1_0 : decode prog_21_method_1_code 0 = .ok (.aload_n 0, 1) := by decide +kernel
theorem d1_1 : decode prog_21_method_1_code 1 = .ok (.aload_n 1, 1) := by decide +kernel
theorem d1_2 : decode prog_21_method_1_code 2 = .ok (.invokespecial 1, 3) := by decide +kernel
theorem d1_5 : decode prog_21_method_1_code 5 = .ok (.aload_n 0, 1) := by decide +kernel
theorem d1_6 : decode prog_21_method_1_code 6 = .ok (.ldc 9, 2) := by decide +kernel
theorem d1_8 : decode prog_21_method_1_code 8 = .ok (.putfield 11, 3) := by decide +kernel
theorem d1_11 : decode prog_21_method_1_code 11 = .ok (.aload_n 0, 1) := by decide +kernel
theorem d1_12 : decode prog_21_method_1_code 12 = .ok (.ldc 9, 2) := by decide +kernel
theorem d1_14 : decode prog_21_method_1_code 14 = .ok (.putfield 15, 3) := by decide +kernel
theorem d1_17 : decode prog_21_method_1_code 17 = .ok (.return_, 1) := by decide +kernel
theorem ef_1 (m : MethodId) (x0 : Addr) (x1 : Addr) : entryFrame m #[(.ref x0), (.ref x1)] 2 = mkF m 0 #[.val (.ref x0), .val (.ref x1)] [] := by first | (simp [entryFrame, mkF, argsToLocals, Value.category]; done) | rfl
def Q1 (Z : State) (a : Addr) (b : Addr) (h0 : Heap) (n0 : Nat) (v : Option Value) (h : Heap) (L : List Loc) : Prop := v = none ∧ Fr n0 L ∧ Keep h0 h [a]
set_option maxRecDepth 65536 in
set_option maxHeartbeats 40000000 in
theorem rm1 (l : Launch) (Z : State) (a0 : Array Value) (hw : ∀ d ∈ tables_1, d.before a0 Z = true) (ws : List Jvm.Cond) (a : Addr) (b : Addr) (h0 : Heap) (n0 : Nat) (Z0 : n0 ≤ h0.size) (g_a : n0 ≤ a) (E_a : Exa Z h0 a "com/example/stairstep/stairstep/MariaDbScript") (Fsql : Fld Z h0 a "com/example/stairstep/stairstep/Script" "sql" "Ljava/lang/String;" .null) (Fdelimiter : Fld Z h0 a "com/example/stairstep/stairstep/MariaDbScript" "delimiter" "Ljava/lang/String;" .null) (FdelimiterBefore : Fld Z h0 a "com/example/stairstep/stairstep/MariaDbScript" "delimiterBefore" "Ljava/lang/String;" .null) :
    MetFree l (⟨"com/example/stairstep/stairstep/MariaDbScript", "<init>", "(Ljava/lang/String;)V"⟩ : MethodName) (head1 (Jvm.Cond.code (⟨"com/example/stairstep/stairstep/MariaDbScript", "<init>", "(Ljava/lang/String;)V"⟩ : MethodName) prog_21_method_1_code 2 none :: ws) ({ frames := 2, cells := 4, slots := 16, locals := 25 } : Room)) (fun aa_ U => aa_ = #[(.ref a), (.ref b)] ∧ Z.Warmed39 U.vm ∧ U.heap = h0) (fun _ _ _ _ _ => True) (fun _ U o U' => ∃ vv_ LL_, o = .returned vv_ ∧ Q1 Z a b h0 n0 vv_ U'.heap LL_ ∧ ReturnedEndW U o U' LL_ ({ frames := 2, cells := 4, slots := 16, locals := 25 } : Room).cells ({ frames := 2, cells := 4, slots := 16, locals := 25 } : Room).slots) := by
  refine MetFree.of_bodySF (plainFor_of_name pn_1) hisR ?_
  intro p e s m args below meth c s₁ Bd hml0 hP hK
  obtain ⟨rfl, hZ, hh⟩ := hP
  have hx := Bd.exec
  have hby := Bd.bytes
  have hml : c.maxLocals = 2 := hml0
  have hown : s.vm.findClass "com/example/stairstep/stairstep/MariaDbScript" = some m.cls := findClass_of_methodNamed Bd.named
  have hnm := (name_of_methodNamed Bd.named Bd.method).1
  have X0 : Stand p l e ({ frames := 2, cells := 4, slots := 16, locals := 25 } : Room) (s.setVm s.vm) m #[(.ref a), (.ref b)] below meth c s₁ [] 0 0 := Stand.of_body Bd
  have e0 : s₁.heap = h0 := by rw [← hh, Bd.state]; rfl
  have N0 := Fr.nil n0
  have K0 : Keep h0 h0 [a] := Keep.refl h0 _
  have hS0 : s.Since s.vm h0.size := (State.WarmedH.refl s).since _
  have hk0 : h0.size ≤ h0.size := Nat.le_refl _
  have wS : ∀ a ∈ Bundle.stringAtoms, a.before a0 Z = true := by
    intro d hd
    simp only [Bundle.stringAtoms, List.mem_cons, List.not_mem_nil, or_false] at hd
    rcases hd with rfl | rfl | rfl | rfl | rfl | rfl | rfl
    · exact (hw _ (List.mem_of_getElem? (i := 5) rfl))
    · exact (hw _ (List.mem_of_getElem? (i := 6) rfl))
    · exact (hw _ (List.mem_of_getElem? (i := 7) rfl))
    · exact (hw _ (List.mem_of_getElem? (i := 8) rfl))
    · exact (hw _ (List.mem_of_getElem? (i := 9) rfl))
    · exact (hw _ (List.mem_of_getElem? (i := 10) rfl))
    · exact (hw _ (List.mem_of_getElem? (i := 11) rfl))
  refine Go.enter (P := fun o U' => ∃ vv_ LL_, o = .returned vv_ ∧ Q1 Z a b h0 n0 vv_ U'.heap LL_ ∧ ReturnedEndW s o U' LL_ ({ frames := 2, cells := 4, slots := 16, locals := 25 } : Room).cells ({ frames := 2, cells := 4, slots := 16, locals := 25 } : Room).slots) (ef_1 m a b) ?_
  show Go p e below s₁ (mkF m 0 #[.val (.ref a), .val (.ref b)] []) _
  refine Go.of (fun tg_ kk_ => XS.aloadN X0.here hx rfl (hb hby d1_0) rfl rfl kk_) ?_
  show Go p e below s₁ (mkF m 1 #[.val (.ref a), .val (.ref b)] [(.ref a)]) _
  refine Go.of (fun tg_ kk_ => XS.aloadN X0.here hx rfl (hb hby d1_1) rfl rfl kk_) ?_
  show Go p e below s₁ (mkF m 2 #[.val (.ref a), .val (.ref b)] [(.ref b), (.ref a)]) _
  obtain ⟨_, _, ⟨T1, L1, k1, n1⟩, -, X1, ⟨Lc1, hQ1, l1, y1, z1⟩, st1⟩ := X0.specialBack hx (y := (⟨"com/example/stairstep/stairstep/Script", "<init>", "(Ljava/lang/String;)V"⟩ : MethodName)) rfl hown (mvT hZ (hw _ (List.mem_of_getElem? (i := 15) rfl))) (mvT hZ (hw _ (List.mem_of_getElem? (i := 16) rfl))) (mvT hZ (hw _ (List.mem_of_getElem? (i := 19) rfl))) (by decide) (backOf (W := 0) (rm2 l Z a0 hw [] a b h0 n0 Z0 g_a E_a Fsql Fdelimiter FdelimiterBefore) hZ (hw _ (List.mem_of_getElem? (i := 19) rfl)) (hw _ (List.mem_of_getElem? (i := 18) rfl)) (by decide) (by decide)) (g := (mkF m 2 #[.val (.ref a), .val (.ref b)] [(.ref b), (.ref a)])) rfl (by rw [hml]; rfl) (Steps.refl _) (a := a) (argsL := [(.ref b)]) (rest := []) (lenOf pd_0 rfl) rfl (by show 2 * 0 + _ ≤ _; exact Nat.le_of_eq rfl) (hb hby d1_2) (fun _ _ => ⟨rfl, e0, (by decide : 0 + 0 ≤ _), (by decide : 0 + 0 ≤ _)⟩)
  dsimp only [Pt.U, Pt.locs, Pt.cells, Pt.slots] at X1 l1 y1 z1 st1 hQ1
  subst l1 y1 z1
  obtain ⟨rfl, N1q, K1q, F1a, F1b⟩ := hQ1
  have N1 := Fr.app N0 N1q
  have F2 := E_a.keep K1q
  have K6 := K0.trans K1q (allS (Or.inl (List.mem_of_getElem? (i := 0) rfl)) all0)
  have Zs7 : n0 ≤ T1.heap.size := Nat.le_trans Z0 K1q.1
  have hk8 := Nat.le_trans hk0 K1q.1
  refine Go.of (fun tg_ kk_ => st1.trans kk_) ?_
  show Go p e below T1 (mkF m 5 #[.val (.ref a), .val (.ref b)] []) _
  refine Go.of (fun tg_ kk_ => XS.aloadN X1.here hx rfl (hb hby d1_5) rfl rfl kk_) ?_
  show Go p e below T1 (mkF m 6 #[.val (.ref a), .val (.ref b)] [(.ref a)]) _
  obtain ⟨sa9, T9, h9, kk9, X9, e9, E9, hS9, hj9, hZ9, hown9, st9⟩ := ldcS X1 hx hZ hown (hw _ (List.mem_of_getElem? (i := 25) rfl)) wS rfl hS0 hk8 (g := (mkF m 6 #[.val (.ref a), .val (.ref b)] [(.ref a)])) rfl (hb hby d1_6) (n := 4) (by decide +kernel) (by decide) (by decide) (by decide)
  have F10 := F2.ext E9
  have F11 := F1a.ext E9
  have F12 := F1b.ext E9
  have K13 := K6.ext E9
  have Zs14 : n0 ≤ h9.size := Nat.le_trans Zs7 E9.1
  have hk15 := Nat.le_trans hk8 E9.1
  refine Go.of (st9) ?_
  show Go p e below T9 (mkF m 8 #[.val (.ref a), .val (.ref b)] [(.ref sa9), (.ref a)]) _
  obtain ⟨T16, h16, X16, e16, W16, st16⟩ := putF X9 hx hZ9 hown9 (host := "") (Or.inl (hw _ (List.mem_of_getElem? (i := 26) rfl))) Via.refl e9 F11 F10 (Or.inl (hw _ (List.mem_of_getElem? (i := 27) rfl))) (hw _ (List.mem_of_getElem? (i := 2) rfl)) (ty := (.object "java/lang/String")) (by decide) rfl rfl (g := (mkF m 8 #[.val (.ref a), .val (.ref b)] [(.ref sa9), (.ref a)])) rfl rfl (hb hby d1_8)
  have Fw16 := F11.same W16
  have F17 := F10.wr W16
  have F19 := F12.other W16 (Or.inr (slot_ne (Or.inl (hw _ (List.mem_of_getElem? (i := 29) rfl))) (Or.inl (hw _ (List.mem_of_getElem? (i := 27) rfl))) (by decide) (t := (.object "java/lang/String")) (t' := (.object "java/lang/String")) (by decide) (by decide)))
  have K20 := K13.wr W16 (Or.inl (List.mem_of_getElem? (i := 0) rfl))
  have Zs21 : n0 ≤ h16.size := Nat.le_trans Zs14 (Keep.of_wr W16).1
  have hk22 := Nat.le_trans hj9 (Keep.of_wr W16).1
  have N16 := Fr.snoc X16 N1 g_a
  refine Go.of (st16) ?_
  show Go p e below T16 (mkF m 11 #[.val (.ref a), .val (.ref b)] []) _
  refine Go.of (fun tg_ kk_ => XS.aloadN X16.here hx rfl (hb hby d1_11) rfl rfl kk_) ?_
  show Go p e below T16 (mkF m 12 #[.val (.ref a), .val (.ref b)] [(.ref a)]) _
  obtain ⟨sa23, T23, h23, kk23, X23, e23, E23, hS23, hj23, hZ23, hown23, st23⟩ := ldcS X16 hx hZ9 hown9 (hw _ (List.mem_of_getElem? (i := 25) rfl)) wS e16 hS9 hk22 (g := (mkF m 12 #[.val (.ref a), .val (.ref b)] [(.ref a)])) rfl (hb hby d1_12) (n := 4) (by decide +kernel) (by decide) (by decide) (by decide)
  have F24 := F17.ext E23
  have F25 := F19.ext E23
  have F26 := Fw16.ext E23
  have K27 := K20.ext E23
  have Zs28 : n0 ≤ h23.size := Nat.le_trans Zs21 E23.1
  have hk29 := Nat.le_trans hk22 E23.1
  refine Go.of (st23) ?_
  show Go p e below T23 (mkF m 14 #[.val (.ref a), .val (.ref b)] [(.ref sa23), (.ref a)]) _
  obtain ⟨T30, h30, X30, e30, W30, st30⟩ := putF X23 hx hZ23 hown23 (host := "") (Or.inl (hw _ (List.mem_of_getElem? (i := 28) rfl))) Via.refl e23 F25 F24 (Or.inl (hw _ (List.mem_of_getElem? (i := 29) rfl))) (hw _ (List.mem_of_getElem? (i := 2) rfl)) (ty := (.object "java/lang/String")) (by decide) rfl rfl (g := (mkF m 14 #[.val (.ref a), .val (.ref b)] [(.ref sa23), (.ref a)])) rfl rfl (hb hby d1_14)
  have Fw30 := F25.same W30
  have F31 := F24.wr W30
  have F33 := F26.other W30 (Or.inr (slot_ne (Or.inl (hw _ (List.mem_of_getElem? (i := 27) rfl))) (Or.inl (hw _ (List.mem_of_getElem? (i := 29) rfl))) (by decide) (t := (.object "java/lang/String")) (t' := (.object "java/lang/String")) (by decide) (by decide)))
  have K34 := K27.wr W30 (Or.inl (List.mem_of_getElem? (i := 0) rfl))
  have Zs35 : n0 ≤ h30.size := Nat.le_trans Zs28 (Keep.of_wr W30).1
  have hk36 := Nat.le_trans hj23 (Keep.of_wr W30).1
  have N30 := Fr.snoc X30 N16 g_a
  refine Go.of (st30) ?_
  show Go p e below T30 (mkF m 17 #[.val (.ref a), .val (.ref b)] []) _
  obtain ⟨fs, hr, hrun, hended, hend⟩ := X30.leaveW hS23 (by rw [e30]; exact hk36) (v := none) (fun _ => rfl)
  refine ⟨_, _, ?_, hrun, hended, _, _, rfl, ?_, hend.1, hend.2.1, hend.2.2.1, hend.2.2.2.mono (by decide) (by decide)⟩
  · exact X30.returnOut hx Bd.returns (hb hby d1_17) hr
  · show Q1 Z a b h0 n0 _ T30.heap _
    rw [e30]
    exact ⟨rfl, N30, K34⟩
def blankF (x : Int32) : Int32 := if x = (32 : Int32) then (1 : Int32) else if x = (9 : Int32) then (1 : Int32) else if x = (10 : Int32) then (1 : Int32) else if x = (13 : Int32) then (1 : Int32) else if x = (12 : Int32) then (1 : Int32) else if x = (11 : Int32) then (1 : Int32) else (0 : Int32)
theorem own_9 : (9 : Int32).toInt = 9 := by decide
theorem own_10 : (10 : Int32).toInt = 10 := by decide
theorem own_11 : (11 : Int32).toInt = 11 := by decide
theorem own_12 : (12 : Int32).toInt = 12 := by decide
theorem own_13 : (13 : Int32).toInt = 13 := by decide
theorem own_32 : (32 : Int32).toInt = 32 := by decide
theorem own_b1 (x : Int32) (h : (9 ≤ x.toInt ∧ x.toInt ≤ 13) ∨ x.toInt = 32) : blankF x = 1 := by
  simp only [blankF, ← Int32.toInt_inj, own_9, own_10, own_11, own_12, own_13, own_32]
  repeat' split
  all_goals first | rfl | (exfalso; omega)
theorem own_b0 (x : Int32) (h : ¬ ((9 ≤ x.toInt ∧ x.toInt ≤ 13) ∨ x.toInt = 32)) : blankF x = 0 := by
  simp only [blankF, ← Int32.toInt_inj, own_9, own_10, own_11, own_12, own_13, own_32]
  repeat' split
  all_goals first | rfl | (exfalso; omega)
theorem d4_0 : decode prog_21_method_24_code 0 = .ok (.iload_n 1, 1) := by decide +kernel
theorem d4_1 : decode prog_21_method_24_code 1 = .ok (.bipush 32, 2) := by decide +kernel
theorem d4_3 : decode prog_21_method_24_code 3 = .ok (.if_icmp .eq 33, 3) := by decide +kernel
theorem d4_6 : decode prog_21_method_24_code 6 = .ok (.iload_n 1, 1) := by decide +kernel
theorem d4_7 : decode prog_21_method_24_code 7 = .ok (.bipush 9, 2) := by decide +kernel
theorem d4_9 : decode prog_21_method_24_code 9 = .ok (.if_icmp .eq 27, 3) := by decide +kernel
theorem d4_12 : decode prog_21_method_24_code 12 = .ok (.iload_n 1, 1) := by decide +kernel
theorem d4_13 : decode prog_21_method_24_code 13 = .ok (.bipush 10, 2) := by decide +kernel
theorem d4_15 : decode prog_21_method_24_code 15 = .ok (.if_icmp .eq 21, 3) := by decide +kernel
theorem d4_18 : decode prog_21_method_24_code 18 = .ok (.iload_n 1, 1) := by decide +kernel
theorem d4_19 : decode prog_21_method_24_code 19 = .ok (.bipush 13, 2) := by decide +kernel
theorem d4_21 : decode prog_21_method_24_code 21 = .ok (.if_icmp .eq 15, 3) := by decide +kernel
theorem d4_24 : decode prog_21_method_24_code 24 = .ok (.iload_n 1, 1) := by decide +kernel
theorem d4_25 : decode prog_21_method_24_code 25 = .ok (.bipush 12, 2) := by decide +kernel
theorem d4_27 : decode prog_21_method_24_code 27 = .ok (.if_icmp .eq 9, 3) := by decide +kernel
theorem d4_30 : decode prog_21_method_24_code 30 = .ok (.iload_n 1, 1) := by decide +kernel
theorem d4_31 : decode prog_21_method_24_code 31 = .ok (.bipush 11, 2) := by decide +kernel
theorem d4_33 : decode prog_21_method_24_code 33 = .ok (.if_icmp .ne 7, 3) := by decide +kernel
theorem d4_36 : decode prog_21_method_24_code 36 = .ok (.iconst 1, 1) := by decide +kernel
theorem d4_37 : decode prog_21_method_24_code 37 = .ok (.goto 4, 3) := by decide +kernel
theorem d4_40 : decode prog_21_method_24_code 40 = .ok (.iconst 0, 1) := by decide +kernel
theorem d4_41 : decode prog_21_method_24_code 41 = .ok (.ireturn, 1) := by decide +kernel
theorem ef_4 (m : MethodId) (x0 : Addr) (x1 : Int32) : entryFrame m #[(.ref x0), (.int x1)] 2 = mkF m 0 #[.val (.ref x0), .val (.int x1)] [] := by first | (simp [entryFrame, mkF, argsToLocals, Value.category]; done) | rfl
def Q4 (Z : State) (a : Addr) (x : Int32) (h0 : Heap) (n0 : Nat) (v : Option Value) (h : Heap) (L : List Loc) : Prop := v = some (.int (blankF x)) ∧ Fr n0 L ∧ h = h0
set_option maxRecDepth 65536 in
set_option maxHeartbeats 40000000 in
theorem rm4 (l : Launch) (Z : State) (a0 : Array Value) (hw : ∀ d ∈ tables_1, d.before a0 Z = true) (ws : List Jvm.Cond) (a : Addr) (x : Int32) (h0 : Heap) (n0 : Nat) (Z0 : n0 ≤ h0.size) :
    MetFree l (⟨"com/example/stairstep/stairstep/MariaDbScript", "blank", "(C)Z"⟩ : MethodName) (head1 (Jvm.Cond.code (⟨"com/example/stairstep/stairstep/MariaDbScript", "blank", "(C)Z"⟩ : MethodName) prog_21_method_24_code 2 (some .boolean) :: ws) ({ frames := 0, cells := 0, slots := 0, locals := 0 } : Room)) (fun aa_ U => aa_ = #[(.ref a), (.int x)] ∧ Z.Warmed39 U.vm ∧ U.heap = h0) (fun _ _ _ _ _ => True) (fun _ U o U' => ∃ vv_ LL_, o = .returned vv_ ∧ Q4 Z a x h0 n0 vv_ U'.heap LL_ ∧ FrameEnd U o U' LL_ ({ frames := 0, cells := 0, slots := 0, locals := 0 } : Room).cells ({ frames := 0, cells := 0, slots := 0, locals := 0 } : Room).slots) := by
  refine MetFree.of_bodySF (plainFor_of_name pn_1) hisR ?_
  intro p e s m args below meth c s₁ Bd hml0 hP hK
  obtain ⟨rfl, hZ, hh⟩ := hP
  have hx := Bd.exec
  have hby := Bd.bytes
  have hml : c.maxLocals = 2 := hml0
  have hown : s.vm.findClass "com/example/stairstep/stairstep/MariaDbScript" = some m.cls := findClass_of_methodNamed Bd.named
  have hnm := (name_of_methodNamed Bd.named Bd.method).1
  have X0 : Stand p l e ({ frames := 0, cells := 0, slots := 0, locals := 0 } : Room) s m #[(.ref a), (.int x)] below meth c s₁ [] 0 0 := Stand.of_body Bd
  have e0 : s₁.heap = h0 := by rw [← hh, Bd.state]; rfl
  have N0 := Fr.nil n0
  have K0 : Keep h0 h0 [] := Keep.refl h0 _
  refine Go.enter (P := fun o U' => ∃ vv_ LL_, o = .returned vv_ ∧ Q4 Z a x h0 n0 vv_ U'.heap LL_ ∧ FrameEnd s o U' LL_ ({ frames := 0, cells := 0, slots := 0, locals := 0 } : Room).cells ({ frames := 0, cells := 0, slots := 0, locals := 0 } : Room).slots) (ef_4 m a x) ?_
  show Go p e below s₁ (mkF m 0 #[.val (.ref a), .val (.int x)] []) _
  refine Go.of (fun tg_ kk_ => XS.iloadN X0.here hx rfl (hb hby d4_0) rfl kk_) ?_
  show Go p e below s₁ (mkF m 1 #[.val (.ref a), .val (.int x)] [(.int x)]) _
  refine Go.of (fun tg_ kk_ => XS.bipush X0.here hx rfl (hb hby d4_1) kk_) ?_
  show Go p e below s₁ (mkF m 3 #[.val (.ref a), .val (.int x)] [(.int (32 : Int32)), (.int x)]) _
  by_cases hc1 : x = (32 : Int32)
  · skip
    refine Go.of (fun tg_ kk_ => XS.icmpYes X0.here hx rfl (pc0 := 3) (pc' := 36) rfl (hb hby d4_3) rfl (teq hc1).1 (by decide) (by decide) kk_) ?_
    show Go p e below s₁ (mkF m 36 #[.val (.ref a), .val (.int x)] []) _
    refine Go.of (fun tg_ kk_ => XS.iconst X0.here hx rfl (hb hby d4_36) kk_) ?_
    show Go p e below s₁ (mkF m 37 #[.val (.ref a), .val (.int x)] [(.int (1 : Int32))]) _
    refine Go.of (fun tg_ kk_ => XS.goto X0.here hx rfl (pc0 := 37) (pc' := 41) rfl (hb hby d4_37) (by decide) (by decide) kk_) ?_
    show Go p e below s₁ (mkF m 41 #[.val (.ref a), .val (.int x)] [(.int (1 : Int32))]) _
    obtain ⟨fs, hr, hrun, hended, hW, hsame⟩ := X0.leave (v := some (.int (1 : Int32))) (fun h => by rw [Bd.returns] at h; cases h)
    refine ⟨_, _, ?_, hrun, hended, _, _, rfl, ?_, ⟨_, rfl⟩, hW, hsame.mono (by decide) (by decide)⟩
    · exact retN X0 hx (t := .boolean) Bd.returns (by simp) (hb hby d4_41) hr
    · show Q4 Z a x h0 n0 _ s₁.heap _
      rw [e0]
      exact ⟨by simp [blankF, hc1], N0, rfl⟩
  · skip
    refine Go.of (fun tg_ kk_ => XS.icmpNo X0.here hx rfl (hb hby d4_3) rfl (feq hc1).1 kk_) ?_
    show Go p e below s₁ (mkF m 6 #[.val (.ref a), .val (.int x)] []) _
    refine Go.of (fun tg_ kk_ => XS.iloadN X0.here hx rfl (hb hby d4_6) rfl kk_) ?_
    show Go p e below s₁ (mkF m 7 #[.val (.ref a), .val (.int x)] [(.int x)]) _
    refine Go.of (fun tg_ kk_ => XS.bipush X0.here hx rfl (hb hby d4_7) kk_) ?_
    show Go p e below s₁ (mkF m 9 #[.val (.ref a), .val (.int x)] [(.int (9 : Int32)), (.int x)]) _
    by_cases hc2 : x = (9 : Int32)
    · skip
      refine Go.of (fun tg_ kk_ => XS.icmpYes X0.here hx rfl (pc0 := 9) (pc' := 36) rfl (hb hby d4_9) rfl (teq hc2).1 (by decide) (by decide) kk_) ?_
      show Go p e below s₁ (mkF m 36 #[.val (.ref a), .val (.int x)] []) _
      refine Go.of (fun tg_ kk_ => XS.iconst X0.here hx rfl (hb hby d4_36) kk_) ?_
      show Go p e below s₁ (mkF m 37 #[.val (.ref a), .val (.int x)] [(.int (1 : Int32))]) _
      refine Go.of (fun tg_ kk_ => XS.goto X0.here hx rfl (pc0 := 37) (pc' := 41) rfl (hb hby d4_37) (by decide) (by decide) kk_) ?_
      show Go p e below s₁ (mkF m 41 #[.val (.ref a), .val (.int x)] [(.int (1 : Int32))]) _
      obtain ⟨fs, hr, hrun, hended, hW, hsame⟩ := X0.leave (v := some (.int (1 : Int32))) (fun h => by rw [Bd.returns] at h; cases h)
      refine ⟨_, _, ?_, hrun, hended, _, _, rfl, ?_, ⟨_, rfl⟩, hW, hsame.mono (by decide) (by decide)⟩
      · exact retN X0 hx (t := .boolean) Bd.returns (by simp) (hb hby d4_41) hr
      · show Q4 Z a x h0 n0 _ s₁.heap _
        rw [e0]
        exact ⟨by simp [blankF, hc1, hc2], N0, rfl⟩
    · skip
      refine Go.of (fun tg_ kk_ => XS.icmpNo X0.here hx rfl (hb hby d4_9) rfl (feq hc2).1 kk_) ?_
      show Go p e below s₁ (mkF m 12 #[.val (.ref a), .val (.int x)] []) _
      refine Go.of (fun tg_ kk_ => XS.iloadN X0.here hx rfl (hb hby d4_12) rfl kk_) ?_
      show Go p e below s₁ (mkF m 13 #[.val (.ref a), .val (.int x)] [(.int x)]) _
      refine Go.of (fun tg_ kk_ => XS.bipush X0.here hx rfl (hb hby d4_13) kk_) ?_
      show Go p e below s₁ (mkF m 15 #[.val (.ref a), .val (.int x)] [(.int (10 : Int32)), (.int x)]) _
      by_cases hc3 : x = (10 : Int32)
      · skip
        refine Go.of (fun tg_ kk_ => XS.icmpYes X0.here hx rfl (pc0 := 15) (pc' := 36) rfl (hb hby d4_15) rfl (teq hc3).1 (by decide) (by decide) kk_) ?_
        show Go p e below s₁ (mkF m 36 #[.val (.ref a), .val (.int x)] []) _
        refine Go.of (fun tg_ kk_ => XS.iconst X0.here hx rfl (hb hby d4_36) kk_) ?_
        show Go p e below s₁ (mkF m 37 #[.val (.ref a), .val (.int x)] [(.int (1 : Int32))]) _
        refine Go.of (fun tg_ kk_ => XS.goto X0.here hx rfl (pc0 := 37) (pc' := 41) rfl (hb hby d4_37) (by decide) (by decide) kk_) ?_
        show Go p e below s₁ (mkF m 41 #[.val (.ref a), .val (.int x)] [(.int (1 : Int32))]) _
        obtain ⟨fs, hr, hrun, hended, hW, hsame⟩ := X0.leave (v := some (.int (1 : Int32))) (fun h => by rw [Bd.returns] at h; cases h)
        refine ⟨_, _, ?_, hrun, hended, _, _, rfl, ?_, ⟨_, rfl⟩, hW, hsame.mono (by decide) (by decide)⟩
        · exact retN X0 hx (t := .boolean) Bd.returns (by simp) (hb hby d4_41) hr
        · show Q4 Z a x h0 n0 _ s₁.heap _
          rw [e0]
          exact ⟨by simp [blankF, hc1, hc2, hc3], N0, rfl⟩
      · skip
        refine Go.of (fun tg_ kk_ => XS.icmpNo X0.here hx rfl (hb hby d4_15) rfl (feq hc3).1 kk_) ?_
        show Go p e below s₁ (mkF m 18 #[.val (.ref a), .val (.int x)] []) _
        refine Go.of (fun tg_ kk_ => XS.iloadN X0.here hx rfl (hb hby d4_18) rfl kk_) ?_
        show Go p e below s₁ (mkF m 19 #[.val (.ref a), .val (.int x)] [(.int x)]) _
        refine Go.of (fun tg_ kk_ => XS.bipush X0.here hx rfl (hb hby d4_19) kk_) ?_
        show Go p e below s₁ (mkF m 21 #[.val (.ref a), .val (.int x)] [(.int (13 : Int32)), (.int x)]) _
        by_cases hc4 : x = (13 : Int32)
        · skip
          refine Go.of (fun tg_ kk_ => XS.icmpYes X0.here hx rfl (pc0 := 21) (pc' := 36) rfl (hb hby d4_21) rfl (teq hc4).1 (by decide) (by decide) kk_) ?_
          show Go p e below s₁ (mkF m 36 #[.val (.ref a), .val (.int x)] []) _
          refine Go.of (fun tg_ kk_ => XS.iconst X0.here hx rfl (hb hby d4_36) kk_) ?_
          show Go p e below s₁ (mkF m 37 #[.val (.ref a), .val (.int x)] [(.int (1 : Int32))]) _
          refine Go.of (fun tg_ kk_ => XS.goto X0.here hx rfl (pc0 := 37) (pc' := 41) rfl (hb hby d4_37) (by decide) (by decide) kk_) ?_
          show Go p e below s₁ (mkF m 41 #[.val (.ref a), .val (.int x)] [(.int (1 : Int32))]) _
          obtain ⟨fs, hr, hrun, hended, hW, hsame⟩ := X0.leave (v := some (.int (1 : Int32))) (fun h => by rw [Bd.returns] at h; cases h)
          refine ⟨_, _, ?_, hrun, hended, _, _, rfl, ?_, ⟨_, rfl⟩, hW, hsame.mono (by decide) (by decide)⟩
          · exact retN X0 hx (t := .boolean) Bd.returns (by simp) (hb hby d4_41) hr
          · show Q4 Z a x h0 n0 _ s₁.heap _
            rw [e0]
            exact ⟨by simp [blankF, hc1, hc2, hc3, hc4], N0, rfl⟩
        · skip
          refine Go.of (fun tg_ kk_ => XS.icmpNo X0.here hx rfl (hb hby d4_21) rfl (feq hc4).1 kk_) ?_
          show Go p e below s₁ (mkF m 24 #[.val (.ref a), .val (.int x)] []) _
          refine Go.of (fun tg_ kk_ => XS.iloadN X0.here hx rfl (hb hby d4_24) rfl kk_) ?_
          show Go p e below s₁ (mkF m 25 #[.val (.ref a), .val (.int x)] [(.int x)]) _
          refine Go.of (fun tg_ kk_ => XS.bipush X0.here hx rfl (hb hby d4_25) kk_) ?_
          show Go p e below s₁ (mkF m 27 #[.val (.ref a), .val (.int x)] [(.int (12 : Int32)), (.int x)]) _
          by_cases hc5 : x = (12 : Int32)
          · skip
            refine Go.of (fun tg_ kk_ => XS.icmpYes X0.here hx rfl (pc0 := 27) (pc' := 36) rfl (hb hby d4_27) rfl (teq hc5).1 (by decide) (by decide) kk_) ?_
            show Go p e below s₁ (mkF m 36 #[.val (.ref a), .val (.int x)] []) _
            refine Go.of (fun tg_ kk_ => XS.iconst X0.here hx rfl (hb hby d4_36) kk_) ?_
            show Go p e below s₁ (mkF m 37 #[.val (.ref a), .val (.int x)] [(.int (1 : Int32))]) _
            refine Go.of (fun tg_ kk_ => XS.goto X0.here hx rfl (pc0 := 37) (pc' := 41) rfl (hb hby d4_37) (by decide) (by decide) kk_) ?_
            show Go p e below s₁ (mkF m 41 #[.val (.ref a), .val (.int x)] [(.int (1 : Int32))]) _
            obtain ⟨fs, hr, hrun, hended, hW, hsame⟩ := X0.leave (v := some (.int (1 : Int32))) (fun h => by rw [Bd.returns] at h; cases h)
            refine ⟨_, _, ?_, hrun, hended, _, _, rfl, ?_, ⟨_, rfl⟩, hW, hsame.mono (by decide) (by decide)⟩
            · exact retN X0 hx (t := .boolean) Bd.returns (by simp) (hb hby d4_41) hr
            · show Q4 Z a x h0 n0 _ s₁.heap _
              rw [e0]
              exact ⟨by simp [blankF, hc1, hc2, hc3, hc4, hc5], N0, rfl⟩
          · skip
            refine Go.of (fun tg_ kk_ => XS.icmpNo X0.here hx rfl (hb hby d4_27) rfl (feq hc5).1 kk_) ?_
            show Go p e below s₁ (mkF m 30 #[.val (.ref a), .val (.int x)] []) _
            refine Go.of (fun tg_ kk_ => XS.iloadN X0.here hx rfl (hb hby d4_30) rfl kk_) ?_
            show Go p e below s₁ (mkF m 31 #[.val (.ref a), .val (.int x)] [(.int x)]) _
            refine Go.of (fun tg_ kk_ => XS.bipush X0.here hx rfl (hb hby d4_31) kk_) ?_
            show Go p e below s₁ (mkF m 33 #[.val (.ref a), .val (.int x)] [(.int (11 : Int32)), (.int x)]) _
            by_cases hc6 : x = (11 : Int32)
            · skip
              refine Go.of (fun tg_ kk_ => XS.icmpNo X0.here hx rfl (hb hby d4_33) rfl (teq hc6).2 kk_) ?_
              show Go p e below s₁ (mkF m 36 #[.val (.ref a), .val (.int x)] []) _
              refine Go.of (fun tg_ kk_ => XS.iconst X0.here hx rfl (hb hby d4_36) kk_) ?_
              show Go p e below s₁ (mkF m 37 #[.val (.ref a), .val (.int x)] [(.int (1 : Int32))]) _
              refine Go.of (fun tg_ kk_ => XS.goto X0.here hx rfl (pc0 := 37) (pc' := 41) rfl (hb hby d4_37) (by decide) (by decide) kk_) ?_
              show Go p e below s₁ (mkF m 41 #[.val (.ref a), .val (.int x)] [(.int (1 : Int32))]) _
              obtain ⟨fs, hr, hrun, hended, hW, hsame⟩ := X0.leave (v := some (.int (1 : Int32))) (fun h => by rw [Bd.returns] at h; cases h)
              refine ⟨_, _, ?_, hrun, hended, _, _, rfl, ?_, ⟨_, rfl⟩, hW, hsame.mono (by decide) (by decide)⟩
              · exact retN X0 hx (t := .boolean) Bd.returns (by simp) (hb hby d4_41) hr
              · show Q4 Z a x h0 n0 _ s₁.heap _
                rw [e0]
                exact ⟨by simp [blankF, hc1, hc2, hc3, hc4, hc5, hc6], N0, rfl⟩
            · skip
              refine Go.of (fun tg_ kk_ => XS.icmpYes X0.here hx rfl (pc0 := 33) (pc' := 40) rfl (hb hby d4_33) rfl (feq hc6).2 (by decide) (by decide) kk_) ?_
              show Go p e below s₁ (mkF m 40 #[.val (.ref a), .val (.int x)] []) _
              refine Go.of (fun tg_ kk_ => XS.iconst X0.here hx rfl (hb hby d4_40) kk_) ?_
              show Go p e below s₁ (mkF m 41 #[.val (.ref a), .val (.int x)] [(.int (0 : Int32))]) _
              obtain ⟨fs, hr, hrun, hended, hW, hsame⟩ := X0.leave (v := some (.int (0 : Int32))) (fun h => by rw [Bd.returns] at h; cases h)
              refine ⟨_, _, ?_, hrun, hended, _, _, rfl, ?_, ⟨_, rfl⟩, hW, hsame.mono (by decide) (by decide)⟩
              · exact retN X0 hx (t := .boolean) Bd.returns (by simp) (hb hby d4_41) hr
              · show Q4 Z a x h0 n0 _ s₁.heap _
                rw [e0]
                exact ⟨by simp [blankF, hc1, hc2, hc3, hc4, hc5, hc6], N0, rfl⟩
theorem ef_0 (m : MethodId) (x0 : Int32) : entryFrame m #[(.int x0)] maxLocals = mkF m 0 #[.val (.int x0), .unset, .unset, .unset] [] := by first | (simp [entryFrame, mkF, argsToLocals, Value.category, maxLocals]; done) | rfl
def Q0 (Z : State) (p0 : Int32) (h0 : Heap) (n0 : Nat) (v : Option Value) (h : Heap) (L : List Loc) : Prop := v = some (.int 1) ∧ Fr n0 L
set_option maxRecDepth 65536 in
set_option maxHeartbeats 40000000 in
theorem rm0 (l : Launch) (Z : State) (a0 : Array Value) (hw : ∀ d ∈ tables_1, d.before a0 Z = true) (ws : List Jvm.Cond) (p0 : Int32) (h0 : Heap) (n0 : Nat) (Z0 : n0 ≤ h0.size) :
    MetFree l x (head1 (Jvm.Cond.code x code maxLocals ret :: ws) room_1) (fun aa_ U => aa_ = #[(.int p0)] ∧ Z.Warmed39 U.vm ∧ U.heap = h0) (fun _ _ _ _ _ => True) (fun _ U o U' => ∃ vv_ LL_, o = .returned vv_ ∧ Q0 Z p0 h0 n0 vv_ U'.heap LL_ ∧ ReturnedEndW U o U' LL_ 16 2176) := by
  refine MetFree.of_bodySF (plainFor_of_name pn_2) hisR ?_
  intro p e s m args below meth c s₁ Bd hml0 hP hK
  obtain ⟨rfl, hZ, hh⟩ := hP
  have hx := Bd.exec
  have hby := Bd.bytes
  have hml : c.maxLocals = 4 := hml0
  have hown : s.vm.findClass "com/example/stairstep/stairstep/MariaDbScriptBlankPinLaw" = some m.cls := findClass_of_methodNamed Bd.named
  have hnm := (name_of_methodNamed Bd.named Bd.method).1
  have X0 : Stand p l e room_1 (s.setVm s.vm) m #[(.int p0)] below meth c s₁ [] 0 0 := Stand.of_body Bd
  have e0 : s₁.heap = h0 := by rw [← hh, Bd.state]; rfl
  have N0 := Fr.nil n0
  have K0 : Keep h0 h0 [] := Keep.refl h0 _
  have hS0 : s.Since s.vm h0.size := (State.WarmedH.refl s).since _
  have hk0 : h0.size ≤ h0.size := Nat.le_refl _
  have wS : ∀ a ∈ Bundle.stringAtoms, a.before a0 Z = true := by
    intro d hd
    simp only [Bundle.stringAtoms, List.mem_cons, List.not_mem_nil, or_false] at hd
    rcases hd with rfl | rfl | rfl | rfl | rfl | rfl | rfl
    · exact (hw _ (List.mem_of_getElem? (i := 5) rfl))
    · exact (hw _ (List.mem_of_getElem? (i := 6) rfl))
    · exact (hw _ (List.mem_of_getElem? (i := 7) rfl))
    · exact (hw _ (List.mem_of_getElem? (i := 8) rfl))
    · exact (hw _ (List.mem_of_getElem? (i := 9) rfl))
    · exact (hw _ (List.mem_of_getElem? (i := 10) rfl))
    · exact (hw _ (List.mem_of_getElem? (i := 11) rfl))
  refine Go.enter (P := fun o U' => ∃ vv_ LL_, o = .returned vv_ ∧ Q0 Z p0 h0 n0 vv_ U'.heap LL_ ∧ ReturnedEndW s o U' LL_ 16 2176) (ef_0 m p0) ?_
  show Go p e below s₁ (mkF m 0 #[.val (.int p0), .unset, .unset, .unset] []) _
  refine Go.of (fun tg_ kk_ => XS.iloadN X0.here hx rfl (hb hby at_0) rfl kk_) ?_
  show Go p e below s₁ (mkF m 1 #[.val (.int p0), .unset, .unset, .unset] [(.int p0)]) _
  refine Go.of (X0.ldcInt hx hown (mvT hZ (hw _ (List.mem_of_getElem? (i := 0) rfl))) (g := (mkF m 1 #[.val (.int p0), .unset, .unset, .unset] [(.int p0)])) rfl (hb hby at_1)) ?_
  show Go p e below s₁ (mkF m 3 #[.val (.int p0), .unset, .unset, .unset] [(.int (65535 : Int32)), (.int p0)]) _
  refine Go.of (fun tg_ kk_ => XS.iand X0.here hx rfl (hb hby at_3) rfl kk_) ?_
  show Go p e below s₁ (mkF m 4 #[.val (.int p0), .unset, .unset, .unset] [(.int (p0 &&& (65535 : Int32)))]) _
  refine Go.of (fun tg_ kk_ => XS.i2c X0.here hx rfl (hb hby at_4) rfl kk_) ?_
  show Go p e below s₁ (mkF m 5 #[.val (.int p0), .unset, .unset, .unset] [(.int ((p0 &&& (65535 : Int32)).toUInt32.toUInt16.toUInt32.toInt32))]) _
  obtain ⟨cc, qcc⟩ : ∃ z : Int32, z = ((p0 &&& (65535 : Int32)).toUInt32.toUInt16.toUInt32.toInt32) := ⟨_, rfl⟩
  rw [← qcc]
  show Go p e below s₁ (mkF m 5 #[.val (.int p0), .unset, .unset, .unset] [(.int cc)]) _
  refine Go.of (fun tg_ kk_ => XS.istoreN X0.here hx rfl (hb hby at_5) rfl (l' := #[.val (.int p0), .val (.int cc), .unset, .unset]) rfl kk_) ?_
  show Go p e below s₁ (mkF m 6 #[.val (.int p0), .val (.int cc), .unset, .unset] []) _
  obtain ⟨T1, h1, X1, e1, E1, A1, D1, -, st1⟩ := newO X0 hx hZ hown (hw _ (List.mem_of_getElem? (i := 1) rfl)) (hw _ (List.mem_of_getElem? (i := 2) rfl)) (hw _ (List.mem_of_getElem? (i := 3) rfl)) e0 (g := (mkF m 6 #[.val (.int p0), .val (.int cc), .unset, .unset] [])) rfl (hb hby at_6) (by decide) (by decide)
  obtain ⟨b1, g1⟩ : ∃ z, z = h0.size := ⟨_, rfl⟩
  rw [← g1] at A1 D1 st1
  have gx1 : n0 ≤ b1 := Nat.le_trans Z0 (Nat.le_of_eq g1.symm)
  have sz1 : h0.size ≤ b1 := Nat.le_trans K0.1 (Nat.le_of_eq g1.symm)
  have K2 := K0.ext E1
  have Zs3 : n0 ≤ h1.size := Nat.le_trans Z0 E1.1
  have hk4 := Nat.le_trans hk0 E1.1
  have F5 : Fld Z h1 b1 "com/example/stairstep/stairstep/Script" "sql" "Ljava/lang/String;" .null := D1 (Or.inr (hw _ (List.mem_of_getElem? (i := 24) rfl))) (ty := (.object "java/lang/String")) (by decide)
  have F6 : Fld Z h1 b1 "com/example/stairstep/stairstep/MariaDbScript" "delimiter" "Ljava/lang/String;" .null := D1 (Or.inl (hw _ (List.mem_of_getElem? (i := 27) rfl))) (ty := (.object "java/lang/String")) (by decide)
  have F7 : Fld Z h1 b1 "com/example/stairstep/stairstep/MariaDbScript" "delimiterBefore" "Ljava/lang/String;" .null := D1 (Or.inl (hw _ (List.mem_of_getElem? (i := 29) rfl))) (ty := (.object "java/lang/String")) (by decide)
  refine Go.of (st1) ?_
  show Go p e below T1 (mkF m 9 #[.val (.int p0), .val (.int cc), .unset, .unset] [(.ref b1)]) _
  refine Go.of (fun tg_ kk_ => XS.dup X1.here hx rfl (hb hby at_9) rfl rfl kk_) ?_
  show Go p e below T1 (mkF m 10 #[.val (.int p0), .val (.int cc), .unset, .unset] [(.ref b1), (.ref b1)]) _
  obtain ⟨sa8, T8, h8, kk8, X8, e8, E8, hS8, hj8, hZ8, hown8, st8⟩ := ldcS X1 hx hZ hown (hw _ (List.mem_of_getElem? (i := 4) rfl)) wS e1 hS0 hk4 (g := (mkF m 10 #[.val (.int p0), .val (.int cc), .unset, .unset] [(.ref b1), (.ref b1)])) rfl (hb hby at_10) (n := 0) (by decide +kernel) (by decide) (by decide) (by decide)
  have F9 := A1.ext E8
  have F10 := F5.ext E8
  have F11 := F6.ext E8
  have F12 := F7.ext E8
  have K13 := K2.ext E8
  have Zs14 : n0 ≤ h8.size := Nat.le_trans Zs3 E8.1
  have hk15 := Nat.le_trans hk4 E8.1
  refine Go.of (st8) ?_
  show Go p e below T8 (mkF m 12 #[.val (.int p0), .val (.int cc), .unset, .unset] [(.ref sa8), (.ref b1), (.ref b1)]) _
  obtain ⟨_, _, ⟨T16, L16, k16, n16⟩, -, Xq16, hSq16, hgr16, ⟨Lc16, hQ16, l16, y16, z16⟩, st16⟩ := X8.specialBackS hx (y := (⟨"com/example/stairstep/stairstep/MariaDbScript", "<init>", "(Ljava/lang/String;)V"⟩ : MethodName)) rfl hown8 (mvT hZ8 (hw _ (List.mem_of_getElem? (i := 12) rfl))) (mvT hZ8 (hw _ (List.mem_of_getElem? (i := 13) rfl))) (mvT hZ8 (hw _ (List.mem_of_getElem? (i := 14) rfl))) (by decide) (backOfS (W := 1) (rm1 l Z a0 hw [] b1 sa8 h8 n0 Zs14 gx1 F9 F10 F11 F12) hZ8 (hw _ (List.mem_of_getElem? (i := 14) rfl)) (hw _ (List.mem_of_getElem? (i := 3) rfl)) (by decide) (by decide)) (g := (mkF m 12 #[.val (.int p0), .val (.int cc), .unset, .unset] [(.ref sa8), (.ref b1), (.ref b1)])) rfl (by rw [hml]; rfl) (Steps.refl _) (a := b1) (argsL := [(.ref sa8)]) (rest := [(.ref b1)]) (lenOf pd_0 rfl) rfl (by show 2 * 0 + _ ≤ _; exact Nat.le_of_eq rfl) (hb hby at_12) (fun _ _ => ⟨rfl, e8, (by decide : 3 + 4 ≤ _), (by decide : 14 + 16 ≤ _)⟩)
  dsimp only [Pt.U, Pt.locs, Pt.cells, Pt.slots] at Xq16 l16 y16 z16 st16 hQ16 hSq16 hgr16
  subst l16 y16 z16
  obtain ⟨X16, hS16, hZ16, hown16⟩ := rebS hS8 (by rw [e8]; exact hj8) Xq16 hSq16 hgr16 hZ8 hown8
  obtain ⟨rfl, N16q, K16q⟩ := hQ16
  have N16 := Fr.app N0 N16q
  have F17 := F9.keep K16q
  have K21 := K13.trans K16q (allS (Or.inr sz1) all0)
  have Zs22 : n0 ≤ T16.heap.size := Nat.le_trans Zs14 K16q.1
  have hk23 := Nat.le_trans hj8 K16q.1
  refine Go.of (fun tg_ kk_ => st16.trans kk_) ?_
  show Go p e below T16 (mkF m 15 #[.val (.int p0), .val (.int cc), .unset, .unset] [(.ref b1)]) _
  refine Go.of (fun tg_ kk_ => XS.astoreN X16.here hx rfl (hb hby at_15) rfl rfl (l' := #[.val (.int p0), .val (.int cc), .val (.ref b1), .unset]) rfl kk_) ?_
  show Go p e below T16 (mkF m 16 #[.val (.int p0), .val (.int cc), .val (.ref b1), .unset] []) _
  refine Go.of (fun tg_ kk_ => XS.iloadN X16.here hx rfl (hb hby at_16) rfl kk_) ?_
  show Go p e below T16 (mkF m 17 #[.val (.int p0), .val (.int cc), .val (.ref b1), .unset] [(.int cc)]) _
  refine Go.of (fun tg_ kk_ => XS.bipush X16.here hx rfl (hb hby at_17) kk_) ?_
  show Go p e below T16 (mkF m 19 #[.val (.int p0), .val (.int cc), .val (.ref b1), .unset] [(.int (9 : Int32)), (.int cc)]) _
  by_cases hc24 : cc < (9 : Int32)
  · skip
    refine Go.of (fun tg_ kk_ => XS.icmpYes X16.here hx rfl (pc0 := 19) (pc' := 28) rfl (hb hby at_19) rfl (tlt hc24).1 (by decide) (by decide) kk_) ?_
    show Go p e below T16 (mkF m 28 #[.val (.int p0), .val (.int cc), .val (.ref b1), .unset] []) _
    refine Go.of (fun tg_ kk_ => XS.iloadN X16.here hx rfl (hb hby at_28) rfl kk_) ?_
    show Go p e below T16 (mkF m 29 #[.val (.int p0), .val (.int cc), .val (.ref b1), .unset] [(.int cc)]) _
    refine Go.of (fun tg_ kk_ => XS.bipush X16.here hx rfl (hb hby at_29) kk_) ?_
    show Go p e below T16 (mkF m 31 #[.val (.int p0), .val (.int cc), .val (.ref b1), .unset] [(.int (32 : Int32)), (.int cc)]) _
    by_cases hc25 : cc = (32 : Int32)
    · skip
      refine Go.of (fun tg_ kk_ => XS.icmpNo X16.here hx rfl (hb hby at_31) rfl (teq hc25).2 kk_) ?_
      show Go p e below T16 (mkF m 34 #[.val (.int p0), .val (.int cc), .val (.ref b1), .unset] []) _
      refine Go.of (fun tg_ kk_ => XS.iconst X16.here hx rfl (hb hby at_34) kk_) ?_
      show Go p e below T16 (mkF m 35 #[.val (.int p0), .val (.int cc), .val (.ref b1), .unset] [(.int (1 : Int32))]) _
      refine Go.of (fun tg_ kk_ => XS.goto X16.here hx rfl (pc0 := 35) (pc' := 39) rfl (hb hby at_35) (by decide) (by decide) kk_) ?_
      show Go p e below T16 (mkF m 39 #[.val (.int p0), .val (.int cc), .val (.ref b1), .unset] [(.int (1 : Int32))]) _
      refine Go.of (fun tg_ kk_ => XS.istoreN X16.here hx rfl (hb hby at_39) rfl (l' := #[.val (.int p0), .val (.int cc), .val (.ref b1), .val (.int (1 : Int32))]) rfl kk_) ?_
      show Go p e below T16 (mkF m 40 #[.val (.int p0), .val (.int cc), .val (.ref b1), .val (.int (1 : Int32))] []) _
      refine Go.of (fun tg_ kk_ => XS.aloadN X16.here hx rfl (hb hby at_40) rfl rfl kk_) ?_
      show Go p e below T16 (mkF m 41 #[.val (.int p0), .val (.int cc), .val (.ref b1), .val (.int (1 : Int32))] [(.ref b1)]) _
      refine Go.of (fun tg_ kk_ => XS.iloadN X16.here hx rfl (hb hby at_41) rfl kk_) ?_
      show Go p e below T16 (mkF m 42 #[.val (.int p0), .val (.int cc), .val (.ref b1), .val (.int (1 : Int32))] [(.int cc), (.ref b1)]) _
      obtain ⟨cq26, kq26, q26a, q26b, q26c⟩ := isOf hZ16 rfl F17
      obtain ⟨_, _, ⟨T26, L26, k26, n26⟩, -, X26, ⟨Lc26, hQ26, l26, y26, z26⟩, st26⟩ := X16.virtualBack hx (y := (⟨"com/example/stairstep/stairstep/MariaDbScript", "blank", "(C)Z"⟩ : MethodName)) (z := (⟨"com/example/stairstep/stairstep/MariaDbScript", "blank", "(C)Z"⟩ : MethodName)) hown16 (mvT hZ16 (hw _ (List.mem_of_getElem? (i := 30) rfl))) (mvT hZ16 (hw _ (List.mem_of_getElem? (i := 31) rfl))) (notFace_of_selects (args := #[]) (mvT hZ16 (hw _ (List.mem_of_getElem? (i := 33) rfl)))) (mvT hZ16 (hw _ (List.mem_of_getElem? (i := 33) rfl))) (mvT hZ16 (hw _ (List.mem_of_getElem? (i := 32) rfl))) (by decide) (backOf (W := 0) (rm4 l Z a0 hw [] b1 cc T16.heap n0 Zs22) hZ16 (hw _ (List.mem_of_getElem? (i := 34) rfl)) (hw _ (List.mem_of_getElem? (i := 3) rfl)) (by decide) (by decide)) q26a q26c (g := (mkF m 42 #[.val (.int p0), .val (.int cc), .val (.ref b1), .val (.int (1 : Int32))] [(.int cc), (.ref b1)])) rfl (by rw [hml]; rfl) (Steps.refl _) (argsL := [(.int cc)]) (rest := []) (lenOf pd_1 rfl) rfl (by show 2 * 0 + _ ≤ _; exact Nat.le_of_eq rfl) (hb hby at_42) (fun _ _ => ⟨rfl, rfl, (by decide : 7 + 0 ≤ _), (by decide : 30 + 0 ≤ _)⟩)
      dsimp only [Pt.U, Pt.locs, Pt.cells, Pt.slots] at X26 l26 y26 z26 st26 hQ26
      subst l26 y26 z26
      obtain ⟨rfl, N26q, e26⟩ := hQ26
      have N26 := Fr.app N16 N26q
      refine Go.of (fun tg_ kk_ => st26.trans kk_) ?_
      show Go p e below T26 (mkF m 45 #[.val (.int p0), .val (.int cc), .val (.ref b1), .val (.int (1 : Int32))] [(.int (blankF cc))]) _
      refine Go.of (fun tg_ kk_ => XS.iloadN X26.here hx rfl (hb hby at_45) rfl kk_) ?_
      show Go p e below T26 (mkF m 46 #[.val (.int p0), .val (.int cc), .val (.ref b1), .val (.int (1 : Int32))] [(.int (1 : Int32)), (.int (blankF cc))]) _
      refine Go.of (fun tg_ kk_ => XS.icmpNo X26.here hx rfl (hb hby at_46) rfl (teq (show (blankF cc) = (1 : Int32) from (own_b1 cc (by simp only [Int32.lt_iff_toInt_lt, ← Int32.toInt_inj, own_9, own_13, own_32] at hc24 hc25; omega)))).2 kk_) ?_
      show Go p e below T26 (mkF m 49 #[.val (.int p0), .val (.int cc), .val (.ref b1), .val (.int (1 : Int32))] []) _
      refine Go.of (fun tg_ kk_ => XS.iconst X26.here hx rfl (hb hby at_49) kk_) ?_
      show Go p e below T26 (mkF m 50 #[.val (.int p0), .val (.int cc), .val (.ref b1), .val (.int (1 : Int32))] [(.int (1 : Int32))]) _
      refine Go.of (fun tg_ kk_ => XS.goto X26.here hx rfl (pc0 := 50) (pc' := 54) rfl (hb hby at_50) (by decide) (by decide) kk_) ?_
      show Go p e below T26 (mkF m 54 #[.val (.int p0), .val (.int cc), .val (.ref b1), .val (.int (1 : Int32))] [(.int (1 : Int32))]) _
      obtain ⟨fs, hr, hrun, hended, hend⟩ := X26.leaveW hS16 (by rw [e26]; exact (Nat.le_refl T16.heap.size)) (v := some (.int (1 : Int32))) (fun h => by rw [Bd.returns] at h; cases h)
      refine ⟨_, _, ?_, hrun, hended, _, _, rfl, ?_, hend.1, hend.2.1, hend.2.2.1, hend.2.2.2.mono (by decide) (by decide)⟩
      · exact retN X26 hx (t := .boolean) Bd.returns (by simp) (hb hby at_54) hr
      · show Q0 Z p0 h0 n0 _ T26.heap _
        rw [e26]
        exact ⟨rfl, N26⟩
    · skip
      refine Go.of (fun tg_ kk_ => XS.icmpYes X16.here hx rfl (pc0 := 31) (pc' := 38) rfl (hb hby at_31) rfl (feq hc25).2 (by decide) (by decide) kk_) ?_
      show Go p e below T16 (mkF m 38 #[.val (.int p0), .val (.int cc), .val (.ref b1), .unset] []) _
      refine Go.of (fun tg_ kk_ => XS.iconst X16.here hx rfl (hb hby at_38) kk_) ?_
      show Go p e below T16 (mkF m 39 #[.val (.int p0), .val (.int cc), .val (.ref b1), .unset] [(.int (0 : Int32))]) _
      refine Go.of (fun tg_ kk_ => XS.istoreN X16.here hx rfl (hb hby at_39) rfl (l' := #[.val (.int p0), .val (.int cc), .val (.ref b1), .val (.int (0 : Int32))]) rfl kk_) ?_
      show Go p e below T16 (mkF m 40 #[.val (.int p0), .val (.int cc), .val (.ref b1), .val (.int (0 : Int32))] []) _
      refine Go.of (fun tg_ kk_ => XS.aloadN X16.here hx rfl (hb hby at_40) rfl rfl kk_) ?_
      show Go p e below T16 (mkF m 41 #[.val (.int p0), .val (.int cc), .val (.ref b1), .val (.int (0 : Int32))] [(.ref b1)]) _
      refine Go.of (fun tg_ kk_ => XS.iloadN X16.here hx rfl (hb hby at_41) rfl kk_) ?_
      show Go p e below T16 (mkF m 42 #[.val (.int p0), .val (.int cc), .val (.ref b1), .val (.int (0 : Int32))] [(.int cc), (.ref b1)]) _
      obtain ⟨cq27, kq27, q27a, q27b, q27c⟩ := isOf hZ16 rfl F17
      obtain ⟨_, _, ⟨T27, L27, k27, n27⟩, -, X27, ⟨Lc27, hQ27, l27, y27, z27⟩, st27⟩ := X16.virtualBack hx (y := (⟨"com/example/stairstep/stairstep/MariaDbScript", "blank", "(C)Z"⟩ : MethodName)) (z := (⟨"com/example/stairstep/stairstep/MariaDbScript", "blank", "(C)Z"⟩ : MethodName)) hown16 (mvT hZ16 (hw _ (List.mem_of_getElem? (i := 30) rfl))) (mvT hZ16 (hw _ (List.mem_of_getElem? (i := 31) rfl))) (notFace_of_selects (args := #[]) (mvT hZ16 (hw _ (List.mem_of_getElem? (i := 33) rfl)))) (mvT hZ16 (hw _ (List.mem_of_getElem? (i := 33) rfl))) (mvT hZ16 (hw _ (List.mem_of_getElem? (i := 32) rfl))) (by decide) (backOf (W := 0) (rm4 l Z a0 hw [] b1 cc T16.heap n0 Zs22) hZ16 (hw _ (List.mem_of_getElem? (i := 34) rfl)) (hw _ (List.mem_of_getElem? (i := 3) rfl)) (by decide) (by decide)) q27a q27c (g := (mkF m 42 #[.val (.int p0), .val (.int cc), .val (.ref b1), .val (.int (0 : Int32))] [(.int cc), (.ref b1)])) rfl (by rw [hml]; rfl) (Steps.refl _) (argsL := [(.int cc)]) (rest := []) (lenOf pd_1 rfl) rfl (by show 2 * 0 + _ ≤ _; exact Nat.le_of_eq rfl) (hb hby at_42) (fun _ _ => ⟨rfl, rfl, (by decide : 7 + 0 ≤ _), (by decide : 30 + 0 ≤ _)⟩)
      dsimp only [Pt.U, Pt.locs, Pt.cells, Pt.slots] at X27 l27 y27 z27 st27 hQ27
      subst l27 y27 z27
      obtain ⟨rfl, N27q, e27⟩ := hQ27
      have N27 := Fr.app N16 N27q
      refine Go.of (fun tg_ kk_ => st27.trans kk_) ?_
      show Go p e below T27 (mkF m 45 #[.val (.int p0), .val (.int cc), .val (.ref b1), .val (.int (0 : Int32))] [(.int (blankF cc))]) _
      refine Go.of (fun tg_ kk_ => XS.iloadN X27.here hx rfl (hb hby at_45) rfl kk_) ?_
      show Go p e below T27 (mkF m 46 #[.val (.int p0), .val (.int cc), .val (.ref b1), .val (.int (0 : Int32))] [(.int (0 : Int32)), (.int (blankF cc))]) _
      refine Go.of (fun tg_ kk_ => XS.icmpNo X27.here hx rfl (hb hby at_46) rfl (teq (show (blankF cc) = (0 : Int32) from (own_b0 cc (by simp only [Int32.lt_iff_toInt_lt, ← Int32.toInt_inj, own_9, own_13, own_32] at hc24 hc25; omega)))).2 kk_) ?_
      show Go p e below T27 (mkF m 49 #[.val (.int p0), .val (.int cc), .val (.ref b1), .val (.int (0 : Int32))] []) _
      refine Go.of (fun tg_ kk_ => XS.iconst X27.here hx rfl (hb hby at_49) kk_) ?_
      show Go p e below T27 (mkF m 50 #[.val (.int p0), .val (.int cc), .val (.ref b1), .val (.int (0 : Int32))] [(.int (1 : Int32))]) _
      refine Go.of (fun tg_ kk_ => XS.goto X27.here hx rfl (pc0 := 50) (pc' := 54) rfl (hb hby at_50) (by decide) (by decide) kk_) ?_
      show Go p e below T27 (mkF m 54 #[.val (.int p0), .val (.int cc), .val (.ref b1), .val (.int (0 : Int32))] [(.int (1 : Int32))]) _
      obtain ⟨fs, hr, hrun, hended, hend⟩ := X27.leaveW hS16 (by rw [e27]; exact (Nat.le_refl T16.heap.size)) (v := some (.int (1 : Int32))) (fun h => by rw [Bd.returns] at h; cases h)
      refine ⟨_, _, ?_, hrun, hended, _, _, rfl, ?_, hend.1, hend.2.1, hend.2.2.1, hend.2.2.2.mono (by decide) (by decide)⟩
      · exact retN X27 hx (t := .boolean) Bd.returns (by simp) (hb hby at_54) hr
      · show Q0 Z p0 h0 n0 _ T27.heap _
        rw [e27]
        exact ⟨rfl, N27⟩
  · skip
    refine Go.of (fun tg_ kk_ => XS.icmpNo X16.here hx rfl (hb hby at_19) rfl (flt hc24).1 kk_) ?_
    show Go p e below T16 (mkF m 22 #[.val (.int p0), .val (.int cc), .val (.ref b1), .unset] []) _
    refine Go.of (fun tg_ kk_ => XS.iloadN X16.here hx rfl (hb hby at_22) rfl kk_) ?_
    show Go p e below T16 (mkF m 23 #[.val (.int p0), .val (.int cc), .val (.ref b1), .unset] [(.int cc)]) _
    refine Go.of (fun tg_ kk_ => XS.bipush X16.here hx rfl (hb hby at_23) kk_) ?_
    show Go p e below T16 (mkF m 25 #[.val (.int p0), .val (.int cc), .val (.ref b1), .unset] [(.int (13 : Int32)), (.int cc)]) _
    by_cases hc28 : (13 : Int32) < cc
    · skip
      refine Go.of (fun tg_ kk_ => XS.icmpNo X16.here hx rfl (hb hby at_25) rfl (tlt hc28).2.2.2 kk_) ?_
      show Go p e below T16 (mkF m 28 #[.val (.int p0), .val (.int cc), .val (.ref b1), .unset] []) _
      refine Go.of (fun tg_ kk_ => XS.iloadN X16.here hx rfl (hb hby at_28) rfl kk_) ?_
      show Go p e below T16 (mkF m 29 #[.val (.int p0), .val (.int cc), .val (.ref b1), .unset] [(.int cc)]) _
      refine Go.of (fun tg_ kk_ => XS.bipush X16.here hx rfl (hb hby at_29) kk_) ?_
      show Go p e below T16 (mkF m 31 #[.val (.int p0), .val (.int cc), .val (.ref b1), .unset] [(.int (32 : Int32)), (.int cc)]) _
      by_cases hc29 : cc = (32 : Int32)
      · skip
        refine Go.of (fun tg_ kk_ => XS.icmpNo X16.here hx rfl (hb hby at_31) rfl (teq hc29).2 kk_) ?_
        show Go p e below T16 (mkF m 34 #[.val (.int p0), .val (.int cc), .val (.ref b1), .unset] []) _
        refine Go.of (fun tg_ kk_ => XS.iconst X16.here hx rfl (hb hby at_34) kk_) ?_
        show Go p e below T16 (mkF m 35 #[.val (.int p0), .val (.int cc), .val (.ref b1), .unset] [(.int (1 : Int32))]) _
        refine Go.of (fun tg_ kk_ => XS.goto X16.here hx rfl (pc0 := 35) (pc' := 39) rfl (hb hby at_35) (by decide) (by decide) kk_) ?_
        show Go p e below T16 (mkF m 39 #[.val (.int p0), .val (.int cc), .val (.ref b1), .unset] [(.int (1 : Int32))]) _
        refine Go.of (fun tg_ kk_ => XS.istoreN X16.here hx rfl (hb hby at_39) rfl (l' := #[.val (.int p0), .val (.int cc), .val (.ref b1), .val (.int (1 : Int32))]) rfl kk_) ?_
        show Go p e below T16 (mkF m 40 #[.val (.int p0), .val (.int cc), .val (.ref b1), .val (.int (1 : Int32))] []) _
        refine Go.of (fun tg_ kk_ => XS.aloadN X16.here hx rfl (hb hby at_40) rfl rfl kk_) ?_
        show Go p e below T16 (mkF m 41 #[.val (.int p0), .val (.int cc), .val (.ref b1), .val (.int (1 : Int32))] [(.ref b1)]) _
        refine Go.of (fun tg_ kk_ => XS.iloadN X16.here hx rfl (hb hby at_41) rfl kk_) ?_
        show Go p e below T16 (mkF m 42 #[.val (.int p0), .val (.int cc), .val (.ref b1), .val (.int (1 : Int32))] [(.int cc), (.ref b1)]) _
        obtain ⟨cq30, kq30, q30a, q30b, q30c⟩ := isOf hZ16 rfl F17
        obtain ⟨_, _, ⟨T30, L30, k30, n30⟩, -, X30, ⟨Lc30, hQ30, l30, y30, z30⟩, st30⟩ := X16.virtualBack hx (y := (⟨"com/example/stairstep/stairstep/MariaDbScript", "blank", "(C)Z"⟩ : MethodName)) (z := (⟨"com/example/stairstep/stairstep/MariaDbScript", "blank", "(C)Z"⟩ : MethodName)) hown16 (mvT hZ16 (hw _ (List.mem_of_getElem? (i := 30) rfl))) (mvT hZ16 (hw _ (List.mem_of_getElem? (i := 31) rfl))) (notFace_of_selects (args := #[]) (mvT hZ16 (hw _ (List.mem_of_getElem? (i := 33) rfl)))) (mvT hZ16 (hw _ (List.mem_of_getElem? (i := 33) rfl))) (mvT hZ16 (hw _ (List.mem_of_getElem? (i := 32) rfl))) (by decide) (backOf (W := 0) (rm4 l Z a0 hw [] b1 cc T16.heap n0 Zs22) hZ16 (hw _ (List.mem_of_getElem? (i := 34) rfl)) (hw _ (List.mem_of_getElem? (i := 3) rfl)) (by decide) (by decide)) q30a q30c (g := (mkF m 42 #[.val (.int p0), .val (.int cc), .val (.ref b1), .val (.int (1 : Int32))] [(.int cc), (.ref b1)])) rfl (by rw [hml]; rfl) (Steps.refl _) (argsL := [(.int cc)]) (rest := []) (lenOf pd_1 rfl) rfl (by show 2 * 0 + _ ≤ _; exact Nat.le_of_eq rfl) (hb hby at_42) (fun _ _ => ⟨rfl, rfl, (by decide : 7 + 0 ≤ _), (by decide : 30 + 0 ≤ _)⟩)
        dsimp only [Pt.U, Pt.locs, Pt.cells, Pt.slots] at X30 l30 y30 z30 st30 hQ30
        subst l30 y30 z30
        obtain ⟨rfl, N30q, e30⟩ := hQ30
        have N30 := Fr.app N16 N30q
        refine Go.of (fun tg_ kk_ => st30.trans kk_) ?_
        show Go p e below T30 (mkF m 45 #[.val (.int p0), .val (.int cc), .val (.ref b1), .val (.int (1 : Int32))] [(.int (blankF cc))]) _
        refine Go.of (fun tg_ kk_ => XS.iloadN X30.here hx rfl (hb hby at_45) rfl kk_) ?_
        show Go p e below T30 (mkF m 46 #[.val (.int p0), .val (.int cc), .val (.ref b1), .val (.int (1 : Int32))] [(.int (1 : Int32)), (.int (blankF cc))]) _
        refine Go.of (fun tg_ kk_ => XS.icmpNo X30.here hx rfl (hb hby at_46) rfl (teq (show (blankF cc) = (1 : Int32) from (own_b1 cc (by simp only [Int32.lt_iff_toInt_lt, ← Int32.toInt_inj, own_9, own_13, own_32] at hc24 hc28 hc29; omega)))).2 kk_) ?_
        show Go p e below T30 (mkF m 49 #[.val (.int p0), .val (.int cc), .val (.ref b1), .val (.int (1 : Int32))] []) _
        refine Go.of (fun tg_ kk_ => XS.iconst X30.here hx rfl (hb hby at_49) kk_) ?_
        show Go p e below T30 (mkF m 50 #[.val (.int p0), .val (.int cc), .val (.ref b1), .val (.int (1 : Int32))] [(.int (1 : Int32))]) _
        refine Go.of (fun tg_ kk_ => XS.goto X30.here hx rfl (pc0 := 50) (pc' := 54) rfl (hb hby at_50) (by decide) (by decide) kk_) ?_
        show Go p e below T30 (mkF m 54 #[.val (.int p0), .val (.int cc), .val (.ref b1), .val (.int (1 : Int32))] [(.int (1 : Int32))]) _
        obtain ⟨fs, hr, hrun, hended, hend⟩ := X30.leaveW hS16 (by rw [e30]; exact (Nat.le_refl T16.heap.size)) (v := some (.int (1 : Int32))) (fun h => by rw [Bd.returns] at h; cases h)
        refine ⟨_, _, ?_, hrun, hended, _, _, rfl, ?_, hend.1, hend.2.1, hend.2.2.1, hend.2.2.2.mono (by decide) (by decide)⟩
        · exact retN X30 hx (t := .boolean) Bd.returns (by simp) (hb hby at_54) hr
        · show Q0 Z p0 h0 n0 _ T30.heap _
          rw [e30]
          exact ⟨rfl, N30⟩
      · skip
        refine Go.of (fun tg_ kk_ => XS.icmpYes X16.here hx rfl (pc0 := 31) (pc' := 38) rfl (hb hby at_31) rfl (feq hc29).2 (by decide) (by decide) kk_) ?_
        show Go p e below T16 (mkF m 38 #[.val (.int p0), .val (.int cc), .val (.ref b1), .unset] []) _
        refine Go.of (fun tg_ kk_ => XS.iconst X16.here hx rfl (hb hby at_38) kk_) ?_
        show Go p e below T16 (mkF m 39 #[.val (.int p0), .val (.int cc), .val (.ref b1), .unset] [(.int (0 : Int32))]) _
        refine Go.of (fun tg_ kk_ => XS.istoreN X16.here hx rfl (hb hby at_39) rfl (l' := #[.val (.int p0), .val (.int cc), .val (.ref b1), .val (.int (0 : Int32))]) rfl kk_) ?_
        show Go p e below T16 (mkF m 40 #[.val (.int p0), .val (.int cc), .val (.ref b1), .val (.int (0 : Int32))] []) _
        refine Go.of (fun tg_ kk_ => XS.aloadN X16.here hx rfl (hb hby at_40) rfl rfl kk_) ?_
        show Go p e below T16 (mkF m 41 #[.val (.int p0), .val (.int cc), .val (.ref b1), .val (.int (0 : Int32))] [(.ref b1)]) _
        refine Go.of (fun tg_ kk_ => XS.iloadN X16.here hx rfl (hb hby at_41) rfl kk_) ?_
        show Go p e below T16 (mkF m 42 #[.val (.int p0), .val (.int cc), .val (.ref b1), .val (.int (0 : Int32))] [(.int cc), (.ref b1)]) _
        obtain ⟨cq31, kq31, q31a, q31b, q31c⟩ := isOf hZ16 rfl F17
        obtain ⟨_, _, ⟨T31, L31, k31, n31⟩, -, X31, ⟨Lc31, hQ31, l31, y31, z31⟩, st31⟩ := X16.virtualBack hx (y := (⟨"com/example/stairstep/stairstep/MariaDbScript", "blank", "(C)Z"⟩ : MethodName)) (z := (⟨"com/example/stairstep/stairstep/MariaDbScript", "blank", "(C)Z"⟩ : MethodName)) hown16 (mvT hZ16 (hw _ (List.mem_of_getElem? (i := 30) rfl))) (mvT hZ16 (hw _ (List.mem_of_getElem? (i := 31) rfl))) (notFace_of_selects (args := #[]) (mvT hZ16 (hw _ (List.mem_of_getElem? (i := 33) rfl)))) (mvT hZ16 (hw _ (List.mem_of_getElem? (i := 33) rfl))) (mvT hZ16 (hw _ (List.mem_of_getElem? (i := 32) rfl))) (by decide) (backOf (W := 0) (rm4 l Z a0 hw [] b1 cc T16.heap n0 Zs22) hZ16 (hw _ (List.mem_of_getElem? (i := 34) rfl)) (hw _ (List.mem_of_getElem? (i := 3) rfl)) (by decide) (by decide)) q31a q31c (g := (mkF m 42 #[.val (.int p0), .val (.int cc), .val (.ref b1), .val (.int (0 : Int32))] [(.int cc), (.ref b1)])) rfl (by rw [hml]; rfl) (Steps.refl _) (argsL := [(.int cc)]) (rest := []) (lenOf pd_1 rfl) rfl (by show 2 * 0 + _ ≤ _; exact Nat.le_of_eq rfl) (hb hby at_42) (fun _ _ => ⟨rfl, rfl, (by decide : 7 + 0 ≤ _), (by decide : 30 + 0 ≤ _)⟩)
        dsimp only [Pt.U, Pt.locs, Pt.cells, Pt.slots] at X31 l31 y31 z31 st31 hQ31
        subst l31 y31 z31
        obtain ⟨rfl, N31q, e31⟩ := hQ31
        have N31 := Fr.app N16 N31q
        refine Go.of (fun tg_ kk_ => st31.trans kk_) ?_
        show Go p e below T31 (mkF m 45 #[.val (.int p0), .val (.int cc), .val (.ref b1), .val (.int (0 : Int32))] [(.int (blankF cc))]) _
        refine Go.of (fun tg_ kk_ => XS.iloadN X31.here hx rfl (hb hby at_45) rfl kk_) ?_
        show Go p e below T31 (mkF m 46 #[.val (.int p0), .val (.int cc), .val (.ref b1), .val (.int (0 : Int32))] [(.int (0 : Int32)), (.int (blankF cc))]) _
        refine Go.of (fun tg_ kk_ => XS.icmpNo X31.here hx rfl (hb hby at_46) rfl (teq (show (blankF cc) = (0 : Int32) from (own_b0 cc (by simp only [Int32.lt_iff_toInt_lt, ← Int32.toInt_inj, own_9, own_13, own_32] at hc24 hc28 hc29; omega)))).2 kk_) ?_
        show Go p e below T31 (mkF m 49 #[.val (.int p0), .val (.int cc), .val (.ref b1), .val (.int (0 : Int32))] []) _
        refine Go.of (fun tg_ kk_ => XS.iconst X31.here hx rfl (hb hby at_49) kk_) ?_
        show Go p e below T31 (mkF m 50 #[.val (.int p0), .val (.int cc), .val (.ref b1), .val (.int (0 : Int32))] [(.int (1 : Int32))]) _
        refine Go.of (fun tg_ kk_ => XS.goto X31.here hx rfl (pc0 := 50) (pc' := 54) rfl (hb hby at_50) (by decide) (by decide) kk_) ?_
        show Go p e below T31 (mkF m 54 #[.val (.int p0), .val (.int cc), .val (.ref b1), .val (.int (0 : Int32))] [(.int (1 : Int32))]) _
        obtain ⟨fs, hr, hrun, hended, hend⟩ := X31.leaveW hS16 (by rw [e31]; exact (Nat.le_refl T16.heap.size)) (v := some (.int (1 : Int32))) (fun h => by rw [Bd.returns] at h; cases h)
        refine ⟨_, _, ?_, hrun, hended, _, _, rfl, ?_, hend.1, hend.2.1, hend.2.2.1, hend.2.2.2.mono (by decide) (by decide)⟩
        · exact retN X31 hx (t := .boolean) Bd.returns (by simp) (hb hby at_54) hr
        · show Q0 Z p0 h0 n0 _ T31.heap _
          rw [e31]
          exact ⟨rfl, N31⟩
    · skip
      refine Go.of (fun tg_ kk_ => XS.icmpYes X16.here hx rfl (pc0 := 25) (pc' := 34) rfl (hb hby at_25) rfl (flt hc28).2.2.2 (by decide) (by decide) kk_) ?_
      show Go p e below T16 (mkF m 34 #[.val (.int p0), .val (.int cc), .val (.ref b1), .unset] []) _
      refine Go.of (fun tg_ kk_ => XS.iconst X16.here hx rfl (hb hby at_34) kk_) ?_
      show Go p e below T16 (mkF m 35 #[.val (.int p0), .val (.int cc), .val (.ref b1), .unset] [(.int (1 : Int32))]) _
      refine Go.of (fun tg_ kk_ => XS.goto X16.here hx rfl (pc0 := 35) (pc' := 39) rfl (hb hby at_35) (by decide) (by decide) kk_) ?_
      show Go p e below T16 (mkF m 39 #[.val (.int p0), .val (.int cc), .val (.ref b1), .unset] [(.int (1 : Int32))]) _
      refine Go.of (fun tg_ kk_ => XS.istoreN X16.here hx rfl (hb hby at_39) rfl (l' := #[.val (.int p0), .val (.int cc), .val (.ref b1), .val (.int (1 : Int32))]) rfl kk_) ?_
      show Go p e below T16 (mkF m 40 #[.val (.int p0), .val (.int cc), .val (.ref b1), .val (.int (1 : Int32))] []) _
      refine Go.of (fun tg_ kk_ => XS.aloadN X16.here hx rfl (hb hby at_40) rfl rfl kk_) ?_
      show Go p e below T16 (mkF m 41 #[.val (.int p0), .val (.int cc), .val (.ref b1), .val (.int (1 : Int32))] [(.ref b1)]) _
      refine Go.of (fun tg_ kk_ => XS.iloadN X16.here hx rfl (hb hby at_41) rfl kk_) ?_
      show Go p e below T16 (mkF m 42 #[.val (.int p0), .val (.int cc), .val (.ref b1), .val (.int (1 : Int32))] [(.int cc), (.ref b1)]) _
      obtain ⟨cq32, kq32, q32a, q32b, q32c⟩ := isOf hZ16 rfl F17
      obtain ⟨_, _, ⟨T32, L32, k32, n32⟩, -, X32, ⟨Lc32, hQ32, l32, y32, z32⟩, st32⟩ := X16.virtualBack hx (y := (⟨"com/example/stairstep/stairstep/MariaDbScript", "blank", "(C)Z"⟩ : MethodName)) (z := (⟨"com/example/stairstep/stairstep/MariaDbScript", "blank", "(C)Z"⟩ : MethodName)) hown16 (mvT hZ16 (hw _ (List.mem_of_getElem? (i := 30) rfl))) (mvT hZ16 (hw _ (List.mem_of_getElem? (i := 31) rfl))) (notFace_of_selects (args := #[]) (mvT hZ16 (hw _ (List.mem_of_getElem? (i := 33) rfl)))) (mvT hZ16 (hw _ (List.mem_of_getElem? (i := 33) rfl))) (mvT hZ16 (hw _ (List.mem_of_getElem? (i := 32) rfl))) (by decide) (backOf (W := 0) (rm4 l Z a0 hw [] b1 cc T16.heap n0 Zs22) hZ16 (hw _ (List.mem_of_getElem? (i := 34) rfl)) (hw _ (List.mem_of_getElem? (i := 3) rfl)) (by decide) (by decide)) q32a q32c (g := (mkF m 42 #[.val (.int p0), .val (.int cc), .val (.ref b1), .val (.int (1 : Int32))] [(.int cc), (.ref b1)])) rfl (by rw [hml]; rfl) (Steps.refl _) (argsL := [(.int cc)]) (rest := []) (lenOf pd_1 rfl) rfl (by show 2 * 0 + _ ≤ _; exact Nat.le_of_eq rfl) (hb hby at_42) (fun _ _ => ⟨rfl, rfl, (by decide : 7 + 0 ≤ _), (by decide : 30 + 0 ≤ _)⟩)
      dsimp only [Pt.U, Pt.locs, Pt.cells, Pt.slots] at X32 l32 y32 z32 st32 hQ32
      subst l32 y32 z32
      obtain ⟨rfl, N32q, e32⟩ := hQ32
      have N32 := Fr.app N16 N32q
      refine Go.of (fun tg_ kk_ => st32.trans kk_) ?_
      show Go p e below T32 (mkF m 45 #[.val (.int p0), .val (.int cc), .val (.ref b1), .val (.int (1 : Int32))] [(.int (blankF cc))]) _
      refine Go.of (fun tg_ kk_ => XS.iloadN X32.here hx rfl (hb hby at_45) rfl kk_) ?_
      show Go p e below T32 (mkF m 46 #[.val (.int p0), .val (.int cc), .val (.ref b1), .val (.int (1 : Int32))] [(.int (1 : Int32)), (.int (blankF cc))]) _
      refine Go.of (fun tg_ kk_ => XS.icmpNo X32.here hx rfl (hb hby at_46) rfl (teq (show (blankF cc) = (1 : Int32) from (own_b1 cc (by simp only [Int32.lt_iff_toInt_lt, ← Int32.toInt_inj, own_9, own_13, own_32] at hc24 hc28; omega)))).2 kk_) ?_
      show Go p e below T32 (mkF m 49 #[.val (.int p0), .val (.int cc), .val (.ref b1), .val (.int (1 : Int32))] []) _
      refine Go.of (fun tg_ kk_ => XS.iconst X32.here hx rfl (hb hby at_49) kk_) ?_
      show Go p e below T32 (mkF m 50 #[.val (.int p0), .val (.int cc), .val (.ref b1), .val (.int (1 : Int32))] [(.int (1 : Int32))]) _
      refine Go.of (fun tg_ kk_ => XS.goto X32.here hx rfl (pc0 := 50) (pc' := 54) rfl (hb hby at_50) (by decide) (by decide) kk_) ?_
      show Go p e below T32 (mkF m 54 #[.val (.int p0), .val (.int cc), .val (.ref b1), .val (.int (1 : Int32))] [(.int (1 : Int32))]) _
      obtain ⟨fs, hr, hrun, hended, hend⟩ := X32.leaveW hS16 (by rw [e32]; exact (Nat.le_refl T16.heap.size)) (v := some (.int (1 : Int32))) (fun h => by rw [Bd.returns] at h; cases h)
      refine ⟨_, _, ?_, hrun, hended, _, _, rfl, ?_, hend.1, hend.2.1, hend.2.2.1, hend.2.2.2.mono (by decide) (by decide)⟩
      · exact retN X32 hx (t := .boolean) Bd.returns (by simp) (hb hby at_54) hr
      · show Q0 Z p0 h0 n0 _ T32.heap _
        rw [e32]
        exact ⟨rfl, N32⟩
set_option maxRecDepth 65536 in
set_option maxHeartbeats 40000000 in
theorem comes_1 {Post : Tables → Env → Array Value → State → Outcome → State → Prop} (hpost : ∀ tb e args s v u, (limb_1_1.after args s (.returned v) u = true ∧ limb_1_2.after args s (.returned v) u = true ∧ True) → ReturnedEndW s (.returned v) u (Jvm.fieldLocs frame_1_writes args s ++ Jvm.arrayLocs frame_1_arrays args s ++ Jvm.staticLocs frame_1_statics s) 16 2176 → Post tb e args s (.returned v) u) :
    ArmFor flags0 classFile x code maxLocals ret World_1 tables_1 room_1 Calls_1 rest_1 Pre_1 Post := by
  intro l hfl _ _ p e ha hc hk s m args below hf hA hF happ hP
  obtain ⟨hcalls, hrest, hpre⟩ := hP
  obtain ⟨-, -, -, hnamed, -, -, -, hat⟩ := (Spec.applies_iff hf).mp happ
  obtain ⟨hg, hn⟩ := and_e (Cond.before_iff.mp (show (Jvm.Cond.and given_1 narrow_1).before args s = true from hpre))
  obtain ⟨gc, gr0⟩ := and_e hg
  obtain ⟨w0, rfl⟩ : ∃ w0 : Value, args = #[w0] := by
    have hs : args.size = 1 := by simpa [Cond.value, given_1] using gc
    obtain ⟨L⟩ := args
    match L, hs with
    | [w0], _ => exact ⟨w0, rfl⟩
  have hw := fun d (hd : d ∈ tables_1) => atoms_spec (ws := Jvm.Cond.code x code maxLocals ret :: tables_1) hat d (List.mem_cons_of_mem _ hd)
  obtain ⟨i0, ei0⟩ := is_v gr0
  obtain rfl : w0 = (.int i0) := Option.some.inj ei0
  obtain ⟨n, o, h1, h2, h3, _, L, rfl, ⟨rfl, N⟩, hq⟩ := rm0 l s _ hw tables_1 i0 s.heap s.heap.size (Nat.le_refl _) p e ha hc hk s m _ below hf ((Spec.applies_iff_loose hf).mp happ).1 ⟨rfl, State.Warmed39.refl s, rfl⟩ trivial
  refine ⟨n, _, h1, h2, h3, hpost _ _ _ _ _ _ ⟨Cond.after_iff.mpr rfl, Cond.after_iff.mpr (eq_i res_at (Term.int_eval (1)) rfl), trivial⟩ ⟨hq.1, hq.2.1, hq.2.2.1, (hq.2.2.2.sift fun y hy => Or.inr (N y hy)).mono (by decide) (by decide)⟩⟩
theorem main_1_1 : Claimed_1_1 := comes_1 fun _ _ _ _ _ _ h hF => ⟨h.1, hF⟩
theorem main_1_2 : Claimed_1_2 := comes_1 fun _ _ _ _ _ _ h hF => ⟨h.2.1, hF⟩
end Jvm.Pilot.@@N@@
namespace Jvm.Pilot.@@N@@
open Jvm Jvm.ClassFile Sem Op Lib Jvm.Free Jvm.Stand Jvm.Pilot.@@N@@.Jvm.D
/-! MADE BY PROGRAM (witnessworld.py) out of the Statement's table words and the real class files: 15 classes; the members and pool entries that the words name. The judged class is class 1, her method 1. -/
namespace start1
open Jvm.ClassFile
def u (s : String) : CpInfo := .utf8 (stringToUtf16 s)
/-- a pool by its gaps: so many unusable entries, then the entry; so many at the end -/
def gap : Nat → List CpInfo → List CpInfo
  | 0, r => r
  | n + 1, r => .unusable :: gap n r
def poolList (es : List (Nat × CpInfo)) (last : Nat) : List CpInfo := es.foldr (fun e r => gap e.1 (e.2 :: r)) (gap last [])
def pool (es : List (Nat × CpInfo)) (last : Nat) : Array CpInfo := ⟨poolList es last⟩
def fileOf (pool : Array CpInfo) (this : Nat) (attrs : Array Attribute := #[]) (ms : Array MethodInfo := #[]) (fl : Nat := 33) (sup : Nat := 0) (ifs : Array Nat := #[]) (fds : Array FieldInfo := #[]) : ClassFile where
  minorVersion := 0
  majorVersion := 65
  constantPool := pool
  accessFlags := fl
  thisClass := this
  superClass := sup
  interfaces := ifs
  fields := fds
  methods := ms
  attributes := attrs
def plain (name : String) (sup : Option ClassId) : Class where
  name := name
  kind := .ordinary
  loader := none
  accessFlags := 33
  super := sup
  interfaces := #[]
  cf := none
  fields := #[]
  methods := #[]
  instanceTypes := #[]
  staticTypes := #[]
  resolved := #[]
  callSites := []
  init := .initialized
  statics := none
  mirror := none

def pool0 : Array CpInfo := pool [(5, u "<init>"), (0, u "()V"), (1, .class_ 10), (1, u "java/lang/Object")] 113

def k0c0 : Code := { maxStack := 0, maxLocals := 1, code := object_method_1_code, exceptionTable := #[], attributes := #[] }
def k0m0 : Method := { name := "<init>", desc := "()V", sig := { parameters := [], returnType := none }, accessFlags := 1, code := some k0c0 }
/-- java/lang/Object -/
def k0 : Class := { plain "java/lang/Object" none with
  accessFlags := 33
  interfaces := #[]
  cf := some (fileOf pool0 8 #[] #[{ accessFlags := 1, nameIndex := 5, descriptorIndex := 6, attributes := #[] }] 33 0 #[] #[])
  fields := #[]
  methods := #[k0m0]
  instanceTypes := #[]
  staticTypes := #[]
  resolved := Array.replicate 124 none
  statics := none }

def pool1 : Array CpInfo := pool [(2, .class_ 4), (1, u "java/lang/Object"), (0, u "<init>"), (0, u "()V"), (0, .integer 65535), (0, .class_ 9), (0, u "com/example/stairstep/stairstep/MariaDbScript"), (0, .string 11), (0, u ""), (0, .methodref 8 13), (0, .nameAndType 5 14), (0, u "(Ljava/lang/String;)V"), (0, .methodref 8 16), (0, .nameAndType 17 18), (0, u "blank"), (0, u "(C)Z"), (0, .class_ 20), (0, u "com/example/stairstep/stairstep/MariaDbScriptBlankPinLaw"), (2, u "law"), (0, u "(I)Z")] 3

def k1m0 : Method := { name := "<init>", desc := "()V", sig := { parameters := [], returnType := none }, accessFlags := 2, code := none }
def k1c1 : Code := { maxStack := 3, maxLocals := 4, code := code, exceptionTable := #[], attributes := #[] }
def k1m1 : Method := { name := "law", desc := "(I)Z", sig := { parameters := [.int], returnType := some .boolean }, accessFlags := 9, code := some k1c1 }
/-- com/example/stairstep/stairstep/MariaDbScriptBlankPinLaw -/
def k1 : Class := { plain "com/example/stairstep/stairstep/MariaDbScriptBlankPinLaw" (some 0) with
  accessFlags := 49
  interfaces := #[]
  cf := some (fileOf pool1 19 #[] #[{ accessFlags := 2, nameIndex := 5, descriptorIndex := 6, attributes := #[] }, { accessFlags := 9, nameIndex := 23, descriptorIndex := 24, attributes := #[] }] 49 2 #[] #[])
  fields := #[]
  methods := #[k1m0, k1m1]
  instanceTypes := #[]
  staticTypes := #[]
  resolved := Array.replicate 28 none
  statics := none }

def pool2 : Array CpInfo := pool [(1, .methodref 2 3), (0, .class_ 4), (0, .nameAndType 5 6), (0, u "java/lang/Object"), (0, u "<init>"), (0, u "()V"), (0, .fieldref 8 9), (0, .class_ 10), (0, .nameAndType 11 12), (0, u "com/example/stairstep/stairstep/Script"), (0, u "sql"), (0, u "Ljava/lang/String;"), (2, u "position"), (0, u "I"), (2, u "from"), (10, u "start"), (2, u "settingDecides"), (0, u "Z"), (2, u "backslashEscapes"), (2, u "statement"), (32, u "text"), (13, .class_ 89), (1, u "com/example/stairstep/stairstep/Script$Backslash"), (5, u "(Ljava/lang/String;)V")] 22

def k2c0 : Code := { maxStack := 2, maxLocals := 2, code := prog_37_method_1_code, exceptionTable := #[], attributes := #[] }
def k2m0 : Method := { name := "<init>", desc := "(Ljava/lang/String;)V", sig := { parameters := [(.object "java/lang/String")], returnType := none }, accessFlags := 0, code := some k2c0 }
/-- com/example/stairstep/stairstep/Script -/
def k2 : Class := { plain "com/example/stairstep/stairstep/Script" (some 0) with
  accessFlags := 1056
  interfaces := #[]
  cf := some (fileOf pool2 8 #[.nestMembers #[87]] #[{ accessFlags := 0, nameIndex := 5, descriptorIndex := 95, attributes := #[] }] 1056 2 #[] #[{ accessFlags := 16, nameIndex := 11, descriptorIndex := 12, attributes := #[] }, { accessFlags := 2, nameIndex := 37, descriptorIndex := 34, attributes := #[] }, { accessFlags := 2, nameIndex := 33, descriptorIndex := 34, attributes := #[] }, { accessFlags := 2, nameIndex := 19, descriptorIndex := 16, attributes := #[] }, { accessFlags := 2, nameIndex := 15, descriptorIndex := 16, attributes := #[] }, { accessFlags := 2, nameIndex := 30, descriptorIndex := 16, attributes := #[] }, { accessFlags := 2, nameIndex := 73, descriptorIndex := 34, attributes := #[] }, { accessFlags := 2, nameIndex := 40, descriptorIndex := 12, attributes := #[] }])
  fields := #[{ name := "sql", type := (.object "java/lang/String"), accessFlags := 16, slot := 0, constantValue := 0 }, { name := "backslashEscapes", type := .boolean, accessFlags := 2, slot := 1, constantValue := 0 }, { name := "settingDecides", type := .boolean, accessFlags := 2, slot := 2, constantValue := 0 }, { name := "from", type := .int, accessFlags := 2, slot := 3, constantValue := 0 }, { name := "position", type := .int, accessFlags := 2, slot := 4, constantValue := 0 }, { name := "start", type := .int, accessFlags := 2, slot := 5, constantValue := 0 }, { name := "text", type := .boolean, accessFlags := 2, slot := 6, constantValue := 0 }, { name := "statement", type := (.object "java/lang/String"), accessFlags := 2, slot := 7, constantValue := 0 }]
  methods := #[k2m0]
  instanceTypes := #[(.object "java/lang/String"), .boolean, .boolean, .int, .int, .int, .boolean, (.object "java/lang/String")]
  staticTypes := #[]
  resolved := Array.replicate 118 none
  statics := none }

def pool3 : Array CpInfo := pool [(1, .methodref 2 3), (0, .class_ 4), (0, .nameAndType 5 6), (0, u "com/example/stairstep/stairstep/Script"), (0, u "<init>"), (0, u "(Ljava/lang/String;)V"), (0, .class_ 8), (0, u "com/example/stairstep/stairstep/MariaDbScript"), (0, .string 10), (0, u ";"), (0, .fieldref 7 12), (0, .nameAndType 13 14), (0, u "delimiter"), (0, u "Ljava/lang/String;"), (0, .fieldref 7 16), (0, .nameAndType 17 14), (0, u "delimiterBefore"), (77, u "(C)Z"), (15, u "blank"), (106, u "DEFAULT_DELIMITER"), (1, u "DELIMITER_COMMAND")] 36

def k3c0 : Code := { maxStack := 2, maxLocals := 2, code := prog_21_method_1_code, exceptionTable := #[], attributes := #[] }
def k3m0 : Method := { name := "<init>", desc := "(Ljava/lang/String;)V", sig := { parameters := [(.object "java/lang/String")], returnType := none }, accessFlags := 0, code := some k3c0 }
def k3c1 : Code := { maxStack := 2, maxLocals := 2, code := prog_21_method_24_code, exceptionTable := #[], attributes := #[] }
def k3m1 : Method := { name := "blank", desc := "(C)Z", sig := { parameters := [.char], returnType := some .boolean }, accessFlags := 0, code := some k3c1 }
/-- com/example/stairstep/stairstep/MariaDbScript -/
def k3 : Class := { plain "com/example/stairstep/stairstep/MariaDbScript" (some 2) with
  accessFlags := 48
  interfaces := #[]
  cf := some (fileOf pool3 7 #[] #[{ accessFlags := 0, nameIndex := 5, descriptorIndex := 6, attributes := #[] }, { accessFlags := 0, nameIndex := 111, descriptorIndex := 95, attributes := #[] }] 48 2 #[] #[{ accessFlags := 26, nameIndex := 218, descriptorIndex := 14, attributes := #[] }, { accessFlags := 26, nameIndex := 220, descriptorIndex := 14, attributes := #[] }, { accessFlags := 2, nameIndex := 13, descriptorIndex := 14, attributes := #[] }, { accessFlags := 2, nameIndex := 17, descriptorIndex := 14, attributes := #[] }])
  fields := #[{ name := "DEFAULT_DELIMITER", type := (.object "java/lang/String"), accessFlags := 26, slot := 0, constantValue := 0 }, { name := "DELIMITER_COMMAND", type := (.object "java/lang/String"), accessFlags := 26, slot := 1, constantValue := 0 }, { name := "delimiter", type := (.object "java/lang/String"), accessFlags := 2, slot := 8, constantValue := 0 }, { name := "delimiterBefore", type := (.object "java/lang/String"), accessFlags := 2, slot := 9, constantValue := 0 }]
  methods := #[k3m0, k3m1]
  instanceTypes := #[(.object "java/lang/String"), .boolean, .boolean, .int, .int, .int, .boolean, (.object "java/lang/String"), (.object "java/lang/String"), (.object "java/lang/String")]
  staticTypes := #[(.object "java/lang/String"), (.object "java/lang/String")]
  resolved := Array.replicate 257 none
  statics := none }

def pool4 : Array CpInfo := pool [(1, .class_ 2), (0, u "java/io/Serializable"), (0, .class_ 4), (0, u "java/lang/Object")] 2

/-- java/io/Serializable -/
def k4 : Class := { plain "java/io/Serializable" (some 0) with
  accessFlags := 1537
  interfaces := #[]
  cf := some (fileOf pool4 1 #[] #[] 1537 3 #[] #[])
  fields := #[]
  methods := #[]
  instanceTypes := #[]
  staticTypes := #[]
  resolved := Array.replicate 7 none
  statics := none }

def pool5 : Array CpInfo := pool [(1, .class_ 2), (0, u "java/lang/Comparable"), (0, .class_ 4), (0, u "java/lang/Object")] 7

/-- java/lang/Comparable -/
def k5 : Class := { plain "java/lang/Comparable" (some 0) with
  accessFlags := 1537
  interfaces := #[]
  cf := some (fileOf pool5 1 #[] #[] 1537 3 #[] #[])
  fields := #[]
  methods := #[]
  instanceTypes := #[]
  staticTypes := #[]
  resolved := Array.replicate 12 none
  statics := none }

def pool6 : Array CpInfo := pool [(2, .class_ 4), (1, u "java/lang/CharSequence"), (42, .class_ 48), (0, u "java/lang/CharSequence$1CodePointIterator"), (10, .class_ 60), (0, u "java/lang/CharSequence$1CharIterator"), (5, .class_ 67), (0, u "java/lang/Object")] 63

/-- java/lang/CharSequence -/
def k6 : Class := { plain "java/lang/CharSequence" (some 0) with
  accessFlags := 1537
  interfaces := #[]
  cf := some (fileOf pool6 2 #[.nestMembers #[47, 59]] #[] 1537 66 #[] #[])
  fields := #[]
  methods := #[]
  instanceTypes := #[]
  staticTypes := #[]
  resolved := Array.replicate 131 none
  statics := none }

def pool7 : Array CpInfo := pool [(1, .class_ 2), (0, u "java/lang/constant/Constable"), (0, .class_ 4), (0, u "java/lang/Object")] 6

/-- java/lang/constant/Constable -/
def k7 : Class := { plain "java/lang/constant/Constable" (some 0) with
  accessFlags := 1537
  interfaces := #[]
  cf := some (fileOf pool7 1 #[] #[] 1537 3 #[] #[])
  fields := #[]
  methods := #[]
  instanceTypes := #[]
  staticTypes := #[]
  resolved := Array.replicate 11 none
  statics := none }

def pool8 : Array CpInfo := pool [(1, .class_ 2), (0, u "java/lang/constant/ConstantDesc"), (0, .class_ 4), (0, u "java/lang/Object")] 32

/-- java/lang/constant/ConstantDesc -/
def k8 : Class := { plain "java/lang/constant/ConstantDesc" (some 0) with
  accessFlags := 1537
  interfaces := #[]
  cf := some (fileOf pool8 1 #[] #[] 1537 3 #[] #[])
  fields := #[]
  methods := #[]
  instanceTypes := #[]
  staticTypes := #[]
  resolved := Array.replicate 37 none
  statics := none }

def pool9 : Array CpInfo := pool [(2, .class_ 4), (1, u "java/lang/Object"), (0, u "<init>"), (0, u "()V"), (3, .class_ 12), (1, u "java/lang/String"), (0, u "value"), (0, u "[B"), (2, u "coder"), (0, u "B"), (2, u "hash"), (0, u "I"), (2, u "hashIsZero"), (0, u "Z"), (13, u "COMPACT_STRINGS"), (534, .class_ 576), (0, u "java/lang/CharSequence"), (22, u "CASE_INSENSITIVE_ORDER"), (0, u "Ljava/util/Comparator;"), (500, u "serialPersistentFields"), (0, u "[Ljava/io/ObjectStreamField;"), (0, .class_ 1104), (0, u "java/lang/String$CaseInsensitiveComparator"), (1, .class_ 1107), (0, u "java/io/Serializable"), (0, .class_ 1109), (0, u "java/lang/Comparable"), (0, .class_ 1111), (0, u "java/lang/constant/Constable"), (0, .class_ 1113), (0, u "java/lang/constant/ConstantDesc"), (2, u "serialVersionUID"), (0, u "J"), (3, u "REPL"), (0, u "C"), (2, u "LATIN1"), (1, u "UTF16")] 323

def k9m0 : Method := { name := "<init>", desc := "()V", sig := { parameters := [], returnType := none }, accessFlags := 1, code := none }
/-- java/lang/String -/
def k9 : Class := { plain "java/lang/String" (some 0) with
  accessFlags := 49
  interfaces := #[4, 5, 6, 7, 8]
  cf := some (fileOf pool9 10 #[.nestMembers #[1103]] #[{ accessFlags := 1, nameIndex := 5, descriptorIndex := 6, attributes := #[] }] 49 2 #[1106, 1108, 575, 1110, 1112] #[{ accessFlags := 18, nameIndex := 13, descriptorIndex := 14, attributes := #[] }, { accessFlags := 18, nameIndex := 17, descriptorIndex := 18, attributes := #[] }, { accessFlags := 2, nameIndex := 21, descriptorIndex := 22, attributes := #[] }, { accessFlags := 2, nameIndex := 25, descriptorIndex := 26, attributes := #[] }, { accessFlags := 26, nameIndex := 1116, descriptorIndex := 1117, attributes := #[] }, { accessFlags := 24, nameIndex := 40, descriptorIndex := 26, attributes := #[] }, { accessFlags := 26, nameIndex := 1101, descriptorIndex := 1102, attributes := #[] }, { accessFlags := 26, nameIndex := 1121, descriptorIndex := 1122, attributes := #[] }, { accessFlags := 25, nameIndex := 599, descriptorIndex := 600, attributes := #[] }, { accessFlags := 24, nameIndex := 1125, descriptorIndex := 18, attributes := #[] }, { accessFlags := 24, nameIndex := 1127, descriptorIndex := 18, attributes := #[] }])
  fields := #[{ name := "value", type := (.array .byte), accessFlags := 18, slot := 0, constantValue := 0 }, { name := "coder", type := .byte, accessFlags := 18, slot := 1, constantValue := 0 }, { name := "hash", type := .int, accessFlags := 2, slot := 2, constantValue := 0 }, { name := "hashIsZero", type := .boolean, accessFlags := 2, slot := 3, constantValue := 0 }, { name := "serialVersionUID", type := .long, accessFlags := 26, slot := 0, constantValue := 0 }, { name := "COMPACT_STRINGS", type := .boolean, accessFlags := 24, slot := 1, constantValue := 0 }, { name := "serialPersistentFields", type := (.array (.object "java/io/ObjectStreamField")), accessFlags := 26, slot := 2, constantValue := 0 }, { name := "REPL", type := .char, accessFlags := 26, slot := 3, constantValue := 0 }, { name := "CASE_INSENSITIVE_ORDER", type := (.object "java/util/Comparator"), accessFlags := 25, slot := 4, constantValue := 0 }, { name := "LATIN1", type := .byte, accessFlags := 24, slot := 5, constantValue := 0 }, { name := "UTF16", type := .byte, accessFlags := 24, slot := 6, constantValue := 0 }]
  methods := #[k9m0]
  instanceTypes := #[(.array .byte), .byte, .int, .boolean]
  staticTypes := #[.long, .boolean, (.array (.object "java/io/ObjectStreamField")), .char, (.object "java/util/Comparator"), .byte, .byte]
  resolved := Array.replicate 1451 none
  statics := none }

def pool10 : Array CpInfo := pool [(1, u "java/lang/Cloneable"), (0, .class_ 1), (0, u "java/lang/Object"), (0, .class_ 3)] 3

/-- java/lang/Cloneable -/
def k10 : Class := { plain "java/lang/Cloneable" (some 0) with
  accessFlags := 1537
  interfaces := #[]
  cf := some (fileOf pool10 2 #[] #[] 1537 4 #[] #[])
  fields := #[]
  methods := #[]
  instanceTypes := #[]
  staticTypes := #[]
  resolved := Array.replicate 8 none
  statics := none }

/-- the primitive byte -/
def k11 : Class := { plain "byte" none with kind := .primitive 'B', accessFlags := 0x411 }
/-- [B -/
def k12 : Class := { plain "[B" (some 0) with kind := .array 11 .byte, interfaces := #[10, 4], accessFlags := 1041 }

/-- the primitive int -/
def k13 : Class := { plain "int" none with kind := .primitive 'I', accessFlags := 0x411 }
/-- [I -/
def k14 : Class := { plain "[I" (some 0) with kind := .array 13 .int, interfaces := #[10, 4], accessFlags := 1041 }

def heap : Heap := #[]
def classes : Array Class := #[k0, k1, k2, k3, k4, k5, k6, k7, k8, k9, k10, k11, k12, k13, k14]
def interned : List (Array UInt16 × Addr) := []
def slotsUsed : Nat := 0
def theMethod : MethodId := ⟨1, 1⟩
def args0 : Array Value := #[.int 5]
def aboutOver (below : List Frame) : State where
  vm := { classes := classes, interned := interned.toArray }
  heap := heap
  slotsUsed := slotsUsed
  threads := #[{ frames := .invoking theMethod args0 :: below }]
def below0 : List Frame := [.native { method := ⟨0, 0⟩, args := #[] }]
def about1 : State := aboutOver below0
def p0 : Program := .bare "" "" ""
def e0 : Env := launch0.env 0 0 0
theorem w_frames : about1.frames = Frame.invoking theMethod args0 :: below0 := rfl
set_option maxRecDepth 65536 in
theorem w_args : argsFit about1.vm theMethod args0 = true := by decide +kernel
set_option maxRecDepth 65536 in
theorem w_heap : heapFits about1 = true := by decide +kernel
set_option maxRecDepth 65536 in
theorem w_runnable : about1.curStatus? = some .runnable := by decide +kernel
set_option maxRecDepth 65536 in
theorem w_alone : about1.alone = true := by decide +kernel
set_option maxRecDepth 65536 in
theorem w_named : about1.methodNamed? x = some theMethod := by decide +kernel
set_option maxRecDepth 65536 in
theorem w_hears : about1.hears theMethod below0 = true := by decide +kernel
set_option maxRecDepth 65536 in
theorem w_ripe : about1.ripe theMethod args0 below0 = true := by decide +kernel
theorem w_running : about1.status = .running := rfl
set_option maxRecDepth 65536 in
theorem w_room : about1.hasRoom e0.platform room_1 = true :=
  launch0.hasRoom_least _ room_1 (by decide +kernel) (by decide +kernel) (by decide +kernel) (by decide +kernel) (by decide +kernel) (by decide +kernel)
theorem allAtoms_all (ts : List Jvm.Cond) (a : Array Jvm.Value) (st : Jvm.State) : (allAtoms ts).before a st = ts.all (fun c => c.before a st) := by
  induction ts with
  | nil => rfl
  | cons c t ih =>
    show (Jvm.Cond.and c (allAtoms t)).before a st = _
    rw [Jvm.Cond.before_and, ih, List.all_cons]
def words1 : List Jvm.Cond := Jvm.Cond.code x code maxLocals ret :: tables_1
/-- a 'code' word, met by the world's own term for the bytes: nothing is compared byte by byte -/
theorem code_word {y : MethodName} {bytes : ByteArray} {mx : Nat} {rt : Option FieldType} {a : Array Value} {s : State} {m : MethodId} {meth : Method} {c : Code} (h1 : s.methodNamed? y = some m) (h2 : s.vm.method? m = some meth) (h3 : meth.code = some c) (h4 : c.code = bytes)
    (h5 : (c.maxLocals == mx && c.exceptionTable.isEmpty && decide (c.maxStack ≤ mostOperands) && decide (meth.sig.returnType = rt) && !meth.locks && decide (parseMethodDescriptor y.desc = some meth.sig)) = true) : (Jvm.Cond.code y bytes mx rt).before a s = true := by
  simp only [Bool.and_eq_true, beq_iff_eq, Bool.not_eq_true', decide_eq_true_eq] at h5
  obtain ⟨⟨⟨⟨⟨g1, g2⟩, g3⟩, g4⟩, g5⟩, g6⟩ := h5
  simp [Cond.before, Cond.holds, Cond.value, h1, h2, h3, h4, g1, g2, g3, g4, g5, g6]
def isCode : Jvm.Cond → Bool
  | .code _ _ _ _ => true
  | _ => false
theorem all_split {L : List Jvm.Cond} {P : Jvm.Cond → Bool} (h1 : L.all (fun c => isCode c || P c) = true) (h2 : ∀ c ∈ L.filter isCode, P c = true) : L.all P = true := by
  refine List.all_eq_true.mpr fun c hc => ?_
  have h := List.all_eq_true.mp h1 c hc
  rcases Bool.eq_false_or_eq_true (isCode c) with hi | hi
  · exact h2 c (List.mem_filter.mpr ⟨hc, hi⟩)
  · simpa [hi] using h
set_option maxRecDepth 65536 in
theorem w_c0 : (Jvm.Cond.code x code maxLocals ret).before args0 about1 = true := code_word (m := ⟨1, 1⟩) (meth := k1m1) (c := k1c1) (by decide +kernel) rfl rfl rfl (by decide +kernel)
set_option maxRecDepth 65536 in
theorem w_c1 : (Jvm.Cond.code ({ cls := "com/example/stairstep/stairstep/MariaDbScript", name := "<init>", desc := "(Ljava/lang/String;)V" } : Jvm.MethodName) prog_21_method_1_code (2 : Nat) (Option.none : Option Jvm.ClassFile.FieldType)).before args0 about1 = true := code_word (m := ⟨3, 0⟩) (meth := k3m0) (c := k3c0) (by decide +kernel) rfl rfl rfl (by decide +kernel)
set_option maxRecDepth 65536 in
theorem w_c2 : (Jvm.Cond.code ({ cls := "com/example/stairstep/stairstep/Script", name := "<init>", desc := "(Ljava/lang/String;)V" } : Jvm.MethodName) prog_37_method_1_code (2 : Nat) (Option.none : Option Jvm.ClassFile.FieldType)).before args0 about1 = true := code_word (m := ⟨2, 0⟩) (meth := k2m0) (c := k2c0) (by decide +kernel) rfl rfl rfl (by decide +kernel)
set_option maxRecDepth 65536 in
theorem w_c3 : (Jvm.Cond.code ({ cls := "java/lang/Object", name := "<init>", desc := "()V" } : Jvm.MethodName) object_method_1_code (1 : Nat) (Option.none : Option Jvm.ClassFile.FieldType)).before args0 about1 = true := code_word (m := ⟨0, 0⟩) (meth := k0m0) (c := k0c0) (by decide +kernel) rfl rfl rfl (by decide +kernel)
set_option maxRecDepth 65536 in
theorem w_c4 : (Jvm.Cond.code ({ cls := "com/example/stairstep/stairstep/MariaDbScript", name := "blank", desc := "(C)Z" } : Jvm.MethodName) prog_21_method_24_code (2 : Nat) (Option.some Jvm.ClassFile.FieldType.boolean)).before args0 about1 = true := code_word (m := ⟨3, 1⟩) (meth := k3m1) (c := k3c1) (by decide +kernel) rfl rfl rfl (by decide +kernel)
def codes1 : List Jvm.Cond := [Jvm.Cond.code x code maxLocals ret, Jvm.Cond.code ({ cls := "com/example/stairstep/stairstep/MariaDbScript", name := "<init>", desc := "(Ljava/lang/String;)V" } : Jvm.MethodName) prog_21_method_1_code (2 : Nat) (Option.none : Option Jvm.ClassFile.FieldType), Jvm.Cond.code ({ cls := "com/example/stairstep/stairstep/Script", name := "<init>", desc := "(Ljava/lang/String;)V" } : Jvm.MethodName) prog_37_method_1_code (2 : Nat) (Option.none : Option Jvm.ClassFile.FieldType), Jvm.Cond.code ({ cls := "java/lang/Object", name := "<init>", desc := "()V" } : Jvm.MethodName) object_method_1_code (1 : Nat) (Option.none : Option Jvm.ClassFile.FieldType), Jvm.Cond.code ({ cls := "com/example/stairstep/stairstep/MariaDbScript", name := "blank", desc := "(C)Z" } : Jvm.MethodName) prog_21_method_24_code (2 : Nat) (Option.some Jvm.ClassFile.FieldType.boolean)]
set_option maxRecDepth 65536 in
theorem codes_eq : words1.filter isCode = codes1 := rfl
theorem w_codes : ∀ c ∈ words1.filter isCode, c.before args0 about1 = true := by
  rw [codes_eq]
  intro c hc
  simp only [codes1, List.mem_cons, List.not_mem_nil, or_false] at hc
  rcases hc with rfl | rfl | rfl | rfl | rfl
  · exact w_c0
  · exact w_c1
  · exact w_c2
  · exact w_c3
  · exact w_c4
set_option maxRecDepth 65536 in
theorem w_t1 : (words1.take 24).all (fun c => isCode c || c.before args0 about1) = true := by decide +kernel
set_option maxRecDepth 65536 in
theorem w_t2 : (words1.drop 24).all (fun c => isCode c || c.before args0 about1) = true := by decide +kernel
theorem w_tables : (allAtoms (Jvm.Cond.code x code maxLocals ret :: tables_1)).before args0 about1 = true := by
  rw [allAtoms_all]
  show words1.all (fun c => c.before args0 about1) = true
  refine all_split ?_ w_codes
  rw [← List.take_append_drop 24 words1, List.all_append, w_t1, w_t2]
  rfl
set_option maxRecDepth 65536 in
theorem w_case : (Jvm.Cond.and given_1 narrow_1).before args0 about1 = true := by decide +kernel
theorem w_applies : (headSpec (Jvm.Cond.code x code maxLocals ret :: tables_1) room_1).applies x e0.platform about1 = true :=
  (Spec.applies_iff w_frames).mpr ⟨w_running, w_runnable, w_alone, w_named, w_hears, w_ripe, w_room, w_tables⟩
theorem atStart : AtStart classFile x code maxLocals ret World_1 tables_1 room_1 Calls_1 rest_1 Pre_1 launch0 p0 e0 about1 theMethod args0 below0 :=
  ⟨lists_1, trivial, launch0.admits_env _ _ _, launch0.least_env, fairChoices_fair.cas, fairChoices_fair.clock, w_frames, w_args, w_heap, w_applies, trivial, trivial, w_case⟩
end start1
theorem witness_1 : WitnessClaimed_1 := ⟨start1.p0, start1.e0, start1.about1, start1.theMethod, start1.args0, start1.below0, start1.atStart⟩
end Jvm.Pilot.@@N@@
