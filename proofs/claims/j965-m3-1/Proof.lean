import JvmDerived
import JvmDerived.Pilot.@@N@@Statement
import JvmDerived.Pilot.@@N@@Code
set_option linter.unusedVariables false
set_option linter.unusedSimpArgs false
@@BLOCK:NumsL.lean.txt@@
namespace Jvm.Pilot.@@N@@
open Jvm Jvm.ClassFile Sem Op Lib Jvm.Free Jvm.Stand Jvm.LawKit Jvm.RoadKit Bundle Jvm.Pilot.@@N@@.Jvm.D
/-! the walk's own form: from this state and frame the run ends as P says -/
def Go (p : Program) (e : Env) (below : List Frame) (T : State) (g : JFrame) (P : Outcome → State → Prop) : Prop := ∃ s₂ o, Steps p.tables e below (T.setTop g) s₂ ∧ s₂.status = .running ∧ Ended s₂ below o ∧ P o s₂
theorem Go.of {p : Program} {e : Env} {below : List Frame} {T T' : State} {g g' : JFrame} {P : Outcome → State → Prop} (k : ∀ t, Steps p.tables e below (T'.setTop g') t → Steps p.tables e below (T.setTop g) t) (h : Go p e below T' g' P) : Go p e below T g P := by
  obtain ⟨s2, o, h1, h2⟩ := h; exact ⟨s2, o, k _ h1, h2⟩
theorem Go.enter {p : Program} {e : Env} {below : List Frame} {T : State} {g g' : JFrame} {P : Outcome → State → Prop} (q : g = g') (h : Go p e below T g' P) : ∃ s₂ o, Steps p.tables e below (T.setTop g) s₂ ∧ s₂.status = .running ∧ Ended s₂ below o ∧ P o s₂ := by
  subst q; exact h
theorem own_selp {s : State} {args : Array Value} {y : MethodName} {n : Nat} (hi : (Jvm.Cond.instantiable y.cls n).before args s = true) (hp : s.PrivateAt y) (hm : (Jvm.Cond.instanceMethod y).before args s = true) (hy : y.cls ≠ "java/lang/invoke/MethodHandle" ∧ y.cls ≠ "java/lang/invoke/VarHandle") : (Jvm.Cond.selects y.cls y y).before args s = true := by
  obtain ⟨c, k, h1, h2, -, h3, -⟩ := Cond.instantiable_spec hi
  rw [Bool.or_eq_false_iff] at h3
  exact selects_self_of_private h1 h2 h3.1 hp hm hy
/-- a local that holds nothing or one word -/
def Sl (o : Slot) : Prop := o = .unset ∨ ∃ w : Value, o = .val w ∧ w.category = 1
theorem own_and3 (x : Int32) : x &&& 3 = 0 ∨ x &&& 3 = 1 ∨ x &&& 3 = 2 ∨ x &&& 3 = 3 := by
  have h : (x &&& 3).toInt = x.toInt % 2 ^ 2 := Jvm.Kit.i32_mask x 3 (k := 2) (by decide) (by decide)
  have h0 : (0 : Int32).toInt = 0 := by decide
  have h1 : (1 : Int32).toInt = 1 := by decide
  have h2 : (2 : Int32).toInt = 2 := by decide
  have h3 : (3 : Int32).toInt = 3 := by decide
  simp only [← Int32.toInt_inj, h, h0, h1, h2, h3]; omega
theorem pn_0 : plainName "com/example/diagnostic/diagnostic/SeverityOrDefaultPinLaw" = true := by first | (simp [plainName, overriddenIn]; done) | decide +kernel
theorem pn_1 : plainName "com/example/diagnostic/diagnostic/Severity" = true := by first | (simp [plainName, overriddenIn]; done) | decide +kernel
theorem pd_0 : parseMethodDescriptor "(I)Lcom/example/diagnostic/diagnostic/Severity;" = some ⟨[.int], some (.object "com/example/diagnostic/diagnostic/Severity")⟩ := by decide +kernel
theorem pd_1 : parseMethodDescriptor "(Lcom/example/diagnostic/diagnostic/Severity;)Lcom/example/diagnostic/diagnostic/Severity;" = some ⟨[(.object "com/example/diagnostic/diagnostic/Severity")], some (.object "com/example/diagnostic/diagnostic/Severity")⟩ := by decide +kernel
def pickV (x : Int32) (aL aM aH : Addr) : Value := if x = 0 then .null else if x = 1 then .ref aL else if x = 2 then .ref aM else .ref aH
theorem pick_0 (aL aM aH : Addr) : pickV (0 : Int32) aL aM aH = .null := by simp [pickV]
theorem pick_1 (aL aM aH : Addr) : pickV (1 : Int32) aL aM aH = (.ref aL) := by simp [pickV]
theorem pick_2 (aL aM aH : Addr) : pickV (2 : Int32) aL aM aH = (.ref aM) := by simp [pickV]
theorem pick_3 (aL aM aH : Addr) : pickV (3 : Int32) aL aM aH = (.ref aH) := by simp [pickV]
theorem d1_0 : decode method_2_code 0 = .ok (.iload_n 0, 1) := by decide +kernel
theorem d1_1 : decode method_2_code 1 = .ok (.ifCond .ne 5, 3) := by decide +kernel
theorem d1_4 : decode method_2_code 4 = .ok (.aconst_null, 1) := by decide +kernel
theorem d1_5 : decode method_2_code 5 = .ok (.areturn, 1) := by decide +kernel
theorem d1_6 : decode method_2_code 6 = .ok (.iload_n 0, 1) := by decide +kernel
theorem d1_7 : decode method_2_code 7 = .ok (.iconst 1, 1) := by decide +kernel
theorem d1_8 : decode method_2_code 8 = .ok (.if_icmp .ne 7, 3) := by decide +kernel
theorem d1_11 : decode method_2_code 11 = .ok (.getstatic 7, 3) := by decide +kernel
theorem d1_14 : decode method_2_code 14 = .ok (.areturn, 1) := by decide +kernel
theorem d1_15 : decode method_2_code 15 = .ok (.iload_n 0, 1) := by decide +kernel
theorem d1_16 : decode method_2_code 16 = .ok (.iconst 2, 1) := by decide +kernel
theorem d1_17 : decode method_2_code 17 = .ok (.if_icmp .ne 7, 3) := by decide +kernel
theorem d1_20 : decode method_2_code 20 = .ok (.getstatic 13, 3) := by decide +kernel
theorem d1_23 : decode method_2_code 23 = .ok (.areturn, 1) := by decide +kernel
theorem d1_24 : decode method_2_code 24 = .ok (.getstatic 16, 3) := by decide +kernel
theorem d1_27 : decode method_2_code 27 = .ok (.areturn, 1) := by decide +kernel
theorem ef_1 (m : MethodId) (x0 : Int32) : entryFrame m #[(.int x0)] 1 = mkF m 0 #[.val (.int x0)] [] := by first | (simp [entryFrame, mkF, argsToLocals, Value.category]; done) | rfl
def Q1 (Z : State) (x : Int32) (aL : Addr) (aM : Addr) (aH : Addr) (h0 : Heap) (n0 : Nat) (v : Option Value) (h : Heap) (L : List Loc) : Prop := v = some (pickV x aL aM aH) ∧ Fr n0 L ∧ h = h0
set_option maxRecDepth 65536 in
set_option maxHeartbeats 40000000 in
theorem rm1 (l : Launch) (Z : State) (a0 : Array Value) (hw : ∀ d ∈ tables_1, d.before a0 Z = true) (ws : List Jvm.Cond) (x : Int32) (aL : Addr) (aM : Addr) (aH : Addr) (h0 : Heap) (n0 : Nat) (Z0 : n0 ≤ h0.size) (SLOW : Sta Z h0 "com/example/diagnostic/diagnostic/Severity" "LOW" "Lcom/example/diagnostic/diagnostic/Severity;" (.ref aL)) (SMEDIUM : Sta Z h0 "com/example/diagnostic/diagnostic/Severity" "MEDIUM" "Lcom/example/diagnostic/diagnostic/Severity;" (.ref aM)) (SHIGH : Sta Z h0 "com/example/diagnostic/diagnostic/Severity" "HIGH" "Lcom/example/diagnostic/diagnostic/Severity;" (.ref aH)) :
    MetFree l (⟨"com/example/diagnostic/diagnostic/SeverityOrDefaultPinLaw", "pick", "(I)Lcom/example/diagnostic/diagnostic/Severity;"⟩ : MethodName) (head1 (Jvm.Cond.code (⟨"com/example/diagnostic/diagnostic/SeverityOrDefaultPinLaw", "pick", "(I)Lcom/example/diagnostic/diagnostic/Severity;"⟩ : MethodName) method_2_code 1 (some (.object "com/example/diagnostic/diagnostic/Severity")) :: ws) ({ frames := 0, cells := 0, slots := 0, locals := 0 } : Room)) (fun aa_ U => aa_ = #[(.int x)] ∧ Z.Warmed39 U.vm ∧ U.heap = h0) (fun _ _ _ _ _ => True) (fun _ U o U' => ∃ vv_ LL_, o = .returned vv_ ∧ Q1 Z x aL aM aH h0 n0 vv_ U'.heap LL_ ∧ FrameEnd U o U' LL_ ({ frames := 0, cells := 0, slots := 0, locals := 0 } : Room).cells ({ frames := 0, cells := 0, slots := 0, locals := 0 } : Room).slots) := by
  refine MetFree.of_bodySF (plainFor_of_name pn_0) hisR ?_
  intro p e s m args below meth c s₁ Bd hml0 hP hK
  obtain ⟨rfl, hZ, hh⟩ := hP
  have hx := Bd.exec
  have hby := Bd.bytes
  have hml : c.maxLocals = 1 := hml0
  have hown : s.vm.findClass "com/example/diagnostic/diagnostic/SeverityOrDefaultPinLaw" = some m.cls := findClass_of_methodNamed Bd.named
  have hnm := (name_of_methodNamed Bd.named Bd.method).1
  have X0 : Stand p l e ({ frames := 0, cells := 0, slots := 0, locals := 0 } : Room) s m #[(.int x)] below meth c s₁ [] 0 0 := Stand.of_body Bd
  have e0 : s₁.heap = h0 := by rw [← hh, Bd.state]; rfl
  have N0 := Fr.nil n0
  have K0 : Keep h0 h0 [] := Keep.refl h0 _
  refine Go.enter (P := fun o U' => ∃ vv_ LL_, o = .returned vv_ ∧ Q1 Z x aL aM aH h0 n0 vv_ U'.heap LL_ ∧ FrameEnd s o U' LL_ ({ frames := 0, cells := 0, slots := 0, locals := 0 } : Room).cells ({ frames := 0, cells := 0, slots := 0, locals := 0 } : Room).slots) (ef_1 m x) ?_
  show Go p e below s₁ (mkF m 0 #[.val (.int x)] []) _
  refine Go.of (fun tg_ kk_ => XS.iloadN X0.here hx rfl (hb hby d1_0) rfl kk_) ?_
  show Go p e below s₁ (mkF m 1 #[.val (.int x)] [(.int x)]) _
  by_cases hc1 : x = (0 : Int32)
  · skip
    refine Go.of (fun tg_ kk_ => XS.ifNo X0.here hx rfl (hb hby d1_1) rfl ((if0 _ _).trans (teq hc1).2) kk_) ?_
    show Go p e below s₁ (mkF m 4 #[.val (.int x)] []) _
    refine Go.of (fun tg_ kk_ => XS.aconstNull X0.here hx rfl (hb hby d1_4) kk_) ?_
    show Go p e below s₁ (mkF m 5 #[.val (.int x)] [.null]) _
    obtain ⟨fs, hr, hrun, hended, hW, hsame⟩ := X0.leave (v := some .null) (fun h => by rw [Bd.returns] at h; cases h)
    refine ⟨_, _, ?_, hrun, hended, _, _, rfl, ?_, ⟨_, rfl⟩, hW, hsame.mono (by decide) (by decide)⟩
    · exact retOut X0 hx Bd.returns rfl (Or.inr (Or.inr (Or.inr (Or.inr ⟨rfl, rfl, rfl⟩)))) (hb hby d1_5) hr
    · show Q1 Z x aL aM aH h0 n0 _ s₁.heap _
      rw [e0]
      exact ⟨by simp [pickV, hc1], N0, rfl⟩
  · skip
    refine Go.of (fun tg_ kk_ => XS.ifYes X0.here hx rfl (pc0 := 1) (pc' := 6) rfl (hb hby d1_1) rfl ((if0 _ _).trans (feq hc1).2) (by decide) (by decide) kk_) ?_
    show Go p e below s₁ (mkF m 6 #[.val (.int x)] []) _
    refine Go.of (fun tg_ kk_ => XS.iloadN X0.here hx rfl (hb hby d1_6) rfl kk_) ?_
    show Go p e below s₁ (mkF m 7 #[.val (.int x)] [(.int x)]) _
    refine Go.of (fun tg_ kk_ => XS.iconst X0.here hx rfl (hb hby d1_7) kk_) ?_
    show Go p e below s₁ (mkF m 8 #[.val (.int x)] [(.int (1 : Int32)), (.int x)]) _
    by_cases hc2 : x = (1 : Int32)
    · skip
      refine Go.of (fun tg_ kk_ => XS.icmpNo X0.here hx rfl (hb hby d1_8) rfl (teq hc2).2 kk_) ?_
      show Go p e below s₁ (mkF m 11 #[.val (.int x)] []) _
      obtain ⟨T3, X3, e3, st3⟩ := getS2 X0 hx hZ hown (host := "") (Or.inl (hw _ (List.mem_of_getElem? (i := 13) rfl))) Via.refl e0 SLOW (g := (mkF m 11 #[.val (.int x)] [])) rfl (hb hby d1_11)
      refine Go.of (st3) ?_
      show Go p e below T3 (mkF m 14 #[.val (.int x)] [(.ref aL)]) _
      obtain ⟨fs, hr, hrun, hended, hW, hsame⟩ := X3.leave (v := some (.ref aL)) (fun h => by rw [Bd.returns] at h; cases h)
      refine ⟨_, _, ?_, hrun, hended, _, _, rfl, ?_, ⟨_, rfl⟩, hW, hsame.mono (by decide) (by decide)⟩
      · exact retOut X3 hx Bd.returns rfl (Or.inr (Or.inr (Or.inr (Or.inr ⟨rfl, rfl, rfl⟩)))) (hb hby d1_14) hr
      · show Q1 Z x aL aM aH h0 n0 _ T3.heap _
        rw [e3]
        exact ⟨by simp [pickV, hc1, hc2], N0, rfl⟩
    · skip
      refine Go.of (fun tg_ kk_ => XS.icmpYes X0.here hx rfl (pc0 := 8) (pc' := 15) rfl (hb hby d1_8) rfl (feq hc2).2 (by decide) (by decide) kk_) ?_
      show Go p e below s₁ (mkF m 15 #[.val (.int x)] []) _
      refine Go.of (fun tg_ kk_ => XS.iloadN X0.here hx rfl (hb hby d1_15) rfl kk_) ?_
      show Go p e below s₁ (mkF m 16 #[.val (.int x)] [(.int x)]) _
      refine Go.of (fun tg_ kk_ => XS.iconst X0.here hx rfl (hb hby d1_16) kk_) ?_
      show Go p e below s₁ (mkF m 17 #[.val (.int x)] [(.int (2 : Int32)), (.int x)]) _
      by_cases hc4 : x = (2 : Int32)
      · skip
        refine Go.of (fun tg_ kk_ => XS.icmpNo X0.here hx rfl (hb hby d1_17) rfl (teq hc4).2 kk_) ?_
        show Go p e below s₁ (mkF m 20 #[.val (.int x)] []) _
        obtain ⟨T5, X5, e5, st5⟩ := getS2 X0 hx hZ hown (host := "") (Or.inl (hw _ (List.mem_of_getElem? (i := 10) rfl))) Via.refl e0 SMEDIUM (g := (mkF m 20 #[.val (.int x)] [])) rfl (hb hby d1_20)
        refine Go.of (st5) ?_
        show Go p e below T5 (mkF m 23 #[.val (.int x)] [(.ref aM)]) _
        obtain ⟨fs, hr, hrun, hended, hW, hsame⟩ := X5.leave (v := some (.ref aM)) (fun h => by rw [Bd.returns] at h; cases h)
        refine ⟨_, _, ?_, hrun, hended, _, _, rfl, ?_, ⟨_, rfl⟩, hW, hsame.mono (by decide) (by decide)⟩
        · exact retOut X5 hx Bd.returns rfl (Or.inr (Or.inr (Or.inr (Or.inr ⟨rfl, rfl, rfl⟩)))) (hb hby d1_23) hr
        · show Q1 Z x aL aM aH h0 n0 _ T5.heap _
          rw [e5]
          exact ⟨by simp [pickV, hc1, hc2, hc4], N0, rfl⟩
      · skip
        refine Go.of (fun tg_ kk_ => XS.icmpYes X0.here hx rfl (pc0 := 17) (pc' := 24) rfl (hb hby d1_17) rfl (feq hc4).2 (by decide) (by decide) kk_) ?_
        show Go p e below s₁ (mkF m 24 #[.val (.int x)] []) _
        obtain ⟨T6, X6, e6, st6⟩ := getS2 X0 hx hZ hown (host := "") (Or.inl (hw _ (List.mem_of_getElem? (i := 11) rfl))) Via.refl e0 SHIGH (g := (mkF m 24 #[.val (.int x)] [])) rfl (hb hby d1_24)
        refine Go.of (st6) ?_
        show Go p e below T6 (mkF m 27 #[.val (.int x)] [(.ref aH)]) _
        obtain ⟨fs, hr, hrun, hended, hW, hsame⟩ := X6.leave (v := some (.ref aH)) (fun h => by rw [Bd.returns] at h; cases h)
        refine ⟨_, _, ?_, hrun, hended, _, _, rfl, ?_, ⟨_, rfl⟩, hW, hsame.mono (by decide) (by decide)⟩
        · exact retOut X6 hx Bd.returns rfl (Or.inr (Or.inr (Or.inr (Or.inr ⟨rfl, rfl, rfl⟩)))) (hb hby d1_27) hr
        · show Q1 Z x aL aM aH h0 n0 _ T6.heap _
          rw [e6]
          exact ⟨by simp [pickV, hc1, hc2, hc4], N0, rfl⟩
theorem d2_0 : decode prog_4_method_6_code 0 = .ok (.aload_n 0, 1) := by decide +kernel
theorem d2_1 : decode prog_4_method_6_code 1 = .ok (.ifnonnull 9, 3) := by decide +kernel
theorem d2_4 : decode prog_4_method_6_code 4 = .ok (.getstatic 7, 3) := by decide +kernel
theorem d2_7 : decode prog_4_method_6_code 7 = .ok (.goto 4, 3) := by decide +kernel
theorem d2_11 : decode prog_4_method_6_code 11 = .ok (.areturn, 1) := by decide +kernel
theorem ef_2n (m : MethodId)  : entryFrame m #[.null] 1 = mkF m 0 #[.val .null] [] := by first | (simp [entryFrame, mkF, argsToLocals, Value.category]; done) | rfl
def Q2n (Z : State) (aM : Addr) (h0 : Heap) (n0 : Nat) (v : Option Value) (h : Heap) (L : List Loc) : Prop := v = some (.ref aM) ∧ Fr n0 L ∧ h = h0
set_option maxRecDepth 65536 in
set_option maxHeartbeats 40000000 in
theorem rm2n (l : Launch) (Z : State) (a0 : Array Value) (hw : ∀ d ∈ tables_1, d.before a0 Z = true) (ws : List Jvm.Cond) (aM : Addr) (h0 : Heap) (n0 : Nat) (Z0 : n0 ≤ h0.size) (SMEDIUM : Sta Z h0 "com/example/diagnostic/diagnostic/Severity" "MEDIUM" "Lcom/example/diagnostic/diagnostic/Severity;" (.ref aM)) :
    MetFree l (⟨"com/example/diagnostic/diagnostic/Severity", "orDefault", "(Lcom/example/diagnostic/diagnostic/Severity;)Lcom/example/diagnostic/diagnostic/Severity;"⟩ : MethodName) (head1 (Jvm.Cond.code (⟨"com/example/diagnostic/diagnostic/Severity", "orDefault", "(Lcom/example/diagnostic/diagnostic/Severity;)Lcom/example/diagnostic/diagnostic/Severity;"⟩ : MethodName) prog_4_method_6_code 1 (some (.object "com/example/diagnostic/diagnostic/Severity")) :: ws) ({ frames := 0, cells := 0, slots := 0, locals := 0 } : Room)) (fun aa_ U => aa_ = #[.null] ∧ Z.Warmed39 U.vm ∧ U.heap = h0) (fun _ _ _ _ _ => True) (fun _ U o U' => ∃ vv_ LL_, o = .returned vv_ ∧ Q2n Z aM h0 n0 vv_ U'.heap LL_ ∧ FrameEnd U o U' LL_ ({ frames := 0, cells := 0, slots := 0, locals := 0 } : Room).cells ({ frames := 0, cells := 0, slots := 0, locals := 0 } : Room).slots) := by
  refine MetFree.of_bodySF (plainFor_of_name pn_1) hisR ?_
  intro p e s m args below meth c s₁ Bd hml0 hP hK
  obtain ⟨rfl, hZ, hh⟩ := hP
  have hx := Bd.exec
  have hby := Bd.bytes
  have hml : c.maxLocals = 1 := hml0
  have hown : s.vm.findClass "com/example/diagnostic/diagnostic/Severity" = some m.cls := findClass_of_methodNamed Bd.named
  have hnm := (name_of_methodNamed Bd.named Bd.method).1
  have X0 : Stand p l e ({ frames := 0, cells := 0, slots := 0, locals := 0 } : Room) s m #[.null] below meth c s₁ [] 0 0 := Stand.of_body Bd
  have e0 : s₁.heap = h0 := by rw [← hh, Bd.state]; rfl
  have N0 := Fr.nil n0
  have K0 : Keep h0 h0 [] := Keep.refl h0 _
  refine Go.enter (P := fun o U' => ∃ vv_ LL_, o = .returned vv_ ∧ Q2n Z aM h0 n0 vv_ U'.heap LL_ ∧ FrameEnd s o U' LL_ ({ frames := 0, cells := 0, slots := 0, locals := 0 } : Room).cells ({ frames := 0, cells := 0, slots := 0, locals := 0 } : Room).slots) (ef_2n m ) ?_
  show Go p e below s₁ (mkF m 0 #[.val .null] []) _
  refine Go.of (fun tg_ kk_ => XS.aloadN X0.here hx rfl (hb hby d2_0) rfl rfl kk_) ?_
  show Go p e below s₁ (mkF m 1 #[.val .null] [.null]) _
  refine Go.of (fun tg_ kk_ => XS.ifnonnullNo X0.here hx rfl (hb hby d2_1) rfl kk_) ?_
  show Go p e below s₁ (mkF m 4 #[.val .null] []) _
  obtain ⟨T1, X1, e1, st1⟩ := getS2 X0 hx hZ hown (host := "") (Or.inl (hw _ (List.mem_of_getElem? (i := 8) rfl))) Via.refl e0 SMEDIUM (g := (mkF m 4 #[.val .null] [])) rfl (hb hby d2_4)
  refine Go.of (st1) ?_
  show Go p e below T1 (mkF m 7 #[.val .null] [(.ref aM)]) _
  refine Go.of (fun tg_ kk_ => XS.goto X1.here hx rfl (pc0 := 7) (pc' := 11) rfl (hb hby d2_7) (by decide) (by decide) kk_) ?_
  show Go p e below T1 (mkF m 11 #[.val .null] [(.ref aM)]) _
  obtain ⟨fs, hr, hrun, hended, hW, hsame⟩ := X1.leave (v := some (.ref aM)) (fun h => by rw [Bd.returns] at h; cases h)
  refine ⟨_, _, ?_, hrun, hended, _, _, rfl, ?_, ⟨_, rfl⟩, hW, hsame.mono (by decide) (by decide)⟩
  · exact retOut X1 hx Bd.returns rfl (Or.inr (Or.inr (Or.inr (Or.inr ⟨rfl, rfl, rfl⟩)))) (hb hby d2_11) hr
  · show Q2n Z aM h0 n0 _ T1.heap _
    rw [e1]
    exact ⟨rfl, N0, rfl⟩
theorem d2_10 : decode prog_4_method_6_code 10 = .ok (.aload_n 0, 1) := by decide +kernel
theorem ef_2 (m : MethodId) (x0 : Addr) : entryFrame m #[(.ref x0)] 1 = mkF m 0 #[.val (.ref x0)] [] := by first | (simp [entryFrame, mkF, argsToLocals, Value.category]; done) | rfl
def Q2 (Z : State) (a : Addr) (h0 : Heap) (n0 : Nat) (v : Option Value) (h : Heap) (L : List Loc) : Prop := v = some (.ref a) ∧ Fr n0 L ∧ h = h0
set_option maxRecDepth 65536 in
set_option maxHeartbeats 40000000 in
theorem rm2 (l : Launch) (Z : State) (a0 : Array Value) (hw : ∀ d ∈ tables_1, d.before a0 Z = true) (ws : List Jvm.Cond) (a : Addr) (h0 : Heap) (n0 : Nat) (Z0 : n0 ≤ h0.size) :
    MetFree l (⟨"com/example/diagnostic/diagnostic/Severity", "orDefault", "(Lcom/example/diagnostic/diagnostic/Severity;)Lcom/example/diagnostic/diagnostic/Severity;"⟩ : MethodName) (head1 (Jvm.Cond.code (⟨"com/example/diagnostic/diagnostic/Severity", "orDefault", "(Lcom/example/diagnostic/diagnostic/Severity;)Lcom/example/diagnostic/diagnostic/Severity;"⟩ : MethodName) prog_4_method_6_code 1 (some (.object "com/example/diagnostic/diagnostic/Severity")) :: ws) ({ frames := 0, cells := 0, slots := 0, locals := 0 } : Room)) (fun aa_ U => aa_ = #[(.ref a)] ∧ Z.Warmed39 U.vm ∧ U.heap = h0) (fun _ _ _ _ _ => True) (fun _ U o U' => ∃ vv_ LL_, o = .returned vv_ ∧ Q2 Z a h0 n0 vv_ U'.heap LL_ ∧ FrameEnd U o U' LL_ ({ frames := 0, cells := 0, slots := 0, locals := 0 } : Room).cells ({ frames := 0, cells := 0, slots := 0, locals := 0 } : Room).slots) := by
  refine MetFree.of_bodySF (plainFor_of_name pn_1) hisR ?_
  intro p e s m args below meth c s₁ Bd hml0 hP hK
  obtain ⟨rfl, hZ, hh⟩ := hP
  have hx := Bd.exec
  have hby := Bd.bytes
  have hml : c.maxLocals = 1 := hml0
  have hown : s.vm.findClass "com/example/diagnostic/diagnostic/Severity" = some m.cls := findClass_of_methodNamed Bd.named
  have hnm := (name_of_methodNamed Bd.named Bd.method).1
  have X0 : Stand p l e ({ frames := 0, cells := 0, slots := 0, locals := 0 } : Room) s m #[(.ref a)] below meth c s₁ [] 0 0 := Stand.of_body Bd
  have e0 : s₁.heap = h0 := by rw [← hh, Bd.state]; rfl
  have N0 := Fr.nil n0
  have K0 : Keep h0 h0 [] := Keep.refl h0 _
  refine Go.enter (P := fun o U' => ∃ vv_ LL_, o = .returned vv_ ∧ Q2 Z a h0 n0 vv_ U'.heap LL_ ∧ FrameEnd s o U' LL_ ({ frames := 0, cells := 0, slots := 0, locals := 0 } : Room).cells ({ frames := 0, cells := 0, slots := 0, locals := 0 } : Room).slots) (ef_2 m a) ?_
  show Go p e below s₁ (mkF m 0 #[.val (.ref a)] []) _
  refine Go.of (fun tg_ kk_ => XS.aloadN X0.here hx rfl (hb hby d2_0) rfl rfl kk_) ?_
  show Go p e below s₁ (mkF m 1 #[.val (.ref a)] [(.ref a)]) _
  refine Go.of (fun tg_ kk_ => XS.ifnonnullYes X0.here hx rfl (pc0 := 1) (pc' := 10) rfl (hb hby d2_1) rfl (by decide) (by decide) kk_) ?_
  show Go p e below s₁ (mkF m 10 #[.val (.ref a)] []) _
  refine Go.of (fun tg_ kk_ => XS.aloadN X0.here hx rfl (hb hby d2_10) rfl rfl kk_) ?_
  show Go p e below s₁ (mkF m 11 #[.val (.ref a)] [(.ref a)]) _
  obtain ⟨fs, hr, hrun, hended, hW, hsame⟩ := X0.leave (v := some (.ref a)) (fun h => by rw [Bd.returns] at h; cases h)
  refine ⟨_, _, ?_, hrun, hended, _, _, rfl, ?_, ⟨_, rfl⟩, hW, hsame.mono (by decide) (by decide)⟩
  · exact retOut X0 hx Bd.returns rfl (Or.inr (Or.inr (Or.inr (Or.inr ⟨rfl, rfl, rfl⟩)))) (hb hby d2_11) hr
  · show Q2 Z a h0 n0 _ s₁.heap _
    rw [e0]
    exact ⟨rfl, N0, rfl⟩
theorem ef_0 (m : MethodId) (x0 : Int32) : entryFrame m #[(.int x0)] maxLocals = mkF m 0 #[.val (.int x0), .unset, .unset, .unset] [] := by first | (simp [entryFrame, mkF, argsToLocals, Value.category, maxLocals]; done) | rfl
def Q0 (Z : State) (p0 : Int32) (aL : Addr) (aM : Addr) (aH : Addr) (h0 : Heap) (n0 : Nat) (v : Option Value) (h : Heap) (L : List Loc) : Prop := v = some (.int 1) ∧ Fr n0 L
set_option maxRecDepth 65536 in
set_option maxHeartbeats 40000000 in
theorem rm0 (l : Launch) (Z : State) (a0 : Array Value) (hw : ∀ d ∈ tables_1, d.before a0 Z = true) (ws : List Jvm.Cond) (p0 : Int32) (aL : Addr) (aM : Addr) (aH : Addr) (h0 : Heap) (n0 : Nat) (Z0 : n0 ≤ h0.size) (SLOW : Sta Z h0 "com/example/diagnostic/diagnostic/Severity" "LOW" "Lcom/example/diagnostic/diagnostic/Severity;" (.ref aL)) (SMEDIUM : Sta Z h0 "com/example/diagnostic/diagnostic/Severity" "MEDIUM" "Lcom/example/diagnostic/diagnostic/Severity;" (.ref aM)) (SHIGH : Sta Z h0 "com/example/diagnostic/diagnostic/Severity" "HIGH" "Lcom/example/diagnostic/diagnostic/Severity;" (.ref aH)) :
    MetFree l x (head1 (Jvm.Cond.code x code maxLocals ret :: ws) room_1) (fun aa_ U => aa_ = #[(.int p0)] ∧ Z.Warmed39 U.vm ∧ U.heap = h0) (fun _ _ _ _ _ => True) (fun _ U o U' => ∃ vv_ LL_, o = .returned vv_ ∧ Q0 Z p0 aL aM aH h0 n0 vv_ U'.heap LL_ ∧ FrameEnd U o U' LL_ 0 0) := by
  refine MetFree.of_bodySF (plainFor_of_name pn_0) hisR ?_
  intro p e s m args below meth c s₁ Bd hml0 hP hK
  obtain ⟨rfl, hZ, hh⟩ := hP
  have hx := Bd.exec
  have hby := Bd.bytes
  have hml : c.maxLocals = 4 := hml0
  have hown : s.vm.findClass "com/example/diagnostic/diagnostic/SeverityOrDefaultPinLaw" = some m.cls := findClass_of_methodNamed Bd.named
  have hnm := (name_of_methodNamed Bd.named Bd.method).1
  have X0 : Stand p l e room_1 s m #[(.int p0)] below meth c s₁ [] 0 0 := Stand.of_body Bd
  have e0 : s₁.heap = h0 := by rw [← hh, Bd.state]; rfl
  have N0 := Fr.nil n0
  have K0 : Keep h0 h0 [] := Keep.refl h0 _
  refine Go.enter (P := fun o U' => ∃ vv_ LL_, o = .returned vv_ ∧ Q0 Z p0 aL aM aH h0 n0 vv_ U'.heap LL_ ∧ FrameEnd s o U' LL_ 0 0) (ef_0 m p0) ?_
  show Go p e below s₁ (mkF m 0 #[.val (.int p0), .unset, .unset, .unset] []) _
  refine Go.of (fun tg_ kk_ => XS.iloadN X0.here hx rfl (hb hby at_0) rfl kk_) ?_
  show Go p e below s₁ (mkF m 1 #[.val (.int p0), .unset, .unset, .unset] [(.int p0)]) _
  refine Go.of (fun tg_ kk_ => XS.iconst X0.here hx rfl (hb hby at_1) kk_) ?_
  show Go p e below s₁ (mkF m 2 #[.val (.int p0), .unset, .unset, .unset] [(.int (3 : Int32)), (.int p0)]) _
  refine Go.of (fun tg_ kk_ => XS.iand X0.here hx rfl (hb hby at_2) rfl kk_) ?_
  show Go p e below s₁ (mkF m 3 #[.val (.int p0), .unset, .unset, .unset] [(.int (p0 &&& (3 : Int32)))]) _
  obtain ⟨kk, qkk⟩ : ∃ z : Int32, z = (p0 &&& (3 : Int32)) := ⟨_, rfl⟩
  rw [← qkk]
  show Go p e below s₁ (mkF m 3 #[.val (.int p0), .unset, .unset, .unset] [(.int kk)]) _
  rcases (show kk = (0 : Int32) ∨ kk = (1 : Int32) ∨ kk = (2 : Int32) ∨ kk = (3 : Int32) from by rw [qkk]; exact own_and3 p0) with hs1 | hs1 | hs1 | hs1
  · subst hs1
    show Go p e below s₁ (mkF m 3 #[.val (.int p0), .unset, .unset, .unset] [(.int (0 : Int32))]) _
    refine Go.of (fun tg_ kk_ => XS.istoreN X0.here hx rfl (hb hby at_3) rfl (l' := #[.val (.int p0), .val (.int (0 : Int32)), .unset, .unset]) rfl kk_) ?_
    show Go p e below s₁ (mkF m 4 #[.val (.int p0), .val (.int (0 : Int32)), .unset, .unset] []) _
    refine Go.of (fun tg_ kk_ => XS.iloadN X0.here hx rfl (hb hby at_4) rfl kk_) ?_
    show Go p e below s₁ (mkF m 5 #[.val (.int p0), .val (.int (0 : Int32)), .unset, .unset] [(.int (0 : Int32))]) _
    obtain ⟨_, _, ⟨T2, L2, k2, n2⟩, -, X2, ⟨Lc2, hQ2, l2, y2, z2⟩, st2⟩ := Jvm.LawKit.callS X0 hx (y := (⟨"com/example/diagnostic/diagnostic/SeverityOrDefaultPinLaw", "pick", "(I)Lcom/example/diagnostic/diagnostic/Severity;"⟩ : MethodName)) hown (mvT hZ (hw _ (List.mem_of_getElem? (i := 0) rfl))) (mvT hZ (hw _ (List.mem_of_getElem? (i := 1) rfl))) (mvT hZ (hw _ (List.mem_of_getElem? (i := 2) rfl))) (mvT hZ (hw _ (List.mem_of_getElem? (i := 3) rfl))) (by decide) (backOf (W := 0) (rm1 l Z a0 hw [] (0 : Int32) aL aM aH h0 n0 Z0 SLOW SMEDIUM SHIGH) hZ (hw _ (List.mem_of_getElem? (i := 3) rfl)) (hw _ (List.mem_of_getElem? (i := 2) rfl)) (by decide) (by decide)) (g := (mkF m 5 #[.val (.int p0), .val (.int (0 : Int32)), .unset, .unset] [(.int (0 : Int32))])) rfl (by rw [hml]; rfl) (argsL := [(.int (0 : Int32))]) (rest := []) (lenOf pd_0 rfl) rfl (by show 2 * 0 + _ ≤ _; exact Nat.le_of_eq rfl) (hb hby at_5) (fun _ _ => ⟨rfl, e0, (by decide : 0 + 0 ≤ _), (by decide : 0 + 0 ≤ _)⟩)
    dsimp only [Pt.U, Pt.locs, Pt.cells, Pt.slots] at X2 l2 y2 z2 st2 hQ2
    subst l2 y2 z2
    obtain ⟨hv2, N2q, e2⟩ := hQ2
    rw [pick_0] at hv2
    subst hv2
    have N2 := Fr.app N0 N2q
    refine Go.of (st2) ?_
    show Go p e below T2 (mkF m 8 #[.val (.int p0), .val (.int (0 : Int32)), .unset, .unset] [.null]) _
    refine Go.of (fun tg_ kk_ => XS.astoreN X2.here hx rfl (hb hby at_8) rfl rfl (l' := #[.val (.int p0), .val (.int (0 : Int32)), .val .null, .unset]) rfl kk_) ?_
    show Go p e below T2 (mkF m 9 #[.val (.int p0), .val (.int (0 : Int32)), .val .null, .unset] []) _
    refine Go.of (fun tg_ kk_ => XS.aloadN X2.here hx rfl (hb hby at_9) rfl rfl kk_) ?_
    show Go p e below T2 (mkF m 10 #[.val (.int p0), .val (.int (0 : Int32)), .val .null, .unset] [.null]) _
    obtain ⟨_, _, ⟨T3, L3, k3, n3⟩, -, X3, ⟨Lc3, hQ3, l3, y3, z3⟩, st3⟩ := Jvm.LawKit.callS X2 hx (y := (⟨"com/example/diagnostic/diagnostic/Severity", "orDefault", "(Lcom/example/diagnostic/diagnostic/Severity;)Lcom/example/diagnostic/diagnostic/Severity;"⟩ : MethodName)) hown (mvT hZ (hw _ (List.mem_of_getElem? (i := 4) rfl))) (mvT hZ (hw _ (List.mem_of_getElem? (i := 5) rfl))) (mvT hZ (hw _ (List.mem_of_getElem? (i := 6) rfl))) (mvT hZ (hw _ (List.mem_of_getElem? (i := 7) rfl))) (by decide) (backOf (W := 0) (rm2n l Z a0 hw [] aM h0 n0 Z0 SMEDIUM) hZ (hw _ (List.mem_of_getElem? (i := 7) rfl)) (hw _ (List.mem_of_getElem? (i := 6) rfl)) (by decide) (by decide)) (g := (mkF m 10 #[.val (.int p0), .val (.int (0 : Int32)), .val .null, .unset] [.null])) rfl (by rw [hml]; rfl) (argsL := [.null]) (rest := []) (lenOf pd_1 rfl) rfl (by show 2 * 0 + _ ≤ _; exact Nat.le_of_eq rfl) (hb hby at_10) (fun _ _ => ⟨rfl, e2, (by decide : 0 + 0 ≤ _), (by decide : 0 + 0 ≤ _)⟩)
    dsimp only [Pt.U, Pt.locs, Pt.cells, Pt.slots] at X3 l3 y3 z3 st3 hQ3
    subst l3 y3 z3
    obtain ⟨rfl, N3q, e3⟩ := hQ3
    have N3 := Fr.app N2 N3q
    refine Go.of (st3) ?_
    show Go p e below T3 (mkF m 13 #[.val (.int p0), .val (.int (0 : Int32)), .val .null, .unset] [(.ref aM)]) _
    refine Go.of (fun tg_ kk_ => XS.astoreN X3.here hx rfl (hb hby at_13) rfl rfl (l' := #[.val (.int p0), .val (.int (0 : Int32)), .val .null, .val (.ref aM)]) rfl kk_) ?_
    show Go p e below T3 (mkF m 14 #[.val (.int p0), .val (.int (0 : Int32)), .val .null, .val (.ref aM)] []) _
    refine Go.of (fun tg_ kk_ => XS.iloadN X3.here hx rfl (hb hby at_14) rfl kk_) ?_
    show Go p e below T3 (mkF m 15 #[.val (.int p0), .val (.int (0 : Int32)), .val .null, .val (.ref aM)] [(.int (0 : Int32))]) _
    refine Go.of (fun tg_ kk_ => XS.ifNo X3.here hx rfl (hb hby at_15) rfl ((if0 _ _).trans (teq (show (0 : Int32) = (0 : Int32) by decide)).2) kk_) ?_
    show Go p e below T3 (mkF m 18 #[.val (.int p0), .val (.int (0 : Int32)), .val .null, .val (.ref aM)] []) _
    refine Go.of (fun tg_ kk_ => XS.aloadN X3.here hx rfl (hb hby at_18) rfl rfl kk_) ?_
    show Go p e below T3 (mkF m 19 #[.val (.int p0), .val (.int (0 : Int32)), .val .null, .val (.ref aM)] [(.ref aM)]) _
    obtain ⟨T4, X4, e4, st4⟩ := getS2 X3 hx hZ hown (host := "") (Or.inl (hw _ (List.mem_of_getElem? (i := 10) rfl))) Via.refl e3 SMEDIUM (g := (mkF m 19 #[.val (.int p0), .val (.int (0 : Int32)), .val .null, .val (.ref aM)] [(.ref aM)])) rfl (hb hby at_19)
    refine Go.of (st4) ?_
    show Go p e below T4 (mkF m 22 #[.val (.int p0), .val (.int (0 : Int32)), .val .null, .val (.ref aM)] [(.ref aM), (.ref aM)]) _
    refine Go.of (fun tg_ kk_ => Jvm.RoadKit.acmp (g := (mkF m 22 #[.val (.int p0), .val (.int (0 : Int32)), .val .null, .val (.ref aM)] [(.ref aM), (.ref aM)])) X4 hx rfl rfl rfl (pc0 := 22) (pc' := 25) (same := true) rfl (hb hby at_22) rfl (decide_eq_true rfl) (by decide) (by decide) kk_) ?_
    show Go p e below T4 (mkF m 25 #[.val (.int p0), .val (.int (0 : Int32)), .val .null, .val (.ref aM)] []) _
    refine Go.of (fun tg_ kk_ => XS.iconst X4.here hx rfl (hb hby at_25) kk_) ?_
    show Go p e below T4 (mkF m 26 #[.val (.int p0), .val (.int (0 : Int32)), .val .null, .val (.ref aM)] [(.int (1 : Int32))]) _
    refine Go.of (fun tg_ kk_ => XS.goto X4.here hx rfl (pc0 := 26) (pc' := 30) rfl (hb hby at_26) (by decide) (by decide) kk_) ?_
    show Go p e below T4 (mkF m 30 #[.val (.int p0), .val (.int (0 : Int32)), .val .null, .val (.ref aM)] [(.int (1 : Int32))]) _
    obtain ⟨fs, hr, hrun, hended, hW, hsame⟩ := X4.leave (v := some (.int (1 : Int32))) (fun h => by rw [Bd.returns] at h; cases h)
    refine ⟨_, _, ?_, hrun, hended, _, _, rfl, ?_, ⟨_, rfl⟩, hW, hsame.mono (by decide) (by decide)⟩
    · exact retN X4 hx (t := .boolean) Bd.returns (by simp) (hb hby at_30) hr
    · show Q0 Z p0 aL aM aH h0 n0 _ T4.heap _
      rw [e4]
      exact ⟨rfl, N3⟩
  · subst hs1
    show Go p e below s₁ (mkF m 3 #[.val (.int p0), .unset, .unset, .unset] [(.int (1 : Int32))]) _
    refine Go.of (fun tg_ kk_ => XS.istoreN X0.here hx rfl (hb hby at_3) rfl (l' := #[.val (.int p0), .val (.int (1 : Int32)), .unset, .unset]) rfl kk_) ?_
    show Go p e below s₁ (mkF m 4 #[.val (.int p0), .val (.int (1 : Int32)), .unset, .unset] []) _
    refine Go.of (fun tg_ kk_ => XS.iloadN X0.here hx rfl (hb hby at_4) rfl kk_) ?_
    show Go p e below s₁ (mkF m 5 #[.val (.int p0), .val (.int (1 : Int32)), .unset, .unset] [(.int (1 : Int32))]) _
    obtain ⟨_, _, ⟨T5, L5, k5, n5⟩, -, X5, ⟨Lc5, hQ5, l5, y5, z5⟩, st5⟩ := Jvm.LawKit.callS X0 hx (y := (⟨"com/example/diagnostic/diagnostic/SeverityOrDefaultPinLaw", "pick", "(I)Lcom/example/diagnostic/diagnostic/Severity;"⟩ : MethodName)) hown (mvT hZ (hw _ (List.mem_of_getElem? (i := 0) rfl))) (mvT hZ (hw _ (List.mem_of_getElem? (i := 1) rfl))) (mvT hZ (hw _ (List.mem_of_getElem? (i := 2) rfl))) (mvT hZ (hw _ (List.mem_of_getElem? (i := 3) rfl))) (by decide) (backOf (W := 0) (rm1 l Z a0 hw [] (1 : Int32) aL aM aH h0 n0 Z0 SLOW SMEDIUM SHIGH) hZ (hw _ (List.mem_of_getElem? (i := 3) rfl)) (hw _ (List.mem_of_getElem? (i := 2) rfl)) (by decide) (by decide)) (g := (mkF m 5 #[.val (.int p0), .val (.int (1 : Int32)), .unset, .unset] [(.int (1 : Int32))])) rfl (by rw [hml]; rfl) (argsL := [(.int (1 : Int32))]) (rest := []) (lenOf pd_0 rfl) rfl (by show 2 * 0 + _ ≤ _; exact Nat.le_of_eq rfl) (hb hby at_5) (fun _ _ => ⟨rfl, e0, (by decide : 0 + 0 ≤ _), (by decide : 0 + 0 ≤ _)⟩)
    dsimp only [Pt.U, Pt.locs, Pt.cells, Pt.slots] at X5 l5 y5 z5 st5 hQ5
    subst l5 y5 z5
    obtain ⟨hv5, N5q, e5⟩ := hQ5
    rw [pick_1] at hv5
    subst hv5
    have N5 := Fr.app N0 N5q
    refine Go.of (st5) ?_
    show Go p e below T5 (mkF m 8 #[.val (.int p0), .val (.int (1 : Int32)), .unset, .unset] [(.ref aL)]) _
    refine Go.of (fun tg_ kk_ => XS.astoreN X5.here hx rfl (hb hby at_8) rfl rfl (l' := #[.val (.int p0), .val (.int (1 : Int32)), .val (.ref aL), .unset]) rfl kk_) ?_
    show Go p e below T5 (mkF m 9 #[.val (.int p0), .val (.int (1 : Int32)), .val (.ref aL), .unset] []) _
    refine Go.of (fun tg_ kk_ => XS.aloadN X5.here hx rfl (hb hby at_9) rfl rfl kk_) ?_
    show Go p e below T5 (mkF m 10 #[.val (.int p0), .val (.int (1 : Int32)), .val (.ref aL), .unset] [(.ref aL)]) _
    obtain ⟨_, _, ⟨T6, L6, k6, n6⟩, -, X6, ⟨Lc6, hQ6, l6, y6, z6⟩, st6⟩ := Jvm.LawKit.callS X5 hx (y := (⟨"com/example/diagnostic/diagnostic/Severity", "orDefault", "(Lcom/example/diagnostic/diagnostic/Severity;)Lcom/example/diagnostic/diagnostic/Severity;"⟩ : MethodName)) hown (mvT hZ (hw _ (List.mem_of_getElem? (i := 4) rfl))) (mvT hZ (hw _ (List.mem_of_getElem? (i := 5) rfl))) (mvT hZ (hw _ (List.mem_of_getElem? (i := 6) rfl))) (mvT hZ (hw _ (List.mem_of_getElem? (i := 7) rfl))) (by decide) (backOf (W := 0) (rm2 l Z a0 hw [] aL h0 n0 Z0) hZ (hw _ (List.mem_of_getElem? (i := 7) rfl)) (hw _ (List.mem_of_getElem? (i := 6) rfl)) (by decide) (by decide)) (g := (mkF m 10 #[.val (.int p0), .val (.int (1 : Int32)), .val (.ref aL), .unset] [(.ref aL)])) rfl (by rw [hml]; rfl) (argsL := [(.ref aL)]) (rest := []) (lenOf pd_1 rfl) rfl (by show 2 * 0 + _ ≤ _; exact Nat.le_of_eq rfl) (hb hby at_10) (fun _ _ => ⟨rfl, e5, (by decide : 0 + 0 ≤ _), (by decide : 0 + 0 ≤ _)⟩)
    dsimp only [Pt.U, Pt.locs, Pt.cells, Pt.slots] at X6 l6 y6 z6 st6 hQ6
    subst l6 y6 z6
    obtain ⟨rfl, N6q, e6⟩ := hQ6
    have N6 := Fr.app N5 N6q
    refine Go.of (st6) ?_
    show Go p e below T6 (mkF m 13 #[.val (.int p0), .val (.int (1 : Int32)), .val (.ref aL), .unset] [(.ref aL)]) _
    refine Go.of (fun tg_ kk_ => XS.astoreN X6.here hx rfl (hb hby at_13) rfl rfl (l' := #[.val (.int p0), .val (.int (1 : Int32)), .val (.ref aL), .val (.ref aL)]) rfl kk_) ?_
    show Go p e below T6 (mkF m 14 #[.val (.int p0), .val (.int (1 : Int32)), .val (.ref aL), .val (.ref aL)] []) _
    refine Go.of (fun tg_ kk_ => XS.iloadN X6.here hx rfl (hb hby at_14) rfl kk_) ?_
    show Go p e below T6 (mkF m 15 #[.val (.int p0), .val (.int (1 : Int32)), .val (.ref aL), .val (.ref aL)] [(.int (1 : Int32))]) _
    refine Go.of (fun tg_ kk_ => XS.ifYes X6.here hx rfl (pc0 := 15) (pc' := 31) rfl (hb hby at_15) rfl ((if0 _ _).trans (feq (show ¬ ((1 : Int32) = (0 : Int32)) by decide)).2) (by decide) (by decide) kk_) ?_
    show Go p e below T6 (mkF m 31 #[.val (.int p0), .val (.int (1 : Int32)), .val (.ref aL), .val (.ref aL)] []) _
    refine Go.of (fun tg_ kk_ => XS.iloadN X6.here hx rfl (hb hby at_31) rfl kk_) ?_
    show Go p e below T6 (mkF m 32 #[.val (.int p0), .val (.int (1 : Int32)), .val (.ref aL), .val (.ref aL)] [(.int (1 : Int32))]) _
    refine Go.of (fun tg_ kk_ => XS.iconst X6.here hx rfl (hb hby at_32) kk_) ?_
    show Go p e below T6 (mkF m 33 #[.val (.int p0), .val (.int (1 : Int32)), .val (.ref aL), .val (.ref aL)] [(.int (1 : Int32)), (.int (1 : Int32))]) _
    refine Go.of (fun tg_ kk_ => XS.icmpNo X6.here hx rfl (hb hby at_33) rfl (teq (show (1 : Int32) = (1 : Int32) by decide)).2 kk_) ?_
    show Go p e below T6 (mkF m 36 #[.val (.int p0), .val (.int (1 : Int32)), .val (.ref aL), .val (.ref aL)] []) _
    refine Go.of (fun tg_ kk_ => XS.aloadN X6.here hx rfl (hb hby at_36) rfl rfl kk_) ?_
    show Go p e below T6 (mkF m 37 #[.val (.int p0), .val (.int (1 : Int32)), .val (.ref aL), .val (.ref aL)] [(.ref aL)]) _
    obtain ⟨T7, X7, e7, st7⟩ := getS2 X6 hx hZ hown (host := "") (Or.inl (hw _ (List.mem_of_getElem? (i := 13) rfl))) Via.refl e6 SLOW (g := (mkF m 37 #[.val (.int p0), .val (.int (1 : Int32)), .val (.ref aL), .val (.ref aL)] [(.ref aL)])) rfl (hb hby at_37)
    refine Go.of (st7) ?_
    show Go p e below T7 (mkF m 40 #[.val (.int p0), .val (.int (1 : Int32)), .val (.ref aL), .val (.ref aL)] [(.ref aL), (.ref aL)]) _
    refine Go.of (fun tg_ kk_ => Jvm.RoadKit.acmp (g := (mkF m 40 #[.val (.int p0), .val (.int (1 : Int32)), .val (.ref aL), .val (.ref aL)] [(.ref aL), (.ref aL)])) X7 hx rfl rfl rfl (pc0 := 40) (pc' := 43) (same := true) rfl (hb hby at_40) rfl (decide_eq_true rfl) (by decide) (by decide) kk_) ?_
    show Go p e below T7 (mkF m 43 #[.val (.int p0), .val (.int (1 : Int32)), .val (.ref aL), .val (.ref aL)] []) _
    refine Go.of (fun tg_ kk_ => XS.iconst X7.here hx rfl (hb hby at_43) kk_) ?_
    show Go p e below T7 (mkF m 44 #[.val (.int p0), .val (.int (1 : Int32)), .val (.ref aL), .val (.ref aL)] [(.int (1 : Int32))]) _
    refine Go.of (fun tg_ kk_ => XS.goto X7.here hx rfl (pc0 := 44) (pc' := 48) rfl (hb hby at_44) (by decide) (by decide) kk_) ?_
    show Go p e below T7 (mkF m 48 #[.val (.int p0), .val (.int (1 : Int32)), .val (.ref aL), .val (.ref aL)] [(.int (1 : Int32))]) _
    obtain ⟨fs, hr, hrun, hended, hW, hsame⟩ := X7.leave (v := some (.int (1 : Int32))) (fun h => by rw [Bd.returns] at h; cases h)
    refine ⟨_, _, ?_, hrun, hended, _, _, rfl, ?_, ⟨_, rfl⟩, hW, hsame.mono (by decide) (by decide)⟩
    · exact retN X7 hx (t := .boolean) Bd.returns (by simp) (hb hby at_48) hr
    · show Q0 Z p0 aL aM aH h0 n0 _ T7.heap _
      rw [e7]
      exact ⟨rfl, N6⟩
  · subst hs1
    show Go p e below s₁ (mkF m 3 #[.val (.int p0), .unset, .unset, .unset] [(.int (2 : Int32))]) _
    refine Go.of (fun tg_ kk_ => XS.istoreN X0.here hx rfl (hb hby at_3) rfl (l' := #[.val (.int p0), .val (.int (2 : Int32)), .unset, .unset]) rfl kk_) ?_
    show Go p e below s₁ (mkF m 4 #[.val (.int p0), .val (.int (2 : Int32)), .unset, .unset] []) _
    refine Go.of (fun tg_ kk_ => XS.iloadN X0.here hx rfl (hb hby at_4) rfl kk_) ?_
    show Go p e below s₁ (mkF m 5 #[.val (.int p0), .val (.int (2 : Int32)), .unset, .unset] [(.int (2 : Int32))]) _
    obtain ⟨_, _, ⟨T8, L8, k8, n8⟩, -, X8, ⟨Lc8, hQ8, l8, y8, z8⟩, st8⟩ := Jvm.LawKit.callS X0 hx (y := (⟨"com/example/diagnostic/diagnostic/SeverityOrDefaultPinLaw", "pick", "(I)Lcom/example/diagnostic/diagnostic/Severity;"⟩ : MethodName)) hown (mvT hZ (hw _ (List.mem_of_getElem? (i := 0) rfl))) (mvT hZ (hw _ (List.mem_of_getElem? (i := 1) rfl))) (mvT hZ (hw _ (List.mem_of_getElem? (i := 2) rfl))) (mvT hZ (hw _ (List.mem_of_getElem? (i := 3) rfl))) (by decide) (backOf (W := 0) (rm1 l Z a0 hw [] (2 : Int32) aL aM aH h0 n0 Z0 SLOW SMEDIUM SHIGH) hZ (hw _ (List.mem_of_getElem? (i := 3) rfl)) (hw _ (List.mem_of_getElem? (i := 2) rfl)) (by decide) (by decide)) (g := (mkF m 5 #[.val (.int p0), .val (.int (2 : Int32)), .unset, .unset] [(.int (2 : Int32))])) rfl (by rw [hml]; rfl) (argsL := [(.int (2 : Int32))]) (rest := []) (lenOf pd_0 rfl) rfl (by show 2 * 0 + _ ≤ _; exact Nat.le_of_eq rfl) (hb hby at_5) (fun _ _ => ⟨rfl, e0, (by decide : 0 + 0 ≤ _), (by decide : 0 + 0 ≤ _)⟩)
    dsimp only [Pt.U, Pt.locs, Pt.cells, Pt.slots] at X8 l8 y8 z8 st8 hQ8
    subst l8 y8 z8
    obtain ⟨hv8, N8q, e8⟩ := hQ8
    rw [pick_2] at hv8
    subst hv8
    have N8 := Fr.app N0 N8q
    refine Go.of (st8) ?_
    show Go p e below T8 (mkF m 8 #[.val (.int p0), .val (.int (2 : Int32)), .unset, .unset] [(.ref aM)]) _
    refine Go.of (fun tg_ kk_ => XS.astoreN X8.here hx rfl (hb hby at_8) rfl rfl (l' := #[.val (.int p0), .val (.int (2 : Int32)), .val (.ref aM), .unset]) rfl kk_) ?_
    show Go p e below T8 (mkF m 9 #[.val (.int p0), .val (.int (2 : Int32)), .val (.ref aM), .unset] []) _
    refine Go.of (fun tg_ kk_ => XS.aloadN X8.here hx rfl (hb hby at_9) rfl rfl kk_) ?_
    show Go p e below T8 (mkF m 10 #[.val (.int p0), .val (.int (2 : Int32)), .val (.ref aM), .unset] [(.ref aM)]) _
    obtain ⟨_, _, ⟨T9, L9, k9, n9⟩, -, X9, ⟨Lc9, hQ9, l9, y9, z9⟩, st9⟩ := Jvm.LawKit.callS X8 hx (y := (⟨"com/example/diagnostic/diagnostic/Severity", "orDefault", "(Lcom/example/diagnostic/diagnostic/Severity;)Lcom/example/diagnostic/diagnostic/Severity;"⟩ : MethodName)) hown (mvT hZ (hw _ (List.mem_of_getElem? (i := 4) rfl))) (mvT hZ (hw _ (List.mem_of_getElem? (i := 5) rfl))) (mvT hZ (hw _ (List.mem_of_getElem? (i := 6) rfl))) (mvT hZ (hw _ (List.mem_of_getElem? (i := 7) rfl))) (by decide) (backOf (W := 0) (rm2 l Z a0 hw [] aM h0 n0 Z0) hZ (hw _ (List.mem_of_getElem? (i := 7) rfl)) (hw _ (List.mem_of_getElem? (i := 6) rfl)) (by decide) (by decide)) (g := (mkF m 10 #[.val (.int p0), .val (.int (2 : Int32)), .val (.ref aM), .unset] [(.ref aM)])) rfl (by rw [hml]; rfl) (argsL := [(.ref aM)]) (rest := []) (lenOf pd_1 rfl) rfl (by show 2 * 0 + _ ≤ _; exact Nat.le_of_eq rfl) (hb hby at_10) (fun _ _ => ⟨rfl, e8, (by decide : 0 + 0 ≤ _), (by decide : 0 + 0 ≤ _)⟩)
    dsimp only [Pt.U, Pt.locs, Pt.cells, Pt.slots] at X9 l9 y9 z9 st9 hQ9
    subst l9 y9 z9
    obtain ⟨rfl, N9q, e9⟩ := hQ9
    have N9 := Fr.app N8 N9q
    refine Go.of (st9) ?_
    show Go p e below T9 (mkF m 13 #[.val (.int p0), .val (.int (2 : Int32)), .val (.ref aM), .unset] [(.ref aM)]) _
    refine Go.of (fun tg_ kk_ => XS.astoreN X9.here hx rfl (hb hby at_13) rfl rfl (l' := #[.val (.int p0), .val (.int (2 : Int32)), .val (.ref aM), .val (.ref aM)]) rfl kk_) ?_
    show Go p e below T9 (mkF m 14 #[.val (.int p0), .val (.int (2 : Int32)), .val (.ref aM), .val (.ref aM)] []) _
    refine Go.of (fun tg_ kk_ => XS.iloadN X9.here hx rfl (hb hby at_14) rfl kk_) ?_
    show Go p e below T9 (mkF m 15 #[.val (.int p0), .val (.int (2 : Int32)), .val (.ref aM), .val (.ref aM)] [(.int (2 : Int32))]) _
    refine Go.of (fun tg_ kk_ => XS.ifYes X9.here hx rfl (pc0 := 15) (pc' := 31) rfl (hb hby at_15) rfl ((if0 _ _).trans (feq (show ¬ ((2 : Int32) = (0 : Int32)) by decide)).2) (by decide) (by decide) kk_) ?_
    show Go p e below T9 (mkF m 31 #[.val (.int p0), .val (.int (2 : Int32)), .val (.ref aM), .val (.ref aM)] []) _
    refine Go.of (fun tg_ kk_ => XS.iloadN X9.here hx rfl (hb hby at_31) rfl kk_) ?_
    show Go p e below T9 (mkF m 32 #[.val (.int p0), .val (.int (2 : Int32)), .val (.ref aM), .val (.ref aM)] [(.int (2 : Int32))]) _
    refine Go.of (fun tg_ kk_ => XS.iconst X9.here hx rfl (hb hby at_32) kk_) ?_
    show Go p e below T9 (mkF m 33 #[.val (.int p0), .val (.int (2 : Int32)), .val (.ref aM), .val (.ref aM)] [(.int (1 : Int32)), (.int (2 : Int32))]) _
    refine Go.of (fun tg_ kk_ => XS.icmpYes X9.here hx rfl (pc0 := 33) (pc' := 49) rfl (hb hby at_33) rfl (feq (show ¬ ((2 : Int32) = (1 : Int32)) by decide)).2 (by decide) (by decide) kk_) ?_
    show Go p e below T9 (mkF m 49 #[.val (.int p0), .val (.int (2 : Int32)), .val (.ref aM), .val (.ref aM)] []) _
    refine Go.of (fun tg_ kk_ => XS.iloadN X9.here hx rfl (hb hby at_49) rfl kk_) ?_
    show Go p e below T9 (mkF m 50 #[.val (.int p0), .val (.int (2 : Int32)), .val (.ref aM), .val (.ref aM)] [(.int (2 : Int32))]) _
    refine Go.of (fun tg_ kk_ => XS.iconst X9.here hx rfl (hb hby at_50) kk_) ?_
    show Go p e below T9 (mkF m 51 #[.val (.int p0), .val (.int (2 : Int32)), .val (.ref aM), .val (.ref aM)] [(.int (2 : Int32)), (.int (2 : Int32))]) _
    refine Go.of (fun tg_ kk_ => XS.icmpNo X9.here hx rfl (hb hby at_51) rfl (teq (show (2 : Int32) = (2 : Int32) by decide)).2 kk_) ?_
    show Go p e below T9 (mkF m 54 #[.val (.int p0), .val (.int (2 : Int32)), .val (.ref aM), .val (.ref aM)] []) _
    refine Go.of (fun tg_ kk_ => XS.aloadN X9.here hx rfl (hb hby at_54) rfl rfl kk_) ?_
    show Go p e below T9 (mkF m 55 #[.val (.int p0), .val (.int (2 : Int32)), .val (.ref aM), .val (.ref aM)] [(.ref aM)]) _
    obtain ⟨T10, X10, e10, st10⟩ := getS2 X9 hx hZ hown (host := "") (Or.inl (hw _ (List.mem_of_getElem? (i := 10) rfl))) Via.refl e9 SMEDIUM (g := (mkF m 55 #[.val (.int p0), .val (.int (2 : Int32)), .val (.ref aM), .val (.ref aM)] [(.ref aM)])) rfl (hb hby at_55)
    refine Go.of (st10) ?_
    show Go p e below T10 (mkF m 58 #[.val (.int p0), .val (.int (2 : Int32)), .val (.ref aM), .val (.ref aM)] [(.ref aM), (.ref aM)]) _
    refine Go.of (fun tg_ kk_ => Jvm.RoadKit.acmp (g := (mkF m 58 #[.val (.int p0), .val (.int (2 : Int32)), .val (.ref aM), .val (.ref aM)] [(.ref aM), (.ref aM)])) X10 hx rfl rfl rfl (pc0 := 58) (pc' := 61) (same := true) rfl (hb hby at_58) rfl (decide_eq_true rfl) (by decide) (by decide) kk_) ?_
    show Go p e below T10 (mkF m 61 #[.val (.int p0), .val (.int (2 : Int32)), .val (.ref aM), .val (.ref aM)] []) _
    refine Go.of (fun tg_ kk_ => XS.iconst X10.here hx rfl (hb hby at_61) kk_) ?_
    show Go p e below T10 (mkF m 62 #[.val (.int p0), .val (.int (2 : Int32)), .val (.ref aM), .val (.ref aM)] [(.int (1 : Int32))]) _
    refine Go.of (fun tg_ kk_ => XS.goto X10.here hx rfl (pc0 := 62) (pc' := 66) rfl (hb hby at_62) (by decide) (by decide) kk_) ?_
    show Go p e below T10 (mkF m 66 #[.val (.int p0), .val (.int (2 : Int32)), .val (.ref aM), .val (.ref aM)] [(.int (1 : Int32))]) _
    obtain ⟨fs, hr, hrun, hended, hW, hsame⟩ := X10.leave (v := some (.int (1 : Int32))) (fun h => by rw [Bd.returns] at h; cases h)
    refine ⟨_, _, ?_, hrun, hended, _, _, rfl, ?_, ⟨_, rfl⟩, hW, hsame.mono (by decide) (by decide)⟩
    · exact retN X10 hx (t := .boolean) Bd.returns (by simp) (hb hby at_66) hr
    · show Q0 Z p0 aL aM aH h0 n0 _ T10.heap _
      rw [e10]
      exact ⟨rfl, N9⟩
  · subst hs1
    show Go p e below s₁ (mkF m 3 #[.val (.int p0), .unset, .unset, .unset] [(.int (3 : Int32))]) _
    refine Go.of (fun tg_ kk_ => XS.istoreN X0.here hx rfl (hb hby at_3) rfl (l' := #[.val (.int p0), .val (.int (3 : Int32)), .unset, .unset]) rfl kk_) ?_
    show Go p e below s₁ (mkF m 4 #[.val (.int p0), .val (.int (3 : Int32)), .unset, .unset] []) _
    refine Go.of (fun tg_ kk_ => XS.iloadN X0.here hx rfl (hb hby at_4) rfl kk_) ?_
    show Go p e below s₁ (mkF m 5 #[.val (.int p0), .val (.int (3 : Int32)), .unset, .unset] [(.int (3 : Int32))]) _
    obtain ⟨_, _, ⟨T11, L11, k11, n11⟩, -, X11, ⟨Lc11, hQ11, l11, y11, z11⟩, st11⟩ := Jvm.LawKit.callS X0 hx (y := (⟨"com/example/diagnostic/diagnostic/SeverityOrDefaultPinLaw", "pick", "(I)Lcom/example/diagnostic/diagnostic/Severity;"⟩ : MethodName)) hown (mvT hZ (hw _ (List.mem_of_getElem? (i := 0) rfl))) (mvT hZ (hw _ (List.mem_of_getElem? (i := 1) rfl))) (mvT hZ (hw _ (List.mem_of_getElem? (i := 2) rfl))) (mvT hZ (hw _ (List.mem_of_getElem? (i := 3) rfl))) (by decide) (backOf (W := 0) (rm1 l Z a0 hw [] (3 : Int32) aL aM aH h0 n0 Z0 SLOW SMEDIUM SHIGH) hZ (hw _ (List.mem_of_getElem? (i := 3) rfl)) (hw _ (List.mem_of_getElem? (i := 2) rfl)) (by decide) (by decide)) (g := (mkF m 5 #[.val (.int p0), .val (.int (3 : Int32)), .unset, .unset] [(.int (3 : Int32))])) rfl (by rw [hml]; rfl) (argsL := [(.int (3 : Int32))]) (rest := []) (lenOf pd_0 rfl) rfl (by show 2 * 0 + _ ≤ _; exact Nat.le_of_eq rfl) (hb hby at_5) (fun _ _ => ⟨rfl, e0, (by decide : 0 + 0 ≤ _), (by decide : 0 + 0 ≤ _)⟩)
    dsimp only [Pt.U, Pt.locs, Pt.cells, Pt.slots] at X11 l11 y11 z11 st11 hQ11
    subst l11 y11 z11
    obtain ⟨hv11, N11q, e11⟩ := hQ11
    rw [pick_3] at hv11
    subst hv11
    have N11 := Fr.app N0 N11q
    refine Go.of (st11) ?_
    show Go p e below T11 (mkF m 8 #[.val (.int p0), .val (.int (3 : Int32)), .unset, .unset] [(.ref aH)]) _
    refine Go.of (fun tg_ kk_ => XS.astoreN X11.here hx rfl (hb hby at_8) rfl rfl (l' := #[.val (.int p0), .val (.int (3 : Int32)), .val (.ref aH), .unset]) rfl kk_) ?_
    show Go p e below T11 (mkF m 9 #[.val (.int p0), .val (.int (3 : Int32)), .val (.ref aH), .unset] []) _
    refine Go.of (fun tg_ kk_ => XS.aloadN X11.here hx rfl (hb hby at_9) rfl rfl kk_) ?_
    show Go p e below T11 (mkF m 10 #[.val (.int p0), .val (.int (3 : Int32)), .val (.ref aH), .unset] [(.ref aH)]) _
    obtain ⟨_, _, ⟨T12, L12, k12, n12⟩, -, X12, ⟨Lc12, hQ12, l12, y12, z12⟩, st12⟩ := Jvm.LawKit.callS X11 hx (y := (⟨"com/example/diagnostic/diagnostic/Severity", "orDefault", "(Lcom/example/diagnostic/diagnostic/Severity;)Lcom/example/diagnostic/diagnostic/Severity;"⟩ : MethodName)) hown (mvT hZ (hw _ (List.mem_of_getElem? (i := 4) rfl))) (mvT hZ (hw _ (List.mem_of_getElem? (i := 5) rfl))) (mvT hZ (hw _ (List.mem_of_getElem? (i := 6) rfl))) (mvT hZ (hw _ (List.mem_of_getElem? (i := 7) rfl))) (by decide) (backOf (W := 0) (rm2 l Z a0 hw [] aH h0 n0 Z0) hZ (hw _ (List.mem_of_getElem? (i := 7) rfl)) (hw _ (List.mem_of_getElem? (i := 6) rfl)) (by decide) (by decide)) (g := (mkF m 10 #[.val (.int p0), .val (.int (3 : Int32)), .val (.ref aH), .unset] [(.ref aH)])) rfl (by rw [hml]; rfl) (argsL := [(.ref aH)]) (rest := []) (lenOf pd_1 rfl) rfl (by show 2 * 0 + _ ≤ _; exact Nat.le_of_eq rfl) (hb hby at_10) (fun _ _ => ⟨rfl, e11, (by decide : 0 + 0 ≤ _), (by decide : 0 + 0 ≤ _)⟩)
    dsimp only [Pt.U, Pt.locs, Pt.cells, Pt.slots] at X12 l12 y12 z12 st12 hQ12
    subst l12 y12 z12
    obtain ⟨rfl, N12q, e12⟩ := hQ12
    have N12 := Fr.app N11 N12q
    refine Go.of (st12) ?_
    show Go p e below T12 (mkF m 13 #[.val (.int p0), .val (.int (3 : Int32)), .val (.ref aH), .unset] [(.ref aH)]) _
    refine Go.of (fun tg_ kk_ => XS.astoreN X12.here hx rfl (hb hby at_13) rfl rfl (l' := #[.val (.int p0), .val (.int (3 : Int32)), .val (.ref aH), .val (.ref aH)]) rfl kk_) ?_
    show Go p e below T12 (mkF m 14 #[.val (.int p0), .val (.int (3 : Int32)), .val (.ref aH), .val (.ref aH)] []) _
    refine Go.of (fun tg_ kk_ => XS.iloadN X12.here hx rfl (hb hby at_14) rfl kk_) ?_
    show Go p e below T12 (mkF m 15 #[.val (.int p0), .val (.int (3 : Int32)), .val (.ref aH), .val (.ref aH)] [(.int (3 : Int32))]) _
    refine Go.of (fun tg_ kk_ => XS.ifYes X12.here hx rfl (pc0 := 15) (pc' := 31) rfl (hb hby at_15) rfl ((if0 _ _).trans (feq (show ¬ ((3 : Int32) = (0 : Int32)) by decide)).2) (by decide) (by decide) kk_) ?_
    show Go p e below T12 (mkF m 31 #[.val (.int p0), .val (.int (3 : Int32)), .val (.ref aH), .val (.ref aH)] []) _
    refine Go.of (fun tg_ kk_ => XS.iloadN X12.here hx rfl (hb hby at_31) rfl kk_) ?_
    show Go p e below T12 (mkF m 32 #[.val (.int p0), .val (.int (3 : Int32)), .val (.ref aH), .val (.ref aH)] [(.int (3 : Int32))]) _
    refine Go.of (fun tg_ kk_ => XS.iconst X12.here hx rfl (hb hby at_32) kk_) ?_
    show Go p e below T12 (mkF m 33 #[.val (.int p0), .val (.int (3 : Int32)), .val (.ref aH), .val (.ref aH)] [(.int (1 : Int32)), (.int (3 : Int32))]) _
    refine Go.of (fun tg_ kk_ => XS.icmpYes X12.here hx rfl (pc0 := 33) (pc' := 49) rfl (hb hby at_33) rfl (feq (show ¬ ((3 : Int32) = (1 : Int32)) by decide)).2 (by decide) (by decide) kk_) ?_
    show Go p e below T12 (mkF m 49 #[.val (.int p0), .val (.int (3 : Int32)), .val (.ref aH), .val (.ref aH)] []) _
    refine Go.of (fun tg_ kk_ => XS.iloadN X12.here hx rfl (hb hby at_49) rfl kk_) ?_
    show Go p e below T12 (mkF m 50 #[.val (.int p0), .val (.int (3 : Int32)), .val (.ref aH), .val (.ref aH)] [(.int (3 : Int32))]) _
    refine Go.of (fun tg_ kk_ => XS.iconst X12.here hx rfl (hb hby at_50) kk_) ?_
    show Go p e below T12 (mkF m 51 #[.val (.int p0), .val (.int (3 : Int32)), .val (.ref aH), .val (.ref aH)] [(.int (2 : Int32)), (.int (3 : Int32))]) _
    refine Go.of (fun tg_ kk_ => XS.icmpYes X12.here hx rfl (pc0 := 51) (pc' := 67) rfl (hb hby at_51) rfl (feq (show ¬ ((3 : Int32) = (2 : Int32)) by decide)).2 (by decide) (by decide) kk_) ?_
    show Go p e below T12 (mkF m 67 #[.val (.int p0), .val (.int (3 : Int32)), .val (.ref aH), .val (.ref aH)] []) _
    refine Go.of (fun tg_ kk_ => XS.aloadN X12.here hx rfl (hb hby at_67) rfl rfl kk_) ?_
    show Go p e below T12 (mkF m 68 #[.val (.int p0), .val (.int (3 : Int32)), .val (.ref aH), .val (.ref aH)] [(.ref aH)]) _
    obtain ⟨T13, X13, e13, st13⟩ := getS2 X12 hx hZ hown (host := "") (Or.inl (hw _ (List.mem_of_getElem? (i := 11) rfl))) Via.refl e12 SHIGH (g := (mkF m 68 #[.val (.int p0), .val (.int (3 : Int32)), .val (.ref aH), .val (.ref aH)] [(.ref aH)])) rfl (hb hby at_68)
    refine Go.of (st13) ?_
    show Go p e below T13 (mkF m 71 #[.val (.int p0), .val (.int (3 : Int32)), .val (.ref aH), .val (.ref aH)] [(.ref aH), (.ref aH)]) _
    refine Go.of (fun tg_ kk_ => Jvm.RoadKit.acmp (g := (mkF m 71 #[.val (.int p0), .val (.int (3 : Int32)), .val (.ref aH), .val (.ref aH)] [(.ref aH), (.ref aH)])) X13 hx rfl rfl rfl (pc0 := 71) (pc' := 74) (same := true) rfl (hb hby at_71) rfl (decide_eq_true rfl) (by decide) (by decide) kk_) ?_
    show Go p e below T13 (mkF m 74 #[.val (.int p0), .val (.int (3 : Int32)), .val (.ref aH), .val (.ref aH)] []) _
    refine Go.of (fun tg_ kk_ => XS.iconst X13.here hx rfl (hb hby at_74) kk_) ?_
    show Go p e below T13 (mkF m 75 #[.val (.int p0), .val (.int (3 : Int32)), .val (.ref aH), .val (.ref aH)] [(.int (1 : Int32))]) _
    refine Go.of (fun tg_ kk_ => XS.goto X13.here hx rfl (pc0 := 75) (pc' := 79) rfl (hb hby at_75) (by decide) (by decide) kk_) ?_
    show Go p e below T13 (mkF m 79 #[.val (.int p0), .val (.int (3 : Int32)), .val (.ref aH), .val (.ref aH)] [(.int (1 : Int32))]) _
    obtain ⟨fs, hr, hrun, hended, hW, hsame⟩ := X13.leave (v := some (.int (1 : Int32))) (fun h => by rw [Bd.returns] at h; cases h)
    refine ⟨_, _, ?_, hrun, hended, _, _, rfl, ?_, ⟨_, rfl⟩, hW, hsame.mono (by decide) (by decide)⟩
    · exact retN X13 hx (t := .boolean) Bd.returns (by simp) (hb hby at_79) hr
    · show Q0 Z p0 aL aM aH h0 n0 _ T13.heap _
      rw [e13]
      exact ⟨rfl, N12⟩
set_option maxRecDepth 65536 in
set_option maxHeartbeats 40000000 in
theorem comes_1 {Post : Tables → Env → Array Value → State → Outcome → State → Prop} (hpost : ∀ tb e args s v u, (limb_1_1.after args s (.returned v) u = true ∧ limb_1_2.after args s (.returned v) u = true ∧ True) → FrameEnd s (.returned v) u (Jvm.fieldLocs frame_1_writes args s ++ Jvm.arrayLocs frame_1_arrays args s ++ Jvm.staticLocs frame_1_statics s) 0 0 → Post tb e args s (.returned v) u) :
    ArmFor flags0 classFile x code maxLocals ret World_1 tables_1 room_1 Calls_1 rest_1 Pre_1 Post := by
  intro l hfl _ _ p e ha hc hk s m args below hf hA hF happ hP
  obtain ⟨hcalls, hrest, hpre⟩ := hP
  obtain ⟨-, -, -, hnamed, -, -, -, hat⟩ := (Spec.applies_iff hf).mp happ
  obtain ⟨hg, hn⟩ := and_e (Cond.before_iff.mp (show (Jvm.Cond.and given_1 narrow_1).before args s = true from hpre))
  obtain ⟨gc, gr0⟩ := and_e hg
  obtain ⟨w0, rfl⟩ : ∃ w0 : Value, args = #[w0] := by
    have hs : args.size = 1 := by simpa [Cond.value, given_1] using gc
    obtain ⟨L⟩ := args
    match L, hs with
    | [w0], _ => exact ⟨w0, rfl⟩
  have hw := fun d (hd : d ∈ tables_1) => atoms_spec (ws := Jvm.Cond.code x code maxLocals ret :: tables_1) hat d (List.mem_cons_of_mem _ hd)
  obtain ⟨i0, ei0⟩ := is_v gr0
  obtain rfl : w0 = (.int i0) := Option.some.inj ei0
  obtain ⟨hM, hn2⟩ := and_e hn
  obtain ⟨hH, hL⟩ := and_e hn2
  obtain ⟨aL, evL⟩ := exa_v hL
  have SLOW := Sta.start evL (Or.inr ⟨hw _ (List.mem_of_getElem? (i := 6) rfl), hw _ (List.mem_of_getElem? (i := 14) rfl)⟩)
  obtain ⟨aM, evM⟩ := exa_v hM
  have SMEDIUM := Sta.start evM (Or.inr ⟨hw _ (List.mem_of_getElem? (i := 6) rfl), hw _ (List.mem_of_getElem? (i := 9) rfl)⟩)
  obtain ⟨aH, evH⟩ := exa_v hH
  have SHIGH := Sta.start evH (Or.inr ⟨hw _ (List.mem_of_getElem? (i := 6) rfl), hw _ (List.mem_of_getElem? (i := 12) rfl)⟩)
  obtain ⟨n, o, h1, h2, h3, _, L, rfl, ⟨rfl, N⟩, hq⟩ := rm0 l s _ hw tables_1 i0 aL aM aH s.heap s.heap.size (Nat.le_refl _) SLOW SMEDIUM SHIGH p e ha hc hk s m _ below hf ((Spec.applies_iff_loose hf).mp happ).1 ⟨rfl, State.Warmed39.refl s, rfl⟩ trivial
  refine ⟨n, _, h1, h2, h3, hpost _ _ _ _ _ _ ⟨Cond.after_iff.mpr rfl, Cond.after_iff.mpr (eq_i res_at (Term.int_eval (1)) rfl), trivial⟩ ⟨hq.1, hq.2.1, (hq.2.2.sift fun y hy => Or.inr (N y hy)).mono (by decide) (by decide)⟩⟩
theorem main_1_1 : Claimed_1_1 := comes_1 fun _ _ _ _ _ _ h hF => ⟨h.1, hF⟩
theorem main_1_2 : Claimed_1_2 := comes_1 fun _ _ _ _ _ _ h hF => ⟨h.2.1, hF⟩
end Jvm.Pilot.@@N@@
namespace Jvm.Pilot.@@N@@
open Jvm Jvm.ClassFile Sem Op Lib Jvm.Free Jvm.Stand Jvm.Pilot.@@N@@.Jvm.D
/-! MADE BY PROGRAM (witnessworld.py) out of the Statement's table words and the real class files: 12 classes; the members and pool entries that the words name. The judged class is class 1, her method 2. -/
namespace start1
open Jvm.ClassFile
def u (s : String) : CpInfo := .utf8 (stringToUtf16 s)
/-- a pool by its gaps: so many unusable entries, then the entry; so many at the end -/
def gap : Nat → List CpInfo → List CpInfo
  | 0, r => r
  | n + 1, r => .unusable :: gap n r
def poolList (es : List (Nat × CpInfo)) (last : Nat) : List CpInfo := es.foldr (fun e r => gap e.1 (e.2 :: r)) (gap last [])
def pool (es : List (Nat × CpInfo)) (last : Nat) : Array CpInfo := ⟨poolList es last⟩
def fileOf (pool : Array CpInfo) (this : Nat) (attrs : Array Attribute := #[]) (ms : Array MethodInfo := #[]) (fl : Nat := 33) (sup : Nat := 0) (ifs : Array Nat := #[]) (fds : Array FieldInfo := #[]) : ClassFile where
  minorVersion := 0
  majorVersion := 65
  constantPool := pool
  accessFlags := fl
  thisClass := this
  superClass := sup
  interfaces := ifs
  fields := fds
  methods := ms
  attributes := attrs
def plain (name : String) (sup : Option ClassId) : Class where
  name := name
  kind := .ordinary
  loader := none
  accessFlags := 33
  super := sup
  interfaces := #[]
  cf := none
  fields := #[]
  methods := #[]
  instanceTypes := #[]
  staticTypes := #[]
  resolved := #[]
  callSites := []
  init := .initialized
  statics := none
  mirror := none

def pool0 : Array CpInfo := pool [(5, u "<init>"), (0, u "()V"), (1, .class_ 10), (1, u "java/lang/Object")] 113

def k0m0 : Method := { name := "<init>", desc := "()V", sig := { parameters := [], returnType := none }, accessFlags := 1, code := none }
/-- java/lang/Object -/
def k0 : Class := { plain "java/lang/Object" none with
  accessFlags := 33
  interfaces := #[]
  cf := some (fileOf pool0 8 #[] #[{ accessFlags := 1, nameIndex := 5, descriptorIndex := 6, attributes := #[] }] 33 0 #[] #[])
  fields := #[]
  methods := #[k0m0]
  instanceTypes := #[]
  staticTypes := #[]
  resolved := Array.replicate 124 none
  statics := none }

def pool1 : Array CpInfo := pool [(2, .class_ 4), (1, u "java/lang/Object"), (0, u "<init>"), (0, u "()V"), (0, .fieldref 8 9), (0, .class_ 10), (0, .nameAndType 11 12), (0, u "com/example/diagnostic/diagnostic/Severity"), (0, u "LOW"), (0, u "Lcom/example/diagnostic/diagnostic/Severity;"), (0, .fieldref 8 14), (0, .nameAndType 15 12), (0, u "MEDIUM"), (0, .fieldref 8 17), (0, .nameAndType 18 12), (0, u "HIGH"), (0, .methodref 20 21), (0, .class_ 22), (0, .nameAndType 23 24), (0, u "com/example/diagnostic/diagnostic/SeverityOrDefaultPinLaw"), (0, u "pick"), (0, u "(I)Lcom/example/diagnostic/diagnostic/Severity;"), (0, .methodref 8 26), (0, .nameAndType 27 28), (0, u "orDefault"), (0, u "(Lcom/example/diagnostic/diagnostic/Severity;)Lcom/example/diagnostic/diagnostic/Severity;"), (3, u "law"), (0, u "(I)Z")] 2

def k1m0 : Method := { name := "<init>", desc := "()V", sig := { parameters := [], returnType := none }, accessFlags := 2, code := none }
def k1c1 : Code := { maxStack := 2, maxLocals := 1, code := method_2_code, exceptionTable := #[], attributes := #[] }
def k1m1 : Method := { name := "pick", desc := "(I)Lcom/example/diagnostic/diagnostic/Severity;", sig := { parameters := [.int], returnType := some (.object "com/example/diagnostic/diagnostic/Severity") }, accessFlags := 10, code := some k1c1 }
def k1c2 : Code := { maxStack := 2, maxLocals := 4, code := code, exceptionTable := #[], attributes := #[] }
def k1m2 : Method := { name := "law", desc := "(I)Z", sig := { parameters := [.int], returnType := some .boolean }, accessFlags := 9, code := some k1c2 }
/-- com/example/diagnostic/diagnostic/SeverityOrDefaultPinLaw -/
def k1 : Class := { plain "com/example/diagnostic/diagnostic/SeverityOrDefaultPinLaw" (some 0) with
  accessFlags := 49
  interfaces := #[]
  cf := some (fileOf pool1 20 #[] #[{ accessFlags := 2, nameIndex := 5, descriptorIndex := 6, attributes := #[] }, { accessFlags := 10, nameIndex := 23, descriptorIndex := 24, attributes := #[] }, { accessFlags := 9, nameIndex := 32, descriptorIndex := 33, attributes := #[] }] 49 2 #[] #[])
  fields := #[]
  methods := #[k1m0, k1m1, k1m2]
  instanceTypes := #[]
  staticTypes := #[]
  resolved := Array.replicate 36 none
  statics := none }

def pool2 : Array CpInfo := pool [(1, .class_ 2), (0, u "java/lang/constant/Constable"), (0, .class_ 4), (0, u "java/lang/Object")] 6

/-- java/lang/constant/Constable -/
def k2 : Class := { plain "java/lang/constant/Constable" (some 0) with
  accessFlags := 1537
  interfaces := #[]
  cf := some (fileOf pool2 1 #[] #[] 1537 3 #[] #[])
  fields := #[]
  methods := #[]
  instanceTypes := #[]
  staticTypes := #[]
  resolved := Array.replicate 11 none
  statics := none }

def pool3 : Array CpInfo := pool [(1, .class_ 2), (0, u "java/lang/Comparable"), (0, .class_ 4), (0, u "java/lang/Object")] 7

/-- java/lang/Comparable -/
def k3 : Class := { plain "java/lang/Comparable" (some 0) with
  accessFlags := 1537
  interfaces := #[]
  cf := some (fileOf pool3 1 #[] #[] 1537 3 #[] #[])
  fields := #[]
  methods := #[]
  instanceTypes := #[]
  staticTypes := #[]
  resolved := Array.replicate 12 none
  statics := none }

def pool4 : Array CpInfo := pool [(1, .class_ 2), (0, u "java/io/Serializable"), (0, .class_ 4), (0, u "java/lang/Object")] 2

/-- java/io/Serializable -/
def k4 : Class := { plain "java/io/Serializable" (some 0) with
  accessFlags := 1537
  interfaces := #[]
  cf := some (fileOf pool4 1 #[] #[] 1537 3 #[] #[])
  fields := #[]
  methods := #[]
  instanceTypes := #[]
  staticTypes := #[]
  resolved := Array.replicate 7 none
  statics := none }

def pool5 : Array CpInfo := pool [(2, .class_ 4), (1, u "java/lang/Enum"), (0, u "name"), (0, u "Ljava/lang/String;"), (2, u "ordinal"), (0, u "I"), (1, .class_ 14), (1, u "java/lang/Object"), (4, u "hash"), (86, .class_ 108), (1, u "java/lang/Enum$EnumDesc"), (2, .class_ 112), (0, u "java/lang/constant/Constable"), (0, .class_ 114), (0, u "java/lang/Comparable"), (0, .class_ 116), (0, u "java/io/Serializable")] 87

/-- java/lang/Enum -/
def k5 : Class := { plain "java/lang/Enum" (some 0) with
  accessFlags := 1057
  interfaces := #[2, 3, 4]
  cf := some (fileOf pool5 2 #[.nestMembers #[106]] #[] 1057 12 #[111, 113, 115] #[{ accessFlags := 18, nameIndex := 5, descriptorIndex := 6, attributes := #[] }, { accessFlags := 18, nameIndex := 9, descriptorIndex := 10, attributes := #[] }, { accessFlags := 2, nameIndex := 19, descriptorIndex := 10, attributes := #[] }])
  fields := #[{ name := "name", type := (.object "java/lang/String"), accessFlags := 18, slot := 0, constantValue := 0 }, { name := "ordinal", type := .int, accessFlags := 18, slot := 1, constantValue := 0 }, { name := "hash", type := .int, accessFlags := 2, slot := 2, constantValue := 0 }]
  methods := #[]
  instanceTypes := #[(.object "java/lang/String"), .int, .int]
  staticTypes := #[]
  resolved := Array.replicate 204 none
  statics := none }

def pool6 : Array CpInfo := pool [(1, .class_ 2), (0, u "com/example/diagnostic/diagnostic/Severity"), (2, u "LOW"), (0, u "Lcom/example/diagnostic/diagnostic/Severity;"), (0, .fieldref 1 8), (0, .nameAndType 9 6), (0, u "MEDIUM"), (2, u "HIGH"), (2, u "$VALUES"), (0, u "[Lcom/example/diagnostic/diagnostic/Severity;"), (6, .class_ 25), (1, u "java/lang/Enum"), (8, u "wireName"), (0, u "Ljava/lang/String;"), (50, u "orDefault"), (0, u "(Lcom/example/diagnostic/diagnostic/Severity;)Lcom/example/diagnostic/diagnostic/Severity;")] 7

def k6c0 : Code := { maxStack := 1, maxLocals := 1, code := prog_4_method_6_code, exceptionTable := #[], attributes := #[] }
def k6m0 : Method := { name := "orDefault", desc := "(Lcom/example/diagnostic/diagnostic/Severity;)Lcom/example/diagnostic/diagnostic/Severity;", sig := { parameters := [(.object "com/example/diagnostic/diagnostic/Severity")], returnType := some (.object "com/example/diagnostic/diagnostic/Severity") }, accessFlags := 9, code := some k6c0 }
/-- com/example/diagnostic/diagnostic/Severity -/
def k6 : Class := { plain "com/example/diagnostic/diagnostic/Severity" (some 5) with
  accessFlags := 16433
  interfaces := #[]
  cf := some (fileOf pool6 1 #[] #[{ accessFlags := 9, nameIndex := 86, descriptorIndex := 87, attributes := #[] }] 16433 23 #[] #[{ accessFlags := 16409, nameIndex := 5, descriptorIndex := 6, attributes := #[] }, { accessFlags := 16409, nameIndex := 9, descriptorIndex := 6, attributes := #[] }, { accessFlags := 16409, nameIndex := 12, descriptorIndex := 6, attributes := #[] }, { accessFlags := 18, nameIndex := 34, descriptorIndex := 35, attributes := #[] }, { accessFlags := 4122, nameIndex := 15, descriptorIndex := 16, attributes := #[] }])
  fields := #[{ name := "LOW", type := (.object "com/example/diagnostic/diagnostic/Severity"), accessFlags := 16409, slot := 0, constantValue := 0 }, { name := "MEDIUM", type := (.object "com/example/diagnostic/diagnostic/Severity"), accessFlags := 16409, slot := 1, constantValue := 0 }, { name := "HIGH", type := (.object "com/example/diagnostic/diagnostic/Severity"), accessFlags := 16409, slot := 2, constantValue := 0 }, { name := "wireName", type := (.object "java/lang/String"), accessFlags := 18, slot := 3, constantValue := 0 }, { name := "$VALUES", type := (.array (.object "com/example/diagnostic/diagnostic/Severity")), accessFlags := 4122, slot := 3, constantValue := 0 }]
  methods := #[k6m0]
  instanceTypes := #[(.object "java/lang/String"), .int, .int, (.object "java/lang/String")]
  staticTypes := #[(.object "com/example/diagnostic/diagnostic/Severity"), (.object "com/example/diagnostic/diagnostic/Severity"), (.object "com/example/diagnostic/diagnostic/Severity"), (.array (.object "com/example/diagnostic/diagnostic/Severity"))]
  resolved := Array.replicate 95 none
  statics := some 0 }

def pool7 : Array CpInfo := pool [(1, u "java/lang/Cloneable"), (0, .class_ 1), (0, u "java/lang/Object"), (0, .class_ 3)] 3

/-- java/lang/Cloneable -/
def k7 : Class := { plain "java/lang/Cloneable" (some 0) with
  accessFlags := 1537
  interfaces := #[]
  cf := some (fileOf pool7 2 #[] #[] 1537 4 #[] #[])
  fields := #[]
  methods := #[]
  instanceTypes := #[]
  staticTypes := #[]
  resolved := Array.replicate 8 none
  statics := none }

/-- the primitive byte -/
def k8 : Class := { plain "byte" none with kind := .primitive 'B', accessFlags := 0x411 }
/-- [B -/
def k9 : Class := { plain "[B" (some 0) with kind := .array 8 .byte, interfaces := #[7, 4], accessFlags := 1041 }

/-- the primitive int -/
def k10 : Class := { plain "int" none with kind := .primitive 'I', accessFlags := 0x411 }
/-- [I -/
def k11 : Class := { plain "[I" (some 0) with kind := .array 10 .int, interfaces := #[7, 4], accessFlags := 1041 }

def heap : Heap := #[{ cls := 6, slots := #[.ref 1, .ref 2, .ref 3, .null], vm := .statics 6 },
  { cls := 6, slots := #[.null, .int 0, .int 0, .null], vm := .none },
  { cls := 6, slots := #[.null, .int 1, .int 0, .null], vm := .none },
  { cls := 6, slots := #[.null, .int 2, .int 0, .null], vm := .none }]
def classes : Array Class := #[k0, k1, k2, k3, k4, k5, k6, k7, k8, k9, k10, k11]
def interned : List (Array UInt16 × Addr) := []
def slotsUsed : Nat := 16
def theMethod : MethodId := ⟨1, 2⟩
def args0 : Array Value := #[.int 5]
def aboutOver (below : List Frame) : State where
  vm := { classes := classes, interned := interned.toArray }
  heap := heap
  slotsUsed := slotsUsed
  threads := #[{ frames := .invoking theMethod args0 :: below }]
def below0 : List Frame := [.native { method := ⟨0, 0⟩, args := #[] }]
def about1 : State := aboutOver below0
def p0 : Program := .bare "" "" ""
def e0 : Env := launch0.env 0 0 0
theorem w_frames : about1.frames = Frame.invoking theMethod args0 :: below0 := rfl
set_option maxRecDepth 65536 in
theorem w_args : argsFit about1.vm theMethod args0 = true := by decide +kernel
set_option maxRecDepth 65536 in
theorem w_heap : heapFits about1 = true := by decide +kernel
set_option maxRecDepth 65536 in
theorem w_runnable : about1.curStatus? = some .runnable := by decide +kernel
set_option maxRecDepth 65536 in
theorem w_alone : about1.alone = true := by decide +kernel
set_option maxRecDepth 65536 in
theorem w_named : about1.methodNamed? x = some theMethod := by decide +kernel
set_option maxRecDepth 65536 in
theorem w_hears : about1.hears theMethod below0 = true := by decide +kernel
set_option maxRecDepth 65536 in
theorem w_ripe : about1.ripe theMethod args0 below0 = true := by decide +kernel
theorem w_running : about1.status = .running := rfl
set_option maxRecDepth 65536 in
theorem w_room : about1.hasRoom e0.platform room_1 = true :=
  launch0.hasRoom_least _ room_1 (by decide +kernel) (by decide +kernel) (by decide +kernel) (by decide +kernel) (by decide +kernel) (by decide +kernel)
theorem allAtoms_all (ts : List Jvm.Cond) (a : Array Jvm.Value) (st : Jvm.State) : (allAtoms ts).before a st = ts.all (fun c => c.before a st) := by
  induction ts with
  | nil => rfl
  | cons c t ih =>
    show (Jvm.Cond.and c (allAtoms t)).before a st = _
    rw [Jvm.Cond.before_and, ih, List.all_cons]
def words1 : List Jvm.Cond := Jvm.Cond.code x code maxLocals ret :: tables_1
/-- a 'code' word, met by the world's own term for the bytes: nothing is compared byte by byte -/
theorem code_word {y : MethodName} {bytes : ByteArray} {mx : Nat} {rt : Option FieldType} {a : Array Value} {s : State} {m : MethodId} {meth : Method} {c : Code} (h1 : s.methodNamed? y = some m) (h2 : s.vm.method? m = some meth) (h3 : meth.code = some c) (h4 : c.code = bytes)
    (h5 : (c.maxLocals == mx && c.exceptionTable.isEmpty && decide (c.maxStack ≤ mostOperands) && decide (meth.sig.returnType = rt) && !meth.locks && decide (parseMethodDescriptor y.desc = some meth.sig)) = true) : (Jvm.Cond.code y bytes mx rt).before a s = true := by
  simp only [Bool.and_eq_true, beq_iff_eq, Bool.not_eq_true', decide_eq_true_eq] at h5
  obtain ⟨⟨⟨⟨⟨g1, g2⟩, g3⟩, g4⟩, g5⟩, g6⟩ := h5
  simp [Cond.before, Cond.holds, Cond.value, h1, h2, h3, h4, g1, g2, g3, g4, g5, g6]
def isCode : Jvm.Cond → Bool
  | .code _ _ _ _ => true
  | _ => false
theorem all_split {L : List Jvm.Cond} {P : Jvm.Cond → Bool} (h1 : L.all (fun c => isCode c || P c) = true) (h2 : ∀ c ∈ L.filter isCode, P c = true) : L.all P = true := by
  refine List.all_eq_true.mpr fun c hc => ?_
  have h := List.all_eq_true.mp h1 c hc
  rcases Bool.eq_false_or_eq_true (isCode c) with hi | hi
  · exact h2 c (List.mem_filter.mpr ⟨hc, hi⟩)
  · simpa [hi] using h
set_option maxRecDepth 65536 in
theorem w_c0 : (Jvm.Cond.code x code maxLocals ret).before args0 about1 = true := code_word (m := ⟨1, 2⟩) (meth := k1m2) (c := k1c2) (by decide +kernel) rfl rfl rfl (by decide +kernel)
set_option maxRecDepth 65536 in
theorem w_c1 : (Jvm.Cond.code ({ cls := "com/example/diagnostic/diagnostic/SeverityOrDefaultPinLaw", name := "pick", desc := "(I)Lcom/example/diagnostic/diagnostic/Severity;" } : Jvm.MethodName) method_2_code (1 : Nat) (Option.some (Jvm.ClassFile.FieldType.object "com/example/diagnostic/diagnostic/Severity"))).before args0 about1 = true := code_word (m := ⟨1, 1⟩) (meth := k1m1) (c := k1c1) (by decide +kernel) rfl rfl rfl (by decide +kernel)
set_option maxRecDepth 65536 in
theorem w_c2 : (Jvm.Cond.code ({ cls := "com/example/diagnostic/diagnostic/Severity", name := "orDefault", desc := "(Lcom/example/diagnostic/diagnostic/Severity;)Lcom/example/diagnostic/diagnostic/Severity;" } : Jvm.MethodName) prog_4_method_6_code (1 : Nat) (Option.some (Jvm.ClassFile.FieldType.object "com/example/diagnostic/diagnostic/Severity"))).before args0 about1 = true := code_word (m := ⟨6, 0⟩) (meth := k6m0) (c := k6c0) (by decide +kernel) rfl rfl rfl (by decide +kernel)
def codes1 : List Jvm.Cond := [Jvm.Cond.code x code maxLocals ret, Jvm.Cond.code ({ cls := "com/example/diagnostic/diagnostic/SeverityOrDefaultPinLaw", name := "pick", desc := "(I)Lcom/example/diagnostic/diagnostic/Severity;" } : Jvm.MethodName) method_2_code (1 : Nat) (Option.some (Jvm.ClassFile.FieldType.object "com/example/diagnostic/diagnostic/Severity")), Jvm.Cond.code ({ cls := "com/example/diagnostic/diagnostic/Severity", name := "orDefault", desc := "(Lcom/example/diagnostic/diagnostic/Severity;)Lcom/example/diagnostic/diagnostic/Severity;" } : Jvm.MethodName) prog_4_method_6_code (1 : Nat) (Option.some (Jvm.ClassFile.FieldType.object "com/example/diagnostic/diagnostic/Severity"))]
set_option maxRecDepth 65536 in
theorem codes_eq : words1.filter isCode = codes1 := rfl
theorem w_codes : ∀ c ∈ words1.filter isCode, c.before args0 about1 = true := by
  rw [codes_eq]
  intro c hc
  simp only [codes1, List.mem_cons, List.not_mem_nil, or_false] at hc
  rcases hc with rfl | rfl | rfl
  · exact w_c0
  · exact w_c1
  · exact w_c2
set_option maxRecDepth 65536 in
theorem w_t1 : words1.all (fun c => isCode c || c.before args0 about1) = true := by decide +kernel
theorem w_tables : (allAtoms (Jvm.Cond.code x code maxLocals ret :: tables_1)).before args0 about1 = true := by
  rw [allAtoms_all]
  show words1.all (fun c => c.before args0 about1) = true
  refine all_split ?_ w_codes
  rw [w_t1]
set_option maxRecDepth 65536 in
theorem w_case : (Jvm.Cond.and given_1 narrow_1).before args0 about1 = true := by decide +kernel
theorem w_applies : (headSpec (Jvm.Cond.code x code maxLocals ret :: tables_1) room_1).applies x e0.platform about1 = true :=
  (Spec.applies_iff w_frames).mpr ⟨w_running, w_runnable, w_alone, w_named, w_hears, w_ripe, w_room, w_tables⟩
theorem atStart : AtStart classFile x code maxLocals ret World_1 tables_1 room_1 Calls_1 rest_1 Pre_1 launch0 p0 e0 about1 theMethod args0 below0 :=
  ⟨lists_1, trivial, launch0.admits_env _ _ _, launch0.least_env, fairChoices_fair.cas, fairChoices_fair.clock, w_frames, w_args, w_heap, w_applies, trivial, trivial, w_case⟩
end start1
theorem witness_1 : WitnessClaimed_1 := ⟨start1.p0, start1.e0, start1.about1, start1.theMethod, start1.args0, start1.below0, start1.atStart⟩
end Jvm.Pilot.@@N@@
