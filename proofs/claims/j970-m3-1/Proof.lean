import JvmDerived
import JvmDerived.Pilot.@@N@@Statement
import JvmDerived.Pilot.@@N@@Code
set_option linter.unusedVariables false
set_option linter.unusedSimpArgs false
@@BLOCK:NumsL.lean.txt@@
namespace Jvm.Pilot.@@N@@
open Jvm Jvm.ClassFile Sem Op Lib Jvm.Free Jvm.Stand Jvm.LawKit Jvm.RoadKit Bundle Jvm.Pilot.@@N@@.Jvm.D
/-! the walk's own form: from this state and frame the run ends as P says -/
def Go (p : Program) (e : Env) (below : List Frame) (T : State) (g : JFrame) (P : Outcome → State → Prop) : Prop := ∃ s₂ o, Steps p.tables e below (T.setTop g) s₂ ∧ s₂.status = .running ∧ Ended s₂ below o ∧ P o s₂
theorem Go.of {p : Program} {e : Env} {below : List Frame} {T T' : State} {g g' : JFrame} {P : Outcome → State → Prop} (k : ∀ t, Steps p.tables e below (T'.setTop g') t → Steps p.tables e below (T.setTop g) t) (h : Go p e below T' g' P) : Go p e below T g P := by
  obtain ⟨s2, o, h1, h2⟩ := h; exact ⟨s2, o, k _ h1, h2⟩
theorem Go.enter {p : Program} {e : Env} {below : List Frame} {T : State} {g g' : JFrame} {P : Outcome → State → Prop} (q : g = g') (h : Go p e below T g' P) : ∃ s₂ o, Steps p.tables e below (T.setTop g) s₂ ∧ s₂.status = .running ∧ Ended s₂ below o ∧ P o s₂ := by
  subst q; exact h
theorem own_selp {s : State} {args : Array Value} {y : MethodName} {n : Nat} (hi : (Jvm.Cond.instantiable y.cls n).before args s = true) (hp : s.PrivateAt y) (hm : (Jvm.Cond.instanceMethod y).before args s = true) (hy : y.cls ≠ "java/lang/invoke/MethodHandle" ∧ y.cls ≠ "java/lang/invoke/VarHandle") : (Jvm.Cond.selects y.cls y y).before args s = true := by
  obtain ⟨c, k, h1, h2, -, h3, -⟩ := Cond.instantiable_spec hi
  rw [Bool.or_eq_false_iff] at h3
  exact selects_self_of_private h1 h2 h3.1 hp hm hy
/-- a local that holds nothing or one word -/
def Sl (o : Slot) : Prop := o = .unset ∨ ∃ w : Value, o = .val w ∧ w.category = 1
theorem own_mod3 (x : Int32) : (x &&& 2147483647) % 3 = 0 ∨ (x &&& 2147483647) % 3 = 1 ∨ (x &&& 2147483647) % 3 = 2 := by
  have h : (x &&& 2147483647).toInt = x.toInt % 2 ^ 31 := Jvm.Kit.i32_mask x 2147483647 (k := 31) (by decide) (by decide)
  have hr : ((x &&& 2147483647) % 3).toInt = (x &&& 2147483647).toInt % (3 : Int32).toInt := Jvm.Kit.i32_rem_nonneg (by omega)
  have h0 : (0 : Int32).toInt = 0 := by decide
  have h1 : (1 : Int32).toInt = 1 := by decide
  have h2 : (2 : Int32).toInt = 2 := by decide
  have h3 : (3 : Int32).toInt = 3 := by decide
  rw [h3] at hr
  simp only [← Int32.toInt_inj, hr, h0, h1, h2]; omega
theorem own_fld {s : State} {args : Array Value} {t : Term} {a : Addr} {C n d : String} {z : Int32} (ev : t.eval args s none [] s = some (.ref a)) (h : (Jvm.Cond.eq (Jvm.Term.field t C n d) (Jvm.Term.int z)).value args s none s [] = some true) : Fld s s.heap a C n d (.int z) := by
  obtain ⟨x, y, h1, h2, h3, h4⟩ := cmp_v (Or.inl h)
  rw [fld_at ev] at h1
  cases h2
  obtain ⟨w, rfl⟩ := h4
  have h5 : w = z := by
    have q := h
    rw [← fld_at ev] at h1
    simp only [Cond.value, h1, Term.int_eval] at q
    simpa using q
  subst h5
  exact Fld.start h1
theorem pn_0 : plainName "com/example/attestry/attestry/ExitStatusWorsePinLaw" = true := by first | (simp [plainName, overriddenIn]; done) | decide +kernel
theorem pn_1 : plainName "com/example/attestry/attestry/ExitStatus" = true := by first | (simp [plainName, overriddenIn]; done) | decide +kernel
theorem pd_0 : parseMethodDescriptor "(I)Lcom/example/attestry/attestry/ExitStatus;" = some ⟨[.int], some (.object "com/example/attestry/attestry/ExitStatus")⟩ := by decide +kernel
theorem pd_1 : parseMethodDescriptor "(Lcom/example/attestry/attestry/ExitStatus;)Lcom/example/attestry/attestry/ExitStatus;" = some ⟨[(.object "com/example/attestry/attestry/ExitStatus")], some (.object "com/example/attestry/attestry/ExitStatus")⟩ := by decide +kernel
theorem pd_2 : parseMethodDescriptor "(II)I" = some ⟨[.int, .int], some .int⟩ := by decide +kernel
theorem pd_3 : parseMethodDescriptor "()I" = some ⟨[], some .int⟩ := by decide +kernel
def pickV (x : Int32) (aO aN aU : Addr) : Addr := if x = 0 then aO else if x = 1 then aN else aU
theorem pick_0 (aO aN aU : Addr) : pickV (0 : Int32) aO aN aU = aO := by simp [pickV]
theorem pick_1 (aO aN aU : Addr) : pickV (1 : Int32) aO aN aU = aN := by simp [pickV]
theorem pick_2 (aO aN aU : Addr) : pickV (2 : Int32) aO aN aU = aU := by simp [pickV]
theorem d1_0 : decode method_2_code 0 = .ok (.iload_n 0, 1) := by decide +kernel
theorem d1_1 : decode method_2_code 1 = .ok (.ifCond .ne 7, 3) := by decide +kernel
theorem d1_4 : decode method_2_code 4 = .ok (.getstatic 7, 3) := by decide +kernel
theorem d1_7 : decode method_2_code 7 = .ok (.areturn, 1) := by decide +kernel
theorem d1_8 : decode method_2_code 8 = .ok (.iload_n 0, 1) := by decide +kernel
theorem d1_9 : decode method_2_code 9 = .ok (.iconst 1, 1) := by decide +kernel
theorem d1_10 : decode method_2_code 10 = .ok (.if_icmp .ne 7, 3) := by decide +kernel
theorem d1_13 : decode method_2_code 13 = .ok (.getstatic 13, 3) := by decide +kernel
theorem d1_16 : decode method_2_code 16 = .ok (.areturn, 1) := by decide +kernel
theorem d1_17 : decode method_2_code 17 = .ok (.getstatic 16, 3) := by decide +kernel
theorem d1_20 : decode method_2_code 20 = .ok (.areturn, 1) := by decide +kernel
theorem ef_1 (m : MethodId) (x0 : Int32) : entryFrame m #[(.int x0)] 1 = mkF m 0 #[.val (.int x0)] [] := by first | (simp [entryFrame, mkF, argsToLocals, Value.category]; done) | rfl
def Q1 (Z : State) (x : Int32) (aO : Addr) (aN : Addr) (aU : Addr) (h0 : Heap) (n0 : Nat) (v : Option Value) (h : Heap) (L : List Loc) : Prop := v = some (.ref (pickV x aO aN aU)) ∧ Fr n0 L ∧ h = h0
set_option maxRecDepth 65536 in
set_option maxHeartbeats 40000000 in
theorem rm1 (l : Launch) (Z : State) (a0 : Array Value) (hw : ∀ d ∈ tables_1, d.before a0 Z = true) (ws : List Jvm.Cond) (x : Int32) (aO : Addr) (aN : Addr) (aU : Addr) (h0 : Heap) (n0 : Nat) (Z0 : n0 ≤ h0.size) (SaO : Sta Z h0 "com/example/attestry/attestry/ExitStatus" "OK" "Lcom/example/attestry/attestry/ExitStatus;" (.ref aO)) (SaN : Sta Z h0 "com/example/attestry/attestry/ExitStatus" "NOT_HOLDING" "Lcom/example/attestry/attestry/ExitStatus;" (.ref aN)) (SaU : Sta Z h0 "com/example/attestry/attestry/ExitStatus" "USAGE" "Lcom/example/attestry/attestry/ExitStatus;" (.ref aU)) :
    MetFree l (⟨"com/example/attestry/attestry/ExitStatusWorsePinLaw", "pick", "(I)Lcom/example/attestry/attestry/ExitStatus;"⟩ : MethodName) (head1 (Jvm.Cond.code (⟨"com/example/attestry/attestry/ExitStatusWorsePinLaw", "pick", "(I)Lcom/example/attestry/attestry/ExitStatus;"⟩ : MethodName) method_2_code 1 (some (.object "com/example/attestry/attestry/ExitStatus")) :: ws) ({ frames := 0, cells := 0, slots := 0, locals := 0 } : Room)) (fun aa_ U => aa_ = #[(.int x)] ∧ Z.Warmed39 U.vm ∧ U.heap = h0) (fun _ _ _ _ _ => True) (fun _ U o U' => ∃ vv_ LL_, o = .returned vv_ ∧ Q1 Z x aO aN aU h0 n0 vv_ U'.heap LL_ ∧ FrameEnd U o U' LL_ ({ frames := 0, cells := 0, slots := 0, locals := 0 } : Room).cells ({ frames := 0, cells := 0, slots := 0, locals := 0 } : Room).slots) := by
  refine MetFree.of_bodySF (plainFor_of_name pn_0) hisR ?_
  intro p e s m args below meth c s₁ Bd hml0 hP hK
  obtain ⟨rfl, hZ, hh⟩ := hP
  have hx := Bd.exec
  have hby := Bd.bytes
  have hml : c.maxLocals = 1 := hml0
  have hown : s.vm.findClass "com/example/attestry/attestry/ExitStatusWorsePinLaw" = some m.cls := findClass_of_methodNamed Bd.named
  have hnm := (name_of_methodNamed Bd.named Bd.method).1
  have X0 : Stand p l e ({ frames := 0, cells := 0, slots := 0, locals := 0 } : Room) s m #[(.int x)] below meth c s₁ [] 0 0 := Stand.of_body Bd
  have e0 : s₁.heap = h0 := by rw [← hh, Bd.state]; rfl
  have N0 := Fr.nil n0
  have K0 : Keep h0 h0 [] := Keep.refl h0 _
  refine Go.enter (P := fun o U' => ∃ vv_ LL_, o = .returned vv_ ∧ Q1 Z x aO aN aU h0 n0 vv_ U'.heap LL_ ∧ FrameEnd s o U' LL_ ({ frames := 0, cells := 0, slots := 0, locals := 0 } : Room).cells ({ frames := 0, cells := 0, slots := 0, locals := 0 } : Room).slots) (ef_1 m x) ?_
  show Go p e below s₁ (mkF m 0 #[.val (.int x)] []) _
  refine Go.of (fun tg_ kk_ => XS.iloadN X0.here hx rfl (hb hby d1_0) rfl kk_) ?_
  show Go p e below s₁ (mkF m 1 #[.val (.int x)] [(.int x)]) _
  by_cases hc1 : x = (0 : Int32)
  · skip
    refine Go.of (fun tg_ kk_ => XS.ifNo X0.here hx rfl (hb hby d1_1) rfl ((if0 _ _).trans (teq hc1).2) kk_) ?_
    show Go p e below s₁ (mkF m 4 #[.val (.int x)] []) _
    obtain ⟨T2, X2, e2, st2⟩ := getS2 X0 hx hZ hown (host := "") (Or.inl (hw _ (List.mem_of_getElem? (i := 5) rfl))) Via.refl e0 SaO (g := (mkF m 4 #[.val (.int x)] [])) rfl (hb hby d1_4)
    refine Go.of (st2) ?_
    show Go p e below T2 (mkF m 7 #[.val (.int x)] [(.ref aO)]) _
    obtain ⟨fs, hr, hrun, hended, hW, hsame⟩ := X2.leave (v := some (.ref aO)) (fun h => by rw [Bd.returns] at h; cases h)
    refine ⟨_, _, ?_, hrun, hended, _, _, rfl, ?_, ⟨_, rfl⟩, hW, hsame.mono (by decide) (by decide)⟩
    · exact retOut X2 hx Bd.returns rfl (Or.inr (Or.inr (Or.inr (Or.inr ⟨rfl, rfl, rfl⟩)))) (hb hby d1_7) hr
    · show Q1 Z x aO aN aU h0 n0 _ T2.heap _
      rw [e2]
      exact ⟨by simp [pickV, hc1], N0, rfl⟩
  · skip
    refine Go.of (fun tg_ kk_ => XS.ifYes X0.here hx rfl (pc0 := 1) (pc' := 8) rfl (hb hby d1_1) rfl ((if0 _ _).trans (feq hc1).2) (by decide) (by decide) kk_) ?_
    show Go p e below s₁ (mkF m 8 #[.val (.int x)] []) _
    refine Go.of (fun tg_ kk_ => XS.iloadN X0.here hx rfl (hb hby d1_8) rfl kk_) ?_
    show Go p e below s₁ (mkF m 9 #[.val (.int x)] [(.int x)]) _
    refine Go.of (fun tg_ kk_ => XS.iconst X0.here hx rfl (hb hby d1_9) kk_) ?_
    show Go p e below s₁ (mkF m 10 #[.val (.int x)] [(.int (1 : Int32)), (.int x)]) _
    by_cases hc3 : x = (1 : Int32)
    · skip
      refine Go.of (fun tg_ kk_ => XS.icmpNo X0.here hx rfl (hb hby d1_10) rfl (teq hc3).2 kk_) ?_
      show Go p e below s₁ (mkF m 13 #[.val (.int x)] []) _
      obtain ⟨T4, X4, e4, st4⟩ := getS2 X0 hx hZ hown (host := "") (Or.inl (hw _ (List.mem_of_getElem? (i := 26) rfl))) Via.refl e0 SaN (g := (mkF m 13 #[.val (.int x)] [])) rfl (hb hby d1_13)
      refine Go.of (st4) ?_
      show Go p e below T4 (mkF m 16 #[.val (.int x)] [(.ref aN)]) _
      obtain ⟨fs, hr, hrun, hended, hW, hsame⟩ := X4.leave (v := some (.ref aN)) (fun h => by rw [Bd.returns] at h; cases h)
      refine ⟨_, _, ?_, hrun, hended, _, _, rfl, ?_, ⟨_, rfl⟩, hW, hsame.mono (by decide) (by decide)⟩
      · exact retOut X4 hx Bd.returns rfl (Or.inr (Or.inr (Or.inr (Or.inr ⟨rfl, rfl, rfl⟩)))) (hb hby d1_16) hr
      · show Q1 Z x aO aN aU h0 n0 _ T4.heap _
        rw [e4]
        exact ⟨by simp [pickV, hc1, hc3], N0, rfl⟩
    · skip
      refine Go.of (fun tg_ kk_ => XS.icmpYes X0.here hx rfl (pc0 := 10) (pc' := 17) rfl (hb hby d1_10) rfl (feq hc3).2 (by decide) (by decide) kk_) ?_
      show Go p e below s₁ (mkF m 17 #[.val (.int x)] []) _
      obtain ⟨T5, X5, e5, st5⟩ := getS2 X0 hx hZ hown (host := "") (Or.inl (hw _ (List.mem_of_getElem? (i := 24) rfl))) Via.refl e0 SaU (g := (mkF m 17 #[.val (.int x)] [])) rfl (hb hby d1_17)
      refine Go.of (st5) ?_
      show Go p e below T5 (mkF m 20 #[.val (.int x)] [(.ref aU)]) _
      obtain ⟨fs, hr, hrun, hended, hW, hsame⟩ := X5.leave (v := some (.ref aU)) (fun h => by rw [Bd.returns] at h; cases h)
      refine ⟨_, _, ?_, hrun, hended, _, _, rfl, ?_, ⟨_, rfl⟩, hW, hsame.mono (by decide) (by decide)⟩
      · exact retOut X5 hx Bd.returns rfl (Or.inr (Or.inr (Or.inr (Or.inr ⟨rfl, rfl, rfl⟩)))) (hb hby d1_20) hr
      · show Q1 Z x aO aN aU h0 n0 _ T5.heap _
        rw [e5]
        exact ⟨by simp [pickV, hc1, hc3], N0, rfl⟩
theorem d2_0 : decode prog_6_method_5_code 0 = .ok (.aload_n 1, 1) := by decide +kernel
theorem d2_1 : decode prog_6_method_5_code 1 = .ok (.getfield 32, 3) := by decide +kernel
theorem d2_4 : decode prog_6_method_5_code 4 = .ok (.aload_n 0, 1) := by decide +kernel
theorem d2_5 : decode prog_6_method_5_code 5 = .ok (.getfield 32, 3) := by decide +kernel
theorem d2_8 : decode prog_6_method_5_code 8 = .ok (.if_icmp .le 7, 3) := by decide +kernel
theorem d2_11 : decode prog_6_method_5_code 11 = .ok (.aload_n 1, 1) := by decide +kernel
theorem d2_12 : decode prog_6_method_5_code 12 = .ok (.goto 4, 3) := by decide +kernel
theorem d2_15 : decode prog_6_method_5_code 15 = .ok (.aload_n 0, 1) := by decide +kernel
theorem d2_16 : decode prog_6_method_5_code 16 = .ok (.areturn, 1) := by decide +kernel
theorem ef_2 (m : MethodId) (x0 : Addr) (x1 : Addr) : entryFrame m #[(.ref x0), (.ref x1)] 2 = mkF m 0 #[.val (.ref x0), .val (.ref x1)] [] := by first | (simp [entryFrame, mkF, argsToLocals, Value.category]; done) | rfl
def Q2 (Z : State) (a : Addr) (b : Addr) (u : Int32) (w : Int32) (h0 : Heap) (n0 : Nat) (v : Option Value) (h : Heap) (L : List Loc) : Prop := v = some (.ref (if u < w then b else a)) ∧ Fr n0 L ∧ h = h0
set_option maxRecDepth 65536 in
set_option maxHeartbeats 40000000 in
theorem rm2 (l : Launch) (Z : State) (a0 : Array Value) (hw : ∀ d ∈ tables_1, d.before a0 Z = true) (ws : List Jvm.Cond) (a : Addr) (b : Addr) (u : Int32) (w : Int32) (h0 : Heap) (n0 : Nat) (Z0 : n0 ≤ h0.size) (Fa : Fld Z h0 a "com/example/attestry/attestry/ExitStatus" "code" "I" (.int u)) (Fb : Fld Z h0 b "com/example/attestry/attestry/ExitStatus" "code" "I" (.int w)) :
    MetFree l (⟨"com/example/attestry/attestry/ExitStatus", "worse", "(Lcom/example/attestry/attestry/ExitStatus;)Lcom/example/attestry/attestry/ExitStatus;"⟩ : MethodName) (head1 (Jvm.Cond.code (⟨"com/example/attestry/attestry/ExitStatus", "worse", "(Lcom/example/attestry/attestry/ExitStatus;)Lcom/example/attestry/attestry/ExitStatus;"⟩ : MethodName) prog_6_method_5_code 2 (some (.object "com/example/attestry/attestry/ExitStatus")) :: ws) ({ frames := 0, cells := 0, slots := 0, locals := 0 } : Room)) (fun aa_ U => aa_ = #[(.ref a), (.ref b)] ∧ Z.Warmed39 U.vm ∧ U.heap = h0) (fun _ _ _ _ _ => True) (fun _ U o U' => ∃ vv_ LL_, o = .returned vv_ ∧ Q2 Z a b u w h0 n0 vv_ U'.heap LL_ ∧ FrameEnd U o U' LL_ ({ frames := 0, cells := 0, slots := 0, locals := 0 } : Room).cells ({ frames := 0, cells := 0, slots := 0, locals := 0 } : Room).slots) := by
  refine MetFree.of_bodySF (plainFor_of_name pn_1) hisR ?_
  intro p e s m args below meth c s₁ Bd hml0 hP hK
  obtain ⟨rfl, hZ, hh⟩ := hP
  have hx := Bd.exec
  have hby := Bd.bytes
  have hml : c.maxLocals = 2 := hml0
  have hown : s.vm.findClass "com/example/attestry/attestry/ExitStatus" = some m.cls := findClass_of_methodNamed Bd.named
  have hnm := (name_of_methodNamed Bd.named Bd.method).1
  have X0 : Stand p l e ({ frames := 0, cells := 0, slots := 0, locals := 0 } : Room) s m #[(.ref a), (.ref b)] below meth c s₁ [] 0 0 := Stand.of_body Bd
  have e0 : s₁.heap = h0 := by rw [← hh, Bd.state]; rfl
  have N0 := Fr.nil n0
  have K0 : Keep h0 h0 [] := Keep.refl h0 _
  refine Go.enter (P := fun o U' => ∃ vv_ LL_, o = .returned vv_ ∧ Q2 Z a b u w h0 n0 vv_ U'.heap LL_ ∧ FrameEnd s o U' LL_ ({ frames := 0, cells := 0, slots := 0, locals := 0 } : Room).cells ({ frames := 0, cells := 0, slots := 0, locals := 0 } : Room).slots) (ef_2 m a b) ?_
  show Go p e below s₁ (mkF m 0 #[.val (.ref a), .val (.ref b)] []) _
  refine Go.of (fun tg_ kk_ => XS.aloadN X0.here hx rfl (hb hby d2_0) rfl rfl kk_) ?_
  show Go p e below s₁ (mkF m 1 #[.val (.ref a), .val (.ref b)] [(.ref b)]) _
  obtain ⟨T1, X1, e1, st1⟩ := getF X0 hx hZ hown (host := "") (Or.inl (hw _ (List.mem_of_getElem? (i := 13) rfl))) Via.refl e0 Fb (g := (mkF m 1 #[.val (.ref a), .val (.ref b)] [(.ref b)])) rfl rfl (hb hby d2_1)
  refine Go.of (st1) ?_
  show Go p e below T1 (mkF m 4 #[.val (.ref a), .val (.ref b)] [(.int w)]) _
  refine Go.of (fun tg_ kk_ => XS.aloadN X1.here hx rfl (hb hby d2_4) rfl rfl kk_) ?_
  show Go p e below T1 (mkF m 5 #[.val (.ref a), .val (.ref b)] [(.ref a), (.int w)]) _
  obtain ⟨T2, X2, e2, st2⟩ := getF X1 hx hZ hown (host := "") (Or.inl (hw _ (List.mem_of_getElem? (i := 13) rfl))) Via.refl e1 Fa (g := (mkF m 5 #[.val (.ref a), .val (.ref b)] [(.ref a), (.int w)])) rfl rfl (hb hby d2_5)
  refine Go.of (st2) ?_
  show Go p e below T2 (mkF m 8 #[.val (.ref a), .val (.ref b)] [(.int u), (.int w)]) _
  by_cases hc3 : u < w
  · skip
    refine Go.of (fun tg_ kk_ => XS.icmpNo X2.here hx rfl (hb hby d2_8) rfl (tlt hc3).2.2.2 kk_) ?_
    show Go p e below T2 (mkF m 11 #[.val (.ref a), .val (.ref b)] []) _
    refine Go.of (fun tg_ kk_ => XS.aloadN X2.here hx rfl (hb hby d2_11) rfl rfl kk_) ?_
    show Go p e below T2 (mkF m 12 #[.val (.ref a), .val (.ref b)] [(.ref b)]) _
    refine Go.of (fun tg_ kk_ => XS.goto X2.here hx rfl (pc0 := 12) (pc' := 16) rfl (hb hby d2_12) (by decide) (by decide) kk_) ?_
    show Go p e below T2 (mkF m 16 #[.val (.ref a), .val (.ref b)] [(.ref b)]) _
    obtain ⟨fs, hr, hrun, hended, hW, hsame⟩ := X2.leave (v := some (.ref b)) (fun h => by rw [Bd.returns] at h; cases h)
    refine ⟨_, _, ?_, hrun, hended, _, _, rfl, ?_, ⟨_, rfl⟩, hW, hsame.mono (by decide) (by decide)⟩
    · exact retOut X2 hx Bd.returns rfl (Or.inr (Or.inr (Or.inr (Or.inr ⟨rfl, rfl, rfl⟩)))) (hb hby d2_16) hr
    · show Q2 Z a b u w h0 n0 _ T2.heap _
      rw [e2]
      exact ⟨by simp [hc3], N0, rfl⟩
  · skip
    refine Go.of (fun tg_ kk_ => XS.icmpYes X2.here hx rfl (pc0 := 8) (pc' := 15) rfl (hb hby d2_8) rfl (flt hc3).2.2.2 (by decide) (by decide) kk_) ?_
    show Go p e below T2 (mkF m 15 #[.val (.ref a), .val (.ref b)] []) _
    refine Go.of (fun tg_ kk_ => XS.aloadN X2.here hx rfl (hb hby d2_15) rfl rfl kk_) ?_
    show Go p e below T2 (mkF m 16 #[.val (.ref a), .val (.ref b)] [(.ref a)]) _
    obtain ⟨fs, hr, hrun, hended, hW, hsame⟩ := X2.leave (v := some (.ref a)) (fun h => by rw [Bd.returns] at h; cases h)
    refine ⟨_, _, ?_, hrun, hended, _, _, rfl, ?_, ⟨_, rfl⟩, hW, hsame.mono (by decide) (by decide)⟩
    · exact retOut X2 hx Bd.returns rfl (Or.inr (Or.inr (Or.inr (Or.inr ⟨rfl, rfl, rfl⟩)))) (hb hby d2_16) hr
    · show Q2 Z a b u w h0 n0 _ T2.heap _
      rw [e2]
      exact ⟨by simp [hc3], N0, rfl⟩
theorem d3_0 : decode jdk_29_method_65_code 0 = .ok (.iload_n 0, 1) := by decide +kernel
theorem d3_1 : decode jdk_29_method_65_code 1 = .ok (.iload_n 1, 1) := by decide +kernel
theorem d3_2 : decode jdk_29_method_65_code 2 = .ok (.if_icmp .lt 7, 3) := by decide +kernel
theorem d3_5 : decode jdk_29_method_65_code 5 = .ok (.iload_n 0, 1) := by decide +kernel
theorem d3_6 : decode jdk_29_method_65_code 6 = .ok (.goto 4, 3) := by decide +kernel
theorem d3_9 : decode jdk_29_method_65_code 9 = .ok (.iload_n 1, 1) := by decide +kernel
theorem d3_10 : decode jdk_29_method_65_code 10 = .ok (.ireturn, 1) := by decide +kernel
theorem ef_3 (m : MethodId) (x0 : Int32) (x1 : Int32) : entryFrame m #[(.int x0), (.int x1)] 2 = mkF m 0 #[.val (.int x0), .val (.int x1)] [] := by first | (simp [entryFrame, mkF, argsToLocals, Value.category]; done) | rfl
def Q3 (Z : State) (x : Int32) (y : Int32) (h0 : Heap) (n0 : Nat) (v : Option Value) (h : Heap) (L : List Loc) : Prop := v = some (.int (if x < y then y else x)) ∧ Fr n0 L ∧ h = h0
set_option maxRecDepth 65536 in
set_option maxHeartbeats 40000000 in
theorem rm3 (l : Launch) (Z : State) (a0 : Array Value) (hw : ∀ d ∈ tables_1, d.before a0 Z = true) (ws : List Jvm.Cond) (x : Int32) (y : Int32) (h0 : Heap) (n0 : Nat) (Z0 : n0 ≤ h0.size) :
    MetFree l (⟨"java/lang/Math", "max", "(II)I"⟩ : MethodName) (head1 (Jvm.Cond.code (⟨"java/lang/Math", "max", "(II)I"⟩ : MethodName) jdk_29_method_65_code 2 (some .int) :: ws) ({ frames := 0, cells := 0, slots := 0, locals := 0 } : Room)) (fun aa_ U => aa_ = #[(.int x), (.int y)] ∧ Z.Warmed39 U.vm ∧ U.heap = h0) (fun _ _ _ _ _ => True) (fun _ U o U' => ∃ vv_ LL_, o = .returned vv_ ∧ Q3 Z x y h0 n0 vv_ U'.heap LL_ ∧ FrameEnd U o U' LL_ ({ frames := 0, cells := 0, slots := 0, locals := 0 } : Room).cells ({ frames := 0, cells := 0, slots := 0, locals := 0 } : Room).slots) := by
  refine MetFree.of_bodySF (Jvm.Free.JP.mathPlain rfl (by decide +kernel)) hisR ?_
  intro p e s m args below meth c s₁ Bd hml0 hP hK
  obtain ⟨rfl, hZ, hh⟩ := hP
  have hx := Bd.exec
  have hby := Bd.bytes
  have hml : c.maxLocals = 2 := hml0
  have hown : s.vm.findClass "java/lang/Math" = some m.cls := findClass_of_methodNamed Bd.named
  have hnm := (name_of_methodNamed Bd.named Bd.method).1
  have X0 : Stand p l e ({ frames := 0, cells := 0, slots := 0, locals := 0 } : Room) s m #[(.int x), (.int y)] below meth c s₁ [] 0 0 := Stand.of_body Bd
  have e0 : s₁.heap = h0 := by rw [← hh, Bd.state]; rfl
  have N0 := Fr.nil n0
  have K0 : Keep h0 h0 [] := Keep.refl h0 _
  refine Go.enter (P := fun o U' => ∃ vv_ LL_, o = .returned vv_ ∧ Q3 Z x y h0 n0 vv_ U'.heap LL_ ∧ FrameEnd s o U' LL_ ({ frames := 0, cells := 0, slots := 0, locals := 0 } : Room).cells ({ frames := 0, cells := 0, slots := 0, locals := 0 } : Room).slots) (ef_3 m x y) ?_
  show Go p e below s₁ (mkF m 0 #[.val (.int x), .val (.int y)] []) _
  refine Go.of (fun tg_ kk_ => XS.iloadN X0.here hx rfl (hb hby d3_0) rfl kk_) ?_
  show Go p e below s₁ (mkF m 1 #[.val (.int x), .val (.int y)] [(.int x)]) _
  refine Go.of (fun tg_ kk_ => XS.iloadN X0.here hx rfl (hb hby d3_1) rfl kk_) ?_
  show Go p e below s₁ (mkF m 2 #[.val (.int x), .val (.int y)] [(.int y), (.int x)]) _
  by_cases hc1 : x < y
  · skip
    refine Go.of (fun tg_ kk_ => XS.icmpYes X0.here hx rfl (pc0 := 2) (pc' := 9) rfl (hb hby d3_2) rfl (tlt hc1).1 (by decide) (by decide) kk_) ?_
    show Go p e below s₁ (mkF m 9 #[.val (.int x), .val (.int y)] []) _
    refine Go.of (fun tg_ kk_ => XS.iloadN X0.here hx rfl (hb hby d3_9) rfl kk_) ?_
    show Go p e below s₁ (mkF m 10 #[.val (.int x), .val (.int y)] [(.int y)]) _
    obtain ⟨fs, hr, hrun, hended, hW, hsame⟩ := X0.leave (v := some (.int y)) (fun h => by rw [Bd.returns] at h; cases h)
    refine ⟨_, _, ?_, hrun, hended, _, _, rfl, ?_, ⟨_, rfl⟩, hW, hsame.mono (by decide) (by decide)⟩
    · exact retOut X0 hx Bd.returns rfl (Or.inl ⟨rfl, Or.inl rfl, _, rfl⟩) (hb hby d3_10) hr
    · show Q3 Z x y h0 n0 _ s₁.heap _
      rw [e0]
      exact ⟨by simp [hc1], N0, rfl⟩
  · skip
    refine Go.of (fun tg_ kk_ => XS.icmpNo X0.here hx rfl (hb hby d3_2) rfl (flt hc1).1 kk_) ?_
    show Go p e below s₁ (mkF m 5 #[.val (.int x), .val (.int y)] []) _
    refine Go.of (fun tg_ kk_ => XS.iloadN X0.here hx rfl (hb hby d3_5) rfl kk_) ?_
    show Go p e below s₁ (mkF m 6 #[.val (.int x), .val (.int y)] [(.int x)]) _
    refine Go.of (fun tg_ kk_ => XS.goto X0.here hx rfl (pc0 := 6) (pc' := 10) rfl (hb hby d3_6) (by decide) (by decide) kk_) ?_
    show Go p e below s₁ (mkF m 10 #[.val (.int x), .val (.int y)] [(.int x)]) _
    obtain ⟨fs, hr, hrun, hended, hW, hsame⟩ := X0.leave (v := some (.int x)) (fun h => by rw [Bd.returns] at h; cases h)
    refine ⟨_, _, ?_, hrun, hended, _, _, rfl, ?_, ⟨_, rfl⟩, hW, hsame.mono (by decide) (by decide)⟩
    · exact retOut X0 hx Bd.returns rfl (Or.inl ⟨rfl, Or.inl rfl, _, rfl⟩) (hb hby d3_10) hr
    · show Q3 Z x y h0 n0 _ s₁.heap _
      rw [e0]
      exact ⟨by simp [hc1], N0, rfl⟩
theorem d4_0 : decode prog_6_method_4_code 0 = .ok (.aload_n 0, 1) := by decide +kernel
theorem d4_1 : decode prog_6_method_4_code 1 = .ok (.getfield 32, 3) := by decide +kernel
theorem d4_4 : decode prog_6_method_4_code 4 = .ok (.ireturn, 1) := by decide +kernel
theorem ef_4 (m : MethodId) (x0 : Addr) : entryFrame m #[(.ref x0)] 1 = mkF m 0 #[.val (.ref x0)] [] := by first | (simp [entryFrame, mkF, argsToLocals, Value.category]; done) | rfl
def Q4 (Z : State) (a : Addr) (u : Int32) (h0 : Heap) (n0 : Nat) (v : Option Value) (h : Heap) (L : List Loc) : Prop := v = some (.int u) ∧ Fr n0 L ∧ h = h0
set_option maxRecDepth 65536 in
set_option maxHeartbeats 40000000 in
theorem rm4 (l : Launch) (Z : State) (a0 : Array Value) (hw : ∀ d ∈ tables_1, d.before a0 Z = true) (ws : List Jvm.Cond) (a : Addr) (u : Int32) (h0 : Heap) (n0 : Nat) (Z0 : n0 ≤ h0.size) (Fa : Fld Z h0 a "com/example/attestry/attestry/ExitStatus" "code" "I" (.int u)) :
    MetFree l (⟨"com/example/attestry/attestry/ExitStatus", "code", "()I"⟩ : MethodName) (head1 (Jvm.Cond.code (⟨"com/example/attestry/attestry/ExitStatus", "code", "()I"⟩ : MethodName) prog_6_method_4_code 1 (some .int) :: ws) ({ frames := 0, cells := 0, slots := 0, locals := 0 } : Room)) (fun aa_ U => aa_ = #[(.ref a)] ∧ Z.Warmed39 U.vm ∧ U.heap = h0) (fun _ _ _ _ _ => True) (fun _ U o U' => ∃ vv_ LL_, o = .returned vv_ ∧ Q4 Z a u h0 n0 vv_ U'.heap LL_ ∧ FrameEnd U o U' LL_ ({ frames := 0, cells := 0, slots := 0, locals := 0 } : Room).cells ({ frames := 0, cells := 0, slots := 0, locals := 0 } : Room).slots) := by
  refine MetFree.of_bodySF (plainFor_of_name pn_1) hisR ?_
  intro p e s m args below meth c s₁ Bd hml0 hP hK
  obtain ⟨rfl, hZ, hh⟩ := hP
  have hx := Bd.exec
  have hby := Bd.bytes
  have hml : c.maxLocals = 1 := hml0
  have hown : s.vm.findClass "com/example/attestry/attestry/ExitStatus" = some m.cls := findClass_of_methodNamed Bd.named
  have hnm := (name_of_methodNamed Bd.named Bd.method).1
  have X0 : Stand p l e ({ frames := 0, cells := 0, slots := 0, locals := 0 } : Room) s m #[(.ref a)] below meth c s₁ [] 0 0 := Stand.of_body Bd
  have e0 : s₁.heap = h0 := by rw [← hh, Bd.state]; rfl
  have N0 := Fr.nil n0
  have K0 : Keep h0 h0 [] := Keep.refl h0 _
  refine Go.enter (P := fun o U' => ∃ vv_ LL_, o = .returned vv_ ∧ Q4 Z a u h0 n0 vv_ U'.heap LL_ ∧ FrameEnd s o U' LL_ ({ frames := 0, cells := 0, slots := 0, locals := 0 } : Room).cells ({ frames := 0, cells := 0, slots := 0, locals := 0 } : Room).slots) (ef_4 m a) ?_
  show Go p e below s₁ (mkF m 0 #[.val (.ref a)] []) _
  refine Go.of (fun tg_ kk_ => XS.aloadN X0.here hx rfl (hb hby d4_0) rfl rfl kk_) ?_
  show Go p e below s₁ (mkF m 1 #[.val (.ref a)] [(.ref a)]) _
  obtain ⟨T1, X1, e1, st1⟩ := getF X0 hx hZ hown (host := "") (Or.inl (hw _ (List.mem_of_getElem? (i := 13) rfl))) Via.refl e0 Fa (g := (mkF m 1 #[.val (.ref a)] [(.ref a)])) rfl rfl (hb hby d4_1)
  refine Go.of (st1) ?_
  show Go p e below T1 (mkF m 4 #[.val (.ref a)] [(.int u)]) _
  obtain ⟨fs, hr, hrun, hended, hW, hsame⟩ := X1.leave (v := some (.int u)) (fun h => by rw [Bd.returns] at h; cases h)
  refine ⟨_, _, ?_, hrun, hended, _, _, rfl, ?_, ⟨_, rfl⟩, hW, hsame.mono (by decide) (by decide)⟩
  · exact retOut X1 hx Bd.returns rfl (Or.inl ⟨rfl, Or.inl rfl, _, rfl⟩) (hb hby d4_4) hr
  · show Q4 Z a u h0 n0 _ T1.heap _
    rw [e1]
    exact ⟨rfl, N0, rfl⟩
theorem ef_0 (m : MethodId) (x0 : Int32) (x1 : Int32) : entryFrame m #[(.int x0), (.int x1)] maxLocals = mkF m 0 #[.val (.int x0), .val (.int x1), .unset, .unset, .unset, .unset, .unset, .unset] [] := by first | (simp [entryFrame, mkF, argsToLocals, Value.category, maxLocals]; done) | rfl
def Q0 (Z : State) (p0 : Int32) (p1 : Int32) (aO : Addr) (aN : Addr) (aU : Addr) (h0 : Heap) (n0 : Nat) (v : Option Value) (h : Heap) (L : List Loc) : Prop := v = some (.int 1) ∧ Fr n0 L
set_option maxRecDepth 65536 in
set_option maxHeartbeats 40000000 in
theorem rm0 (l : Launch) (Z : State) (a0 : Array Value) (hw : ∀ d ∈ tables_1, d.before a0 Z = true) (ws : List Jvm.Cond) (p0 : Int32) (p1 : Int32) (aO : Addr) (aN : Addr) (aU : Addr) (h0 : Heap) (n0 : Nat) (Z0 : n0 ≤ h0.size) (SaO : Sta Z h0 "com/example/attestry/attestry/ExitStatus" "OK" "Lcom/example/attestry/attestry/ExitStatus;" (.ref aO)) (SaN : Sta Z h0 "com/example/attestry/attestry/ExitStatus" "NOT_HOLDING" "Lcom/example/attestry/attestry/ExitStatus;" (.ref aN)) (SaU : Sta Z h0 "com/example/attestry/attestry/ExitStatus" "USAGE" "Lcom/example/attestry/attestry/ExitStatus;" (.ref aU)) (FaO : Fld Z h0 aO "com/example/attestry/attestry/ExitStatus" "code" "I" (.int (0 : Int32))) (EaO : Exa Z h0 aO "com/example/attestry/attestry/ExitStatus") (FaN : Fld Z h0 aN "com/example/attestry/attestry/ExitStatus" "code" "I" (.int (1 : Int32))) (EaN : Exa Z h0 aN "com/example/attestry/attestry/ExitStatus") (FaU : Fld Z h0 aU "com/example/attestry/attestry/ExitStatus" "code" "I" (.int (2 : Int32))) (EaU : Exa Z h0 aU "com/example/attestry/attestry/ExitStatus") :
    MetFree l x (head1 (Jvm.Cond.code x code maxLocals ret :: ws) room_1) (fun aa_ U => aa_ = #[(.int p0), (.int p1)] ∧ Z.Warmed39 U.vm ∧ U.heap = h0) (fun _ _ _ _ _ => True) (fun _ U o U' => ∃ vv_ LL_, o = .returned vv_ ∧ Q0 Z p0 p1 aO aN aU h0 n0 vv_ U'.heap LL_ ∧ FrameEnd U o U' LL_ 0 0) := by
  refine MetFree.of_bodySF (plainFor_of_name pn_0) hisR ?_
  intro p e s m args below meth c s₁ Bd hml0 hP hK
  obtain ⟨rfl, hZ, hh⟩ := hP
  have hx := Bd.exec
  have hby := Bd.bytes
  have hml : c.maxLocals = 8 := hml0
  have hown : s.vm.findClass "com/example/attestry/attestry/ExitStatusWorsePinLaw" = some m.cls := findClass_of_methodNamed Bd.named
  have hnm := (name_of_methodNamed Bd.named Bd.method).1
  have X0 : Stand p l e room_1 s m #[(.int p0), (.int p1)] below meth c s₁ [] 0 0 := Stand.of_body Bd
  have e0 : s₁.heap = h0 := by rw [← hh, Bd.state]; rfl
  have N0 := Fr.nil n0
  have K0 : Keep h0 h0 [] := Keep.refl h0 _
  refine Go.enter (P := fun o U' => ∃ vv_ LL_, o = .returned vv_ ∧ Q0 Z p0 p1 aO aN aU h0 n0 vv_ U'.heap LL_ ∧ FrameEnd s o U' LL_ 0 0) (ef_0 m p0 p1) ?_
  show Go p e below s₁ (mkF m 0 #[.val (.int p0), .val (.int p1), .unset, .unset, .unset, .unset, .unset, .unset] []) _
  refine Go.of (fun tg_ kk_ => XS.iloadN X0.here hx rfl (hb hby at_0) rfl kk_) ?_
  show Go p e below s₁ (mkF m 1 #[.val (.int p0), .val (.int p1), .unset, .unset, .unset, .unset, .unset, .unset] [(.int p0)]) _
  refine Go.of (X0.ldcInt hx hown (mvT hZ (hw _ (List.mem_of_getElem? (i := 0) rfl))) (g := (mkF m 1 #[.val (.int p0), .val (.int p1), .unset, .unset, .unset, .unset, .unset, .unset] [(.int p0)])) rfl (hb hby at_1)) ?_
  show Go p e below s₁ (mkF m 3 #[.val (.int p0), .val (.int p1), .unset, .unset, .unset, .unset, .unset, .unset] [(.int (2147483647 : Int32)), (.int p0)]) _
  refine Go.of (fun tg_ kk_ => XS.iand X0.here hx rfl (hb hby at_3) rfl kk_) ?_
  show Go p e below s₁ (mkF m 4 #[.val (.int p0), .val (.int p1), .unset, .unset, .unset, .unset, .unset, .unset] [(.int (p0 &&& (2147483647 : Int32)))]) _
  refine Go.of (fun tg_ kk_ => XS.iconst X0.here hx rfl (hb hby at_4) kk_) ?_
  show Go p e below s₁ (mkF m 5 #[.val (.int p0), .val (.int p1), .unset, .unset, .unset, .unset, .unset, .unset] [(.int (3 : Int32)), (.int (p0 &&& (2147483647 : Int32)))]) _
  refine Go.of (fun tg_ kk_ => Jvm.RoadKit.iremM (g := (mkF m 5 #[.val (.int p0), .val (.int p1), .unset, .unset, .unset, .unset, .unset, .unset] [(.int (3 : Int32)), (.int (p0 &&& (2147483647 : Int32)))])) X0 hx rfl (hb hby at_5) rfl (by decide) kk_) ?_
  show Go p e below s₁ (mkF m 6 #[.val (.int p0), .val (.int p1), .unset, .unset, .unset, .unset, .unset, .unset] [(.int ((p0 &&& (2147483647 : Int32)) % (3 : Int32)))]) _
  obtain ⟨ii, qii⟩ : ∃ z : Int32, z = ((p0 &&& (2147483647 : Int32)) % (3 : Int32)) := ⟨_, rfl⟩
  rw [← qii]
  show Go p e below s₁ (mkF m 6 #[.val (.int p0), .val (.int p1), .unset, .unset, .unset, .unset, .unset, .unset] [(.int ii)]) _
  rcases (show ii = (0 : Int32) ∨ ii = (1 : Int32) ∨ ii = (2 : Int32) from by rw [qii]; exact own_mod3 p0) with hs1 | hs1 | hs1
  · subst hs1
    show Go p e below s₁ (mkF m 6 #[.val (.int p0), .val (.int p1), .unset, .unset, .unset, .unset, .unset, .unset] [(.int (0 : Int32))]) _
    refine Go.of (fun tg_ kk_ => XS.istoreN X0.here hx rfl (hb hby at_6) rfl (l' := #[.val (.int p0), .val (.int p1), .val (.int (0 : Int32)), .unset, .unset, .unset, .unset, .unset]) rfl kk_) ?_
    show Go p e below s₁ (mkF m 7 #[.val (.int p0), .val (.int p1), .val (.int (0 : Int32)), .unset, .unset, .unset, .unset, .unset] []) _
    refine Go.of (fun tg_ kk_ => XS.iloadN X0.here hx rfl (hb hby at_7) rfl kk_) ?_
    show Go p e below s₁ (mkF m 8 #[.val (.int p0), .val (.int p1), .val (.int (0 : Int32)), .unset, .unset, .unset, .unset, .unset] [(.int p1)]) _
    refine Go.of (X0.ldcInt hx hown (mvT hZ (hw _ (List.mem_of_getElem? (i := 0) rfl))) (g := (mkF m 8 #[.val (.int p0), .val (.int p1), .val (.int (0 : Int32)), .unset, .unset, .unset, .unset, .unset] [(.int p1)])) rfl (hb hby at_8)) ?_
    show Go p e below s₁ (mkF m 10 #[.val (.int p0), .val (.int p1), .val (.int (0 : Int32)), .unset, .unset, .unset, .unset, .unset] [(.int (2147483647 : Int32)), (.int p1)]) _
    refine Go.of (fun tg_ kk_ => XS.iand X0.here hx rfl (hb hby at_10) rfl kk_) ?_
    show Go p e below s₁ (mkF m 11 #[.val (.int p0), .val (.int p1), .val (.int (0 : Int32)), .unset, .unset, .unset, .unset, .unset] [(.int (p1 &&& (2147483647 : Int32)))]) _
    refine Go.of (fun tg_ kk_ => XS.iconst X0.here hx rfl (hb hby at_11) kk_) ?_
    show Go p e below s₁ (mkF m 12 #[.val (.int p0), .val (.int p1), .val (.int (0 : Int32)), .unset, .unset, .unset, .unset, .unset] [(.int (3 : Int32)), (.int (p1 &&& (2147483647 : Int32)))]) _
    refine Go.of (fun tg_ kk_ => Jvm.RoadKit.iremM (g := (mkF m 12 #[.val (.int p0), .val (.int p1), .val (.int (0 : Int32)), .unset, .unset, .unset, .unset, .unset] [(.int (3 : Int32)), (.int (p1 &&& (2147483647 : Int32)))])) X0 hx rfl (hb hby at_12) rfl (by decide) kk_) ?_
    show Go p e below s₁ (mkF m 13 #[.val (.int p0), .val (.int p1), .val (.int (0 : Int32)), .unset, .unset, .unset, .unset, .unset] [(.int ((p1 &&& (2147483647 : Int32)) % (3 : Int32)))]) _
    obtain ⟨jj, qjj⟩ : ∃ z : Int32, z = ((p1 &&& (2147483647 : Int32)) % (3 : Int32)) := ⟨_, rfl⟩
    rw [← qjj]
    show Go p e below s₁ (mkF m 13 #[.val (.int p0), .val (.int p1), .val (.int (0 : Int32)), .unset, .unset, .unset, .unset, .unset] [(.int jj)]) _
    rcases (show jj = (0 : Int32) ∨ jj = (1 : Int32) ∨ jj = (2 : Int32) from by rw [qjj]; exact own_mod3 p1) with hs2 | hs2 | hs2
    · subst hs2
      show Go p e below s₁ (mkF m 13 #[.val (.int p0), .val (.int p1), .val (.int (0 : Int32)), .unset, .unset, .unset, .unset, .unset] [(.int (0 : Int32))]) _
      refine Go.of (fun tg_ kk_ => XS.istoreN X0.here hx rfl (hb hby at_13) rfl (l' := #[.val (.int p0), .val (.int p1), .val (.int (0 : Int32)), .val (.int (0 : Int32)), .unset, .unset, .unset, .unset]) rfl kk_) ?_
      show Go p e below s₁ (mkF m 14 #[.val (.int p0), .val (.int p1), .val (.int (0 : Int32)), .val (.int (0 : Int32)), .unset, .unset, .unset, .unset] []) _
      refine Go.of (fun tg_ kk_ => XS.iloadN X0.here hx rfl (hb hby at_14) rfl kk_) ?_
      show Go p e below s₁ (mkF m 15 #[.val (.int p0), .val (.int p1), .val (.int (0 : Int32)), .val (.int (0 : Int32)), .unset, .unset, .unset, .unset] [(.int (0 : Int32))]) _
      obtain ⟨_, _, ⟨T3, L3, k3, n3⟩, -, X3, ⟨Lc3, hQ3, l3, y3, z3⟩, st3⟩ := Jvm.LawKit.callS X0 hx (y := (⟨"com/example/attestry/attestry/ExitStatusWorsePinLaw", "pick", "(I)Lcom/example/attestry/attestry/ExitStatus;"⟩ : MethodName)) hown (mvT hZ (hw _ (List.mem_of_getElem? (i := 1) rfl))) (mvT hZ (hw _ (List.mem_of_getElem? (i := 2) rfl))) (mvT hZ (hw _ (List.mem_of_getElem? (i := 3) rfl))) (mvT hZ (hw _ (List.mem_of_getElem? (i := 4) rfl))) (by decide) (backOf (W := 0) (rm1 l Z a0 hw [] (0 : Int32) aO aN aU h0 n0 Z0 SaO SaN SaU) hZ (hw _ (List.mem_of_getElem? (i := 4) rfl)) (hw _ (List.mem_of_getElem? (i := 3) rfl)) (by decide) (by decide)) (g := (mkF m 15 #[.val (.int p0), .val (.int p1), .val (.int (0 : Int32)), .val (.int (0 : Int32)), .unset, .unset, .unset, .unset] [(.int (0 : Int32))])) rfl (by rw [hml]; rfl) (argsL := [(.int (0 : Int32))]) (rest := []) (lenOf pd_0 rfl) rfl (by show 2 * 0 + _ ≤ _; exact Nat.le_of_eq rfl) (hb hby at_15) (fun _ _ => ⟨rfl, e0, (by decide : 0 + 0 ≤ _), (by decide : 0 + 0 ≤ _)⟩)
      dsimp only [Pt.U, Pt.locs, Pt.cells, Pt.slots] at X3 l3 y3 z3 st3 hQ3
      subst l3 y3 z3
      obtain ⟨hv3, N3q, e3⟩ := hQ3
      rw [pick_0] at hv3
      subst hv3
      have N3 := Fr.app N0 N3q
      refine Go.of (st3) ?_
      show Go p e below T3 (mkF m 18 #[.val (.int p0), .val (.int p1), .val (.int (0 : Int32)), .val (.int (0 : Int32)), .unset, .unset, .unset, .unset] [(.ref aO)]) _
      refine Go.of (fun tg_ kk_ => XS.astore X3.here hx rfl (hb hby at_18) rfl rfl (l' := #[.val (.int p0), .val (.int p1), .val (.int (0 : Int32)), .val (.int (0 : Int32)), .val (.ref aO), .unset, .unset, .unset]) rfl kk_) ?_
      show Go p e below T3 (mkF m 20 #[.val (.int p0), .val (.int p1), .val (.int (0 : Int32)), .val (.int (0 : Int32)), .val (.ref aO), .unset, .unset, .unset] []) _
      refine Go.of (fun tg_ kk_ => XS.iloadN X3.here hx rfl (hb hby at_20) rfl kk_) ?_
      show Go p e below T3 (mkF m 21 #[.val (.int p0), .val (.int p1), .val (.int (0 : Int32)), .val (.int (0 : Int32)), .val (.ref aO), .unset, .unset, .unset] [(.int (0 : Int32))]) _
      obtain ⟨_, _, ⟨T4, L4, k4, n4⟩, -, X4, ⟨Lc4, hQ4, l4, y4, z4⟩, st4⟩ := Jvm.LawKit.callS X3 hx (y := (⟨"com/example/attestry/attestry/ExitStatusWorsePinLaw", "pick", "(I)Lcom/example/attestry/attestry/ExitStatus;"⟩ : MethodName)) hown (mvT hZ (hw _ (List.mem_of_getElem? (i := 1) rfl))) (mvT hZ (hw _ (List.mem_of_getElem? (i := 2) rfl))) (mvT hZ (hw _ (List.mem_of_getElem? (i := 3) rfl))) (mvT hZ (hw _ (List.mem_of_getElem? (i := 4) rfl))) (by decide) (backOf (W := 0) (rm1 l Z a0 hw [] (0 : Int32) aO aN aU h0 n0 Z0 SaO SaN SaU) hZ (hw _ (List.mem_of_getElem? (i := 4) rfl)) (hw _ (List.mem_of_getElem? (i := 3) rfl)) (by decide) (by decide)) (g := (mkF m 21 #[.val (.int p0), .val (.int p1), .val (.int (0 : Int32)), .val (.int (0 : Int32)), .val (.ref aO), .unset, .unset, .unset] [(.int (0 : Int32))])) rfl (by rw [hml]; rfl) (argsL := [(.int (0 : Int32))]) (rest := []) (lenOf pd_0 rfl) rfl (by show 2 * 0 + _ ≤ _; exact Nat.le_of_eq rfl) (hb hby at_21) (fun _ _ => ⟨rfl, e3, (by decide : 0 + 0 ≤ _), (by decide : 0 + 0 ≤ _)⟩)
      dsimp only [Pt.U, Pt.locs, Pt.cells, Pt.slots] at X4 l4 y4 z4 st4 hQ4
      subst l4 y4 z4
      obtain ⟨hv4, N4q, e4⟩ := hQ4
      rw [pick_0] at hv4
      subst hv4
      have N4 := Fr.app N3 N4q
      refine Go.of (st4) ?_
      show Go p e below T4 (mkF m 24 #[.val (.int p0), .val (.int p1), .val (.int (0 : Int32)), .val (.int (0 : Int32)), .val (.ref aO), .unset, .unset, .unset] [(.ref aO)]) _
      refine Go.of (fun tg_ kk_ => XS.astore X4.here hx rfl (hb hby at_24) rfl rfl (l' := #[.val (.int p0), .val (.int p1), .val (.int (0 : Int32)), .val (.int (0 : Int32)), .val (.ref aO), .val (.ref aO), .unset, .unset]) rfl kk_) ?_
      show Go p e below T4 (mkF m 26 #[.val (.int p0), .val (.int p1), .val (.int (0 : Int32)), .val (.int (0 : Int32)), .val (.ref aO), .val (.ref aO), .unset, .unset] []) _
      refine Go.of (fun tg_ kk_ => XS.aload X4.here hx rfl (hb hby at_26) rfl rfl kk_) ?_
      show Go p e below T4 (mkF m 28 #[.val (.int p0), .val (.int p1), .val (.int (0 : Int32)), .val (.int (0 : Int32)), .val (.ref aO), .val (.ref aO), .unset, .unset] [(.ref aO)]) _
      refine Go.of (fun tg_ kk_ => XS.aload X4.here hx rfl (hb hby at_28) rfl rfl kk_) ?_
      show Go p e below T4 (mkF m 30 #[.val (.int p0), .val (.int p1), .val (.int (0 : Int32)), .val (.int (0 : Int32)), .val (.ref aO), .val (.ref aO), .unset, .unset] [(.ref aO), (.ref aO)]) _
      obtain ⟨cq5, kq5, q5a, q5b, q5c⟩ := isOf hZ e4 EaO
      obtain ⟨_, _, ⟨T5, L5, k5, n5⟩, -, X5, ⟨Lc5, hQ5, l5, y5, z5⟩, st5⟩ := X4.virtualBack hx (y := (⟨"com/example/attestry/attestry/ExitStatus", "worse", "(Lcom/example/attestry/attestry/ExitStatus;)Lcom/example/attestry/attestry/ExitStatus;"⟩ : MethodName)) (z := (⟨"com/example/attestry/attestry/ExitStatus", "worse", "(Lcom/example/attestry/attestry/ExitStatus;)Lcom/example/attestry/attestry/ExitStatus;"⟩ : MethodName)) hown (mvT hZ (hw _ (List.mem_of_getElem? (i := 8) rfl))) (mvT hZ (hw _ (List.mem_of_getElem? (i := 9) rfl))) (notFace_of_selects (args := #[]) (mvT hZ (hw _ (List.mem_of_getElem? (i := 11) rfl)))) (mvT hZ (hw _ (List.mem_of_getElem? (i := 11) rfl))) (mvT hZ (hw _ (List.mem_of_getElem? (i := 10) rfl))) (by decide) (backOf (W := 0) (rm2 l Z a0 hw [] aO aO (0 : Int32) (0 : Int32) h0 n0 Z0 FaO FaO) hZ (hw _ (List.mem_of_getElem? (i := 12) rfl)) (hw _ (List.mem_of_getElem? (i := 6) rfl)) (by decide) (by decide)) q5a q5c (g := (mkF m 30 #[.val (.int p0), .val (.int p1), .val (.int (0 : Int32)), .val (.int (0 : Int32)), .val (.ref aO), .val (.ref aO), .unset, .unset] [(.ref aO), (.ref aO)])) rfl (by rw [hml]; rfl) (Steps.refl _) (argsL := [(.ref aO)]) (rest := []) (lenOf pd_1 rfl) rfl (by show 2 * 0 + _ ≤ _; exact Nat.le_of_eq rfl) (hb hby at_30) (fun _ _ => ⟨rfl, e4, (by decide : 0 + 0 ≤ _), (by decide : 0 + 0 ≤ _)⟩)
      dsimp only [Pt.U, Pt.locs, Pt.cells, Pt.slots] at X5 l5 y5 z5 st5 hQ5
      subst l5 y5 z5
      obtain ⟨hv5, N5q, e5⟩ := hQ5
      rw [if_neg (show ¬ (0 : Int32) < (0 : Int32) by decide)] at hv5
      subst hv5
      have N5 := Fr.app N4 N5q
      refine Go.of (fun tg_ kk_ => st5.trans kk_) ?_
      show Go p e below T5 (mkF m 33 #[.val (.int p0), .val (.int p1), .val (.int (0 : Int32)), .val (.int (0 : Int32)), .val (.ref aO), .val (.ref aO), .unset, .unset] [(.ref aO)]) _
      refine Go.of (fun tg_ kk_ => XS.astore X5.here hx rfl (hb hby at_33) rfl rfl (l' := #[.val (.int p0), .val (.int p1), .val (.int (0 : Int32)), .val (.int (0 : Int32)), .val (.ref aO), .val (.ref aO), .val (.ref aO), .unset]) rfl kk_) ?_
      show Go p e below T5 (mkF m 35 #[.val (.int p0), .val (.int p1), .val (.int (0 : Int32)), .val (.int (0 : Int32)), .val (.ref aO), .val (.ref aO), .val (.ref aO), .unset] []) _
      refine Go.of (fun tg_ kk_ => XS.iloadN X5.here hx rfl (hb hby at_35) rfl kk_) ?_
      show Go p e below T5 (mkF m 36 #[.val (.int p0), .val (.int p1), .val (.int (0 : Int32)), .val (.int (0 : Int32)), .val (.ref aO), .val (.ref aO), .val (.ref aO), .unset] [(.int (0 : Int32))]) _
      refine Go.of (fun tg_ kk_ => XS.iloadN X5.here hx rfl (hb hby at_36) rfl kk_) ?_
      show Go p e below T5 (mkF m 37 #[.val (.int p0), .val (.int p1), .val (.int (0 : Int32)), .val (.int (0 : Int32)), .val (.ref aO), .val (.ref aO), .val (.ref aO), .unset] [(.int (0 : Int32)), (.int (0 : Int32))]) _
      obtain ⟨_, _, ⟨T6, L6, k6, n6⟩, -, X6, ⟨Lc6, hQ6, l6, y6, z6⟩, st6⟩ := Jvm.LawKit.callS X5 hx (y := (⟨"java/lang/Math", "max", "(II)I"⟩ : MethodName)) hown (mvT hZ (hw _ (List.mem_of_getElem? (i := 15) rfl))) (mvT hZ (hw _ (List.mem_of_getElem? (i := 16) rfl))) (mvT hZ (hw _ (List.mem_of_getElem? (i := 17) rfl))) (mvT hZ (hw _ (List.mem_of_getElem? (i := 18) rfl))) (by decide) (backOf (W := 0) (rm3 l Z a0 hw [] (0 : Int32) (0 : Int32) h0 n0 Z0) hZ (hw _ (List.mem_of_getElem? (i := 18) rfl)) (hw _ (List.mem_of_getElem? (i := 17) rfl)) (by decide) (by decide)) (g := (mkF m 37 #[.val (.int p0), .val (.int p1), .val (.int (0 : Int32)), .val (.int (0 : Int32)), .val (.ref aO), .val (.ref aO), .val (.ref aO), .unset] [(.int (0 : Int32)), (.int (0 : Int32))])) rfl (by rw [hml]; rfl) (argsL := [(.int (0 : Int32)), (.int (0 : Int32))]) (rest := []) (lenOf pd_2 rfl) rfl (by show 2 * 0 + _ ≤ _; exact Nat.le_of_eq rfl) (hb hby at_37) (fun _ _ => ⟨rfl, e5, (by decide : 0 + 0 ≤ _), (by decide : 0 + 0 ≤ _)⟩)
      dsimp only [Pt.U, Pt.locs, Pt.cells, Pt.slots] at X6 l6 y6 z6 st6 hQ6
      subst l6 y6 z6
      obtain ⟨hv6, N6q, e6⟩ := hQ6
      rw [if_neg (show ¬ (0 : Int32) < (0 : Int32) by decide)] at hv6
      subst hv6
      have N6 := Fr.app N5 N6q
      refine Go.of (st6) ?_
      show Go p e below T6 (mkF m 40 #[.val (.int p0), .val (.int p1), .val (.int (0 : Int32)), .val (.int (0 : Int32)), .val (.ref aO), .val (.ref aO), .val (.ref aO), .unset] [(.int (0 : Int32))]) _
      refine Go.of (fun tg_ kk_ => XS.istore X6.here hx rfl (hb hby at_40) rfl (l' := #[.val (.int p0), .val (.int p1), .val (.int (0 : Int32)), .val (.int (0 : Int32)), .val (.ref aO), .val (.ref aO), .val (.ref aO), .val (.int (0 : Int32))]) rfl kk_) ?_
      show Go p e below T6 (mkF m 42 #[.val (.int p0), .val (.int p1), .val (.int (0 : Int32)), .val (.int (0 : Int32)), .val (.ref aO), .val (.ref aO), .val (.ref aO), .val (.int (0 : Int32))] []) _
      refine Go.of (fun tg_ kk_ => XS.aload X6.here hx rfl (hb hby at_42) rfl rfl kk_) ?_
      show Go p e below T6 (mkF m 44 #[.val (.int p0), .val (.int p1), .val (.int (0 : Int32)), .val (.int (0 : Int32)), .val (.ref aO), .val (.ref aO), .val (.ref aO), .val (.int (0 : Int32))] [(.ref aO)]) _
      refine Go.of (fun tg_ kk_ => XS.iload X6.here hx rfl (hb hby at_44) rfl kk_) ?_
      show Go p e below T6 (mkF m 46 #[.val (.int p0), .val (.int p1), .val (.int (0 : Int32)), .val (.int (0 : Int32)), .val (.ref aO), .val (.ref aO), .val (.ref aO), .val (.int (0 : Int32))] [(.int (0 : Int32)), (.ref aO)]) _
      obtain ⟨_, _, ⟨T7, L7, k7, n7⟩, -, X7, ⟨Lc7, hQ7, l7, y7, z7⟩, st7⟩ := Jvm.LawKit.callS X6 hx (y := (⟨"com/example/attestry/attestry/ExitStatusWorsePinLaw", "pick", "(I)Lcom/example/attestry/attestry/ExitStatus;"⟩ : MethodName)) hown (mvT hZ (hw _ (List.mem_of_getElem? (i := 1) rfl))) (mvT hZ (hw _ (List.mem_of_getElem? (i := 2) rfl))) (mvT hZ (hw _ (List.mem_of_getElem? (i := 3) rfl))) (mvT hZ (hw _ (List.mem_of_getElem? (i := 4) rfl))) (by decide) (backOf (W := 1) (rm1 l Z a0 hw [] (0 : Int32) aO aN aU h0 n0 Z0 SaO SaN SaU) hZ (hw _ (List.mem_of_getElem? (i := 4) rfl)) (hw _ (List.mem_of_getElem? (i := 3) rfl)) (by decide) (by decide)) (g := (mkF m 46 #[.val (.int p0), .val (.int p1), .val (.int (0 : Int32)), .val (.int (0 : Int32)), .val (.ref aO), .val (.ref aO), .val (.ref aO), .val (.int (0 : Int32))] [(.int (0 : Int32)), (.ref aO)])) rfl (by rw [hml]; rfl) (argsL := [(.int (0 : Int32))]) (rest := [(.ref aO)]) (lenOf pd_0 rfl) rfl (by show 2 * 0 + _ ≤ _; exact Nat.le_of_eq rfl) (hb hby at_46) (fun _ _ => ⟨rfl, e6, (by decide : 0 + 0 ≤ _), (by decide : 0 + 0 ≤ _)⟩)
      dsimp only [Pt.U, Pt.locs, Pt.cells, Pt.slots] at X7 l7 y7 z7 st7 hQ7
      subst l7 y7 z7
      obtain ⟨hv7, N7q, e7⟩ := hQ7
      rw [pick_0] at hv7
      subst hv7
      have N7 := Fr.app N6 N7q
      refine Go.of (st7) ?_
      show Go p e below T7 (mkF m 49 #[.val (.int p0), .val (.int p1), .val (.int (0 : Int32)), .val (.int (0 : Int32)), .val (.ref aO), .val (.ref aO), .val (.ref aO), .val (.int (0 : Int32))] [(.ref aO), (.ref aO)]) _
      refine Go.of (fun tg_ kk_ => Jvm.RoadKit.acmp (g := (mkF m 49 #[.val (.int p0), .val (.int p1), .val (.int (0 : Int32)), .val (.int (0 : Int32)), .val (.ref aO), .val (.ref aO), .val (.ref aO), .val (.int (0 : Int32))] [(.ref aO), (.ref aO)])) X7 hx rfl rfl rfl (pc0 := 49) (pc' := 52) (same := true) rfl (hb hby at_49) rfl (decide_eq_true rfl) (by decide) (by decide) kk_) ?_
      show Go p e below T7 (mkF m 52 #[.val (.int p0), .val (.int p1), .val (.int (0 : Int32)), .val (.int (0 : Int32)), .val (.ref aO), .val (.ref aO), .val (.ref aO), .val (.int (0 : Int32))] []) _
      refine Go.of (fun tg_ kk_ => XS.aload X7.here hx rfl (hb hby at_52) rfl rfl kk_) ?_
      show Go p e below T7 (mkF m 54 #[.val (.int p0), .val (.int p1), .val (.int (0 : Int32)), .val (.int (0 : Int32)), .val (.ref aO), .val (.ref aO), .val (.ref aO), .val (.int (0 : Int32))] [(.ref aO)]) _
      obtain ⟨cq8, kq8, q8a, q8b, q8c⟩ := isOf hZ e7 EaO
      obtain ⟨_, _, ⟨T8, L8, k8, n8⟩, -, X8, ⟨Lc8, hQ8, l8, y8, z8⟩, st8⟩ := X7.virtualBack hx (y := (⟨"com/example/attestry/attestry/ExitStatus", "code", "()I"⟩ : MethodName)) (z := (⟨"com/example/attestry/attestry/ExitStatus", "code", "()I"⟩ : MethodName)) hown (mvT hZ (hw _ (List.mem_of_getElem? (i := 19) rfl))) (mvT hZ (hw _ (List.mem_of_getElem? (i := 20) rfl))) (notFace_of_selects (args := #[]) (mvT hZ (hw _ (List.mem_of_getElem? (i := 22) rfl)))) (mvT hZ (hw _ (List.mem_of_getElem? (i := 22) rfl))) (mvT hZ (hw _ (List.mem_of_getElem? (i := 21) rfl))) (by decide) (backOf (W := 0) (rm4 l Z a0 hw [] aO (0 : Int32) h0 n0 Z0 FaO) hZ (hw _ (List.mem_of_getElem? (i := 23) rfl)) (hw _ (List.mem_of_getElem? (i := 6) rfl)) (by decide) (by decide)) q8a q8c (g := (mkF m 54 #[.val (.int p0), .val (.int p1), .val (.int (0 : Int32)), .val (.int (0 : Int32)), .val (.ref aO), .val (.ref aO), .val (.ref aO), .val (.int (0 : Int32))] [(.ref aO)])) rfl (by rw [hml]; rfl) (Steps.refl _) (argsL := []) (rest := []) (lenOf pd_3 rfl) rfl (by show 2 * 0 + _ ≤ _; exact Nat.le_of_eq rfl) (hb hby at_54) (fun _ _ => ⟨rfl, e7, (by decide : 0 + 0 ≤ _), (by decide : 0 + 0 ≤ _)⟩)
      dsimp only [Pt.U, Pt.locs, Pt.cells, Pt.slots] at X8 l8 y8 z8 st8 hQ8
      subst l8 y8 z8
      obtain ⟨rfl, N8q, e8⟩ := hQ8
      have N8 := Fr.app N7 N8q
      refine Go.of (fun tg_ kk_ => st8.trans kk_) ?_
      show Go p e below T8 (mkF m 57 #[.val (.int p0), .val (.int p1), .val (.int (0 : Int32)), .val (.int (0 : Int32)), .val (.ref aO), .val (.ref aO), .val (.ref aO), .val (.int (0 : Int32))] [(.int (0 : Int32))]) _
      refine Go.of (fun tg_ kk_ => XS.iload X8.here hx rfl (hb hby at_57) rfl kk_) ?_
      show Go p e below T8 (mkF m 59 #[.val (.int p0), .val (.int p1), .val (.int (0 : Int32)), .val (.int (0 : Int32)), .val (.ref aO), .val (.ref aO), .val (.ref aO), .val (.int (0 : Int32))] [(.int (0 : Int32)), (.int (0 : Int32))]) _
      refine Go.of (fun tg_ kk_ => XS.icmpNo X8.here hx rfl (hb hby at_59) rfl (teq (show (0 : Int32) = (0 : Int32) by decide)).2 kk_) ?_
      show Go p e below T8 (mkF m 62 #[.val (.int p0), .val (.int p1), .val (.int (0 : Int32)), .val (.int (0 : Int32)), .val (.ref aO), .val (.ref aO), .val (.ref aO), .val (.int (0 : Int32))] []) _
      refine Go.of (fun tg_ kk_ => XS.iconst X8.here hx rfl (hb hby at_62) kk_) ?_
      show Go p e below T8 (mkF m 63 #[.val (.int p0), .val (.int p1), .val (.int (0 : Int32)), .val (.int (0 : Int32)), .val (.ref aO), .val (.ref aO), .val (.ref aO), .val (.int (0 : Int32))] [(.int (1 : Int32))]) _
      refine Go.of (fun tg_ kk_ => XS.goto X8.here hx rfl (pc0 := 63) (pc' := 67) rfl (hb hby at_63) (by decide) (by decide) kk_) ?_
      show Go p e below T8 (mkF m 67 #[.val (.int p0), .val (.int p1), .val (.int (0 : Int32)), .val (.int (0 : Int32)), .val (.ref aO), .val (.ref aO), .val (.ref aO), .val (.int (0 : Int32))] [(.int (1 : Int32))]) _
      obtain ⟨fs, hr, hrun, hended, hW, hsame⟩ := X8.leave (v := some (.int (1 : Int32))) (fun h => by rw [Bd.returns] at h; cases h)
      refine ⟨_, _, ?_, hrun, hended, _, _, rfl, ?_, ⟨_, rfl⟩, hW, hsame.mono (by decide) (by decide)⟩
      · exact retN X8 hx (t := .boolean) Bd.returns (by simp) (hb hby at_67) hr
      · show Q0 Z p0 p1 aO aN aU h0 n0 _ T8.heap _
        rw [e8]
        exact ⟨rfl, N8⟩
    · subst hs2
      show Go p e below s₁ (mkF m 13 #[.val (.int p0), .val (.int p1), .val (.int (0 : Int32)), .unset, .unset, .unset, .unset, .unset] [(.int (1 : Int32))]) _
      refine Go.of (fun tg_ kk_ => XS.istoreN X0.here hx rfl (hb hby at_13) rfl (l' := #[.val (.int p0), .val (.int p1), .val (.int (0 : Int32)), .val (.int (1 : Int32)), .unset, .unset, .unset, .unset]) rfl kk_) ?_
      show Go p e below s₁ (mkF m 14 #[.val (.int p0), .val (.int p1), .val (.int (0 : Int32)), .val (.int (1 : Int32)), .unset, .unset, .unset, .unset] []) _
      refine Go.of (fun tg_ kk_ => XS.iloadN X0.here hx rfl (hb hby at_14) rfl kk_) ?_
      show Go p e below s₁ (mkF m 15 #[.val (.int p0), .val (.int p1), .val (.int (0 : Int32)), .val (.int (1 : Int32)), .unset, .unset, .unset, .unset] [(.int (0 : Int32))]) _
      obtain ⟨_, _, ⟨T9, L9, k9, n9⟩, -, X9, ⟨Lc9, hQ9, l9, y9, z9⟩, st9⟩ := Jvm.LawKit.callS X0 hx (y := (⟨"com/example/attestry/attestry/ExitStatusWorsePinLaw", "pick", "(I)Lcom/example/attestry/attestry/ExitStatus;"⟩ : MethodName)) hown (mvT hZ (hw _ (List.mem_of_getElem? (i := 1) rfl))) (mvT hZ (hw _ (List.mem_of_getElem? (i := 2) rfl))) (mvT hZ (hw _ (List.mem_of_getElem? (i := 3) rfl))) (mvT hZ (hw _ (List.mem_of_getElem? (i := 4) rfl))) (by decide) (backOf (W := 0) (rm1 l Z a0 hw [] (0 : Int32) aO aN aU h0 n0 Z0 SaO SaN SaU) hZ (hw _ (List.mem_of_getElem? (i := 4) rfl)) (hw _ (List.mem_of_getElem? (i := 3) rfl)) (by decide) (by decide)) (g := (mkF m 15 #[.val (.int p0), .val (.int p1), .val (.int (0 : Int32)), .val (.int (1 : Int32)), .unset, .unset, .unset, .unset] [(.int (0 : Int32))])) rfl (by rw [hml]; rfl) (argsL := [(.int (0 : Int32))]) (rest := []) (lenOf pd_0 rfl) rfl (by show 2 * 0 + _ ≤ _; exact Nat.le_of_eq rfl) (hb hby at_15) (fun _ _ => ⟨rfl, e0, (by decide : 0 + 0 ≤ _), (by decide : 0 + 0 ≤ _)⟩)
      dsimp only [Pt.U, Pt.locs, Pt.cells, Pt.slots] at X9 l9 y9 z9 st9 hQ9
      subst l9 y9 z9
      obtain ⟨hv9, N9q, e9⟩ := hQ9
      rw [pick_0] at hv9
      subst hv9
      have N9 := Fr.app N0 N9q
      refine Go.of (st9) ?_
      show Go p e below T9 (mkF m 18 #[.val (.int p0), .val (.int p1), .val (.int (0 : Int32)), .val (.int (1 : Int32)), .unset, .unset, .unset, .unset] [(.ref aO)]) _
      refine Go.of (fun tg_ kk_ => XS.astore X9.here hx rfl (hb hby at_18) rfl rfl (l' := #[.val (.int p0), .val (.int p1), .val (.int (0 : Int32)), .val (.int (1 : Int32)), .val (.ref aO), .unset, .unset, .unset]) rfl kk_) ?_
      show Go p e below T9 (mkF m 20 #[.val (.int p0), .val (.int p1), .val (.int (0 : Int32)), .val (.int (1 : Int32)), .val (.ref aO), .unset, .unset, .unset] []) _
      refine Go.of (fun tg_ kk_ => XS.iloadN X9.here hx rfl (hb hby at_20) rfl kk_) ?_
      show Go p e below T9 (mkF m 21 #[.val (.int p0), .val (.int p1), .val (.int (0 : Int32)), .val (.int (1 : Int32)), .val (.ref aO), .unset, .unset, .unset] [(.int (1 : Int32))]) _
      obtain ⟨_, _, ⟨T10, L10, k10, n10⟩, -, X10, ⟨Lc10, hQ10, l10, y10, z10⟩, st10⟩ := Jvm.LawKit.callS X9 hx (y := (⟨"com/example/attestry/attestry/ExitStatusWorsePinLaw", "pick", "(I)Lcom/example/attestry/attestry/ExitStatus;"⟩ : MethodName)) hown (mvT hZ (hw _ (List.mem_of_getElem? (i := 1) rfl))) (mvT hZ (hw _ (List.mem_of_getElem? (i := 2) rfl))) (mvT hZ (hw _ (List.mem_of_getElem? (i := 3) rfl))) (mvT hZ (hw _ (List.mem_of_getElem? (i := 4) rfl))) (by decide) (backOf (W := 0) (rm1 l Z a0 hw [] (1 : Int32) aO aN aU h0 n0 Z0 SaO SaN SaU) hZ (hw _ (List.mem_of_getElem? (i := 4) rfl)) (hw _ (List.mem_of_getElem? (i := 3) rfl)) (by decide) (by decide)) (g := (mkF m 21 #[.val (.int p0), .val (.int p1), .val (.int (0 : Int32)), .val (.int (1 : Int32)), .val (.ref aO), .unset, .unset, .unset] [(.int (1 : Int32))])) rfl (by rw [hml]; rfl) (argsL := [(.int (1 : Int32))]) (rest := []) (lenOf pd_0 rfl) rfl (by show 2 * 0 + _ ≤ _; exact Nat.le_of_eq rfl) (hb hby at_21) (fun _ _ => ⟨rfl, e9, (by decide : 0 + 0 ≤ _), (by decide : 0 + 0 ≤ _)⟩)
      dsimp only [Pt.U, Pt.locs, Pt.cells, Pt.slots] at X10 l10 y10 z10 st10 hQ10
      subst l10 y10 z10
      obtain ⟨hv10, N10q, e10⟩ := hQ10
      rw [pick_1] at hv10
      subst hv10
      have N10 := Fr.app N9 N10q
      refine Go.of (st10) ?_
      show Go p e below T10 (mkF m 24 #[.val (.int p0), .val (.int p1), .val (.int (0 : Int32)), .val (.int (1 : Int32)), .val (.ref aO), .unset, .unset, .unset] [(.ref aN)]) _
      refine Go.of (fun tg_ kk_ => XS.astore X10.here hx rfl (hb hby at_24) rfl rfl (l' := #[.val (.int p0), .val (.int p1), .val (.int (0 : Int32)), .val (.int (1 : Int32)), .val (.ref aO), .val (.ref aN), .unset, .unset]) rfl kk_) ?_
      show Go p e below T10 (mkF m 26 #[.val (.int p0), .val (.int p1), .val (.int (0 : Int32)), .val (.int (1 : Int32)), .val (.ref aO), .val (.ref aN), .unset, .unset] []) _
      refine Go.of (fun tg_ kk_ => XS.aload X10.here hx rfl (hb hby at_26) rfl rfl kk_) ?_
      show Go p e below T10 (mkF m 28 #[.val (.int p0), .val (.int p1), .val (.int (0 : Int32)), .val (.int (1 : Int32)), .val (.ref aO), .val (.ref aN), .unset, .unset] [(.ref aO)]) _
      refine Go.of (fun tg_ kk_ => XS.aload X10.here hx rfl (hb hby at_28) rfl rfl kk_) ?_
      show Go p e below T10 (mkF m 30 #[.val (.int p0), .val (.int p1), .val (.int (0 : Int32)), .val (.int (1 : Int32)), .val (.ref aO), .val (.ref aN), .unset, .unset] [(.ref aN), (.ref aO)]) _
      obtain ⟨cq11, kq11, q11a, q11b, q11c⟩ := isOf hZ e10 EaO
      obtain ⟨_, _, ⟨T11, L11, k11, n11⟩, -, X11, ⟨Lc11, hQ11, l11, y11, z11⟩, st11⟩ := X10.virtualBack hx (y := (⟨"com/example/attestry/attestry/ExitStatus", "worse", "(Lcom/example/attestry/attestry/ExitStatus;)Lcom/example/attestry/attestry/ExitStatus;"⟩ : MethodName)) (z := (⟨"com/example/attestry/attestry/ExitStatus", "worse", "(Lcom/example/attestry/attestry/ExitStatus;)Lcom/example/attestry/attestry/ExitStatus;"⟩ : MethodName)) hown (mvT hZ (hw _ (List.mem_of_getElem? (i := 8) rfl))) (mvT hZ (hw _ (List.mem_of_getElem? (i := 9) rfl))) (notFace_of_selects (args := #[]) (mvT hZ (hw _ (List.mem_of_getElem? (i := 11) rfl)))) (mvT hZ (hw _ (List.mem_of_getElem? (i := 11) rfl))) (mvT hZ (hw _ (List.mem_of_getElem? (i := 10) rfl))) (by decide) (backOf (W := 0) (rm2 l Z a0 hw [] aO aN (0 : Int32) (1 : Int32) h0 n0 Z0 FaO FaN) hZ (hw _ (List.mem_of_getElem? (i := 12) rfl)) (hw _ (List.mem_of_getElem? (i := 6) rfl)) (by decide) (by decide)) q11a q11c (g := (mkF m 30 #[.val (.int p0), .val (.int p1), .val (.int (0 : Int32)), .val (.int (1 : Int32)), .val (.ref aO), .val (.ref aN), .unset, .unset] [(.ref aN), (.ref aO)])) rfl (by rw [hml]; rfl) (Steps.refl _) (argsL := [(.ref aN)]) (rest := []) (lenOf pd_1 rfl) rfl (by show 2 * 0 + _ ≤ _; exact Nat.le_of_eq rfl) (hb hby at_30) (fun _ _ => ⟨rfl, e10, (by decide : 0 + 0 ≤ _), (by decide : 0 + 0 ≤ _)⟩)
      dsimp only [Pt.U, Pt.locs, Pt.cells, Pt.slots] at X11 l11 y11 z11 st11 hQ11
      subst l11 y11 z11
      obtain ⟨hv11, N11q, e11⟩ := hQ11
      rw [if_pos (show (0 : Int32) < (1 : Int32) by decide)] at hv11
      subst hv11
      have N11 := Fr.app N10 N11q
      refine Go.of (fun tg_ kk_ => st11.trans kk_) ?_
      show Go p e below T11 (mkF m 33 #[.val (.int p0), .val (.int p1), .val (.int (0 : Int32)), .val (.int (1 : Int32)), .val (.ref aO), .val (.ref aN), .unset, .unset] [(.ref aN)]) _
      refine Go.of (fun tg_ kk_ => XS.astore X11.here hx rfl (hb hby at_33) rfl rfl (l' := #[.val (.int p0), .val (.int p1), .val (.int (0 : Int32)), .val (.int (1 : Int32)), .val (.ref aO), .val (.ref aN), .val (.ref aN), .unset]) rfl kk_) ?_
      show Go p e below T11 (mkF m 35 #[.val (.int p0), .val (.int p1), .val (.int (0 : Int32)), .val (.int (1 : Int32)), .val (.ref aO), .val (.ref aN), .val (.ref aN), .unset] []) _
      refine Go.of (fun tg_ kk_ => XS.iloadN X11.here hx rfl (hb hby at_35) rfl kk_) ?_
      show Go p e below T11 (mkF m 36 #[.val (.int p0), .val (.int p1), .val (.int (0 : Int32)), .val (.int (1 : Int32)), .val (.ref aO), .val (.ref aN), .val (.ref aN), .unset] [(.int (0 : Int32))]) _
      refine Go.of (fun tg_ kk_ => XS.iloadN X11.here hx rfl (hb hby at_36) rfl kk_) ?_
      show Go p e below T11 (mkF m 37 #[.val (.int p0), .val (.int p1), .val (.int (0 : Int32)), .val (.int (1 : Int32)), .val (.ref aO), .val (.ref aN), .val (.ref aN), .unset] [(.int (1 : Int32)), (.int (0 : Int32))]) _
      obtain ⟨_, _, ⟨T12, L12, k12, n12⟩, -, X12, ⟨Lc12, hQ12, l12, y12, z12⟩, st12⟩ := Jvm.LawKit.callS X11 hx (y := (⟨"java/lang/Math", "max", "(II)I"⟩ : MethodName)) hown (mvT hZ (hw _ (List.mem_of_getElem? (i := 15) rfl))) (mvT hZ (hw _ (List.mem_of_getElem? (i := 16) rfl))) (mvT hZ (hw _ (List.mem_of_getElem? (i := 17) rfl))) (mvT hZ (hw _ (List.mem_of_getElem? (i := 18) rfl))) (by decide) (backOf (W := 0) (rm3 l Z a0 hw [] (0 : Int32) (1 : Int32) h0 n0 Z0) hZ (hw _ (List.mem_of_getElem? (i := 18) rfl)) (hw _ (List.mem_of_getElem? (i := 17) rfl)) (by decide) (by decide)) (g := (mkF m 37 #[.val (.int p0), .val (.int p1), .val (.int (0 : Int32)), .val (.int (1 : Int32)), .val (.ref aO), .val (.ref aN), .val (.ref aN), .unset] [(.int (1 : Int32)), (.int (0 : Int32))])) rfl (by rw [hml]; rfl) (argsL := [(.int (0 : Int32)), (.int (1 : Int32))]) (rest := []) (lenOf pd_2 rfl) rfl (by show 2 * 0 + _ ≤ _; exact Nat.le_of_eq rfl) (hb hby at_37) (fun _ _ => ⟨rfl, e11, (by decide : 0 + 0 ≤ _), (by decide : 0 + 0 ≤ _)⟩)
      dsimp only [Pt.U, Pt.locs, Pt.cells, Pt.slots] at X12 l12 y12 z12 st12 hQ12
      subst l12 y12 z12
      obtain ⟨hv12, N12q, e12⟩ := hQ12
      rw [if_pos (show (0 : Int32) < (1 : Int32) by decide)] at hv12
      subst hv12
      have N12 := Fr.app N11 N12q
      refine Go.of (st12) ?_
      show Go p e below T12 (mkF m 40 #[.val (.int p0), .val (.int p1), .val (.int (0 : Int32)), .val (.int (1 : Int32)), .val (.ref aO), .val (.ref aN), .val (.ref aN), .unset] [(.int (1 : Int32))]) _
      refine Go.of (fun tg_ kk_ => XS.istore X12.here hx rfl (hb hby at_40) rfl (l' := #[.val (.int p0), .val (.int p1), .val (.int (0 : Int32)), .val (.int (1 : Int32)), .val (.ref aO), .val (.ref aN), .val (.ref aN), .val (.int (1 : Int32))]) rfl kk_) ?_
      show Go p e below T12 (mkF m 42 #[.val (.int p0), .val (.int p1), .val (.int (0 : Int32)), .val (.int (1 : Int32)), .val (.ref aO), .val (.ref aN), .val (.ref aN), .val (.int (1 : Int32))] []) _
      refine Go.of (fun tg_ kk_ => XS.aload X12.here hx rfl (hb hby at_42) rfl rfl kk_) ?_
      show Go p e below T12 (mkF m 44 #[.val (.int p0), .val (.int p1), .val (.int (0 : Int32)), .val (.int (1 : Int32)), .val (.ref aO), .val (.ref aN), .val (.ref aN), .val (.int (1 : Int32))] [(.ref aN)]) _
      refine Go.of (fun tg_ kk_ => XS.iload X12.here hx rfl (hb hby at_44) rfl kk_) ?_
      show Go p e below T12 (mkF m 46 #[.val (.int p0), .val (.int p1), .val (.int (0 : Int32)), .val (.int (1 : Int32)), .val (.ref aO), .val (.ref aN), .val (.ref aN), .val (.int (1 : Int32))] [(.int (1 : Int32)), (.ref aN)]) _
      obtain ⟨_, _, ⟨T13, L13, k13, n13⟩, -, X13, ⟨Lc13, hQ13, l13, y13, z13⟩, st13⟩ := Jvm.LawKit.callS X12 hx (y := (⟨"com/example/attestry/attestry/ExitStatusWorsePinLaw", "pick", "(I)Lcom/example/attestry/attestry/ExitStatus;"⟩ : MethodName)) hown (mvT hZ (hw _ (List.mem_of_getElem? (i := 1) rfl))) (mvT hZ (hw _ (List.mem_of_getElem? (i := 2) rfl))) (mvT hZ (hw _ (List.mem_of_getElem? (i := 3) rfl))) (mvT hZ (hw _ (List.mem_of_getElem? (i := 4) rfl))) (by decide) (backOf (W := 1) (rm1 l Z a0 hw [] (1 : Int32) aO aN aU h0 n0 Z0 SaO SaN SaU) hZ (hw _ (List.mem_of_getElem? (i := 4) rfl)) (hw _ (List.mem_of_getElem? (i := 3) rfl)) (by decide) (by decide)) (g := (mkF m 46 #[.val (.int p0), .val (.int p1), .val (.int (0 : Int32)), .val (.int (1 : Int32)), .val (.ref aO), .val (.ref aN), .val (.ref aN), .val (.int (1 : Int32))] [(.int (1 : Int32)), (.ref aN)])) rfl (by rw [hml]; rfl) (argsL := [(.int (1 : Int32))]) (rest := [(.ref aN)]) (lenOf pd_0 rfl) rfl (by show 2 * 0 + _ ≤ _; exact Nat.le_of_eq rfl) (hb hby at_46) (fun _ _ => ⟨rfl, e12, (by decide : 0 + 0 ≤ _), (by decide : 0 + 0 ≤ _)⟩)
      dsimp only [Pt.U, Pt.locs, Pt.cells, Pt.slots] at X13 l13 y13 z13 st13 hQ13
      subst l13 y13 z13
      obtain ⟨hv13, N13q, e13⟩ := hQ13
      rw [pick_1] at hv13
      subst hv13
      have N13 := Fr.app N12 N13q
      refine Go.of (st13) ?_
      show Go p e below T13 (mkF m 49 #[.val (.int p0), .val (.int p1), .val (.int (0 : Int32)), .val (.int (1 : Int32)), .val (.ref aO), .val (.ref aN), .val (.ref aN), .val (.int (1 : Int32))] [(.ref aN), (.ref aN)]) _
      refine Go.of (fun tg_ kk_ => Jvm.RoadKit.acmp (g := (mkF m 49 #[.val (.int p0), .val (.int p1), .val (.int (0 : Int32)), .val (.int (1 : Int32)), .val (.ref aO), .val (.ref aN), .val (.ref aN), .val (.int (1 : Int32))] [(.ref aN), (.ref aN)])) X13 hx rfl rfl rfl (pc0 := 49) (pc' := 52) (same := true) rfl (hb hby at_49) rfl (decide_eq_true rfl) (by decide) (by decide) kk_) ?_
      show Go p e below T13 (mkF m 52 #[.val (.int p0), .val (.int p1), .val (.int (0 : Int32)), .val (.int (1 : Int32)), .val (.ref aO), .val (.ref aN), .val (.ref aN), .val (.int (1 : Int32))] []) _
      refine Go.of (fun tg_ kk_ => XS.aload X13.here hx rfl (hb hby at_52) rfl rfl kk_) ?_
      show Go p e below T13 (mkF m 54 #[.val (.int p0), .val (.int p1), .val (.int (0 : Int32)), .val (.int (1 : Int32)), .val (.ref aO), .val (.ref aN), .val (.ref aN), .val (.int (1 : Int32))] [(.ref aN)]) _
      obtain ⟨cq14, kq14, q14a, q14b, q14c⟩ := isOf hZ e13 EaN
      obtain ⟨_, _, ⟨T14, L14, k14, n14⟩, -, X14, ⟨Lc14, hQ14, l14, y14, z14⟩, st14⟩ := X13.virtualBack hx (y := (⟨"com/example/attestry/attestry/ExitStatus", "code", "()I"⟩ : MethodName)) (z := (⟨"com/example/attestry/attestry/ExitStatus", "code", "()I"⟩ : MethodName)) hown (mvT hZ (hw _ (List.mem_of_getElem? (i := 19) rfl))) (mvT hZ (hw _ (List.mem_of_getElem? (i := 20) rfl))) (notFace_of_selects (args := #[]) (mvT hZ (hw _ (List.mem_of_getElem? (i := 22) rfl)))) (mvT hZ (hw _ (List.mem_of_getElem? (i := 22) rfl))) (mvT hZ (hw _ (List.mem_of_getElem? (i := 21) rfl))) (by decide) (backOf (W := 0) (rm4 l Z a0 hw [] aN (1 : Int32) h0 n0 Z0 FaN) hZ (hw _ (List.mem_of_getElem? (i := 23) rfl)) (hw _ (List.mem_of_getElem? (i := 6) rfl)) (by decide) (by decide)) q14a q14c (g := (mkF m 54 #[.val (.int p0), .val (.int p1), .val (.int (0 : Int32)), .val (.int (1 : Int32)), .val (.ref aO), .val (.ref aN), .val (.ref aN), .val (.int (1 : Int32))] [(.ref aN)])) rfl (by rw [hml]; rfl) (Steps.refl _) (argsL := []) (rest := []) (lenOf pd_3 rfl) rfl (by show 2 * 0 + _ ≤ _; exact Nat.le_of_eq rfl) (hb hby at_54) (fun _ _ => ⟨rfl, e13, (by decide : 0 + 0 ≤ _), (by decide : 0 + 0 ≤ _)⟩)
      dsimp only [Pt.U, Pt.locs, Pt.cells, Pt.slots] at X14 l14 y14 z14 st14 hQ14
      subst l14 y14 z14
      obtain ⟨rfl, N14q, e14⟩ := hQ14
      have N14 := Fr.app N13 N14q
      refine Go.of (fun tg_ kk_ => st14.trans kk_) ?_
      show Go p e below T14 (mkF m 57 #[.val (.int p0), .val (.int p1), .val (.int (0 : Int32)), .val (.int (1 : Int32)), .val (.ref aO), .val (.ref aN), .val (.ref aN), .val (.int (1 : Int32))] [(.int (1 : Int32))]) _
      refine Go.of (fun tg_ kk_ => XS.iload X14.here hx rfl (hb hby at_57) rfl kk_) ?_
      show Go p e below T14 (mkF m 59 #[.val (.int p0), .val (.int p1), .val (.int (0 : Int32)), .val (.int (1 : Int32)), .val (.ref aO), .val (.ref aN), .val (.ref aN), .val (.int (1 : Int32))] [(.int (1 : Int32)), (.int (1 : Int32))]) _
      refine Go.of (fun tg_ kk_ => XS.icmpNo X14.here hx rfl (hb hby at_59) rfl (teq (show (1 : Int32) = (1 : Int32) by decide)).2 kk_) ?_
      show Go p e below T14 (mkF m 62 #[.val (.int p0), .val (.int p1), .val (.int (0 : Int32)), .val (.int (1 : Int32)), .val (.ref aO), .val (.ref aN), .val (.ref aN), .val (.int (1 : Int32))] []) _
      refine Go.of (fun tg_ kk_ => XS.iconst X14.here hx rfl (hb hby at_62) kk_) ?_
      show Go p e below T14 (mkF m 63 #[.val (.int p0), .val (.int p1), .val (.int (0 : Int32)), .val (.int (1 : Int32)), .val (.ref aO), .val (.ref aN), .val (.ref aN), .val (.int (1 : Int32))] [(.int (1 : Int32))]) _
      refine Go.of (fun tg_ kk_ => XS.goto X14.here hx rfl (pc0 := 63) (pc' := 67) rfl (hb hby at_63) (by decide) (by decide) kk_) ?_
      show Go p e below T14 (mkF m 67 #[.val (.int p0), .val (.int p1), .val (.int (0 : Int32)), .val (.int (1 : Int32)), .val (.ref aO), .val (.ref aN), .val (.ref aN), .val (.int (1 : Int32))] [(.int (1 : Int32))]) _
      obtain ⟨fs, hr, hrun, hended, hW, hsame⟩ := X14.leave (v := some (.int (1 : Int32))) (fun h => by rw [Bd.returns] at h; cases h)
      refine ⟨_, _, ?_, hrun, hended, _, _, rfl, ?_, ⟨_, rfl⟩, hW, hsame.mono (by decide) (by decide)⟩
      · exact retN X14 hx (t := .boolean) Bd.returns (by simp) (hb hby at_67) hr
      · show Q0 Z p0 p1 aO aN aU h0 n0 _ T14.heap _
        rw [e14]
        exact ⟨rfl, N14⟩
    · subst hs2
      show Go p e below s₁ (mkF m 13 #[.val (.int p0), .val (.int p1), .val (.int (0 : Int32)), .unset, .unset, .unset, .unset, .unset] [(.int (2 : Int32))]) _
      refine Go.of (fun tg_ kk_ => XS.istoreN X0.here hx rfl (hb hby at_13) rfl (l' := #[.val (.int p0), .val (.int p1), .val (.int (0 : Int32)), .val (.int (2 : Int32)), .unset, .unset, .unset, .unset]) rfl kk_) ?_
      show Go p e below s₁ (mkF m 14 #[.val (.int p0), .val (.int p1), .val (.int (0 : Int32)), .val (.int (2 : Int32)), .unset, .unset, .unset, .unset] []) _
      refine Go.of (fun tg_ kk_ => XS.iloadN X0.here hx rfl (hb hby at_14) rfl kk_) ?_
      show Go p e below s₁ (mkF m 15 #[.val (.int p0), .val (.int p1), .val (.int (0 : Int32)), .val (.int (2 : Int32)), .unset, .unset, .unset, .unset] [(.int (0 : Int32))]) _
      obtain ⟨_, _, ⟨T15, L15, k15, n15⟩, -, X15, ⟨Lc15, hQ15, l15, y15, z15⟩, st15⟩ := Jvm.LawKit.callS X0 hx (y := (⟨"com/example/attestry/attestry/ExitStatusWorsePinLaw", "pick", "(I)Lcom/example/attestry/attestry/ExitStatus;"⟩ : MethodName)) hown (mvT hZ (hw _ (List.mem_of_getElem? (i := 1) rfl))) (mvT hZ (hw _ (List.mem_of_getElem? (i := 2) rfl))) (mvT hZ (hw _ (List.mem_of_getElem? (i := 3) rfl))) (mvT hZ (hw _ (List.mem_of_getElem? (i := 4) rfl))) (by decide) (backOf (W := 0) (rm1 l Z a0 hw [] (0 : Int32) aO aN aU h0 n0 Z0 SaO SaN SaU) hZ (hw _ (List.mem_of_getElem? (i := 4) rfl)) (hw _ (List.mem_of_getElem? (i := 3) rfl)) (by decide) (by decide)) (g := (mkF m 15 #[.val (.int p0), .val (.int p1), .val (.int (0 : Int32)), .val (.int (2 : Int32)), .unset, .unset, .unset, .unset] [(.int (0 : Int32))])) rfl (by rw [hml]; rfl) (argsL := [(.int (0 : Int32))]) (rest := []) (lenOf pd_0 rfl) rfl (by show 2 * 0 + _ ≤ _; exact Nat.le_of_eq rfl) (hb hby at_15) (fun _ _ => ⟨rfl, e0, (by decide : 0 + 0 ≤ _), (by decide : 0 + 0 ≤ _)⟩)
      dsimp only [Pt.U, Pt.locs, Pt.cells, Pt.slots] at X15 l15 y15 z15 st15 hQ15
      subst l15 y15 z15
      obtain ⟨hv15, N15q, e15⟩ := hQ15
      rw [pick_0] at hv15
      subst hv15
      have N15 := Fr.app N0 N15q
      refine Go.of (st15) ?_
      show Go p e below T15 (mkF m 18 #[.val (.int p0), .val (.int p1), .val (.int (0 : Int32)), .val (.int (2 : Int32)), .unset, .unset, .unset, .unset] [(.ref aO)]) _
      refine Go.of (fun tg_ kk_ => XS.astore X15.here hx rfl (hb hby at_18) rfl rfl (l' := #[.val (.int p0), .val (.int p1), .val (.int (0 : Int32)), .val (.int (2 : Int32)), .val (.ref aO), .unset, .unset, .unset]) rfl kk_) ?_
      show Go p e below T15 (mkF m 20 #[.val (.int p0), .val (.int p1), .val (.int (0 : Int32)), .val (.int (2 : Int32)), .val (.ref aO), .unset, .unset, .unset] []) _
      refine Go.of (fun tg_ kk_ => XS.iloadN X15.here hx rfl (hb hby at_20) rfl kk_) ?_
      show Go p e below T15 (mkF m 21 #[.val (.int p0), .val (.int p1), .val (.int (0 : Int32)), .val (.int (2 : Int32)), .val (.ref aO), .unset, .unset, .unset] [(.int (2 : Int32))]) _
      obtain ⟨_, _, ⟨T16, L16, k16, n16⟩, -, X16, ⟨Lc16, hQ16, l16, y16, z16⟩, st16⟩ := Jvm.LawKit.callS X15 hx (y := (⟨"com/example/attestry/attestry/ExitStatusWorsePinLaw", "pick", "(I)Lcom/example/attestry/attestry/ExitStatus;"⟩ : MethodName)) hown (mvT hZ (hw _ (List.mem_of_getElem? (i := 1) rfl))) (mvT hZ (hw _ (List.mem_of_getElem? (i := 2) rfl))) (mvT hZ (hw _ (List.mem_of_getElem? (i := 3) rfl))) (mvT hZ (hw _ (List.mem_of_getElem? (i := 4) rfl))) (by decide) (backOf (W := 0) (rm1 l Z a0 hw [] (2 : Int32) aO aN aU h0 n0 Z0 SaO SaN SaU) hZ (hw _ (List.mem_of_getElem? (i := 4) rfl)) (hw _ (List.mem_of_getElem? (i := 3) rfl)) (by decide) (by decide)) (g := (mkF m 21 #[.val (.int p0), .val (.int p1), .val (.int (0 : Int32)), .val (.int (2 : Int32)), .val (.ref aO), .unset, .unset, .unset] [(.int (2 : Int32))])) rfl (by rw [hml]; rfl) (argsL := [(.int (2 : Int32))]) (rest := []) (lenOf pd_0 rfl) rfl (by show 2 * 0 + _ ≤ _; exact Nat.le_of_eq rfl) (hb hby at_21) (fun _ _ => ⟨rfl, e15, (by decide : 0 + 0 ≤ _), (by decide : 0 + 0 ≤ _)⟩)
      dsimp only [Pt.U, Pt.locs, Pt.cells, Pt.slots] at X16 l16 y16 z16 st16 hQ16
      subst l16 y16 z16
      obtain ⟨hv16, N16q, e16⟩ := hQ16
      rw [pick_2] at hv16
      subst hv16
      have N16 := Fr.app N15 N16q
      refine Go.of (st16) ?_
      show Go p e below T16 (mkF m 24 #[.val (.int p0), .val (.int p1), .val (.int (0 : Int32)), .val (.int (2 : Int32)), .val (.ref aO), .unset, .unset, .unset] [(.ref aU)]) _
      refine Go.of (fun tg_ kk_ => XS.astore X16.here hx rfl (hb hby at_24) rfl rfl (l' := #[.val (.int p0), .val (.int p1), .val (.int (0 : Int32)), .val (.int (2 : Int32)), .val (.ref aO), .val (.ref aU), .unset, .unset]) rfl kk_) ?_
      show Go p e below T16 (mkF m 26 #[.val (.int p0), .val (.int p1), .val (.int (0 : Int32)), .val (.int (2 : Int32)), .val (.ref aO), .val (.ref aU), .unset, .unset] []) _
      refine Go.of (fun tg_ kk_ => XS.aload X16.here hx rfl (hb hby at_26) rfl rfl kk_) ?_
      show Go p e below T16 (mkF m 28 #[.val (.int p0), .val (.int p1), .val (.int (0 : Int32)), .val (.int (2 : Int32)), .val (.ref aO), .val (.ref aU), .unset, .unset] [(.ref aO)]) _
      refine Go.of (fun tg_ kk_ => XS.aload X16.here hx rfl (hb hby at_28) rfl rfl kk_) ?_
      show Go p e below T16 (mkF m 30 #[.val (.int p0), .val (.int p1), .val (.int (0 : Int32)), .val (.int (2 : Int32)), .val (.ref aO), .val (.ref aU), .unset, .unset] [(.ref aU), (.ref aO)]) _
      obtain ⟨cq17, kq17, q17a, q17b, q17c⟩ := isOf hZ e16 EaO
      obtain ⟨_, _, ⟨T17, L17, k17, n17⟩, -, X17, ⟨Lc17, hQ17, l17, y17, z17⟩, st17⟩ := X16.virtualBack hx (y := (⟨"com/example/attestry/attestry/ExitStatus", "worse", "(Lcom/example/attestry/attestry/ExitStatus;)Lcom/example/attestry/attestry/ExitStatus;"⟩ : MethodName)) (z := (⟨"com/example/attestry/attestry/ExitStatus", "worse", "(Lcom/example/attestry/attestry/ExitStatus;)Lcom/example/attestry/attestry/ExitStatus;"⟩ : MethodName)) hown (mvT hZ (hw _ (List.mem_of_getElem? (i := 8) rfl))) (mvT hZ (hw _ (List.mem_of_getElem? (i := 9) rfl))) (notFace_of_selects (args := #[]) (mvT hZ (hw _ (List.mem_of_getElem? (i := 11) rfl)))) (mvT hZ (hw _ (List.mem_of_getElem? (i := 11) rfl))) (mvT hZ (hw _ (List.mem_of_getElem? (i := 10) rfl))) (by decide) (backOf (W := 0) (rm2 l Z a0 hw [] aO aU (0 : Int32) (2 : Int32) h0 n0 Z0 FaO FaU) hZ (hw _ (List.mem_of_getElem? (i := 12) rfl)) (hw _ (List.mem_of_getElem? (i := 6) rfl)) (by decide) (by decide)) q17a q17c (g := (mkF m 30 #[.val (.int p0), .val (.int p1), .val (.int (0 : Int32)), .val (.int (2 : Int32)), .val (.ref aO), .val (.ref aU), .unset, .unset] [(.ref aU), (.ref aO)])) rfl (by rw [hml]; rfl) (Steps.refl _) (argsL := [(.ref aU)]) (rest := []) (lenOf pd_1 rfl) rfl (by show 2 * 0 + _ ≤ _; exact Nat.le_of_eq rfl) (hb hby at_30) (fun _ _ => ⟨rfl, e16, (by decide : 0 + 0 ≤ _), (by decide : 0 + 0 ≤ _)⟩)
      dsimp only [Pt.U, Pt.locs, Pt.cells, Pt.slots] at X17 l17 y17 z17 st17 hQ17
      subst l17 y17 z17
      obtain ⟨hv17, N17q, e17⟩ := hQ17
      rw [if_pos (show (0 : Int32) < (2 : Int32) by decide)] at hv17
      subst hv17
      have N17 := Fr.app N16 N17q
      refine Go.of (fun tg_ kk_ => st17.trans kk_) ?_
      show Go p e below T17 (mkF m 33 #[.val (.int p0), .val (.int p1), .val (.int (0 : Int32)), .val (.int (2 : Int32)), .val (.ref aO), .val (.ref aU), .unset, .unset] [(.ref aU)]) _
      refine Go.of (fun tg_ kk_ => XS.astore X17.here hx rfl (hb hby at_33) rfl rfl (l' := #[.val (.int p0), .val (.int p1), .val (.int (0 : Int32)), .val (.int (2 : Int32)), .val (.ref aO), .val (.ref aU), .val (.ref aU), .unset]) rfl kk_) ?_
      show Go p e below T17 (mkF m 35 #[.val (.int p0), .val (.int p1), .val (.int (0 : Int32)), .val (.int (2 : Int32)), .val (.ref aO), .val (.ref aU), .val (.ref aU), .unset] []) _
      refine Go.of (fun tg_ kk_ => XS.iloadN X17.here hx rfl (hb hby at_35) rfl kk_) ?_
      show Go p e below T17 (mkF m 36 #[.val (.int p0), .val (.int p1), .val (.int (0 : Int32)), .val (.int (2 : Int32)), .val (.ref aO), .val (.ref aU), .val (.ref aU), .unset] [(.int (0 : Int32))]) _
      refine Go.of (fun tg_ kk_ => XS.iloadN X17.here hx rfl (hb hby at_36) rfl kk_) ?_
      show Go p e below T17 (mkF m 37 #[.val (.int p0), .val (.int p1), .val (.int (0 : Int32)), .val (.int (2 : Int32)), .val (.ref aO), .val (.ref aU), .val (.ref aU), .unset] [(.int (2 : Int32)), (.int (0 : Int32))]) _
      obtain ⟨_, _, ⟨T18, L18, k18, n18⟩, -, X18, ⟨Lc18, hQ18, l18, y18, z18⟩, st18⟩ := Jvm.LawKit.callS X17 hx (y := (⟨"java/lang/Math", "max", "(II)I"⟩ : MethodName)) hown (mvT hZ (hw _ (List.mem_of_getElem? (i := 15) rfl))) (mvT hZ (hw _ (List.mem_of_getElem? (i := 16) rfl))) (mvT hZ (hw _ (List.mem_of_getElem? (i := 17) rfl))) (mvT hZ (hw _ (List.mem_of_getElem? (i := 18) rfl))) (by decide) (backOf (W := 0) (rm3 l Z a0 hw [] (0 : Int32) (2 : Int32) h0 n0 Z0) hZ (hw _ (List.mem_of_getElem? (i := 18) rfl)) (hw _ (List.mem_of_getElem? (i := 17) rfl)) (by decide) (by decide)) (g := (mkF m 37 #[.val (.int p0), .val (.int p1), .val (.int (0 : Int32)), .val (.int (2 : Int32)), .val (.ref aO), .val (.ref aU), .val (.ref aU), .unset] [(.int (2 : Int32)), (.int (0 : Int32))])) rfl (by rw [hml]; rfl) (argsL := [(.int (0 : Int32)), (.int (2 : Int32))]) (rest := []) (lenOf pd_2 rfl) rfl (by show 2 * 0 + _ ≤ _; exact Nat.le_of_eq rfl) (hb hby at_37) (fun _ _ => ⟨rfl, e17, (by decide : 0 + 0 ≤ _), (by decide : 0 + 0 ≤ _)⟩)
      dsimp only [Pt.U, Pt.locs, Pt.cells, Pt.slots] at X18 l18 y18 z18 st18 hQ18
      subst l18 y18 z18
      obtain ⟨hv18, N18q, e18⟩ := hQ18
      rw [if_pos (show (0 : Int32) < (2 : Int32) by decide)] at hv18
      subst hv18
      have N18 := Fr.app N17 N18q
      refine Go.of (st18) ?_
      show Go p e below T18 (mkF m 40 #[.val (.int p0), .val (.int p1), .val (.int (0 : Int32)), .val (.int (2 : Int32)), .val (.ref aO), .val (.ref aU), .val (.ref aU), .unset] [(.int (2 : Int32))]) _
      refine Go.of (fun tg_ kk_ => XS.istore X18.here hx rfl (hb hby at_40) rfl (l' := #[.val (.int p0), .val (.int p1), .val (.int (0 : Int32)), .val (.int (2 : Int32)), .val (.ref aO), .val (.ref aU), .val (.ref aU), .val (.int (2 : Int32))]) rfl kk_) ?_
      show Go p e below T18 (mkF m 42 #[.val (.int p0), .val (.int p1), .val (.int (0 : Int32)), .val (.int (2 : Int32)), .val (.ref aO), .val (.ref aU), .val (.ref aU), .val (.int (2 : Int32))] []) _
      refine Go.of (fun tg_ kk_ => XS.aload X18.here hx rfl (hb hby at_42) rfl rfl kk_) ?_
      show Go p e below T18 (mkF m 44 #[.val (.int p0), .val (.int p1), .val (.int (0 : Int32)), .val (.int (2 : Int32)), .val (.ref aO), .val (.ref aU), .val (.ref aU), .val (.int (2 : Int32))] [(.ref aU)]) _
      refine Go.of (fun tg_ kk_ => XS.iload X18.here hx rfl (hb hby at_44) rfl kk_) ?_
      show Go p e below T18 (mkF m 46 #[.val (.int p0), .val (.int p1), .val (.int (0 : Int32)), .val (.int (2 : Int32)), .val (.ref aO), .val (.ref aU), .val (.ref aU), .val (.int (2 : Int32))] [(.int (2 : Int32)), (.ref aU)]) _
      obtain ⟨_, _, ⟨T19, L19, k19, n19⟩, -, X19, ⟨Lc19, hQ19, l19, y19, z19⟩, st19⟩ := Jvm.LawKit.callS X18 hx (y := (⟨"com/example/attestry/attestry/ExitStatusWorsePinLaw", "pick", "(I)Lcom/example/attestry/attestry/ExitStatus;"⟩ : MethodName)) hown (mvT hZ (hw _ (List.mem_of_getElem? (i := 1) rfl))) (mvT hZ (hw _ (List.mem_of_getElem? (i := 2) rfl))) (mvT hZ (hw _ (List.mem_of_getElem? (i := 3) rfl))) (mvT hZ (hw _ (List.mem_of_getElem? (i := 4) rfl))) (by decide) (backOf (W := 1) (rm1 l Z a0 hw [] (2 : Int32) aO aN aU h0 n0 Z0 SaO SaN SaU) hZ (hw _ (List.mem_of_getElem? (i := 4) rfl)) (hw _ (List.mem_of_getElem? (i := 3) rfl)) (by decide) (by decide)) (g := (mkF m 46 #[.val (.int p0), .val (.int p1), .val (.int (0 : Int32)), .val (.int (2 : Int32)), .val (.ref aO), .val (.ref aU), .val (.ref aU), .val (.int (2 : Int32))] [(.int (2 : Int32)), (.ref aU)])) rfl (by rw [hml]; rfl) (argsL := [(.int (2 : Int32))]) (rest := [(.ref aU)]) (lenOf pd_0 rfl) rfl (by show 2 * 0 + _ ≤ _; exact Nat.le_of_eq rfl) (hb hby at_46) (fun _ _ => ⟨rfl, e18, (by decide : 0 + 0 ≤ _), (by decide : 0 + 0 ≤ _)⟩)
      dsimp only [Pt.U, Pt.locs, Pt.cells, Pt.slots] at X19 l19 y19 z19 st19 hQ19
      subst l19 y19 z19
      obtain ⟨hv19, N19q, e19⟩ := hQ19
      rw [pick_2] at hv19
      subst hv19
      have N19 := Fr.app N18 N19q
      refine Go.of (st19) ?_
      show Go p e below T19 (mkF m 49 #[.val (.int p0), .val (.int p1), .val (.int (0 : Int32)), .val (.int (2 : Int32)), .val (.ref aO), .val (.ref aU), .val (.ref aU), .val (.int (2 : Int32))] [(.ref aU), (.ref aU)]) _
      refine Go.of (fun tg_ kk_ => Jvm.RoadKit.acmp (g := (mkF m 49 #[.val (.int p0), .val (.int p1), .val (.int (0 : Int32)), .val (.int (2 : Int32)), .val (.ref aO), .val (.ref aU), .val (.ref aU), .val (.int (2 : Int32))] [(.ref aU), (.ref aU)])) X19 hx rfl rfl rfl (pc0 := 49) (pc' := 52) (same := true) rfl (hb hby at_49) rfl (decide_eq_true rfl) (by decide) (by decide) kk_) ?_
      show Go p e below T19 (mkF m 52 #[.val (.int p0), .val (.int p1), .val (.int (0 : Int32)), .val (.int (2 : Int32)), .val (.ref aO), .val (.ref aU), .val (.ref aU), .val (.int (2 : Int32))] []) _
      refine Go.of (fun tg_ kk_ => XS.aload X19.here hx rfl (hb hby at_52) rfl rfl kk_) ?_
      show Go p e below T19 (mkF m 54 #[.val (.int p0), .val (.int p1), .val (.int (0 : Int32)), .val (.int (2 : Int32)), .val (.ref aO), .val (.ref aU), .val (.ref aU), .val (.int (2 : Int32))] [(.ref aU)]) _
      obtain ⟨cq20, kq20, q20a, q20b, q20c⟩ := isOf hZ e19 EaU
      obtain ⟨_, _, ⟨T20, L20, k20, n20⟩, -, X20, ⟨Lc20, hQ20, l20, y20, z20⟩, st20⟩ := X19.virtualBack hx (y := (⟨"com/example/attestry/attestry/ExitStatus", "code", "()I"⟩ : MethodName)) (z := (⟨"com/example/attestry/attestry/ExitStatus", "code", "()I"⟩ : MethodName)) hown (mvT hZ (hw _ (List.mem_of_getElem? (i := 19) rfl))) (mvT hZ (hw _ (List.mem_of_getElem? (i := 20) rfl))) (notFace_of_selects (args := #[]) (mvT hZ (hw _ (List.mem_of_getElem? (i := 22) rfl)))) (mvT hZ (hw _ (List.mem_of_getElem? (i := 22) rfl))) (mvT hZ (hw _ (List.mem_of_getElem? (i := 21) rfl))) (by decide) (backOf (W := 0) (rm4 l Z a0 hw [] aU (2 : Int32) h0 n0 Z0 FaU) hZ (hw _ (List.mem_of_getElem? (i := 23) rfl)) (hw _ (List.mem_of_getElem? (i := 6) rfl)) (by decide) (by decide)) q20a q20c (g := (mkF m 54 #[.val (.int p0), .val (.int p1), .val (.int (0 : Int32)), .val (.int (2 : Int32)), .val (.ref aO), .val (.ref aU), .val (.ref aU), .val (.int (2 : Int32))] [(.ref aU)])) rfl (by rw [hml]; rfl) (Steps.refl _) (argsL := []) (rest := []) (lenOf pd_3 rfl) rfl (by show 2 * 0 + _ ≤ _; exact Nat.le_of_eq rfl) (hb hby at_54) (fun _ _ => ⟨rfl, e19, (by decide : 0 + 0 ≤ _), (by decide : 0 + 0 ≤ _)⟩)
      dsimp only [Pt.U, Pt.locs, Pt.cells, Pt.slots] at X20 l20 y20 z20 st20 hQ20
      subst l20 y20 z20
      obtain ⟨rfl, N20q, e20⟩ := hQ20
      have N20 := Fr.app N19 N20q
      refine Go.of (fun tg_ kk_ => st20.trans kk_) ?_
      show Go p e below T20 (mkF m 57 #[.val (.int p0), .val (.int p1), .val (.int (0 : Int32)), .val (.int (2 : Int32)), .val (.ref aO), .val (.ref aU), .val (.ref aU), .val (.int (2 : Int32))] [(.int (2 : Int32))]) _
      refine Go.of (fun tg_ kk_ => XS.iload X20.here hx rfl (hb hby at_57) rfl kk_) ?_
      show Go p e below T20 (mkF m 59 #[.val (.int p0), .val (.int p1), .val (.int (0 : Int32)), .val (.int (2 : Int32)), .val (.ref aO), .val (.ref aU), .val (.ref aU), .val (.int (2 : Int32))] [(.int (2 : Int32)), (.int (2 : Int32))]) _
      refine Go.of (fun tg_ kk_ => XS.icmpNo X20.here hx rfl (hb hby at_59) rfl (teq (show (2 : Int32) = (2 : Int32) by decide)).2 kk_) ?_
      show Go p e below T20 (mkF m 62 #[.val (.int p0), .val (.int p1), .val (.int (0 : Int32)), .val (.int (2 : Int32)), .val (.ref aO), .val (.ref aU), .val (.ref aU), .val (.int (2 : Int32))] []) _
      refine Go.of (fun tg_ kk_ => XS.iconst X20.here hx rfl (hb hby at_62) kk_) ?_
      show Go p e below T20 (mkF m 63 #[.val (.int p0), .val (.int p1), .val (.int (0 : Int32)), .val (.int (2 : Int32)), .val (.ref aO), .val (.ref aU), .val (.ref aU), .val (.int (2 : Int32))] [(.int (1 : Int32))]) _
      refine Go.of (fun tg_ kk_ => XS.goto X20.here hx rfl (pc0 := 63) (pc' := 67) rfl (hb hby at_63) (by decide) (by decide) kk_) ?_
      show Go p e below T20 (mkF m 67 #[.val (.int p0), .val (.int p1), .val (.int (0 : Int32)), .val (.int (2 : Int32)), .val (.ref aO), .val (.ref aU), .val (.ref aU), .val (.int (2 : Int32))] [(.int (1 : Int32))]) _
      obtain ⟨fs, hr, hrun, hended, hW, hsame⟩ := X20.leave (v := some (.int (1 : Int32))) (fun h => by rw [Bd.returns] at h; cases h)
      refine ⟨_, _, ?_, hrun, hended, _, _, rfl, ?_, ⟨_, rfl⟩, hW, hsame.mono (by decide) (by decide)⟩
      · exact retN X20 hx (t := .boolean) Bd.returns (by simp) (hb hby at_67) hr
      · show Q0 Z p0 p1 aO aN aU h0 n0 _ T20.heap _
        rw [e20]
        exact ⟨rfl, N20⟩
  · subst hs1
    show Go p e below s₁ (mkF m 6 #[.val (.int p0), .val (.int p1), .unset, .unset, .unset, .unset, .unset, .unset] [(.int (1 : Int32))]) _
    refine Go.of (fun tg_ kk_ => XS.istoreN X0.here hx rfl (hb hby at_6) rfl (l' := #[.val (.int p0), .val (.int p1), .val (.int (1 : Int32)), .unset, .unset, .unset, .unset, .unset]) rfl kk_) ?_
    show Go p e below s₁ (mkF m 7 #[.val (.int p0), .val (.int p1), .val (.int (1 : Int32)), .unset, .unset, .unset, .unset, .unset] []) _
    refine Go.of (fun tg_ kk_ => XS.iloadN X0.here hx rfl (hb hby at_7) rfl kk_) ?_
    show Go p e below s₁ (mkF m 8 #[.val (.int p0), .val (.int p1), .val (.int (1 : Int32)), .unset, .unset, .unset, .unset, .unset] [(.int p1)]) _
    refine Go.of (X0.ldcInt hx hown (mvT hZ (hw _ (List.mem_of_getElem? (i := 0) rfl))) (g := (mkF m 8 #[.val (.int p0), .val (.int p1), .val (.int (1 : Int32)), .unset, .unset, .unset, .unset, .unset] [(.int p1)])) rfl (hb hby at_8)) ?_
    show Go p e below s₁ (mkF m 10 #[.val (.int p0), .val (.int p1), .val (.int (1 : Int32)), .unset, .unset, .unset, .unset, .unset] [(.int (2147483647 : Int32)), (.int p1)]) _
    refine Go.of (fun tg_ kk_ => XS.iand X0.here hx rfl (hb hby at_10) rfl kk_) ?_
    show Go p e below s₁ (mkF m 11 #[.val (.int p0), .val (.int p1), .val (.int (1 : Int32)), .unset, .unset, .unset, .unset, .unset] [(.int (p1 &&& (2147483647 : Int32)))]) _
    refine Go.of (fun tg_ kk_ => XS.iconst X0.here hx rfl (hb hby at_11) kk_) ?_
    show Go p e below s₁ (mkF m 12 #[.val (.int p0), .val (.int p1), .val (.int (1 : Int32)), .unset, .unset, .unset, .unset, .unset] [(.int (3 : Int32)), (.int (p1 &&& (2147483647 : Int32)))]) _
    refine Go.of (fun tg_ kk_ => Jvm.RoadKit.iremM (g := (mkF m 12 #[.val (.int p0), .val (.int p1), .val (.int (1 : Int32)), .unset, .unset, .unset, .unset, .unset] [(.int (3 : Int32)), (.int (p1 &&& (2147483647 : Int32)))])) X0 hx rfl (hb hby at_12) rfl (by decide) kk_) ?_
    show Go p e below s₁ (mkF m 13 #[.val (.int p0), .val (.int p1), .val (.int (1 : Int32)), .unset, .unset, .unset, .unset, .unset] [(.int ((p1 &&& (2147483647 : Int32)) % (3 : Int32)))]) _
    obtain ⟨jj, qjj⟩ : ∃ z : Int32, z = ((p1 &&& (2147483647 : Int32)) % (3 : Int32)) := ⟨_, rfl⟩
    rw [← qjj]
    show Go p e below s₁ (mkF m 13 #[.val (.int p0), .val (.int p1), .val (.int (1 : Int32)), .unset, .unset, .unset, .unset, .unset] [(.int jj)]) _
    rcases (show jj = (0 : Int32) ∨ jj = (1 : Int32) ∨ jj = (2 : Int32) from by rw [qjj]; exact own_mod3 p1) with hs21 | hs21 | hs21
    · subst hs21
      show Go p e below s₁ (mkF m 13 #[.val (.int p0), .val (.int p1), .val (.int (1 : Int32)), .unset, .unset, .unset, .unset, .unset] [(.int (0 : Int32))]) _
      refine Go.of (fun tg_ kk_ => XS.istoreN X0.here hx rfl (hb hby at_13) rfl (l' := #[.val (.int p0), .val (.int p1), .val (.int (1 : Int32)), .val (.int (0 : Int32)), .unset, .unset, .unset, .unset]) rfl kk_) ?_
      show Go p e below s₁ (mkF m 14 #[.val (.int p0), .val (.int p1), .val (.int (1 : Int32)), .val (.int (0 : Int32)), .unset, .unset, .unset, .unset] []) _
      refine Go.of (fun tg_ kk_ => XS.iloadN X0.here hx rfl (hb hby at_14) rfl kk_) ?_
      show Go p e below s₁ (mkF m 15 #[.val (.int p0), .val (.int p1), .val (.int (1 : Int32)), .val (.int (0 : Int32)), .unset, .unset, .unset, .unset] [(.int (1 : Int32))]) _
      obtain ⟨_, _, ⟨T22, L22, k22, n22⟩, -, X22, ⟨Lc22, hQ22, l22, y22, z22⟩, st22⟩ := Jvm.LawKit.callS X0 hx (y := (⟨"com/example/attestry/attestry/ExitStatusWorsePinLaw", "pick", "(I)Lcom/example/attestry/attestry/ExitStatus;"⟩ : MethodName)) hown (mvT hZ (hw _ (List.mem_of_getElem? (i := 1) rfl))) (mvT hZ (hw _ (List.mem_of_getElem? (i := 2) rfl))) (mvT hZ (hw _ (List.mem_of_getElem? (i := 3) rfl))) (mvT hZ (hw _ (List.mem_of_getElem? (i := 4) rfl))) (by decide) (backOf (W := 0) (rm1 l Z a0 hw [] (1 : Int32) aO aN aU h0 n0 Z0 SaO SaN SaU) hZ (hw _ (List.mem_of_getElem? (i := 4) rfl)) (hw _ (List.mem_of_getElem? (i := 3) rfl)) (by decide) (by decide)) (g := (mkF m 15 #[.val (.int p0), .val (.int p1), .val (.int (1 : Int32)), .val (.int (0 : Int32)), .unset, .unset, .unset, .unset] [(.int (1 : Int32))])) rfl (by rw [hml]; rfl) (argsL := [(.int (1 : Int32))]) (rest := []) (lenOf pd_0 rfl) rfl (by show 2 * 0 + _ ≤ _; exact Nat.le_of_eq rfl) (hb hby at_15) (fun _ _ => ⟨rfl, e0, (by decide : 0 + 0 ≤ _), (by decide : 0 + 0 ≤ _)⟩)
      dsimp only [Pt.U, Pt.locs, Pt.cells, Pt.slots] at X22 l22 y22 z22 st22 hQ22
      subst l22 y22 z22
      obtain ⟨hv22, N22q, e22⟩ := hQ22
      rw [pick_1] at hv22
      subst hv22
      have N22 := Fr.app N0 N22q
      refine Go.of (st22) ?_
      show Go p e below T22 (mkF m 18 #[.val (.int p0), .val (.int p1), .val (.int (1 : Int32)), .val (.int (0 : Int32)), .unset, .unset, .unset, .unset] [(.ref aN)]) _
      refine Go.of (fun tg_ kk_ => XS.astore X22.here hx rfl (hb hby at_18) rfl rfl (l' := #[.val (.int p0), .val (.int p1), .val (.int (1 : Int32)), .val (.int (0 : Int32)), .val (.ref aN), .unset, .unset, .unset]) rfl kk_) ?_
      show Go p e below T22 (mkF m 20 #[.val (.int p0), .val (.int p1), .val (.int (1 : Int32)), .val (.int (0 : Int32)), .val (.ref aN), .unset, .unset, .unset] []) _
      refine Go.of (fun tg_ kk_ => XS.iloadN X22.here hx rfl (hb hby at_20) rfl kk_) ?_
      show Go p e below T22 (mkF m 21 #[.val (.int p0), .val (.int p1), .val (.int (1 : Int32)), .val (.int (0 : Int32)), .val (.ref aN), .unset, .unset, .unset] [(.int (0 : Int32))]) _
      obtain ⟨_, _, ⟨T23, L23, k23, n23⟩, -, X23, ⟨Lc23, hQ23, l23, y23, z23⟩, st23⟩ := Jvm.LawKit.callS X22 hx (y := (⟨"com/example/attestry/attestry/ExitStatusWorsePinLaw", "pick", "(I)Lcom/example/attestry/attestry/ExitStatus;"⟩ : MethodName)) hown (mvT hZ (hw _ (List.mem_of_getElem? (i := 1) rfl))) (mvT hZ (hw _ (List.mem_of_getElem? (i := 2) rfl))) (mvT hZ (hw _ (List.mem_of_getElem? (i := 3) rfl))) (mvT hZ (hw _ (List.mem_of_getElem? (i := 4) rfl))) (by decide) (backOf (W := 0) (rm1 l Z a0 hw [] (0 : Int32) aO aN aU h0 n0 Z0 SaO SaN SaU) hZ (hw _ (List.mem_of_getElem? (i := 4) rfl)) (hw _ (List.mem_of_getElem? (i := 3) rfl)) (by decide) (by decide)) (g := (mkF m 21 #[.val (.int p0), .val (.int p1), .val (.int (1 : Int32)), .val (.int (0 : Int32)), .val (.ref aN), .unset, .unset, .unset] [(.int (0 : Int32))])) rfl (by rw [hml]; rfl) (argsL := [(.int (0 : Int32))]) (rest := []) (lenOf pd_0 rfl) rfl (by show 2 * 0 + _ ≤ _; exact Nat.le_of_eq rfl) (hb hby at_21) (fun _ _ => ⟨rfl, e22, (by decide : 0 + 0 ≤ _), (by decide : 0 + 0 ≤ _)⟩)
      dsimp only [Pt.U, Pt.locs, Pt.cells, Pt.slots] at X23 l23 y23 z23 st23 hQ23
      subst l23 y23 z23
      obtain ⟨hv23, N23q, e23⟩ := hQ23
      rw [pick_0] at hv23
      subst hv23
      have N23 := Fr.app N22 N23q
      refine Go.of (st23) ?_
      show Go p e below T23 (mkF m 24 #[.val (.int p0), .val (.int p1), .val (.int (1 : Int32)), .val (.int (0 : Int32)), .val (.ref aN), .unset, .unset, .unset] [(.ref aO)]) _
      refine Go.of (fun tg_ kk_ => XS.astore X23.here hx rfl (hb hby at_24) rfl rfl (l' := #[.val (.int p0), .val (.int p1), .val (.int (1 : Int32)), .val (.int (0 : Int32)), .val (.ref aN), .val (.ref aO), .unset, .unset]) rfl kk_) ?_
      show Go p e below T23 (mkF m 26 #[.val (.int p0), .val (.int p1), .val (.int (1 : Int32)), .val (.int (0 : Int32)), .val (.ref aN), .val (.ref aO), .unset, .unset] []) _
      refine Go.of (fun tg_ kk_ => XS.aload X23.here hx rfl (hb hby at_26) rfl rfl kk_) ?_
      show Go p e below T23 (mkF m 28 #[.val (.int p0), .val (.int p1), .val (.int (1 : Int32)), .val (.int (0 : Int32)), .val (.ref aN), .val (.ref aO), .unset, .unset] [(.ref aN)]) _
      refine Go.of (fun tg_ kk_ => XS.aload X23.here hx rfl (hb hby at_28) rfl rfl kk_) ?_
      show Go p e below T23 (mkF m 30 #[.val (.int p0), .val (.int p1), .val (.int (1 : Int32)), .val (.int (0 : Int32)), .val (.ref aN), .val (.ref aO), .unset, .unset] [(.ref aO), (.ref aN)]) _
      obtain ⟨cq24, kq24, q24a, q24b, q24c⟩ := isOf hZ e23 EaN
      obtain ⟨_, _, ⟨T24, L24, k24, n24⟩, -, X24, ⟨Lc24, hQ24, l24, y24, z24⟩, st24⟩ := X23.virtualBack hx (y := (⟨"com/example/attestry/attestry/ExitStatus", "worse", "(Lcom/example/attestry/attestry/ExitStatus;)Lcom/example/attestry/attestry/ExitStatus;"⟩ : MethodName)) (z := (⟨"com/example/attestry/attestry/ExitStatus", "worse", "(Lcom/example/attestry/attestry/ExitStatus;)Lcom/example/attestry/attestry/ExitStatus;"⟩ : MethodName)) hown (mvT hZ (hw _ (List.mem_of_getElem? (i := 8) rfl))) (mvT hZ (hw _ (List.mem_of_getElem? (i := 9) rfl))) (notFace_of_selects (args := #[]) (mvT hZ (hw _ (List.mem_of_getElem? (i := 11) rfl)))) (mvT hZ (hw _ (List.mem_of_getElem? (i := 11) rfl))) (mvT hZ (hw _ (List.mem_of_getElem? (i := 10) rfl))) (by decide) (backOf (W := 0) (rm2 l Z a0 hw [] aN aO (1 : Int32) (0 : Int32) h0 n0 Z0 FaN FaO) hZ (hw _ (List.mem_of_getElem? (i := 12) rfl)) (hw _ (List.mem_of_getElem? (i := 6) rfl)) (by decide) (by decide)) q24a q24c (g := (mkF m 30 #[.val (.int p0), .val (.int p1), .val (.int (1 : Int32)), .val (.int (0 : Int32)), .val (.ref aN), .val (.ref aO), .unset, .unset] [(.ref aO), (.ref aN)])) rfl (by rw [hml]; rfl) (Steps.refl _) (argsL := [(.ref aO)]) (rest := []) (lenOf pd_1 rfl) rfl (by show 2 * 0 + _ ≤ _; exact Nat.le_of_eq rfl) (hb hby at_30) (fun _ _ => ⟨rfl, e23, (by decide : 0 + 0 ≤ _), (by decide : 0 + 0 ≤ _)⟩)
      dsimp only [Pt.U, Pt.locs, Pt.cells, Pt.slots] at X24 l24 y24 z24 st24 hQ24
      subst l24 y24 z24
      obtain ⟨hv24, N24q, e24⟩ := hQ24
      rw [if_neg (show ¬ (1 : Int32) < (0 : Int32) by decide)] at hv24
      subst hv24
      have N24 := Fr.app N23 N24q
      refine Go.of (fun tg_ kk_ => st24.trans kk_) ?_
      show Go p e below T24 (mkF m 33 #[.val (.int p0), .val (.int p1), .val (.int (1 : Int32)), .val (.int (0 : Int32)), .val (.ref aN), .val (.ref aO), .unset, .unset] [(.ref aN)]) _
      refine Go.of (fun tg_ kk_ => XS.astore X24.here hx rfl (hb hby at_33) rfl rfl (l' := #[.val (.int p0), .val (.int p1), .val (.int (1 : Int32)), .val (.int (0 : Int32)), .val (.ref aN), .val (.ref aO), .val (.ref aN), .unset]) rfl kk_) ?_
      show Go p e below T24 (mkF m 35 #[.val (.int p0), .val (.int p1), .val (.int (1 : Int32)), .val (.int (0 : Int32)), .val (.ref aN), .val (.ref aO), .val (.ref aN), .unset] []) _
      refine Go.of (fun tg_ kk_ => XS.iloadN X24.here hx rfl (hb hby at_35) rfl kk_) ?_
      show Go p e below T24 (mkF m 36 #[.val (.int p0), .val (.int p1), .val (.int (1 : Int32)), .val (.int (0 : Int32)), .val (.ref aN), .val (.ref aO), .val (.ref aN), .unset] [(.int (1 : Int32))]) _
      refine Go.of (fun tg_ kk_ => XS.iloadN X24.here hx rfl (hb hby at_36) rfl kk_) ?_
      show Go p e below T24 (mkF m 37 #[.val (.int p0), .val (.int p1), .val (.int (1 : Int32)), .val (.int (0 : Int32)), .val (.ref aN), .val (.ref aO), .val (.ref aN), .unset] [(.int (0 : Int32)), (.int (1 : Int32))]) _
      obtain ⟨_, _, ⟨T25, L25, k25, n25⟩, -, X25, ⟨Lc25, hQ25, l25, y25, z25⟩, st25⟩ := Jvm.LawKit.callS X24 hx (y := (⟨"java/lang/Math", "max", "(II)I"⟩ : MethodName)) hown (mvT hZ (hw _ (List.mem_of_getElem? (i := 15) rfl))) (mvT hZ (hw _ (List.mem_of_getElem? (i := 16) rfl))) (mvT hZ (hw _ (List.mem_of_getElem? (i := 17) rfl))) (mvT hZ (hw _ (List.mem_of_getElem? (i := 18) rfl))) (by decide) (backOf (W := 0) (rm3 l Z a0 hw [] (1 : Int32) (0 : Int32) h0 n0 Z0) hZ (hw _ (List.mem_of_getElem? (i := 18) rfl)) (hw _ (List.mem_of_getElem? (i := 17) rfl)) (by decide) (by decide)) (g := (mkF m 37 #[.val (.int p0), .val (.int p1), .val (.int (1 : Int32)), .val (.int (0 : Int32)), .val (.ref aN), .val (.ref aO), .val (.ref aN), .unset] [(.int (0 : Int32)), (.int (1 : Int32))])) rfl (by rw [hml]; rfl) (argsL := [(.int (1 : Int32)), (.int (0 : Int32))]) (rest := []) (lenOf pd_2 rfl) rfl (by show 2 * 0 + _ ≤ _; exact Nat.le_of_eq rfl) (hb hby at_37) (fun _ _ => ⟨rfl, e24, (by decide : 0 + 0 ≤ _), (by decide : 0 + 0 ≤ _)⟩)
      dsimp only [Pt.U, Pt.locs, Pt.cells, Pt.slots] at X25 l25 y25 z25 st25 hQ25
      subst l25 y25 z25
      obtain ⟨hv25, N25q, e25⟩ := hQ25
      rw [if_neg (show ¬ (1 : Int32) < (0 : Int32) by decide)] at hv25
      subst hv25
      have N25 := Fr.app N24 N25q
      refine Go.of (st25) ?_
      show Go p e below T25 (mkF m 40 #[.val (.int p0), .val (.int p1), .val (.int (1 : Int32)), .val (.int (0 : Int32)), .val (.ref aN), .val (.ref aO), .val (.ref aN), .unset] [(.int (1 : Int32))]) _
      refine Go.of (fun tg_ kk_ => XS.istore X25.here hx rfl (hb hby at_40) rfl (l' := #[.val (.int p0), .val (.int p1), .val (.int (1 : Int32)), .val (.int (0 : Int32)), .val (.ref aN), .val (.ref aO), .val (.ref aN), .val (.int (1 : Int32))]) rfl kk_) ?_
      show Go p e below T25 (mkF m 42 #[.val (.int p0), .val (.int p1), .val (.int (1 : Int32)), .val (.int (0 : Int32)), .val (.ref aN), .val (.ref aO), .val (.ref aN), .val (.int (1 : Int32))] []) _
      refine Go.of (fun tg_ kk_ => XS.aload X25.here hx rfl (hb hby at_42) rfl rfl kk_) ?_
      show Go p e below T25 (mkF m 44 #[.val (.int p0), .val (.int p1), .val (.int (1 : Int32)), .val (.int (0 : Int32)), .val (.ref aN), .val (.ref aO), .val (.ref aN), .val (.int (1 : Int32))] [(.ref aN)]) _
      refine Go.of (fun tg_ kk_ => XS.iload X25.here hx rfl (hb hby at_44) rfl kk_) ?_
      show Go p e below T25 (mkF m 46 #[.val (.int p0), .val (.int p1), .val (.int (1 : Int32)), .val (.int (0 : Int32)), .val (.ref aN), .val (.ref aO), .val (.ref aN), .val (.int (1 : Int32))] [(.int (1 : Int32)), (.ref aN)]) _
      obtain ⟨_, _, ⟨T26, L26, k26, n26⟩, -, X26, ⟨Lc26, hQ26, l26, y26, z26⟩, st26⟩ := Jvm.LawKit.callS X25 hx (y := (⟨"com/example/attestry/attestry/ExitStatusWorsePinLaw", "pick", "(I)Lcom/example/attestry/attestry/ExitStatus;"⟩ : MethodName)) hown (mvT hZ (hw _ (List.mem_of_getElem? (i := 1) rfl))) (mvT hZ (hw _ (List.mem_of_getElem? (i := 2) rfl))) (mvT hZ (hw _ (List.mem_of_getElem? (i := 3) rfl))) (mvT hZ (hw _ (List.mem_of_getElem? (i := 4) rfl))) (by decide) (backOf (W := 1) (rm1 l Z a0 hw [] (1 : Int32) aO aN aU h0 n0 Z0 SaO SaN SaU) hZ (hw _ (List.mem_of_getElem? (i := 4) rfl)) (hw _ (List.mem_of_getElem? (i := 3) rfl)) (by decide) (by decide)) (g := (mkF m 46 #[.val (.int p0), .val (.int p1), .val (.int (1 : Int32)), .val (.int (0 : Int32)), .val (.ref aN), .val (.ref aO), .val (.ref aN), .val (.int (1 : Int32))] [(.int (1 : Int32)), (.ref aN)])) rfl (by rw [hml]; rfl) (argsL := [(.int (1 : Int32))]) (rest := [(.ref aN)]) (lenOf pd_0 rfl) rfl (by show 2 * 0 + _ ≤ _; exact Nat.le_of_eq rfl) (hb hby at_46) (fun _ _ => ⟨rfl, e25, (by decide : 0 + 0 ≤ _), (by decide : 0 + 0 ≤ _)⟩)
      dsimp only [Pt.U, Pt.locs, Pt.cells, Pt.slots] at X26 l26 y26 z26 st26 hQ26
      subst l26 y26 z26
      obtain ⟨hv26, N26q, e26⟩ := hQ26
      rw [pick_1] at hv26
      subst hv26
      have N26 := Fr.app N25 N26q
      refine Go.of (st26) ?_
      show Go p e below T26 (mkF m 49 #[.val (.int p0), .val (.int p1), .val (.int (1 : Int32)), .val (.int (0 : Int32)), .val (.ref aN), .val (.ref aO), .val (.ref aN), .val (.int (1 : Int32))] [(.ref aN), (.ref aN)]) _
      refine Go.of (fun tg_ kk_ => Jvm.RoadKit.acmp (g := (mkF m 49 #[.val (.int p0), .val (.int p1), .val (.int (1 : Int32)), .val (.int (0 : Int32)), .val (.ref aN), .val (.ref aO), .val (.ref aN), .val (.int (1 : Int32))] [(.ref aN), (.ref aN)])) X26 hx rfl rfl rfl (pc0 := 49) (pc' := 52) (same := true) rfl (hb hby at_49) rfl (decide_eq_true rfl) (by decide) (by decide) kk_) ?_
      show Go p e below T26 (mkF m 52 #[.val (.int p0), .val (.int p1), .val (.int (1 : Int32)), .val (.int (0 : Int32)), .val (.ref aN), .val (.ref aO), .val (.ref aN), .val (.int (1 : Int32))] []) _
      refine Go.of (fun tg_ kk_ => XS.aload X26.here hx rfl (hb hby at_52) rfl rfl kk_) ?_
      show Go p e below T26 (mkF m 54 #[.val (.int p0), .val (.int p1), .val (.int (1 : Int32)), .val (.int (0 : Int32)), .val (.ref aN), .val (.ref aO), .val (.ref aN), .val (.int (1 : Int32))] [(.ref aN)]) _
      obtain ⟨cq27, kq27, q27a, q27b, q27c⟩ := isOf hZ e26 EaN
      obtain ⟨_, _, ⟨T27, L27, k27, n27⟩, -, X27, ⟨Lc27, hQ27, l27, y27, z27⟩, st27⟩ := X26.virtualBack hx (y := (⟨"com/example/attestry/attestry/ExitStatus", "code", "()I"⟩ : MethodName)) (z := (⟨"com/example/attestry/attestry/ExitStatus", "code", "()I"⟩ : MethodName)) hown (mvT hZ (hw _ (List.mem_of_getElem? (i := 19) rfl))) (mvT hZ (hw _ (List.mem_of_getElem? (i := 20) rfl))) (notFace_of_selects (args := #[]) (mvT hZ (hw _ (List.mem_of_getElem? (i := 22) rfl)))) (mvT hZ (hw _ (List.mem_of_getElem? (i := 22) rfl))) (mvT hZ (hw _ (List.mem_of_getElem? (i := 21) rfl))) (by decide) (backOf (W := 0) (rm4 l Z a0 hw [] aN (1 : Int32) h0 n0 Z0 FaN) hZ (hw _ (List.mem_of_getElem? (i := 23) rfl)) (hw _ (List.mem_of_getElem? (i := 6) rfl)) (by decide) (by decide)) q27a q27c (g := (mkF m 54 #[.val (.int p0), .val (.int p1), .val (.int (1 : Int32)), .val (.int (0 : Int32)), .val (.ref aN), .val (.ref aO), .val (.ref aN), .val (.int (1 : Int32))] [(.ref aN)])) rfl (by rw [hml]; rfl) (Steps.refl _) (argsL := []) (rest := []) (lenOf pd_3 rfl) rfl (by show 2 * 0 + _ ≤ _; exact Nat.le_of_eq rfl) (hb hby at_54) (fun _ _ => ⟨rfl, e26, (by decide : 0 + 0 ≤ _), (by decide : 0 + 0 ≤ _)⟩)
      dsimp only [Pt.U, Pt.locs, Pt.cells, Pt.slots] at X27 l27 y27 z27 st27 hQ27
      subst l27 y27 z27
      obtain ⟨rfl, N27q, e27⟩ := hQ27
      have N27 := Fr.app N26 N27q
      refine Go.of (fun tg_ kk_ => st27.trans kk_) ?_
      show Go p e below T27 (mkF m 57 #[.val (.int p0), .val (.int p1), .val (.int (1 : Int32)), .val (.int (0 : Int32)), .val (.ref aN), .val (.ref aO), .val (.ref aN), .val (.int (1 : Int32))] [(.int (1 : Int32))]) _
      refine Go.of (fun tg_ kk_ => XS.iload X27.here hx rfl (hb hby at_57) rfl kk_) ?_
      show Go p e below T27 (mkF m 59 #[.val (.int p0), .val (.int p1), .val (.int (1 : Int32)), .val (.int (0 : Int32)), .val (.ref aN), .val (.ref aO), .val (.ref aN), .val (.int (1 : Int32))] [(.int (1 : Int32)), (.int (1 : Int32))]) _
      refine Go.of (fun tg_ kk_ => XS.icmpNo X27.here hx rfl (hb hby at_59) rfl (teq (show (1 : Int32) = (1 : Int32) by decide)).2 kk_) ?_
      show Go p e below T27 (mkF m 62 #[.val (.int p0), .val (.int p1), .val (.int (1 : Int32)), .val (.int (0 : Int32)), .val (.ref aN), .val (.ref aO), .val (.ref aN), .val (.int (1 : Int32))] []) _
      refine Go.of (fun tg_ kk_ => XS.iconst X27.here hx rfl (hb hby at_62) kk_) ?_
      show Go p e below T27 (mkF m 63 #[.val (.int p0), .val (.int p1), .val (.int (1 : Int32)), .val (.int (0 : Int32)), .val (.ref aN), .val (.ref aO), .val (.ref aN), .val (.int (1 : Int32))] [(.int (1 : Int32))]) _
      refine Go.of (fun tg_ kk_ => XS.goto X27.here hx rfl (pc0 := 63) (pc' := 67) rfl (hb hby at_63) (by decide) (by decide) kk_) ?_
      show Go p e below T27 (mkF m 67 #[.val (.int p0), .val (.int p1), .val (.int (1 : Int32)), .val (.int (0 : Int32)), .val (.ref aN), .val (.ref aO), .val (.ref aN), .val (.int (1 : Int32))] [(.int (1 : Int32))]) _
      obtain ⟨fs, hr, hrun, hended, hW, hsame⟩ := X27.leave (v := some (.int (1 : Int32))) (fun h => by rw [Bd.returns] at h; cases h)
      refine ⟨_, _, ?_, hrun, hended, _, _, rfl, ?_, ⟨_, rfl⟩, hW, hsame.mono (by decide) (by decide)⟩
      · exact retN X27 hx (t := .boolean) Bd.returns (by simp) (hb hby at_67) hr
      · show Q0 Z p0 p1 aO aN aU h0 n0 _ T27.heap _
        rw [e27]
        exact ⟨rfl, N27⟩
    · subst hs21
      show Go p e below s₁ (mkF m 13 #[.val (.int p0), .val (.int p1), .val (.int (1 : Int32)), .unset, .unset, .unset, .unset, .unset] [(.int (1 : Int32))]) _
      refine Go.of (fun tg_ kk_ => XS.istoreN X0.here hx rfl (hb hby at_13) rfl (l' := #[.val (.int p0), .val (.int p1), .val (.int (1 : Int32)), .val (.int (1 : Int32)), .unset, .unset, .unset, .unset]) rfl kk_) ?_
      show Go p e below s₁ (mkF m 14 #[.val (.int p0), .val (.int p1), .val (.int (1 : Int32)), .val (.int (1 : Int32)), .unset, .unset, .unset, .unset] []) _
      refine Go.of (fun tg_ kk_ => XS.iloadN X0.here hx rfl (hb hby at_14) rfl kk_) ?_
      show Go p e below s₁ (mkF m 15 #[.val (.int p0), .val (.int p1), .val (.int (1 : Int32)), .val (.int (1 : Int32)), .unset, .unset, .unset, .unset] [(.int (1 : Int32))]) _
      obtain ⟨_, _, ⟨T28, L28, k28, n28⟩, -, X28, ⟨Lc28, hQ28, l28, y28, z28⟩, st28⟩ := Jvm.LawKit.callS X0 hx (y := (⟨"com/example/attestry/attestry/ExitStatusWorsePinLaw", "pick", "(I)Lcom/example/attestry/attestry/ExitStatus;"⟩ : MethodName)) hown (mvT hZ (hw _ (List.mem_of_getElem? (i := 1) rfl))) (mvT hZ (hw _ (List.mem_of_getElem? (i := 2) rfl))) (mvT hZ (hw _ (List.mem_of_getElem? (i := 3) rfl))) (mvT hZ (hw _ (List.mem_of_getElem? (i := 4) rfl))) (by decide) (backOf (W := 0) (rm1 l Z a0 hw [] (1 : Int32) aO aN aU h0 n0 Z0 SaO SaN SaU) hZ (hw _ (List.mem_of_getElem? (i := 4) rfl)) (hw _ (List.mem_of_getElem? (i := 3) rfl)) (by decide) (by decide)) (g := (mkF m 15 #[.val (.int p0), .val (.int p1), .val (.int (1 : Int32)), .val (.int (1 : Int32)), .unset, .unset, .unset, .unset] [(.int (1 : Int32))])) rfl (by rw [hml]; rfl) (argsL := [(.int (1 : Int32))]) (rest := []) (lenOf pd_0 rfl) rfl (by show 2 * 0 + _ ≤ _; exact Nat.le_of_eq rfl) (hb hby at_15) (fun _ _ => ⟨rfl, e0, (by decide : 0 + 0 ≤ _), (by decide : 0 + 0 ≤ _)⟩)
      dsimp only [Pt.U, Pt.locs, Pt.cells, Pt.slots] at X28 l28 y28 z28 st28 hQ28
      subst l28 y28 z28
      obtain ⟨hv28, N28q, e28⟩ := hQ28
      rw [pick_1] at hv28
      subst hv28
      have N28 := Fr.app N0 N28q
      refine Go.of (st28) ?_
      show Go p e below T28 (mkF m 18 #[.val (.int p0), .val (.int p1), .val (.int (1 : Int32)), .val (.int (1 : Int32)), .unset, .unset, .unset, .unset] [(.ref aN)]) _
      refine Go.of (fun tg_ kk_ => XS.astore X28.here hx rfl (hb hby at_18) rfl rfl (l' := #[.val (.int p0), .val (.int p1), .val (.int (1 : Int32)), .val (.int (1 : Int32)), .val (.ref aN), .unset, .unset, .unset]) rfl kk_) ?_
      show Go p e below T28 (mkF m 20 #[.val (.int p0), .val (.int p1), .val (.int (1 : Int32)), .val (.int (1 : Int32)), .val (.ref aN), .unset, .unset, .unset] []) _
      refine Go.of (fun tg_ kk_ => XS.iloadN X28.here hx rfl (hb hby at_20) rfl kk_) ?_
      show Go p e below T28 (mkF m 21 #[.val (.int p0), .val (.int p1), .val (.int (1 : Int32)), .val (.int (1 : Int32)), .val (.ref aN), .unset, .unset, .unset] [(.int (1 : Int32))]) _
      obtain ⟨_, _, ⟨T29, L29, k29, n29⟩, -, X29, ⟨Lc29, hQ29, l29, y29, z29⟩, st29⟩ := Jvm.LawKit.callS X28 hx (y := (⟨"com/example/attestry/attestry/ExitStatusWorsePinLaw", "pick", "(I)Lcom/example/attestry/attestry/ExitStatus;"⟩ : MethodName)) hown (mvT hZ (hw _ (List.mem_of_getElem? (i := 1) rfl))) (mvT hZ (hw _ (List.mem_of_getElem? (i := 2) rfl))) (mvT hZ (hw _ (List.mem_of_getElem? (i := 3) rfl))) (mvT hZ (hw _ (List.mem_of_getElem? (i := 4) rfl))) (by decide) (backOf (W := 0) (rm1 l Z a0 hw [] (1 : Int32) aO aN aU h0 n0 Z0 SaO SaN SaU) hZ (hw _ (List.mem_of_getElem? (i := 4) rfl)) (hw _ (List.mem_of_getElem? (i := 3) rfl)) (by decide) (by decide)) (g := (mkF m 21 #[.val (.int p0), .val (.int p1), .val (.int (1 : Int32)), .val (.int (1 : Int32)), .val (.ref aN), .unset, .unset, .unset] [(.int (1 : Int32))])) rfl (by rw [hml]; rfl) (argsL := [(.int (1 : Int32))]) (rest := []) (lenOf pd_0 rfl) rfl (by show 2 * 0 + _ ≤ _; exact Nat.le_of_eq rfl) (hb hby at_21) (fun _ _ => ⟨rfl, e28, (by decide : 0 + 0 ≤ _), (by decide : 0 + 0 ≤ _)⟩)
      dsimp only [Pt.U, Pt.locs, Pt.cells, Pt.slots] at X29 l29 y29 z29 st29 hQ29
      subst l29 y29 z29
      obtain ⟨hv29, N29q, e29⟩ := hQ29
      rw [pick_1] at hv29
      subst hv29
      have N29 := Fr.app N28 N29q
      refine Go.of (st29) ?_
      show Go p e below T29 (mkF m 24 #[.val (.int p0), .val (.int p1), .val (.int (1 : Int32)), .val (.int (1 : Int32)), .val (.ref aN), .unset, .unset, .unset] [(.ref aN)]) _
      refine Go.of (fun tg_ kk_ => XS.astore X29.here hx rfl (hb hby at_24) rfl rfl (l' := #[.val (.int p0), .val (.int p1), .val (.int (1 : Int32)), .val (.int (1 : Int32)), .val (.ref aN), .val (.ref aN), .unset, .unset]) rfl kk_) ?_
      show Go p e below T29 (mkF m 26 #[.val (.int p0), .val (.int p1), .val (.int (1 : Int32)), .val (.int (1 : Int32)), .val (.ref aN), .val (.ref aN), .unset, .unset] []) _
      refine Go.of (fun tg_ kk_ => XS.aload X29.here hx rfl (hb hby at_26) rfl rfl kk_) ?_
      show Go p e below T29 (mkF m 28 #[.val (.int p0), .val (.int p1), .val (.int (1 : Int32)), .val (.int (1 : Int32)), .val (.ref aN), .val (.ref aN), .unset, .unset] [(.ref aN)]) _
      refine Go.of (fun tg_ kk_ => XS.aload X29.here hx rfl (hb hby at_28) rfl rfl kk_) ?_
      show Go p e below T29 (mkF m 30 #[.val (.int p0), .val (.int p1), .val (.int (1 : Int32)), .val (.int (1 : Int32)), .val (.ref aN), .val (.ref aN), .unset, .unset] [(.ref aN), (.ref aN)]) _
      obtain ⟨cq30, kq30, q30a, q30b, q30c⟩ := isOf hZ e29 EaN
      obtain ⟨_, _, ⟨T30, L30, k30, n30⟩, -, X30, ⟨Lc30, hQ30, l30, y30, z30⟩, st30⟩ := X29.virtualBack hx (y := (⟨"com/example/attestry/attestry/ExitStatus", "worse", "(Lcom/example/attestry/attestry/ExitStatus;)Lcom/example/attestry/attestry/ExitStatus;"⟩ : MethodName)) (z := (⟨"com/example/attestry/attestry/ExitStatus", "worse", "(Lcom/example/attestry/attestry/ExitStatus;)Lcom/example/attestry/attestry/ExitStatus;"⟩ : MethodName)) hown (mvT hZ (hw _ (List.mem_of_getElem? (i := 8) rfl))) (mvT hZ (hw _ (List.mem_of_getElem? (i := 9) rfl))) (notFace_of_selects (args := #[]) (mvT hZ (hw _ (List.mem_of_getElem? (i := 11) rfl)))) (mvT hZ (hw _ (List.mem_of_getElem? (i := 11) rfl))) (mvT hZ (hw _ (List.mem_of_getElem? (i := 10) rfl))) (by decide) (backOf (W := 0) (rm2 l Z a0 hw [] aN aN (1 : Int32) (1 : Int32) h0 n0 Z0 FaN FaN) hZ (hw _ (List.mem_of_getElem? (i := 12) rfl)) (hw _ (List.mem_of_getElem? (i := 6) rfl)) (by decide) (by decide)) q30a q30c (g := (mkF m 30 #[.val (.int p0), .val (.int p1), .val (.int (1 : Int32)), .val (.int (1 : Int32)), .val (.ref aN), .val (.ref aN), .unset, .unset] [(.ref aN), (.ref aN)])) rfl (by rw [hml]; rfl) (Steps.refl _) (argsL := [(.ref aN)]) (rest := []) (lenOf pd_1 rfl) rfl (by show 2 * 0 + _ ≤ _; exact Nat.le_of_eq rfl) (hb hby at_30) (fun _ _ => ⟨rfl, e29, (by decide : 0 + 0 ≤ _), (by decide : 0 + 0 ≤ _)⟩)
      dsimp only [Pt.U, Pt.locs, Pt.cells, Pt.slots] at X30 l30 y30 z30 st30 hQ30
      subst l30 y30 z30
      obtain ⟨hv30, N30q, e30⟩ := hQ30
      rw [if_neg (show ¬ (1 : Int32) < (1 : Int32) by decide)] at hv30
      subst hv30
      have N30 := Fr.app N29 N30q
      refine Go.of (fun tg_ kk_ => st30.trans kk_) ?_
      show Go p e below T30 (mkF m 33 #[.val (.int p0), .val (.int p1), .val (.int (1 : Int32)), .val (.int (1 : Int32)), .val (.ref aN), .val (.ref aN), .unset, .unset] [(.ref aN)]) _
      refine Go.of (fun tg_ kk_ => XS.astore X30.here hx rfl (hb hby at_33) rfl rfl (l' := #[.val (.int p0), .val (.int p1), .val (.int (1 : Int32)), .val (.int (1 : Int32)), .val (.ref aN), .val (.ref aN), .val (.ref aN), .unset]) rfl kk_) ?_
      show Go p e below T30 (mkF m 35 #[.val (.int p0), .val (.int p1), .val (.int (1 : Int32)), .val (.int (1 : Int32)), .val (.ref aN), .val (.ref aN), .val (.ref aN), .unset] []) _
      refine Go.of (fun tg_ kk_ => XS.iloadN X30.here hx rfl (hb hby at_35) rfl kk_) ?_
      show Go p e below T30 (mkF m 36 #[.val (.int p0), .val (.int p1), .val (.int (1 : Int32)), .val (.int (1 : Int32)), .val (.ref aN), .val (.ref aN), .val (.ref aN), .unset] [(.int (1 : Int32))]) _
      refine Go.of (fun tg_ kk_ => XS.iloadN X30.here hx rfl (hb hby at_36) rfl kk_) ?_
      show Go p e below T30 (mkF m 37 #[.val (.int p0), .val (.int p1), .val (.int (1 : Int32)), .val (.int (1 : Int32)), .val (.ref aN), .val (.ref aN), .val (.ref aN), .unset] [(.int (1 : Int32)), (.int (1 : Int32))]) _
      obtain ⟨_, _, ⟨T31, L31, k31, n31⟩, -, X31, ⟨Lc31, hQ31, l31, y31, z31⟩, st31⟩ := Jvm.LawKit.callS X30 hx (y := (⟨"java/lang/Math", "max", "(II)I"⟩ : MethodName)) hown (mvT hZ (hw _ (List.mem_of_getElem? (i := 15) rfl))) (mvT hZ (hw _ (List.mem_of_getElem? (i := 16) rfl))) (mvT hZ (hw _ (List.mem_of_getElem? (i := 17) rfl))) (mvT hZ (hw _ (List.mem_of_getElem? (i := 18) rfl))) (by decide) (backOf (W := 0) (rm3 l Z a0 hw [] (1 : Int32) (1 : Int32) h0 n0 Z0) hZ (hw _ (List.mem_of_getElem? (i := 18) rfl)) (hw _ (List.mem_of_getElem? (i := 17) rfl)) (by decide) (by decide)) (g := (mkF m 37 #[.val (.int p0), .val (.int p1), .val (.int (1 : Int32)), .val (.int (1 : Int32)), .val (.ref aN), .val (.ref aN), .val (.ref aN), .unset] [(.int (1 : Int32)), (.int (1 : Int32))])) rfl (by rw [hml]; rfl) (argsL := [(.int (1 : Int32)), (.int (1 : Int32))]) (rest := []) (lenOf pd_2 rfl) rfl (by show 2 * 0 + _ ≤ _; exact Nat.le_of_eq rfl) (hb hby at_37) (fun _ _ => ⟨rfl, e30, (by decide : 0 + 0 ≤ _), (by decide : 0 + 0 ≤ _)⟩)
      dsimp only [Pt.U, Pt.locs, Pt.cells, Pt.slots] at X31 l31 y31 z31 st31 hQ31
      subst l31 y31 z31
      obtain ⟨hv31, N31q, e31⟩ := hQ31
      rw [if_neg (show ¬ (1 : Int32) < (1 : Int32) by decide)] at hv31
      subst hv31
      have N31 := Fr.app N30 N31q
      refine Go.of (st31) ?_
      show Go p e below T31 (mkF m 40 #[.val (.int p0), .val (.int p1), .val (.int (1 : Int32)), .val (.int (1 : Int32)), .val (.ref aN), .val (.ref aN), .val (.ref aN), .unset] [(.int (1 : Int32))]) _
      refine Go.of (fun tg_ kk_ => XS.istore X31.here hx rfl (hb hby at_40) rfl (l' := #[.val (.int p0), .val (.int p1), .val (.int (1 : Int32)), .val (.int (1 : Int32)), .val (.ref aN), .val (.ref aN), .val (.ref aN), .val (.int (1 : Int32))]) rfl kk_) ?_
      show Go p e below T31 (mkF m 42 #[.val (.int p0), .val (.int p1), .val (.int (1 : Int32)), .val (.int (1 : Int32)), .val (.ref aN), .val (.ref aN), .val (.ref aN), .val (.int (1 : Int32))] []) _
      refine Go.of (fun tg_ kk_ => XS.aload X31.here hx rfl (hb hby at_42) rfl rfl kk_) ?_
      show Go p e below T31 (mkF m 44 #[.val (.int p0), .val (.int p1), .val (.int (1 : Int32)), .val (.int (1 : Int32)), .val (.ref aN), .val (.ref aN), .val (.ref aN), .val (.int (1 : Int32))] [(.ref aN)]) _
      refine Go.of (fun tg_ kk_ => XS.iload X31.here hx rfl (hb hby at_44) rfl kk_) ?_
      show Go p e below T31 (mkF m 46 #[.val (.int p0), .val (.int p1), .val (.int (1 : Int32)), .val (.int (1 : Int32)), .val (.ref aN), .val (.ref aN), .val (.ref aN), .val (.int (1 : Int32))] [(.int (1 : Int32)), (.ref aN)]) _
      obtain ⟨_, _, ⟨T32, L32, k32, n32⟩, -, X32, ⟨Lc32, hQ32, l32, y32, z32⟩, st32⟩ := Jvm.LawKit.callS X31 hx (y := (⟨"com/example/attestry/attestry/ExitStatusWorsePinLaw", "pick", "(I)Lcom/example/attestry/attestry/ExitStatus;"⟩ : MethodName)) hown (mvT hZ (hw _ (List.mem_of_getElem? (i := 1) rfl))) (mvT hZ (hw _ (List.mem_of_getElem? (i := 2) rfl))) (mvT hZ (hw _ (List.mem_of_getElem? (i := 3) rfl))) (mvT hZ (hw _ (List.mem_of_getElem? (i := 4) rfl))) (by decide) (backOf (W := 1) (rm1 l Z a0 hw [] (1 : Int32) aO aN aU h0 n0 Z0 SaO SaN SaU) hZ (hw _ (List.mem_of_getElem? (i := 4) rfl)) (hw _ (List.mem_of_getElem? (i := 3) rfl)) (by decide) (by decide)) (g := (mkF m 46 #[.val (.int p0), .val (.int p1), .val (.int (1 : Int32)), .val (.int (1 : Int32)), .val (.ref aN), .val (.ref aN), .val (.ref aN), .val (.int (1 : Int32))] [(.int (1 : Int32)), (.ref aN)])) rfl (by rw [hml]; rfl) (argsL := [(.int (1 : Int32))]) (rest := [(.ref aN)]) (lenOf pd_0 rfl) rfl (by show 2 * 0 + _ ≤ _; exact Nat.le_of_eq rfl) (hb hby at_46) (fun _ _ => ⟨rfl, e31, (by decide : 0 + 0 ≤ _), (by decide : 0 + 0 ≤ _)⟩)
      dsimp only [Pt.U, Pt.locs, Pt.cells, Pt.slots] at X32 l32 y32 z32 st32 hQ32
      subst l32 y32 z32
      obtain ⟨hv32, N32q, e32⟩ := hQ32
      rw [pick_1] at hv32
      subst hv32
      have N32 := Fr.app N31 N32q
      refine Go.of (st32) ?_
      show Go p e below T32 (mkF m 49 #[.val (.int p0), .val (.int p1), .val (.int (1 : Int32)), .val (.int (1 : Int32)), .val (.ref aN), .val (.ref aN), .val (.ref aN), .val (.int (1 : Int32))] [(.ref aN), (.ref aN)]) _
      refine Go.of (fun tg_ kk_ => Jvm.RoadKit.acmp (g := (mkF m 49 #[.val (.int p0), .val (.int p1), .val (.int (1 : Int32)), .val (.int (1 : Int32)), .val (.ref aN), .val (.ref aN), .val (.ref aN), .val (.int (1 : Int32))] [(.ref aN), (.ref aN)])) X32 hx rfl rfl rfl (pc0 := 49) (pc' := 52) (same := true) rfl (hb hby at_49) rfl (decide_eq_true rfl) (by decide) (by decide) kk_) ?_
      show Go p e below T32 (mkF m 52 #[.val (.int p0), .val (.int p1), .val (.int (1 : Int32)), .val (.int (1 : Int32)), .val (.ref aN), .val (.ref aN), .val (.ref aN), .val (.int (1 : Int32))] []) _
      refine Go.of (fun tg_ kk_ => XS.aload X32.here hx rfl (hb hby at_52) rfl rfl kk_) ?_
      show Go p e below T32 (mkF m 54 #[.val (.int p0), .val (.int p1), .val (.int (1 : Int32)), .val (.int (1 : Int32)), .val (.ref aN), .val (.ref aN), .val (.ref aN), .val (.int (1 : Int32))] [(.ref aN)]) _
      obtain ⟨cq33, kq33, q33a, q33b, q33c⟩ := isOf hZ e32 EaN
      obtain ⟨_, _, ⟨T33, L33, k33, n33⟩, -, X33, ⟨Lc33, hQ33, l33, y33, z33⟩, st33⟩ := X32.virtualBack hx (y := (⟨"com/example/attestry/attestry/ExitStatus", "code", "()I"⟩ : MethodName)) (z := (⟨"com/example/attestry/attestry/ExitStatus", "code", "()I"⟩ : MethodName)) hown (mvT hZ (hw _ (List.mem_of_getElem? (i := 19) rfl))) (mvT hZ (hw _ (List.mem_of_getElem? (i := 20) rfl))) (notFace_of_selects (args := #[]) (mvT hZ (hw _ (List.mem_of_getElem? (i := 22) rfl)))) (mvT hZ (hw _ (List.mem_of_getElem? (i := 22) rfl))) (mvT hZ (hw _ (List.mem_of_getElem? (i := 21) rfl))) (by decide) (backOf (W := 0) (rm4 l Z a0 hw [] aN (1 : Int32) h0 n0 Z0 FaN) hZ (hw _ (List.mem_of_getElem? (i := 23) rfl)) (hw _ (List.mem_of_getElem? (i := 6) rfl)) (by decide) (by decide)) q33a q33c (g := (mkF m 54 #[.val (.int p0), .val (.int p1), .val (.int (1 : Int32)), .val (.int (1 : Int32)), .val (.ref aN), .val (.ref aN), .val (.ref aN), .val (.int (1 : Int32))] [(.ref aN)])) rfl (by rw [hml]; rfl) (Steps.refl _) (argsL := []) (rest := []) (lenOf pd_3 rfl) rfl (by show 2 * 0 + _ ≤ _; exact Nat.le_of_eq rfl) (hb hby at_54) (fun _ _ => ⟨rfl, e32, (by decide : 0 + 0 ≤ _), (by decide : 0 + 0 ≤ _)⟩)
      dsimp only [Pt.U, Pt.locs, Pt.cells, Pt.slots] at X33 l33 y33 z33 st33 hQ33
      subst l33 y33 z33
      obtain ⟨rfl, N33q, e33⟩ := hQ33
      have N33 := Fr.app N32 N33q
      refine Go.of (fun tg_ kk_ => st33.trans kk_) ?_
      show Go p e below T33 (mkF m 57 #[.val (.int p0), .val (.int p1), .val (.int (1 : Int32)), .val (.int (1 : Int32)), .val (.ref aN), .val (.ref aN), .val (.ref aN), .val (.int (1 : Int32))] [(.int (1 : Int32))]) _
      refine Go.of (fun tg_ kk_ => XS.iload X33.here hx rfl (hb hby at_57) rfl kk_) ?_
      show Go p e below T33 (mkF m 59 #[.val (.int p0), .val (.int p1), .val (.int (1 : Int32)), .val (.int (1 : Int32)), .val (.ref aN), .val (.ref aN), .val (.ref aN), .val (.int (1 : Int32))] [(.int (1 : Int32)), (.int (1 : Int32))]) _
      refine Go.of (fun tg_ kk_ => XS.icmpNo X33.here hx rfl (hb hby at_59) rfl (teq (show (1 : Int32) = (1 : Int32) by decide)).2 kk_) ?_
      show Go p e below T33 (mkF m 62 #[.val (.int p0), .val (.int p1), .val (.int (1 : Int32)), .val (.int (1 : Int32)), .val (.ref aN), .val (.ref aN), .val (.ref aN), .val (.int (1 : Int32))] []) _
      refine Go.of (fun tg_ kk_ => XS.iconst X33.here hx rfl (hb hby at_62) kk_) ?_
      show Go p e below T33 (mkF m 63 #[.val (.int p0), .val (.int p1), .val (.int (1 : Int32)), .val (.int (1 : Int32)), .val (.ref aN), .val (.ref aN), .val (.ref aN), .val (.int (1 : Int32))] [(.int (1 : Int32))]) _
      refine Go.of (fun tg_ kk_ => XS.goto X33.here hx rfl (pc0 := 63) (pc' := 67) rfl (hb hby at_63) (by decide) (by decide) kk_) ?_
      show Go p e below T33 (mkF m 67 #[.val (.int p0), .val (.int p1), .val (.int (1 : Int32)), .val (.int (1 : Int32)), .val (.ref aN), .val (.ref aN), .val (.ref aN), .val (.int (1 : Int32))] [(.int (1 : Int32))]) _
      obtain ⟨fs, hr, hrun, hended, hW, hsame⟩ := X33.leave (v := some (.int (1 : Int32))) (fun h => by rw [Bd.returns] at h; cases h)
      refine ⟨_, _, ?_, hrun, hended, _, _, rfl, ?_, ⟨_, rfl⟩, hW, hsame.mono (by decide) (by decide)⟩
      · exact retN X33 hx (t := .boolean) Bd.returns (by simp) (hb hby at_67) hr
      · show Q0 Z p0 p1 aO aN aU h0 n0 _ T33.heap _
        rw [e33]
        exact ⟨rfl, N33⟩
    · subst hs21
      show Go p e below s₁ (mkF m 13 #[.val (.int p0), .val (.int p1), .val (.int (1 : Int32)), .unset, .unset, .unset, .unset, .unset] [(.int (2 : Int32))]) _
      refine Go.of (fun tg_ kk_ => XS.istoreN X0.here hx rfl (hb hby at_13) rfl (l' := #[.val (.int p0), .val (.int p1), .val (.int (1 : Int32)), .val (.int (2 : Int32)), .unset, .unset, .unset, .unset]) rfl kk_) ?_
      show Go p e below s₁ (mkF m 14 #[.val (.int p0), .val (.int p1), .val (.int (1 : Int32)), .val (.int (2 : Int32)), .unset, .unset, .unset, .unset] []) _
      refine Go.of (fun tg_ kk_ => XS.iloadN X0.here hx rfl (hb hby at_14) rfl kk_) ?_
      show Go p e below s₁ (mkF m 15 #[.val (.int p0), .val (.int p1), .val (.int (1 : Int32)), .val (.int (2 : Int32)), .unset, .unset, .unset, .unset] [(.int (1 : Int32))]) _
      obtain ⟨_, _, ⟨T34, L34, k34, n34⟩, -, X34, ⟨Lc34, hQ34, l34, y34, z34⟩, st34⟩ := Jvm.LawKit.callS X0 hx (y := (⟨"com/example/attestry/attestry/ExitStatusWorsePinLaw", "pick", "(I)Lcom/example/attestry/attestry/ExitStatus;"⟩ : MethodName)) hown (mvT hZ (hw _ (List.mem_of_getElem? (i := 1) rfl))) (mvT hZ (hw _ (List.mem_of_getElem? (i := 2) rfl))) (mvT hZ (hw _ (List.mem_of_getElem? (i := 3) rfl))) (mvT hZ (hw _ (List.mem_of_getElem? (i := 4) rfl))) (by decide) (backOf (W := 0) (rm1 l Z a0 hw [] (1 : Int32) aO aN aU h0 n0 Z0 SaO SaN SaU) hZ (hw _ (List.mem_of_getElem? (i := 4) rfl)) (hw _ (List.mem_of_getElem? (i := 3) rfl)) (by decide) (by decide)) (g := (mkF m 15 #[.val (.int p0), .val (.int p1), .val (.int (1 : Int32)), .val (.int (2 : Int32)), .unset, .unset, .unset, .unset] [(.int (1 : Int32))])) rfl (by rw [hml]; rfl) (argsL := [(.int (1 : Int32))]) (rest := []) (lenOf pd_0 rfl) rfl (by show 2 * 0 + _ ≤ _; exact Nat.le_of_eq rfl) (hb hby at_15) (fun _ _ => ⟨rfl, e0, (by decide : 0 + 0 ≤ _), (by decide : 0 + 0 ≤ _)⟩)
      dsimp only [Pt.U, Pt.locs, Pt.cells, Pt.slots] at X34 l34 y34 z34 st34 hQ34
      subst l34 y34 z34
      obtain ⟨hv34, N34q, e34⟩ := hQ34
      rw [pick_1] at hv34
      subst hv34
      have N34 := Fr.app N0 N34q
      refine Go.of (st34) ?_
      show Go p e below T34 (mkF m 18 #[.val (.int p0), .val (.int p1), .val (.int (1 : Int32)), .val (.int (2 : Int32)), .unset, .unset, .unset, .unset] [(.ref aN)]) _
      refine Go.of (fun tg_ kk_ => XS.astore X34.here hx rfl (hb hby at_18) rfl rfl (l' := #[.val (.int p0), .val (.int p1), .val (.int (1 : Int32)), .val (.int (2 : Int32)), .val (.ref aN), .unset, .unset, .unset]) rfl kk_) ?_
      show Go p e below T34 (mkF m 20 #[.val (.int p0), .val (.int p1), .val (.int (1 : Int32)), .val (.int (2 : Int32)), .val (.ref aN), .unset, .unset, .unset] []) _
      refine Go.of (fun tg_ kk_ => XS.iloadN X34.here hx rfl (hb hby at_20) rfl kk_) ?_
      show Go p e below T34 (mkF m 21 #[.val (.int p0), .val (.int p1), .val (.int (1 : Int32)), .val (.int (2 : Int32)), .val (.ref aN), .unset, .unset, .unset] [(.int (2 : Int32))]) _
      obtain ⟨_, _, ⟨T35, L35, k35, n35⟩, -, X35, ⟨Lc35, hQ35, l35, y35, z35⟩, st35⟩ := Jvm.LawKit.callS X34 hx (y := (⟨"com/example/attestry/attestry/ExitStatusWorsePinLaw", "pick", "(I)Lcom/example/attestry/attestry/ExitStatus;"⟩ : MethodName)) hown (mvT hZ (hw _ (List.mem_of_getElem? (i := 1) rfl))) (mvT hZ (hw _ (List.mem_of_getElem? (i := 2) rfl))) (mvT hZ (hw _ (List.mem_of_getElem? (i := 3) rfl))) (mvT hZ (hw _ (List.mem_of_getElem? (i := 4) rfl))) (by decide) (backOf (W := 0) (rm1 l Z a0 hw [] (2 : Int32) aO aN aU h0 n0 Z0 SaO SaN SaU) hZ (hw _ (List.mem_of_getElem? (i := 4) rfl)) (hw _ (List.mem_of_getElem? (i := 3) rfl)) (by decide) (by decide)) (g := (mkF m 21 #[.val (.int p0), .val (.int p1), .val (.int (1 : Int32)), .val (.int (2 : Int32)), .val (.ref aN), .unset, .unset, .unset] [(.int (2 : Int32))])) rfl (by rw [hml]; rfl) (argsL := [(.int (2 : Int32))]) (rest := []) (lenOf pd_0 rfl) rfl (by show 2 * 0 + _ ≤ _; exact Nat.le_of_eq rfl) (hb hby at_21) (fun _ _ => ⟨rfl, e34, (by decide : 0 + 0 ≤ _), (by decide : 0 + 0 ≤ _)⟩)
      dsimp only [Pt.U, Pt.locs, Pt.cells, Pt.slots] at X35 l35 y35 z35 st35 hQ35
      subst l35 y35 z35
      obtain ⟨hv35, N35q, e35⟩ := hQ35
      rw [pick_2] at hv35
      subst hv35
      have N35 := Fr.app N34 N35q
      refine Go.of (st35) ?_
      show Go p e below T35 (mkF m 24 #[.val (.int p0), .val (.int p1), .val (.int (1 : Int32)), .val (.int (2 : Int32)), .val (.ref aN), .unset, .unset, .unset] [(.ref aU)]) _
      refine Go.of (fun tg_ kk_ => XS.astore X35.here hx rfl (hb hby at_24) rfl rfl (l' := #[.val (.int p0), .val (.int p1), .val (.int (1 : Int32)), .val (.int (2 : Int32)), .val (.ref aN), .val (.ref aU), .unset, .unset]) rfl kk_) ?_
      show Go p e below T35 (mkF m 26 #[.val (.int p0), .val (.int p1), .val (.int (1 : Int32)), .val (.int (2 : Int32)), .val (.ref aN), .val (.ref aU), .unset, .unset] []) _
      refine Go.of (fun tg_ kk_ => XS.aload X35.here hx rfl (hb hby at_26) rfl rfl kk_) ?_
      show Go p e below T35 (mkF m 28 #[.val (.int p0), .val (.int p1), .val (.int (1 : Int32)), .val (.int (2 : Int32)), .val (.ref aN), .val (.ref aU), .unset, .unset] [(.ref aN)]) _
      refine Go.of (fun tg_ kk_ => XS.aload X35.here hx rfl (hb hby at_28) rfl rfl kk_) ?_
      show Go p e below T35 (mkF m 30 #[.val (.int p0), .val (.int p1), .val (.int (1 : Int32)), .val (.int (2 : Int32)), .val (.ref aN), .val (.ref aU), .unset, .unset] [(.ref aU), (.ref aN)]) _
      obtain ⟨cq36, kq36, q36a, q36b, q36c⟩ := isOf hZ e35 EaN
      obtain ⟨_, _, ⟨T36, L36, k36, n36⟩, -, X36, ⟨Lc36, hQ36, l36, y36, z36⟩, st36⟩ := X35.virtualBack hx (y := (⟨"com/example/attestry/attestry/ExitStatus", "worse", "(Lcom/example/attestry/attestry/ExitStatus;)Lcom/example/attestry/attestry/ExitStatus;"⟩ : MethodName)) (z := (⟨"com/example/attestry/attestry/ExitStatus", "worse", "(Lcom/example/attestry/attestry/ExitStatus;)Lcom/example/attestry/attestry/ExitStatus;"⟩ : MethodName)) hown (mvT hZ (hw _ (List.mem_of_getElem? (i := 8) rfl))) (mvT hZ (hw _ (List.mem_of_getElem? (i := 9) rfl))) (notFace_of_selects (args := #[]) (mvT hZ (hw _ (List.mem_of_getElem? (i := 11) rfl)))) (mvT hZ (hw _ (List.mem_of_getElem? (i := 11) rfl))) (mvT hZ (hw _ (List.mem_of_getElem? (i := 10) rfl))) (by decide) (backOf (W := 0) (rm2 l Z a0 hw [] aN aU (1 : Int32) (2 : Int32) h0 n0 Z0 FaN FaU) hZ (hw _ (List.mem_of_getElem? (i := 12) rfl)) (hw _ (List.mem_of_getElem? (i := 6) rfl)) (by decide) (by decide)) q36a q36c (g := (mkF m 30 #[.val (.int p0), .val (.int p1), .val (.int (1 : Int32)), .val (.int (2 : Int32)), .val (.ref aN), .val (.ref aU), .unset, .unset] [(.ref aU), (.ref aN)])) rfl (by rw [hml]; rfl) (Steps.refl _) (argsL := [(.ref aU)]) (rest := []) (lenOf pd_1 rfl) rfl (by show 2 * 0 + _ ≤ _; exact Nat.le_of_eq rfl) (hb hby at_30) (fun _ _ => ⟨rfl, e35, (by decide : 0 + 0 ≤ _), (by decide : 0 + 0 ≤ _)⟩)
      dsimp only [Pt.U, Pt.locs, Pt.cells, Pt.slots] at X36 l36 y36 z36 st36 hQ36
      subst l36 y36 z36
      obtain ⟨hv36, N36q, e36⟩ := hQ36
      rw [if_pos (show (1 : Int32) < (2 : Int32) by decide)] at hv36
      subst hv36
      have N36 := Fr.app N35 N36q
      refine Go.of (fun tg_ kk_ => st36.trans kk_) ?_
      show Go p e below T36 (mkF m 33 #[.val (.int p0), .val (.int p1), .val (.int (1 : Int32)), .val (.int (2 : Int32)), .val (.ref aN), .val (.ref aU), .unset, .unset] [(.ref aU)]) _
      refine Go.of (fun tg_ kk_ => XS.astore X36.here hx rfl (hb hby at_33) rfl rfl (l' := #[.val (.int p0), .val (.int p1), .val (.int (1 : Int32)), .val (.int (2 : Int32)), .val (.ref aN), .val (.ref aU), .val (.ref aU), .unset]) rfl kk_) ?_
      show Go p e below T36 (mkF m 35 #[.val (.int p0), .val (.int p1), .val (.int (1 : Int32)), .val (.int (2 : Int32)), .val (.ref aN), .val (.ref aU), .val (.ref aU), .unset] []) _
      refine Go.of (fun tg_ kk_ => XS.iloadN X36.here hx rfl (hb hby at_35) rfl kk_) ?_
      show Go p e below T36 (mkF m 36 #[.val (.int p0), .val (.int p1), .val (.int (1 : Int32)), .val (.int (2 : Int32)), .val (.ref aN), .val (.ref aU), .val (.ref aU), .unset] [(.int (1 : Int32))]) _
      refine Go.of (fun tg_ kk_ => XS.iloadN X36.here hx rfl (hb hby at_36) rfl kk_) ?_
      show Go p e below T36 (mkF m 37 #[.val (.int p0), .val (.int p1), .val (.int (1 : Int32)), .val (.int (2 : Int32)), .val (.ref aN), .val (.ref aU), .val (.ref aU), .unset] [(.int (2 : Int32)), (.int (1 : Int32))]) _
      obtain ⟨_, _, ⟨T37, L37, k37, n37⟩, -, X37, ⟨Lc37, hQ37, l37, y37, z37⟩, st37⟩ := Jvm.LawKit.callS X36 hx (y := (⟨"java/lang/Math", "max", "(II)I"⟩ : MethodName)) hown (mvT hZ (hw _ (List.mem_of_getElem? (i := 15) rfl))) (mvT hZ (hw _ (List.mem_of_getElem? (i := 16) rfl))) (mvT hZ (hw _ (List.mem_of_getElem? (i := 17) rfl))) (mvT hZ (hw _ (List.mem_of_getElem? (i := 18) rfl))) (by decide) (backOf (W := 0) (rm3 l Z a0 hw [] (1 : Int32) (2 : Int32) h0 n0 Z0) hZ (hw _ (List.mem_of_getElem? (i := 18) rfl)) (hw _ (List.mem_of_getElem? (i := 17) rfl)) (by decide) (by decide)) (g := (mkF m 37 #[.val (.int p0), .val (.int p1), .val (.int (1 : Int32)), .val (.int (2 : Int32)), .val (.ref aN), .val (.ref aU), .val (.ref aU), .unset] [(.int (2 : Int32)), (.int (1 : Int32))])) rfl (by rw [hml]; rfl) (argsL := [(.int (1 : Int32)), (.int (2 : Int32))]) (rest := []) (lenOf pd_2 rfl) rfl (by show 2 * 0 + _ ≤ _; exact Nat.le_of_eq rfl) (hb hby at_37) (fun _ _ => ⟨rfl, e36, (by decide : 0 + 0 ≤ _), (by decide : 0 + 0 ≤ _)⟩)
      dsimp only [Pt.U, Pt.locs, Pt.cells, Pt.slots] at X37 l37 y37 z37 st37 hQ37
      subst l37 y37 z37
      obtain ⟨hv37, N37q, e37⟩ := hQ37
      rw [if_pos (show (1 : Int32) < (2 : Int32) by decide)] at hv37
      subst hv37
      have N37 := Fr.app N36 N37q
      refine Go.of (st37) ?_
      show Go p e below T37 (mkF m 40 #[.val (.int p0), .val (.int p1), .val (.int (1 : Int32)), .val (.int (2 : Int32)), .val (.ref aN), .val (.ref aU), .val (.ref aU), .unset] [(.int (2 : Int32))]) _
      refine Go.of (fun tg_ kk_ => XS.istore X37.here hx rfl (hb hby at_40) rfl (l' := #[.val (.int p0), .val (.int p1), .val (.int (1 : Int32)), .val (.int (2 : Int32)), .val (.ref aN), .val (.ref aU), .val (.ref aU), .val (.int (2 : Int32))]) rfl kk_) ?_
      show Go p e below T37 (mkF m 42 #[.val (.int p0), .val (.int p1), .val (.int (1 : Int32)), .val (.int (2 : Int32)), .val (.ref aN), .val (.ref aU), .val (.ref aU), .val (.int (2 : Int32))] []) _
      refine Go.of (fun tg_ kk_ => XS.aload X37.here hx rfl (hb hby at_42) rfl rfl kk_) ?_
      show Go p e below T37 (mkF m 44 #[.val (.int p0), .val (.int p1), .val (.int (1 : Int32)), .val (.int (2 : Int32)), .val (.ref aN), .val (.ref aU), .val (.ref aU), .val (.int (2 : Int32))] [(.ref aU)]) _
      refine Go.of (fun tg_ kk_ => XS.iload X37.here hx rfl (hb hby at_44) rfl kk_) ?_
      show Go p e below T37 (mkF m 46 #[.val (.int p0), .val (.int p1), .val (.int (1 : Int32)), .val (.int (2 : Int32)), .val (.ref aN), .val (.ref aU), .val (.ref aU), .val (.int (2 : Int32))] [(.int (2 : Int32)), (.ref aU)]) _
      obtain ⟨_, _, ⟨T38, L38, k38, n38⟩, -, X38, ⟨Lc38, hQ38, l38, y38, z38⟩, st38⟩ := Jvm.LawKit.callS X37 hx (y := (⟨"com/example/attestry/attestry/ExitStatusWorsePinLaw", "pick", "(I)Lcom/example/attestry/attestry/ExitStatus;"⟩ : MethodName)) hown (mvT hZ (hw _ (List.mem_of_getElem? (i := 1) rfl))) (mvT hZ (hw _ (List.mem_of_getElem? (i := 2) rfl))) (mvT hZ (hw _ (List.mem_of_getElem? (i := 3) rfl))) (mvT hZ (hw _ (List.mem_of_getElem? (i := 4) rfl))) (by decide) (backOf (W := 1) (rm1 l Z a0 hw [] (2 : Int32) aO aN aU h0 n0 Z0 SaO SaN SaU) hZ (hw _ (List.mem_of_getElem? (i := 4) rfl)) (hw _ (List.mem_of_getElem? (i := 3) rfl)) (by decide) (by decide)) (g := (mkF m 46 #[.val (.int p0), .val (.int p1), .val (.int (1 : Int32)), .val (.int (2 : Int32)), .val (.ref aN), .val (.ref aU), .val (.ref aU), .val (.int (2 : Int32))] [(.int (2 : Int32)), (.ref aU)])) rfl (by rw [hml]; rfl) (argsL := [(.int (2 : Int32))]) (rest := [(.ref aU)]) (lenOf pd_0 rfl) rfl (by show 2 * 0 + _ ≤ _; exact Nat.le_of_eq rfl) (hb hby at_46) (fun _ _ => ⟨rfl, e37, (by decide : 0 + 0 ≤ _), (by decide : 0 + 0 ≤ _)⟩)
      dsimp only [Pt.U, Pt.locs, Pt.cells, Pt.slots] at X38 l38 y38 z38 st38 hQ38
      subst l38 y38 z38
      obtain ⟨hv38, N38q, e38⟩ := hQ38
      rw [pick_2] at hv38
      subst hv38
      have N38 := Fr.app N37 N38q
      refine Go.of (st38) ?_
      show Go p e below T38 (mkF m 49 #[.val (.int p0), .val (.int p1), .val (.int (1 : Int32)), .val (.int (2 : Int32)), .val (.ref aN), .val (.ref aU), .val (.ref aU), .val (.int (2 : Int32))] [(.ref aU), (.ref aU)]) _
      refine Go.of (fun tg_ kk_ => Jvm.RoadKit.acmp (g := (mkF m 49 #[.val (.int p0), .val (.int p1), .val (.int (1 : Int32)), .val (.int (2 : Int32)), .val (.ref aN), .val (.ref aU), .val (.ref aU), .val (.int (2 : Int32))] [(.ref aU), (.ref aU)])) X38 hx rfl rfl rfl (pc0 := 49) (pc' := 52) (same := true) rfl (hb hby at_49) rfl (decide_eq_true rfl) (by decide) (by decide) kk_) ?_
      show Go p e below T38 (mkF m 52 #[.val (.int p0), .val (.int p1), .val (.int (1 : Int32)), .val (.int (2 : Int32)), .val (.ref aN), .val (.ref aU), .val (.ref aU), .val (.int (2 : Int32))] []) _
      refine Go.of (fun tg_ kk_ => XS.aload X38.here hx rfl (hb hby at_52) rfl rfl kk_) ?_
      show Go p e below T38 (mkF m 54 #[.val (.int p0), .val (.int p1), .val (.int (1 : Int32)), .val (.int (2 : Int32)), .val (.ref aN), .val (.ref aU), .val (.ref aU), .val (.int (2 : Int32))] [(.ref aU)]) _
      obtain ⟨cq39, kq39, q39a, q39b, q39c⟩ := isOf hZ e38 EaU
      obtain ⟨_, _, ⟨T39, L39, k39, n39⟩, -, X39, ⟨Lc39, hQ39, l39, y39, z39⟩, st39⟩ := X38.virtualBack hx (y := (⟨"com/example/attestry/attestry/ExitStatus", "code", "()I"⟩ : MethodName)) (z := (⟨"com/example/attestry/attestry/ExitStatus", "code", "()I"⟩ : MethodName)) hown (mvT hZ (hw _ (List.mem_of_getElem? (i := 19) rfl))) (mvT hZ (hw _ (List.mem_of_getElem? (i := 20) rfl))) (notFace_of_selects (args := #[]) (mvT hZ (hw _ (List.mem_of_getElem? (i := 22) rfl)))) (mvT hZ (hw _ (List.mem_of_getElem? (i := 22) rfl))) (mvT hZ (hw _ (List.mem_of_getElem? (i := 21) rfl))) (by decide) (backOf (W := 0) (rm4 l Z a0 hw [] aU (2 : Int32) h0 n0 Z0 FaU) hZ (hw _ (List.mem_of_getElem? (i := 23) rfl)) (hw _ (List.mem_of_getElem? (i := 6) rfl)) (by decide) (by decide)) q39a q39c (g := (mkF m 54 #[.val (.int p0), .val (.int p1), .val (.int (1 : Int32)), .val (.int (2 : Int32)), .val (.ref aN), .val (.ref aU), .val (.ref aU), .val (.int (2 : Int32))] [(.ref aU)])) rfl (by rw [hml]; rfl) (Steps.refl _) (argsL := []) (rest := []) (lenOf pd_3 rfl) rfl (by show 2 * 0 + _ ≤ _; exact Nat.le_of_eq rfl) (hb hby at_54) (fun _ _ => ⟨rfl, e38, (by decide : 0 + 0 ≤ _), (by decide : 0 + 0 ≤ _)⟩)
      dsimp only [Pt.U, Pt.locs, Pt.cells, Pt.slots] at X39 l39 y39 z39 st39 hQ39
      subst l39 y39 z39
      obtain ⟨rfl, N39q, e39⟩ := hQ39
      have N39 := Fr.app N38 N39q
      refine Go.of (fun tg_ kk_ => st39.trans kk_) ?_
      show Go p e below T39 (mkF m 57 #[.val (.int p0), .val (.int p1), .val (.int (1 : Int32)), .val (.int (2 : Int32)), .val (.ref aN), .val (.ref aU), .val (.ref aU), .val (.int (2 : Int32))] [(.int (2 : Int32))]) _
      refine Go.of (fun tg_ kk_ => XS.iload X39.here hx rfl (hb hby at_57) rfl kk_) ?_
      show Go p e below T39 (mkF m 59 #[.val (.int p0), .val (.int p1), .val (.int (1 : Int32)), .val (.int (2 : Int32)), .val (.ref aN), .val (.ref aU), .val (.ref aU), .val (.int (2 : Int32))] [(.int (2 : Int32)), (.int (2 : Int32))]) _
      refine Go.of (fun tg_ kk_ => XS.icmpNo X39.here hx rfl (hb hby at_59) rfl (teq (show (2 : Int32) = (2 : Int32) by decide)).2 kk_) ?_
      show Go p e below T39 (mkF m 62 #[.val (.int p0), .val (.int p1), .val (.int (1 : Int32)), .val (.int (2 : Int32)), .val (.ref aN), .val (.ref aU), .val (.ref aU), .val (.int (2 : Int32))] []) _
      refine Go.of (fun tg_ kk_ => XS.iconst X39.here hx rfl (hb hby at_62) kk_) ?_
      show Go p e below T39 (mkF m 63 #[.val (.int p0), .val (.int p1), .val (.int (1 : Int32)), .val (.int (2 : Int32)), .val (.ref aN), .val (.ref aU), .val (.ref aU), .val (.int (2 : Int32))] [(.int (1 : Int32))]) _
      refine Go.of (fun tg_ kk_ => XS.goto X39.here hx rfl (pc0 := 63) (pc' := 67) rfl (hb hby at_63) (by decide) (by decide) kk_) ?_
      show Go p e below T39 (mkF m 67 #[.val (.int p0), .val (.int p1), .val (.int (1 : Int32)), .val (.int (2 : Int32)), .val (.ref aN), .val (.ref aU), .val (.ref aU), .val (.int (2 : Int32))] [(.int (1 : Int32))]) _
      obtain ⟨fs, hr, hrun, hended, hW, hsame⟩ := X39.leave (v := some (.int (1 : Int32))) (fun h => by rw [Bd.returns] at h; cases h)
      refine ⟨_, _, ?_, hrun, hended, _, _, rfl, ?_, ⟨_, rfl⟩, hW, hsame.mono (by decide) (by decide)⟩
      · exact retN X39 hx (t := .boolean) Bd.returns (by simp) (hb hby at_67) hr
      · show Q0 Z p0 p1 aO aN aU h0 n0 _ T39.heap _
        rw [e39]
        exact ⟨rfl, N39⟩
  · subst hs1
    show Go p e below s₁ (mkF m 6 #[.val (.int p0), .val (.int p1), .unset, .unset, .unset, .unset, .unset, .unset] [(.int (2 : Int32))]) _
    refine Go.of (fun tg_ kk_ => XS.istoreN X0.here hx rfl (hb hby at_6) rfl (l' := #[.val (.int p0), .val (.int p1), .val (.int (2 : Int32)), .unset, .unset, .unset, .unset, .unset]) rfl kk_) ?_
    show Go p e below s₁ (mkF m 7 #[.val (.int p0), .val (.int p1), .val (.int (2 : Int32)), .unset, .unset, .unset, .unset, .unset] []) _
    refine Go.of (fun tg_ kk_ => XS.iloadN X0.here hx rfl (hb hby at_7) rfl kk_) ?_
    show Go p e below s₁ (mkF m 8 #[.val (.int p0), .val (.int p1), .val (.int (2 : Int32)), .unset, .unset, .unset, .unset, .unset] [(.int p1)]) _
    refine Go.of (X0.ldcInt hx hown (mvT hZ (hw _ (List.mem_of_getElem? (i := 0) rfl))) (g := (mkF m 8 #[.val (.int p0), .val (.int p1), .val (.int (2 : Int32)), .unset, .unset, .unset, .unset, .unset] [(.int p1)])) rfl (hb hby at_8)) ?_
    show Go p e below s₁ (mkF m 10 #[.val (.int p0), .val (.int p1), .val (.int (2 : Int32)), .unset, .unset, .unset, .unset, .unset] [(.int (2147483647 : Int32)), (.int p1)]) _
    refine Go.of (fun tg_ kk_ => XS.iand X0.here hx rfl (hb hby at_10) rfl kk_) ?_
    show Go p e below s₁ (mkF m 11 #[.val (.int p0), .val (.int p1), .val (.int (2 : Int32)), .unset, .unset, .unset, .unset, .unset] [(.int (p1 &&& (2147483647 : Int32)))]) _
    refine Go.of (fun tg_ kk_ => XS.iconst X0.here hx rfl (hb hby at_11) kk_) ?_
    show Go p e below s₁ (mkF m 12 #[.val (.int p0), .val (.int p1), .val (.int (2 : Int32)), .unset, .unset, .unset, .unset, .unset] [(.int (3 : Int32)), (.int (p1 &&& (2147483647 : Int32)))]) _
    refine Go.of (fun tg_ kk_ => Jvm.RoadKit.iremM (g := (mkF m 12 #[.val (.int p0), .val (.int p1), .val (.int (2 : Int32)), .unset, .unset, .unset, .unset, .unset] [(.int (3 : Int32)), (.int (p1 &&& (2147483647 : Int32)))])) X0 hx rfl (hb hby at_12) rfl (by decide) kk_) ?_
    show Go p e below s₁ (mkF m 13 #[.val (.int p0), .val (.int p1), .val (.int (2 : Int32)), .unset, .unset, .unset, .unset, .unset] [(.int ((p1 &&& (2147483647 : Int32)) % (3 : Int32)))]) _
    obtain ⟨jj, qjj⟩ : ∃ z : Int32, z = ((p1 &&& (2147483647 : Int32)) % (3 : Int32)) := ⟨_, rfl⟩
    rw [← qjj]
    show Go p e below s₁ (mkF m 13 #[.val (.int p0), .val (.int p1), .val (.int (2 : Int32)), .unset, .unset, .unset, .unset, .unset] [(.int jj)]) _
    rcases (show jj = (0 : Int32) ∨ jj = (1 : Int32) ∨ jj = (2 : Int32) from by rw [qjj]; exact own_mod3 p1) with hs40 | hs40 | hs40
    · subst hs40
      show Go p e below s₁ (mkF m 13 #[.val (.int p0), .val (.int p1), .val (.int (2 : Int32)), .unset, .unset, .unset, .unset, .unset] [(.int (0 : Int32))]) _
      refine Go.of (fun tg_ kk_ => XS.istoreN X0.here hx rfl (hb hby at_13) rfl (l' := #[.val (.int p0), .val (.int p1), .val (.int (2 : Int32)), .val (.int (0 : Int32)), .unset, .unset, .unset, .unset]) rfl kk_) ?_
      show Go p e below s₁ (mkF m 14 #[.val (.int p0), .val (.int p1), .val (.int (2 : Int32)), .val (.int (0 : Int32)), .unset, .unset, .unset, .unset] []) _
      refine Go.of (fun tg_ kk_ => XS.iloadN X0.here hx rfl (hb hby at_14) rfl kk_) ?_
      show Go p e below s₁ (mkF m 15 #[.val (.int p0), .val (.int p1), .val (.int (2 : Int32)), .val (.int (0 : Int32)), .unset, .unset, .unset, .unset] [(.int (2 : Int32))]) _
      obtain ⟨_, _, ⟨T41, L41, k41, n41⟩, -, X41, ⟨Lc41, hQ41, l41, y41, z41⟩, st41⟩ := Jvm.LawKit.callS X0 hx (y := (⟨"com/example/attestry/attestry/ExitStatusWorsePinLaw", "pick", "(I)Lcom/example/attestry/attestry/ExitStatus;"⟩ : MethodName)) hown (mvT hZ (hw _ (List.mem_of_getElem? (i := 1) rfl))) (mvT hZ (hw _ (List.mem_of_getElem? (i := 2) rfl))) (mvT hZ (hw _ (List.mem_of_getElem? (i := 3) rfl))) (mvT hZ (hw _ (List.mem_of_getElem? (i := 4) rfl))) (by decide) (backOf (W := 0) (rm1 l Z a0 hw [] (2 : Int32) aO aN aU h0 n0 Z0 SaO SaN SaU) hZ (hw _ (List.mem_of_getElem? (i := 4) rfl)) (hw _ (List.mem_of_getElem? (i := 3) rfl)) (by decide) (by decide)) (g := (mkF m 15 #[.val (.int p0), .val (.int p1), .val (.int (2 : Int32)), .val (.int (0 : Int32)), .unset, .unset, .unset, .unset] [(.int (2 : Int32))])) rfl (by rw [hml]; rfl) (argsL := [(.int (2 : Int32))]) (rest := []) (lenOf pd_0 rfl) rfl (by show 2 * 0 + _ ≤ _; exact Nat.le_of_eq rfl) (hb hby at_15) (fun _ _ => ⟨rfl, e0, (by decide : 0 + 0 ≤ _), (by decide : 0 + 0 ≤ _)⟩)
      dsimp only [Pt.U, Pt.locs, Pt.cells, Pt.slots] at X41 l41 y41 z41 st41 hQ41
      subst l41 y41 z41
      obtain ⟨hv41, N41q, e41⟩ := hQ41
      rw [pick_2] at hv41
      subst hv41
      have N41 := Fr.app N0 N41q
      refine Go.of (st41) ?_
      show Go p e below T41 (mkF m 18 #[.val (.int p0), .val (.int p1), .val (.int (2 : Int32)), .val (.int (0 : Int32)), .unset, .unset, .unset, .unset] [(.ref aU)]) _
      refine Go.of (fun tg_ kk_ => XS.astore X41.here hx rfl (hb hby at_18) rfl rfl (l' := #[.val (.int p0), .val (.int p1), .val (.int (2 : Int32)), .val (.int (0 : Int32)), .val (.ref aU), .unset, .unset, .unset]) rfl kk_) ?_
      show Go p e below T41 (mkF m 20 #[.val (.int p0), .val (.int p1), .val (.int (2 : Int32)), .val (.int (0 : Int32)), .val (.ref aU), .unset, .unset, .unset] []) _
      refine Go.of (fun tg_ kk_ => XS.iloadN X41.here hx rfl (hb hby at_20) rfl kk_) ?_
      show Go p e below T41 (mkF m 21 #[.val (.int p0), .val (.int p1), .val (.int (2 : Int32)), .val (.int (0 : Int32)), .val (.ref aU), .unset, .unset, .unset] [(.int (0 : Int32))]) _
      obtain ⟨_, _, ⟨T42, L42, k42, n42⟩, -, X42, ⟨Lc42, hQ42, l42, y42, z42⟩, st42⟩ := Jvm.LawKit.callS X41 hx (y := (⟨"com/example/attestry/attestry/ExitStatusWorsePinLaw", "pick", "(I)Lcom/example/attestry/attestry/ExitStatus;"⟩ : MethodName)) hown (mvT hZ (hw _ (List.mem_of_getElem? (i := 1) rfl))) (mvT hZ (hw _ (List.mem_of_getElem? (i := 2) rfl))) (mvT hZ (hw _ (List.mem_of_getElem? (i := 3) rfl))) (mvT hZ (hw _ (List.mem_of_getElem? (i := 4) rfl))) (by decide) (backOf (W := 0) (rm1 l Z a0 hw [] (0 : Int32) aO aN aU h0 n0 Z0 SaO SaN SaU) hZ (hw _ (List.mem_of_getElem? (i := 4) rfl)) (hw _ (List.mem_of_getElem? (i := 3) rfl)) (by decide) (by decide)) (g := (mkF m 21 #[.val (.int p0), .val (.int p1), .val (.int (2 : Int32)), .val (.int (0 : Int32)), .val (.ref aU), .unset, .unset, .unset] [(.int (0 : Int32))])) rfl (by rw [hml]; rfl) (argsL := [(.int (0 : Int32))]) (rest := []) (lenOf pd_0 rfl) rfl (by show 2 * 0 + _ ≤ _; exact Nat.le_of_eq rfl) (hb hby at_21) (fun _ _ => ⟨rfl, e41, (by decide : 0 + 0 ≤ _), (by decide : 0 + 0 ≤ _)⟩)
      dsimp only [Pt.U, Pt.locs, Pt.cells, Pt.slots] at X42 l42 y42 z42 st42 hQ42
      subst l42 y42 z42
      obtain ⟨hv42, N42q, e42⟩ := hQ42
      rw [pick_0] at hv42
      subst hv42
      have N42 := Fr.app N41 N42q
      refine Go.of (st42) ?_
      show Go p e below T42 (mkF m 24 #[.val (.int p0), .val (.int p1), .val (.int (2 : Int32)), .val (.int (0 : Int32)), .val (.ref aU), .unset, .unset, .unset] [(.ref aO)]) _
      refine Go.of (fun tg_ kk_ => XS.astore X42.here hx rfl (hb hby at_24) rfl rfl (l' := #[.val (.int p0), .val (.int p1), .val (.int (2 : Int32)), .val (.int (0 : Int32)), .val (.ref aU), .val (.ref aO), .unset, .unset]) rfl kk_) ?_
      show Go p e below T42 (mkF m 26 #[.val (.int p0), .val (.int p1), .val (.int (2 : Int32)), .val (.int (0 : Int32)), .val (.ref aU), .val (.ref aO), .unset, .unset] []) _
      refine Go.of (fun tg_ kk_ => XS.aload X42.here hx rfl (hb hby at_26) rfl rfl kk_) ?_
      show Go p e below T42 (mkF m 28 #[.val (.int p0), .val (.int p1), .val (.int (2 : Int32)), .val (.int (0 : Int32)), .val (.ref aU), .val (.ref aO), .unset, .unset] [(.ref aU)]) _
      refine Go.of (fun tg_ kk_ => XS.aload X42.here hx rfl (hb hby at_28) rfl rfl kk_) ?_
      show Go p e below T42 (mkF m 30 #[.val (.int p0), .val (.int p1), .val (.int (2 : Int32)), .val (.int (0 : Int32)), .val (.ref aU), .val (.ref aO), .unset, .unset] [(.ref aO), (.ref aU)]) _
      obtain ⟨cq43, kq43, q43a, q43b, q43c⟩ := isOf hZ e42 EaU
      obtain ⟨_, _, ⟨T43, L43, k43, n43⟩, -, X43, ⟨Lc43, hQ43, l43, y43, z43⟩, st43⟩ := X42.virtualBack hx (y := (⟨"com/example/attestry/attestry/ExitStatus", "worse", "(Lcom/example/attestry/attestry/ExitStatus;)Lcom/example/attestry/attestry/ExitStatus;"⟩ : MethodName)) (z := (⟨"com/example/attestry/attestry/ExitStatus", "worse", "(Lcom/example/attestry/attestry/ExitStatus;)Lcom/example/attestry/attestry/ExitStatus;"⟩ : MethodName)) hown (mvT hZ (hw _ (List.mem_of_getElem? (i := 8) rfl))) (mvT hZ (hw _ (List.mem_of_getElem? (i := 9) rfl))) (notFace_of_selects (args := #[]) (mvT hZ (hw _ (List.mem_of_getElem? (i := 11) rfl)))) (mvT hZ (hw _ (List.mem_of_getElem? (i := 11) rfl))) (mvT hZ (hw _ (List.mem_of_getElem? (i := 10) rfl))) (by decide) (backOf (W := 0) (rm2 l Z a0 hw [] aU aO (2 : Int32) (0 : Int32) h0 n0 Z0 FaU FaO) hZ (hw _ (List.mem_of_getElem? (i := 12) rfl)) (hw _ (List.mem_of_getElem? (i := 6) rfl)) (by decide) (by decide)) q43a q43c (g := (mkF m 30 #[.val (.int p0), .val (.int p1), .val (.int (2 : Int32)), .val (.int (0 : Int32)), .val (.ref aU), .val (.ref aO), .unset, .unset] [(.ref aO), (.ref aU)])) rfl (by rw [hml]; rfl) (Steps.refl _) (argsL := [(.ref aO)]) (rest := []) (lenOf pd_1 rfl) rfl (by show 2 * 0 + _ ≤ _; exact Nat.le_of_eq rfl) (hb hby at_30) (fun _ _ => ⟨rfl, e42, (by decide : 0 + 0 ≤ _), (by decide : 0 + 0 ≤ _)⟩)
      dsimp only [Pt.U, Pt.locs, Pt.cells, Pt.slots] at X43 l43 y43 z43 st43 hQ43
      subst l43 y43 z43
      obtain ⟨hv43, N43q, e43⟩ := hQ43
      rw [if_neg (show ¬ (2 : Int32) < (0 : Int32) by decide)] at hv43
      subst hv43
      have N43 := Fr.app N42 N43q
      refine Go.of (fun tg_ kk_ => st43.trans kk_) ?_
      show Go p e below T43 (mkF m 33 #[.val (.int p0), .val (.int p1), .val (.int (2 : Int32)), .val (.int (0 : Int32)), .val (.ref aU), .val (.ref aO), .unset, .unset] [(.ref aU)]) _
      refine Go.of (fun tg_ kk_ => XS.astore X43.here hx rfl (hb hby at_33) rfl rfl (l' := #[.val (.int p0), .val (.int p1), .val (.int (2 : Int32)), .val (.int (0 : Int32)), .val (.ref aU), .val (.ref aO), .val (.ref aU), .unset]) rfl kk_) ?_
      show Go p e below T43 (mkF m 35 #[.val (.int p0), .val (.int p1), .val (.int (2 : Int32)), .val (.int (0 : Int32)), .val (.ref aU), .val (.ref aO), .val (.ref aU), .unset] []) _
      refine Go.of (fun tg_ kk_ => XS.iloadN X43.here hx rfl (hb hby at_35) rfl kk_) ?_
      show Go p e below T43 (mkF m 36 #[.val (.int p0), .val (.int p1), .val (.int (2 : Int32)), .val (.int (0 : Int32)), .val (.ref aU), .val (.ref aO), .val (.ref aU), .unset] [(.int (2 : Int32))]) _
      refine Go.of (fun tg_ kk_ => XS.iloadN X43.here hx rfl (hb hby at_36) rfl kk_) ?_
      show Go p e below T43 (mkF m 37 #[.val (.int p0), .val (.int p1), .val (.int (2 : Int32)), .val (.int (0 : Int32)), .val (.ref aU), .val (.ref aO), .val (.ref aU), .unset] [(.int (0 : Int32)), (.int (2 : Int32))]) _
      obtain ⟨_, _, ⟨T44, L44, k44, n44⟩, -, X44, ⟨Lc44, hQ44, l44, y44, z44⟩, st44⟩ := Jvm.LawKit.callS X43 hx (y := (⟨"java/lang/Math", "max", "(II)I"⟩ : MethodName)) hown (mvT hZ (hw _ (List.mem_of_getElem? (i := 15) rfl))) (mvT hZ (hw _ (List.mem_of_getElem? (i := 16) rfl))) (mvT hZ (hw _ (List.mem_of_getElem? (i := 17) rfl))) (mvT hZ (hw _ (List.mem_of_getElem? (i := 18) rfl))) (by decide) (backOf (W := 0) (rm3 l Z a0 hw [] (2 : Int32) (0 : Int32) h0 n0 Z0) hZ (hw _ (List.mem_of_getElem? (i := 18) rfl)) (hw _ (List.mem_of_getElem? (i := 17) rfl)) (by decide) (by decide)) (g := (mkF m 37 #[.val (.int p0), .val (.int p1), .val (.int (2 : Int32)), .val (.int (0 : Int32)), .val (.ref aU), .val (.ref aO), .val (.ref aU), .unset] [(.int (0 : Int32)), (.int (2 : Int32))])) rfl (by rw [hml]; rfl) (argsL := [(.int (2 : Int32)), (.int (0 : Int32))]) (rest := []) (lenOf pd_2 rfl) rfl (by show 2 * 0 + _ ≤ _; exact Nat.le_of_eq rfl) (hb hby at_37) (fun _ _ => ⟨rfl, e43, (by decide : 0 + 0 ≤ _), (by decide : 0 + 0 ≤ _)⟩)
      dsimp only [Pt.U, Pt.locs, Pt.cells, Pt.slots] at X44 l44 y44 z44 st44 hQ44
      subst l44 y44 z44
      obtain ⟨hv44, N44q, e44⟩ := hQ44
      rw [if_neg (show ¬ (2 : Int32) < (0 : Int32) by decide)] at hv44
      subst hv44
      have N44 := Fr.app N43 N44q
      refine Go.of (st44) ?_
      show Go p e below T44 (mkF m 40 #[.val (.int p0), .val (.int p1), .val (.int (2 : Int32)), .val (.int (0 : Int32)), .val (.ref aU), .val (.ref aO), .val (.ref aU), .unset] [(.int (2 : Int32))]) _
      refine Go.of (fun tg_ kk_ => XS.istore X44.here hx rfl (hb hby at_40) rfl (l' := #[.val (.int p0), .val (.int p1), .val (.int (2 : Int32)), .val (.int (0 : Int32)), .val (.ref aU), .val (.ref aO), .val (.ref aU), .val (.int (2 : Int32))]) rfl kk_) ?_
      show Go p e below T44 (mkF m 42 #[.val (.int p0), .val (.int p1), .val (.int (2 : Int32)), .val (.int (0 : Int32)), .val (.ref aU), .val (.ref aO), .val (.ref aU), .val (.int (2 : Int32))] []) _
      refine Go.of (fun tg_ kk_ => XS.aload X44.here hx rfl (hb hby at_42) rfl rfl kk_) ?_
      show Go p e below T44 (mkF m 44 #[.val (.int p0), .val (.int p1), .val (.int (2 : Int32)), .val (.int (0 : Int32)), .val (.ref aU), .val (.ref aO), .val (.ref aU), .val (.int (2 : Int32))] [(.ref aU)]) _
      refine Go.of (fun tg_ kk_ => XS.iload X44.here hx rfl (hb hby at_44) rfl kk_) ?_
      show Go p e below T44 (mkF m 46 #[.val (.int p0), .val (.int p1), .val (.int (2 : Int32)), .val (.int (0 : Int32)), .val (.ref aU), .val (.ref aO), .val (.ref aU), .val (.int (2 : Int32))] [(.int (2 : Int32)), (.ref aU)]) _
      obtain ⟨_, _, ⟨T45, L45, k45, n45⟩, -, X45, ⟨Lc45, hQ45, l45, y45, z45⟩, st45⟩ := Jvm.LawKit.callS X44 hx (y := (⟨"com/example/attestry/attestry/ExitStatusWorsePinLaw", "pick", "(I)Lcom/example/attestry/attestry/ExitStatus;"⟩ : MethodName)) hown (mvT hZ (hw _ (List.mem_of_getElem? (i := 1) rfl))) (mvT hZ (hw _ (List.mem_of_getElem? (i := 2) rfl))) (mvT hZ (hw _ (List.mem_of_getElem? (i := 3) rfl))) (mvT hZ (hw _ (List.mem_of_getElem? (i := 4) rfl))) (by decide) (backOf (W := 1) (rm1 l Z a0 hw [] (2 : Int32) aO aN aU h0 n0 Z0 SaO SaN SaU) hZ (hw _ (List.mem_of_getElem? (i := 4) rfl)) (hw _ (List.mem_of_getElem? (i := 3) rfl)) (by decide) (by decide)) (g := (mkF m 46 #[.val (.int p0), .val (.int p1), .val (.int (2 : Int32)), .val (.int (0 : Int32)), .val (.ref aU), .val (.ref aO), .val (.ref aU), .val (.int (2 : Int32))] [(.int (2 : Int32)), (.ref aU)])) rfl (by rw [hml]; rfl) (argsL := [(.int (2 : Int32))]) (rest := [(.ref aU)]) (lenOf pd_0 rfl) rfl (by show 2 * 0 + _ ≤ _; exact Nat.le_of_eq rfl) (hb hby at_46) (fun _ _ => ⟨rfl, e44, (by decide : 0 + 0 ≤ _), (by decide : 0 + 0 ≤ _)⟩)
      dsimp only [Pt.U, Pt.locs, Pt.cells, Pt.slots] at X45 l45 y45 z45 st45 hQ45
      subst l45 y45 z45
      obtain ⟨hv45, N45q, e45⟩ := hQ45
      rw [pick_2] at hv45
      subst hv45
      have N45 := Fr.app N44 N45q
      refine Go.of (st45) ?_
      show Go p e below T45 (mkF m 49 #[.val (.int p0), .val (.int p1), .val (.int (2 : Int32)), .val (.int (0 : Int32)), .val (.ref aU), .val (.ref aO), .val (.ref aU), .val (.int (2 : Int32))] [(.ref aU), (.ref aU)]) _
      refine Go.of (fun tg_ kk_ => Jvm.RoadKit.acmp (g := (mkF m 49 #[.val (.int p0), .val (.int p1), .val (.int (2 : Int32)), .val (.int (0 : Int32)), .val (.ref aU), .val (.ref aO), .val (.ref aU), .val (.int (2 : Int32))] [(.ref aU), (.ref aU)])) X45 hx rfl rfl rfl (pc0 := 49) (pc' := 52) (same := true) rfl (hb hby at_49) rfl (decide_eq_true rfl) (by decide) (by decide) kk_) ?_
      show Go p e below T45 (mkF m 52 #[.val (.int p0), .val (.int p1), .val (.int (2 : Int32)), .val (.int (0 : Int32)), .val (.ref aU), .val (.ref aO), .val (.ref aU), .val (.int (2 : Int32))] []) _
      refine Go.of (fun tg_ kk_ => XS.aload X45.here hx rfl (hb hby at_52) rfl rfl kk_) ?_
      show Go p e below T45 (mkF m 54 #[.val (.int p0), .val (.int p1), .val (.int (2 : Int32)), .val (.int (0 : Int32)), .val (.ref aU), .val (.ref aO), .val (.ref aU), .val (.int (2 : Int32))] [(.ref aU)]) _
      obtain ⟨cq46, kq46, q46a, q46b, q46c⟩ := isOf hZ e45 EaU
      obtain ⟨_, _, ⟨T46, L46, k46, n46⟩, -, X46, ⟨Lc46, hQ46, l46, y46, z46⟩, st46⟩ := X45.virtualBack hx (y := (⟨"com/example/attestry/attestry/ExitStatus", "code", "()I"⟩ : MethodName)) (z := (⟨"com/example/attestry/attestry/ExitStatus", "code", "()I"⟩ : MethodName)) hown (mvT hZ (hw _ (List.mem_of_getElem? (i := 19) rfl))) (mvT hZ (hw _ (List.mem_of_getElem? (i := 20) rfl))) (notFace_of_selects (args := #[]) (mvT hZ (hw _ (List.mem_of_getElem? (i := 22) rfl)))) (mvT hZ (hw _ (List.mem_of_getElem? (i := 22) rfl))) (mvT hZ (hw _ (List.mem_of_getElem? (i := 21) rfl))) (by decide) (backOf (W := 0) (rm4 l Z a0 hw [] aU (2 : Int32) h0 n0 Z0 FaU) hZ (hw _ (List.mem_of_getElem? (i := 23) rfl)) (hw _ (List.mem_of_getElem? (i := 6) rfl)) (by decide) (by decide)) q46a q46c (g := (mkF m 54 #[.val (.int p0), .val (.int p1), .val (.int (2 : Int32)), .val (.int (0 : Int32)), .val (.ref aU), .val (.ref aO), .val (.ref aU), .val (.int (2 : Int32))] [(.ref aU)])) rfl (by rw [hml]; rfl) (Steps.refl _) (argsL := []) (rest := []) (lenOf pd_3 rfl) rfl (by show 2 * 0 + _ ≤ _; exact Nat.le_of_eq rfl) (hb hby at_54) (fun _ _ => ⟨rfl, e45, (by decide : 0 + 0 ≤ _), (by decide : 0 + 0 ≤ _)⟩)
      dsimp only [Pt.U, Pt.locs, Pt.cells, Pt.slots] at X46 l46 y46 z46 st46 hQ46
      subst l46 y46 z46
      obtain ⟨rfl, N46q, e46⟩ := hQ46
      have N46 := Fr.app N45 N46q
      refine Go.of (fun tg_ kk_ => st46.trans kk_) ?_
      show Go p e below T46 (mkF m 57 #[.val (.int p0), .val (.int p1), .val (.int (2 : Int32)), .val (.int (0 : Int32)), .val (.ref aU), .val (.ref aO), .val (.ref aU), .val (.int (2 : Int32))] [(.int (2 : Int32))]) _
      refine Go.of (fun tg_ kk_ => XS.iload X46.here hx rfl (hb hby at_57) rfl kk_) ?_
      show Go p e below T46 (mkF m 59 #[.val (.int p0), .val (.int p1), .val (.int (2 : Int32)), .val (.int (0 : Int32)), .val (.ref aU), .val (.ref aO), .val (.ref aU), .val (.int (2 : Int32))] [(.int (2 : Int32)), (.int (2 : Int32))]) _
      refine Go.of (fun tg_ kk_ => XS.icmpNo X46.here hx rfl (hb hby at_59) rfl (teq (show (2 : Int32) = (2 : Int32) by decide)).2 kk_) ?_
      show Go p e below T46 (mkF m 62 #[.val (.int p0), .val (.int p1), .val (.int (2 : Int32)), .val (.int (0 : Int32)), .val (.ref aU), .val (.ref aO), .val (.ref aU), .val (.int (2 : Int32))] []) _
      refine Go.of (fun tg_ kk_ => XS.iconst X46.here hx rfl (hb hby at_62) kk_) ?_
      show Go p e below T46 (mkF m 63 #[.val (.int p0), .val (.int p1), .val (.int (2 : Int32)), .val (.int (0 : Int32)), .val (.ref aU), .val (.ref aO), .val (.ref aU), .val (.int (2 : Int32))] [(.int (1 : Int32))]) _
      refine Go.of (fun tg_ kk_ => XS.goto X46.here hx rfl (pc0 := 63) (pc' := 67) rfl (hb hby at_63) (by decide) (by decide) kk_) ?_
      show Go p e below T46 (mkF m 67 #[.val (.int p0), .val (.int p1), .val (.int (2 : Int32)), .val (.int (0 : Int32)), .val (.ref aU), .val (.ref aO), .val (.ref aU), .val (.int (2 : Int32))] [(.int (1 : Int32))]) _
      obtain ⟨fs, hr, hrun, hended, hW, hsame⟩ := X46.leave (v := some (.int (1 : Int32))) (fun h => by rw [Bd.returns] at h; cases h)
      refine ⟨_, _, ?_, hrun, hended, _, _, rfl, ?_, ⟨_, rfl⟩, hW, hsame.mono (by decide) (by decide)⟩
      · exact retN X46 hx (t := .boolean) Bd.returns (by simp) (hb hby at_67) hr
      · show Q0 Z p0 p1 aO aN aU h0 n0 _ T46.heap _
        rw [e46]
        exact ⟨rfl, N46⟩
    · subst hs40
      show Go p e below s₁ (mkF m 13 #[.val (.int p0), .val (.int p1), .val (.int (2 : Int32)), .unset, .unset, .unset, .unset, .unset] [(.int (1 : Int32))]) _
      refine Go.of (fun tg_ kk_ => XS.istoreN X0.here hx rfl (hb hby at_13) rfl (l' := #[.val (.int p0), .val (.int p1), .val (.int (2 : Int32)), .val (.int (1 : Int32)), .unset, .unset, .unset, .unset]) rfl kk_) ?_
      show Go p e below s₁ (mkF m 14 #[.val (.int p0), .val (.int p1), .val (.int (2 : Int32)), .val (.int (1 : Int32)), .unset, .unset, .unset, .unset] []) _
      refine Go.of (fun tg_ kk_ => XS.iloadN X0.here hx rfl (hb hby at_14) rfl kk_) ?_
      show Go p e below s₁ (mkF m 15 #[.val (.int p0), .val (.int p1), .val (.int (2 : Int32)), .val (.int (1 : Int32)), .unset, .unset, .unset, .unset] [(.int (2 : Int32))]) _
      obtain ⟨_, _, ⟨T47, L47, k47, n47⟩, -, X47, ⟨Lc47, hQ47, l47, y47, z47⟩, st47⟩ := Jvm.LawKit.callS X0 hx (y := (⟨"com/example/attestry/attestry/ExitStatusWorsePinLaw", "pick", "(I)Lcom/example/attestry/attestry/ExitStatus;"⟩ : MethodName)) hown (mvT hZ (hw _ (List.mem_of_getElem? (i := 1) rfl))) (mvT hZ (hw _ (List.mem_of_getElem? (i := 2) rfl))) (mvT hZ (hw _ (List.mem_of_getElem? (i := 3) rfl))) (mvT hZ (hw _ (List.mem_of_getElem? (i := 4) rfl))) (by decide) (backOf (W := 0) (rm1 l Z a0 hw [] (2 : Int32) aO aN aU h0 n0 Z0 SaO SaN SaU) hZ (hw _ (List.mem_of_getElem? (i := 4) rfl)) (hw _ (List.mem_of_getElem? (i := 3) rfl)) (by decide) (by decide)) (g := (mkF m 15 #[.val (.int p0), .val (.int p1), .val (.int (2 : Int32)), .val (.int (1 : Int32)), .unset, .unset, .unset, .unset] [(.int (2 : Int32))])) rfl (by rw [hml]; rfl) (argsL := [(.int (2 : Int32))]) (rest := []) (lenOf pd_0 rfl) rfl (by show 2 * 0 + _ ≤ _; exact Nat.le_of_eq rfl) (hb hby at_15) (fun _ _ => ⟨rfl, e0, (by decide : 0 + 0 ≤ _), (by decide : 0 + 0 ≤ _)⟩)
      dsimp only [Pt.U, Pt.locs, Pt.cells, Pt.slots] at X47 l47 y47 z47 st47 hQ47
      subst l47 y47 z47
      obtain ⟨hv47, N47q, e47⟩ := hQ47
      rw [pick_2] at hv47
      subst hv47
      have N47 := Fr.app N0 N47q
      refine Go.of (st47) ?_
      show Go p e below T47 (mkF m 18 #[.val (.int p0), .val (.int p1), .val (.int (2 : Int32)), .val (.int (1 : Int32)), .unset, .unset, .unset, .unset] [(.ref aU)]) _
      refine Go.of (fun tg_ kk_ => XS.astore X47.here hx rfl (hb hby at_18) rfl rfl (l' := #[.val (.int p0), .val (.int p1), .val (.int (2 : Int32)), .val (.int (1 : Int32)), .val (.ref aU), .unset, .unset, .unset]) rfl kk_) ?_
      show Go p e below T47 (mkF m 20 #[.val (.int p0), .val (.int p1), .val (.int (2 : Int32)), .val (.int (1 : Int32)), .val (.ref aU), .unset, .unset, .unset] []) _
      refine Go.of (fun tg_ kk_ => XS.iloadN X47.here hx rfl (hb hby at_20) rfl kk_) ?_
      show Go p e below T47 (mkF m 21 #[.val (.int p0), .val (.int p1), .val (.int (2 : Int32)), .val (.int (1 : Int32)), .val (.ref aU), .unset, .unset, .unset] [(.int (1 : Int32))]) _
      obtain ⟨_, _, ⟨T48, L48, k48, n48⟩, -, X48, ⟨Lc48, hQ48, l48, y48, z48⟩, st48⟩ := Jvm.LawKit.callS X47 hx (y := (⟨"com/example/attestry/attestry/ExitStatusWorsePinLaw", "pick", "(I)Lcom/example/attestry/attestry/ExitStatus;"⟩ : MethodName)) hown (mvT hZ (hw _ (List.mem_of_getElem? (i := 1) rfl))) (mvT hZ (hw _ (List.mem_of_getElem? (i := 2) rfl))) (mvT hZ (hw _ (List.mem_of_getElem? (i := 3) rfl))) (mvT hZ (hw _ (List.mem_of_getElem? (i := 4) rfl))) (by decide) (backOf (W := 0) (rm1 l Z a0 hw [] (1 : Int32) aO aN aU h0 n0 Z0 SaO SaN SaU) hZ (hw _ (List.mem_of_getElem? (i := 4) rfl)) (hw _ (List.mem_of_getElem? (i := 3) rfl)) (by decide) (by decide)) (g := (mkF m 21 #[.val (.int p0), .val (.int p1), .val (.int (2 : Int32)), .val (.int (1 : Int32)), .val (.ref aU), .unset, .unset, .unset] [(.int (1 : Int32))])) rfl (by rw [hml]; rfl) (argsL := [(.int (1 : Int32))]) (rest := []) (lenOf pd_0 rfl) rfl (by show 2 * 0 + _ ≤ _; exact Nat.le_of_eq rfl) (hb hby at_21) (fun _ _ => ⟨rfl, e47, (by decide : 0 + 0 ≤ _), (by decide : 0 + 0 ≤ _)⟩)
      dsimp only [Pt.U, Pt.locs, Pt.cells, Pt.slots] at X48 l48 y48 z48 st48 hQ48
      subst l48 y48 z48
      obtain ⟨hv48, N48q, e48⟩ := hQ48
      rw [pick_1] at hv48
      subst hv48
      have N48 := Fr.app N47 N48q
      refine Go.of (st48) ?_
      show Go p e below T48 (mkF m 24 #[.val (.int p0), .val (.int p1), .val (.int (2 : Int32)), .val (.int (1 : Int32)), .val (.ref aU), .unset, .unset, .unset] [(.ref aN)]) _
      refine Go.of (fun tg_ kk_ => XS.astore X48.here hx rfl (hb hby at_24) rfl rfl (l' := #[.val (.int p0), .val (.int p1), .val (.int (2 : Int32)), .val (.int (1 : Int32)), .val (.ref aU), .val (.ref aN), .unset, .unset]) rfl kk_) ?_
      show Go p e below T48 (mkF m 26 #[.val (.int p0), .val (.int p1), .val (.int (2 : Int32)), .val (.int (1 : Int32)), .val (.ref aU), .val (.ref aN), .unset, .unset] []) _
      refine Go.of (fun tg_ kk_ => XS.aload X48.here hx rfl (hb hby at_26) rfl rfl kk_) ?_
      show Go p e below T48 (mkF m 28 #[.val (.int p0), .val (.int p1), .val (.int (2 : Int32)), .val (.int (1 : Int32)), .val (.ref aU), .val (.ref aN), .unset, .unset] [(.ref aU)]) _
      refine Go.of (fun tg_ kk_ => XS.aload X48.here hx rfl (hb hby at_28) rfl rfl kk_) ?_
      show Go p e below T48 (mkF m 30 #[.val (.int p0), .val (.int p1), .val (.int (2 : Int32)), .val (.int (1 : Int32)), .val (.ref aU), .val (.ref aN), .unset, .unset] [(.ref aN), (.ref aU)]) _
      obtain ⟨cq49, kq49, q49a, q49b, q49c⟩ := isOf hZ e48 EaU
      obtain ⟨_, _, ⟨T49, L49, k49, n49⟩, -, X49, ⟨Lc49, hQ49, l49, y49, z49⟩, st49⟩ := X48.virtualBack hx (y := (⟨"com/example/attestry/attestry/ExitStatus", "worse", "(Lcom/example/attestry/attestry/ExitStatus;)Lcom/example/attestry/attestry/ExitStatus;"⟩ : MethodName)) (z := (⟨"com/example/attestry/attestry/ExitStatus", "worse", "(Lcom/example/attestry/attestry/ExitStatus;)Lcom/example/attestry/attestry/ExitStatus;"⟩ : MethodName)) hown (mvT hZ (hw _ (List.mem_of_getElem? (i := 8) rfl))) (mvT hZ (hw _ (List.mem_of_getElem? (i := 9) rfl))) (notFace_of_selects (args := #[]) (mvT hZ (hw _ (List.mem_of_getElem? (i := 11) rfl)))) (mvT hZ (hw _ (List.mem_of_getElem? (i := 11) rfl))) (mvT hZ (hw _ (List.mem_of_getElem? (i := 10) rfl))) (by decide) (backOf (W := 0) (rm2 l Z a0 hw [] aU aN (2 : Int32) (1 : Int32) h0 n0 Z0 FaU FaN) hZ (hw _ (List.mem_of_getElem? (i := 12) rfl)) (hw _ (List.mem_of_getElem? (i := 6) rfl)) (by decide) (by decide)) q49a q49c (g := (mkF m 30 #[.val (.int p0), .val (.int p1), .val (.int (2 : Int32)), .val (.int (1 : Int32)), .val (.ref aU), .val (.ref aN), .unset, .unset] [(.ref aN), (.ref aU)])) rfl (by rw [hml]; rfl) (Steps.refl _) (argsL := [(.ref aN)]) (rest := []) (lenOf pd_1 rfl) rfl (by show 2 * 0 + _ ≤ _; exact Nat.le_of_eq rfl) (hb hby at_30) (fun _ _ => ⟨rfl, e48, (by decide : 0 + 0 ≤ _), (by decide : 0 + 0 ≤ _)⟩)
      dsimp only [Pt.U, Pt.locs, Pt.cells, Pt.slots] at X49 l49 y49 z49 st49 hQ49
      subst l49 y49 z49
      obtain ⟨hv49, N49q, e49⟩ := hQ49
      rw [if_neg (show ¬ (2 : Int32) < (1 : Int32) by decide)] at hv49
      subst hv49
      have N49 := Fr.app N48 N49q
      refine Go.of (fun tg_ kk_ => st49.trans kk_) ?_
      show Go p e below T49 (mkF m 33 #[.val (.int p0), .val (.int p1), .val (.int (2 : Int32)), .val (.int (1 : Int32)), .val (.ref aU), .val (.ref aN), .unset, .unset] [(.ref aU)]) _
      refine Go.of (fun tg_ kk_ => XS.astore X49.here hx rfl (hb hby at_33) rfl rfl (l' := #[.val (.int p0), .val (.int p1), .val (.int (2 : Int32)), .val (.int (1 : Int32)), .val (.ref aU), .val (.ref aN), .val (.ref aU), .unset]) rfl kk_) ?_
      show Go p e below T49 (mkF m 35 #[.val (.int p0), .val (.int p1), .val (.int (2 : Int32)), .val (.int (1 : Int32)), .val (.ref aU), .val (.ref aN), .val (.ref aU), .unset] []) _
      refine Go.of (fun tg_ kk_ => XS.iloadN X49.here hx rfl (hb hby at_35) rfl kk_) ?_
      show Go p e below T49 (mkF m 36 #[.val (.int p0), .val (.int p1), .val (.int (2 : Int32)), .val (.int (1 : Int32)), .val (.ref aU), .val (.ref aN), .val (.ref aU), .unset] [(.int (2 : Int32))]) _
      refine Go.of (fun tg_ kk_ => XS.iloadN X49.here hx rfl (hb hby at_36) rfl kk_) ?_
      show Go p e below T49 (mkF m 37 #[.val (.int p0), .val (.int p1), .val (.int (2 : Int32)), .val (.int (1 : Int32)), .val (.ref aU), .val (.ref aN), .val (.ref aU), .unset] [(.int (1 : Int32)), (.int (2 : Int32))]) _
      obtain ⟨_, _, ⟨T50, L50, k50, n50⟩, -, X50, ⟨Lc50, hQ50, l50, y50, z50⟩, st50⟩ := Jvm.LawKit.callS X49 hx (y := (⟨"java/lang/Math", "max", "(II)I"⟩ : MethodName)) hown (mvT hZ (hw _ (List.mem_of_getElem? (i := 15) rfl))) (mvT hZ (hw _ (List.mem_of_getElem? (i := 16) rfl))) (mvT hZ (hw _ (List.mem_of_getElem? (i := 17) rfl))) (mvT hZ (hw _ (List.mem_of_getElem? (i := 18) rfl))) (by decide) (backOf (W := 0) (rm3 l Z a0 hw [] (2 : Int32) (1 : Int32) h0 n0 Z0) hZ (hw _ (List.mem_of_getElem? (i := 18) rfl)) (hw _ (List.mem_of_getElem? (i := 17) rfl)) (by decide) (by decide)) (g := (mkF m 37 #[.val (.int p0), .val (.int p1), .val (.int (2 : Int32)), .val (.int (1 : Int32)), .val (.ref aU), .val (.ref aN), .val (.ref aU), .unset] [(.int (1 : Int32)), (.int (2 : Int32))])) rfl (by rw [hml]; rfl) (argsL := [(.int (2 : Int32)), (.int (1 : Int32))]) (rest := []) (lenOf pd_2 rfl) rfl (by show 2 * 0 + _ ≤ _; exact Nat.le_of_eq rfl) (hb hby at_37) (fun _ _ => ⟨rfl, e49, (by decide : 0 + 0 ≤ _), (by decide : 0 + 0 ≤ _)⟩)
      dsimp only [Pt.U, Pt.locs, Pt.cells, Pt.slots] at X50 l50 y50 z50 st50 hQ50
      subst l50 y50 z50
      obtain ⟨hv50, N50q, e50⟩ := hQ50
      rw [if_neg (show ¬ (2 : Int32) < (1 : Int32) by decide)] at hv50
      subst hv50
      have N50 := Fr.app N49 N50q
      refine Go.of (st50) ?_
      show Go p e below T50 (mkF m 40 #[.val (.int p0), .val (.int p1), .val (.int (2 : Int32)), .val (.int (1 : Int32)), .val (.ref aU), .val (.ref aN), .val (.ref aU), .unset] [(.int (2 : Int32))]) _
      refine Go.of (fun tg_ kk_ => XS.istore X50.here hx rfl (hb hby at_40) rfl (l' := #[.val (.int p0), .val (.int p1), .val (.int (2 : Int32)), .val (.int (1 : Int32)), .val (.ref aU), .val (.ref aN), .val (.ref aU), .val (.int (2 : Int32))]) rfl kk_) ?_
      show Go p e below T50 (mkF m 42 #[.val (.int p0), .val (.int p1), .val (.int (2 : Int32)), .val (.int (1 : Int32)), .val (.ref aU), .val (.ref aN), .val (.ref aU), .val (.int (2 : Int32))] []) _
      refine Go.of (fun tg_ kk_ => XS.aload X50.here hx rfl (hb hby at_42) rfl rfl kk_) ?_
      show Go p e below T50 (mkF m 44 #[.val (.int p0), .val (.int p1), .val (.int (2 : Int32)), .val (.int (1 : Int32)), .val (.ref aU), .val (.ref aN), .val (.ref aU), .val (.int (2 : Int32))] [(.ref aU)]) _
      refine Go.of (fun tg_ kk_ => XS.iload X50.here hx rfl (hb hby at_44) rfl kk_) ?_
      show Go p e below T50 (mkF m 46 #[.val (.int p0), .val (.int p1), .val (.int (2 : Int32)), .val (.int (1 : Int32)), .val (.ref aU), .val (.ref aN), .val (.ref aU), .val (.int (2 : Int32))] [(.int (2 : Int32)), (.ref aU)]) _
      obtain ⟨_, _, ⟨T51, L51, k51, n51⟩, -, X51, ⟨Lc51, hQ51, l51, y51, z51⟩, st51⟩ := Jvm.LawKit.callS X50 hx (y := (⟨"com/example/attestry/attestry/ExitStatusWorsePinLaw", "pick", "(I)Lcom/example/attestry/attestry/ExitStatus;"⟩ : MethodName)) hown (mvT hZ (hw _ (List.mem_of_getElem? (i := 1) rfl))) (mvT hZ (hw _ (List.mem_of_getElem? (i := 2) rfl))) (mvT hZ (hw _ (List.mem_of_getElem? (i := 3) rfl))) (mvT hZ (hw _ (List.mem_of_getElem? (i := 4) rfl))) (by decide) (backOf (W := 1) (rm1 l Z a0 hw [] (2 : Int32) aO aN aU h0 n0 Z0 SaO SaN SaU) hZ (hw _ (List.mem_of_getElem? (i := 4) rfl)) (hw _ (List.mem_of_getElem? (i := 3) rfl)) (by decide) (by decide)) (g := (mkF m 46 #[.val (.int p0), .val (.int p1), .val (.int (2 : Int32)), .val (.int (1 : Int32)), .val (.ref aU), .val (.ref aN), .val (.ref aU), .val (.int (2 : Int32))] [(.int (2 : Int32)), (.ref aU)])) rfl (by rw [hml]; rfl) (argsL := [(.int (2 : Int32))]) (rest := [(.ref aU)]) (lenOf pd_0 rfl) rfl (by show 2 * 0 + _ ≤ _; exact Nat.le_of_eq rfl) (hb hby at_46) (fun _ _ => ⟨rfl, e50, (by decide : 0 + 0 ≤ _), (by decide : 0 + 0 ≤ _)⟩)
      dsimp only [Pt.U, Pt.locs, Pt.cells, Pt.slots] at X51 l51 y51 z51 st51 hQ51
      subst l51 y51 z51
      obtain ⟨hv51, N51q, e51⟩ := hQ51
      rw [pick_2] at hv51
      subst hv51
      have N51 := Fr.app N50 N51q
      refine Go.of (st51) ?_
      show Go p e below T51 (mkF m 49 #[.val (.int p0), .val (.int p1), .val (.int (2 : Int32)), .val (.int (1 : Int32)), .val (.ref aU), .val (.ref aN), .val (.ref aU), .val (.int (2 : Int32))] [(.ref aU), (.ref aU)]) _
      refine Go.of (fun tg_ kk_ => Jvm.RoadKit.acmp (g := (mkF m 49 #[.val (.int p0), .val (.int p1), .val (.int (2 : Int32)), .val (.int (1 : Int32)), .val (.ref aU), .val (.ref aN), .val (.ref aU), .val (.int (2 : Int32))] [(.ref aU), (.ref aU)])) X51 hx rfl rfl rfl (pc0 := 49) (pc' := 52) (same := true) rfl (hb hby at_49) rfl (decide_eq_true rfl) (by decide) (by decide) kk_) ?_
      show Go p e below T51 (mkF m 52 #[.val (.int p0), .val (.int p1), .val (.int (2 : Int32)), .val (.int (1 : Int32)), .val (.ref aU), .val (.ref aN), .val (.ref aU), .val (.int (2 : Int32))] []) _
      refine Go.of (fun tg_ kk_ => XS.aload X51.here hx rfl (hb hby at_52) rfl rfl kk_) ?_
      show Go p e below T51 (mkF m 54 #[.val (.int p0), .val (.int p1), .val (.int (2 : Int32)), .val (.int (1 : Int32)), .val (.ref aU), .val (.ref aN), .val (.ref aU), .val (.int (2 : Int32))] [(.ref aU)]) _
      obtain ⟨cq52, kq52, q52a, q52b, q52c⟩ := isOf hZ e51 EaU
      obtain ⟨_, _, ⟨T52, L52, k52, n52⟩, -, X52, ⟨Lc52, hQ52, l52, y52, z52⟩, st52⟩ := X51.virtualBack hx (y := (⟨"com/example/attestry/attestry/ExitStatus", "code", "()I"⟩ : MethodName)) (z := (⟨"com/example/attestry/attestry/ExitStatus", "code", "()I"⟩ : MethodName)) hown (mvT hZ (hw _ (List.mem_of_getElem? (i := 19) rfl))) (mvT hZ (hw _ (List.mem_of_getElem? (i := 20) rfl))) (notFace_of_selects (args := #[]) (mvT hZ (hw _ (List.mem_of_getElem? (i := 22) rfl)))) (mvT hZ (hw _ (List.mem_of_getElem? (i := 22) rfl))) (mvT hZ (hw _ (List.mem_of_getElem? (i := 21) rfl))) (by decide) (backOf (W := 0) (rm4 l Z a0 hw [] aU (2 : Int32) h0 n0 Z0 FaU) hZ (hw _ (List.mem_of_getElem? (i := 23) rfl)) (hw _ (List.mem_of_getElem? (i := 6) rfl)) (by decide) (by decide)) q52a q52c (g := (mkF m 54 #[.val (.int p0), .val (.int p1), .val (.int (2 : Int32)), .val (.int (1 : Int32)), .val (.ref aU), .val (.ref aN), .val (.ref aU), .val (.int (2 : Int32))] [(.ref aU)])) rfl (by rw [hml]; rfl) (Steps.refl _) (argsL := []) (rest := []) (lenOf pd_3 rfl) rfl (by show 2 * 0 + _ ≤ _; exact Nat.le_of_eq rfl) (hb hby at_54) (fun _ _ => ⟨rfl, e51, (by decide : 0 + 0 ≤ _), (by decide : 0 + 0 ≤ _)⟩)
      dsimp only [Pt.U, Pt.locs, Pt.cells, Pt.slots] at X52 l52 y52 z52 st52 hQ52
      subst l52 y52 z52
      obtain ⟨rfl, N52q, e52⟩ := hQ52
      have N52 := Fr.app N51 N52q
      refine Go.of (fun tg_ kk_ => st52.trans kk_) ?_
      show Go p e below T52 (mkF m 57 #[.val (.int p0), .val (.int p1), .val (.int (2 : Int32)), .val (.int (1 : Int32)), .val (.ref aU), .val (.ref aN), .val (.ref aU), .val (.int (2 : Int32))] [(.int (2 : Int32))]) _
      refine Go.of (fun tg_ kk_ => XS.iload X52.here hx rfl (hb hby at_57) rfl kk_) ?_
      show Go p e below T52 (mkF m 59 #[.val (.int p0), .val (.int p1), .val (.int (2 : Int32)), .val (.int (1 : Int32)), .val (.ref aU), .val (.ref aN), .val (.ref aU), .val (.int (2 : Int32))] [(.int (2 : Int32)), (.int (2 : Int32))]) _
      refine Go.of (fun tg_ kk_ => XS.icmpNo X52.here hx rfl (hb hby at_59) rfl (teq (show (2 : Int32) = (2 : Int32) by decide)).2 kk_) ?_
      show Go p e below T52 (mkF m 62 #[.val (.int p0), .val (.int p1), .val (.int (2 : Int32)), .val (.int (1 : Int32)), .val (.ref aU), .val (.ref aN), .val (.ref aU), .val (.int (2 : Int32))] []) _
      refine Go.of (fun tg_ kk_ => XS.iconst X52.here hx rfl (hb hby at_62) kk_) ?_
      show Go p e below T52 (mkF m 63 #[.val (.int p0), .val (.int p1), .val (.int (2 : Int32)), .val (.int (1 : Int32)), .val (.ref aU), .val (.ref aN), .val (.ref aU), .val (.int (2 : Int32))] [(.int (1 : Int32))]) _
      refine Go.of (fun tg_ kk_ => XS.goto X52.here hx rfl (pc0 := 63) (pc' := 67) rfl (hb hby at_63) (by decide) (by decide) kk_) ?_
      show Go p e below T52 (mkF m 67 #[.val (.int p0), .val (.int p1), .val (.int (2 : Int32)), .val (.int (1 : Int32)), .val (.ref aU), .val (.ref aN), .val (.ref aU), .val (.int (2 : Int32))] [(.int (1 : Int32))]) _
      obtain ⟨fs, hr, hrun, hended, hW, hsame⟩ := X52.leave (v := some (.int (1 : Int32))) (fun h => by rw [Bd.returns] at h; cases h)
      refine ⟨_, _, ?_, hrun, hended, _, _, rfl, ?_, ⟨_, rfl⟩, hW, hsame.mono (by decide) (by decide)⟩
      · exact retN X52 hx (t := .boolean) Bd.returns (by simp) (hb hby at_67) hr
      · show Q0 Z p0 p1 aO aN aU h0 n0 _ T52.heap _
        rw [e52]
        exact ⟨rfl, N52⟩
    · subst hs40
      show Go p e below s₁ (mkF m 13 #[.val (.int p0), .val (.int p1), .val (.int (2 : Int32)), .unset, .unset, .unset, .unset, .unset] [(.int (2 : Int32))]) _
      refine Go.of (fun tg_ kk_ => XS.istoreN X0.here hx rfl (hb hby at_13) rfl (l' := #[.val (.int p0), .val (.int p1), .val (.int (2 : Int32)), .val (.int (2 : Int32)), .unset, .unset, .unset, .unset]) rfl kk_) ?_
      show Go p e below s₁ (mkF m 14 #[.val (.int p0), .val (.int p1), .val (.int (2 : Int32)), .val (.int (2 : Int32)), .unset, .unset, .unset, .unset] []) _
      refine Go.of (fun tg_ kk_ => XS.iloadN X0.here hx rfl (hb hby at_14) rfl kk_) ?_
      show Go p e below s₁ (mkF m 15 #[.val (.int p0), .val (.int p1), .val (.int (2 : Int32)), .val (.int (2 : Int32)), .unset, .unset, .unset, .unset] [(.int (2 : Int32))]) _
      obtain ⟨_, _, ⟨T53, L53, k53, n53⟩, -, X53, ⟨Lc53, hQ53, l53, y53, z53⟩, st53⟩ := Jvm.LawKit.callS X0 hx (y := (⟨"com/example/attestry/attestry/ExitStatusWorsePinLaw", "pick", "(I)Lcom/example/attestry/attestry/ExitStatus;"⟩ : MethodName)) hown (mvT hZ (hw _ (List.mem_of_getElem? (i := 1) rfl))) (mvT hZ (hw _ (List.mem_of_getElem? (i := 2) rfl))) (mvT hZ (hw _ (List.mem_of_getElem? (i := 3) rfl))) (mvT hZ (hw _ (List.mem_of_getElem? (i := 4) rfl))) (by decide) (backOf (W := 0) (rm1 l Z a0 hw [] (2 : Int32) aO aN aU h0 n0 Z0 SaO SaN SaU) hZ (hw _ (List.mem_of_getElem? (i := 4) rfl)) (hw _ (List.mem_of_getElem? (i := 3) rfl)) (by decide) (by decide)) (g := (mkF m 15 #[.val (.int p0), .val (.int p1), .val (.int (2 : Int32)), .val (.int (2 : Int32)), .unset, .unset, .unset, .unset] [(.int (2 : Int32))])) rfl (by rw [hml]; rfl) (argsL := [(.int (2 : Int32))]) (rest := []) (lenOf pd_0 rfl) rfl (by show 2 * 0 + _ ≤ _; exact Nat.le_of_eq rfl) (hb hby at_15) (fun _ _ => ⟨rfl, e0, (by decide : 0 + 0 ≤ _), (by decide : 0 + 0 ≤ _)⟩)
      dsimp only [Pt.U, Pt.locs, Pt.cells, Pt.slots] at X53 l53 y53 z53 st53 hQ53
      subst l53 y53 z53
      obtain ⟨hv53, N53q, e53⟩ := hQ53
      rw [pick_2] at hv53
      subst hv53
      have N53 := Fr.app N0 N53q
      refine Go.of (st53) ?_
      show Go p e below T53 (mkF m 18 #[.val (.int p0), .val (.int p1), .val (.int (2 : Int32)), .val (.int (2 : Int32)), .unset, .unset, .unset, .unset] [(.ref aU)]) _
      refine Go.of (fun tg_ kk_ => XS.astore X53.here hx rfl (hb hby at_18) rfl rfl (l' := #[.val (.int p0), .val (.int p1), .val (.int (2 : Int32)), .val (.int (2 : Int32)), .val (.ref aU), .unset, .unset, .unset]) rfl kk_) ?_
      show Go p e below T53 (mkF m 20 #[.val (.int p0), .val (.int p1), .val (.int (2 : Int32)), .val (.int (2 : Int32)), .val (.ref aU), .unset, .unset, .unset] []) _
      refine Go.of (fun tg_ kk_ => XS.iloadN X53.here hx rfl (hb hby at_20) rfl kk_) ?_
      show Go p e below T53 (mkF m 21 #[.val (.int p0), .val (.int p1), .val (.int (2 : Int32)), .val (.int (2 : Int32)), .val (.ref aU), .unset, .unset, .unset] [(.int (2 : Int32))]) _
      obtain ⟨_, _, ⟨T54, L54, k54, n54⟩, -, X54, ⟨Lc54, hQ54, l54, y54, z54⟩, st54⟩ := Jvm.LawKit.callS X53 hx (y := (⟨"com/example/attestry/attestry/ExitStatusWorsePinLaw", "pick", "(I)Lcom/example/attestry/attestry/ExitStatus;"⟩ : MethodName)) hown (mvT hZ (hw _ (List.mem_of_getElem? (i := 1) rfl))) (mvT hZ (hw _ (List.mem_of_getElem? (i := 2) rfl))) (mvT hZ (hw _ (List.mem_of_getElem? (i := 3) rfl))) (mvT hZ (hw _ (List.mem_of_getElem? (i := 4) rfl))) (by decide) (backOf (W := 0) (rm1 l Z a0 hw [] (2 : Int32) aO aN aU h0 n0 Z0 SaO SaN SaU) hZ (hw _ (List.mem_of_getElem? (i := 4) rfl)) (hw _ (List.mem_of_getElem? (i := 3) rfl)) (by decide) (by decide)) (g := (mkF m 21 #[.val (.int p0), .val (.int p1), .val (.int (2 : Int32)), .val (.int (2 : Int32)), .val (.ref aU), .unset, .unset, .unset] [(.int (2 : Int32))])) rfl (by rw [hml]; rfl) (argsL := [(.int (2 : Int32))]) (rest := []) (lenOf pd_0 rfl) rfl (by show 2 * 0 + _ ≤ _; exact Nat.le_of_eq rfl) (hb hby at_21) (fun _ _ => ⟨rfl, e53, (by decide : 0 + 0 ≤ _), (by decide : 0 + 0 ≤ _)⟩)
      dsimp only [Pt.U, Pt.locs, Pt.cells, Pt.slots] at X54 l54 y54 z54 st54 hQ54
      subst l54 y54 z54
      obtain ⟨hv54, N54q, e54⟩ := hQ54
      rw [pick_2] at hv54
      subst hv54
      have N54 := Fr.app N53 N54q
      refine Go.of (st54) ?_
      show Go p e below T54 (mkF m 24 #[.val (.int p0), .val (.int p1), .val (.int (2 : Int32)), .val (.int (2 : Int32)), .val (.ref aU), .unset, .unset, .unset] [(.ref aU)]) _
      refine Go.of (fun tg_ kk_ => XS.astore X54.here hx rfl (hb hby at_24) rfl rfl (l' := #[.val (.int p0), .val (.int p1), .val (.int (2 : Int32)), .val (.int (2 : Int32)), .val (.ref aU), .val (.ref aU), .unset, .unset]) rfl kk_) ?_
      show Go p e below T54 (mkF m 26 #[.val (.int p0), .val (.int p1), .val (.int (2 : Int32)), .val (.int (2 : Int32)), .val (.ref aU), .val (.ref aU), .unset, .unset] []) _
      refine Go.of (fun tg_ kk_ => XS.aload X54.here hx rfl (hb hby at_26) rfl rfl kk_) ?_
      show Go p e below T54 (mkF m 28 #[.val (.int p0), .val (.int p1), .val (.int (2 : Int32)), .val (.int (2 : Int32)), .val (.ref aU), .val (.ref aU), .unset, .unset] [(.ref aU)]) _
      refine Go.of (fun tg_ kk_ => XS.aload X54.here hx rfl (hb hby at_28) rfl rfl kk_) ?_
      show Go p e below T54 (mkF m 30 #[.val (.int p0), .val (.int p1), .val (.int (2 : Int32)), .val (.int (2 : Int32)), .val (.ref aU), .val (.ref aU), .unset, .unset] [(.ref aU), (.ref aU)]) _
      obtain ⟨cq55, kq55, q55a, q55b, q55c⟩ := isOf hZ e54 EaU
      obtain ⟨_, _, ⟨T55, L55, k55, n55⟩, -, X55, ⟨Lc55, hQ55, l55, y55, z55⟩, st55⟩ := X54.virtualBack hx (y := (⟨"com/example/attestry/attestry/ExitStatus", "worse", "(Lcom/example/attestry/attestry/ExitStatus;)Lcom/example/attestry/attestry/ExitStatus;"⟩ : MethodName)) (z := (⟨"com/example/attestry/attestry/ExitStatus", "worse", "(Lcom/example/attestry/attestry/ExitStatus;)Lcom/example/attestry/attestry/ExitStatus;"⟩ : MethodName)) hown (mvT hZ (hw _ (List.mem_of_getElem? (i := 8) rfl))) (mvT hZ (hw _ (List.mem_of_getElem? (i := 9) rfl))) (notFace_of_selects (args := #[]) (mvT hZ (hw _ (List.mem_of_getElem? (i := 11) rfl)))) (mvT hZ (hw _ (List.mem_of_getElem? (i := 11) rfl))) (mvT hZ (hw _ (List.mem_of_getElem? (i := 10) rfl))) (by decide) (backOf (W := 0) (rm2 l Z a0 hw [] aU aU (2 : Int32) (2 : Int32) h0 n0 Z0 FaU FaU) hZ (hw _ (List.mem_of_getElem? (i := 12) rfl)) (hw _ (List.mem_of_getElem? (i := 6) rfl)) (by decide) (by decide)) q55a q55c (g := (mkF m 30 #[.val (.int p0), .val (.int p1), .val (.int (2 : Int32)), .val (.int (2 : Int32)), .val (.ref aU), .val (.ref aU), .unset, .unset] [(.ref aU), (.ref aU)])) rfl (by rw [hml]; rfl) (Steps.refl _) (argsL := [(.ref aU)]) (rest := []) (lenOf pd_1 rfl) rfl (by show 2 * 0 + _ ≤ _; exact Nat.le_of_eq rfl) (hb hby at_30) (fun _ _ => ⟨rfl, e54, (by decide : 0 + 0 ≤ _), (by decide : 0 + 0 ≤ _)⟩)
      dsimp only [Pt.U, Pt.locs, Pt.cells, Pt.slots] at X55 l55 y55 z55 st55 hQ55
      subst l55 y55 z55
      obtain ⟨hv55, N55q, e55⟩ := hQ55
      rw [if_neg (show ¬ (2 : Int32) < (2 : Int32) by decide)] at hv55
      subst hv55
      have N55 := Fr.app N54 N55q
      refine Go.of (fun tg_ kk_ => st55.trans kk_) ?_
      show Go p e below T55 (mkF m 33 #[.val (.int p0), .val (.int p1), .val (.int (2 : Int32)), .val (.int (2 : Int32)), .val (.ref aU), .val (.ref aU), .unset, .unset] [(.ref aU)]) _
      refine Go.of (fun tg_ kk_ => XS.astore X55.here hx rfl (hb hby at_33) rfl rfl (l' := #[.val (.int p0), .val (.int p1), .val (.int (2 : Int32)), .val (.int (2 : Int32)), .val (.ref aU), .val (.ref aU), .val (.ref aU), .unset]) rfl kk_) ?_
      show Go p e below T55 (mkF m 35 #[.val (.int p0), .val (.int p1), .val (.int (2 : Int32)), .val (.int (2 : Int32)), .val (.ref aU), .val (.ref aU), .val (.ref aU), .unset] []) _
      refine Go.of (fun tg_ kk_ => XS.iloadN X55.here hx rfl (hb hby at_35) rfl kk_) ?_
      show Go p e below T55 (mkF m 36 #[.val (.int p0), .val (.int p1), .val (.int (2 : Int32)), .val (.int (2 : Int32)), .val (.ref aU), .val (.ref aU), .val (.ref aU), .unset] [(.int (2 : Int32))]) _
      refine Go.of (fun tg_ kk_ => XS.iloadN X55.here hx rfl (hb hby at_36) rfl kk_) ?_
      show Go p e below T55 (mkF m 37 #[.val (.int p0), .val (.int p1), .val (.int (2 : Int32)), .val (.int (2 : Int32)), .val (.ref aU), .val (.ref aU), .val (.ref aU), .unset] [(.int (2 : Int32)), (.int (2 : Int32))]) _
      obtain ⟨_, _, ⟨T56, L56, k56, n56⟩, -, X56, ⟨Lc56, hQ56, l56, y56, z56⟩, st56⟩ := Jvm.LawKit.callS X55 hx (y := (⟨"java/lang/Math", "max", "(II)I"⟩ : MethodName)) hown (mvT hZ (hw _ (List.mem_of_getElem? (i := 15) rfl))) (mvT hZ (hw _ (List.mem_of_getElem? (i := 16) rfl))) (mvT hZ (hw _ (List.mem_of_getElem? (i := 17) rfl))) (mvT hZ (hw _ (List.mem_of_getElem? (i := 18) rfl))) (by decide) (backOf (W := 0) (rm3 l Z a0 hw [] (2 : Int32) (2 : Int32) h0 n0 Z0) hZ (hw _ (List.mem_of_getElem? (i := 18) rfl)) (hw _ (List.mem_of_getElem? (i := 17) rfl)) (by decide) (by decide)) (g := (mkF m 37 #[.val (.int p0), .val (.int p1), .val (.int (2 : Int32)), .val (.int (2 : Int32)), .val (.ref aU), .val (.ref aU), .val (.ref aU), .unset] [(.int (2 : Int32)), (.int (2 : Int32))])) rfl (by rw [hml]; rfl) (argsL := [(.int (2 : Int32)), (.int (2 : Int32))]) (rest := []) (lenOf pd_2 rfl) rfl (by show 2 * 0 + _ ≤ _; exact Nat.le_of_eq rfl) (hb hby at_37) (fun _ _ => ⟨rfl, e55, (by decide : 0 + 0 ≤ _), (by decide : 0 + 0 ≤ _)⟩)
      dsimp only [Pt.U, Pt.locs, Pt.cells, Pt.slots] at X56 l56 y56 z56 st56 hQ56
      subst l56 y56 z56
      obtain ⟨hv56, N56q, e56⟩ := hQ56
      rw [if_neg (show ¬ (2 : Int32) < (2 : Int32) by decide)] at hv56
      subst hv56
      have N56 := Fr.app N55 N56q
      refine Go.of (st56) ?_
      show Go p e below T56 (mkF m 40 #[.val (.int p0), .val (.int p1), .val (.int (2 : Int32)), .val (.int (2 : Int32)), .val (.ref aU), .val (.ref aU), .val (.ref aU), .unset] [(.int (2 : Int32))]) _
      refine Go.of (fun tg_ kk_ => XS.istore X56.here hx rfl (hb hby at_40) rfl (l' := #[.val (.int p0), .val (.int p1), .val (.int (2 : Int32)), .val (.int (2 : Int32)), .val (.ref aU), .val (.ref aU), .val (.ref aU), .val (.int (2 : Int32))]) rfl kk_) ?_
      show Go p e below T56 (mkF m 42 #[.val (.int p0), .val (.int p1), .val (.int (2 : Int32)), .val (.int (2 : Int32)), .val (.ref aU), .val (.ref aU), .val (.ref aU), .val (.int (2 : Int32))] []) _
      refine Go.of (fun tg_ kk_ => XS.aload X56.here hx rfl (hb hby at_42) rfl rfl kk_) ?_
      show Go p e below T56 (mkF m 44 #[.val (.int p0), .val (.int p1), .val (.int (2 : Int32)), .val (.int (2 : Int32)), .val (.ref aU), .val (.ref aU), .val (.ref aU), .val (.int (2 : Int32))] [(.ref aU)]) _
      refine Go.of (fun tg_ kk_ => XS.iload X56.here hx rfl (hb hby at_44) rfl kk_) ?_
      show Go p e below T56 (mkF m 46 #[.val (.int p0), .val (.int p1), .val (.int (2 : Int32)), .val (.int (2 : Int32)), .val (.ref aU), .val (.ref aU), .val (.ref aU), .val (.int (2 : Int32))] [(.int (2 : Int32)), (.ref aU)]) _
      obtain ⟨_, _, ⟨T57, L57, k57, n57⟩, -, X57, ⟨Lc57, hQ57, l57, y57, z57⟩, st57⟩ := Jvm.LawKit.callS X56 hx (y := (⟨"com/example/attestry/attestry/ExitStatusWorsePinLaw", "pick", "(I)Lcom/example/attestry/attestry/ExitStatus;"⟩ : MethodName)) hown (mvT hZ (hw _ (List.mem_of_getElem? (i := 1) rfl))) (mvT hZ (hw _ (List.mem_of_getElem? (i := 2) rfl))) (mvT hZ (hw _ (List.mem_of_getElem? (i := 3) rfl))) (mvT hZ (hw _ (List.mem_of_getElem? (i := 4) rfl))) (by decide) (backOf (W := 1) (rm1 l Z a0 hw [] (2 : Int32) aO aN aU h0 n0 Z0 SaO SaN SaU) hZ (hw _ (List.mem_of_getElem? (i := 4) rfl)) (hw _ (List.mem_of_getElem? (i := 3) rfl)) (by decide) (by decide)) (g := (mkF m 46 #[.val (.int p0), .val (.int p1), .val (.int (2 : Int32)), .val (.int (2 : Int32)), .val (.ref aU), .val (.ref aU), .val (.ref aU), .val (.int (2 : Int32))] [(.int (2 : Int32)), (.ref aU)])) rfl (by rw [hml]; rfl) (argsL := [(.int (2 : Int32))]) (rest := [(.ref aU)]) (lenOf pd_0 rfl) rfl (by show 2 * 0 + _ ≤ _; exact Nat.le_of_eq rfl) (hb hby at_46) (fun _ _ => ⟨rfl, e56, (by decide : 0 + 0 ≤ _), (by decide : 0 + 0 ≤ _)⟩)
      dsimp only [Pt.U, Pt.locs, Pt.cells, Pt.slots] at X57 l57 y57 z57 st57 hQ57
      subst l57 y57 z57
      obtain ⟨hv57, N57q, e57⟩ := hQ57
      rw [pick_2] at hv57
      subst hv57
      have N57 := Fr.app N56 N57q
      refine Go.of (st57) ?_
      show Go p e below T57 (mkF m 49 #[.val (.int p0), .val (.int p1), .val (.int (2 : Int32)), .val (.int (2 : Int32)), .val (.ref aU), .val (.ref aU), .val (.ref aU), .val (.int (2 : Int32))] [(.ref aU), (.ref aU)]) _
      refine Go.of (fun tg_ kk_ => Jvm.RoadKit.acmp (g := (mkF m 49 #[.val (.int p0), .val (.int p1), .val (.int (2 : Int32)), .val (.int (2 : Int32)), .val (.ref aU), .val (.ref aU), .val (.ref aU), .val (.int (2 : Int32))] [(.ref aU), (.ref aU)])) X57 hx rfl rfl rfl (pc0 := 49) (pc' := 52) (same := true) rfl (hb hby at_49) rfl (decide_eq_true rfl) (by decide) (by decide) kk_) ?_
      show Go p e below T57 (mkF m 52 #[.val (.int p0), .val (.int p1), .val (.int (2 : Int32)), .val (.int (2 : Int32)), .val (.ref aU), .val (.ref aU), .val (.ref aU), .val (.int (2 : Int32))] []) _
      refine Go.of (fun tg_ kk_ => XS.aload X57.here hx rfl (hb hby at_52) rfl rfl kk_) ?_
      show Go p e below T57 (mkF m 54 #[.val (.int p0), .val (.int p1), .val (.int (2 : Int32)), .val (.int (2 : Int32)), .val (.ref aU), .val (.ref aU), .val (.ref aU), .val (.int (2 : Int32))] [(.ref aU)]) _
      obtain ⟨cq58, kq58, q58a, q58b, q58c⟩ := isOf hZ e57 EaU
      obtain ⟨_, _, ⟨T58, L58, k58, n58⟩, -, X58, ⟨Lc58, hQ58, l58, y58, z58⟩, st58⟩ := X57.virtualBack hx (y := (⟨"com/example/attestry/attestry/ExitStatus", "code", "()I"⟩ : MethodName)) (z := (⟨"com/example/attestry/attestry/ExitStatus", "code", "()I"⟩ : MethodName)) hown (mvT hZ (hw _ (List.mem_of_getElem? (i := 19) rfl))) (mvT hZ (hw _ (List.mem_of_getElem? (i := 20) rfl))) (notFace_of_selects (args := #[]) (mvT hZ (hw _ (List.mem_of_getElem? (i := 22) rfl)))) (mvT hZ (hw _ (List.mem_of_getElem? (i := 22) rfl))) (mvT hZ (hw _ (List.mem_of_getElem? (i := 21) rfl))) (by decide) (backOf (W := 0) (rm4 l Z a0 hw [] aU (2 : Int32) h0 n0 Z0 FaU) hZ (hw _ (List.mem_of_getElem? (i := 23) rfl)) (hw _ (List.mem_of_getElem? (i := 6) rfl)) (by decide) (by decide)) q58a q58c (g := (mkF m 54 #[.val (.int p0), .val (.int p1), .val (.int (2 : Int32)), .val (.int (2 : Int32)), .val (.ref aU), .val (.ref aU), .val (.ref aU), .val (.int (2 : Int32))] [(.ref aU)])) rfl (by rw [hml]; rfl) (Steps.refl _) (argsL := []) (rest := []) (lenOf pd_3 rfl) rfl (by show 2 * 0 + _ ≤ _; exact Nat.le_of_eq rfl) (hb hby at_54) (fun _ _ => ⟨rfl, e57, (by decide : 0 + 0 ≤ _), (by decide : 0 + 0 ≤ _)⟩)
      dsimp only [Pt.U, Pt.locs, Pt.cells, Pt.slots] at X58 l58 y58 z58 st58 hQ58
      subst l58 y58 z58
      obtain ⟨rfl, N58q, e58⟩ := hQ58
      have N58 := Fr.app N57 N58q
      refine Go.of (fun tg_ kk_ => st58.trans kk_) ?_
      show Go p e below T58 (mkF m 57 #[.val (.int p0), .val (.int p1), .val (.int (2 : Int32)), .val (.int (2 : Int32)), .val (.ref aU), .val (.ref aU), .val (.ref aU), .val (.int (2 : Int32))] [(.int (2 : Int32))]) _
      refine Go.of (fun tg_ kk_ => XS.iload X58.here hx rfl (hb hby at_57) rfl kk_) ?_
      show Go p e below T58 (mkF m 59 #[.val (.int p0), .val (.int p1), .val (.int (2 : Int32)), .val (.int (2 : Int32)), .val (.ref aU), .val (.ref aU), .val (.ref aU), .val (.int (2 : Int32))] [(.int (2 : Int32)), (.int (2 : Int32))]) _
      refine Go.of (fun tg_ kk_ => XS.icmpNo X58.here hx rfl (hb hby at_59) rfl (teq (show (2 : Int32) = (2 : Int32) by decide)).2 kk_) ?_
      show Go p e below T58 (mkF m 62 #[.val (.int p0), .val (.int p1), .val (.int (2 : Int32)), .val (.int (2 : Int32)), .val (.ref aU), .val (.ref aU), .val (.ref aU), .val (.int (2 : Int32))] []) _
      refine Go.of (fun tg_ kk_ => XS.iconst X58.here hx rfl (hb hby at_62) kk_) ?_
      show Go p e below T58 (mkF m 63 #[.val (.int p0), .val (.int p1), .val (.int (2 : Int32)), .val (.int (2 : Int32)), .val (.ref aU), .val (.ref aU), .val (.ref aU), .val (.int (2 : Int32))] [(.int (1 : Int32))]) _
      refine Go.of (fun tg_ kk_ => XS.goto X58.here hx rfl (pc0 := 63) (pc' := 67) rfl (hb hby at_63) (by decide) (by decide) kk_) ?_
      show Go p e below T58 (mkF m 67 #[.val (.int p0), .val (.int p1), .val (.int (2 : Int32)), .val (.int (2 : Int32)), .val (.ref aU), .val (.ref aU), .val (.ref aU), .val (.int (2 : Int32))] [(.int (1 : Int32))]) _
      obtain ⟨fs, hr, hrun, hended, hW, hsame⟩ := X58.leave (v := some (.int (1 : Int32))) (fun h => by rw [Bd.returns] at h; cases h)
      refine ⟨_, _, ?_, hrun, hended, _, _, rfl, ?_, ⟨_, rfl⟩, hW, hsame.mono (by decide) (by decide)⟩
      · exact retN X58 hx (t := .boolean) Bd.returns (by simp) (hb hby at_67) hr
      · show Q0 Z p0 p1 aO aN aU h0 n0 _ T58.heap _
        rw [e58]
        exact ⟨rfl, N58⟩
set_option maxRecDepth 65536 in
set_option maxHeartbeats 40000000 in
theorem comes_1 {Post : Tables → Env → Array Value → State → Outcome → State → Prop} (hpost : ∀ tb e args s v u, (limb_1_1.after args s (.returned v) u = true ∧ limb_1_2.after args s (.returned v) u = true ∧ True) → FrameEnd s (.returned v) u (Jvm.fieldLocs frame_1_writes args s ++ Jvm.arrayLocs frame_1_arrays args s ++ Jvm.staticLocs frame_1_statics s) 0 0 → Post tb e args s (.returned v) u) :
    ArmFor flags0 classFile x code maxLocals ret World_1 tables_1 room_1 Calls_1 rest_1 Pre_1 Post := by
  intro l hfl _ _ p e ha hc hk s m args below hf hA hF happ hP
  obtain ⟨hcalls, hrest, hpre⟩ := hP
  obtain ⟨-, -, -, hnamed, -, -, -, hat⟩ := (Spec.applies_iff hf).mp happ
  obtain ⟨hg, hn⟩ := and_e (Cond.before_iff.mp (show (Jvm.Cond.and given_1 narrow_1).before args s = true from hpre))
  obtain ⟨gc, gr0⟩ := and_e hg
  obtain ⟨ga0, gr1⟩ := and_e gr0
  obtain ⟨w0, w1, rfl⟩ : ∃ w0 w1 : Value, args = #[w0, w1] := by
    have hs : args.size = 2 := by simpa [Cond.value, given_1] using gc
    obtain ⟨L⟩ := args
    match L, hs with
    | [w0, w1], _ => exact ⟨w0, w1, rfl⟩
  have hw := fun d (hd : d ∈ tables_1) => atoms_spec (ws := Jvm.Cond.code x code maxLocals ret :: tables_1) hat d (List.mem_cons_of_mem _ hd)
  obtain ⟨i0, ei0⟩ := is_v ga0
  obtain rfl : w0 = (.int i0) := Option.some.inj ei0
  obtain ⟨i1, ei1⟩ := is_v gr1
  obtain rfl : w1 = (.int i1) := Option.some.inj ei1
  obtain ⟨hXO, hn1⟩ := and_e hn
  obtain ⟨hCO, hn2⟩ := and_e hn1
  obtain ⟨hXU, hn3⟩ := and_e hn2
  obtain ⟨hXN, hn4⟩ := and_e hn3
  obtain ⟨hCN, hCU⟩ := and_e hn4
  obtain ⟨aO, evO⟩ := exa_v hXO
  have SaO := Sta.start evO (Or.inr ⟨hw _ (List.mem_of_getElem? (i := 6) rfl), hw _ (List.mem_of_getElem? (i := 7) rfl)⟩)
  have EaO := Exa.start evO hXO
  have FaO : Fld s s.heap aO "com/example/attestry/attestry/ExitStatus" "code" "I" (.int (0 : Int32)) := own_fld evO hCO
  obtain ⟨aN, evN⟩ := exa_v hXN
  have SaN := Sta.start evN (Or.inr ⟨hw _ (List.mem_of_getElem? (i := 6) rfl), hw _ (List.mem_of_getElem? (i := 27) rfl)⟩)
  have EaN := Exa.start evN hXN
  have FaN : Fld s s.heap aN "com/example/attestry/attestry/ExitStatus" "code" "I" (.int (1 : Int32)) := own_fld evN hCN
  obtain ⟨aU, evU⟩ := exa_v hXU
  have SaU := Sta.start evU (Or.inr ⟨hw _ (List.mem_of_getElem? (i := 6) rfl), hw _ (List.mem_of_getElem? (i := 25) rfl)⟩)
  have EaU := Exa.start evU hXU
  have FaU : Fld s s.heap aU "com/example/attestry/attestry/ExitStatus" "code" "I" (.int (2 : Int32)) := own_fld evU hCU
  obtain ⟨n, o, h1, h2, h3, _, L, rfl, ⟨rfl, N⟩, hq⟩ := rm0 l s _ hw tables_1 i0 i1 aO aN aU s.heap s.heap.size (Nat.le_refl _) SaO SaN SaU FaO EaO FaN EaN FaU EaU p e ha hc hk s m _ below hf ((Spec.applies_iff_loose hf).mp happ).1 ⟨rfl, State.Warmed39.refl s, rfl⟩ trivial
  refine ⟨n, _, h1, h2, h3, hpost _ _ _ _ _ _ ⟨Cond.after_iff.mpr rfl, Cond.after_iff.mpr (eq_i res_at (Term.int_eval (1)) rfl), trivial⟩ ⟨hq.1, hq.2.1, (hq.2.2.sift fun y hy => Or.inr (N y hy)).mono (by decide) (by decide)⟩⟩
theorem main_1_1 : Claimed_1_1 := comes_1 fun _ _ _ _ _ _ h hF => ⟨h.1, hF⟩
theorem main_1_2 : Claimed_1_2 := comes_1 fun _ _ _ _ _ _ h hF => ⟨h.2.1, hF⟩
end Jvm.Pilot.@@N@@
namespace Jvm.Pilot.@@N@@
open Jvm Jvm.ClassFile Sem Op Lib Jvm.Free Jvm.Stand Jvm.Pilot.@@N@@.Jvm.D
/-! MADE BY PROGRAM (witnessworld.py) out of the Statement's table words and the real class files: 13 classes; the members and pool entries that the words name. The judged class is class 1, her method 2. -/
namespace start1
open Jvm.ClassFile
def u (s : String) : CpInfo := .utf8 (stringToUtf16 s)
/-- a pool by its gaps: so many unusable entries, then the entry; so many at the end -/
def gap : Nat → List CpInfo → List CpInfo
  | 0, r => r
  | n + 1, r => .unusable :: gap n r
def poolList (es : List (Nat × CpInfo)) (last : Nat) : List CpInfo := es.foldr (fun e r => gap e.1 (e.2 :: r)) (gap last [])
def pool (es : List (Nat × CpInfo)) (last : Nat) : Array CpInfo := ⟨poolList es last⟩
def fileOf (pool : Array CpInfo) (this : Nat) (attrs : Array Attribute := #[]) (ms : Array MethodInfo := #[]) (fl : Nat := 33) (sup : Nat := 0) (ifs : Array Nat := #[]) (fds : Array FieldInfo := #[]) : ClassFile where
  minorVersion := 0
  majorVersion := 65
  constantPool := pool
  accessFlags := fl
  thisClass := this
  superClass := sup
  interfaces := ifs
  fields := fds
  methods := ms
  attributes := attrs
def plain (name : String) (sup : Option ClassId) : Class where
  name := name
  kind := .ordinary
  loader := none
  accessFlags := 33
  super := sup
  interfaces := #[]
  cf := none
  fields := #[]
  methods := #[]
  instanceTypes := #[]
  staticTypes := #[]
  resolved := #[]
  callSites := []
  init := .initialized
  statics := none
  mirror := none

def pool0 : Array CpInfo := pool [(5, u "<init>"), (0, u "()V"), (1, .class_ 10), (1, u "java/lang/Object")] 113

def k0m0 : Method := { name := "<init>", desc := "()V", sig := { parameters := [], returnType := none }, accessFlags := 1, code := none }
/-- java/lang/Object -/
def k0 : Class := { plain "java/lang/Object" none with
  accessFlags := 33
  interfaces := #[]
  cf := some (fileOf pool0 8 #[] #[{ accessFlags := 1, nameIndex := 5, descriptorIndex := 6, attributes := #[] }] 33 0 #[] #[])
  fields := #[]
  methods := #[k0m0]
  instanceTypes := #[]
  staticTypes := #[]
  resolved := Array.replicate 124 none
  statics := none }

def pool1 : Array CpInfo := pool [(2, .class_ 4), (1, u "java/lang/Object"), (0, u "<init>"), (0, u "()V"), (0, .fieldref 8 9), (0, .class_ 10), (0, .nameAndType 11 12), (0, u "com/example/attestry/attestry/ExitStatus"), (0, u "OK"), (0, u "Lcom/example/attestry/attestry/ExitStatus;"), (0, .fieldref 8 14), (0, .nameAndType 15 12), (0, u "NOT_HOLDING"), (0, .fieldref 8 17), (0, .nameAndType 18 12), (0, u "USAGE"), (0, .integer 2147483647), (0, .methodref 21 22), (0, .class_ 23), (0, .nameAndType 24 25), (0, u "com/example/attestry/attestry/ExitStatusWorsePinLaw"), (0, u "pick"), (0, u "(I)Lcom/example/attestry/attestry/ExitStatus;"), (0, .methodref 8 27), (0, .nameAndType 28 29), (0, u "worse"), (0, u "(Lcom/example/attestry/attestry/ExitStatus;)Lcom/example/attestry/attestry/ExitStatus;"), (0, .methodref 31 32), (0, .class_ 33), (0, .nameAndType 34 35), (0, u "java/lang/Math"), (0, u "max"), (0, u "(II)I"), (0, .methodref 8 37), (0, .nameAndType 38 39), (0, u "code"), (0, u "()I"), (3, u "law"), (0, u "(II)Z")] 2

def k1m0 : Method := { name := "<init>", desc := "()V", sig := { parameters := [], returnType := none }, accessFlags := 1, code := none }
def k1c1 : Code := { maxStack := 2, maxLocals := 1, code := method_2_code, exceptionTable := #[], attributes := #[] }
def k1m1 : Method := { name := "pick", desc := "(I)Lcom/example/attestry/attestry/ExitStatus;", sig := { parameters := [.int], returnType := some (.object "com/example/attestry/attestry/ExitStatus") }, accessFlags := 10, code := some k1c1 }
def k1c2 : Code := { maxStack := 2, maxLocals := 8, code := code, exceptionTable := #[], attributes := #[] }
def k1m2 : Method := { name := "law", desc := "(II)Z", sig := { parameters := [.int, .int], returnType := some .boolean }, accessFlags := 9, code := some k1c2 }
/-- com/example/attestry/attestry/ExitStatusWorsePinLaw -/
def k1 : Class := { plain "com/example/attestry/attestry/ExitStatusWorsePinLaw" (some 0) with
  accessFlags := 49
  interfaces := #[]
  cf := some (fileOf pool1 21 #[] #[{ accessFlags := 1, nameIndex := 5, descriptorIndex := 6, attributes := #[] }, { accessFlags := 10, nameIndex := 24, descriptorIndex := 25, attributes := #[] }, { accessFlags := 9, nameIndex := 43, descriptorIndex := 44, attributes := #[] }] 49 2 #[] #[])
  fields := #[]
  methods := #[k1m0, k1m1, k1m2]
  instanceTypes := #[]
  staticTypes := #[]
  resolved := Array.replicate 47 none
  statics := none }

def pool2 : Array CpInfo := pool [(1, .class_ 2), (0, u "java/lang/constant/Constable"), (0, .class_ 4), (0, u "java/lang/Object")] 6

/-- java/lang/constant/Constable -/
def k2 : Class := { plain "java/lang/constant/Constable" (some 0) with
  accessFlags := 1537
  interfaces := #[]
  cf := some (fileOf pool2 1 #[] #[] 1537 3 #[] #[])
  fields := #[]
  methods := #[]
  instanceTypes := #[]
  staticTypes := #[]
  resolved := Array.replicate 11 none
  statics := none }

def pool3 : Array CpInfo := pool [(1, .class_ 2), (0, u "java/lang/Comparable"), (0, .class_ 4), (0, u "java/lang/Object")] 7

/-- java/lang/Comparable -/
def k3 : Class := { plain "java/lang/Comparable" (some 0) with
  accessFlags := 1537
  interfaces := #[]
  cf := some (fileOf pool3 1 #[] #[] 1537 3 #[] #[])
  fields := #[]
  methods := #[]
  instanceTypes := #[]
  staticTypes := #[]
  resolved := Array.replicate 12 none
  statics := none }

def pool4 : Array CpInfo := pool [(1, .class_ 2), (0, u "java/io/Serializable"), (0, .class_ 4), (0, u "java/lang/Object")] 2

/-- java/io/Serializable -/
def k4 : Class := { plain "java/io/Serializable" (some 0) with
  accessFlags := 1537
  interfaces := #[]
  cf := some (fileOf pool4 1 #[] #[] 1537 3 #[] #[])
  fields := #[]
  methods := #[]
  instanceTypes := #[]
  staticTypes := #[]
  resolved := Array.replicate 7 none
  statics := none }

def pool5 : Array CpInfo := pool [(2, .class_ 4), (1, u "java/lang/Enum"), (0, u "name"), (0, u "Ljava/lang/String;"), (2, u "ordinal"), (0, u "I"), (1, .class_ 14), (1, u "java/lang/Object"), (4, u "hash"), (86, .class_ 108), (1, u "java/lang/Enum$EnumDesc"), (2, .class_ 112), (0, u "java/lang/constant/Constable"), (0, .class_ 114), (0, u "java/lang/Comparable"), (0, .class_ 116), (0, u "java/io/Serializable")] 87

/-- java/lang/Enum -/
def k5 : Class := { plain "java/lang/Enum" (some 0) with
  accessFlags := 1057
  interfaces := #[2, 3, 4]
  cf := some (fileOf pool5 2 #[.nestMembers #[106]] #[] 1057 12 #[111, 113, 115] #[{ accessFlags := 18, nameIndex := 5, descriptorIndex := 6, attributes := #[] }, { accessFlags := 18, nameIndex := 9, descriptorIndex := 10, attributes := #[] }, { accessFlags := 2, nameIndex := 19, descriptorIndex := 10, attributes := #[] }])
  fields := #[{ name := "name", type := (.object "java/lang/String"), accessFlags := 18, slot := 0, constantValue := 0 }, { name := "ordinal", type := .int, accessFlags := 18, slot := 1, constantValue := 0 }, { name := "hash", type := .int, accessFlags := 2, slot := 2, constantValue := 0 }]
  methods := #[]
  instanceTypes := #[(.object "java/lang/String"), .int, .int]
  staticTypes := #[]
  resolved := Array.replicate 204 none
  statics := none }

def pool6 : Array CpInfo := pool [(1, .class_ 2), (0, u "com/example/attestry/attestry/ExitStatus"), (2, u "OK"), (0, u "Lcom/example/attestry/attestry/ExitStatus;"), (2, u "NOT_HOLDING"), (2, u "USAGE"), (2, u "$VALUES"), (0, u "[Lcom/example/attestry/attestry/ExitStatus;"), (6, .class_ 25), (1, u "java/lang/Enum"), (6, .fieldref 1 33), (0, .nameAndType 34 35), (0, u "code"), (0, u "I"), (17, u "()I"), (0, u "worse"), (0, u "(Lcom/example/attestry/attestry/ExitStatus;)Lcom/example/attestry/attestry/ExitStatus;")] 6

def k6c0 : Code := { maxStack := 1, maxLocals := 1, code := prog_6_method_4_code, exceptionTable := #[], attributes := #[] }
def k6m0 : Method := { name := "code", desc := "()I", sig := { parameters := [], returnType := some .int }, accessFlags := 1, code := some k6c0 }
def k6c1 : Code := { maxStack := 2, maxLocals := 2, code := prog_6_method_5_code, exceptionTable := #[], attributes := #[] }
def k6m1 : Method := { name := "worse", desc := "(Lcom/example/attestry/attestry/ExitStatus;)Lcom/example/attestry/attestry/ExitStatus;", sig := { parameters := [(.object "com/example/attestry/attestry/ExitStatus")], returnType := some (.object "com/example/attestry/attestry/ExitStatus") }, accessFlags := 1, code := some k6c1 }
/-- com/example/attestry/attestry/ExitStatus -/
def k6 : Class := { plain "com/example/attestry/attestry/ExitStatus" (some 5) with
  accessFlags := 16433
  interfaces := #[]
  cf := some (fileOf pool6 1 #[] #[{ accessFlags := 1, nameIndex := 34, descriptorIndex := 53, attributes := #[] }, { accessFlags := 1, nameIndex := 54, descriptorIndex := 55, attributes := #[] }] 16433 23 #[] #[{ accessFlags := 16409, nameIndex := 5, descriptorIndex := 6, attributes := #[] }, { accessFlags := 16409, nameIndex := 9, descriptorIndex := 6, attributes := #[] }, { accessFlags := 16409, nameIndex := 12, descriptorIndex := 6, attributes := #[] }, { accessFlags := 18, nameIndex := 34, descriptorIndex := 35, attributes := #[] }, { accessFlags := 4122, nameIndex := 15, descriptorIndex := 16, attributes := #[] }])
  fields := #[{ name := "OK", type := (.object "com/example/attestry/attestry/ExitStatus"), accessFlags := 16409, slot := 0, constantValue := 0 }, { name := "NOT_HOLDING", type := (.object "com/example/attestry/attestry/ExitStatus"), accessFlags := 16409, slot := 1, constantValue := 0 }, { name := "USAGE", type := (.object "com/example/attestry/attestry/ExitStatus"), accessFlags := 16409, slot := 2, constantValue := 0 }, { name := "code", type := .int, accessFlags := 18, slot := 3, constantValue := 0 }, { name := "$VALUES", type := (.array (.object "com/example/attestry/attestry/ExitStatus")), accessFlags := 4122, slot := 3, constantValue := 0 }]
  methods := #[k6m0, k6m1]
  instanceTypes := #[(.object "java/lang/String"), .int, .int, .int]
  staticTypes := #[(.object "com/example/attestry/attestry/ExitStatus"), (.object "com/example/attestry/attestry/ExitStatus"), (.object "com/example/attestry/attestry/ExitStatus"), (.array (.object "com/example/attestry/attestry/ExitStatus"))]
  resolved := Array.replicate 62 none
  statics := some 0 }

def pool7 : Array CpInfo := pool [(1, .class_ 2), (0, u "java/lang/Math"), (1, .class_ 6), (1, u "java/lang/Object"), (0, u "<init>"), (0, u "()V"), (89, .class_ 100), (1, u "java/lang/Math$RandomNumberGeneratorHolder"), (71, u "negativeZeroFloatBits"), (0, u "J"), (2, u "negativeZeroDoubleBits"), (21, u "max"), (46, u "$assertionsDisabled"), (0, u "Z"), (88, u "(II)I"), (2, u "twoToTheDoubleScaleDown"), (0, u "D"), (4, u "twoToTheDoubleScaleUp"), (9, u "E"), (3, u "PI"), (2, u "TAU"), (2, u "DEGREES_TO_RADIANS"), (0, u "RADIANS_TO_DEGREES")] 94

def k7m0 : Method := { name := "<init>", desc := "()V", sig := { parameters := [], returnType := none }, accessFlags := 2, code := none }
def k7c1 : Code := { maxStack := 2, maxLocals := 2, code := jdk_29_method_65_code, exceptionTable := #[], attributes := #[] }
def k7m1 : Method := { name := "max", desc := "(II)I", sig := { parameters := [.int, .int], returnType := some .int }, accessFlags := 9, code := some k7c1 }
/-- java/lang/Math -/
def k7 : Class := { plain "java/lang/Math" (some 0) with
  accessFlags := 49
  interfaces := #[]
  cf := some (fileOf pool7 1 #[.nestMembers #[98]] #[{ accessFlags := 2, nameIndex := 7, descriptorIndex := 8, attributes := #[] }, { accessFlags := 9, nameIndex := 198, descriptorIndex := 335, attributes := #[] }] 49 4 #[] #[{ accessFlags := 25, nameIndex := 354, descriptorIndex := 339, attributes := #[] }, { accessFlags := 25, nameIndex := 358, descriptorIndex := 339, attributes := #[] }, { accessFlags := 25, nameIndex := 361, descriptorIndex := 339, attributes := #[] }, { accessFlags := 26, nameIndex := 364, descriptorIndex := 339, attributes := #[] }, { accessFlags := 26, nameIndex := 365, descriptorIndex := 339, attributes := #[] }, { accessFlags := 26, nameIndex := 172, descriptorIndex := 173, attributes := #[] }, { accessFlags := 26, nameIndex := 176, descriptorIndex := 173, attributes := #[] }, { accessFlags := 8, nameIndex := 344, descriptorIndex := 339, attributes := #[] }, { accessFlags := 8, nameIndex := 338, descriptorIndex := 339, attributes := #[] }, { accessFlags := 4120, nameIndex := 245, descriptorIndex := 246, attributes := #[] }])
  fields := #[{ name := "E", type := .double, accessFlags := 25, slot := 0, constantValue := 0 }, { name := "PI", type := .double, accessFlags := 25, slot := 1, constantValue := 0 }, { name := "TAU", type := .double, accessFlags := 25, slot := 2, constantValue := 0 }, { name := "DEGREES_TO_RADIANS", type := .double, accessFlags := 26, slot := 3, constantValue := 0 }, { name := "RADIANS_TO_DEGREES", type := .double, accessFlags := 26, slot := 4, constantValue := 0 }, { name := "negativeZeroFloatBits", type := .long, accessFlags := 26, slot := 5, constantValue := 0 }, { name := "negativeZeroDoubleBits", type := .long, accessFlags := 26, slot := 6, constantValue := 0 }, { name := "twoToTheDoubleScaleUp", type := .double, accessFlags := 8, slot := 7, constantValue := 0 }, { name := "twoToTheDoubleScaleDown", type := .double, accessFlags := 8, slot := 8, constantValue := 0 }, { name := "$assertionsDisabled", type := .boolean, accessFlags := 4120, slot := 9, constantValue := 0 }]
  methods := #[k7m0, k7m1]
  instanceTypes := #[]
  staticTypes := #[.double, .double, .double, .double, .double, .long, .long, .double, .double, .boolean]
  resolved := Array.replicate 460 none
  statics := none }

def pool8 : Array CpInfo := pool [(1, u "java/lang/Cloneable"), (0, .class_ 1), (0, u "java/lang/Object"), (0, .class_ 3)] 3

/-- java/lang/Cloneable -/
def k8 : Class := { plain "java/lang/Cloneable" (some 0) with
  accessFlags := 1537
  interfaces := #[]
  cf := some (fileOf pool8 2 #[] #[] 1537 4 #[] #[])
  fields := #[]
  methods := #[]
  instanceTypes := #[]
  staticTypes := #[]
  resolved := Array.replicate 8 none
  statics := none }

/-- the primitive byte -/
def k9 : Class := { plain "byte" none with kind := .primitive 'B', accessFlags := 0x411 }
/-- [B -/
def k10 : Class := { plain "[B" (some 0) with kind := .array 9 .byte, interfaces := #[8, 4], accessFlags := 1041 }

/-- the primitive int -/
def k11 : Class := { plain "int" none with kind := .primitive 'I', accessFlags := 0x411 }
/-- [I -/
def k12 : Class := { plain "[I" (some 0) with kind := .array 11 .int, interfaces := #[8, 4], accessFlags := 1041 }

def heap : Heap := #[{ cls := 6, slots := #[.ref 1, .ref 2, .ref 3, .null], vm := .statics 6 },
  { cls := 6, slots := #[.null, .int 0, .int 0, .int 0], vm := .none },
  { cls := 6, slots := #[.null, .int 1, .int 0, .int 1], vm := .none },
  { cls := 6, slots := #[.null, .int 2, .int 0, .int 2], vm := .none }]
def classes : Array Class := #[k0, k1, k2, k3, k4, k5, k6, k7, k8, k9, k10, k11, k12]
def interned : List (Array UInt16 × Addr) := []
def slotsUsed : Nat := 16
def theMethod : MethodId := ⟨1, 2⟩
def args0 : Array Value := #[.int 5, .int 7]
def aboutOver (below : List Frame) : State where
  vm := { classes := classes, interned := interned.toArray }
  heap := heap
  slotsUsed := slotsUsed
  threads := #[{ frames := .invoking theMethod args0 :: below }]
def below0 : List Frame := [.native { method := ⟨0, 0⟩, args := #[] }]
def about1 : State := aboutOver below0
def p0 : Program := .bare "" "" ""
def e0 : Env := launch0.env 0 0 0
theorem w_frames : about1.frames = Frame.invoking theMethod args0 :: below0 := rfl
set_option maxRecDepth 65536 in
theorem w_args : argsFit about1.vm theMethod args0 = true := by decide +kernel
set_option maxRecDepth 65536 in
theorem w_heap : heapFits about1 = true := by decide +kernel
set_option maxRecDepth 65536 in
theorem w_runnable : about1.curStatus? = some .runnable := by decide +kernel
set_option maxRecDepth 65536 in
theorem w_alone : about1.alone = true := by decide +kernel
set_option maxRecDepth 65536 in
theorem w_named : about1.methodNamed? x = some theMethod := by decide +kernel
set_option maxRecDepth 65536 in
theorem w_hears : about1.hears theMethod below0 = true := by decide +kernel
set_option maxRecDepth 65536 in
theorem w_ripe : about1.ripe theMethod args0 below0 = true := by decide +kernel
theorem w_running : about1.status = .running := rfl
set_option maxRecDepth 65536 in
theorem w_room : about1.hasRoom e0.platform room_1 = true :=
  launch0.hasRoom_least _ room_1 (by decide +kernel) (by decide +kernel) (by decide +kernel) (by decide +kernel) (by decide +kernel) (by decide +kernel)
theorem allAtoms_all (ts : List Jvm.Cond) (a : Array Jvm.Value) (st : Jvm.State) : (allAtoms ts).before a st = ts.all (fun c => c.before a st) := by
  induction ts with
  | nil => rfl
  | cons c t ih =>
    show (Jvm.Cond.and c (allAtoms t)).before a st = _
    rw [Jvm.Cond.before_and, ih, List.all_cons]
def words1 : List Jvm.Cond := Jvm.Cond.code x code maxLocals ret :: tables_1
/-- a 'code' word, met by the world's own term for the bytes: nothing is compared byte by byte -/
theorem code_word {y : MethodName} {bytes : ByteArray} {mx : Nat} {rt : Option FieldType} {a : Array Value} {s : State} {m : MethodId} {meth : Method} {c : Code} (h1 : s.methodNamed? y = some m) (h2 : s.vm.method? m = some meth) (h3 : meth.code = some c) (h4 : c.code = bytes)
    (h5 : (c.maxLocals == mx && c.exceptionTable.isEmpty && decide (c.maxStack ≤ mostOperands) && decide (meth.sig.returnType = rt) && !meth.locks && decide (parseMethodDescriptor y.desc = some meth.sig)) = true) : (Jvm.Cond.code y bytes mx rt).before a s = true := by
  simp only [Bool.and_eq_true, beq_iff_eq, Bool.not_eq_true', decide_eq_true_eq] at h5
  obtain ⟨⟨⟨⟨⟨g1, g2⟩, g3⟩, g4⟩, g5⟩, g6⟩ := h5
  simp [Cond.before, Cond.holds, Cond.value, h1, h2, h3, h4, g1, g2, g3, g4, g5, g6]
def isCode : Jvm.Cond → Bool
  | .code _ _ _ _ => true
  | _ => false
theorem all_split {L : List Jvm.Cond} {P : Jvm.Cond → Bool} (h1 : L.all (fun c => isCode c || P c) = true) (h2 : ∀ c ∈ L.filter isCode, P c = true) : L.all P = true := by
  refine List.all_eq_true.mpr fun c hc => ?_
  have h := List.all_eq_true.mp h1 c hc
  rcases Bool.eq_false_or_eq_true (isCode c) with hi | hi
  · exact h2 c (List.mem_filter.mpr ⟨hc, hi⟩)
  · simpa [hi] using h
set_option maxRecDepth 65536 in
theorem w_c0 : (Jvm.Cond.code x code maxLocals ret).before args0 about1 = true := code_word (m := ⟨1, 2⟩) (meth := k1m2) (c := k1c2) (by decide +kernel) rfl rfl rfl (by decide +kernel)
set_option maxRecDepth 65536 in
theorem w_c1 : (Jvm.Cond.code ({ cls := "com/example/attestry/attestry/ExitStatusWorsePinLaw", name := "pick", desc := "(I)Lcom/example/attestry/attestry/ExitStatus;" } : Jvm.MethodName) method_2_code (1 : Nat) (Option.some (Jvm.ClassFile.FieldType.object "com/example/attestry/attestry/ExitStatus"))).before args0 about1 = true := code_word (m := ⟨1, 1⟩) (meth := k1m1) (c := k1c1) (by decide +kernel) rfl rfl rfl (by decide +kernel)
set_option maxRecDepth 65536 in
theorem w_c2 : (Jvm.Cond.code ({ cls := "com/example/attestry/attestry/ExitStatus", name := "worse", desc := "(Lcom/example/attestry/attestry/ExitStatus;)Lcom/example/attestry/attestry/ExitStatus;" } : Jvm.MethodName) prog_6_method_5_code (2 : Nat) (Option.some (Jvm.ClassFile.FieldType.object "com/example/attestry/attestry/ExitStatus"))).before args0 about1 = true := code_word (m := ⟨6, 1⟩) (meth := k6m1) (c := k6c1) (by decide +kernel) rfl rfl rfl (by decide +kernel)
set_option maxRecDepth 65536 in
theorem w_c3 : (Jvm.Cond.code ({ cls := "java/lang/Math", name := "max", desc := "(II)I" } : Jvm.MethodName) jdk_29_method_65_code (2 : Nat) (Option.some Jvm.ClassFile.FieldType.int)).before args0 about1 = true := code_word (m := ⟨7, 1⟩) (meth := k7m1) (c := k7c1) (by decide +kernel) rfl rfl rfl (by decide +kernel)
set_option maxRecDepth 65536 in
theorem w_c4 : (Jvm.Cond.code ({ cls := "com/example/attestry/attestry/ExitStatus", name := "code", desc := "()I" } : Jvm.MethodName) prog_6_method_4_code (1 : Nat) (Option.some Jvm.ClassFile.FieldType.int)).before args0 about1 = true := code_word (m := ⟨6, 0⟩) (meth := k6m0) (c := k6c0) (by decide +kernel) rfl rfl rfl (by decide +kernel)
def codes1 : List Jvm.Cond := [Jvm.Cond.code x code maxLocals ret, Jvm.Cond.code ({ cls := "com/example/attestry/attestry/ExitStatusWorsePinLaw", name := "pick", desc := "(I)Lcom/example/attestry/attestry/ExitStatus;" } : Jvm.MethodName) method_2_code (1 : Nat) (Option.some (Jvm.ClassFile.FieldType.object "com/example/attestry/attestry/ExitStatus")), Jvm.Cond.code ({ cls := "com/example/attestry/attestry/ExitStatus", name := "worse", desc := "(Lcom/example/attestry/attestry/ExitStatus;)Lcom/example/attestry/attestry/ExitStatus;" } : Jvm.MethodName) prog_6_method_5_code (2 : Nat) (Option.some (Jvm.ClassFile.FieldType.object "com/example/attestry/attestry/ExitStatus")), Jvm.Cond.code ({ cls := "java/lang/Math", name := "max", desc := "(II)I" } : Jvm.MethodName) jdk_29_method_65_code (2 : Nat) (Option.some Jvm.ClassFile.FieldType.int), Jvm.Cond.code ({ cls := "com/example/attestry/attestry/ExitStatus", name := "code", desc := "()I" } : Jvm.MethodName) prog_6_method_4_code (1 : Nat) (Option.some Jvm.ClassFile.FieldType.int)]
set_option maxRecDepth 65536 in
theorem codes_eq : words1.filter isCode = codes1 := rfl
theorem w_codes : ∀ c ∈ words1.filter isCode, c.before args0 about1 = true := by
  rw [codes_eq]
  intro c hc
  simp only [codes1, List.mem_cons, List.not_mem_nil, or_false] at hc
  rcases hc with rfl | rfl | rfl | rfl | rfl
  · exact w_c0
  · exact w_c1
  · exact w_c2
  · exact w_c3
  · exact w_c4
set_option maxRecDepth 65536 in
theorem w_t1 : (words1.take 24).all (fun c => isCode c || c.before args0 about1) = true := by decide +kernel
set_option maxRecDepth 65536 in
theorem w_t2 : (words1.drop 24).all (fun c => isCode c || c.before args0 about1) = true := by decide +kernel
theorem w_tables : (allAtoms (Jvm.Cond.code x code maxLocals ret :: tables_1)).before args0 about1 = true := by
  rw [allAtoms_all]
  show words1.all (fun c => c.before args0 about1) = true
  refine all_split ?_ w_codes
  rw [← List.take_append_drop 24 words1, List.all_append, w_t1, w_t2]
  rfl
set_option maxRecDepth 65536 in
theorem w_case : (Jvm.Cond.and given_1 narrow_1).before args0 about1 = true := by decide +kernel
theorem w_applies : (headSpec (Jvm.Cond.code x code maxLocals ret :: tables_1) room_1).applies x e0.platform about1 = true :=
  (Spec.applies_iff w_frames).mpr ⟨w_running, w_runnable, w_alone, w_named, w_hears, w_ripe, w_room, w_tables⟩
theorem atStart : AtStart classFile x code maxLocals ret World_1 tables_1 room_1 Calls_1 rest_1 Pre_1 launch0 p0 e0 about1 theMethod args0 below0 :=
  ⟨lists_1, trivial, launch0.admits_env _ _ _, launch0.least_env, fairChoices_fair.cas, fairChoices_fair.clock, w_frames, w_args, w_heap, w_applies, trivial, trivial, w_case⟩
end start1
theorem witness_1 : WitnessClaimed_1 := ⟨start1.p0, start1.e0, start1.about1, start1.theMethod, start1.args0, start1.below0, start1.atStart⟩
end Jvm.Pilot.@@N@@
