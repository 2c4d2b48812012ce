import JvmDerived
import JvmDerived.Pilot.@@N@@Statement
import JvmDerived.Pilot.@@N@@Code
set_option linter.unusedVariables false
set_option linter.unusedSimpArgs false
@@BLOCK:NumsL.lean.txt@@
namespace Jvm.Pilot.@@N@@.Flt
open Jvm Jvm.FP.Core Jvm.Op
theorem own_zv {i : Int} {a : UInt64} (h : DInt i a) : zval b64 (val64 a) = i * ((2 ^ 1074 : Nat) : Int) ∧ val64 a ≠ .nan := by
  unfold DInt at h
  have hf := val64_fits a
  cases hv : val64 a with
  | nan => rw [hv] at h; exact absurd h (by simp [Whole])
  | inf s => rw [hv] at h; exact absurd h (by simp [Whole])
  | fin s c q =>
    rw [hv] at h hf
    refine ⟨?_, by simp⟩
    have hq : b64.qmin ≤ q := hf.2.1
    have u := whole_units h hq
    have e1 : b64.qmin = -1074 := qmin_b64
    rw [e1] at u
    show signed s (inUnits c q b64.qmin) = _
    rw [e1]
    simpa using u
theorem own_kv : val64 4607182418800017416 = .fin false (2 ^ 52 + 8) (-52) := by decide +kernel
/-- the product's value lies between E and E + 1/2 -/
theorem own_prod {E : Int} {x : UInt64} (h : DInt E x) (h0 : 0 ≤ E) (h1 : E ≤ 2 ^ 33) :
    val64 (dmul x 4607182418800017416) ≠ .nan ∧ E * ((2 ^ 1074 : Nat) : Int) ≤ zval b64 (val64 (dmul x 4607182418800017416)) ∧ 2 * zval b64 (val64 (dmul x 4607182418800017416)) ≤ (2 * E + 1) * ((2 ^ 1074 : Nat) : Int) := by
  obtain ⟨z1, z2⟩ := own_zv h
  have hf := val64_fits x
  rw [val64_dmul, own_kv]
  cases hv : val64 x with
  | nan => exact absurd hv z2
  | inf s => unfold DInt at h; rw [hv] at h; exact absurd h (by simp [Whole])
  | fin s c q =>
    rw [hv] at hf z1
    have hq : b64.qmin ≤ q := hf.2.1
    have e1 : b64.qmin = -1074 := qmin_b64
    have e2 : exactProduct (.fin s c q) (.fin false (2 ^ 52 + 8) (-52)) = .fin s (c * (2 ^ 52 + 8)) (q + -52) := by simp [exactProduct]
    rw [e2]
    have hu : signed s (inUnits (c * (2 ^ 52 + 8)) (q + -52) (-1126)) = E * ((2 ^ 1074 : Nat) : Int) * ((2 ^ 52 + 8 : Nat) : Int) := by
      have e3 : inUnits (c * (2 ^ 52 + 8)) (q + -52) (-1126) = inUnits c q b64.qmin * (2 ^ 52 + 8) := by
        unfold inUnits
        rw [e1, show (q + -52 - -1126).toNat = (q - -1074).toNat by omega]
        rw [Nat.mul_right_comm]
      rw [e3, signed_mul]
      have e4 : signed s (inUnits c q b64.qmin) = E * ((2 ^ 1074 : Nat) : Int) := z1
      rw [e4]
    have hp : ((2 ^ (b64.qmin - (-1126)).toNat : Nat) : Int) = ((2 ^ 52 : Nat) : Int) := by rw [e1]; rfl
    refine ⟨roundRatio_ne_nan b64 _ _ _ _, ?_, ?_⟩
    · have g := zval_round_ge good_b64 (s := s) (c := c * (2 ^ 52 + 8)) (q := q + -52) (e0 := -1126) (V := .fin s c q) hf (by simp) (by rw [e1]; decide) (by omega) (by
        rw [hu, hp]
        have e4 : zval b64 (.fin s c q) = E * ((2 ^ 1074 : Nat) : Int) := z1
        rw [e4]
        have hU : (0 : Int) ≤ E * ((2 ^ 1074 : Nat) : Int) := Int.mul_nonneg h0 (Int.natCast_nonneg _)
        exact Int.mul_le_mul_of_nonneg_left (by decide) hU)
      have e4 : zval b64 (.fin s c q) = E * ((2 ^ 1074 : Nat) : Int) := z1
      rw [e4] at g
      exact g
    · obtain ⟨c', q', r1, r2⟩ := round_exact good_b64 false (c := (2 * E + 1).toNat) (q := -1) (by
        have : (b64.p) = 53 := rfl
        rw [this]; omega) (by rw [e1]; decide) (by decide)
      have hfit := round_fits good_b64 (.fin false (2 * E + 1).toNat (-1))
      have hzV : 2 * zval b64 (round b64 (.fin false (2 * E + 1).toNat (-1))) = (2 * E + 1) * ((2 ^ 1074 : Nat) : Int) := by
        rw [r1]
        show 2 * signed false (inUnits c' q' b64.qmin) = _
        rw [r2]
        unfold inUnits
        rw [e1]
        have e5 : (-1 - -1074 : Int).toNat = 1073 := by decide
        rw [e5]
        show 2 * (((2 * E + 1).toNat * 2 ^ 1073 : Nat) : Int) = _
        rw [Int.natCast_mul, Int.toNat_of_nonneg (by omega), Nat.pow_succ 2 1073, Int.natCast_mul]
        generalize ((2 ^ 1073 : Nat) : Int) = U
        have e6 : ((2 : Nat) : Int) = 2 := rfl
        rw [e6, Int.mul_comm U 2, ← Int.mul_assoc, ← Int.mul_assoc, Int.mul_comm 2 (2 * E + 1)]
      have g := zval_round_le good_b64 (s := s) (c := c * (2 ^ 52 + 8)) (q := q + -52) (e0 := -1126) (V := round b64 (.fin false (2 * E + 1).toNat (-1))) hfit (roundRatio_ne_nan b64 _ _ _ _) (by rw [e1]; decide) (by omega) (by
        rw [hu, hp]
        generalize zval b64 (round b64 (.fin false (2 * E + 1).toNat (-1))) = Vz at hzV
        have hU : (0 : Int) ≤ ((2 ^ 1074 : Nat) : Int) := Int.natCast_nonneg _
        generalize ((2 ^ 1074 : Nat) : Int) = U at hzV hU
        have hW := Int.mul_le_mul_of_nonneg_right h1 hU
        rw [Int.add_mul, Int.mul_assoc, Int.one_mul] at hzV
        generalize E * U = W at hzV hW
        have e7 : ((2 ^ 52 + 8 : Nat) : Int) = 4503599627370504 := rfl
        have e8 : ((2 ^ 52 : Nat) : Int) = 4503599627370496 := rfl
        rw [e7, e8]
        omega)
      generalize zval b64 (round b64 (.fin false (2 * E + 1).toNat (-1))) = Vz at hzV g
      omega
theorem own_cmp {i E : Int} {d x : UInt64} (hd : DInt i d) (h : DInt E x) (h0 : 0 ≤ E) (h1 : E ≤ 2 ^ 33) : (0 : Int32) < cmpValue (FP.dcmp d (FP.dmul x 4607182418800017416)) .l ↔ E < i := by
  obtain ⟨z1, z2⟩ := own_zv hd
  obtain ⟨m1, m2, m3⟩ := own_prod h h0 h1
  have e : FP.dcmp d (FP.dmul x 4607182418800017416) = some (compare (zval b64 (val64 d)) (zval b64 (val64 (dmul x 4607182418800017416)))) := order_zval good_b64 (val64_fits _) (val64_fits _) z2 m1
  rw [e, z1]
  have hU : (0 : Int) < ((2 ^ 1074 : Nat) : Int) := by have := Nat.two_pow_pos 1074; omega
  generalize zval b64 (val64 (dmul x 4607182418800017416)) = M at m2 m3
  generalize ((2 ^ 1074 : Nat) : Int) = U at m2 m3 hU
  constructor
  · intro hc
    apply Int.lt_of_not_ge
    intro hle
    have h3 : i * U ≤ E * U := Int.mul_le_mul_of_nonneg_right hle (by omega)
    have h4 : i * U ≤ M := by omega
    rcases Int.lt_or_eq_of_le h4 with h5 | h5
    · rw [show compare (i * U) M = .lt from by simp [compare, compareOfLessAndEq, h5]] at hc
      exact absurd hc (by decide)
    · rw [show compare (i * U) M = .eq from by simp [compare, compareOfLessAndEq, h5]] at hc
      exact absurd hc (by decide)
  · intro hlt
    have h3 : (E + 1) * U ≤ i * U := Int.mul_le_mul_of_nonneg_right hlt (by omega)
    rw [Int.add_mul, Int.one_mul] at h3
    rw [Int.add_mul, Int.mul_assoc, Int.one_mul] at m3
    generalize E * U = W at h3 m3
    generalize i * U = V at h3
    have h4 : M < V := by omega
    rw [show compare V M = .gt from by simp only [compare, compareOfLessAndEq]; rw [if_neg (by omega), if_neg (by omega)]]
    decide
theorem own_nn {i : Int} {a : UInt64} (h : DInt i a) : Jvm.Free.Fl.NoNaN64 a := by
  rw [Jvm.Free.Fl.noNaN64_iff]
  exact (ne_nan a).mp (own_zv h).2
theorem own_sub (a b : Int32) : DInt (b.toInt - a.toInt) (FP.dsub (FP.i2d b) (FP.i2d a)) := by
  have h1 := a.toInt_lt; have h2 := a.le_toInt; have h3 := b.toInt_lt; have h4 := b.le_toInt
  exact dsub_int (i2d_int b) (i2d_int a) (by omega)
theorem own_add (a b : Int32) : DInt (a.toInt + b.toInt) (FP.dadd (FP.i2d a) (FP.i2d b)) := by
  have h1 := a.toInt_lt; have h2 := a.le_toInt; have h3 := b.toInt_lt; have h4 := b.le_toInt
  exact dadd_int (i2d_int a) (i2d_int b) (by omega)
end Jvm.Pilot.@@N@@.Flt
namespace Jvm.Pilot.@@N@@
open Jvm Jvm.ClassFile Sem Op Lib Jvm.Free Jvm.Stand Jvm.LawKit Jvm.RoadKit Bundle Jvm.Pilot.@@N@@.Jvm.D
/-! the walk's own form: from this state and frame the run ends as P says -/
def Go (p : Program) (e : Env) (below : List Frame) (T : State) (g : JFrame) (P : Outcome → State → Prop) : Prop := ∃ s₂ o, Steps p.tables e below (T.setTop g) s₂ ∧ s₂.status = .running ∧ Ended s₂ below o ∧ P o s₂
theorem Go.of {p : Program} {e : Env} {below : List Frame} {T T' : State} {g g' : JFrame} {P : Outcome → State → Prop} (k : ∀ t, Steps p.tables e below (T'.setTop g') t → Steps p.tables e below (T.setTop g) t) (h : Go p e below T' g' P) : Go p e below T g P := by
  obtain ⟨s2, o, h1, h2⟩ := h; exact ⟨s2, o, k _ h1, h2⟩
theorem Go.enter {p : Program} {e : Env} {below : List Frame} {T : State} {g g' : JFrame} {P : Outcome → State → Prop} (q : g = g') (h : Go p e below T g' P) : ∃ s₂ o, Steps p.tables e below (T.setTop g) s₂ ∧ s₂.status = .running ∧ Ended s₂ below o ∧ P o s₂ := by
  subst q; exact h
theorem own_selp {s : State} {args : Array Value} {y : MethodName} {n : Nat} (hi : (Jvm.Cond.instantiable y.cls n).before args s = true) (hp : s.PrivateAt y) (hm : (Jvm.Cond.instanceMethod y).before args s = true) (hy : y.cls ≠ "java/lang/invoke/MethodHandle" ∧ y.cls ≠ "java/lang/invoke/VarHandle") : (Jvm.Cond.selects y.cls y y).before args s = true := by
  obtain ⟨c, k, h1, h2, -, h3, -⟩ := Cond.instantiable_spec hi
  rw [Bool.or_eq_false_iff] at h3
  exact selects_self_of_private h1 h2 h3.1 hp hm hy
/-- a local that holds nothing or one word -/
def Sl (o : Slot) : Prop := o = .unset ∨ ∃ w : Value, o = .val w ∧ w.category = 1
theorem own_dloadN {tb : Tables} [Ours tb] {e : Env} {below : List Frame} {T target : State} {m : MethodId} {c : Code} {g : JFrame} (h : At T m c below) (hx : tb.exec = Jvm.exec) (hg : g.method = m) {k : Fin 4} {v : UInt64} (hd : decode c.code g.pc = .ok (.dload_n k, 1)) (hl : g.locals[k.val]? = some (.val (.double v))) (hr : Steps tb e below (T.setTop { g with pc := g.pc + 1, stack := .double v :: g.stack }) target) : Steps tb e below (T.setTop g) target := by
  subst hg
  jvm_step h [h.top, hx, hd, hl]
  exact hr
theorem own_dload {tb : Tables} [Ours tb] {e : Env} {below : List Frame} {T target : State} {m : MethodId} {c : Code} {g : JFrame} (h : At T m c below) (hx : tb.exec = Jvm.exec) (hg : g.method = m) {k : Nat} {v : UInt64} (hd : decode c.code g.pc = .ok (.dload k, 2)) (hl : g.locals[k]? = some (.val (.double v))) (hr : Steps tb e below (T.setTop { g with pc := g.pc + 2, stack := .double v :: g.stack }) target) : Steps tb e below (T.setTop g) target := by
  subst hg
  jvm_step h [h.top, hx, hd, hl]
  exact hr
theorem own_i2d {tb : Tables} [Ours tb] {e : Env} {below : List Frame} {T target : State} {m : MethodId} {c : Code} {g : JFrame} (h : At T m c below) (hx : tb.exec = Jvm.exec) (hg : g.method = m) {x : Int32} {rest : List Value} (hd : decode c.code g.pc = .ok (.i2d, 1)) (hs : g.stack = .int x :: rest) (hr : Steps tb e below (T.setTop { g with pc := g.pc + 1, stack := .double (FP.i2d x) :: rest }) target) : Steps tb e below (T.setTop g) target := by
  subst hg
  jvm_step h [h.top, hx, hd, hs]
  exact hr
theorem own_dcmpl {tb : Tables} [Ours tb] {e : Env} {below : List Frame} {T target : State} {m : MethodId} {c : Code} {g : JFrame} (h : At T m c below) (hx : tb.exec = Jvm.exec) (hg : g.method = m) {x y : UInt64} {rest : List Value} (hd : decode c.code g.pc = .ok (.dcmp .l, 1)) (hs : g.stack = .double y :: .double x :: rest) (hr : Steps tb e below (T.setTop { g with pc := g.pc + 1, stack := .int (cmpValue (FP.dcmp x y) .l) :: rest }) target) : Steps tb e below (T.setTop g) target := by
  subst hg
  jvm_step h [h.top, hx, hd, hs]
  exact hr
theorem own_dsub {tb : Tables} [Ours tb] {e : Env} {below : List Frame} {T target : State} {m : MethodId} {c : Code} {g : JFrame} (h : At T m c below) (hx : tb.exec = Jvm.exec) (hg : g.method = m) {x y : UInt64} {rest : List Value} (hd : decode c.code g.pc = .ok (.dsub, 1)) (hs : g.stack = .double y :: .double x :: rest) (hN : Jvm.Free.Fl.NoNaN64 (FP.dsub x y)) (hr : Steps tb e below (T.setTop { g with pc := g.pc + 1, stack := .double (FP.dsub x y) :: rest }) target) : Steps tb e below (T.setTop g) target := by
  subst hg
  jvm_step h [h.top, hx, hd, Op.dsub.wp_number h.top hs hN]
  exact hr
theorem own_dadd {tb : Tables} [Ours tb] {e : Env} {below : List Frame} {T target : State} {m : MethodId} {c : Code} {g : JFrame} (h : At T m c below) (hx : tb.exec = Jvm.exec) (hg : g.method = m) {x y : UInt64} {rest : List Value} (hd : decode c.code g.pc = .ok (.dadd, 1)) (hs : g.stack = .double y :: .double x :: rest) (hN : Jvm.Free.Fl.NoNaN64 (FP.dadd x y)) (hr : Steps tb e below (T.setTop { g with pc := g.pc + 1, stack := .double (FP.dadd x y) :: rest }) target) : Steps tb e below (T.setTop g) target := by
  subst hg
  jvm_step h [h.top, hx, hd, Op.dadd.wp_number h.top hs hN]
  exact hr
theorem own_dmul {tb : Tables} [Ours tb] {e : Env} {below : List Frame} {T target : State} {m : MethodId} {c : Code} {g : JFrame} (h : At T m c below) (hx : tb.exec = Jvm.exec) (hg : g.method = m) {x y : UInt64} {rest : List Value} (hd : decode c.code g.pc = .ok (.dmul, 1)) (hs : g.stack = .double y :: .double x :: rest) (hN : Jvm.Free.Fl.NoNaN64 (FP.dmul x y)) (hr : Steps tb e below (T.setTop { g with pc := g.pc + 1, stack := .double (FP.dmul x y) :: rest }) target) : Steps tb e below (T.setTop g) target := by
  subst hg
  jvm_step h [h.top, hx, hd, Op.dmul.wp_number h.top hs hN]
  exact hr
def kC : UInt64 := 4607182418800017416
def cmpF (u x w y : UInt64) : Int32 := cmpValue (FP.dcmp (FP.dsub w u) (FP.dmul (FP.dadd x y) (4607182418800017416 : UInt64))) .l
theorem own_n1 (a b : Int32) : Jvm.Free.Fl.NoNaN64 (FP.dsub (FP.i2d b) (FP.i2d a)) := Flt.own_nn (Flt.own_sub a b)
theorem own_mk (x : Int32) : 0 ≤ (x &&& (2147483647 : Int32)).toInt := by
  have h : (x &&& (2147483647 : Int32)).toInt = x.toInt % 2 ^ 31 := Jvm.Kit.i32_mask x 2147483647 (k := 31) (by decide) (by decide)
  omega
theorem own_n2 (a b : Int32) : Jvm.Free.Fl.NoNaN64 (FP.dadd (FP.i2d (a &&& (2147483647 : Int32))) (FP.i2d (b &&& (2147483647 : Int32)))) := Flt.own_nn (Flt.own_add _ _)
theorem own_n3 (a b : Int32) : Jvm.Free.Fl.NoNaN64 (FP.dmul (FP.dadd (FP.i2d (a &&& (2147483647 : Int32))) (FP.i2d (b &&& (2147483647 : Int32)))) (4607182418800017416 : UInt64)) := by
  have h1 := own_mk a; have h2 := own_mk b; have h3 := (a &&& (2147483647 : Int32)).toInt_lt; have h4 := (b &&& (2147483647 : Int32)).toInt_lt
  rw [Jvm.Free.Fl.noNaN64_iff]
  exact (Jvm.FP.Core.ne_nan _).mp (Flt.own_prod (Flt.own_add _ _) (by omega) (by omega)).1
theorem own_law (a b e f : Int32) : (if (0 : Int32) < cmpF (FP.i2d a) (FP.i2d (e &&& (2147483647 : Int32))) (FP.i2d b) (FP.i2d (f &&& (2147483647 : Int32))) then (1 : Int32) else (0 : Int32)) = (if (((e &&& (2147483647 : Int32)).toInt64) + ((f &&& (2147483647 : Int32)).toInt64)) < ((b.toInt64) - (a.toInt64)) then (1 : Int32) else (0 : Int32)) := by
  have h1 := own_mk e; have h2 := own_mk f; have h3 := (e &&& (2147483647 : Int32)).toInt_lt; have h4 := (f &&& (2147483647 : Int32)).toInt_lt
  have h5 := a.toInt_lt; have h6 := a.le_toInt; have h7 := b.toInt_lt; have h8 := b.le_toInt
  have q : ((0 : Int32) < cmpF (FP.i2d a) (FP.i2d (e &&& (2147483647 : Int32))) (FP.i2d b) (FP.i2d (f &&& (2147483647 : Int32)))) ↔ (e &&& (2147483647 : Int32)).toInt + (f &&& (2147483647 : Int32)).toInt < b.toInt - a.toInt := Flt.own_cmp (Flt.own_sub a b) (Flt.own_add _ _) (by omega) (by omega)
  have r : ((((e &&& (2147483647 : Int32)).toInt64) + ((f &&& (2147483647 : Int32)).toInt64)) < ((b.toInt64) - (a.toInt64))) ↔ (e &&& (2147483647 : Int32)).toInt + (f &&& (2147483647 : Int32)).toInt < b.toInt - a.toInt := by
    rw [Int64.lt_iff_toInt_lt, Jvm.Kit.i64_add (by rw [Int32.toInt_toInt64, Int32.toInt_toInt64]; omega) (by rw [Int32.toInt_toInt64, Int32.toInt_toInt64]; omega), Jvm.Kit.i64_sub (by rw [Int32.toInt_toInt64, Int32.toInt_toInt64]; omega) (by rw [Int32.toInt_toInt64, Int32.toInt_toInt64]; omega)]
    simp only [Int32.toInt_toInt64]
  by_cases h : (e &&& (2147483647 : Int32)).toInt + (f &&& (2147483647 : Int32)).toInt < b.toInt - a.toInt
  · rw [if_pos (q.mpr h), if_pos (r.mpr h)]
  · rw [if_neg (fun z => h (q.mp z)), if_neg (fun z => h (r.mp z))]
theorem pn_0 : plainName "java/lang/Record" = true := by first | (simp [plainName, overriddenIn]; done) | decide +kernel
theorem pd_0 : parseMethodDescriptor "()V" = some ⟨[], none⟩ := by decide +kernel
theorem pn_1 : plainName "com/example/planwright/planwright/planner/Rounded" = true := by first | (simp [plainName, overriddenIn]; done) | decide +kernel
theorem pd_1 : parseMethodDescriptor "(DD)V" = some ⟨[.double, .double], none⟩ := by decide +kernel
theorem pd_2 : parseMethodDescriptor "(Lcom/example/planwright/planwright/planner/Rounded;)Z" = some ⟨[(.object "com/example/planwright/planwright/planner/Rounded")], some .boolean⟩ := by decide +kernel
theorem pn_2 : plainName "com/example/planwright/planwright/planner/RoundedBelowPinLaw" = true := by first | (simp [plainName, overriddenIn]; done) | decide +kernel
theorem d2_0 : decode jdk_30_method_1_code 0 = .ok (.aload_n 0, 1) := by decide +kernel
theorem d2_1 : decode jdk_30_method_1_code 1 = .ok (.invokespecial 1, 3) := by decide +kernel
theorem d2_4 : decode jdk_30_method_1_code 4 = .ok (.return_, 1) := by decide +kernel
theorem ef_2 (m : MethodId) (x0 : Addr) : entryFrame m #[(.ref x0)] 1 = mkF m 0 #[.val (.ref x0)] [] := by first | (simp [entryFrame, mkF, argsToLocals, Value.category]; done) | rfl
def Q2 (Z : State) (a : Addr) (h0 : Heap) (n0 : Nat) (v : Option Value) (h : Heap) (L : List Loc) : Prop := v = none ∧ Fr n0 L ∧ h = h0
set_option maxRecDepth 65536 in
set_option maxHeartbeats 40000000 in
theorem rm2 (l : Launch) (Z : State) (a0 : Array Value) (hw : ∀ d ∈ tables_1, d.before a0 Z = true) (ws : List Jvm.Cond) (a : Addr) (h0 : Heap) (n0 : Nat) (Z0 : n0 ≤ h0.size) :
    MetFree l (⟨"java/lang/Record", "<init>", "()V"⟩ : MethodName) (head1 (Jvm.Cond.code (⟨"java/lang/Record", "<init>", "()V"⟩ : MethodName) jdk_30_method_1_code 1 none :: ws) ({ frames := 1, cells := 0, slots := 0, locals := 12 } : Room)) (fun aa_ U => aa_ = #[(.ref a)] ∧ Z.Warmed39 U.vm ∧ U.heap = h0) (fun _ _ _ _ _ => True) (fun _ U o U' => ∃ vv_ LL_, o = .returned vv_ ∧ Q2 Z a h0 n0 vv_ U'.heap LL_ ∧ FrameEnd U o U' LL_ ({ frames := 1, cells := 0, slots := 0, locals := 12 } : Room).cells ({ frames := 1, cells := 0, slots := 0, locals := 12 } : Room).slots) := by
  refine MetFree.of_bodySF (plainFor_of_name pn_0) hisR ?_
  intro p e s m args below meth c s₁ Bd hml0 hP hK
  obtain ⟨rfl, hZ, hh⟩ := hP
  have hx := Bd.exec
  have hby := Bd.bytes
  have hml : c.maxLocals = 1 := hml0
  have hown : s.vm.findClass "java/lang/Record" = some m.cls := findClass_of_methodNamed Bd.named
  have hnm := (name_of_methodNamed Bd.named Bd.method).1
  have X0 : Stand p l e ({ frames := 1, cells := 0, slots := 0, locals := 12 } : Room) s m #[(.ref a)] below meth c s₁ [] 0 0 := Stand.of_body Bd
  have e0 : s₁.heap = h0 := by rw [← hh, Bd.state]; rfl
  have N0 := Fr.nil n0
  have K0 : Keep h0 h0 [] := Keep.refl h0 _
  refine Go.enter (P := fun o U' => ∃ vv_ LL_, o = .returned vv_ ∧ Q2 Z a h0 n0 vv_ U'.heap LL_ ∧ FrameEnd s o U' LL_ ({ frames := 1, cells := 0, slots := 0, locals := 12 } : Room).cells ({ frames := 1, cells := 0, slots := 0, locals := 12 } : Room).slots) (ef_2 m a) ?_
  show Go p e below s₁ (mkF m 0 #[.val (.ref a)] []) _
  refine Go.of (fun tg_ kk_ => XS.aloadN X0.here hx rfl (hb hby d2_0) rfl rfl kk_) ?_
  show Go p e below s₁ (mkF m 1 #[.val (.ref a)] [(.ref a)]) _
  obtain ⟨T1, X1, e1, st1⟩ := initO X0 hx hZ hown (hw _ (List.mem_of_getElem? (i := 12) rfl)) (hw _ (List.mem_of_getElem? (i := 13) rfl)) (hw _ (List.mem_of_getElem? (i := 14) rfl)) e0 (g := (mkF m 1 #[.val (.ref a)] [(.ref a)])) rfl (by rw [hml]; rfl) rfl (hb hby d2_1) (by decide) (W := 0) (by show 2 * 0 + _ ≤ _; exact Nat.le_of_eq rfl) (by decide)
  refine Go.of (st1) ?_
  show Go p e below T1 (mkF m 4 #[.val (.ref a)] []) _
  obtain ⟨fs, hr, hrun, hended, hW, hsame⟩ := X1.leave (v := none) (fun _ => rfl)
  refine ⟨_, _, ?_, hrun, hended, _, _, rfl, ?_, ⟨_, rfl⟩, hW, hsame.mono (by decide) (by decide)⟩
  · exact X1.returnOut hx Bd.returns (hb hby d2_4) hr
  · show Q2 Z a h0 n0 _ T1.heap _
    rw [e1]
    exact ⟨rfl, N0, rfl⟩
theorem d1_0 : decode prog_143_method_1_code 0 = .ok (.aload_n 0, 1) := by decide +kernel
theorem d1_1 : decode prog_143_method_1_code 1 = .ok (.invokespecial 3, 3) := by decide +kernel
theorem d1_4 : decode prog_143_method_1_code 4 = .ok (.aload_n 0, 1) := by decide +kernel
theorem d1_5 : decode prog_143_method_1_code 5 = .ok (.dload_n 1, 1) := by decide +kernel
theorem d1_6 : decode prog_143_method_1_code 6 = .ok (.putfield 9, 3) := by decide +kernel
theorem d1_9 : decode prog_143_method_1_code 9 = .ok (.aload_n 0, 1) := by decide +kernel
theorem d1_10 : decode prog_143_method_1_code 10 = .ok (.dload_n 3, 1) := by decide +kernel
theorem d1_11 : decode prog_143_method_1_code 11 = .ok (.putfield 15, 3) := by decide +kernel
theorem d1_14 : decode prog_143_method_1_code 14 = .ok (.return_, 1) := by decide +kernel
theorem ef_1 (m : MethodId) (x0 : Addr) (x1 : UInt64) (x2 : UInt64) : entryFrame m #[(.ref x0), (.double x1), (.double x2)] 5 = mkF m 0 #[.val (.ref x0), .val (.double x1), .second, .val (.double x2), .second] [] := by first | (simp [entryFrame, mkF, argsToLocals, Value.category]; done) | rfl
def Q1 (Z : State) (a : Addr) (x : UInt64) (y : UInt64) (h0 : Heap) (n0 : Nat) (v : Option Value) (h : Heap) (L : List Loc) : Prop := v = none ∧ Fr n0 L ∧ Keep h0 h [a] ∧ Fld Z h a "com/example/planwright/planwright/planner/Rounded" "value" "D" (.double x) ∧ Fld Z h a "com/example/planwright/planwright/planner/Rounded" "error" "D" (.double y)
set_option maxRecDepth 65536 in
set_option maxHeartbeats 40000000 in
theorem rm1 (l : Launch) (Z : State) (a0 : Array Value) (hw : ∀ d ∈ tables_1, d.before a0 Z = true) (ws : List Jvm.Cond) (a : Addr) (x : UInt64) (y : UInt64) (h0 : Heap) (n0 : Nat) (Z0 : n0 ≤ h0.size) (g_a : n0 ≤ a) (E_a : Exa Z h0 a "com/example/planwright/planwright/planner/Rounded") (Fv : Fld Z h0 a "com/example/planwright/planwright/planner/Rounded" "value" "D" (.double (0 : UInt64))) (Fe : Fld Z h0 a "com/example/planwright/planwright/planner/Rounded" "error" "D" (.double (0 : UInt64))) :
    MetFree l (⟨"com/example/planwright/planwright/planner/Rounded", "<init>", "(DD)V"⟩ : MethodName) (head1 (Jvm.Cond.code (⟨"com/example/planwright/planwright/planner/Rounded", "<init>", "(DD)V"⟩ : MethodName) prog_143_method_1_code 5 none :: ws) ({ frames := 2, cells := 0, slots := 0, locals := 24 } : Room)) (fun aa_ U => aa_ = #[(.ref a), (.double x), (.double y)] ∧ Z.Warmed39 U.vm ∧ U.heap = h0) (fun _ _ _ _ _ => True) (fun _ U o U' => ∃ vv_ LL_, o = .returned vv_ ∧ Q1 Z a x y h0 n0 vv_ U'.heap LL_ ∧ FrameEnd U o U' LL_ ({ frames := 2, cells := 0, slots := 0, locals := 24 } : Room).cells ({ frames := 2, cells := 0, slots := 0, locals := 24 } : Room).slots) := by
  refine MetFree.of_bodySF (plainFor_of_name pn_1) hisR ?_
  intro p e s m args below meth c s₁ Bd hml0 hP hK
  obtain ⟨rfl, hZ, hh⟩ := hP
  have hx := Bd.exec
  have hby := Bd.bytes
  have hml : c.maxLocals = 5 := hml0
  have hown : s.vm.findClass "com/example/planwright/planwright/planner/Rounded" = some m.cls := findClass_of_methodNamed Bd.named
  have hnm := (name_of_methodNamed Bd.named Bd.method).1
  have X0 : Stand p l e ({ frames := 2, cells := 0, slots := 0, locals := 24 } : Room) s m #[(.ref a), (.double x), (.double y)] below meth c s₁ [] 0 0 := Stand.of_body Bd
  have e0 : s₁.heap = h0 := by rw [← hh, Bd.state]; rfl
  have N0 := Fr.nil n0
  have K0 : Keep h0 h0 [a] := Keep.refl h0 _
  refine Go.enter (P := fun o U' => ∃ vv_ LL_, o = .returned vv_ ∧ Q1 Z a x y h0 n0 vv_ U'.heap LL_ ∧ FrameEnd s o U' LL_ ({ frames := 2, cells := 0, slots := 0, locals := 24 } : Room).cells ({ frames := 2, cells := 0, slots := 0, locals := 24 } : Room).slots) (ef_1 m a x y) ?_
  show Go p e below s₁ (mkF m 0 #[.val (.ref a), .val (.double x), .second, .val (.double y), .second] []) _
  refine Go.of (fun tg_ kk_ => XS.aloadN X0.here hx rfl (hb hby d1_0) rfl rfl kk_) ?_
  show Go p e below s₁ (mkF m 1 #[.val (.ref a), .val (.double x), .second, .val (.double y), .second] [(.ref a)]) _
  obtain ⟨_, _, ⟨T1, L1, k1, n1⟩, -, X1, ⟨Lc1, hQ1, l1, y1, z1⟩, st1⟩ := X0.specialBack hx (y := (⟨"java/lang/Record", "<init>", "()V"⟩ : MethodName)) rfl hown (mvT hZ (hw _ (List.mem_of_getElem? (i := 7) rfl))) (mvT hZ (hw _ (List.mem_of_getElem? (i := 8) rfl))) (mvT hZ (hw _ (List.mem_of_getElem? (i := 11) rfl))) (by decide) (backOf (W := 0) (rm2 l Z a0 hw [] a h0 n0 Z0) hZ (hw _ (List.mem_of_getElem? (i := 11) rfl)) (hw _ (List.mem_of_getElem? (i := 10) rfl)) (by decide) (by decide)) (g := (mkF m 1 #[.val (.ref a), .val (.double x), .second, .val (.double y), .second] [(.ref a)])) rfl (by rw [hml]; rfl) (Steps.refl _) (a := a) (argsL := []) (rest := []) (lenOf pd_0 rfl) rfl (by show 2 * 0 + _ ≤ _; exact Nat.le_of_eq rfl) (hb hby d1_1) (fun _ _ => ⟨rfl, e0, (by decide : 0 + 0 ≤ _), (by decide : 0 + 0 ≤ _)⟩)
  dsimp only [Pt.U, Pt.locs, Pt.cells, Pt.slots] at X1 l1 y1 z1 st1 hQ1
  subst l1 y1 z1
  obtain ⟨rfl, N1q, e1⟩ := hQ1
  have N1 := Fr.app N0 N1q
  refine Go.of (fun tg_ kk_ => st1.trans kk_) ?_
  show Go p e below T1 (mkF m 4 #[.val (.ref a), .val (.double x), .second, .val (.double y), .second] []) _
  refine Go.of (fun tg_ kk_ => XS.aloadN X1.here hx rfl (hb hby d1_4) rfl rfl kk_) ?_
  show Go p e below T1 (mkF m 5 #[.val (.ref a), .val (.double x), .second, .val (.double y), .second] [(.ref a)]) _
  refine Go.of (fun tg_ kk_ => own_dloadN X1.here hx rfl (hb hby d1_5) rfl kk_) ?_
  show Go p e below T1 (mkF m 6 #[.val (.ref a), .val (.double x), .second, .val (.double y), .second] [(.double x), (.ref a)]) _
  obtain ⟨T2, h2, X2, e2, W2, st2⟩ := putF X1 hx hZ hown (host := "") (Or.inl (hw _ (List.mem_of_getElem? (i := 15) rfl))) Via.refl e1 Fv E_a (Or.inr ⟨(hw _ (List.mem_of_getElem? (i := 16) rfl)), rfl, hnm⟩) (hw _ (List.mem_of_getElem? (i := 2) rfl)) (ty := .double) (by decide) rfl rfl (g := (mkF m 6 #[.val (.ref a), .val (.double x), .second, .val (.double y), .second] [(.double x), (.ref a)])) rfl rfl (hb hby d1_6)
  have Fw2 := Fv.same W2
  have F3 := E_a.wr W2
  have F5 := Fe.other W2 (Or.inr (slot_ne (Or.inr (hw _ (List.mem_of_getElem? (i := 18) rfl))) (Or.inr (hw _ (List.mem_of_getElem? (i := 16) rfl))) (by decide) (t := .double) (t' := .double) (by decide) (by decide)))
  have K6 := K0.wr W2 (Or.inl (List.mem_of_getElem? (i := 0) rfl))
  have Zs7 : n0 ≤ h2.size := Nat.le_trans Z0 (Keep.of_wr W2).1
  have N2 := Fr.snoc X2 N1 g_a
  refine Go.of (st2) ?_
  show Go p e below T2 (mkF m 9 #[.val (.ref a), .val (.double x), .second, .val (.double y), .second] []) _
  refine Go.of (fun tg_ kk_ => XS.aloadN X2.here hx rfl (hb hby d1_9) rfl rfl kk_) ?_
  show Go p e below T2 (mkF m 10 #[.val (.ref a), .val (.double x), .second, .val (.double y), .second] [(.ref a)]) _
  refine Go.of (fun tg_ kk_ => own_dloadN X2.here hx rfl (hb hby d1_10) rfl kk_) ?_
  show Go p e below T2 (mkF m 11 #[.val (.ref a), .val (.double x), .second, .val (.double y), .second] [(.double y), (.ref a)]) _
  obtain ⟨T8, h8, X8, e8, W8, st8⟩ := putF X2 hx hZ hown (host := "") (Or.inl (hw _ (List.mem_of_getElem? (i := 17) rfl))) Via.refl e2 F5 F3 (Or.inr ⟨(hw _ (List.mem_of_getElem? (i := 18) rfl)), rfl, hnm⟩) (hw _ (List.mem_of_getElem? (i := 2) rfl)) (ty := .double) (by decide) rfl rfl (g := (mkF m 11 #[.val (.ref a), .val (.double x), .second, .val (.double y), .second] [(.double y), (.ref a)])) rfl rfl (hb hby d1_11)
  have Fw8 := F5.same W8
  have F9 := F3.wr W8
  have F11 := Fw2.other W8 (Or.inr (slot_ne (Or.inr (hw _ (List.mem_of_getElem? (i := 16) rfl))) (Or.inr (hw _ (List.mem_of_getElem? (i := 18) rfl))) (by decide) (t := .double) (t' := .double) (by decide) (by decide)))
  have K12 := K6.wr W8 (Or.inl (List.mem_of_getElem? (i := 0) rfl))
  have Zs13 : n0 ≤ h8.size := Nat.le_trans Zs7 (Keep.of_wr W8).1
  have N8 := Fr.snoc X8 N2 g_a
  refine Go.of (st8) ?_
  show Go p e below T8 (mkF m 14 #[.val (.ref a), .val (.double x), .second, .val (.double y), .second] []) _
  obtain ⟨fs, hr, hrun, hended, hW, hsame⟩ := X8.leave (v := none) (fun _ => rfl)
  refine ⟨_, _, ?_, hrun, hended, _, _, rfl, ?_, ⟨_, rfl⟩, hW, hsame.mono (by decide) (by decide)⟩
  · exact X8.returnOut hx Bd.returns (hb hby d1_14) hr
  · show Q1 Z a x y h0 n0 _ T8.heap _
    rw [e8]
    exact ⟨rfl, N8, K12, F11, Fw8⟩
theorem d4_0 : decode prog_143_method_12_code 0 = .ok (.aload_n 1, 1) := by decide +kernel
theorem d4_1 : decode prog_143_method_12_code 1 = .ok (.getfield 9, 3) := by decide +kernel
theorem d4_4 : decode prog_143_method_12_code 4 = .ok (.aload_n 0, 1) := by decide +kernel
theorem d4_5 : decode prog_143_method_12_code 5 = .ok (.getfield 9, 3) := by decide +kernel
theorem d4_8 : decode prog_143_method_12_code 8 = .ok (.dsub, 1) := by decide +kernel
theorem d4_9 : decode prog_143_method_12_code 9 = .ok (.aload_n 0, 1) := by decide +kernel
theorem d4_10 : decode prog_143_method_12_code 10 = .ok (.getfield 15, 3) := by decide +kernel
theorem d4_13 : decode prog_143_method_12_code 13 = .ok (.aload_n 1, 1) := by decide +kernel
theorem d4_14 : decode prog_143_method_12_code 14 = .ok (.getfield 15, 3) := by decide +kernel
theorem d4_17 : decode prog_143_method_12_code 17 = .ok (.dadd, 1) := by decide +kernel
theorem d4_18 : decode prog_143_method_12_code 18 = .ok (.ldc2_w 74, 3) := by decide +kernel
theorem d4_21 : decode prog_143_method_12_code 21 = .ok (.dmul, 1) := by decide +kernel
theorem d4_22 : decode prog_143_method_12_code 22 = .ok (.dcmp .l, 1) := by decide +kernel
theorem d4_23 : decode prog_143_method_12_code 23 = .ok (.ifCond .le 7, 3) := by decide +kernel
theorem d4_26 : decode prog_143_method_12_code 26 = .ok (.iconst 1, 1) := by decide +kernel
theorem d4_27 : decode prog_143_method_12_code 27 = .ok (.goto 4, 3) := by decide +kernel
theorem d4_30 : decode prog_143_method_12_code 30 = .ok (.iconst 0, 1) := by decide +kernel
theorem d4_31 : decode prog_143_method_12_code 31 = .ok (.ireturn, 1) := by decide +kernel
theorem ef_4 (m : MethodId) (x0 : Addr) (x1 : Addr) : entryFrame m #[(.ref x0), (.ref x1)] 2 = mkF m 0 #[.val (.ref x0), .val (.ref x1)] [] := by first | (simp [entryFrame, mkF, argsToLocals, Value.category]; done) | rfl
def Q4 (Z : State) (a : Addr) (b : Addr) (u : UInt64) (x : UInt64) (w : UInt64) (y : UInt64) (h0 : Heap) (n0 : Nat) (v : Option Value) (h : Heap) (L : List Loc) : Prop := v = some (.int (if (0 : Int32) < cmpF u x w y then 1 else 0)) ∧ Fr n0 L ∧ h = h0
set_option maxRecDepth 65536 in
set_option maxHeartbeats 40000000 in
theorem rm4 (l : Launch) (Z : State) (a0 : Array Value) (hw : ∀ d ∈ tables_1, d.before a0 Z = true) (ws : List Jvm.Cond) (a : Addr) (b : Addr) (u : UInt64) (x : UInt64) (w : UInt64) (y : UInt64) (h0 : Heap) (n0 : Nat) (Z0 : n0 ≤ h0.size) (Fu : Fld Z h0 a "com/example/planwright/planwright/planner/Rounded" "value" "D" (.double u)) (Fx : Fld Z h0 a "com/example/planwright/planwright/planner/Rounded" "error" "D" (.double x)) (Fw : Fld Z h0 b "com/example/planwright/planwright/planner/Rounded" "value" "D" (.double w)) (Fy : Fld Z h0 b "com/example/planwright/planwright/planner/Rounded" "error" "D" (.double y)) (hN1 : Jvm.Free.Fl.NoNaN64 (FP.dsub w u)) (hN2 : Jvm.Free.Fl.NoNaN64 (FP.dadd x y)) (hN3 : Jvm.Free.Fl.NoNaN64 (FP.dmul (FP.dadd x y) (4607182418800017416 : UInt64))) :
    MetFree l (⟨"com/example/planwright/planwright/planner/Rounded", "below", "(Lcom/example/planwright/planwright/planner/Rounded;)Z"⟩ : MethodName) (head1 (Jvm.Cond.code (⟨"com/example/planwright/planwright/planner/Rounded", "below", "(Lcom/example/planwright/planwright/planner/Rounded;)Z"⟩ : MethodName) prog_143_method_12_code 2 (some .boolean) :: ws) ({ frames := 0, cells := 0, slots := 0, locals := 0 } : Room)) (fun aa_ U => aa_ = #[(.ref a), (.ref b)] ∧ Z.Warmed39 U.vm ∧ U.heap = h0) (fun _ _ _ _ _ => True) (fun _ U o U' => ∃ vv_ LL_, o = .returned vv_ ∧ Q4 Z a b u x w y h0 n0 vv_ U'.heap LL_ ∧ FrameEnd U o U' LL_ ({ frames := 0, cells := 0, slots := 0, locals := 0 } : Room).cells ({ frames := 0, cells := 0, slots := 0, locals := 0 } : Room).slots) := by
  refine MetFree.of_bodySF (plainFor_of_name pn_1) hisR ?_
  intro p e s m args below meth c s₁ Bd hml0 hP hK
  obtain ⟨rfl, hZ, hh⟩ := hP
  have hx := Bd.exec
  have hby := Bd.bytes
  have hml : c.maxLocals = 2 := hml0
  have hown : s.vm.findClass "com/example/planwright/planwright/planner/Rounded" = some m.cls := findClass_of_methodNamed Bd.named
  have hnm := (name_of_methodNamed Bd.named Bd.method).1
  have X0 : Stand p l e ({ frames := 0, cells := 0, slots := 0, locals := 0 } : Room) s m #[(.ref a), (.ref b)] below meth c s₁ [] 0 0 := Stand.of_body Bd
  have e0 : s₁.heap = h0 := by rw [← hh, Bd.state]; rfl
  have N0 := Fr.nil n0
  have K0 : Keep h0 h0 [] := Keep.refl h0 _
  refine Go.enter (P := fun o U' => ∃ vv_ LL_, o = .returned vv_ ∧ Q4 Z a b u x w y h0 n0 vv_ U'.heap LL_ ∧ FrameEnd s o U' LL_ ({ frames := 0, cells := 0, slots := 0, locals := 0 } : Room).cells ({ frames := 0, cells := 0, slots := 0, locals := 0 } : Room).slots) (ef_4 m a b) ?_
  show Go p e below s₁ (mkF m 0 #[.val (.ref a), .val (.ref b)] []) _
  refine Go.of (fun tg_ kk_ => XS.aloadN X0.here hx rfl (hb hby d4_0) rfl rfl kk_) ?_
  show Go p e below s₁ (mkF m 1 #[.val (.ref a), .val (.ref b)] [(.ref b)]) _
  obtain ⟨T1, X1, e1, st1⟩ := getF X0 hx hZ hown (host := "") (Or.inl (hw _ (List.mem_of_getElem? (i := 15) rfl))) Via.refl e0 Fw (g := (mkF m 1 #[.val (.ref a), .val (.ref b)] [(.ref b)])) rfl rfl (hb hby d4_1)
  refine Go.of (st1) ?_
  show Go p e below T1 (mkF m 4 #[.val (.ref a), .val (.ref b)] [(.double w)]) _
  refine Go.of (fun tg_ kk_ => XS.aloadN X1.here hx rfl (hb hby d4_4) rfl rfl kk_) ?_
  show Go p e below T1 (mkF m 5 #[.val (.ref a), .val (.ref b)] [(.ref a), (.double w)]) _
  obtain ⟨T2, X2, e2, st2⟩ := getF X1 hx hZ hown (host := "") (Or.inl (hw _ (List.mem_of_getElem? (i := 15) rfl))) Via.refl e1 Fu (g := (mkF m 5 #[.val (.ref a), .val (.ref b)] [(.ref a), (.double w)])) rfl rfl (hb hby d4_5)
  refine Go.of (st2) ?_
  show Go p e below T2 (mkF m 8 #[.val (.ref a), .val (.ref b)] [(.double u), (.double w)]) _
  refine Go.of (fun tg_ kk_ => own_dsub X2.here hx rfl (hb hby d4_8) rfl hN1 kk_) ?_
  show Go p e below T2 (mkF m 9 #[.val (.ref a), .val (.ref b)] [(.double (FP.dsub w u))]) _
  refine Go.of (fun tg_ kk_ => XS.aloadN X2.here hx rfl (hb hby d4_9) rfl rfl kk_) ?_
  show Go p e below T2 (mkF m 10 #[.val (.ref a), .val (.ref b)] [(.ref a), (.double (FP.dsub w u))]) _
  obtain ⟨T3, X3, e3, st3⟩ := getF X2 hx hZ hown (host := "") (Or.inl (hw _ (List.mem_of_getElem? (i := 17) rfl))) Via.refl e2 Fx (g := (mkF m 10 #[.val (.ref a), .val (.ref b)] [(.ref a), (.double (FP.dsub w u))])) rfl rfl (hb hby d4_10)
  refine Go.of (st3) ?_
  show Go p e below T3 (mkF m 13 #[.val (.ref a), .val (.ref b)] [(.double x), (.double (FP.dsub w u))]) _
  refine Go.of (fun tg_ kk_ => XS.aloadN X3.here hx rfl (hb hby d4_13) rfl rfl kk_) ?_
  show Go p e below T3 (mkF m 14 #[.val (.ref a), .val (.ref b)] [(.ref b), (.double x), (.double (FP.dsub w u))]) _
  obtain ⟨T4, X4, e4, st4⟩ := getF X3 hx hZ hown (host := "") (Or.inl (hw _ (List.mem_of_getElem? (i := 17) rfl))) Via.refl e3 Fy (g := (mkF m 14 #[.val (.ref a), .val (.ref b)] [(.ref b), (.double x), (.double (FP.dsub w u))])) rfl rfl (hb hby d4_14)
  refine Go.of (st4) ?_
  show Go p e below T4 (mkF m 17 #[.val (.ref a), .val (.ref b)] [(.double y), (.double x), (.double (FP.dsub w u))]) _
  refine Go.of (fun tg_ kk_ => own_dadd X4.here hx rfl (hb hby d4_17) rfl hN2 kk_) ?_
  show Go p e below T4 (mkF m 18 #[.val (.ref a), .val (.ref b)] [(.double (FP.dadd x y)), (.double (FP.dsub w u))]) _
  refine Go.of (X4.ldc2DoubleC hx hown (mvT hZ (hw _ (List.mem_of_getElem? (i := 24) rfl))) (g := (mkF m 18 #[.val (.ref a), .val (.ref b)] [(.double (FP.dadd x y)), (.double (FP.dsub w u))])) rfl (hb hby d4_18)) ?_
  show Go p e below T4 (mkF m 21 #[.val (.ref a), .val (.ref b)] [(.double (4607182418800017416 : UInt64)), (.double (FP.dadd x y)), (.double (FP.dsub w u))]) _
  refine Go.of (fun tg_ kk_ => own_dmul X4.here hx rfl (hb hby d4_21) rfl hN3 kk_) ?_
  show Go p e below T4 (mkF m 22 #[.val (.ref a), .val (.ref b)] [(.double (FP.dmul (FP.dadd x y) (4607182418800017416 : UInt64))), (.double (FP.dsub w u))]) _
  refine Go.of (fun tg_ kk_ => own_dcmpl X4.here hx rfl (hb hby d4_22) rfl kk_) ?_
  show Go p e below T4 (mkF m 23 #[.val (.ref a), .val (.ref b)] [(.int (cmpValue (FP.dcmp (FP.dsub w u) (FP.dmul (FP.dadd x y) (4607182418800017416 : UInt64))) .l))]) _
  by_cases h1 : (0 : Int32) < (cmpValue (FP.dcmp (FP.dsub w u) (FP.dmul (FP.dadd x y) (4607182418800017416 : UInt64))) .l)
  · skip
    refine Go.of (fun tg_ kk_ => XS.ifNo X4.here hx rfl (hb hby d4_23) rfl ((if0 _ _).trans (tlt h1).2.2.2) kk_) ?_
    show Go p e below T4 (mkF m 26 #[.val (.ref a), .val (.ref b)] []) _
    refine Go.of (fun tg_ kk_ => XS.iconst X4.here hx rfl (hb hby d4_26) kk_) ?_
    show Go p e below T4 (mkF m 27 #[.val (.ref a), .val (.ref b)] [(.int (1 : Int32))]) _
    refine Go.of (fun tg_ kk_ => XS.goto X4.here hx rfl (pc0 := 27) (pc' := 31) rfl (hb hby d4_27) (by decide) (by decide) kk_) ?_
    show Go p e below T4 (mkF m 31 #[.val (.ref a), .val (.ref b)] [(.int (1 : Int32))]) _
    obtain ⟨fs, hr, hrun, hended, hW, hsame⟩ := X4.leave (v := some (.int (1 : Int32))) (fun h => by rw [Bd.returns] at h; cases h)
    refine ⟨_, _, ?_, hrun, hended, _, _, rfl, ?_, ⟨_, rfl⟩, hW, hsame.mono (by decide) (by decide)⟩
    · exact retN X4 hx (t := .boolean) Bd.returns (by simp) (hb hby d4_31) hr
    · show Q4 Z a b u x w y h0 n0 _ T4.heap _
      rw [e4]
      exact ⟨by have h2 := h1; change (0 : Int32) < cmpF u x w y at h2; simp [h2], N0, rfl⟩
  · skip
    refine Go.of (fun tg_ kk_ => XS.ifYes X4.here hx rfl (pc0 := 23) (pc' := 30) rfl (hb hby d4_23) rfl ((if0 _ _).trans (flt h1).2.2.2) (by decide) (by decide) kk_) ?_
    show Go p e below T4 (mkF m 30 #[.val (.ref a), .val (.ref b)] []) _
    refine Go.of (fun tg_ kk_ => XS.iconst X4.here hx rfl (hb hby d4_30) kk_) ?_
    show Go p e below T4 (mkF m 31 #[.val (.ref a), .val (.ref b)] [(.int (0 : Int32))]) _
    obtain ⟨fs, hr, hrun, hended, hW, hsame⟩ := X4.leave (v := some (.int (0 : Int32))) (fun h => by rw [Bd.returns] at h; cases h)
    refine ⟨_, _, ?_, hrun, hended, _, _, rfl, ?_, ⟨_, rfl⟩, hW, hsame.mono (by decide) (by decide)⟩
    · exact retN X4 hx (t := .boolean) Bd.returns (by simp) (hb hby d4_31) hr
    · show Q4 Z a b u x w y h0 n0 _ T4.heap _
      rw [e4]
      exact ⟨by have h2 := h1; change ¬ ((0 : Int32) < cmpF u x w y) at h2; simp [h2], N0, rfl⟩
theorem ef_0 (m : MethodId) (x0 : Int32) (x1 : Int32) (x2 : Int32) (x3 : Int32) : entryFrame m #[(.int x0), (.int x1), (.int x2), (.int x3)] maxLocals = mkF m 0 #[.val (.int x0), .val (.int x1), .val (.int x2), .val (.int x3), .unset, .unset, .unset, .unset, .unset] [] := by first | (simp [entryFrame, mkF, argsToLocals, Value.category, maxLocals]; done) | rfl
def Q0 (Z : State) (p0 : Int32) (p1 : Int32) (p2 : Int32) (p3 : Int32) (h0 : Heap) (n0 : Nat) (v : Option Value) (h : Heap) (L : List Loc) : Prop := v = some (.int 1) ∧ Fr n0 L
set_option maxRecDepth 65536 in
set_option maxHeartbeats 40000000 in
theorem rm0 (l : Launch) (Z : State) (a0 : Array Value) (hw : ∀ d ∈ tables_1, d.before a0 Z = true) (ws : List Jvm.Cond) (p0 : Int32) (p1 : Int32) (p2 : Int32) (p3 : Int32) (h0 : Heap) (n0 : Nat) (Z0 : n0 ≤ h0.size) :
    MetFree l x (head1 (Jvm.Cond.code x code maxLocals ret :: ws) room_1) (fun aa_ U => aa_ = #[(.int p0), (.int p1), (.int p2), (.int p3)] ∧ Z.Warmed39 U.vm ∧ U.heap = h0) (fun _ _ _ _ _ => True) (fun _ U o U' => ∃ vv_ LL_, o = .returned vv_ ∧ Q0 Z p0 p1 p2 p3 h0 n0 vv_ U'.heap LL_ ∧ FrameEnd U o U' LL_ 16 128) := by
  refine MetFree.of_bodySF (plainFor_of_name pn_2) hisR ?_
  intro p e s m args below meth c s₁ Bd hml0 hP hK
  obtain ⟨rfl, hZ, hh⟩ := hP
  have hx := Bd.exec
  have hby := Bd.bytes
  have hml : c.maxLocals = 9 := hml0
  have hown : s.vm.findClass "com/example/planwright/planwright/planner/RoundedBelowPinLaw" = some m.cls := findClass_of_methodNamed Bd.named
  have hnm := (name_of_methodNamed Bd.named Bd.method).1
  have X0 : Stand p l e room_1 s m #[(.int p0), (.int p1), (.int p2), (.int p3)] below meth c s₁ [] 0 0 := Stand.of_body Bd
  have e0 : s₁.heap = h0 := by rw [← hh, Bd.state]; rfl
  have N0 := Fr.nil n0
  have K0 : Keep h0 h0 [] := Keep.refl h0 _
  refine Go.enter (P := fun o U' => ∃ vv_ LL_, o = .returned vv_ ∧ Q0 Z p0 p1 p2 p3 h0 n0 vv_ U'.heap LL_ ∧ FrameEnd s o U' LL_ 16 128) (ef_0 m p0 p1 p2 p3) ?_
  show Go p e below s₁ (mkF m 0 #[.val (.int p0), .val (.int p1), .val (.int p2), .val (.int p3), .unset, .unset, .unset, .unset, .unset] []) _
  refine Go.of (fun tg_ kk_ => XS.iloadN X0.here hx rfl (hb hby at_0) rfl kk_) ?_
  show Go p e below s₁ (mkF m 1 #[.val (.int p0), .val (.int p1), .val (.int p2), .val (.int p3), .unset, .unset, .unset, .unset, .unset] [(.int p2)]) _
  refine Go.of (X0.ldcInt hx hown (mvT hZ (hw _ (List.mem_of_getElem? (i := 0) rfl))) (g := (mkF m 1 #[.val (.int p0), .val (.int p1), .val (.int p2), .val (.int p3), .unset, .unset, .unset, .unset, .unset] [(.int p2)])) rfl (hb hby at_1)) ?_
  show Go p e below s₁ (mkF m 3 #[.val (.int p0), .val (.int p1), .val (.int p2), .val (.int p3), .unset, .unset, .unset, .unset, .unset] [(.int (2147483647 : Int32)), (.int p2)]) _
  refine Go.of (fun tg_ kk_ => XS.iand X0.here hx rfl (hb hby at_3) rfl kk_) ?_
  show Go p e below s₁ (mkF m 4 #[.val (.int p0), .val (.int p1), .val (.int p2), .val (.int p3), .unset, .unset, .unset, .unset, .unset] [(.int (p2 &&& (2147483647 : Int32)))]) _
  refine Go.of (fun tg_ kk_ => XS.istore X0.here hx rfl (hb hby at_4) rfl (l' := #[.val (.int p0), .val (.int p1), .val (.int p2), .val (.int p3), .val (.int (p2 &&& (2147483647 : Int32))), .unset, .unset, .unset, .unset]) rfl kk_) ?_
  show Go p e below s₁ (mkF m 6 #[.val (.int p0), .val (.int p1), .val (.int p2), .val (.int p3), .val (.int (p2 &&& (2147483647 : Int32))), .unset, .unset, .unset, .unset] []) _
  refine Go.of (fun tg_ kk_ => XS.iloadN X0.here hx rfl (hb hby at_6) rfl kk_) ?_
  show Go p e below s₁ (mkF m 7 #[.val (.int p0), .val (.int p1), .val (.int p2), .val (.int p3), .val (.int (p2 &&& (2147483647 : Int32))), .unset, .unset, .unset, .unset] [(.int p3)]) _
  refine Go.of (X0.ldcInt hx hown (mvT hZ (hw _ (List.mem_of_getElem? (i := 0) rfl))) (g := (mkF m 7 #[.val (.int p0), .val (.int p1), .val (.int p2), .val (.int p3), .val (.int (p2 &&& (2147483647 : Int32))), .unset, .unset, .unset, .unset] [(.int p3)])) rfl (hb hby at_7)) ?_
  show Go p e below s₁ (mkF m 9 #[.val (.int p0), .val (.int p1), .val (.int p2), .val (.int p3), .val (.int (p2 &&& (2147483647 : Int32))), .unset, .unset, .unset, .unset] [(.int (2147483647 : Int32)), (.int p3)]) _
  refine Go.of (fun tg_ kk_ => XS.iand X0.here hx rfl (hb hby at_9) rfl kk_) ?_
  show Go p e below s₁ (mkF m 10 #[.val (.int p0), .val (.int p1), .val (.int p2), .val (.int p3), .val (.int (p2 &&& (2147483647 : Int32))), .unset, .unset, .unset, .unset] [(.int (p3 &&& (2147483647 : Int32)))]) _
  refine Go.of (fun tg_ kk_ => XS.istore X0.here hx rfl (hb hby at_10) rfl (l' := #[.val (.int p0), .val (.int p1), .val (.int p2), .val (.int p3), .val (.int (p2 &&& (2147483647 : Int32))), .val (.int (p3 &&& (2147483647 : Int32))), .unset, .unset, .unset]) rfl kk_) ?_
  show Go p e below s₁ (mkF m 12 #[.val (.int p0), .val (.int p1), .val (.int p2), .val (.int p3), .val (.int (p2 &&& (2147483647 : Int32))), .val (.int (p3 &&& (2147483647 : Int32))), .unset, .unset, .unset] []) _
  obtain ⟨T1, h1, X1, e1, E1, A1, D1, -, st1⟩ := newO X0 hx hZ hown (hw _ (List.mem_of_getElem? (i := 1) rfl)) (hw _ (List.mem_of_getElem? (i := 2) rfl)) (hw _ (List.mem_of_getElem? (i := 3) rfl)) e0 (g := (mkF m 12 #[.val (.int p0), .val (.int p1), .val (.int p2), .val (.int p3), .val (.int (p2 &&& (2147483647 : Int32))), .val (.int (p3 &&& (2147483647 : Int32))), .unset, .unset, .unset] [])) rfl (hb hby at_12) (by decide) (by decide)
  obtain ⟨b1, g1⟩ : ∃ z, z = h0.size := ⟨_, rfl⟩
  rw [← g1] at A1 D1 st1
  have gx1 : n0 ≤ b1 := Nat.le_trans Z0 (Nat.le_of_eq g1.symm)
  have sz1 : h0.size ≤ b1 := Nat.le_trans K0.1 (Nat.le_of_eq g1.symm)
  have K2 := K0.ext E1
  have Zs3 : n0 ≤ h1.size := Nat.le_trans Z0 E1.1
  have F4 : Fld Z h1 b1 "com/example/planwright/planwright/planner/Rounded" "value" "D" (.double (0 : UInt64)) := D1 (Or.inr (hw _ (List.mem_of_getElem? (i := 16) rfl))) (ty := .double) (by decide)
  have F5 : Fld Z h1 b1 "com/example/planwright/planwright/planner/Rounded" "error" "D" (.double (0 : UInt64)) := D1 (Or.inr (hw _ (List.mem_of_getElem? (i := 18) rfl))) (ty := .double) (by decide)
  refine Go.of (st1) ?_
  show Go p e below T1 (mkF m 15 #[.val (.int p0), .val (.int p1), .val (.int p2), .val (.int p3), .val (.int (p2 &&& (2147483647 : Int32))), .val (.int (p3 &&& (2147483647 : Int32))), .unset, .unset, .unset] [(.ref b1)]) _
  refine Go.of (fun tg_ kk_ => XS.dup X1.here hx rfl (hb hby at_15) rfl rfl kk_) ?_
  show Go p e below T1 (mkF m 16 #[.val (.int p0), .val (.int p1), .val (.int p2), .val (.int p3), .val (.int (p2 &&& (2147483647 : Int32))), .val (.int (p3 &&& (2147483647 : Int32))), .unset, .unset, .unset] [(.ref b1), (.ref b1)]) _
  refine Go.of (fun tg_ kk_ => XS.iloadN X1.here hx rfl (hb hby at_16) rfl kk_) ?_
  show Go p e below T1 (mkF m 17 #[.val (.int p0), .val (.int p1), .val (.int p2), .val (.int p3), .val (.int (p2 &&& (2147483647 : Int32))), .val (.int (p3 &&& (2147483647 : Int32))), .unset, .unset, .unset] [(.int p0), (.ref b1), (.ref b1)]) _
  refine Go.of (fun tg_ kk_ => own_i2d X1.here hx rfl (hb hby at_17) rfl kk_) ?_
  show Go p e below T1 (mkF m 18 #[.val (.int p0), .val (.int p1), .val (.int p2), .val (.int p3), .val (.int (p2 &&& (2147483647 : Int32))), .val (.int (p3 &&& (2147483647 : Int32))), .unset, .unset, .unset] [(.double (FP.i2d p0)), (.ref b1), (.ref b1)]) _
  refine Go.of (fun tg_ kk_ => XS.iload X1.here hx rfl (hb hby at_18) rfl kk_) ?_
  show Go p e below T1 (mkF m 20 #[.val (.int p0), .val (.int p1), .val (.int p2), .val (.int p3), .val (.int (p2 &&& (2147483647 : Int32))), .val (.int (p3 &&& (2147483647 : Int32))), .unset, .unset, .unset] [(.int (p2 &&& (2147483647 : Int32))), (.double (FP.i2d p0)), (.ref b1), (.ref b1)]) _
  refine Go.of (fun tg_ kk_ => own_i2d X1.here hx rfl (hb hby at_20) rfl kk_) ?_
  show Go p e below T1 (mkF m 21 #[.val (.int p0), .val (.int p1), .val (.int p2), .val (.int p3), .val (.int (p2 &&& (2147483647 : Int32))), .val (.int (p3 &&& (2147483647 : Int32))), .unset, .unset, .unset] [(.double (FP.i2d (p2 &&& (2147483647 : Int32)))), (.double (FP.i2d p0)), (.ref b1), (.ref b1)]) _
  obtain ⟨_, _, ⟨T6, L6, k6, n6⟩, -, X6, ⟨Lc6, hQ6, l6, y6, z6⟩, st6⟩ := X1.specialBack hx (y := (⟨"com/example/planwright/planwright/planner/Rounded", "<init>", "(DD)V"⟩ : MethodName)) rfl hown (mvT hZ (hw _ (List.mem_of_getElem? (i := 4) rfl))) (mvT hZ (hw _ (List.mem_of_getElem? (i := 5) rfl))) (mvT hZ (hw _ (List.mem_of_getElem? (i := 6) rfl))) (by decide) (backOf (W := 1) (rm1 l Z a0 hw [] b1 (FP.i2d p0) (FP.i2d (p2 &&& (2147483647 : Int32))) h1 n0 Zs3 gx1 A1 F4 F5) hZ (hw _ (List.mem_of_getElem? (i := 6) rfl)) (hw _ (List.mem_of_getElem? (i := 3) rfl)) (by decide) (by decide)) (g := (mkF m 21 #[.val (.int p0), .val (.int p1), .val (.int p2), .val (.int p3), .val (.int (p2 &&& (2147483647 : Int32))), .val (.int (p3 &&& (2147483647 : Int32))), .unset, .unset, .unset] [(.double (FP.i2d (p2 &&& (2147483647 : Int32)))), (.double (FP.i2d p0)), (.ref b1), (.ref b1)])) rfl (by rw [hml]; rfl) (Steps.refl _) (a := b1) (argsL := [(.double (FP.i2d p0)), (.double (FP.i2d (p2 &&& (2147483647 : Int32))))]) (rest := [(.ref b1)]) (lenOf pd_1 rfl) rfl (by show 2 * 0 + _ ≤ _; exact Nat.le_of_eq rfl) (hb hby at_21) (fun _ _ => ⟨rfl, e1, (by decide : 1 + 0 ≤ _), (by decide : 2 + 0 ≤ _)⟩)
  dsimp only [Pt.U, Pt.locs, Pt.cells, Pt.slots] at X6 l6 y6 z6 st6 hQ6
  subst l6 y6 z6
  obtain ⟨rfl, N6q, K6q, F6a, F6b⟩ := hQ6
  have N6 := Fr.app N0 N6q
  have F7 := A1.keep K6q
  have K10 := K2.trans K6q (allS (Or.inr sz1) all0)
  have Zs11 : n0 ≤ T6.heap.size := Nat.le_trans Zs3 K6q.1
  refine Go.of (fun tg_ kk_ => st6.trans kk_) ?_
  show Go p e below T6 (mkF m 24 #[.val (.int p0), .val (.int p1), .val (.int p2), .val (.int p3), .val (.int (p2 &&& (2147483647 : Int32))), .val (.int (p3 &&& (2147483647 : Int32))), .unset, .unset, .unset] [(.ref b1)]) _
  refine Go.of (fun tg_ kk_ => XS.astore X6.here hx rfl (hb hby at_24) rfl rfl (l' := #[.val (.int p0), .val (.int p1), .val (.int p2), .val (.int p3), .val (.int (p2 &&& (2147483647 : Int32))), .val (.int (p3 &&& (2147483647 : Int32))), .val (.ref b1), .unset, .unset]) rfl kk_) ?_
  show Go p e below T6 (mkF m 26 #[.val (.int p0), .val (.int p1), .val (.int p2), .val (.int p3), .val (.int (p2 &&& (2147483647 : Int32))), .val (.int (p3 &&& (2147483647 : Int32))), .val (.ref b1), .unset, .unset] []) _
  obtain ⟨T12, h12, X12, e12, E12, A12, D12, -, st12⟩ := newO X6 hx hZ hown (hw _ (List.mem_of_getElem? (i := 1) rfl)) (hw _ (List.mem_of_getElem? (i := 2) rfl)) (hw _ (List.mem_of_getElem? (i := 3) rfl)) rfl (g := (mkF m 26 #[.val (.int p0), .val (.int p1), .val (.int p2), .val (.int p3), .val (.int (p2 &&& (2147483647 : Int32))), .val (.int (p3 &&& (2147483647 : Int32))), .val (.ref b1), .unset, .unset] [])) rfl (hb hby at_26) (by decide) (by decide)
  obtain ⟨b12, g12⟩ : ∃ z, z = T6.heap.size := ⟨_, rfl⟩
  rw [← g12] at A12 D12 st12
  have gx12 : n0 ≤ b12 := Nat.le_trans Zs11 (Nat.le_of_eq g12.symm)
  have sz12 : h0.size ≤ b12 := Nat.le_trans K10.1 (Nat.le_of_eq g12.symm)
  have ne13 : b1 ≠ b12 := Nat.ne_of_lt (Nat.lt_of_lt_of_le F7.lt (Nat.le_of_eq g12.symm))
  have F14 := F7.ext E12
  have F15 := F6a.ext E12
  have F16 := F6b.ext E12
  have K17 := K10.ext E12
  have Zs18 : n0 ≤ h12.size := Nat.le_trans Zs11 E12.1
  have F19 : Fld Z h12 b12 "com/example/planwright/planwright/planner/Rounded" "value" "D" (.double (0 : UInt64)) := D12 (Or.inr (hw _ (List.mem_of_getElem? (i := 16) rfl))) (ty := .double) (by decide)
  have F20 : Fld Z h12 b12 "com/example/planwright/planwright/planner/Rounded" "error" "D" (.double (0 : UInt64)) := D12 (Or.inr (hw _ (List.mem_of_getElem? (i := 18) rfl))) (ty := .double) (by decide)
  refine Go.of (st12) ?_
  show Go p e below T12 (mkF m 29 #[.val (.int p0), .val (.int p1), .val (.int p2), .val (.int p3), .val (.int (p2 &&& (2147483647 : Int32))), .val (.int (p3 &&& (2147483647 : Int32))), .val (.ref b1), .unset, .unset] [(.ref b12)]) _
  refine Go.of (fun tg_ kk_ => XS.dup X12.here hx rfl (hb hby at_29) rfl rfl kk_) ?_
  show Go p e below T12 (mkF m 30 #[.val (.int p0), .val (.int p1), .val (.int p2), .val (.int p3), .val (.int (p2 &&& (2147483647 : Int32))), .val (.int (p3 &&& (2147483647 : Int32))), .val (.ref b1), .unset, .unset] [(.ref b12), (.ref b12)]) _
  refine Go.of (fun tg_ kk_ => XS.iloadN X12.here hx rfl (hb hby at_30) rfl kk_) ?_
  show Go p e below T12 (mkF m 31 #[.val (.int p0), .val (.int p1), .val (.int p2), .val (.int p3), .val (.int (p2 &&& (2147483647 : Int32))), .val (.int (p3 &&& (2147483647 : Int32))), .val (.ref b1), .unset, .unset] [(.int p1), (.ref b12), (.ref b12)]) _
  refine Go.of (fun tg_ kk_ => own_i2d X12.here hx rfl (hb hby at_31) rfl kk_) ?_
  show Go p e below T12 (mkF m 32 #[.val (.int p0), .val (.int p1), .val (.int p2), .val (.int p3), .val (.int (p2 &&& (2147483647 : Int32))), .val (.int (p3 &&& (2147483647 : Int32))), .val (.ref b1), .unset, .unset] [(.double (FP.i2d p1)), (.ref b12), (.ref b12)]) _
  refine Go.of (fun tg_ kk_ => XS.iload X12.here hx rfl (hb hby at_32) rfl kk_) ?_
  show Go p e below T12 (mkF m 34 #[.val (.int p0), .val (.int p1), .val (.int p2), .val (.int p3), .val (.int (p2 &&& (2147483647 : Int32))), .val (.int (p3 &&& (2147483647 : Int32))), .val (.ref b1), .unset, .unset] [(.int (p3 &&& (2147483647 : Int32))), (.double (FP.i2d p1)), (.ref b12), (.ref b12)]) _
  refine Go.of (fun tg_ kk_ => own_i2d X12.here hx rfl (hb hby at_34) rfl kk_) ?_
  show Go p e below T12 (mkF m 35 #[.val (.int p0), .val (.int p1), .val (.int p2), .val (.int p3), .val (.int (p2 &&& (2147483647 : Int32))), .val (.int (p3 &&& (2147483647 : Int32))), .val (.ref b1), .unset, .unset] [(.double (FP.i2d (p3 &&& (2147483647 : Int32)))), (.double (FP.i2d p1)), (.ref b12), (.ref b12)]) _
  obtain ⟨_, _, ⟨T21, L21, k21, n21⟩, -, X21, ⟨Lc21, hQ21, l21, y21, z21⟩, st21⟩ := X12.specialBack hx (y := (⟨"com/example/planwright/planwright/planner/Rounded", "<init>", "(DD)V"⟩ : MethodName)) rfl hown (mvT hZ (hw _ (List.mem_of_getElem? (i := 4) rfl))) (mvT hZ (hw _ (List.mem_of_getElem? (i := 5) rfl))) (mvT hZ (hw _ (List.mem_of_getElem? (i := 6) rfl))) (by decide) (backOf (W := 1) (rm1 l Z a0 hw [] b12 (FP.i2d p1) (FP.i2d (p3 &&& (2147483647 : Int32))) h12 n0 Zs18 gx12 A12 F19 F20) hZ (hw _ (List.mem_of_getElem? (i := 6) rfl)) (hw _ (List.mem_of_getElem? (i := 3) rfl)) (by decide) (by decide)) (g := (mkF m 35 #[.val (.int p0), .val (.int p1), .val (.int p2), .val (.int p3), .val (.int (p2 &&& (2147483647 : Int32))), .val (.int (p3 &&& (2147483647 : Int32))), .val (.ref b1), .unset, .unset] [(.double (FP.i2d (p3 &&& (2147483647 : Int32)))), (.double (FP.i2d p1)), (.ref b12), (.ref b12)])) rfl (by rw [hml]; rfl) (Steps.refl _) (a := b12) (argsL := [(.double (FP.i2d p1)), (.double (FP.i2d (p3 &&& (2147483647 : Int32))))]) (rest := [(.ref b12)]) (lenOf pd_1 rfl) rfl (by show 2 * 0 + _ ≤ _; exact Nat.le_of_eq rfl) (hb hby at_35) (fun _ _ => ⟨rfl, e12, (by decide : 2 + 0 ≤ _), (by decide : 4 + 0 ≤ _)⟩)
  dsimp only [Pt.U, Pt.locs, Pt.cells, Pt.slots] at X21 l21 y21 z21 st21 hQ21
  subst l21 y21 z21
  obtain ⟨rfl, N21q, K21q, F21a, F21b⟩ := hQ21
  have N21 := Fr.app N6 N21q
  have F22 := F14.keep K21q
  have F23 := F15.keep K21q (ninS ne13 nin0)
  have F24 := F16.keep K21q (ninS ne13 nin0)
  have F25 := A12.keep K21q
  have K28 := K17.trans K21q (allS (Or.inr sz12) all0)
  have Zs29 : n0 ≤ T21.heap.size := Nat.le_trans Zs18 K21q.1
  refine Go.of (fun tg_ kk_ => st21.trans kk_) ?_
  show Go p e below T21 (mkF m 38 #[.val (.int p0), .val (.int p1), .val (.int p2), .val (.int p3), .val (.int (p2 &&& (2147483647 : Int32))), .val (.int (p3 &&& (2147483647 : Int32))), .val (.ref b1), .unset, .unset] [(.ref b12)]) _
  refine Go.of (fun tg_ kk_ => XS.astore X21.here hx rfl (hb hby at_38) rfl rfl (l' := #[.val (.int p0), .val (.int p1), .val (.int p2), .val (.int p3), .val (.int (p2 &&& (2147483647 : Int32))), .val (.int (p3 &&& (2147483647 : Int32))), .val (.ref b1), .val (.ref b12), .unset]) rfl kk_) ?_
  show Go p e below T21 (mkF m 40 #[.val (.int p0), .val (.int p1), .val (.int p2), .val (.int p3), .val (.int (p2 &&& (2147483647 : Int32))), .val (.int (p3 &&& (2147483647 : Int32))), .val (.ref b1), .val (.ref b12), .unset] []) _
  refine Go.of (fun tg_ kk_ => XS.iloadN X21.here hx rfl (hb hby at_40) rfl kk_) ?_
  show Go p e below T21 (mkF m 41 #[.val (.int p0), .val (.int p1), .val (.int p2), .val (.int p3), .val (.int (p2 &&& (2147483647 : Int32))), .val (.int (p3 &&& (2147483647 : Int32))), .val (.ref b1), .val (.ref b12), .unset] [(.int p1)]) _
  refine Go.of (fun tg_ kk_ => XS.i2l X21.here hx rfl (hb hby at_41) rfl kk_) ?_
  show Go p e below T21 (mkF m 42 #[.val (.int p0), .val (.int p1), .val (.int p2), .val (.int p3), .val (.int (p2 &&& (2147483647 : Int32))), .val (.int (p3 &&& (2147483647 : Int32))), .val (.ref b1), .val (.ref b12), .unset] [(.long (p1.toInt64))]) _
  refine Go.of (fun tg_ kk_ => XS.iloadN X21.here hx rfl (hb hby at_42) rfl kk_) ?_
  show Go p e below T21 (mkF m 43 #[.val (.int p0), .val (.int p1), .val (.int p2), .val (.int p3), .val (.int (p2 &&& (2147483647 : Int32))), .val (.int (p3 &&& (2147483647 : Int32))), .val (.ref b1), .val (.ref b12), .unset] [(.int p0), (.long (p1.toInt64))]) _
  refine Go.of (fun tg_ kk_ => XS.i2l X21.here hx rfl (hb hby at_43) rfl kk_) ?_
  show Go p e below T21 (mkF m 44 #[.val (.int p0), .val (.int p1), .val (.int p2), .val (.int p3), .val (.int (p2 &&& (2147483647 : Int32))), .val (.int (p3 &&& (2147483647 : Int32))), .val (.ref b1), .val (.ref b12), .unset] [(.long (p0.toInt64)), (.long (p1.toInt64))]) _
  refine Go.of (fun tg_ kk_ => XS.lsub X21.here hx rfl (hb hby at_44) rfl kk_) ?_
  show Go p e below T21 (mkF m 45 #[.val (.int p0), .val (.int p1), .val (.int p2), .val (.int p3), .val (.int (p2 &&& (2147483647 : Int32))), .val (.int (p3 &&& (2147483647 : Int32))), .val (.ref b1), .val (.ref b12), .unset] [(.long ((p1.toInt64) - (p0.toInt64)))]) _
  refine Go.of (fun tg_ kk_ => XS.iload X21.here hx rfl (hb hby at_45) rfl kk_) ?_
  show Go p e below T21 (mkF m 47 #[.val (.int p0), .val (.int p1), .val (.int p2), .val (.int p3), .val (.int (p2 &&& (2147483647 : Int32))), .val (.int (p3 &&& (2147483647 : Int32))), .val (.ref b1), .val (.ref b12), .unset] [(.int (p2 &&& (2147483647 : Int32))), (.long ((p1.toInt64) - (p0.toInt64)))]) _
  refine Go.of (fun tg_ kk_ => XS.i2l X21.here hx rfl (hb hby at_47) rfl kk_) ?_
  show Go p e below T21 (mkF m 48 #[.val (.int p0), .val (.int p1), .val (.int p2), .val (.int p3), .val (.int (p2 &&& (2147483647 : Int32))), .val (.int (p3 &&& (2147483647 : Int32))), .val (.ref b1), .val (.ref b12), .unset] [(.long ((p2 &&& (2147483647 : Int32)).toInt64)), (.long ((p1.toInt64) - (p0.toInt64)))]) _
  refine Go.of (fun tg_ kk_ => XS.iload X21.here hx rfl (hb hby at_48) rfl kk_) ?_
  show Go p e below T21 (mkF m 50 #[.val (.int p0), .val (.int p1), .val (.int p2), .val (.int p3), .val (.int (p2 &&& (2147483647 : Int32))), .val (.int (p3 &&& (2147483647 : Int32))), .val (.ref b1), .val (.ref b12), .unset] [(.int (p3 &&& (2147483647 : Int32))), (.long ((p2 &&& (2147483647 : Int32)).toInt64)), (.long ((p1.toInt64) - (p0.toInt64)))]) _
  refine Go.of (fun tg_ kk_ => XS.i2l X21.here hx rfl (hb hby at_50) rfl kk_) ?_
  show Go p e below T21 (mkF m 51 #[.val (.int p0), .val (.int p1), .val (.int p2), .val (.int p3), .val (.int (p2 &&& (2147483647 : Int32))), .val (.int (p3 &&& (2147483647 : Int32))), .val (.ref b1), .val (.ref b12), .unset] [(.long ((p3 &&& (2147483647 : Int32)).toInt64)), (.long ((p2 &&& (2147483647 : Int32)).toInt64)), (.long ((p1.toInt64) - (p0.toInt64)))]) _
  refine Go.of (fun tg_ kk_ => XS.ladd X21.here hx rfl (hb hby at_51) rfl kk_) ?_
  show Go p e below T21 (mkF m 52 #[.val (.int p0), .val (.int p1), .val (.int p2), .val (.int p3), .val (.int (p2 &&& (2147483647 : Int32))), .val (.int (p3 &&& (2147483647 : Int32))), .val (.ref b1), .val (.ref b12), .unset] [(.long (((p2 &&& (2147483647 : Int32)).toInt64) + ((p3 &&& (2147483647 : Int32)).toInt64))), (.long ((p1.toInt64) - (p0.toInt64)))]) _
  refine Go.of (fun tg_ kk_ => XS.lcmp X21.here hx rfl (hb hby at_52) rfl kk_) ?_
  show Go p e below T21 (mkF m 53 #[.val (.int p0), .val (.int p1), .val (.int p2), .val (.int p3), .val (.int (p2 &&& (2147483647 : Int32))), .val (.int (p3 &&& (2147483647 : Int32))), .val (.ref b1), .val (.ref b12), .unset] [(.int (lcmpW ((p1.toInt64) - (p0.toInt64)) (((p2 &&& (2147483647 : Int32)).toInt64) + ((p3 &&& (2147483647 : Int32)).toInt64))))]) _
  have st30 : ∀ ex : Int32, ex = (if (((p2 &&& (2147483647 : Int32)).toInt64) + ((p3 &&& (2147483647 : Int32)).toInt64)) < ((p1.toInt64) - (p0.toInt64)) then (1 : Int32) else (0 : Int32)) → ∀ t, Steps p.tables e below (T21.setTop (mkF m 61 #[.val (.int p0), .val (.int p1), .val (.int p2), .val (.int p3), .val (.int (p2 &&& (2147483647 : Int32))), .val (.int (p3 &&& (2147483647 : Int32))), .val (.ref b1), .val (.ref b12), .unset] [(.int ex)])) t → Steps p.tables e below (T21.setTop (mkF m 53 #[.val (.int p0), .val (.int p1), .val (.int p2), .val (.int p3), .val (.int (p2 &&& (2147483647 : Int32))), .val (.int (p3 &&& (2147483647 : Int32))), .val (.ref b1), .val (.ref b12), .unset] [(.int (lcmpW ((p1.toInt64) - (p0.toInt64)) (((p2 &&& (2147483647 : Int32)).toInt64) + ((p3 &&& (2147483647 : Int32)).toInt64))))])) t := by
    intro ex qex tg_ kk_
    by_cases hc : (((p2 &&& (2147483647 : Int32)).toInt64) + ((p3 &&& (2147483647 : Int32)).toInt64)) < ((p1.toInt64) - (p0.toInt64))
    · rw [if_pos hc] at qex; rw [qex] at kk_
      show Steps p.tables e below (T21.setTop (mkF m 53 #[.val (.int p0), .val (.int p1), .val (.int p2), .val (.int p3), .val (.int (p2 &&& (2147483647 : Int32))), .val (.int (p3 &&& (2147483647 : Int32))), .val (.ref b1), .val (.ref b12), .unset] [(.int (lcmpW ((p1.toInt64) - (p0.toInt64)) (((p2 &&& (2147483647 : Int32)).toInt64) + ((p3 &&& (2147483647 : Int32)).toInt64))))])) _
      refine XS.ifNo X21.here hx rfl (hb hby at_53) rfl ((if0 _ _).trans (tlt ((lw_gt ((p1.toInt64) - (p0.toInt64)) (((p2 &&& (2147483647 : Int32)).toInt64) + ((p3 &&& (2147483647 : Int32)).toInt64))).mpr hc)).2.2.2) ?_
      show Steps p.tables e below (T21.setTop (mkF m 56 #[.val (.int p0), .val (.int p1), .val (.int p2), .val (.int p3), .val (.int (p2 &&& (2147483647 : Int32))), .val (.int (p3 &&& (2147483647 : Int32))), .val (.ref b1), .val (.ref b12), .unset] [])) _
      refine XS.iconst X21.here hx rfl (hb hby at_56) ?_
      show Steps p.tables e below (T21.setTop (mkF m 57 #[.val (.int p0), .val (.int p1), .val (.int p2), .val (.int p3), .val (.int (p2 &&& (2147483647 : Int32))), .val (.int (p3 &&& (2147483647 : Int32))), .val (.ref b1), .val (.ref b12), .unset] [(.int (1 : Int32))])) _
      refine XS.goto X21.here hx rfl (pc0 := 57) (pc' := 61) rfl (hb hby at_57) (by decide) (by decide) ?_
      show Steps p.tables e below (T21.setTop (mkF m 61 #[.val (.int p0), .val (.int p1), .val (.int p2), .val (.int p3), .val (.int (p2 &&& (2147483647 : Int32))), .val (.int (p3 &&& (2147483647 : Int32))), .val (.ref b1), .val (.ref b12), .unset] [(.int (1 : Int32))])) _
      exact kk_
    · rw [if_neg hc] at qex; rw [qex] at kk_
      show Steps p.tables e below (T21.setTop (mkF m 53 #[.val (.int p0), .val (.int p1), .val (.int p2), .val (.int p3), .val (.int (p2 &&& (2147483647 : Int32))), .val (.int (p3 &&& (2147483647 : Int32))), .val (.ref b1), .val (.ref b12), .unset] [(.int (lcmpW ((p1.toInt64) - (p0.toInt64)) (((p2 &&& (2147483647 : Int32)).toInt64) + ((p3 &&& (2147483647 : Int32)).toInt64))))])) _
      refine XS.ifYes X21.here hx rfl (pc0 := 53) (pc' := 60) rfl (hb hby at_53) rfl ((if0 _ _).trans (flt (fun q => hc ((lw_gt ((p1.toInt64) - (p0.toInt64)) (((p2 &&& (2147483647 : Int32)).toInt64) + ((p3 &&& (2147483647 : Int32)).toInt64))).mp q))).2.2.2) (by decide) (by decide) ?_
      show Steps p.tables e below (T21.setTop (mkF m 60 #[.val (.int p0), .val (.int p1), .val (.int p2), .val (.int p3), .val (.int (p2 &&& (2147483647 : Int32))), .val (.int (p3 &&& (2147483647 : Int32))), .val (.ref b1), .val (.ref b12), .unset] [])) _
      refine XS.iconst X21.here hx rfl (hb hby at_60) ?_
      show Steps p.tables e below (T21.setTop (mkF m 61 #[.val (.int p0), .val (.int p1), .val (.int p2), .val (.int p3), .val (.int (p2 &&& (2147483647 : Int32))), .val (.int (p3 &&& (2147483647 : Int32))), .val (.ref b1), .val (.ref b12), .unset] [(.int (0 : Int32))])) _
      exact kk_
  obtain ⟨ex, qex⟩ : ∃ z : Int32, z = (if (((p2 &&& (2147483647 : Int32)).toInt64) + ((p3 &&& (2147483647 : Int32)).toInt64)) < ((p1.toInt64) - (p0.toInt64)) then (1 : Int32) else (0 : Int32)) := ⟨_, rfl⟩
  refine Go.of (st30 ex qex) ?_
  show Go p e below T21 (mkF m 61 #[.val (.int p0), .val (.int p1), .val (.int p2), .val (.int p3), .val (.int (p2 &&& (2147483647 : Int32))), .val (.int (p3 &&& (2147483647 : Int32))), .val (.ref b1), .val (.ref b12), .unset] [(.int ex)]) _
  refine Go.of (fun tg_ kk_ => XS.istore X21.here hx rfl (hb hby at_61) rfl (l' := #[.val (.int p0), .val (.int p1), .val (.int p2), .val (.int p3), .val (.int (p2 &&& (2147483647 : Int32))), .val (.int (p3 &&& (2147483647 : Int32))), .val (.ref b1), .val (.ref b12), .val (.int ex)]) rfl kk_) ?_
  show Go p e below T21 (mkF m 63 #[.val (.int p0), .val (.int p1), .val (.int p2), .val (.int p3), .val (.int (p2 &&& (2147483647 : Int32))), .val (.int (p3 &&& (2147483647 : Int32))), .val (.ref b1), .val (.ref b12), .val (.int ex)] []) _
  refine Go.of (fun tg_ kk_ => XS.aload X21.here hx rfl (hb hby at_63) rfl rfl kk_) ?_
  show Go p e below T21 (mkF m 65 #[.val (.int p0), .val (.int p1), .val (.int p2), .val (.int p3), .val (.int (p2 &&& (2147483647 : Int32))), .val (.int (p3 &&& (2147483647 : Int32))), .val (.ref b1), .val (.ref b12), .val (.int ex)] [(.ref b1)]) _
  refine Go.of (fun tg_ kk_ => XS.aload X21.here hx rfl (hb hby at_65) rfl rfl kk_) ?_
  show Go p e below T21 (mkF m 67 #[.val (.int p0), .val (.int p1), .val (.int p2), .val (.int p3), .val (.int (p2 &&& (2147483647 : Int32))), .val (.int (p3 &&& (2147483647 : Int32))), .val (.ref b1), .val (.ref b12), .val (.int ex)] [(.ref b12), (.ref b1)]) _
  obtain ⟨cq31, kq31, q31a, q31b, q31c⟩ := isOf hZ rfl F22
  obtain ⟨_, _, ⟨T31, L31, k31, n31⟩, -, X31, ⟨Lc31, hQ31, l31, y31, z31⟩, st31⟩ := X21.virtualBack hx (y := (⟨"com/example/planwright/planwright/planner/Rounded", "below", "(Lcom/example/planwright/planwright/planner/Rounded;)Z"⟩ : MethodName)) (z := (⟨"com/example/planwright/planwright/planner/Rounded", "below", "(Lcom/example/planwright/planwright/planner/Rounded;)Z"⟩ : MethodName)) hown (mvT hZ (hw _ (List.mem_of_getElem? (i := 19) rfl))) (mvT hZ (hw _ (List.mem_of_getElem? (i := 20) rfl))) (notFace_of_selects (args := #[]) (mvT hZ (hw _ (List.mem_of_getElem? (i := 22) rfl)))) (mvT hZ (hw _ (List.mem_of_getElem? (i := 22) rfl))) (mvT hZ (hw _ (List.mem_of_getElem? (i := 21) rfl))) (by decide) (backOf (W := 0) (rm4 l Z a0 hw [] b1 b12 (FP.i2d p0) (FP.i2d (p2 &&& (2147483647 : Int32))) (FP.i2d p1) (FP.i2d (p3 &&& (2147483647 : Int32))) T21.heap n0 Zs29 F23 F24 F21a F21b (own_n1 p0 p1) (own_n2 p2 p3) (own_n3 p2 p3)) hZ (hw _ (List.mem_of_getElem? (i := 23) rfl)) (hw _ (List.mem_of_getElem? (i := 3) rfl)) (by decide) (by decide)) q31a q31c (g := (mkF m 67 #[.val (.int p0), .val (.int p1), .val (.int p2), .val (.int p3), .val (.int (p2 &&& (2147483647 : Int32))), .val (.int (p3 &&& (2147483647 : Int32))), .val (.ref b1), .val (.ref b12), .val (.int ex)] [(.ref b12), (.ref b1)])) rfl (by rw [hml]; rfl) (Steps.refl _) (argsL := [(.ref b12)]) (rest := []) (lenOf pd_2 rfl) rfl (by show 2 * 0 + _ ≤ _; exact Nat.le_of_eq rfl) (hb hby at_67) (fun _ _ => ⟨rfl, rfl, (by decide : 2 + 0 ≤ _), (by decide : 4 + 0 ≤ _)⟩)
  dsimp only [Pt.U, Pt.locs, Pt.cells, Pt.slots] at X31 l31 y31 z31 st31 hQ31
  subst l31 y31 z31
  obtain ⟨rfl, N31q, e31⟩ := hQ31
  have N31 := Fr.app N21 N31q
  refine Go.of (fun tg_ kk_ => st31.trans kk_) ?_
  show Go p e below T31 (mkF m 70 #[.val (.int p0), .val (.int p1), .val (.int p2), .val (.int p3), .val (.int (p2 &&& (2147483647 : Int32))), .val (.int (p3 &&& (2147483647 : Int32))), .val (.ref b1), .val (.ref b12), .val (.int ex)] [(.int (if (0 : Int32) < cmpF (FP.i2d p0) (FP.i2d (p2 &&& (2147483647 : Int32))) (FP.i2d p1) (FP.i2d (p3 &&& (2147483647 : Int32))) then (1 : Int32) else (0 : Int32)))]) _
  refine Go.of (fun tg_ kk_ => XS.iload X31.here hx rfl (hb hby at_70) rfl kk_) ?_
  show Go p e below T31 (mkF m 72 #[.val (.int p0), .val (.int p1), .val (.int p2), .val (.int p3), .val (.int (p2 &&& (2147483647 : Int32))), .val (.int (p3 &&& (2147483647 : Int32))), .val (.ref b1), .val (.ref b12), .val (.int ex)] [(.int ex), (.int (if (0 : Int32) < cmpF (FP.i2d p0) (FP.i2d (p2 &&& (2147483647 : Int32))) (FP.i2d p1) (FP.i2d (p3 &&& (2147483647 : Int32))) then (1 : Int32) else (0 : Int32)))]) _
  refine Go.of (fun tg_ kk_ => XS.icmpNo X31.here hx rfl (hb hby at_72) rfl (teq (show (if (0 : Int32) < cmpF (FP.i2d p0) (FP.i2d (p2 &&& (2147483647 : Int32))) (FP.i2d p1) (FP.i2d (p3 &&& (2147483647 : Int32))) then (1 : Int32) else (0 : Int32)) = ex from (by rw [qex]; exact own_law p0 p1 p2 p3))).2 kk_) ?_
  show Go p e below T31 (mkF m 75 #[.val (.int p0), .val (.int p1), .val (.int p2), .val (.int p3), .val (.int (p2 &&& (2147483647 : Int32))), .val (.int (p3 &&& (2147483647 : Int32))), .val (.ref b1), .val (.ref b12), .val (.int ex)] []) _
  refine Go.of (fun tg_ kk_ => XS.iconst X31.here hx rfl (hb hby at_75) kk_) ?_
  show Go p e below T31 (mkF m 76 #[.val (.int p0), .val (.int p1), .val (.int p2), .val (.int p3), .val (.int (p2 &&& (2147483647 : Int32))), .val (.int (p3 &&& (2147483647 : Int32))), .val (.ref b1), .val (.ref b12), .val (.int ex)] [(.int (1 : Int32))]) _
  refine Go.of (fun tg_ kk_ => XS.goto X31.here hx rfl (pc0 := 76) (pc' := 80) rfl (hb hby at_76) (by decide) (by decide) kk_) ?_
  show Go p e below T31 (mkF m 80 #[.val (.int p0), .val (.int p1), .val (.int p2), .val (.int p3), .val (.int (p2 &&& (2147483647 : Int32))), .val (.int (p3 &&& (2147483647 : Int32))), .val (.ref b1), .val (.ref b12), .val (.int ex)] [(.int (1 : Int32))]) _
  obtain ⟨fs, hr, hrun, hended, hW, hsame⟩ := X31.leave (v := some (.int (1 : Int32))) (fun h => by rw [Bd.returns] at h; cases h)
  refine ⟨_, _, ?_, hrun, hended, _, _, rfl, ?_, ⟨_, rfl⟩, hW, hsame.mono (by decide) (by decide)⟩
  · exact retN X31 hx (t := .boolean) Bd.returns (by simp) (hb hby at_80) hr
  · show Q0 Z p0 p1 p2 p3 h0 n0 _ T31.heap _
    rw [e31]
    exact ⟨rfl, N31⟩
set_option maxRecDepth 65536 in
set_option maxHeartbeats 40000000 in
theorem comes_1 {Post : Tables → Env → Array Value → State → Outcome → State → Prop} (hpost : ∀ tb e args s v u, (limb_1_1.after args s (.returned v) u = true ∧ limb_1_2.after args s (.returned v) u = true ∧ True) → FrameEnd s (.returned v) u (Jvm.fieldLocs frame_1_writes args s ++ Jvm.arrayLocs frame_1_arrays args s ++ Jvm.staticLocs frame_1_statics s) 16 128 → Post tb e args s (.returned v) u) :
    ArmFor flags0 classFile x code maxLocals ret World_1 tables_1 room_1 Calls_1 rest_1 Pre_1 Post := by
  intro l hfl _ _ p e ha hc hk s m args below hf hA hF happ hP
  obtain ⟨hcalls, hrest, hpre⟩ := hP
  obtain ⟨-, -, -, hnamed, -, -, -, hat⟩ := (Spec.applies_iff hf).mp happ
  obtain ⟨hg, hn⟩ := and_e (Cond.before_iff.mp (show (Jvm.Cond.and given_1 narrow_1).before args s = true from hpre))
  obtain ⟨gc, gr0⟩ := and_e hg
  obtain ⟨ga0, gr1⟩ := and_e gr0
  obtain ⟨ga1, gr2⟩ := and_e gr1
  obtain ⟨ga2, gr3⟩ := and_e gr2
  obtain ⟨w0, w1, w2, w3, rfl⟩ : ∃ w0 w1 w2 w3 : Value, args = #[w0, w1, w2, w3] := by
    have hs : args.size = 4 := by simpa [Cond.value, given_1] using gc
    obtain ⟨L⟩ := args
    match L, hs with
    | [w0, w1, w2, w3], _ => exact ⟨w0, w1, w2, w3, rfl⟩
  have hw := fun d (hd : d ∈ tables_1) => atoms_spec (ws := Jvm.Cond.code x code maxLocals ret :: tables_1) hat d (List.mem_cons_of_mem _ hd)
  obtain ⟨i0, ei0⟩ := is_v ga0
  obtain rfl : w0 = (.int i0) := Option.some.inj ei0
  obtain ⟨i1, ei1⟩ := is_v ga1
  obtain rfl : w1 = (.int i1) := Option.some.inj ei1
  obtain ⟨i2, ei2⟩ := is_v ga2
  obtain rfl : w2 = (.int i2) := Option.some.inj ei2
  obtain ⟨i3, ei3⟩ := is_v gr3
  obtain rfl : w3 = (.int i3) := Option.some.inj ei3
  obtain ⟨n, o, h1, h2, h3, _, L, rfl, ⟨rfl, N⟩, hq⟩ := rm0 l s _ hw tables_1 i0 i1 i2 i3 s.heap s.heap.size (Nat.le_refl _) p e ha hc hk s m _ below hf ((Spec.applies_iff_loose hf).mp happ).1 ⟨rfl, State.Warmed39.refl s, rfl⟩ trivial
  refine ⟨n, _, h1, h2, h3, hpost _ _ _ _ _ _ ⟨Cond.after_iff.mpr rfl, Cond.after_iff.mpr (eq_i res_at (Term.int_eval (1)) rfl), trivial⟩ ⟨hq.1, hq.2.1, (hq.2.2.sift fun y hy => Or.inr (N y hy)).mono (by decide) (by decide)⟩⟩
theorem main_1_1 : Claimed_1_1 := comes_1 fun _ _ _ _ _ _ h hF => ⟨h.1, hF⟩
theorem main_1_2 : Claimed_1_2 := comes_1 fun _ _ _ _ _ _ h hF => ⟨h.2.1, hF⟩
end Jvm.Pilot.@@N@@
namespace Jvm.Pilot.@@N@@
open Jvm Jvm.ClassFile Sem Op Lib Jvm.Free Jvm.Stand Jvm.Pilot.@@N@@.Jvm.D
/-! MADE BY PROGRAM (witnessworld.py) out of the Statement's table words and the real class files: 10 classes; the members and pool entries that the words name. The judged class is class 1, her method 1. -/
namespace start1
open Jvm.ClassFile
def u (s : String) : CpInfo := .utf8 (stringToUtf16 s)
/-- a pool by its gaps: so many unusable entries, then the entry; so many at the end -/
def gap : Nat → List CpInfo → List CpInfo
  | 0, r => r
  | n + 1, r => .unusable :: gap n r
def poolList (es : List (Nat × CpInfo)) (last : Nat) : List CpInfo := es.foldr (fun e r => gap e.1 (e.2 :: r)) (gap last [])
def pool (es : List (Nat × CpInfo)) (last : Nat) : Array CpInfo := ⟨poolList es last⟩
def fileOf (pool : Array CpInfo) (this : Nat) (attrs : Array Attribute := #[]) (ms : Array MethodInfo := #[]) (fl : Nat := 33) (sup : Nat := 0) (ifs : Array Nat := #[]) (fds : Array FieldInfo := #[]) : ClassFile where
  minorVersion := 0
  majorVersion := 65
  constantPool := pool
  accessFlags := fl
  thisClass := this
  superClass := sup
  interfaces := ifs
  fields := fds
  methods := ms
  attributes := attrs
def plain (name : String) (sup : Option ClassId) : Class where
  name := name
  kind := .ordinary
  loader := none
  accessFlags := 33
  super := sup
  interfaces := #[]
  cf := none
  fields := #[]
  methods := #[]
  instanceTypes := #[]
  staticTypes := #[]
  resolved := #[]
  callSites := []
  init := .initialized
  statics := none
  mirror := none

def pool0 : Array CpInfo := pool [(5, u "<init>"), (0, u "()V"), (1, .class_ 10), (1, u "java/lang/Object")] 113

def k0c0 : Code := { maxStack := 0, maxLocals := 1, code := object_method_1_code, exceptionTable := #[], attributes := #[] }
def k0m0 : Method := { name := "<init>", desc := "()V", sig := { parameters := [], returnType := none }, accessFlags := 1, code := some k0c0 }
/-- java/lang/Object -/
def k0 : Class := { plain "java/lang/Object" none with
  accessFlags := 33
  interfaces := #[]
  cf := some (fileOf pool0 8 #[] #[{ accessFlags := 1, nameIndex := 5, descriptorIndex := 6, attributes := #[] }] 33 0 #[] #[])
  fields := #[]
  methods := #[k0m0]
  instanceTypes := #[]
  staticTypes := #[]
  resolved := Array.replicate 124 none
  statics := none }

def pool1 : Array CpInfo := pool [(2, .class_ 4), (1, u "java/lang/Object"), (0, u "<init>"), (0, u "()V"), (0, .integer 2147483647), (0, .class_ 9), (0, u "com/example/planwright/planwright/planner/Rounded"), (0, .methodref 8 11), (0, .nameAndType 5 12), (0, u "(DD)V"), (0, .methodref 8 14), (0, .nameAndType 15 16), (0, u "below"), (0, u "(Lcom/example/planwright/planwright/planner/Rounded;)Z"), (0, .class_ 18), (0, u "com/example/planwright/planwright/planner/RoundedBelowPinLaw"), (2, u "law"), (0, u "(IIII)Z")] 3

def k1m0 : Method := { name := "<init>", desc := "()V", sig := { parameters := [], returnType := none }, accessFlags := 1, code := none }
def k1c1 : Code := { maxStack := 6, maxLocals := 9, code := code, exceptionTable := #[], attributes := #[] }
def k1m1 : Method := { name := "law", desc := "(IIII)Z", sig := { parameters := [.int, .int, .int, .int], returnType := some .boolean }, accessFlags := 9, code := some k1c1 }
/-- com/example/planwright/planwright/planner/RoundedBelowPinLaw -/
def k1 : Class := { plain "com/example/planwright/planwright/planner/RoundedBelowPinLaw" (some 0) with
  accessFlags := 49
  interfaces := #[]
  cf := some (fileOf pool1 17 #[] #[{ accessFlags := 1, nameIndex := 5, descriptorIndex := 6, attributes := #[] }, { accessFlags := 9, nameIndex := 21, descriptorIndex := 22, attributes := #[] }] 49 2 #[] #[])
  fields := #[]
  methods := #[k1m0, k1m1]
  instanceTypes := #[]
  staticTypes := #[]
  resolved := Array.replicate 26 none
  statics := none }

def pool2 : Array CpInfo := pool [(1, .methodref 2 3), (0, .class_ 4), (0, .nameAndType 5 6), (0, u "java/lang/Object"), (0, u "<init>"), (0, u "()V"), (0, .class_ 8), (0, u "java/lang/Record")] 13

def k2c0 : Code := { maxStack := 1, maxLocals := 1, code := jdk_30_method_1_code, exceptionTable := #[], attributes := #[] }
def k2m0 : Method := { name := "<init>", desc := "()V", sig := { parameters := [], returnType := none }, accessFlags := 4, code := some k2c0 }
/-- java/lang/Record -/
def k2 : Class := { plain "java/lang/Record" (some 0) with
  accessFlags := 1057
  interfaces := #[]
  cf := some (fileOf pool2 7 #[] #[{ accessFlags := 4, nameIndex := 5, descriptorIndex := 6, attributes := #[] }] 1057 2 #[] #[])
  fields := #[]
  methods := #[k2m0]
  instanceTypes := #[]
  staticTypes := #[]
  resolved := Array.replicate 22 none
  statics := none }

def pool3 : Array CpInfo := pool [(3, .methodref 4 5), (0, .class_ 6), (0, .nameAndType 7 8), (0, u "java/lang/Record"), (0, u "<init>"), (0, u "()V"), (0, .fieldref 10 11), (0, .class_ 12), (0, .nameAndType 13 14), (0, u "com/example/planwright/planwright/planner/Rounded"), (0, u "value"), (0, u "D"), (0, .fieldref 10 16), (0, .nameAndType 17 14), (0, u "error"), (2, u "(DD)V"), (53, .double 4607182418800017416), (17, u "ONE"), (0, u "Lcom/example/planwright/planwright/planner/Rounded;"), (0, u "UNIT"), (1, u "WIDER"), (0, u "TINY"), (13, u "below"), (0, u "(Lcom/example/planwright/planwright/planner/Rounded;)Z"), (7, .class_ 121), (0, u "com/example/planwright/planwright/planner/Rounded$Sum")] 20

def k3c0 : Code := { maxStack := 3, maxLocals := 5, code := prog_143_method_1_code, exceptionTable := #[], attributes := #[] }
def k3m0 : Method := { name := "<init>", desc := "(DD)V", sig := { parameters := [.double, .double], returnType := none }, accessFlags := 1, code := some k3c0 }
def k3c1 : Code := { maxStack := 6, maxLocals := 2, code := prog_143_method_12_code, exceptionTable := #[], attributes := #[] }
def k3m1 : Method := { name := "below", desc := "(Lcom/example/planwright/planwright/planner/Rounded;)Z", sig := { parameters := [(.object "com/example/planwright/planwright/planner/Rounded")], returnType := some .boolean }, accessFlags := 1, code := some k3c1 }
/-- com/example/planwright/planwright/planner/Rounded -/
def k3 : Class := { plain "com/example/planwright/planwright/planner/Rounded" (some 2) with
  accessFlags := 49
  interfaces := #[]
  cf := some (fileOf pool3 10 #[.nestMembers #[120]] #[{ accessFlags := 1, nameIndex := 7, descriptorIndex := 20, attributes := #[] }, { accessFlags := 1, nameIndex := 111, descriptorIndex := 112, attributes := #[] }] 49 4 #[] #[{ accessFlags := 18, nameIndex := 13, descriptorIndex := 14, attributes := #[] }, { accessFlags := 18, nameIndex := 17, descriptorIndex := 14, attributes := #[] }, { accessFlags := 25, nameIndex := 92, descriptorIndex := 93, attributes := #[] }, { accessFlags := 26, nameIndex := 94, descriptorIndex := 14, attributes := #[] }, { accessFlags := 26, nameIndex := 96, descriptorIndex := 14, attributes := #[] }, { accessFlags := 26, nameIndex := 97, descriptorIndex := 14, attributes := #[] }])
  fields := #[{ name := "value", type := .double, accessFlags := 18, slot := 0, constantValue := 0 }, { name := "error", type := .double, accessFlags := 18, slot := 1, constantValue := 0 }, { name := "ONE", type := (.object "com/example/planwright/planwright/planner/Rounded"), accessFlags := 25, slot := 0, constantValue := 0 }, { name := "UNIT", type := .double, accessFlags := 26, slot := 1, constantValue := 0 }, { name := "WIDER", type := .double, accessFlags := 26, slot := 2, constantValue := 0 }, { name := "TINY", type := .double, accessFlags := 26, slot := 3, constantValue := 0 }]
  methods := #[k3m0, k3m1]
  instanceTypes := #[.double, .double]
  staticTypes := #[(.object "com/example/planwright/planwright/planner/Rounded"), .double, .double, .double]
  resolved := Array.replicate 142 none
  statics := none }

def pool4 : Array CpInfo := pool [(1, u "java/lang/Cloneable"), (0, .class_ 1), (0, u "java/lang/Object"), (0, .class_ 3)] 3

/-- java/lang/Cloneable -/
def k4 : Class := { plain "java/lang/Cloneable" (some 0) with
  accessFlags := 1537
  interfaces := #[]
  cf := some (fileOf pool4 2 #[] #[] 1537 4 #[] #[])
  fields := #[]
  methods := #[]
  instanceTypes := #[]
  staticTypes := #[]
  resolved := Array.replicate 8 none
  statics := none }

def pool5 : Array CpInfo := pool [(1, u "java/io/Serializable"), (0, .class_ 1), (0, u "java/lang/Object"), (0, .class_ 3)] 3

/-- java/io/Serializable -/
def k5 : Class := { plain "java/io/Serializable" (some 0) with
  accessFlags := 1537
  interfaces := #[]
  cf := some (fileOf pool5 2 #[] #[] 1537 4 #[] #[])
  fields := #[]
  methods := #[]
  instanceTypes := #[]
  staticTypes := #[]
  resolved := Array.replicate 8 none
  statics := none }

/-- the primitive byte -/
def k6 : Class := { plain "byte" none with kind := .primitive 'B', accessFlags := 0x411 }
/-- [B -/
def k7 : Class := { plain "[B" (some 0) with kind := .array 6 .byte, interfaces := #[4, 5], accessFlags := 1041 }

/-- the primitive int -/
def k8 : Class := { plain "int" none with kind := .primitive 'I', accessFlags := 0x411 }
/-- [I -/
def k9 : Class := { plain "[I" (some 0) with kind := .array 8 .int, interfaces := #[4, 5], accessFlags := 1041 }

def heap : Heap := #[]
def classes : Array Class := #[k0, k1, k2, k3, k4, k5, k6, k7, k8, k9]
def interned : List (Array UInt16 × Addr) := []
def slotsUsed : Nat := 0
def theMethod : MethodId := ⟨1, 1⟩
def args0 : Array Value := #[.int 5, .int 6, .int 7, .int 8]
def aboutOver (below : List Frame) : State where
  vm := { classes := classes, interned := interned.toArray }
  heap := heap
  slotsUsed := slotsUsed
  threads := #[{ frames := .invoking theMethod args0 :: below }]
def below0 : List Frame := [.native { method := ⟨0, 0⟩, args := #[] }]
def about1 : State := aboutOver below0
def p0 : Program := .bare "" "" ""
def e0 : Env := launch0.env 0 0 0
theorem w_frames : about1.frames = Frame.invoking theMethod args0 :: below0 := rfl
set_option maxRecDepth 65536 in
theorem w_args : argsFit about1.vm theMethod args0 = true := by decide +kernel
set_option maxRecDepth 65536 in
theorem w_heap : heapFits about1 = true := by decide +kernel
set_option maxRecDepth 65536 in
theorem w_runnable : about1.curStatus? = some .runnable := by decide +kernel
set_option maxRecDepth 65536 in
theorem w_alone : about1.alone = true := by decide +kernel
set_option maxRecDepth 65536 in
theorem w_named : about1.methodNamed? x = some theMethod := by decide +kernel
set_option maxRecDepth 65536 in
theorem w_hears : about1.hears theMethod below0 = true := by decide +kernel
set_option maxRecDepth 65536 in
theorem w_ripe : about1.ripe theMethod args0 below0 = true := by decide +kernel
theorem w_running : about1.status = .running := rfl
set_option maxRecDepth 65536 in
theorem w_room : about1.hasRoom e0.platform room_1 = true :=
  launch0.hasRoom_least _ room_1 (by decide +kernel) (by decide +kernel) (by decide +kernel) (by decide +kernel) (by decide +kernel) (by decide +kernel)
theorem allAtoms_all (ts : List Jvm.Cond) (a : Array Jvm.Value) (st : Jvm.State) : (allAtoms ts).before a st = ts.all (fun c => c.before a st) := by
  induction ts with
  | nil => rfl
  | cons c t ih =>
    show (Jvm.Cond.and c (allAtoms t)).before a st = _
    rw [Jvm.Cond.before_and, ih, List.all_cons]
def words1 : List Jvm.Cond := Jvm.Cond.code x code maxLocals ret :: tables_1
/-- a 'code' word, met by the world's own term for the bytes: nothing is compared byte by byte -/
theorem code_word {y : MethodName} {bytes : ByteArray} {mx : Nat} {rt : Option FieldType} {a : Array Value} {s : State} {m : MethodId} {meth : Method} {c : Code} (h1 : s.methodNamed? y = some m) (h2 : s.vm.method? m = some meth) (h3 : meth.code = some c) (h4 : c.code = bytes)
    (h5 : (c.maxLocals == mx && c.exceptionTable.isEmpty && decide (c.maxStack ≤ mostOperands) && decide (meth.sig.returnType = rt) && !meth.locks && decide (parseMethodDescriptor y.desc = some meth.sig)) = true) : (Jvm.Cond.code y bytes mx rt).before a s = true := by
  simp only [Bool.and_eq_true, beq_iff_eq, Bool.not_eq_true', decide_eq_true_eq] at h5
  obtain ⟨⟨⟨⟨⟨g1, g2⟩, g3⟩, g4⟩, g5⟩, g6⟩ := h5
  simp [Cond.before, Cond.holds, Cond.value, h1, h2, h3, h4, g1, g2, g3, g4, g5, g6]
def isCode : Jvm.Cond → Bool
  | .code _ _ _ _ => true
  | _ => false
theorem all_split {L : List Jvm.Cond} {P : Jvm.Cond → Bool} (h1 : L.all (fun c => isCode c || P c) = true) (h2 : ∀ c ∈ L.filter isCode, P c = true) : L.all P = true := by
  refine List.all_eq_true.mpr fun c hc => ?_
  have h := List.all_eq_true.mp h1 c hc
  rcases Bool.eq_false_or_eq_true (isCode c) with hi | hi
  · exact h2 c (List.mem_filter.mpr ⟨hc, hi⟩)
  · simpa [hi] using h
set_option maxRecDepth 65536 in
theorem w_c0 : (Jvm.Cond.code x code maxLocals ret).before args0 about1 = true := code_word (m := ⟨1, 1⟩) (meth := k1m1) (c := k1c1) (by decide +kernel) rfl rfl rfl (by decide +kernel)
set_option maxRecDepth 65536 in
theorem w_c1 : (Jvm.Cond.code ({ cls := "com/example/planwright/planwright/planner/Rounded", name := "<init>", desc := "(DD)V" } : Jvm.MethodName) prog_143_method_1_code (5 : Nat) (Option.none : Option Jvm.ClassFile.FieldType)).before args0 about1 = true := code_word (m := ⟨3, 0⟩) (meth := k3m0) (c := k3c0) (by decide +kernel) rfl rfl rfl (by decide +kernel)
set_option maxRecDepth 65536 in
theorem w_c2 : (Jvm.Cond.code ({ cls := "java/lang/Record", name := "<init>", desc := "()V" } : Jvm.MethodName) jdk_30_method_1_code (1 : Nat) (Option.none : Option Jvm.ClassFile.FieldType)).before args0 about1 = true := code_word (m := ⟨2, 0⟩) (meth := k2m0) (c := k2c0) (by decide +kernel) rfl rfl rfl (by decide +kernel)
set_option maxRecDepth 65536 in
theorem w_c3 : (Jvm.Cond.code ({ cls := "java/lang/Object", name := "<init>", desc := "()V" } : Jvm.MethodName) object_method_1_code (1 : Nat) (Option.none : Option Jvm.ClassFile.FieldType)).before args0 about1 = true := code_word (m := ⟨0, 0⟩) (meth := k0m0) (c := k0c0) (by decide +kernel) rfl rfl rfl (by decide +kernel)
set_option maxRecDepth 65536 in
theorem w_c4 : (Jvm.Cond.code ({ cls := "com/example/planwright/planwright/planner/Rounded", name := "below", desc := "(Lcom/example/planwright/planwright/planner/Rounded;)Z" } : Jvm.MethodName) prog_143_method_12_code (2 : Nat) (Option.some Jvm.ClassFile.FieldType.boolean)).before args0 about1 = true := code_word (m := ⟨3, 1⟩) (meth := k3m1) (c := k3c1) (by decide +kernel) rfl rfl rfl (by decide +kernel)
def codes1 : List Jvm.Cond := [Jvm.Cond.code x code maxLocals ret, Jvm.Cond.code ({ cls := "com/example/planwright/planwright/planner/Rounded", name := "<init>", desc := "(DD)V" } : Jvm.MethodName) prog_143_method_1_code (5 : Nat) (Option.none : Option Jvm.ClassFile.FieldType), Jvm.Cond.code ({ cls := "java/lang/Record", name := "<init>", desc := "()V" } : Jvm.MethodName) jdk_30_method_1_code (1 : Nat) (Option.none : Option Jvm.ClassFile.FieldType), Jvm.Cond.code ({ cls := "java/lang/Object", name := "<init>", desc := "()V" } : Jvm.MethodName) object_method_1_code (1 : Nat) (Option.none : Option Jvm.ClassFile.FieldType), Jvm.Cond.code ({ cls := "com/example/planwright/planwright/planner/Rounded", name := "below", desc := "(Lcom/example/planwright/planwright/planner/Rounded;)Z" } : Jvm.MethodName) prog_143_method_12_code (2 : Nat) (Option.some Jvm.ClassFile.FieldType.boolean)]
set_option maxRecDepth 65536 in
theorem codes_eq : words1.filter isCode = codes1 := rfl
theorem w_codes : ∀ c ∈ words1.filter isCode, c.before args0 about1 = true := by
  rw [codes_eq]
  intro c hc
  simp only [codes1, List.mem_cons, List.not_mem_nil, or_false] at hc
  rcases hc with rfl | rfl | rfl | rfl | rfl
  · exact w_c0
  · exact w_c1
  · exact w_c2
  · exact w_c3
  · exact w_c4
set_option maxRecDepth 65536 in
theorem w_t1 : (words1.take 24).all (fun c => isCode c || c.before args0 about1) = true := by decide +kernel
set_option maxRecDepth 65536 in
theorem w_t2 : (words1.drop 24).all (fun c => isCode c || c.before args0 about1) = true := by decide +kernel
theorem w_tables : (allAtoms (Jvm.Cond.code x code maxLocals ret :: tables_1)).before args0 about1 = true := by
  rw [allAtoms_all]
  show words1.all (fun c => c.before args0 about1) = true
  refine all_split ?_ w_codes
  rw [← List.take_append_drop 24 words1, List.all_append, w_t1, w_t2]
  rfl
set_option maxRecDepth 65536 in
theorem w_case : (Jvm.Cond.and given_1 narrow_1).before args0 about1 = true := by decide +kernel
theorem w_applies : (headSpec (Jvm.Cond.code x code maxLocals ret :: tables_1) room_1).applies x e0.platform about1 = true :=
  (Spec.applies_iff w_frames).mpr ⟨w_running, w_runnable, w_alone, w_named, w_hears, w_ripe, w_room, w_tables⟩
theorem atStart : AtStart classFile x code maxLocals ret World_1 tables_1 room_1 Calls_1 rest_1 Pre_1 launch0 p0 e0 about1 theMethod args0 below0 :=
  ⟨lists_1, trivial, launch0.admits_env _ _ _, launch0.least_env, fairChoices_fair.cas, fairChoices_fair.clock, w_frames, w_args, w_heap, w_applies, trivial, trivial, w_case⟩
end start1
theorem witness_1 : WitnessClaimed_1 := ⟨start1.p0, start1.e0, start1.about1, start1.theMethod, start1.args0, start1.below0, start1.atStart⟩
end Jvm.Pilot.@@N@@
