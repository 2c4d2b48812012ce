import JvmDerived
import JvmDerived.Pilot.@@N@@Statement
import JvmDerived.Pilot.@@N@@Code
set_option linter.unusedVariables false
set_option linter.unusedSimpArgs false
@@BLOCK:NumsL.lean.txt@@
namespace Jvm.Pilot.@@N@@
open Jvm Jvm.ClassFile Sem Op Lib Jvm.Free Jvm.Stand Jvm.LawKit Jvm.RoadKit Bundle Jvm.Pilot.@@N@@.Jvm.D
/-! the walk's own form: from this state and frame the run ends as P says -/
def Go (p : Program) (e : Env) (below : List Frame) (T : State) (g : JFrame) (P : Outcome → State → Prop) : Prop := ∃ s₂ o, Steps p.tables e below (T.setTop g) s₂ ∧ s₂.status = .running ∧ Ended s₂ below o ∧ P o s₂
theorem Go.of {p : Program} {e : Env} {below : List Frame} {T T' : State} {g g' : JFrame} {P : Outcome → State → Prop} (k : ∀ t, Steps p.tables e below (T'.setTop g') t → Steps p.tables e below (T.setTop g) t) (h : Go p e below T' g' P) : Go p e below T g P := by
  obtain ⟨s2, o, h1, h2⟩ := h; exact ⟨s2, o, k _ h1, h2⟩
theorem Go.enter {p : Program} {e : Env} {below : List Frame} {T : State} {g g' : JFrame} {P : Outcome → State → Prop} (q : g = g') (h : Go p e below T g' P) : ∃ s₂ o, Steps p.tables e below (T.setTop g) s₂ ∧ s₂.status = .running ∧ Ended s₂ below o ∧ P o s₂ := by
  subst q; exact h
theorem own_selp {s : State} {args : Array Value} {y : MethodName} {n : Nat} (hi : (Jvm.Cond.instantiable y.cls n).before args s = true) (hp : s.PrivateAt y) (hm : (Jvm.Cond.instanceMethod y).before args s = true) (hy : y.cls ≠ "java/lang/invoke/MethodHandle" ∧ y.cls ≠ "java/lang/invoke/VarHandle") : (Jvm.Cond.selects y.cls y y).before args s = true := by
  obtain ⟨c, k, h1, h2, -, h3, -⟩ := Cond.instantiable_spec hi
  rw [Bool.or_eq_false_iff] at h3
  exact selects_self_of_private h1 h2 h3.1 hp hm hy
/-- a local that holds nothing or one word -/
def Sl (o : Slot) : Prop := o = .unset ∨ ∃ w : Value, o = .val w ∧ w.category = 1
/-! an array of small ints: its kind, its length, its components as a function -/
def Af (Z : State) (h : Heap) (a : Addr) (ty : FieldType) (n : Nat) (f : Nat → Int32) : Prop := ∃ c : Cell, Arr Z h a c ty ∧ c.slots.size = n ∧ ∀ i, i < n → c.slots[i]? = some (.int (f i))
def upd (f : Nat → Int32) (j : Nat) (v : Int32) : Nat → Int32 := fun i => if i = j then v else f i
theorem Af.lt {Z : State} {h : Heap} {a : Addr} {ty : FieldType} {n : Nat} {f : Nat → Int32} (F : Af Z h a ty n f) : a < h.size := by obtain ⟨c, A, -⟩ := F; exact A.lt
theorem Af.ext {Z : State} {h h' : Heap} {a : Addr} {ty : FieldType} {n : Nat} {f : Nat → Int32} (F : Af Z h a ty n f) (E : Ext h h') : Af Z h' a ty n f := by obtain ⟨c, A, r⟩ := F; exact ⟨c, A.ext E, r⟩
theorem Af.other {Z : State} {h h' : Heap} {a b : Addr} {ty : FieldType} {n sl : Nat} {v : Value} {f : Nat → Int32} (F : Af Z h b ty n f) (W : Wr h h' a sl v) (q : b ≠ a) : Af Z h' b ty n f := by obtain ⟨c, A, r⟩ := F; exact ⟨c, A.other W q, r⟩
theorem Af.keep {Z : State} {h h' : Heap} {a : Addr} {ws : List Addr} {ty : FieldType} {n : Nat} {f : Nat → Int32} (F : Af Z h a ty n f) (K : Keep h h' ws) (q : a ∉ ws) : Af Z h' a ty n f := by obtain ⟨c, A, r⟩ := F; exact ⟨c, ⟨K.2.1 a c A.1 q, A.2⟩, r⟩
theorem Af.new {Z : State} {h : Heap} {a : Addr} {k : ClassId} {ty : FieldType} {z : Int32} {n : Nat} (hd : defaultValue ty = .int 0) (A : Arr Z h a (newA k ty z) ty) (hn : z.toNatClampNeg = n) : Af Z h a ty n (fun _ => 0) := by
  subst hn; exact ⟨_, A, sz_new _ _ _, fun i hi => by simp [newA, hd, hi]⟩
theorem Af.at {c : Cell} {n i : Nat} {j : Int32} {f : Nat → Int32} (H : ∀ i, i < n → c.slots[i]? = some (.int (f i))) (hj : j.toNatClampNeg = i) (q : ¬ (j < 0) ∧ j.toNatClampNeg < n) : c.slots[j.toNatClampNeg]? = some (.int (f i)) := by
  subst hj; exact H _ q.2
theorem Af.inb {c : Cell} {n : Nat} {j : Int32} (S : c.slots.size = n) (q : ¬ (j < 0) ∧ j.toNatClampNeg < n) : ¬ (j < 0 ∨ c.slots.size ≤ j.toNatClampNeg) := by rw [S]; exact fun z => z.elim q.1 (Nat.not_le.mpr q.2)
theorem Af.set {Z : State} {h h' : Heap} {a : Addr} {c : Cell} {ty : FieldType} {n j j' : Nat} {x : Int32} {f : Nat → Int32} (A : Arr Z h a c ty) (S : c.slots.size = n) (H : ∀ i, i < n → c.slots[i]? = some (.int (f i))) (W : Wr h h' a j' (.int x)) (hj : j' = j) : Af Z h' a ty n (upd f j x) := by
  subst hj
  refine ⟨_, A.same W, by rw [sz_set]; exact S, fun i hi => ?_⟩
  by_cases e : i = j'
  · subst e; simp [upd, Cell.setSlot, S, hi]
  · have q : (c.setSlot j' (.int x)).slots[i]? = c.slots[i]? := Array.getElem?_setIfInBounds_ne (Ne.symm e)
    rw [q, H i hi]; simp [upd, e]
theorem Af.congr {Z : State} {h : Heap} {a : Addr} {ty : FieldType} {n : Nat} {f g : Nat → Int32} (F : Af Z h a ty n f) (q : ∀ i, i < n → f i = g i) : Af Z h a ty n g := by
  obtain ⟨c, A, S, H⟩ := F; exact ⟨c, A, S, fun i hi => by rw [← q i hi]; exact H i hi⟩
theorem pn_0 : plainName "com/example/planwright/planwright/planner/AmongBesidePinLaw" = true := by first | (simp [plainName, overriddenIn]; done) | decide +kernel
theorem pn_1 : plainName "java/lang/Record" = true := by first | (simp [plainName, overriddenIn]; done) | decide +kernel
theorem pd_0 : parseMethodDescriptor "()V" = some ⟨[], none⟩ := by decide +kernel
theorem pn_2 : plainName "com/example/planwright/planwright/planner/SharedAtoms$Among" = true := by first | (simp [plainName, overriddenIn]; done) | decide +kernel
theorem pd_1 : parseMethodDescriptor "(I)[Z" = some ⟨[.int], some (.array .boolean)⟩ := by decide +kernel
theorem pd_2 : parseMethodDescriptor "([Z[Z)V" = some ⟨[(.array .boolean), (.array .boolean)], none⟩ := by decide +kernel
theorem pd_3 : parseMethodDescriptor "(I)Z" = some ⟨[.int], some .boolean⟩ := by decide +kernel
def bitsF (x : Int32) (i : Nat) : Int32 := if i = 0 then (if (x &&& (1 : Int32)) = (0 : Int32) then (0 : Int32) else (1 : Int32)) else if i = 1 then (if (x &&& (2 : Int32)) = (0 : Int32) then (0 : Int32) else (1 : Int32)) else if i = 2 then (if (x &&& (4 : Int32)) = (0 : Int32) then (0 : Int32) else (1 : Int32)) else (if (x &&& (8 : Int32)) = (0 : Int32) then (0 : Int32) else (1 : Int32))
theorem own_nb (q : Prop) [Decidable q] : nar .boolean (if q then (0 : Int32) else (1 : Int32)) = (if q then (0 : Int32) else (1 : Int32)) := by split <;> rfl
theorem own_and3 (x : Int32) : x &&& 3 = 0 ∨ x &&& 3 = 1 ∨ x &&& 3 = 2 ∨ x &&& 3 = 3 := by
  have h : (x &&& 3).toInt = x.toInt % 2 ^ 2 := Jvm.Kit.i32_mask x 3 (k := 2) (by decide) (by decide)
  have h0 : (0 : Int32).toInt = 0 := by decide
  have h1 : (1 : Int32).toInt = 1 := by decide
  have h2 : (2 : Int32).toInt = 2 := by decide
  have h3 : (3 : Int32).toInt = 3 := by decide
  simp only [← Int32.toInt_inj, h, h0, h1, h2, h3]; omega
theorem own_len (x : Int32) : ((x &&& (3 : Int32)) + (1 : Int32)) = (1 : Int32) ∨ ((x &&& (3 : Int32)) + (1 : Int32)) = (2 : Int32) ∨ ((x &&& (3 : Int32)) + (1 : Int32)) = (3 : Int32) ∨ ((x &&& (3 : Int32)) + (1 : Int32)) = (4 : Int32) := by
  rcases own_and3 x with h | h | h | h <;> rw [h] <;> decide
theorem own_in3 (x : Int32) : ¬ ((x &&& (3 : Int32)) < 0) ∧ (x &&& (3 : Int32)).toNatClampNeg < 4 := by
  rcases own_and3 x with h | h | h | h <;> rw [h] <;> decide
theorem own_in (x k : Int32) (n : Nat) (hk : k.toInt = (n : Int)) (hn : 0 < n) : ¬ (((x &&& (2147483647 : Int32)) % k) < 0) ∧ ((x &&& (2147483647 : Int32)) % k).toNatClampNeg < n := by
  have h : (x &&& (2147483647 : Int32)).toInt = x.toInt % 2 ^ 31 := Jvm.Kit.i32_mask x 2147483647 (k := 31) (by decide) (by decide)
  have hr : ((x &&& (2147483647 : Int32)) % k).toInt = (x &&& (2147483647 : Int32)).toInt % k.toInt := Jvm.Kit.i32_rem_nonneg (by omega)
  have h0 : (0 : Int32).toInt = 0 := by decide
  have h1 := Int.emod_nonneg (x &&& (2147483647 : Int32)).toInt (show (n : Int) ≠ 0 by omega)
  have h2 := Int.emod_lt_of_pos (x &&& (2147483647 : Int32)).toInt (show 0 < (n : Int) by omega)
  rw [hk] at hr
  rw [Int32.lt_iff_toInt_lt, h0, hr]
  refine ⟨by omega, ?_⟩
  show ((x &&& (2147483647 : Int32)) % k).toInt.toNat < n
  rw [hr]; omega
theorem own_and2 (n k : Nat) : n &&& 2 ^ k = if n.testBit k = true then 2 ^ k else 0 := by
  apply Nat.eq_of_testBit_eq
  intro i
  rw [Nat.testBit_and, Nat.testBit_two_pow]
  by_cases h : k = i
  · subst h; cases hb : n.testBit k <;> simp [Nat.testBit_two_pow_self]
  · cases hb : n.testBit k <;> simp [h, Nat.testBit_two_pow_of_ne h]
theorem own_bitN (n k : Nat) : (n &&& 2 ^ k = 0) ↔ ((n >>> k) &&& 1 = 0) := by
  rw [own_and2, Nat.and_one_is_mod, Nat.shiftRight_eq_div_pow, Nat.testBit_eq_decide_div_mod_eq]
  have h2 : 0 < 2 ^ k := Nat.two_pow_pos k
  have h3 := Nat.mod_two_eq_zero_or_one (n / 2 ^ k)
  rcases h3 with h | h <;> simp [h] <;> omega
theorem own_bit (x m j : Int32) (k : Nat) (hm : m.toBitVec.toNat = 2 ^ k) (hj : ((j &&& 31).toUInt32).toNat = k) : (x &&& m = 0) ↔ ((((x.toUInt32 >>> (j &&& 31).toUInt32).toInt32) &&& (1 : Int32)) = (0 : Int32)) := by
  have e1 : (x &&& m).toBitVec.toNat = x.toBitVec.toNat &&& 2 ^ k := by rw [Int32.toBitVec_and, BitVec.toNat_and, hm]
  have hk : k < 32 := by
    have := (j &&& 31).toUInt32.toBitVec.isLt
    have h31 : ((j &&& 31).toUInt32).toNat ≤ 31 := by
      show (j.toBitVec &&& 31#32).toNat ≤ 31
      rw [BitVec.toNat_and]; exact Nat.and_le_right
    omega
  have e2 : (((x.toUInt32 >>> (j &&& 31).toUInt32).toInt32) &&& (1 : Int32)).toBitVec.toNat = (x.toBitVec.toNat >>> k) &&& 1 := by
    rw [Int32.toBitVec_and, BitVec.toNat_and]
    have e3 : ((x.toUInt32 >>> (j &&& 31).toUInt32).toInt32).toBitVec.toNat = x.toBitVec.toNat >>> k := by
      show ((x.toUInt32 >>> (j &&& 31).toUInt32)).toNat = _
      rw [UInt32.toNat_shiftRight, hj, Nat.mod_eq_of_lt hk]; rfl
    rw [e3]; rfl
  rw [← Int32.toBitVec_inj, ← Int32.toBitVec_inj, ← BitVec.toNat_inj, ← BitVec.toNat_inj, e1, e2]
  exact own_bitN _ _
theorem own_b1 {p q : Prop} [Decidable p] [Decidable q] (h : p ↔ q) : (if (if p then (0 : Int32) else (1 : Int32)) = 0 then (0 : Int32) else (1 : Int32)) = (if q then (0 : Int32) else (1 : Int32)) := by
  by_cases hp : p
  · have hq := h.mp hp; simp [hp, hq]
  · have hq : ¬ q := fun z => hp (h.mpr z); simp [hp, hq]
theorem own_four {y : Int32} (h : ¬ (y < 0) ∧ y.toNatClampNeg < 4) : y = 0 ∨ y = 1 ∨ y = 2 ∨ y = 3 := by
  have h1 := h.1
  have h2 : y.toInt.toNat < 4 := h.2
  have e0 : (0 : Int32).toInt = 0 := by decide
  have e1 : (1 : Int32).toInt = 1 := by decide
  have e2 : (2 : Int32).toInt = 2 := by decide
  have e3 : (3 : Int32).toInt = 3 := by decide
  rw [Int32.lt_iff_toInt_lt, e0] at h1
  simp only [← Int32.toInt_inj, e0, e1, e2, e3]; omega
theorem own_weighs (x y : Int32) (h : ¬ (y < 0) ∧ y.toNatClampNeg < 4) : (if bitsF x (y).toNatClampNeg = 0 then (0 : Int32) else (1 : Int32)) = (if (((x.toUInt32 >>> (y &&& 31).toUInt32).toInt32) &&& (1 : Int32)) = (0 : Int32) then (0 : Int32) else (1 : Int32)) := by
  rcases own_four h with rfl | rfl | rfl | rfl
  · exact own_b1 (own_bit x 1 0 0 (by decide) (by decide))
  · exact own_b1 (own_bit x 2 1 1 (by decide) (by decide))
  · exact own_b1 (own_bit x 4 2 2 (by decide) (by decide))
  · exact own_b1 (own_bit x 8 3 3 (by decide) (by decide))
theorem d1_0 : decode method_2_code 0 = .ok (.iconst 4, 1) := by decide +kernel
theorem d1_1 : decode method_2_code 1 = .ok (.newarray .boolean, 2) := by decide +kernel
theorem d1_3 : decode method_2_code 3 = .ok (.astore_n 1, 1) := by decide +kernel
theorem d1_4 : decode method_2_code 4 = .ok (.aload_n 1, 1) := by decide +kernel
theorem d1_5 : decode method_2_code 5 = .ok (.iconst 0, 1) := by decide +kernel
theorem d1_6 : decode method_2_code 6 = .ok (.iload_n 0, 1) := by decide +kernel
theorem d1_7 : decode method_2_code 7 = .ok (.iconst 1, 1) := by decide +kernel
theorem d1_8 : decode method_2_code 8 = .ok (.iand, 1) := by decide +kernel
theorem d1_9 : decode method_2_code 9 = .ok (.ifCond .eq 7, 3) := by decide +kernel
theorem d1_12 : decode method_2_code 12 = .ok (.iconst 1, 1) := by decide +kernel
theorem d1_13 : decode method_2_code 13 = .ok (.goto 4, 3) := by decide +kernel
theorem d1_16 : decode method_2_code 16 = .ok (.iconst 0, 1) := by decide +kernel
theorem d1_17 : decode method_2_code 17 = .ok (.bastore, 1) := by decide +kernel
theorem d1_18 : decode method_2_code 18 = .ok (.aload_n 1, 1) := by decide +kernel
theorem d1_19 : decode method_2_code 19 = .ok (.iconst 1, 1) := by decide +kernel
theorem d1_20 : decode method_2_code 20 = .ok (.iload_n 0, 1) := by decide +kernel
theorem d1_21 : decode method_2_code 21 = .ok (.iconst 2, 1) := by decide +kernel
theorem d1_22 : decode method_2_code 22 = .ok (.iand, 1) := by decide +kernel
theorem d1_23 : decode method_2_code 23 = .ok (.ifCond .eq 7, 3) := by decide +kernel
theorem d1_26 : decode method_2_code 26 = .ok (.iconst 1, 1) := by decide +kernel
theorem d1_27 : decode method_2_code 27 = .ok (.goto 4, 3) := by decide +kernel
theorem d1_30 : decode method_2_code 30 = .ok (.iconst 0, 1) := by decide +kernel
theorem d1_31 : decode method_2_code 31 = .ok (.bastore, 1) := by decide +kernel
theorem d1_32 : decode method_2_code 32 = .ok (.aload_n 1, 1) := by decide +kernel
theorem d1_33 : decode method_2_code 33 = .ok (.iconst 2, 1) := by decide +kernel
theorem d1_34 : decode method_2_code 34 = .ok (.iload_n 0, 1) := by decide +kernel
theorem d1_35 : decode method_2_code 35 = .ok (.iconst 4, 1) := by decide +kernel
theorem d1_36 : decode method_2_code 36 = .ok (.iand, 1) := by decide +kernel
theorem d1_37 : decode method_2_code 37 = .ok (.ifCond .eq 7, 3) := by decide +kernel
theorem d1_40 : decode method_2_code 40 = .ok (.iconst 1, 1) := by decide +kernel
theorem d1_41 : decode method_2_code 41 = .ok (.goto 4, 3) := by decide +kernel
theorem d1_44 : decode method_2_code 44 = .ok (.iconst 0, 1) := by decide +kernel
theorem d1_45 : decode method_2_code 45 = .ok (.bastore, 1) := by decide +kernel
theorem d1_46 : decode method_2_code 46 = .ok (.aload_n 1, 1) := by decide +kernel
theorem d1_47 : decode method_2_code 47 = .ok (.iconst 3, 1) := by decide +kernel
theorem d1_48 : decode method_2_code 48 = .ok (.iload_n 0, 1) := by decide +kernel
theorem d1_49 : decode method_2_code 49 = .ok (.bipush 8, 2) := by decide +kernel
theorem d1_51 : decode method_2_code 51 = .ok (.iand, 1) := by decide +kernel
theorem d1_52 : decode method_2_code 52 = .ok (.ifCond .eq 7, 3) := by decide +kernel
theorem d1_55 : decode method_2_code 55 = .ok (.iconst 1, 1) := by decide +kernel
theorem d1_56 : decode method_2_code 56 = .ok (.goto 4, 3) := by decide +kernel
theorem d1_59 : decode method_2_code 59 = .ok (.iconst 0, 1) := by decide +kernel
theorem d1_60 : decode method_2_code 60 = .ok (.bastore, 1) := by decide +kernel
theorem d1_61 : decode method_2_code 61 = .ok (.aload_n 1, 1) := by decide +kernel
theorem d1_62 : decode method_2_code 62 = .ok (.areturn, 1) := by decide +kernel
theorem ef_1 (m : MethodId) (x0 : Int32) : entryFrame m #[(.int x0)] 2 = mkF m 0 #[.val (.int x0), .unset] [] := by first | (simp [entryFrame, mkF, argsToLocals, Value.category]; done) | rfl
def Q1 (Z : State) (x : Int32) (h0 : Heap) (n0 : Nat) (v : Option Value) (h : Heap) (L : List Loc) : Prop := ∃ b, v = some (.ref b) ∧ Fr n0 L ∧ Keep h0 h [] ∧ h0.size ≤ b ∧ n0 ≤ b ∧ Af Z h b .boolean 4 (bitsF x)
set_option maxRecDepth 65536 in
set_option maxHeartbeats 40000000 in
theorem rm1 (l : Launch) (Z : State) (a0 : Array Value) (hw : ∀ d ∈ tables_1, d.before a0 Z = true) (ws : List Jvm.Cond) (x : Int32) (h0 : Heap) (n0 : Nat) (Z0 : n0 ≤ h0.size) :
    MetFree l (⟨"com/example/planwright/planwright/planner/AmongBesidePinLaw", "bits", "(I)[Z"⟩ : MethodName) (head1 (Jvm.Cond.code (⟨"com/example/planwright/planwright/planner/AmongBesidePinLaw", "bits", "(I)[Z"⟩ : MethodName) method_2_code 2 (some (.array .boolean)) :: ws) ({ frames := 0, cells := 1, slots := 4, locals := 0 } : Room)) (fun aa_ U => aa_ = #[(.int x)] ∧ Z.Warmed39 U.vm ∧ U.heap = h0) (fun _ _ _ _ _ => True) (fun _ U o U' => ∃ vv_ LL_, o = .returned vv_ ∧ Q1 Z x h0 n0 vv_ U'.heap LL_ ∧ FrameEnd U o U' LL_ ({ frames := 0, cells := 1, slots := 4, locals := 0 } : Room).cells ({ frames := 0, cells := 1, slots := 4, locals := 0 } : Room).slots) := by
  refine MetFree.of_bodySF (plainFor_of_name pn_0) hisR ?_
  intro p e s m args below meth c s₁ Bd hml0 hP hK
  obtain ⟨rfl, hZ, hh⟩ := hP
  have hx := Bd.exec
  have hby := Bd.bytes
  have hml : c.maxLocals = 2 := hml0
  have hown : s.vm.findClass "com/example/planwright/planwright/planner/AmongBesidePinLaw" = some m.cls := findClass_of_methodNamed Bd.named
  have hnm := (name_of_methodNamed Bd.named Bd.method).1
  have X0 : Stand p l e ({ frames := 0, cells := 1, slots := 4, locals := 0 } : Room) s m #[(.int x)] below meth c s₁ [] 0 0 := Stand.of_body Bd
  have e0 : s₁.heap = h0 := by rw [← hh, Bd.state]; rfl
  have N0 := Fr.nil n0
  have K0 : Keep h0 h0 [] := Keep.refl h0 _
  refine Go.enter (P := fun o U' => ∃ vv_ LL_, o = .returned vv_ ∧ Q1 Z x h0 n0 vv_ U'.heap LL_ ∧ FrameEnd s o U' LL_ ({ frames := 0, cells := 1, slots := 4, locals := 0 } : Room).cells ({ frames := 0, cells := 1, slots := 4, locals := 0 } : Room).slots) (ef_1 m x) ?_
  show Go p e below s₁ (mkF m 0 #[.val (.int x), .unset] []) _
  refine Go.of (fun tg_ kk_ => XS.iconst X0.here hx rfl (hb hby d1_0) kk_) ?_
  show Go p e below s₁ (mkF m 1 #[.val (.int x), .unset] [(.int (4 : Int32))]) _
  obtain ⟨T1, h1, k1, X1, e1, E1, A1, st1⟩ := newP X0 hx hZ (hw _ (List.mem_of_getElem? (i := 4) rfl)) e0 (g := (mkF m 1 #[.val (.int x), .unset] [(.int (4 : Int32))])) rfl (hb hby d1_1) rfl (by decide) (cap := 4) (by decide) (by decide) (by decide) (by decide)
  obtain ⟨b1, g1⟩ : ∃ z, z = h0.size := ⟨_, rfl⟩
  rw [← g1] at A1 st1
  have gx1 : n0 ≤ b1 := Nat.le_trans Z0 (Nat.le_of_eq g1.symm)
  have sz1 : h0.size ≤ b1 := Nat.le_trans K0.1 (Nat.le_of_eq g1.symm)
  have K2 := K0.ext E1
  have Zs3 : n0 ≤ h1.size := Nat.le_trans Z0 E1.1
  have V1 : Af Z h1 b1 .boolean 4 (fun _ => 0) := Af.new rfl A1 (by decide)
  refine Go.of (st1) ?_
  show Go p e below T1 (mkF m 3 #[.val (.int x), .unset] [(.ref b1)]) _
  refine Go.of (fun tg_ kk_ => XS.astoreN X1.here hx rfl (hb hby d1_3) rfl rfl (l' := #[.val (.int x), .val (.ref b1)]) rfl kk_) ?_
  show Go p e below T1 (mkF m 4 #[.val (.int x), .val (.ref b1)] []) _
  refine Go.of (fun tg_ kk_ => XS.aloadN X1.here hx rfl (hb hby d1_4) rfl rfl kk_) ?_
  show Go p e below T1 (mkF m 5 #[.val (.int x), .val (.ref b1)] [(.ref b1)]) _
  refine Go.of (fun tg_ kk_ => XS.iconst X1.here hx rfl (hb hby d1_5) kk_) ?_
  show Go p e below T1 (mkF m 6 #[.val (.int x), .val (.ref b1)] [(.int (0 : Int32)), (.ref b1)]) _
  refine Go.of (fun tg_ kk_ => XS.iloadN X1.here hx rfl (hb hby d1_6) rfl kk_) ?_
  show Go p e below T1 (mkF m 7 #[.val (.int x), .val (.ref b1)] [(.int x), (.int (0 : Int32)), (.ref b1)]) _
  refine Go.of (fun tg_ kk_ => XS.iconst X1.here hx rfl (hb hby d1_7) kk_) ?_
  show Go p e below T1 (mkF m 8 #[.val (.int x), .val (.ref b1)] [(.int (1 : Int32)), (.int x), (.int (0 : Int32)), (.ref b1)]) _
  refine Go.of (fun tg_ kk_ => XS.iand X1.here hx rfl (hb hby d1_8) rfl kk_) ?_
  show Go p e below T1 (mkF m 9 #[.val (.int x), .val (.ref b1)] [(.int (x &&& (1 : Int32))), (.int (0 : Int32)), (.ref b1)]) _
  have st4 : ∀ va : Int32, va = (if (x &&& (1 : Int32)) = (0 : Int32) then (0 : Int32) else (1 : Int32)) → ∀ t, Steps p.tables e below (T1.setTop (mkF m 17 #[.val (.int x), .val (.ref b1)] [(.int va), (.int (0 : Int32)), (.ref b1)])) t → Steps p.tables e below (T1.setTop (mkF m 9 #[.val (.int x), .val (.ref b1)] [(.int (x &&& (1 : Int32))), (.int (0 : Int32)), (.ref b1)])) t := by
    intro va qva tg_ kk_
    by_cases hc : (x &&& (1 : Int32)) = (0 : Int32)
    · rw [if_pos hc] at qva; rw [qva] at kk_
      show Steps p.tables e below (T1.setTop (mkF m 9 #[.val (.int x), .val (.ref b1)] [(.int (x &&& (1 : Int32))), (.int (0 : Int32)), (.ref b1)])) _
      refine XS.ifYes X1.here hx rfl (pc0 := 9) (pc' := 16) rfl (hb hby d1_9) rfl ((if0 _ _).trans (teq hc).1) (by decide) (by decide) ?_
      show Steps p.tables e below (T1.setTop (mkF m 16 #[.val (.int x), .val (.ref b1)] [(.int (0 : Int32)), (.ref b1)])) _
      refine XS.iconst X1.here hx rfl (hb hby d1_16) ?_
      show Steps p.tables e below (T1.setTop (mkF m 17 #[.val (.int x), .val (.ref b1)] [(.int (0 : Int32)), (.int (0 : Int32)), (.ref b1)])) _
      exact kk_
    · rw [if_neg hc] at qva; rw [qva] at kk_
      show Steps p.tables e below (T1.setTop (mkF m 9 #[.val (.int x), .val (.ref b1)] [(.int (x &&& (1 : Int32))), (.int (0 : Int32)), (.ref b1)])) _
      refine XS.ifNo X1.here hx rfl (hb hby d1_9) rfl ((if0 _ _).trans (feq hc).1) ?_
      show Steps p.tables e below (T1.setTop (mkF m 12 #[.val (.int x), .val (.ref b1)] [(.int (0 : Int32)), (.ref b1)])) _
      refine XS.iconst X1.here hx rfl (hb hby d1_12) ?_
      show Steps p.tables e below (T1.setTop (mkF m 13 #[.val (.int x), .val (.ref b1)] [(.int (1 : Int32)), (.int (0 : Int32)), (.ref b1)])) _
      refine XS.goto X1.here hx rfl (pc0 := 13) (pc' := 17) rfl (hb hby d1_13) (by decide) (by decide) ?_
      show Steps p.tables e below (T1.setTop (mkF m 17 #[.val (.int x), .val (.ref b1)] [(.int (1 : Int32)), (.int (0 : Int32)), (.ref b1)])) _
      exact kk_
  obtain ⟨va, qva⟩ : ∃ z : Int32, z = (if (x &&& (1 : Int32)) = (0 : Int32) then (0 : Int32) else (1 : Int32)) := ⟨_, rfl⟩
  refine Go.of (st4 va qva) ?_
  show Go p e below T1 (mkF m 17 #[.val (.int x), .val (.ref b1)] [(.int va), (.int (0 : Int32)), (.ref b1)]) _
  have ib5 := (show ¬ ((0 : Int32) < 0) ∧ ((0 : Int32)).toNatClampNeg < 4 from ⟨by decide, by decide⟩)
  obtain ⟨cl5, Ar5, S5, H5⟩ := V1
  obtain ⟨T5, h5, X5, e5, W5, st5⟩ := stZ X1 hx hZ e1 Ar5 (j := (0 : Int32)) (Af.inb S5 ib5) (g := (mkF m 17 #[.val (.int x), .val (.ref b1)] [(.int va), (.int (0 : Int32)), (.ref b1)])) rfl rfl (hb hby d1_17)
  obtain ⟨f5, qf5⟩ : ∃ q : Nat → Int32, q = upd (fun _ => 0) 0 (nar .boolean va) := ⟨_, rfl⟩
  have V5 : Af Z h5 b1 .boolean 4 f5 := by rw [qf5]; exact Af.set Ar5 S5 H5 W5 (by decide)
  have K7 := K2.wr W5 (Or.inr sz1)
  have Zs8 : n0 ≤ h5.size := Nat.le_trans Zs3 (Keep.of_wr W5).1
  have N5 := Fr.snoc X5 N0 gx1
  refine Go.of (st5) ?_
  show Go p e below T5 (mkF m 18 #[.val (.int x), .val (.ref b1)] []) _
  refine Go.of (fun tg_ kk_ => XS.aloadN X5.here hx rfl (hb hby d1_18) rfl rfl kk_) ?_
  show Go p e below T5 (mkF m 19 #[.val (.int x), .val (.ref b1)] [(.ref b1)]) _
  refine Go.of (fun tg_ kk_ => XS.iconst X5.here hx rfl (hb hby d1_19) kk_) ?_
  show Go p e below T5 (mkF m 20 #[.val (.int x), .val (.ref b1)] [(.int (1 : Int32)), (.ref b1)]) _
  refine Go.of (fun tg_ kk_ => XS.iloadN X5.here hx rfl (hb hby d1_20) rfl kk_) ?_
  show Go p e below T5 (mkF m 21 #[.val (.int x), .val (.ref b1)] [(.int x), (.int (1 : Int32)), (.ref b1)]) _
  refine Go.of (fun tg_ kk_ => XS.iconst X5.here hx rfl (hb hby d1_21) kk_) ?_
  show Go p e below T5 (mkF m 22 #[.val (.int x), .val (.ref b1)] [(.int (2 : Int32)), (.int x), (.int (1 : Int32)), (.ref b1)]) _
  refine Go.of (fun tg_ kk_ => XS.iand X5.here hx rfl (hb hby d1_22) rfl kk_) ?_
  show Go p e below T5 (mkF m 23 #[.val (.int x), .val (.ref b1)] [(.int (x &&& (2 : Int32))), (.int (1 : Int32)), (.ref b1)]) _
  have st9 : ∀ vb : Int32, vb = (if (x &&& (2 : Int32)) = (0 : Int32) then (0 : Int32) else (1 : Int32)) → ∀ t, Steps p.tables e below (T5.setTop (mkF m 31 #[.val (.int x), .val (.ref b1)] [(.int vb), (.int (1 : Int32)), (.ref b1)])) t → Steps p.tables e below (T5.setTop (mkF m 23 #[.val (.int x), .val (.ref b1)] [(.int (x &&& (2 : Int32))), (.int (1 : Int32)), (.ref b1)])) t := by
    intro vb qvb tg_ kk_
    by_cases hc : (x &&& (2 : Int32)) = (0 : Int32)
    · rw [if_pos hc] at qvb; rw [qvb] at kk_
      show Steps p.tables e below (T5.setTop (mkF m 23 #[.val (.int x), .val (.ref b1)] [(.int (x &&& (2 : Int32))), (.int (1 : Int32)), (.ref b1)])) _
      refine XS.ifYes X5.here hx rfl (pc0 := 23) (pc' := 30) rfl (hb hby d1_23) rfl ((if0 _ _).trans (teq hc).1) (by decide) (by decide) ?_
      show Steps p.tables e below (T5.setTop (mkF m 30 #[.val (.int x), .val (.ref b1)] [(.int (1 : Int32)), (.ref b1)])) _
      refine XS.iconst X5.here hx rfl (hb hby d1_30) ?_
      show Steps p.tables e below (T5.setTop (mkF m 31 #[.val (.int x), .val (.ref b1)] [(.int (0 : Int32)), (.int (1 : Int32)), (.ref b1)])) _
      exact kk_
    · rw [if_neg hc] at qvb; rw [qvb] at kk_
      show Steps p.tables e below (T5.setTop (mkF m 23 #[.val (.int x), .val (.ref b1)] [(.int (x &&& (2 : Int32))), (.int (1 : Int32)), (.ref b1)])) _
      refine XS.ifNo X5.here hx rfl (hb hby d1_23) rfl ((if0 _ _).trans (feq hc).1) ?_
      show Steps p.tables e below (T5.setTop (mkF m 26 #[.val (.int x), .val (.ref b1)] [(.int (1 : Int32)), (.ref b1)])) _
      refine XS.iconst X5.here hx rfl (hb hby d1_26) ?_
      show Steps p.tables e below (T5.setTop (mkF m 27 #[.val (.int x), .val (.ref b1)] [(.int (1 : Int32)), (.int (1 : Int32)), (.ref b1)])) _
      refine XS.goto X5.here hx rfl (pc0 := 27) (pc' := 31) rfl (hb hby d1_27) (by decide) (by decide) ?_
      show Steps p.tables e below (T5.setTop (mkF m 31 #[.val (.int x), .val (.ref b1)] [(.int (1 : Int32)), (.int (1 : Int32)), (.ref b1)])) _
      exact kk_
  obtain ⟨vb, qvb⟩ : ∃ z : Int32, z = (if (x &&& (2 : Int32)) = (0 : Int32) then (0 : Int32) else (1 : Int32)) := ⟨_, rfl⟩
  refine Go.of (st9 vb qvb) ?_
  show Go p e below T5 (mkF m 31 #[.val (.int x), .val (.ref b1)] [(.int vb), (.int (1 : Int32)), (.ref b1)]) _
  have ib10 := (show ¬ ((1 : Int32) < 0) ∧ ((1 : Int32)).toNatClampNeg < 4 from ⟨by decide, by decide⟩)
  obtain ⟨cl10, Ar10, S10, H10⟩ := V5
  obtain ⟨T10, h10, X10, e10, W10, st10⟩ := stZ X5 hx hZ e5 Ar10 (j := (1 : Int32)) (Af.inb S10 ib10) (g := (mkF m 31 #[.val (.int x), .val (.ref b1)] [(.int vb), (.int (1 : Int32)), (.ref b1)])) rfl rfl (hb hby d1_31)
  obtain ⟨f10, qf10⟩ : ∃ q : Nat → Int32, q = upd f5 1 (nar .boolean vb) := ⟨_, rfl⟩
  have V10 : Af Z h10 b1 .boolean 4 f10 := by rw [qf10]; exact Af.set Ar10 S10 H10 W10 (by decide)
  have K12 := K7.wr W10 (Or.inr sz1)
  have Zs13 : n0 ≤ h10.size := Nat.le_trans Zs8 (Keep.of_wr W10).1
  have N10 := Fr.snoc X10 N5 gx1
  refine Go.of (st10) ?_
  show Go p e below T10 (mkF m 32 #[.val (.int x), .val (.ref b1)] []) _
  refine Go.of (fun tg_ kk_ => XS.aloadN X10.here hx rfl (hb hby d1_32) rfl rfl kk_) ?_
  show Go p e below T10 (mkF m 33 #[.val (.int x), .val (.ref b1)] [(.ref b1)]) _
  refine Go.of (fun tg_ kk_ => XS.iconst X10.here hx rfl (hb hby d1_33) kk_) ?_
  show Go p e below T10 (mkF m 34 #[.val (.int x), .val (.ref b1)] [(.int (2 : Int32)), (.ref b1)]) _
  refine Go.of (fun tg_ kk_ => XS.iloadN X10.here hx rfl (hb hby d1_34) rfl kk_) ?_
  show Go p e below T10 (mkF m 35 #[.val (.int x), .val (.ref b1)] [(.int x), (.int (2 : Int32)), (.ref b1)]) _
  refine Go.of (fun tg_ kk_ => XS.iconst X10.here hx rfl (hb hby d1_35) kk_) ?_
  show Go p e below T10 (mkF m 36 #[.val (.int x), .val (.ref b1)] [(.int (4 : Int32)), (.int x), (.int (2 : Int32)), (.ref b1)]) _
  refine Go.of (fun tg_ kk_ => XS.iand X10.here hx rfl (hb hby d1_36) rfl kk_) ?_
  show Go p e below T10 (mkF m 37 #[.val (.int x), .val (.ref b1)] [(.int (x &&& (4 : Int32))), (.int (2 : Int32)), (.ref b1)]) _
  have st14 : ∀ vc : Int32, vc = (if (x &&& (4 : Int32)) = (0 : Int32) then (0 : Int32) else (1 : Int32)) → ∀ t, Steps p.tables e below (T10.setTop (mkF m 45 #[.val (.int x), .val (.ref b1)] [(.int vc), (.int (2 : Int32)), (.ref b1)])) t → Steps p.tables e below (T10.setTop (mkF m 37 #[.val (.int x), .val (.ref b1)] [(.int (x &&& (4 : Int32))), (.int (2 : Int32)), (.ref b1)])) t := by
    intro vc qvc tg_ kk_
    by_cases hc : (x &&& (4 : Int32)) = (0 : Int32)
    · rw [if_pos hc] at qvc; rw [qvc] at kk_
      show Steps p.tables e below (T10.setTop (mkF m 37 #[.val (.int x), .val (.ref b1)] [(.int (x &&& (4 : Int32))), (.int (2 : Int32)), (.ref b1)])) _
      refine XS.ifYes X10.here hx rfl (pc0 := 37) (pc' := 44) rfl (hb hby d1_37) rfl ((if0 _ _).trans (teq hc).1) (by decide) (by decide) ?_
      show Steps p.tables e below (T10.setTop (mkF m 44 #[.val (.int x), .val (.ref b1)] [(.int (2 : Int32)), (.ref b1)])) _
      refine XS.iconst X10.here hx rfl (hb hby d1_44) ?_
      show Steps p.tables e below (T10.setTop (mkF m 45 #[.val (.int x), .val (.ref b1)] [(.int (0 : Int32)), (.int (2 : Int32)), (.ref b1)])) _
      exact kk_
    · rw [if_neg hc] at qvc; rw [qvc] at kk_
      show Steps p.tables e below (T10.setTop (mkF m 37 #[.val (.int x), .val (.ref b1)] [(.int (x &&& (4 : Int32))), (.int (2 : Int32)), (.ref b1)])) _
      refine XS.ifNo X10.here hx rfl (hb hby d1_37) rfl ((if0 _ _).trans (feq hc).1) ?_
      show Steps p.tables e below (T10.setTop (mkF m 40 #[.val (.int x), .val (.ref b1)] [(.int (2 : Int32)), (.ref b1)])) _
      refine XS.iconst X10.here hx rfl (hb hby d1_40) ?_
      show Steps p.tables e below (T10.setTop (mkF m 41 #[.val (.int x), .val (.ref b1)] [(.int (1 : Int32)), (.int (2 : Int32)), (.ref b1)])) _
      refine XS.goto X10.here hx rfl (pc0 := 41) (pc' := 45) rfl (hb hby d1_41) (by decide) (by decide) ?_
      show Steps p.tables e below (T10.setTop (mkF m 45 #[.val (.int x), .val (.ref b1)] [(.int (1 : Int32)), (.int (2 : Int32)), (.ref b1)])) _
      exact kk_
  obtain ⟨vc, qvc⟩ : ∃ z : Int32, z = (if (x &&& (4 : Int32)) = (0 : Int32) then (0 : Int32) else (1 : Int32)) := ⟨_, rfl⟩
  refine Go.of (st14 vc qvc) ?_
  show Go p e below T10 (mkF m 45 #[.val (.int x), .val (.ref b1)] [(.int vc), (.int (2 : Int32)), (.ref b1)]) _
  have ib15 := (show ¬ ((2 : Int32) < 0) ∧ ((2 : Int32)).toNatClampNeg < 4 from ⟨by decide, by decide⟩)
  obtain ⟨cl15, Ar15, S15, H15⟩ := V10
  obtain ⟨T15, h15, X15, e15, W15, st15⟩ := stZ X10 hx hZ e10 Ar15 (j := (2 : Int32)) (Af.inb S15 ib15) (g := (mkF m 45 #[.val (.int x), .val (.ref b1)] [(.int vc), (.int (2 : Int32)), (.ref b1)])) rfl rfl (hb hby d1_45)
  obtain ⟨f15, qf15⟩ : ∃ q : Nat → Int32, q = upd f10 2 (nar .boolean vc) := ⟨_, rfl⟩
  have V15 : Af Z h15 b1 .boolean 4 f15 := by rw [qf15]; exact Af.set Ar15 S15 H15 W15 (by decide)
  have K17 := K12.wr W15 (Or.inr sz1)
  have Zs18 : n0 ≤ h15.size := Nat.le_trans Zs13 (Keep.of_wr W15).1
  have N15 := Fr.snoc X15 N10 gx1
  refine Go.of (st15) ?_
  show Go p e below T15 (mkF m 46 #[.val (.int x), .val (.ref b1)] []) _
  refine Go.of (fun tg_ kk_ => XS.aloadN X15.here hx rfl (hb hby d1_46) rfl rfl kk_) ?_
  show Go p e below T15 (mkF m 47 #[.val (.int x), .val (.ref b1)] [(.ref b1)]) _
  refine Go.of (fun tg_ kk_ => XS.iconst X15.here hx rfl (hb hby d1_47) kk_) ?_
  show Go p e below T15 (mkF m 48 #[.val (.int x), .val (.ref b1)] [(.int (3 : Int32)), (.ref b1)]) _
  refine Go.of (fun tg_ kk_ => XS.iloadN X15.here hx rfl (hb hby d1_48) rfl kk_) ?_
  show Go p e below T15 (mkF m 49 #[.val (.int x), .val (.ref b1)] [(.int x), (.int (3 : Int32)), (.ref b1)]) _
  refine Go.of (fun tg_ kk_ => XS.bipush X15.here hx rfl (hb hby d1_49) kk_) ?_
  show Go p e below T15 (mkF m 51 #[.val (.int x), .val (.ref b1)] [(.int (8 : Int32)), (.int x), (.int (3 : Int32)), (.ref b1)]) _
  refine Go.of (fun tg_ kk_ => XS.iand X15.here hx rfl (hb hby d1_51) rfl kk_) ?_
  show Go p e below T15 (mkF m 52 #[.val (.int x), .val (.ref b1)] [(.int (x &&& (8 : Int32))), (.int (3 : Int32)), (.ref b1)]) _
  have st19 : ∀ vd : Int32, vd = (if (x &&& (8 : Int32)) = (0 : Int32) then (0 : Int32) else (1 : Int32)) → ∀ t, Steps p.tables e below (T15.setTop (mkF m 60 #[.val (.int x), .val (.ref b1)] [(.int vd), (.int (3 : Int32)), (.ref b1)])) t → Steps p.tables e below (T15.setTop (mkF m 52 #[.val (.int x), .val (.ref b1)] [(.int (x &&& (8 : Int32))), (.int (3 : Int32)), (.ref b1)])) t := by
    intro vd qvd tg_ kk_
    by_cases hc : (x &&& (8 : Int32)) = (0 : Int32)
    · rw [if_pos hc] at qvd; rw [qvd] at kk_
      show Steps p.tables e below (T15.setTop (mkF m 52 #[.val (.int x), .val (.ref b1)] [(.int (x &&& (8 : Int32))), (.int (3 : Int32)), (.ref b1)])) _
      refine XS.ifYes X15.here hx rfl (pc0 := 52) (pc' := 59) rfl (hb hby d1_52) rfl ((if0 _ _).trans (teq hc).1) (by decide) (by decide) ?_
      show Steps p.tables e below (T15.setTop (mkF m 59 #[.val (.int x), .val (.ref b1)] [(.int (3 : Int32)), (.ref b1)])) _
      refine XS.iconst X15.here hx rfl (hb hby d1_59) ?_
      show Steps p.tables e below (T15.setTop (mkF m 60 #[.val (.int x), .val (.ref b1)] [(.int (0 : Int32)), (.int (3 : Int32)), (.ref b1)])) _
      exact kk_
    · rw [if_neg hc] at qvd; rw [qvd] at kk_
      show Steps p.tables e below (T15.setTop (mkF m 52 #[.val (.int x), .val (.ref b1)] [(.int (x &&& (8 : Int32))), (.int (3 : Int32)), (.ref b1)])) _
      refine XS.ifNo X15.here hx rfl (hb hby d1_52) rfl ((if0 _ _).trans (feq hc).1) ?_
      show Steps p.tables e below (T15.setTop (mkF m 55 #[.val (.int x), .val (.ref b1)] [(.int (3 : Int32)), (.ref b1)])) _
      refine XS.iconst X15.here hx rfl (hb hby d1_55) ?_
      show Steps p.tables e below (T15.setTop (mkF m 56 #[.val (.int x), .val (.ref b1)] [(.int (1 : Int32)), (.int (3 : Int32)), (.ref b1)])) _
      refine XS.goto X15.here hx rfl (pc0 := 56) (pc' := 60) rfl (hb hby d1_56) (by decide) (by decide) ?_
      show Steps p.tables e below (T15.setTop (mkF m 60 #[.val (.int x), .val (.ref b1)] [(.int (1 : Int32)), (.int (3 : Int32)), (.ref b1)])) _
      exact kk_
  obtain ⟨vd, qvd⟩ : ∃ z : Int32, z = (if (x &&& (8 : Int32)) = (0 : Int32) then (0 : Int32) else (1 : Int32)) := ⟨_, rfl⟩
  refine Go.of (st19 vd qvd) ?_
  show Go p e below T15 (mkF m 60 #[.val (.int x), .val (.ref b1)] [(.int vd), (.int (3 : Int32)), (.ref b1)]) _
  have ib20 := (show ¬ ((3 : Int32) < 0) ∧ ((3 : Int32)).toNatClampNeg < 4 from ⟨by decide, by decide⟩)
  obtain ⟨cl20, Ar20, S20, H20⟩ := V15
  obtain ⟨T20, h20, X20, e20, W20, st20⟩ := stZ X15 hx hZ e15 Ar20 (j := (3 : Int32)) (Af.inb S20 ib20) (g := (mkF m 60 #[.val (.int x), .val (.ref b1)] [(.int vd), (.int (3 : Int32)), (.ref b1)])) rfl rfl (hb hby d1_60)
  obtain ⟨f20, qf20⟩ : ∃ q : Nat → Int32, q = upd f15 3 (nar .boolean vd) := ⟨_, rfl⟩
  have V20 : Af Z h20 b1 .boolean 4 f20 := by rw [qf20]; exact Af.set Ar20 S20 H20 W20 (by decide)
  have K22 := K17.wr W20 (Or.inr sz1)
  have Zs23 : n0 ≤ h20.size := Nat.le_trans Zs18 (Keep.of_wr W20).1
  have N20 := Fr.snoc X20 N15 gx1
  refine Go.of (st20) ?_
  show Go p e below T20 (mkF m 61 #[.val (.int x), .val (.ref b1)] []) _
  refine Go.of (fun tg_ kk_ => XS.aloadN X20.here hx rfl (hb hby d1_61) rfl rfl kk_) ?_
  show Go p e below T20 (mkF m 62 #[.val (.int x), .val (.ref b1)] [(.ref b1)]) _
  obtain ⟨fs, hr, hrun, hended, hW, hsame⟩ := X20.leave (v := some (.ref b1)) (fun h => by rw [Bd.returns] at h; cases h)
  refine ⟨_, _, ?_, hrun, hended, _, _, rfl, ?_, ⟨_, rfl⟩, hW, hsame.mono (by decide) (by decide)⟩
  · exact retOut X20 hx Bd.returns rfl (Or.inr (Or.inr (Or.inr (Or.inr ⟨rfl, rfl, rfl⟩)))) (hb hby d1_62) hr
  · show Q1 Z x h0 n0 _ T20.heap _
    rw [e20]
    exact ⟨_, rfl, N20, K22, sz1, gx1, Af.congr V20 (fun i hi => by rcases (show i = 0 ∨ i = 1 ∨ i = 2 ∨ i = 3 by omega) with rfl | rfl | rfl | rfl <;> simp [qf5, qf10, qf15, qf20, upd, bitsF, qva, qvb, qvc, qvd, own_nb])⟩
theorem d3_0 : decode jdk_30_method_1_code 0 = .ok (.aload_n 0, 1) := by decide +kernel
theorem d3_1 : decode jdk_30_method_1_code 1 = .ok (.invokespecial 1, 3) := by decide +kernel
theorem d3_4 : decode jdk_30_method_1_code 4 = .ok (.return_, 1) := by decide +kernel
theorem ef_3 (m : MethodId) (x0 : Addr) : entryFrame m #[(.ref x0)] 1 = mkF m 0 #[.val (.ref x0)] [] := by first | (simp [entryFrame, mkF, argsToLocals, Value.category]; done) | rfl
def Q3 (Z : State) (a : Addr) (h0 : Heap) (n0 : Nat) (v : Option Value) (h : Heap) (L : List Loc) : Prop := v = none ∧ Fr n0 L ∧ h = h0
set_option maxRecDepth 65536 in
set_option maxHeartbeats 40000000 in
theorem rm3 (l : Launch) (Z : State) (a0 : Array Value) (hw : ∀ d ∈ tables_1, d.before a0 Z = true) (ws : List Jvm.Cond) (a : Addr) (h0 : Heap) (n0 : Nat) (Z0 : n0 ≤ h0.size) :
    MetFree l (⟨"java/lang/Record", "<init>", "()V"⟩ : MethodName) (head1 (Jvm.Cond.code (⟨"java/lang/Record", "<init>", "()V"⟩ : MethodName) jdk_30_method_1_code 1 none :: ws) ({ frames := 1, cells := 0, slots := 0, locals := 12 } : Room)) (fun aa_ U => aa_ = #[(.ref a)] ∧ Z.Warmed39 U.vm ∧ U.heap = h0) (fun _ _ _ _ _ => True) (fun _ U o U' => ∃ vv_ LL_, o = .returned vv_ ∧ Q3 Z a h0 n0 vv_ U'.heap LL_ ∧ FrameEnd U o U' LL_ ({ frames := 1, cells := 0, slots := 0, locals := 12 } : Room).cells ({ frames := 1, cells := 0, slots := 0, locals := 12 } : Room).slots) := by
  refine MetFree.of_bodySF (plainFor_of_name pn_1) hisR ?_
  intro p e s m args below meth c s₁ Bd hml0 hP hK
  obtain ⟨rfl, hZ, hh⟩ := hP
  have hx := Bd.exec
  have hby := Bd.bytes
  have hml : c.maxLocals = 1 := hml0
  have hown : s.vm.findClass "java/lang/Record" = some m.cls := findClass_of_methodNamed Bd.named
  have hnm := (name_of_methodNamed Bd.named Bd.method).1
  have X0 : Stand p l e ({ frames := 1, cells := 0, slots := 0, locals := 12 } : Room) s m #[(.ref a)] below meth c s₁ [] 0 0 := Stand.of_body Bd
  have e0 : s₁.heap = h0 := by rw [← hh, Bd.state]; rfl
  have N0 := Fr.nil n0
  have K0 : Keep h0 h0 [] := Keep.refl h0 _
  refine Go.enter (P := fun o U' => ∃ vv_ LL_, o = .returned vv_ ∧ Q3 Z a h0 n0 vv_ U'.heap LL_ ∧ FrameEnd s o U' LL_ ({ frames := 1, cells := 0, slots := 0, locals := 12 } : Room).cells ({ frames := 1, cells := 0, slots := 0, locals := 12 } : Room).slots) (ef_3 m a) ?_
  show Go p e below s₁ (mkF m 0 #[.val (.ref a)] []) _
  refine Go.of (fun tg_ kk_ => XS.aloadN X0.here hx rfl (hb hby d3_0) rfl rfl kk_) ?_
  show Go p e below s₁ (mkF m 1 #[.val (.ref a)] [(.ref a)]) _
  obtain ⟨T1, X1, e1, st1⟩ := initO X0 hx hZ hown (hw _ (List.mem_of_getElem? (i := 16) rfl)) (hw _ (List.mem_of_getElem? (i := 17) rfl)) (hw _ (List.mem_of_getElem? (i := 18) rfl)) e0 (g := (mkF m 1 #[.val (.ref a)] [(.ref a)])) rfl (by rw [hml]; rfl) rfl (hb hby d3_1) (by decide) (W := 0) (by show 2 * 0 + _ ≤ _; exact Nat.le_of_eq rfl) (by decide)
  refine Go.of (st1) ?_
  show Go p e below T1 (mkF m 4 #[.val (.ref a)] []) _
  obtain ⟨fs, hr, hrun, hended, hW, hsame⟩ := X1.leave (v := none) (fun _ => rfl)
  refine ⟨_, _, ?_, hrun, hended, _, _, rfl, ?_, ⟨_, rfl⟩, hW, hsame.mono (by decide) (by decide)⟩
  · exact X1.returnOut hx Bd.returns (hb hby d3_4) hr
  · show Q3 Z a h0 n0 _ T1.heap _
    rw [e1]
    exact ⟨rfl, N0, rfl⟩
theorem d2_0 : decode prog_162_method_1_code 0 = .ok (.aload_n 0, 1) := by decide +kernel
theorem d2_1 : decode prog_162_method_1_code 1 = .ok (.invokespecial 1, 3) := by decide +kernel
theorem d2_4 : decode prog_162_method_1_code 4 = .ok (.aload_n 0, 1) := by decide +kernel
theorem d2_5 : decode prog_162_method_1_code 5 = .ok (.aload_n 1, 1) := by decide +kernel
theorem d2_6 : decode prog_162_method_1_code 6 = .ok (.putfield 7, 3) := by decide +kernel
theorem d2_9 : decode prog_162_method_1_code 9 = .ok (.aload_n 0, 1) := by decide +kernel
theorem d2_10 : decode prog_162_method_1_code 10 = .ok (.aload_n 2, 1) := by decide +kernel
theorem d2_11 : decode prog_162_method_1_code 11 = .ok (.putfield 13, 3) := by decide +kernel
theorem d2_14 : decode prog_162_method_1_code 14 = .ok (.return_, 1) := by decide +kernel
theorem ef_2_00 (m : MethodId) (x0 : Addr) (x1 : Addr) (x2 : Addr) : entryFrame m #[(.ref x0), (.ref x1), (.ref x2)] 3 = mkF m 0 #[.val (.ref x0), .val (.ref x1), .val (.ref x2)] [] := by first | (simp [entryFrame, mkF, argsToLocals, Value.category]; done) | rfl
def Q2_00 (Z : State) (a : Addr) (u : Addr) (w : Addr) (h0 : Heap) (n0 : Nat) (v : Option Value) (h : Heap) (L : List Loc) : Prop := v = none ∧ Fr n0 L ∧ Keep h0 h [a] ∧ Fld Z h a "com/example/planwright/planwright/planner/SharedAtoms$Among" "elsewhere" "[Z" (.ref w)
set_option maxRecDepth 65536 in
set_option maxHeartbeats 40000000 in
theorem rm2_00 (l : Launch) (Z : State) (a0 : Array Value) (hw : ∀ d ∈ tables_1, d.before a0 Z = true) (ws : List Jvm.Cond) (a : Addr) (u : Addr) (w : Addr) (h0 : Heap) (n0 : Nat) (Z0 : n0 ≤ h0.size) (g_a : n0 ≤ a) (E_a : Exa Z h0 a "com/example/planwright/planwright/planner/SharedAtoms$Among") (Fw : Fld Z h0 a "com/example/planwright/planwright/planner/SharedAtoms$Among" "weighed" "[Z" .null) (Fe : Fld Z h0 a "com/example/planwright/planwright/planner/SharedAtoms$Among" "elsewhere" "[Z" .null) :
    MetFree l (⟨"com/example/planwright/planwright/planner/SharedAtoms$Among", "<init>", "([Z[Z)V"⟩ : MethodName) (head1 (Jvm.Cond.code (⟨"com/example/planwright/planwright/planner/SharedAtoms$Among", "<init>", "([Z[Z)V"⟩ : MethodName) prog_162_method_1_code 3 none :: ws) ({ frames := 2, cells := 0, slots := 0, locals := 24 } : Room)) (fun aa_ U => aa_ = #[(.ref a), (.ref u), (.ref w)] ∧ Z.Warmed39 U.vm ∧ U.heap = h0) (fun _ _ _ _ _ => True) (fun _ U o U' => ∃ vv_ LL_, o = .returned vv_ ∧ Q2_00 Z a u w h0 n0 vv_ U'.heap LL_ ∧ FrameEnd U o U' LL_ ({ frames := 2, cells := 0, slots := 0, locals := 24 } : Room).cells ({ frames := 2, cells := 0, slots := 0, locals := 24 } : Room).slots) := by
  refine MetFree.of_bodySF (plainFor_of_name pn_2) hisR ?_
  intro p e s m args below meth c s₁ Bd hml0 hP hK
  obtain ⟨rfl, hZ, hh⟩ := hP
  have hx := Bd.exec
  have hby := Bd.bytes
  have hml : c.maxLocals = 3 := hml0
  have hown : s.vm.findClass "com/example/planwright/planwright/planner/SharedAtoms$Among" = some m.cls := findClass_of_methodNamed Bd.named
  have hnm := (name_of_methodNamed Bd.named Bd.method).1
  have X0 : Stand p l e ({ frames := 2, cells := 0, slots := 0, locals := 24 } : Room) s m #[(.ref a), (.ref u), (.ref w)] below meth c s₁ [] 0 0 := Stand.of_body Bd
  have e0 : s₁.heap = h0 := by rw [← hh, Bd.state]; rfl
  have N0 := Fr.nil n0
  have K0 : Keep h0 h0 [a] := Keep.refl h0 _
  refine Go.enter (P := fun o U' => ∃ vv_ LL_, o = .returned vv_ ∧ Q2_00 Z a u w h0 n0 vv_ U'.heap LL_ ∧ FrameEnd s o U' LL_ ({ frames := 2, cells := 0, slots := 0, locals := 24 } : Room).cells ({ frames := 2, cells := 0, slots := 0, locals := 24 } : Room).slots) (ef_2_00 m a u w) ?_
  show Go p e below s₁ (mkF m 0 #[.val (.ref a), .val (.ref u), .val (.ref w)] []) _
  refine Go.of (fun tg_ kk_ => XS.aloadN X0.here hx rfl (hb hby d2_0) rfl rfl kk_) ?_
  show Go p e below s₁ (mkF m 1 #[.val (.ref a), .val (.ref u), .val (.ref w)] [(.ref a)]) _
  obtain ⟨_, _, ⟨T1, L1, k1, n1⟩, -, X1, ⟨Lc1, hQ1, l1, y1, z1⟩, st1⟩ := X0.specialBack hx (y := (⟨"java/lang/Record", "<init>", "()V"⟩ : MethodName)) rfl hown (mvT hZ (hw _ (List.mem_of_getElem? (i := 11) rfl))) (mvT hZ (hw _ (List.mem_of_getElem? (i := 12) rfl))) (mvT hZ (hw _ (List.mem_of_getElem? (i := 15) rfl))) (by decide) (backOf (W := 0) (rm3 l Z a0 hw [] a h0 n0 Z0) hZ (hw _ (List.mem_of_getElem? (i := 15) rfl)) (hw _ (List.mem_of_getElem? (i := 14) rfl)) (by decide) (by decide)) (g := (mkF m 1 #[.val (.ref a), .val (.ref u), .val (.ref w)] [(.ref a)])) rfl (by rw [hml]; rfl) (Steps.refl _) (a := a) (argsL := []) (rest := []) (lenOf pd_0 rfl) rfl (by show 2 * 0 + _ ≤ _; exact Nat.le_of_eq rfl) (hb hby d2_1) (fun _ _ => ⟨rfl, e0, (by decide : 0 + 0 ≤ _), (by decide : 0 + 0 ≤ _)⟩)
  dsimp only [Pt.U, Pt.locs, Pt.cells, Pt.slots] at X1 l1 y1 z1 st1 hQ1
  subst l1 y1 z1
  obtain ⟨rfl, N1q, e1⟩ := hQ1
  have N1 := Fr.app N0 N1q
  refine Go.of (fun tg_ kk_ => st1.trans kk_) ?_
  show Go p e below T1 (mkF m 4 #[.val (.ref a), .val (.ref u), .val (.ref w)] []) _
  refine Go.of (fun tg_ kk_ => XS.aloadN X1.here hx rfl (hb hby d2_4) rfl rfl kk_) ?_
  show Go p e below T1 (mkF m 5 #[.val (.ref a), .val (.ref u), .val (.ref w)] [(.ref a)]) _
  refine Go.of (fun tg_ kk_ => XS.aloadN X1.here hx rfl (hb hby d2_5) rfl rfl kk_) ?_
  show Go p e below T1 (mkF m 6 #[.val (.ref a), .val (.ref u), .val (.ref w)] [(.ref u), (.ref a)]) _
  obtain ⟨T2, h2, X2, e2, W2, st2⟩ := putF X1 hx hZ hown (host := "") (Or.inl (hw _ (List.mem_of_getElem? (i := 19) rfl))) Via.refl e1 Fw E_a (Or.inr ⟨(hw _ (List.mem_of_getElem? (i := 20) rfl)), rfl, hnm⟩) (hw _ (List.mem_of_getElem? (i := 6) rfl)) (ty := (.array .boolean)) (by decide) rfl rfl (g := (mkF m 6 #[.val (.ref a), .val (.ref u), .val (.ref w)] [(.ref u), (.ref a)])) rfl rfl (hb hby d2_6)
  have Fw2 := Fw.same W2
  have F3 := E_a.wr W2
  have F5 := Fe.other W2 (Or.inr (slot_ne (Or.inr (hw _ (List.mem_of_getElem? (i := 22) rfl))) (Or.inr (hw _ (List.mem_of_getElem? (i := 20) rfl))) (by decide) (t := (.array .boolean)) (t' := (.array .boolean)) (by decide) (by decide)))
  have K6 := K0.wr W2 (Or.inl (List.mem_of_getElem? (i := 0) rfl))
  have Zs7 : n0 ≤ h2.size := Nat.le_trans Z0 (Keep.of_wr W2).1
  have N2 := Fr.snoc X2 N1 g_a
  refine Go.of (st2) ?_
  show Go p e below T2 (mkF m 9 #[.val (.ref a), .val (.ref u), .val (.ref w)] []) _
  refine Go.of (fun tg_ kk_ => XS.aloadN X2.here hx rfl (hb hby d2_9) rfl rfl kk_) ?_
  show Go p e below T2 (mkF m 10 #[.val (.ref a), .val (.ref u), .val (.ref w)] [(.ref a)]) _
  refine Go.of (fun tg_ kk_ => XS.aloadN X2.here hx rfl (hb hby d2_10) rfl rfl kk_) ?_
  show Go p e below T2 (mkF m 11 #[.val (.ref a), .val (.ref u), .val (.ref w)] [(.ref w), (.ref a)]) _
  obtain ⟨T8, h8, X8, e8, W8, st8⟩ := putF X2 hx hZ hown (host := "") (Or.inl (hw _ (List.mem_of_getElem? (i := 21) rfl))) Via.refl e2 F5 F3 (Or.inr ⟨(hw _ (List.mem_of_getElem? (i := 22) rfl)), rfl, hnm⟩) (hw _ (List.mem_of_getElem? (i := 6) rfl)) (ty := (.array .boolean)) (by decide) rfl rfl (g := (mkF m 11 #[.val (.ref a), .val (.ref u), .val (.ref w)] [(.ref w), (.ref a)])) rfl rfl (hb hby d2_11)
  have Fw8 := F5.same W8
  have F9 := F3.wr W8
  have F11 := Fw2.other W8 (Or.inr (slot_ne (Or.inr (hw _ (List.mem_of_getElem? (i := 20) rfl))) (Or.inr (hw _ (List.mem_of_getElem? (i := 22) rfl))) (by decide) (t := (.array .boolean)) (t' := (.array .boolean)) (by decide) (by decide)))
  have K12 := K6.wr W8 (Or.inl (List.mem_of_getElem? (i := 0) rfl))
  have Zs13 : n0 ≤ h8.size := Nat.le_trans Zs7 (Keep.of_wr W8).1
  have N8 := Fr.snoc X8 N2 g_a
  refine Go.of (st8) ?_
  show Go p e below T8 (mkF m 14 #[.val (.ref a), .val (.ref u), .val (.ref w)] []) _
  obtain ⟨fs, hr, hrun, hended, hW, hsame⟩ := X8.leave (v := none) (fun _ => rfl)
  refine ⟨_, _, ?_, hrun, hended, _, _, rfl, ?_, ⟨_, rfl⟩, hW, hsame.mono (by decide) (by decide)⟩
  · exact X8.returnOut hx Bd.returns (hb hby d2_14) hr
  · show Q2_00 Z a u w h0 n0 _ T8.heap _
    rw [e8]
    exact ⟨rfl, N8, K12, Fw8⟩
theorem ef_2_01 (m : MethodId) (x0 : Addr) (x1 : Addr) : entryFrame m #[(.ref x0), (.ref x1), .null] 3 = mkF m 0 #[.val (.ref x0), .val (.ref x1), .val .null] [] := by first | (simp [entryFrame, mkF, argsToLocals, Value.category]; done) | rfl
def Q2_01 (Z : State) (a : Addr) (u : Addr) (h0 : Heap) (n0 : Nat) (v : Option Value) (h : Heap) (L : List Loc) : Prop := v = none ∧ Fr n0 L ∧ Keep h0 h [a] ∧ Fld Z h a "com/example/planwright/planwright/planner/SharedAtoms$Among" "elsewhere" "[Z" .null
set_option maxRecDepth 65536 in
set_option maxHeartbeats 40000000 in
theorem rm2_01 (l : Launch) (Z : State) (a0 : Array Value) (hw : ∀ d ∈ tables_1, d.before a0 Z = true) (ws : List Jvm.Cond) (a : Addr) (u : Addr) (h0 : Heap) (n0 : Nat) (Z0 : n0 ≤ h0.size) (g_a : n0 ≤ a) (E_a : Exa Z h0 a "com/example/planwright/planwright/planner/SharedAtoms$Among") (Fw : Fld Z h0 a "com/example/planwright/planwright/planner/SharedAtoms$Among" "weighed" "[Z" .null) (Fe : Fld Z h0 a "com/example/planwright/planwright/planner/SharedAtoms$Among" "elsewhere" "[Z" .null) :
    MetFree l (⟨"com/example/planwright/planwright/planner/SharedAtoms$Among", "<init>", "([Z[Z)V"⟩ : MethodName) (head1 (Jvm.Cond.code (⟨"com/example/planwright/planwright/planner/SharedAtoms$Among", "<init>", "([Z[Z)V"⟩ : MethodName) prog_162_method_1_code 3 none :: ws) ({ frames := 2, cells := 0, slots := 0, locals := 24 } : Room)) (fun aa_ U => aa_ = #[(.ref a), (.ref u), .null] ∧ Z.Warmed39 U.vm ∧ U.heap = h0) (fun _ _ _ _ _ => True) (fun _ U o U' => ∃ vv_ LL_, o = .returned vv_ ∧ Q2_01 Z a u h0 n0 vv_ U'.heap LL_ ∧ FrameEnd U o U' LL_ ({ frames := 2, cells := 0, slots := 0, locals := 24 } : Room).cells ({ frames := 2, cells := 0, slots := 0, locals := 24 } : Room).slots) := by
  refine MetFree.of_bodySF (plainFor_of_name pn_2) hisR ?_
  intro p e s m args below meth c s₁ Bd hml0 hP hK
  obtain ⟨rfl, hZ, hh⟩ := hP
  have hx := Bd.exec
  have hby := Bd.bytes
  have hml : c.maxLocals = 3 := hml0
  have hown : s.vm.findClass "com/example/planwright/planwright/planner/SharedAtoms$Among" = some m.cls := findClass_of_methodNamed Bd.named
  have hnm := (name_of_methodNamed Bd.named Bd.method).1
  have X0 : Stand p l e ({ frames := 2, cells := 0, slots := 0, locals := 24 } : Room) s m #[(.ref a), (.ref u), .null] below meth c s₁ [] 0 0 := Stand.of_body Bd
  have e0 : s₁.heap = h0 := by rw [← hh, Bd.state]; rfl
  have N0 := Fr.nil n0
  have K0 : Keep h0 h0 [a] := Keep.refl h0 _
  refine Go.enter (P := fun o U' => ∃ vv_ LL_, o = .returned vv_ ∧ Q2_01 Z a u h0 n0 vv_ U'.heap LL_ ∧ FrameEnd s o U' LL_ ({ frames := 2, cells := 0, slots := 0, locals := 24 } : Room).cells ({ frames := 2, cells := 0, slots := 0, locals := 24 } : Room).slots) (ef_2_01 m a u) ?_
  show Go p e below s₁ (mkF m 0 #[.val (.ref a), .val (.ref u), .val .null] []) _
  refine Go.of (fun tg_ kk_ => XS.aloadN X0.here hx rfl (hb hby d2_0) rfl rfl kk_) ?_
  show Go p e below s₁ (mkF m 1 #[.val (.ref a), .val (.ref u), .val .null] [(.ref a)]) _
  obtain ⟨_, _, ⟨T1, L1, k1, n1⟩, -, X1, ⟨Lc1, hQ1, l1, y1, z1⟩, st1⟩ := X0.specialBack hx (y := (⟨"java/lang/Record", "<init>", "()V"⟩ : MethodName)) rfl hown (mvT hZ (hw _ (List.mem_of_getElem? (i := 11) rfl))) (mvT hZ (hw _ (List.mem_of_getElem? (i := 12) rfl))) (mvT hZ (hw _ (List.mem_of_getElem? (i := 15) rfl))) (by decide) (backOf (W := 0) (rm3 l Z a0 hw [] a h0 n0 Z0) hZ (hw _ (List.mem_of_getElem? (i := 15) rfl)) (hw _ (List.mem_of_getElem? (i := 14) rfl)) (by decide) (by decide)) (g := (mkF m 1 #[.val (.ref a), .val (.ref u), .val .null] [(.ref a)])) rfl (by rw [hml]; rfl) (Steps.refl _) (a := a) (argsL := []) (rest := []) (lenOf pd_0 rfl) rfl (by show 2 * 0 + _ ≤ _; exact Nat.le_of_eq rfl) (hb hby d2_1) (fun _ _ => ⟨rfl, e0, (by decide : 0 + 0 ≤ _), (by decide : 0 + 0 ≤ _)⟩)
  dsimp only [Pt.U, Pt.locs, Pt.cells, Pt.slots] at X1 l1 y1 z1 st1 hQ1
  subst l1 y1 z1
  obtain ⟨rfl, N1q, e1⟩ := hQ1
  have N1 := Fr.app N0 N1q
  refine Go.of (fun tg_ kk_ => st1.trans kk_) ?_
  show Go p e below T1 (mkF m 4 #[.val (.ref a), .val (.ref u), .val .null] []) _
  refine Go.of (fun tg_ kk_ => XS.aloadN X1.here hx rfl (hb hby d2_4) rfl rfl kk_) ?_
  show Go p e below T1 (mkF m 5 #[.val (.ref a), .val (.ref u), .val .null] [(.ref a)]) _
  refine Go.of (fun tg_ kk_ => XS.aloadN X1.here hx rfl (hb hby d2_5) rfl rfl kk_) ?_
  show Go p e below T1 (mkF m 6 #[.val (.ref a), .val (.ref u), .val .null] [(.ref u), (.ref a)]) _
  obtain ⟨T2, h2, X2, e2, W2, st2⟩ := putF X1 hx hZ hown (host := "") (Or.inl (hw _ (List.mem_of_getElem? (i := 19) rfl))) Via.refl e1 Fw E_a (Or.inr ⟨(hw _ (List.mem_of_getElem? (i := 20) rfl)), rfl, hnm⟩) (hw _ (List.mem_of_getElem? (i := 6) rfl)) (ty := (.array .boolean)) (by decide) rfl rfl (g := (mkF m 6 #[.val (.ref a), .val (.ref u), .val .null] [(.ref u), (.ref a)])) rfl rfl (hb hby d2_6)
  have Fw2 := Fw.same W2
  have F3 := E_a.wr W2
  have F5 := Fe.other W2 (Or.inr (slot_ne (Or.inr (hw _ (List.mem_of_getElem? (i := 22) rfl))) (Or.inr (hw _ (List.mem_of_getElem? (i := 20) rfl))) (by decide) (t := (.array .boolean)) (t' := (.array .boolean)) (by decide) (by decide)))
  have K6 := K0.wr W2 (Or.inl (List.mem_of_getElem? (i := 0) rfl))
  have Zs7 : n0 ≤ h2.size := Nat.le_trans Z0 (Keep.of_wr W2).1
  have N2 := Fr.snoc X2 N1 g_a
  refine Go.of (st2) ?_
  show Go p e below T2 (mkF m 9 #[.val (.ref a), .val (.ref u), .val .null] []) _
  refine Go.of (fun tg_ kk_ => XS.aloadN X2.here hx rfl (hb hby d2_9) rfl rfl kk_) ?_
  show Go p e below T2 (mkF m 10 #[.val (.ref a), .val (.ref u), .val .null] [(.ref a)]) _
  refine Go.of (fun tg_ kk_ => XS.aloadN X2.here hx rfl (hb hby d2_10) rfl rfl kk_) ?_
  show Go p e below T2 (mkF m 11 #[.val (.ref a), .val (.ref u), .val .null] [.null, (.ref a)]) _
  obtain ⟨T8, h8, X8, e8, W8, st8⟩ := putF X2 hx hZ hown (host := "") (Or.inl (hw _ (List.mem_of_getElem? (i := 21) rfl))) Via.refl e2 F5 F3 (Or.inr ⟨(hw _ (List.mem_of_getElem? (i := 22) rfl)), rfl, hnm⟩) (hw _ (List.mem_of_getElem? (i := 6) rfl)) (ty := (.array .boolean)) (by decide) rfl rfl (g := (mkF m 11 #[.val (.ref a), .val (.ref u), .val .null] [.null, (.ref a)])) rfl rfl (hb hby d2_11)
  have Fw8 := F5.same W8
  have F9 := F3.wr W8
  have F11 := Fw2.other W8 (Or.inr (slot_ne (Or.inr (hw _ (List.mem_of_getElem? (i := 20) rfl))) (Or.inr (hw _ (List.mem_of_getElem? (i := 22) rfl))) (by decide) (t := (.array .boolean)) (t' := (.array .boolean)) (by decide) (by decide)))
  have K12 := K6.wr W8 (Or.inl (List.mem_of_getElem? (i := 0) rfl))
  have Zs13 : n0 ≤ h8.size := Nat.le_trans Zs7 (Keep.of_wr W8).1
  have N8 := Fr.snoc X8 N2 g_a
  refine Go.of (st8) ?_
  show Go p e below T8 (mkF m 14 #[.val (.ref a), .val (.ref u), .val .null] []) _
  obtain ⟨fs, hr, hrun, hended, hW, hsame⟩ := X8.leave (v := none) (fun _ => rfl)
  refine ⟨_, _, ?_, hrun, hended, _, _, rfl, ?_, ⟨_, rfl⟩, hW, hsame.mono (by decide) (by decide)⟩
  · exact X8.returnOut hx Bd.returns (hb hby d2_14) hr
  · show Q2_01 Z a u h0 n0 _ T8.heap _
    rw [e8]
    exact ⟨rfl, N8, K12, Fw8⟩
theorem ef_2_10 (m : MethodId) (x0 : Addr) (x2 : Addr) : entryFrame m #[(.ref x0), .null, (.ref x2)] 3 = mkF m 0 #[.val (.ref x0), .val .null, .val (.ref x2)] [] := by first | (simp [entryFrame, mkF, argsToLocals, Value.category]; done) | rfl
def Q2_10 (Z : State) (a : Addr) (w : Addr) (h0 : Heap) (n0 : Nat) (v : Option Value) (h : Heap) (L : List Loc) : Prop := v = none ∧ Fr n0 L ∧ Keep h0 h [a] ∧ Fld Z h a "com/example/planwright/planwright/planner/SharedAtoms$Among" "elsewhere" "[Z" (.ref w)
set_option maxRecDepth 65536 in
set_option maxHeartbeats 40000000 in
theorem rm2_10 (l : Launch) (Z : State) (a0 : Array Value) (hw : ∀ d ∈ tables_1, d.before a0 Z = true) (ws : List Jvm.Cond) (a : Addr) (w : Addr) (h0 : Heap) (n0 : Nat) (Z0 : n0 ≤ h0.size) (g_a : n0 ≤ a) (E_a : Exa Z h0 a "com/example/planwright/planwright/planner/SharedAtoms$Among") (Fw : Fld Z h0 a "com/example/planwright/planwright/planner/SharedAtoms$Among" "weighed" "[Z" .null) (Fe : Fld Z h0 a "com/example/planwright/planwright/planner/SharedAtoms$Among" "elsewhere" "[Z" .null) :
    MetFree l (⟨"com/example/planwright/planwright/planner/SharedAtoms$Among", "<init>", "([Z[Z)V"⟩ : MethodName) (head1 (Jvm.Cond.code (⟨"com/example/planwright/planwright/planner/SharedAtoms$Among", "<init>", "([Z[Z)V"⟩ : MethodName) prog_162_method_1_code 3 none :: ws) ({ frames := 2, cells := 0, slots := 0, locals := 24 } : Room)) (fun aa_ U => aa_ = #[(.ref a), .null, (.ref w)] ∧ Z.Warmed39 U.vm ∧ U.heap = h0) (fun _ _ _ _ _ => True) (fun _ U o U' => ∃ vv_ LL_, o = .returned vv_ ∧ Q2_10 Z a w h0 n0 vv_ U'.heap LL_ ∧ FrameEnd U o U' LL_ ({ frames := 2, cells := 0, slots := 0, locals := 24 } : Room).cells ({ frames := 2, cells := 0, slots := 0, locals := 24 } : Room).slots) := by
  refine MetFree.of_bodySF (plainFor_of_name pn_2) hisR ?_
  intro p e s m args below meth c s₁ Bd hml0 hP hK
  obtain ⟨rfl, hZ, hh⟩ := hP
  have hx := Bd.exec
  have hby := Bd.bytes
  have hml : c.maxLocals = 3 := hml0
  have hown : s.vm.findClass "com/example/planwright/planwright/planner/SharedAtoms$Among" = some m.cls := findClass_of_methodNamed Bd.named
  have hnm := (name_of_methodNamed Bd.named Bd.method).1
  have X0 : Stand p l e ({ frames := 2, cells := 0, slots := 0, locals := 24 } : Room) s m #[(.ref a), .null, (.ref w)] below meth c s₁ [] 0 0 := Stand.of_body Bd
  have e0 : s₁.heap = h0 := by rw [← hh, Bd.state]; rfl
  have N0 := Fr.nil n0
  have K0 : Keep h0 h0 [a] := Keep.refl h0 _
  refine Go.enter (P := fun o U' => ∃ vv_ LL_, o = .returned vv_ ∧ Q2_10 Z a w h0 n0 vv_ U'.heap LL_ ∧ FrameEnd s o U' LL_ ({ frames := 2, cells := 0, slots := 0, locals := 24 } : Room).cells ({ frames := 2, cells := 0, slots := 0, locals := 24 } : Room).slots) (ef_2_10 m a w) ?_
  show Go p e below s₁ (mkF m 0 #[.val (.ref a), .val .null, .val (.ref w)] []) _
  refine Go.of (fun tg_ kk_ => XS.aloadN X0.here hx rfl (hb hby d2_0) rfl rfl kk_) ?_
  show Go p e below s₁ (mkF m 1 #[.val (.ref a), .val .null, .val (.ref w)] [(.ref a)]) _
  obtain ⟨_, _, ⟨T1, L1, k1, n1⟩, -, X1, ⟨Lc1, hQ1, l1, y1, z1⟩, st1⟩ := X0.specialBack hx (y := (⟨"java/lang/Record", "<init>", "()V"⟩ : MethodName)) rfl hown (mvT hZ (hw _ (List.mem_of_getElem? (i := 11) rfl))) (mvT hZ (hw _ (List.mem_of_getElem? (i := 12) rfl))) (mvT hZ (hw _ (List.mem_of_getElem? (i := 15) rfl))) (by decide) (backOf (W := 0) (rm3 l Z a0 hw [] a h0 n0 Z0) hZ (hw _ (List.mem_of_getElem? (i := 15) rfl)) (hw _ (List.mem_of_getElem? (i := 14) rfl)) (by decide) (by decide)) (g := (mkF m 1 #[.val (.ref a), .val .null, .val (.ref w)] [(.ref a)])) rfl (by rw [hml]; rfl) (Steps.refl _) (a := a) (argsL := []) (rest := []) (lenOf pd_0 rfl) rfl (by show 2 * 0 + _ ≤ _; exact Nat.le_of_eq rfl) (hb hby d2_1) (fun _ _ => ⟨rfl, e0, (by decide : 0 + 0 ≤ _), (by decide : 0 + 0 ≤ _)⟩)
  dsimp only [Pt.U, Pt.locs, Pt.cells, Pt.slots] at X1 l1 y1 z1 st1 hQ1
  subst l1 y1 z1
  obtain ⟨rfl, N1q, e1⟩ := hQ1
  have N1 := Fr.app N0 N1q
  refine Go.of (fun tg_ kk_ => st1.trans kk_) ?_
  show Go p e below T1 (mkF m 4 #[.val (.ref a), .val .null, .val (.ref w)] []) _
  refine Go.of (fun tg_ kk_ => XS.aloadN X1.here hx rfl (hb hby d2_4) rfl rfl kk_) ?_
  show Go p e below T1 (mkF m 5 #[.val (.ref a), .val .null, .val (.ref w)] [(.ref a)]) _
  refine Go.of (fun tg_ kk_ => XS.aloadN X1.here hx rfl (hb hby d2_5) rfl rfl kk_) ?_
  show Go p e below T1 (mkF m 6 #[.val (.ref a), .val .null, .val (.ref w)] [.null, (.ref a)]) _
  obtain ⟨T2, h2, X2, e2, W2, st2⟩ := putF X1 hx hZ hown (host := "") (Or.inl (hw _ (List.mem_of_getElem? (i := 19) rfl))) Via.refl e1 Fw E_a (Or.inr ⟨(hw _ (List.mem_of_getElem? (i := 20) rfl)), rfl, hnm⟩) (hw _ (List.mem_of_getElem? (i := 6) rfl)) (ty := (.array .boolean)) (by decide) rfl rfl (g := (mkF m 6 #[.val (.ref a), .val .null, .val (.ref w)] [.null, (.ref a)])) rfl rfl (hb hby d2_6)
  have Fw2 := Fw.same W2
  have F3 := E_a.wr W2
  have F5 := Fe.other W2 (Or.inr (slot_ne (Or.inr (hw _ (List.mem_of_getElem? (i := 22) rfl))) (Or.inr (hw _ (List.mem_of_getElem? (i := 20) rfl))) (by decide) (t := (.array .boolean)) (t' := (.array .boolean)) (by decide) (by decide)))
  have K6 := K0.wr W2 (Or.inl (List.mem_of_getElem? (i := 0) rfl))
  have Zs7 : n0 ≤ h2.size := Nat.le_trans Z0 (Keep.of_wr W2).1
  have N2 := Fr.snoc X2 N1 g_a
  refine Go.of (st2) ?_
  show Go p e below T2 (mkF m 9 #[.val (.ref a), .val .null, .val (.ref w)] []) _
  refine Go.of (fun tg_ kk_ => XS.aloadN X2.here hx rfl (hb hby d2_9) rfl rfl kk_) ?_
  show Go p e below T2 (mkF m 10 #[.val (.ref a), .val .null, .val (.ref w)] [(.ref a)]) _
  refine Go.of (fun tg_ kk_ => XS.aloadN X2.here hx rfl (hb hby d2_10) rfl rfl kk_) ?_
  show Go p e below T2 (mkF m 11 #[.val (.ref a), .val .null, .val (.ref w)] [(.ref w), (.ref a)]) _
  obtain ⟨T8, h8, X8, e8, W8, st8⟩ := putF X2 hx hZ hown (host := "") (Or.inl (hw _ (List.mem_of_getElem? (i := 21) rfl))) Via.refl e2 F5 F3 (Or.inr ⟨(hw _ (List.mem_of_getElem? (i := 22) rfl)), rfl, hnm⟩) (hw _ (List.mem_of_getElem? (i := 6) rfl)) (ty := (.array .boolean)) (by decide) rfl rfl (g := (mkF m 11 #[.val (.ref a), .val .null, .val (.ref w)] [(.ref w), (.ref a)])) rfl rfl (hb hby d2_11)
  have Fw8 := F5.same W8
  have F9 := F3.wr W8
  have F11 := Fw2.other W8 (Or.inr (slot_ne (Or.inr (hw _ (List.mem_of_getElem? (i := 20) rfl))) (Or.inr (hw _ (List.mem_of_getElem? (i := 22) rfl))) (by decide) (t := (.array .boolean)) (t' := (.array .boolean)) (by decide) (by decide)))
  have K12 := K6.wr W8 (Or.inl (List.mem_of_getElem? (i := 0) rfl))
  have Zs13 : n0 ≤ h8.size := Nat.le_trans Zs7 (Keep.of_wr W8).1
  have N8 := Fr.snoc X8 N2 g_a
  refine Go.of (st8) ?_
  show Go p e below T8 (mkF m 14 #[.val (.ref a), .val .null, .val (.ref w)] []) _
  obtain ⟨fs, hr, hrun, hended, hW, hsame⟩ := X8.leave (v := none) (fun _ => rfl)
  refine ⟨_, _, ?_, hrun, hended, _, _, rfl, ?_, ⟨_, rfl⟩, hW, hsame.mono (by decide) (by decide)⟩
  · exact X8.returnOut hx Bd.returns (hb hby d2_14) hr
  · show Q2_10 Z a w h0 n0 _ T8.heap _
    rw [e8]
    exact ⟨rfl, N8, K12, Fw8⟩
theorem ef_2_11 (m : MethodId) (x0 : Addr) : entryFrame m #[(.ref x0), .null, .null] 3 = mkF m 0 #[.val (.ref x0), .val .null, .val .null] [] := by first | (simp [entryFrame, mkF, argsToLocals, Value.category]; done) | rfl
def Q2_11 (Z : State) (a : Addr) (h0 : Heap) (n0 : Nat) (v : Option Value) (h : Heap) (L : List Loc) : Prop := v = none ∧ Fr n0 L ∧ Keep h0 h [a] ∧ Fld Z h a "com/example/planwright/planwright/planner/SharedAtoms$Among" "elsewhere" "[Z" .null
set_option maxRecDepth 65536 in
set_option maxHeartbeats 40000000 in
theorem rm2_11 (l : Launch) (Z : State) (a0 : Array Value) (hw : ∀ d ∈ tables_1, d.before a0 Z = true) (ws : List Jvm.Cond) (a : Addr) (h0 : Heap) (n0 : Nat) (Z0 : n0 ≤ h0.size) (g_a : n0 ≤ a) (E_a : Exa Z h0 a "com/example/planwright/planwright/planner/SharedAtoms$Among") (Fw : Fld Z h0 a "com/example/planwright/planwright/planner/SharedAtoms$Among" "weighed" "[Z" .null) (Fe : Fld Z h0 a "com/example/planwright/planwright/planner/SharedAtoms$Among" "elsewhere" "[Z" .null) :
    MetFree l (⟨"com/example/planwright/planwright/planner/SharedAtoms$Among", "<init>", "([Z[Z)V"⟩ : MethodName) (head1 (Jvm.Cond.code (⟨"com/example/planwright/planwright/planner/SharedAtoms$Among", "<init>", "([Z[Z)V"⟩ : MethodName) prog_162_method_1_code 3 none :: ws) ({ frames := 2, cells := 0, slots := 0, locals := 24 } : Room)) (fun aa_ U => aa_ = #[(.ref a), .null, .null] ∧ Z.Warmed39 U.vm ∧ U.heap = h0) (fun _ _ _ _ _ => True) (fun _ U o U' => ∃ vv_ LL_, o = .returned vv_ ∧ Q2_11 Z a h0 n0 vv_ U'.heap LL_ ∧ FrameEnd U o U' LL_ ({ frames := 2, cells := 0, slots := 0, locals := 24 } : Room).cells ({ frames := 2, cells := 0, slots := 0, locals := 24 } : Room).slots) := by
  refine MetFree.of_bodySF (plainFor_of_name pn_2) hisR ?_
  intro p e s m args below meth c s₁ Bd hml0 hP hK
  obtain ⟨rfl, hZ, hh⟩ := hP
  have hx := Bd.exec
  have hby := Bd.bytes
  have hml : c.maxLocals = 3 := hml0
  have hown : s.vm.findClass "com/example/planwright/planwright/planner/SharedAtoms$Among" = some m.cls := findClass_of_methodNamed Bd.named
  have hnm := (name_of_methodNamed Bd.named Bd.method).1
  have X0 : Stand p l e ({ frames := 2, cells := 0, slots := 0, locals := 24 } : Room) s m #[(.ref a), .null, .null] below meth c s₁ [] 0 0 := Stand.of_body Bd
  have e0 : s₁.heap = h0 := by rw [← hh, Bd.state]; rfl
  have N0 := Fr.nil n0
  have K0 : Keep h0 h0 [a] := Keep.refl h0 _
  refine Go.enter (P := fun o U' => ∃ vv_ LL_, o = .returned vv_ ∧ Q2_11 Z a h0 n0 vv_ U'.heap LL_ ∧ FrameEnd s o U' LL_ ({ frames := 2, cells := 0, slots := 0, locals := 24 } : Room).cells ({ frames := 2, cells := 0, slots := 0, locals := 24 } : Room).slots) (ef_2_11 m a) ?_
  show Go p e below s₁ (mkF m 0 #[.val (.ref a), .val .null, .val .null] []) _
  refine Go.of (fun tg_ kk_ => XS.aloadN X0.here hx rfl (hb hby d2_0) rfl rfl kk_) ?_
  show Go p e below s₁ (mkF m 1 #[.val (.ref a), .val .null, .val .null] [(.ref a)]) _
  obtain ⟨_, _, ⟨T1, L1, k1, n1⟩, -, X1, ⟨Lc1, hQ1, l1, y1, z1⟩, st1⟩ := X0.specialBack hx (y := (⟨"java/lang/Record", "<init>", "()V"⟩ : MethodName)) rfl hown (mvT hZ (hw _ (List.mem_of_getElem? (i := 11) rfl))) (mvT hZ (hw _ (List.mem_of_getElem? (i := 12) rfl))) (mvT hZ (hw _ (List.mem_of_getElem? (i := 15) rfl))) (by decide) (backOf (W := 0) (rm3 l Z a0 hw [] a h0 n0 Z0) hZ (hw _ (List.mem_of_getElem? (i := 15) rfl)) (hw _ (List.mem_of_getElem? (i := 14) rfl)) (by decide) (by decide)) (g := (mkF m 1 #[.val (.ref a), .val .null, .val .null] [(.ref a)])) rfl (by rw [hml]; rfl) (Steps.refl _) (a := a) (argsL := []) (rest := []) (lenOf pd_0 rfl) rfl (by show 2 * 0 + _ ≤ _; exact Nat.le_of_eq rfl) (hb hby d2_1) (fun _ _ => ⟨rfl, e0, (by decide : 0 + 0 ≤ _), (by decide : 0 + 0 ≤ _)⟩)
  dsimp only [Pt.U, Pt.locs, Pt.cells, Pt.slots] at X1 l1 y1 z1 st1 hQ1
  subst l1 y1 z1
  obtain ⟨rfl, N1q, e1⟩ := hQ1
  have N1 := Fr.app N0 N1q
  refine Go.of (fun tg_ kk_ => st1.trans kk_) ?_
  show Go p e below T1 (mkF m 4 #[.val (.ref a), .val .null, .val .null] []) _
  refine Go.of (fun tg_ kk_ => XS.aloadN X1.here hx rfl (hb hby d2_4) rfl rfl kk_) ?_
  show Go p e below T1 (mkF m 5 #[.val (.ref a), .val .null, .val .null] [(.ref a)]) _
  refine Go.of (fun tg_ kk_ => XS.aloadN X1.here hx rfl (hb hby d2_5) rfl rfl kk_) ?_
  show Go p e below T1 (mkF m 6 #[.val (.ref a), .val .null, .val .null] [.null, (.ref a)]) _
  obtain ⟨T2, h2, X2, e2, W2, st2⟩ := putF X1 hx hZ hown (host := "") (Or.inl (hw _ (List.mem_of_getElem? (i := 19) rfl))) Via.refl e1 Fw E_a (Or.inr ⟨(hw _ (List.mem_of_getElem? (i := 20) rfl)), rfl, hnm⟩) (hw _ (List.mem_of_getElem? (i := 6) rfl)) (ty := (.array .boolean)) (by decide) rfl rfl (g := (mkF m 6 #[.val (.ref a), .val .null, .val .null] [.null, (.ref a)])) rfl rfl (hb hby d2_6)
  have Fw2 := Fw.same W2
  have F3 := E_a.wr W2
  have F5 := Fe.other W2 (Or.inr (slot_ne (Or.inr (hw _ (List.mem_of_getElem? (i := 22) rfl))) (Or.inr (hw _ (List.mem_of_getElem? (i := 20) rfl))) (by decide) (t := (.array .boolean)) (t' := (.array .boolean)) (by decide) (by decide)))
  have K6 := K0.wr W2 (Or.inl (List.mem_of_getElem? (i := 0) rfl))
  have Zs7 : n0 ≤ h2.size := Nat.le_trans Z0 (Keep.of_wr W2).1
  have N2 := Fr.snoc X2 N1 g_a
  refine Go.of (st2) ?_
  show Go p e below T2 (mkF m 9 #[.val (.ref a), .val .null, .val .null] []) _
  refine Go.of (fun tg_ kk_ => XS.aloadN X2.here hx rfl (hb hby d2_9) rfl rfl kk_) ?_
  show Go p e below T2 (mkF m 10 #[.val (.ref a), .val .null, .val .null] [(.ref a)]) _
  refine Go.of (fun tg_ kk_ => XS.aloadN X2.here hx rfl (hb hby d2_10) rfl rfl kk_) ?_
  show Go p e below T2 (mkF m 11 #[.val (.ref a), .val .null, .val .null] [.null, (.ref a)]) _
  obtain ⟨T8, h8, X8, e8, W8, st8⟩ := putF X2 hx hZ hown (host := "") (Or.inl (hw _ (List.mem_of_getElem? (i := 21) rfl))) Via.refl e2 F5 F3 (Or.inr ⟨(hw _ (List.mem_of_getElem? (i := 22) rfl)), rfl, hnm⟩) (hw _ (List.mem_of_getElem? (i := 6) rfl)) (ty := (.array .boolean)) (by decide) rfl rfl (g := (mkF m 11 #[.val (.ref a), .val .null, .val .null] [.null, (.ref a)])) rfl rfl (hb hby d2_11)
  have Fw8 := F5.same W8
  have F9 := F3.wr W8
  have F11 := Fw2.other W8 (Or.inr (slot_ne (Or.inr (hw _ (List.mem_of_getElem? (i := 20) rfl))) (Or.inr (hw _ (List.mem_of_getElem? (i := 22) rfl))) (by decide) (t := (.array .boolean)) (t' := (.array .boolean)) (by decide) (by decide)))
  have K12 := K6.wr W8 (Or.inl (List.mem_of_getElem? (i := 0) rfl))
  have Zs13 : n0 ≤ h8.size := Nat.le_trans Zs7 (Keep.of_wr W8).1
  have N8 := Fr.snoc X8 N2 g_a
  refine Go.of (st8) ?_
  show Go p e below T8 (mkF m 14 #[.val (.ref a), .val .null, .val .null] []) _
  obtain ⟨fs, hr, hrun, hended, hW, hsame⟩ := X8.leave (v := none) (fun _ => rfl)
  refine ⟨_, _, ?_, hrun, hended, _, _, rfl, ?_, ⟨_, rfl⟩, hW, hsame.mono (by decide) (by decide)⟩
  · exact X8.returnOut hx Bd.returns (hb hby d2_14) hr
  · show Q2_11 Z a h0 n0 _ T8.heap _
    rw [e8]
    exact ⟨rfl, N8, K12, Fw8⟩
theorem d5_0 : decode prog_162_method_3_code 0 = .ok (.aload_n 0, 1) := by decide +kernel
theorem d5_1 : decode prog_162_method_3_code 1 = .ok (.getfield 13, 3) := by decide +kernel
theorem d5_4 : decode prog_162_method_3_code 4 = .ok (.ifnull 16, 3) := by decide +kernel
theorem d5_20 : decode prog_162_method_3_code 20 = .ok (.iconst 0, 1) := by decide +kernel
theorem d5_21 : decode prog_162_method_3_code 21 = .ok (.ireturn, 1) := by decide +kernel
theorem ef_5n (m : MethodId) (x0 : Addr) (x1 : Int32) : entryFrame m #[(.ref x0), (.int x1)] 2 = mkF m 0 #[.val (.ref x0), .val (.int x1)] [] := by first | (simp [entryFrame, mkF, argsToLocals, Value.category]; done) | rfl
def Q5n (Z : State) (a : Addr) (x : Int32) (h0 : Heap) (n0 : Nat) (v : Option Value) (h : Heap) (L : List Loc) : Prop := v = some (.int 0) ∧ Fr n0 L ∧ h = h0
set_option maxRecDepth 65536 in
set_option maxHeartbeats 40000000 in
theorem rm5n (l : Launch) (Z : State) (a0 : Array Value) (hw : ∀ d ∈ tables_1, d.before a0 Z = true) (ws : List Jvm.Cond) (a : Addr) (x : Int32) (h0 : Heap) (n0 : Nat) (Z0 : n0 ≤ h0.size) (Fe : Fld Z h0 a "com/example/planwright/planwright/planner/SharedAtoms$Among" "elsewhere" "[Z" .null) :
    MetFree l (⟨"com/example/planwright/planwright/planner/SharedAtoms$Among", "beside", "(I)Z"⟩ : MethodName) (head1 (Jvm.Cond.code (⟨"com/example/planwright/planwright/planner/SharedAtoms$Among", "beside", "(I)Z"⟩ : MethodName) prog_162_method_3_code 2 (some .boolean) :: ws) ({ frames := 0, cells := 0, slots := 0, locals := 0 } : Room)) (fun aa_ U => aa_ = #[(.ref a), (.int x)] ∧ Z.Warmed39 U.vm ∧ U.heap = h0) (fun _ _ _ _ _ => True) (fun _ U o U' => ∃ vv_ LL_, o = .returned vv_ ∧ Q5n Z a x h0 n0 vv_ U'.heap LL_ ∧ FrameEnd U o U' LL_ ({ frames := 0, cells := 0, slots := 0, locals := 0 } : Room).cells ({ frames := 0, cells := 0, slots := 0, locals := 0 } : Room).slots) := by
  refine MetFree.of_bodySF (plainFor_of_name pn_2) hisR ?_
  intro p e s m args below meth c s₁ Bd hml0 hP hK
  obtain ⟨rfl, hZ, hh⟩ := hP
  have hx := Bd.exec
  have hby := Bd.bytes
  have hml : c.maxLocals = 2 := hml0
  have hown : s.vm.findClass "com/example/planwright/planwright/planner/SharedAtoms$Among" = some m.cls := findClass_of_methodNamed Bd.named
  have hnm := (name_of_methodNamed Bd.named Bd.method).1
  have X0 : Stand p l e ({ frames := 0, cells := 0, slots := 0, locals := 0 } : Room) s m #[(.ref a), (.int x)] below meth c s₁ [] 0 0 := Stand.of_body Bd
  have e0 : s₁.heap = h0 := by rw [← hh, Bd.state]; rfl
  have N0 := Fr.nil n0
  have K0 : Keep h0 h0 [] := Keep.refl h0 _
  refine Go.enter (P := fun o U' => ∃ vv_ LL_, o = .returned vv_ ∧ Q5n Z a x h0 n0 vv_ U'.heap LL_ ∧ FrameEnd s o U' LL_ ({ frames := 0, cells := 0, slots := 0, locals := 0 } : Room).cells ({ frames := 0, cells := 0, slots := 0, locals := 0 } : Room).slots) (ef_5n m a x) ?_
  show Go p e below s₁ (mkF m 0 #[.val (.ref a), .val (.int x)] []) _
  refine Go.of (fun tg_ kk_ => XS.aloadN X0.here hx rfl (hb hby d5_0) rfl rfl kk_) ?_
  show Go p e below s₁ (mkF m 1 #[.val (.ref a), .val (.int x)] [(.ref a)]) _
  obtain ⟨T1, X1, e1, st1⟩ := getF X0 hx hZ hown (host := "") (Or.inl (hw _ (List.mem_of_getElem? (i := 21) rfl))) Via.refl e0 Fe (g := (mkF m 1 #[.val (.ref a), .val (.int x)] [(.ref a)])) rfl rfl (hb hby d5_1)
  refine Go.of (st1) ?_
  show Go p e below T1 (mkF m 4 #[.val (.ref a), .val (.int x)] [.null]) _
  refine Go.of (fun tg_ kk_ => XS.ifnullYes X1.here hx rfl (pc0 := 4) (pc' := 20) rfl (hb hby d5_4) rfl (by decide) (by decide) kk_) ?_
  show Go p e below T1 (mkF m 20 #[.val (.ref a), .val (.int x)] []) _
  refine Go.of (fun tg_ kk_ => XS.iconst X1.here hx rfl (hb hby d5_20) kk_) ?_
  show Go p e below T1 (mkF m 21 #[.val (.ref a), .val (.int x)] [(.int (0 : Int32))]) _
  obtain ⟨fs, hr, hrun, hended, hW, hsame⟩ := X1.leave (v := some (.int (0 : Int32))) (fun h => by rw [Bd.returns] at h; cases h)
  refine ⟨_, _, ?_, hrun, hended, _, _, rfl, ?_, ⟨_, rfl⟩, hW, hsame.mono (by decide) (by decide)⟩
  · exact retN X1 hx (t := .boolean) Bd.returns (by simp) (hb hby d5_21) hr
  · show Q5n Z a x h0 n0 _ T1.heap _
    rw [e1]
    exact ⟨rfl, N0, rfl⟩
theorem d5_7 : decode prog_162_method_3_code 7 = .ok (.aload_n 0, 1) := by decide +kernel
theorem d5_8 : decode prog_162_method_3_code 8 = .ok (.getfield 13, 3) := by decide +kernel
theorem d5_11 : decode prog_162_method_3_code 11 = .ok (.iload_n 1, 1) := by decide +kernel
theorem d5_12 : decode prog_162_method_3_code 12 = .ok (.baload, 1) := by decide +kernel
theorem d5_13 : decode prog_162_method_3_code 13 = .ok (.ifCond .eq 7, 3) := by decide +kernel
theorem d5_16 : decode prog_162_method_3_code 16 = .ok (.iconst 1, 1) := by decide +kernel
theorem d5_17 : decode prog_162_method_3_code 17 = .ok (.goto 4, 3) := by decide +kernel
theorem ef_5 (m : MethodId) (x0 : Addr) (x1 : Int32) : entryFrame m #[(.ref x0), (.int x1)] 2 = mkF m 0 #[.val (.ref x0), .val (.int x1)] [] := by first | (simp [entryFrame, mkF, argsToLocals, Value.category]; done) | rfl
def Q5 (Z : State) (a : Addr) (x : Int32) (b : Addr) (f : Nat → Int32) (h0 : Heap) (n0 : Nat) (v : Option Value) (h : Heap) (L : List Loc) : Prop := v = some (.int (if f (x).toNatClampNeg = 0 then 0 else 1)) ∧ Fr n0 L ∧ h = h0
set_option maxRecDepth 65536 in
set_option maxHeartbeats 40000000 in
theorem rm5 (l : Launch) (Z : State) (a0 : Array Value) (hw : ∀ d ∈ tables_1, d.before a0 Z = true) (ws : List Jvm.Cond) (a : Addr) (x : Int32) (b : Addr) (f : Nat → Int32) (h0 : Heap) (n0 : Nat) (Z0 : n0 ≤ h0.size) (Fe : Fld Z h0 a "com/example/planwright/planwright/planner/SharedAtoms$Among" "elsewhere" "[Z" (.ref b)) (Ab : Af Z h0 b .boolean 4 f) (hin : ¬ (x < 0) ∧ (x).toNatClampNeg < 4) :
    MetFree l (⟨"com/example/planwright/planwright/planner/SharedAtoms$Among", "beside", "(I)Z"⟩ : MethodName) (head1 (Jvm.Cond.code (⟨"com/example/planwright/planwright/planner/SharedAtoms$Among", "beside", "(I)Z"⟩ : MethodName) prog_162_method_3_code 2 (some .boolean) :: ws) ({ frames := 0, cells := 0, slots := 0, locals := 0 } : Room)) (fun aa_ U => aa_ = #[(.ref a), (.int x)] ∧ Z.Warmed39 U.vm ∧ U.heap = h0) (fun _ _ _ _ _ => True) (fun _ U o U' => ∃ vv_ LL_, o = .returned vv_ ∧ Q5 Z a x b f h0 n0 vv_ U'.heap LL_ ∧ FrameEnd U o U' LL_ ({ frames := 0, cells := 0, slots := 0, locals := 0 } : Room).cells ({ frames := 0, cells := 0, slots := 0, locals := 0 } : Room).slots) := by
  refine MetFree.of_bodySF (plainFor_of_name pn_2) hisR ?_
  intro p e s m args below meth c s₁ Bd hml0 hP hK
  obtain ⟨rfl, hZ, hh⟩ := hP
  have hx := Bd.exec
  have hby := Bd.bytes
  have hml : c.maxLocals = 2 := hml0
  have hown : s.vm.findClass "com/example/planwright/planwright/planner/SharedAtoms$Among" = some m.cls := findClass_of_methodNamed Bd.named
  have hnm := (name_of_methodNamed Bd.named Bd.method).1
  have X0 : Stand p l e ({ frames := 0, cells := 0, slots := 0, locals := 0 } : Room) s m #[(.ref a), (.int x)] below meth c s₁ [] 0 0 := Stand.of_body Bd
  have e0 : s₁.heap = h0 := by rw [← hh, Bd.state]; rfl
  have N0 := Fr.nil n0
  have K0 : Keep h0 h0 [] := Keep.refl h0 _
  refine Go.enter (P := fun o U' => ∃ vv_ LL_, o = .returned vv_ ∧ Q5 Z a x b f h0 n0 vv_ U'.heap LL_ ∧ FrameEnd s o U' LL_ ({ frames := 0, cells := 0, slots := 0, locals := 0 } : Room).cells ({ frames := 0, cells := 0, slots := 0, locals := 0 } : Room).slots) (ef_5 m a x) ?_
  show Go p e below s₁ (mkF m 0 #[.val (.ref a), .val (.int x)] []) _
  refine Go.of (fun tg_ kk_ => XS.aloadN X0.here hx rfl (hb hby d5_0) rfl rfl kk_) ?_
  show Go p e below s₁ (mkF m 1 #[.val (.ref a), .val (.int x)] [(.ref a)]) _
  obtain ⟨T1, X1, e1, st1⟩ := getF X0 hx hZ hown (host := "") (Or.inl (hw _ (List.mem_of_getElem? (i := 21) rfl))) Via.refl e0 Fe (g := (mkF m 1 #[.val (.ref a), .val (.int x)] [(.ref a)])) rfl rfl (hb hby d5_1)
  refine Go.of (st1) ?_
  show Go p e below T1 (mkF m 4 #[.val (.ref a), .val (.int x)] [(.ref b)]) _
  refine Go.of (fun tg_ kk_ => XS.ifnullNo X1.here hx rfl (hb hby d5_4) rfl kk_) ?_
  show Go p e below T1 (mkF m 7 #[.val (.ref a), .val (.int x)] []) _
  refine Go.of (fun tg_ kk_ => XS.aloadN X1.here hx rfl (hb hby d5_7) rfl rfl kk_) ?_
  show Go p e below T1 (mkF m 8 #[.val (.ref a), .val (.int x)] [(.ref a)]) _
  obtain ⟨T2, X2, e2, st2⟩ := getF X1 hx hZ hown (host := "") (Or.inl (hw _ (List.mem_of_getElem? (i := 21) rfl))) Via.refl e1 Fe (g := (mkF m 8 #[.val (.ref a), .val (.int x)] [(.ref a)])) rfl rfl (hb hby d5_8)
  refine Go.of (st2) ?_
  show Go p e below T2 (mkF m 11 #[.val (.ref a), .val (.int x)] [(.ref b)]) _
  refine Go.of (fun tg_ kk_ => XS.iloadN X2.here hx rfl (hb hby d5_11) rfl kk_) ?_
  show Go p e below T2 (mkF m 12 #[.val (.ref a), .val (.int x)] [(.int x), (.ref b)]) _
  have ib3 := (show ¬ (x < 0) ∧ (x).toNatClampNeg < 4 from hin)
  obtain ⟨cl3, Ar3, S3, H3⟩ := Ab
  refine Go.of (X2.baloadBooleans hx (j := x) (v := (.int (f (x).toNatClampNeg))) (by rw [e2]; exact Ar3.1) (State.isArrayOf_alike hZ.alike Ar3.2.1) Ar3.2.2 (Af.inb S3 ib3) (Af.at H3 rfl ib3) (g := (mkF m 12 #[.val (.ref a), .val (.int x)] [(.int x), (.ref b)])) rfl rfl (hb hby d5_12)) ?_
  show Go p e below T2 (mkF m 13 #[.val (.ref a), .val (.int x)] [(.int (f (x).toNatClampNeg))]) _
  by_cases hc4 : (f (x).toNatClampNeg) = (0 : Int32)
  · skip
    refine Go.of (fun tg_ kk_ => XS.ifYes X2.here hx rfl (pc0 := 13) (pc' := 20) rfl (hb hby d5_13) rfl ((if0 _ _).trans (teq hc4).1) (by decide) (by decide) kk_) ?_
    show Go p e below T2 (mkF m 20 #[.val (.ref a), .val (.int x)] []) _
    refine Go.of (fun tg_ kk_ => XS.iconst X2.here hx rfl (hb hby d5_20) kk_) ?_
    show Go p e below T2 (mkF m 21 #[.val (.ref a), .val (.int x)] [(.int (0 : Int32))]) _
    obtain ⟨fs, hr, hrun, hended, hW, hsame⟩ := X2.leave (v := some (.int (0 : Int32))) (fun h => by rw [Bd.returns] at h; cases h)
    refine ⟨_, _, ?_, hrun, hended, _, _, rfl, ?_, ⟨_, rfl⟩, hW, hsame.mono (by decide) (by decide)⟩
    · exact retN X2 hx (t := .boolean) Bd.returns (by simp) (hb hby d5_21) hr
    · show Q5 Z a x b f h0 n0 _ T2.heap _
      rw [e2]
      exact ⟨by simp [hc4], N0, rfl⟩
  · skip
    refine Go.of (fun tg_ kk_ => XS.ifNo X2.here hx rfl (hb hby d5_13) rfl ((if0 _ _).trans (feq hc4).1) kk_) ?_
    show Go p e below T2 (mkF m 16 #[.val (.ref a), .val (.int x)] []) _
    refine Go.of (fun tg_ kk_ => XS.iconst X2.here hx rfl (hb hby d5_16) kk_) ?_
    show Go p e below T2 (mkF m 17 #[.val (.ref a), .val (.int x)] [(.int (1 : Int32))]) _
    refine Go.of (fun tg_ kk_ => XS.goto X2.here hx rfl (pc0 := 17) (pc' := 21) rfl (hb hby d5_17) (by decide) (by decide) kk_) ?_
    show Go p e below T2 (mkF m 21 #[.val (.ref a), .val (.int x)] [(.int (1 : Int32))]) _
    obtain ⟨fs, hr, hrun, hended, hW, hsame⟩ := X2.leave (v := some (.int (1 : Int32))) (fun h => by rw [Bd.returns] at h; cases h)
    refine ⟨_, _, ?_, hrun, hended, _, _, rfl, ?_, ⟨_, rfl⟩, hW, hsame.mono (by decide) (by decide)⟩
    · exact retN X2 hx (t := .boolean) Bd.returns (by simp) (hb hby d5_21) hr
    · show Q5 Z a x b f h0 n0 _ T2.heap _
      rw [e2]
      exact ⟨by simp [hc4], N0, rfl⟩
theorem ef_0 (m : MethodId) (x0 : Int32) (x1 : Int32) (x2 : Int32) (x3 : Int32) : entryFrame m #[(.int x0), (.int x1), (.int x2), (.int x3)] maxLocals = mkF m 0 #[.val (.int x0), .val (.int x1), .val (.int x2), .val (.int x3), .unset, .unset, .unset, .unset, .unset, .unset, .unset] [] := by first | (simp [entryFrame, mkF, argsToLocals, Value.category, maxLocals]; done) | rfl
def Q0 (Z : State) (p0 : Int32) (p1 : Int32) (p2 : Int32) (p3 : Int32) (h0 : Heap) (n0 : Nat) (v : Option Value) (h : Heap) (L : List Loc) : Prop := v = some (.int 1) ∧ Fr n0 L
set_option maxRecDepth 65536 in
set_option maxHeartbeats 40000000 in
theorem rm0 (l : Launch) (Z : State) (a0 : Array Value) (hw : ∀ d ∈ tables_1, d.before a0 Z = true) (ws : List Jvm.Cond) (p0 : Int32) (p1 : Int32) (p2 : Int32) (p3 : Int32) (h0 : Heap) (n0 : Nat) (Z0 : n0 ≤ h0.size) :
    MetFree l x (head1 (Jvm.Cond.code x code maxLocals ret :: ws) room_1) (fun aa_ U => aa_ = #[(.int p0), (.int p1), (.int p2), (.int p3)] ∧ Z.Warmed39 U.vm ∧ U.heap = h0) (fun _ _ _ _ _ => True) (fun _ U o U' => ∃ vv_ LL_, o = .returned vv_ ∧ Q0 Z p0 p1 p2 p3 h0 n0 vv_ U'.heap LL_ ∧ FrameEnd U o U' LL_ 16 128) := by
  refine MetFree.of_bodySF (plainFor_of_name pn_0) hisR ?_
  intro p e s m args below meth c s₁ Bd hml0 hP hK
  obtain ⟨rfl, hZ, hh⟩ := hP
  have hx := Bd.exec
  have hby := Bd.bytes
  have hml : c.maxLocals = 11 := hml0
  have hown : s.vm.findClass "com/example/planwright/planwright/planner/AmongBesidePinLaw" = some m.cls := findClass_of_methodNamed Bd.named
  have hnm := (name_of_methodNamed Bd.named Bd.method).1
  have X0 : Stand p l e room_1 s m #[(.int p0), (.int p1), (.int p2), (.int p3)] below meth c s₁ [] 0 0 := Stand.of_body Bd
  have e0 : s₁.heap = h0 := by rw [← hh, Bd.state]; rfl
  have N0 := Fr.nil n0
  have K0 : Keep h0 h0 [] := Keep.refl h0 _
  refine Go.enter (P := fun o U' => ∃ vv_ LL_, o = .returned vv_ ∧ Q0 Z p0 p1 p2 p3 h0 n0 vv_ U'.heap LL_ ∧ FrameEnd s o U' LL_ 16 128) (ef_0 m p0 p1 p2 p3) ?_
  show Go p e below s₁ (mkF m 0 #[.val (.int p0), .val (.int p1), .val (.int p2), .val (.int p3), .unset, .unset, .unset, .unset, .unset, .unset, .unset] []) _
  refine Go.of (fun tg_ kk_ => XS.iloadN X0.here hx rfl (hb hby at_0) rfl kk_) ?_
  show Go p e below s₁ (mkF m 1 #[.val (.int p0), .val (.int p1), .val (.int p2), .val (.int p3), .unset, .unset, .unset, .unset, .unset, .unset, .unset] [(.int p0)]) _
  obtain ⟨_, _, ⟨T1, L1, k1, n1⟩, -, X1, ⟨Lc1, hQ1, l1, y1, z1⟩, st1⟩ := Jvm.LawKit.callS X0 hx (y := (⟨"com/example/planwright/planwright/planner/AmongBesidePinLaw", "bits", "(I)[Z"⟩ : MethodName)) hown (mvT hZ (hw _ (List.mem_of_getElem? (i := 0) rfl))) (mvT hZ (hw _ (List.mem_of_getElem? (i := 1) rfl))) (mvT hZ (hw _ (List.mem_of_getElem? (i := 2) rfl))) (mvT hZ (hw _ (List.mem_of_getElem? (i := 3) rfl))) (by decide) (backOf (W := 0) (rm1 l Z a0 hw [] p0 h0 n0 Z0) hZ (hw _ (List.mem_of_getElem? (i := 3) rfl)) (hw _ (List.mem_of_getElem? (i := 2) rfl)) (by decide) (by decide)) (g := (mkF m 1 #[.val (.int p0), .val (.int p1), .val (.int p2), .val (.int p3), .unset, .unset, .unset, .unset, .unset, .unset, .unset] [(.int p0)])) rfl (by rw [hml]; rfl) (argsL := [(.int p0)]) (rest := []) (lenOf pd_1 rfl) rfl (by show 2 * 0 + _ ≤ _; exact Nat.le_of_eq rfl) (hb hby at_1) (fun _ _ => ⟨rfl, e0, (by decide : 0 + 1 ≤ _), (by decide : 0 + 4 ≤ _)⟩)
  dsimp only [Pt.U, Pt.locs, Pt.cells, Pt.slots] at X1 l1 y1 z1 st1 hQ1
  subst l1 y1 z1
  obtain ⟨bb1, rfl, N1q, K1q, sz1, gx1, V1⟩ := hQ1
  have N1 := Fr.app N0 N1q
  have sy1 : h0.size ≤ bb1 := Nat.le_trans K0.1 sz1
  have K2 := K0.trans K1q all0
  have Zs3 : n0 ≤ T1.heap.size := Nat.le_trans Z0 K1q.1
  refine Go.of (st1) ?_
  show Go p e below T1 (mkF m 4 #[.val (.int p0), .val (.int p1), .val (.int p2), .val (.int p3), .unset, .unset, .unset, .unset, .unset, .unset, .unset] [(.ref bb1)]) _
  refine Go.of (fun tg_ kk_ => XS.astore X1.here hx rfl (hb hby at_4) rfl rfl (l' := #[.val (.int p0), .val (.int p1), .val (.int p2), .val (.int p3), .val (.ref bb1), .unset, .unset, .unset, .unset, .unset, .unset]) rfl kk_) ?_
  show Go p e below T1 (mkF m 6 #[.val (.int p0), .val (.int p1), .val (.int p2), .val (.int p3), .val (.ref bb1), .unset, .unset, .unset, .unset, .unset, .unset] []) _
  refine Go.of (fun tg_ kk_ => XS.iloadN X1.here hx rfl (hb hby at_6) rfl kk_) ?_
  show Go p e below T1 (mkF m 7 #[.val (.int p0), .val (.int p1), .val (.int p2), .val (.int p3), .val (.ref bb1), .unset, .unset, .unset, .unset, .unset, .unset] [(.int p1)]) _
  obtain ⟨_, _, ⟨T4, L4, k4, n4⟩, -, X4, ⟨Lc4, hQ4, l4, y4, z4⟩, st4⟩ := Jvm.LawKit.callS X1 hx (y := (⟨"com/example/planwright/planwright/planner/AmongBesidePinLaw", "bits", "(I)[Z"⟩ : MethodName)) hown (mvT hZ (hw _ (List.mem_of_getElem? (i := 0) rfl))) (mvT hZ (hw _ (List.mem_of_getElem? (i := 1) rfl))) (mvT hZ (hw _ (List.mem_of_getElem? (i := 2) rfl))) (mvT hZ (hw _ (List.mem_of_getElem? (i := 3) rfl))) (by decide) (backOf (W := 0) (rm1 l Z a0 hw [] p1 T1.heap n0 Zs3) hZ (hw _ (List.mem_of_getElem? (i := 3) rfl)) (hw _ (List.mem_of_getElem? (i := 2) rfl)) (by decide) (by decide)) (g := (mkF m 7 #[.val (.int p0), .val (.int p1), .val (.int p2), .val (.int p3), .val (.ref bb1), .unset, .unset, .unset, .unset, .unset, .unset] [(.int p1)])) rfl (by rw [hml]; rfl) (argsL := [(.int p1)]) (rest := []) (lenOf pd_1 rfl) rfl (by show 2 * 0 + _ ≤ _; exact Nat.le_of_eq rfl) (hb hby at_7) (fun _ _ => ⟨rfl, rfl, (by decide : 1 + 1 ≤ _), (by decide : 4 + 4 ≤ _)⟩)
  dsimp only [Pt.U, Pt.locs, Pt.cells, Pt.slots] at X4 l4 y4 z4 st4 hQ4
  subst l4 y4 z4
  obtain ⟨bb4, rfl, N4q, K4q, sz4, gx4, V4⟩ := hQ4
  have N4 := Fr.app N1 N4q
  have sy4 : h0.size ≤ bb4 := Nat.le_trans K2.1 sz4
  have ne5 : bb1 ≠ bb4 := Nat.ne_of_lt (Nat.lt_of_lt_of_le V1.lt sz4)
  have F6 := V1.keep K4q nin0
  have K7 := K2.trans K4q all0
  have Zs8 : n0 ≤ T4.heap.size := Nat.le_trans Zs3 K4q.1
  refine Go.of (st4) ?_
  show Go p e below T4 (mkF m 10 #[.val (.int p0), .val (.int p1), .val (.int p2), .val (.int p3), .val (.ref bb1), .unset, .unset, .unset, .unset, .unset, .unset] [(.ref bb4)]) _
  refine Go.of (fun tg_ kk_ => XS.astore X4.here hx rfl (hb hby at_10) rfl rfl (l' := #[.val (.int p0), .val (.int p1), .val (.int p2), .val (.int p3), .val (.ref bb1), .val (.ref bb4), .unset, .unset, .unset, .unset, .unset]) rfl kk_) ?_
  show Go p e below T4 (mkF m 12 #[.val (.int p0), .val (.int p1), .val (.int p2), .val (.int p3), .val (.ref bb1), .val (.ref bb4), .unset, .unset, .unset, .unset, .unset] []) _
  refine Go.of (fun tg_ kk_ => XS.iloadN X4.here hx rfl (hb hby at_12) rfl kk_) ?_
  show Go p e below T4 (mkF m 13 #[.val (.int p0), .val (.int p1), .val (.int p2), .val (.int p3), .val (.ref bb1), .val (.ref bb4), .unset, .unset, .unset, .unset, .unset] [(.int p3)]) _
  refine Go.of (fun tg_ kk_ => XS.iconst X4.here hx rfl (hb hby at_13) kk_) ?_
  show Go p e below T4 (mkF m 14 #[.val (.int p0), .val (.int p1), .val (.int p2), .val (.int p3), .val (.ref bb1), .val (.ref bb4), .unset, .unset, .unset, .unset, .unset] [(.int (1 : Int32)), (.int p3)]) _
  refine Go.of (fun tg_ kk_ => XS.iand X4.here hx rfl (hb hby at_14) rfl kk_) ?_
  show Go p e below T4 (mkF m 15 #[.val (.int p0), .val (.int p1), .val (.int p2), .val (.int p3), .val (.ref bb1), .val (.ref bb4), .unset, .unset, .unset, .unset, .unset] [(.int (p3 &&& (1 : Int32)))]) _
  by_cases hw0 : (p3 &&& (1 : Int32)) = (0 : Int32)
  · skip
    refine Go.of (fun tg_ kk_ => XS.ifYes X4.here hx rfl (pc0 := 15) (pc' := 22) rfl (hb hby at_15) rfl ((if0 _ _).trans (teq hw0).1) (by decide) (by decide) kk_) ?_
    show Go p e below T4 (mkF m 22 #[.val (.int p0), .val (.int p1), .val (.int p2), .val (.int p3), .val (.ref bb1), .val (.ref bb4), .unset, .unset, .unset, .unset, .unset] []) _
    refine Go.of (fun tg_ kk_ => XS.iconst X4.here hx rfl (hb hby at_22) kk_) ?_
    show Go p e below T4 (mkF m 23 #[.val (.int p0), .val (.int p1), .val (.int p2), .val (.int p3), .val (.ref bb1), .val (.ref bb4), .unset, .unset, .unset, .unset, .unset] [(.int (0 : Int32))]) _
    refine Go.of (fun tg_ kk_ => XS.istore X4.here hx rfl (hb hby at_23) rfl (l' := #[.val (.int p0), .val (.int p1), .val (.int p2), .val (.int p3), .val (.ref bb1), .val (.ref bb4), .val (.int (0 : Int32)), .unset, .unset, .unset, .unset]) rfl kk_) ?_
    show Go p e below T4 (mkF m 25 #[.val (.int p0), .val (.int p1), .val (.int p2), .val (.int p3), .val (.ref bb1), .val (.ref bb4), .val (.int (0 : Int32)), .unset, .unset, .unset, .unset] []) _
    refine Go.of (fun tg_ kk_ => XS.iloadN X4.here hx rfl (hb hby at_25) rfl kk_) ?_
    show Go p e below T4 (mkF m 26 #[.val (.int p0), .val (.int p1), .val (.int p2), .val (.int p3), .val (.ref bb1), .val (.ref bb4), .val (.int (0 : Int32)), .unset, .unset, .unset, .unset] [(.int p3)]) _
    refine Go.of (fun tg_ kk_ => XS.iconst X4.here hx rfl (hb hby at_26) kk_) ?_
    show Go p e below T4 (mkF m 27 #[.val (.int p0), .val (.int p1), .val (.int p2), .val (.int p3), .val (.ref bb1), .val (.ref bb4), .val (.int (0 : Int32)), .unset, .unset, .unset, .unset] [(.int (2 : Int32)), (.int p3)]) _
    refine Go.of (fun tg_ kk_ => XS.iand X4.here hx rfl (hb hby at_27) rfl kk_) ?_
    show Go p e below T4 (mkF m 28 #[.val (.int p0), .val (.int p1), .val (.int p2), .val (.int p3), .val (.ref bb1), .val (.ref bb4), .val (.int (0 : Int32)), .unset, .unset, .unset, .unset] [(.int (p3 &&& (2 : Int32)))]) _
    by_cases he0 : (p3 &&& (2 : Int32)) = (0 : Int32)
    · skip
      refine Go.of (fun tg_ kk_ => XS.ifYes X4.here hx rfl (pc0 := 28) (pc' := 35) rfl (hb hby at_28) rfl ((if0 _ _).trans (teq he0).1) (by decide) (by decide) kk_) ?_
      show Go p e below T4 (mkF m 35 #[.val (.int p0), .val (.int p1), .val (.int p2), .val (.int p3), .val (.ref bb1), .val (.ref bb4), .val (.int (0 : Int32)), .unset, .unset, .unset, .unset] []) _
      refine Go.of (fun tg_ kk_ => XS.iconst X4.here hx rfl (hb hby at_35) kk_) ?_
      show Go p e below T4 (mkF m 36 #[.val (.int p0), .val (.int p1), .val (.int p2), .val (.int p3), .val (.ref bb1), .val (.ref bb4), .val (.int (0 : Int32)), .unset, .unset, .unset, .unset] [(.int (0 : Int32))]) _
      refine Go.of (fun tg_ kk_ => XS.istore X4.here hx rfl (hb hby at_36) rfl (l' := #[.val (.int p0), .val (.int p1), .val (.int p2), .val (.int p3), .val (.ref bb1), .val (.ref bb4), .val (.int (0 : Int32)), .val (.int (0 : Int32)), .unset, .unset, .unset]) rfl kk_) ?_
      show Go p e below T4 (mkF m 38 #[.val (.int p0), .val (.int p1), .val (.int p2), .val (.int p3), .val (.ref bb1), .val (.ref bb4), .val (.int (0 : Int32)), .val (.int (0 : Int32)), .unset, .unset, .unset] []) _
      obtain ⟨T9, h9, X9, e9, E9, A9, D9, -, st9⟩ := newO X4 hx hZ hown (hw _ (List.mem_of_getElem? (i := 5) rfl)) (hw _ (List.mem_of_getElem? (i := 6) rfl)) (hw _ (List.mem_of_getElem? (i := 7) rfl)) rfl (g := (mkF m 38 #[.val (.int p0), .val (.int p1), .val (.int p2), .val (.int p3), .val (.ref bb1), .val (.ref bb4), .val (.int (0 : Int32)), .val (.int (0 : Int32)), .unset, .unset, .unset] [])) rfl (hb hby at_38) (by decide) (by decide)
      obtain ⟨b9, g9⟩ : ∃ z, z = T4.heap.size := ⟨_, rfl⟩
      rw [← g9] at A9 D9 st9
      have gx9 : n0 ≤ b9 := Nat.le_trans Zs8 (Nat.le_of_eq g9.symm)
      have sz9 : h0.size ≤ b9 := Nat.le_trans K7.1 (Nat.le_of_eq g9.symm)
      have ne10 : bb1 ≠ b9 := Nat.ne_of_lt (Nat.lt_of_lt_of_le F6.lt (Nat.le_of_eq g9.symm))
      have ne11 : bb4 ≠ b9 := Nat.ne_of_lt (Nat.lt_of_lt_of_le V4.lt (Nat.le_of_eq g9.symm))
      have F12 := F6.ext E9
      have F13 := V4.ext E9
      have K14 := K7.ext E9
      have Zs15 : n0 ≤ h9.size := Nat.le_trans Zs8 E9.1
      have F16 : Fld Z h9 b9 "com/example/planwright/planwright/planner/SharedAtoms$Among" "weighed" "[Z" .null := D9 (Or.inr (hw _ (List.mem_of_getElem? (i := 20) rfl))) (ty := (.array .boolean)) (by decide)
      have F17 : Fld Z h9 b9 "com/example/planwright/planwright/planner/SharedAtoms$Among" "elsewhere" "[Z" .null := D9 (Or.inr (hw _ (List.mem_of_getElem? (i := 22) rfl))) (ty := (.array .boolean)) (by decide)
      refine Go.of (st9) ?_
      show Go p e below T9 (mkF m 41 #[.val (.int p0), .val (.int p1), .val (.int p2), .val (.int p3), .val (.ref bb1), .val (.ref bb4), .val (.int (0 : Int32)), .val (.int (0 : Int32)), .unset, .unset, .unset] [(.ref b9)]) _
      refine Go.of (fun tg_ kk_ => XS.dup X9.here hx rfl (hb hby at_41) rfl rfl kk_) ?_
      show Go p e below T9 (mkF m 42 #[.val (.int p0), .val (.int p1), .val (.int p2), .val (.int p3), .val (.ref bb1), .val (.ref bb4), .val (.int (0 : Int32)), .val (.int (0 : Int32)), .unset, .unset, .unset] [(.ref b9), (.ref b9)]) _
      refine Go.of (fun tg_ kk_ => XS.iload X9.here hx rfl (hb hby at_42) rfl kk_) ?_
      show Go p e below T9 (mkF m 44 #[.val (.int p0), .val (.int p1), .val (.int p2), .val (.int p3), .val (.ref bb1), .val (.ref bb4), .val (.int (0 : Int32)), .val (.int (0 : Int32)), .unset, .unset, .unset] [(.int (0 : Int32)), (.ref b9), (.ref b9)]) _
      refine Go.of (fun tg_ kk_ => XS.ifYes X9.here hx rfl (pc0 := 44) (pc' := 51) rfl (hb hby at_44) rfl ((if0 _ _).trans (teq (show (0 : Int32) = (0 : Int32) by decide)).1) (by decide) (by decide) kk_) ?_
      show Go p e below T9 (mkF m 51 #[.val (.int p0), .val (.int p1), .val (.int p2), .val (.int p3), .val (.ref bb1), .val (.ref bb4), .val (.int (0 : Int32)), .val (.int (0 : Int32)), .unset, .unset, .unset] [(.ref b9), (.ref b9)]) _
      refine Go.of (fun tg_ kk_ => XS.aload X9.here hx rfl (hb hby at_51) rfl rfl kk_) ?_
      show Go p e below T9 (mkF m 53 #[.val (.int p0), .val (.int p1), .val (.int p2), .val (.int p3), .val (.ref bb1), .val (.ref bb4), .val (.int (0 : Int32)), .val (.int (0 : Int32)), .unset, .unset, .unset] [(.ref bb1), (.ref b9), (.ref b9)]) _
      refine Go.of (fun tg_ kk_ => XS.iload X9.here hx rfl (hb hby at_53) rfl kk_) ?_
      show Go p e below T9 (mkF m 55 #[.val (.int p0), .val (.int p1), .val (.int p2), .val (.int p3), .val (.ref bb1), .val (.ref bb4), .val (.int (0 : Int32)), .val (.int (0 : Int32)), .unset, .unset, .unset] [(.int (0 : Int32)), (.ref bb1), (.ref b9), (.ref b9)]) _
      refine Go.of (fun tg_ kk_ => XS.ifYes X9.here hx rfl (pc0 := 55) (pc' := 62) rfl (hb hby at_55) rfl ((if0 _ _).trans (teq (show (0 : Int32) = (0 : Int32) by decide)).1) (by decide) (by decide) kk_) ?_
      show Go p e below T9 (mkF m 62 #[.val (.int p0), .val (.int p1), .val (.int p2), .val (.int p3), .val (.ref bb1), .val (.ref bb4), .val (.int (0 : Int32)), .val (.int (0 : Int32)), .unset, .unset, .unset] [(.ref bb1), (.ref b9), (.ref b9)]) _
      refine Go.of (fun tg_ kk_ => XS.aload X9.here hx rfl (hb hby at_62) rfl rfl kk_) ?_
      show Go p e below T9 (mkF m 64 #[.val (.int p0), .val (.int p1), .val (.int p2), .val (.int p3), .val (.ref bb1), .val (.ref bb4), .val (.int (0 : Int32)), .val (.int (0 : Int32)), .unset, .unset, .unset] [(.ref bb4), (.ref bb1), (.ref b9), (.ref b9)]) _
      obtain ⟨_, _, ⟨T18, L18, k18, n18⟩, -, X18, ⟨Lc18, hQ18, l18, y18, z18⟩, st18⟩ := X9.specialBack hx (y := (⟨"com/example/planwright/planwright/planner/SharedAtoms$Among", "<init>", "([Z[Z)V"⟩ : MethodName)) rfl hown (mvT hZ (hw _ (List.mem_of_getElem? (i := 8) rfl))) (mvT hZ (hw _ (List.mem_of_getElem? (i := 9) rfl))) (mvT hZ (hw _ (List.mem_of_getElem? (i := 10) rfl))) (by decide) (backOf (W := 1) (rm2_00 l Z a0 hw [] b9 bb1 bb4 h9 n0 Zs15 gx9 A9 F16 F17) hZ (hw _ (List.mem_of_getElem? (i := 10) rfl)) (hw _ (List.mem_of_getElem? (i := 7) rfl)) (by decide) (by decide)) (g := (mkF m 64 #[.val (.int p0), .val (.int p1), .val (.int p2), .val (.int p3), .val (.ref bb1), .val (.ref bb4), .val (.int (0 : Int32)), .val (.int (0 : Int32)), .unset, .unset, .unset] [(.ref bb4), (.ref bb1), (.ref b9), (.ref b9)])) rfl (by rw [hml]; rfl) (Steps.refl _) (a := b9) (argsL := [(.ref bb1), (.ref bb4)]) (rest := [(.ref b9)]) (lenOf pd_2 rfl) rfl (by show 2 * 0 + _ ≤ _; exact Nat.le_of_eq rfl) (hb hby at_64) (fun _ _ => ⟨rfl, e9, (by decide : 3 + 0 ≤ _), (by decide : 10 + 0 ≤ _)⟩)
      dsimp only [Pt.U, Pt.locs, Pt.cells, Pt.slots] at X18 l18 y18 z18 st18 hQ18
      subst l18 y18 z18
      obtain ⟨rfl, N18q, K18q, F18a⟩ := hQ18
      have N18 := Fr.app N4 N18q
      have F19 := F12.keep K18q (ninS ne10 nin0)
      have F20 := F13.keep K18q (ninS ne11 nin0)
      have F21 := A9.keep K18q
      have K24 := K14.trans K18q (allS (Or.inr sz9) all0)
      have Zs25 : n0 ≤ T18.heap.size := Nat.le_trans Zs15 K18q.1
      refine Go.of (fun tg_ kk_ => st18.trans kk_) ?_
      show Go p e below T18 (mkF m 67 #[.val (.int p0), .val (.int p1), .val (.int p2), .val (.int p3), .val (.ref bb1), .val (.ref bb4), .val (.int (0 : Int32)), .val (.int (0 : Int32)), .unset, .unset, .unset] [(.ref b9)]) _
      refine Go.of (fun tg_ kk_ => XS.astore X18.here hx rfl (hb hby at_67) rfl rfl (l' := #[.val (.int p0), .val (.int p1), .val (.int p2), .val (.int p3), .val (.ref bb1), .val (.ref bb4), .val (.int (0 : Int32)), .val (.int (0 : Int32)), .val (.ref b9), .unset, .unset]) rfl kk_) ?_
      show Go p e below T18 (mkF m 69 #[.val (.int p0), .val (.int p1), .val (.int p2), .val (.int p3), .val (.ref bb1), .val (.ref bb4), .val (.int (0 : Int32)), .val (.int (0 : Int32)), .val (.ref b9), .unset, .unset] []) _
      refine Go.of (fun tg_ kk_ => XS.iload X18.here hx rfl (hb hby at_69) rfl kk_) ?_
      show Go p e below T18 (mkF m 71 #[.val (.int p0), .val (.int p1), .val (.int p2), .val (.int p3), .val (.ref bb1), .val (.ref bb4), .val (.int (0 : Int32)), .val (.int (0 : Int32)), .val (.ref b9), .unset, .unset] [(.int (0 : Int32))]) _
      refine Go.of (fun tg_ kk_ => XS.ifYes X18.here hx rfl (pc0 := 71) (pc' := 89) rfl (hb hby at_71) rfl ((if0 _ _).trans (teq (show (0 : Int32) = (0 : Int32) by decide)).1) (by decide) (by decide) kk_) ?_
      show Go p e below T18 (mkF m 89 #[.val (.int p0), .val (.int p1), .val (.int p2), .val (.int p3), .val (.ref bb1), .val (.ref bb4), .val (.int (0 : Int32)), .val (.int (0 : Int32)), .val (.ref b9), .unset, .unset] []) _
      refine Go.of (fun tg_ kk_ => XS.iloadN X18.here hx rfl (hb hby at_89) rfl kk_) ?_
      show Go p e below T18 (mkF m 90 #[.val (.int p0), .val (.int p1), .val (.int p2), .val (.int p3), .val (.ref bb1), .val (.ref bb4), .val (.int (0 : Int32)), .val (.int (0 : Int32)), .val (.ref b9), .unset, .unset] [(.int p2)]) _
      refine Go.of (fun tg_ kk_ => XS.iconst X18.here hx rfl (hb hby at_90) kk_) ?_
      show Go p e below T18 (mkF m 91 #[.val (.int p0), .val (.int p1), .val (.int p2), .val (.int p3), .val (.ref bb1), .val (.ref bb4), .val (.int (0 : Int32)), .val (.int (0 : Int32)), .val (.ref b9), .unset, .unset] [(.int (3 : Int32)), (.int p2)]) _
      refine Go.of (fun tg_ kk_ => XS.iand X18.here hx rfl (hb hby at_91) rfl kk_) ?_
      show Go p e below T18 (mkF m 92 #[.val (.int p0), .val (.int p1), .val (.int p2), .val (.int p3), .val (.ref bb1), .val (.ref bb4), .val (.int (0 : Int32)), .val (.int (0 : Int32)), .val (.ref b9), .unset, .unset] [(.int (p2 &&& (3 : Int32)))]) _
      obtain ⟨pp, qpp⟩ : ∃ z : Int32, z = (p2 &&& (3 : Int32)) := ⟨_, rfl⟩
      rw [← qpp]
      show Go p e below T18 (mkF m 92 #[.val (.int p0), .val (.int p1), .val (.int p2), .val (.int p3), .val (.ref bb1), .val (.ref bb4), .val (.int (0 : Int32)), .val (.int (0 : Int32)), .val (.ref b9), .unset, .unset] [(.int pp)]) _
      have hin : ¬ (pp < 0) ∧ (pp).toNatClampNeg < 4 := by rw [qpp]; exact own_in3 p2
      refine Go.of (fun tg_ kk_ => XS.istore X18.here hx rfl (hb hby at_92) rfl (l' := #[.val (.int p0), .val (.int p1), .val (.int p2), .val (.int p3), .val (.ref bb1), .val (.ref bb4), .val (.int (0 : Int32)), .val (.int (0 : Int32)), .val (.ref b9), .val (.int pp), .unset]) rfl kk_) ?_
      show Go p e below T18 (mkF m 94 #[.val (.int p0), .val (.int p1), .val (.int p2), .val (.int p3), .val (.ref bb1), .val (.ref bb4), .val (.int (0 : Int32)), .val (.int (0 : Int32)), .val (.ref b9), .val (.int pp), .unset] []) _
      refine Go.of (fun tg_ kk_ => XS.iloadN X18.here hx rfl (hb hby at_94) rfl kk_) ?_
      show Go p e below T18 (mkF m 95 #[.val (.int p0), .val (.int p1), .val (.int p2), .val (.int p3), .val (.ref bb1), .val (.ref bb4), .val (.int (0 : Int32)), .val (.int (0 : Int32)), .val (.ref b9), .val (.int pp), .unset] [(.int p1)]) _
      refine Go.of (fun tg_ kk_ => XS.iload X18.here hx rfl (hb hby at_95) rfl kk_) ?_
      show Go p e below T18 (mkF m 97 #[.val (.int p0), .val (.int p1), .val (.int p2), .val (.int p3), .val (.ref bb1), .val (.ref bb4), .val (.int (0 : Int32)), .val (.int (0 : Int32)), .val (.ref b9), .val (.int pp), .unset] [(.int pp), (.int p1)]) _
      refine Go.of (fun tg_ kk_ => XS.iushr X18.here hx rfl (hb hby at_97) rfl kk_) ?_
      show Go p e below T18 (mkF m 98 #[.val (.int p0), .val (.int p1), .val (.int p2), .val (.int p3), .val (.ref bb1), .val (.ref bb4), .val (.int (0 : Int32)), .val (.int (0 : Int32)), .val (.ref b9), .val (.int pp), .unset] [(.int ((p1.toUInt32 >>> (pp &&& 31).toUInt32).toInt32))]) _
      refine Go.of (fun tg_ kk_ => XS.iconst X18.here hx rfl (hb hby at_98) kk_) ?_
      show Go p e below T18 (mkF m 99 #[.val (.int p0), .val (.int p1), .val (.int p2), .val (.int p3), .val (.ref bb1), .val (.ref bb4), .val (.int (0 : Int32)), .val (.int (0 : Int32)), .val (.ref b9), .val (.int pp), .unset] [(.int (1 : Int32)), (.int ((p1.toUInt32 >>> (pp &&& 31).toUInt32).toInt32))]) _
      refine Go.of (fun tg_ kk_ => XS.iand X18.here hx rfl (hb hby at_99) rfl kk_) ?_
      show Go p e below T18 (mkF m 100 #[.val (.int p0), .val (.int p1), .val (.int p2), .val (.int p3), .val (.ref bb1), .val (.ref bb4), .val (.int (0 : Int32)), .val (.int (0 : Int32)), .val (.ref b9), .val (.int pp), .unset] [(.int (((p1.toUInt32 >>> (pp &&& 31).toUInt32).toInt32) &&& (1 : Int32)))]) _
      have st26 : ∀ ex : Int32, ex = (if (((p1.toUInt32 >>> (pp &&& 31).toUInt32).toInt32) &&& (1 : Int32)) = (0 : Int32) then (0 : Int32) else (1 : Int32)) → ∀ t, Steps p.tables e below (T18.setTop (mkF m 108 #[.val (.int p0), .val (.int p1), .val (.int p2), .val (.int p3), .val (.ref bb1), .val (.ref bb4), .val (.int (0 : Int32)), .val (.int (0 : Int32)), .val (.ref b9), .val (.int pp), .unset] [(.int ex)])) t → Steps p.tables e below (T18.setTop (mkF m 100 #[.val (.int p0), .val (.int p1), .val (.int p2), .val (.int p3), .val (.ref bb1), .val (.ref bb4), .val (.int (0 : Int32)), .val (.int (0 : Int32)), .val (.ref b9), .val (.int pp), .unset] [(.int (((p1.toUInt32 >>> (pp &&& 31).toUInt32).toInt32) &&& (1 : Int32)))])) t := by
        intro ex qex tg_ kk_
        by_cases hc : (((p1.toUInt32 >>> (pp &&& 31).toUInt32).toInt32) &&& (1 : Int32)) = (0 : Int32)
        · rw [if_pos hc] at qex; rw [qex] at kk_
          show Steps p.tables e below (T18.setTop (mkF m 100 #[.val (.int p0), .val (.int p1), .val (.int p2), .val (.int p3), .val (.ref bb1), .val (.ref bb4), .val (.int (0 : Int32)), .val (.int (0 : Int32)), .val (.ref b9), .val (.int pp), .unset] [(.int (((p1.toUInt32 >>> (pp &&& 31).toUInt32).toInt32) &&& (1 : Int32)))])) _
          refine XS.ifYes X18.here hx rfl (pc0 := 100) (pc' := 107) rfl (hb hby at_100) rfl ((if0 _ _).trans (teq hc).1) (by decide) (by decide) ?_
          show Steps p.tables e below (T18.setTop (mkF m 107 #[.val (.int p0), .val (.int p1), .val (.int p2), .val (.int p3), .val (.ref bb1), .val (.ref bb4), .val (.int (0 : Int32)), .val (.int (0 : Int32)), .val (.ref b9), .val (.int pp), .unset] [])) _
          refine XS.iconst X18.here hx rfl (hb hby at_107) ?_
          show Steps p.tables e below (T18.setTop (mkF m 108 #[.val (.int p0), .val (.int p1), .val (.int p2), .val (.int p3), .val (.ref bb1), .val (.ref bb4), .val (.int (0 : Int32)), .val (.int (0 : Int32)), .val (.ref b9), .val (.int pp), .unset] [(.int (0 : Int32))])) _
          exact kk_
        · rw [if_neg hc] at qex; rw [qex] at kk_
          show Steps p.tables e below (T18.setTop (mkF m 100 #[.val (.int p0), .val (.int p1), .val (.int p2), .val (.int p3), .val (.ref bb1), .val (.ref bb4), .val (.int (0 : Int32)), .val (.int (0 : Int32)), .val (.ref b9), .val (.int pp), .unset] [(.int (((p1.toUInt32 >>> (pp &&& 31).toUInt32).toInt32) &&& (1 : Int32)))])) _
          refine XS.ifNo X18.here hx rfl (hb hby at_100) rfl ((if0 _ _).trans (feq hc).1) ?_
          show Steps p.tables e below (T18.setTop (mkF m 103 #[.val (.int p0), .val (.int p1), .val (.int p2), .val (.int p3), .val (.ref bb1), .val (.ref bb4), .val (.int (0 : Int32)), .val (.int (0 : Int32)), .val (.ref b9), .val (.int pp), .unset] [])) _
          refine XS.iconst X18.here hx rfl (hb hby at_103) ?_
          show Steps p.tables e below (T18.setTop (mkF m 104 #[.val (.int p0), .val (.int p1), .val (.int p2), .val (.int p3), .val (.ref bb1), .val (.ref bb4), .val (.int (0 : Int32)), .val (.int (0 : Int32)), .val (.ref b9), .val (.int pp), .unset] [(.int (1 : Int32))])) _
          refine XS.goto X18.here hx rfl (pc0 := 104) (pc' := 108) rfl (hb hby at_104) (by decide) (by decide) ?_
          show Steps p.tables e below (T18.setTop (mkF m 108 #[.val (.int p0), .val (.int p1), .val (.int p2), .val (.int p3), .val (.ref bb1), .val (.ref bb4), .val (.int (0 : Int32)), .val (.int (0 : Int32)), .val (.ref b9), .val (.int pp), .unset] [(.int (1 : Int32))])) _
          exact kk_
      obtain ⟨ex, qex⟩ : ∃ z : Int32, z = (if (((p1.toUInt32 >>> (pp &&& 31).toUInt32).toInt32) &&& (1 : Int32)) = (0 : Int32) then (0 : Int32) else (1 : Int32)) := ⟨_, rfl⟩
      refine Go.of (st26 ex qex) ?_
      show Go p e below T18 (mkF m 108 #[.val (.int p0), .val (.int p1), .val (.int p2), .val (.int p3), .val (.ref bb1), .val (.ref bb4), .val (.int (0 : Int32)), .val (.int (0 : Int32)), .val (.ref b9), .val (.int pp), .unset] [(.int ex)]) _
      refine Go.of (fun tg_ kk_ => XS.istore X18.here hx rfl (hb hby at_108) rfl (l' := #[.val (.int p0), .val (.int p1), .val (.int p2), .val (.int p3), .val (.ref bb1), .val (.ref bb4), .val (.int (0 : Int32)), .val (.int (0 : Int32)), .val (.ref b9), .val (.int pp), .val (.int ex)]) rfl kk_) ?_
      show Go p e below T18 (mkF m 110 #[.val (.int p0), .val (.int p1), .val (.int p2), .val (.int p3), .val (.ref bb1), .val (.ref bb4), .val (.int (0 : Int32)), .val (.int (0 : Int32)), .val (.ref b9), .val (.int pp), .val (.int ex)] []) _
      refine Go.of (fun tg_ kk_ => XS.aload X18.here hx rfl (hb hby at_110) rfl rfl kk_) ?_
      show Go p e below T18 (mkF m 112 #[.val (.int p0), .val (.int p1), .val (.int p2), .val (.int p3), .val (.ref bb1), .val (.ref bb4), .val (.int (0 : Int32)), .val (.int (0 : Int32)), .val (.ref b9), .val (.int pp), .val (.int ex)] [(.ref b9)]) _
      refine Go.of (fun tg_ kk_ => XS.iload X18.here hx rfl (hb hby at_112) rfl kk_) ?_
      show Go p e below T18 (mkF m 114 #[.val (.int p0), .val (.int p1), .val (.int p2), .val (.int p3), .val (.ref bb1), .val (.ref bb4), .val (.int (0 : Int32)), .val (.int (0 : Int32)), .val (.ref b9), .val (.int pp), .val (.int ex)] [(.int pp), (.ref b9)]) _
      obtain ⟨cq27, kq27, q27a, q27b, q27c⟩ := isOf hZ rfl F21
      obtain ⟨_, _, ⟨T27, L27, k27, n27⟩, -, X27, ⟨Lc27, hQ27, l27, y27, z27⟩, st27⟩ := X18.virtualBack hx (y := (⟨"com/example/planwright/planwright/planner/SharedAtoms$Among", "beside", "(I)Z"⟩ : MethodName)) (z := (⟨"com/example/planwright/planwright/planner/SharedAtoms$Among", "beside", "(I)Z"⟩ : MethodName)) hown (mvT hZ (hw _ (List.mem_of_getElem? (i := 23) rfl))) (mvT hZ (hw _ (List.mem_of_getElem? (i := 24) rfl))) (notFace_of_selects (args := #[]) (mvT hZ (hw _ (List.mem_of_getElem? (i := 26) rfl)))) (mvT hZ (hw _ (List.mem_of_getElem? (i := 26) rfl))) (mvT hZ (hw _ (List.mem_of_getElem? (i := 25) rfl))) (by decide) (backOf (W := 0) (rm5 l Z a0 hw [] b9 pp bb4 (bitsF p1) T18.heap n0 Zs25 F18a F20 hin) hZ (hw _ (List.mem_of_getElem? (i := 27) rfl)) (hw _ (List.mem_of_getElem? (i := 7) rfl)) (by decide) (by decide)) q27a q27c (g := (mkF m 114 #[.val (.int p0), .val (.int p1), .val (.int p2), .val (.int p3), .val (.ref bb1), .val (.ref bb4), .val (.int (0 : Int32)), .val (.int (0 : Int32)), .val (.ref b9), .val (.int pp), .val (.int ex)] [(.int pp), (.ref b9)])) rfl (by rw [hml]; rfl) (Steps.refl _) (argsL := [(.int pp)]) (rest := []) (lenOf pd_3 rfl) rfl (by show 2 * 0 + _ ≤ _; exact Nat.le_of_eq rfl) (hb hby at_114) (fun _ _ => ⟨rfl, rfl, (by decide : 3 + 0 ≤ _), (by decide : 10 + 0 ≤ _)⟩)
      dsimp only [Pt.U, Pt.locs, Pt.cells, Pt.slots] at X27 l27 y27 z27 st27 hQ27
      subst l27 y27 z27
      obtain ⟨rfl, N27q, e27⟩ := hQ27
      have N27 := Fr.app N18 N27q
      refine Go.of (fun tg_ kk_ => st27.trans kk_) ?_
      show Go p e below T27 (mkF m 117 #[.val (.int p0), .val (.int p1), .val (.int p2), .val (.int p3), .val (.ref bb1), .val (.ref bb4), .val (.int (0 : Int32)), .val (.int (0 : Int32)), .val (.ref b9), .val (.int pp), .val (.int ex)] [(.int (if bitsF p1 (pp).toNatClampNeg = 0 then (0 : Int32) else (1 : Int32)))]) _
      refine Go.of (fun tg_ kk_ => XS.iload X27.here hx rfl (hb hby at_117) rfl kk_) ?_
      show Go p e below T27 (mkF m 119 #[.val (.int p0), .val (.int p1), .val (.int p2), .val (.int p3), .val (.ref bb1), .val (.ref bb4), .val (.int (0 : Int32)), .val (.int (0 : Int32)), .val (.ref b9), .val (.int pp), .val (.int ex)] [(.int ex), (.int (if bitsF p1 (pp).toNatClampNeg = 0 then (0 : Int32) else (1 : Int32)))]) _
      refine Go.of (fun tg_ kk_ => XS.icmpNo X27.here hx rfl (hb hby at_119) rfl (teq (show (if bitsF p1 (pp).toNatClampNeg = 0 then (0 : Int32) else (1 : Int32)) = ex from (by rw [qex]; exact own_weighs p1 pp hin))).2 kk_) ?_
      show Go p e below T27 (mkF m 122 #[.val (.int p0), .val (.int p1), .val (.int p2), .val (.int p3), .val (.ref bb1), .val (.ref bb4), .val (.int (0 : Int32)), .val (.int (0 : Int32)), .val (.ref b9), .val (.int pp), .val (.int ex)] []) _
      refine Go.of (fun tg_ kk_ => XS.iconst X27.here hx rfl (hb hby at_122) kk_) ?_
      show Go p e below T27 (mkF m 123 #[.val (.int p0), .val (.int p1), .val (.int p2), .val (.int p3), .val (.ref bb1), .val (.ref bb4), .val (.int (0 : Int32)), .val (.int (0 : Int32)), .val (.ref b9), .val (.int pp), .val (.int ex)] [(.int (1 : Int32))]) _
      refine Go.of (fun tg_ kk_ => XS.goto X27.here hx rfl (pc0 := 123) (pc' := 127) rfl (hb hby at_123) (by decide) (by decide) kk_) ?_
      show Go p e below T27 (mkF m 127 #[.val (.int p0), .val (.int p1), .val (.int p2), .val (.int p3), .val (.ref bb1), .val (.ref bb4), .val (.int (0 : Int32)), .val (.int (0 : Int32)), .val (.ref b9), .val (.int pp), .val (.int ex)] [(.int (1 : Int32))]) _
      obtain ⟨fs, hr, hrun, hended, hW, hsame⟩ := X27.leave (v := some (.int (1 : Int32))) (fun h => by rw [Bd.returns] at h; cases h)
      refine ⟨_, _, ?_, hrun, hended, _, _, rfl, ?_, ⟨_, rfl⟩, hW, hsame.mono (by decide) (by decide)⟩
      · exact retN X27 hx (t := .boolean) Bd.returns (by simp) (hb hby at_127) hr
      · show Q0 Z p0 p1 p2 p3 h0 n0 _ T27.heap _
        rw [e27]
        exact ⟨rfl, N27⟩
    · skip
      refine Go.of (fun tg_ kk_ => XS.ifNo X4.here hx rfl (hb hby at_28) rfl ((if0 _ _).trans (feq he0).1) kk_) ?_
      show Go p e below T4 (mkF m 31 #[.val (.int p0), .val (.int p1), .val (.int p2), .val (.int p3), .val (.ref bb1), .val (.ref bb4), .val (.int (0 : Int32)), .unset, .unset, .unset, .unset] []) _
      refine Go.of (fun tg_ kk_ => XS.iconst X4.here hx rfl (hb hby at_31) kk_) ?_
      show Go p e below T4 (mkF m 32 #[.val (.int p0), .val (.int p1), .val (.int p2), .val (.int p3), .val (.ref bb1), .val (.ref bb4), .val (.int (0 : Int32)), .unset, .unset, .unset, .unset] [(.int (1 : Int32))]) _
      refine Go.of (fun tg_ kk_ => XS.goto X4.here hx rfl (pc0 := 32) (pc' := 36) rfl (hb hby at_32) (by decide) (by decide) kk_) ?_
      show Go p e below T4 (mkF m 36 #[.val (.int p0), .val (.int p1), .val (.int p2), .val (.int p3), .val (.ref bb1), .val (.ref bb4), .val (.int (0 : Int32)), .unset, .unset, .unset, .unset] [(.int (1 : Int32))]) _
      refine Go.of (fun tg_ kk_ => XS.istore X4.here hx rfl (hb hby at_36) rfl (l' := #[.val (.int p0), .val (.int p1), .val (.int p2), .val (.int p3), .val (.ref bb1), .val (.ref bb4), .val (.int (0 : Int32)), .val (.int (1 : Int32)), .unset, .unset, .unset]) rfl kk_) ?_
      show Go p e below T4 (mkF m 38 #[.val (.int p0), .val (.int p1), .val (.int p2), .val (.int p3), .val (.ref bb1), .val (.ref bb4), .val (.int (0 : Int32)), .val (.int (1 : Int32)), .unset, .unset, .unset] []) _
      obtain ⟨T28, h28, X28, e28, E28, A28, D28, -, st28⟩ := newO X4 hx hZ hown (hw _ (List.mem_of_getElem? (i := 5) rfl)) (hw _ (List.mem_of_getElem? (i := 6) rfl)) (hw _ (List.mem_of_getElem? (i := 7) rfl)) rfl (g := (mkF m 38 #[.val (.int p0), .val (.int p1), .val (.int p2), .val (.int p3), .val (.ref bb1), .val (.ref bb4), .val (.int (0 : Int32)), .val (.int (1 : Int32)), .unset, .unset, .unset] [])) rfl (hb hby at_38) (by decide) (by decide)
      obtain ⟨b28, g28⟩ : ∃ z, z = T4.heap.size := ⟨_, rfl⟩
      rw [← g28] at A28 D28 st28
      have gx28 : n0 ≤ b28 := Nat.le_trans Zs8 (Nat.le_of_eq g28.symm)
      have sz28 : h0.size ≤ b28 := Nat.le_trans K7.1 (Nat.le_of_eq g28.symm)
      have ne29 : bb1 ≠ b28 := Nat.ne_of_lt (Nat.lt_of_lt_of_le F6.lt (Nat.le_of_eq g28.symm))
      have ne30 : bb4 ≠ b28 := Nat.ne_of_lt (Nat.lt_of_lt_of_le V4.lt (Nat.le_of_eq g28.symm))
      have F31 := F6.ext E28
      have F32 := V4.ext E28
      have K33 := K7.ext E28
      have Zs34 : n0 ≤ h28.size := Nat.le_trans Zs8 E28.1
      have F35 : Fld Z h28 b28 "com/example/planwright/planwright/planner/SharedAtoms$Among" "weighed" "[Z" .null := D28 (Or.inr (hw _ (List.mem_of_getElem? (i := 20) rfl))) (ty := (.array .boolean)) (by decide)
      have F36 : Fld Z h28 b28 "com/example/planwright/planwright/planner/SharedAtoms$Among" "elsewhere" "[Z" .null := D28 (Or.inr (hw _ (List.mem_of_getElem? (i := 22) rfl))) (ty := (.array .boolean)) (by decide)
      refine Go.of (st28) ?_
      show Go p e below T28 (mkF m 41 #[.val (.int p0), .val (.int p1), .val (.int p2), .val (.int p3), .val (.ref bb1), .val (.ref bb4), .val (.int (0 : Int32)), .val (.int (1 : Int32)), .unset, .unset, .unset] [(.ref b28)]) _
      refine Go.of (fun tg_ kk_ => XS.dup X28.here hx rfl (hb hby at_41) rfl rfl kk_) ?_
      show Go p e below T28 (mkF m 42 #[.val (.int p0), .val (.int p1), .val (.int p2), .val (.int p3), .val (.ref bb1), .val (.ref bb4), .val (.int (0 : Int32)), .val (.int (1 : Int32)), .unset, .unset, .unset] [(.ref b28), (.ref b28)]) _
      refine Go.of (fun tg_ kk_ => XS.iload X28.here hx rfl (hb hby at_42) rfl kk_) ?_
      show Go p e below T28 (mkF m 44 #[.val (.int p0), .val (.int p1), .val (.int p2), .val (.int p3), .val (.ref bb1), .val (.ref bb4), .val (.int (0 : Int32)), .val (.int (1 : Int32)), .unset, .unset, .unset] [(.int (0 : Int32)), (.ref b28), (.ref b28)]) _
      refine Go.of (fun tg_ kk_ => XS.ifYes X28.here hx rfl (pc0 := 44) (pc' := 51) rfl (hb hby at_44) rfl ((if0 _ _).trans (teq (show (0 : Int32) = (0 : Int32) by decide)).1) (by decide) (by decide) kk_) ?_
      show Go p e below T28 (mkF m 51 #[.val (.int p0), .val (.int p1), .val (.int p2), .val (.int p3), .val (.ref bb1), .val (.ref bb4), .val (.int (0 : Int32)), .val (.int (1 : Int32)), .unset, .unset, .unset] [(.ref b28), (.ref b28)]) _
      refine Go.of (fun tg_ kk_ => XS.aload X28.here hx rfl (hb hby at_51) rfl rfl kk_) ?_
      show Go p e below T28 (mkF m 53 #[.val (.int p0), .val (.int p1), .val (.int p2), .val (.int p3), .val (.ref bb1), .val (.ref bb4), .val (.int (0 : Int32)), .val (.int (1 : Int32)), .unset, .unset, .unset] [(.ref bb1), (.ref b28), (.ref b28)]) _
      refine Go.of (fun tg_ kk_ => XS.iload X28.here hx rfl (hb hby at_53) rfl kk_) ?_
      show Go p e below T28 (mkF m 55 #[.val (.int p0), .val (.int p1), .val (.int p2), .val (.int p3), .val (.ref bb1), .val (.ref bb4), .val (.int (0 : Int32)), .val (.int (1 : Int32)), .unset, .unset, .unset] [(.int (1 : Int32)), (.ref bb1), (.ref b28), (.ref b28)]) _
      refine Go.of (fun tg_ kk_ => XS.ifNo X28.here hx rfl (hb hby at_55) rfl ((if0 _ _).trans (feq (show ¬ ((1 : Int32) = (0 : Int32)) by decide)).1) kk_) ?_
      show Go p e below T28 (mkF m 58 #[.val (.int p0), .val (.int p1), .val (.int p2), .val (.int p3), .val (.ref bb1), .val (.ref bb4), .val (.int (0 : Int32)), .val (.int (1 : Int32)), .unset, .unset, .unset] [(.ref bb1), (.ref b28), (.ref b28)]) _
      refine Go.of (fun tg_ kk_ => XS.aconstNull X28.here hx rfl (hb hby at_58) kk_) ?_
      show Go p e below T28 (mkF m 59 #[.val (.int p0), .val (.int p1), .val (.int p2), .val (.int p3), .val (.ref bb1), .val (.ref bb4), .val (.int (0 : Int32)), .val (.int (1 : Int32)), .unset, .unset, .unset] [.null, (.ref bb1), (.ref b28), (.ref b28)]) _
      refine Go.of (fun tg_ kk_ => XS.goto X28.here hx rfl (pc0 := 59) (pc' := 64) rfl (hb hby at_59) (by decide) (by decide) kk_) ?_
      show Go p e below T28 (mkF m 64 #[.val (.int p0), .val (.int p1), .val (.int p2), .val (.int p3), .val (.ref bb1), .val (.ref bb4), .val (.int (0 : Int32)), .val (.int (1 : Int32)), .unset, .unset, .unset] [.null, (.ref bb1), (.ref b28), (.ref b28)]) _
      obtain ⟨_, _, ⟨T37, L37, k37, n37⟩, -, X37, ⟨Lc37, hQ37, l37, y37, z37⟩, st37⟩ := X28.specialBack hx (y := (⟨"com/example/planwright/planwright/planner/SharedAtoms$Among", "<init>", "([Z[Z)V"⟩ : MethodName)) rfl hown (mvT hZ (hw _ (List.mem_of_getElem? (i := 8) rfl))) (mvT hZ (hw _ (List.mem_of_getElem? (i := 9) rfl))) (mvT hZ (hw _ (List.mem_of_getElem? (i := 10) rfl))) (by decide) (backOf (W := 1) (rm2_01 l Z a0 hw [] b28 bb1 h28 n0 Zs34 gx28 A28 F35 F36) hZ (hw _ (List.mem_of_getElem? (i := 10) rfl)) (hw _ (List.mem_of_getElem? (i := 7) rfl)) (by decide) (by decide)) (g := (mkF m 64 #[.val (.int p0), .val (.int p1), .val (.int p2), .val (.int p3), .val (.ref bb1), .val (.ref bb4), .val (.int (0 : Int32)), .val (.int (1 : Int32)), .unset, .unset, .unset] [.null, (.ref bb1), (.ref b28), (.ref b28)])) rfl (by rw [hml]; rfl) (Steps.refl _) (a := b28) (argsL := [(.ref bb1), .null]) (rest := [(.ref b28)]) (lenOf pd_2 rfl) rfl (by show 2 * 0 + _ ≤ _; exact Nat.le_of_eq rfl) (hb hby at_64) (fun _ _ => ⟨rfl, e28, (by decide : 3 + 0 ≤ _), (by decide : 10 + 0 ≤ _)⟩)
      dsimp only [Pt.U, Pt.locs, Pt.cells, Pt.slots] at X37 l37 y37 z37 st37 hQ37
      subst l37 y37 z37
      obtain ⟨rfl, N37q, K37q, F37a⟩ := hQ37
      have N37 := Fr.app N4 N37q
      have F38 := F31.keep K37q (ninS ne29 nin0)
      have F39 := F32.keep K37q (ninS ne30 nin0)
      have F40 := A28.keep K37q
      have K43 := K33.trans K37q (allS (Or.inr sz28) all0)
      have Zs44 : n0 ≤ T37.heap.size := Nat.le_trans Zs34 K37q.1
      refine Go.of (fun tg_ kk_ => st37.trans kk_) ?_
      show Go p e below T37 (mkF m 67 #[.val (.int p0), .val (.int p1), .val (.int p2), .val (.int p3), .val (.ref bb1), .val (.ref bb4), .val (.int (0 : Int32)), .val (.int (1 : Int32)), .unset, .unset, .unset] [(.ref b28)]) _
      refine Go.of (fun tg_ kk_ => XS.astore X37.here hx rfl (hb hby at_67) rfl rfl (l' := #[.val (.int p0), .val (.int p1), .val (.int p2), .val (.int p3), .val (.ref bb1), .val (.ref bb4), .val (.int (0 : Int32)), .val (.int (1 : Int32)), .val (.ref b28), .unset, .unset]) rfl kk_) ?_
      show Go p e below T37 (mkF m 69 #[.val (.int p0), .val (.int p1), .val (.int p2), .val (.int p3), .val (.ref bb1), .val (.ref bb4), .val (.int (0 : Int32)), .val (.int (1 : Int32)), .val (.ref b28), .unset, .unset] []) _
      refine Go.of (fun tg_ kk_ => XS.iload X37.here hx rfl (hb hby at_69) rfl kk_) ?_
      show Go p e below T37 (mkF m 71 #[.val (.int p0), .val (.int p1), .val (.int p2), .val (.int p3), .val (.ref bb1), .val (.ref bb4), .val (.int (0 : Int32)), .val (.int (1 : Int32)), .val (.ref b28), .unset, .unset] [(.int (1 : Int32))]) _
      refine Go.of (fun tg_ kk_ => XS.ifNo X37.here hx rfl (hb hby at_71) rfl ((if0 _ _).trans (feq (show ¬ ((1 : Int32) = (0 : Int32)) by decide)).1) kk_) ?_
      show Go p e below T37 (mkF m 74 #[.val (.int p0), .val (.int p1), .val (.int p2), .val (.int p3), .val (.ref bb1), .val (.ref bb4), .val (.int (0 : Int32)), .val (.int (1 : Int32)), .val (.ref b28), .unset, .unset] []) _
      refine Go.of (fun tg_ kk_ => XS.aload X37.here hx rfl (hb hby at_74) rfl rfl kk_) ?_
      show Go p e below T37 (mkF m 76 #[.val (.int p0), .val (.int p1), .val (.int p2), .val (.int p3), .val (.ref bb1), .val (.ref bb4), .val (.int (0 : Int32)), .val (.int (1 : Int32)), .val (.ref b28), .unset, .unset] [(.ref b28)]) _
      refine Go.of (fun tg_ kk_ => XS.iloadN X37.here hx rfl (hb hby at_76) rfl kk_) ?_
      show Go p e below T37 (mkF m 77 #[.val (.int p0), .val (.int p1), .val (.int p2), .val (.int p3), .val (.ref bb1), .val (.ref bb4), .val (.int (0 : Int32)), .val (.int (1 : Int32)), .val (.ref b28), .unset, .unset] [(.int p2), (.ref b28)]) _
      obtain ⟨cq45, kq45, q45a, q45b, q45c⟩ := isOf hZ rfl F40
      obtain ⟨_, _, ⟨T45, L45, k45, n45⟩, -, X45, ⟨Lc45, hQ45, l45, y45, z45⟩, st45⟩ := X37.virtualBack hx (y := (⟨"com/example/planwright/planwright/planner/SharedAtoms$Among", "beside", "(I)Z"⟩ : MethodName)) (z := (⟨"com/example/planwright/planwright/planner/SharedAtoms$Among", "beside", "(I)Z"⟩ : MethodName)) hown (mvT hZ (hw _ (List.mem_of_getElem? (i := 23) rfl))) (mvT hZ (hw _ (List.mem_of_getElem? (i := 24) rfl))) (notFace_of_selects (args := #[]) (mvT hZ (hw _ (List.mem_of_getElem? (i := 26) rfl)))) (mvT hZ (hw _ (List.mem_of_getElem? (i := 26) rfl))) (mvT hZ (hw _ (List.mem_of_getElem? (i := 25) rfl))) (by decide) (backOf (W := 0) (rm5n l Z a0 hw [] b28 p2 T37.heap n0 Zs44 F37a) hZ (hw _ (List.mem_of_getElem? (i := 27) rfl)) (hw _ (List.mem_of_getElem? (i := 7) rfl)) (by decide) (by decide)) q45a q45c (g := (mkF m 77 #[.val (.int p0), .val (.int p1), .val (.int p2), .val (.int p3), .val (.ref bb1), .val (.ref bb4), .val (.int (0 : Int32)), .val (.int (1 : Int32)), .val (.ref b28), .unset, .unset] [(.int p2), (.ref b28)])) rfl (by rw [hml]; rfl) (Steps.refl _) (argsL := [(.int p2)]) (rest := []) (lenOf pd_3 rfl) rfl (by show 2 * 0 + _ ≤ _; exact Nat.le_of_eq rfl) (hb hby at_77) (fun _ _ => ⟨rfl, rfl, (by decide : 3 + 0 ≤ _), (by decide : 10 + 0 ≤ _)⟩)
      dsimp only [Pt.U, Pt.locs, Pt.cells, Pt.slots] at X45 l45 y45 z45 st45 hQ45
      subst l45 y45 z45
      obtain ⟨rfl, N45q, e45⟩ := hQ45
      have N45 := Fr.app N37 N45q
      refine Go.of (fun tg_ kk_ => st45.trans kk_) ?_
      show Go p e below T45 (mkF m 80 #[.val (.int p0), .val (.int p1), .val (.int p2), .val (.int p3), .val (.ref bb1), .val (.ref bb4), .val (.int (0 : Int32)), .val (.int (1 : Int32)), .val (.ref b28), .unset, .unset] [(.int (0 : Int32))]) _
      refine Go.of (fun tg_ kk_ => XS.ifNo X45.here hx rfl (hb hby at_80) rfl ((if0 _ _).trans (teq (show (0 : Int32) = (0 : Int32) by decide)).2) kk_) ?_
      show Go p e below T45 (mkF m 83 #[.val (.int p0), .val (.int p1), .val (.int p2), .val (.int p3), .val (.ref bb1), .val (.ref bb4), .val (.int (0 : Int32)), .val (.int (1 : Int32)), .val (.ref b28), .unset, .unset] []) _
      refine Go.of (fun tg_ kk_ => XS.iconst X45.here hx rfl (hb hby at_83) kk_) ?_
      show Go p e below T45 (mkF m 84 #[.val (.int p0), .val (.int p1), .val (.int p2), .val (.int p3), .val (.ref bb1), .val (.ref bb4), .val (.int (0 : Int32)), .val (.int (1 : Int32)), .val (.ref b28), .unset, .unset] [(.int (1 : Int32))]) _
      refine Go.of (fun tg_ kk_ => XS.goto X45.here hx rfl (pc0 := 84) (pc' := 88) rfl (hb hby at_84) (by decide) (by decide) kk_) ?_
      show Go p e below T45 (mkF m 88 #[.val (.int p0), .val (.int p1), .val (.int p2), .val (.int p3), .val (.ref bb1), .val (.ref bb4), .val (.int (0 : Int32)), .val (.int (1 : Int32)), .val (.ref b28), .unset, .unset] [(.int (1 : Int32))]) _
      obtain ⟨fs, hr, hrun, hended, hW, hsame⟩ := X45.leave (v := some (.int (1 : Int32))) (fun h => by rw [Bd.returns] at h; cases h)
      refine ⟨_, _, ?_, hrun, hended, _, _, rfl, ?_, ⟨_, rfl⟩, hW, hsame.mono (by decide) (by decide)⟩
      · exact retN X45 hx (t := .boolean) Bd.returns (by simp) (hb hby at_88) hr
      · show Q0 Z p0 p1 p2 p3 h0 n0 _ T45.heap _
        rw [e45]
        exact ⟨rfl, N45⟩
  · skip
    refine Go.of (fun tg_ kk_ => XS.ifNo X4.here hx rfl (hb hby at_15) rfl ((if0 _ _).trans (feq hw0).1) kk_) ?_
    show Go p e below T4 (mkF m 18 #[.val (.int p0), .val (.int p1), .val (.int p2), .val (.int p3), .val (.ref bb1), .val (.ref bb4), .unset, .unset, .unset, .unset, .unset] []) _
    refine Go.of (fun tg_ kk_ => XS.iconst X4.here hx rfl (hb hby at_18) kk_) ?_
    show Go p e below T4 (mkF m 19 #[.val (.int p0), .val (.int p1), .val (.int p2), .val (.int p3), .val (.ref bb1), .val (.ref bb4), .unset, .unset, .unset, .unset, .unset] [(.int (1 : Int32))]) _
    refine Go.of (fun tg_ kk_ => XS.goto X4.here hx rfl (pc0 := 19) (pc' := 23) rfl (hb hby at_19) (by decide) (by decide) kk_) ?_
    show Go p e below T4 (mkF m 23 #[.val (.int p0), .val (.int p1), .val (.int p2), .val (.int p3), .val (.ref bb1), .val (.ref bb4), .unset, .unset, .unset, .unset, .unset] [(.int (1 : Int32))]) _
    refine Go.of (fun tg_ kk_ => XS.istore X4.here hx rfl (hb hby at_23) rfl (l' := #[.val (.int p0), .val (.int p1), .val (.int p2), .val (.int p3), .val (.ref bb1), .val (.ref bb4), .val (.int (1 : Int32)), .unset, .unset, .unset, .unset]) rfl kk_) ?_
    show Go p e below T4 (mkF m 25 #[.val (.int p0), .val (.int p1), .val (.int p2), .val (.int p3), .val (.ref bb1), .val (.ref bb4), .val (.int (1 : Int32)), .unset, .unset, .unset, .unset] []) _
    refine Go.of (fun tg_ kk_ => XS.iloadN X4.here hx rfl (hb hby at_25) rfl kk_) ?_
    show Go p e below T4 (mkF m 26 #[.val (.int p0), .val (.int p1), .val (.int p2), .val (.int p3), .val (.ref bb1), .val (.ref bb4), .val (.int (1 : Int32)), .unset, .unset, .unset, .unset] [(.int p3)]) _
    refine Go.of (fun tg_ kk_ => XS.iconst X4.here hx rfl (hb hby at_26) kk_) ?_
    show Go p e below T4 (mkF m 27 #[.val (.int p0), .val (.int p1), .val (.int p2), .val (.int p3), .val (.ref bb1), .val (.ref bb4), .val (.int (1 : Int32)), .unset, .unset, .unset, .unset] [(.int (2 : Int32)), (.int p3)]) _
    refine Go.of (fun tg_ kk_ => XS.iand X4.here hx rfl (hb hby at_27) rfl kk_) ?_
    show Go p e below T4 (mkF m 28 #[.val (.int p0), .val (.int p1), .val (.int p2), .val (.int p3), .val (.ref bb1), .val (.ref bb4), .val (.int (1 : Int32)), .unset, .unset, .unset, .unset] [(.int (p3 &&& (2 : Int32)))]) _
    by_cases he0 : (p3 &&& (2 : Int32)) = (0 : Int32)
    · skip
      refine Go.of (fun tg_ kk_ => XS.ifYes X4.here hx rfl (pc0 := 28) (pc' := 35) rfl (hb hby at_28) rfl ((if0 _ _).trans (teq he0).1) (by decide) (by decide) kk_) ?_
      show Go p e below T4 (mkF m 35 #[.val (.int p0), .val (.int p1), .val (.int p2), .val (.int p3), .val (.ref bb1), .val (.ref bb4), .val (.int (1 : Int32)), .unset, .unset, .unset, .unset] []) _
      refine Go.of (fun tg_ kk_ => XS.iconst X4.here hx rfl (hb hby at_35) kk_) ?_
      show Go p e below T4 (mkF m 36 #[.val (.int p0), .val (.int p1), .val (.int p2), .val (.int p3), .val (.ref bb1), .val (.ref bb4), .val (.int (1 : Int32)), .unset, .unset, .unset, .unset] [(.int (0 : Int32))]) _
      refine Go.of (fun tg_ kk_ => XS.istore X4.here hx rfl (hb hby at_36) rfl (l' := #[.val (.int p0), .val (.int p1), .val (.int p2), .val (.int p3), .val (.ref bb1), .val (.ref bb4), .val (.int (1 : Int32)), .val (.int (0 : Int32)), .unset, .unset, .unset]) rfl kk_) ?_
      show Go p e below T4 (mkF m 38 #[.val (.int p0), .val (.int p1), .val (.int p2), .val (.int p3), .val (.ref bb1), .val (.ref bb4), .val (.int (1 : Int32)), .val (.int (0 : Int32)), .unset, .unset, .unset] []) _
      obtain ⟨T46, h46, X46, e46, E46, A46, D46, -, st46⟩ := newO X4 hx hZ hown (hw _ (List.mem_of_getElem? (i := 5) rfl)) (hw _ (List.mem_of_getElem? (i := 6) rfl)) (hw _ (List.mem_of_getElem? (i := 7) rfl)) rfl (g := (mkF m 38 #[.val (.int p0), .val (.int p1), .val (.int p2), .val (.int p3), .val (.ref bb1), .val (.ref bb4), .val (.int (1 : Int32)), .val (.int (0 : Int32)), .unset, .unset, .unset] [])) rfl (hb hby at_38) (by decide) (by decide)
      obtain ⟨b46, g46⟩ : ∃ z, z = T4.heap.size := ⟨_, rfl⟩
      rw [← g46] at A46 D46 st46
      have gx46 : n0 ≤ b46 := Nat.le_trans Zs8 (Nat.le_of_eq g46.symm)
      have sz46 : h0.size ≤ b46 := Nat.le_trans K7.1 (Nat.le_of_eq g46.symm)
      have ne47 : bb1 ≠ b46 := Nat.ne_of_lt (Nat.lt_of_lt_of_le F6.lt (Nat.le_of_eq g46.symm))
      have ne48 : bb4 ≠ b46 := Nat.ne_of_lt (Nat.lt_of_lt_of_le V4.lt (Nat.le_of_eq g46.symm))
      have F49 := F6.ext E46
      have F50 := V4.ext E46
      have K51 := K7.ext E46
      have Zs52 : n0 ≤ h46.size := Nat.le_trans Zs8 E46.1
      have F53 : Fld Z h46 b46 "com/example/planwright/planwright/planner/SharedAtoms$Among" "weighed" "[Z" .null := D46 (Or.inr (hw _ (List.mem_of_getElem? (i := 20) rfl))) (ty := (.array .boolean)) (by decide)
      have F54 : Fld Z h46 b46 "com/example/planwright/planwright/planner/SharedAtoms$Among" "elsewhere" "[Z" .null := D46 (Or.inr (hw _ (List.mem_of_getElem? (i := 22) rfl))) (ty := (.array .boolean)) (by decide)
      refine Go.of (st46) ?_
      show Go p e below T46 (mkF m 41 #[.val (.int p0), .val (.int p1), .val (.int p2), .val (.int p3), .val (.ref bb1), .val (.ref bb4), .val (.int (1 : Int32)), .val (.int (0 : Int32)), .unset, .unset, .unset] [(.ref b46)]) _
      refine Go.of (fun tg_ kk_ => XS.dup X46.here hx rfl (hb hby at_41) rfl rfl kk_) ?_
      show Go p e below T46 (mkF m 42 #[.val (.int p0), .val (.int p1), .val (.int p2), .val (.int p3), .val (.ref bb1), .val (.ref bb4), .val (.int (1 : Int32)), .val (.int (0 : Int32)), .unset, .unset, .unset] [(.ref b46), (.ref b46)]) _
      refine Go.of (fun tg_ kk_ => XS.iload X46.here hx rfl (hb hby at_42) rfl kk_) ?_
      show Go p e below T46 (mkF m 44 #[.val (.int p0), .val (.int p1), .val (.int p2), .val (.int p3), .val (.ref bb1), .val (.ref bb4), .val (.int (1 : Int32)), .val (.int (0 : Int32)), .unset, .unset, .unset] [(.int (1 : Int32)), (.ref b46), (.ref b46)]) _
      refine Go.of (fun tg_ kk_ => XS.ifNo X46.here hx rfl (hb hby at_44) rfl ((if0 _ _).trans (feq (show ¬ ((1 : Int32) = (0 : Int32)) by decide)).1) kk_) ?_
      show Go p e below T46 (mkF m 47 #[.val (.int p0), .val (.int p1), .val (.int p2), .val (.int p3), .val (.ref bb1), .val (.ref bb4), .val (.int (1 : Int32)), .val (.int (0 : Int32)), .unset, .unset, .unset] [(.ref b46), (.ref b46)]) _
      refine Go.of (fun tg_ kk_ => XS.aconstNull X46.here hx rfl (hb hby at_47) kk_) ?_
      show Go p e below T46 (mkF m 48 #[.val (.int p0), .val (.int p1), .val (.int p2), .val (.int p3), .val (.ref bb1), .val (.ref bb4), .val (.int (1 : Int32)), .val (.int (0 : Int32)), .unset, .unset, .unset] [.null, (.ref b46), (.ref b46)]) _
      refine Go.of (fun tg_ kk_ => XS.goto X46.here hx rfl (pc0 := 48) (pc' := 53) rfl (hb hby at_48) (by decide) (by decide) kk_) ?_
      show Go p e below T46 (mkF m 53 #[.val (.int p0), .val (.int p1), .val (.int p2), .val (.int p3), .val (.ref bb1), .val (.ref bb4), .val (.int (1 : Int32)), .val (.int (0 : Int32)), .unset, .unset, .unset] [.null, (.ref b46), (.ref b46)]) _
      refine Go.of (fun tg_ kk_ => XS.iload X46.here hx rfl (hb hby at_53) rfl kk_) ?_
      show Go p e below T46 (mkF m 55 #[.val (.int p0), .val (.int p1), .val (.int p2), .val (.int p3), .val (.ref bb1), .val (.ref bb4), .val (.int (1 : Int32)), .val (.int (0 : Int32)), .unset, .unset, .unset] [(.int (0 : Int32)), .null, (.ref b46), (.ref b46)]) _
      refine Go.of (fun tg_ kk_ => XS.ifYes X46.here hx rfl (pc0 := 55) (pc' := 62) rfl (hb hby at_55) rfl ((if0 _ _).trans (teq (show (0 : Int32) = (0 : Int32) by decide)).1) (by decide) (by decide) kk_) ?_
      show Go p e below T46 (mkF m 62 #[.val (.int p0), .val (.int p1), .val (.int p2), .val (.int p3), .val (.ref bb1), .val (.ref bb4), .val (.int (1 : Int32)), .val (.int (0 : Int32)), .unset, .unset, .unset] [.null, (.ref b46), (.ref b46)]) _
      refine Go.of (fun tg_ kk_ => XS.aload X46.here hx rfl (hb hby at_62) rfl rfl kk_) ?_
      show Go p e below T46 (mkF m 64 #[.val (.int p0), .val (.int p1), .val (.int p2), .val (.int p3), .val (.ref bb1), .val (.ref bb4), .val (.int (1 : Int32)), .val (.int (0 : Int32)), .unset, .unset, .unset] [(.ref bb4), .null, (.ref b46), (.ref b46)]) _
      obtain ⟨_, _, ⟨T55, L55, k55, n55⟩, -, X55, ⟨Lc55, hQ55, l55, y55, z55⟩, st55⟩ := X46.specialBack hx (y := (⟨"com/example/planwright/planwright/planner/SharedAtoms$Among", "<init>", "([Z[Z)V"⟩ : MethodName)) rfl hown (mvT hZ (hw _ (List.mem_of_getElem? (i := 8) rfl))) (mvT hZ (hw _ (List.mem_of_getElem? (i := 9) rfl))) (mvT hZ (hw _ (List.mem_of_getElem? (i := 10) rfl))) (by decide) (backOf (W := 1) (rm2_10 l Z a0 hw [] b46 bb4 h46 n0 Zs52 gx46 A46 F53 F54) hZ (hw _ (List.mem_of_getElem? (i := 10) rfl)) (hw _ (List.mem_of_getElem? (i := 7) rfl)) (by decide) (by decide)) (g := (mkF m 64 #[.val (.int p0), .val (.int p1), .val (.int p2), .val (.int p3), .val (.ref bb1), .val (.ref bb4), .val (.int (1 : Int32)), .val (.int (0 : Int32)), .unset, .unset, .unset] [(.ref bb4), .null, (.ref b46), (.ref b46)])) rfl (by rw [hml]; rfl) (Steps.refl _) (a := b46) (argsL := [.null, (.ref bb4)]) (rest := [(.ref b46)]) (lenOf pd_2 rfl) rfl (by show 2 * 0 + _ ≤ _; exact Nat.le_of_eq rfl) (hb hby at_64) (fun _ _ => ⟨rfl, e46, (by decide : 3 + 0 ≤ _), (by decide : 10 + 0 ≤ _)⟩)
      dsimp only [Pt.U, Pt.locs, Pt.cells, Pt.slots] at X55 l55 y55 z55 st55 hQ55
      subst l55 y55 z55
      obtain ⟨rfl, N55q, K55q, F55a⟩ := hQ55
      have N55 := Fr.app N4 N55q
      have F56 := F49.keep K55q (ninS ne47 nin0)
      have F57 := F50.keep K55q (ninS ne48 nin0)
      have F58 := A46.keep K55q
      have K61 := K51.trans K55q (allS (Or.inr sz46) all0)
      have Zs62 : n0 ≤ T55.heap.size := Nat.le_trans Zs52 K55q.1
      refine Go.of (fun tg_ kk_ => st55.trans kk_) ?_
      show Go p e below T55 (mkF m 67 #[.val (.int p0), .val (.int p1), .val (.int p2), .val (.int p3), .val (.ref bb1), .val (.ref bb4), .val (.int (1 : Int32)), .val (.int (0 : Int32)), .unset, .unset, .unset] [(.ref b46)]) _
      refine Go.of (fun tg_ kk_ => XS.astore X55.here hx rfl (hb hby at_67) rfl rfl (l' := #[.val (.int p0), .val (.int p1), .val (.int p2), .val (.int p3), .val (.ref bb1), .val (.ref bb4), .val (.int (1 : Int32)), .val (.int (0 : Int32)), .val (.ref b46), .unset, .unset]) rfl kk_) ?_
      show Go p e below T55 (mkF m 69 #[.val (.int p0), .val (.int p1), .val (.int p2), .val (.int p3), .val (.ref bb1), .val (.ref bb4), .val (.int (1 : Int32)), .val (.int (0 : Int32)), .val (.ref b46), .unset, .unset] []) _
      refine Go.of (fun tg_ kk_ => XS.iload X55.here hx rfl (hb hby at_69) rfl kk_) ?_
      show Go p e below T55 (mkF m 71 #[.val (.int p0), .val (.int p1), .val (.int p2), .val (.int p3), .val (.ref bb1), .val (.ref bb4), .val (.int (1 : Int32)), .val (.int (0 : Int32)), .val (.ref b46), .unset, .unset] [(.int (0 : Int32))]) _
      refine Go.of (fun tg_ kk_ => XS.ifYes X55.here hx rfl (pc0 := 71) (pc' := 89) rfl (hb hby at_71) rfl ((if0 _ _).trans (teq (show (0 : Int32) = (0 : Int32) by decide)).1) (by decide) (by decide) kk_) ?_
      show Go p e below T55 (mkF m 89 #[.val (.int p0), .val (.int p1), .val (.int p2), .val (.int p3), .val (.ref bb1), .val (.ref bb4), .val (.int (1 : Int32)), .val (.int (0 : Int32)), .val (.ref b46), .unset, .unset] []) _
      refine Go.of (fun tg_ kk_ => XS.iloadN X55.here hx rfl (hb hby at_89) rfl kk_) ?_
      show Go p e below T55 (mkF m 90 #[.val (.int p0), .val (.int p1), .val (.int p2), .val (.int p3), .val (.ref bb1), .val (.ref bb4), .val (.int (1 : Int32)), .val (.int (0 : Int32)), .val (.ref b46), .unset, .unset] [(.int p2)]) _
      refine Go.of (fun tg_ kk_ => XS.iconst X55.here hx rfl (hb hby at_90) kk_) ?_
      show Go p e below T55 (mkF m 91 #[.val (.int p0), .val (.int p1), .val (.int p2), .val (.int p3), .val (.ref bb1), .val (.ref bb4), .val (.int (1 : Int32)), .val (.int (0 : Int32)), .val (.ref b46), .unset, .unset] [(.int (3 : Int32)), (.int p2)]) _
      refine Go.of (fun tg_ kk_ => XS.iand X55.here hx rfl (hb hby at_91) rfl kk_) ?_
      show Go p e below T55 (mkF m 92 #[.val (.int p0), .val (.int p1), .val (.int p2), .val (.int p3), .val (.ref bb1), .val (.ref bb4), .val (.int (1 : Int32)), .val (.int (0 : Int32)), .val (.ref b46), .unset, .unset] [(.int (p2 &&& (3 : Int32)))]) _
      obtain ⟨pp, qpp⟩ : ∃ z : Int32, z = (p2 &&& (3 : Int32)) := ⟨_, rfl⟩
      rw [← qpp]
      show Go p e below T55 (mkF m 92 #[.val (.int p0), .val (.int p1), .val (.int p2), .val (.int p3), .val (.ref bb1), .val (.ref bb4), .val (.int (1 : Int32)), .val (.int (0 : Int32)), .val (.ref b46), .unset, .unset] [(.int pp)]) _
      have hin : ¬ (pp < 0) ∧ (pp).toNatClampNeg < 4 := by rw [qpp]; exact own_in3 p2
      refine Go.of (fun tg_ kk_ => XS.istore X55.here hx rfl (hb hby at_92) rfl (l' := #[.val (.int p0), .val (.int p1), .val (.int p2), .val (.int p3), .val (.ref bb1), .val (.ref bb4), .val (.int (1 : Int32)), .val (.int (0 : Int32)), .val (.ref b46), .val (.int pp), .unset]) rfl kk_) ?_
      show Go p e below T55 (mkF m 94 #[.val (.int p0), .val (.int p1), .val (.int p2), .val (.int p3), .val (.ref bb1), .val (.ref bb4), .val (.int (1 : Int32)), .val (.int (0 : Int32)), .val (.ref b46), .val (.int pp), .unset] []) _
      refine Go.of (fun tg_ kk_ => XS.iloadN X55.here hx rfl (hb hby at_94) rfl kk_) ?_
      show Go p e below T55 (mkF m 95 #[.val (.int p0), .val (.int p1), .val (.int p2), .val (.int p3), .val (.ref bb1), .val (.ref bb4), .val (.int (1 : Int32)), .val (.int (0 : Int32)), .val (.ref b46), .val (.int pp), .unset] [(.int p1)]) _
      refine Go.of (fun tg_ kk_ => XS.iload X55.here hx rfl (hb hby at_95) rfl kk_) ?_
      show Go p e below T55 (mkF m 97 #[.val (.int p0), .val (.int p1), .val (.int p2), .val (.int p3), .val (.ref bb1), .val (.ref bb4), .val (.int (1 : Int32)), .val (.int (0 : Int32)), .val (.ref b46), .val (.int pp), .unset] [(.int pp), (.int p1)]) _
      refine Go.of (fun tg_ kk_ => XS.iushr X55.here hx rfl (hb hby at_97) rfl kk_) ?_
      show Go p e below T55 (mkF m 98 #[.val (.int p0), .val (.int p1), .val (.int p2), .val (.int p3), .val (.ref bb1), .val (.ref bb4), .val (.int (1 : Int32)), .val (.int (0 : Int32)), .val (.ref b46), .val (.int pp), .unset] [(.int ((p1.toUInt32 >>> (pp &&& 31).toUInt32).toInt32))]) _
      refine Go.of (fun tg_ kk_ => XS.iconst X55.here hx rfl (hb hby at_98) kk_) ?_
      show Go p e below T55 (mkF m 99 #[.val (.int p0), .val (.int p1), .val (.int p2), .val (.int p3), .val (.ref bb1), .val (.ref bb4), .val (.int (1 : Int32)), .val (.int (0 : Int32)), .val (.ref b46), .val (.int pp), .unset] [(.int (1 : Int32)), (.int ((p1.toUInt32 >>> (pp &&& 31).toUInt32).toInt32))]) _
      refine Go.of (fun tg_ kk_ => XS.iand X55.here hx rfl (hb hby at_99) rfl kk_) ?_
      show Go p e below T55 (mkF m 100 #[.val (.int p0), .val (.int p1), .val (.int p2), .val (.int p3), .val (.ref bb1), .val (.ref bb4), .val (.int (1 : Int32)), .val (.int (0 : Int32)), .val (.ref b46), .val (.int pp), .unset] [(.int (((p1.toUInt32 >>> (pp &&& 31).toUInt32).toInt32) &&& (1 : Int32)))]) _
      have st63 : ∀ ex : Int32, ex = (if (((p1.toUInt32 >>> (pp &&& 31).toUInt32).toInt32) &&& (1 : Int32)) = (0 : Int32) then (0 : Int32) else (1 : Int32)) → ∀ t, Steps p.tables e below (T55.setTop (mkF m 108 #[.val (.int p0), .val (.int p1), .val (.int p2), .val (.int p3), .val (.ref bb1), .val (.ref bb4), .val (.int (1 : Int32)), .val (.int (0 : Int32)), .val (.ref b46), .val (.int pp), .unset] [(.int ex)])) t → Steps p.tables e below (T55.setTop (mkF m 100 #[.val (.int p0), .val (.int p1), .val (.int p2), .val (.int p3), .val (.ref bb1), .val (.ref bb4), .val (.int (1 : Int32)), .val (.int (0 : Int32)), .val (.ref b46), .val (.int pp), .unset] [(.int (((p1.toUInt32 >>> (pp &&& 31).toUInt32).toInt32) &&& (1 : Int32)))])) t := by
        intro ex qex tg_ kk_
        by_cases hc : (((p1.toUInt32 >>> (pp &&& 31).toUInt32).toInt32) &&& (1 : Int32)) = (0 : Int32)
        · rw [if_pos hc] at qex; rw [qex] at kk_
          show Steps p.tables e below (T55.setTop (mkF m 100 #[.val (.int p0), .val (.int p1), .val (.int p2), .val (.int p3), .val (.ref bb1), .val (.ref bb4), .val (.int (1 : Int32)), .val (.int (0 : Int32)), .val (.ref b46), .val (.int pp), .unset] [(.int (((p1.toUInt32 >>> (pp &&& 31).toUInt32).toInt32) &&& (1 : Int32)))])) _
          refine XS.ifYes X55.here hx rfl (pc0 := 100) (pc' := 107) rfl (hb hby at_100) rfl ((if0 _ _).trans (teq hc).1) (by decide) (by decide) ?_
          show Steps p.tables e below (T55.setTop (mkF m 107 #[.val (.int p0), .val (.int p1), .val (.int p2), .val (.int p3), .val (.ref bb1), .val (.ref bb4), .val (.int (1 : Int32)), .val (.int (0 : Int32)), .val (.ref b46), .val (.int pp), .unset] [])) _
          refine XS.iconst X55.here hx rfl (hb hby at_107) ?_
          show Steps p.tables e below (T55.setTop (mkF m 108 #[.val (.int p0), .val (.int p1), .val (.int p2), .val (.int p3), .val (.ref bb1), .val (.ref bb4), .val (.int (1 : Int32)), .val (.int (0 : Int32)), .val (.ref b46), .val (.int pp), .unset] [(.int (0 : Int32))])) _
          exact kk_
        · rw [if_neg hc] at qex; rw [qex] at kk_
          show Steps p.tables e below (T55.setTop (mkF m 100 #[.val (.int p0), .val (.int p1), .val (.int p2), .val (.int p3), .val (.ref bb1), .val (.ref bb4), .val (.int (1 : Int32)), .val (.int (0 : Int32)), .val (.ref b46), .val (.int pp), .unset] [(.int (((p1.toUInt32 >>> (pp &&& 31).toUInt32).toInt32) &&& (1 : Int32)))])) _
          refine XS.ifNo X55.here hx rfl (hb hby at_100) rfl ((if0 _ _).trans (feq hc).1) ?_
          show Steps p.tables e below (T55.setTop (mkF m 103 #[.val (.int p0), .val (.int p1), .val (.int p2), .val (.int p3), .val (.ref bb1), .val (.ref bb4), .val (.int (1 : Int32)), .val (.int (0 : Int32)), .val (.ref b46), .val (.int pp), .unset] [])) _
          refine XS.iconst X55.here hx rfl (hb hby at_103) ?_
          show Steps p.tables e below (T55.setTop (mkF m 104 #[.val (.int p0), .val (.int p1), .val (.int p2), .val (.int p3), .val (.ref bb1), .val (.ref bb4), .val (.int (1 : Int32)), .val (.int (0 : Int32)), .val (.ref b46), .val (.int pp), .unset] [(.int (1 : Int32))])) _
          refine XS.goto X55.here hx rfl (pc0 := 104) (pc' := 108) rfl (hb hby at_104) (by decide) (by decide) ?_
          show Steps p.tables e below (T55.setTop (mkF m 108 #[.val (.int p0), .val (.int p1), .val (.int p2), .val (.int p3), .val (.ref bb1), .val (.ref bb4), .val (.int (1 : Int32)), .val (.int (0 : Int32)), .val (.ref b46), .val (.int pp), .unset] [(.int (1 : Int32))])) _
          exact kk_
      obtain ⟨ex, qex⟩ : ∃ z : Int32, z = (if (((p1.toUInt32 >>> (pp &&& 31).toUInt32).toInt32) &&& (1 : Int32)) = (0 : Int32) then (0 : Int32) else (1 : Int32)) := ⟨_, rfl⟩
      refine Go.of (st63 ex qex) ?_
      show Go p e below T55 (mkF m 108 #[.val (.int p0), .val (.int p1), .val (.int p2), .val (.int p3), .val (.ref bb1), .val (.ref bb4), .val (.int (1 : Int32)), .val (.int (0 : Int32)), .val (.ref b46), .val (.int pp), .unset] [(.int ex)]) _
      refine Go.of (fun tg_ kk_ => XS.istore X55.here hx rfl (hb hby at_108) rfl (l' := #[.val (.int p0), .val (.int p1), .val (.int p2), .val (.int p3), .val (.ref bb1), .val (.ref bb4), .val (.int (1 : Int32)), .val (.int (0 : Int32)), .val (.ref b46), .val (.int pp), .val (.int ex)]) rfl kk_) ?_
      show Go p e below T55 (mkF m 110 #[.val (.int p0), .val (.int p1), .val (.int p2), .val (.int p3), .val (.ref bb1), .val (.ref bb4), .val (.int (1 : Int32)), .val (.int (0 : Int32)), .val (.ref b46), .val (.int pp), .val (.int ex)] []) _
      refine Go.of (fun tg_ kk_ => XS.aload X55.here hx rfl (hb hby at_110) rfl rfl kk_) ?_
      show Go p e below T55 (mkF m 112 #[.val (.int p0), .val (.int p1), .val (.int p2), .val (.int p3), .val (.ref bb1), .val (.ref bb4), .val (.int (1 : Int32)), .val (.int (0 : Int32)), .val (.ref b46), .val (.int pp), .val (.int ex)] [(.ref b46)]) _
      refine Go.of (fun tg_ kk_ => XS.iload X55.here hx rfl (hb hby at_112) rfl kk_) ?_
      show Go p e below T55 (mkF m 114 #[.val (.int p0), .val (.int p1), .val (.int p2), .val (.int p3), .val (.ref bb1), .val (.ref bb4), .val (.int (1 : Int32)), .val (.int (0 : Int32)), .val (.ref b46), .val (.int pp), .val (.int ex)] [(.int pp), (.ref b46)]) _
      obtain ⟨cq64, kq64, q64a, q64b, q64c⟩ := isOf hZ rfl F58
      obtain ⟨_, _, ⟨T64, L64, k64, n64⟩, -, X64, ⟨Lc64, hQ64, l64, y64, z64⟩, st64⟩ := X55.virtualBack hx (y := (⟨"com/example/planwright/planwright/planner/SharedAtoms$Among", "beside", "(I)Z"⟩ : MethodName)) (z := (⟨"com/example/planwright/planwright/planner/SharedAtoms$Among", "beside", "(I)Z"⟩ : MethodName)) hown (mvT hZ (hw _ (List.mem_of_getElem? (i := 23) rfl))) (mvT hZ (hw _ (List.mem_of_getElem? (i := 24) rfl))) (notFace_of_selects (args := #[]) (mvT hZ (hw _ (List.mem_of_getElem? (i := 26) rfl)))) (mvT hZ (hw _ (List.mem_of_getElem? (i := 26) rfl))) (mvT hZ (hw _ (List.mem_of_getElem? (i := 25) rfl))) (by decide) (backOf (W := 0) (rm5 l Z a0 hw [] b46 pp bb4 (bitsF p1) T55.heap n0 Zs62 F55a F57 hin) hZ (hw _ (List.mem_of_getElem? (i := 27) rfl)) (hw _ (List.mem_of_getElem? (i := 7) rfl)) (by decide) (by decide)) q64a q64c (g := (mkF m 114 #[.val (.int p0), .val (.int p1), .val (.int p2), .val (.int p3), .val (.ref bb1), .val (.ref bb4), .val (.int (1 : Int32)), .val (.int (0 : Int32)), .val (.ref b46), .val (.int pp), .val (.int ex)] [(.int pp), (.ref b46)])) rfl (by rw [hml]; rfl) (Steps.refl _) (argsL := [(.int pp)]) (rest := []) (lenOf pd_3 rfl) rfl (by show 2 * 0 + _ ≤ _; exact Nat.le_of_eq rfl) (hb hby at_114) (fun _ _ => ⟨rfl, rfl, (by decide : 3 + 0 ≤ _), (by decide : 10 + 0 ≤ _)⟩)
      dsimp only [Pt.U, Pt.locs, Pt.cells, Pt.slots] at X64 l64 y64 z64 st64 hQ64
      subst l64 y64 z64
      obtain ⟨rfl, N64q, e64⟩ := hQ64
      have N64 := Fr.app N55 N64q
      refine Go.of (fun tg_ kk_ => st64.trans kk_) ?_
      show Go p e below T64 (mkF m 117 #[.val (.int p0), .val (.int p1), .val (.int p2), .val (.int p3), .val (.ref bb1), .val (.ref bb4), .val (.int (1 : Int32)), .val (.int (0 : Int32)), .val (.ref b46), .val (.int pp), .val (.int ex)] [(.int (if bitsF p1 (pp).toNatClampNeg = 0 then (0 : Int32) else (1 : Int32)))]) _
      refine Go.of (fun tg_ kk_ => XS.iload X64.here hx rfl (hb hby at_117) rfl kk_) ?_
      show Go p e below T64 (mkF m 119 #[.val (.int p0), .val (.int p1), .val (.int p2), .val (.int p3), .val (.ref bb1), .val (.ref bb4), .val (.int (1 : Int32)), .val (.int (0 : Int32)), .val (.ref b46), .val (.int pp), .val (.int ex)] [(.int ex), (.int (if bitsF p1 (pp).toNatClampNeg = 0 then (0 : Int32) else (1 : Int32)))]) _
      refine Go.of (fun tg_ kk_ => XS.icmpNo X64.here hx rfl (hb hby at_119) rfl (teq (show (if bitsF p1 (pp).toNatClampNeg = 0 then (0 : Int32) else (1 : Int32)) = ex from (by rw [qex]; exact own_weighs p1 pp hin))).2 kk_) ?_
      show Go p e below T64 (mkF m 122 #[.val (.int p0), .val (.int p1), .val (.int p2), .val (.int p3), .val (.ref bb1), .val (.ref bb4), .val (.int (1 : Int32)), .val (.int (0 : Int32)), .val (.ref b46), .val (.int pp), .val (.int ex)] []) _
      refine Go.of (fun tg_ kk_ => XS.iconst X64.here hx rfl (hb hby at_122) kk_) ?_
      show Go p e below T64 (mkF m 123 #[.val (.int p0), .val (.int p1), .val (.int p2), .val (.int p3), .val (.ref bb1), .val (.ref bb4), .val (.int (1 : Int32)), .val (.int (0 : Int32)), .val (.ref b46), .val (.int pp), .val (.int ex)] [(.int (1 : Int32))]) _
      refine Go.of (fun tg_ kk_ => XS.goto X64.here hx rfl (pc0 := 123) (pc' := 127) rfl (hb hby at_123) (by decide) (by decide) kk_) ?_
      show Go p e below T64 (mkF m 127 #[.val (.int p0), .val (.int p1), .val (.int p2), .val (.int p3), .val (.ref bb1), .val (.ref bb4), .val (.int (1 : Int32)), .val (.int (0 : Int32)), .val (.ref b46), .val (.int pp), .val (.int ex)] [(.int (1 : Int32))]) _
      obtain ⟨fs, hr, hrun, hended, hW, hsame⟩ := X64.leave (v := some (.int (1 : Int32))) (fun h => by rw [Bd.returns] at h; cases h)
      refine ⟨_, _, ?_, hrun, hended, _, _, rfl, ?_, ⟨_, rfl⟩, hW, hsame.mono (by decide) (by decide)⟩
      · exact retN X64 hx (t := .boolean) Bd.returns (by simp) (hb hby at_127) hr
      · show Q0 Z p0 p1 p2 p3 h0 n0 _ T64.heap _
        rw [e64]
        exact ⟨rfl, N64⟩
    · skip
      refine Go.of (fun tg_ kk_ => XS.ifNo X4.here hx rfl (hb hby at_28) rfl ((if0 _ _).trans (feq he0).1) kk_) ?_
      show Go p e below T4 (mkF m 31 #[.val (.int p0), .val (.int p1), .val (.int p2), .val (.int p3), .val (.ref bb1), .val (.ref bb4), .val (.int (1 : Int32)), .unset, .unset, .unset, .unset] []) _
      refine Go.of (fun tg_ kk_ => XS.iconst X4.here hx rfl (hb hby at_31) kk_) ?_
      show Go p e below T4 (mkF m 32 #[.val (.int p0), .val (.int p1), .val (.int p2), .val (.int p3), .val (.ref bb1), .val (.ref bb4), .val (.int (1 : Int32)), .unset, .unset, .unset, .unset] [(.int (1 : Int32))]) _
      refine Go.of (fun tg_ kk_ => XS.goto X4.here hx rfl (pc0 := 32) (pc' := 36) rfl (hb hby at_32) (by decide) (by decide) kk_) ?_
      show Go p e below T4 (mkF m 36 #[.val (.int p0), .val (.int p1), .val (.int p2), .val (.int p3), .val (.ref bb1), .val (.ref bb4), .val (.int (1 : Int32)), .unset, .unset, .unset, .unset] [(.int (1 : Int32))]) _
      refine Go.of (fun tg_ kk_ => XS.istore X4.here hx rfl (hb hby at_36) rfl (l' := #[.val (.int p0), .val (.int p1), .val (.int p2), .val (.int p3), .val (.ref bb1), .val (.ref bb4), .val (.int (1 : Int32)), .val (.int (1 : Int32)), .unset, .unset, .unset]) rfl kk_) ?_
      show Go p e below T4 (mkF m 38 #[.val (.int p0), .val (.int p1), .val (.int p2), .val (.int p3), .val (.ref bb1), .val (.ref bb4), .val (.int (1 : Int32)), .val (.int (1 : Int32)), .unset, .unset, .unset] []) _
      obtain ⟨T65, h65, X65, e65, E65, A65, D65, -, st65⟩ := newO X4 hx hZ hown (hw _ (List.mem_of_getElem? (i := 5) rfl)) (hw _ (List.mem_of_getElem? (i := 6) rfl)) (hw _ (List.mem_of_getElem? (i := 7) rfl)) rfl (g := (mkF m 38 #[.val (.int p0), .val (.int p1), .val (.int p2), .val (.int p3), .val (.ref bb1), .val (.ref bb4), .val (.int (1 : Int32)), .val (.int (1 : Int32)), .unset, .unset, .unset] [])) rfl (hb hby at_38) (by decide) (by decide)
      obtain ⟨b65, g65⟩ : ∃ z, z = T4.heap.size := ⟨_, rfl⟩
      rw [← g65] at A65 D65 st65
      have gx65 : n0 ≤ b65 := Nat.le_trans Zs8 (Nat.le_of_eq g65.symm)
      have sz65 : h0.size ≤ b65 := Nat.le_trans K7.1 (Nat.le_of_eq g65.symm)
      have ne66 : bb1 ≠ b65 := Nat.ne_of_lt (Nat.lt_of_lt_of_le F6.lt (Nat.le_of_eq g65.symm))
      have ne67 : bb4 ≠ b65 := Nat.ne_of_lt (Nat.lt_of_lt_of_le V4.lt (Nat.le_of_eq g65.symm))
      have F68 := F6.ext E65
      have F69 := V4.ext E65
      have K70 := K7.ext E65
      have Zs71 : n0 ≤ h65.size := Nat.le_trans Zs8 E65.1
      have F72 : Fld Z h65 b65 "com/example/planwright/planwright/planner/SharedAtoms$Among" "weighed" "[Z" .null := D65 (Or.inr (hw _ (List.mem_of_getElem? (i := 20) rfl))) (ty := (.array .boolean)) (by decide)
      have F73 : Fld Z h65 b65 "com/example/planwright/planwright/planner/SharedAtoms$Among" "elsewhere" "[Z" .null := D65 (Or.inr (hw _ (List.mem_of_getElem? (i := 22) rfl))) (ty := (.array .boolean)) (by decide)
      refine Go.of (st65) ?_
      show Go p e below T65 (mkF m 41 #[.val (.int p0), .val (.int p1), .val (.int p2), .val (.int p3), .val (.ref bb1), .val (.ref bb4), .val (.int (1 : Int32)), .val (.int (1 : Int32)), .unset, .unset, .unset] [(.ref b65)]) _
      refine Go.of (fun tg_ kk_ => XS.dup X65.here hx rfl (hb hby at_41) rfl rfl kk_) ?_
      show Go p e below T65 (mkF m 42 #[.val (.int p0), .val (.int p1), .val (.int p2), .val (.int p3), .val (.ref bb1), .val (.ref bb4), .val (.int (1 : Int32)), .val (.int (1 : Int32)), .unset, .unset, .unset] [(.ref b65), (.ref b65)]) _
      refine Go.of (fun tg_ kk_ => XS.iload X65.here hx rfl (hb hby at_42) rfl kk_) ?_
      show Go p e below T65 (mkF m 44 #[.val (.int p0), .val (.int p1), .val (.int p2), .val (.int p3), .val (.ref bb1), .val (.ref bb4), .val (.int (1 : Int32)), .val (.int (1 : Int32)), .unset, .unset, .unset] [(.int (1 : Int32)), (.ref b65), (.ref b65)]) _
      refine Go.of (fun tg_ kk_ => XS.ifNo X65.here hx rfl (hb hby at_44) rfl ((if0 _ _).trans (feq (show ¬ ((1 : Int32) = (0 : Int32)) by decide)).1) kk_) ?_
      show Go p e below T65 (mkF m 47 #[.val (.int p0), .val (.int p1), .val (.int p2), .val (.int p3), .val (.ref bb1), .val (.ref bb4), .val (.int (1 : Int32)), .val (.int (1 : Int32)), .unset, .unset, .unset] [(.ref b65), (.ref b65)]) _
      refine Go.of (fun tg_ kk_ => XS.aconstNull X65.here hx rfl (hb hby at_47) kk_) ?_
      show Go p e below T65 (mkF m 48 #[.val (.int p0), .val (.int p1), .val (.int p2), .val (.int p3), .val (.ref bb1), .val (.ref bb4), .val (.int (1 : Int32)), .val (.int (1 : Int32)), .unset, .unset, .unset] [.null, (.ref b65), (.ref b65)]) _
      refine Go.of (fun tg_ kk_ => XS.goto X65.here hx rfl (pc0 := 48) (pc' := 53) rfl (hb hby at_48) (by decide) (by decide) kk_) ?_
      show Go p e below T65 (mkF m 53 #[.val (.int p0), .val (.int p1), .val (.int p2), .val (.int p3), .val (.ref bb1), .val (.ref bb4), .val (.int (1 : Int32)), .val (.int (1 : Int32)), .unset, .unset, .unset] [.null, (.ref b65), (.ref b65)]) _
      refine Go.of (fun tg_ kk_ => XS.iload X65.here hx rfl (hb hby at_53) rfl kk_) ?_
      show Go p e below T65 (mkF m 55 #[.val (.int p0), .val (.int p1), .val (.int p2), .val (.int p3), .val (.ref bb1), .val (.ref bb4), .val (.int (1 : Int32)), .val (.int (1 : Int32)), .unset, .unset, .unset] [(.int (1 : Int32)), .null, (.ref b65), (.ref b65)]) _
      refine Go.of (fun tg_ kk_ => XS.ifNo X65.here hx rfl (hb hby at_55) rfl ((if0 _ _).trans (feq (show ¬ ((1 : Int32) = (0 : Int32)) by decide)).1) kk_) ?_
      show Go p e below T65 (mkF m 58 #[.val (.int p0), .val (.int p1), .val (.int p2), .val (.int p3), .val (.ref bb1), .val (.ref bb4), .val (.int (1 : Int32)), .val (.int (1 : Int32)), .unset, .unset, .unset] [.null, (.ref b65), (.ref b65)]) _
      refine Go.of (fun tg_ kk_ => XS.aconstNull X65.here hx rfl (hb hby at_58) kk_) ?_
      show Go p e below T65 (mkF m 59 #[.val (.int p0), .val (.int p1), .val (.int p2), .val (.int p3), .val (.ref bb1), .val (.ref bb4), .val (.int (1 : Int32)), .val (.int (1 : Int32)), .unset, .unset, .unset] [.null, .null, (.ref b65), (.ref b65)]) _
      refine Go.of (fun tg_ kk_ => XS.goto X65.here hx rfl (pc0 := 59) (pc' := 64) rfl (hb hby at_59) (by decide) (by decide) kk_) ?_
      show Go p e below T65 (mkF m 64 #[.val (.int p0), .val (.int p1), .val (.int p2), .val (.int p3), .val (.ref bb1), .val (.ref bb4), .val (.int (1 : Int32)), .val (.int (1 : Int32)), .unset, .unset, .unset] [.null, .null, (.ref b65), (.ref b65)]) _
      obtain ⟨_, _, ⟨T74, L74, k74, n74⟩, -, X74, ⟨Lc74, hQ74, l74, y74, z74⟩, st74⟩ := X65.specialBack hx (y := (⟨"com/example/planwright/planwright/planner/SharedAtoms$Among", "<init>", "([Z[Z)V"⟩ : MethodName)) rfl hown (mvT hZ (hw _ (List.mem_of_getElem? (i := 8) rfl))) (mvT hZ (hw _ (List.mem_of_getElem? (i := 9) rfl))) (mvT hZ (hw _ (List.mem_of_getElem? (i := 10) rfl))) (by decide) (backOf (W := 1) (rm2_11 l Z a0 hw [] b65 h65 n0 Zs71 gx65 A65 F72 F73) hZ (hw _ (List.mem_of_getElem? (i := 10) rfl)) (hw _ (List.mem_of_getElem? (i := 7) rfl)) (by decide) (by decide)) (g := (mkF m 64 #[.val (.int p0), .val (.int p1), .val (.int p2), .val (.int p3), .val (.ref bb1), .val (.ref bb4), .val (.int (1 : Int32)), .val (.int (1 : Int32)), .unset, .unset, .unset] [.null, .null, (.ref b65), (.ref b65)])) rfl (by rw [hml]; rfl) (Steps.refl _) (a := b65) (argsL := [.null, .null]) (rest := [(.ref b65)]) (lenOf pd_2 rfl) rfl (by show 2 * 0 + _ ≤ _; exact Nat.le_of_eq rfl) (hb hby at_64) (fun _ _ => ⟨rfl, e65, (by decide : 3 + 0 ≤ _), (by decide : 10 + 0 ≤ _)⟩)
      dsimp only [Pt.U, Pt.locs, Pt.cells, Pt.slots] at X74 l74 y74 z74 st74 hQ74
      subst l74 y74 z74
      obtain ⟨rfl, N74q, K74q, F74a⟩ := hQ74
      have N74 := Fr.app N4 N74q
      have F75 := F68.keep K74q (ninS ne66 nin0)
      have F76 := F69.keep K74q (ninS ne67 nin0)
      have F77 := A65.keep K74q
      have K80 := K70.trans K74q (allS (Or.inr sz65) all0)
      have Zs81 : n0 ≤ T74.heap.size := Nat.le_trans Zs71 K74q.1
      refine Go.of (fun tg_ kk_ => st74.trans kk_) ?_
      show Go p e below T74 (mkF m 67 #[.val (.int p0), .val (.int p1), .val (.int p2), .val (.int p3), .val (.ref bb1), .val (.ref bb4), .val (.int (1 : Int32)), .val (.int (1 : Int32)), .unset, .unset, .unset] [(.ref b65)]) _
      refine Go.of (fun tg_ kk_ => XS.astore X74.here hx rfl (hb hby at_67) rfl rfl (l' := #[.val (.int p0), .val (.int p1), .val (.int p2), .val (.int p3), .val (.ref bb1), .val (.ref bb4), .val (.int (1 : Int32)), .val (.int (1 : Int32)), .val (.ref b65), .unset, .unset]) rfl kk_) ?_
      show Go p e below T74 (mkF m 69 #[.val (.int p0), .val (.int p1), .val (.int p2), .val (.int p3), .val (.ref bb1), .val (.ref bb4), .val (.int (1 : Int32)), .val (.int (1 : Int32)), .val (.ref b65), .unset, .unset] []) _
      refine Go.of (fun tg_ kk_ => XS.iload X74.here hx rfl (hb hby at_69) rfl kk_) ?_
      show Go p e below T74 (mkF m 71 #[.val (.int p0), .val (.int p1), .val (.int p2), .val (.int p3), .val (.ref bb1), .val (.ref bb4), .val (.int (1 : Int32)), .val (.int (1 : Int32)), .val (.ref b65), .unset, .unset] [(.int (1 : Int32))]) _
      refine Go.of (fun tg_ kk_ => XS.ifNo X74.here hx rfl (hb hby at_71) rfl ((if0 _ _).trans (feq (show ¬ ((1 : Int32) = (0 : Int32)) by decide)).1) kk_) ?_
      show Go p e below T74 (mkF m 74 #[.val (.int p0), .val (.int p1), .val (.int p2), .val (.int p3), .val (.ref bb1), .val (.ref bb4), .val (.int (1 : Int32)), .val (.int (1 : Int32)), .val (.ref b65), .unset, .unset] []) _
      refine Go.of (fun tg_ kk_ => XS.aload X74.here hx rfl (hb hby at_74) rfl rfl kk_) ?_
      show Go p e below T74 (mkF m 76 #[.val (.int p0), .val (.int p1), .val (.int p2), .val (.int p3), .val (.ref bb1), .val (.ref bb4), .val (.int (1 : Int32)), .val (.int (1 : Int32)), .val (.ref b65), .unset, .unset] [(.ref b65)]) _
      refine Go.of (fun tg_ kk_ => XS.iloadN X74.here hx rfl (hb hby at_76) rfl kk_) ?_
      show Go p e below T74 (mkF m 77 #[.val (.int p0), .val (.int p1), .val (.int p2), .val (.int p3), .val (.ref bb1), .val (.ref bb4), .val (.int (1 : Int32)), .val (.int (1 : Int32)), .val (.ref b65), .unset, .unset] [(.int p2), (.ref b65)]) _
      obtain ⟨cq82, kq82, q82a, q82b, q82c⟩ := isOf hZ rfl F77
      obtain ⟨_, _, ⟨T82, L82, k82, n82⟩, -, X82, ⟨Lc82, hQ82, l82, y82, z82⟩, st82⟩ := X74.virtualBack hx (y := (⟨"com/example/planwright/planwright/planner/SharedAtoms$Among", "beside", "(I)Z"⟩ : MethodName)) (z := (⟨"com/example/planwright/planwright/planner/SharedAtoms$Among", "beside", "(I)Z"⟩ : MethodName)) hown (mvT hZ (hw _ (List.mem_of_getElem? (i := 23) rfl))) (mvT hZ (hw _ (List.mem_of_getElem? (i := 24) rfl))) (notFace_of_selects (args := #[]) (mvT hZ (hw _ (List.mem_of_getElem? (i := 26) rfl)))) (mvT hZ (hw _ (List.mem_of_getElem? (i := 26) rfl))) (mvT hZ (hw _ (List.mem_of_getElem? (i := 25) rfl))) (by decide) (backOf (W := 0) (rm5n l Z a0 hw [] b65 p2 T74.heap n0 Zs81 F74a) hZ (hw _ (List.mem_of_getElem? (i := 27) rfl)) (hw _ (List.mem_of_getElem? (i := 7) rfl)) (by decide) (by decide)) q82a q82c (g := (mkF m 77 #[.val (.int p0), .val (.int p1), .val (.int p2), .val (.int p3), .val (.ref bb1), .val (.ref bb4), .val (.int (1 : Int32)), .val (.int (1 : Int32)), .val (.ref b65), .unset, .unset] [(.int p2), (.ref b65)])) rfl (by rw [hml]; rfl) (Steps.refl _) (argsL := [(.int p2)]) (rest := []) (lenOf pd_3 rfl) rfl (by show 2 * 0 + _ ≤ _; exact Nat.le_of_eq rfl) (hb hby at_77) (fun _ _ => ⟨rfl, rfl, (by decide : 3 + 0 ≤ _), (by decide : 10 + 0 ≤ _)⟩)
      dsimp only [Pt.U, Pt.locs, Pt.cells, Pt.slots] at X82 l82 y82 z82 st82 hQ82
      subst l82 y82 z82
      obtain ⟨rfl, N82q, e82⟩ := hQ82
      have N82 := Fr.app N74 N82q
      refine Go.of (fun tg_ kk_ => st82.trans kk_) ?_
      show Go p e below T82 (mkF m 80 #[.val (.int p0), .val (.int p1), .val (.int p2), .val (.int p3), .val (.ref bb1), .val (.ref bb4), .val (.int (1 : Int32)), .val (.int (1 : Int32)), .val (.ref b65), .unset, .unset] [(.int (0 : Int32))]) _
      refine Go.of (fun tg_ kk_ => XS.ifNo X82.here hx rfl (hb hby at_80) rfl ((if0 _ _).trans (teq (show (0 : Int32) = (0 : Int32) by decide)).2) kk_) ?_
      show Go p e below T82 (mkF m 83 #[.val (.int p0), .val (.int p1), .val (.int p2), .val (.int p3), .val (.ref bb1), .val (.ref bb4), .val (.int (1 : Int32)), .val (.int (1 : Int32)), .val (.ref b65), .unset, .unset] []) _
      refine Go.of (fun tg_ kk_ => XS.iconst X82.here hx rfl (hb hby at_83) kk_) ?_
      show Go p e below T82 (mkF m 84 #[.val (.int p0), .val (.int p1), .val (.int p2), .val (.int p3), .val (.ref bb1), .val (.ref bb4), .val (.int (1 : Int32)), .val (.int (1 : Int32)), .val (.ref b65), .unset, .unset] [(.int (1 : Int32))]) _
      refine Go.of (fun tg_ kk_ => XS.goto X82.here hx rfl (pc0 := 84) (pc' := 88) rfl (hb hby at_84) (by decide) (by decide) kk_) ?_
      show Go p e below T82 (mkF m 88 #[.val (.int p0), .val (.int p1), .val (.int p2), .val (.int p3), .val (.ref bb1), .val (.ref bb4), .val (.int (1 : Int32)), .val (.int (1 : Int32)), .val (.ref b65), .unset, .unset] [(.int (1 : Int32))]) _
      obtain ⟨fs, hr, hrun, hended, hW, hsame⟩ := X82.leave (v := some (.int (1 : Int32))) (fun h => by rw [Bd.returns] at h; cases h)
      refine ⟨_, _, ?_, hrun, hended, _, _, rfl, ?_, ⟨_, rfl⟩, hW, hsame.mono (by decide) (by decide)⟩
      · exact retN X82 hx (t := .boolean) Bd.returns (by simp) (hb hby at_88) hr
      · show Q0 Z p0 p1 p2 p3 h0 n0 _ T82.heap _
        rw [e82]
        exact ⟨rfl, N82⟩
set_option maxRecDepth 65536 in
set_option maxHeartbeats 40000000 in
theorem comes_1 {Post : Tables → Env → Array Value → State → Outcome → State → Prop} (hpost : ∀ tb e args s v u, (limb_1_1.after args s (.returned v) u = true ∧ limb_1_2.after args s (.returned v) u = true ∧ True) → FrameEnd s (.returned v) u (Jvm.fieldLocs frame_1_writes args s ++ Jvm.arrayLocs frame_1_arrays args s ++ Jvm.staticLocs frame_1_statics s) 16 128 → Post tb e args s (.returned v) u) :
    ArmFor flags0 classFile x code maxLocals ret World_1 tables_1 room_1 Calls_1 rest_1 Pre_1 Post := by
  intro l hfl _ _ p e ha hc hk s m args below hf hA hF happ hP
  obtain ⟨hcalls, hrest, hpre⟩ := hP
  obtain ⟨-, -, -, hnamed, -, -, -, hat⟩ := (Spec.applies_iff hf).mp happ
  obtain ⟨hg, hn⟩ := and_e (Cond.before_iff.mp (show (Jvm.Cond.and given_1 narrow_1).before args s = true from hpre))
  obtain ⟨gc, gr0⟩ := and_e hg
  obtain ⟨ga0, gr1⟩ := and_e gr0
  obtain ⟨ga1, gr2⟩ := and_e gr1
  obtain ⟨ga2, gr3⟩ := and_e gr2
  obtain ⟨w0, w1, w2, w3, rfl⟩ : ∃ w0 w1 w2 w3 : Value, args = #[w0, w1, w2, w3] := by
    have hs : args.size = 4 := by simpa [Cond.value, given_1] using gc
    obtain ⟨L⟩ := args
    match L, hs with
    | [w0, w1, w2, w3], _ => exact ⟨w0, w1, w2, w3, rfl⟩
  have hw := fun d (hd : d ∈ tables_1) => atoms_spec (ws := Jvm.Cond.code x code maxLocals ret :: tables_1) hat d (List.mem_cons_of_mem _ hd)
  obtain ⟨i0, ei0⟩ := is_v ga0
  obtain rfl : w0 = (.int i0) := Option.some.inj ei0
  obtain ⟨i1, ei1⟩ := is_v ga1
  obtain rfl : w1 = (.int i1) := Option.some.inj ei1
  obtain ⟨i2, ei2⟩ := is_v ga2
  obtain rfl : w2 = (.int i2) := Option.some.inj ei2
  obtain ⟨i3, ei3⟩ := is_v gr3
  obtain rfl : w3 = (.int i3) := Option.some.inj ei3
  obtain ⟨n, o, h1, h2, h3, _, L, rfl, ⟨rfl, N⟩, hq⟩ := rm0 l s _ hw tables_1 i0 i1 i2 i3 s.heap s.heap.size (Nat.le_refl _) p e ha hc hk s m _ below hf ((Spec.applies_iff_loose hf).mp happ).1 ⟨rfl, State.Warmed39.refl s, rfl⟩ trivial
  refine ⟨n, _, h1, h2, h3, hpost _ _ _ _ _ _ ⟨Cond.after_iff.mpr rfl, Cond.after_iff.mpr (eq_i res_at (Term.int_eval (1)) rfl), trivial⟩ ⟨hq.1, hq.2.1, (hq.2.2.sift fun y hy => Or.inr (N y hy)).mono (by decide) (by decide)⟩⟩
theorem main_1_1 : Claimed_1_1 := comes_1 fun _ _ _ _ _ _ h hF => ⟨h.1, hF⟩
theorem main_1_2 : Claimed_1_2 := comes_1 fun _ _ _ _ _ _ h hF => ⟨h.2.1, hF⟩
end Jvm.Pilot.@@N@@
namespace Jvm.Pilot.@@N@@
open Jvm Jvm.ClassFile Sem Op Lib Jvm.Free Jvm.Stand Jvm.Pilot.@@N@@.Jvm.D
/-! MADE BY PROGRAM (witnessworld.py) out of the Statement's table words and the real class files: 12 classes; the members and pool entries that the words name. The judged class is class 1, her method 2. -/
namespace start1
open Jvm.ClassFile
def u (s : String) : CpInfo := .utf8 (stringToUtf16 s)
/-- a pool by its gaps: so many unusable entries, then the entry; so many at the end -/
def gap : Nat → List CpInfo → List CpInfo
  | 0, r => r
  | n + 1, r => .unusable :: gap n r
def poolList (es : List (Nat × CpInfo)) (last : Nat) : List CpInfo := es.foldr (fun e r => gap e.1 (e.2 :: r)) (gap last [])
def pool (es : List (Nat × CpInfo)) (last : Nat) : Array CpInfo := ⟨poolList es last⟩
def fileOf (pool : Array CpInfo) (this : Nat) (attrs : Array Attribute := #[]) (ms : Array MethodInfo := #[]) (fl : Nat := 33) (sup : Nat := 0) (ifs : Array Nat := #[]) (fds : Array FieldInfo := #[]) : ClassFile where
  minorVersion := 0
  majorVersion := 65
  constantPool := pool
  accessFlags := fl
  thisClass := this
  superClass := sup
  interfaces := ifs
  fields := fds
  methods := ms
  attributes := attrs
def plain (name : String) (sup : Option ClassId) : Class where
  name := name
  kind := .ordinary
  loader := none
  accessFlags := 33
  super := sup
  interfaces := #[]
  cf := none
  fields := #[]
  methods := #[]
  instanceTypes := #[]
  staticTypes := #[]
  resolved := #[]
  callSites := []
  init := .initialized
  statics := none
  mirror := none

def pool0 : Array CpInfo := pool [(5, u "<init>"), (0, u "()V"), (1, .class_ 10), (1, u "java/lang/Object")] 113

def k0c0 : Code := { maxStack := 0, maxLocals := 1, code := object_method_1_code, exceptionTable := #[], attributes := #[] }
def k0m0 : Method := { name := "<init>", desc := "()V", sig := { parameters := [], returnType := none }, accessFlags := 1, code := some k0c0 }
/-- java/lang/Object -/
def k0 : Class := { plain "java/lang/Object" none with
  accessFlags := 33
  interfaces := #[]
  cf := some (fileOf pool0 8 #[] #[{ accessFlags := 1, nameIndex := 5, descriptorIndex := 6, attributes := #[] }] 33 0 #[] #[])
  fields := #[]
  methods := #[k0m0]
  instanceTypes := #[]
  staticTypes := #[]
  resolved := Array.replicate 124 none
  statics := none }

def pool1 : Array CpInfo := pool [(2, .class_ 4), (1, u "java/lang/Object"), (0, u "<init>"), (0, u "()V"), (0, .methodref 8 9), (0, .class_ 10), (0, .nameAndType 11 12), (0, u "com/example/planwright/planwright/planner/AmongBesidePinLaw"), (0, u "bits"), (0, u "(I)[Z"), (0, .class_ 14), (0, u "com/example/planwright/planwright/planner/SharedAtoms$Among"), (0, .methodref 13 16), (0, .nameAndType 5 17), (0, u "([Z[Z)V"), (0, .methodref 13 19), (0, .nameAndType 20 21), (0, u "beside"), (0, u "(I)Z"), (5, u "law"), (0, u "(IIII)Z")] 6

def k1m0 : Method := { name := "<init>", desc := "()V", sig := { parameters := [], returnType := none }, accessFlags := 2, code := none }
def k1c1 : Code := { maxStack := 4, maxLocals := 2, code := method_2_code, exceptionTable := #[], attributes := #[] }
def k1m1 : Method := { name := "bits", desc := "(I)[Z", sig := { parameters := [.int], returnType := some (.array .boolean) }, accessFlags := 10, code := some k1c1 }
def k1c2 : Code := { maxStack := 4, maxLocals := 11, code := code, exceptionTable := #[], attributes := #[] }
def k1m2 : Method := { name := "law", desc := "(IIII)Z", sig := { parameters := [.int, .int, .int, .int], returnType := some .boolean }, accessFlags := 9, code := some k1c2 }
/-- com/example/planwright/planwright/planner/AmongBesidePinLaw -/
def k1 : Class := { plain "com/example/planwright/planwright/planner/AmongBesidePinLaw" (some 0) with
  accessFlags := 49
  interfaces := #[]
  cf := some (fileOf pool1 8 #[] #[{ accessFlags := 2, nameIndex := 5, descriptorIndex := 6, attributes := #[] }, { accessFlags := 10, nameIndex := 11, descriptorIndex := 12, attributes := #[] }, { accessFlags := 9, nameIndex := 27, descriptorIndex := 28, attributes := #[] }] 49 2 #[] #[])
  fields := #[]
  methods := #[k1m0, k1m1, k1m2]
  instanceTypes := #[]
  staticTypes := #[]
  resolved := Array.replicate 35 none
  statics := none }

def pool2 : Array CpInfo := pool [(1, .methodref 2 3), (0, .class_ 4), (0, .nameAndType 5 6), (0, u "java/lang/Object"), (0, u "<init>"), (0, u "()V"), (0, .class_ 8), (0, u "java/lang/Record")] 13

def k2c0 : Code := { maxStack := 1, maxLocals := 1, code := jdk_30_method_1_code, exceptionTable := #[], attributes := #[] }
def k2m0 : Method := { name := "<init>", desc := "()V", sig := { parameters := [], returnType := none }, accessFlags := 4, code := some k2c0 }
/-- java/lang/Record -/
def k2 : Class := { plain "java/lang/Record" (some 0) with
  accessFlags := 1057
  interfaces := #[]
  cf := some (fileOf pool2 7 #[] #[{ accessFlags := 4, nameIndex := 5, descriptorIndex := 6, attributes := #[] }] 1057 2 #[] #[])
  fields := #[]
  methods := #[k2m0]
  instanceTypes := #[]
  staticTypes := #[]
  resolved := Array.replicate 22 none
  statics := none }

def pool3 : Array CpInfo := pool [(1, .methodref 2 3), (0, .class_ 4), (0, .nameAndType 5 6), (0, u "java/lang/Record"), (0, u "<init>"), (0, u "()V"), (0, .fieldref 8 9), (0, .class_ 10), (0, .nameAndType 11 12), (0, u "com/example/planwright/planwright/planner/SharedAtoms$Among"), (0, u "weighed"), (0, u "[Z"), (0, .fieldref 8 14), (0, .nameAndType 15 12), (0, u "elsewhere"), (14, u "([Z[Z)V"), (2, u "ALL"), (0, u "Lcom/example/planwright/planwright/planner/SharedAtoms$Among;"), (4, u "(I)Z"), (1, u "beside"), (8, .class_ 51), (0, u "com/example/planwright/planwright/planner/SharedAtoms")] 20

def k3c0 : Code := { maxStack := 2, maxLocals := 3, code := prog_162_method_1_code, exceptionTable := #[], attributes := #[] }
def k3m0 : Method := { name := "<init>", desc := "([Z[Z)V", sig := { parameters := [(.array .boolean), (.array .boolean)], returnType := none }, accessFlags := 0, code := some k3c0 }
def k3c1 : Code := { maxStack := 2, maxLocals := 2, code := prog_162_method_3_code, exceptionTable := #[], attributes := #[] }
def k3m1 : Method := { name := "beside", desc := "(I)Z", sig := { parameters := [.int], returnType := some .boolean }, accessFlags := 0, code := some k3c1 }
/-- com/example/planwright/planwright/planner/SharedAtoms$Among -/
def k3 : Class := { plain "com/example/planwright/planwright/planner/SharedAtoms$Among" (some 2) with
  accessFlags := 48
  interfaces := #[]
  cf := some (fileOf pool3 8 #[.nestHost 50] #[{ accessFlags := 0, nameIndex := 5, descriptorIndex := 30, attributes := #[] }, { accessFlags := 0, nameIndex := 41, descriptorIndex := 39, attributes := #[] }] 48 2 #[] #[{ accessFlags := 18, nameIndex := 11, descriptorIndex := 12, attributes := #[] }, { accessFlags := 18, nameIndex := 15, descriptorIndex := 12, attributes := #[] }, { accessFlags := 24, nameIndex := 33, descriptorIndex := 34, attributes := #[] }])
  fields := #[{ name := "weighed", type := (.array .boolean), accessFlags := 18, slot := 0, constantValue := 0 }, { name := "elsewhere", type := (.array .boolean), accessFlags := 18, slot := 1, constantValue := 0 }, { name := "ALL", type := (.object "com/example/planwright/planwright/planner/SharedAtoms$Among"), accessFlags := 24, slot := 0, constantValue := 0 }]
  methods := #[k3m0, k3m1]
  instanceTypes := #[(.array .boolean), (.array .boolean)]
  staticTypes := #[(.object "com/example/planwright/planwright/planner/SharedAtoms$Among")]
  resolved := Array.replicate 72 none
  statics := none }

def pool4 : Array CpInfo := pool [(1, u "java/lang/Cloneable"), (0, .class_ 1), (0, u "java/lang/Object"), (0, .class_ 3)] 3

/-- java/lang/Cloneable -/
def k4 : Class := { plain "java/lang/Cloneable" (some 0) with
  accessFlags := 1537
  interfaces := #[]
  cf := some (fileOf pool4 2 #[] #[] 1537 4 #[] #[])
  fields := #[]
  methods := #[]
  instanceTypes := #[]
  staticTypes := #[]
  resolved := Array.replicate 8 none
  statics := none }

def pool5 : Array CpInfo := pool [(1, u "java/io/Serializable"), (0, .class_ 1), (0, u "java/lang/Object"), (0, .class_ 3)] 3

/-- java/io/Serializable -/
def k5 : Class := { plain "java/io/Serializable" (some 0) with
  accessFlags := 1537
  interfaces := #[]
  cf := some (fileOf pool5 2 #[] #[] 1537 4 #[] #[])
  fields := #[]
  methods := #[]
  instanceTypes := #[]
  staticTypes := #[]
  resolved := Array.replicate 8 none
  statics := none }

/-- the primitive boolean -/
def k6 : Class := { plain "boolean" none with kind := .primitive 'Z', accessFlags := 0x411 }
/-- [Z -/
def k7 : Class := { plain "[Z" (some 0) with kind := .array 6 .boolean, interfaces := #[4, 5], accessFlags := 1041 }

/-- the primitive byte -/
def k8 : Class := { plain "byte" none with kind := .primitive 'B', accessFlags := 0x411 }
/-- [B -/
def k9 : Class := { plain "[B" (some 0) with kind := .array 8 .byte, interfaces := #[4, 5], accessFlags := 1041 }

/-- the primitive int -/
def k10 : Class := { plain "int" none with kind := .primitive 'I', accessFlags := 0x411 }
/-- [I -/
def k11 : Class := { plain "[I" (some 0) with kind := .array 10 .int, interfaces := #[4, 5], accessFlags := 1041 }

def heap : Heap := #[]
def classes : Array Class := #[k0, k1, k2, k3, k4, k5, k6, k7, k8, k9, k10, k11]
def interned : List (Array UInt16 × Addr) := []
def slotsUsed : Nat := 0
def theMethod : MethodId := ⟨1, 2⟩
def args0 : Array Value := #[.int 5, .int 6, .int 1, .int 0]
def aboutOver (below : List Frame) : State where
  vm := { classes := classes, interned := interned.toArray }
  heap := heap
  slotsUsed := slotsUsed
  threads := #[{ frames := .invoking theMethod args0 :: below }]
def below0 : List Frame := [.native { method := ⟨0, 0⟩, args := #[] }]
def about1 : State := aboutOver below0
def p0 : Program := .bare "" "" ""
def e0 : Env := launch0.env 0 0 0
theorem w_frames : about1.frames = Frame.invoking theMethod args0 :: below0 := rfl
set_option maxRecDepth 65536 in
theorem w_args : argsFit about1.vm theMethod args0 = true := by decide +kernel
set_option maxRecDepth 65536 in
theorem w_heap : heapFits about1 = true := by decide +kernel
set_option maxRecDepth 65536 in
theorem w_runnable : about1.curStatus? = some .runnable := by decide +kernel
set_option maxRecDepth 65536 in
theorem w_alone : about1.alone = true := by decide +kernel
set_option maxRecDepth 65536 in
theorem w_named : about1.methodNamed? x = some theMethod := by decide +kernel
set_option maxRecDepth 65536 in
theorem w_hears : about1.hears theMethod below0 = true := by decide +kernel
set_option maxRecDepth 65536 in
theorem w_ripe : about1.ripe theMethod args0 below0 = true := by decide +kernel
theorem w_running : about1.status = .running := rfl
set_option maxRecDepth 65536 in
theorem w_room : about1.hasRoom e0.platform room_1 = true :=
  launch0.hasRoom_least _ room_1 (by decide +kernel) (by decide +kernel) (by decide +kernel) (by decide +kernel) (by decide +kernel) (by decide +kernel)
theorem allAtoms_all (ts : List Jvm.Cond) (a : Array Jvm.Value) (st : Jvm.State) : (allAtoms ts).before a st = ts.all (fun c => c.before a st) := by
  induction ts with
  | nil => rfl
  | cons c t ih =>
    show (Jvm.Cond.and c (allAtoms t)).before a st = _
    rw [Jvm.Cond.before_and, ih, List.all_cons]
def words1 : List Jvm.Cond := Jvm.Cond.code x code maxLocals ret :: tables_1
/-- a 'code' word, met by the world's own term for the bytes: nothing is compared byte by byte -/
theorem code_word {y : MethodName} {bytes : ByteArray} {mx : Nat} {rt : Option FieldType} {a : Array Value} {s : State} {m : MethodId} {meth : Method} {c : Code} (h1 : s.methodNamed? y = some m) (h2 : s.vm.method? m = some meth) (h3 : meth.code = some c) (h4 : c.code = bytes)
    (h5 : (c.maxLocals == mx && c.exceptionTable.isEmpty && decide (c.maxStack ≤ mostOperands) && decide (meth.sig.returnType = rt) && !meth.locks && decide (parseMethodDescriptor y.desc = some meth.sig)) = true) : (Jvm.Cond.code y bytes mx rt).before a s = true := by
  simp only [Bool.and_eq_true, beq_iff_eq, Bool.not_eq_true', decide_eq_true_eq] at h5
  obtain ⟨⟨⟨⟨⟨g1, g2⟩, g3⟩, g4⟩, g5⟩, g6⟩ := h5
  simp [Cond.before, Cond.holds, Cond.value, h1, h2, h3, h4, g1, g2, g3, g4, g5, g6]
def isCode : Jvm.Cond → Bool
  | .code _ _ _ _ => true
  | _ => false
theorem all_split {L : List Jvm.Cond} {P : Jvm.Cond → Bool} (h1 : L.all (fun c => isCode c || P c) = true) (h2 : ∀ c ∈ L.filter isCode, P c = true) : L.all P = true := by
  refine List.all_eq_true.mpr fun c hc => ?_
  have h := List.all_eq_true.mp h1 c hc
  rcases Bool.eq_false_or_eq_true (isCode c) with hi | hi
  · exact h2 c (List.mem_filter.mpr ⟨hc, hi⟩)
  · simpa [hi] using h
set_option maxRecDepth 65536 in
theorem w_c0 : (Jvm.Cond.code x code maxLocals ret).before args0 about1 = true := code_word (m := ⟨1, 2⟩) (meth := k1m2) (c := k1c2) (by decide +kernel) rfl rfl rfl (by decide +kernel)
set_option maxRecDepth 65536 in
theorem w_c1 : (Jvm.Cond.code ({ cls := "com/example/planwright/planwright/planner/AmongBesidePinLaw", name := "bits", desc := "(I)[Z" } : Jvm.MethodName) method_2_code (2 : Nat) (Option.some (Jvm.ClassFile.FieldType.array Jvm.ClassFile.FieldType.boolean))).before args0 about1 = true := code_word (m := ⟨1, 1⟩) (meth := k1m1) (c := k1c1) (by decide +kernel) rfl rfl rfl (by decide +kernel)
set_option maxRecDepth 65536 in
theorem w_c2 : (Jvm.Cond.code ({ cls := "com/example/planwright/planwright/planner/SharedAtoms$Among", name := "<init>", desc := "([Z[Z)V" } : Jvm.MethodName) prog_162_method_1_code (3 : Nat) (Option.none : Option Jvm.ClassFile.FieldType)).before args0 about1 = true := code_word (m := ⟨3, 0⟩) (meth := k3m0) (c := k3c0) (by decide +kernel) rfl rfl rfl (by decide +kernel)
set_option maxRecDepth 65536 in
theorem w_c3 : (Jvm.Cond.code ({ cls := "java/lang/Record", name := "<init>", desc := "()V" } : Jvm.MethodName) jdk_30_method_1_code (1 : Nat) (Option.none : Option Jvm.ClassFile.FieldType)).before args0 about1 = true := code_word (m := ⟨2, 0⟩) (meth := k2m0) (c := k2c0) (by decide +kernel) rfl rfl rfl (by decide +kernel)
set_option maxRecDepth 65536 in
theorem w_c4 : (Jvm.Cond.code ({ cls := "java/lang/Object", name := "<init>", desc := "()V" } : Jvm.MethodName) object_method_1_code (1 : Nat) (Option.none : Option Jvm.ClassFile.FieldType)).before args0 about1 = true := code_word (m := ⟨0, 0⟩) (meth := k0m0) (c := k0c0) (by decide +kernel) rfl rfl rfl (by decide +kernel)
set_option maxRecDepth 65536 in
theorem w_c5 : (Jvm.Cond.code ({ cls := "com/example/planwright/planwright/planner/SharedAtoms$Among", name := "beside", desc := "(I)Z" } : Jvm.MethodName) prog_162_method_3_code (2 : Nat) (Option.some Jvm.ClassFile.FieldType.boolean)).before args0 about1 = true := code_word (m := ⟨3, 1⟩) (meth := k3m1) (c := k3c1) (by decide +kernel) rfl rfl rfl (by decide +kernel)
def codes1 : List Jvm.Cond := [Jvm.Cond.code x code maxLocals ret, Jvm.Cond.code ({ cls := "com/example/planwright/planwright/planner/AmongBesidePinLaw", name := "bits", desc := "(I)[Z" } : Jvm.MethodName) method_2_code (2 : Nat) (Option.some (Jvm.ClassFile.FieldType.array Jvm.ClassFile.FieldType.boolean)), Jvm.Cond.code ({ cls := "com/example/planwright/planwright/planner/SharedAtoms$Among", name := "<init>", desc := "([Z[Z)V" } : Jvm.MethodName) prog_162_method_1_code (3 : Nat) (Option.none : Option Jvm.ClassFile.FieldType), Jvm.Cond.code ({ cls := "java/lang/Record", name := "<init>", desc := "()V" } : Jvm.MethodName) jdk_30_method_1_code (1 : Nat) (Option.none : Option Jvm.ClassFile.FieldType), Jvm.Cond.code ({ cls := "java/lang/Object", name := "<init>", desc := "()V" } : Jvm.MethodName) object_method_1_code (1 : Nat) (Option.none : Option Jvm.ClassFile.FieldType), Jvm.Cond.code ({ cls := "com/example/planwright/planwright/planner/SharedAtoms$Among", name := "beside", desc := "(I)Z" } : Jvm.MethodName) prog_162_method_3_code (2 : Nat) (Option.some Jvm.ClassFile.FieldType.boolean)]
set_option maxRecDepth 65536 in
theorem codes_eq : words1.filter isCode = codes1 := rfl
theorem w_codes : ∀ c ∈ words1.filter isCode, c.before args0 about1 = true := by
  rw [codes_eq]
  intro c hc
  simp only [codes1, List.mem_cons, List.not_mem_nil, or_false] at hc
  rcases hc with rfl | rfl | rfl | rfl | rfl | rfl
  · exact w_c0
  · exact w_c1
  · exact w_c2
  · exact w_c3
  · exact w_c4
  · exact w_c5
set_option maxRecDepth 65536 in
theorem w_t1 : (words1.take 24).all (fun c => isCode c || c.before args0 about1) = true := by decide +kernel
set_option maxRecDepth 65536 in
theorem w_t2 : (words1.drop 24).all (fun c => isCode c || c.before args0 about1) = true := by decide +kernel
theorem w_tables : (allAtoms (Jvm.Cond.code x code maxLocals ret :: tables_1)).before args0 about1 = true := by
  rw [allAtoms_all]
  show words1.all (fun c => c.before args0 about1) = true
  refine all_split ?_ w_codes
  rw [← List.take_append_drop 24 words1, List.all_append, w_t1, w_t2]
  rfl
set_option maxRecDepth 65536 in
theorem w_case : (Jvm.Cond.and given_1 narrow_1).before args0 about1 = true := by decide +kernel
theorem w_applies : (headSpec (Jvm.Cond.code x code maxLocals ret :: tables_1) room_1).applies x e0.platform about1 = true :=
  (Spec.applies_iff w_frames).mpr ⟨w_running, w_runnable, w_alone, w_named, w_hears, w_ripe, w_room, w_tables⟩
theorem atStart : AtStart classFile x code maxLocals ret World_1 tables_1 room_1 Calls_1 rest_1 Pre_1 launch0 p0 e0 about1 theMethod args0 below0 :=
  ⟨lists_1, trivial, launch0.admits_env _ _ _, launch0.least_env, fairChoices_fair.cas, fairChoices_fair.clock, w_frames, w_args, w_heap, w_applies, trivial, trivial, w_case⟩
end start1
theorem witness_1 : WitnessClaimed_1 := ⟨start1.p0, start1.e0, start1.about1, start1.theMethod, start1.args0, start1.below0, start1.atStart⟩
end Jvm.Pilot.@@N@@
