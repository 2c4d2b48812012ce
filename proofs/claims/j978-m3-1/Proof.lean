import JvmDerived
import JvmDerived.Pilot.@@N@@Statement
import JvmDerived.Pilot.@@N@@Code
set_option linter.unusedVariables false
set_option linter.unusedSimpArgs false
@@BLOCK:NumsL.lean.txt@@
namespace Jvm.Pilot.@@N@@
open Jvm Jvm.ClassFile Sem Op Lib Jvm.Free Jvm.Stand Jvm.LawKit Jvm.RoadKit Bundle Jvm.Pilot.@@N@@.Jvm.D
/-! the walk's own form: from this state and frame the run ends as P says -/
def Go (p : Program) (e : Env) (below : List Frame) (T : State) (g : JFrame) (P : Outcome → State → Prop) : Prop := ∃ s₂ o, Steps p.tables e below (T.setTop g) s₂ ∧ s₂.status = .running ∧ Ended s₂ below o ∧ P o s₂
theorem Go.of {p : Program} {e : Env} {below : List Frame} {T T' : State} {g g' : JFrame} {P : Outcome → State → Prop} (k : ∀ t, Steps p.tables e below (T'.setTop g') t → Steps p.tables e below (T.setTop g) t) (h : Go p e below T' g' P) : Go p e below T g P := by
  obtain ⟨s2, o, h1, h2⟩ := h; exact ⟨s2, o, k _ h1, h2⟩
theorem Go.enter {p : Program} {e : Env} {below : List Frame} {T : State} {g g' : JFrame} {P : Outcome → State → Prop} (q : g = g') (h : Go p e below T g' P) : ∃ s₂ o, Steps p.tables e below (T.setTop g) s₂ ∧ s₂.status = .running ∧ Ended s₂ below o ∧ P o s₂ := by
  subst q; exact h
theorem own_selp {s : State} {args : Array Value} {y : MethodName} {n : Nat} (hi : (Jvm.Cond.instantiable y.cls n).before args s = true) (hp : s.PrivateAt y) (hm : (Jvm.Cond.instanceMethod y).before args s = true) (hy : y.cls ≠ "java/lang/invoke/MethodHandle" ∧ y.cls ≠ "java/lang/invoke/VarHandle") : (Jvm.Cond.selects y.cls y y).before args s = true := by
  obtain ⟨c, k, h1, h2, -, h3, -⟩ := Cond.instantiable_spec hi
  rw [Bool.or_eq_false_iff] at h3
  exact selects_self_of_private h1 h2 h3.1 hp hm hy
/-- a local that holds nothing or one word -/
def Sl (o : Slot) : Prop := o = .unset ∨ ∃ w : Value, o = .val w ∧ w.category = 1
/-! an array of small ints: its kind, its length, its components as a function -/
def Af (Z : State) (h : Heap) (a : Addr) (ty : FieldType) (n : Nat) (f : Nat → Int32) : Prop := ∃ c : Cell, Arr Z h a c ty ∧ c.slots.size = n ∧ ∀ i, i < n → c.slots[i]? = some (.int (f i))
def upd (f : Nat → Int32) (j : Nat) (v : Int32) : Nat → Int32 := fun i => if i = j then v else f i
theorem Af.lt {Z : State} {h : Heap} {a : Addr} {ty : FieldType} {n : Nat} {f : Nat → Int32} (F : Af Z h a ty n f) : a < h.size := by obtain ⟨c, A, -⟩ := F; exact A.lt
theorem Af.ext {Z : State} {h h' : Heap} {a : Addr} {ty : FieldType} {n : Nat} {f : Nat → Int32} (F : Af Z h a ty n f) (E : Ext h h') : Af Z h' a ty n f := by obtain ⟨c, A, r⟩ := F; exact ⟨c, A.ext E, r⟩
theorem Af.other {Z : State} {h h' : Heap} {a b : Addr} {ty : FieldType} {n sl : Nat} {v : Value} {f : Nat → Int32} (F : Af Z h b ty n f) (W : Wr h h' a sl v) (q : b ≠ a) : Af Z h' b ty n f := by obtain ⟨c, A, r⟩ := F; exact ⟨c, A.other W q, r⟩
theorem Af.keep {Z : State} {h h' : Heap} {a : Addr} {ws : List Addr} {ty : FieldType} {n : Nat} {f : Nat → Int32} (F : Af Z h a ty n f) (K : Keep h h' ws) (q : a ∉ ws) : Af Z h' a ty n f := by obtain ⟨c, A, r⟩ := F; exact ⟨c, ⟨K.2.1 a c A.1 q, A.2⟩, r⟩
theorem Af.new {Z : State} {h : Heap} {a : Addr} {k : ClassId} {ty : FieldType} {z : Int32} {n : Nat} (hd : defaultValue ty = .int 0) (A : Arr Z h a (newA k ty z) ty) (hn : z.toNatClampNeg = n) : Af Z h a ty n (fun _ => 0) := by
  subst hn; exact ⟨_, A, sz_new _ _ _, fun i hi => by simp [newA, hd, hi]⟩
theorem Af.at {c : Cell} {n i : Nat} {j : Int32} {f : Nat → Int32} (H : ∀ i, i < n → c.slots[i]? = some (.int (f i))) (hj : j.toNatClampNeg = i) (q : ¬ (j < 0) ∧ j.toNatClampNeg < n) : c.slots[j.toNatClampNeg]? = some (.int (f i)) := by
  subst hj; exact H _ q.2
theorem Af.inb {c : Cell} {n : Nat} {j : Int32} (S : c.slots.size = n) (q : ¬ (j < 0) ∧ j.toNatClampNeg < n) : ¬ (j < 0 ∨ c.slots.size ≤ j.toNatClampNeg) := by rw [S]; exact fun z => z.elim q.1 (Nat.not_le.mpr q.2)
theorem Af.set {Z : State} {h h' : Heap} {a : Addr} {c : Cell} {ty : FieldType} {n j j' : Nat} {x : Int32} {f : Nat → Int32} (A : Arr Z h a c ty) (S : c.slots.size = n) (H : ∀ i, i < n → c.slots[i]? = some (.int (f i))) (W : Wr h h' a j' (.int x)) (hj : j' = j) : Af Z h' a ty n (upd f j x) := by
  subst hj
  refine ⟨_, A.same W, by rw [sz_set]; exact S, fun i hi => ?_⟩
  by_cases e : i = j'
  · subst e; simp [upd, Cell.setSlot, S, hi]
  · have q : (c.setSlot j' (.int x)).slots[i]? = c.slots[i]? := Array.getElem?_setIfInBounds_ne (Ne.symm e)
    rw [q, H i hi]; simp [upd, e]
theorem Af.congr {Z : State} {h : Heap} {a : Addr} {ty : FieldType} {n : Nat} {f g : Nat → Int32} (F : Af Z h a ty n f) (q : ∀ i, i < n → f i = g i) : Af Z h a ty n g := by
  obtain ⟨c, A, S, H⟩ := F; exact ⟨c, A, S, fun i hi => by rw [← q i hi]; exact H i hi⟩
theorem pn_0 : plainName "com/example/planwright/planwright/planner/AmongWeighsPinLaw" = true := by first | (simp [plainName, overriddenIn]; done) | decide +kernel
theorem pn_1 : plainName "java/lang/Record" = true := by first | (simp [plainName, overriddenIn]; done) | decide +kernel
theorem pd_0 : parseMethodDescriptor "()V" = some ⟨[], none⟩ := by decide +kernel
theorem pn_2 : plainName "com/example/planwright/planwright/planner/SharedAtoms$Among" = true := by first | (simp [plainName, overriddenIn]; done) | decide +kernel
theorem pd_1 : parseMethodDescriptor "(II)[Z" = some ⟨[.int, .int], some (.array .boolean)⟩ := by decide +kernel
theorem pd_2 : parseMethodDescriptor "([Z[Z)V" = some ⟨[(.array .boolean), (.array .boolean)], none⟩ := by decide +kernel
theorem pd_3 : parseMethodDescriptor "(I)Z" = some ⟨[.int], some .boolean⟩ := by decide +kernel
def bitsF (x : Int32) (i : Nat) : Int32 := if i = 0 then (if (x &&& (1 : Int32)) = (0 : Int32) then (0 : Int32) else (1 : Int32)) else if i = 1 then (if (x &&& (2 : Int32)) = (0 : Int32) then (0 : Int32) else (1 : Int32)) else if i = 2 then (if (x &&& (4 : Int32)) = (0 : Int32) then (0 : Int32) else (1 : Int32)) else (if (x &&& (8 : Int32)) = (0 : Int32) then (0 : Int32) else (1 : Int32))
theorem own_nb (q : Prop) [Decidable q] : nar .boolean (if q then (0 : Int32) else (1 : Int32)) = (if q then (0 : Int32) else (1 : Int32)) := by split <;> rfl
theorem own_and3 (x : Int32) : x &&& 3 = 0 ∨ x &&& 3 = 1 ∨ x &&& 3 = 2 ∨ x &&& 3 = 3 := by
  have h : (x &&& 3).toInt = x.toInt % 2 ^ 2 := Jvm.Kit.i32_mask x 3 (k := 2) (by decide) (by decide)
  have h0 : (0 : Int32).toInt = 0 := by decide
  have h1 : (1 : Int32).toInt = 1 := by decide
  have h2 : (2 : Int32).toInt = 2 := by decide
  have h3 : (3 : Int32).toInt = 3 := by decide
  simp only [← Int32.toInt_inj, h, h0, h1, h2, h3]; omega
theorem own_len (x : Int32) : ((x &&& (3 : Int32)) + (1 : Int32)) = (1 : Int32) ∨ ((x &&& (3 : Int32)) + (1 : Int32)) = (2 : Int32) ∨ ((x &&& (3 : Int32)) + (1 : Int32)) = (3 : Int32) ∨ ((x &&& (3 : Int32)) + (1 : Int32)) = (4 : Int32) := by
  rcases own_and3 x with h | h | h | h <;> rw [h] <;> decide
theorem own_in3 (x : Int32) : ¬ ((x &&& (3 : Int32)) < 0) ∧ (x &&& (3 : Int32)).toNatClampNeg < 4 := by
  rcases own_and3 x with h | h | h | h <;> rw [h] <;> decide
theorem own_in (x k : Int32) (n : Nat) (hk : k.toInt = (n : Int)) (hn : 0 < n) : ¬ (((x &&& (2147483647 : Int32)) % k) < 0) ∧ ((x &&& (2147483647 : Int32)) % k).toNatClampNeg < n := by
  have h : (x &&& (2147483647 : Int32)).toInt = x.toInt % 2 ^ 31 := Jvm.Kit.i32_mask x 2147483647 (k := 31) (by decide) (by decide)
  have hr : ((x &&& (2147483647 : Int32)) % k).toInt = (x &&& (2147483647 : Int32)).toInt % k.toInt := Jvm.Kit.i32_rem_nonneg (by omega)
  have h0 : (0 : Int32).toInt = 0 := by decide
  have h1 := Int.emod_nonneg (x &&& (2147483647 : Int32)).toInt (show (n : Int) ≠ 0 by omega)
  have h2 := Int.emod_lt_of_pos (x &&& (2147483647 : Int32)).toInt (show 0 < (n : Int) by omega)
  rw [hk] at hr
  rw [Int32.lt_iff_toInt_lt, h0, hr]
  refine ⟨by omega, ?_⟩
  show ((x &&& (2147483647 : Int32)) % k).toInt.toNat < n
  rw [hr]; omega
theorem own_and2 (n k : Nat) : n &&& 2 ^ k = if n.testBit k = true then 2 ^ k else 0 := by
  apply Nat.eq_of_testBit_eq
  intro i
  rw [Nat.testBit_and, Nat.testBit_two_pow]
  by_cases h : k = i
  · subst h; cases hb : n.testBit k <;> simp [Nat.testBit_two_pow_self]
  · cases hb : n.testBit k <;> simp [h, Nat.testBit_two_pow_of_ne h]
theorem own_bitN (n k : Nat) : (n &&& 2 ^ k = 0) ↔ ((n >>> k) &&& 1 = 0) := by
  rw [own_and2, Nat.and_one_is_mod, Nat.shiftRight_eq_div_pow, Nat.testBit_eq_decide_div_mod_eq]
  have h2 : 0 < 2 ^ k := Nat.two_pow_pos k
  have h3 := Nat.mod_two_eq_zero_or_one (n / 2 ^ k)
  rcases h3 with h | h <;> simp [h] <;> omega
theorem own_bit (x m j : Int32) (k : Nat) (hm : m.toBitVec.toNat = 2 ^ k) (hj : ((j &&& 31).toUInt32).toNat = k) : (x &&& m = 0) ↔ ((((x.toUInt32 >>> (j &&& 31).toUInt32).toInt32) &&& (1 : Int32)) = (0 : Int32)) := by
  have e1 : (x &&& m).toBitVec.toNat = x.toBitVec.toNat &&& 2 ^ k := by rw [Int32.toBitVec_and, BitVec.toNat_and, hm]
  have hk : k < 32 := by
    have := (j &&& 31).toUInt32.toBitVec.isLt
    have h31 : ((j &&& 31).toUInt32).toNat ≤ 31 := by
      show (j.toBitVec &&& 31#32).toNat ≤ 31
      rw [BitVec.toNat_and]; exact Nat.and_le_right
    omega
  have e2 : (((x.toUInt32 >>> (j &&& 31).toUInt32).toInt32) &&& (1 : Int32)).toBitVec.toNat = (x.toBitVec.toNat >>> k) &&& 1 := by
    rw [Int32.toBitVec_and, BitVec.toNat_and]
    have e3 : ((x.toUInt32 >>> (j &&& 31).toUInt32).toInt32).toBitVec.toNat = x.toBitVec.toNat >>> k := by
      show ((x.toUInt32 >>> (j &&& 31).toUInt32)).toNat = _
      rw [UInt32.toNat_shiftRight, hj, Nat.mod_eq_of_lt hk]; rfl
    rw [e3]; rfl
  rw [← Int32.toBitVec_inj, ← Int32.toBitVec_inj, ← BitVec.toNat_inj, ← BitVec.toNat_inj, e1, e2]
  exact own_bitN _ _
theorem own_b1 {p q : Prop} [Decidable p] [Decidable q] (h : p ↔ q) : (if (if p then (0 : Int32) else (1 : Int32)) = 0 then (0 : Int32) else (1 : Int32)) = (if q then (0 : Int32) else (1 : Int32)) := by
  by_cases hp : p
  · have hq := h.mp hp; simp [hp, hq]
  · have hq : ¬ q := fun z => hp (h.mpr z); simp [hp, hq]
theorem own_four {y : Int32} (h : ¬ (y < 0) ∧ y.toNatClampNeg < 4) : y = 0 ∨ y = 1 ∨ y = 2 ∨ y = 3 := by
  have h1 := h.1
  have h2 : y.toInt.toNat < 4 := h.2
  have e0 : (0 : Int32).toInt = 0 := by decide
  have e1 : (1 : Int32).toInt = 1 := by decide
  have e2 : (2 : Int32).toInt = 2 := by decide
  have e3 : (3 : Int32).toInt = 3 := by decide
  rw [Int32.lt_iff_toInt_lt, e0] at h1
  simp only [← Int32.toInt_inj, e0, e1, e2, e3]; omega
theorem own_weighs (x y : Int32) (h : ¬ (y < 0) ∧ y.toNatClampNeg < 4) : (if bitsF x (y).toNatClampNeg = 0 then (0 : Int32) else (1 : Int32)) = (if (((x.toUInt32 >>> (y &&& 31).toUInt32).toInt32) &&& (1 : Int32)) = (0 : Int32) then (0 : Int32) else (1 : Int32)) := by
  rcases own_four h with rfl | rfl | rfl | rfl
  · exact own_b1 (own_bit x 1 0 0 (by decide) (by decide))
  · exact own_b1 (own_bit x 2 1 1 (by decide) (by decide))
  · exact own_b1 (own_bit x 4 2 2 (by decide) (by decide))
  · exact own_b1 (own_bit x 8 3 3 (by decide) (by decide))
theorem d1_0 : decode method_2_code 0 = .ok (.iload_n 0, 1) := by decide +kernel
theorem d1_1 : decode method_2_code 1 = .ok (.newarray .boolean, 2) := by decide +kernel
theorem d1_3 : decode method_2_code 3 = .ok (.astore_n 2, 1) := by decide +kernel
theorem d1_4 : decode method_2_code 4 = .ok (.aload_n 2, 1) := by decide +kernel
theorem d1_5 : decode method_2_code 5 = .ok (.iconst 0, 1) := by decide +kernel
theorem d1_6 : decode method_2_code 6 = .ok (.iload_n 1, 1) := by decide +kernel
theorem d1_7 : decode method_2_code 7 = .ok (.iconst 1, 1) := by decide +kernel
theorem d1_8 : decode method_2_code 8 = .ok (.iand, 1) := by decide +kernel
theorem d1_9 : decode method_2_code 9 = .ok (.ifCond .eq 7, 3) := by decide +kernel
theorem d1_12 : decode method_2_code 12 = .ok (.iconst 1, 1) := by decide +kernel
theorem d1_13 : decode method_2_code 13 = .ok (.goto 4, 3) := by decide +kernel
theorem d1_16 : decode method_2_code 16 = .ok (.iconst 0, 1) := by decide +kernel
theorem d1_17 : decode method_2_code 17 = .ok (.bastore, 1) := by decide +kernel
theorem d1_18 : decode method_2_code 18 = .ok (.iload_n 0, 1) := by decide +kernel
theorem d1_19 : decode method_2_code 19 = .ok (.iconst 1, 1) := by decide +kernel
theorem d1_20 : decode method_2_code 20 = .ok (.if_icmp .le 17, 3) := by decide +kernel
theorem d1_37 : decode method_2_code 37 = .ok (.iload_n 0, 1) := by decide +kernel
theorem d1_38 : decode method_2_code 38 = .ok (.iconst 2, 1) := by decide +kernel
theorem d1_39 : decode method_2_code 39 = .ok (.if_icmp .le 17, 3) := by decide +kernel
theorem d1_56 : decode method_2_code 56 = .ok (.iload_n 0, 1) := by decide +kernel
theorem d1_57 : decode method_2_code 57 = .ok (.iconst 3, 1) := by decide +kernel
theorem d1_58 : decode method_2_code 58 = .ok (.if_icmp .le 18, 3) := by decide +kernel
theorem d1_76 : decode method_2_code 76 = .ok (.aload_n 2, 1) := by decide +kernel
theorem d1_77 : decode method_2_code 77 = .ok (.areturn, 1) := by decide +kernel
theorem ef_1_1 (m : MethodId) (x0 : Int32) (x1 : Int32) : entryFrame m #[(.int x0), (.int x1)] 3 = mkF m 0 #[.val (.int x0), .val (.int x1), .unset] [] := by first | (simp [entryFrame, mkF, argsToLocals, Value.category]; done) | rfl
def Q1_1 (Z : State) (x : Int32) (h0 : Heap) (n0 : Nat) (v : Option Value) (h : Heap) (L : List Loc) : Prop := ∃ b, v = some (.ref b) ∧ Fr n0 L ∧ Keep h0 h [] ∧ h0.size ≤ b ∧ n0 ≤ b ∧ Af Z h b .boolean 1 (bitsF x)
set_option maxRecDepth 65536 in
set_option maxHeartbeats 40000000 in
theorem rm1_1 (l : Launch) (Z : State) (a0 : Array Value) (hw : ∀ d ∈ tables_1, d.before a0 Z = true) (ws : List Jvm.Cond) (x : Int32) (h0 : Heap) (n0 : Nat) (Z0 : n0 ≤ h0.size) :
    MetFree l (⟨"com/example/planwright/planwright/planner/AmongWeighsPinLaw", "fill", "(II)[Z"⟩ : MethodName) (head1 (Jvm.Cond.code (⟨"com/example/planwright/planwright/planner/AmongWeighsPinLaw", "fill", "(II)[Z"⟩ : MethodName) method_2_code 3 (some (.array .boolean)) :: ws) ({ frames := 0, cells := 1, slots := 1, locals := 0 } : Room)) (fun aa_ U => aa_ = #[(.int (1 : Int32)), (.int x)] ∧ Z.Warmed39 U.vm ∧ U.heap = h0) (fun _ _ _ _ _ => True) (fun _ U o U' => ∃ vv_ LL_, o = .returned vv_ ∧ Q1_1 Z x h0 n0 vv_ U'.heap LL_ ∧ FrameEnd U o U' LL_ ({ frames := 0, cells := 1, slots := 1, locals := 0 } : Room).cells ({ frames := 0, cells := 1, slots := 1, locals := 0 } : Room).slots) := by
  refine MetFree.of_bodySF (plainFor_of_name pn_0) hisR ?_
  intro p e s m args below meth c s₁ Bd hml0 hP hK
  obtain ⟨rfl, hZ, hh⟩ := hP
  have hx := Bd.exec
  have hby := Bd.bytes
  have hml : c.maxLocals = 3 := hml0
  have hown : s.vm.findClass "com/example/planwright/planwright/planner/AmongWeighsPinLaw" = some m.cls := findClass_of_methodNamed Bd.named
  have hnm := (name_of_methodNamed Bd.named Bd.method).1
  have X0 : Stand p l e ({ frames := 0, cells := 1, slots := 1, locals := 0 } : Room) s m #[(.int (1 : Int32)), (.int x)] below meth c s₁ [] 0 0 := Stand.of_body Bd
  have e0 : s₁.heap = h0 := by rw [← hh, Bd.state]; rfl
  have N0 := Fr.nil n0
  have K0 : Keep h0 h0 [] := Keep.refl h0 _
  refine Go.enter (P := fun o U' => ∃ vv_ LL_, o = .returned vv_ ∧ Q1_1 Z x h0 n0 vv_ U'.heap LL_ ∧ FrameEnd s o U' LL_ ({ frames := 0, cells := 1, slots := 1, locals := 0 } : Room).cells ({ frames := 0, cells := 1, slots := 1, locals := 0 } : Room).slots) (ef_1_1 m (1 : Int32) x) ?_
  show Go p e below s₁ (mkF m 0 #[.val (.int (1 : Int32)), .val (.int x), .unset] []) _
  refine Go.of (fun tg_ kk_ => XS.iloadN X0.here hx rfl (hb hby d1_0) rfl kk_) ?_
  show Go p e below s₁ (mkF m 1 #[.val (.int (1 : Int32)), .val (.int x), .unset] [(.int (1 : Int32))]) _
  obtain ⟨T1, h1, k1, X1, e1, E1, A1, st1⟩ := newP X0 hx hZ (hw _ (List.mem_of_getElem? (i := 4) rfl)) e0 (g := (mkF m 1 #[.val (.int (1 : Int32)), .val (.int x), .unset] [(.int (1 : Int32))])) rfl (hb hby d1_1) rfl (by decide) (cap := 1) (by decide) (by decide) (by decide) (by decide)
  obtain ⟨b1, g1⟩ : ∃ z, z = h0.size := ⟨_, rfl⟩
  rw [← g1] at A1 st1
  have gx1 : n0 ≤ b1 := Nat.le_trans Z0 (Nat.le_of_eq g1.symm)
  have sz1 : h0.size ≤ b1 := Nat.le_trans K0.1 (Nat.le_of_eq g1.symm)
  have K2 := K0.ext E1
  have Zs3 : n0 ≤ h1.size := Nat.le_trans Z0 E1.1
  have V1 : Af Z h1 b1 .boolean 1 (fun _ => 0) := Af.new rfl A1 (by decide)
  refine Go.of (st1) ?_
  show Go p e below T1 (mkF m 3 #[.val (.int (1 : Int32)), .val (.int x), .unset] [(.ref b1)]) _
  refine Go.of (fun tg_ kk_ => XS.astoreN X1.here hx rfl (hb hby d1_3) rfl rfl (l' := #[.val (.int (1 : Int32)), .val (.int x), .val (.ref b1)]) rfl kk_) ?_
  show Go p e below T1 (mkF m 4 #[.val (.int (1 : Int32)), .val (.int x), .val (.ref b1)] []) _
  refine Go.of (fun tg_ kk_ => XS.aloadN X1.here hx rfl (hb hby d1_4) rfl rfl kk_) ?_
  show Go p e below T1 (mkF m 5 #[.val (.int (1 : Int32)), .val (.int x), .val (.ref b1)] [(.ref b1)]) _
  refine Go.of (fun tg_ kk_ => XS.iconst X1.here hx rfl (hb hby d1_5) kk_) ?_
  show Go p e below T1 (mkF m 6 #[.val (.int (1 : Int32)), .val (.int x), .val (.ref b1)] [(.int (0 : Int32)), (.ref b1)]) _
  refine Go.of (fun tg_ kk_ => XS.iloadN X1.here hx rfl (hb hby d1_6) rfl kk_) ?_
  show Go p e below T1 (mkF m 7 #[.val (.int (1 : Int32)), .val (.int x), .val (.ref b1)] [(.int x), (.int (0 : Int32)), (.ref b1)]) _
  refine Go.of (fun tg_ kk_ => XS.iconst X1.here hx rfl (hb hby d1_7) kk_) ?_
  show Go p e below T1 (mkF m 8 #[.val (.int (1 : Int32)), .val (.int x), .val (.ref b1)] [(.int (1 : Int32)), (.int x), (.int (0 : Int32)), (.ref b1)]) _
  refine Go.of (fun tg_ kk_ => XS.iand X1.here hx rfl (hb hby d1_8) rfl kk_) ?_
  show Go p e below T1 (mkF m 9 #[.val (.int (1 : Int32)), .val (.int x), .val (.ref b1)] [(.int (x &&& (1 : Int32))), (.int (0 : Int32)), (.ref b1)]) _
  have st4 : ∀ va : Int32, va = (if (x &&& (1 : Int32)) = (0 : Int32) then (0 : Int32) else (1 : Int32)) → ∀ t, Steps p.tables e below (T1.setTop (mkF m 17 #[.val (.int (1 : Int32)), .val (.int x), .val (.ref b1)] [(.int va), (.int (0 : Int32)), (.ref b1)])) t → Steps p.tables e below (T1.setTop (mkF m 9 #[.val (.int (1 : Int32)), .val (.int x), .val (.ref b1)] [(.int (x &&& (1 : Int32))), (.int (0 : Int32)), (.ref b1)])) t := by
    intro va qva tg_ kk_
    by_cases hc : (x &&& (1 : Int32)) = (0 : Int32)
    · rw [if_pos hc] at qva; rw [qva] at kk_
      show Steps p.tables e below (T1.setTop (mkF m 9 #[.val (.int (1 : Int32)), .val (.int x), .val (.ref b1)] [(.int (x &&& (1 : Int32))), (.int (0 : Int32)), (.ref b1)])) _
      refine XS.ifYes X1.here hx rfl (pc0 := 9) (pc' := 16) rfl (hb hby d1_9) rfl ((if0 _ _).trans (teq hc).1) (by decide) (by decide) ?_
      show Steps p.tables e below (T1.setTop (mkF m 16 #[.val (.int (1 : Int32)), .val (.int x), .val (.ref b1)] [(.int (0 : Int32)), (.ref b1)])) _
      refine XS.iconst X1.here hx rfl (hb hby d1_16) ?_
      show Steps p.tables e below (T1.setTop (mkF m 17 #[.val (.int (1 : Int32)), .val (.int x), .val (.ref b1)] [(.int (0 : Int32)), (.int (0 : Int32)), (.ref b1)])) _
      exact kk_
    · rw [if_neg hc] at qva; rw [qva] at kk_
      show Steps p.tables e below (T1.setTop (mkF m 9 #[.val (.int (1 : Int32)), .val (.int x), .val (.ref b1)] [(.int (x &&& (1 : Int32))), (.int (0 : Int32)), (.ref b1)])) _
      refine XS.ifNo X1.here hx rfl (hb hby d1_9) rfl ((if0 _ _).trans (feq hc).1) ?_
      show Steps p.tables e below (T1.setTop (mkF m 12 #[.val (.int (1 : Int32)), .val (.int x), .val (.ref b1)] [(.int (0 : Int32)), (.ref b1)])) _
      refine XS.iconst X1.here hx rfl (hb hby d1_12) ?_
      show Steps p.tables e below (T1.setTop (mkF m 13 #[.val (.int (1 : Int32)), .val (.int x), .val (.ref b1)] [(.int (1 : Int32)), (.int (0 : Int32)), (.ref b1)])) _
      refine XS.goto X1.here hx rfl (pc0 := 13) (pc' := 17) rfl (hb hby d1_13) (by decide) (by decide) ?_
      show Steps p.tables e below (T1.setTop (mkF m 17 #[.val (.int (1 : Int32)), .val (.int x), .val (.ref b1)] [(.int (1 : Int32)), (.int (0 : Int32)), (.ref b1)])) _
      exact kk_
  obtain ⟨va, qva⟩ : ∃ z : Int32, z = (if (x &&& (1 : Int32)) = (0 : Int32) then (0 : Int32) else (1 : Int32)) := ⟨_, rfl⟩
  refine Go.of (st4 va qva) ?_
  show Go p e below T1 (mkF m 17 #[.val (.int (1 : Int32)), .val (.int x), .val (.ref b1)] [(.int va), (.int (0 : Int32)), (.ref b1)]) _
  have ib5 := (show ¬ ((0 : Int32) < 0) ∧ ((0 : Int32)).toNatClampNeg < 1 from ⟨by decide, by decide⟩)
  obtain ⟨cl5, Ar5, S5, H5⟩ := V1
  obtain ⟨T5, h5, X5, e5, W5, st5⟩ := stZ X1 hx hZ e1 Ar5 (j := (0 : Int32)) (Af.inb S5 ib5) (g := (mkF m 17 #[.val (.int (1 : Int32)), .val (.int x), .val (.ref b1)] [(.int va), (.int (0 : Int32)), (.ref b1)])) rfl rfl (hb hby d1_17)
  obtain ⟨f5, qf5⟩ : ∃ q : Nat → Int32, q = upd (fun _ => 0) 0 (nar .boolean va) := ⟨_, rfl⟩
  have V5 : Af Z h5 b1 .boolean 1 f5 := by rw [qf5]; exact Af.set Ar5 S5 H5 W5 (by decide)
  have K7 := K2.wr W5 (Or.inr sz1)
  have Zs8 : n0 ≤ h5.size := Nat.le_trans Zs3 (Keep.of_wr W5).1
  have N5 := Fr.snoc X5 N0 gx1
  refine Go.of (st5) ?_
  show Go p e below T5 (mkF m 18 #[.val (.int (1 : Int32)), .val (.int x), .val (.ref b1)] []) _
  refine Go.of (fun tg_ kk_ => XS.iloadN X5.here hx rfl (hb hby d1_18) rfl kk_) ?_
  show Go p e below T5 (mkF m 19 #[.val (.int (1 : Int32)), .val (.int x), .val (.ref b1)] [(.int (1 : Int32))]) _
  refine Go.of (fun tg_ kk_ => XS.iconst X5.here hx rfl (hb hby d1_19) kk_) ?_
  show Go p e below T5 (mkF m 20 #[.val (.int (1 : Int32)), .val (.int x), .val (.ref b1)] [(.int (1 : Int32)), (.int (1 : Int32))]) _
  refine Go.of (fun tg_ kk_ => XS.icmpYes X5.here hx rfl (pc0 := 20) (pc' := 37) rfl (hb hby d1_20) rfl (flt (show ¬ ((1 : Int32) < (1 : Int32)) by decide)).2.2.2 (by decide) (by decide) kk_) ?_
  show Go p e below T5 (mkF m 37 #[.val (.int (1 : Int32)), .val (.int x), .val (.ref b1)] []) _
  refine Go.of (fun tg_ kk_ => XS.iloadN X5.here hx rfl (hb hby d1_37) rfl kk_) ?_
  show Go p e below T5 (mkF m 38 #[.val (.int (1 : Int32)), .val (.int x), .val (.ref b1)] [(.int (1 : Int32))]) _
  refine Go.of (fun tg_ kk_ => XS.iconst X5.here hx rfl (hb hby d1_38) kk_) ?_
  show Go p e below T5 (mkF m 39 #[.val (.int (1 : Int32)), .val (.int x), .val (.ref b1)] [(.int (2 : Int32)), (.int (1 : Int32))]) _
  refine Go.of (fun tg_ kk_ => XS.icmpYes X5.here hx rfl (pc0 := 39) (pc' := 56) rfl (hb hby d1_39) rfl (flt (show ¬ ((2 : Int32) < (1 : Int32)) by decide)).2.2.2 (by decide) (by decide) kk_) ?_
  show Go p e below T5 (mkF m 56 #[.val (.int (1 : Int32)), .val (.int x), .val (.ref b1)] []) _
  refine Go.of (fun tg_ kk_ => XS.iloadN X5.here hx rfl (hb hby d1_56) rfl kk_) ?_
  show Go p e below T5 (mkF m 57 #[.val (.int (1 : Int32)), .val (.int x), .val (.ref b1)] [(.int (1 : Int32))]) _
  refine Go.of (fun tg_ kk_ => XS.iconst X5.here hx rfl (hb hby d1_57) kk_) ?_
  show Go p e below T5 (mkF m 58 #[.val (.int (1 : Int32)), .val (.int x), .val (.ref b1)] [(.int (3 : Int32)), (.int (1 : Int32))]) _
  refine Go.of (fun tg_ kk_ => XS.icmpYes X5.here hx rfl (pc0 := 58) (pc' := 76) rfl (hb hby d1_58) rfl (flt (show ¬ ((3 : Int32) < (1 : Int32)) by decide)).2.2.2 (by decide) (by decide) kk_) ?_
  show Go p e below T5 (mkF m 76 #[.val (.int (1 : Int32)), .val (.int x), .val (.ref b1)] []) _
  refine Go.of (fun tg_ kk_ => XS.aloadN X5.here hx rfl (hb hby d1_76) rfl rfl kk_) ?_
  show Go p e below T5 (mkF m 77 #[.val (.int (1 : Int32)), .val (.int x), .val (.ref b1)] [(.ref b1)]) _
  obtain ⟨fs, hr, hrun, hended, hW, hsame⟩ := X5.leave (v := some (.ref b1)) (fun h => by rw [Bd.returns] at h; cases h)
  refine ⟨_, _, ?_, hrun, hended, _, _, rfl, ?_, ⟨_, rfl⟩, hW, hsame.mono (by decide) (by decide)⟩
  · exact retOut X5 hx Bd.returns rfl (Or.inr (Or.inr (Or.inr (Or.inr ⟨rfl, rfl, rfl⟩)))) (hb hby d1_77) hr
  · show Q1_1 Z x h0 n0 _ T5.heap _
    rw [e5]
    exact ⟨_, rfl, N5, K7, sz1, gx1, Af.congr V5 (fun i hi => by rcases (show i = 0 by omega) with rfl <;> simp [qf5, upd, bitsF, qva, own_nb])⟩
theorem d1_23 : decode method_2_code 23 = .ok (.aload_n 2, 1) := by decide +kernel
theorem d1_24 : decode method_2_code 24 = .ok (.iconst 1, 1) := by decide +kernel
theorem d1_25 : decode method_2_code 25 = .ok (.iload_n 1, 1) := by decide +kernel
theorem d1_26 : decode method_2_code 26 = .ok (.iconst 2, 1) := by decide +kernel
theorem d1_27 : decode method_2_code 27 = .ok (.iand, 1) := by decide +kernel
theorem d1_28 : decode method_2_code 28 = .ok (.ifCond .eq 7, 3) := by decide +kernel
theorem d1_31 : decode method_2_code 31 = .ok (.iconst 1, 1) := by decide +kernel
theorem d1_32 : decode method_2_code 32 = .ok (.goto 4, 3) := by decide +kernel
theorem d1_35 : decode method_2_code 35 = .ok (.iconst 0, 1) := by decide +kernel
theorem d1_36 : decode method_2_code 36 = .ok (.bastore, 1) := by decide +kernel
theorem ef_1_2 (m : MethodId) (x0 : Int32) (x1 : Int32) : entryFrame m #[(.int x0), (.int x1)] 3 = mkF m 0 #[.val (.int x0), .val (.int x1), .unset] [] := by first | (simp [entryFrame, mkF, argsToLocals, Value.category]; done) | rfl
def Q1_2 (Z : State) (x : Int32) (h0 : Heap) (n0 : Nat) (v : Option Value) (h : Heap) (L : List Loc) : Prop := ∃ b, v = some (.ref b) ∧ Fr n0 L ∧ Keep h0 h [] ∧ h0.size ≤ b ∧ n0 ≤ b ∧ Af Z h b .boolean 2 (bitsF x)
set_option maxRecDepth 65536 in
set_option maxHeartbeats 40000000 in
theorem rm1_2 (l : Launch) (Z : State) (a0 : Array Value) (hw : ∀ d ∈ tables_1, d.before a0 Z = true) (ws : List Jvm.Cond) (x : Int32) (h0 : Heap) (n0 : Nat) (Z0 : n0 ≤ h0.size) :
    MetFree l (⟨"com/example/planwright/planwright/planner/AmongWeighsPinLaw", "fill", "(II)[Z"⟩ : MethodName) (head1 (Jvm.Cond.code (⟨"com/example/planwright/planwright/planner/AmongWeighsPinLaw", "fill", "(II)[Z"⟩ : MethodName) method_2_code 3 (some (.array .boolean)) :: ws) ({ frames := 0, cells := 1, slots := 2, locals := 0 } : Room)) (fun aa_ U => aa_ = #[(.int (2 : Int32)), (.int x)] ∧ Z.Warmed39 U.vm ∧ U.heap = h0) (fun _ _ _ _ _ => True) (fun _ U o U' => ∃ vv_ LL_, o = .returned vv_ ∧ Q1_2 Z x h0 n0 vv_ U'.heap LL_ ∧ FrameEnd U o U' LL_ ({ frames := 0, cells := 1, slots := 2, locals := 0 } : Room).cells ({ frames := 0, cells := 1, slots := 2, locals := 0 } : Room).slots) := by
  refine MetFree.of_bodySF (plainFor_of_name pn_0) hisR ?_
  intro p e s m args below meth c s₁ Bd hml0 hP hK
  obtain ⟨rfl, hZ, hh⟩ := hP
  have hx := Bd.exec
  have hby := Bd.bytes
  have hml : c.maxLocals = 3 := hml0
  have hown : s.vm.findClass "com/example/planwright/planwright/planner/AmongWeighsPinLaw" = some m.cls := findClass_of_methodNamed Bd.named
  have hnm := (name_of_methodNamed Bd.named Bd.method).1
  have X0 : Stand p l e ({ frames := 0, cells := 1, slots := 2, locals := 0 } : Room) s m #[(.int (2 : Int32)), (.int x)] below meth c s₁ [] 0 0 := Stand.of_body Bd
  have e0 : s₁.heap = h0 := by rw [← hh, Bd.state]; rfl
  have N0 := Fr.nil n0
  have K0 : Keep h0 h0 [] := Keep.refl h0 _
  refine Go.enter (P := fun o U' => ∃ vv_ LL_, o = .returned vv_ ∧ Q1_2 Z x h0 n0 vv_ U'.heap LL_ ∧ FrameEnd s o U' LL_ ({ frames := 0, cells := 1, slots := 2, locals := 0 } : Room).cells ({ frames := 0, cells := 1, slots := 2, locals := 0 } : Room).slots) (ef_1_2 m (2 : Int32) x) ?_
  show Go p e below s₁ (mkF m 0 #[.val (.int (2 : Int32)), .val (.int x), .unset] []) _
  refine Go.of (fun tg_ kk_ => XS.iloadN X0.here hx rfl (hb hby d1_0) rfl kk_) ?_
  show Go p e below s₁ (mkF m 1 #[.val (.int (2 : Int32)), .val (.int x), .unset] [(.int (2 : Int32))]) _
  obtain ⟨T1, h1, k1, X1, e1, E1, A1, st1⟩ := newP X0 hx hZ (hw _ (List.mem_of_getElem? (i := 4) rfl)) e0 (g := (mkF m 1 #[.val (.int (2 : Int32)), .val (.int x), .unset] [(.int (2 : Int32))])) rfl (hb hby d1_1) rfl (by decide) (cap := 2) (by decide) (by decide) (by decide) (by decide)
  obtain ⟨b1, g1⟩ : ∃ z, z = h0.size := ⟨_, rfl⟩
  rw [← g1] at A1 st1
  have gx1 : n0 ≤ b1 := Nat.le_trans Z0 (Nat.le_of_eq g1.symm)
  have sz1 : h0.size ≤ b1 := Nat.le_trans K0.1 (Nat.le_of_eq g1.symm)
  have K2 := K0.ext E1
  have Zs3 : n0 ≤ h1.size := Nat.le_trans Z0 E1.1
  have V1 : Af Z h1 b1 .boolean 2 (fun _ => 0) := Af.new rfl A1 (by decide)
  refine Go.of (st1) ?_
  show Go p e below T1 (mkF m 3 #[.val (.int (2 : Int32)), .val (.int x), .unset] [(.ref b1)]) _
  refine Go.of (fun tg_ kk_ => XS.astoreN X1.here hx rfl (hb hby d1_3) rfl rfl (l' := #[.val (.int (2 : Int32)), .val (.int x), .val (.ref b1)]) rfl kk_) ?_
  show Go p e below T1 (mkF m 4 #[.val (.int (2 : Int32)), .val (.int x), .val (.ref b1)] []) _
  refine Go.of (fun tg_ kk_ => XS.aloadN X1.here hx rfl (hb hby d1_4) rfl rfl kk_) ?_
  show Go p e below T1 (mkF m 5 #[.val (.int (2 : Int32)), .val (.int x), .val (.ref b1)] [(.ref b1)]) _
  refine Go.of (fun tg_ kk_ => XS.iconst X1.here hx rfl (hb hby d1_5) kk_) ?_
  show Go p e below T1 (mkF m 6 #[.val (.int (2 : Int32)), .val (.int x), .val (.ref b1)] [(.int (0 : Int32)), (.ref b1)]) _
  refine Go.of (fun tg_ kk_ => XS.iloadN X1.here hx rfl (hb hby d1_6) rfl kk_) ?_
  show Go p e below T1 (mkF m 7 #[.val (.int (2 : Int32)), .val (.int x), .val (.ref b1)] [(.int x), (.int (0 : Int32)), (.ref b1)]) _
  refine Go.of (fun tg_ kk_ => XS.iconst X1.here hx rfl (hb hby d1_7) kk_) ?_
  show Go p e below T1 (mkF m 8 #[.val (.int (2 : Int32)), .val (.int x), .val (.ref b1)] [(.int (1 : Int32)), (.int x), (.int (0 : Int32)), (.ref b1)]) _
  refine Go.of (fun tg_ kk_ => XS.iand X1.here hx rfl (hb hby d1_8) rfl kk_) ?_
  show Go p e below T1 (mkF m 9 #[.val (.int (2 : Int32)), .val (.int x), .val (.ref b1)] [(.int (x &&& (1 : Int32))), (.int (0 : Int32)), (.ref b1)]) _
  have st4 : ∀ va : Int32, va = (if (x &&& (1 : Int32)) = (0 : Int32) then (0 : Int32) else (1 : Int32)) → ∀ t, Steps p.tables e below (T1.setTop (mkF m 17 #[.val (.int (2 : Int32)), .val (.int x), .val (.ref b1)] [(.int va), (.int (0 : Int32)), (.ref b1)])) t → Steps p.tables e below (T1.setTop (mkF m 9 #[.val (.int (2 : Int32)), .val (.int x), .val (.ref b1)] [(.int (x &&& (1 : Int32))), (.int (0 : Int32)), (.ref b1)])) t := by
    intro va qva tg_ kk_
    by_cases hc : (x &&& (1 : Int32)) = (0 : Int32)
    · rw [if_pos hc] at qva; rw [qva] at kk_
      show Steps p.tables e below (T1.setTop (mkF m 9 #[.val (.int (2 : Int32)), .val (.int x), .val (.ref b1)] [(.int (x &&& (1 : Int32))), (.int (0 : Int32)), (.ref b1)])) _
      refine XS.ifYes X1.here hx rfl (pc0 := 9) (pc' := 16) rfl (hb hby d1_9) rfl ((if0 _ _).trans (teq hc).1) (by decide) (by decide) ?_
      show Steps p.tables e below (T1.setTop (mkF m 16 #[.val (.int (2 : Int32)), .val (.int x), .val (.ref b1)] [(.int (0 : Int32)), (.ref b1)])) _
      refine XS.iconst X1.here hx rfl (hb hby d1_16) ?_
      show Steps p.tables e below (T1.setTop (mkF m 17 #[.val (.int (2 : Int32)), .val (.int x), .val (.ref b1)] [(.int (0 : Int32)), (.int (0 : Int32)), (.ref b1)])) _
      exact kk_
    · rw [if_neg hc] at qva; rw [qva] at kk_
      show Steps p.tables e below (T1.setTop (mkF m 9 #[.val (.int (2 : Int32)), .val (.int x), .val (.ref b1)] [(.int (x &&& (1 : Int32))), (.int (0 : Int32)), (.ref b1)])) _
      refine XS.ifNo X1.here hx rfl (hb hby d1_9) rfl ((if0 _ _).trans (feq hc).1) ?_
      show Steps p.tables e below (T1.setTop (mkF m 12 #[.val (.int (2 : Int32)), .val (.int x), .val (.ref b1)] [(.int (0 : Int32)), (.ref b1)])) _
      refine XS.iconst X1.here hx rfl (hb hby d1_12) ?_
      show Steps p.tables e below (T1.setTop (mkF m 13 #[.val (.int (2 : Int32)), .val (.int x), .val (.ref b1)] [(.int (1 : Int32)), (.int (0 : Int32)), (.ref b1)])) _
      refine XS.goto X1.here hx rfl (pc0 := 13) (pc' := 17) rfl (hb hby d1_13) (by decide) (by decide) ?_
      show Steps p.tables e below (T1.setTop (mkF m 17 #[.val (.int (2 : Int32)), .val (.int x), .val (.ref b1)] [(.int (1 : Int32)), (.int (0 : Int32)), (.ref b1)])) _
      exact kk_
  obtain ⟨va, qva⟩ : ∃ z : Int32, z = (if (x &&& (1 : Int32)) = (0 : Int32) then (0 : Int32) else (1 : Int32)) := ⟨_, rfl⟩
  refine Go.of (st4 va qva) ?_
  show Go p e below T1 (mkF m 17 #[.val (.int (2 : Int32)), .val (.int x), .val (.ref b1)] [(.int va), (.int (0 : Int32)), (.ref b1)]) _
  have ib5 := (show ¬ ((0 : Int32) < 0) ∧ ((0 : Int32)).toNatClampNeg < 2 from ⟨by decide, by decide⟩)
  obtain ⟨cl5, Ar5, S5, H5⟩ := V1
  obtain ⟨T5, h5, X5, e5, W5, st5⟩ := stZ X1 hx hZ e1 Ar5 (j := (0 : Int32)) (Af.inb S5 ib5) (g := (mkF m 17 #[.val (.int (2 : Int32)), .val (.int x), .val (.ref b1)] [(.int va), (.int (0 : Int32)), (.ref b1)])) rfl rfl (hb hby d1_17)
  obtain ⟨f5, qf5⟩ : ∃ q : Nat → Int32, q = upd (fun _ => 0) 0 (nar .boolean va) := ⟨_, rfl⟩
  have V5 : Af Z h5 b1 .boolean 2 f5 := by rw [qf5]; exact Af.set Ar5 S5 H5 W5 (by decide)
  have K7 := K2.wr W5 (Or.inr sz1)
  have Zs8 : n0 ≤ h5.size := Nat.le_trans Zs3 (Keep.of_wr W5).1
  have N5 := Fr.snoc X5 N0 gx1
  refine Go.of (st5) ?_
  show Go p e below T5 (mkF m 18 #[.val (.int (2 : Int32)), .val (.int x), .val (.ref b1)] []) _
  refine Go.of (fun tg_ kk_ => XS.iloadN X5.here hx rfl (hb hby d1_18) rfl kk_) ?_
  show Go p e below T5 (mkF m 19 #[.val (.int (2 : Int32)), .val (.int x), .val (.ref b1)] [(.int (2 : Int32))]) _
  refine Go.of (fun tg_ kk_ => XS.iconst X5.here hx rfl (hb hby d1_19) kk_) ?_
  show Go p e below T5 (mkF m 20 #[.val (.int (2 : Int32)), .val (.int x), .val (.ref b1)] [(.int (1 : Int32)), (.int (2 : Int32))]) _
  refine Go.of (fun tg_ kk_ => XS.icmpNo X5.here hx rfl (hb hby d1_20) rfl (tlt (show (1 : Int32) < (2 : Int32) by decide)).2.2.2 kk_) ?_
  show Go p e below T5 (mkF m 23 #[.val (.int (2 : Int32)), .val (.int x), .val (.ref b1)] []) _
  refine Go.of (fun tg_ kk_ => XS.aloadN X5.here hx rfl (hb hby d1_23) rfl rfl kk_) ?_
  show Go p e below T5 (mkF m 24 #[.val (.int (2 : Int32)), .val (.int x), .val (.ref b1)] [(.ref b1)]) _
  refine Go.of (fun tg_ kk_ => XS.iconst X5.here hx rfl (hb hby d1_24) kk_) ?_
  show Go p e below T5 (mkF m 25 #[.val (.int (2 : Int32)), .val (.int x), .val (.ref b1)] [(.int (1 : Int32)), (.ref b1)]) _
  refine Go.of (fun tg_ kk_ => XS.iloadN X5.here hx rfl (hb hby d1_25) rfl kk_) ?_
  show Go p e below T5 (mkF m 26 #[.val (.int (2 : Int32)), .val (.int x), .val (.ref b1)] [(.int x), (.int (1 : Int32)), (.ref b1)]) _
  refine Go.of (fun tg_ kk_ => XS.iconst X5.here hx rfl (hb hby d1_26) kk_) ?_
  show Go p e below T5 (mkF m 27 #[.val (.int (2 : Int32)), .val (.int x), .val (.ref b1)] [(.int (2 : Int32)), (.int x), (.int (1 : Int32)), (.ref b1)]) _
  refine Go.of (fun tg_ kk_ => XS.iand X5.here hx rfl (hb hby d1_27) rfl kk_) ?_
  show Go p e below T5 (mkF m 28 #[.val (.int (2 : Int32)), .val (.int x), .val (.ref b1)] [(.int (x &&& (2 : Int32))), (.int (1 : Int32)), (.ref b1)]) _
  have st9 : ∀ vb : Int32, vb = (if (x &&& (2 : Int32)) = (0 : Int32) then (0 : Int32) else (1 : Int32)) → ∀ t, Steps p.tables e below (T5.setTop (mkF m 36 #[.val (.int (2 : Int32)), .val (.int x), .val (.ref b1)] [(.int vb), (.int (1 : Int32)), (.ref b1)])) t → Steps p.tables e below (T5.setTop (mkF m 28 #[.val (.int (2 : Int32)), .val (.int x), .val (.ref b1)] [(.int (x &&& (2 : Int32))), (.int (1 : Int32)), (.ref b1)])) t := by
    intro vb qvb tg_ kk_
    by_cases hc : (x &&& (2 : Int32)) = (0 : Int32)
    · rw [if_pos hc] at qvb; rw [qvb] at kk_
      show Steps p.tables e below (T5.setTop (mkF m 28 #[.val (.int (2 : Int32)), .val (.int x), .val (.ref b1)] [(.int (x &&& (2 : Int32))), (.int (1 : Int32)), (.ref b1)])) _
      refine XS.ifYes X5.here hx rfl (pc0 := 28) (pc' := 35) rfl (hb hby d1_28) rfl ((if0 _ _).trans (teq hc).1) (by decide) (by decide) ?_
      show Steps p.tables e below (T5.setTop (mkF m 35 #[.val (.int (2 : Int32)), .val (.int x), .val (.ref b1)] [(.int (1 : Int32)), (.ref b1)])) _
      refine XS.iconst X5.here hx rfl (hb hby d1_35) ?_
      show Steps p.tables e below (T5.setTop (mkF m 36 #[.val (.int (2 : Int32)), .val (.int x), .val (.ref b1)] [(.int (0 : Int32)), (.int (1 : Int32)), (.ref b1)])) _
      exact kk_
    · rw [if_neg hc] at qvb; rw [qvb] at kk_
      show Steps p.tables e below (T5.setTop (mkF m 28 #[.val (.int (2 : Int32)), .val (.int x), .val (.ref b1)] [(.int (x &&& (2 : Int32))), (.int (1 : Int32)), (.ref b1)])) _
      refine XS.ifNo X5.here hx rfl (hb hby d1_28) rfl ((if0 _ _).trans (feq hc).1) ?_
      show Steps p.tables e below (T5.setTop (mkF m 31 #[.val (.int (2 : Int32)), .val (.int x), .val (.ref b1)] [(.int (1 : Int32)), (.ref b1)])) _
      refine XS.iconst X5.here hx rfl (hb hby d1_31) ?_
      show Steps p.tables e below (T5.setTop (mkF m 32 #[.val (.int (2 : Int32)), .val (.int x), .val (.ref b1)] [(.int (1 : Int32)), (.int (1 : Int32)), (.ref b1)])) _
      refine XS.goto X5.here hx rfl (pc0 := 32) (pc' := 36) rfl (hb hby d1_32) (by decide) (by decide) ?_
      show Steps p.tables e below (T5.setTop (mkF m 36 #[.val (.int (2 : Int32)), .val (.int x), .val (.ref b1)] [(.int (1 : Int32)), (.int (1 : Int32)), (.ref b1)])) _
      exact kk_
  obtain ⟨vb, qvb⟩ : ∃ z : Int32, z = (if (x &&& (2 : Int32)) = (0 : Int32) then (0 : Int32) else (1 : Int32)) := ⟨_, rfl⟩
  refine Go.of (st9 vb qvb) ?_
  show Go p e below T5 (mkF m 36 #[.val (.int (2 : Int32)), .val (.int x), .val (.ref b1)] [(.int vb), (.int (1 : Int32)), (.ref b1)]) _
  have ib10 := (show ¬ ((1 : Int32) < 0) ∧ ((1 : Int32)).toNatClampNeg < 2 from ⟨by decide, by decide⟩)
  obtain ⟨cl10, Ar10, S10, H10⟩ := V5
  obtain ⟨T10, h10, X10, e10, W10, st10⟩ := stZ X5 hx hZ e5 Ar10 (j := (1 : Int32)) (Af.inb S10 ib10) (g := (mkF m 36 #[.val (.int (2 : Int32)), .val (.int x), .val (.ref b1)] [(.int vb), (.int (1 : Int32)), (.ref b1)])) rfl rfl (hb hby d1_36)
  obtain ⟨f10, qf10⟩ : ∃ q : Nat → Int32, q = upd f5 1 (nar .boolean vb) := ⟨_, rfl⟩
  have V10 : Af Z h10 b1 .boolean 2 f10 := by rw [qf10]; exact Af.set Ar10 S10 H10 W10 (by decide)
  have K12 := K7.wr W10 (Or.inr sz1)
  have Zs13 : n0 ≤ h10.size := Nat.le_trans Zs8 (Keep.of_wr W10).1
  have N10 := Fr.snoc X10 N5 gx1
  refine Go.of (st10) ?_
  show Go p e below T10 (mkF m 37 #[.val (.int (2 : Int32)), .val (.int x), .val (.ref b1)] []) _
  refine Go.of (fun tg_ kk_ => XS.iloadN X10.here hx rfl (hb hby d1_37) rfl kk_) ?_
  show Go p e below T10 (mkF m 38 #[.val (.int (2 : Int32)), .val (.int x), .val (.ref b1)] [(.int (2 : Int32))]) _
  refine Go.of (fun tg_ kk_ => XS.iconst X10.here hx rfl (hb hby d1_38) kk_) ?_
  show Go p e below T10 (mkF m 39 #[.val (.int (2 : Int32)), .val (.int x), .val (.ref b1)] [(.int (2 : Int32)), (.int (2 : Int32))]) _
  refine Go.of (fun tg_ kk_ => XS.icmpYes X10.here hx rfl (pc0 := 39) (pc' := 56) rfl (hb hby d1_39) rfl (flt (show ¬ ((2 : Int32) < (2 : Int32)) by decide)).2.2.2 (by decide) (by decide) kk_) ?_
  show Go p e below T10 (mkF m 56 #[.val (.int (2 : Int32)), .val (.int x), .val (.ref b1)] []) _
  refine Go.of (fun tg_ kk_ => XS.iloadN X10.here hx rfl (hb hby d1_56) rfl kk_) ?_
  show Go p e below T10 (mkF m 57 #[.val (.int (2 : Int32)), .val (.int x), .val (.ref b1)] [(.int (2 : Int32))]) _
  refine Go.of (fun tg_ kk_ => XS.iconst X10.here hx rfl (hb hby d1_57) kk_) ?_
  show Go p e below T10 (mkF m 58 #[.val (.int (2 : Int32)), .val (.int x), .val (.ref b1)] [(.int (3 : Int32)), (.int (2 : Int32))]) _
  refine Go.of (fun tg_ kk_ => XS.icmpYes X10.here hx rfl (pc0 := 58) (pc' := 76) rfl (hb hby d1_58) rfl (flt (show ¬ ((3 : Int32) < (2 : Int32)) by decide)).2.2.2 (by decide) (by decide) kk_) ?_
  show Go p e below T10 (mkF m 76 #[.val (.int (2 : Int32)), .val (.int x), .val (.ref b1)] []) _
  refine Go.of (fun tg_ kk_ => XS.aloadN X10.here hx rfl (hb hby d1_76) rfl rfl kk_) ?_
  show Go p e below T10 (mkF m 77 #[.val (.int (2 : Int32)), .val (.int x), .val (.ref b1)] [(.ref b1)]) _
  obtain ⟨fs, hr, hrun, hended, hW, hsame⟩ := X10.leave (v := some (.ref b1)) (fun h => by rw [Bd.returns] at h; cases h)
  refine ⟨_, _, ?_, hrun, hended, _, _, rfl, ?_, ⟨_, rfl⟩, hW, hsame.mono (by decide) (by decide)⟩
  · exact retOut X10 hx Bd.returns rfl (Or.inr (Or.inr (Or.inr (Or.inr ⟨rfl, rfl, rfl⟩)))) (hb hby d1_77) hr
  · show Q1_2 Z x h0 n0 _ T10.heap _
    rw [e10]
    exact ⟨_, rfl, N10, K12, sz1, gx1, Af.congr V10 (fun i hi => by rcases (show i = 0 ∨ i = 1 by omega) with rfl | rfl <;> simp [qf5, qf10, upd, bitsF, qva, qvb, own_nb])⟩
theorem d1_42 : decode method_2_code 42 = .ok (.aload_n 2, 1) := by decide +kernel
theorem d1_43 : decode method_2_code 43 = .ok (.iconst 2, 1) := by decide +kernel
theorem d1_44 : decode method_2_code 44 = .ok (.iload_n 1, 1) := by decide +kernel
theorem d1_45 : decode method_2_code 45 = .ok (.iconst 4, 1) := by decide +kernel
theorem d1_46 : decode method_2_code 46 = .ok (.iand, 1) := by decide +kernel
theorem d1_47 : decode method_2_code 47 = .ok (.ifCond .eq 7, 3) := by decide +kernel
theorem d1_50 : decode method_2_code 50 = .ok (.iconst 1, 1) := by decide +kernel
theorem d1_51 : decode method_2_code 51 = .ok (.goto 4, 3) := by decide +kernel
theorem d1_54 : decode method_2_code 54 = .ok (.iconst 0, 1) := by decide +kernel
theorem d1_55 : decode method_2_code 55 = .ok (.bastore, 1) := by decide +kernel
theorem ef_1_3 (m : MethodId) (x0 : Int32) (x1 : Int32) : entryFrame m #[(.int x0), (.int x1)] 3 = mkF m 0 #[.val (.int x0), .val (.int x1), .unset] [] := by first | (simp [entryFrame, mkF, argsToLocals, Value.category]; done) | rfl
def Q1_3 (Z : State) (x : Int32) (h0 : Heap) (n0 : Nat) (v : Option Value) (h : Heap) (L : List Loc) : Prop := ∃ b, v = some (.ref b) ∧ Fr n0 L ∧ Keep h0 h [] ∧ h0.size ≤ b ∧ n0 ≤ b ∧ Af Z h b .boolean 3 (bitsF x)
set_option maxRecDepth 65536 in
set_option maxHeartbeats 40000000 in
theorem rm1_3 (l : Launch) (Z : State) (a0 : Array Value) (hw : ∀ d ∈ tables_1, d.before a0 Z = true) (ws : List Jvm.Cond) (x : Int32) (h0 : Heap) (n0 : Nat) (Z0 : n0 ≤ h0.size) :
    MetFree l (⟨"com/example/planwright/planwright/planner/AmongWeighsPinLaw", "fill", "(II)[Z"⟩ : MethodName) (head1 (Jvm.Cond.code (⟨"com/example/planwright/planwright/planner/AmongWeighsPinLaw", "fill", "(II)[Z"⟩ : MethodName) method_2_code 3 (some (.array .boolean)) :: ws) ({ frames := 0, cells := 1, slots := 3, locals := 0 } : Room)) (fun aa_ U => aa_ = #[(.int (3 : Int32)), (.int x)] ∧ Z.Warmed39 U.vm ∧ U.heap = h0) (fun _ _ _ _ _ => True) (fun _ U o U' => ∃ vv_ LL_, o = .returned vv_ ∧ Q1_3 Z x h0 n0 vv_ U'.heap LL_ ∧ FrameEnd U o U' LL_ ({ frames := 0, cells := 1, slots := 3, locals := 0 } : Room).cells ({ frames := 0, cells := 1, slots := 3, locals := 0 } : Room).slots) := by
  refine MetFree.of_bodySF (plainFor_of_name pn_0) hisR ?_
  intro p e s m args below meth c s₁ Bd hml0 hP hK
  obtain ⟨rfl, hZ, hh⟩ := hP
  have hx := Bd.exec
  have hby := Bd.bytes
  have hml : c.maxLocals = 3 := hml0
  have hown : s.vm.findClass "com/example/planwright/planwright/planner/AmongWeighsPinLaw" = some m.cls := findClass_of_methodNamed Bd.named
  have hnm := (name_of_methodNamed Bd.named Bd.method).1
  have X0 : Stand p l e ({ frames := 0, cells := 1, slots := 3, locals := 0 } : Room) s m #[(.int (3 : Int32)), (.int x)] below meth c s₁ [] 0 0 := Stand.of_body Bd
  have e0 : s₁.heap = h0 := by rw [← hh, Bd.state]; rfl
  have N0 := Fr.nil n0
  have K0 : Keep h0 h0 [] := Keep.refl h0 _
  refine Go.enter (P := fun o U' => ∃ vv_ LL_, o = .returned vv_ ∧ Q1_3 Z x h0 n0 vv_ U'.heap LL_ ∧ FrameEnd s o U' LL_ ({ frames := 0, cells := 1, slots := 3, locals := 0 } : Room).cells ({ frames := 0, cells := 1, slots := 3, locals := 0 } : Room).slots) (ef_1_3 m (3 : Int32) x) ?_
  show Go p e below s₁ (mkF m 0 #[.val (.int (3 : Int32)), .val (.int x), .unset] []) _
  refine Go.of (fun tg_ kk_ => XS.iloadN X0.here hx rfl (hb hby d1_0) rfl kk_) ?_
  show Go p e below s₁ (mkF m 1 #[.val (.int (3 : Int32)), .val (.int x), .unset] [(.int (3 : Int32))]) _
  obtain ⟨T1, h1, k1, X1, e1, E1, A1, st1⟩ := newP X0 hx hZ (hw _ (List.mem_of_getElem? (i := 4) rfl)) e0 (g := (mkF m 1 #[.val (.int (3 : Int32)), .val (.int x), .unset] [(.int (3 : Int32))])) rfl (hb hby d1_1) rfl (by decide) (cap := 3) (by decide) (by decide) (by decide) (by decide)
  obtain ⟨b1, g1⟩ : ∃ z, z = h0.size := ⟨_, rfl⟩
  rw [← g1] at A1 st1
  have gx1 : n0 ≤ b1 := Nat.le_trans Z0 (Nat.le_of_eq g1.symm)
  have sz1 : h0.size ≤ b1 := Nat.le_trans K0.1 (Nat.le_of_eq g1.symm)
  have K2 := K0.ext E1
  have Zs3 : n0 ≤ h1.size := Nat.le_trans Z0 E1.1
  have V1 : Af Z h1 b1 .boolean 3 (fun _ => 0) := Af.new rfl A1 (by decide)
  refine Go.of (st1) ?_
  show Go p e below T1 (mkF m 3 #[.val (.int (3 : Int32)), .val (.int x), .unset] [(.ref b1)]) _
  refine Go.of (fun tg_ kk_ => XS.astoreN X1.here hx rfl (hb hby d1_3) rfl rfl (l' := #[.val (.int (3 : Int32)), .val (.int x), .val (.ref b1)]) rfl kk_) ?_
  show Go p e below T1 (mkF m 4 #[.val (.int (3 : Int32)), .val (.int x), .val (.ref b1)] []) _
  refine Go.of (fun tg_ kk_ => XS.aloadN X1.here hx rfl (hb hby d1_4) rfl rfl kk_) ?_
  show Go p e below T1 (mkF m 5 #[.val (.int (3 : Int32)), .val (.int x), .val (.ref b1)] [(.ref b1)]) _
  refine Go.of (fun tg_ kk_ => XS.iconst X1.here hx rfl (hb hby d1_5) kk_) ?_
  show Go p e below T1 (mkF m 6 #[.val (.int (3 : Int32)), .val (.int x), .val (.ref b1)] [(.int (0 : Int32)), (.ref b1)]) _
  refine Go.of (fun tg_ kk_ => XS.iloadN X1.here hx rfl (hb hby d1_6) rfl kk_) ?_
  show Go p e below T1 (mkF m 7 #[.val (.int (3 : Int32)), .val (.int x), .val (.ref b1)] [(.int x), (.int (0 : Int32)), (.ref b1)]) _
  refine Go.of (fun tg_ kk_ => XS.iconst X1.here hx rfl (hb hby d1_7) kk_) ?_
  show Go p e below T1 (mkF m 8 #[.val (.int (3 : Int32)), .val (.int x), .val (.ref b1)] [(.int (1 : Int32)), (.int x), (.int (0 : Int32)), (.ref b1)]) _
  refine Go.of (fun tg_ kk_ => XS.iand X1.here hx rfl (hb hby d1_8) rfl kk_) ?_
  show Go p e below T1 (mkF m 9 #[.val (.int (3 : Int32)), .val (.int x), .val (.ref b1)] [(.int (x &&& (1 : Int32))), (.int (0 : Int32)), (.ref b1)]) _
  have st4 : ∀ va : Int32, va = (if (x &&& (1 : Int32)) = (0 : Int32) then (0 : Int32) else (1 : Int32)) → ∀ t, Steps p.tables e below (T1.setTop (mkF m 17 #[.val (.int (3 : Int32)), .val (.int x), .val (.ref b1)] [(.int va), (.int (0 : Int32)), (.ref b1)])) t → Steps p.tables e below (T1.setTop (mkF m 9 #[.val (.int (3 : Int32)), .val (.int x), .val (.ref b1)] [(.int (x &&& (1 : Int32))), (.int (0 : Int32)), (.ref b1)])) t := by
    intro va qva tg_ kk_
    by_cases hc : (x &&& (1 : Int32)) = (0 : Int32)
    · rw [if_pos hc] at qva; rw [qva] at kk_
      show Steps p.tables e below (T1.setTop (mkF m 9 #[.val (.int (3 : Int32)), .val (.int x), .val (.ref b1)] [(.int (x &&& (1 : Int32))), (.int (0 : Int32)), (.ref b1)])) _
      refine XS.ifYes X1.here hx rfl (pc0 := 9) (pc' := 16) rfl (hb hby d1_9) rfl ((if0 _ _).trans (teq hc).1) (by decide) (by decide) ?_
      show Steps p.tables e below (T1.setTop (mkF m 16 #[.val (.int (3 : Int32)), .val (.int x), .val (.ref b1)] [(.int (0 : Int32)), (.ref b1)])) _
      refine XS.iconst X1.here hx rfl (hb hby d1_16) ?_
      show Steps p.tables e below (T1.setTop (mkF m 17 #[.val (.int (3 : Int32)), .val (.int x), .val (.ref b1)] [(.int (0 : Int32)), (.int (0 : Int32)), (.ref b1)])) _
      exact kk_
    · rw [if_neg hc] at qva; rw [qva] at kk_
      show Steps p.tables e below (T1.setTop (mkF m 9 #[.val (.int (3 : Int32)), .val (.int x), .val (.ref b1)] [(.int (x &&& (1 : Int32))), (.int (0 : Int32)), (.ref b1)])) _
      refine XS.ifNo X1.here hx rfl (hb hby d1_9) rfl ((if0 _ _).trans (feq hc).1) ?_
      show Steps p.tables e below (T1.setTop (mkF m 12 #[.val (.int (3 : Int32)), .val (.int x), .val (.ref b1)] [(.int (0 : Int32)), (.ref b1)])) _
      refine XS.iconst X1.here hx rfl (hb hby d1_12) ?_
      show Steps p.tables e below (T1.setTop (mkF m 13 #[.val (.int (3 : Int32)), .val (.int x), .val (.ref b1)] [(.int (1 : Int32)), (.int (0 : Int32)), (.ref b1)])) _
      refine XS.goto X1.here hx rfl (pc0 := 13) (pc' := 17) rfl (hb hby d1_13) (by decide) (by decide) ?_
      show Steps p.tables e below (T1.setTop (mkF m 17 #[.val (.int (3 : Int32)), .val (.int x), .val (.ref b1)] [(.int (1 : Int32)), (.int (0 : Int32)), (.ref b1)])) _
      exact kk_
  obtain ⟨va, qva⟩ : ∃ z : Int32, z = (if (x &&& (1 : Int32)) = (0 : Int32) then (0 : Int32) else (1 : Int32)) := ⟨_, rfl⟩
  refine Go.of (st4 va qva) ?_
  show Go p e below T1 (mkF m 17 #[.val (.int (3 : Int32)), .val (.int x), .val (.ref b1)] [(.int va), (.int (0 : Int32)), (.ref b1)]) _
  have ib5 := (show ¬ ((0 : Int32) < 0) ∧ ((0 : Int32)).toNatClampNeg < 3 from ⟨by decide, by decide⟩)
  obtain ⟨cl5, Ar5, S5, H5⟩ := V1
  obtain ⟨T5, h5, X5, e5, W5, st5⟩ := stZ X1 hx hZ e1 Ar5 (j := (0 : Int32)) (Af.inb S5 ib5) (g := (mkF m 17 #[.val (.int (3 : Int32)), .val (.int x), .val (.ref b1)] [(.int va), (.int (0 : Int32)), (.ref b1)])) rfl rfl (hb hby d1_17)
  obtain ⟨f5, qf5⟩ : ∃ q : Nat → Int32, q = upd (fun _ => 0) 0 (nar .boolean va) := ⟨_, rfl⟩
  have V5 : Af Z h5 b1 .boolean 3 f5 := by rw [qf5]; exact Af.set Ar5 S5 H5 W5 (by decide)
  have K7 := K2.wr W5 (Or.inr sz1)
  have Zs8 : n0 ≤ h5.size := Nat.le_trans Zs3 (Keep.of_wr W5).1
  have N5 := Fr.snoc X5 N0 gx1
  refine Go.of (st5) ?_
  show Go p e below T5 (mkF m 18 #[.val (.int (3 : Int32)), .val (.int x), .val (.ref b1)] []) _
  refine Go.of (fun tg_ kk_ => XS.iloadN X5.here hx rfl (hb hby d1_18) rfl kk_) ?_
  show Go p e below T5 (mkF m 19 #[.val (.int (3 : Int32)), .val (.int x), .val (.ref b1)] [(.int (3 : Int32))]) _
  refine Go.of (fun tg_ kk_ => XS.iconst X5.here hx rfl (hb hby d1_19) kk_) ?_
  show Go p e below T5 (mkF m 20 #[.val (.int (3 : Int32)), .val (.int x), .val (.ref b1)] [(.int (1 : Int32)), (.int (3 : Int32))]) _
  refine Go.of (fun tg_ kk_ => XS.icmpNo X5.here hx rfl (hb hby d1_20) rfl (tlt (show (1 : Int32) < (3 : Int32) by decide)).2.2.2 kk_) ?_
  show Go p e below T5 (mkF m 23 #[.val (.int (3 : Int32)), .val (.int x), .val (.ref b1)] []) _
  refine Go.of (fun tg_ kk_ => XS.aloadN X5.here hx rfl (hb hby d1_23) rfl rfl kk_) ?_
  show Go p e below T5 (mkF m 24 #[.val (.int (3 : Int32)), .val (.int x), .val (.ref b1)] [(.ref b1)]) _
  refine Go.of (fun tg_ kk_ => XS.iconst X5.here hx rfl (hb hby d1_24) kk_) ?_
  show Go p e below T5 (mkF m 25 #[.val (.int (3 : Int32)), .val (.int x), .val (.ref b1)] [(.int (1 : Int32)), (.ref b1)]) _
  refine Go.of (fun tg_ kk_ => XS.iloadN X5.here hx rfl (hb hby d1_25) rfl kk_) ?_
  show Go p e below T5 (mkF m 26 #[.val (.int (3 : Int32)), .val (.int x), .val (.ref b1)] [(.int x), (.int (1 : Int32)), (.ref b1)]) _
  refine Go.of (fun tg_ kk_ => XS.iconst X5.here hx rfl (hb hby d1_26) kk_) ?_
  show Go p e below T5 (mkF m 27 #[.val (.int (3 : Int32)), .val (.int x), .val (.ref b1)] [(.int (2 : Int32)), (.int x), (.int (1 : Int32)), (.ref b1)]) _
  refine Go.of (fun tg_ kk_ => XS.iand X5.here hx rfl (hb hby d1_27) rfl kk_) ?_
  show Go p e below T5 (mkF m 28 #[.val (.int (3 : Int32)), .val (.int x), .val (.ref b1)] [(.int (x &&& (2 : Int32))), (.int (1 : Int32)), (.ref b1)]) _
  have st9 : ∀ vb : Int32, vb = (if (x &&& (2 : Int32)) = (0 : Int32) then (0 : Int32) else (1 : Int32)) → ∀ t, Steps p.tables e below (T5.setTop (mkF m 36 #[.val (.int (3 : Int32)), .val (.int x), .val (.ref b1)] [(.int vb), (.int (1 : Int32)), (.ref b1)])) t → Steps p.tables e below (T5.setTop (mkF m 28 #[.val (.int (3 : Int32)), .val (.int x), .val (.ref b1)] [(.int (x &&& (2 : Int32))), (.int (1 : Int32)), (.ref b1)])) t := by
    intro vb qvb tg_ kk_
    by_cases hc : (x &&& (2 : Int32)) = (0 : Int32)
    · rw [if_pos hc] at qvb; rw [qvb] at kk_
      show Steps p.tables e below (T5.setTop (mkF m 28 #[.val (.int (3 : Int32)), .val (.int x), .val (.ref b1)] [(.int (x &&& (2 : Int32))), (.int (1 : Int32)), (.ref b1)])) _
      refine XS.ifYes X5.here hx rfl (pc0 := 28) (pc' := 35) rfl (hb hby d1_28) rfl ((if0 _ _).trans (teq hc).1) (by decide) (by decide) ?_
      show Steps p.tables e below (T5.setTop (mkF m 35 #[.val (.int (3 : Int32)), .val (.int x), .val (.ref b1)] [(.int (1 : Int32)), (.ref b1)])) _
      refine XS.iconst X5.here hx rfl (hb hby d1_35) ?_
      show Steps p.tables e below (T5.setTop (mkF m 36 #[.val (.int (3 : Int32)), .val (.int x), .val (.ref b1)] [(.int (0 : Int32)), (.int (1 : Int32)), (.ref b1)])) _
      exact kk_
    · rw [if_neg hc] at qvb; rw [qvb] at kk_
      show Steps p.tables e below (T5.setTop (mkF m 28 #[.val (.int (3 : Int32)), .val (.int x), .val (.ref b1)] [(.int (x &&& (2 : Int32))), (.int (1 : Int32)), (.ref b1)])) _
      refine XS.ifNo X5.here hx rfl (hb hby d1_28) rfl ((if0 _ _).trans (feq hc).1) ?_
      show Steps p.tables e below (T5.setTop (mkF m 31 #[.val (.int (3 : Int32)), .val (.int x), .val (.ref b1)] [(.int (1 : Int32)), (.ref b1)])) _
      refine XS.iconst X5.here hx rfl (hb hby d1_31) ?_
      show Steps p.tables e below (T5.setTop (mkF m 32 #[.val (.int (3 : Int32)), .val (.int x), .val (.ref b1)] [(.int (1 : Int32)), (.int (1 : Int32)), (.ref b1)])) _
      refine XS.goto X5.here hx rfl (pc0 := 32) (pc' := 36) rfl (hb hby d1_32) (by decide) (by decide) ?_
      show Steps p.tables e below (T5.setTop (mkF m 36 #[.val (.int (3 : Int32)), .val (.int x), .val (.ref b1)] [(.int (1 : Int32)), (.int (1 : Int32)), (.ref b1)])) _
      exact kk_
  obtain ⟨vb, qvb⟩ : ∃ z : Int32, z = (if (x &&& (2 : Int32)) = (0 : Int32) then (0 : Int32) else (1 : Int32)) := ⟨_, rfl⟩
  refine Go.of (st9 vb qvb) ?_
  show Go p e below T5 (mkF m 36 #[.val (.int (3 : Int32)), .val (.int x), .val (.ref b1)] [(.int vb), (.int (1 : Int32)), (.ref b1)]) _
  have ib10 := (show ¬ ((1 : Int32) < 0) ∧ ((1 : Int32)).toNatClampNeg < 3 from ⟨by decide, by decide⟩)
  obtain ⟨cl10, Ar10, S10, H10⟩ := V5
  obtain ⟨T10, h10, X10, e10, W10, st10⟩ := stZ X5 hx hZ e5 Ar10 (j := (1 : Int32)) (Af.inb S10 ib10) (g := (mkF m 36 #[.val (.int (3 : Int32)), .val (.int x), .val (.ref b1)] [(.int vb), (.int (1 : Int32)), (.ref b1)])) rfl rfl (hb hby d1_36)
  obtain ⟨f10, qf10⟩ : ∃ q : Nat → Int32, q = upd f5 1 (nar .boolean vb) := ⟨_, rfl⟩
  have V10 : Af Z h10 b1 .boolean 3 f10 := by rw [qf10]; exact Af.set Ar10 S10 H10 W10 (by decide)
  have K12 := K7.wr W10 (Or.inr sz1)
  have Zs13 : n0 ≤ h10.size := Nat.le_trans Zs8 (Keep.of_wr W10).1
  have N10 := Fr.snoc X10 N5 gx1
  refine Go.of (st10) ?_
  show Go p e below T10 (mkF m 37 #[.val (.int (3 : Int32)), .val (.int x), .val (.ref b1)] []) _
  refine Go.of (fun tg_ kk_ => XS.iloadN X10.here hx rfl (hb hby d1_37) rfl kk_) ?_
  show Go p e below T10 (mkF m 38 #[.val (.int (3 : Int32)), .val (.int x), .val (.ref b1)] [(.int (3 : Int32))]) _
  refine Go.of (fun tg_ kk_ => XS.iconst X10.here hx rfl (hb hby d1_38) kk_) ?_
  show Go p e below T10 (mkF m 39 #[.val (.int (3 : Int32)), .val (.int x), .val (.ref b1)] [(.int (2 : Int32)), (.int (3 : Int32))]) _
  refine Go.of (fun tg_ kk_ => XS.icmpNo X10.here hx rfl (hb hby d1_39) rfl (tlt (show (2 : Int32) < (3 : Int32) by decide)).2.2.2 kk_) ?_
  show Go p e below T10 (mkF m 42 #[.val (.int (3 : Int32)), .val (.int x), .val (.ref b1)] []) _
  refine Go.of (fun tg_ kk_ => XS.aloadN X10.here hx rfl (hb hby d1_42) rfl rfl kk_) ?_
  show Go p e below T10 (mkF m 43 #[.val (.int (3 : Int32)), .val (.int x), .val (.ref b1)] [(.ref b1)]) _
  refine Go.of (fun tg_ kk_ => XS.iconst X10.here hx rfl (hb hby d1_43) kk_) ?_
  show Go p e below T10 (mkF m 44 #[.val (.int (3 : Int32)), .val (.int x), .val (.ref b1)] [(.int (2 : Int32)), (.ref b1)]) _
  refine Go.of (fun tg_ kk_ => XS.iloadN X10.here hx rfl (hb hby d1_44) rfl kk_) ?_
  show Go p e below T10 (mkF m 45 #[.val (.int (3 : Int32)), .val (.int x), .val (.ref b1)] [(.int x), (.int (2 : Int32)), (.ref b1)]) _
  refine Go.of (fun tg_ kk_ => XS.iconst X10.here hx rfl (hb hby d1_45) kk_) ?_
  show Go p e below T10 (mkF m 46 #[.val (.int (3 : Int32)), .val (.int x), .val (.ref b1)] [(.int (4 : Int32)), (.int x), (.int (2 : Int32)), (.ref b1)]) _
  refine Go.of (fun tg_ kk_ => XS.iand X10.here hx rfl (hb hby d1_46) rfl kk_) ?_
  show Go p e below T10 (mkF m 47 #[.val (.int (3 : Int32)), .val (.int x), .val (.ref b1)] [(.int (x &&& (4 : Int32))), (.int (2 : Int32)), (.ref b1)]) _
  have st14 : ∀ vc : Int32, vc = (if (x &&& (4 : Int32)) = (0 : Int32) then (0 : Int32) else (1 : Int32)) → ∀ t, Steps p.tables e below (T10.setTop (mkF m 55 #[.val (.int (3 : Int32)), .val (.int x), .val (.ref b1)] [(.int vc), (.int (2 : Int32)), (.ref b1)])) t → Steps p.tables e below (T10.setTop (mkF m 47 #[.val (.int (3 : Int32)), .val (.int x), .val (.ref b1)] [(.int (x &&& (4 : Int32))), (.int (2 : Int32)), (.ref b1)])) t := by
    intro vc qvc tg_ kk_
    by_cases hc : (x &&& (4 : Int32)) = (0 : Int32)
    · rw [if_pos hc] at qvc; rw [qvc] at kk_
      show Steps p.tables e below (T10.setTop (mkF m 47 #[.val (.int (3 : Int32)), .val (.int x), .val (.ref b1)] [(.int (x &&& (4 : Int32))), (.int (2 : Int32)), (.ref b1)])) _
      refine XS.ifYes X10.here hx rfl (pc0 := 47) (pc' := 54) rfl (hb hby d1_47) rfl ((if0 _ _).trans (teq hc).1) (by decide) (by decide) ?_
      show Steps p.tables e below (T10.setTop (mkF m 54 #[.val (.int (3 : Int32)), .val (.int x), .val (.ref b1)] [(.int (2 : Int32)), (.ref b1)])) _
      refine XS.iconst X10.here hx rfl (hb hby d1_54) ?_
      show Steps p.tables e below (T10.setTop (mkF m 55 #[.val (.int (3 : Int32)), .val (.int x), .val (.ref b1)] [(.int (0 : Int32)), (.int (2 : Int32)), (.ref b1)])) _
      exact kk_
    · rw [if_neg hc] at qvc; rw [qvc] at kk_
      show Steps p.tables e below (T10.setTop (mkF m 47 #[.val (.int (3 : Int32)), .val (.int x), .val (.ref b1)] [(.int (x &&& (4 : Int32))), (.int (2 : Int32)), (.ref b1)])) _
      refine XS.ifNo X10.here hx rfl (hb hby d1_47) rfl ((if0 _ _).trans (feq hc).1) ?_
      show Steps p.tables e below (T10.setTop (mkF m 50 #[.val (.int (3 : Int32)), .val (.int x), .val (.ref b1)] [(.int (2 : Int32)), (.ref b1)])) _
      refine XS.iconst X10.here hx rfl (hb hby d1_50) ?_
      show Steps p.tables e below (T10.setTop (mkF m 51 #[.val (.int (3 : Int32)), .val (.int x), .val (.ref b1)] [(.int (1 : Int32)), (.int (2 : Int32)), (.ref b1)])) _
      refine XS.goto X10.here hx rfl (pc0 := 51) (pc' := 55) rfl (hb hby d1_51) (by decide) (by decide) ?_
      show Steps p.tables e below (T10.setTop (mkF m 55 #[.val (.int (3 : Int32)), .val (.int x), .val (.ref b1)] [(.int (1 : Int32)), (.int (2 : Int32)), (.ref b1)])) _
      exact kk_
  obtain ⟨vc, qvc⟩ : ∃ z : Int32, z = (if (x &&& (4 : Int32)) = (0 : Int32) then (0 : Int32) else (1 : Int32)) := ⟨_, rfl⟩
  refine Go.of (st14 vc qvc) ?_
  show Go p e below T10 (mkF m 55 #[.val (.int (3 : Int32)), .val (.int x), .val (.ref b1)] [(.int vc), (.int (2 : Int32)), (.ref b1)]) _
  have ib15 := (show ¬ ((2 : Int32) < 0) ∧ ((2 : Int32)).toNatClampNeg < 3 from ⟨by decide, by decide⟩)
  obtain ⟨cl15, Ar15, S15, H15⟩ := V10
  obtain ⟨T15, h15, X15, e15, W15, st15⟩ := stZ X10 hx hZ e10 Ar15 (j := (2 : Int32)) (Af.inb S15 ib15) (g := (mkF m 55 #[.val (.int (3 : Int32)), .val (.int x), .val (.ref b1)] [(.int vc), (.int (2 : Int32)), (.ref b1)])) rfl rfl (hb hby d1_55)
  obtain ⟨f15, qf15⟩ : ∃ q : Nat → Int32, q = upd f10 2 (nar .boolean vc) := ⟨_, rfl⟩
  have V15 : Af Z h15 b1 .boolean 3 f15 := by rw [qf15]; exact Af.set Ar15 S15 H15 W15 (by decide)
  have K17 := K12.wr W15 (Or.inr sz1)
  have Zs18 : n0 ≤ h15.size := Nat.le_trans Zs13 (Keep.of_wr W15).1
  have N15 := Fr.snoc X15 N10 gx1
  refine Go.of (st15) ?_
  show Go p e below T15 (mkF m 56 #[.val (.int (3 : Int32)), .val (.int x), .val (.ref b1)] []) _
  refine Go.of (fun tg_ kk_ => XS.iloadN X15.here hx rfl (hb hby d1_56) rfl kk_) ?_
  show Go p e below T15 (mkF m 57 #[.val (.int (3 : Int32)), .val (.int x), .val (.ref b1)] [(.int (3 : Int32))]) _
  refine Go.of (fun tg_ kk_ => XS.iconst X15.here hx rfl (hb hby d1_57) kk_) ?_
  show Go p e below T15 (mkF m 58 #[.val (.int (3 : Int32)), .val (.int x), .val (.ref b1)] [(.int (3 : Int32)), (.int (3 : Int32))]) _
  refine Go.of (fun tg_ kk_ => XS.icmpYes X15.here hx rfl (pc0 := 58) (pc' := 76) rfl (hb hby d1_58) rfl (flt (show ¬ ((3 : Int32) < (3 : Int32)) by decide)).2.2.2 (by decide) (by decide) kk_) ?_
  show Go p e below T15 (mkF m 76 #[.val (.int (3 : Int32)), .val (.int x), .val (.ref b1)] []) _
  refine Go.of (fun tg_ kk_ => XS.aloadN X15.here hx rfl (hb hby d1_76) rfl rfl kk_) ?_
  show Go p e below T15 (mkF m 77 #[.val (.int (3 : Int32)), .val (.int x), .val (.ref b1)] [(.ref b1)]) _
  obtain ⟨fs, hr, hrun, hended, hW, hsame⟩ := X15.leave (v := some (.ref b1)) (fun h => by rw [Bd.returns] at h; cases h)
  refine ⟨_, _, ?_, hrun, hended, _, _, rfl, ?_, ⟨_, rfl⟩, hW, hsame.mono (by decide) (by decide)⟩
  · exact retOut X15 hx Bd.returns rfl (Or.inr (Or.inr (Or.inr (Or.inr ⟨rfl, rfl, rfl⟩)))) (hb hby d1_77) hr
  · show Q1_3 Z x h0 n0 _ T15.heap _
    rw [e15]
    exact ⟨_, rfl, N15, K17, sz1, gx1, Af.congr V15 (fun i hi => by rcases (show i = 0 ∨ i = 1 ∨ i = 2 by omega) with rfl | rfl | rfl <;> simp [qf5, qf10, qf15, upd, bitsF, qva, qvb, qvc, own_nb])⟩
theorem d1_61 : decode method_2_code 61 = .ok (.aload_n 2, 1) := by decide +kernel
theorem d1_62 : decode method_2_code 62 = .ok (.iconst 3, 1) := by decide +kernel
theorem d1_63 : decode method_2_code 63 = .ok (.iload_n 1, 1) := by decide +kernel
theorem d1_64 : decode method_2_code 64 = .ok (.bipush 8, 2) := by decide +kernel
theorem d1_66 : decode method_2_code 66 = .ok (.iand, 1) := by decide +kernel
theorem d1_67 : decode method_2_code 67 = .ok (.ifCond .eq 7, 3) := by decide +kernel
theorem d1_70 : decode method_2_code 70 = .ok (.iconst 1, 1) := by decide +kernel
theorem d1_71 : decode method_2_code 71 = .ok (.goto 4, 3) := by decide +kernel
theorem d1_74 : decode method_2_code 74 = .ok (.iconst 0, 1) := by decide +kernel
theorem d1_75 : decode method_2_code 75 = .ok (.bastore, 1) := by decide +kernel
theorem ef_1_4 (m : MethodId) (x0 : Int32) (x1 : Int32) : entryFrame m #[(.int x0), (.int x1)] 3 = mkF m 0 #[.val (.int x0), .val (.int x1), .unset] [] := by first | (simp [entryFrame, mkF, argsToLocals, Value.category]; done) | rfl
def Q1_4 (Z : State) (x : Int32) (h0 : Heap) (n0 : Nat) (v : Option Value) (h : Heap) (L : List Loc) : Prop := ∃ b, v = some (.ref b) ∧ Fr n0 L ∧ Keep h0 h [] ∧ h0.size ≤ b ∧ n0 ≤ b ∧ Af Z h b .boolean 4 (bitsF x)
set_option maxRecDepth 65536 in
set_option maxHeartbeats 40000000 in
theorem rm1_4 (l : Launch) (Z : State) (a0 : Array Value) (hw : ∀ d ∈ tables_1, d.before a0 Z = true) (ws : List Jvm.Cond) (x : Int32) (h0 : Heap) (n0 : Nat) (Z0 : n0 ≤ h0.size) :
    MetFree l (⟨"com/example/planwright/planwright/planner/AmongWeighsPinLaw", "fill", "(II)[Z"⟩ : MethodName) (head1 (Jvm.Cond.code (⟨"com/example/planwright/planwright/planner/AmongWeighsPinLaw", "fill", "(II)[Z"⟩ : MethodName) method_2_code 3 (some (.array .boolean)) :: ws) ({ frames := 0, cells := 1, slots := 4, locals := 0 } : Room)) (fun aa_ U => aa_ = #[(.int (4 : Int32)), (.int x)] ∧ Z.Warmed39 U.vm ∧ U.heap = h0) (fun _ _ _ _ _ => True) (fun _ U o U' => ∃ vv_ LL_, o = .returned vv_ ∧ Q1_4 Z x h0 n0 vv_ U'.heap LL_ ∧ FrameEnd U o U' LL_ ({ frames := 0, cells := 1, slots := 4, locals := 0 } : Room).cells ({ frames := 0, cells := 1, slots := 4, locals := 0 } : Room).slots) := by
  refine MetFree.of_bodySF (plainFor_of_name pn_0) hisR ?_
  intro p e s m args below meth c s₁ Bd hml0 hP hK
  obtain ⟨rfl, hZ, hh⟩ := hP
  have hx := Bd.exec
  have hby := Bd.bytes
  have hml : c.maxLocals = 3 := hml0
  have hown : s.vm.findClass "com/example/planwright/planwright/planner/AmongWeighsPinLaw" = some m.cls := findClass_of_methodNamed Bd.named
  have hnm := (name_of_methodNamed Bd.named Bd.method).1
  have X0 : Stand p l e ({ frames := 0, cells := 1, slots := 4, locals := 0 } : Room) s m #[(.int (4 : Int32)), (.int x)] below meth c s₁ [] 0 0 := Stand.of_body Bd
  have e0 : s₁.heap = h0 := by rw [← hh, Bd.state]; rfl
  have N0 := Fr.nil n0
  have K0 : Keep h0 h0 [] := Keep.refl h0 _
  refine Go.enter (P := fun o U' => ∃ vv_ LL_, o = .returned vv_ ∧ Q1_4 Z x h0 n0 vv_ U'.heap LL_ ∧ FrameEnd s o U' LL_ ({ frames := 0, cells := 1, slots := 4, locals := 0 } : Room).cells ({ frames := 0, cells := 1, slots := 4, locals := 0 } : Room).slots) (ef_1_4 m (4 : Int32) x) ?_
  show Go p e below s₁ (mkF m 0 #[.val (.int (4 : Int32)), .val (.int x), .unset] []) _
  refine Go.of (fun tg_ kk_ => XS.iloadN X0.here hx rfl (hb hby d1_0) rfl kk_) ?_
  show Go p e below s₁ (mkF m 1 #[.val (.int (4 : Int32)), .val (.int x), .unset] [(.int (4 : Int32))]) _
  obtain ⟨T1, h1, k1, X1, e1, E1, A1, st1⟩ := newP X0 hx hZ (hw _ (List.mem_of_getElem? (i := 4) rfl)) e0 (g := (mkF m 1 #[.val (.int (4 : Int32)), .val (.int x), .unset] [(.int (4 : Int32))])) rfl (hb hby d1_1) rfl (by decide) (cap := 4) (by decide) (by decide) (by decide) (by decide)
  obtain ⟨b1, g1⟩ : ∃ z, z = h0.size := ⟨_, rfl⟩
  rw [← g1] at A1 st1
  have gx1 : n0 ≤ b1 := Nat.le_trans Z0 (Nat.le_of_eq g1.symm)
  have sz1 : h0.size ≤ b1 := Nat.le_trans K0.1 (Nat.le_of_eq g1.symm)
  have K2 := K0.ext E1
  have Zs3 : n0 ≤ h1.size := Nat.le_trans Z0 E1.1
  have V1 : Af Z h1 b1 .boolean 4 (fun _ => 0) := Af.new rfl A1 (by decide)
  refine Go.of (st1) ?_
  show Go p e below T1 (mkF m 3 #[.val (.int (4 : Int32)), .val (.int x), .unset] [(.ref b1)]) _
  refine Go.of (fun tg_ kk_ => XS.astoreN X1.here hx rfl (hb hby d1_3) rfl rfl (l' := #[.val (.int (4 : Int32)), .val (.int x), .val (.ref b1)]) rfl kk_) ?_
  show Go p e below T1 (mkF m 4 #[.val (.int (4 : Int32)), .val (.int x), .val (.ref b1)] []) _
  refine Go.of (fun tg_ kk_ => XS.aloadN X1.here hx rfl (hb hby d1_4) rfl rfl kk_) ?_
  show Go p e below T1 (mkF m 5 #[.val (.int (4 : Int32)), .val (.int x), .val (.ref b1)] [(.ref b1)]) _
  refine Go.of (fun tg_ kk_ => XS.iconst X1.here hx rfl (hb hby d1_5) kk_) ?_
  show Go p e below T1 (mkF m 6 #[.val (.int (4 : Int32)), .val (.int x), .val (.ref b1)] [(.int (0 : Int32)), (.ref b1)]) _
  refine Go.of (fun tg_ kk_ => XS.iloadN X1.here hx rfl (hb hby d1_6) rfl kk_) ?_
  show Go p e below T1 (mkF m 7 #[.val (.int (4 : Int32)), .val (.int x), .val (.ref b1)] [(.int x), (.int (0 : Int32)), (.ref b1)]) _
  refine Go.of (fun tg_ kk_ => XS.iconst X1.here hx rfl (hb hby d1_7) kk_) ?_
  show Go p e below T1 (mkF m 8 #[.val (.int (4 : Int32)), .val (.int x), .val (.ref b1)] [(.int (1 : Int32)), (.int x), (.int (0 : Int32)), (.ref b1)]) _
  refine Go.of (fun tg_ kk_ => XS.iand X1.here hx rfl (hb hby d1_8) rfl kk_) ?_
  show Go p e below T1 (mkF m 9 #[.val (.int (4 : Int32)), .val (.int x), .val (.ref b1)] [(.int (x &&& (1 : Int32))), (.int (0 : Int32)), (.ref b1)]) _
  have st4 : ∀ va : Int32, va = (if (x &&& (1 : Int32)) = (0 : Int32) then (0 : Int32) else (1 : Int32)) → ∀ t, Steps p.tables e below (T1.setTop (mkF m 17 #[.val (.int (4 : Int32)), .val (.int x), .val (.ref b1)] [(.int va), (.int (0 : Int32)), (.ref b1)])) t → Steps p.tables e below (T1.setTop (mkF m 9 #[.val (.int (4 : Int32)), .val (.int x), .val (.ref b1)] [(.int (x &&& (1 : Int32))), (.int (0 : Int32)), (.ref b1)])) t := by
    intro va qva tg_ kk_
    by_cases hc : (x &&& (1 : Int32)) = (0 : Int32)
    · rw [if_pos hc] at qva; rw [qva] at kk_
      show Steps p.tables e below (T1.setTop (mkF m 9 #[.val (.int (4 : Int32)), .val (.int x), .val (.ref b1)] [(.int (x &&& (1 : Int32))), (.int (0 : Int32)), (.ref b1)])) _
      refine XS.ifYes X1.here hx rfl (pc0 := 9) (pc' := 16) rfl (hb hby d1_9) rfl ((if0 _ _).trans (teq hc).1) (by decide) (by decide) ?_
      show Steps p.tables e below (T1.setTop (mkF m 16 #[.val (.int (4 : Int32)), .val (.int x), .val (.ref b1)] [(.int (0 : Int32)), (.ref b1)])) _
      refine XS.iconst X1.here hx rfl (hb hby d1_16) ?_
      show Steps p.tables e below (T1.setTop (mkF m 17 #[.val (.int (4 : Int32)), .val (.int x), .val (.ref b1)] [(.int (0 : Int32)), (.int (0 : Int32)), (.ref b1)])) _
      exact kk_
    · rw [if_neg hc] at qva; rw [qva] at kk_
      show Steps p.tables e below (T1.setTop (mkF m 9 #[.val (.int (4 : Int32)), .val (.int x), .val (.ref b1)] [(.int (x &&& (1 : Int32))), (.int (0 : Int32)), (.ref b1)])) _
      refine XS.ifNo X1.here hx rfl (hb hby d1_9) rfl ((if0 _ _).trans (feq hc).1) ?_
      show Steps p.tables e below (T1.setTop (mkF m 12 #[.val (.int (4 : Int32)), .val (.int x), .val (.ref b1)] [(.int (0 : Int32)), (.ref b1)])) _
      refine XS.iconst X1.here hx rfl (hb hby d1_12) ?_
      show Steps p.tables e below (T1.setTop (mkF m 13 #[.val (.int (4 : Int32)), .val (.int x), .val (.ref b1)] [(.int (1 : Int32)), (.int (0 : Int32)), (.ref b1)])) _
      refine XS.goto X1.here hx rfl (pc0 := 13) (pc' := 17) rfl (hb hby d1_13) (by decide) (by decide) ?_
      show Steps p.tables e below (T1.setTop (mkF m 17 #[.val (.int (4 : Int32)), .val (.int x), .val (.ref b1)] [(.int (1 : Int32)), (.int (0 : Int32)), (.ref b1)])) _
      exact kk_
  obtain ⟨va, qva⟩ : ∃ z : Int32, z = (if (x &&& (1 : Int32)) = (0 : Int32) then (0 : Int32) else (1 : Int32)) := ⟨_, rfl⟩
  refine Go.of (st4 va qva) ?_
  show Go p e below T1 (mkF m 17 #[.val (.int (4 : Int32)), .val (.int x), .val (.ref b1)] [(.int va), (.int (0 : Int32)), (.ref b1)]) _
  have ib5 := (show ¬ ((0 : Int32) < 0) ∧ ((0 : Int32)).toNatClampNeg < 4 from ⟨by decide, by decide⟩)
  obtain ⟨cl5, Ar5, S5, H5⟩ := V1
  obtain ⟨T5, h5, X5, e5, W5, st5⟩ := stZ X1 hx hZ e1 Ar5 (j := (0 : Int32)) (Af.inb S5 ib5) (g := (mkF m 17 #[.val (.int (4 : Int32)), .val (.int x), .val (.ref b1)] [(.int va), (.int (0 : Int32)), (.ref b1)])) rfl rfl (hb hby d1_17)
  obtain ⟨f5, qf5⟩ : ∃ q : Nat → Int32, q = upd (fun _ => 0) 0 (nar .boolean va) := ⟨_, rfl⟩
  have V5 : Af Z h5 b1 .boolean 4 f5 := by rw [qf5]; exact Af.set Ar5 S5 H5 W5 (by decide)
  have K7 := K2.wr W5 (Or.inr sz1)
  have Zs8 : n0 ≤ h5.size := Nat.le_trans Zs3 (Keep.of_wr W5).1
  have N5 := Fr.snoc X5 N0 gx1
  refine Go.of (st5) ?_
  show Go p e below T5 (mkF m 18 #[.val (.int (4 : Int32)), .val (.int x), .val (.ref b1)] []) _
  refine Go.of (fun tg_ kk_ => XS.iloadN X5.here hx rfl (hb hby d1_18) rfl kk_) ?_
  show Go p e below T5 (mkF m 19 #[.val (.int (4 : Int32)), .val (.int x), .val (.ref b1)] [(.int (4 : Int32))]) _
  refine Go.of (fun tg_ kk_ => XS.iconst X5.here hx rfl (hb hby d1_19) kk_) ?_
  show Go p e below T5 (mkF m 20 #[.val (.int (4 : Int32)), .val (.int x), .val (.ref b1)] [(.int (1 : Int32)), (.int (4 : Int32))]) _
  refine Go.of (fun tg_ kk_ => XS.icmpNo X5.here hx rfl (hb hby d1_20) rfl (tlt (show (1 : Int32) < (4 : Int32) by decide)).2.2.2 kk_) ?_
  show Go p e below T5 (mkF m 23 #[.val (.int (4 : Int32)), .val (.int x), .val (.ref b1)] []) _
  refine Go.of (fun tg_ kk_ => XS.aloadN X5.here hx rfl (hb hby d1_23) rfl rfl kk_) ?_
  show Go p e below T5 (mkF m 24 #[.val (.int (4 : Int32)), .val (.int x), .val (.ref b1)] [(.ref b1)]) _
  refine Go.of (fun tg_ kk_ => XS.iconst X5.here hx rfl (hb hby d1_24) kk_) ?_
  show Go p e below T5 (mkF m 25 #[.val (.int (4 : Int32)), .val (.int x), .val (.ref b1)] [(.int (1 : Int32)), (.ref b1)]) _
  refine Go.of (fun tg_ kk_ => XS.iloadN X5.here hx rfl (hb hby d1_25) rfl kk_) ?_
  show Go p e below T5 (mkF m 26 #[.val (.int (4 : Int32)), .val (.int x), .val (.ref b1)] [(.int x), (.int (1 : Int32)), (.ref b1)]) _
  refine Go.of (fun tg_ kk_ => XS.iconst X5.here hx rfl (hb hby d1_26) kk_) ?_
  show Go p e below T5 (mkF m 27 #[.val (.int (4 : Int32)), .val (.int x), .val (.ref b1)] [(.int (2 : Int32)), (.int x), (.int (1 : Int32)), (.ref b1)]) _
  refine Go.of (fun tg_ kk_ => XS.iand X5.here hx rfl (hb hby d1_27) rfl kk_) ?_
  show Go p e below T5 (mkF m 28 #[.val (.int (4 : Int32)), .val (.int x), .val (.ref b1)] [(.int (x &&& (2 : Int32))), (.int (1 : Int32)), (.ref b1)]) _
  have st9 : ∀ vb : Int32, vb = (if (x &&& (2 : Int32)) = (0 : Int32) then (0 : Int32) else (1 : Int32)) → ∀ t, Steps p.tables e below (T5.setTop (mkF m 36 #[.val (.int (4 : Int32)), .val (.int x), .val (.ref b1)] [(.int vb), (.int (1 : Int32)), (.ref b1)])) t → Steps p.tables e below (T5.setTop (mkF m 28 #[.val (.int (4 : Int32)), .val (.int x), .val (.ref b1)] [(.int (x &&& (2 : Int32))), (.int (1 : Int32)), (.ref b1)])) t := by
    intro vb qvb tg_ kk_
    by_cases hc : (x &&& (2 : Int32)) = (0 : Int32)
    · rw [if_pos hc] at qvb; rw [qvb] at kk_
      show Steps p.tables e below (T5.setTop (mkF m 28 #[.val (.int (4 : Int32)), .val (.int x), .val (.ref b1)] [(.int (x &&& (2 : Int32))), (.int (1 : Int32)), (.ref b1)])) _
      refine XS.ifYes X5.here hx rfl (pc0 := 28) (pc' := 35) rfl (hb hby d1_28) rfl ((if0 _ _).trans (teq hc).1) (by decide) (by decide) ?_
      show Steps p.tables e below (T5.setTop (mkF m 35 #[.val (.int (4 : Int32)), .val (.int x), .val (.ref b1)] [(.int (1 : Int32)), (.ref b1)])) _
      refine XS.iconst X5.here hx rfl (hb hby d1_35) ?_
      show Steps p.tables e below (T5.setTop (mkF m 36 #[.val (.int (4 : Int32)), .val (.int x), .val (.ref b1)] [(.int (0 : Int32)), (.int (1 : Int32)), (.ref b1)])) _
      exact kk_
    · rw [if_neg hc] at qvb; rw [qvb] at kk_
      show Steps p.tables e below (T5.setTop (mkF m 28 #[.val (.int (4 : Int32)), .val (.int x), .val (.ref b1)] [(.int (x &&& (2 : Int32))), (.int (1 : Int32)), (.ref b1)])) _
      refine XS.ifNo X5.here hx rfl (hb hby d1_28) rfl ((if0 _ _).trans (feq hc).1) ?_
      show Steps p.tables e below (T5.setTop (mkF m 31 #[.val (.int (4 : Int32)), .val (.int x), .val (.ref b1)] [(.int (1 : Int32)), (.ref b1)])) _
      refine XS.iconst X5.here hx rfl (hb hby d1_31) ?_
      show Steps p.tables e below (T5.setTop (mkF m 32 #[.val (.int (4 : Int32)), .val (.int x), .val (.ref b1)] [(.int (1 : Int32)), (.int (1 : Int32)), (.ref b1)])) _
      refine XS.goto X5.here hx rfl (pc0 := 32) (pc' := 36) rfl (hb hby d1_32) (by decide) (by decide) ?_
      show Steps p.tables e below (T5.setTop (mkF m 36 #[.val (.int (4 : Int32)), .val (.int x), .val (.ref b1)] [(.int (1 : Int32)), (.int (1 : Int32)), (.ref b1)])) _
      exact kk_
  obtain ⟨vb, qvb⟩ : ∃ z : Int32, z = (if (x &&& (2 : Int32)) = (0 : Int32) then (0 : Int32) else (1 : Int32)) := ⟨_, rfl⟩
  refine Go.of (st9 vb qvb) ?_
  show Go p e below T5 (mkF m 36 #[.val (.int (4 : Int32)), .val (.int x), .val (.ref b1)] [(.int vb), (.int (1 : Int32)), (.ref b1)]) _
  have ib10 := (show ¬ ((1 : Int32) < 0) ∧ ((1 : Int32)).toNatClampNeg < 4 from ⟨by decide, by decide⟩)
  obtain ⟨cl10, Ar10, S10, H10⟩ := V5
  obtain ⟨T10, h10, X10, e10, W10, st10⟩ := stZ X5 hx hZ e5 Ar10 (j := (1 : Int32)) (Af.inb S10 ib10) (g := (mkF m 36 #[.val (.int (4 : Int32)), .val (.int x), .val (.ref b1)] [(.int vb), (.int (1 : Int32)), (.ref b1)])) rfl rfl (hb hby d1_36)
  obtain ⟨f10, qf10⟩ : ∃ q : Nat → Int32, q = upd f5 1 (nar .boolean vb) := ⟨_, rfl⟩
  have V10 : Af Z h10 b1 .boolean 4 f10 := by rw [qf10]; exact Af.set Ar10 S10 H10 W10 (by decide)
  have K12 := K7.wr W10 (Or.inr sz1)
  have Zs13 : n0 ≤ h10.size := Nat.le_trans Zs8 (Keep.of_wr W10).1
  have N10 := Fr.snoc X10 N5 gx1
  refine Go.of (st10) ?_
  show Go p e below T10 (mkF m 37 #[.val (.int (4 : Int32)), .val (.int x), .val (.ref b1)] []) _
  refine Go.of (fun tg_ kk_ => XS.iloadN X10.here hx rfl (hb hby d1_37) rfl kk_) ?_
  show Go p e below T10 (mkF m 38 #[.val (.int (4 : Int32)), .val (.int x), .val (.ref b1)] [(.int (4 : Int32))]) _
  refine Go.of (fun tg_ kk_ => XS.iconst X10.here hx rfl (hb hby d1_38) kk_) ?_
  show Go p e below T10 (mkF m 39 #[.val (.int (4 : Int32)), .val (.int x), .val (.ref b1)] [(.int (2 : Int32)), (.int (4 : Int32))]) _
  refine Go.of (fun tg_ kk_ => XS.icmpNo X10.here hx rfl (hb hby d1_39) rfl (tlt (show (2 : Int32) < (4 : Int32) by decide)).2.2.2 kk_) ?_
  show Go p e below T10 (mkF m 42 #[.val (.int (4 : Int32)), .val (.int x), .val (.ref b1)] []) _
  refine Go.of (fun tg_ kk_ => XS.aloadN X10.here hx rfl (hb hby d1_42) rfl rfl kk_) ?_
  show Go p e below T10 (mkF m 43 #[.val (.int (4 : Int32)), .val (.int x), .val (.ref b1)] [(.ref b1)]) _
  refine Go.of (fun tg_ kk_ => XS.iconst X10.here hx rfl (hb hby d1_43) kk_) ?_
  show Go p e below T10 (mkF m 44 #[.val (.int (4 : Int32)), .val (.int x), .val (.ref b1)] [(.int (2 : Int32)), (.ref b1)]) _
  refine Go.of (fun tg_ kk_ => XS.iloadN X10.here hx rfl (hb hby d1_44) rfl kk_) ?_
  show Go p e below T10 (mkF m 45 #[.val (.int (4 : Int32)), .val (.int x), .val (.ref b1)] [(.int x), (.int (2 : Int32)), (.ref b1)]) _
  refine Go.of (fun tg_ kk_ => XS.iconst X10.here hx rfl (hb hby d1_45) kk_) ?_
  show Go p e below T10 (mkF m 46 #[.val (.int (4 : Int32)), .val (.int x), .val (.ref b1)] [(.int (4 : Int32)), (.int x), (.int (2 : Int32)), (.ref b1)]) _
  refine Go.of (fun tg_ kk_ => XS.iand X10.here hx rfl (hb hby d1_46) rfl kk_) ?_
  show Go p e below T10 (mkF m 47 #[.val (.int (4 : Int32)), .val (.int x), .val (.ref b1)] [(.int (x &&& (4 : Int32))), (.int (2 : Int32)), (.ref b1)]) _
  have st14 : ∀ vc : Int32, vc = (if (x &&& (4 : Int32)) = (0 : Int32) then (0 : Int32) else (1 : Int32)) → ∀ t, Steps p.tables e below (T10.setTop (mkF m 55 #[.val (.int (4 : Int32)), .val (.int x), .val (.ref b1)] [(.int vc), (.int (2 : Int32)), (.ref b1)])) t → Steps p.tables e below (T10.setTop (mkF m 47 #[.val (.int (4 : Int32)), .val (.int x), .val (.ref b1)] [(.int (x &&& (4 : Int32))), (.int (2 : Int32)), (.ref b1)])) t := by
    intro vc qvc tg_ kk_
    by_cases hc : (x &&& (4 : Int32)) = (0 : Int32)
    · rw [if_pos hc] at qvc; rw [qvc] at kk_
      show Steps p.tables e below (T10.setTop (mkF m 47 #[.val (.int (4 : Int32)), .val (.int x), .val (.ref b1)] [(.int (x &&& (4 : Int32))), (.int (2 : Int32)), (.ref b1)])) _
      refine XS.ifYes X10.here hx rfl (pc0 := 47) (pc' := 54) rfl (hb hby d1_47) rfl ((if0 _ _).trans (teq hc).1) (by decide) (by decide) ?_
      show Steps p.tables e below (T10.setTop (mkF m 54 #[.val (.int (4 : Int32)), .val (.int x), .val (.ref b1)] [(.int (2 : Int32)), (.ref b1)])) _
      refine XS.iconst X10.here hx rfl (hb hby d1_54) ?_
      show Steps p.tables e below (T10.setTop (mkF m 55 #[.val (.int (4 : Int32)), .val (.int x), .val (.ref b1)] [(.int (0 : Int32)), (.int (2 : Int32)), (.ref b1)])) _
      exact kk_
    · rw [if_neg hc] at qvc; rw [qvc] at kk_
      show Steps p.tables e below (T10.setTop (mkF m 47 #[.val (.int (4 : Int32)), .val (.int x), .val (.ref b1)] [(.int (x &&& (4 : Int32))), (.int (2 : Int32)), (.ref b1)])) _
      refine XS.ifNo X10.here hx rfl (hb hby d1_47) rfl ((if0 _ _).trans (feq hc).1) ?_
      show Steps p.tables e below (T10.setTop (mkF m 50 #[.val (.int (4 : Int32)), .val (.int x), .val (.ref b1)] [(.int (2 : Int32)), (.ref b1)])) _
      refine XS.iconst X10.here hx rfl (hb hby d1_50) ?_
      show Steps p.tables e below (T10.setTop (mkF m 51 #[.val (.int (4 : Int32)), .val (.int x), .val (.ref b1)] [(.int (1 : Int32)), (.int (2 : Int32)), (.ref b1)])) _
      refine XS.goto X10.here hx rfl (pc0 := 51) (pc' := 55) rfl (hb hby d1_51) (by decide) (by decide) ?_
      show Steps p.tables e below (T10.setTop (mkF m 55 #[.val (.int (4 : Int32)), .val (.int x), .val (.ref b1)] [(.int (1 : Int32)), (.int (2 : Int32)), (.ref b1)])) _
      exact kk_
  obtain ⟨vc, qvc⟩ : ∃ z : Int32, z = (if (x &&& (4 : Int32)) = (0 : Int32) then (0 : Int32) else (1 : Int32)) := ⟨_, rfl⟩
  refine Go.of (st14 vc qvc) ?_
  show Go p e below T10 (mkF m 55 #[.val (.int (4 : Int32)), .val (.int x), .val (.ref b1)] [(.int vc), (.int (2 : Int32)), (.ref b1)]) _
  have ib15 := (show ¬ ((2 : Int32) < 0) ∧ ((2 : Int32)).toNatClampNeg < 4 from ⟨by decide, by decide⟩)
  obtain ⟨cl15, Ar15, S15, H15⟩ := V10
  obtain ⟨T15, h15, X15, e15, W15, st15⟩ := stZ X10 hx hZ e10 Ar15 (j := (2 : Int32)) (Af.inb S15 ib15) (g := (mkF m 55 #[.val (.int (4 : Int32)), .val (.int x), .val (.ref b1)] [(.int vc), (.int (2 : Int32)), (.ref b1)])) rfl rfl (hb hby d1_55)
  obtain ⟨f15, qf15⟩ : ∃ q : Nat → Int32, q = upd f10 2 (nar .boolean vc) := ⟨_, rfl⟩
  have V15 : Af Z h15 b1 .boolean 4 f15 := by rw [qf15]; exact Af.set Ar15 S15 H15 W15 (by decide)
  have K17 := K12.wr W15 (Or.inr sz1)
  have Zs18 : n0 ≤ h15.size := Nat.le_trans Zs13 (Keep.of_wr W15).1
  have N15 := Fr.snoc X15 N10 gx1
  refine Go.of (st15) ?_
  show Go p e below T15 (mkF m 56 #[.val (.int (4 : Int32)), .val (.int x), .val (.ref b1)] []) _
  refine Go.of (fun tg_ kk_ => XS.iloadN X15.here hx rfl (hb hby d1_56) rfl kk_) ?_
  show Go p e below T15 (mkF m 57 #[.val (.int (4 : Int32)), .val (.int x), .val (.ref b1)] [(.int (4 : Int32))]) _
  refine Go.of (fun tg_ kk_ => XS.iconst X15.here hx rfl (hb hby d1_57) kk_) ?_
  show Go p e below T15 (mkF m 58 #[.val (.int (4 : Int32)), .val (.int x), .val (.ref b1)] [(.int (3 : Int32)), (.int (4 : Int32))]) _
  refine Go.of (fun tg_ kk_ => XS.icmpNo X15.here hx rfl (hb hby d1_58) rfl (tlt (show (3 : Int32) < (4 : Int32) by decide)).2.2.2 kk_) ?_
  show Go p e below T15 (mkF m 61 #[.val (.int (4 : Int32)), .val (.int x), .val (.ref b1)] []) _
  refine Go.of (fun tg_ kk_ => XS.aloadN X15.here hx rfl (hb hby d1_61) rfl rfl kk_) ?_
  show Go p e below T15 (mkF m 62 #[.val (.int (4 : Int32)), .val (.int x), .val (.ref b1)] [(.ref b1)]) _
  refine Go.of (fun tg_ kk_ => XS.iconst X15.here hx rfl (hb hby d1_62) kk_) ?_
  show Go p e below T15 (mkF m 63 #[.val (.int (4 : Int32)), .val (.int x), .val (.ref b1)] [(.int (3 : Int32)), (.ref b1)]) _
  refine Go.of (fun tg_ kk_ => XS.iloadN X15.here hx rfl (hb hby d1_63) rfl kk_) ?_
  show Go p e below T15 (mkF m 64 #[.val (.int (4 : Int32)), .val (.int x), .val (.ref b1)] [(.int x), (.int (3 : Int32)), (.ref b1)]) _
  refine Go.of (fun tg_ kk_ => XS.bipush X15.here hx rfl (hb hby d1_64) kk_) ?_
  show Go p e below T15 (mkF m 66 #[.val (.int (4 : Int32)), .val (.int x), .val (.ref b1)] [(.int (8 : Int32)), (.int x), (.int (3 : Int32)), (.ref b1)]) _
  refine Go.of (fun tg_ kk_ => XS.iand X15.here hx rfl (hb hby d1_66) rfl kk_) ?_
  show Go p e below T15 (mkF m 67 #[.val (.int (4 : Int32)), .val (.int x), .val (.ref b1)] [(.int (x &&& (8 : Int32))), (.int (3 : Int32)), (.ref b1)]) _
  have st19 : ∀ vd : Int32, vd = (if (x &&& (8 : Int32)) = (0 : Int32) then (0 : Int32) else (1 : Int32)) → ∀ t, Steps p.tables e below (T15.setTop (mkF m 75 #[.val (.int (4 : Int32)), .val (.int x), .val (.ref b1)] [(.int vd), (.int (3 : Int32)), (.ref b1)])) t → Steps p.tables e below (T15.setTop (mkF m 67 #[.val (.int (4 : Int32)), .val (.int x), .val (.ref b1)] [(.int (x &&& (8 : Int32))), (.int (3 : Int32)), (.ref b1)])) t := by
    intro vd qvd tg_ kk_
    by_cases hc : (x &&& (8 : Int32)) = (0 : Int32)
    · rw [if_pos hc] at qvd; rw [qvd] at kk_
      show Steps p.tables e below (T15.setTop (mkF m 67 #[.val (.int (4 : Int32)), .val (.int x), .val (.ref b1)] [(.int (x &&& (8 : Int32))), (.int (3 : Int32)), (.ref b1)])) _
      refine XS.ifYes X15.here hx rfl (pc0 := 67) (pc' := 74) rfl (hb hby d1_67) rfl ((if0 _ _).trans (teq hc).1) (by decide) (by decide) ?_
      show Steps p.tables e below (T15.setTop (mkF m 74 #[.val (.int (4 : Int32)), .val (.int x), .val (.ref b1)] [(.int (3 : Int32)), (.ref b1)])) _
      refine XS.iconst X15.here hx rfl (hb hby d1_74) ?_
      show Steps p.tables e below (T15.setTop (mkF m 75 #[.val (.int (4 : Int32)), .val (.int x), .val (.ref b1)] [(.int (0 : Int32)), (.int (3 : Int32)), (.ref b1)])) _
      exact kk_
    · rw [if_neg hc] at qvd; rw [qvd] at kk_
      show Steps p.tables e below (T15.setTop (mkF m 67 #[.val (.int (4 : Int32)), .val (.int x), .val (.ref b1)] [(.int (x &&& (8 : Int32))), (.int (3 : Int32)), (.ref b1)])) _
      refine XS.ifNo X15.here hx rfl (hb hby d1_67) rfl ((if0 _ _).trans (feq hc).1) ?_
      show Steps p.tables e below (T15.setTop (mkF m 70 #[.val (.int (4 : Int32)), .val (.int x), .val (.ref b1)] [(.int (3 : Int32)), (.ref b1)])) _
      refine XS.iconst X15.here hx rfl (hb hby d1_70) ?_
      show Steps p.tables e below (T15.setTop (mkF m 71 #[.val (.int (4 : Int32)), .val (.int x), .val (.ref b1)] [(.int (1 : Int32)), (.int (3 : Int32)), (.ref b1)])) _
      refine XS.goto X15.here hx rfl (pc0 := 71) (pc' := 75) rfl (hb hby d1_71) (by decide) (by decide) ?_
      show Steps p.tables e below (T15.setTop (mkF m 75 #[.val (.int (4 : Int32)), .val (.int x), .val (.ref b1)] [(.int (1 : Int32)), (.int (3 : Int32)), (.ref b1)])) _
      exact kk_
  obtain ⟨vd, qvd⟩ : ∃ z : Int32, z = (if (x &&& (8 : Int32)) = (0 : Int32) then (0 : Int32) else (1 : Int32)) := ⟨_, rfl⟩
  refine Go.of (st19 vd qvd) ?_
  show Go p e below T15 (mkF m 75 #[.val (.int (4 : Int32)), .val (.int x), .val (.ref b1)] [(.int vd), (.int (3 : Int32)), (.ref b1)]) _
  have ib20 := (show ¬ ((3 : Int32) < 0) ∧ ((3 : Int32)).toNatClampNeg < 4 from ⟨by decide, by decide⟩)
  obtain ⟨cl20, Ar20, S20, H20⟩ := V15
  obtain ⟨T20, h20, X20, e20, W20, st20⟩ := stZ X15 hx hZ e15 Ar20 (j := (3 : Int32)) (Af.inb S20 ib20) (g := (mkF m 75 #[.val (.int (4 : Int32)), .val (.int x), .val (.ref b1)] [(.int vd), (.int (3 : Int32)), (.ref b1)])) rfl rfl (hb hby d1_75)
  obtain ⟨f20, qf20⟩ : ∃ q : Nat → Int32, q = upd f15 3 (nar .boolean vd) := ⟨_, rfl⟩
  have V20 : Af Z h20 b1 .boolean 4 f20 := by rw [qf20]; exact Af.set Ar20 S20 H20 W20 (by decide)
  have K22 := K17.wr W20 (Or.inr sz1)
  have Zs23 : n0 ≤ h20.size := Nat.le_trans Zs18 (Keep.of_wr W20).1
  have N20 := Fr.snoc X20 N15 gx1
  refine Go.of (st20) ?_
  show Go p e below T20 (mkF m 76 #[.val (.int (4 : Int32)), .val (.int x), .val (.ref b1)] []) _
  refine Go.of (fun tg_ kk_ => XS.aloadN X20.here hx rfl (hb hby d1_76) rfl rfl kk_) ?_
  show Go p e below T20 (mkF m 77 #[.val (.int (4 : Int32)), .val (.int x), .val (.ref b1)] [(.ref b1)]) _
  obtain ⟨fs, hr, hrun, hended, hW, hsame⟩ := X20.leave (v := some (.ref b1)) (fun h => by rw [Bd.returns] at h; cases h)
  refine ⟨_, _, ?_, hrun, hended, _, _, rfl, ?_, ⟨_, rfl⟩, hW, hsame.mono (by decide) (by decide)⟩
  · exact retOut X20 hx Bd.returns rfl (Or.inr (Or.inr (Or.inr (Or.inr ⟨rfl, rfl, rfl⟩)))) (hb hby d1_77) hr
  · show Q1_4 Z x h0 n0 _ T20.heap _
    rw [e20]
    exact ⟨_, rfl, N20, K22, sz1, gx1, Af.congr V20 (fun i hi => by rcases (show i = 0 ∨ i = 1 ∨ i = 2 ∨ i = 3 by omega) with rfl | rfl | rfl | rfl <;> simp [qf5, qf10, qf15, qf20, upd, bitsF, qva, qvb, qvc, qvd, own_nb])⟩
theorem d3_0 : decode jdk_30_method_1_code 0 = .ok (.aload_n 0, 1) := by decide +kernel
theorem d3_1 : decode jdk_30_method_1_code 1 = .ok (.invokespecial 1, 3) := by decide +kernel
theorem d3_4 : decode jdk_30_method_1_code 4 = .ok (.return_, 1) := by decide +kernel
theorem ef_3 (m : MethodId) (x0 : Addr) : entryFrame m #[(.ref x0)] 1 = mkF m 0 #[.val (.ref x0)] [] := by first | (simp [entryFrame, mkF, argsToLocals, Value.category]; done) | rfl
def Q3 (Z : State) (a : Addr) (h0 : Heap) (n0 : Nat) (v : Option Value) (h : Heap) (L : List Loc) : Prop := v = none ∧ Fr n0 L ∧ h = h0
set_option maxRecDepth 65536 in
set_option maxHeartbeats 40000000 in
theorem rm3 (l : Launch) (Z : State) (a0 : Array Value) (hw : ∀ d ∈ tables_1, d.before a0 Z = true) (ws : List Jvm.Cond) (a : Addr) (h0 : Heap) (n0 : Nat) (Z0 : n0 ≤ h0.size) :
    MetFree l (⟨"java/lang/Record", "<init>", "()V"⟩ : MethodName) (head1 (Jvm.Cond.code (⟨"java/lang/Record", "<init>", "()V"⟩ : MethodName) jdk_30_method_1_code 1 none :: ws) ({ frames := 1, cells := 0, slots := 0, locals := 12 } : Room)) (fun aa_ U => aa_ = #[(.ref a)] ∧ Z.Warmed39 U.vm ∧ U.heap = h0) (fun _ _ _ _ _ => True) (fun _ U o U' => ∃ vv_ LL_, o = .returned vv_ ∧ Q3 Z a h0 n0 vv_ U'.heap LL_ ∧ FrameEnd U o U' LL_ ({ frames := 1, cells := 0, slots := 0, locals := 12 } : Room).cells ({ frames := 1, cells := 0, slots := 0, locals := 12 } : Room).slots) := by
  refine MetFree.of_bodySF (plainFor_of_name pn_1) hisR ?_
  intro p e s m args below meth c s₁ Bd hml0 hP hK
  obtain ⟨rfl, hZ, hh⟩ := hP
  have hx := Bd.exec
  have hby := Bd.bytes
  have hml : c.maxLocals = 1 := hml0
  have hown : s.vm.findClass "java/lang/Record" = some m.cls := findClass_of_methodNamed Bd.named
  have hnm := (name_of_methodNamed Bd.named Bd.method).1
  have X0 : Stand p l e ({ frames := 1, cells := 0, slots := 0, locals := 12 } : Room) s m #[(.ref a)] below meth c s₁ [] 0 0 := Stand.of_body Bd
  have e0 : s₁.heap = h0 := by rw [← hh, Bd.state]; rfl
  have N0 := Fr.nil n0
  have K0 : Keep h0 h0 [] := Keep.refl h0 _
  refine Go.enter (P := fun o U' => ∃ vv_ LL_, o = .returned vv_ ∧ Q3 Z a h0 n0 vv_ U'.heap LL_ ∧ FrameEnd s o U' LL_ ({ frames := 1, cells := 0, slots := 0, locals := 12 } : Room).cells ({ frames := 1, cells := 0, slots := 0, locals := 12 } : Room).slots) (ef_3 m a) ?_
  show Go p e below s₁ (mkF m 0 #[.val (.ref a)] []) _
  refine Go.of (fun tg_ kk_ => XS.aloadN X0.here hx rfl (hb hby d3_0) rfl rfl kk_) ?_
  show Go p e below s₁ (mkF m 1 #[.val (.ref a)] [(.ref a)]) _
  obtain ⟨T1, X1, e1, st1⟩ := initO X0 hx hZ hown (hw _ (List.mem_of_getElem? (i := 16) rfl)) (hw _ (List.mem_of_getElem? (i := 17) rfl)) (hw _ (List.mem_of_getElem? (i := 18) rfl)) e0 (g := (mkF m 1 #[.val (.ref a)] [(.ref a)])) rfl (by rw [hml]; rfl) rfl (hb hby d3_1) (by decide) (W := 0) (by show 2 * 0 + _ ≤ _; exact Nat.le_of_eq rfl) (by decide)
  refine Go.of (st1) ?_
  show Go p e below T1 (mkF m 4 #[.val (.ref a)] []) _
  obtain ⟨fs, hr, hrun, hended, hW, hsame⟩ := X1.leave (v := none) (fun _ => rfl)
  refine ⟨_, _, ?_, hrun, hended, _, _, rfl, ?_, ⟨_, rfl⟩, hW, hsame.mono (by decide) (by decide)⟩
  · exact X1.returnOut hx Bd.returns (hb hby d3_4) hr
  · show Q3 Z a h0 n0 _ T1.heap _
    rw [e1]
    exact ⟨rfl, N0, rfl⟩
theorem d2_0 : decode prog_162_method_1_code 0 = .ok (.aload_n 0, 1) := by decide +kernel
theorem d2_1 : decode prog_162_method_1_code 1 = .ok (.invokespecial 1, 3) := by decide +kernel
theorem d2_4 : decode prog_162_method_1_code 4 = .ok (.aload_n 0, 1) := by decide +kernel
theorem d2_5 : decode prog_162_method_1_code 5 = .ok (.aload_n 1, 1) := by decide +kernel
theorem d2_6 : decode prog_162_method_1_code 6 = .ok (.putfield 7, 3) := by decide +kernel
theorem d2_9 : decode prog_162_method_1_code 9 = .ok (.aload_n 0, 1) := by decide +kernel
theorem d2_10 : decode prog_162_method_1_code 10 = .ok (.aload_n 2, 1) := by decide +kernel
theorem d2_11 : decode prog_162_method_1_code 11 = .ok (.putfield 13, 3) := by decide +kernel
theorem d2_14 : decode prog_162_method_1_code 14 = .ok (.return_, 1) := by decide +kernel
theorem ef_2_00 (m : MethodId) (x0 : Addr) (x1 : Addr) (x2 : Addr) : entryFrame m #[(.ref x0), (.ref x1), (.ref x2)] 3 = mkF m 0 #[.val (.ref x0), .val (.ref x1), .val (.ref x2)] [] := by first | (simp [entryFrame, mkF, argsToLocals, Value.category]; done) | rfl
def Q2_00 (Z : State) (a : Addr) (u : Addr) (w : Addr) (h0 : Heap) (n0 : Nat) (v : Option Value) (h : Heap) (L : List Loc) : Prop := v = none ∧ Fr n0 L ∧ Keep h0 h [a] ∧ Fld Z h a "com/example/planwright/planwright/planner/SharedAtoms$Among" "weighed" "[Z" (.ref u)
set_option maxRecDepth 65536 in
set_option maxHeartbeats 40000000 in
theorem rm2_00 (l : Launch) (Z : State) (a0 : Array Value) (hw : ∀ d ∈ tables_1, d.before a0 Z = true) (ws : List Jvm.Cond) (a : Addr) (u : Addr) (w : Addr) (h0 : Heap) (n0 : Nat) (Z0 : n0 ≤ h0.size) (g_a : n0 ≤ a) (E_a : Exa Z h0 a "com/example/planwright/planwright/planner/SharedAtoms$Among") (Fw : Fld Z h0 a "com/example/planwright/planwright/planner/SharedAtoms$Among" "weighed" "[Z" .null) (Fe : Fld Z h0 a "com/example/planwright/planwright/planner/SharedAtoms$Among" "elsewhere" "[Z" .null) :
    MetFree l (⟨"com/example/planwright/planwright/planner/SharedAtoms$Among", "<init>", "([Z[Z)V"⟩ : MethodName) (head1 (Jvm.Cond.code (⟨"com/example/planwright/planwright/planner/SharedAtoms$Among", "<init>", "([Z[Z)V"⟩ : MethodName) prog_162_method_1_code 3 none :: ws) ({ frames := 2, cells := 0, slots := 0, locals := 24 } : Room)) (fun aa_ U => aa_ = #[(.ref a), (.ref u), (.ref w)] ∧ Z.Warmed39 U.vm ∧ U.heap = h0) (fun _ _ _ _ _ => True) (fun _ U o U' => ∃ vv_ LL_, o = .returned vv_ ∧ Q2_00 Z a u w h0 n0 vv_ U'.heap LL_ ∧ FrameEnd U o U' LL_ ({ frames := 2, cells := 0, slots := 0, locals := 24 } : Room).cells ({ frames := 2, cells := 0, slots := 0, locals := 24 } : Room).slots) := by
  refine MetFree.of_bodySF (plainFor_of_name pn_2) hisR ?_
  intro p e s m args below meth c s₁ Bd hml0 hP hK
  obtain ⟨rfl, hZ, hh⟩ := hP
  have hx := Bd.exec
  have hby := Bd.bytes
  have hml : c.maxLocals = 3 := hml0
  have hown : s.vm.findClass "com/example/planwright/planwright/planner/SharedAtoms$Among" = some m.cls := findClass_of_methodNamed Bd.named
  have hnm := (name_of_methodNamed Bd.named Bd.method).1
  have X0 : Stand p l e ({ frames := 2, cells := 0, slots := 0, locals := 24 } : Room) s m #[(.ref a), (.ref u), (.ref w)] below meth c s₁ [] 0 0 := Stand.of_body Bd
  have e0 : s₁.heap = h0 := by rw [← hh, Bd.state]; rfl
  have N0 := Fr.nil n0
  have K0 : Keep h0 h0 [a] := Keep.refl h0 _
  refine Go.enter (P := fun o U' => ∃ vv_ LL_, o = .returned vv_ ∧ Q2_00 Z a u w h0 n0 vv_ U'.heap LL_ ∧ FrameEnd s o U' LL_ ({ frames := 2, cells := 0, slots := 0, locals := 24 } : Room).cells ({ frames := 2, cells := 0, slots := 0, locals := 24 } : Room).slots) (ef_2_00 m a u w) ?_
  show Go p e below s₁ (mkF m 0 #[.val (.ref a), .val (.ref u), .val (.ref w)] []) _
  refine Go.of (fun tg_ kk_ => XS.aloadN X0.here hx rfl (hb hby d2_0) rfl rfl kk_) ?_
  show Go p e below s₁ (mkF m 1 #[.val (.ref a), .val (.ref u), .val (.ref w)] [(.ref a)]) _
  obtain ⟨_, _, ⟨T1, L1, k1, n1⟩, -, X1, ⟨Lc1, hQ1, l1, y1, z1⟩, st1⟩ := X0.specialBack hx (y := (⟨"java/lang/Record", "<init>", "()V"⟩ : MethodName)) rfl hown (mvT hZ (hw _ (List.mem_of_getElem? (i := 11) rfl))) (mvT hZ (hw _ (List.mem_of_getElem? (i := 12) rfl))) (mvT hZ (hw _ (List.mem_of_getElem? (i := 15) rfl))) (by decide) (backOf (W := 0) (rm3 l Z a0 hw [] a h0 n0 Z0) hZ (hw _ (List.mem_of_getElem? (i := 15) rfl)) (hw _ (List.mem_of_getElem? (i := 14) rfl)) (by decide) (by decide)) (g := (mkF m 1 #[.val (.ref a), .val (.ref u), .val (.ref w)] [(.ref a)])) rfl (by rw [hml]; rfl) (Steps.refl _) (a := a) (argsL := []) (rest := []) (lenOf pd_0 rfl) rfl (by show 2 * 0 + _ ≤ _; exact Nat.le_of_eq rfl) (hb hby d2_1) (fun _ _ => ⟨rfl, e0, (by decide : 0 + 0 ≤ _), (by decide : 0 + 0 ≤ _)⟩)
  dsimp only [Pt.U, Pt.locs, Pt.cells, Pt.slots] at X1 l1 y1 z1 st1 hQ1
  subst l1 y1 z1
  obtain ⟨rfl, N1q, e1⟩ := hQ1
  have N1 := Fr.app N0 N1q
  refine Go.of (fun tg_ kk_ => st1.trans kk_) ?_
  show Go p e below T1 (mkF m 4 #[.val (.ref a), .val (.ref u), .val (.ref w)] []) _
  refine Go.of (fun tg_ kk_ => XS.aloadN X1.here hx rfl (hb hby d2_4) rfl rfl kk_) ?_
  show Go p e below T1 (mkF m 5 #[.val (.ref a), .val (.ref u), .val (.ref w)] [(.ref a)]) _
  refine Go.of (fun tg_ kk_ => XS.aloadN X1.here hx rfl (hb hby d2_5) rfl rfl kk_) ?_
  show Go p e below T1 (mkF m 6 #[.val (.ref a), .val (.ref u), .val (.ref w)] [(.ref u), (.ref a)]) _
  obtain ⟨T2, h2, X2, e2, W2, st2⟩ := putF X1 hx hZ hown (host := "") (Or.inl (hw _ (List.mem_of_getElem? (i := 19) rfl))) Via.refl e1 Fw E_a (Or.inr ⟨(hw _ (List.mem_of_getElem? (i := 20) rfl)), rfl, hnm⟩) (hw _ (List.mem_of_getElem? (i := 6) rfl)) (ty := (.array .boolean)) (by decide) rfl rfl (g := (mkF m 6 #[.val (.ref a), .val (.ref u), .val (.ref w)] [(.ref u), (.ref a)])) rfl rfl (hb hby d2_6)
  have Fw2 := Fw.same W2
  have F3 := E_a.wr W2
  have F5 := Fe.other W2 (Or.inr (slot_ne (Or.inr (hw _ (List.mem_of_getElem? (i := 22) rfl))) (Or.inr (hw _ (List.mem_of_getElem? (i := 20) rfl))) (by decide) (t := (.array .boolean)) (t' := (.array .boolean)) (by decide) (by decide)))
  have K6 := K0.wr W2 (Or.inl (List.mem_of_getElem? (i := 0) rfl))
  have Zs7 : n0 ≤ h2.size := Nat.le_trans Z0 (Keep.of_wr W2).1
  have N2 := Fr.snoc X2 N1 g_a
  refine Go.of (st2) ?_
  show Go p e below T2 (mkF m 9 #[.val (.ref a), .val (.ref u), .val (.ref w)] []) _
  refine Go.of (fun tg_ kk_ => XS.aloadN X2.here hx rfl (hb hby d2_9) rfl rfl kk_) ?_
  show Go p e below T2 (mkF m 10 #[.val (.ref a), .val (.ref u), .val (.ref w)] [(.ref a)]) _
  refine Go.of (fun tg_ kk_ => XS.aloadN X2.here hx rfl (hb hby d2_10) rfl rfl kk_) ?_
  show Go p e below T2 (mkF m 11 #[.val (.ref a), .val (.ref u), .val (.ref w)] [(.ref w), (.ref a)]) _
  obtain ⟨T8, h8, X8, e8, W8, st8⟩ := putF X2 hx hZ hown (host := "") (Or.inl (hw _ (List.mem_of_getElem? (i := 21) rfl))) Via.refl e2 F5 F3 (Or.inr ⟨(hw _ (List.mem_of_getElem? (i := 22) rfl)), rfl, hnm⟩) (hw _ (List.mem_of_getElem? (i := 6) rfl)) (ty := (.array .boolean)) (by decide) rfl rfl (g := (mkF m 11 #[.val (.ref a), .val (.ref u), .val (.ref w)] [(.ref w), (.ref a)])) rfl rfl (hb hby d2_11)
  have Fw8 := F5.same W8
  have F9 := F3.wr W8
  have F11 := Fw2.other W8 (Or.inr (slot_ne (Or.inr (hw _ (List.mem_of_getElem? (i := 20) rfl))) (Or.inr (hw _ (List.mem_of_getElem? (i := 22) rfl))) (by decide) (t := (.array .boolean)) (t' := (.array .boolean)) (by decide) (by decide)))
  have K12 := K6.wr W8 (Or.inl (List.mem_of_getElem? (i := 0) rfl))
  have Zs13 : n0 ≤ h8.size := Nat.le_trans Zs7 (Keep.of_wr W8).1
  have N8 := Fr.snoc X8 N2 g_a
  refine Go.of (st8) ?_
  show Go p e below T8 (mkF m 14 #[.val (.ref a), .val (.ref u), .val (.ref w)] []) _
  obtain ⟨fs, hr, hrun, hended, hW, hsame⟩ := X8.leave (v := none) (fun _ => rfl)
  refine ⟨_, _, ?_, hrun, hended, _, _, rfl, ?_, ⟨_, rfl⟩, hW, hsame.mono (by decide) (by decide)⟩
  · exact X8.returnOut hx Bd.returns (hb hby d2_14) hr
  · show Q2_00 Z a u w h0 n0 _ T8.heap _
    rw [e8]
    exact ⟨rfl, N8, K12, F11⟩
theorem ef_2_01 (m : MethodId) (x0 : Addr) (x1 : Addr) : entryFrame m #[(.ref x0), (.ref x1), .null] 3 = mkF m 0 #[.val (.ref x0), .val (.ref x1), .val .null] [] := by first | (simp [entryFrame, mkF, argsToLocals, Value.category]; done) | rfl
def Q2_01 (Z : State) (a : Addr) (u : Addr) (h0 : Heap) (n0 : Nat) (v : Option Value) (h : Heap) (L : List Loc) : Prop := v = none ∧ Fr n0 L ∧ Keep h0 h [a] ∧ Fld Z h a "com/example/planwright/planwright/planner/SharedAtoms$Among" "weighed" "[Z" (.ref u)
set_option maxRecDepth 65536 in
set_option maxHeartbeats 40000000 in
theorem rm2_01 (l : Launch) (Z : State) (a0 : Array Value) (hw : ∀ d ∈ tables_1, d.before a0 Z = true) (ws : List Jvm.Cond) (a : Addr) (u : Addr) (h0 : Heap) (n0 : Nat) (Z0 : n0 ≤ h0.size) (g_a : n0 ≤ a) (E_a : Exa Z h0 a "com/example/planwright/planwright/planner/SharedAtoms$Among") (Fw : Fld Z h0 a "com/example/planwright/planwright/planner/SharedAtoms$Among" "weighed" "[Z" .null) (Fe : Fld Z h0 a "com/example/planwright/planwright/planner/SharedAtoms$Among" "elsewhere" "[Z" .null) :
    MetFree l (⟨"com/example/planwright/planwright/planner/SharedAtoms$Among", "<init>", "([Z[Z)V"⟩ : MethodName) (head1 (Jvm.Cond.code (⟨"com/example/planwright/planwright/planner/SharedAtoms$Among", "<init>", "([Z[Z)V"⟩ : MethodName) prog_162_method_1_code 3 none :: ws) ({ frames := 2, cells := 0, slots := 0, locals := 24 } : Room)) (fun aa_ U => aa_ = #[(.ref a), (.ref u), .null] ∧ Z.Warmed39 U.vm ∧ U.heap = h0) (fun _ _ _ _ _ => True) (fun _ U o U' => ∃ vv_ LL_, o = .returned vv_ ∧ Q2_01 Z a u h0 n0 vv_ U'.heap LL_ ∧ FrameEnd U o U' LL_ ({ frames := 2, cells := 0, slots := 0, locals := 24 } : Room).cells ({ frames := 2, cells := 0, slots := 0, locals := 24 } : Room).slots) := by
  refine MetFree.of_bodySF (plainFor_of_name pn_2) hisR ?_
  intro p e s m args below meth c s₁ Bd hml0 hP hK
  obtain ⟨rfl, hZ, hh⟩ := hP
  have hx := Bd.exec
  have hby := Bd.bytes
  have hml : c.maxLocals = 3 := hml0
  have hown : s.vm.findClass "com/example/planwright/planwright/planner/SharedAtoms$Among" = some m.cls := findClass_of_methodNamed Bd.named
  have hnm := (name_of_methodNamed Bd.named Bd.method).1
  have X0 : Stand p l e ({ frames := 2, cells := 0, slots := 0, locals := 24 } : Room) s m #[(.ref a), (.ref u), .null] below meth c s₁ [] 0 0 := Stand.of_body Bd
  have e0 : s₁.heap = h0 := by rw [← hh, Bd.state]; rfl
  have N0 := Fr.nil n0
  have K0 : Keep h0 h0 [a] := Keep.refl h0 _
  refine Go.enter (P := fun o U' => ∃ vv_ LL_, o = .returned vv_ ∧ Q2_01 Z a u h0 n0 vv_ U'.heap LL_ ∧ FrameEnd s o U' LL_ ({ frames := 2, cells := 0, slots := 0, locals := 24 } : Room).cells ({ frames := 2, cells := 0, slots := 0, locals := 24 } : Room).slots) (ef_2_01 m a u) ?_
  show Go p e below s₁ (mkF m 0 #[.val (.ref a), .val (.ref u), .val .null] []) _
  refine Go.of (fun tg_ kk_ => XS.aloadN X0.here hx rfl (hb hby d2_0) rfl rfl kk_) ?_
  show Go p e below s₁ (mkF m 1 #[.val (.ref a), .val (.ref u), .val .null] [(.ref a)]) _
  obtain ⟨_, _, ⟨T1, L1, k1, n1⟩, -, X1, ⟨Lc1, hQ1, l1, y1, z1⟩, st1⟩ := X0.specialBack hx (y := (⟨"java/lang/Record", "<init>", "()V"⟩ : MethodName)) rfl hown (mvT hZ (hw _ (List.mem_of_getElem? (i := 11) rfl))) (mvT hZ (hw _ (List.mem_of_getElem? (i := 12) rfl))) (mvT hZ (hw _ (List.mem_of_getElem? (i := 15) rfl))) (by decide) (backOf (W := 0) (rm3 l Z a0 hw [] a h0 n0 Z0) hZ (hw _ (List.mem_of_getElem? (i := 15) rfl)) (hw _ (List.mem_of_getElem? (i := 14) rfl)) (by decide) (by decide)) (g := (mkF m 1 #[.val (.ref a), .val (.ref u), .val .null] [(.ref a)])) rfl (by rw [hml]; rfl) (Steps.refl _) (a := a) (argsL := []) (rest := []) (lenOf pd_0 rfl) rfl (by show 2 * 0 + _ ≤ _; exact Nat.le_of_eq rfl) (hb hby d2_1) (fun _ _ => ⟨rfl, e0, (by decide : 0 + 0 ≤ _), (by decide : 0 + 0 ≤ _)⟩)
  dsimp only [Pt.U, Pt.locs, Pt.cells, Pt.slots] at X1 l1 y1 z1 st1 hQ1
  subst l1 y1 z1
  obtain ⟨rfl, N1q, e1⟩ := hQ1
  have N1 := Fr.app N0 N1q
  refine Go.of (fun tg_ kk_ => st1.trans kk_) ?_
  show Go p e below T1 (mkF m 4 #[.val (.ref a), .val (.ref u), .val .null] []) _
  refine Go.of (fun tg_ kk_ => XS.aloadN X1.here hx rfl (hb hby d2_4) rfl rfl kk_) ?_
  show Go p e below T1 (mkF m 5 #[.val (.ref a), .val (.ref u), .val .null] [(.ref a)]) _
  refine Go.of (fun tg_ kk_ => XS.aloadN X1.here hx rfl (hb hby d2_5) rfl rfl kk_) ?_
  show Go p e below T1 (mkF m 6 #[.val (.ref a), .val (.ref u), .val .null] [(.ref u), (.ref a)]) _
  obtain ⟨T2, h2, X2, e2, W2, st2⟩ := putF X1 hx hZ hown (host := "") (Or.inl (hw _ (List.mem_of_getElem? (i := 19) rfl))) Via.refl e1 Fw E_a (Or.inr ⟨(hw _ (List.mem_of_getElem? (i := 20) rfl)), rfl, hnm⟩) (hw _ (List.mem_of_getElem? (i := 6) rfl)) (ty := (.array .boolean)) (by decide) rfl rfl (g := (mkF m 6 #[.val (.ref a), .val (.ref u), .val .null] [(.ref u), (.ref a)])) rfl rfl (hb hby d2_6)
  have Fw2 := Fw.same W2
  have F3 := E_a.wr W2
  have F5 := Fe.other W2 (Or.inr (slot_ne (Or.inr (hw _ (List.mem_of_getElem? (i := 22) rfl))) (Or.inr (hw _ (List.mem_of_getElem? (i := 20) rfl))) (by decide) (t := (.array .boolean)) (t' := (.array .boolean)) (by decide) (by decide)))
  have K6 := K0.wr W2 (Or.inl (List.mem_of_getElem? (i := 0) rfl))
  have Zs7 : n0 ≤ h2.size := Nat.le_trans Z0 (Keep.of_wr W2).1
  have N2 := Fr.snoc X2 N1 g_a
  refine Go.of (st2) ?_
  show Go p e below T2 (mkF m 9 #[.val (.ref a), .val (.ref u), .val .null] []) _
  refine Go.of (fun tg_ kk_ => XS.aloadN X2.here hx rfl (hb hby d2_9) rfl rfl kk_) ?_
  show Go p e below T2 (mkF m 10 #[.val (.ref a), .val (.ref u), .val .null] [(.ref a)]) _
  refine Go.of (fun tg_ kk_ => XS.aloadN X2.here hx rfl (hb hby d2_10) rfl rfl kk_) ?_
  show Go p e below T2 (mkF m 11 #[.val (.ref a), .val (.ref u), .val .null] [.null, (.ref a)]) _
  obtain ⟨T8, h8, X8, e8, W8, st8⟩ := putF X2 hx hZ hown (host := "") (Or.inl (hw _ (List.mem_of_getElem? (i := 21) rfl))) Via.refl e2 F5 F3 (Or.inr ⟨(hw _ (List.mem_of_getElem? (i := 22) rfl)), rfl, hnm⟩) (hw _ (List.mem_of_getElem? (i := 6) rfl)) (ty := (.array .boolean)) (by decide) rfl rfl (g := (mkF m 11 #[.val (.ref a), .val (.ref u), .val .null] [.null, (.ref a)])) rfl rfl (hb hby d2_11)
  have Fw8 := F5.same W8
  have F9 := F3.wr W8
  have F11 := Fw2.other W8 (Or.inr (slot_ne (Or.inr (hw _ (List.mem_of_getElem? (i := 20) rfl))) (Or.inr (hw _ (List.mem_of_getElem? (i := 22) rfl))) (by decide) (t := (.array .boolean)) (t' := (.array .boolean)) (by decide) (by decide)))
  have K12 := K6.wr W8 (Or.inl (List.mem_of_getElem? (i := 0) rfl))
  have Zs13 : n0 ≤ h8.size := Nat.le_trans Zs7 (Keep.of_wr W8).1
  have N8 := Fr.snoc X8 N2 g_a
  refine Go.of (st8) ?_
  show Go p e below T8 (mkF m 14 #[.val (.ref a), .val (.ref u), .val .null] []) _
  obtain ⟨fs, hr, hrun, hended, hW, hsame⟩ := X8.leave (v := none) (fun _ => rfl)
  refine ⟨_, _, ?_, hrun, hended, _, _, rfl, ?_, ⟨_, rfl⟩, hW, hsame.mono (by decide) (by decide)⟩
  · exact X8.returnOut hx Bd.returns (hb hby d2_14) hr
  · show Q2_01 Z a u h0 n0 _ T8.heap _
    rw [e8]
    exact ⟨rfl, N8, K12, F11⟩
theorem ef_2_10 (m : MethodId) (x0 : Addr) (x2 : Addr) : entryFrame m #[(.ref x0), .null, (.ref x2)] 3 = mkF m 0 #[.val (.ref x0), .val .null, .val (.ref x2)] [] := by first | (simp [entryFrame, mkF, argsToLocals, Value.category]; done) | rfl
def Q2_10 (Z : State) (a : Addr) (w : Addr) (h0 : Heap) (n0 : Nat) (v : Option Value) (h : Heap) (L : List Loc) : Prop := v = none ∧ Fr n0 L ∧ Keep h0 h [a] ∧ Fld Z h a "com/example/planwright/planwright/planner/SharedAtoms$Among" "weighed" "[Z" .null
set_option maxRecDepth 65536 in
set_option maxHeartbeats 40000000 in
theorem rm2_10 (l : Launch) (Z : State) (a0 : Array Value) (hw : ∀ d ∈ tables_1, d.before a0 Z = true) (ws : List Jvm.Cond) (a : Addr) (w : Addr) (h0 : Heap) (n0 : Nat) (Z0 : n0 ≤ h0.size) (g_a : n0 ≤ a) (E_a : Exa Z h0 a "com/example/planwright/planwright/planner/SharedAtoms$Among") (Fw : Fld Z h0 a "com/example/planwright/planwright/planner/SharedAtoms$Among" "weighed" "[Z" .null) (Fe : Fld Z h0 a "com/example/planwright/planwright/planner/SharedAtoms$Among" "elsewhere" "[Z" .null) :
    MetFree l (⟨"com/example/planwright/planwright/planner/SharedAtoms$Among", "<init>", "([Z[Z)V"⟩ : MethodName) (head1 (Jvm.Cond.code (⟨"com/example/planwright/planwright/planner/SharedAtoms$Among", "<init>", "([Z[Z)V"⟩ : MethodName) prog_162_method_1_code 3 none :: ws) ({ frames := 2, cells := 0, slots := 0, locals := 24 } : Room)) (fun aa_ U => aa_ = #[(.ref a), .null, (.ref w)] ∧ Z.Warmed39 U.vm ∧ U.heap = h0) (fun _ _ _ _ _ => True) (fun _ U o U' => ∃ vv_ LL_, o = .returned vv_ ∧ Q2_10 Z a w h0 n0 vv_ U'.heap LL_ ∧ FrameEnd U o U' LL_ ({ frames := 2, cells := 0, slots := 0, locals := 24 } : Room).cells ({ frames := 2, cells := 0, slots := 0, locals := 24 } : Room).slots) := by
  refine MetFree.of_bodySF (plainFor_of_name pn_2) hisR ?_
  intro p e s m args below meth c s₁ Bd hml0 hP hK
  obtain ⟨rfl, hZ, hh⟩ := hP
  have hx := Bd.exec
  have hby := Bd.bytes
  have hml : c.maxLocals = 3 := hml0
  have hown : s.vm.findClass "com/example/planwright/planwright/planner/SharedAtoms$Among" = some m.cls := findClass_of_methodNamed Bd.named
  have hnm := (name_of_methodNamed Bd.named Bd.method).1
  have X0 : Stand p l e ({ frames := 2, cells := 0, slots := 0, locals := 24 } : Room) s m #[(.ref a), .null, (.ref w)] below meth c s₁ [] 0 0 := Stand.of_body Bd
  have e0 : s₁.heap = h0 := by rw [← hh, Bd.state]; rfl
  have N0 := Fr.nil n0
  have K0 : Keep h0 h0 [a] := Keep.refl h0 _
  refine Go.enter (P := fun o U' => ∃ vv_ LL_, o = .returned vv_ ∧ Q2_10 Z a w h0 n0 vv_ U'.heap LL_ ∧ FrameEnd s o U' LL_ ({ frames := 2, cells := 0, slots := 0, locals := 24 } : Room).cells ({ frames := 2, cells := 0, slots := 0, locals := 24 } : Room).slots) (ef_2_10 m a w) ?_
  show Go p e below s₁ (mkF m 0 #[.val (.ref a), .val .null, .val (.ref w)] []) _
  refine Go.of (fun tg_ kk_ => XS.aloadN X0.here hx rfl (hb hby d2_0) rfl rfl kk_) ?_
  show Go p e below s₁ (mkF m 1 #[.val (.ref a), .val .null, .val (.ref w)] [(.ref a)]) _
  obtain ⟨_, _, ⟨T1, L1, k1, n1⟩, -, X1, ⟨Lc1, hQ1, l1, y1, z1⟩, st1⟩ := X0.specialBack hx (y := (⟨"java/lang/Record", "<init>", "()V"⟩ : MethodName)) rfl hown (mvT hZ (hw _ (List.mem_of_getElem? (i := 11) rfl))) (mvT hZ (hw _ (List.mem_of_getElem? (i := 12) rfl))) (mvT hZ (hw _ (List.mem_of_getElem? (i := 15) rfl))) (by decide) (backOf (W := 0) (rm3 l Z a0 hw [] a h0 n0 Z0) hZ (hw _ (List.mem_of_getElem? (i := 15) rfl)) (hw _ (List.mem_of_getElem? (i := 14) rfl)) (by decide) (by decide)) (g := (mkF m 1 #[.val (.ref a), .val .null, .val (.ref w)] [(.ref a)])) rfl (by rw [hml]; rfl) (Steps.refl _) (a := a) (argsL := []) (rest := []) (lenOf pd_0 rfl) rfl (by show 2 * 0 + _ ≤ _; exact Nat.le_of_eq rfl) (hb hby d2_1) (fun _ _ => ⟨rfl, e0, (by decide : 0 + 0 ≤ _), (by decide : 0 + 0 ≤ _)⟩)
  dsimp only [Pt.U, Pt.locs, Pt.cells, Pt.slots] at X1 l1 y1 z1 st1 hQ1
  subst l1 y1 z1
  obtain ⟨rfl, N1q, e1⟩ := hQ1
  have N1 := Fr.app N0 N1q
  refine Go.of (fun tg_ kk_ => st1.trans kk_) ?_
  show Go p e below T1 (mkF m 4 #[.val (.ref a), .val .null, .val (.ref w)] []) _
  refine Go.of (fun tg_ kk_ => XS.aloadN X1.here hx rfl (hb hby d2_4) rfl rfl kk_) ?_
  show Go p e below T1 (mkF m 5 #[.val (.ref a), .val .null, .val (.ref w)] [(.ref a)]) _
  refine Go.of (fun tg_ kk_ => XS.aloadN X1.here hx rfl (hb hby d2_5) rfl rfl kk_) ?_
  show Go p e below T1 (mkF m 6 #[.val (.ref a), .val .null, .val (.ref w)] [.null, (.ref a)]) _
  obtain ⟨T2, h2, X2, e2, W2, st2⟩ := putF X1 hx hZ hown (host := "") (Or.inl (hw _ (List.mem_of_getElem? (i := 19) rfl))) Via.refl e1 Fw E_a (Or.inr ⟨(hw _ (List.mem_of_getElem? (i := 20) rfl)), rfl, hnm⟩) (hw _ (List.mem_of_getElem? (i := 6) rfl)) (ty := (.array .boolean)) (by decide) rfl rfl (g := (mkF m 6 #[.val (.ref a), .val .null, .val (.ref w)] [.null, (.ref a)])) rfl rfl (hb hby d2_6)
  have Fw2 := Fw.same W2
  have F3 := E_a.wr W2
  have F5 := Fe.other W2 (Or.inr (slot_ne (Or.inr (hw _ (List.mem_of_getElem? (i := 22) rfl))) (Or.inr (hw _ (List.mem_of_getElem? (i := 20) rfl))) (by decide) (t := (.array .boolean)) (t' := (.array .boolean)) (by decide) (by decide)))
  have K6 := K0.wr W2 (Or.inl (List.mem_of_getElem? (i := 0) rfl))
  have Zs7 : n0 ≤ h2.size := Nat.le_trans Z0 (Keep.of_wr W2).1
  have N2 := Fr.snoc X2 N1 g_a
  refine Go.of (st2) ?_
  show Go p e below T2 (mkF m 9 #[.val (.ref a), .val .null, .val (.ref w)] []) _
  refine Go.of (fun tg_ kk_ => XS.aloadN X2.here hx rfl (hb hby d2_9) rfl rfl kk_) ?_
  show Go p e below T2 (mkF m 10 #[.val (.ref a), .val .null, .val (.ref w)] [(.ref a)]) _
  refine Go.of (fun tg_ kk_ => XS.aloadN X2.here hx rfl (hb hby d2_10) rfl rfl kk_) ?_
  show Go p e below T2 (mkF m 11 #[.val (.ref a), .val .null, .val (.ref w)] [(.ref w), (.ref a)]) _
  obtain ⟨T8, h8, X8, e8, W8, st8⟩ := putF X2 hx hZ hown (host := "") (Or.inl (hw _ (List.mem_of_getElem? (i := 21) rfl))) Via.refl e2 F5 F3 (Or.inr ⟨(hw _ (List.mem_of_getElem? (i := 22) rfl)), rfl, hnm⟩) (hw _ (List.mem_of_getElem? (i := 6) rfl)) (ty := (.array .boolean)) (by decide) rfl rfl (g := (mkF m 11 #[.val (.ref a), .val .null, .val (.ref w)] [(.ref w), (.ref a)])) rfl rfl (hb hby d2_11)
  have Fw8 := F5.same W8
  have F9 := F3.wr W8
  have F11 := Fw2.other W8 (Or.inr (slot_ne (Or.inr (hw _ (List.mem_of_getElem? (i := 20) rfl))) (Or.inr (hw _ (List.mem_of_getElem? (i := 22) rfl))) (by decide) (t := (.array .boolean)) (t' := (.array .boolean)) (by decide) (by decide)))
  have K12 := K6.wr W8 (Or.inl (List.mem_of_getElem? (i := 0) rfl))
  have Zs13 : n0 ≤ h8.size := Nat.le_trans Zs7 (Keep.of_wr W8).1
  have N8 := Fr.snoc X8 N2 g_a
  refine Go.of (st8) ?_
  show Go p e below T8 (mkF m 14 #[.val (.ref a), .val .null, .val (.ref w)] []) _
  obtain ⟨fs, hr, hrun, hended, hW, hsame⟩ := X8.leave (v := none) (fun _ => rfl)
  refine ⟨_, _, ?_, hrun, hended, _, _, rfl, ?_, ⟨_, rfl⟩, hW, hsame.mono (by decide) (by decide)⟩
  · exact X8.returnOut hx Bd.returns (hb hby d2_14) hr
  · show Q2_10 Z a w h0 n0 _ T8.heap _
    rw [e8]
    exact ⟨rfl, N8, K12, F11⟩
theorem ef_2_11 (m : MethodId) (x0 : Addr) : entryFrame m #[(.ref x0), .null, .null] 3 = mkF m 0 #[.val (.ref x0), .val .null, .val .null] [] := by first | (simp [entryFrame, mkF, argsToLocals, Value.category]; done) | rfl
def Q2_11 (Z : State) (a : Addr) (h0 : Heap) (n0 : Nat) (v : Option Value) (h : Heap) (L : List Loc) : Prop := v = none ∧ Fr n0 L ∧ Keep h0 h [a] ∧ Fld Z h a "com/example/planwright/planwright/planner/SharedAtoms$Among" "weighed" "[Z" .null
set_option maxRecDepth 65536 in
set_option maxHeartbeats 40000000 in
theorem rm2_11 (l : Launch) (Z : State) (a0 : Array Value) (hw : ∀ d ∈ tables_1, d.before a0 Z = true) (ws : List Jvm.Cond) (a : Addr) (h0 : Heap) (n0 : Nat) (Z0 : n0 ≤ h0.size) (g_a : n0 ≤ a) (E_a : Exa Z h0 a "com/example/planwright/planwright/planner/SharedAtoms$Among") (Fw : Fld Z h0 a "com/example/planwright/planwright/planner/SharedAtoms$Among" "weighed" "[Z" .null) (Fe : Fld Z h0 a "com/example/planwright/planwright/planner/SharedAtoms$Among" "elsewhere" "[Z" .null) :
    MetFree l (⟨"com/example/planwright/planwright/planner/SharedAtoms$Among", "<init>", "([Z[Z)V"⟩ : MethodName) (head1 (Jvm.Cond.code (⟨"com/example/planwright/planwright/planner/SharedAtoms$Among", "<init>", "([Z[Z)V"⟩ : MethodName) prog_162_method_1_code 3 none :: ws) ({ frames := 2, cells := 0, slots := 0, locals := 24 } : Room)) (fun aa_ U => aa_ = #[(.ref a), .null, .null] ∧ Z.Warmed39 U.vm ∧ U.heap = h0) (fun _ _ _ _ _ => True) (fun _ U o U' => ∃ vv_ LL_, o = .returned vv_ ∧ Q2_11 Z a h0 n0 vv_ U'.heap LL_ ∧ FrameEnd U o U' LL_ ({ frames := 2, cells := 0, slots := 0, locals := 24 } : Room).cells ({ frames := 2, cells := 0, slots := 0, locals := 24 } : Room).slots) := by
  refine MetFree.of_bodySF (plainFor_of_name pn_2) hisR ?_
  intro p e s m args below meth c s₁ Bd hml0 hP hK
  obtain ⟨rfl, hZ, hh⟩ := hP
  have hx := Bd.exec
  have hby := Bd.bytes
  have hml : c.maxLocals = 3 := hml0
  have hown : s.vm.findClass "com/example/planwright/planwright/planner/SharedAtoms$Among" = some m.cls := findClass_of_methodNamed Bd.named
  have hnm := (name_of_methodNamed Bd.named Bd.method).1
  have X0 : Stand p l e ({ frames := 2, cells := 0, slots := 0, locals := 24 } : Room) s m #[(.ref a), .null, .null] below meth c s₁ [] 0 0 := Stand.of_body Bd
  have e0 : s₁.heap = h0 := by rw [← hh, Bd.state]; rfl
  have N0 := Fr.nil n0
  have K0 : Keep h0 h0 [a] := Keep.refl h0 _
  refine Go.enter (P := fun o U' => ∃ vv_ LL_, o = .returned vv_ ∧ Q2_11 Z a h0 n0 vv_ U'.heap LL_ ∧ FrameEnd s o U' LL_ ({ frames := 2, cells := 0, slots := 0, locals := 24 } : Room).cells ({ frames := 2, cells := 0, slots := 0, locals := 24 } : Room).slots) (ef_2_11 m a) ?_
  show Go p e below s₁ (mkF m 0 #[.val (.ref a), .val .null, .val .null] []) _
  refine Go.of (fun tg_ kk_ => XS.aloadN X0.here hx rfl (hb hby d2_0) rfl rfl kk_) ?_
  show Go p e below s₁ (mkF m 1 #[.val (.ref a), .val .null, .val .null] [(.ref a)]) _
  obtain ⟨_, _, ⟨T1, L1, k1, n1⟩, -, X1, ⟨Lc1, hQ1, l1, y1, z1⟩, st1⟩ := X0.specialBack hx (y := (⟨"java/lang/Record", "<init>", "()V"⟩ : MethodName)) rfl hown (mvT hZ (hw _ (List.mem_of_getElem? (i := 11) rfl))) (mvT hZ (hw _ (List.mem_of_getElem? (i := 12) rfl))) (mvT hZ (hw _ (List.mem_of_getElem? (i := 15) rfl))) (by decide) (backOf (W := 0) (rm3 l Z a0 hw [] a h0 n0 Z0) hZ (hw _ (List.mem_of_getElem? (i := 15) rfl)) (hw _ (List.mem_of_getElem? (i := 14) rfl)) (by decide) (by decide)) (g := (mkF m 1 #[.val (.ref a), .val .null, .val .null] [(.ref a)])) rfl (by rw [hml]; rfl) (Steps.refl _) (a := a) (argsL := []) (rest := []) (lenOf pd_0 rfl) rfl (by show 2 * 0 + _ ≤ _; exact Nat.le_of_eq rfl) (hb hby d2_1) (fun _ _ => ⟨rfl, e0, (by decide : 0 + 0 ≤ _), (by decide : 0 + 0 ≤ _)⟩)
  dsimp only [Pt.U, Pt.locs, Pt.cells, Pt.slots] at X1 l1 y1 z1 st1 hQ1
  subst l1 y1 z1
  obtain ⟨rfl, N1q, e1⟩ := hQ1
  have N1 := Fr.app N0 N1q
  refine Go.of (fun tg_ kk_ => st1.trans kk_) ?_
  show Go p e below T1 (mkF m 4 #[.val (.ref a), .val .null, .val .null] []) _
  refine Go.of (fun tg_ kk_ => XS.aloadN X1.here hx rfl (hb hby d2_4) rfl rfl kk_) ?_
  show Go p e below T1 (mkF m 5 #[.val (.ref a), .val .null, .val .null] [(.ref a)]) _
  refine Go.of (fun tg_ kk_ => XS.aloadN X1.here hx rfl (hb hby d2_5) rfl rfl kk_) ?_
  show Go p e below T1 (mkF m 6 #[.val (.ref a), .val .null, .val .null] [.null, (.ref a)]) _
  obtain ⟨T2, h2, X2, e2, W2, st2⟩ := putF X1 hx hZ hown (host := "") (Or.inl (hw _ (List.mem_of_getElem? (i := 19) rfl))) Via.refl e1 Fw E_a (Or.inr ⟨(hw _ (List.mem_of_getElem? (i := 20) rfl)), rfl, hnm⟩) (hw _ (List.mem_of_getElem? (i := 6) rfl)) (ty := (.array .boolean)) (by decide) rfl rfl (g := (mkF m 6 #[.val (.ref a), .val .null, .val .null] [.null, (.ref a)])) rfl rfl (hb hby d2_6)
  have Fw2 := Fw.same W2
  have F3 := E_a.wr W2
  have F5 := Fe.other W2 (Or.inr (slot_ne (Or.inr (hw _ (List.mem_of_getElem? (i := 22) rfl))) (Or.inr (hw _ (List.mem_of_getElem? (i := 20) rfl))) (by decide) (t := (.array .boolean)) (t' := (.array .boolean)) (by decide) (by decide)))
  have K6 := K0.wr W2 (Or.inl (List.mem_of_getElem? (i := 0) rfl))
  have Zs7 : n0 ≤ h2.size := Nat.le_trans Z0 (Keep.of_wr W2).1
  have N2 := Fr.snoc X2 N1 g_a
  refine Go.of (st2) ?_
  show Go p e below T2 (mkF m 9 #[.val (.ref a), .val .null, .val .null] []) _
  refine Go.of (fun tg_ kk_ => XS.aloadN X2.here hx rfl (hb hby d2_9) rfl rfl kk_) ?_
  show Go p e below T2 (mkF m 10 #[.val (.ref a), .val .null, .val .null] [(.ref a)]) _
  refine Go.of (fun tg_ kk_ => XS.aloadN X2.here hx rfl (hb hby d2_10) rfl rfl kk_) ?_
  show Go p e below T2 (mkF m 11 #[.val (.ref a), .val .null, .val .null] [.null, (.ref a)]) _
  obtain ⟨T8, h8, X8, e8, W8, st8⟩ := putF X2 hx hZ hown (host := "") (Or.inl (hw _ (List.mem_of_getElem? (i := 21) rfl))) Via.refl e2 F5 F3 (Or.inr ⟨(hw _ (List.mem_of_getElem? (i := 22) rfl)), rfl, hnm⟩) (hw _ (List.mem_of_getElem? (i := 6) rfl)) (ty := (.array .boolean)) (by decide) rfl rfl (g := (mkF m 11 #[.val (.ref a), .val .null, .val .null] [.null, (.ref a)])) rfl rfl (hb hby d2_11)
  have Fw8 := F5.same W8
  have F9 := F3.wr W8
  have F11 := Fw2.other W8 (Or.inr (slot_ne (Or.inr (hw _ (List.mem_of_getElem? (i := 20) rfl))) (Or.inr (hw _ (List.mem_of_getElem? (i := 22) rfl))) (by decide) (t := (.array .boolean)) (t' := (.array .boolean)) (by decide) (by decide)))
  have K12 := K6.wr W8 (Or.inl (List.mem_of_getElem? (i := 0) rfl))
  have Zs13 : n0 ≤ h8.size := Nat.le_trans Zs7 (Keep.of_wr W8).1
  have N8 := Fr.snoc X8 N2 g_a
  refine Go.of (st8) ?_
  show Go p e below T8 (mkF m 14 #[.val (.ref a), .val .null, .val .null] []) _
  obtain ⟨fs, hr, hrun, hended, hW, hsame⟩ := X8.leave (v := none) (fun _ => rfl)
  refine ⟨_, _, ?_, hrun, hended, _, _, rfl, ?_, ⟨_, rfl⟩, hW, hsame.mono (by decide) (by decide)⟩
  · exact X8.returnOut hx Bd.returns (hb hby d2_14) hr
  · show Q2_11 Z a h0 n0 _ T8.heap _
    rw [e8]
    exact ⟨rfl, N8, K12, F11⟩
theorem d5_0 : decode prog_162_method_2_code 0 = .ok (.aload_n 0, 1) := by decide +kernel
theorem d5_1 : decode prog_162_method_2_code 1 = .ok (.getfield 7, 3) := by decide +kernel
theorem d5_4 : decode prog_162_method_2_code 4 = .ok (.ifnull 12, 3) := by decide +kernel
theorem d5_16 : decode prog_162_method_2_code 16 = .ok (.iconst 1, 1) := by decide +kernel
theorem d5_17 : decode prog_162_method_2_code 17 = .ok (.goto 4, 3) := by decide +kernel
theorem d5_21 : decode prog_162_method_2_code 21 = .ok (.ireturn, 1) := by decide +kernel
theorem ef_5n (m : MethodId) (x0 : Addr) (x1 : Int32) : entryFrame m #[(.ref x0), (.int x1)] 2 = mkF m 0 #[.val (.ref x0), .val (.int x1)] [] := by first | (simp [entryFrame, mkF, argsToLocals, Value.category]; done) | rfl
def Q5n (Z : State) (a : Addr) (x : Int32) (h0 : Heap) (n0 : Nat) (v : Option Value) (h : Heap) (L : List Loc) : Prop := v = some (.int 1) ∧ Fr n0 L ∧ h = h0
set_option maxRecDepth 65536 in
set_option maxHeartbeats 40000000 in
theorem rm5n (l : Launch) (Z : State) (a0 : Array Value) (hw : ∀ d ∈ tables_1, d.before a0 Z = true) (ws : List Jvm.Cond) (a : Addr) (x : Int32) (h0 : Heap) (n0 : Nat) (Z0 : n0 ≤ h0.size) (Fe : Fld Z h0 a "com/example/planwright/planwright/planner/SharedAtoms$Among" "weighed" "[Z" .null) :
    MetFree l (⟨"com/example/planwright/planwright/planner/SharedAtoms$Among", "weighs", "(I)Z"⟩ : MethodName) (head1 (Jvm.Cond.code (⟨"com/example/planwright/planwright/planner/SharedAtoms$Among", "weighs", "(I)Z"⟩ : MethodName) prog_162_method_2_code 2 (some .boolean) :: ws) ({ frames := 0, cells := 0, slots := 0, locals := 0 } : Room)) (fun aa_ U => aa_ = #[(.ref a), (.int x)] ∧ Z.Warmed39 U.vm ∧ U.heap = h0) (fun _ _ _ _ _ => True) (fun _ U o U' => ∃ vv_ LL_, o = .returned vv_ ∧ Q5n Z a x h0 n0 vv_ U'.heap LL_ ∧ FrameEnd U o U' LL_ ({ frames := 0, cells := 0, slots := 0, locals := 0 } : Room).cells ({ frames := 0, cells := 0, slots := 0, locals := 0 } : Room).slots) := by
  refine MetFree.of_bodySF (plainFor_of_name pn_2) hisR ?_
  intro p e s m args below meth c s₁ Bd hml0 hP hK
  obtain ⟨rfl, hZ, hh⟩ := hP
  have hx := Bd.exec
  have hby := Bd.bytes
  have hml : c.maxLocals = 2 := hml0
  have hown : s.vm.findClass "com/example/planwright/planwright/planner/SharedAtoms$Among" = some m.cls := findClass_of_methodNamed Bd.named
  have hnm := (name_of_methodNamed Bd.named Bd.method).1
  have X0 : Stand p l e ({ frames := 0, cells := 0, slots := 0, locals := 0 } : Room) s m #[(.ref a), (.int x)] below meth c s₁ [] 0 0 := Stand.of_body Bd
  have e0 : s₁.heap = h0 := by rw [← hh, Bd.state]; rfl
  have N0 := Fr.nil n0
  have K0 : Keep h0 h0 [] := Keep.refl h0 _
  refine Go.enter (P := fun o U' => ∃ vv_ LL_, o = .returned vv_ ∧ Q5n Z a x h0 n0 vv_ U'.heap LL_ ∧ FrameEnd s o U' LL_ ({ frames := 0, cells := 0, slots := 0, locals := 0 } : Room).cells ({ frames := 0, cells := 0, slots := 0, locals := 0 } : Room).slots) (ef_5n m a x) ?_
  show Go p e below s₁ (mkF m 0 #[.val (.ref a), .val (.int x)] []) _
  refine Go.of (fun tg_ kk_ => XS.aloadN X0.here hx rfl (hb hby d5_0) rfl rfl kk_) ?_
  show Go p e below s₁ (mkF m 1 #[.val (.ref a), .val (.int x)] [(.ref a)]) _
  obtain ⟨T1, X1, e1, st1⟩ := getF X0 hx hZ hown (host := "") (Or.inl (hw _ (List.mem_of_getElem? (i := 19) rfl))) Via.refl e0 Fe (g := (mkF m 1 #[.val (.ref a), .val (.int x)] [(.ref a)])) rfl rfl (hb hby d5_1)
  refine Go.of (st1) ?_
  show Go p e below T1 (mkF m 4 #[.val (.ref a), .val (.int x)] [.null]) _
  refine Go.of (fun tg_ kk_ => XS.ifnullYes X1.here hx rfl (pc0 := 4) (pc' := 16) rfl (hb hby d5_4) rfl (by decide) (by decide) kk_) ?_
  show Go p e below T1 (mkF m 16 #[.val (.ref a), .val (.int x)] []) _
  refine Go.of (fun tg_ kk_ => XS.iconst X1.here hx rfl (hb hby d5_16) kk_) ?_
  show Go p e below T1 (mkF m 17 #[.val (.ref a), .val (.int x)] [(.int (1 : Int32))]) _
  refine Go.of (fun tg_ kk_ => XS.goto X1.here hx rfl (pc0 := 17) (pc' := 21) rfl (hb hby d5_17) (by decide) (by decide) kk_) ?_
  show Go p e below T1 (mkF m 21 #[.val (.ref a), .val (.int x)] [(.int (1 : Int32))]) _
  obtain ⟨fs, hr, hrun, hended, hW, hsame⟩ := X1.leave (v := some (.int (1 : Int32))) (fun h => by rw [Bd.returns] at h; cases h)
  refine ⟨_, _, ?_, hrun, hended, _, _, rfl, ?_, ⟨_, rfl⟩, hW, hsame.mono (by decide) (by decide)⟩
  · exact retN X1 hx (t := .boolean) Bd.returns (by simp) (hb hby d5_21) hr
  · show Q5n Z a x h0 n0 _ T1.heap _
    rw [e1]
    exact ⟨rfl, N0, rfl⟩
theorem d5_7 : decode prog_162_method_2_code 7 = .ok (.aload_n 0, 1) := by decide +kernel
theorem d5_8 : decode prog_162_method_2_code 8 = .ok (.getfield 7, 3) := by decide +kernel
theorem d5_11 : decode prog_162_method_2_code 11 = .ok (.iload_n 1, 1) := by decide +kernel
theorem d5_12 : decode prog_162_method_2_code 12 = .ok (.baload, 1) := by decide +kernel
theorem d5_13 : decode prog_162_method_2_code 13 = .ok (.ifCond .eq 7, 3) := by decide +kernel
theorem d5_20 : decode prog_162_method_2_code 20 = .ok (.iconst 0, 1) := by decide +kernel
theorem ef_5 (m : MethodId) (x0 : Addr) (x1 : Int32) : entryFrame m #[(.ref x0), (.int x1)] 2 = mkF m 0 #[.val (.ref x0), .val (.int x1)] [] := by first | (simp [entryFrame, mkF, argsToLocals, Value.category]; done) | rfl
def Q5 (Z : State) (a : Addr) (x : Int32) (b : Addr) (f : Nat → Int32) (w : Nat) (h0 : Heap) (n0 : Nat) (v : Option Value) (h : Heap) (L : List Loc) : Prop := v = some (.int (if f (x).toNatClampNeg = 0 then 0 else 1)) ∧ Fr n0 L ∧ h = h0
set_option maxRecDepth 65536 in
set_option maxHeartbeats 40000000 in
theorem rm5 (l : Launch) (Z : State) (a0 : Array Value) (hw : ∀ d ∈ tables_1, d.before a0 Z = true) (ws : List Jvm.Cond) (a : Addr) (x : Int32) (b : Addr) (f : Nat → Int32) (w : Nat) (h0 : Heap) (n0 : Nat) (Z0 : n0 ≤ h0.size) (Fe : Fld Z h0 a "com/example/planwright/planwright/planner/SharedAtoms$Among" "weighed" "[Z" (.ref b)) (Ab : Af Z h0 b .boolean w f) (hin : ¬ (x < 0) ∧ (x).toNatClampNeg < w) :
    MetFree l (⟨"com/example/planwright/planwright/planner/SharedAtoms$Among", "weighs", "(I)Z"⟩ : MethodName) (head1 (Jvm.Cond.code (⟨"com/example/planwright/planwright/planner/SharedAtoms$Among", "weighs", "(I)Z"⟩ : MethodName) prog_162_method_2_code 2 (some .boolean) :: ws) ({ frames := 0, cells := 0, slots := 0, locals := 0 } : Room)) (fun aa_ U => aa_ = #[(.ref a), (.int x)] ∧ Z.Warmed39 U.vm ∧ U.heap = h0) (fun _ _ _ _ _ => True) (fun _ U o U' => ∃ vv_ LL_, o = .returned vv_ ∧ Q5 Z a x b f w h0 n0 vv_ U'.heap LL_ ∧ FrameEnd U o U' LL_ ({ frames := 0, cells := 0, slots := 0, locals := 0 } : Room).cells ({ frames := 0, cells := 0, slots := 0, locals := 0 } : Room).slots) := by
  refine MetFree.of_bodySF (plainFor_of_name pn_2) hisR ?_
  intro p e s m args below meth c s₁ Bd hml0 hP hK
  obtain ⟨rfl, hZ, hh⟩ := hP
  have hx := Bd.exec
  have hby := Bd.bytes
  have hml : c.maxLocals = 2 := hml0
  have hown : s.vm.findClass "com/example/planwright/planwright/planner/SharedAtoms$Among" = some m.cls := findClass_of_methodNamed Bd.named
  have hnm := (name_of_methodNamed Bd.named Bd.method).1
  have X0 : Stand p l e ({ frames := 0, cells := 0, slots := 0, locals := 0 } : Room) s m #[(.ref a), (.int x)] below meth c s₁ [] 0 0 := Stand.of_body Bd
  have e0 : s₁.heap = h0 := by rw [← hh, Bd.state]; rfl
  have N0 := Fr.nil n0
  have K0 : Keep h0 h0 [] := Keep.refl h0 _
  refine Go.enter (P := fun o U' => ∃ vv_ LL_, o = .returned vv_ ∧ Q5 Z a x b f w h0 n0 vv_ U'.heap LL_ ∧ FrameEnd s o U' LL_ ({ frames := 0, cells := 0, slots := 0, locals := 0 } : Room).cells ({ frames := 0, cells := 0, slots := 0, locals := 0 } : Room).slots) (ef_5 m a x) ?_
  show Go p e below s₁ (mkF m 0 #[.val (.ref a), .val (.int x)] []) _
  refine Go.of (fun tg_ kk_ => XS.aloadN X0.here hx rfl (hb hby d5_0) rfl rfl kk_) ?_
  show Go p e below s₁ (mkF m 1 #[.val (.ref a), .val (.int x)] [(.ref a)]) _
  obtain ⟨T1, X1, e1, st1⟩ := getF X0 hx hZ hown (host := "") (Or.inl (hw _ (List.mem_of_getElem? (i := 19) rfl))) Via.refl e0 Fe (g := (mkF m 1 #[.val (.ref a), .val (.int x)] [(.ref a)])) rfl rfl (hb hby d5_1)
  refine Go.of (st1) ?_
  show Go p e below T1 (mkF m 4 #[.val (.ref a), .val (.int x)] [(.ref b)]) _
  refine Go.of (fun tg_ kk_ => XS.ifnullNo X1.here hx rfl (hb hby d5_4) rfl kk_) ?_
  show Go p e below T1 (mkF m 7 #[.val (.ref a), .val (.int x)] []) _
  refine Go.of (fun tg_ kk_ => XS.aloadN X1.here hx rfl (hb hby d5_7) rfl rfl kk_) ?_
  show Go p e below T1 (mkF m 8 #[.val (.ref a), .val (.int x)] [(.ref a)]) _
  obtain ⟨T2, X2, e2, st2⟩ := getF X1 hx hZ hown (host := "") (Or.inl (hw _ (List.mem_of_getElem? (i := 19) rfl))) Via.refl e1 Fe (g := (mkF m 8 #[.val (.ref a), .val (.int x)] [(.ref a)])) rfl rfl (hb hby d5_8)
  refine Go.of (st2) ?_
  show Go p e below T2 (mkF m 11 #[.val (.ref a), .val (.int x)] [(.ref b)]) _
  refine Go.of (fun tg_ kk_ => XS.iloadN X2.here hx rfl (hb hby d5_11) rfl kk_) ?_
  show Go p e below T2 (mkF m 12 #[.val (.ref a), .val (.int x)] [(.int x), (.ref b)]) _
  have ib3 := (show ¬ (x < 0) ∧ (x).toNatClampNeg < w from hin)
  obtain ⟨cl3, Ar3, S3, H3⟩ := Ab
  refine Go.of (X2.baloadBooleans hx (j := x) (v := (.int (f (x).toNatClampNeg))) (by rw [e2]; exact Ar3.1) (State.isArrayOf_alike hZ.alike Ar3.2.1) Ar3.2.2 (Af.inb S3 ib3) (Af.at H3 rfl ib3) (g := (mkF m 12 #[.val (.ref a), .val (.int x)] [(.int x), (.ref b)])) rfl rfl (hb hby d5_12)) ?_
  show Go p e below T2 (mkF m 13 #[.val (.ref a), .val (.int x)] [(.int (f (x).toNatClampNeg))]) _
  by_cases hc4 : (f (x).toNatClampNeg) = (0 : Int32)
  · skip
    refine Go.of (fun tg_ kk_ => XS.ifYes X2.here hx rfl (pc0 := 13) (pc' := 20) rfl (hb hby d5_13) rfl ((if0 _ _).trans (teq hc4).1) (by decide) (by decide) kk_) ?_
    show Go p e below T2 (mkF m 20 #[.val (.ref a), .val (.int x)] []) _
    refine Go.of (fun tg_ kk_ => XS.iconst X2.here hx rfl (hb hby d5_20) kk_) ?_
    show Go p e below T2 (mkF m 21 #[.val (.ref a), .val (.int x)] [(.int (0 : Int32))]) _
    obtain ⟨fs, hr, hrun, hended, hW, hsame⟩ := X2.leave (v := some (.int (0 : Int32))) (fun h => by rw [Bd.returns] at h; cases h)
    refine ⟨_, _, ?_, hrun, hended, _, _, rfl, ?_, ⟨_, rfl⟩, hW, hsame.mono (by decide) (by decide)⟩
    · exact retN X2 hx (t := .boolean) Bd.returns (by simp) (hb hby d5_21) hr
    · show Q5 Z a x b f w h0 n0 _ T2.heap _
      rw [e2]
      exact ⟨by simp [hc4], N0, rfl⟩
  · skip
    refine Go.of (fun tg_ kk_ => XS.ifNo X2.here hx rfl (hb hby d5_13) rfl ((if0 _ _).trans (feq hc4).1) kk_) ?_
    show Go p e below T2 (mkF m 16 #[.val (.ref a), .val (.int x)] []) _
    refine Go.of (fun tg_ kk_ => XS.iconst X2.here hx rfl (hb hby d5_16) kk_) ?_
    show Go p e below T2 (mkF m 17 #[.val (.ref a), .val (.int x)] [(.int (1 : Int32))]) _
    refine Go.of (fun tg_ kk_ => XS.goto X2.here hx rfl (pc0 := 17) (pc' := 21) rfl (hb hby d5_17) (by decide) (by decide) kk_) ?_
    show Go p e below T2 (mkF m 21 #[.val (.ref a), .val (.int x)] [(.int (1 : Int32))]) _
    obtain ⟨fs, hr, hrun, hended, hW, hsame⟩ := X2.leave (v := some (.int (1 : Int32))) (fun h => by rw [Bd.returns] at h; cases h)
    refine ⟨_, _, ?_, hrun, hended, _, _, rfl, ?_, ⟨_, rfl⟩, hW, hsame.mono (by decide) (by decide)⟩
    · exact retN X2 hx (t := .boolean) Bd.returns (by simp) (hb hby d5_21) hr
    · show Q5 Z a x b f w h0 n0 _ T2.heap _
      rw [e2]
      exact ⟨by simp [hc4], N0, rfl⟩
theorem ef_0 (m : MethodId) (x0 : Int32) (x1 : Int32) (x2 : Int32) (x3 : Int32) (x4 : Int32) : entryFrame m #[(.int x0), (.int x1), (.int x2), (.int x3), (.int x4)] maxLocals = mkF m 0 #[.val (.int x0), .val (.int x1), .val (.int x2), .val (.int x3), .val (.int x4), .unset, .unset, .unset, .unset, .unset, .unset, .unset, .unset] [] := by first | (simp [entryFrame, mkF, argsToLocals, Value.category, maxLocals]; done) | rfl
def Q0 (Z : State) (p0 : Int32) (p1 : Int32) (p2 : Int32) (p3 : Int32) (p4 : Int32) (h0 : Heap) (n0 : Nat) (v : Option Value) (h : Heap) (L : List Loc) : Prop := v = some (.int 1) ∧ Fr n0 L
set_option maxRecDepth 65536 in
set_option maxHeartbeats 40000000 in
theorem rm0 (l : Launch) (Z : State) (a0 : Array Value) (hw : ∀ d ∈ tables_1, d.before a0 Z = true) (ws : List Jvm.Cond) (p0 : Int32) (p1 : Int32) (p2 : Int32) (p3 : Int32) (p4 : Int32) (h0 : Heap) (n0 : Nat) (Z0 : n0 ≤ h0.size) :
    MetFree l x (head1 (Jvm.Cond.code x code maxLocals ret :: ws) room_1) (fun aa_ U => aa_ = #[(.int p0), (.int p1), (.int p2), (.int p3), (.int p4)] ∧ Z.Warmed39 U.vm ∧ U.heap = h0) (fun _ _ _ _ _ => True) (fun _ U o U' => ∃ vv_ LL_, o = .returned vv_ ∧ Q0 Z p0 p1 p2 p3 p4 h0 n0 vv_ U'.heap LL_ ∧ FrameEnd U o U' LL_ 16 128) := by
  refine MetFree.of_bodySF (plainFor_of_name pn_0) hisR ?_
  intro p e s m args below meth c s₁ Bd hml0 hP hK
  obtain ⟨rfl, hZ, hh⟩ := hP
  have hx := Bd.exec
  have hby := Bd.bytes
  have hml : c.maxLocals = 13 := hml0
  have hown : s.vm.findClass "com/example/planwright/planwright/planner/AmongWeighsPinLaw" = some m.cls := findClass_of_methodNamed Bd.named
  have hnm := (name_of_methodNamed Bd.named Bd.method).1
  have X0 : Stand p l e room_1 s m #[(.int p0), (.int p1), (.int p2), (.int p3), (.int p4)] below meth c s₁ [] 0 0 := Stand.of_body Bd
  have e0 : s₁.heap = h0 := by rw [← hh, Bd.state]; rfl
  have N0 := Fr.nil n0
  have K0 : Keep h0 h0 [] := Keep.refl h0 _
  refine Go.enter (P := fun o U' => ∃ vv_ LL_, o = .returned vv_ ∧ Q0 Z p0 p1 p2 p3 p4 h0 n0 vv_ U'.heap LL_ ∧ FrameEnd s o U' LL_ 16 128) (ef_0 m p0 p1 p2 p3 p4) ?_
  show Go p e below s₁ (mkF m 0 #[.val (.int p0), .val (.int p1), .val (.int p2), .val (.int p3), .val (.int p4), .unset, .unset, .unset, .unset, .unset, .unset, .unset, .unset] []) _
  refine Go.of (fun tg_ kk_ => XS.iloadN X0.here hx rfl (hb hby at_0) rfl kk_) ?_
  show Go p e below s₁ (mkF m 1 #[.val (.int p0), .val (.int p1), .val (.int p2), .val (.int p3), .val (.int p4), .unset, .unset, .unset, .unset, .unset, .unset, .unset, .unset] [(.int p1)]) _
  refine Go.of (fun tg_ kk_ => XS.iconst X0.here hx rfl (hb hby at_1) kk_) ?_
  show Go p e below s₁ (mkF m 2 #[.val (.int p0), .val (.int p1), .val (.int p2), .val (.int p3), .val (.int p4), .unset, .unset, .unset, .unset, .unset, .unset, .unset, .unset] [(.int (3 : Int32)), (.int p1)]) _
  refine Go.of (fun tg_ kk_ => XS.iand X0.here hx rfl (hb hby at_2) rfl kk_) ?_
  show Go p e below s₁ (mkF m 3 #[.val (.int p0), .val (.int p1), .val (.int p2), .val (.int p3), .val (.int p4), .unset, .unset, .unset, .unset, .unset, .unset, .unset, .unset] [(.int (p1 &&& (3 : Int32)))]) _
  refine Go.of (fun tg_ kk_ => XS.iconst X0.here hx rfl (hb hby at_3) kk_) ?_
  show Go p e below s₁ (mkF m 4 #[.val (.int p0), .val (.int p1), .val (.int p2), .val (.int p3), .val (.int p4), .unset, .unset, .unset, .unset, .unset, .unset, .unset, .unset] [(.int (1 : Int32)), (.int (p1 &&& (3 : Int32)))]) _
  refine Go.of (fun tg_ kk_ => XS.iadd X0.here hx rfl (hb hby at_4) rfl kk_) ?_
  show Go p e below s₁ (mkF m 5 #[.val (.int p0), .val (.int p1), .val (.int p2), .val (.int p3), .val (.int p4), .unset, .unset, .unset, .unset, .unset, .unset, .unset, .unset] [(.int ((p1 &&& (3 : Int32)) + (1 : Int32)))]) _
  obtain ⟨ln, qln⟩ : ∃ z : Int32, z = ((p1 &&& (3 : Int32)) + (1 : Int32)) := ⟨_, rfl⟩
  rw [← qln]
  show Go p e below s₁ (mkF m 5 #[.val (.int p0), .val (.int p1), .val (.int p2), .val (.int p3), .val (.int p4), .unset, .unset, .unset, .unset, .unset, .unset, .unset, .unset] [(.int ln)]) _
  rcases (show ln = (1 : Int32) ∨ ln = (2 : Int32) ∨ ln = (3 : Int32) ∨ ln = (4 : Int32) from by rw [qln]; exact own_len p1) with hs1 | hs1 | hs1 | hs1
  · subst hs1
    show Go p e below s₁ (mkF m 5 #[.val (.int p0), .val (.int p1), .val (.int p2), .val (.int p3), .val (.int p4), .unset, .unset, .unset, .unset, .unset, .unset, .unset, .unset] [(.int (1 : Int32))]) _
    refine Go.of (fun tg_ kk_ => XS.istore X0.here hx rfl (hb hby at_5) rfl (l' := #[.val (.int p0), .val (.int p1), .val (.int p2), .val (.int p3), .val (.int p4), .val (.int (1 : Int32)), .unset, .unset, .unset, .unset, .unset, .unset, .unset]) rfl kk_) ?_
    show Go p e below s₁ (mkF m 7 #[.val (.int p0), .val (.int p1), .val (.int p2), .val (.int p3), .val (.int p4), .val (.int (1 : Int32)), .unset, .unset, .unset, .unset, .unset, .unset, .unset] []) _
    refine Go.of (fun tg_ kk_ => XS.iloadN X0.here hx rfl (hb hby at_7) rfl kk_) ?_
    show Go p e below s₁ (mkF m 8 #[.val (.int p0), .val (.int p1), .val (.int p2), .val (.int p3), .val (.int p4), .val (.int (1 : Int32)), .unset, .unset, .unset, .unset, .unset, .unset, .unset] [(.int p3)]) _
    refine Go.of (fun tg_ kk_ => XS.iconst X0.here hx rfl (hb hby at_8) kk_) ?_
    show Go p e below s₁ (mkF m 9 #[.val (.int p0), .val (.int p1), .val (.int p2), .val (.int p3), .val (.int p4), .val (.int (1 : Int32)), .unset, .unset, .unset, .unset, .unset, .unset, .unset] [(.int (1 : Int32)), (.int p3)]) _
    refine Go.of (fun tg_ kk_ => XS.iand X0.here hx rfl (hb hby at_9) rfl kk_) ?_
    show Go p e below s₁ (mkF m 10 #[.val (.int p0), .val (.int p1), .val (.int p2), .val (.int p3), .val (.int p4), .val (.int (1 : Int32)), .unset, .unset, .unset, .unset, .unset, .unset, .unset] [(.int (p3 &&& (1 : Int32)))]) _
    by_cases hw0 : (p3 &&& (1 : Int32)) = (0 : Int32)
    · skip
      refine Go.of (fun tg_ kk_ => XS.ifYes X0.here hx rfl (pc0 := 10) (pc' := 17) rfl (hb hby at_10) rfl ((if0 _ _).trans (teq hw0).1) (by decide) (by decide) kk_) ?_
      show Go p e below s₁ (mkF m 17 #[.val (.int p0), .val (.int p1), .val (.int p2), .val (.int p3), .val (.int p4), .val (.int (1 : Int32)), .unset, .unset, .unset, .unset, .unset, .unset, .unset] []) _
      refine Go.of (fun tg_ kk_ => XS.iconst X0.here hx rfl (hb hby at_17) kk_) ?_
      show Go p e below s₁ (mkF m 18 #[.val (.int p0), .val (.int p1), .val (.int p2), .val (.int p3), .val (.int p4), .val (.int (1 : Int32)), .unset, .unset, .unset, .unset, .unset, .unset, .unset] [(.int (0 : Int32))]) _
      refine Go.of (fun tg_ kk_ => XS.istore X0.here hx rfl (hb hby at_18) rfl (l' := #[.val (.int p0), .val (.int p1), .val (.int p2), .val (.int p3), .val (.int p4), .val (.int (1 : Int32)), .val (.int (0 : Int32)), .unset, .unset, .unset, .unset, .unset, .unset]) rfl kk_) ?_
      show Go p e below s₁ (mkF m 20 #[.val (.int p0), .val (.int p1), .val (.int p2), .val (.int p3), .val (.int p4), .val (.int (1 : Int32)), .val (.int (0 : Int32)), .unset, .unset, .unset, .unset, .unset, .unset] []) _
      refine Go.of (fun tg_ kk_ => XS.iloadN X0.here hx rfl (hb hby at_20) rfl kk_) ?_
      show Go p e below s₁ (mkF m 21 #[.val (.int p0), .val (.int p1), .val (.int p2), .val (.int p3), .val (.int p4), .val (.int (1 : Int32)), .val (.int (0 : Int32)), .unset, .unset, .unset, .unset, .unset, .unset] [(.int p3)]) _
      refine Go.of (fun tg_ kk_ => XS.iconst X0.here hx rfl (hb hby at_21) kk_) ?_
      show Go p e below s₁ (mkF m 22 #[.val (.int p0), .val (.int p1), .val (.int p2), .val (.int p3), .val (.int p4), .val (.int (1 : Int32)), .val (.int (0 : Int32)), .unset, .unset, .unset, .unset, .unset, .unset] [(.int (2 : Int32)), (.int p3)]) _
      refine Go.of (fun tg_ kk_ => XS.iand X0.here hx rfl (hb hby at_22) rfl kk_) ?_
      show Go p e below s₁ (mkF m 23 #[.val (.int p0), .val (.int p1), .val (.int p2), .val (.int p3), .val (.int p4), .val (.int (1 : Int32)), .val (.int (0 : Int32)), .unset, .unset, .unset, .unset, .unset, .unset] [(.int (p3 &&& (2 : Int32)))]) _
      by_cases he0 : (p3 &&& (2 : Int32)) = (0 : Int32)
      · skip
        refine Go.of (fun tg_ kk_ => XS.ifYes X0.here hx rfl (pc0 := 23) (pc' := 30) rfl (hb hby at_23) rfl ((if0 _ _).trans (teq he0).1) (by decide) (by decide) kk_) ?_
        show Go p e below s₁ (mkF m 30 #[.val (.int p0), .val (.int p1), .val (.int p2), .val (.int p3), .val (.int p4), .val (.int (1 : Int32)), .val (.int (0 : Int32)), .unset, .unset, .unset, .unset, .unset, .unset] []) _
        refine Go.of (fun tg_ kk_ => XS.iconst X0.here hx rfl (hb hby at_30) kk_) ?_
        show Go p e below s₁ (mkF m 31 #[.val (.int p0), .val (.int p1), .val (.int p2), .val (.int p3), .val (.int p4), .val (.int (1 : Int32)), .val (.int (0 : Int32)), .unset, .unset, .unset, .unset, .unset, .unset] [(.int (0 : Int32))]) _
        refine Go.of (fun tg_ kk_ => XS.istore X0.here hx rfl (hb hby at_31) rfl (l' := #[.val (.int p0), .val (.int p1), .val (.int p2), .val (.int p3), .val (.int p4), .val (.int (1 : Int32)), .val (.int (0 : Int32)), .val (.int (0 : Int32)), .unset, .unset, .unset, .unset, .unset]) rfl kk_) ?_
        show Go p e below s₁ (mkF m 33 #[.val (.int p0), .val (.int p1), .val (.int p2), .val (.int p3), .val (.int p4), .val (.int (1 : Int32)), .val (.int (0 : Int32)), .val (.int (0 : Int32)), .unset, .unset, .unset, .unset, .unset] []) _
        refine Go.of (fun tg_ kk_ => XS.iload X0.here hx rfl (hb hby at_33) rfl kk_) ?_
        show Go p e below s₁ (mkF m 35 #[.val (.int p0), .val (.int p1), .val (.int p2), .val (.int p3), .val (.int p4), .val (.int (1 : Int32)), .val (.int (0 : Int32)), .val (.int (0 : Int32)), .unset, .unset, .unset, .unset, .unset] [(.int (0 : Int32))]) _
        refine Go.of (fun tg_ kk_ => XS.ifYes X0.here hx rfl (pc0 := 35) (pc' := 42) rfl (hb hby at_35) rfl ((if0 _ _).trans (teq (show (0 : Int32) = (0 : Int32) by decide)).1) (by decide) (by decide) kk_) ?_
        show Go p e below s₁ (mkF m 42 #[.val (.int p0), .val (.int p1), .val (.int p2), .val (.int p3), .val (.int p4), .val (.int (1 : Int32)), .val (.int (0 : Int32)), .val (.int (0 : Int32)), .unset, .unset, .unset, .unset, .unset] []) _
        refine Go.of (fun tg_ kk_ => XS.iload X0.here hx rfl (hb hby at_42) rfl kk_) ?_
        show Go p e below s₁ (mkF m 44 #[.val (.int p0), .val (.int p1), .val (.int p2), .val (.int p3), .val (.int p4), .val (.int (1 : Int32)), .val (.int (0 : Int32)), .val (.int (0 : Int32)), .unset, .unset, .unset, .unset, .unset] [(.int (1 : Int32))]) _
        refine Go.of (fun tg_ kk_ => XS.iloadN X0.here hx rfl (hb hby at_44) rfl kk_) ?_
        show Go p e below s₁ (mkF m 45 #[.val (.int p0), .val (.int p1), .val (.int p2), .val (.int p3), .val (.int p4), .val (.int (1 : Int32)), .val (.int (0 : Int32)), .val (.int (0 : Int32)), .unset, .unset, .unset, .unset, .unset] [(.int p0), (.int (1 : Int32))]) _
        obtain ⟨_, _, ⟨T2, L2, k2, n2⟩, -, X2, ⟨Lc2, hQ2, l2, y2, z2⟩, st2⟩ := Jvm.LawKit.callS X0 hx (y := (⟨"com/example/planwright/planwright/planner/AmongWeighsPinLaw", "fill", "(II)[Z"⟩ : MethodName)) hown (mvT hZ (hw _ (List.mem_of_getElem? (i := 0) rfl))) (mvT hZ (hw _ (List.mem_of_getElem? (i := 1) rfl))) (mvT hZ (hw _ (List.mem_of_getElem? (i := 2) rfl))) (mvT hZ (hw _ (List.mem_of_getElem? (i := 3) rfl))) (by decide) (backOf (W := 0) (rm1_1 l Z a0 hw [] p0 h0 n0 Z0) hZ (hw _ (List.mem_of_getElem? (i := 3) rfl)) (hw _ (List.mem_of_getElem? (i := 2) rfl)) (by decide) (by decide)) (g := (mkF m 45 #[.val (.int p0), .val (.int p1), .val (.int p2), .val (.int p3), .val (.int p4), .val (.int (1 : Int32)), .val (.int (0 : Int32)), .val (.int (0 : Int32)), .unset, .unset, .unset, .unset, .unset] [(.int p0), (.int (1 : Int32))])) rfl (by rw [hml]; rfl) (argsL := [(.int (1 : Int32)), (.int p0)]) (rest := []) (lenOf pd_1 rfl) rfl (by show 2 * 0 + _ ≤ _; exact Nat.le_of_eq rfl) (hb hby at_45) (fun _ _ => ⟨rfl, e0, (by decide : 0 + 1 ≤ _), (by decide : 0 + 1 ≤ _)⟩)
        dsimp only [Pt.U, Pt.locs, Pt.cells, Pt.slots] at X2 l2 y2 z2 st2 hQ2
        subst l2 y2 z2
        obtain ⟨bb2, rfl, N2q, K2q, sz2, gx2, V2⟩ := hQ2
        have N2 := Fr.app N0 N2q
        have sy2 : h0.size ≤ bb2 := Nat.le_trans K0.1 sz2
        have K3 := K0.trans K2q all0
        have Zs4 : n0 ≤ T2.heap.size := Nat.le_trans Z0 K2q.1
        refine Go.of (st2) ?_
        show Go p e below T2 (mkF m 48 #[.val (.int p0), .val (.int p1), .val (.int p2), .val (.int p3), .val (.int p4), .val (.int (1 : Int32)), .val (.int (0 : Int32)), .val (.int (0 : Int32)), .unset, .unset, .unset, .unset, .unset] [(.ref bb2)]) _
        refine Go.of (fun tg_ kk_ => XS.astore X2.here hx rfl (hb hby at_48) rfl rfl (l' := #[.val (.int p0), .val (.int p1), .val (.int p2), .val (.int p3), .val (.int p4), .val (.int (1 : Int32)), .val (.int (0 : Int32)), .val (.int (0 : Int32)), .val (.ref bb2), .unset, .unset, .unset, .unset]) rfl kk_) ?_
        show Go p e below T2 (mkF m 50 #[.val (.int p0), .val (.int p1), .val (.int p2), .val (.int p3), .val (.int p4), .val (.int (1 : Int32)), .val (.int (0 : Int32)), .val (.int (0 : Int32)), .val (.ref bb2), .unset, .unset, .unset, .unset] []) _
        refine Go.of (fun tg_ kk_ => XS.iload X2.here hx rfl (hb hby at_50) rfl kk_) ?_
        show Go p e below T2 (mkF m 52 #[.val (.int p0), .val (.int p1), .val (.int p2), .val (.int p3), .val (.int p4), .val (.int (1 : Int32)), .val (.int (0 : Int32)), .val (.int (0 : Int32)), .val (.ref bb2), .unset, .unset, .unset, .unset] [(.int (0 : Int32))]) _
        refine Go.of (fun tg_ kk_ => XS.ifYes X2.here hx rfl (pc0 := 52) (pc' := 59) rfl (hb hby at_52) rfl ((if0 _ _).trans (teq (show (0 : Int32) = (0 : Int32) by decide)).1) (by decide) (by decide) kk_) ?_
        show Go p e below T2 (mkF m 59 #[.val (.int p0), .val (.int p1), .val (.int p2), .val (.int p3), .val (.int p4), .val (.int (1 : Int32)), .val (.int (0 : Int32)), .val (.int (0 : Int32)), .val (.ref bb2), .unset, .unset, .unset, .unset] []) _
        refine Go.of (fun tg_ kk_ => XS.iload X2.here hx rfl (hb hby at_59) rfl kk_) ?_
        show Go p e below T2 (mkF m 61 #[.val (.int p0), .val (.int p1), .val (.int p2), .val (.int p3), .val (.int p4), .val (.int (1 : Int32)), .val (.int (0 : Int32)), .val (.int (0 : Int32)), .val (.ref bb2), .unset, .unset, .unset, .unset] [(.int (1 : Int32))]) _
        refine Go.of (fun tg_ kk_ => XS.iload X2.here hx rfl (hb hby at_61) rfl kk_) ?_
        show Go p e below T2 (mkF m 63 #[.val (.int p0), .val (.int p1), .val (.int p2), .val (.int p3), .val (.int p4), .val (.int (1 : Int32)), .val (.int (0 : Int32)), .val (.int (0 : Int32)), .val (.ref bb2), .unset, .unset, .unset, .unset] [(.int p4), (.int (1 : Int32))]) _
        obtain ⟨_, _, ⟨T5, L5, k5, n5⟩, -, X5, ⟨Lc5, hQ5, l5, y5, z5⟩, st5⟩ := Jvm.LawKit.callS X2 hx (y := (⟨"com/example/planwright/planwright/planner/AmongWeighsPinLaw", "fill", "(II)[Z"⟩ : MethodName)) hown (mvT hZ (hw _ (List.mem_of_getElem? (i := 0) rfl))) (mvT hZ (hw _ (List.mem_of_getElem? (i := 1) rfl))) (mvT hZ (hw _ (List.mem_of_getElem? (i := 2) rfl))) (mvT hZ (hw _ (List.mem_of_getElem? (i := 3) rfl))) (by decide) (backOf (W := 0) (rm1_1 l Z a0 hw [] p4 T2.heap n0 Zs4) hZ (hw _ (List.mem_of_getElem? (i := 3) rfl)) (hw _ (List.mem_of_getElem? (i := 2) rfl)) (by decide) (by decide)) (g := (mkF m 63 #[.val (.int p0), .val (.int p1), .val (.int p2), .val (.int p3), .val (.int p4), .val (.int (1 : Int32)), .val (.int (0 : Int32)), .val (.int (0 : Int32)), .val (.ref bb2), .unset, .unset, .unset, .unset] [(.int p4), (.int (1 : Int32))])) rfl (by rw [hml]; rfl) (argsL := [(.int (1 : Int32)), (.int p4)]) (rest := []) (lenOf pd_1 rfl) rfl (by show 2 * 0 + _ ≤ _; exact Nat.le_of_eq rfl) (hb hby at_63) (fun _ _ => ⟨rfl, rfl, (by decide : 1 + 1 ≤ _), (by decide : 1 + 1 ≤ _)⟩)
        dsimp only [Pt.U, Pt.locs, Pt.cells, Pt.slots] at X5 l5 y5 z5 st5 hQ5
        subst l5 y5 z5
        obtain ⟨bb5, rfl, N5q, K5q, sz5, gx5, V5⟩ := hQ5
        have N5 := Fr.app N2 N5q
        have sy5 : h0.size ≤ bb5 := Nat.le_trans K3.1 sz5
        have ne6 : bb2 ≠ bb5 := Nat.ne_of_lt (Nat.lt_of_lt_of_le V2.lt sz5)
        have F7 := V2.keep K5q nin0
        have K8 := K3.trans K5q all0
        have Zs9 : n0 ≤ T5.heap.size := Nat.le_trans Zs4 K5q.1
        refine Go.of (st5) ?_
        show Go p e below T5 (mkF m 66 #[.val (.int p0), .val (.int p1), .val (.int p2), .val (.int p3), .val (.int p4), .val (.int (1 : Int32)), .val (.int (0 : Int32)), .val (.int (0 : Int32)), .val (.ref bb2), .unset, .unset, .unset, .unset] [(.ref bb5)]) _
        refine Go.of (fun tg_ kk_ => XS.astore X5.here hx rfl (hb hby at_66) rfl rfl (l' := #[.val (.int p0), .val (.int p1), .val (.int p2), .val (.int p3), .val (.int p4), .val (.int (1 : Int32)), .val (.int (0 : Int32)), .val (.int (0 : Int32)), .val (.ref bb2), .val (.ref bb5), .unset, .unset, .unset]) rfl kk_) ?_
        show Go p e below T5 (mkF m 68 #[.val (.int p0), .val (.int p1), .val (.int p2), .val (.int p3), .val (.int p4), .val (.int (1 : Int32)), .val (.int (0 : Int32)), .val (.int (0 : Int32)), .val (.ref bb2), .val (.ref bb5), .unset, .unset, .unset] []) _
        obtain ⟨T10, h10, X10, e10, E10, A10, D10, -, st10⟩ := newO X5 hx hZ hown (hw _ (List.mem_of_getElem? (i := 5) rfl)) (hw _ (List.mem_of_getElem? (i := 6) rfl)) (hw _ (List.mem_of_getElem? (i := 7) rfl)) rfl (g := (mkF m 68 #[.val (.int p0), .val (.int p1), .val (.int p2), .val (.int p3), .val (.int p4), .val (.int (1 : Int32)), .val (.int (0 : Int32)), .val (.int (0 : Int32)), .val (.ref bb2), .val (.ref bb5), .unset, .unset, .unset] [])) rfl (hb hby at_68) (by decide) (by decide)
        obtain ⟨b10, g10⟩ : ∃ z, z = T5.heap.size := ⟨_, rfl⟩
        rw [← g10] at A10 D10 st10
        have gx10 : n0 ≤ b10 := Nat.le_trans Zs9 (Nat.le_of_eq g10.symm)
        have sz10 : h0.size ≤ b10 := Nat.le_trans K8.1 (Nat.le_of_eq g10.symm)
        have ne11 : bb2 ≠ b10 := Nat.ne_of_lt (Nat.lt_of_lt_of_le F7.lt (Nat.le_of_eq g10.symm))
        have ne12 : bb5 ≠ b10 := Nat.ne_of_lt (Nat.lt_of_lt_of_le V5.lt (Nat.le_of_eq g10.symm))
        have F13 := F7.ext E10
        have F14 := V5.ext E10
        have K15 := K8.ext E10
        have Zs16 : n0 ≤ h10.size := Nat.le_trans Zs9 E10.1
        have F17 : Fld Z h10 b10 "com/example/planwright/planwright/planner/SharedAtoms$Among" "weighed" "[Z" .null := D10 (Or.inr (hw _ (List.mem_of_getElem? (i := 20) rfl))) (ty := (.array .boolean)) (by decide)
        have F18 : Fld Z h10 b10 "com/example/planwright/planwright/planner/SharedAtoms$Among" "elsewhere" "[Z" .null := D10 (Or.inr (hw _ (List.mem_of_getElem? (i := 22) rfl))) (ty := (.array .boolean)) (by decide)
        refine Go.of (st10) ?_
        show Go p e below T10 (mkF m 71 #[.val (.int p0), .val (.int p1), .val (.int p2), .val (.int p3), .val (.int p4), .val (.int (1 : Int32)), .val (.int (0 : Int32)), .val (.int (0 : Int32)), .val (.ref bb2), .val (.ref bb5), .unset, .unset, .unset] [(.ref b10)]) _
        refine Go.of (fun tg_ kk_ => XS.dup X10.here hx rfl (hb hby at_71) rfl rfl kk_) ?_
        show Go p e below T10 (mkF m 72 #[.val (.int p0), .val (.int p1), .val (.int p2), .val (.int p3), .val (.int p4), .val (.int (1 : Int32)), .val (.int (0 : Int32)), .val (.int (0 : Int32)), .val (.ref bb2), .val (.ref bb5), .unset, .unset, .unset] [(.ref b10), (.ref b10)]) _
        refine Go.of (fun tg_ kk_ => XS.aload X10.here hx rfl (hb hby at_72) rfl rfl kk_) ?_
        show Go p e below T10 (mkF m 74 #[.val (.int p0), .val (.int p1), .val (.int p2), .val (.int p3), .val (.int p4), .val (.int (1 : Int32)), .val (.int (0 : Int32)), .val (.int (0 : Int32)), .val (.ref bb2), .val (.ref bb5), .unset, .unset, .unset] [(.ref bb2), (.ref b10), (.ref b10)]) _
        refine Go.of (fun tg_ kk_ => XS.aload X10.here hx rfl (hb hby at_74) rfl rfl kk_) ?_
        show Go p e below T10 (mkF m 76 #[.val (.int p0), .val (.int p1), .val (.int p2), .val (.int p3), .val (.int p4), .val (.int (1 : Int32)), .val (.int (0 : Int32)), .val (.int (0 : Int32)), .val (.ref bb2), .val (.ref bb5), .unset, .unset, .unset] [(.ref bb5), (.ref bb2), (.ref b10), (.ref b10)]) _
        obtain ⟨_, _, ⟨T19, L19, k19, n19⟩, -, X19, ⟨Lc19, hQ19, l19, y19, z19⟩, st19⟩ := X10.specialBack hx (y := (⟨"com/example/planwright/planwright/planner/SharedAtoms$Among", "<init>", "([Z[Z)V"⟩ : MethodName)) rfl hown (mvT hZ (hw _ (List.mem_of_getElem? (i := 8) rfl))) (mvT hZ (hw _ (List.mem_of_getElem? (i := 9) rfl))) (mvT hZ (hw _ (List.mem_of_getElem? (i := 10) rfl))) (by decide) (backOf (W := 1) (rm2_00 l Z a0 hw [] b10 bb2 bb5 h10 n0 Zs16 gx10 A10 F17 F18) hZ (hw _ (List.mem_of_getElem? (i := 10) rfl)) (hw _ (List.mem_of_getElem? (i := 7) rfl)) (by decide) (by decide)) (g := (mkF m 76 #[.val (.int p0), .val (.int p1), .val (.int p2), .val (.int p3), .val (.int p4), .val (.int (1 : Int32)), .val (.int (0 : Int32)), .val (.int (0 : Int32)), .val (.ref bb2), .val (.ref bb5), .unset, .unset, .unset] [(.ref bb5), (.ref bb2), (.ref b10), (.ref b10)])) rfl (by rw [hml]; rfl) (Steps.refl _) (a := b10) (argsL := [(.ref bb2), (.ref bb5)]) (rest := [(.ref b10)]) (lenOf pd_2 rfl) rfl (by show 2 * 0 + _ ≤ _; exact Nat.le_of_eq rfl) (hb hby at_76) (fun _ _ => ⟨rfl, e10, (by decide : 3 + 0 ≤ _), (by decide : 4 + 0 ≤ _)⟩)
        dsimp only [Pt.U, Pt.locs, Pt.cells, Pt.slots] at X19 l19 y19 z19 st19 hQ19
        subst l19 y19 z19
        obtain ⟨rfl, N19q, K19q, F19a⟩ := hQ19
        have N19 := Fr.app N5 N19q
        have F20 := F13.keep K19q (ninS ne11 nin0)
        have F21 := F14.keep K19q (ninS ne12 nin0)
        have F22 := A10.keep K19q
        have K25 := K15.trans K19q (allS (Or.inr sz10) all0)
        have Zs26 : n0 ≤ T19.heap.size := Nat.le_trans Zs16 K19q.1
        refine Go.of (fun tg_ kk_ => st19.trans kk_) ?_
        show Go p e below T19 (mkF m 79 #[.val (.int p0), .val (.int p1), .val (.int p2), .val (.int p3), .val (.int p4), .val (.int (1 : Int32)), .val (.int (0 : Int32)), .val (.int (0 : Int32)), .val (.ref bb2), .val (.ref bb5), .unset, .unset, .unset] [(.ref b10)]) _
        refine Go.of (fun tg_ kk_ => XS.astore X19.here hx rfl (hb hby at_79) rfl rfl (l' := #[.val (.int p0), .val (.int p1), .val (.int p2), .val (.int p3), .val (.int p4), .val (.int (1 : Int32)), .val (.int (0 : Int32)), .val (.int (0 : Int32)), .val (.ref bb2), .val (.ref bb5), .val (.ref b10), .unset, .unset]) rfl kk_) ?_
        show Go p e below T19 (mkF m 81 #[.val (.int p0), .val (.int p1), .val (.int p2), .val (.int p3), .val (.int p4), .val (.int (1 : Int32)), .val (.int (0 : Int32)), .val (.int (0 : Int32)), .val (.ref bb2), .val (.ref bb5), .val (.ref b10), .unset, .unset] []) _
        refine Go.of (fun tg_ kk_ => XS.iload X19.here hx rfl (hb hby at_81) rfl kk_) ?_
        show Go p e below T19 (mkF m 83 #[.val (.int p0), .val (.int p1), .val (.int p2), .val (.int p3), .val (.int p4), .val (.int (1 : Int32)), .val (.int (0 : Int32)), .val (.int (0 : Int32)), .val (.ref bb2), .val (.ref bb5), .val (.ref b10), .unset, .unset] [(.int (0 : Int32))]) _
        refine Go.of (fun tg_ kk_ => XS.ifYes X19.here hx rfl (pc0 := 83) (pc' := 93) rfl (hb hby at_83) rfl ((if0 _ _).trans (teq (show (0 : Int32) = (0 : Int32) by decide)).1) (by decide) (by decide) kk_) ?_
        show Go p e below T19 (mkF m 93 #[.val (.int p0), .val (.int p1), .val (.int p2), .val (.int p3), .val (.int p4), .val (.int (1 : Int32)), .val (.int (0 : Int32)), .val (.int (0 : Int32)), .val (.ref bb2), .val (.ref bb5), .val (.ref b10), .unset, .unset] []) _
        refine Go.of (fun tg_ kk_ => XS.iloadN X19.here hx rfl (hb hby at_93) rfl kk_) ?_
        show Go p e below T19 (mkF m 94 #[.val (.int p0), .val (.int p1), .val (.int p2), .val (.int p3), .val (.int p4), .val (.int (1 : Int32)), .val (.int (0 : Int32)), .val (.int (0 : Int32)), .val (.ref bb2), .val (.ref bb5), .val (.ref b10), .unset, .unset] [(.int p2)]) _
        refine Go.of (X19.ldcInt hx hown (mvT hZ (hw _ (List.mem_of_getElem? (i := 28) rfl))) (g := (mkF m 94 #[.val (.int p0), .val (.int p1), .val (.int p2), .val (.int p3), .val (.int p4), .val (.int (1 : Int32)), .val (.int (0 : Int32)), .val (.int (0 : Int32)), .val (.ref bb2), .val (.ref bb5), .val (.ref b10), .unset, .unset] [(.int p2)])) rfl (hb hby at_94)) ?_
        show Go p e below T19 (mkF m 96 #[.val (.int p0), .val (.int p1), .val (.int p2), .val (.int p3), .val (.int p4), .val (.int (1 : Int32)), .val (.int (0 : Int32)), .val (.int (0 : Int32)), .val (.ref bb2), .val (.ref bb5), .val (.ref b10), .unset, .unset] [(.int (2147483647 : Int32)), (.int p2)]) _
        refine Go.of (fun tg_ kk_ => XS.iand X19.here hx rfl (hb hby at_96) rfl kk_) ?_
        show Go p e below T19 (mkF m 97 #[.val (.int p0), .val (.int p1), .val (.int p2), .val (.int p3), .val (.int p4), .val (.int (1 : Int32)), .val (.int (0 : Int32)), .val (.int (0 : Int32)), .val (.ref bb2), .val (.ref bb5), .val (.ref b10), .unset, .unset] [(.int (p2 &&& (2147483647 : Int32)))]) _
        refine Go.of (fun tg_ kk_ => XS.iload X19.here hx rfl (hb hby at_97) rfl kk_) ?_
        show Go p e below T19 (mkF m 99 #[.val (.int p0), .val (.int p1), .val (.int p2), .val (.int p3), .val (.int p4), .val (.int (1 : Int32)), .val (.int (0 : Int32)), .val (.int (0 : Int32)), .val (.ref bb2), .val (.ref bb5), .val (.ref b10), .unset, .unset] [(.int (1 : Int32)), (.int (p2 &&& (2147483647 : Int32)))]) _
        refine Go.of (fun tg_ kk_ => Jvm.RoadKit.iremM (g := (mkF m 99 #[.val (.int p0), .val (.int p1), .val (.int p2), .val (.int p3), .val (.int p4), .val (.int (1 : Int32)), .val (.int (0 : Int32)), .val (.int (0 : Int32)), .val (.ref bb2), .val (.ref bb5), .val (.ref b10), .unset, .unset] [(.int (1 : Int32)), (.int (p2 &&& (2147483647 : Int32)))])) X19 hx rfl (hb hby at_99) rfl (by decide) kk_) ?_
        show Go p e below T19 (mkF m 100 #[.val (.int p0), .val (.int p1), .val (.int p2), .val (.int p3), .val (.int p4), .val (.int (1 : Int32)), .val (.int (0 : Int32)), .val (.int (0 : Int32)), .val (.ref bb2), .val (.ref bb5), .val (.ref b10), .unset, .unset] [(.int ((p2 &&& (2147483647 : Int32)) % (1 : Int32)))]) _
        obtain ⟨ix, qix⟩ : ∃ z : Int32, z = ((p2 &&& (2147483647 : Int32)) % (1 : Int32)) := ⟨_, rfl⟩
        rw [← qix]
        show Go p e below T19 (mkF m 100 #[.val (.int p0), .val (.int p1), .val (.int p2), .val (.int p3), .val (.int p4), .val (.int (1 : Int32)), .val (.int (0 : Int32)), .val (.int (0 : Int32)), .val (.ref bb2), .val (.ref bb5), .val (.ref b10), .unset, .unset] [(.int ix)]) _
        have hin : ¬ (ix < 0) ∧ (ix).toNatClampNeg < 1 := by rw [qix]; exact own_in p2 (1 : Int32) 1 (by decide) (by decide)
        have hin4 : ¬ (ix < 0) ∧ (ix).toNatClampNeg < 4 := ⟨hin.1, by omega⟩
        refine Go.of (fun tg_ kk_ => XS.istore X19.here hx rfl (hb hby at_100) rfl (l' := #[.val (.int p0), .val (.int p1), .val (.int p2), .val (.int p3), .val (.int p4), .val (.int (1 : Int32)), .val (.int (0 : Int32)), .val (.int (0 : Int32)), .val (.ref bb2), .val (.ref bb5), .val (.ref b10), .val (.int ix), .unset]) rfl kk_) ?_
        show Go p e below T19 (mkF m 102 #[.val (.int p0), .val (.int p1), .val (.int p2), .val (.int p3), .val (.int p4), .val (.int (1 : Int32)), .val (.int (0 : Int32)), .val (.int (0 : Int32)), .val (.ref bb2), .val (.ref bb5), .val (.ref b10), .val (.int ix), .unset] []) _
        refine Go.of (fun tg_ kk_ => XS.iloadN X19.here hx rfl (hb hby at_102) rfl kk_) ?_
        show Go p e below T19 (mkF m 103 #[.val (.int p0), .val (.int p1), .val (.int p2), .val (.int p3), .val (.int p4), .val (.int (1 : Int32)), .val (.int (0 : Int32)), .val (.int (0 : Int32)), .val (.ref bb2), .val (.ref bb5), .val (.ref b10), .val (.int ix), .unset] [(.int p0)]) _
        refine Go.of (fun tg_ kk_ => XS.iload X19.here hx rfl (hb hby at_103) rfl kk_) ?_
        show Go p e below T19 (mkF m 105 #[.val (.int p0), .val (.int p1), .val (.int p2), .val (.int p3), .val (.int p4), .val (.int (1 : Int32)), .val (.int (0 : Int32)), .val (.int (0 : Int32)), .val (.ref bb2), .val (.ref bb5), .val (.ref b10), .val (.int ix), .unset] [(.int ix), (.int p0)]) _
        refine Go.of (fun tg_ kk_ => XS.iushr X19.here hx rfl (hb hby at_105) rfl kk_) ?_
        show Go p e below T19 (mkF m 106 #[.val (.int p0), .val (.int p1), .val (.int p2), .val (.int p3), .val (.int p4), .val (.int (1 : Int32)), .val (.int (0 : Int32)), .val (.int (0 : Int32)), .val (.ref bb2), .val (.ref bb5), .val (.ref b10), .val (.int ix), .unset] [(.int ((p0.toUInt32 >>> (ix &&& 31).toUInt32).toInt32))]) _
        refine Go.of (fun tg_ kk_ => XS.iconst X19.here hx rfl (hb hby at_106) kk_) ?_
        show Go p e below T19 (mkF m 107 #[.val (.int p0), .val (.int p1), .val (.int p2), .val (.int p3), .val (.int p4), .val (.int (1 : Int32)), .val (.int (0 : Int32)), .val (.int (0 : Int32)), .val (.ref bb2), .val (.ref bb5), .val (.ref b10), .val (.int ix), .unset] [(.int (1 : Int32)), (.int ((p0.toUInt32 >>> (ix &&& 31).toUInt32).toInt32))]) _
        refine Go.of (fun tg_ kk_ => XS.iand X19.here hx rfl (hb hby at_107) rfl kk_) ?_
        show Go p e below T19 (mkF m 108 #[.val (.int p0), .val (.int p1), .val (.int p2), .val (.int p3), .val (.int p4), .val (.int (1 : Int32)), .val (.int (0 : Int32)), .val (.int (0 : Int32)), .val (.ref bb2), .val (.ref bb5), .val (.ref b10), .val (.int ix), .unset] [(.int (((p0.toUInt32 >>> (ix &&& 31).toUInt32).toInt32) &&& (1 : Int32)))]) _
        have st27 : ∀ ex : Int32, ex = (if (((p0.toUInt32 >>> (ix &&& 31).toUInt32).toInt32) &&& (1 : Int32)) = (0 : Int32) then (0 : Int32) else (1 : Int32)) → ∀ t, Steps p.tables e below (T19.setTop (mkF m 116 #[.val (.int p0), .val (.int p1), .val (.int p2), .val (.int p3), .val (.int p4), .val (.int (1 : Int32)), .val (.int (0 : Int32)), .val (.int (0 : Int32)), .val (.ref bb2), .val (.ref bb5), .val (.ref b10), .val (.int ix), .unset] [(.int ex)])) t → Steps p.tables e below (T19.setTop (mkF m 108 #[.val (.int p0), .val (.int p1), .val (.int p2), .val (.int p3), .val (.int p4), .val (.int (1 : Int32)), .val (.int (0 : Int32)), .val (.int (0 : Int32)), .val (.ref bb2), .val (.ref bb5), .val (.ref b10), .val (.int ix), .unset] [(.int (((p0.toUInt32 >>> (ix &&& 31).toUInt32).toInt32) &&& (1 : Int32)))])) t := by
          intro ex qex tg_ kk_
          by_cases hc : (((p0.toUInt32 >>> (ix &&& 31).toUInt32).toInt32) &&& (1 : Int32)) = (0 : Int32)
          · rw [if_pos hc] at qex; rw [qex] at kk_
            show Steps p.tables e below (T19.setTop (mkF m 108 #[.val (.int p0), .val (.int p1), .val (.int p2), .val (.int p3), .val (.int p4), .val (.int (1 : Int32)), .val (.int (0 : Int32)), .val (.int (0 : Int32)), .val (.ref bb2), .val (.ref bb5), .val (.ref b10), .val (.int ix), .unset] [(.int (((p0.toUInt32 >>> (ix &&& 31).toUInt32).toInt32) &&& (1 : Int32)))])) _
            refine XS.ifYes X19.here hx rfl (pc0 := 108) (pc' := 115) rfl (hb hby at_108) rfl ((if0 _ _).trans (teq hc).1) (by decide) (by decide) ?_
            show Steps p.tables e below (T19.setTop (mkF m 115 #[.val (.int p0), .val (.int p1), .val (.int p2), .val (.int p3), .val (.int p4), .val (.int (1 : Int32)), .val (.int (0 : Int32)), .val (.int (0 : Int32)), .val (.ref bb2), .val (.ref bb5), .val (.ref b10), .val (.int ix), .unset] [])) _
            refine XS.iconst X19.here hx rfl (hb hby at_115) ?_
            show Steps p.tables e below (T19.setTop (mkF m 116 #[.val (.int p0), .val (.int p1), .val (.int p2), .val (.int p3), .val (.int p4), .val (.int (1 : Int32)), .val (.int (0 : Int32)), .val (.int (0 : Int32)), .val (.ref bb2), .val (.ref bb5), .val (.ref b10), .val (.int ix), .unset] [(.int (0 : Int32))])) _
            exact kk_
          · rw [if_neg hc] at qex; rw [qex] at kk_
            show Steps p.tables e below (T19.setTop (mkF m 108 #[.val (.int p0), .val (.int p1), .val (.int p2), .val (.int p3), .val (.int p4), .val (.int (1 : Int32)), .val (.int (0 : Int32)), .val (.int (0 : Int32)), .val (.ref bb2), .val (.ref bb5), .val (.ref b10), .val (.int ix), .unset] [(.int (((p0.toUInt32 >>> (ix &&& 31).toUInt32).toInt32) &&& (1 : Int32)))])) _
            refine XS.ifNo X19.here hx rfl (hb hby at_108) rfl ((if0 _ _).trans (feq hc).1) ?_
            show Steps p.tables e below (T19.setTop (mkF m 111 #[.val (.int p0), .val (.int p1), .val (.int p2), .val (.int p3), .val (.int p4), .val (.int (1 : Int32)), .val (.int (0 : Int32)), .val (.int (0 : Int32)), .val (.ref bb2), .val (.ref bb5), .val (.ref b10), .val (.int ix), .unset] [])) _
            refine XS.iconst X19.here hx rfl (hb hby at_111) ?_
            show Steps p.tables e below (T19.setTop (mkF m 112 #[.val (.int p0), .val (.int p1), .val (.int p2), .val (.int p3), .val (.int p4), .val (.int (1 : Int32)), .val (.int (0 : Int32)), .val (.int (0 : Int32)), .val (.ref bb2), .val (.ref bb5), .val (.ref b10), .val (.int ix), .unset] [(.int (1 : Int32))])) _
            refine XS.goto X19.here hx rfl (pc0 := 112) (pc' := 116) rfl (hb hby at_112) (by decide) (by decide) ?_
            show Steps p.tables e below (T19.setTop (mkF m 116 #[.val (.int p0), .val (.int p1), .val (.int p2), .val (.int p3), .val (.int p4), .val (.int (1 : Int32)), .val (.int (0 : Int32)), .val (.int (0 : Int32)), .val (.ref bb2), .val (.ref bb5), .val (.ref b10), .val (.int ix), .unset] [(.int (1 : Int32))])) _
            exact kk_
        obtain ⟨ex, qex⟩ : ∃ z : Int32, z = (if (((p0.toUInt32 >>> (ix &&& 31).toUInt32).toInt32) &&& (1 : Int32)) = (0 : Int32) then (0 : Int32) else (1 : Int32)) := ⟨_, rfl⟩
        refine Go.of (st27 ex qex) ?_
        show Go p e below T19 (mkF m 116 #[.val (.int p0), .val (.int p1), .val (.int p2), .val (.int p3), .val (.int p4), .val (.int (1 : Int32)), .val (.int (0 : Int32)), .val (.int (0 : Int32)), .val (.ref bb2), .val (.ref bb5), .val (.ref b10), .val (.int ix), .unset] [(.int ex)]) _
        refine Go.of (fun tg_ kk_ => XS.istore X19.here hx rfl (hb hby at_116) rfl (l' := #[.val (.int p0), .val (.int p1), .val (.int p2), .val (.int p3), .val (.int p4), .val (.int (1 : Int32)), .val (.int (0 : Int32)), .val (.int (0 : Int32)), .val (.ref bb2), .val (.ref bb5), .val (.ref b10), .val (.int ix), .val (.int ex)]) rfl kk_) ?_
        show Go p e below T19 (mkF m 118 #[.val (.int p0), .val (.int p1), .val (.int p2), .val (.int p3), .val (.int p4), .val (.int (1 : Int32)), .val (.int (0 : Int32)), .val (.int (0 : Int32)), .val (.ref bb2), .val (.ref bb5), .val (.ref b10), .val (.int ix), .val (.int ex)] []) _
        refine Go.of (fun tg_ kk_ => XS.aload X19.here hx rfl (hb hby at_118) rfl rfl kk_) ?_
        show Go p e below T19 (mkF m 120 #[.val (.int p0), .val (.int p1), .val (.int p2), .val (.int p3), .val (.int p4), .val (.int (1 : Int32)), .val (.int (0 : Int32)), .val (.int (0 : Int32)), .val (.ref bb2), .val (.ref bb5), .val (.ref b10), .val (.int ix), .val (.int ex)] [(.ref b10)]) _
        refine Go.of (fun tg_ kk_ => XS.iload X19.here hx rfl (hb hby at_120) rfl kk_) ?_
        show Go p e below T19 (mkF m 122 #[.val (.int p0), .val (.int p1), .val (.int p2), .val (.int p3), .val (.int p4), .val (.int (1 : Int32)), .val (.int (0 : Int32)), .val (.int (0 : Int32)), .val (.ref bb2), .val (.ref bb5), .val (.ref b10), .val (.int ix), .val (.int ex)] [(.int ix), (.ref b10)]) _
        obtain ⟨cq28, kq28, q28a, q28b, q28c⟩ := isOf hZ rfl F22
        obtain ⟨_, _, ⟨T28, L28, k28, n28⟩, -, X28, ⟨Lc28, hQ28, l28, y28, z28⟩, st28⟩ := X19.virtualBack hx (y := (⟨"com/example/planwright/planwright/planner/SharedAtoms$Among", "weighs", "(I)Z"⟩ : MethodName)) (z := (⟨"com/example/planwright/planwright/planner/SharedAtoms$Among", "weighs", "(I)Z"⟩ : MethodName)) hown (mvT hZ (hw _ (List.mem_of_getElem? (i := 23) rfl))) (mvT hZ (hw _ (List.mem_of_getElem? (i := 24) rfl))) (notFace_of_selects (args := #[]) (mvT hZ (hw _ (List.mem_of_getElem? (i := 26) rfl)))) (mvT hZ (hw _ (List.mem_of_getElem? (i := 26) rfl))) (mvT hZ (hw _ (List.mem_of_getElem? (i := 25) rfl))) (by decide) (backOf (W := 0) (rm5 l Z a0 hw [] b10 ix bb2 (bitsF p0) 1 T19.heap n0 Zs26 F19a F20 hin) hZ (hw _ (List.mem_of_getElem? (i := 27) rfl)) (hw _ (List.mem_of_getElem? (i := 7) rfl)) (by decide) (by decide)) q28a q28c (g := (mkF m 122 #[.val (.int p0), .val (.int p1), .val (.int p2), .val (.int p3), .val (.int p4), .val (.int (1 : Int32)), .val (.int (0 : Int32)), .val (.int (0 : Int32)), .val (.ref bb2), .val (.ref bb5), .val (.ref b10), .val (.int ix), .val (.int ex)] [(.int ix), (.ref b10)])) rfl (by rw [hml]; rfl) (Steps.refl _) (argsL := [(.int ix)]) (rest := []) (lenOf pd_3 rfl) rfl (by show 2 * 0 + _ ≤ _; exact Nat.le_of_eq rfl) (hb hby at_122) (fun _ _ => ⟨rfl, rfl, (by decide : 3 + 0 ≤ _), (by decide : 4 + 0 ≤ _)⟩)
        dsimp only [Pt.U, Pt.locs, Pt.cells, Pt.slots] at X28 l28 y28 z28 st28 hQ28
        subst l28 y28 z28
        obtain ⟨rfl, N28q, e28⟩ := hQ28
        have N28 := Fr.app N19 N28q
        refine Go.of (fun tg_ kk_ => st28.trans kk_) ?_
        show Go p e below T28 (mkF m 125 #[.val (.int p0), .val (.int p1), .val (.int p2), .val (.int p3), .val (.int p4), .val (.int (1 : Int32)), .val (.int (0 : Int32)), .val (.int (0 : Int32)), .val (.ref bb2), .val (.ref bb5), .val (.ref b10), .val (.int ix), .val (.int ex)] [(.int (if bitsF p0 (ix).toNatClampNeg = 0 then (0 : Int32) else (1 : Int32)))]) _
        refine Go.of (fun tg_ kk_ => XS.iload X28.here hx rfl (hb hby at_125) rfl kk_) ?_
        show Go p e below T28 (mkF m 127 #[.val (.int p0), .val (.int p1), .val (.int p2), .val (.int p3), .val (.int p4), .val (.int (1 : Int32)), .val (.int (0 : Int32)), .val (.int (0 : Int32)), .val (.ref bb2), .val (.ref bb5), .val (.ref b10), .val (.int ix), .val (.int ex)] [(.int ex), (.int (if bitsF p0 (ix).toNatClampNeg = 0 then (0 : Int32) else (1 : Int32)))]) _
        refine Go.of (fun tg_ kk_ => XS.icmpNo X28.here hx rfl (hb hby at_127) rfl (teq (show (if bitsF p0 (ix).toNatClampNeg = 0 then (0 : Int32) else (1 : Int32)) = ex from (by rw [qex]; exact own_weighs p0 ix hin4))).2 kk_) ?_
        show Go p e below T28 (mkF m 130 #[.val (.int p0), .val (.int p1), .val (.int p2), .val (.int p3), .val (.int p4), .val (.int (1 : Int32)), .val (.int (0 : Int32)), .val (.int (0 : Int32)), .val (.ref bb2), .val (.ref bb5), .val (.ref b10), .val (.int ix), .val (.int ex)] []) _
        refine Go.of (fun tg_ kk_ => XS.iconst X28.here hx rfl (hb hby at_130) kk_) ?_
        show Go p e below T28 (mkF m 131 #[.val (.int p0), .val (.int p1), .val (.int p2), .val (.int p3), .val (.int p4), .val (.int (1 : Int32)), .val (.int (0 : Int32)), .val (.int (0 : Int32)), .val (.ref bb2), .val (.ref bb5), .val (.ref b10), .val (.int ix), .val (.int ex)] [(.int (1 : Int32))]) _
        refine Go.of (fun tg_ kk_ => XS.goto X28.here hx rfl (pc0 := 131) (pc' := 135) rfl (hb hby at_131) (by decide) (by decide) kk_) ?_
        show Go p e below T28 (mkF m 135 #[.val (.int p0), .val (.int p1), .val (.int p2), .val (.int p3), .val (.int p4), .val (.int (1 : Int32)), .val (.int (0 : Int32)), .val (.int (0 : Int32)), .val (.ref bb2), .val (.ref bb5), .val (.ref b10), .val (.int ix), .val (.int ex)] [(.int (1 : Int32))]) _
        obtain ⟨fs, hr, hrun, hended, hW, hsame⟩ := X28.leave (v := some (.int (1 : Int32))) (fun h => by rw [Bd.returns] at h; cases h)
        refine ⟨_, _, ?_, hrun, hended, _, _, rfl, ?_, ⟨_, rfl⟩, hW, hsame.mono (by decide) (by decide)⟩
        · exact retN X28 hx (t := .boolean) Bd.returns (by simp) (hb hby at_135) hr
        · show Q0 Z p0 p1 p2 p3 p4 h0 n0 _ T28.heap _
          rw [e28]
          exact ⟨rfl, N28⟩
      · skip
        refine Go.of (fun tg_ kk_ => XS.ifNo X0.here hx rfl (hb hby at_23) rfl ((if0 _ _).trans (feq he0).1) kk_) ?_
        show Go p e below s₁ (mkF m 26 #[.val (.int p0), .val (.int p1), .val (.int p2), .val (.int p3), .val (.int p4), .val (.int (1 : Int32)), .val (.int (0 : Int32)), .unset, .unset, .unset, .unset, .unset, .unset] []) _
        refine Go.of (fun tg_ kk_ => XS.iconst X0.here hx rfl (hb hby at_26) kk_) ?_
        show Go p e below s₁ (mkF m 27 #[.val (.int p0), .val (.int p1), .val (.int p2), .val (.int p3), .val (.int p4), .val (.int (1 : Int32)), .val (.int (0 : Int32)), .unset, .unset, .unset, .unset, .unset, .unset] [(.int (1 : Int32))]) _
        refine Go.of (fun tg_ kk_ => XS.goto X0.here hx rfl (pc0 := 27) (pc' := 31) rfl (hb hby at_27) (by decide) (by decide) kk_) ?_
        show Go p e below s₁ (mkF m 31 #[.val (.int p0), .val (.int p1), .val (.int p2), .val (.int p3), .val (.int p4), .val (.int (1 : Int32)), .val (.int (0 : Int32)), .unset, .unset, .unset, .unset, .unset, .unset] [(.int (1 : Int32))]) _
        refine Go.of (fun tg_ kk_ => XS.istore X0.here hx rfl (hb hby at_31) rfl (l' := #[.val (.int p0), .val (.int p1), .val (.int p2), .val (.int p3), .val (.int p4), .val (.int (1 : Int32)), .val (.int (0 : Int32)), .val (.int (1 : Int32)), .unset, .unset, .unset, .unset, .unset]) rfl kk_) ?_
        show Go p e below s₁ (mkF m 33 #[.val (.int p0), .val (.int p1), .val (.int p2), .val (.int p3), .val (.int p4), .val (.int (1 : Int32)), .val (.int (0 : Int32)), .val (.int (1 : Int32)), .unset, .unset, .unset, .unset, .unset] []) _
        refine Go.of (fun tg_ kk_ => XS.iload X0.here hx rfl (hb hby at_33) rfl kk_) ?_
        show Go p e below s₁ (mkF m 35 #[.val (.int p0), .val (.int p1), .val (.int p2), .val (.int p3), .val (.int p4), .val (.int (1 : Int32)), .val (.int (0 : Int32)), .val (.int (1 : Int32)), .unset, .unset, .unset, .unset, .unset] [(.int (0 : Int32))]) _
        refine Go.of (fun tg_ kk_ => XS.ifYes X0.here hx rfl (pc0 := 35) (pc' := 42) rfl (hb hby at_35) rfl ((if0 _ _).trans (teq (show (0 : Int32) = (0 : Int32) by decide)).1) (by decide) (by decide) kk_) ?_
        show Go p e below s₁ (mkF m 42 #[.val (.int p0), .val (.int p1), .val (.int p2), .val (.int p3), .val (.int p4), .val (.int (1 : Int32)), .val (.int (0 : Int32)), .val (.int (1 : Int32)), .unset, .unset, .unset, .unset, .unset] []) _
        refine Go.of (fun tg_ kk_ => XS.iload X0.here hx rfl (hb hby at_42) rfl kk_) ?_
        show Go p e below s₁ (mkF m 44 #[.val (.int p0), .val (.int p1), .val (.int p2), .val (.int p3), .val (.int p4), .val (.int (1 : Int32)), .val (.int (0 : Int32)), .val (.int (1 : Int32)), .unset, .unset, .unset, .unset, .unset] [(.int (1 : Int32))]) _
        refine Go.of (fun tg_ kk_ => XS.iloadN X0.here hx rfl (hb hby at_44) rfl kk_) ?_
        show Go p e below s₁ (mkF m 45 #[.val (.int p0), .val (.int p1), .val (.int p2), .val (.int p3), .val (.int p4), .val (.int (1 : Int32)), .val (.int (0 : Int32)), .val (.int (1 : Int32)), .unset, .unset, .unset, .unset, .unset] [(.int p0), (.int (1 : Int32))]) _
        obtain ⟨_, _, ⟨T29, L29, k29, n29⟩, -, X29, ⟨Lc29, hQ29, l29, y29, z29⟩, st29⟩ := Jvm.LawKit.callS X0 hx (y := (⟨"com/example/planwright/planwright/planner/AmongWeighsPinLaw", "fill", "(II)[Z"⟩ : MethodName)) hown (mvT hZ (hw _ (List.mem_of_getElem? (i := 0) rfl))) (mvT hZ (hw _ (List.mem_of_getElem? (i := 1) rfl))) (mvT hZ (hw _ (List.mem_of_getElem? (i := 2) rfl))) (mvT hZ (hw _ (List.mem_of_getElem? (i := 3) rfl))) (by decide) (backOf (W := 0) (rm1_1 l Z a0 hw [] p0 h0 n0 Z0) hZ (hw _ (List.mem_of_getElem? (i := 3) rfl)) (hw _ (List.mem_of_getElem? (i := 2) rfl)) (by decide) (by decide)) (g := (mkF m 45 #[.val (.int p0), .val (.int p1), .val (.int p2), .val (.int p3), .val (.int p4), .val (.int (1 : Int32)), .val (.int (0 : Int32)), .val (.int (1 : Int32)), .unset, .unset, .unset, .unset, .unset] [(.int p0), (.int (1 : Int32))])) rfl (by rw [hml]; rfl) (argsL := [(.int (1 : Int32)), (.int p0)]) (rest := []) (lenOf pd_1 rfl) rfl (by show 2 * 0 + _ ≤ _; exact Nat.le_of_eq rfl) (hb hby at_45) (fun _ _ => ⟨rfl, e0, (by decide : 0 + 1 ≤ _), (by decide : 0 + 1 ≤ _)⟩)
        dsimp only [Pt.U, Pt.locs, Pt.cells, Pt.slots] at X29 l29 y29 z29 st29 hQ29
        subst l29 y29 z29
        obtain ⟨bb29, rfl, N29q, K29q, sz29, gx29, V29⟩ := hQ29
        have N29 := Fr.app N0 N29q
        have sy29 : h0.size ≤ bb29 := Nat.le_trans K0.1 sz29
        have K30 := K0.trans K29q all0
        have Zs31 : n0 ≤ T29.heap.size := Nat.le_trans Z0 K29q.1
        refine Go.of (st29) ?_
        show Go p e below T29 (mkF m 48 #[.val (.int p0), .val (.int p1), .val (.int p2), .val (.int p3), .val (.int p4), .val (.int (1 : Int32)), .val (.int (0 : Int32)), .val (.int (1 : Int32)), .unset, .unset, .unset, .unset, .unset] [(.ref bb29)]) _
        refine Go.of (fun tg_ kk_ => XS.astore X29.here hx rfl (hb hby at_48) rfl rfl (l' := #[.val (.int p0), .val (.int p1), .val (.int p2), .val (.int p3), .val (.int p4), .val (.int (1 : Int32)), .val (.int (0 : Int32)), .val (.int (1 : Int32)), .val (.ref bb29), .unset, .unset, .unset, .unset]) rfl kk_) ?_
        show Go p e below T29 (mkF m 50 #[.val (.int p0), .val (.int p1), .val (.int p2), .val (.int p3), .val (.int p4), .val (.int (1 : Int32)), .val (.int (0 : Int32)), .val (.int (1 : Int32)), .val (.ref bb29), .unset, .unset, .unset, .unset] []) _
        refine Go.of (fun tg_ kk_ => XS.iload X29.here hx rfl (hb hby at_50) rfl kk_) ?_
        show Go p e below T29 (mkF m 52 #[.val (.int p0), .val (.int p1), .val (.int p2), .val (.int p3), .val (.int p4), .val (.int (1 : Int32)), .val (.int (0 : Int32)), .val (.int (1 : Int32)), .val (.ref bb29), .unset, .unset, .unset, .unset] [(.int (1 : Int32))]) _
        refine Go.of (fun tg_ kk_ => XS.ifNo X29.here hx rfl (hb hby at_52) rfl ((if0 _ _).trans (feq (show ¬ ((1 : Int32) = (0 : Int32)) by decide)).1) kk_) ?_
        show Go p e below T29 (mkF m 55 #[.val (.int p0), .val (.int p1), .val (.int p2), .val (.int p3), .val (.int p4), .val (.int (1 : Int32)), .val (.int (0 : Int32)), .val (.int (1 : Int32)), .val (.ref bb29), .unset, .unset, .unset, .unset] []) _
        refine Go.of (fun tg_ kk_ => XS.aconstNull X29.here hx rfl (hb hby at_55) kk_) ?_
        show Go p e below T29 (mkF m 56 #[.val (.int p0), .val (.int p1), .val (.int p2), .val (.int p3), .val (.int p4), .val (.int (1 : Int32)), .val (.int (0 : Int32)), .val (.int (1 : Int32)), .val (.ref bb29), .unset, .unset, .unset, .unset] [.null]) _
        refine Go.of (fun tg_ kk_ => XS.goto X29.here hx rfl (pc0 := 56) (pc' := 66) rfl (hb hby at_56) (by decide) (by decide) kk_) ?_
        show Go p e below T29 (mkF m 66 #[.val (.int p0), .val (.int p1), .val (.int p2), .val (.int p3), .val (.int p4), .val (.int (1 : Int32)), .val (.int (0 : Int32)), .val (.int (1 : Int32)), .val (.ref bb29), .unset, .unset, .unset, .unset] [.null]) _
        refine Go.of (fun tg_ kk_ => XS.astore X29.here hx rfl (hb hby at_66) rfl rfl (l' := #[.val (.int p0), .val (.int p1), .val (.int p2), .val (.int p3), .val (.int p4), .val (.int (1 : Int32)), .val (.int (0 : Int32)), .val (.int (1 : Int32)), .val (.ref bb29), .val .null, .unset, .unset, .unset]) rfl kk_) ?_
        show Go p e below T29 (mkF m 68 #[.val (.int p0), .val (.int p1), .val (.int p2), .val (.int p3), .val (.int p4), .val (.int (1 : Int32)), .val (.int (0 : Int32)), .val (.int (1 : Int32)), .val (.ref bb29), .val .null, .unset, .unset, .unset] []) _
        obtain ⟨T32, h32, X32, e32, E32, A32, D32, -, st32⟩ := newO X29 hx hZ hown (hw _ (List.mem_of_getElem? (i := 5) rfl)) (hw _ (List.mem_of_getElem? (i := 6) rfl)) (hw _ (List.mem_of_getElem? (i := 7) rfl)) rfl (g := (mkF m 68 #[.val (.int p0), .val (.int p1), .val (.int p2), .val (.int p3), .val (.int p4), .val (.int (1 : Int32)), .val (.int (0 : Int32)), .val (.int (1 : Int32)), .val (.ref bb29), .val .null, .unset, .unset, .unset] [])) rfl (hb hby at_68) (by decide) (by decide)
        obtain ⟨b32, g32⟩ : ∃ z, z = T29.heap.size := ⟨_, rfl⟩
        rw [← g32] at A32 D32 st32
        have gx32 : n0 ≤ b32 := Nat.le_trans Zs31 (Nat.le_of_eq g32.symm)
        have sz32 : h0.size ≤ b32 := Nat.le_trans K30.1 (Nat.le_of_eq g32.symm)
        have ne33 : bb29 ≠ b32 := Nat.ne_of_lt (Nat.lt_of_lt_of_le V29.lt (Nat.le_of_eq g32.symm))
        have F34 := V29.ext E32
        have K35 := K30.ext E32
        have Zs36 : n0 ≤ h32.size := Nat.le_trans Zs31 E32.1
        have F37 : Fld Z h32 b32 "com/example/planwright/planwright/planner/SharedAtoms$Among" "weighed" "[Z" .null := D32 (Or.inr (hw _ (List.mem_of_getElem? (i := 20) rfl))) (ty := (.array .boolean)) (by decide)
        have F38 : Fld Z h32 b32 "com/example/planwright/planwright/planner/SharedAtoms$Among" "elsewhere" "[Z" .null := D32 (Or.inr (hw _ (List.mem_of_getElem? (i := 22) rfl))) (ty := (.array .boolean)) (by decide)
        refine Go.of (st32) ?_
        show Go p e below T32 (mkF m 71 #[.val (.int p0), .val (.int p1), .val (.int p2), .val (.int p3), .val (.int p4), .val (.int (1 : Int32)), .val (.int (0 : Int32)), .val (.int (1 : Int32)), .val (.ref bb29), .val .null, .unset, .unset, .unset] [(.ref b32)]) _
        refine Go.of (fun tg_ kk_ => XS.dup X32.here hx rfl (hb hby at_71) rfl rfl kk_) ?_
        show Go p e below T32 (mkF m 72 #[.val (.int p0), .val (.int p1), .val (.int p2), .val (.int p3), .val (.int p4), .val (.int (1 : Int32)), .val (.int (0 : Int32)), .val (.int (1 : Int32)), .val (.ref bb29), .val .null, .unset, .unset, .unset] [(.ref b32), (.ref b32)]) _
        refine Go.of (fun tg_ kk_ => XS.aload X32.here hx rfl (hb hby at_72) rfl rfl kk_) ?_
        show Go p e below T32 (mkF m 74 #[.val (.int p0), .val (.int p1), .val (.int p2), .val (.int p3), .val (.int p4), .val (.int (1 : Int32)), .val (.int (0 : Int32)), .val (.int (1 : Int32)), .val (.ref bb29), .val .null, .unset, .unset, .unset] [(.ref bb29), (.ref b32), (.ref b32)]) _
        refine Go.of (fun tg_ kk_ => XS.aload X32.here hx rfl (hb hby at_74) rfl rfl kk_) ?_
        show Go p e below T32 (mkF m 76 #[.val (.int p0), .val (.int p1), .val (.int p2), .val (.int p3), .val (.int p4), .val (.int (1 : Int32)), .val (.int (0 : Int32)), .val (.int (1 : Int32)), .val (.ref bb29), .val .null, .unset, .unset, .unset] [.null, (.ref bb29), (.ref b32), (.ref b32)]) _
        obtain ⟨_, _, ⟨T39, L39, k39, n39⟩, -, X39, ⟨Lc39, hQ39, l39, y39, z39⟩, st39⟩ := X32.specialBack hx (y := (⟨"com/example/planwright/planwright/planner/SharedAtoms$Among", "<init>", "([Z[Z)V"⟩ : MethodName)) rfl hown (mvT hZ (hw _ (List.mem_of_getElem? (i := 8) rfl))) (mvT hZ (hw _ (List.mem_of_getElem? (i := 9) rfl))) (mvT hZ (hw _ (List.mem_of_getElem? (i := 10) rfl))) (by decide) (backOf (W := 1) (rm2_01 l Z a0 hw [] b32 bb29 h32 n0 Zs36 gx32 A32 F37 F38) hZ (hw _ (List.mem_of_getElem? (i := 10) rfl)) (hw _ (List.mem_of_getElem? (i := 7) rfl)) (by decide) (by decide)) (g := (mkF m 76 #[.val (.int p0), .val (.int p1), .val (.int p2), .val (.int p3), .val (.int p4), .val (.int (1 : Int32)), .val (.int (0 : Int32)), .val (.int (1 : Int32)), .val (.ref bb29), .val .null, .unset, .unset, .unset] [.null, (.ref bb29), (.ref b32), (.ref b32)])) rfl (by rw [hml]; rfl) (Steps.refl _) (a := b32) (argsL := [(.ref bb29), .null]) (rest := [(.ref b32)]) (lenOf pd_2 rfl) rfl (by show 2 * 0 + _ ≤ _; exact Nat.le_of_eq rfl) (hb hby at_76) (fun _ _ => ⟨rfl, e32, (by decide : 2 + 0 ≤ _), (by decide : 3 + 0 ≤ _)⟩)
        dsimp only [Pt.U, Pt.locs, Pt.cells, Pt.slots] at X39 l39 y39 z39 st39 hQ39
        subst l39 y39 z39
        obtain ⟨rfl, N39q, K39q, F39a⟩ := hQ39
        have N39 := Fr.app N29 N39q
        have F40 := F34.keep K39q (ninS ne33 nin0)
        have F41 := A32.keep K39q
        have K44 := K35.trans K39q (allS (Or.inr sz32) all0)
        have Zs45 : n0 ≤ T39.heap.size := Nat.le_trans Zs36 K39q.1
        refine Go.of (fun tg_ kk_ => st39.trans kk_) ?_
        show Go p e below T39 (mkF m 79 #[.val (.int p0), .val (.int p1), .val (.int p2), .val (.int p3), .val (.int p4), .val (.int (1 : Int32)), .val (.int (0 : Int32)), .val (.int (1 : Int32)), .val (.ref bb29), .val .null, .unset, .unset, .unset] [(.ref b32)]) _
        refine Go.of (fun tg_ kk_ => XS.astore X39.here hx rfl (hb hby at_79) rfl rfl (l' := #[.val (.int p0), .val (.int p1), .val (.int p2), .val (.int p3), .val (.int p4), .val (.int (1 : Int32)), .val (.int (0 : Int32)), .val (.int (1 : Int32)), .val (.ref bb29), .val .null, .val (.ref b32), .unset, .unset]) rfl kk_) ?_
        show Go p e below T39 (mkF m 81 #[.val (.int p0), .val (.int p1), .val (.int p2), .val (.int p3), .val (.int p4), .val (.int (1 : Int32)), .val (.int (0 : Int32)), .val (.int (1 : Int32)), .val (.ref bb29), .val .null, .val (.ref b32), .unset, .unset] []) _
        refine Go.of (fun tg_ kk_ => XS.iload X39.here hx rfl (hb hby at_81) rfl kk_) ?_
        show Go p e below T39 (mkF m 83 #[.val (.int p0), .val (.int p1), .val (.int p2), .val (.int p3), .val (.int p4), .val (.int (1 : Int32)), .val (.int (0 : Int32)), .val (.int (1 : Int32)), .val (.ref bb29), .val .null, .val (.ref b32), .unset, .unset] [(.int (0 : Int32))]) _
        refine Go.of (fun tg_ kk_ => XS.ifYes X39.here hx rfl (pc0 := 83) (pc' := 93) rfl (hb hby at_83) rfl ((if0 _ _).trans (teq (show (0 : Int32) = (0 : Int32) by decide)).1) (by decide) (by decide) kk_) ?_
        show Go p e below T39 (mkF m 93 #[.val (.int p0), .val (.int p1), .val (.int p2), .val (.int p3), .val (.int p4), .val (.int (1 : Int32)), .val (.int (0 : Int32)), .val (.int (1 : Int32)), .val (.ref bb29), .val .null, .val (.ref b32), .unset, .unset] []) _
        refine Go.of (fun tg_ kk_ => XS.iloadN X39.here hx rfl (hb hby at_93) rfl kk_) ?_
        show Go p e below T39 (mkF m 94 #[.val (.int p0), .val (.int p1), .val (.int p2), .val (.int p3), .val (.int p4), .val (.int (1 : Int32)), .val (.int (0 : Int32)), .val (.int (1 : Int32)), .val (.ref bb29), .val .null, .val (.ref b32), .unset, .unset] [(.int p2)]) _
        refine Go.of (X39.ldcInt hx hown (mvT hZ (hw _ (List.mem_of_getElem? (i := 28) rfl))) (g := (mkF m 94 #[.val (.int p0), .val (.int p1), .val (.int p2), .val (.int p3), .val (.int p4), .val (.int (1 : Int32)), .val (.int (0 : Int32)), .val (.int (1 : Int32)), .val (.ref bb29), .val .null, .val (.ref b32), .unset, .unset] [(.int p2)])) rfl (hb hby at_94)) ?_
        show Go p e below T39 (mkF m 96 #[.val (.int p0), .val (.int p1), .val (.int p2), .val (.int p3), .val (.int p4), .val (.int (1 : Int32)), .val (.int (0 : Int32)), .val (.int (1 : Int32)), .val (.ref bb29), .val .null, .val (.ref b32), .unset, .unset] [(.int (2147483647 : Int32)), (.int p2)]) _
        refine Go.of (fun tg_ kk_ => XS.iand X39.here hx rfl (hb hby at_96) rfl kk_) ?_
        show Go p e below T39 (mkF m 97 #[.val (.int p0), .val (.int p1), .val (.int p2), .val (.int p3), .val (.int p4), .val (.int (1 : Int32)), .val (.int (0 : Int32)), .val (.int (1 : Int32)), .val (.ref bb29), .val .null, .val (.ref b32), .unset, .unset] [(.int (p2 &&& (2147483647 : Int32)))]) _
        refine Go.of (fun tg_ kk_ => XS.iload X39.here hx rfl (hb hby at_97) rfl kk_) ?_
        show Go p e below T39 (mkF m 99 #[.val (.int p0), .val (.int p1), .val (.int p2), .val (.int p3), .val (.int p4), .val (.int (1 : Int32)), .val (.int (0 : Int32)), .val (.int (1 : Int32)), .val (.ref bb29), .val .null, .val (.ref b32), .unset, .unset] [(.int (1 : Int32)), (.int (p2 &&& (2147483647 : Int32)))]) _
        refine Go.of (fun tg_ kk_ => Jvm.RoadKit.iremM (g := (mkF m 99 #[.val (.int p0), .val (.int p1), .val (.int p2), .val (.int p3), .val (.int p4), .val (.int (1 : Int32)), .val (.int (0 : Int32)), .val (.int (1 : Int32)), .val (.ref bb29), .val .null, .val (.ref b32), .unset, .unset] [(.int (1 : Int32)), (.int (p2 &&& (2147483647 : Int32)))])) X39 hx rfl (hb hby at_99) rfl (by decide) kk_) ?_
        show Go p e below T39 (mkF m 100 #[.val (.int p0), .val (.int p1), .val (.int p2), .val (.int p3), .val (.int p4), .val (.int (1 : Int32)), .val (.int (0 : Int32)), .val (.int (1 : Int32)), .val (.ref bb29), .val .null, .val (.ref b32), .unset, .unset] [(.int ((p2 &&& (2147483647 : Int32)) % (1 : Int32)))]) _
        obtain ⟨ix, qix⟩ : ∃ z : Int32, z = ((p2 &&& (2147483647 : Int32)) % (1 : Int32)) := ⟨_, rfl⟩
        rw [← qix]
        show Go p e below T39 (mkF m 100 #[.val (.int p0), .val (.int p1), .val (.int p2), .val (.int p3), .val (.int p4), .val (.int (1 : Int32)), .val (.int (0 : Int32)), .val (.int (1 : Int32)), .val (.ref bb29), .val .null, .val (.ref b32), .unset, .unset] [(.int ix)]) _
        have hin : ¬ (ix < 0) ∧ (ix).toNatClampNeg < 1 := by rw [qix]; exact own_in p2 (1 : Int32) 1 (by decide) (by decide)
        have hin4 : ¬ (ix < 0) ∧ (ix).toNatClampNeg < 4 := ⟨hin.1, by omega⟩
        refine Go.of (fun tg_ kk_ => XS.istore X39.here hx rfl (hb hby at_100) rfl (l' := #[.val (.int p0), .val (.int p1), .val (.int p2), .val (.int p3), .val (.int p4), .val (.int (1 : Int32)), .val (.int (0 : Int32)), .val (.int (1 : Int32)), .val (.ref bb29), .val .null, .val (.ref b32), .val (.int ix), .unset]) rfl kk_) ?_
        show Go p e below T39 (mkF m 102 #[.val (.int p0), .val (.int p1), .val (.int p2), .val (.int p3), .val (.int p4), .val (.int (1 : Int32)), .val (.int (0 : Int32)), .val (.int (1 : Int32)), .val (.ref bb29), .val .null, .val (.ref b32), .val (.int ix), .unset] []) _
        refine Go.of (fun tg_ kk_ => XS.iloadN X39.here hx rfl (hb hby at_102) rfl kk_) ?_
        show Go p e below T39 (mkF m 103 #[.val (.int p0), .val (.int p1), .val (.int p2), .val (.int p3), .val (.int p4), .val (.int (1 : Int32)), .val (.int (0 : Int32)), .val (.int (1 : Int32)), .val (.ref bb29), .val .null, .val (.ref b32), .val (.int ix), .unset] [(.int p0)]) _
        refine Go.of (fun tg_ kk_ => XS.iload X39.here hx rfl (hb hby at_103) rfl kk_) ?_
        show Go p e below T39 (mkF m 105 #[.val (.int p0), .val (.int p1), .val (.int p2), .val (.int p3), .val (.int p4), .val (.int (1 : Int32)), .val (.int (0 : Int32)), .val (.int (1 : Int32)), .val (.ref bb29), .val .null, .val (.ref b32), .val (.int ix), .unset] [(.int ix), (.int p0)]) _
        refine Go.of (fun tg_ kk_ => XS.iushr X39.here hx rfl (hb hby at_105) rfl kk_) ?_
        show Go p e below T39 (mkF m 106 #[.val (.int p0), .val (.int p1), .val (.int p2), .val (.int p3), .val (.int p4), .val (.int (1 : Int32)), .val (.int (0 : Int32)), .val (.int (1 : Int32)), .val (.ref bb29), .val .null, .val (.ref b32), .val (.int ix), .unset] [(.int ((p0.toUInt32 >>> (ix &&& 31).toUInt32).toInt32))]) _
        refine Go.of (fun tg_ kk_ => XS.iconst X39.here hx rfl (hb hby at_106) kk_) ?_
        show Go p e below T39 (mkF m 107 #[.val (.int p0), .val (.int p1), .val (.int p2), .val (.int p3), .val (.int p4), .val (.int (1 : Int32)), .val (.int (0 : Int32)), .val (.int (1 : Int32)), .val (.ref bb29), .val .null, .val (.ref b32), .val (.int ix), .unset] [(.int (1 : Int32)), (.int ((p0.toUInt32 >>> (ix &&& 31).toUInt32).toInt32))]) _
        refine Go.of (fun tg_ kk_ => XS.iand X39.here hx rfl (hb hby at_107) rfl kk_) ?_
        show Go p e below T39 (mkF m 108 #[.val (.int p0), .val (.int p1), .val (.int p2), .val (.int p3), .val (.int p4), .val (.int (1 : Int32)), .val (.int (0 : Int32)), .val (.int (1 : Int32)), .val (.ref bb29), .val .null, .val (.ref b32), .val (.int ix), .unset] [(.int (((p0.toUInt32 >>> (ix &&& 31).toUInt32).toInt32) &&& (1 : Int32)))]) _
        have st46 : ∀ ex : Int32, ex = (if (((p0.toUInt32 >>> (ix &&& 31).toUInt32).toInt32) &&& (1 : Int32)) = (0 : Int32) then (0 : Int32) else (1 : Int32)) → ∀ t, Steps p.tables e below (T39.setTop (mkF m 116 #[.val (.int p0), .val (.int p1), .val (.int p2), .val (.int p3), .val (.int p4), .val (.int (1 : Int32)), .val (.int (0 : Int32)), .val (.int (1 : Int32)), .val (.ref bb29), .val .null, .val (.ref b32), .val (.int ix), .unset] [(.int ex)])) t → Steps p.tables e below (T39.setTop (mkF m 108 #[.val (.int p0), .val (.int p1), .val (.int p2), .val (.int p3), .val (.int p4), .val (.int (1 : Int32)), .val (.int (0 : Int32)), .val (.int (1 : Int32)), .val (.ref bb29), .val .null, .val (.ref b32), .val (.int ix), .unset] [(.int (((p0.toUInt32 >>> (ix &&& 31).toUInt32).toInt32) &&& (1 : Int32)))])) t := by
          intro ex qex tg_ kk_
          by_cases hc : (((p0.toUInt32 >>> (ix &&& 31).toUInt32).toInt32) &&& (1 : Int32)) = (0 : Int32)
          · rw [if_pos hc] at qex; rw [qex] at kk_
            show Steps p.tables e below (T39.setTop (mkF m 108 #[.val (.int p0), .val (.int p1), .val (.int p2), .val (.int p3), .val (.int p4), .val (.int (1 : Int32)), .val (.int (0 : Int32)), .val (.int (1 : Int32)), .val (.ref bb29), .val .null, .val (.ref b32), .val (.int ix), .unset] [(.int (((p0.toUInt32 >>> (ix &&& 31).toUInt32).toInt32) &&& (1 : Int32)))])) _
            refine XS.ifYes X39.here hx rfl (pc0 := 108) (pc' := 115) rfl (hb hby at_108) rfl ((if0 _ _).trans (teq hc).1) (by decide) (by decide) ?_
            show Steps p.tables e below (T39.setTop (mkF m 115 #[.val (.int p0), .val (.int p1), .val (.int p2), .val (.int p3), .val (.int p4), .val (.int (1 : Int32)), .val (.int (0 : Int32)), .val (.int (1 : Int32)), .val (.ref bb29), .val .null, .val (.ref b32), .val (.int ix), .unset] [])) _
            refine XS.iconst X39.here hx rfl (hb hby at_115) ?_
            show Steps p.tables e below (T39.setTop (mkF m 116 #[.val (.int p0), .val (.int p1), .val (.int p2), .val (.int p3), .val (.int p4), .val (.int (1 : Int32)), .val (.int (0 : Int32)), .val (.int (1 : Int32)), .val (.ref bb29), .val .null, .val (.ref b32), .val (.int ix), .unset] [(.int (0 : Int32))])) _
            exact kk_
          · rw [if_neg hc] at qex; rw [qex] at kk_
            show Steps p.tables e below (T39.setTop (mkF m 108 #[.val (.int p0), .val (.int p1), .val (.int p2), .val (.int p3), .val (.int p4), .val (.int (1 : Int32)), .val (.int (0 : Int32)), .val (.int (1 : Int32)), .val (.ref bb29), .val .null, .val (.ref b32), .val (.int ix), .unset] [(.int (((p0.toUInt32 >>> (ix &&& 31).toUInt32).toInt32) &&& (1 : Int32)))])) _
            refine XS.ifNo X39.here hx rfl (hb hby at_108) rfl ((if0 _ _).trans (feq hc).1) ?_
            show Steps p.tables e below (T39.setTop (mkF m 111 #[.val (.int p0), .val (.int p1), .val (.int p2), .val (.int p3), .val (.int p4), .val (.int (1 : Int32)), .val (.int (0 : Int32)), .val (.int (1 : Int32)), .val (.ref bb29), .val .null, .val (.ref b32), .val (.int ix), .unset] [])) _
            refine XS.iconst X39.here hx rfl (hb hby at_111) ?_
            show Steps p.tables e below (T39.setTop (mkF m 112 #[.val (.int p0), .val (.int p1), .val (.int p2), .val (.int p3), .val (.int p4), .val (.int (1 : Int32)), .val (.int (0 : Int32)), .val (.int (1 : Int32)), .val (.ref bb29), .val .null, .val (.ref b32), .val (.int ix), .unset] [(.int (1 : Int32))])) _
            refine XS.goto X39.here hx rfl (pc0 := 112) (pc' := 116) rfl (hb hby at_112) (by decide) (by decide) ?_
            show Steps p.tables e below (T39.setTop (mkF m 116 #[.val (.int p0), .val (.int p1), .val (.int p2), .val (.int p3), .val (.int p4), .val (.int (1 : Int32)), .val (.int (0 : Int32)), .val (.int (1 : Int32)), .val (.ref bb29), .val .null, .val (.ref b32), .val (.int ix), .unset] [(.int (1 : Int32))])) _
            exact kk_
        obtain ⟨ex, qex⟩ : ∃ z : Int32, z = (if (((p0.toUInt32 >>> (ix &&& 31).toUInt32).toInt32) &&& (1 : Int32)) = (0 : Int32) then (0 : Int32) else (1 : Int32)) := ⟨_, rfl⟩
        refine Go.of (st46 ex qex) ?_
        show Go p e below T39 (mkF m 116 #[.val (.int p0), .val (.int p1), .val (.int p2), .val (.int p3), .val (.int p4), .val (.int (1 : Int32)), .val (.int (0 : Int32)), .val (.int (1 : Int32)), .val (.ref bb29), .val .null, .val (.ref b32), .val (.int ix), .unset] [(.int ex)]) _
        refine Go.of (fun tg_ kk_ => XS.istore X39.here hx rfl (hb hby at_116) rfl (l' := #[.val (.int p0), .val (.int p1), .val (.int p2), .val (.int p3), .val (.int p4), .val (.int (1 : Int32)), .val (.int (0 : Int32)), .val (.int (1 : Int32)), .val (.ref bb29), .val .null, .val (.ref b32), .val (.int ix), .val (.int ex)]) rfl kk_) ?_
        show Go p e below T39 (mkF m 118 #[.val (.int p0), .val (.int p1), .val (.int p2), .val (.int p3), .val (.int p4), .val (.int (1 : Int32)), .val (.int (0 : Int32)), .val (.int (1 : Int32)), .val (.ref bb29), .val .null, .val (.ref b32), .val (.int ix), .val (.int ex)] []) _
        refine Go.of (fun tg_ kk_ => XS.aload X39.here hx rfl (hb hby at_118) rfl rfl kk_) ?_
        show Go p e below T39 (mkF m 120 #[.val (.int p0), .val (.int p1), .val (.int p2), .val (.int p3), .val (.int p4), .val (.int (1 : Int32)), .val (.int (0 : Int32)), .val (.int (1 : Int32)), .val (.ref bb29), .val .null, .val (.ref b32), .val (.int ix), .val (.int ex)] [(.ref b32)]) _
        refine Go.of (fun tg_ kk_ => XS.iload X39.here hx rfl (hb hby at_120) rfl kk_) ?_
        show Go p e below T39 (mkF m 122 #[.val (.int p0), .val (.int p1), .val (.int p2), .val (.int p3), .val (.int p4), .val (.int (1 : Int32)), .val (.int (0 : Int32)), .val (.int (1 : Int32)), .val (.ref bb29), .val .null, .val (.ref b32), .val (.int ix), .val (.int ex)] [(.int ix), (.ref b32)]) _
        obtain ⟨cq47, kq47, q47a, q47b, q47c⟩ := isOf hZ rfl F41
        obtain ⟨_, _, ⟨T47, L47, k47, n47⟩, -, X47, ⟨Lc47, hQ47, l47, y47, z47⟩, st47⟩ := X39.virtualBack hx (y := (⟨"com/example/planwright/planwright/planner/SharedAtoms$Among", "weighs", "(I)Z"⟩ : MethodName)) (z := (⟨"com/example/planwright/planwright/planner/SharedAtoms$Among", "weighs", "(I)Z"⟩ : MethodName)) hown (mvT hZ (hw _ (List.mem_of_getElem? (i := 23) rfl))) (mvT hZ (hw _ (List.mem_of_getElem? (i := 24) rfl))) (notFace_of_selects (args := #[]) (mvT hZ (hw _ (List.mem_of_getElem? (i := 26) rfl)))) (mvT hZ (hw _ (List.mem_of_getElem? (i := 26) rfl))) (mvT hZ (hw _ (List.mem_of_getElem? (i := 25) rfl))) (by decide) (backOf (W := 0) (rm5 l Z a0 hw [] b32 ix bb29 (bitsF p0) 1 T39.heap n0 Zs45 F39a F40 hin) hZ (hw _ (List.mem_of_getElem? (i := 27) rfl)) (hw _ (List.mem_of_getElem? (i := 7) rfl)) (by decide) (by decide)) q47a q47c (g := (mkF m 122 #[.val (.int p0), .val (.int p1), .val (.int p2), .val (.int p3), .val (.int p4), .val (.int (1 : Int32)), .val (.int (0 : Int32)), .val (.int (1 : Int32)), .val (.ref bb29), .val .null, .val (.ref b32), .val (.int ix), .val (.int ex)] [(.int ix), (.ref b32)])) rfl (by rw [hml]; rfl) (Steps.refl _) (argsL := [(.int ix)]) (rest := []) (lenOf pd_3 rfl) rfl (by show 2 * 0 + _ ≤ _; exact Nat.le_of_eq rfl) (hb hby at_122) (fun _ _ => ⟨rfl, rfl, (by decide : 2 + 0 ≤ _), (by decide : 3 + 0 ≤ _)⟩)
        dsimp only [Pt.U, Pt.locs, Pt.cells, Pt.slots] at X47 l47 y47 z47 st47 hQ47
        subst l47 y47 z47
        obtain ⟨rfl, N47q, e47⟩ := hQ47
        have N47 := Fr.app N39 N47q
        refine Go.of (fun tg_ kk_ => st47.trans kk_) ?_
        show Go p e below T47 (mkF m 125 #[.val (.int p0), .val (.int p1), .val (.int p2), .val (.int p3), .val (.int p4), .val (.int (1 : Int32)), .val (.int (0 : Int32)), .val (.int (1 : Int32)), .val (.ref bb29), .val .null, .val (.ref b32), .val (.int ix), .val (.int ex)] [(.int (if bitsF p0 (ix).toNatClampNeg = 0 then (0 : Int32) else (1 : Int32)))]) _
        refine Go.of (fun tg_ kk_ => XS.iload X47.here hx rfl (hb hby at_125) rfl kk_) ?_
        show Go p e below T47 (mkF m 127 #[.val (.int p0), .val (.int p1), .val (.int p2), .val (.int p3), .val (.int p4), .val (.int (1 : Int32)), .val (.int (0 : Int32)), .val (.int (1 : Int32)), .val (.ref bb29), .val .null, .val (.ref b32), .val (.int ix), .val (.int ex)] [(.int ex), (.int (if bitsF p0 (ix).toNatClampNeg = 0 then (0 : Int32) else (1 : Int32)))]) _
        refine Go.of (fun tg_ kk_ => XS.icmpNo X47.here hx rfl (hb hby at_127) rfl (teq (show (if bitsF p0 (ix).toNatClampNeg = 0 then (0 : Int32) else (1 : Int32)) = ex from (by rw [qex]; exact own_weighs p0 ix hin4))).2 kk_) ?_
        show Go p e below T47 (mkF m 130 #[.val (.int p0), .val (.int p1), .val (.int p2), .val (.int p3), .val (.int p4), .val (.int (1 : Int32)), .val (.int (0 : Int32)), .val (.int (1 : Int32)), .val (.ref bb29), .val .null, .val (.ref b32), .val (.int ix), .val (.int ex)] []) _
        refine Go.of (fun tg_ kk_ => XS.iconst X47.here hx rfl (hb hby at_130) kk_) ?_
        show Go p e below T47 (mkF m 131 #[.val (.int p0), .val (.int p1), .val (.int p2), .val (.int p3), .val (.int p4), .val (.int (1 : Int32)), .val (.int (0 : Int32)), .val (.int (1 : Int32)), .val (.ref bb29), .val .null, .val (.ref b32), .val (.int ix), .val (.int ex)] [(.int (1 : Int32))]) _
        refine Go.of (fun tg_ kk_ => XS.goto X47.here hx rfl (pc0 := 131) (pc' := 135) rfl (hb hby at_131) (by decide) (by decide) kk_) ?_
        show Go p e below T47 (mkF m 135 #[.val (.int p0), .val (.int p1), .val (.int p2), .val (.int p3), .val (.int p4), .val (.int (1 : Int32)), .val (.int (0 : Int32)), .val (.int (1 : Int32)), .val (.ref bb29), .val .null, .val (.ref b32), .val (.int ix), .val (.int ex)] [(.int (1 : Int32))]) _
        obtain ⟨fs, hr, hrun, hended, hW, hsame⟩ := X47.leave (v := some (.int (1 : Int32))) (fun h => by rw [Bd.returns] at h; cases h)
        refine ⟨_, _, ?_, hrun, hended, _, _, rfl, ?_, ⟨_, rfl⟩, hW, hsame.mono (by decide) (by decide)⟩
        · exact retN X47 hx (t := .boolean) Bd.returns (by simp) (hb hby at_135) hr
        · show Q0 Z p0 p1 p2 p3 p4 h0 n0 _ T47.heap _
          rw [e47]
          exact ⟨rfl, N47⟩
    · skip
      refine Go.of (fun tg_ kk_ => XS.ifNo X0.here hx rfl (hb hby at_10) rfl ((if0 _ _).trans (feq hw0).1) kk_) ?_
      show Go p e below s₁ (mkF m 13 #[.val (.int p0), .val (.int p1), .val (.int p2), .val (.int p3), .val (.int p4), .val (.int (1 : Int32)), .unset, .unset, .unset, .unset, .unset, .unset, .unset] []) _
      refine Go.of (fun tg_ kk_ => XS.iconst X0.here hx rfl (hb hby at_13) kk_) ?_
      show Go p e below s₁ (mkF m 14 #[.val (.int p0), .val (.int p1), .val (.int p2), .val (.int p3), .val (.int p4), .val (.int (1 : Int32)), .unset, .unset, .unset, .unset, .unset, .unset, .unset] [(.int (1 : Int32))]) _
      refine Go.of (fun tg_ kk_ => XS.goto X0.here hx rfl (pc0 := 14) (pc' := 18) rfl (hb hby at_14) (by decide) (by decide) kk_) ?_
      show Go p e below s₁ (mkF m 18 #[.val (.int p0), .val (.int p1), .val (.int p2), .val (.int p3), .val (.int p4), .val (.int (1 : Int32)), .unset, .unset, .unset, .unset, .unset, .unset, .unset] [(.int (1 : Int32))]) _
      refine Go.of (fun tg_ kk_ => XS.istore X0.here hx rfl (hb hby at_18) rfl (l' := #[.val (.int p0), .val (.int p1), .val (.int p2), .val (.int p3), .val (.int p4), .val (.int (1 : Int32)), .val (.int (1 : Int32)), .unset, .unset, .unset, .unset, .unset, .unset]) rfl kk_) ?_
      show Go p e below s₁ (mkF m 20 #[.val (.int p0), .val (.int p1), .val (.int p2), .val (.int p3), .val (.int p4), .val (.int (1 : Int32)), .val (.int (1 : Int32)), .unset, .unset, .unset, .unset, .unset, .unset] []) _
      refine Go.of (fun tg_ kk_ => XS.iloadN X0.here hx rfl (hb hby at_20) rfl kk_) ?_
      show Go p e below s₁ (mkF m 21 #[.val (.int p0), .val (.int p1), .val (.int p2), .val (.int p3), .val (.int p4), .val (.int (1 : Int32)), .val (.int (1 : Int32)), .unset, .unset, .unset, .unset, .unset, .unset] [(.int p3)]) _
      refine Go.of (fun tg_ kk_ => XS.iconst X0.here hx rfl (hb hby at_21) kk_) ?_
      show Go p e below s₁ (mkF m 22 #[.val (.int p0), .val (.int p1), .val (.int p2), .val (.int p3), .val (.int p4), .val (.int (1 : Int32)), .val (.int (1 : Int32)), .unset, .unset, .unset, .unset, .unset, .unset] [(.int (2 : Int32)), (.int p3)]) _
      refine Go.of (fun tg_ kk_ => XS.iand X0.here hx rfl (hb hby at_22) rfl kk_) ?_
      show Go p e below s₁ (mkF m 23 #[.val (.int p0), .val (.int p1), .val (.int p2), .val (.int p3), .val (.int p4), .val (.int (1 : Int32)), .val (.int (1 : Int32)), .unset, .unset, .unset, .unset, .unset, .unset] [(.int (p3 &&& (2 : Int32)))]) _
      by_cases he0 : (p3 &&& (2 : Int32)) = (0 : Int32)
      · skip
        refine Go.of (fun tg_ kk_ => XS.ifYes X0.here hx rfl (pc0 := 23) (pc' := 30) rfl (hb hby at_23) rfl ((if0 _ _).trans (teq he0).1) (by decide) (by decide) kk_) ?_
        show Go p e below s₁ (mkF m 30 #[.val (.int p0), .val (.int p1), .val (.int p2), .val (.int p3), .val (.int p4), .val (.int (1 : Int32)), .val (.int (1 : Int32)), .unset, .unset, .unset, .unset, .unset, .unset] []) _
        refine Go.of (fun tg_ kk_ => XS.iconst X0.here hx rfl (hb hby at_30) kk_) ?_
        show Go p e below s₁ (mkF m 31 #[.val (.int p0), .val (.int p1), .val (.int p2), .val (.int p3), .val (.int p4), .val (.int (1 : Int32)), .val (.int (1 : Int32)), .unset, .unset, .unset, .unset, .unset, .unset] [(.int (0 : Int32))]) _
        refine Go.of (fun tg_ kk_ => XS.istore X0.here hx rfl (hb hby at_31) rfl (l' := #[.val (.int p0), .val (.int p1), .val (.int p2), .val (.int p3), .val (.int p4), .val (.int (1 : Int32)), .val (.int (1 : Int32)), .val (.int (0 : Int32)), .unset, .unset, .unset, .unset, .unset]) rfl kk_) ?_
        show Go p e below s₁ (mkF m 33 #[.val (.int p0), .val (.int p1), .val (.int p2), .val (.int p3), .val (.int p4), .val (.int (1 : Int32)), .val (.int (1 : Int32)), .val (.int (0 : Int32)), .unset, .unset, .unset, .unset, .unset] []) _
        refine Go.of (fun tg_ kk_ => XS.iload X0.here hx rfl (hb hby at_33) rfl kk_) ?_
        show Go p e below s₁ (mkF m 35 #[.val (.int p0), .val (.int p1), .val (.int p2), .val (.int p3), .val (.int p4), .val (.int (1 : Int32)), .val (.int (1 : Int32)), .val (.int (0 : Int32)), .unset, .unset, .unset, .unset, .unset] [(.int (1 : Int32))]) _
        refine Go.of (fun tg_ kk_ => XS.ifNo X0.here hx rfl (hb hby at_35) rfl ((if0 _ _).trans (feq (show ¬ ((1 : Int32) = (0 : Int32)) by decide)).1) kk_) ?_
        show Go p e below s₁ (mkF m 38 #[.val (.int p0), .val (.int p1), .val (.int p2), .val (.int p3), .val (.int p4), .val (.int (1 : Int32)), .val (.int (1 : Int32)), .val (.int (0 : Int32)), .unset, .unset, .unset, .unset, .unset] []) _
        refine Go.of (fun tg_ kk_ => XS.aconstNull X0.here hx rfl (hb hby at_38) kk_) ?_
        show Go p e below s₁ (mkF m 39 #[.val (.int p0), .val (.int p1), .val (.int p2), .val (.int p3), .val (.int p4), .val (.int (1 : Int32)), .val (.int (1 : Int32)), .val (.int (0 : Int32)), .unset, .unset, .unset, .unset, .unset] [.null]) _
        refine Go.of (fun tg_ kk_ => XS.goto X0.here hx rfl (pc0 := 39) (pc' := 48) rfl (hb hby at_39) (by decide) (by decide) kk_) ?_
        show Go p e below s₁ (mkF m 48 #[.val (.int p0), .val (.int p1), .val (.int p2), .val (.int p3), .val (.int p4), .val (.int (1 : Int32)), .val (.int (1 : Int32)), .val (.int (0 : Int32)), .unset, .unset, .unset, .unset, .unset] [.null]) _
        refine Go.of (fun tg_ kk_ => XS.astore X0.here hx rfl (hb hby at_48) rfl rfl (l' := #[.val (.int p0), .val (.int p1), .val (.int p2), .val (.int p3), .val (.int p4), .val (.int (1 : Int32)), .val (.int (1 : Int32)), .val (.int (0 : Int32)), .val .null, .unset, .unset, .unset, .unset]) rfl kk_) ?_
        show Go p e below s₁ (mkF m 50 #[.val (.int p0), .val (.int p1), .val (.int p2), .val (.int p3), .val (.int p4), .val (.int (1 : Int32)), .val (.int (1 : Int32)), .val (.int (0 : Int32)), .val .null, .unset, .unset, .unset, .unset] []) _
        refine Go.of (fun tg_ kk_ => XS.iload X0.here hx rfl (hb hby at_50) rfl kk_) ?_
        show Go p e below s₁ (mkF m 52 #[.val (.int p0), .val (.int p1), .val (.int p2), .val (.int p3), .val (.int p4), .val (.int (1 : Int32)), .val (.int (1 : Int32)), .val (.int (0 : Int32)), .val .null, .unset, .unset, .unset, .unset] [(.int (0 : Int32))]) _
        refine Go.of (fun tg_ kk_ => XS.ifYes X0.here hx rfl (pc0 := 52) (pc' := 59) rfl (hb hby at_52) rfl ((if0 _ _).trans (teq (show (0 : Int32) = (0 : Int32) by decide)).1) (by decide) (by decide) kk_) ?_
        show Go p e below s₁ (mkF m 59 #[.val (.int p0), .val (.int p1), .val (.int p2), .val (.int p3), .val (.int p4), .val (.int (1 : Int32)), .val (.int (1 : Int32)), .val (.int (0 : Int32)), .val .null, .unset, .unset, .unset, .unset] []) _
        refine Go.of (fun tg_ kk_ => XS.iload X0.here hx rfl (hb hby at_59) rfl kk_) ?_
        show Go p e below s₁ (mkF m 61 #[.val (.int p0), .val (.int p1), .val (.int p2), .val (.int p3), .val (.int p4), .val (.int (1 : Int32)), .val (.int (1 : Int32)), .val (.int (0 : Int32)), .val .null, .unset, .unset, .unset, .unset] [(.int (1 : Int32))]) _
        refine Go.of (fun tg_ kk_ => XS.iload X0.here hx rfl (hb hby at_61) rfl kk_) ?_
        show Go p e below s₁ (mkF m 63 #[.val (.int p0), .val (.int p1), .val (.int p2), .val (.int p3), .val (.int p4), .val (.int (1 : Int32)), .val (.int (1 : Int32)), .val (.int (0 : Int32)), .val .null, .unset, .unset, .unset, .unset] [(.int p4), (.int (1 : Int32))]) _
        obtain ⟨_, _, ⟨T48, L48, k48, n48⟩, -, X48, ⟨Lc48, hQ48, l48, y48, z48⟩, st48⟩ := Jvm.LawKit.callS X0 hx (y := (⟨"com/example/planwright/planwright/planner/AmongWeighsPinLaw", "fill", "(II)[Z"⟩ : MethodName)) hown (mvT hZ (hw _ (List.mem_of_getElem? (i := 0) rfl))) (mvT hZ (hw _ (List.mem_of_getElem? (i := 1) rfl))) (mvT hZ (hw _ (List.mem_of_getElem? (i := 2) rfl))) (mvT hZ (hw _ (List.mem_of_getElem? (i := 3) rfl))) (by decide) (backOf (W := 0) (rm1_1 l Z a0 hw [] p4 h0 n0 Z0) hZ (hw _ (List.mem_of_getElem? (i := 3) rfl)) (hw _ (List.mem_of_getElem? (i := 2) rfl)) (by decide) (by decide)) (g := (mkF m 63 #[.val (.int p0), .val (.int p1), .val (.int p2), .val (.int p3), .val (.int p4), .val (.int (1 : Int32)), .val (.int (1 : Int32)), .val (.int (0 : Int32)), .val .null, .unset, .unset, .unset, .unset] [(.int p4), (.int (1 : Int32))])) rfl (by rw [hml]; rfl) (argsL := [(.int (1 : Int32)), (.int p4)]) (rest := []) (lenOf pd_1 rfl) rfl (by show 2 * 0 + _ ≤ _; exact Nat.le_of_eq rfl) (hb hby at_63) (fun _ _ => ⟨rfl, e0, (by decide : 0 + 1 ≤ _), (by decide : 0 + 1 ≤ _)⟩)
        dsimp only [Pt.U, Pt.locs, Pt.cells, Pt.slots] at X48 l48 y48 z48 st48 hQ48
        subst l48 y48 z48
        obtain ⟨bb48, rfl, N48q, K48q, sz48, gx48, V48⟩ := hQ48
        have N48 := Fr.app N0 N48q
        have sy48 : h0.size ≤ bb48 := Nat.le_trans K0.1 sz48
        have K49 := K0.trans K48q all0
        have Zs50 : n0 ≤ T48.heap.size := Nat.le_trans Z0 K48q.1
        refine Go.of (st48) ?_
        show Go p e below T48 (mkF m 66 #[.val (.int p0), .val (.int p1), .val (.int p2), .val (.int p3), .val (.int p4), .val (.int (1 : Int32)), .val (.int (1 : Int32)), .val (.int (0 : Int32)), .val .null, .unset, .unset, .unset, .unset] [(.ref bb48)]) _
        refine Go.of (fun tg_ kk_ => XS.astore X48.here hx rfl (hb hby at_66) rfl rfl (l' := #[.val (.int p0), .val (.int p1), .val (.int p2), .val (.int p3), .val (.int p4), .val (.int (1 : Int32)), .val (.int (1 : Int32)), .val (.int (0 : Int32)), .val .null, .val (.ref bb48), .unset, .unset, .unset]) rfl kk_) ?_
        show Go p e below T48 (mkF m 68 #[.val (.int p0), .val (.int p1), .val (.int p2), .val (.int p3), .val (.int p4), .val (.int (1 : Int32)), .val (.int (1 : Int32)), .val (.int (0 : Int32)), .val .null, .val (.ref bb48), .unset, .unset, .unset] []) _
        obtain ⟨T51, h51, X51, e51, E51, A51, D51, -, st51⟩ := newO X48 hx hZ hown (hw _ (List.mem_of_getElem? (i := 5) rfl)) (hw _ (List.mem_of_getElem? (i := 6) rfl)) (hw _ (List.mem_of_getElem? (i := 7) rfl)) rfl (g := (mkF m 68 #[.val (.int p0), .val (.int p1), .val (.int p2), .val (.int p3), .val (.int p4), .val (.int (1 : Int32)), .val (.int (1 : Int32)), .val (.int (0 : Int32)), .val .null, .val (.ref bb48), .unset, .unset, .unset] [])) rfl (hb hby at_68) (by decide) (by decide)
        obtain ⟨b51, g51⟩ : ∃ z, z = T48.heap.size := ⟨_, rfl⟩
        rw [← g51] at A51 D51 st51
        have gx51 : n0 ≤ b51 := Nat.le_trans Zs50 (Nat.le_of_eq g51.symm)
        have sz51 : h0.size ≤ b51 := Nat.le_trans K49.1 (Nat.le_of_eq g51.symm)
        have ne52 : bb48 ≠ b51 := Nat.ne_of_lt (Nat.lt_of_lt_of_le V48.lt (Nat.le_of_eq g51.symm))
        have F53 := V48.ext E51
        have K54 := K49.ext E51
        have Zs55 : n0 ≤ h51.size := Nat.le_trans Zs50 E51.1
        have F56 : Fld Z h51 b51 "com/example/planwright/planwright/planner/SharedAtoms$Among" "weighed" "[Z" .null := D51 (Or.inr (hw _ (List.mem_of_getElem? (i := 20) rfl))) (ty := (.array .boolean)) (by decide)
        have F57 : Fld Z h51 b51 "com/example/planwright/planwright/planner/SharedAtoms$Among" "elsewhere" "[Z" .null := D51 (Or.inr (hw _ (List.mem_of_getElem? (i := 22) rfl))) (ty := (.array .boolean)) (by decide)
        refine Go.of (st51) ?_
        show Go p e below T51 (mkF m 71 #[.val (.int p0), .val (.int p1), .val (.int p2), .val (.int p3), .val (.int p4), .val (.int (1 : Int32)), .val (.int (1 : Int32)), .val (.int (0 : Int32)), .val .null, .val (.ref bb48), .unset, .unset, .unset] [(.ref b51)]) _
        refine Go.of (fun tg_ kk_ => XS.dup X51.here hx rfl (hb hby at_71) rfl rfl kk_) ?_
        show Go p e below T51 (mkF m 72 #[.val (.int p0), .val (.int p1), .val (.int p2), .val (.int p3), .val (.int p4), .val (.int (1 : Int32)), .val (.int (1 : Int32)), .val (.int (0 : Int32)), .val .null, .val (.ref bb48), .unset, .unset, .unset] [(.ref b51), (.ref b51)]) _
        refine Go.of (fun tg_ kk_ => XS.aload X51.here hx rfl (hb hby at_72) rfl rfl kk_) ?_
        show Go p e below T51 (mkF m 74 #[.val (.int p0), .val (.int p1), .val (.int p2), .val (.int p3), .val (.int p4), .val (.int (1 : Int32)), .val (.int (1 : Int32)), .val (.int (0 : Int32)), .val .null, .val (.ref bb48), .unset, .unset, .unset] [.null, (.ref b51), (.ref b51)]) _
        refine Go.of (fun tg_ kk_ => XS.aload X51.here hx rfl (hb hby at_74) rfl rfl kk_) ?_
        show Go p e below T51 (mkF m 76 #[.val (.int p0), .val (.int p1), .val (.int p2), .val (.int p3), .val (.int p4), .val (.int (1 : Int32)), .val (.int (1 : Int32)), .val (.int (0 : Int32)), .val .null, .val (.ref bb48), .unset, .unset, .unset] [(.ref bb48), .null, (.ref b51), (.ref b51)]) _
        obtain ⟨_, _, ⟨T58, L58, k58, n58⟩, -, X58, ⟨Lc58, hQ58, l58, y58, z58⟩, st58⟩ := X51.specialBack hx (y := (⟨"com/example/planwright/planwright/planner/SharedAtoms$Among", "<init>", "([Z[Z)V"⟩ : MethodName)) rfl hown (mvT hZ (hw _ (List.mem_of_getElem? (i := 8) rfl))) (mvT hZ (hw _ (List.mem_of_getElem? (i := 9) rfl))) (mvT hZ (hw _ (List.mem_of_getElem? (i := 10) rfl))) (by decide) (backOf (W := 1) (rm2_10 l Z a0 hw [] b51 bb48 h51 n0 Zs55 gx51 A51 F56 F57) hZ (hw _ (List.mem_of_getElem? (i := 10) rfl)) (hw _ (List.mem_of_getElem? (i := 7) rfl)) (by decide) (by decide)) (g := (mkF m 76 #[.val (.int p0), .val (.int p1), .val (.int p2), .val (.int p3), .val (.int p4), .val (.int (1 : Int32)), .val (.int (1 : Int32)), .val (.int (0 : Int32)), .val .null, .val (.ref bb48), .unset, .unset, .unset] [(.ref bb48), .null, (.ref b51), (.ref b51)])) rfl (by rw [hml]; rfl) (Steps.refl _) (a := b51) (argsL := [.null, (.ref bb48)]) (rest := [(.ref b51)]) (lenOf pd_2 rfl) rfl (by show 2 * 0 + _ ≤ _; exact Nat.le_of_eq rfl) (hb hby at_76) (fun _ _ => ⟨rfl, e51, (by decide : 2 + 0 ≤ _), (by decide : 3 + 0 ≤ _)⟩)
        dsimp only [Pt.U, Pt.locs, Pt.cells, Pt.slots] at X58 l58 y58 z58 st58 hQ58
        subst l58 y58 z58
        obtain ⟨rfl, N58q, K58q, F58a⟩ := hQ58
        have N58 := Fr.app N48 N58q
        have F59 := F53.keep K58q (ninS ne52 nin0)
        have F60 := A51.keep K58q
        have K63 := K54.trans K58q (allS (Or.inr sz51) all0)
        have Zs64 : n0 ≤ T58.heap.size := Nat.le_trans Zs55 K58q.1
        refine Go.of (fun tg_ kk_ => st58.trans kk_) ?_
        show Go p e below T58 (mkF m 79 #[.val (.int p0), .val (.int p1), .val (.int p2), .val (.int p3), .val (.int p4), .val (.int (1 : Int32)), .val (.int (1 : Int32)), .val (.int (0 : Int32)), .val .null, .val (.ref bb48), .unset, .unset, .unset] [(.ref b51)]) _
        refine Go.of (fun tg_ kk_ => XS.astore X58.here hx rfl (hb hby at_79) rfl rfl (l' := #[.val (.int p0), .val (.int p1), .val (.int p2), .val (.int p3), .val (.int p4), .val (.int (1 : Int32)), .val (.int (1 : Int32)), .val (.int (0 : Int32)), .val .null, .val (.ref bb48), .val (.ref b51), .unset, .unset]) rfl kk_) ?_
        show Go p e below T58 (mkF m 81 #[.val (.int p0), .val (.int p1), .val (.int p2), .val (.int p3), .val (.int p4), .val (.int (1 : Int32)), .val (.int (1 : Int32)), .val (.int (0 : Int32)), .val .null, .val (.ref bb48), .val (.ref b51), .unset, .unset] []) _
        refine Go.of (fun tg_ kk_ => XS.iload X58.here hx rfl (hb hby at_81) rfl kk_) ?_
        show Go p e below T58 (mkF m 83 #[.val (.int p0), .val (.int p1), .val (.int p2), .val (.int p3), .val (.int p4), .val (.int (1 : Int32)), .val (.int (1 : Int32)), .val (.int (0 : Int32)), .val .null, .val (.ref bb48), .val (.ref b51), .unset, .unset] [(.int (1 : Int32))]) _
        refine Go.of (fun tg_ kk_ => XS.ifNo X58.here hx rfl (hb hby at_83) rfl ((if0 _ _).trans (feq (show ¬ ((1 : Int32) = (0 : Int32)) by decide)).1) kk_) ?_
        show Go p e below T58 (mkF m 86 #[.val (.int p0), .val (.int p1), .val (.int p2), .val (.int p3), .val (.int p4), .val (.int (1 : Int32)), .val (.int (1 : Int32)), .val (.int (0 : Int32)), .val .null, .val (.ref bb48), .val (.ref b51), .unset, .unset] []) _
        refine Go.of (fun tg_ kk_ => XS.aload X58.here hx rfl (hb hby at_86) rfl rfl kk_) ?_
        show Go p e below T58 (mkF m 88 #[.val (.int p0), .val (.int p1), .val (.int p2), .val (.int p3), .val (.int p4), .val (.int (1 : Int32)), .val (.int (1 : Int32)), .val (.int (0 : Int32)), .val .null, .val (.ref bb48), .val (.ref b51), .unset, .unset] [(.ref b51)]) _
        refine Go.of (fun tg_ kk_ => XS.iloadN X58.here hx rfl (hb hby at_88) rfl kk_) ?_
        show Go p e below T58 (mkF m 89 #[.val (.int p0), .val (.int p1), .val (.int p2), .val (.int p3), .val (.int p4), .val (.int (1 : Int32)), .val (.int (1 : Int32)), .val (.int (0 : Int32)), .val .null, .val (.ref bb48), .val (.ref b51), .unset, .unset] [(.int p2), (.ref b51)]) _
        obtain ⟨cq65, kq65, q65a, q65b, q65c⟩ := isOf hZ rfl F60
        obtain ⟨_, _, ⟨T65, L65, k65, n65⟩, -, X65, ⟨Lc65, hQ65, l65, y65, z65⟩, st65⟩ := X58.virtualBack hx (y := (⟨"com/example/planwright/planwright/planner/SharedAtoms$Among", "weighs", "(I)Z"⟩ : MethodName)) (z := (⟨"com/example/planwright/planwright/planner/SharedAtoms$Among", "weighs", "(I)Z"⟩ : MethodName)) hown (mvT hZ (hw _ (List.mem_of_getElem? (i := 23) rfl))) (mvT hZ (hw _ (List.mem_of_getElem? (i := 24) rfl))) (notFace_of_selects (args := #[]) (mvT hZ (hw _ (List.mem_of_getElem? (i := 26) rfl)))) (mvT hZ (hw _ (List.mem_of_getElem? (i := 26) rfl))) (mvT hZ (hw _ (List.mem_of_getElem? (i := 25) rfl))) (by decide) (backOf (W := 0) (rm5n l Z a0 hw [] b51 p2 T58.heap n0 Zs64 F58a) hZ (hw _ (List.mem_of_getElem? (i := 27) rfl)) (hw _ (List.mem_of_getElem? (i := 7) rfl)) (by decide) (by decide)) q65a q65c (g := (mkF m 89 #[.val (.int p0), .val (.int p1), .val (.int p2), .val (.int p3), .val (.int p4), .val (.int (1 : Int32)), .val (.int (1 : Int32)), .val (.int (0 : Int32)), .val .null, .val (.ref bb48), .val (.ref b51), .unset, .unset] [(.int p2), (.ref b51)])) rfl (by rw [hml]; rfl) (Steps.refl _) (argsL := [(.int p2)]) (rest := []) (lenOf pd_3 rfl) rfl (by show 2 * 0 + _ ≤ _; exact Nat.le_of_eq rfl) (hb hby at_89) (fun _ _ => ⟨rfl, rfl, (by decide : 2 + 0 ≤ _), (by decide : 3 + 0 ≤ _)⟩)
        dsimp only [Pt.U, Pt.locs, Pt.cells, Pt.slots] at X65 l65 y65 z65 st65 hQ65
        subst l65 y65 z65
        obtain ⟨rfl, N65q, e65⟩ := hQ65
        have N65 := Fr.app N58 N65q
        refine Go.of (fun tg_ kk_ => st65.trans kk_) ?_
        show Go p e below T65 (mkF m 92 #[.val (.int p0), .val (.int p1), .val (.int p2), .val (.int p3), .val (.int p4), .val (.int (1 : Int32)), .val (.int (1 : Int32)), .val (.int (0 : Int32)), .val .null, .val (.ref bb48), .val (.ref b51), .unset, .unset] [(.int (1 : Int32))]) _
        obtain ⟨fs, hr, hrun, hended, hW, hsame⟩ := X65.leave (v := some (.int (1 : Int32))) (fun h => by rw [Bd.returns] at h; cases h)
        refine ⟨_, _, ?_, hrun, hended, _, _, rfl, ?_, ⟨_, rfl⟩, hW, hsame.mono (by decide) (by decide)⟩
        · exact retN X65 hx (t := .boolean) Bd.returns (by simp) (hb hby at_92) hr
        · show Q0 Z p0 p1 p2 p3 p4 h0 n0 _ T65.heap _
          rw [e65]
          exact ⟨rfl, N65⟩
      · skip
        refine Go.of (fun tg_ kk_ => XS.ifNo X0.here hx rfl (hb hby at_23) rfl ((if0 _ _).trans (feq he0).1) kk_) ?_
        show Go p e below s₁ (mkF m 26 #[.val (.int p0), .val (.int p1), .val (.int p2), .val (.int p3), .val (.int p4), .val (.int (1 : Int32)), .val (.int (1 : Int32)), .unset, .unset, .unset, .unset, .unset, .unset] []) _
        refine Go.of (fun tg_ kk_ => XS.iconst X0.here hx rfl (hb hby at_26) kk_) ?_
        show Go p e below s₁ (mkF m 27 #[.val (.int p0), .val (.int p1), .val (.int p2), .val (.int p3), .val (.int p4), .val (.int (1 : Int32)), .val (.int (1 : Int32)), .unset, .unset, .unset, .unset, .unset, .unset] [(.int (1 : Int32))]) _
        refine Go.of (fun tg_ kk_ => XS.goto X0.here hx rfl (pc0 := 27) (pc' := 31) rfl (hb hby at_27) (by decide) (by decide) kk_) ?_
        show Go p e below s₁ (mkF m 31 #[.val (.int p0), .val (.int p1), .val (.int p2), .val (.int p3), .val (.int p4), .val (.int (1 : Int32)), .val (.int (1 : Int32)), .unset, .unset, .unset, .unset, .unset, .unset] [(.int (1 : Int32))]) _
        refine Go.of (fun tg_ kk_ => XS.istore X0.here hx rfl (hb hby at_31) rfl (l' := #[.val (.int p0), .val (.int p1), .val (.int p2), .val (.int p3), .val (.int p4), .val (.int (1 : Int32)), .val (.int (1 : Int32)), .val (.int (1 : Int32)), .unset, .unset, .unset, .unset, .unset]) rfl kk_) ?_
        show Go p e below s₁ (mkF m 33 #[.val (.int p0), .val (.int p1), .val (.int p2), .val (.int p3), .val (.int p4), .val (.int (1 : Int32)), .val (.int (1 : Int32)), .val (.int (1 : Int32)), .unset, .unset, .unset, .unset, .unset] []) _
        refine Go.of (fun tg_ kk_ => XS.iload X0.here hx rfl (hb hby at_33) rfl kk_) ?_
        show Go p e below s₁ (mkF m 35 #[.val (.int p0), .val (.int p1), .val (.int p2), .val (.int p3), .val (.int p4), .val (.int (1 : Int32)), .val (.int (1 : Int32)), .val (.int (1 : Int32)), .unset, .unset, .unset, .unset, .unset] [(.int (1 : Int32))]) _
        refine Go.of (fun tg_ kk_ => XS.ifNo X0.here hx rfl (hb hby at_35) rfl ((if0 _ _).trans (feq (show ¬ ((1 : Int32) = (0 : Int32)) by decide)).1) kk_) ?_
        show Go p e below s₁ (mkF m 38 #[.val (.int p0), .val (.int p1), .val (.int p2), .val (.int p3), .val (.int p4), .val (.int (1 : Int32)), .val (.int (1 : Int32)), .val (.int (1 : Int32)), .unset, .unset, .unset, .unset, .unset] []) _
        refine Go.of (fun tg_ kk_ => XS.aconstNull X0.here hx rfl (hb hby at_38) kk_) ?_
        show Go p e below s₁ (mkF m 39 #[.val (.int p0), .val (.int p1), .val (.int p2), .val (.int p3), .val (.int p4), .val (.int (1 : Int32)), .val (.int (1 : Int32)), .val (.int (1 : Int32)), .unset, .unset, .unset, .unset, .unset] [.null]) _
        refine Go.of (fun tg_ kk_ => XS.goto X0.here hx rfl (pc0 := 39) (pc' := 48) rfl (hb hby at_39) (by decide) (by decide) kk_) ?_
        show Go p e below s₁ (mkF m 48 #[.val (.int p0), .val (.int p1), .val (.int p2), .val (.int p3), .val (.int p4), .val (.int (1 : Int32)), .val (.int (1 : Int32)), .val (.int (1 : Int32)), .unset, .unset, .unset, .unset, .unset] [.null]) _
        refine Go.of (fun tg_ kk_ => XS.astore X0.here hx rfl (hb hby at_48) rfl rfl (l' := #[.val (.int p0), .val (.int p1), .val (.int p2), .val (.int p3), .val (.int p4), .val (.int (1 : Int32)), .val (.int (1 : Int32)), .val (.int (1 : Int32)), .val .null, .unset, .unset, .unset, .unset]) rfl kk_) ?_
        show Go p e below s₁ (mkF m 50 #[.val (.int p0), .val (.int p1), .val (.int p2), .val (.int p3), .val (.int p4), .val (.int (1 : Int32)), .val (.int (1 : Int32)), .val (.int (1 : Int32)), .val .null, .unset, .unset, .unset, .unset] []) _
        refine Go.of (fun tg_ kk_ => XS.iload X0.here hx rfl (hb hby at_50) rfl kk_) ?_
        show Go p e below s₁ (mkF m 52 #[.val (.int p0), .val (.int p1), .val (.int p2), .val (.int p3), .val (.int p4), .val (.int (1 : Int32)), .val (.int (1 : Int32)), .val (.int (1 : Int32)), .val .null, .unset, .unset, .unset, .unset] [(.int (1 : Int32))]) _
        refine Go.of (fun tg_ kk_ => XS.ifNo X0.here hx rfl (hb hby at_52) rfl ((if0 _ _).trans (feq (show ¬ ((1 : Int32) = (0 : Int32)) by decide)).1) kk_) ?_
        show Go p e below s₁ (mkF m 55 #[.val (.int p0), .val (.int p1), .val (.int p2), .val (.int p3), .val (.int p4), .val (.int (1 : Int32)), .val (.int (1 : Int32)), .val (.int (1 : Int32)), .val .null, .unset, .unset, .unset, .unset] []) _
        refine Go.of (fun tg_ kk_ => XS.aconstNull X0.here hx rfl (hb hby at_55) kk_) ?_
        show Go p e below s₁ (mkF m 56 #[.val (.int p0), .val (.int p1), .val (.int p2), .val (.int p3), .val (.int p4), .val (.int (1 : Int32)), .val (.int (1 : Int32)), .val (.int (1 : Int32)), .val .null, .unset, .unset, .unset, .unset] [.null]) _
        refine Go.of (fun tg_ kk_ => XS.goto X0.here hx rfl (pc0 := 56) (pc' := 66) rfl (hb hby at_56) (by decide) (by decide) kk_) ?_
        show Go p e below s₁ (mkF m 66 #[.val (.int p0), .val (.int p1), .val (.int p2), .val (.int p3), .val (.int p4), .val (.int (1 : Int32)), .val (.int (1 : Int32)), .val (.int (1 : Int32)), .val .null, .unset, .unset, .unset, .unset] [.null]) _
        refine Go.of (fun tg_ kk_ => XS.astore X0.here hx rfl (hb hby at_66) rfl rfl (l' := #[.val (.int p0), .val (.int p1), .val (.int p2), .val (.int p3), .val (.int p4), .val (.int (1 : Int32)), .val (.int (1 : Int32)), .val (.int (1 : Int32)), .val .null, .val .null, .unset, .unset, .unset]) rfl kk_) ?_
        show Go p e below s₁ (mkF m 68 #[.val (.int p0), .val (.int p1), .val (.int p2), .val (.int p3), .val (.int p4), .val (.int (1 : Int32)), .val (.int (1 : Int32)), .val (.int (1 : Int32)), .val .null, .val .null, .unset, .unset, .unset] []) _
        obtain ⟨T66, h66, X66, e66, E66, A66, D66, -, st66⟩ := newO X0 hx hZ hown (hw _ (List.mem_of_getElem? (i := 5) rfl)) (hw _ (List.mem_of_getElem? (i := 6) rfl)) (hw _ (List.mem_of_getElem? (i := 7) rfl)) e0 (g := (mkF m 68 #[.val (.int p0), .val (.int p1), .val (.int p2), .val (.int p3), .val (.int p4), .val (.int (1 : Int32)), .val (.int (1 : Int32)), .val (.int (1 : Int32)), .val .null, .val .null, .unset, .unset, .unset] [])) rfl (hb hby at_68) (by decide) (by decide)
        obtain ⟨b66, g66⟩ : ∃ z, z = h0.size := ⟨_, rfl⟩
        rw [← g66] at A66 D66 st66
        have gx66 : n0 ≤ b66 := Nat.le_trans Z0 (Nat.le_of_eq g66.symm)
        have sz66 : h0.size ≤ b66 := Nat.le_trans K0.1 (Nat.le_of_eq g66.symm)
        have K67 := K0.ext E66
        have Zs68 : n0 ≤ h66.size := Nat.le_trans Z0 E66.1
        have F69 : Fld Z h66 b66 "com/example/planwright/planwright/planner/SharedAtoms$Among" "weighed" "[Z" .null := D66 (Or.inr (hw _ (List.mem_of_getElem? (i := 20) rfl))) (ty := (.array .boolean)) (by decide)
        have F70 : Fld Z h66 b66 "com/example/planwright/planwright/planner/SharedAtoms$Among" "elsewhere" "[Z" .null := D66 (Or.inr (hw _ (List.mem_of_getElem? (i := 22) rfl))) (ty := (.array .boolean)) (by decide)
        refine Go.of (st66) ?_
        show Go p e below T66 (mkF m 71 #[.val (.int p0), .val (.int p1), .val (.int p2), .val (.int p3), .val (.int p4), .val (.int (1 : Int32)), .val (.int (1 : Int32)), .val (.int (1 : Int32)), .val .null, .val .null, .unset, .unset, .unset] [(.ref b66)]) _
        refine Go.of (fun tg_ kk_ => XS.dup X66.here hx rfl (hb hby at_71) rfl rfl kk_) ?_
        show Go p e below T66 (mkF m 72 #[.val (.int p0), .val (.int p1), .val (.int p2), .val (.int p3), .val (.int p4), .val (.int (1 : Int32)), .val (.int (1 : Int32)), .val (.int (1 : Int32)), .val .null, .val .null, .unset, .unset, .unset] [(.ref b66), (.ref b66)]) _
        refine Go.of (fun tg_ kk_ => XS.aload X66.here hx rfl (hb hby at_72) rfl rfl kk_) ?_
        show Go p e below T66 (mkF m 74 #[.val (.int p0), .val (.int p1), .val (.int p2), .val (.int p3), .val (.int p4), .val (.int (1 : Int32)), .val (.int (1 : Int32)), .val (.int (1 : Int32)), .val .null, .val .null, .unset, .unset, .unset] [.null, (.ref b66), (.ref b66)]) _
        refine Go.of (fun tg_ kk_ => XS.aload X66.here hx rfl (hb hby at_74) rfl rfl kk_) ?_
        show Go p e below T66 (mkF m 76 #[.val (.int p0), .val (.int p1), .val (.int p2), .val (.int p3), .val (.int p4), .val (.int (1 : Int32)), .val (.int (1 : Int32)), .val (.int (1 : Int32)), .val .null, .val .null, .unset, .unset, .unset] [.null, .null, (.ref b66), (.ref b66)]) _
        obtain ⟨_, _, ⟨T71, L71, k71, n71⟩, -, X71, ⟨Lc71, hQ71, l71, y71, z71⟩, st71⟩ := X66.specialBack hx (y := (⟨"com/example/planwright/planwright/planner/SharedAtoms$Among", "<init>", "([Z[Z)V"⟩ : MethodName)) rfl hown (mvT hZ (hw _ (List.mem_of_getElem? (i := 8) rfl))) (mvT hZ (hw _ (List.mem_of_getElem? (i := 9) rfl))) (mvT hZ (hw _ (List.mem_of_getElem? (i := 10) rfl))) (by decide) (backOf (W := 1) (rm2_11 l Z a0 hw [] b66 h66 n0 Zs68 gx66 A66 F69 F70) hZ (hw _ (List.mem_of_getElem? (i := 10) rfl)) (hw _ (List.mem_of_getElem? (i := 7) rfl)) (by decide) (by decide)) (g := (mkF m 76 #[.val (.int p0), .val (.int p1), .val (.int p2), .val (.int p3), .val (.int p4), .val (.int (1 : Int32)), .val (.int (1 : Int32)), .val (.int (1 : Int32)), .val .null, .val .null, .unset, .unset, .unset] [.null, .null, (.ref b66), (.ref b66)])) rfl (by rw [hml]; rfl) (Steps.refl _) (a := b66) (argsL := [.null, .null]) (rest := [(.ref b66)]) (lenOf pd_2 rfl) rfl (by show 2 * 0 + _ ≤ _; exact Nat.le_of_eq rfl) (hb hby at_76) (fun _ _ => ⟨rfl, e66, (by decide : 1 + 0 ≤ _), (by decide : 2 + 0 ≤ _)⟩)
        dsimp only [Pt.U, Pt.locs, Pt.cells, Pt.slots] at X71 l71 y71 z71 st71 hQ71
        subst l71 y71 z71
        obtain ⟨rfl, N71q, K71q, F71a⟩ := hQ71
        have N71 := Fr.app N0 N71q
        have F72 := A66.keep K71q
        have K75 := K67.trans K71q (allS (Or.inr sz66) all0)
        have Zs76 : n0 ≤ T71.heap.size := Nat.le_trans Zs68 K71q.1
        refine Go.of (fun tg_ kk_ => st71.trans kk_) ?_
        show Go p e below T71 (mkF m 79 #[.val (.int p0), .val (.int p1), .val (.int p2), .val (.int p3), .val (.int p4), .val (.int (1 : Int32)), .val (.int (1 : Int32)), .val (.int (1 : Int32)), .val .null, .val .null, .unset, .unset, .unset] [(.ref b66)]) _
        refine Go.of (fun tg_ kk_ => XS.astore X71.here hx rfl (hb hby at_79) rfl rfl (l' := #[.val (.int p0), .val (.int p1), .val (.int p2), .val (.int p3), .val (.int p4), .val (.int (1 : Int32)), .val (.int (1 : Int32)), .val (.int (1 : Int32)), .val .null, .val .null, .val (.ref b66), .unset, .unset]) rfl kk_) ?_
        show Go p e below T71 (mkF m 81 #[.val (.int p0), .val (.int p1), .val (.int p2), .val (.int p3), .val (.int p4), .val (.int (1 : Int32)), .val (.int (1 : Int32)), .val (.int (1 : Int32)), .val .null, .val .null, .val (.ref b66), .unset, .unset] []) _
        refine Go.of (fun tg_ kk_ => XS.iload X71.here hx rfl (hb hby at_81) rfl kk_) ?_
        show Go p e below T71 (mkF m 83 #[.val (.int p0), .val (.int p1), .val (.int p2), .val (.int p3), .val (.int p4), .val (.int (1 : Int32)), .val (.int (1 : Int32)), .val (.int (1 : Int32)), .val .null, .val .null, .val (.ref b66), .unset, .unset] [(.int (1 : Int32))]) _
        refine Go.of (fun tg_ kk_ => XS.ifNo X71.here hx rfl (hb hby at_83) rfl ((if0 _ _).trans (feq (show ¬ ((1 : Int32) = (0 : Int32)) by decide)).1) kk_) ?_
        show Go p e below T71 (mkF m 86 #[.val (.int p0), .val (.int p1), .val (.int p2), .val (.int p3), .val (.int p4), .val (.int (1 : Int32)), .val (.int (1 : Int32)), .val (.int (1 : Int32)), .val .null, .val .null, .val (.ref b66), .unset, .unset] []) _
        refine Go.of (fun tg_ kk_ => XS.aload X71.here hx rfl (hb hby at_86) rfl rfl kk_) ?_
        show Go p e below T71 (mkF m 88 #[.val (.int p0), .val (.int p1), .val (.int p2), .val (.int p3), .val (.int p4), .val (.int (1 : Int32)), .val (.int (1 : Int32)), .val (.int (1 : Int32)), .val .null, .val .null, .val (.ref b66), .unset, .unset] [(.ref b66)]) _
        refine Go.of (fun tg_ kk_ => XS.iloadN X71.here hx rfl (hb hby at_88) rfl kk_) ?_
        show Go p e below T71 (mkF m 89 #[.val (.int p0), .val (.int p1), .val (.int p2), .val (.int p3), .val (.int p4), .val (.int (1 : Int32)), .val (.int (1 : Int32)), .val (.int (1 : Int32)), .val .null, .val .null, .val (.ref b66), .unset, .unset] [(.int p2), (.ref b66)]) _
        obtain ⟨cq77, kq77, q77a, q77b, q77c⟩ := isOf hZ rfl F72
        obtain ⟨_, _, ⟨T77, L77, k77, n77⟩, -, X77, ⟨Lc77, hQ77, l77, y77, z77⟩, st77⟩ := X71.virtualBack hx (y := (⟨"com/example/planwright/planwright/planner/SharedAtoms$Among", "weighs", "(I)Z"⟩ : MethodName)) (z := (⟨"com/example/planwright/planwright/planner/SharedAtoms$Among", "weighs", "(I)Z"⟩ : MethodName)) hown (mvT hZ (hw _ (List.mem_of_getElem? (i := 23) rfl))) (mvT hZ (hw _ (List.mem_of_getElem? (i := 24) rfl))) (notFace_of_selects (args := #[]) (mvT hZ (hw _ (List.mem_of_getElem? (i := 26) rfl)))) (mvT hZ (hw _ (List.mem_of_getElem? (i := 26) rfl))) (mvT hZ (hw _ (List.mem_of_getElem? (i := 25) rfl))) (by decide) (backOf (W := 0) (rm5n l Z a0 hw [] b66 p2 T71.heap n0 Zs76 F71a) hZ (hw _ (List.mem_of_getElem? (i := 27) rfl)) (hw _ (List.mem_of_getElem? (i := 7) rfl)) (by decide) (by decide)) q77a q77c (g := (mkF m 89 #[.val (.int p0), .val (.int p1), .val (.int p2), .val (.int p3), .val (.int p4), .val (.int (1 : Int32)), .val (.int (1 : Int32)), .val (.int (1 : Int32)), .val .null, .val .null, .val (.ref b66), .unset, .unset] [(.int p2), (.ref b66)])) rfl (by rw [hml]; rfl) (Steps.refl _) (argsL := [(.int p2)]) (rest := []) (lenOf pd_3 rfl) rfl (by show 2 * 0 + _ ≤ _; exact Nat.le_of_eq rfl) (hb hby at_89) (fun _ _ => ⟨rfl, rfl, (by decide : 1 + 0 ≤ _), (by decide : 2 + 0 ≤ _)⟩)
        dsimp only [Pt.U, Pt.locs, Pt.cells, Pt.slots] at X77 l77 y77 z77 st77 hQ77
        subst l77 y77 z77
        obtain ⟨rfl, N77q, e77⟩ := hQ77
        have N77 := Fr.app N71 N77q
        refine Go.of (fun tg_ kk_ => st77.trans kk_) ?_
        show Go p e below T77 (mkF m 92 #[.val (.int p0), .val (.int p1), .val (.int p2), .val (.int p3), .val (.int p4), .val (.int (1 : Int32)), .val (.int (1 : Int32)), .val (.int (1 : Int32)), .val .null, .val .null, .val (.ref b66), .unset, .unset] [(.int (1 : Int32))]) _
        obtain ⟨fs, hr, hrun, hended, hW, hsame⟩ := X77.leave (v := some (.int (1 : Int32))) (fun h => by rw [Bd.returns] at h; cases h)
        refine ⟨_, _, ?_, hrun, hended, _, _, rfl, ?_, ⟨_, rfl⟩, hW, hsame.mono (by decide) (by decide)⟩
        · exact retN X77 hx (t := .boolean) Bd.returns (by simp) (hb hby at_92) hr
        · show Q0 Z p0 p1 p2 p3 p4 h0 n0 _ T77.heap _
          rw [e77]
          exact ⟨rfl, N77⟩
  · subst hs1
    show Go p e below s₁ (mkF m 5 #[.val (.int p0), .val (.int p1), .val (.int p2), .val (.int p3), .val (.int p4), .unset, .unset, .unset, .unset, .unset, .unset, .unset, .unset] [(.int (2 : Int32))]) _
    refine Go.of (fun tg_ kk_ => XS.istore X0.here hx rfl (hb hby at_5) rfl (l' := #[.val (.int p0), .val (.int p1), .val (.int p2), .val (.int p3), .val (.int p4), .val (.int (2 : Int32)), .unset, .unset, .unset, .unset, .unset, .unset, .unset]) rfl kk_) ?_
    show Go p e below s₁ (mkF m 7 #[.val (.int p0), .val (.int p1), .val (.int p2), .val (.int p3), .val (.int p4), .val (.int (2 : Int32)), .unset, .unset, .unset, .unset, .unset, .unset, .unset] []) _
    refine Go.of (fun tg_ kk_ => XS.iloadN X0.here hx rfl (hb hby at_7) rfl kk_) ?_
    show Go p e below s₁ (mkF m 8 #[.val (.int p0), .val (.int p1), .val (.int p2), .val (.int p3), .val (.int p4), .val (.int (2 : Int32)), .unset, .unset, .unset, .unset, .unset, .unset, .unset] [(.int p3)]) _
    refine Go.of (fun tg_ kk_ => XS.iconst X0.here hx rfl (hb hby at_8) kk_) ?_
    show Go p e below s₁ (mkF m 9 #[.val (.int p0), .val (.int p1), .val (.int p2), .val (.int p3), .val (.int p4), .val (.int (2 : Int32)), .unset, .unset, .unset, .unset, .unset, .unset, .unset] [(.int (1 : Int32)), (.int p3)]) _
    refine Go.of (fun tg_ kk_ => XS.iand X0.here hx rfl (hb hby at_9) rfl kk_) ?_
    show Go p e below s₁ (mkF m 10 #[.val (.int p0), .val (.int p1), .val (.int p2), .val (.int p3), .val (.int p4), .val (.int (2 : Int32)), .unset, .unset, .unset, .unset, .unset, .unset, .unset] [(.int (p3 &&& (1 : Int32)))]) _
    by_cases hw0 : (p3 &&& (1 : Int32)) = (0 : Int32)
    · skip
      refine Go.of (fun tg_ kk_ => XS.ifYes X0.here hx rfl (pc0 := 10) (pc' := 17) rfl (hb hby at_10) rfl ((if0 _ _).trans (teq hw0).1) (by decide) (by decide) kk_) ?_
      show Go p e below s₁ (mkF m 17 #[.val (.int p0), .val (.int p1), .val (.int p2), .val (.int p3), .val (.int p4), .val (.int (2 : Int32)), .unset, .unset, .unset, .unset, .unset, .unset, .unset] []) _
      refine Go.of (fun tg_ kk_ => XS.iconst X0.here hx rfl (hb hby at_17) kk_) ?_
      show Go p e below s₁ (mkF m 18 #[.val (.int p0), .val (.int p1), .val (.int p2), .val (.int p3), .val (.int p4), .val (.int (2 : Int32)), .unset, .unset, .unset, .unset, .unset, .unset, .unset] [(.int (0 : Int32))]) _
      refine Go.of (fun tg_ kk_ => XS.istore X0.here hx rfl (hb hby at_18) rfl (l' := #[.val (.int p0), .val (.int p1), .val (.int p2), .val (.int p3), .val (.int p4), .val (.int (2 : Int32)), .val (.int (0 : Int32)), .unset, .unset, .unset, .unset, .unset, .unset]) rfl kk_) ?_
      show Go p e below s₁ (mkF m 20 #[.val (.int p0), .val (.int p1), .val (.int p2), .val (.int p3), .val (.int p4), .val (.int (2 : Int32)), .val (.int (0 : Int32)), .unset, .unset, .unset, .unset, .unset, .unset] []) _
      refine Go.of (fun tg_ kk_ => XS.iloadN X0.here hx rfl (hb hby at_20) rfl kk_) ?_
      show Go p e below s₁ (mkF m 21 #[.val (.int p0), .val (.int p1), .val (.int p2), .val (.int p3), .val (.int p4), .val (.int (2 : Int32)), .val (.int (0 : Int32)), .unset, .unset, .unset, .unset, .unset, .unset] [(.int p3)]) _
      refine Go.of (fun tg_ kk_ => XS.iconst X0.here hx rfl (hb hby at_21) kk_) ?_
      show Go p e below s₁ (mkF m 22 #[.val (.int p0), .val (.int p1), .val (.int p2), .val (.int p3), .val (.int p4), .val (.int (2 : Int32)), .val (.int (0 : Int32)), .unset, .unset, .unset, .unset, .unset, .unset] [(.int (2 : Int32)), (.int p3)]) _
      refine Go.of (fun tg_ kk_ => XS.iand X0.here hx rfl (hb hby at_22) rfl kk_) ?_
      show Go p e below s₁ (mkF m 23 #[.val (.int p0), .val (.int p1), .val (.int p2), .val (.int p3), .val (.int p4), .val (.int (2 : Int32)), .val (.int (0 : Int32)), .unset, .unset, .unset, .unset, .unset, .unset] [(.int (p3 &&& (2 : Int32)))]) _
      by_cases he0 : (p3 &&& (2 : Int32)) = (0 : Int32)
      · skip
        refine Go.of (fun tg_ kk_ => XS.ifYes X0.here hx rfl (pc0 := 23) (pc' := 30) rfl (hb hby at_23) rfl ((if0 _ _).trans (teq he0).1) (by decide) (by decide) kk_) ?_
        show Go p e below s₁ (mkF m 30 #[.val (.int p0), .val (.int p1), .val (.int p2), .val (.int p3), .val (.int p4), .val (.int (2 : Int32)), .val (.int (0 : Int32)), .unset, .unset, .unset, .unset, .unset, .unset] []) _
        refine Go.of (fun tg_ kk_ => XS.iconst X0.here hx rfl (hb hby at_30) kk_) ?_
        show Go p e below s₁ (mkF m 31 #[.val (.int p0), .val (.int p1), .val (.int p2), .val (.int p3), .val (.int p4), .val (.int (2 : Int32)), .val (.int (0 : Int32)), .unset, .unset, .unset, .unset, .unset, .unset] [(.int (0 : Int32))]) _
        refine Go.of (fun tg_ kk_ => XS.istore X0.here hx rfl (hb hby at_31) rfl (l' := #[.val (.int p0), .val (.int p1), .val (.int p2), .val (.int p3), .val (.int p4), .val (.int (2 : Int32)), .val (.int (0 : Int32)), .val (.int (0 : Int32)), .unset, .unset, .unset, .unset, .unset]) rfl kk_) ?_
        show Go p e below s₁ (mkF m 33 #[.val (.int p0), .val (.int p1), .val (.int p2), .val (.int p3), .val (.int p4), .val (.int (2 : Int32)), .val (.int (0 : Int32)), .val (.int (0 : Int32)), .unset, .unset, .unset, .unset, .unset] []) _
        refine Go.of (fun tg_ kk_ => XS.iload X0.here hx rfl (hb hby at_33) rfl kk_) ?_
        show Go p e below s₁ (mkF m 35 #[.val (.int p0), .val (.int p1), .val (.int p2), .val (.int p3), .val (.int p4), .val (.int (2 : Int32)), .val (.int (0 : Int32)), .val (.int (0 : Int32)), .unset, .unset, .unset, .unset, .unset] [(.int (0 : Int32))]) _
        refine Go.of (fun tg_ kk_ => XS.ifYes X0.here hx rfl (pc0 := 35) (pc' := 42) rfl (hb hby at_35) rfl ((if0 _ _).trans (teq (show (0 : Int32) = (0 : Int32) by decide)).1) (by decide) (by decide) kk_) ?_
        show Go p e below s₁ (mkF m 42 #[.val (.int p0), .val (.int p1), .val (.int p2), .val (.int p3), .val (.int p4), .val (.int (2 : Int32)), .val (.int (0 : Int32)), .val (.int (0 : Int32)), .unset, .unset, .unset, .unset, .unset] []) _
        refine Go.of (fun tg_ kk_ => XS.iload X0.here hx rfl (hb hby at_42) rfl kk_) ?_
        show Go p e below s₁ (mkF m 44 #[.val (.int p0), .val (.int p1), .val (.int p2), .val (.int p3), .val (.int p4), .val (.int (2 : Int32)), .val (.int (0 : Int32)), .val (.int (0 : Int32)), .unset, .unset, .unset, .unset, .unset] [(.int (2 : Int32))]) _
        refine Go.of (fun tg_ kk_ => XS.iloadN X0.here hx rfl (hb hby at_44) rfl kk_) ?_
        show Go p e below s₁ (mkF m 45 #[.val (.int p0), .val (.int p1), .val (.int p2), .val (.int p3), .val (.int p4), .val (.int (2 : Int32)), .val (.int (0 : Int32)), .val (.int (0 : Int32)), .unset, .unset, .unset, .unset, .unset] [(.int p0), (.int (2 : Int32))]) _
        obtain ⟨_, _, ⟨T78, L78, k78, n78⟩, -, X78, ⟨Lc78, hQ78, l78, y78, z78⟩, st78⟩ := Jvm.LawKit.callS X0 hx (y := (⟨"com/example/planwright/planwright/planner/AmongWeighsPinLaw", "fill", "(II)[Z"⟩ : MethodName)) hown (mvT hZ (hw _ (List.mem_of_getElem? (i := 0) rfl))) (mvT hZ (hw _ (List.mem_of_getElem? (i := 1) rfl))) (mvT hZ (hw _ (List.mem_of_getElem? (i := 2) rfl))) (mvT hZ (hw _ (List.mem_of_getElem? (i := 3) rfl))) (by decide) (backOf (W := 0) (rm1_2 l Z a0 hw [] p0 h0 n0 Z0) hZ (hw _ (List.mem_of_getElem? (i := 3) rfl)) (hw _ (List.mem_of_getElem? (i := 2) rfl)) (by decide) (by decide)) (g := (mkF m 45 #[.val (.int p0), .val (.int p1), .val (.int p2), .val (.int p3), .val (.int p4), .val (.int (2 : Int32)), .val (.int (0 : Int32)), .val (.int (0 : Int32)), .unset, .unset, .unset, .unset, .unset] [(.int p0), (.int (2 : Int32))])) rfl (by rw [hml]; rfl) (argsL := [(.int (2 : Int32)), (.int p0)]) (rest := []) (lenOf pd_1 rfl) rfl (by show 2 * 0 + _ ≤ _; exact Nat.le_of_eq rfl) (hb hby at_45) (fun _ _ => ⟨rfl, e0, (by decide : 0 + 1 ≤ _), (by decide : 0 + 2 ≤ _)⟩)
        dsimp only [Pt.U, Pt.locs, Pt.cells, Pt.slots] at X78 l78 y78 z78 st78 hQ78
        subst l78 y78 z78
        obtain ⟨bb78, rfl, N78q, K78q, sz78, gx78, V78⟩ := hQ78
        have N78 := Fr.app N0 N78q
        have sy78 : h0.size ≤ bb78 := Nat.le_trans K0.1 sz78
        have K79 := K0.trans K78q all0
        have Zs80 : n0 ≤ T78.heap.size := Nat.le_trans Z0 K78q.1
        refine Go.of (st78) ?_
        show Go p e below T78 (mkF m 48 #[.val (.int p0), .val (.int p1), .val (.int p2), .val (.int p3), .val (.int p4), .val (.int (2 : Int32)), .val (.int (0 : Int32)), .val (.int (0 : Int32)), .unset, .unset, .unset, .unset, .unset] [(.ref bb78)]) _
        refine Go.of (fun tg_ kk_ => XS.astore X78.here hx rfl (hb hby at_48) rfl rfl (l' := #[.val (.int p0), .val (.int p1), .val (.int p2), .val (.int p3), .val (.int p4), .val (.int (2 : Int32)), .val (.int (0 : Int32)), .val (.int (0 : Int32)), .val (.ref bb78), .unset, .unset, .unset, .unset]) rfl kk_) ?_
        show Go p e below T78 (mkF m 50 #[.val (.int p0), .val (.int p1), .val (.int p2), .val (.int p3), .val (.int p4), .val (.int (2 : Int32)), .val (.int (0 : Int32)), .val (.int (0 : Int32)), .val (.ref bb78), .unset, .unset, .unset, .unset] []) _
        refine Go.of (fun tg_ kk_ => XS.iload X78.here hx rfl (hb hby at_50) rfl kk_) ?_
        show Go p e below T78 (mkF m 52 #[.val (.int p0), .val (.int p1), .val (.int p2), .val (.int p3), .val (.int p4), .val (.int (2 : Int32)), .val (.int (0 : Int32)), .val (.int (0 : Int32)), .val (.ref bb78), .unset, .unset, .unset, .unset] [(.int (0 : Int32))]) _
        refine Go.of (fun tg_ kk_ => XS.ifYes X78.here hx rfl (pc0 := 52) (pc' := 59) rfl (hb hby at_52) rfl ((if0 _ _).trans (teq (show (0 : Int32) = (0 : Int32) by decide)).1) (by decide) (by decide) kk_) ?_
        show Go p e below T78 (mkF m 59 #[.val (.int p0), .val (.int p1), .val (.int p2), .val (.int p3), .val (.int p4), .val (.int (2 : Int32)), .val (.int (0 : Int32)), .val (.int (0 : Int32)), .val (.ref bb78), .unset, .unset, .unset, .unset] []) _
        refine Go.of (fun tg_ kk_ => XS.iload X78.here hx rfl (hb hby at_59) rfl kk_) ?_
        show Go p e below T78 (mkF m 61 #[.val (.int p0), .val (.int p1), .val (.int p2), .val (.int p3), .val (.int p4), .val (.int (2 : Int32)), .val (.int (0 : Int32)), .val (.int (0 : Int32)), .val (.ref bb78), .unset, .unset, .unset, .unset] [(.int (2 : Int32))]) _
        refine Go.of (fun tg_ kk_ => XS.iload X78.here hx rfl (hb hby at_61) rfl kk_) ?_
        show Go p e below T78 (mkF m 63 #[.val (.int p0), .val (.int p1), .val (.int p2), .val (.int p3), .val (.int p4), .val (.int (2 : Int32)), .val (.int (0 : Int32)), .val (.int (0 : Int32)), .val (.ref bb78), .unset, .unset, .unset, .unset] [(.int p4), (.int (2 : Int32))]) _
        obtain ⟨_, _, ⟨T81, L81, k81, n81⟩, -, X81, ⟨Lc81, hQ81, l81, y81, z81⟩, st81⟩ := Jvm.LawKit.callS X78 hx (y := (⟨"com/example/planwright/planwright/planner/AmongWeighsPinLaw", "fill", "(II)[Z"⟩ : MethodName)) hown (mvT hZ (hw _ (List.mem_of_getElem? (i := 0) rfl))) (mvT hZ (hw _ (List.mem_of_getElem? (i := 1) rfl))) (mvT hZ (hw _ (List.mem_of_getElem? (i := 2) rfl))) (mvT hZ (hw _ (List.mem_of_getElem? (i := 3) rfl))) (by decide) (backOf (W := 0) (rm1_2 l Z a0 hw [] p4 T78.heap n0 Zs80) hZ (hw _ (List.mem_of_getElem? (i := 3) rfl)) (hw _ (List.mem_of_getElem? (i := 2) rfl)) (by decide) (by decide)) (g := (mkF m 63 #[.val (.int p0), .val (.int p1), .val (.int p2), .val (.int p3), .val (.int p4), .val (.int (2 : Int32)), .val (.int (0 : Int32)), .val (.int (0 : Int32)), .val (.ref bb78), .unset, .unset, .unset, .unset] [(.int p4), (.int (2 : Int32))])) rfl (by rw [hml]; rfl) (argsL := [(.int (2 : Int32)), (.int p4)]) (rest := []) (lenOf pd_1 rfl) rfl (by show 2 * 0 + _ ≤ _; exact Nat.le_of_eq rfl) (hb hby at_63) (fun _ _ => ⟨rfl, rfl, (by decide : 1 + 1 ≤ _), (by decide : 2 + 2 ≤ _)⟩)
        dsimp only [Pt.U, Pt.locs, Pt.cells, Pt.slots] at X81 l81 y81 z81 st81 hQ81
        subst l81 y81 z81
        obtain ⟨bb81, rfl, N81q, K81q, sz81, gx81, V81⟩ := hQ81
        have N81 := Fr.app N78 N81q
        have sy81 : h0.size ≤ bb81 := Nat.le_trans K79.1 sz81
        have ne82 : bb78 ≠ bb81 := Nat.ne_of_lt (Nat.lt_of_lt_of_le V78.lt sz81)
        have F83 := V78.keep K81q nin0
        have K84 := K79.trans K81q all0
        have Zs85 : n0 ≤ T81.heap.size := Nat.le_trans Zs80 K81q.1
        refine Go.of (st81) ?_
        show Go p e below T81 (mkF m 66 #[.val (.int p0), .val (.int p1), .val (.int p2), .val (.int p3), .val (.int p4), .val (.int (2 : Int32)), .val (.int (0 : Int32)), .val (.int (0 : Int32)), .val (.ref bb78), .unset, .unset, .unset, .unset] [(.ref bb81)]) _
        refine Go.of (fun tg_ kk_ => XS.astore X81.here hx rfl (hb hby at_66) rfl rfl (l' := #[.val (.int p0), .val (.int p1), .val (.int p2), .val (.int p3), .val (.int p4), .val (.int (2 : Int32)), .val (.int (0 : Int32)), .val (.int (0 : Int32)), .val (.ref bb78), .val (.ref bb81), .unset, .unset, .unset]) rfl kk_) ?_
        show Go p e below T81 (mkF m 68 #[.val (.int p0), .val (.int p1), .val (.int p2), .val (.int p3), .val (.int p4), .val (.int (2 : Int32)), .val (.int (0 : Int32)), .val (.int (0 : Int32)), .val (.ref bb78), .val (.ref bb81), .unset, .unset, .unset] []) _
        obtain ⟨T86, h86, X86, e86, E86, A86, D86, -, st86⟩ := newO X81 hx hZ hown (hw _ (List.mem_of_getElem? (i := 5) rfl)) (hw _ (List.mem_of_getElem? (i := 6) rfl)) (hw _ (List.mem_of_getElem? (i := 7) rfl)) rfl (g := (mkF m 68 #[.val (.int p0), .val (.int p1), .val (.int p2), .val (.int p3), .val (.int p4), .val (.int (2 : Int32)), .val (.int (0 : Int32)), .val (.int (0 : Int32)), .val (.ref bb78), .val (.ref bb81), .unset, .unset, .unset] [])) rfl (hb hby at_68) (by decide) (by decide)
        obtain ⟨b86, g86⟩ : ∃ z, z = T81.heap.size := ⟨_, rfl⟩
        rw [← g86] at A86 D86 st86
        have gx86 : n0 ≤ b86 := Nat.le_trans Zs85 (Nat.le_of_eq g86.symm)
        have sz86 : h0.size ≤ b86 := Nat.le_trans K84.1 (Nat.le_of_eq g86.symm)
        have ne87 : bb78 ≠ b86 := Nat.ne_of_lt (Nat.lt_of_lt_of_le F83.lt (Nat.le_of_eq g86.symm))
        have ne88 : bb81 ≠ b86 := Nat.ne_of_lt (Nat.lt_of_lt_of_le V81.lt (Nat.le_of_eq g86.symm))
        have F89 := F83.ext E86
        have F90 := V81.ext E86
        have K91 := K84.ext E86
        have Zs92 : n0 ≤ h86.size := Nat.le_trans Zs85 E86.1
        have F93 : Fld Z h86 b86 "com/example/planwright/planwright/planner/SharedAtoms$Among" "weighed" "[Z" .null := D86 (Or.inr (hw _ (List.mem_of_getElem? (i := 20) rfl))) (ty := (.array .boolean)) (by decide)
        have F94 : Fld Z h86 b86 "com/example/planwright/planwright/planner/SharedAtoms$Among" "elsewhere" "[Z" .null := D86 (Or.inr (hw _ (List.mem_of_getElem? (i := 22) rfl))) (ty := (.array .boolean)) (by decide)
        refine Go.of (st86) ?_
        show Go p e below T86 (mkF m 71 #[.val (.int p0), .val (.int p1), .val (.int p2), .val (.int p3), .val (.int p4), .val (.int (2 : Int32)), .val (.int (0 : Int32)), .val (.int (0 : Int32)), .val (.ref bb78), .val (.ref bb81), .unset, .unset, .unset] [(.ref b86)]) _
        refine Go.of (fun tg_ kk_ => XS.dup X86.here hx rfl (hb hby at_71) rfl rfl kk_) ?_
        show Go p e below T86 (mkF m 72 #[.val (.int p0), .val (.int p1), .val (.int p2), .val (.int p3), .val (.int p4), .val (.int (2 : Int32)), .val (.int (0 : Int32)), .val (.int (0 : Int32)), .val (.ref bb78), .val (.ref bb81), .unset, .unset, .unset] [(.ref b86), (.ref b86)]) _
        refine Go.of (fun tg_ kk_ => XS.aload X86.here hx rfl (hb hby at_72) rfl rfl kk_) ?_
        show Go p e below T86 (mkF m 74 #[.val (.int p0), .val (.int p1), .val (.int p2), .val (.int p3), .val (.int p4), .val (.int (2 : Int32)), .val (.int (0 : Int32)), .val (.int (0 : Int32)), .val (.ref bb78), .val (.ref bb81), .unset, .unset, .unset] [(.ref bb78), (.ref b86), (.ref b86)]) _
        refine Go.of (fun tg_ kk_ => XS.aload X86.here hx rfl (hb hby at_74) rfl rfl kk_) ?_
        show Go p e below T86 (mkF m 76 #[.val (.int p0), .val (.int p1), .val (.int p2), .val (.int p3), .val (.int p4), .val (.int (2 : Int32)), .val (.int (0 : Int32)), .val (.int (0 : Int32)), .val (.ref bb78), .val (.ref bb81), .unset, .unset, .unset] [(.ref bb81), (.ref bb78), (.ref b86), (.ref b86)]) _
        obtain ⟨_, _, ⟨T95, L95, k95, n95⟩, -, X95, ⟨Lc95, hQ95, l95, y95, z95⟩, st95⟩ := X86.specialBack hx (y := (⟨"com/example/planwright/planwright/planner/SharedAtoms$Among", "<init>", "([Z[Z)V"⟩ : MethodName)) rfl hown (mvT hZ (hw _ (List.mem_of_getElem? (i := 8) rfl))) (mvT hZ (hw _ (List.mem_of_getElem? (i := 9) rfl))) (mvT hZ (hw _ (List.mem_of_getElem? (i := 10) rfl))) (by decide) (backOf (W := 1) (rm2_00 l Z a0 hw [] b86 bb78 bb81 h86 n0 Zs92 gx86 A86 F93 F94) hZ (hw _ (List.mem_of_getElem? (i := 10) rfl)) (hw _ (List.mem_of_getElem? (i := 7) rfl)) (by decide) (by decide)) (g := (mkF m 76 #[.val (.int p0), .val (.int p1), .val (.int p2), .val (.int p3), .val (.int p4), .val (.int (2 : Int32)), .val (.int (0 : Int32)), .val (.int (0 : Int32)), .val (.ref bb78), .val (.ref bb81), .unset, .unset, .unset] [(.ref bb81), (.ref bb78), (.ref b86), (.ref b86)])) rfl (by rw [hml]; rfl) (Steps.refl _) (a := b86) (argsL := [(.ref bb78), (.ref bb81)]) (rest := [(.ref b86)]) (lenOf pd_2 rfl) rfl (by show 2 * 0 + _ ≤ _; exact Nat.le_of_eq rfl) (hb hby at_76) (fun _ _ => ⟨rfl, e86, (by decide : 3 + 0 ≤ _), (by decide : 6 + 0 ≤ _)⟩)
        dsimp only [Pt.U, Pt.locs, Pt.cells, Pt.slots] at X95 l95 y95 z95 st95 hQ95
        subst l95 y95 z95
        obtain ⟨rfl, N95q, K95q, F95a⟩ := hQ95
        have N95 := Fr.app N81 N95q
        have F96 := F89.keep K95q (ninS ne87 nin0)
        have F97 := F90.keep K95q (ninS ne88 nin0)
        have F98 := A86.keep K95q
        have K101 := K91.trans K95q (allS (Or.inr sz86) all0)
        have Zs102 : n0 ≤ T95.heap.size := Nat.le_trans Zs92 K95q.1
        refine Go.of (fun tg_ kk_ => st95.trans kk_) ?_
        show Go p e below T95 (mkF m 79 #[.val (.int p0), .val (.int p1), .val (.int p2), .val (.int p3), .val (.int p4), .val (.int (2 : Int32)), .val (.int (0 : Int32)), .val (.int (0 : Int32)), .val (.ref bb78), .val (.ref bb81), .unset, .unset, .unset] [(.ref b86)]) _
        refine Go.of (fun tg_ kk_ => XS.astore X95.here hx rfl (hb hby at_79) rfl rfl (l' := #[.val (.int p0), .val (.int p1), .val (.int p2), .val (.int p3), .val (.int p4), .val (.int (2 : Int32)), .val (.int (0 : Int32)), .val (.int (0 : Int32)), .val (.ref bb78), .val (.ref bb81), .val (.ref b86), .unset, .unset]) rfl kk_) ?_
        show Go p e below T95 (mkF m 81 #[.val (.int p0), .val (.int p1), .val (.int p2), .val (.int p3), .val (.int p4), .val (.int (2 : Int32)), .val (.int (0 : Int32)), .val (.int (0 : Int32)), .val (.ref bb78), .val (.ref bb81), .val (.ref b86), .unset, .unset] []) _
        refine Go.of (fun tg_ kk_ => XS.iload X95.here hx rfl (hb hby at_81) rfl kk_) ?_
        show Go p e below T95 (mkF m 83 #[.val (.int p0), .val (.int p1), .val (.int p2), .val (.int p3), .val (.int p4), .val (.int (2 : Int32)), .val (.int (0 : Int32)), .val (.int (0 : Int32)), .val (.ref bb78), .val (.ref bb81), .val (.ref b86), .unset, .unset] [(.int (0 : Int32))]) _
        refine Go.of (fun tg_ kk_ => XS.ifYes X95.here hx rfl (pc0 := 83) (pc' := 93) rfl (hb hby at_83) rfl ((if0 _ _).trans (teq (show (0 : Int32) = (0 : Int32) by decide)).1) (by decide) (by decide) kk_) ?_
        show Go p e below T95 (mkF m 93 #[.val (.int p0), .val (.int p1), .val (.int p2), .val (.int p3), .val (.int p4), .val (.int (2 : Int32)), .val (.int (0 : Int32)), .val (.int (0 : Int32)), .val (.ref bb78), .val (.ref bb81), .val (.ref b86), .unset, .unset] []) _
        refine Go.of (fun tg_ kk_ => XS.iloadN X95.here hx rfl (hb hby at_93) rfl kk_) ?_
        show Go p e below T95 (mkF m 94 #[.val (.int p0), .val (.int p1), .val (.int p2), .val (.int p3), .val (.int p4), .val (.int (2 : Int32)), .val (.int (0 : Int32)), .val (.int (0 : Int32)), .val (.ref bb78), .val (.ref bb81), .val (.ref b86), .unset, .unset] [(.int p2)]) _
        refine Go.of (X95.ldcInt hx hown (mvT hZ (hw _ (List.mem_of_getElem? (i := 28) rfl))) (g := (mkF m 94 #[.val (.int p0), .val (.int p1), .val (.int p2), .val (.int p3), .val (.int p4), .val (.int (2 : Int32)), .val (.int (0 : Int32)), .val (.int (0 : Int32)), .val (.ref bb78), .val (.ref bb81), .val (.ref b86), .unset, .unset] [(.int p2)])) rfl (hb hby at_94)) ?_
        show Go p e below T95 (mkF m 96 #[.val (.int p0), .val (.int p1), .val (.int p2), .val (.int p3), .val (.int p4), .val (.int (2 : Int32)), .val (.int (0 : Int32)), .val (.int (0 : Int32)), .val (.ref bb78), .val (.ref bb81), .val (.ref b86), .unset, .unset] [(.int (2147483647 : Int32)), (.int p2)]) _
        refine Go.of (fun tg_ kk_ => XS.iand X95.here hx rfl (hb hby at_96) rfl kk_) ?_
        show Go p e below T95 (mkF m 97 #[.val (.int p0), .val (.int p1), .val (.int p2), .val (.int p3), .val (.int p4), .val (.int (2 : Int32)), .val (.int (0 : Int32)), .val (.int (0 : Int32)), .val (.ref bb78), .val (.ref bb81), .val (.ref b86), .unset, .unset] [(.int (p2 &&& (2147483647 : Int32)))]) _
        refine Go.of (fun tg_ kk_ => XS.iload X95.here hx rfl (hb hby at_97) rfl kk_) ?_
        show Go p e below T95 (mkF m 99 #[.val (.int p0), .val (.int p1), .val (.int p2), .val (.int p3), .val (.int p4), .val (.int (2 : Int32)), .val (.int (0 : Int32)), .val (.int (0 : Int32)), .val (.ref bb78), .val (.ref bb81), .val (.ref b86), .unset, .unset] [(.int (2 : Int32)), (.int (p2 &&& (2147483647 : Int32)))]) _
        refine Go.of (fun tg_ kk_ => Jvm.RoadKit.iremM (g := (mkF m 99 #[.val (.int p0), .val (.int p1), .val (.int p2), .val (.int p3), .val (.int p4), .val (.int (2 : Int32)), .val (.int (0 : Int32)), .val (.int (0 : Int32)), .val (.ref bb78), .val (.ref bb81), .val (.ref b86), .unset, .unset] [(.int (2 : Int32)), (.int (p2 &&& (2147483647 : Int32)))])) X95 hx rfl (hb hby at_99) rfl (by decide) kk_) ?_
        show Go p e below T95 (mkF m 100 #[.val (.int p0), .val (.int p1), .val (.int p2), .val (.int p3), .val (.int p4), .val (.int (2 : Int32)), .val (.int (0 : Int32)), .val (.int (0 : Int32)), .val (.ref bb78), .val (.ref bb81), .val (.ref b86), .unset, .unset] [(.int ((p2 &&& (2147483647 : Int32)) % (2 : Int32)))]) _
        obtain ⟨ix, qix⟩ : ∃ z : Int32, z = ((p2 &&& (2147483647 : Int32)) % (2 : Int32)) := ⟨_, rfl⟩
        rw [← qix]
        show Go p e below T95 (mkF m 100 #[.val (.int p0), .val (.int p1), .val (.int p2), .val (.int p3), .val (.int p4), .val (.int (2 : Int32)), .val (.int (0 : Int32)), .val (.int (0 : Int32)), .val (.ref bb78), .val (.ref bb81), .val (.ref b86), .unset, .unset] [(.int ix)]) _
        have hin : ¬ (ix < 0) ∧ (ix).toNatClampNeg < 2 := by rw [qix]; exact own_in p2 (2 : Int32) 2 (by decide) (by decide)
        have hin4 : ¬ (ix < 0) ∧ (ix).toNatClampNeg < 4 := ⟨hin.1, by omega⟩
        refine Go.of (fun tg_ kk_ => XS.istore X95.here hx rfl (hb hby at_100) rfl (l' := #[.val (.int p0), .val (.int p1), .val (.int p2), .val (.int p3), .val (.int p4), .val (.int (2 : Int32)), .val (.int (0 : Int32)), .val (.int (0 : Int32)), .val (.ref bb78), .val (.ref bb81), .val (.ref b86), .val (.int ix), .unset]) rfl kk_) ?_
        show Go p e below T95 (mkF m 102 #[.val (.int p0), .val (.int p1), .val (.int p2), .val (.int p3), .val (.int p4), .val (.int (2 : Int32)), .val (.int (0 : Int32)), .val (.int (0 : Int32)), .val (.ref bb78), .val (.ref bb81), .val (.ref b86), .val (.int ix), .unset] []) _
        refine Go.of (fun tg_ kk_ => XS.iloadN X95.here hx rfl (hb hby at_102) rfl kk_) ?_
        show Go p e below T95 (mkF m 103 #[.val (.int p0), .val (.int p1), .val (.int p2), .val (.int p3), .val (.int p4), .val (.int (2 : Int32)), .val (.int (0 : Int32)), .val (.int (0 : Int32)), .val (.ref bb78), .val (.ref bb81), .val (.ref b86), .val (.int ix), .unset] [(.int p0)]) _
        refine Go.of (fun tg_ kk_ => XS.iload X95.here hx rfl (hb hby at_103) rfl kk_) ?_
        show Go p e below T95 (mkF m 105 #[.val (.int p0), .val (.int p1), .val (.int p2), .val (.int p3), .val (.int p4), .val (.int (2 : Int32)), .val (.int (0 : Int32)), .val (.int (0 : Int32)), .val (.ref bb78), .val (.ref bb81), .val (.ref b86), .val (.int ix), .unset] [(.int ix), (.int p0)]) _
        refine Go.of (fun tg_ kk_ => XS.iushr X95.here hx rfl (hb hby at_105) rfl kk_) ?_
        show Go p e below T95 (mkF m 106 #[.val (.int p0), .val (.int p1), .val (.int p2), .val (.int p3), .val (.int p4), .val (.int (2 : Int32)), .val (.int (0 : Int32)), .val (.int (0 : Int32)), .val (.ref bb78), .val (.ref bb81), .val (.ref b86), .val (.int ix), .unset] [(.int ((p0.toUInt32 >>> (ix &&& 31).toUInt32).toInt32))]) _
        refine Go.of (fun tg_ kk_ => XS.iconst X95.here hx rfl (hb hby at_106) kk_) ?_
        show Go p e below T95 (mkF m 107 #[.val (.int p0), .val (.int p1), .val (.int p2), .val (.int p3), .val (.int p4), .val (.int (2 : Int32)), .val (.int (0 : Int32)), .val (.int (0 : Int32)), .val (.ref bb78), .val (.ref bb81), .val (.ref b86), .val (.int ix), .unset] [(.int (1 : Int32)), (.int ((p0.toUInt32 >>> (ix &&& 31).toUInt32).toInt32))]) _
        refine Go.of (fun tg_ kk_ => XS.iand X95.here hx rfl (hb hby at_107) rfl kk_) ?_
        show Go p e below T95 (mkF m 108 #[.val (.int p0), .val (.int p1), .val (.int p2), .val (.int p3), .val (.int p4), .val (.int (2 : Int32)), .val (.int (0 : Int32)), .val (.int (0 : Int32)), .val (.ref bb78), .val (.ref bb81), .val (.ref b86), .val (.int ix), .unset] [(.int (((p0.toUInt32 >>> (ix &&& 31).toUInt32).toInt32) &&& (1 : Int32)))]) _
        have st103 : ∀ ex : Int32, ex = (if (((p0.toUInt32 >>> (ix &&& 31).toUInt32).toInt32) &&& (1 : Int32)) = (0 : Int32) then (0 : Int32) else (1 : Int32)) → ∀ t, Steps p.tables e below (T95.setTop (mkF m 116 #[.val (.int p0), .val (.int p1), .val (.int p2), .val (.int p3), .val (.int p4), .val (.int (2 : Int32)), .val (.int (0 : Int32)), .val (.int (0 : Int32)), .val (.ref bb78), .val (.ref bb81), .val (.ref b86), .val (.int ix), .unset] [(.int ex)])) t → Steps p.tables e below (T95.setTop (mkF m 108 #[.val (.int p0), .val (.int p1), .val (.int p2), .val (.int p3), .val (.int p4), .val (.int (2 : Int32)), .val (.int (0 : Int32)), .val (.int (0 : Int32)), .val (.ref bb78), .val (.ref bb81), .val (.ref b86), .val (.int ix), .unset] [(.int (((p0.toUInt32 >>> (ix &&& 31).toUInt32).toInt32) &&& (1 : Int32)))])) t := by
          intro ex qex tg_ kk_
          by_cases hc : (((p0.toUInt32 >>> (ix &&& 31).toUInt32).toInt32) &&& (1 : Int32)) = (0 : Int32)
          · rw [if_pos hc] at qex; rw [qex] at kk_
            show Steps p.tables e below (T95.setTop (mkF m 108 #[.val (.int p0), .val (.int p1), .val (.int p2), .val (.int p3), .val (.int p4), .val (.int (2 : Int32)), .val (.int (0 : Int32)), .val (.int (0 : Int32)), .val (.ref bb78), .val (.ref bb81), .val (.ref b86), .val (.int ix), .unset] [(.int (((p0.toUInt32 >>> (ix &&& 31).toUInt32).toInt32) &&& (1 : Int32)))])) _
            refine XS.ifYes X95.here hx rfl (pc0 := 108) (pc' := 115) rfl (hb hby at_108) rfl ((if0 _ _).trans (teq hc).1) (by decide) (by decide) ?_
            show Steps p.tables e below (T95.setTop (mkF m 115 #[.val (.int p0), .val (.int p1), .val (.int p2), .val (.int p3), .val (.int p4), .val (.int (2 : Int32)), .val (.int (0 : Int32)), .val (.int (0 : Int32)), .val (.ref bb78), .val (.ref bb81), .val (.ref b86), .val (.int ix), .unset] [])) _
            refine XS.iconst X95.here hx rfl (hb hby at_115) ?_
            show Steps p.tables e below (T95.setTop (mkF m 116 #[.val (.int p0), .val (.int p1), .val (.int p2), .val (.int p3), .val (.int p4), .val (.int (2 : Int32)), .val (.int (0 : Int32)), .val (.int (0 : Int32)), .val (.ref bb78), .val (.ref bb81), .val (.ref b86), .val (.int ix), .unset] [(.int (0 : Int32))])) _
            exact kk_
          · rw [if_neg hc] at qex; rw [qex] at kk_
            show Steps p.tables e below (T95.setTop (mkF m 108 #[.val (.int p0), .val (.int p1), .val (.int p2), .val (.int p3), .val (.int p4), .val (.int (2 : Int32)), .val (.int (0 : Int32)), .val (.int (0 : Int32)), .val (.ref bb78), .val (.ref bb81), .val (.ref b86), .val (.int ix), .unset] [(.int (((p0.toUInt32 >>> (ix &&& 31).toUInt32).toInt32) &&& (1 : Int32)))])) _
            refine XS.ifNo X95.here hx rfl (hb hby at_108) rfl ((if0 _ _).trans (feq hc).1) ?_
            show Steps p.tables e below (T95.setTop (mkF m 111 #[.val (.int p0), .val (.int p1), .val (.int p2), .val (.int p3), .val (.int p4), .val (.int (2 : Int32)), .val (.int (0 : Int32)), .val (.int (0 : Int32)), .val (.ref bb78), .val (.ref bb81), .val (.ref b86), .val (.int ix), .unset] [])) _
            refine XS.iconst X95.here hx rfl (hb hby at_111) ?_
            show Steps p.tables e below (T95.setTop (mkF m 112 #[.val (.int p0), .val (.int p1), .val (.int p2), .val (.int p3), .val (.int p4), .val (.int (2 : Int32)), .val (.int (0 : Int32)), .val (.int (0 : Int32)), .val (.ref bb78), .val (.ref bb81), .val (.ref b86), .val (.int ix), .unset] [(.int (1 : Int32))])) _
            refine XS.goto X95.here hx rfl (pc0 := 112) (pc' := 116) rfl (hb hby at_112) (by decide) (by decide) ?_
            show Steps p.tables e below (T95.setTop (mkF m 116 #[.val (.int p0), .val (.int p1), .val (.int p2), .val (.int p3), .val (.int p4), .val (.int (2 : Int32)), .val (.int (0 : Int32)), .val (.int (0 : Int32)), .val (.ref bb78), .val (.ref bb81), .val (.ref b86), .val (.int ix), .unset] [(.int (1 : Int32))])) _
            exact kk_
        obtain ⟨ex, qex⟩ : ∃ z : Int32, z = (if (((p0.toUInt32 >>> (ix &&& 31).toUInt32).toInt32) &&& (1 : Int32)) = (0 : Int32) then (0 : Int32) else (1 : Int32)) := ⟨_, rfl⟩
        refine Go.of (st103 ex qex) ?_
        show Go p e below T95 (mkF m 116 #[.val (.int p0), .val (.int p1), .val (.int p2), .val (.int p3), .val (.int p4), .val (.int (2 : Int32)), .val (.int (0 : Int32)), .val (.int (0 : Int32)), .val (.ref bb78), .val (.ref bb81), .val (.ref b86), .val (.int ix), .unset] [(.int ex)]) _
        refine Go.of (fun tg_ kk_ => XS.istore X95.here hx rfl (hb hby at_116) rfl (l' := #[.val (.int p0), .val (.int p1), .val (.int p2), .val (.int p3), .val (.int p4), .val (.int (2 : Int32)), .val (.int (0 : Int32)), .val (.int (0 : Int32)), .val (.ref bb78), .val (.ref bb81), .val (.ref b86), .val (.int ix), .val (.int ex)]) rfl kk_) ?_
        show Go p e below T95 (mkF m 118 #[.val (.int p0), .val (.int p1), .val (.int p2), .val (.int p3), .val (.int p4), .val (.int (2 : Int32)), .val (.int (0 : Int32)), .val (.int (0 : Int32)), .val (.ref bb78), .val (.ref bb81), .val (.ref b86), .val (.int ix), .val (.int ex)] []) _
        refine Go.of (fun tg_ kk_ => XS.aload X95.here hx rfl (hb hby at_118) rfl rfl kk_) ?_
        show Go p e below T95 (mkF m 120 #[.val (.int p0), .val (.int p1), .val (.int p2), .val (.int p3), .val (.int p4), .val (.int (2 : Int32)), .val (.int (0 : Int32)), .val (.int (0 : Int32)), .val (.ref bb78), .val (.ref bb81), .val (.ref b86), .val (.int ix), .val (.int ex)] [(.ref b86)]) _
        refine Go.of (fun tg_ kk_ => XS.iload X95.here hx rfl (hb hby at_120) rfl kk_) ?_
        show Go p e below T95 (mkF m 122 #[.val (.int p0), .val (.int p1), .val (.int p2), .val (.int p3), .val (.int p4), .val (.int (2 : Int32)), .val (.int (0 : Int32)), .val (.int (0 : Int32)), .val (.ref bb78), .val (.ref bb81), .val (.ref b86), .val (.int ix), .val (.int ex)] [(.int ix), (.ref b86)]) _
        obtain ⟨cq104, kq104, q104a, q104b, q104c⟩ := isOf hZ rfl F98
        obtain ⟨_, _, ⟨T104, L104, k104, n104⟩, -, X104, ⟨Lc104, hQ104, l104, y104, z104⟩, st104⟩ := X95.virtualBack hx (y := (⟨"com/example/planwright/planwright/planner/SharedAtoms$Among", "weighs", "(I)Z"⟩ : MethodName)) (z := (⟨"com/example/planwright/planwright/planner/SharedAtoms$Among", "weighs", "(I)Z"⟩ : MethodName)) hown (mvT hZ (hw _ (List.mem_of_getElem? (i := 23) rfl))) (mvT hZ (hw _ (List.mem_of_getElem? (i := 24) rfl))) (notFace_of_selects (args := #[]) (mvT hZ (hw _ (List.mem_of_getElem? (i := 26) rfl)))) (mvT hZ (hw _ (List.mem_of_getElem? (i := 26) rfl))) (mvT hZ (hw _ (List.mem_of_getElem? (i := 25) rfl))) (by decide) (backOf (W := 0) (rm5 l Z a0 hw [] b86 ix bb78 (bitsF p0) 2 T95.heap n0 Zs102 F95a F96 hin) hZ (hw _ (List.mem_of_getElem? (i := 27) rfl)) (hw _ (List.mem_of_getElem? (i := 7) rfl)) (by decide) (by decide)) q104a q104c (g := (mkF m 122 #[.val (.int p0), .val (.int p1), .val (.int p2), .val (.int p3), .val (.int p4), .val (.int (2 : Int32)), .val (.int (0 : Int32)), .val (.int (0 : Int32)), .val (.ref bb78), .val (.ref bb81), .val (.ref b86), .val (.int ix), .val (.int ex)] [(.int ix), (.ref b86)])) rfl (by rw [hml]; rfl) (Steps.refl _) (argsL := [(.int ix)]) (rest := []) (lenOf pd_3 rfl) rfl (by show 2 * 0 + _ ≤ _; exact Nat.le_of_eq rfl) (hb hby at_122) (fun _ _ => ⟨rfl, rfl, (by decide : 3 + 0 ≤ _), (by decide : 6 + 0 ≤ _)⟩)
        dsimp only [Pt.U, Pt.locs, Pt.cells, Pt.slots] at X104 l104 y104 z104 st104 hQ104
        subst l104 y104 z104
        obtain ⟨rfl, N104q, e104⟩ := hQ104
        have N104 := Fr.app N95 N104q
        refine Go.of (fun tg_ kk_ => st104.trans kk_) ?_
        show Go p e below T104 (mkF m 125 #[.val (.int p0), .val (.int p1), .val (.int p2), .val (.int p3), .val (.int p4), .val (.int (2 : Int32)), .val (.int (0 : Int32)), .val (.int (0 : Int32)), .val (.ref bb78), .val (.ref bb81), .val (.ref b86), .val (.int ix), .val (.int ex)] [(.int (if bitsF p0 (ix).toNatClampNeg = 0 then (0 : Int32) else (1 : Int32)))]) _
        refine Go.of (fun tg_ kk_ => XS.iload X104.here hx rfl (hb hby at_125) rfl kk_) ?_
        show Go p e below T104 (mkF m 127 #[.val (.int p0), .val (.int p1), .val (.int p2), .val (.int p3), .val (.int p4), .val (.int (2 : Int32)), .val (.int (0 : Int32)), .val (.int (0 : Int32)), .val (.ref bb78), .val (.ref bb81), .val (.ref b86), .val (.int ix), .val (.int ex)] [(.int ex), (.int (if bitsF p0 (ix).toNatClampNeg = 0 then (0 : Int32) else (1 : Int32)))]) _
        refine Go.of (fun tg_ kk_ => XS.icmpNo X104.here hx rfl (hb hby at_127) rfl (teq (show (if bitsF p0 (ix).toNatClampNeg = 0 then (0 : Int32) else (1 : Int32)) = ex from (by rw [qex]; exact own_weighs p0 ix hin4))).2 kk_) ?_
        show Go p e below T104 (mkF m 130 #[.val (.int p0), .val (.int p1), .val (.int p2), .val (.int p3), .val (.int p4), .val (.int (2 : Int32)), .val (.int (0 : Int32)), .val (.int (0 : Int32)), .val (.ref bb78), .val (.ref bb81), .val (.ref b86), .val (.int ix), .val (.int ex)] []) _
        refine Go.of (fun tg_ kk_ => XS.iconst X104.here hx rfl (hb hby at_130) kk_) ?_
        show Go p e below T104 (mkF m 131 #[.val (.int p0), .val (.int p1), .val (.int p2), .val (.int p3), .val (.int p4), .val (.int (2 : Int32)), .val (.int (0 : Int32)), .val (.int (0 : Int32)), .val (.ref bb78), .val (.ref bb81), .val (.ref b86), .val (.int ix), .val (.int ex)] [(.int (1 : Int32))]) _
        refine Go.of (fun tg_ kk_ => XS.goto X104.here hx rfl (pc0 := 131) (pc' := 135) rfl (hb hby at_131) (by decide) (by decide) kk_) ?_
        show Go p e below T104 (mkF m 135 #[.val (.int p0), .val (.int p1), .val (.int p2), .val (.int p3), .val (.int p4), .val (.int (2 : Int32)), .val (.int (0 : Int32)), .val (.int (0 : Int32)), .val (.ref bb78), .val (.ref bb81), .val (.ref b86), .val (.int ix), .val (.int ex)] [(.int (1 : Int32))]) _
        obtain ⟨fs, hr, hrun, hended, hW, hsame⟩ := X104.leave (v := some (.int (1 : Int32))) (fun h => by rw [Bd.returns] at h; cases h)
        refine ⟨_, _, ?_, hrun, hended, _, _, rfl, ?_, ⟨_, rfl⟩, hW, hsame.mono (by decide) (by decide)⟩
        · exact retN X104 hx (t := .boolean) Bd.returns (by simp) (hb hby at_135) hr
        · show Q0 Z p0 p1 p2 p3 p4 h0 n0 _ T104.heap _
          rw [e104]
          exact ⟨rfl, N104⟩
      · skip
        refine Go.of (fun tg_ kk_ => XS.ifNo X0.here hx rfl (hb hby at_23) rfl ((if0 _ _).trans (feq he0).1) kk_) ?_
        show Go p e below s₁ (mkF m 26 #[.val (.int p0), .val (.int p1), .val (.int p2), .val (.int p3), .val (.int p4), .val (.int (2 : Int32)), .val (.int (0 : Int32)), .unset, .unset, .unset, .unset, .unset, .unset] []) _
        refine Go.of (fun tg_ kk_ => XS.iconst X0.here hx rfl (hb hby at_26) kk_) ?_
        show Go p e below s₁ (mkF m 27 #[.val (.int p0), .val (.int p1), .val (.int p2), .val (.int p3), .val (.int p4), .val (.int (2 : Int32)), .val (.int (0 : Int32)), .unset, .unset, .unset, .unset, .unset, .unset] [(.int (1 : Int32))]) _
        refine Go.of (fun tg_ kk_ => XS.goto X0.here hx rfl (pc0 := 27) (pc' := 31) rfl (hb hby at_27) (by decide) (by decide) kk_) ?_
        show Go p e below s₁ (mkF m 31 #[.val (.int p0), .val (.int p1), .val (.int p2), .val (.int p3), .val (.int p4), .val (.int (2 : Int32)), .val (.int (0 : Int32)), .unset, .unset, .unset, .unset, .unset, .unset] [(.int (1 : Int32))]) _
        refine Go.of (fun tg_ kk_ => XS.istore X0.here hx rfl (hb hby at_31) rfl (l' := #[.val (.int p0), .val (.int p1), .val (.int p2), .val (.int p3), .val (.int p4), .val (.int (2 : Int32)), .val (.int (0 : Int32)), .val (.int (1 : Int32)), .unset, .unset, .unset, .unset, .unset]) rfl kk_) ?_
        show Go p e below s₁ (mkF m 33 #[.val (.int p0), .val (.int p1), .val (.int p2), .val (.int p3), .val (.int p4), .val (.int (2 : Int32)), .val (.int (0 : Int32)), .val (.int (1 : Int32)), .unset, .unset, .unset, .unset, .unset] []) _
        refine Go.of (fun tg_ kk_ => XS.iload X0.here hx rfl (hb hby at_33) rfl kk_) ?_
        show Go p e below s₁ (mkF m 35 #[.val (.int p0), .val (.int p1), .val (.int p2), .val (.int p3), .val (.int p4), .val (.int (2 : Int32)), .val (.int (0 : Int32)), .val (.int (1 : Int32)), .unset, .unset, .unset, .unset, .unset] [(.int (0 : Int32))]) _
        refine Go.of (fun tg_ kk_ => XS.ifYes X0.here hx rfl (pc0 := 35) (pc' := 42) rfl (hb hby at_35) rfl ((if0 _ _).trans (teq (show (0 : Int32) = (0 : Int32) by decide)).1) (by decide) (by decide) kk_) ?_
        show Go p e below s₁ (mkF m 42 #[.val (.int p0), .val (.int p1), .val (.int p2), .val (.int p3), .val (.int p4), .val (.int (2 : Int32)), .val (.int (0 : Int32)), .val (.int (1 : Int32)), .unset, .unset, .unset, .unset, .unset] []) _
        refine Go.of (fun tg_ kk_ => XS.iload X0.here hx rfl (hb hby at_42) rfl kk_) ?_
        show Go p e below s₁ (mkF m 44 #[.val (.int p0), .val (.int p1), .val (.int p2), .val (.int p3), .val (.int p4), .val (.int (2 : Int32)), .val (.int (0 : Int32)), .val (.int (1 : Int32)), .unset, .unset, .unset, .unset, .unset] [(.int (2 : Int32))]) _
        refine Go.of (fun tg_ kk_ => XS.iloadN X0.here hx rfl (hb hby at_44) rfl kk_) ?_
        show Go p e below s₁ (mkF m 45 #[.val (.int p0), .val (.int p1), .val (.int p2), .val (.int p3), .val (.int p4), .val (.int (2 : Int32)), .val (.int (0 : Int32)), .val (.int (1 : Int32)), .unset, .unset, .unset, .unset, .unset] [(.int p0), (.int (2 : Int32))]) _
        obtain ⟨_, _, ⟨T105, L105, k105, n105⟩, -, X105, ⟨Lc105, hQ105, l105, y105, z105⟩, st105⟩ := Jvm.LawKit.callS X0 hx (y := (⟨"com/example/planwright/planwright/planner/AmongWeighsPinLaw", "fill", "(II)[Z"⟩ : MethodName)) hown (mvT hZ (hw _ (List.mem_of_getElem? (i := 0) rfl))) (mvT hZ (hw _ (List.mem_of_getElem? (i := 1) rfl))) (mvT hZ (hw _ (List.mem_of_getElem? (i := 2) rfl))) (mvT hZ (hw _ (List.mem_of_getElem? (i := 3) rfl))) (by decide) (backOf (W := 0) (rm1_2 l Z a0 hw [] p0 h0 n0 Z0) hZ (hw _ (List.mem_of_getElem? (i := 3) rfl)) (hw _ (List.mem_of_getElem? (i := 2) rfl)) (by decide) (by decide)) (g := (mkF m 45 #[.val (.int p0), .val (.int p1), .val (.int p2), .val (.int p3), .val (.int p4), .val (.int (2 : Int32)), .val (.int (0 : Int32)), .val (.int (1 : Int32)), .unset, .unset, .unset, .unset, .unset] [(.int p0), (.int (2 : Int32))])) rfl (by rw [hml]; rfl) (argsL := [(.int (2 : Int32)), (.int p0)]) (rest := []) (lenOf pd_1 rfl) rfl (by show 2 * 0 + _ ≤ _; exact Nat.le_of_eq rfl) (hb hby at_45) (fun _ _ => ⟨rfl, e0, (by decide : 0 + 1 ≤ _), (by decide : 0 + 2 ≤ _)⟩)
        dsimp only [Pt.U, Pt.locs, Pt.cells, Pt.slots] at X105 l105 y105 z105 st105 hQ105
        subst l105 y105 z105
        obtain ⟨bb105, rfl, N105q, K105q, sz105, gx105, V105⟩ := hQ105
        have N105 := Fr.app N0 N105q
        have sy105 : h0.size ≤ bb105 := Nat.le_trans K0.1 sz105
        have K106 := K0.trans K105q all0
        have Zs107 : n0 ≤ T105.heap.size := Nat.le_trans Z0 K105q.1
        refine Go.of (st105) ?_
        show Go p e below T105 (mkF m 48 #[.val (.int p0), .val (.int p1), .val (.int p2), .val (.int p3), .val (.int p4), .val (.int (2 : Int32)), .val (.int (0 : Int32)), .val (.int (1 : Int32)), .unset, .unset, .unset, .unset, .unset] [(.ref bb105)]) _
        refine Go.of (fun tg_ kk_ => XS.astore X105.here hx rfl (hb hby at_48) rfl rfl (l' := #[.val (.int p0), .val (.int p1), .val (.int p2), .val (.int p3), .val (.int p4), .val (.int (2 : Int32)), .val (.int (0 : Int32)), .val (.int (1 : Int32)), .val (.ref bb105), .unset, .unset, .unset, .unset]) rfl kk_) ?_
        show Go p e below T105 (mkF m 50 #[.val (.int p0), .val (.int p1), .val (.int p2), .val (.int p3), .val (.int p4), .val (.int (2 : Int32)), .val (.int (0 : Int32)), .val (.int (1 : Int32)), .val (.ref bb105), .unset, .unset, .unset, .unset] []) _
        refine Go.of (fun tg_ kk_ => XS.iload X105.here hx rfl (hb hby at_50) rfl kk_) ?_
        show Go p e below T105 (mkF m 52 #[.val (.int p0), .val (.int p1), .val (.int p2), .val (.int p3), .val (.int p4), .val (.int (2 : Int32)), .val (.int (0 : Int32)), .val (.int (1 : Int32)), .val (.ref bb105), .unset, .unset, .unset, .unset] [(.int (1 : Int32))]) _
        refine Go.of (fun tg_ kk_ => XS.ifNo X105.here hx rfl (hb hby at_52) rfl ((if0 _ _).trans (feq (show ¬ ((1 : Int32) = (0 : Int32)) by decide)).1) kk_) ?_
        show Go p e below T105 (mkF m 55 #[.val (.int p0), .val (.int p1), .val (.int p2), .val (.int p3), .val (.int p4), .val (.int (2 : Int32)), .val (.int (0 : Int32)), .val (.int (1 : Int32)), .val (.ref bb105), .unset, .unset, .unset, .unset] []) _
        refine Go.of (fun tg_ kk_ => XS.aconstNull X105.here hx rfl (hb hby at_55) kk_) ?_
        show Go p e below T105 (mkF m 56 #[.val (.int p0), .val (.int p1), .val (.int p2), .val (.int p3), .val (.int p4), .val (.int (2 : Int32)), .val (.int (0 : Int32)), .val (.int (1 : Int32)), .val (.ref bb105), .unset, .unset, .unset, .unset] [.null]) _
        refine Go.of (fun tg_ kk_ => XS.goto X105.here hx rfl (pc0 := 56) (pc' := 66) rfl (hb hby at_56) (by decide) (by decide) kk_) ?_
        show Go p e below T105 (mkF m 66 #[.val (.int p0), .val (.int p1), .val (.int p2), .val (.int p3), .val (.int p4), .val (.int (2 : Int32)), .val (.int (0 : Int32)), .val (.int (1 : Int32)), .val (.ref bb105), .unset, .unset, .unset, .unset] [.null]) _
        refine Go.of (fun tg_ kk_ => XS.astore X105.here hx rfl (hb hby at_66) rfl rfl (l' := #[.val (.int p0), .val (.int p1), .val (.int p2), .val (.int p3), .val (.int p4), .val (.int (2 : Int32)), .val (.int (0 : Int32)), .val (.int (1 : Int32)), .val (.ref bb105), .val .null, .unset, .unset, .unset]) rfl kk_) ?_
        show Go p e below T105 (mkF m 68 #[.val (.int p0), .val (.int p1), .val (.int p2), .val (.int p3), .val (.int p4), .val (.int (2 : Int32)), .val (.int (0 : Int32)), .val (.int (1 : Int32)), .val (.ref bb105), .val .null, .unset, .unset, .unset] []) _
        obtain ⟨T108, h108, X108, e108, E108, A108, D108, -, st108⟩ := newO X105 hx hZ hown (hw _ (List.mem_of_getElem? (i := 5) rfl)) (hw _ (List.mem_of_getElem? (i := 6) rfl)) (hw _ (List.mem_of_getElem? (i := 7) rfl)) rfl (g := (mkF m 68 #[.val (.int p0), .val (.int p1), .val (.int p2), .val (.int p3), .val (.int p4), .val (.int (2 : Int32)), .val (.int (0 : Int32)), .val (.int (1 : Int32)), .val (.ref bb105), .val .null, .unset, .unset, .unset] [])) rfl (hb hby at_68) (by decide) (by decide)
        obtain ⟨b108, g108⟩ : ∃ z, z = T105.heap.size := ⟨_, rfl⟩
        rw [← g108] at A108 D108 st108
        have gx108 : n0 ≤ b108 := Nat.le_trans Zs107 (Nat.le_of_eq g108.symm)
        have sz108 : h0.size ≤ b108 := Nat.le_trans K106.1 (Nat.le_of_eq g108.symm)
        have ne109 : bb105 ≠ b108 := Nat.ne_of_lt (Nat.lt_of_lt_of_le V105.lt (Nat.le_of_eq g108.symm))
        have F110 := V105.ext E108
        have K111 := K106.ext E108
        have Zs112 : n0 ≤ h108.size := Nat.le_trans Zs107 E108.1
        have F113 : Fld Z h108 b108 "com/example/planwright/planwright/planner/SharedAtoms$Among" "weighed" "[Z" .null := D108 (Or.inr (hw _ (List.mem_of_getElem? (i := 20) rfl))) (ty := (.array .boolean)) (by decide)
        have F114 : Fld Z h108 b108 "com/example/planwright/planwright/planner/SharedAtoms$Among" "elsewhere" "[Z" .null := D108 (Or.inr (hw _ (List.mem_of_getElem? (i := 22) rfl))) (ty := (.array .boolean)) (by decide)
        refine Go.of (st108) ?_
        show Go p e below T108 (mkF m 71 #[.val (.int p0), .val (.int p1), .val (.int p2), .val (.int p3), .val (.int p4), .val (.int (2 : Int32)), .val (.int (0 : Int32)), .val (.int (1 : Int32)), .val (.ref bb105), .val .null, .unset, .unset, .unset] [(.ref b108)]) _
        refine Go.of (fun tg_ kk_ => XS.dup X108.here hx rfl (hb hby at_71) rfl rfl kk_) ?_
        show Go p e below T108 (mkF m 72 #[.val (.int p0), .val (.int p1), .val (.int p2), .val (.int p3), .val (.int p4), .val (.int (2 : Int32)), .val (.int (0 : Int32)), .val (.int (1 : Int32)), .val (.ref bb105), .val .null, .unset, .unset, .unset] [(.ref b108), (.ref b108)]) _
        refine Go.of (fun tg_ kk_ => XS.aload X108.here hx rfl (hb hby at_72) rfl rfl kk_) ?_
        show Go p e below T108 (mkF m 74 #[.val (.int p0), .val (.int p1), .val (.int p2), .val (.int p3), .val (.int p4), .val (.int (2 : Int32)), .val (.int (0 : Int32)), .val (.int (1 : Int32)), .val (.ref bb105), .val .null, .unset, .unset, .unset] [(.ref bb105), (.ref b108), (.ref b108)]) _
        refine Go.of (fun tg_ kk_ => XS.aload X108.here hx rfl (hb hby at_74) rfl rfl kk_) ?_
        show Go p e below T108 (mkF m 76 #[.val (.int p0), .val (.int p1), .val (.int p2), .val (.int p3), .val (.int p4), .val (.int (2 : Int32)), .val (.int (0 : Int32)), .val (.int (1 : Int32)), .val (.ref bb105), .val .null, .unset, .unset, .unset] [.null, (.ref bb105), (.ref b108), (.ref b108)]) _
        obtain ⟨_, _, ⟨T115, L115, k115, n115⟩, -, X115, ⟨Lc115, hQ115, l115, y115, z115⟩, st115⟩ := X108.specialBack hx (y := (⟨"com/example/planwright/planwright/planner/SharedAtoms$Among", "<init>", "([Z[Z)V"⟩ : MethodName)) rfl hown (mvT hZ (hw _ (List.mem_of_getElem? (i := 8) rfl))) (mvT hZ (hw _ (List.mem_of_getElem? (i := 9) rfl))) (mvT hZ (hw _ (List.mem_of_getElem? (i := 10) rfl))) (by decide) (backOf (W := 1) (rm2_01 l Z a0 hw [] b108 bb105 h108 n0 Zs112 gx108 A108 F113 F114) hZ (hw _ (List.mem_of_getElem? (i := 10) rfl)) (hw _ (List.mem_of_getElem? (i := 7) rfl)) (by decide) (by decide)) (g := (mkF m 76 #[.val (.int p0), .val (.int p1), .val (.int p2), .val (.int p3), .val (.int p4), .val (.int (2 : Int32)), .val (.int (0 : Int32)), .val (.int (1 : Int32)), .val (.ref bb105), .val .null, .unset, .unset, .unset] [.null, (.ref bb105), (.ref b108), (.ref b108)])) rfl (by rw [hml]; rfl) (Steps.refl _) (a := b108) (argsL := [(.ref bb105), .null]) (rest := [(.ref b108)]) (lenOf pd_2 rfl) rfl (by show 2 * 0 + _ ≤ _; exact Nat.le_of_eq rfl) (hb hby at_76) (fun _ _ => ⟨rfl, e108, (by decide : 2 + 0 ≤ _), (by decide : 4 + 0 ≤ _)⟩)
        dsimp only [Pt.U, Pt.locs, Pt.cells, Pt.slots] at X115 l115 y115 z115 st115 hQ115
        subst l115 y115 z115
        obtain ⟨rfl, N115q, K115q, F115a⟩ := hQ115
        have N115 := Fr.app N105 N115q
        have F116 := F110.keep K115q (ninS ne109 nin0)
        have F117 := A108.keep K115q
        have K120 := K111.trans K115q (allS (Or.inr sz108) all0)
        have Zs121 : n0 ≤ T115.heap.size := Nat.le_trans Zs112 K115q.1
        refine Go.of (fun tg_ kk_ => st115.trans kk_) ?_
        show Go p e below T115 (mkF m 79 #[.val (.int p0), .val (.int p1), .val (.int p2), .val (.int p3), .val (.int p4), .val (.int (2 : Int32)), .val (.int (0 : Int32)), .val (.int (1 : Int32)), .val (.ref bb105), .val .null, .unset, .unset, .unset] [(.ref b108)]) _
        refine Go.of (fun tg_ kk_ => XS.astore X115.here hx rfl (hb hby at_79) rfl rfl (l' := #[.val (.int p0), .val (.int p1), .val (.int p2), .val (.int p3), .val (.int p4), .val (.int (2 : Int32)), .val (.int (0 : Int32)), .val (.int (1 : Int32)), .val (.ref bb105), .val .null, .val (.ref b108), .unset, .unset]) rfl kk_) ?_
        show Go p e below T115 (mkF m 81 #[.val (.int p0), .val (.int p1), .val (.int p2), .val (.int p3), .val (.int p4), .val (.int (2 : Int32)), .val (.int (0 : Int32)), .val (.int (1 : Int32)), .val (.ref bb105), .val .null, .val (.ref b108), .unset, .unset] []) _
        refine Go.of (fun tg_ kk_ => XS.iload X115.here hx rfl (hb hby at_81) rfl kk_) ?_
        show Go p e below T115 (mkF m 83 #[.val (.int p0), .val (.int p1), .val (.int p2), .val (.int p3), .val (.int p4), .val (.int (2 : Int32)), .val (.int (0 : Int32)), .val (.int (1 : Int32)), .val (.ref bb105), .val .null, .val (.ref b108), .unset, .unset] [(.int (0 : Int32))]) _
        refine Go.of (fun tg_ kk_ => XS.ifYes X115.here hx rfl (pc0 := 83) (pc' := 93) rfl (hb hby at_83) rfl ((if0 _ _).trans (teq (show (0 : Int32) = (0 : Int32) by decide)).1) (by decide) (by decide) kk_) ?_
        show Go p e below T115 (mkF m 93 #[.val (.int p0), .val (.int p1), .val (.int p2), .val (.int p3), .val (.int p4), .val (.int (2 : Int32)), .val (.int (0 : Int32)), .val (.int (1 : Int32)), .val (.ref bb105), .val .null, .val (.ref b108), .unset, .unset] []) _
        refine Go.of (fun tg_ kk_ => XS.iloadN X115.here hx rfl (hb hby at_93) rfl kk_) ?_
        show Go p e below T115 (mkF m 94 #[.val (.int p0), .val (.int p1), .val (.int p2), .val (.int p3), .val (.int p4), .val (.int (2 : Int32)), .val (.int (0 : Int32)), .val (.int (1 : Int32)), .val (.ref bb105), .val .null, .val (.ref b108), .unset, .unset] [(.int p2)]) _
        refine Go.of (X115.ldcInt hx hown (mvT hZ (hw _ (List.mem_of_getElem? (i := 28) rfl))) (g := (mkF m 94 #[.val (.int p0), .val (.int p1), .val (.int p2), .val (.int p3), .val (.int p4), .val (.int (2 : Int32)), .val (.int (0 : Int32)), .val (.int (1 : Int32)), .val (.ref bb105), .val .null, .val (.ref b108), .unset, .unset] [(.int p2)])) rfl (hb hby at_94)) ?_
        show Go p e below T115 (mkF m 96 #[.val (.int p0), .val (.int p1), .val (.int p2), .val (.int p3), .val (.int p4), .val (.int (2 : Int32)), .val (.int (0 : Int32)), .val (.int (1 : Int32)), .val (.ref bb105), .val .null, .val (.ref b108), .unset, .unset] [(.int (2147483647 : Int32)), (.int p2)]) _
        refine Go.of (fun tg_ kk_ => XS.iand X115.here hx rfl (hb hby at_96) rfl kk_) ?_
        show Go p e below T115 (mkF m 97 #[.val (.int p0), .val (.int p1), .val (.int p2), .val (.int p3), .val (.int p4), .val (.int (2 : Int32)), .val (.int (0 : Int32)), .val (.int (1 : Int32)), .val (.ref bb105), .val .null, .val (.ref b108), .unset, .unset] [(.int (p2 &&& (2147483647 : Int32)))]) _
        refine Go.of (fun tg_ kk_ => XS.iload X115.here hx rfl (hb hby at_97) rfl kk_) ?_
        show Go p e below T115 (mkF m 99 #[.val (.int p0), .val (.int p1), .val (.int p2), .val (.int p3), .val (.int p4), .val (.int (2 : Int32)), .val (.int (0 : Int32)), .val (.int (1 : Int32)), .val (.ref bb105), .val .null, .val (.ref b108), .unset, .unset] [(.int (2 : Int32)), (.int (p2 &&& (2147483647 : Int32)))]) _
        refine Go.of (fun tg_ kk_ => Jvm.RoadKit.iremM (g := (mkF m 99 #[.val (.int p0), .val (.int p1), .val (.int p2), .val (.int p3), .val (.int p4), .val (.int (2 : Int32)), .val (.int (0 : Int32)), .val (.int (1 : Int32)), .val (.ref bb105), .val .null, .val (.ref b108), .unset, .unset] [(.int (2 : Int32)), (.int (p2 &&& (2147483647 : Int32)))])) X115 hx rfl (hb hby at_99) rfl (by decide) kk_) ?_
        show Go p e below T115 (mkF m 100 #[.val (.int p0), .val (.int p1), .val (.int p2), .val (.int p3), .val (.int p4), .val (.int (2 : Int32)), .val (.int (0 : Int32)), .val (.int (1 : Int32)), .val (.ref bb105), .val .null, .val (.ref b108), .unset, .unset] [(.int ((p2 &&& (2147483647 : Int32)) % (2 : Int32)))]) _
        obtain ⟨ix, qix⟩ : ∃ z : Int32, z = ((p2 &&& (2147483647 : Int32)) % (2 : Int32)) := ⟨_, rfl⟩
        rw [← qix]
        show Go p e below T115 (mkF m 100 #[.val (.int p0), .val (.int p1), .val (.int p2), .val (.int p3), .val (.int p4), .val (.int (2 : Int32)), .val (.int (0 : Int32)), .val (.int (1 : Int32)), .val (.ref bb105), .val .null, .val (.ref b108), .unset, .unset] [(.int ix)]) _
        have hin : ¬ (ix < 0) ∧ (ix).toNatClampNeg < 2 := by rw [qix]; exact own_in p2 (2 : Int32) 2 (by decide) (by decide)
        have hin4 : ¬ (ix < 0) ∧ (ix).toNatClampNeg < 4 := ⟨hin.1, by omega⟩
        refine Go.of (fun tg_ kk_ => XS.istore X115.here hx rfl (hb hby at_100) rfl (l' := #[.val (.int p0), .val (.int p1), .val (.int p2), .val (.int p3), .val (.int p4), .val (.int (2 : Int32)), .val (.int (0 : Int32)), .val (.int (1 : Int32)), .val (.ref bb105), .val .null, .val (.ref b108), .val (.int ix), .unset]) rfl kk_) ?_
        show Go p e below T115 (mkF m 102 #[.val (.int p0), .val (.int p1), .val (.int p2), .val (.int p3), .val (.int p4), .val (.int (2 : Int32)), .val (.int (0 : Int32)), .val (.int (1 : Int32)), .val (.ref bb105), .val .null, .val (.ref b108), .val (.int ix), .unset] []) _
        refine Go.of (fun tg_ kk_ => XS.iloadN X115.here hx rfl (hb hby at_102) rfl kk_) ?_
        show Go p e below T115 (mkF m 103 #[.val (.int p0), .val (.int p1), .val (.int p2), .val (.int p3), .val (.int p4), .val (.int (2 : Int32)), .val (.int (0 : Int32)), .val (.int (1 : Int32)), .val (.ref bb105), .val .null, .val (.ref b108), .val (.int ix), .unset] [(.int p0)]) _
        refine Go.of (fun tg_ kk_ => XS.iload X115.here hx rfl (hb hby at_103) rfl kk_) ?_
        show Go p e below T115 (mkF m 105 #[.val (.int p0), .val (.int p1), .val (.int p2), .val (.int p3), .val (.int p4), .val (.int (2 : Int32)), .val (.int (0 : Int32)), .val (.int (1 : Int32)), .val (.ref bb105), .val .null, .val (.ref b108), .val (.int ix), .unset] [(.int ix), (.int p0)]) _
        refine Go.of (fun tg_ kk_ => XS.iushr X115.here hx rfl (hb hby at_105) rfl kk_) ?_
        show Go p e below T115 (mkF m 106 #[.val (.int p0), .val (.int p1), .val (.int p2), .val (.int p3), .val (.int p4), .val (.int (2 : Int32)), .val (.int (0 : Int32)), .val (.int (1 : Int32)), .val (.ref bb105), .val .null, .val (.ref b108), .val (.int ix), .unset] [(.int ((p0.toUInt32 >>> (ix &&& 31).toUInt32).toInt32))]) _
        refine Go.of (fun tg_ kk_ => XS.iconst X115.here hx rfl (hb hby at_106) kk_) ?_
        show Go p e below T115 (mkF m 107 #[.val (.int p0), .val (.int p1), .val (.int p2), .val (.int p3), .val (.int p4), .val (.int (2 : Int32)), .val (.int (0 : Int32)), .val (.int (1 : Int32)), .val (.ref bb105), .val .null, .val (.ref b108), .val (.int ix), .unset] [(.int (1 : Int32)), (.int ((p0.toUInt32 >>> (ix &&& 31).toUInt32).toInt32))]) _
        refine Go.of (fun tg_ kk_ => XS.iand X115.here hx rfl (hb hby at_107) rfl kk_) ?_
        show Go p e below T115 (mkF m 108 #[.val (.int p0), .val (.int p1), .val (.int p2), .val (.int p3), .val (.int p4), .val (.int (2 : Int32)), .val (.int (0 : Int32)), .val (.int (1 : Int32)), .val (.ref bb105), .val .null, .val (.ref b108), .val (.int ix), .unset] [(.int (((p0.toUInt32 >>> (ix &&& 31).toUInt32).toInt32) &&& (1 : Int32)))]) _
        have st122 : ∀ ex : Int32, ex = (if (((p0.toUInt32 >>> (ix &&& 31).toUInt32).toInt32) &&& (1 : Int32)) = (0 : Int32) then (0 : Int32) else (1 : Int32)) → ∀ t, Steps p.tables e below (T115.setTop (mkF m 116 #[.val (.int p0), .val (.int p1), .val (.int p2), .val (.int p3), .val (.int p4), .val (.int (2 : Int32)), .val (.int (0 : Int32)), .val (.int (1 : Int32)), .val (.ref bb105), .val .null, .val (.ref b108), .val (.int ix), .unset] [(.int ex)])) t → Steps p.tables e below (T115.setTop (mkF m 108 #[.val (.int p0), .val (.int p1), .val (.int p2), .val (.int p3), .val (.int p4), .val (.int (2 : Int32)), .val (.int (0 : Int32)), .val (.int (1 : Int32)), .val (.ref bb105), .val .null, .val (.ref b108), .val (.int ix), .unset] [(.int (((p0.toUInt32 >>> (ix &&& 31).toUInt32).toInt32) &&& (1 : Int32)))])) t := by
          intro ex qex tg_ kk_
          by_cases hc : (((p0.toUInt32 >>> (ix &&& 31).toUInt32).toInt32) &&& (1 : Int32)) = (0 : Int32)
          · rw [if_pos hc] at qex; rw [qex] at kk_
            show Steps p.tables e below (T115.setTop (mkF m 108 #[.val (.int p0), .val (.int p1), .val (.int p2), .val (.int p3), .val (.int p4), .val (.int (2 : Int32)), .val (.int (0 : Int32)), .val (.int (1 : Int32)), .val (.ref bb105), .val .null, .val (.ref b108), .val (.int ix), .unset] [(.int (((p0.toUInt32 >>> (ix &&& 31).toUInt32).toInt32) &&& (1 : Int32)))])) _
            refine XS.ifYes X115.here hx rfl (pc0 := 108) (pc' := 115) rfl (hb hby at_108) rfl ((if0 _ _).trans (teq hc).1) (by decide) (by decide) ?_
            show Steps p.tables e below (T115.setTop (mkF m 115 #[.val (.int p0), .val (.int p1), .val (.int p2), .val (.int p3), .val (.int p4), .val (.int (2 : Int32)), .val (.int (0 : Int32)), .val (.int (1 : Int32)), .val (.ref bb105), .val .null, .val (.ref b108), .val (.int ix), .unset] [])) _
            refine XS.iconst X115.here hx rfl (hb hby at_115) ?_
            show Steps p.tables e below (T115.setTop (mkF m 116 #[.val (.int p0), .val (.int p1), .val (.int p2), .val (.int p3), .val (.int p4), .val (.int (2 : Int32)), .val (.int (0 : Int32)), .val (.int (1 : Int32)), .val (.ref bb105), .val .null, .val (.ref b108), .val (.int ix), .unset] [(.int (0 : Int32))])) _
            exact kk_
          · rw [if_neg hc] at qex; rw [qex] at kk_
            show Steps p.tables e below (T115.setTop (mkF m 108 #[.val (.int p0), .val (.int p1), .val (.int p2), .val (.int p3), .val (.int p4), .val (.int (2 : Int32)), .val (.int (0 : Int32)), .val (.int (1 : Int32)), .val (.ref bb105), .val .null, .val (.ref b108), .val (.int ix), .unset] [(.int (((p0.toUInt32 >>> (ix &&& 31).toUInt32).toInt32) &&& (1 : Int32)))])) _
            refine XS.ifNo X115.here hx rfl (hb hby at_108) rfl ((if0 _ _).trans (feq hc).1) ?_
            show Steps p.tables e below (T115.setTop (mkF m 111 #[.val (.int p0), .val (.int p1), .val (.int p2), .val (.int p3), .val (.int p4), .val (.int (2 : Int32)), .val (.int (0 : Int32)), .val (.int (1 : Int32)), .val (.ref bb105), .val .null, .val (.ref b108), .val (.int ix), .unset] [])) _
            refine XS.iconst X115.here hx rfl (hb hby at_111) ?_
            show Steps p.tables e below (T115.setTop (mkF m 112 #[.val (.int p0), .val (.int p1), .val (.int p2), .val (.int p3), .val (.int p4), .val (.int (2 : Int32)), .val (.int (0 : Int32)), .val (.int (1 : Int32)), .val (.ref bb105), .val .null, .val (.ref b108), .val (.int ix), .unset] [(.int (1 : Int32))])) _
            refine XS.goto X115.here hx rfl (pc0 := 112) (pc' := 116) rfl (hb hby at_112) (by decide) (by decide) ?_
            show Steps p.tables e below (T115.setTop (mkF m 116 #[.val (.int p0), .val (.int p1), .val (.int p2), .val (.int p3), .val (.int p4), .val (.int (2 : Int32)), .val (.int (0 : Int32)), .val (.int (1 : Int32)), .val (.ref bb105), .val .null, .val (.ref b108), .val (.int ix), .unset] [(.int (1 : Int32))])) _
            exact kk_
        obtain ⟨ex, qex⟩ : ∃ z : Int32, z = (if (((p0.toUInt32 >>> (ix &&& 31).toUInt32).toInt32) &&& (1 : Int32)) = (0 : Int32) then (0 : Int32) else (1 : Int32)) := ⟨_, rfl⟩
        refine Go.of (st122 ex qex) ?_
        show Go p e below T115 (mkF m 116 #[.val (.int p0), .val (.int p1), .val (.int p2), .val (.int p3), .val (.int p4), .val (.int (2 : Int32)), .val (.int (0 : Int32)), .val (.int (1 : Int32)), .val (.ref bb105), .val .null, .val (.ref b108), .val (.int ix), .unset] [(.int ex)]) _
        refine Go.of (fun tg_ kk_ => XS.istore X115.here hx rfl (hb hby at_116) rfl (l' := #[.val (.int p0), .val (.int p1), .val (.int p2), .val (.int p3), .val (.int p4), .val (.int (2 : Int32)), .val (.int (0 : Int32)), .val (.int (1 : Int32)), .val (.ref bb105), .val .null, .val (.ref b108), .val (.int ix), .val (.int ex)]) rfl kk_) ?_
        show Go p e below T115 (mkF m 118 #[.val (.int p0), .val (.int p1), .val (.int p2), .val (.int p3), .val (.int p4), .val (.int (2 : Int32)), .val (.int (0 : Int32)), .val (.int (1 : Int32)), .val (.ref bb105), .val .null, .val (.ref b108), .val (.int ix), .val (.int ex)] []) _
        refine Go.of (fun tg_ kk_ => XS.aload X115.here hx rfl (hb hby at_118) rfl rfl kk_) ?_
        show Go p e below T115 (mkF m 120 #[.val (.int p0), .val (.int p1), .val (.int p2), .val (.int p3), .val (.int p4), .val (.int (2 : Int32)), .val (.int (0 : Int32)), .val (.int (1 : Int32)), .val (.ref bb105), .val .null, .val (.ref b108), .val (.int ix), .val (.int ex)] [(.ref b108)]) _
        refine Go.of (fun tg_ kk_ => XS.iload X115.here hx rfl (hb hby at_120) rfl kk_) ?_
        show Go p e below T115 (mkF m 122 #[.val (.int p0), .val (.int p1), .val (.int p2), .val (.int p3), .val (.int p4), .val (.int (2 : Int32)), .val (.int (0 : Int32)), .val (.int (1 : Int32)), .val (.ref bb105), .val .null, .val (.ref b108), .val (.int ix), .val (.int ex)] [(.int ix), (.ref b108)]) _
        obtain ⟨cq123, kq123, q123a, q123b, q123c⟩ := isOf hZ rfl F117
        obtain ⟨_, _, ⟨T123, L123, k123, n123⟩, -, X123, ⟨Lc123, hQ123, l123, y123, z123⟩, st123⟩ := X115.virtualBack hx (y := (⟨"com/example/planwright/planwright/planner/SharedAtoms$Among", "weighs", "(I)Z"⟩ : MethodName)) (z := (⟨"com/example/planwright/planwright/planner/SharedAtoms$Among", "weighs", "(I)Z"⟩ : MethodName)) hown (mvT hZ (hw _ (List.mem_of_getElem? (i := 23) rfl))) (mvT hZ (hw _ (List.mem_of_getElem? (i := 24) rfl))) (notFace_of_selects (args := #[]) (mvT hZ (hw _ (List.mem_of_getElem? (i := 26) rfl)))) (mvT hZ (hw _ (List.mem_of_getElem? (i := 26) rfl))) (mvT hZ (hw _ (List.mem_of_getElem? (i := 25) rfl))) (by decide) (backOf (W := 0) (rm5 l Z a0 hw [] b108 ix bb105 (bitsF p0) 2 T115.heap n0 Zs121 F115a F116 hin) hZ (hw _ (List.mem_of_getElem? (i := 27) rfl)) (hw _ (List.mem_of_getElem? (i := 7) rfl)) (by decide) (by decide)) q123a q123c (g := (mkF m 122 #[.val (.int p0), .val (.int p1), .val (.int p2), .val (.int p3), .val (.int p4), .val (.int (2 : Int32)), .val (.int (0 : Int32)), .val (.int (1 : Int32)), .val (.ref bb105), .val .null, .val (.ref b108), .val (.int ix), .val (.int ex)] [(.int ix), (.ref b108)])) rfl (by rw [hml]; rfl) (Steps.refl _) (argsL := [(.int ix)]) (rest := []) (lenOf pd_3 rfl) rfl (by show 2 * 0 + _ ≤ _; exact Nat.le_of_eq rfl) (hb hby at_122) (fun _ _ => ⟨rfl, rfl, (by decide : 2 + 0 ≤ _), (by decide : 4 + 0 ≤ _)⟩)
        dsimp only [Pt.U, Pt.locs, Pt.cells, Pt.slots] at X123 l123 y123 z123 st123 hQ123
        subst l123 y123 z123
        obtain ⟨rfl, N123q, e123⟩ := hQ123
        have N123 := Fr.app N115 N123q
        refine Go.of (fun tg_ kk_ => st123.trans kk_) ?_
        show Go p e below T123 (mkF m 125 #[.val (.int p0), .val (.int p1), .val (.int p2), .val (.int p3), .val (.int p4), .val (.int (2 : Int32)), .val (.int (0 : Int32)), .val (.int (1 : Int32)), .val (.ref bb105), .val .null, .val (.ref b108), .val (.int ix), .val (.int ex)] [(.int (if bitsF p0 (ix).toNatClampNeg = 0 then (0 : Int32) else (1 : Int32)))]) _
        refine Go.of (fun tg_ kk_ => XS.iload X123.here hx rfl (hb hby at_125) rfl kk_) ?_
        show Go p e below T123 (mkF m 127 #[.val (.int p0), .val (.int p1), .val (.int p2), .val (.int p3), .val (.int p4), .val (.int (2 : Int32)), .val (.int (0 : Int32)), .val (.int (1 : Int32)), .val (.ref bb105), .val .null, .val (.ref b108), .val (.int ix), .val (.int ex)] [(.int ex), (.int (if bitsF p0 (ix).toNatClampNeg = 0 then (0 : Int32) else (1 : Int32)))]) _
        refine Go.of (fun tg_ kk_ => XS.icmpNo X123.here hx rfl (hb hby at_127) rfl (teq (show (if bitsF p0 (ix).toNatClampNeg = 0 then (0 : Int32) else (1 : Int32)) = ex from (by rw [qex]; exact own_weighs p0 ix hin4))).2 kk_) ?_
        show Go p e below T123 (mkF m 130 #[.val (.int p0), .val (.int p1), .val (.int p2), .val (.int p3), .val (.int p4), .val (.int (2 : Int32)), .val (.int (0 : Int32)), .val (.int (1 : Int32)), .val (.ref bb105), .val .null, .val (.ref b108), .val (.int ix), .val (.int ex)] []) _
        refine Go.of (fun tg_ kk_ => XS.iconst X123.here hx rfl (hb hby at_130) kk_) ?_
        show Go p e below T123 (mkF m 131 #[.val (.int p0), .val (.int p1), .val (.int p2), .val (.int p3), .val (.int p4), .val (.int (2 : Int32)), .val (.int (0 : Int32)), .val (.int (1 : Int32)), .val (.ref bb105), .val .null, .val (.ref b108), .val (.int ix), .val (.int ex)] [(.int (1 : Int32))]) _
        refine Go.of (fun tg_ kk_ => XS.goto X123.here hx rfl (pc0 := 131) (pc' := 135) rfl (hb hby at_131) (by decide) (by decide) kk_) ?_
        show Go p e below T123 (mkF m 135 #[.val (.int p0), .val (.int p1), .val (.int p2), .val (.int p3), .val (.int p4), .val (.int (2 : Int32)), .val (.int (0 : Int32)), .val (.int (1 : Int32)), .val (.ref bb105), .val .null, .val (.ref b108), .val (.int ix), .val (.int ex)] [(.int (1 : Int32))]) _
        obtain ⟨fs, hr, hrun, hended, hW, hsame⟩ := X123.leave (v := some (.int (1 : Int32))) (fun h => by rw [Bd.returns] at h; cases h)
        refine ⟨_, _, ?_, hrun, hended, _, _, rfl, ?_, ⟨_, rfl⟩, hW, hsame.mono (by decide) (by decide)⟩
        · exact retN X123 hx (t := .boolean) Bd.returns (by simp) (hb hby at_135) hr
        · show Q0 Z p0 p1 p2 p3 p4 h0 n0 _ T123.heap _
          rw [e123]
          exact ⟨rfl, N123⟩
    · skip
      refine Go.of (fun tg_ kk_ => XS.ifNo X0.here hx rfl (hb hby at_10) rfl ((if0 _ _).trans (feq hw0).1) kk_) ?_
      show Go p e below s₁ (mkF m 13 #[.val (.int p0), .val (.int p1), .val (.int p2), .val (.int p3), .val (.int p4), .val (.int (2 : Int32)), .unset, .unset, .unset, .unset, .unset, .unset, .unset] []) _
      refine Go.of (fun tg_ kk_ => XS.iconst X0.here hx rfl (hb hby at_13) kk_) ?_
      show Go p e below s₁ (mkF m 14 #[.val (.int p0), .val (.int p1), .val (.int p2), .val (.int p3), .val (.int p4), .val (.int (2 : Int32)), .unset, .unset, .unset, .unset, .unset, .unset, .unset] [(.int (1 : Int32))]) _
      refine Go.of (fun tg_ kk_ => XS.goto X0.here hx rfl (pc0 := 14) (pc' := 18) rfl (hb hby at_14) (by decide) (by decide) kk_) ?_
      show Go p e below s₁ (mkF m 18 #[.val (.int p0), .val (.int p1), .val (.int p2), .val (.int p3), .val (.int p4), .val (.int (2 : Int32)), .unset, .unset, .unset, .unset, .unset, .unset, .unset] [(.int (1 : Int32))]) _
      refine Go.of (fun tg_ kk_ => XS.istore X0.here hx rfl (hb hby at_18) rfl (l' := #[.val (.int p0), .val (.int p1), .val (.int p2), .val (.int p3), .val (.int p4), .val (.int (2 : Int32)), .val (.int (1 : Int32)), .unset, .unset, .unset, .unset, .unset, .unset]) rfl kk_) ?_
      show Go p e below s₁ (mkF m 20 #[.val (.int p0), .val (.int p1), .val (.int p2), .val (.int p3), .val (.int p4), .val (.int (2 : Int32)), .val (.int (1 : Int32)), .unset, .unset, .unset, .unset, .unset, .unset] []) _
      refine Go.of (fun tg_ kk_ => XS.iloadN X0.here hx rfl (hb hby at_20) rfl kk_) ?_
      show Go p e below s₁ (mkF m 21 #[.val (.int p0), .val (.int p1), .val (.int p2), .val (.int p3), .val (.int p4), .val (.int (2 : Int32)), .val (.int (1 : Int32)), .unset, .unset, .unset, .unset, .unset, .unset] [(.int p3)]) _
      refine Go.of (fun tg_ kk_ => XS.iconst X0.here hx rfl (hb hby at_21) kk_) ?_
      show Go p e below s₁ (mkF m 22 #[.val (.int p0), .val (.int p1), .val (.int p2), .val (.int p3), .val (.int p4), .val (.int (2 : Int32)), .val (.int (1 : Int32)), .unset, .unset, .unset, .unset, .unset, .unset] [(.int (2 : Int32)), (.int p3)]) _
      refine Go.of (fun tg_ kk_ => XS.iand X0.here hx rfl (hb hby at_22) rfl kk_) ?_
      show Go p e below s₁ (mkF m 23 #[.val (.int p0), .val (.int p1), .val (.int p2), .val (.int p3), .val (.int p4), .val (.int (2 : Int32)), .val (.int (1 : Int32)), .unset, .unset, .unset, .unset, .unset, .unset] [(.int (p3 &&& (2 : Int32)))]) _
      by_cases he0 : (p3 &&& (2 : Int32)) = (0 : Int32)
      · skip
        refine Go.of (fun tg_ kk_ => XS.ifYes X0.here hx rfl (pc0 := 23) (pc' := 30) rfl (hb hby at_23) rfl ((if0 _ _).trans (teq he0).1) (by decide) (by decide) kk_) ?_
        show Go p e below s₁ (mkF m 30 #[.val (.int p0), .val (.int p1), .val (.int p2), .val (.int p3), .val (.int p4), .val (.int (2 : Int32)), .val (.int (1 : Int32)), .unset, .unset, .unset, .unset, .unset, .unset] []) _
        refine Go.of (fun tg_ kk_ => XS.iconst X0.here hx rfl (hb hby at_30) kk_) ?_
        show Go p e below s₁ (mkF m 31 #[.val (.int p0), .val (.int p1), .val (.int p2), .val (.int p3), .val (.int p4), .val (.int (2 : Int32)), .val (.int (1 : Int32)), .unset, .unset, .unset, .unset, .unset, .unset] [(.int (0 : Int32))]) _
        refine Go.of (fun tg_ kk_ => XS.istore X0.here hx rfl (hb hby at_31) rfl (l' := #[.val (.int p0), .val (.int p1), .val (.int p2), .val (.int p3), .val (.int p4), .val (.int (2 : Int32)), .val (.int (1 : Int32)), .val (.int (0 : Int32)), .unset, .unset, .unset, .unset, .unset]) rfl kk_) ?_
        show Go p e below s₁ (mkF m 33 #[.val (.int p0), .val (.int p1), .val (.int p2), .val (.int p3), .val (.int p4), .val (.int (2 : Int32)), .val (.int (1 : Int32)), .val (.int (0 : Int32)), .unset, .unset, .unset, .unset, .unset] []) _
        refine Go.of (fun tg_ kk_ => XS.iload X0.here hx rfl (hb hby at_33) rfl kk_) ?_
        show Go p e below s₁ (mkF m 35 #[.val (.int p0), .val (.int p1), .val (.int p2), .val (.int p3), .val (.int p4), .val (.int (2 : Int32)), .val (.int (1 : Int32)), .val (.int (0 : Int32)), .unset, .unset, .unset, .unset, .unset] [(.int (1 : Int32))]) _
        refine Go.of (fun tg_ kk_ => XS.ifNo X0.here hx rfl (hb hby at_35) rfl ((if0 _ _).trans (feq (show ¬ ((1 : Int32) = (0 : Int32)) by decide)).1) kk_) ?_
        show Go p e below s₁ (mkF m 38 #[.val (.int p0), .val (.int p1), .val (.int p2), .val (.int p3), .val (.int p4), .val (.int (2 : Int32)), .val (.int (1 : Int32)), .val (.int (0 : Int32)), .unset, .unset, .unset, .unset, .unset] []) _
        refine Go.of (fun tg_ kk_ => XS.aconstNull X0.here hx rfl (hb hby at_38) kk_) ?_
        show Go p e below s₁ (mkF m 39 #[.val (.int p0), .val (.int p1), .val (.int p2), .val (.int p3), .val (.int p4), .val (.int (2 : Int32)), .val (.int (1 : Int32)), .val (.int (0 : Int32)), .unset, .unset, .unset, .unset, .unset] [.null]) _
        refine Go.of (fun tg_ kk_ => XS.goto X0.here hx rfl (pc0 := 39) (pc' := 48) rfl (hb hby at_39) (by decide) (by decide) kk_) ?_
        show Go p e below s₁ (mkF m 48 #[.val (.int p0), .val (.int p1), .val (.int p2), .val (.int p3), .val (.int p4), .val (.int (2 : Int32)), .val (.int (1 : Int32)), .val (.int (0 : Int32)), .unset, .unset, .unset, .unset, .unset] [.null]) _
        refine Go.of (fun tg_ kk_ => XS.astore X0.here hx rfl (hb hby at_48) rfl rfl (l' := #[.val (.int p0), .val (.int p1), .val (.int p2), .val (.int p3), .val (.int p4), .val (.int (2 : Int32)), .val (.int (1 : Int32)), .val (.int (0 : Int32)), .val .null, .unset, .unset, .unset, .unset]) rfl kk_) ?_
        show Go p e below s₁ (mkF m 50 #[.val (.int p0), .val (.int p1), .val (.int p2), .val (.int p3), .val (.int p4), .val (.int (2 : Int32)), .val (.int (1 : Int32)), .val (.int (0 : Int32)), .val .null, .unset, .unset, .unset, .unset] []) _
        refine Go.of (fun tg_ kk_ => XS.iload X0.here hx rfl (hb hby at_50) rfl kk_) ?_
        show Go p e below s₁ (mkF m 52 #[.val (.int p0), .val (.int p1), .val (.int p2), .val (.int p3), .val (.int p4), .val (.int (2 : Int32)), .val (.int (1 : Int32)), .val (.int (0 : Int32)), .val .null, .unset, .unset, .unset, .unset] [(.int (0 : Int32))]) _
        refine Go.of (fun tg_ kk_ => XS.ifYes X0.here hx rfl (pc0 := 52) (pc' := 59) rfl (hb hby at_52) rfl ((if0 _ _).trans (teq (show (0 : Int32) = (0 : Int32) by decide)).1) (by decide) (by decide) kk_) ?_
        show Go p e below s₁ (mkF m 59 #[.val (.int p0), .val (.int p1), .val (.int p2), .val (.int p3), .val (.int p4), .val (.int (2 : Int32)), .val (.int (1 : Int32)), .val (.int (0 : Int32)), .val .null, .unset, .unset, .unset, .unset] []) _
        refine Go.of (fun tg_ kk_ => XS.iload X0.here hx rfl (hb hby at_59) rfl kk_) ?_
        show Go p e below s₁ (mkF m 61 #[.val (.int p0), .val (.int p1), .val (.int p2), .val (.int p3), .val (.int p4), .val (.int (2 : Int32)), .val (.int (1 : Int32)), .val (.int (0 : Int32)), .val .null, .unset, .unset, .unset, .unset] [(.int (2 : Int32))]) _
        refine Go.of (fun tg_ kk_ => XS.iload X0.here hx rfl (hb hby at_61) rfl kk_) ?_
        show Go p e below s₁ (mkF m 63 #[.val (.int p0), .val (.int p1), .val (.int p2), .val (.int p3), .val (.int p4), .val (.int (2 : Int32)), .val (.int (1 : Int32)), .val (.int (0 : Int32)), .val .null, .unset, .unset, .unset, .unset] [(.int p4), (.int (2 : Int32))]) _
        obtain ⟨_, _, ⟨T124, L124, k124, n124⟩, -, X124, ⟨Lc124, hQ124, l124, y124, z124⟩, st124⟩ := Jvm.LawKit.callS X0 hx (y := (⟨"com/example/planwright/planwright/planner/AmongWeighsPinLaw", "fill", "(II)[Z"⟩ : MethodName)) hown (mvT hZ (hw _ (List.mem_of_getElem? (i := 0) rfl))) (mvT hZ (hw _ (List.mem_of_getElem? (i := 1) rfl))) (mvT hZ (hw _ (List.mem_of_getElem? (i := 2) rfl))) (mvT hZ (hw _ (List.mem_of_getElem? (i := 3) rfl))) (by decide) (backOf (W := 0) (rm1_2 l Z a0 hw [] p4 h0 n0 Z0) hZ (hw _ (List.mem_of_getElem? (i := 3) rfl)) (hw _ (List.mem_of_getElem? (i := 2) rfl)) (by decide) (by decide)) (g := (mkF m 63 #[.val (.int p0), .val (.int p1), .val (.int p2), .val (.int p3), .val (.int p4), .val (.int (2 : Int32)), .val (.int (1 : Int32)), .val (.int (0 : Int32)), .val .null, .unset, .unset, .unset, .unset] [(.int p4), (.int (2 : Int32))])) rfl (by rw [hml]; rfl) (argsL := [(.int (2 : Int32)), (.int p4)]) (rest := []) (lenOf pd_1 rfl) rfl (by show 2 * 0 + _ ≤ _; exact Nat.le_of_eq rfl) (hb hby at_63) (fun _ _ => ⟨rfl, e0, (by decide : 0 + 1 ≤ _), (by decide : 0 + 2 ≤ _)⟩)
        dsimp only [Pt.U, Pt.locs, Pt.cells, Pt.slots] at X124 l124 y124 z124 st124 hQ124
        subst l124 y124 z124
        obtain ⟨bb124, rfl, N124q, K124q, sz124, gx124, V124⟩ := hQ124
        have N124 := Fr.app N0 N124q
        have sy124 : h0.size ≤ bb124 := Nat.le_trans K0.1 sz124
        have K125 := K0.trans K124q all0
        have Zs126 : n0 ≤ T124.heap.size := Nat.le_trans Z0 K124q.1
        refine Go.of (st124) ?_
        show Go p e below T124 (mkF m 66 #[.val (.int p0), .val (.int p1), .val (.int p2), .val (.int p3), .val (.int p4), .val (.int (2 : Int32)), .val (.int (1 : Int32)), .val (.int (0 : Int32)), .val .null, .unset, .unset, .unset, .unset] [(.ref bb124)]) _
        refine Go.of (fun tg_ kk_ => XS.astore X124.here hx rfl (hb hby at_66) rfl rfl (l' := #[.val (.int p0), .val (.int p1), .val (.int p2), .val (.int p3), .val (.int p4), .val (.int (2 : Int32)), .val (.int (1 : Int32)), .val (.int (0 : Int32)), .val .null, .val (.ref bb124), .unset, .unset, .unset]) rfl kk_) ?_
        show Go p e below T124 (mkF m 68 #[.val (.int p0), .val (.int p1), .val (.int p2), .val (.int p3), .val (.int p4), .val (.int (2 : Int32)), .val (.int (1 : Int32)), .val (.int (0 : Int32)), .val .null, .val (.ref bb124), .unset, .unset, .unset] []) _
        obtain ⟨T127, h127, X127, e127, E127, A127, D127, -, st127⟩ := newO X124 hx hZ hown (hw _ (List.mem_of_getElem? (i := 5) rfl)) (hw _ (List.mem_of_getElem? (i := 6) rfl)) (hw _ (List.mem_of_getElem? (i := 7) rfl)) rfl (g := (mkF m 68 #[.val (.int p0), .val (.int p1), .val (.int p2), .val (.int p3), .val (.int p4), .val (.int (2 : Int32)), .val (.int (1 : Int32)), .val (.int (0 : Int32)), .val .null, .val (.ref bb124), .unset, .unset, .unset] [])) rfl (hb hby at_68) (by decide) (by decide)
        obtain ⟨b127, g127⟩ : ∃ z, z = T124.heap.size := ⟨_, rfl⟩
        rw [← g127] at A127 D127 st127
        have gx127 : n0 ≤ b127 := Nat.le_trans Zs126 (Nat.le_of_eq g127.symm)
        have sz127 : h0.size ≤ b127 := Nat.le_trans K125.1 (Nat.le_of_eq g127.symm)
        have ne128 : bb124 ≠ b127 := Nat.ne_of_lt (Nat.lt_of_lt_of_le V124.lt (Nat.le_of_eq g127.symm))
        have F129 := V124.ext E127
        have K130 := K125.ext E127
        have Zs131 : n0 ≤ h127.size := Nat.le_trans Zs126 E127.1
        have F132 : Fld Z h127 b127 "com/example/planwright/planwright/planner/SharedAtoms$Among" "weighed" "[Z" .null := D127 (Or.inr (hw _ (List.mem_of_getElem? (i := 20) rfl))) (ty := (.array .boolean)) (by decide)
        have F133 : Fld Z h127 b127 "com/example/planwright/planwright/planner/SharedAtoms$Among" "elsewhere" "[Z" .null := D127 (Or.inr (hw _ (List.mem_of_getElem? (i := 22) rfl))) (ty := (.array .boolean)) (by decide)
        refine Go.of (st127) ?_
        show Go p e below T127 (mkF m 71 #[.val (.int p0), .val (.int p1), .val (.int p2), .val (.int p3), .val (.int p4), .val (.int (2 : Int32)), .val (.int (1 : Int32)), .val (.int (0 : Int32)), .val .null, .val (.ref bb124), .unset, .unset, .unset] [(.ref b127)]) _
        refine Go.of (fun tg_ kk_ => XS.dup X127.here hx rfl (hb hby at_71) rfl rfl kk_) ?_
        show Go p e below T127 (mkF m 72 #[.val (.int p0), .val (.int p1), .val (.int p2), .val (.int p3), .val (.int p4), .val (.int (2 : Int32)), .val (.int (1 : Int32)), .val (.int (0 : Int32)), .val .null, .val (.ref bb124), .unset, .unset, .unset] [(.ref b127), (.ref b127)]) _
        refine Go.of (fun tg_ kk_ => XS.aload X127.here hx rfl (hb hby at_72) rfl rfl kk_) ?_
        show Go p e below T127 (mkF m 74 #[.val (.int p0), .val (.int p1), .val (.int p2), .val (.int p3), .val (.int p4), .val (.int (2 : Int32)), .val (.int (1 : Int32)), .val (.int (0 : Int32)), .val .null, .val (.ref bb124), .unset, .unset, .unset] [.null, (.ref b127), (.ref b127)]) _
        refine Go.of (fun tg_ kk_ => XS.aload X127.here hx rfl (hb hby at_74) rfl rfl kk_) ?_
        show Go p e below T127 (mkF m 76 #[.val (.int p0), .val (.int p1), .val (.int p2), .val (.int p3), .val (.int p4), .val (.int (2 : Int32)), .val (.int (1 : Int32)), .val (.int (0 : Int32)), .val .null, .val (.ref bb124), .unset, .unset, .unset] [(.ref bb124), .null, (.ref b127), (.ref b127)]) _
        obtain ⟨_, _, ⟨T134, L134, k134, n134⟩, -, X134, ⟨Lc134, hQ134, l134, y134, z134⟩, st134⟩ := X127.specialBack hx (y := (⟨"com/example/planwright/planwright/planner/SharedAtoms$Among", "<init>", "([Z[Z)V"⟩ : MethodName)) rfl hown (mvT hZ (hw _ (List.mem_of_getElem? (i := 8) rfl))) (mvT hZ (hw _ (List.mem_of_getElem? (i := 9) rfl))) (mvT hZ (hw _ (List.mem_of_getElem? (i := 10) rfl))) (by decide) (backOf (W := 1) (rm2_10 l Z a0 hw [] b127 bb124 h127 n0 Zs131 gx127 A127 F132 F133) hZ (hw _ (List.mem_of_getElem? (i := 10) rfl)) (hw _ (List.mem_of_getElem? (i := 7) rfl)) (by decide) (by decide)) (g := (mkF m 76 #[.val (.int p0), .val (.int p1), .val (.int p2), .val (.int p3), .val (.int p4), .val (.int (2 : Int32)), .val (.int (1 : Int32)), .val (.int (0 : Int32)), .val .null, .val (.ref bb124), .unset, .unset, .unset] [(.ref bb124), .null, (.ref b127), (.ref b127)])) rfl (by rw [hml]; rfl) (Steps.refl _) (a := b127) (argsL := [.null, (.ref bb124)]) (rest := [(.ref b127)]) (lenOf pd_2 rfl) rfl (by show 2 * 0 + _ ≤ _; exact Nat.le_of_eq rfl) (hb hby at_76) (fun _ _ => ⟨rfl, e127, (by decide : 2 + 0 ≤ _), (by decide : 4 + 0 ≤ _)⟩)
        dsimp only [Pt.U, Pt.locs, Pt.cells, Pt.slots] at X134 l134 y134 z134 st134 hQ134
        subst l134 y134 z134
        obtain ⟨rfl, N134q, K134q, F134a⟩ := hQ134
        have N134 := Fr.app N124 N134q
        have F135 := F129.keep K134q (ninS ne128 nin0)
        have F136 := A127.keep K134q
        have K139 := K130.trans K134q (allS (Or.inr sz127) all0)
        have Zs140 : n0 ≤ T134.heap.size := Nat.le_trans Zs131 K134q.1
        refine Go.of (fun tg_ kk_ => st134.trans kk_) ?_
        show Go p e below T134 (mkF m 79 #[.val (.int p0), .val (.int p1), .val (.int p2), .val (.int p3), .val (.int p4), .val (.int (2 : Int32)), .val (.int (1 : Int32)), .val (.int (0 : Int32)), .val .null, .val (.ref bb124), .unset, .unset, .unset] [(.ref b127)]) _
        refine Go.of (fun tg_ kk_ => XS.astore X134.here hx rfl (hb hby at_79) rfl rfl (l' := #[.val (.int p0), .val (.int p1), .val (.int p2), .val (.int p3), .val (.int p4), .val (.int (2 : Int32)), .val (.int (1 : Int32)), .val (.int (0 : Int32)), .val .null, .val (.ref bb124), .val (.ref b127), .unset, .unset]) rfl kk_) ?_
        show Go p e below T134 (mkF m 81 #[.val (.int p0), .val (.int p1), .val (.int p2), .val (.int p3), .val (.int p4), .val (.int (2 : Int32)), .val (.int (1 : Int32)), .val (.int (0 : Int32)), .val .null, .val (.ref bb124), .val (.ref b127), .unset, .unset] []) _
        refine Go.of (fun tg_ kk_ => XS.iload X134.here hx rfl (hb hby at_81) rfl kk_) ?_
        show Go p e below T134 (mkF m 83 #[.val (.int p0), .val (.int p1), .val (.int p2), .val (.int p3), .val (.int p4), .val (.int (2 : Int32)), .val (.int (1 : Int32)), .val (.int (0 : Int32)), .val .null, .val (.ref bb124), .val (.ref b127), .unset, .unset] [(.int (1 : Int32))]) _
        refine Go.of (fun tg_ kk_ => XS.ifNo X134.here hx rfl (hb hby at_83) rfl ((if0 _ _).trans (feq (show ¬ ((1 : Int32) = (0 : Int32)) by decide)).1) kk_) ?_
        show Go p e below T134 (mkF m 86 #[.val (.int p0), .val (.int p1), .val (.int p2), .val (.int p3), .val (.int p4), .val (.int (2 : Int32)), .val (.int (1 : Int32)), .val (.int (0 : Int32)), .val .null, .val (.ref bb124), .val (.ref b127), .unset, .unset] []) _
        refine Go.of (fun tg_ kk_ => XS.aload X134.here hx rfl (hb hby at_86) rfl rfl kk_) ?_
        show Go p e below T134 (mkF m 88 #[.val (.int p0), .val (.int p1), .val (.int p2), .val (.int p3), .val (.int p4), .val (.int (2 : Int32)), .val (.int (1 : Int32)), .val (.int (0 : Int32)), .val .null, .val (.ref bb124), .val (.ref b127), .unset, .unset] [(.ref b127)]) _
        refine Go.of (fun tg_ kk_ => XS.iloadN X134.here hx rfl (hb hby at_88) rfl kk_) ?_
        show Go p e below T134 (mkF m 89 #[.val (.int p0), .val (.int p1), .val (.int p2), .val (.int p3), .val (.int p4), .val (.int (2 : Int32)), .val (.int (1 : Int32)), .val (.int (0 : Int32)), .val .null, .val (.ref bb124), .val (.ref b127), .unset, .unset] [(.int p2), (.ref b127)]) _
        obtain ⟨cq141, kq141, q141a, q141b, q141c⟩ := isOf hZ rfl F136
        obtain ⟨_, _, ⟨T141, L141, k141, n141⟩, -, X141, ⟨Lc141, hQ141, l141, y141, z141⟩, st141⟩ := X134.virtualBack hx (y := (⟨"com/example/planwright/planwright/planner/SharedAtoms$Among", "weighs", "(I)Z"⟩ : MethodName)) (z := (⟨"com/example/planwright/planwright/planner/SharedAtoms$Among", "weighs", "(I)Z"⟩ : MethodName)) hown (mvT hZ (hw _ (List.mem_of_getElem? (i := 23) rfl))) (mvT hZ (hw _ (List.mem_of_getElem? (i := 24) rfl))) (notFace_of_selects (args := #[]) (mvT hZ (hw _ (List.mem_of_getElem? (i := 26) rfl)))) (mvT hZ (hw _ (List.mem_of_getElem? (i := 26) rfl))) (mvT hZ (hw _ (List.mem_of_getElem? (i := 25) rfl))) (by decide) (backOf (W := 0) (rm5n l Z a0 hw [] b127 p2 T134.heap n0 Zs140 F134a) hZ (hw _ (List.mem_of_getElem? (i := 27) rfl)) (hw _ (List.mem_of_getElem? (i := 7) rfl)) (by decide) (by decide)) q141a q141c (g := (mkF m 89 #[.val (.int p0), .val (.int p1), .val (.int p2), .val (.int p3), .val (.int p4), .val (.int (2 : Int32)), .val (.int (1 : Int32)), .val (.int (0 : Int32)), .val .null, .val (.ref bb124), .val (.ref b127), .unset, .unset] [(.int p2), (.ref b127)])) rfl (by rw [hml]; rfl) (Steps.refl _) (argsL := [(.int p2)]) (rest := []) (lenOf pd_3 rfl) rfl (by show 2 * 0 + _ ≤ _; exact Nat.le_of_eq rfl) (hb hby at_89) (fun _ _ => ⟨rfl, rfl, (by decide : 2 + 0 ≤ _), (by decide : 4 + 0 ≤ _)⟩)
        dsimp only [Pt.U, Pt.locs, Pt.cells, Pt.slots] at X141 l141 y141 z141 st141 hQ141
        subst l141 y141 z141
        obtain ⟨rfl, N141q, e141⟩ := hQ141
        have N141 := Fr.app N134 N141q
        refine Go.of (fun tg_ kk_ => st141.trans kk_) ?_
        show Go p e below T141 (mkF m 92 #[.val (.int p0), .val (.int p1), .val (.int p2), .val (.int p3), .val (.int p4), .val (.int (2 : Int32)), .val (.int (1 : Int32)), .val (.int (0 : Int32)), .val .null, .val (.ref bb124), .val (.ref b127), .unset, .unset] [(.int (1 : Int32))]) _
        obtain ⟨fs, hr, hrun, hended, hW, hsame⟩ := X141.leave (v := some (.int (1 : Int32))) (fun h => by rw [Bd.returns] at h; cases h)
        refine ⟨_, _, ?_, hrun, hended, _, _, rfl, ?_, ⟨_, rfl⟩, hW, hsame.mono (by decide) (by decide)⟩
        · exact retN X141 hx (t := .boolean) Bd.returns (by simp) (hb hby at_92) hr
        · show Q0 Z p0 p1 p2 p3 p4 h0 n0 _ T141.heap _
          rw [e141]
          exact ⟨rfl, N141⟩
      · skip
        refine Go.of (fun tg_ kk_ => XS.ifNo X0.here hx rfl (hb hby at_23) rfl ((if0 _ _).trans (feq he0).1) kk_) ?_
        show Go p e below s₁ (mkF m 26 #[.val (.int p0), .val (.int p1), .val (.int p2), .val (.int p3), .val (.int p4), .val (.int (2 : Int32)), .val (.int (1 : Int32)), .unset, .unset, .unset, .unset, .unset, .unset] []) _
        refine Go.of (fun tg_ kk_ => XS.iconst X0.here hx rfl (hb hby at_26) kk_) ?_
        show Go p e below s₁ (mkF m 27 #[.val (.int p0), .val (.int p1), .val (.int p2), .val (.int p3), .val (.int p4), .val (.int (2 : Int32)), .val (.int (1 : Int32)), .unset, .unset, .unset, .unset, .unset, .unset] [(.int (1 : Int32))]) _
        refine Go.of (fun tg_ kk_ => XS.goto X0.here hx rfl (pc0 := 27) (pc' := 31) rfl (hb hby at_27) (by decide) (by decide) kk_) ?_
        show Go p e below s₁ (mkF m 31 #[.val (.int p0), .val (.int p1), .val (.int p2), .val (.int p3), .val (.int p4), .val (.int (2 : Int32)), .val (.int (1 : Int32)), .unset, .unset, .unset, .unset, .unset, .unset] [(.int (1 : Int32))]) _
        refine Go.of (fun tg_ kk_ => XS.istore X0.here hx rfl (hb hby at_31) rfl (l' := #[.val (.int p0), .val (.int p1), .val (.int p2), .val (.int p3), .val (.int p4), .val (.int (2 : Int32)), .val (.int (1 : Int32)), .val (.int (1 : Int32)), .unset, .unset, .unset, .unset, .unset]) rfl kk_) ?_
        show Go p e below s₁ (mkF m 33 #[.val (.int p0), .val (.int p1), .val (.int p2), .val (.int p3), .val (.int p4), .val (.int (2 : Int32)), .val (.int (1 : Int32)), .val (.int (1 : Int32)), .unset, .unset, .unset, .unset, .unset] []) _
        refine Go.of (fun tg_ kk_ => XS.iload X0.here hx rfl (hb hby at_33) rfl kk_) ?_
        show Go p e below s₁ (mkF m 35 #[.val (.int p0), .val (.int p1), .val (.int p2), .val (.int p3), .val (.int p4), .val (.int (2 : Int32)), .val (.int (1 : Int32)), .val (.int (1 : Int32)), .unset, .unset, .unset, .unset, .unset] [(.int (1 : Int32))]) _
        refine Go.of (fun tg_ kk_ => XS.ifNo X0.here hx rfl (hb hby at_35) rfl ((if0 _ _).trans (feq (show ¬ ((1 : Int32) = (0 : Int32)) by decide)).1) kk_) ?_
        show Go p e below s₁ (mkF m 38 #[.val (.int p0), .val (.int p1), .val (.int p2), .val (.int p3), .val (.int p4), .val (.int (2 : Int32)), .val (.int (1 : Int32)), .val (.int (1 : Int32)), .unset, .unset, .unset, .unset, .unset] []) _
        refine Go.of (fun tg_ kk_ => XS.aconstNull X0.here hx rfl (hb hby at_38) kk_) ?_
        show Go p e below s₁ (mkF m 39 #[.val (.int p0), .val (.int p1), .val (.int p2), .val (.int p3), .val (.int p4), .val (.int (2 : Int32)), .val (.int (1 : Int32)), .val (.int (1 : Int32)), .unset, .unset, .unset, .unset, .unset] [.null]) _
        refine Go.of (fun tg_ kk_ => XS.goto X0.here hx rfl (pc0 := 39) (pc' := 48) rfl (hb hby at_39) (by decide) (by decide) kk_) ?_
        show Go p e below s₁ (mkF m 48 #[.val (.int p0), .val (.int p1), .val (.int p2), .val (.int p3), .val (.int p4), .val (.int (2 : Int32)), .val (.int (1 : Int32)), .val (.int (1 : Int32)), .unset, .unset, .unset, .unset, .unset] [.null]) _
        refine Go.of (fun tg_ kk_ => XS.astore X0.here hx rfl (hb hby at_48) rfl rfl (l' := #[.val (.int p0), .val (.int p1), .val (.int p2), .val (.int p3), .val (.int p4), .val (.int (2 : Int32)), .val (.int (1 : Int32)), .val (.int (1 : Int32)), .val .null, .unset, .unset, .unset, .unset]) rfl kk_) ?_
        show Go p e below s₁ (mkF m 50 #[.val (.int p0), .val (.int p1), .val (.int p2), .val (.int p3), .val (.int p4), .val (.int (2 : Int32)), .val (.int (1 : Int32)), .val (.int (1 : Int32)), .val .null, .unset, .unset, .unset, .unset] []) _
        refine Go.of (fun tg_ kk_ => XS.iload X0.here hx rfl (hb hby at_50) rfl kk_) ?_
        show Go p e below s₁ (mkF m 52 #[.val (.int p0), .val (.int p1), .val (.int p2), .val (.int p3), .val (.int p4), .val (.int (2 : Int32)), .val (.int (1 : Int32)), .val (.int (1 : Int32)), .val .null, .unset, .unset, .unset, .unset] [(.int (1 : Int32))]) _
        refine Go.of (fun tg_ kk_ => XS.ifNo X0.here hx rfl (hb hby at_52) rfl ((if0 _ _).trans (feq (show ¬ ((1 : Int32) = (0 : Int32)) by decide)).1) kk_) ?_
        show Go p e below s₁ (mkF m 55 #[.val (.int p0), .val (.int p1), .val (.int p2), .val (.int p3), .val (.int p4), .val (.int (2 : Int32)), .val (.int (1 : Int32)), .val (.int (1 : Int32)), .val .null, .unset, .unset, .unset, .unset] []) _
        refine Go.of (fun tg_ kk_ => XS.aconstNull X0.here hx rfl (hb hby at_55) kk_) ?_
        show Go p e below s₁ (mkF m 56 #[.val (.int p0), .val (.int p1), .val (.int p2), .val (.int p3), .val (.int p4), .val (.int (2 : Int32)), .val (.int (1 : Int32)), .val (.int (1 : Int32)), .val .null, .unset, .unset, .unset, .unset] [.null]) _
        refine Go.of (fun tg_ kk_ => XS.goto X0.here hx rfl (pc0 := 56) (pc' := 66) rfl (hb hby at_56) (by decide) (by decide) kk_) ?_
        show Go p e below s₁ (mkF m 66 #[.val (.int p0), .val (.int p1), .val (.int p2), .val (.int p3), .val (.int p4), .val (.int (2 : Int32)), .val (.int (1 : Int32)), .val (.int (1 : Int32)), .val .null, .unset, .unset, .unset, .unset] [.null]) _
        refine Go.of (fun tg_ kk_ => XS.astore X0.here hx rfl (hb hby at_66) rfl rfl (l' := #[.val (.int p0), .val (.int p1), .val (.int p2), .val (.int p3), .val (.int p4), .val (.int (2 : Int32)), .val (.int (1 : Int32)), .val (.int (1 : Int32)), .val .null, .val .null, .unset, .unset, .unset]) rfl kk_) ?_
        show Go p e below s₁ (mkF m 68 #[.val (.int p0), .val (.int p1), .val (.int p2), .val (.int p3), .val (.int p4), .val (.int (2 : Int32)), .val (.int (1 : Int32)), .val (.int (1 : Int32)), .val .null, .val .null, .unset, .unset, .unset] []) _
        obtain ⟨T142, h142, X142, e142, E142, A142, D142, -, st142⟩ := newO X0 hx hZ hown (hw _ (List.mem_of_getElem? (i := 5) rfl)) (hw _ (List.mem_of_getElem? (i := 6) rfl)) (hw _ (List.mem_of_getElem? (i := 7) rfl)) e0 (g := (mkF m 68 #[.val (.int p0), .val (.int p1), .val (.int p2), .val (.int p3), .val (.int p4), .val (.int (2 : Int32)), .val (.int (1 : Int32)), .val (.int (1 : Int32)), .val .null, .val .null, .unset, .unset, .unset] [])) rfl (hb hby at_68) (by decide) (by decide)
        obtain ⟨b142, g142⟩ : ∃ z, z = h0.size := ⟨_, rfl⟩
        rw [← g142] at A142 D142 st142
        have gx142 : n0 ≤ b142 := Nat.le_trans Z0 (Nat.le_of_eq g142.symm)
        have sz142 : h0.size ≤ b142 := Nat.le_trans K0.1 (Nat.le_of_eq g142.symm)
        have K143 := K0.ext E142
        have Zs144 : n0 ≤ h142.size := Nat.le_trans Z0 E142.1
        have F145 : Fld Z h142 b142 "com/example/planwright/planwright/planner/SharedAtoms$Among" "weighed" "[Z" .null := D142 (Or.inr (hw _ (List.mem_of_getElem? (i := 20) rfl))) (ty := (.array .boolean)) (by decide)
        have F146 : Fld Z h142 b142 "com/example/planwright/planwright/planner/SharedAtoms$Among" "elsewhere" "[Z" .null := D142 (Or.inr (hw _ (List.mem_of_getElem? (i := 22) rfl))) (ty := (.array .boolean)) (by decide)
        refine Go.of (st142) ?_
        show Go p e below T142 (mkF m 71 #[.val (.int p0), .val (.int p1), .val (.int p2), .val (.int p3), .val (.int p4), .val (.int (2 : Int32)), .val (.int (1 : Int32)), .val (.int (1 : Int32)), .val .null, .val .null, .unset, .unset, .unset] [(.ref b142)]) _
        refine Go.of (fun tg_ kk_ => XS.dup X142.here hx rfl (hb hby at_71) rfl rfl kk_) ?_
        show Go p e below T142 (mkF m 72 #[.val (.int p0), .val (.int p1), .val (.int p2), .val (.int p3), .val (.int p4), .val (.int (2 : Int32)), .val (.int (1 : Int32)), .val (.int (1 : Int32)), .val .null, .val .null, .unset, .unset, .unset] [(.ref b142), (.ref b142)]) _
        refine Go.of (fun tg_ kk_ => XS.aload X142.here hx rfl (hb hby at_72) rfl rfl kk_) ?_
        show Go p e below T142 (mkF m 74 #[.val (.int p0), .val (.int p1), .val (.int p2), .val (.int p3), .val (.int p4), .val (.int (2 : Int32)), .val (.int (1 : Int32)), .val (.int (1 : Int32)), .val .null, .val .null, .unset, .unset, .unset] [.null, (.ref b142), (.ref b142)]) _
        refine Go.of (fun tg_ kk_ => XS.aload X142.here hx rfl (hb hby at_74) rfl rfl kk_) ?_
        show Go p e below T142 (mkF m 76 #[.val (.int p0), .val (.int p1), .val (.int p2), .val (.int p3), .val (.int p4), .val (.int (2 : Int32)), .val (.int (1 : Int32)), .val (.int (1 : Int32)), .val .null, .val .null, .unset, .unset, .unset] [.null, .null, (.ref b142), (.ref b142)]) _
        obtain ⟨_, _, ⟨T147, L147, k147, n147⟩, -, X147, ⟨Lc147, hQ147, l147, y147, z147⟩, st147⟩ := X142.specialBack hx (y := (⟨"com/example/planwright/planwright/planner/SharedAtoms$Among", "<init>", "([Z[Z)V"⟩ : MethodName)) rfl hown (mvT hZ (hw _ (List.mem_of_getElem? (i := 8) rfl))) (mvT hZ (hw _ (List.mem_of_getElem? (i := 9) rfl))) (mvT hZ (hw _ (List.mem_of_getElem? (i := 10) rfl))) (by decide) (backOf (W := 1) (rm2_11 l Z a0 hw [] b142 h142 n0 Zs144 gx142 A142 F145 F146) hZ (hw _ (List.mem_of_getElem? (i := 10) rfl)) (hw _ (List.mem_of_getElem? (i := 7) rfl)) (by decide) (by decide)) (g := (mkF m 76 #[.val (.int p0), .val (.int p1), .val (.int p2), .val (.int p3), .val (.int p4), .val (.int (2 : Int32)), .val (.int (1 : Int32)), .val (.int (1 : Int32)), .val .null, .val .null, .unset, .unset, .unset] [.null, .null, (.ref b142), (.ref b142)])) rfl (by rw [hml]; rfl) (Steps.refl _) (a := b142) (argsL := [.null, .null]) (rest := [(.ref b142)]) (lenOf pd_2 rfl) rfl (by show 2 * 0 + _ ≤ _; exact Nat.le_of_eq rfl) (hb hby at_76) (fun _ _ => ⟨rfl, e142, (by decide : 1 + 0 ≤ _), (by decide : 2 + 0 ≤ _)⟩)
        dsimp only [Pt.U, Pt.locs, Pt.cells, Pt.slots] at X147 l147 y147 z147 st147 hQ147
        subst l147 y147 z147
        obtain ⟨rfl, N147q, K147q, F147a⟩ := hQ147
        have N147 := Fr.app N0 N147q
        have F148 := A142.keep K147q
        have K151 := K143.trans K147q (allS (Or.inr sz142) all0)
        have Zs152 : n0 ≤ T147.heap.size := Nat.le_trans Zs144 K147q.1
        refine Go.of (fun tg_ kk_ => st147.trans kk_) ?_
        show Go p e below T147 (mkF m 79 #[.val (.int p0), .val (.int p1), .val (.int p2), .val (.int p3), .val (.int p4), .val (.int (2 : Int32)), .val (.int (1 : Int32)), .val (.int (1 : Int32)), .val .null, .val .null, .unset, .unset, .unset] [(.ref b142)]) _
        refine Go.of (fun tg_ kk_ => XS.astore X147.here hx rfl (hb hby at_79) rfl rfl (l' := #[.val (.int p0), .val (.int p1), .val (.int p2), .val (.int p3), .val (.int p4), .val (.int (2 : Int32)), .val (.int (1 : Int32)), .val (.int (1 : Int32)), .val .null, .val .null, .val (.ref b142), .unset, .unset]) rfl kk_) ?_
        show Go p e below T147 (mkF m 81 #[.val (.int p0), .val (.int p1), .val (.int p2), .val (.int p3), .val (.int p4), .val (.int (2 : Int32)), .val (.int (1 : Int32)), .val (.int (1 : Int32)), .val .null, .val .null, .val (.ref b142), .unset, .unset] []) _
        refine Go.of (fun tg_ kk_ => XS.iload X147.here hx rfl (hb hby at_81) rfl kk_) ?_
        show Go p e below T147 (mkF m 83 #[.val (.int p0), .val (.int p1), .val (.int p2), .val (.int p3), .val (.int p4), .val (.int (2 : Int32)), .val (.int (1 : Int32)), .val (.int (1 : Int32)), .val .null, .val .null, .val (.ref b142), .unset, .unset] [(.int (1 : Int32))]) _
        refine Go.of (fun tg_ kk_ => XS.ifNo X147.here hx rfl (hb hby at_83) rfl ((if0 _ _).trans (feq (show ¬ ((1 : Int32) = (0 : Int32)) by decide)).1) kk_) ?_
        show Go p e below T147 (mkF m 86 #[.val (.int p0), .val (.int p1), .val (.int p2), .val (.int p3), .val (.int p4), .val (.int (2 : Int32)), .val (.int (1 : Int32)), .val (.int (1 : Int32)), .val .null, .val .null, .val (.ref b142), .unset, .unset] []) _
        refine Go.of (fun tg_ kk_ => XS.aload X147.here hx rfl (hb hby at_86) rfl rfl kk_) ?_
        show Go p e below T147 (mkF m 88 #[.val (.int p0), .val (.int p1), .val (.int p2), .val (.int p3), .val (.int p4), .val (.int (2 : Int32)), .val (.int (1 : Int32)), .val (.int (1 : Int32)), .val .null, .val .null, .val (.ref b142), .unset, .unset] [(.ref b142)]) _
        refine Go.of (fun tg_ kk_ => XS.iloadN X147.here hx rfl (hb hby at_88) rfl kk_) ?_
        show Go p e below T147 (mkF m 89 #[.val (.int p0), .val (.int p1), .val (.int p2), .val (.int p3), .val (.int p4), .val (.int (2 : Int32)), .val (.int (1 : Int32)), .val (.int (1 : Int32)), .val .null, .val .null, .val (.ref b142), .unset, .unset] [(.int p2), (.ref b142)]) _
        obtain ⟨cq153, kq153, q153a, q153b, q153c⟩ := isOf hZ rfl F148
        obtain ⟨_, _, ⟨T153, L153, k153, n153⟩, -, X153, ⟨Lc153, hQ153, l153, y153, z153⟩, st153⟩ := X147.virtualBack hx (y := (⟨"com/example/planwright/planwright/planner/SharedAtoms$Among", "weighs", "(I)Z"⟩ : MethodName)) (z := (⟨"com/example/planwright/planwright/planner/SharedAtoms$Among", "weighs", "(I)Z"⟩ : MethodName)) hown (mvT hZ (hw _ (List.mem_of_getElem? (i := 23) rfl))) (mvT hZ (hw _ (List.mem_of_getElem? (i := 24) rfl))) (notFace_of_selects (args := #[]) (mvT hZ (hw _ (List.mem_of_getElem? (i := 26) rfl)))) (mvT hZ (hw _ (List.mem_of_getElem? (i := 26) rfl))) (mvT hZ (hw _ (List.mem_of_getElem? (i := 25) rfl))) (by decide) (backOf (W := 0) (rm5n l Z a0 hw [] b142 p2 T147.heap n0 Zs152 F147a) hZ (hw _ (List.mem_of_getElem? (i := 27) rfl)) (hw _ (List.mem_of_getElem? (i := 7) rfl)) (by decide) (by decide)) q153a q153c (g := (mkF m 89 #[.val (.int p0), .val (.int p1), .val (.int p2), .val (.int p3), .val (.int p4), .val (.int (2 : Int32)), .val (.int (1 : Int32)), .val (.int (1 : Int32)), .val .null, .val .null, .val (.ref b142), .unset, .unset] [(.int p2), (.ref b142)])) rfl (by rw [hml]; rfl) (Steps.refl _) (argsL := [(.int p2)]) (rest := []) (lenOf pd_3 rfl) rfl (by show 2 * 0 + _ ≤ _; exact Nat.le_of_eq rfl) (hb hby at_89) (fun _ _ => ⟨rfl, rfl, (by decide : 1 + 0 ≤ _), (by decide : 2 + 0 ≤ _)⟩)
        dsimp only [Pt.U, Pt.locs, Pt.cells, Pt.slots] at X153 l153 y153 z153 st153 hQ153
        subst l153 y153 z153
        obtain ⟨rfl, N153q, e153⟩ := hQ153
        have N153 := Fr.app N147 N153q
        refine Go.of (fun tg_ kk_ => st153.trans kk_) ?_
        show Go p e below T153 (mkF m 92 #[.val (.int p0), .val (.int p1), .val (.int p2), .val (.int p3), .val (.int p4), .val (.int (2 : Int32)), .val (.int (1 : Int32)), .val (.int (1 : Int32)), .val .null, .val .null, .val (.ref b142), .unset, .unset] [(.int (1 : Int32))]) _
        obtain ⟨fs, hr, hrun, hended, hW, hsame⟩ := X153.leave (v := some (.int (1 : Int32))) (fun h => by rw [Bd.returns] at h; cases h)
        refine ⟨_, _, ?_, hrun, hended, _, _, rfl, ?_, ⟨_, rfl⟩, hW, hsame.mono (by decide) (by decide)⟩
        · exact retN X153 hx (t := .boolean) Bd.returns (by simp) (hb hby at_92) hr
        · show Q0 Z p0 p1 p2 p3 p4 h0 n0 _ T153.heap _
          rw [e153]
          exact ⟨rfl, N153⟩
  · subst hs1
    show Go p e below s₁ (mkF m 5 #[.val (.int p0), .val (.int p1), .val (.int p2), .val (.int p3), .val (.int p4), .unset, .unset, .unset, .unset, .unset, .unset, .unset, .unset] [(.int (3 : Int32))]) _
    refine Go.of (fun tg_ kk_ => XS.istore X0.here hx rfl (hb hby at_5) rfl (l' := #[.val (.int p0), .val (.int p1), .val (.int p2), .val (.int p3), .val (.int p4), .val (.int (3 : Int32)), .unset, .unset, .unset, .unset, .unset, .unset, .unset]) rfl kk_) ?_
    show Go p e below s₁ (mkF m 7 #[.val (.int p0), .val (.int p1), .val (.int p2), .val (.int p3), .val (.int p4), .val (.int (3 : Int32)), .unset, .unset, .unset, .unset, .unset, .unset, .unset] []) _
    refine Go.of (fun tg_ kk_ => XS.iloadN X0.here hx rfl (hb hby at_7) rfl kk_) ?_
    show Go p e below s₁ (mkF m 8 #[.val (.int p0), .val (.int p1), .val (.int p2), .val (.int p3), .val (.int p4), .val (.int (3 : Int32)), .unset, .unset, .unset, .unset, .unset, .unset, .unset] [(.int p3)]) _
    refine Go.of (fun tg_ kk_ => XS.iconst X0.here hx rfl (hb hby at_8) kk_) ?_
    show Go p e below s₁ (mkF m 9 #[.val (.int p0), .val (.int p1), .val (.int p2), .val (.int p3), .val (.int p4), .val (.int (3 : Int32)), .unset, .unset, .unset, .unset, .unset, .unset, .unset] [(.int (1 : Int32)), (.int p3)]) _
    refine Go.of (fun tg_ kk_ => XS.iand X0.here hx rfl (hb hby at_9) rfl kk_) ?_
    show Go p e below s₁ (mkF m 10 #[.val (.int p0), .val (.int p1), .val (.int p2), .val (.int p3), .val (.int p4), .val (.int (3 : Int32)), .unset, .unset, .unset, .unset, .unset, .unset, .unset] [(.int (p3 &&& (1 : Int32)))]) _
    by_cases hw0 : (p3 &&& (1 : Int32)) = (0 : Int32)
    · skip
      refine Go.of (fun tg_ kk_ => XS.ifYes X0.here hx rfl (pc0 := 10) (pc' := 17) rfl (hb hby at_10) rfl ((if0 _ _).trans (teq hw0).1) (by decide) (by decide) kk_) ?_
      show Go p e below s₁ (mkF m 17 #[.val (.int p0), .val (.int p1), .val (.int p2), .val (.int p3), .val (.int p4), .val (.int (3 : Int32)), .unset, .unset, .unset, .unset, .unset, .unset, .unset] []) _
      refine Go.of (fun tg_ kk_ => XS.iconst X0.here hx rfl (hb hby at_17) kk_) ?_
      show Go p e below s₁ (mkF m 18 #[.val (.int p0), .val (.int p1), .val (.int p2), .val (.int p3), .val (.int p4), .val (.int (3 : Int32)), .unset, .unset, .unset, .unset, .unset, .unset, .unset] [(.int (0 : Int32))]) _
      refine Go.of (fun tg_ kk_ => XS.istore X0.here hx rfl (hb hby at_18) rfl (l' := #[.val (.int p0), .val (.int p1), .val (.int p2), .val (.int p3), .val (.int p4), .val (.int (3 : Int32)), .val (.int (0 : Int32)), .unset, .unset, .unset, .unset, .unset, .unset]) rfl kk_) ?_
      show Go p e below s₁ (mkF m 20 #[.val (.int p0), .val (.int p1), .val (.int p2), .val (.int p3), .val (.int p4), .val (.int (3 : Int32)), .val (.int (0 : Int32)), .unset, .unset, .unset, .unset, .unset, .unset] []) _
      refine Go.of (fun tg_ kk_ => XS.iloadN X0.here hx rfl (hb hby at_20) rfl kk_) ?_
      show Go p e below s₁ (mkF m 21 #[.val (.int p0), .val (.int p1), .val (.int p2), .val (.int p3), .val (.int p4), .val (.int (3 : Int32)), .val (.int (0 : Int32)), .unset, .unset, .unset, .unset, .unset, .unset] [(.int p3)]) _
      refine Go.of (fun tg_ kk_ => XS.iconst X0.here hx rfl (hb hby at_21) kk_) ?_
      show Go p e below s₁ (mkF m 22 #[.val (.int p0), .val (.int p1), .val (.int p2), .val (.int p3), .val (.int p4), .val (.int (3 : Int32)), .val (.int (0 : Int32)), .unset, .unset, .unset, .unset, .unset, .unset] [(.int (2 : Int32)), (.int p3)]) _
      refine Go.of (fun tg_ kk_ => XS.iand X0.here hx rfl (hb hby at_22) rfl kk_) ?_
      show Go p e below s₁ (mkF m 23 #[.val (.int p0), .val (.int p1), .val (.int p2), .val (.int p3), .val (.int p4), .val (.int (3 : Int32)), .val (.int (0 : Int32)), .unset, .unset, .unset, .unset, .unset, .unset] [(.int (p3 &&& (2 : Int32)))]) _
      by_cases he0 : (p3 &&& (2 : Int32)) = (0 : Int32)
      · skip
        refine Go.of (fun tg_ kk_ => XS.ifYes X0.here hx rfl (pc0 := 23) (pc' := 30) rfl (hb hby at_23) rfl ((if0 _ _).trans (teq he0).1) (by decide) (by decide) kk_) ?_
        show Go p e below s₁ (mkF m 30 #[.val (.int p0), .val (.int p1), .val (.int p2), .val (.int p3), .val (.int p4), .val (.int (3 : Int32)), .val (.int (0 : Int32)), .unset, .unset, .unset, .unset, .unset, .unset] []) _
        refine Go.of (fun tg_ kk_ => XS.iconst X0.here hx rfl (hb hby at_30) kk_) ?_
        show Go p e below s₁ (mkF m 31 #[.val (.int p0), .val (.int p1), .val (.int p2), .val (.int p3), .val (.int p4), .val (.int (3 : Int32)), .val (.int (0 : Int32)), .unset, .unset, .unset, .unset, .unset, .unset] [(.int (0 : Int32))]) _
        refine Go.of (fun tg_ kk_ => XS.istore X0.here hx rfl (hb hby at_31) rfl (l' := #[.val (.int p0), .val (.int p1), .val (.int p2), .val (.int p3), .val (.int p4), .val (.int (3 : Int32)), .val (.int (0 : Int32)), .val (.int (0 : Int32)), .unset, .unset, .unset, .unset, .unset]) rfl kk_) ?_
        show Go p e below s₁ (mkF m 33 #[.val (.int p0), .val (.int p1), .val (.int p2), .val (.int p3), .val (.int p4), .val (.int (3 : Int32)), .val (.int (0 : Int32)), .val (.int (0 : Int32)), .unset, .unset, .unset, .unset, .unset] []) _
        refine Go.of (fun tg_ kk_ => XS.iload X0.here hx rfl (hb hby at_33) rfl kk_) ?_
        show Go p e below s₁ (mkF m 35 #[.val (.int p0), .val (.int p1), .val (.int p2), .val (.int p3), .val (.int p4), .val (.int (3 : Int32)), .val (.int (0 : Int32)), .val (.int (0 : Int32)), .unset, .unset, .unset, .unset, .unset] [(.int (0 : Int32))]) _
        refine Go.of (fun tg_ kk_ => XS.ifYes X0.here hx rfl (pc0 := 35) (pc' := 42) rfl (hb hby at_35) rfl ((if0 _ _).trans (teq (show (0 : Int32) = (0 : Int32) by decide)).1) (by decide) (by decide) kk_) ?_
        show Go p e below s₁ (mkF m 42 #[.val (.int p0), .val (.int p1), .val (.int p2), .val (.int p3), .val (.int p4), .val (.int (3 : Int32)), .val (.int (0 : Int32)), .val (.int (0 : Int32)), .unset, .unset, .unset, .unset, .unset] []) _
        refine Go.of (fun tg_ kk_ => XS.iload X0.here hx rfl (hb hby at_42) rfl kk_) ?_
        show Go p e below s₁ (mkF m 44 #[.val (.int p0), .val (.int p1), .val (.int p2), .val (.int p3), .val (.int p4), .val (.int (3 : Int32)), .val (.int (0 : Int32)), .val (.int (0 : Int32)), .unset, .unset, .unset, .unset, .unset] [(.int (3 : Int32))]) _
        refine Go.of (fun tg_ kk_ => XS.iloadN X0.here hx rfl (hb hby at_44) rfl kk_) ?_
        show Go p e below s₁ (mkF m 45 #[.val (.int p0), .val (.int p1), .val (.int p2), .val (.int p3), .val (.int p4), .val (.int (3 : Int32)), .val (.int (0 : Int32)), .val (.int (0 : Int32)), .unset, .unset, .unset, .unset, .unset] [(.int p0), (.int (3 : Int32))]) _
        obtain ⟨_, _, ⟨T154, L154, k154, n154⟩, -, X154, ⟨Lc154, hQ154, l154, y154, z154⟩, st154⟩ := Jvm.LawKit.callS X0 hx (y := (⟨"com/example/planwright/planwright/planner/AmongWeighsPinLaw", "fill", "(II)[Z"⟩ : MethodName)) hown (mvT hZ (hw _ (List.mem_of_getElem? (i := 0) rfl))) (mvT hZ (hw _ (List.mem_of_getElem? (i := 1) rfl))) (mvT hZ (hw _ (List.mem_of_getElem? (i := 2) rfl))) (mvT hZ (hw _ (List.mem_of_getElem? (i := 3) rfl))) (by decide) (backOf (W := 0) (rm1_3 l Z a0 hw [] p0 h0 n0 Z0) hZ (hw _ (List.mem_of_getElem? (i := 3) rfl)) (hw _ (List.mem_of_getElem? (i := 2) rfl)) (by decide) (by decide)) (g := (mkF m 45 #[.val (.int p0), .val (.int p1), .val (.int p2), .val (.int p3), .val (.int p4), .val (.int (3 : Int32)), .val (.int (0 : Int32)), .val (.int (0 : Int32)), .unset, .unset, .unset, .unset, .unset] [(.int p0), (.int (3 : Int32))])) rfl (by rw [hml]; rfl) (argsL := [(.int (3 : Int32)), (.int p0)]) (rest := []) (lenOf pd_1 rfl) rfl (by show 2 * 0 + _ ≤ _; exact Nat.le_of_eq rfl) (hb hby at_45) (fun _ _ => ⟨rfl, e0, (by decide : 0 + 1 ≤ _), (by decide : 0 + 3 ≤ _)⟩)
        dsimp only [Pt.U, Pt.locs, Pt.cells, Pt.slots] at X154 l154 y154 z154 st154 hQ154
        subst l154 y154 z154
        obtain ⟨bb154, rfl, N154q, K154q, sz154, gx154, V154⟩ := hQ154
        have N154 := Fr.app N0 N154q
        have sy154 : h0.size ≤ bb154 := Nat.le_trans K0.1 sz154
        have K155 := K0.trans K154q all0
        have Zs156 : n0 ≤ T154.heap.size := Nat.le_trans Z0 K154q.1
        refine Go.of (st154) ?_
        show Go p e below T154 (mkF m 48 #[.val (.int p0), .val (.int p1), .val (.int p2), .val (.int p3), .val (.int p4), .val (.int (3 : Int32)), .val (.int (0 : Int32)), .val (.int (0 : Int32)), .unset, .unset, .unset, .unset, .unset] [(.ref bb154)]) _
        refine Go.of (fun tg_ kk_ => XS.astore X154.here hx rfl (hb hby at_48) rfl rfl (l' := #[.val (.int p0), .val (.int p1), .val (.int p2), .val (.int p3), .val (.int p4), .val (.int (3 : Int32)), .val (.int (0 : Int32)), .val (.int (0 : Int32)), .val (.ref bb154), .unset, .unset, .unset, .unset]) rfl kk_) ?_
        show Go p e below T154 (mkF m 50 #[.val (.int p0), .val (.int p1), .val (.int p2), .val (.int p3), .val (.int p4), .val (.int (3 : Int32)), .val (.int (0 : Int32)), .val (.int (0 : Int32)), .val (.ref bb154), .unset, .unset, .unset, .unset] []) _
        refine Go.of (fun tg_ kk_ => XS.iload X154.here hx rfl (hb hby at_50) rfl kk_) ?_
        show Go p e below T154 (mkF m 52 #[.val (.int p0), .val (.int p1), .val (.int p2), .val (.int p3), .val (.int p4), .val (.int (3 : Int32)), .val (.int (0 : Int32)), .val (.int (0 : Int32)), .val (.ref bb154), .unset, .unset, .unset, .unset] [(.int (0 : Int32))]) _
        refine Go.of (fun tg_ kk_ => XS.ifYes X154.here hx rfl (pc0 := 52) (pc' := 59) rfl (hb hby at_52) rfl ((if0 _ _).trans (teq (show (0 : Int32) = (0 : Int32) by decide)).1) (by decide) (by decide) kk_) ?_
        show Go p e below T154 (mkF m 59 #[.val (.int p0), .val (.int p1), .val (.int p2), .val (.int p3), .val (.int p4), .val (.int (3 : Int32)), .val (.int (0 : Int32)), .val (.int (0 : Int32)), .val (.ref bb154), .unset, .unset, .unset, .unset] []) _
        refine Go.of (fun tg_ kk_ => XS.iload X154.here hx rfl (hb hby at_59) rfl kk_) ?_
        show Go p e below T154 (mkF m 61 #[.val (.int p0), .val (.int p1), .val (.int p2), .val (.int p3), .val (.int p4), .val (.int (3 : Int32)), .val (.int (0 : Int32)), .val (.int (0 : Int32)), .val (.ref bb154), .unset, .unset, .unset, .unset] [(.int (3 : Int32))]) _
        refine Go.of (fun tg_ kk_ => XS.iload X154.here hx rfl (hb hby at_61) rfl kk_) ?_
        show Go p e below T154 (mkF m 63 #[.val (.int p0), .val (.int p1), .val (.int p2), .val (.int p3), .val (.int p4), .val (.int (3 : Int32)), .val (.int (0 : Int32)), .val (.int (0 : Int32)), .val (.ref bb154), .unset, .unset, .unset, .unset] [(.int p4), (.int (3 : Int32))]) _
        obtain ⟨_, _, ⟨T157, L157, k157, n157⟩, -, X157, ⟨Lc157, hQ157, l157, y157, z157⟩, st157⟩ := Jvm.LawKit.callS X154 hx (y := (⟨"com/example/planwright/planwright/planner/AmongWeighsPinLaw", "fill", "(II)[Z"⟩ : MethodName)) hown (mvT hZ (hw _ (List.mem_of_getElem? (i := 0) rfl))) (mvT hZ (hw _ (List.mem_of_getElem? (i := 1) rfl))) (mvT hZ (hw _ (List.mem_of_getElem? (i := 2) rfl))) (mvT hZ (hw _ (List.mem_of_getElem? (i := 3) rfl))) (by decide) (backOf (W := 0) (rm1_3 l Z a0 hw [] p4 T154.heap n0 Zs156) hZ (hw _ (List.mem_of_getElem? (i := 3) rfl)) (hw _ (List.mem_of_getElem? (i := 2) rfl)) (by decide) (by decide)) (g := (mkF m 63 #[.val (.int p0), .val (.int p1), .val (.int p2), .val (.int p3), .val (.int p4), .val (.int (3 : Int32)), .val (.int (0 : Int32)), .val (.int (0 : Int32)), .val (.ref bb154), .unset, .unset, .unset, .unset] [(.int p4), (.int (3 : Int32))])) rfl (by rw [hml]; rfl) (argsL := [(.int (3 : Int32)), (.int p4)]) (rest := []) (lenOf pd_1 rfl) rfl (by show 2 * 0 + _ ≤ _; exact Nat.le_of_eq rfl) (hb hby at_63) (fun _ _ => ⟨rfl, rfl, (by decide : 1 + 1 ≤ _), (by decide : 3 + 3 ≤ _)⟩)
        dsimp only [Pt.U, Pt.locs, Pt.cells, Pt.slots] at X157 l157 y157 z157 st157 hQ157
        subst l157 y157 z157
        obtain ⟨bb157, rfl, N157q, K157q, sz157, gx157, V157⟩ := hQ157
        have N157 := Fr.app N154 N157q
        have sy157 : h0.size ≤ bb157 := Nat.le_trans K155.1 sz157
        have ne158 : bb154 ≠ bb157 := Nat.ne_of_lt (Nat.lt_of_lt_of_le V154.lt sz157)
        have F159 := V154.keep K157q nin0
        have K160 := K155.trans K157q all0
        have Zs161 : n0 ≤ T157.heap.size := Nat.le_trans Zs156 K157q.1
        refine Go.of (st157) ?_
        show Go p e below T157 (mkF m 66 #[.val (.int p0), .val (.int p1), .val (.int p2), .val (.int p3), .val (.int p4), .val (.int (3 : Int32)), .val (.int (0 : Int32)), .val (.int (0 : Int32)), .val (.ref bb154), .unset, .unset, .unset, .unset] [(.ref bb157)]) _
        refine Go.of (fun tg_ kk_ => XS.astore X157.here hx rfl (hb hby at_66) rfl rfl (l' := #[.val (.int p0), .val (.int p1), .val (.int p2), .val (.int p3), .val (.int p4), .val (.int (3 : Int32)), .val (.int (0 : Int32)), .val (.int (0 : Int32)), .val (.ref bb154), .val (.ref bb157), .unset, .unset, .unset]) rfl kk_) ?_
        show Go p e below T157 (mkF m 68 #[.val (.int p0), .val (.int p1), .val (.int p2), .val (.int p3), .val (.int p4), .val (.int (3 : Int32)), .val (.int (0 : Int32)), .val (.int (0 : Int32)), .val (.ref bb154), .val (.ref bb157), .unset, .unset, .unset] []) _
        obtain ⟨T162, h162, X162, e162, E162, A162, D162, -, st162⟩ := newO X157 hx hZ hown (hw _ (List.mem_of_getElem? (i := 5) rfl)) (hw _ (List.mem_of_getElem? (i := 6) rfl)) (hw _ (List.mem_of_getElem? (i := 7) rfl)) rfl (g := (mkF m 68 #[.val (.int p0), .val (.int p1), .val (.int p2), .val (.int p3), .val (.int p4), .val (.int (3 : Int32)), .val (.int (0 : Int32)), .val (.int (0 : Int32)), .val (.ref bb154), .val (.ref bb157), .unset, .unset, .unset] [])) rfl (hb hby at_68) (by decide) (by decide)
        obtain ⟨b162, g162⟩ : ∃ z, z = T157.heap.size := ⟨_, rfl⟩
        rw [← g162] at A162 D162 st162
        have gx162 : n0 ≤ b162 := Nat.le_trans Zs161 (Nat.le_of_eq g162.symm)
        have sz162 : h0.size ≤ b162 := Nat.le_trans K160.1 (Nat.le_of_eq g162.symm)
        have ne163 : bb154 ≠ b162 := Nat.ne_of_lt (Nat.lt_of_lt_of_le F159.lt (Nat.le_of_eq g162.symm))
        have ne164 : bb157 ≠ b162 := Nat.ne_of_lt (Nat.lt_of_lt_of_le V157.lt (Nat.le_of_eq g162.symm))
        have F165 := F159.ext E162
        have F166 := V157.ext E162
        have K167 := K160.ext E162
        have Zs168 : n0 ≤ h162.size := Nat.le_trans Zs161 E162.1
        have F169 : Fld Z h162 b162 "com/example/planwright/planwright/planner/SharedAtoms$Among" "weighed" "[Z" .null := D162 (Or.inr (hw _ (List.mem_of_getElem? (i := 20) rfl))) (ty := (.array .boolean)) (by decide)
        have F170 : Fld Z h162 b162 "com/example/planwright/planwright/planner/SharedAtoms$Among" "elsewhere" "[Z" .null := D162 (Or.inr (hw _ (List.mem_of_getElem? (i := 22) rfl))) (ty := (.array .boolean)) (by decide)
        refine Go.of (st162) ?_
        show Go p e below T162 (mkF m 71 #[.val (.int p0), .val (.int p1), .val (.int p2), .val (.int p3), .val (.int p4), .val (.int (3 : Int32)), .val (.int (0 : Int32)), .val (.int (0 : Int32)), .val (.ref bb154), .val (.ref bb157), .unset, .unset, .unset] [(.ref b162)]) _
        refine Go.of (fun tg_ kk_ => XS.dup X162.here hx rfl (hb hby at_71) rfl rfl kk_) ?_
        show Go p e below T162 (mkF m 72 #[.val (.int p0), .val (.int p1), .val (.int p2), .val (.int p3), .val (.int p4), .val (.int (3 : Int32)), .val (.int (0 : Int32)), .val (.int (0 : Int32)), .val (.ref bb154), .val (.ref bb157), .unset, .unset, .unset] [(.ref b162), (.ref b162)]) _
        refine Go.of (fun tg_ kk_ => XS.aload X162.here hx rfl (hb hby at_72) rfl rfl kk_) ?_
        show Go p e below T162 (mkF m 74 #[.val (.int p0), .val (.int p1), .val (.int p2), .val (.int p3), .val (.int p4), .val (.int (3 : Int32)), .val (.int (0 : Int32)), .val (.int (0 : Int32)), .val (.ref bb154), .val (.ref bb157), .unset, .unset, .unset] [(.ref bb154), (.ref b162), (.ref b162)]) _
        refine Go.of (fun tg_ kk_ => XS.aload X162.here hx rfl (hb hby at_74) rfl rfl kk_) ?_
        show Go p e below T162 (mkF m 76 #[.val (.int p0), .val (.int p1), .val (.int p2), .val (.int p3), .val (.int p4), .val (.int (3 : Int32)), .val (.int (0 : Int32)), .val (.int (0 : Int32)), .val (.ref bb154), .val (.ref bb157), .unset, .unset, .unset] [(.ref bb157), (.ref bb154), (.ref b162), (.ref b162)]) _
        obtain ⟨_, _, ⟨T171, L171, k171, n171⟩, -, X171, ⟨Lc171, hQ171, l171, y171, z171⟩, st171⟩ := X162.specialBack hx (y := (⟨"com/example/planwright/planwright/planner/SharedAtoms$Among", "<init>", "([Z[Z)V"⟩ : MethodName)) rfl hown (mvT hZ (hw _ (List.mem_of_getElem? (i := 8) rfl))) (mvT hZ (hw _ (List.mem_of_getElem? (i := 9) rfl))) (mvT hZ (hw _ (List.mem_of_getElem? (i := 10) rfl))) (by decide) (backOf (W := 1) (rm2_00 l Z a0 hw [] b162 bb154 bb157 h162 n0 Zs168 gx162 A162 F169 F170) hZ (hw _ (List.mem_of_getElem? (i := 10) rfl)) (hw _ (List.mem_of_getElem? (i := 7) rfl)) (by decide) (by decide)) (g := (mkF m 76 #[.val (.int p0), .val (.int p1), .val (.int p2), .val (.int p3), .val (.int p4), .val (.int (3 : Int32)), .val (.int (0 : Int32)), .val (.int (0 : Int32)), .val (.ref bb154), .val (.ref bb157), .unset, .unset, .unset] [(.ref bb157), (.ref bb154), (.ref b162), (.ref b162)])) rfl (by rw [hml]; rfl) (Steps.refl _) (a := b162) (argsL := [(.ref bb154), (.ref bb157)]) (rest := [(.ref b162)]) (lenOf pd_2 rfl) rfl (by show 2 * 0 + _ ≤ _; exact Nat.le_of_eq rfl) (hb hby at_76) (fun _ _ => ⟨rfl, e162, (by decide : 3 + 0 ≤ _), (by decide : 8 + 0 ≤ _)⟩)
        dsimp only [Pt.U, Pt.locs, Pt.cells, Pt.slots] at X171 l171 y171 z171 st171 hQ171
        subst l171 y171 z171
        obtain ⟨rfl, N171q, K171q, F171a⟩ := hQ171
        have N171 := Fr.app N157 N171q
        have F172 := F165.keep K171q (ninS ne163 nin0)
        have F173 := F166.keep K171q (ninS ne164 nin0)
        have F174 := A162.keep K171q
        have K177 := K167.trans K171q (allS (Or.inr sz162) all0)
        have Zs178 : n0 ≤ T171.heap.size := Nat.le_trans Zs168 K171q.1
        refine Go.of (fun tg_ kk_ => st171.trans kk_) ?_
        show Go p e below T171 (mkF m 79 #[.val (.int p0), .val (.int p1), .val (.int p2), .val (.int p3), .val (.int p4), .val (.int (3 : Int32)), .val (.int (0 : Int32)), .val (.int (0 : Int32)), .val (.ref bb154), .val (.ref bb157), .unset, .unset, .unset] [(.ref b162)]) _
        refine Go.of (fun tg_ kk_ => XS.astore X171.here hx rfl (hb hby at_79) rfl rfl (l' := #[.val (.int p0), .val (.int p1), .val (.int p2), .val (.int p3), .val (.int p4), .val (.int (3 : Int32)), .val (.int (0 : Int32)), .val (.int (0 : Int32)), .val (.ref bb154), .val (.ref bb157), .val (.ref b162), .unset, .unset]) rfl kk_) ?_
        show Go p e below T171 (mkF m 81 #[.val (.int p0), .val (.int p1), .val (.int p2), .val (.int p3), .val (.int p4), .val (.int (3 : Int32)), .val (.int (0 : Int32)), .val (.int (0 : Int32)), .val (.ref bb154), .val (.ref bb157), .val (.ref b162), .unset, .unset] []) _
        refine Go.of (fun tg_ kk_ => XS.iload X171.here hx rfl (hb hby at_81) rfl kk_) ?_
        show Go p e below T171 (mkF m 83 #[.val (.int p0), .val (.int p1), .val (.int p2), .val (.int p3), .val (.int p4), .val (.int (3 : Int32)), .val (.int (0 : Int32)), .val (.int (0 : Int32)), .val (.ref bb154), .val (.ref bb157), .val (.ref b162), .unset, .unset] [(.int (0 : Int32))]) _
        refine Go.of (fun tg_ kk_ => XS.ifYes X171.here hx rfl (pc0 := 83) (pc' := 93) rfl (hb hby at_83) rfl ((if0 _ _).trans (teq (show (0 : Int32) = (0 : Int32) by decide)).1) (by decide) (by decide) kk_) ?_
        show Go p e below T171 (mkF m 93 #[.val (.int p0), .val (.int p1), .val (.int p2), .val (.int p3), .val (.int p4), .val (.int (3 : Int32)), .val (.int (0 : Int32)), .val (.int (0 : Int32)), .val (.ref bb154), .val (.ref bb157), .val (.ref b162), .unset, .unset] []) _
        refine Go.of (fun tg_ kk_ => XS.iloadN X171.here hx rfl (hb hby at_93) rfl kk_) ?_
        show Go p e below T171 (mkF m 94 #[.val (.int p0), .val (.int p1), .val (.int p2), .val (.int p3), .val (.int p4), .val (.int (3 : Int32)), .val (.int (0 : Int32)), .val (.int (0 : Int32)), .val (.ref bb154), .val (.ref bb157), .val (.ref b162), .unset, .unset] [(.int p2)]) _
        refine Go.of (X171.ldcInt hx hown (mvT hZ (hw _ (List.mem_of_getElem? (i := 28) rfl))) (g := (mkF m 94 #[.val (.int p0), .val (.int p1), .val (.int p2), .val (.int p3), .val (.int p4), .val (.int (3 : Int32)), .val (.int (0 : Int32)), .val (.int (0 : Int32)), .val (.ref bb154), .val (.ref bb157), .val (.ref b162), .unset, .unset] [(.int p2)])) rfl (hb hby at_94)) ?_
        show Go p e below T171 (mkF m 96 #[.val (.int p0), .val (.int p1), .val (.int p2), .val (.int p3), .val (.int p4), .val (.int (3 : Int32)), .val (.int (0 : Int32)), .val (.int (0 : Int32)), .val (.ref bb154), .val (.ref bb157), .val (.ref b162), .unset, .unset] [(.int (2147483647 : Int32)), (.int p2)]) _
        refine Go.of (fun tg_ kk_ => XS.iand X171.here hx rfl (hb hby at_96) rfl kk_) ?_
        show Go p e below T171 (mkF m 97 #[.val (.int p0), .val (.int p1), .val (.int p2), .val (.int p3), .val (.int p4), .val (.int (3 : Int32)), .val (.int (0 : Int32)), .val (.int (0 : Int32)), .val (.ref bb154), .val (.ref bb157), .val (.ref b162), .unset, .unset] [(.int (p2 &&& (2147483647 : Int32)))]) _
        refine Go.of (fun tg_ kk_ => XS.iload X171.here hx rfl (hb hby at_97) rfl kk_) ?_
        show Go p e below T171 (mkF m 99 #[.val (.int p0), .val (.int p1), .val (.int p2), .val (.int p3), .val (.int p4), .val (.int (3 : Int32)), .val (.int (0 : Int32)), .val (.int (0 : Int32)), .val (.ref bb154), .val (.ref bb157), .val (.ref b162), .unset, .unset] [(.int (3 : Int32)), (.int (p2 &&& (2147483647 : Int32)))]) _
        refine Go.of (fun tg_ kk_ => Jvm.RoadKit.iremM (g := (mkF m 99 #[.val (.int p0), .val (.int p1), .val (.int p2), .val (.int p3), .val (.int p4), .val (.int (3 : Int32)), .val (.int (0 : Int32)), .val (.int (0 : Int32)), .val (.ref bb154), .val (.ref bb157), .val (.ref b162), .unset, .unset] [(.int (3 : Int32)), (.int (p2 &&& (2147483647 : Int32)))])) X171 hx rfl (hb hby at_99) rfl (by decide) kk_) ?_
        show Go p e below T171 (mkF m 100 #[.val (.int p0), .val (.int p1), .val (.int p2), .val (.int p3), .val (.int p4), .val (.int (3 : Int32)), .val (.int (0 : Int32)), .val (.int (0 : Int32)), .val (.ref bb154), .val (.ref bb157), .val (.ref b162), .unset, .unset] [(.int ((p2 &&& (2147483647 : Int32)) % (3 : Int32)))]) _
        obtain ⟨ix, qix⟩ : ∃ z : Int32, z = ((p2 &&& (2147483647 : Int32)) % (3 : Int32)) := ⟨_, rfl⟩
        rw [← qix]
        show Go p e below T171 (mkF m 100 #[.val (.int p0), .val (.int p1), .val (.int p2), .val (.int p3), .val (.int p4), .val (.int (3 : Int32)), .val (.int (0 : Int32)), .val (.int (0 : Int32)), .val (.ref bb154), .val (.ref bb157), .val (.ref b162), .unset, .unset] [(.int ix)]) _
        have hin : ¬ (ix < 0) ∧ (ix).toNatClampNeg < 3 := by rw [qix]; exact own_in p2 (3 : Int32) 3 (by decide) (by decide)
        have hin4 : ¬ (ix < 0) ∧ (ix).toNatClampNeg < 4 := ⟨hin.1, by omega⟩
        refine Go.of (fun tg_ kk_ => XS.istore X171.here hx rfl (hb hby at_100) rfl (l' := #[.val (.int p0), .val (.int p1), .val (.int p2), .val (.int p3), .val (.int p4), .val (.int (3 : Int32)), .val (.int (0 : Int32)), .val (.int (0 : Int32)), .val (.ref bb154), .val (.ref bb157), .val (.ref b162), .val (.int ix), .unset]) rfl kk_) ?_
        show Go p e below T171 (mkF m 102 #[.val (.int p0), .val (.int p1), .val (.int p2), .val (.int p3), .val (.int p4), .val (.int (3 : Int32)), .val (.int (0 : Int32)), .val (.int (0 : Int32)), .val (.ref bb154), .val (.ref bb157), .val (.ref b162), .val (.int ix), .unset] []) _
        refine Go.of (fun tg_ kk_ => XS.iloadN X171.here hx rfl (hb hby at_102) rfl kk_) ?_
        show Go p e below T171 (mkF m 103 #[.val (.int p0), .val (.int p1), .val (.int p2), .val (.int p3), .val (.int p4), .val (.int (3 : Int32)), .val (.int (0 : Int32)), .val (.int (0 : Int32)), .val (.ref bb154), .val (.ref bb157), .val (.ref b162), .val (.int ix), .unset] [(.int p0)]) _
        refine Go.of (fun tg_ kk_ => XS.iload X171.here hx rfl (hb hby at_103) rfl kk_) ?_
        show Go p e below T171 (mkF m 105 #[.val (.int p0), .val (.int p1), .val (.int p2), .val (.int p3), .val (.int p4), .val (.int (3 : Int32)), .val (.int (0 : Int32)), .val (.int (0 : Int32)), .val (.ref bb154), .val (.ref bb157), .val (.ref b162), .val (.int ix), .unset] [(.int ix), (.int p0)]) _
        refine Go.of (fun tg_ kk_ => XS.iushr X171.here hx rfl (hb hby at_105) rfl kk_) ?_
        show Go p e below T171 (mkF m 106 #[.val (.int p0), .val (.int p1), .val (.int p2), .val (.int p3), .val (.int p4), .val (.int (3 : Int32)), .val (.int (0 : Int32)), .val (.int (0 : Int32)), .val (.ref bb154), .val (.ref bb157), .val (.ref b162), .val (.int ix), .unset] [(.int ((p0.toUInt32 >>> (ix &&& 31).toUInt32).toInt32))]) _
        refine Go.of (fun tg_ kk_ => XS.iconst X171.here hx rfl (hb hby at_106) kk_) ?_
        show Go p e below T171 (mkF m 107 #[.val (.int p0), .val (.int p1), .val (.int p2), .val (.int p3), .val (.int p4), .val (.int (3 : Int32)), .val (.int (0 : Int32)), .val (.int (0 : Int32)), .val (.ref bb154), .val (.ref bb157), .val (.ref b162), .val (.int ix), .unset] [(.int (1 : Int32)), (.int ((p0.toUInt32 >>> (ix &&& 31).toUInt32).toInt32))]) _
        refine Go.of (fun tg_ kk_ => XS.iand X171.here hx rfl (hb hby at_107) rfl kk_) ?_
        show Go p e below T171 (mkF m 108 #[.val (.int p0), .val (.int p1), .val (.int p2), .val (.int p3), .val (.int p4), .val (.int (3 : Int32)), .val (.int (0 : Int32)), .val (.int (0 : Int32)), .val (.ref bb154), .val (.ref bb157), .val (.ref b162), .val (.int ix), .unset] [(.int (((p0.toUInt32 >>> (ix &&& 31).toUInt32).toInt32) &&& (1 : Int32)))]) _
        have st179 : ∀ ex : Int32, ex = (if (((p0.toUInt32 >>> (ix &&& 31).toUInt32).toInt32) &&& (1 : Int32)) = (0 : Int32) then (0 : Int32) else (1 : Int32)) → ∀ t, Steps p.tables e below (T171.setTop (mkF m 116 #[.val (.int p0), .val (.int p1), .val (.int p2), .val (.int p3), .val (.int p4), .val (.int (3 : Int32)), .val (.int (0 : Int32)), .val (.int (0 : Int32)), .val (.ref bb154), .val (.ref bb157), .val (.ref b162), .val (.int ix), .unset] [(.int ex)])) t → Steps p.tables e below (T171.setTop (mkF m 108 #[.val (.int p0), .val (.int p1), .val (.int p2), .val (.int p3), .val (.int p4), .val (.int (3 : Int32)), .val (.int (0 : Int32)), .val (.int (0 : Int32)), .val (.ref bb154), .val (.ref bb157), .val (.ref b162), .val (.int ix), .unset] [(.int (((p0.toUInt32 >>> (ix &&& 31).toUInt32).toInt32) &&& (1 : Int32)))])) t := by
          intro ex qex tg_ kk_
          by_cases hc : (((p0.toUInt32 >>> (ix &&& 31).toUInt32).toInt32) &&& (1 : Int32)) = (0 : Int32)
          · rw [if_pos hc] at qex; rw [qex] at kk_
            show Steps p.tables e below (T171.setTop (mkF m 108 #[.val (.int p0), .val (.int p1), .val (.int p2), .val (.int p3), .val (.int p4), .val (.int (3 : Int32)), .val (.int (0 : Int32)), .val (.int (0 : Int32)), .val (.ref bb154), .val (.ref bb157), .val (.ref b162), .val (.int ix), .unset] [(.int (((p0.toUInt32 >>> (ix &&& 31).toUInt32).toInt32) &&& (1 : Int32)))])) _
            refine XS.ifYes X171.here hx rfl (pc0 := 108) (pc' := 115) rfl (hb hby at_108) rfl ((if0 _ _).trans (teq hc).1) (by decide) (by decide) ?_
            show Steps p.tables e below (T171.setTop (mkF m 115 #[.val (.int p0), .val (.int p1), .val (.int p2), .val (.int p3), .val (.int p4), .val (.int (3 : Int32)), .val (.int (0 : Int32)), .val (.int (0 : Int32)), .val (.ref bb154), .val (.ref bb157), .val (.ref b162), .val (.int ix), .unset] [])) _
            refine XS.iconst X171.here hx rfl (hb hby at_115) ?_
            show Steps p.tables e below (T171.setTop (mkF m 116 #[.val (.int p0), .val (.int p1), .val (.int p2), .val (.int p3), .val (.int p4), .val (.int (3 : Int32)), .val (.int (0 : Int32)), .val (.int (0 : Int32)), .val (.ref bb154), .val (.ref bb157), .val (.ref b162), .val (.int ix), .unset] [(.int (0 : Int32))])) _
            exact kk_
          · rw [if_neg hc] at qex; rw [qex] at kk_
            show Steps p.tables e below (T171.setTop (mkF m 108 #[.val (.int p0), .val (.int p1), .val (.int p2), .val (.int p3), .val (.int p4), .val (.int (3 : Int32)), .val (.int (0 : Int32)), .val (.int (0 : Int32)), .val (.ref bb154), .val (.ref bb157), .val (.ref b162), .val (.int ix), .unset] [(.int (((p0.toUInt32 >>> (ix &&& 31).toUInt32).toInt32) &&& (1 : Int32)))])) _
            refine XS.ifNo X171.here hx rfl (hb hby at_108) rfl ((if0 _ _).trans (feq hc).1) ?_
            show Steps p.tables e below (T171.setTop (mkF m 111 #[.val (.int p0), .val (.int p1), .val (.int p2), .val (.int p3), .val (.int p4), .val (.int (3 : Int32)), .val (.int (0 : Int32)), .val (.int (0 : Int32)), .val (.ref bb154), .val (.ref bb157), .val (.ref b162), .val (.int ix), .unset] [])) _
            refine XS.iconst X171.here hx rfl (hb hby at_111) ?_
            show Steps p.tables e below (T171.setTop (mkF m 112 #[.val (.int p0), .val (.int p1), .val (.int p2), .val (.int p3), .val (.int p4), .val (.int (3 : Int32)), .val (.int (0 : Int32)), .val (.int (0 : Int32)), .val (.ref bb154), .val (.ref bb157), .val (.ref b162), .val (.int ix), .unset] [(.int (1 : Int32))])) _
            refine XS.goto X171.here hx rfl (pc0 := 112) (pc' := 116) rfl (hb hby at_112) (by decide) (by decide) ?_
            show Steps p.tables e below (T171.setTop (mkF m 116 #[.val (.int p0), .val (.int p1), .val (.int p2), .val (.int p3), .val (.int p4), .val (.int (3 : Int32)), .val (.int (0 : Int32)), .val (.int (0 : Int32)), .val (.ref bb154), .val (.ref bb157), .val (.ref b162), .val (.int ix), .unset] [(.int (1 : Int32))])) _
            exact kk_
        obtain ⟨ex, qex⟩ : ∃ z : Int32, z = (if (((p0.toUInt32 >>> (ix &&& 31).toUInt32).toInt32) &&& (1 : Int32)) = (0 : Int32) then (0 : Int32) else (1 : Int32)) := ⟨_, rfl⟩
        refine Go.of (st179 ex qex) ?_
        show Go p e below T171 (mkF m 116 #[.val (.int p0), .val (.int p1), .val (.int p2), .val (.int p3), .val (.int p4), .val (.int (3 : Int32)), .val (.int (0 : Int32)), .val (.int (0 : Int32)), .val (.ref bb154), .val (.ref bb157), .val (.ref b162), .val (.int ix), .unset] [(.int ex)]) _
        refine Go.of (fun tg_ kk_ => XS.istore X171.here hx rfl (hb hby at_116) rfl (l' := #[.val (.int p0), .val (.int p1), .val (.int p2), .val (.int p3), .val (.int p4), .val (.int (3 : Int32)), .val (.int (0 : Int32)), .val (.int (0 : Int32)), .val (.ref bb154), .val (.ref bb157), .val (.ref b162), .val (.int ix), .val (.int ex)]) rfl kk_) ?_
        show Go p e below T171 (mkF m 118 #[.val (.int p0), .val (.int p1), .val (.int p2), .val (.int p3), .val (.int p4), .val (.int (3 : Int32)), .val (.int (0 : Int32)), .val (.int (0 : Int32)), .val (.ref bb154), .val (.ref bb157), .val (.ref b162), .val (.int ix), .val (.int ex)] []) _
        refine Go.of (fun tg_ kk_ => XS.aload X171.here hx rfl (hb hby at_118) rfl rfl kk_) ?_
        show Go p e below T171 (mkF m 120 #[.val (.int p0), .val (.int p1), .val (.int p2), .val (.int p3), .val (.int p4), .val (.int (3 : Int32)), .val (.int (0 : Int32)), .val (.int (0 : Int32)), .val (.ref bb154), .val (.ref bb157), .val (.ref b162), .val (.int ix), .val (.int ex)] [(.ref b162)]) _
        refine Go.of (fun tg_ kk_ => XS.iload X171.here hx rfl (hb hby at_120) rfl kk_) ?_
        show Go p e below T171 (mkF m 122 #[.val (.int p0), .val (.int p1), .val (.int p2), .val (.int p3), .val (.int p4), .val (.int (3 : Int32)), .val (.int (0 : Int32)), .val (.int (0 : Int32)), .val (.ref bb154), .val (.ref bb157), .val (.ref b162), .val (.int ix), .val (.int ex)] [(.int ix), (.ref b162)]) _
        obtain ⟨cq180, kq180, q180a, q180b, q180c⟩ := isOf hZ rfl F174
        obtain ⟨_, _, ⟨T180, L180, k180, n180⟩, -, X180, ⟨Lc180, hQ180, l180, y180, z180⟩, st180⟩ := X171.virtualBack hx (y := (⟨"com/example/planwright/planwright/planner/SharedAtoms$Among", "weighs", "(I)Z"⟩ : MethodName)) (z := (⟨"com/example/planwright/planwright/planner/SharedAtoms$Among", "weighs", "(I)Z"⟩ : MethodName)) hown (mvT hZ (hw _ (List.mem_of_getElem? (i := 23) rfl))) (mvT hZ (hw _ (List.mem_of_getElem? (i := 24) rfl))) (notFace_of_selects (args := #[]) (mvT hZ (hw _ (List.mem_of_getElem? (i := 26) rfl)))) (mvT hZ (hw _ (List.mem_of_getElem? (i := 26) rfl))) (mvT hZ (hw _ (List.mem_of_getElem? (i := 25) rfl))) (by decide) (backOf (W := 0) (rm5 l Z a0 hw [] b162 ix bb154 (bitsF p0) 3 T171.heap n0 Zs178 F171a F172 hin) hZ (hw _ (List.mem_of_getElem? (i := 27) rfl)) (hw _ (List.mem_of_getElem? (i := 7) rfl)) (by decide) (by decide)) q180a q180c (g := (mkF m 122 #[.val (.int p0), .val (.int p1), .val (.int p2), .val (.int p3), .val (.int p4), .val (.int (3 : Int32)), .val (.int (0 : Int32)), .val (.int (0 : Int32)), .val (.ref bb154), .val (.ref bb157), .val (.ref b162), .val (.int ix), .val (.int ex)] [(.int ix), (.ref b162)])) rfl (by rw [hml]; rfl) (Steps.refl _) (argsL := [(.int ix)]) (rest := []) (lenOf pd_3 rfl) rfl (by show 2 * 0 + _ ≤ _; exact Nat.le_of_eq rfl) (hb hby at_122) (fun _ _ => ⟨rfl, rfl, (by decide : 3 + 0 ≤ _), (by decide : 8 + 0 ≤ _)⟩)
        dsimp only [Pt.U, Pt.locs, Pt.cells, Pt.slots] at X180 l180 y180 z180 st180 hQ180
        subst l180 y180 z180
        obtain ⟨rfl, N180q, e180⟩ := hQ180
        have N180 := Fr.app N171 N180q
        refine Go.of (fun tg_ kk_ => st180.trans kk_) ?_
        show Go p e below T180 (mkF m 125 #[.val (.int p0), .val (.int p1), .val (.int p2), .val (.int p3), .val (.int p4), .val (.int (3 : Int32)), .val (.int (0 : Int32)), .val (.int (0 : Int32)), .val (.ref bb154), .val (.ref bb157), .val (.ref b162), .val (.int ix), .val (.int ex)] [(.int (if bitsF p0 (ix).toNatClampNeg = 0 then (0 : Int32) else (1 : Int32)))]) _
        refine Go.of (fun tg_ kk_ => XS.iload X180.here hx rfl (hb hby at_125) rfl kk_) ?_
        show Go p e below T180 (mkF m 127 #[.val (.int p0), .val (.int p1), .val (.int p2), .val (.int p3), .val (.int p4), .val (.int (3 : Int32)), .val (.int (0 : Int32)), .val (.int (0 : Int32)), .val (.ref bb154), .val (.ref bb157), .val (.ref b162), .val (.int ix), .val (.int ex)] [(.int ex), (.int (if bitsF p0 (ix).toNatClampNeg = 0 then (0 : Int32) else (1 : Int32)))]) _
        refine Go.of (fun tg_ kk_ => XS.icmpNo X180.here hx rfl (hb hby at_127) rfl (teq (show (if bitsF p0 (ix).toNatClampNeg = 0 then (0 : Int32) else (1 : Int32)) = ex from (by rw [qex]; exact own_weighs p0 ix hin4))).2 kk_) ?_
        show Go p e below T180 (mkF m 130 #[.val (.int p0), .val (.int p1), .val (.int p2), .val (.int p3), .val (.int p4), .val (.int (3 : Int32)), .val (.int (0 : Int32)), .val (.int (0 : Int32)), .val (.ref bb154), .val (.ref bb157), .val (.ref b162), .val (.int ix), .val (.int ex)] []) _
        refine Go.of (fun tg_ kk_ => XS.iconst X180.here hx rfl (hb hby at_130) kk_) ?_
        show Go p e below T180 (mkF m 131 #[.val (.int p0), .val (.int p1), .val (.int p2), .val (.int p3), .val (.int p4), .val (.int (3 : Int32)), .val (.int (0 : Int32)), .val (.int (0 : Int32)), .val (.ref bb154), .val (.ref bb157), .val (.ref b162), .val (.int ix), .val (.int ex)] [(.int (1 : Int32))]) _
        refine Go.of (fun tg_ kk_ => XS.goto X180.here hx rfl (pc0 := 131) (pc' := 135) rfl (hb hby at_131) (by decide) (by decide) kk_) ?_
        show Go p e below T180 (mkF m 135 #[.val (.int p0), .val (.int p1), .val (.int p2), .val (.int p3), .val (.int p4), .val (.int (3 : Int32)), .val (.int (0 : Int32)), .val (.int (0 : Int32)), .val (.ref bb154), .val (.ref bb157), .val (.ref b162), .val (.int ix), .val (.int ex)] [(.int (1 : Int32))]) _
        obtain ⟨fs, hr, hrun, hended, hW, hsame⟩ := X180.leave (v := some (.int (1 : Int32))) (fun h => by rw [Bd.returns] at h; cases h)
        refine ⟨_, _, ?_, hrun, hended, _, _, rfl, ?_, ⟨_, rfl⟩, hW, hsame.mono (by decide) (by decide)⟩
        · exact retN X180 hx (t := .boolean) Bd.returns (by simp) (hb hby at_135) hr
        · show Q0 Z p0 p1 p2 p3 p4 h0 n0 _ T180.heap _
          rw [e180]
          exact ⟨rfl, N180⟩
      · skip
        refine Go.of (fun tg_ kk_ => XS.ifNo X0.here hx rfl (hb hby at_23) rfl ((if0 _ _).trans (feq he0).1) kk_) ?_
        show Go p e below s₁ (mkF m 26 #[.val (.int p0), .val (.int p1), .val (.int p2), .val (.int p3), .val (.int p4), .val (.int (3 : Int32)), .val (.int (0 : Int32)), .unset, .unset, .unset, .unset, .unset, .unset] []) _
        refine Go.of (fun tg_ kk_ => XS.iconst X0.here hx rfl (hb hby at_26) kk_) ?_
        show Go p e below s₁ (mkF m 27 #[.val (.int p0), .val (.int p1), .val (.int p2), .val (.int p3), .val (.int p4), .val (.int (3 : Int32)), .val (.int (0 : Int32)), .unset, .unset, .unset, .unset, .unset, .unset] [(.int (1 : Int32))]) _
        refine Go.of (fun tg_ kk_ => XS.goto X0.here hx rfl (pc0 := 27) (pc' := 31) rfl (hb hby at_27) (by decide) (by decide) kk_) ?_
        show Go p e below s₁ (mkF m 31 #[.val (.int p0), .val (.int p1), .val (.int p2), .val (.int p3), .val (.int p4), .val (.int (3 : Int32)), .val (.int (0 : Int32)), .unset, .unset, .unset, .unset, .unset, .unset] [(.int (1 : Int32))]) _
        refine Go.of (fun tg_ kk_ => XS.istore X0.here hx rfl (hb hby at_31) rfl (l' := #[.val (.int p0), .val (.int p1), .val (.int p2), .val (.int p3), .val (.int p4), .val (.int (3 : Int32)), .val (.int (0 : Int32)), .val (.int (1 : Int32)), .unset, .unset, .unset, .unset, .unset]) rfl kk_) ?_
        show Go p e below s₁ (mkF m 33 #[.val (.int p0), .val (.int p1), .val (.int p2), .val (.int p3), .val (.int p4), .val (.int (3 : Int32)), .val (.int (0 : Int32)), .val (.int (1 : Int32)), .unset, .unset, .unset, .unset, .unset] []) _
        refine Go.of (fun tg_ kk_ => XS.iload X0.here hx rfl (hb hby at_33) rfl kk_) ?_
        show Go p e below s₁ (mkF m 35 #[.val (.int p0), .val (.int p1), .val (.int p2), .val (.int p3), .val (.int p4), .val (.int (3 : Int32)), .val (.int (0 : Int32)), .val (.int (1 : Int32)), .unset, .unset, .unset, .unset, .unset] [(.int (0 : Int32))]) _
        refine Go.of (fun tg_ kk_ => XS.ifYes X0.here hx rfl (pc0 := 35) (pc' := 42) rfl (hb hby at_35) rfl ((if0 _ _).trans (teq (show (0 : Int32) = (0 : Int32) by decide)).1) (by decide) (by decide) kk_) ?_
        show Go p e below s₁ (mkF m 42 #[.val (.int p0), .val (.int p1), .val (.int p2), .val (.int p3), .val (.int p4), .val (.int (3 : Int32)), .val (.int (0 : Int32)), .val (.int (1 : Int32)), .unset, .unset, .unset, .unset, .unset] []) _
        refine Go.of (fun tg_ kk_ => XS.iload X0.here hx rfl (hb hby at_42) rfl kk_) ?_
        show Go p e below s₁ (mkF m 44 #[.val (.int p0), .val (.int p1), .val (.int p2), .val (.int p3), .val (.int p4), .val (.int (3 : Int32)), .val (.int (0 : Int32)), .val (.int (1 : Int32)), .unset, .unset, .unset, .unset, .unset] [(.int (3 : Int32))]) _
        refine Go.of (fun tg_ kk_ => XS.iloadN X0.here hx rfl (hb hby at_44) rfl kk_) ?_
        show Go p e below s₁ (mkF m 45 #[.val (.int p0), .val (.int p1), .val (.int p2), .val (.int p3), .val (.int p4), .val (.int (3 : Int32)), .val (.int (0 : Int32)), .val (.int (1 : Int32)), .unset, .unset, .unset, .unset, .unset] [(.int p0), (.int (3 : Int32))]) _
        obtain ⟨_, _, ⟨T181, L181, k181, n181⟩, -, X181, ⟨Lc181, hQ181, l181, y181, z181⟩, st181⟩ := Jvm.LawKit.callS X0 hx (y := (⟨"com/example/planwright/planwright/planner/AmongWeighsPinLaw", "fill", "(II)[Z"⟩ : MethodName)) hown (mvT hZ (hw _ (List.mem_of_getElem? (i := 0) rfl))) (mvT hZ (hw _ (List.mem_of_getElem? (i := 1) rfl))) (mvT hZ (hw _ (List.mem_of_getElem? (i := 2) rfl))) (mvT hZ (hw _ (List.mem_of_getElem? (i := 3) rfl))) (by decide) (backOf (W := 0) (rm1_3 l Z a0 hw [] p0 h0 n0 Z0) hZ (hw _ (List.mem_of_getElem? (i := 3) rfl)) (hw _ (List.mem_of_getElem? (i := 2) rfl)) (by decide) (by decide)) (g := (mkF m 45 #[.val (.int p0), .val (.int p1), .val (.int p2), .val (.int p3), .val (.int p4), .val (.int (3 : Int32)), .val (.int (0 : Int32)), .val (.int (1 : Int32)), .unset, .unset, .unset, .unset, .unset] [(.int p0), (.int (3 : Int32))])) rfl (by rw [hml]; rfl) (argsL := [(.int (3 : Int32)), (.int p0)]) (rest := []) (lenOf pd_1 rfl) rfl (by show 2 * 0 + _ ≤ _; exact Nat.le_of_eq rfl) (hb hby at_45) (fun _ _ => ⟨rfl, e0, (by decide : 0 + 1 ≤ _), (by decide : 0 + 3 ≤ _)⟩)
        dsimp only [Pt.U, Pt.locs, Pt.cells, Pt.slots] at X181 l181 y181 z181 st181 hQ181
        subst l181 y181 z181
        obtain ⟨bb181, rfl, N181q, K181q, sz181, gx181, V181⟩ := hQ181
        have N181 := Fr.app N0 N181q
        have sy181 : h0.size ≤ bb181 := Nat.le_trans K0.1 sz181
        have K182 := K0.trans K181q all0
        have Zs183 : n0 ≤ T181.heap.size := Nat.le_trans Z0 K181q.1
        refine Go.of (st181) ?_
        show Go p e below T181 (mkF m 48 #[.val (.int p0), .val (.int p1), .val (.int p2), .val (.int p3), .val (.int p4), .val (.int (3 : Int32)), .val (.int (0 : Int32)), .val (.int (1 : Int32)), .unset, .unset, .unset, .unset, .unset] [(.ref bb181)]) _
        refine Go.of (fun tg_ kk_ => XS.astore X181.here hx rfl (hb hby at_48) rfl rfl (l' := #[.val (.int p0), .val (.int p1), .val (.int p2), .val (.int p3), .val (.int p4), .val (.int (3 : Int32)), .val (.int (0 : Int32)), .val (.int (1 : Int32)), .val (.ref bb181), .unset, .unset, .unset, .unset]) rfl kk_) ?_
        show Go p e below T181 (mkF m 50 #[.val (.int p0), .val (.int p1), .val (.int p2), .val (.int p3), .val (.int p4), .val (.int (3 : Int32)), .val (.int (0 : Int32)), .val (.int (1 : Int32)), .val (.ref bb181), .unset, .unset, .unset, .unset] []) _
        refine Go.of (fun tg_ kk_ => XS.iload X181.here hx rfl (hb hby at_50) rfl kk_) ?_
        show Go p e below T181 (mkF m 52 #[.val (.int p0), .val (.int p1), .val (.int p2), .val (.int p3), .val (.int p4), .val (.int (3 : Int32)), .val (.int (0 : Int32)), .val (.int (1 : Int32)), .val (.ref bb181), .unset, .unset, .unset, .unset] [(.int (1 : Int32))]) _
        refine Go.of (fun tg_ kk_ => XS.ifNo X181.here hx rfl (hb hby at_52) rfl ((if0 _ _).trans (feq (show ¬ ((1 : Int32) = (0 : Int32)) by decide)).1) kk_) ?_
        show Go p e below T181 (mkF m 55 #[.val (.int p0), .val (.int p1), .val (.int p2), .val (.int p3), .val (.int p4), .val (.int (3 : Int32)), .val (.int (0 : Int32)), .val (.int (1 : Int32)), .val (.ref bb181), .unset, .unset, .unset, .unset] []) _
        refine Go.of (fun tg_ kk_ => XS.aconstNull X181.here hx rfl (hb hby at_55) kk_) ?_
        show Go p e below T181 (mkF m 56 #[.val (.int p0), .val (.int p1), .val (.int p2), .val (.int p3), .val (.int p4), .val (.int (3 : Int32)), .val (.int (0 : Int32)), .val (.int (1 : Int32)), .val (.ref bb181), .unset, .unset, .unset, .unset] [.null]) _
        refine Go.of (fun tg_ kk_ => XS.goto X181.here hx rfl (pc0 := 56) (pc' := 66) rfl (hb hby at_56) (by decide) (by decide) kk_) ?_
        show Go p e below T181 (mkF m 66 #[.val (.int p0), .val (.int p1), .val (.int p2), .val (.int p3), .val (.int p4), .val (.int (3 : Int32)), .val (.int (0 : Int32)), .val (.int (1 : Int32)), .val (.ref bb181), .unset, .unset, .unset, .unset] [.null]) _
        refine Go.of (fun tg_ kk_ => XS.astore X181.here hx rfl (hb hby at_66) rfl rfl (l' := #[.val (.int p0), .val (.int p1), .val (.int p2), .val (.int p3), .val (.int p4), .val (.int (3 : Int32)), .val (.int (0 : Int32)), .val (.int (1 : Int32)), .val (.ref bb181), .val .null, .unset, .unset, .unset]) rfl kk_) ?_
        show Go p e below T181 (mkF m 68 #[.val (.int p0), .val (.int p1), .val (.int p2), .val (.int p3), .val (.int p4), .val (.int (3 : Int32)), .val (.int (0 : Int32)), .val (.int (1 : Int32)), .val (.ref bb181), .val .null, .unset, .unset, .unset] []) _
        obtain ⟨T184, h184, X184, e184, E184, A184, D184, -, st184⟩ := newO X181 hx hZ hown (hw _ (List.mem_of_getElem? (i := 5) rfl)) (hw _ (List.mem_of_getElem? (i := 6) rfl)) (hw _ (List.mem_of_getElem? (i := 7) rfl)) rfl (g := (mkF m 68 #[.val (.int p0), .val (.int p1), .val (.int p2), .val (.int p3), .val (.int p4), .val (.int (3 : Int32)), .val (.int (0 : Int32)), .val (.int (1 : Int32)), .val (.ref bb181), .val .null, .unset, .unset, .unset] [])) rfl (hb hby at_68) (by decide) (by decide)
        obtain ⟨b184, g184⟩ : ∃ z, z = T181.heap.size := ⟨_, rfl⟩
        rw [← g184] at A184 D184 st184
        have gx184 : n0 ≤ b184 := Nat.le_trans Zs183 (Nat.le_of_eq g184.symm)
        have sz184 : h0.size ≤ b184 := Nat.le_trans K182.1 (Nat.le_of_eq g184.symm)
        have ne185 : bb181 ≠ b184 := Nat.ne_of_lt (Nat.lt_of_lt_of_le V181.lt (Nat.le_of_eq g184.symm))
        have F186 := V181.ext E184
        have K187 := K182.ext E184
        have Zs188 : n0 ≤ h184.size := Nat.le_trans Zs183 E184.1
        have F189 : Fld Z h184 b184 "com/example/planwright/planwright/planner/SharedAtoms$Among" "weighed" "[Z" .null := D184 (Or.inr (hw _ (List.mem_of_getElem? (i := 20) rfl))) (ty := (.array .boolean)) (by decide)
        have F190 : Fld Z h184 b184 "com/example/planwright/planwright/planner/SharedAtoms$Among" "elsewhere" "[Z" .null := D184 (Or.inr (hw _ (List.mem_of_getElem? (i := 22) rfl))) (ty := (.array .boolean)) (by decide)
        refine Go.of (st184) ?_
        show Go p e below T184 (mkF m 71 #[.val (.int p0), .val (.int p1), .val (.int p2), .val (.int p3), .val (.int p4), .val (.int (3 : Int32)), .val (.int (0 : Int32)), .val (.int (1 : Int32)), .val (.ref bb181), .val .null, .unset, .unset, .unset] [(.ref b184)]) _
        refine Go.of (fun tg_ kk_ => XS.dup X184.here hx rfl (hb hby at_71) rfl rfl kk_) ?_
        show Go p e below T184 (mkF m 72 #[.val (.int p0), .val (.int p1), .val (.int p2), .val (.int p3), .val (.int p4), .val (.int (3 : Int32)), .val (.int (0 : Int32)), .val (.int (1 : Int32)), .val (.ref bb181), .val .null, .unset, .unset, .unset] [(.ref b184), (.ref b184)]) _
        refine Go.of (fun tg_ kk_ => XS.aload X184.here hx rfl (hb hby at_72) rfl rfl kk_) ?_
        show Go p e below T184 (mkF m 74 #[.val (.int p0), .val (.int p1), .val (.int p2), .val (.int p3), .val (.int p4), .val (.int (3 : Int32)), .val (.int (0 : Int32)), .val (.int (1 : Int32)), .val (.ref bb181), .val .null, .unset, .unset, .unset] [(.ref bb181), (.ref b184), (.ref b184)]) _
        refine Go.of (fun tg_ kk_ => XS.aload X184.here hx rfl (hb hby at_74) rfl rfl kk_) ?_
        show Go p e below T184 (mkF m 76 #[.val (.int p0), .val (.int p1), .val (.int p2), .val (.int p3), .val (.int p4), .val (.int (3 : Int32)), .val (.int (0 : Int32)), .val (.int (1 : Int32)), .val (.ref bb181), .val .null, .unset, .unset, .unset] [.null, (.ref bb181), (.ref b184), (.ref b184)]) _
        obtain ⟨_, _, ⟨T191, L191, k191, n191⟩, -, X191, ⟨Lc191, hQ191, l191, y191, z191⟩, st191⟩ := X184.specialBack hx (y := (⟨"com/example/planwright/planwright/planner/SharedAtoms$Among", "<init>", "([Z[Z)V"⟩ : MethodName)) rfl hown (mvT hZ (hw _ (List.mem_of_getElem? (i := 8) rfl))) (mvT hZ (hw _ (List.mem_of_getElem? (i := 9) rfl))) (mvT hZ (hw _ (List.mem_of_getElem? (i := 10) rfl))) (by decide) (backOf (W := 1) (rm2_01 l Z a0 hw [] b184 bb181 h184 n0 Zs188 gx184 A184 F189 F190) hZ (hw _ (List.mem_of_getElem? (i := 10) rfl)) (hw _ (List.mem_of_getElem? (i := 7) rfl)) (by decide) (by decide)) (g := (mkF m 76 #[.val (.int p0), .val (.int p1), .val (.int p2), .val (.int p3), .val (.int p4), .val (.int (3 : Int32)), .val (.int (0 : Int32)), .val (.int (1 : Int32)), .val (.ref bb181), .val .null, .unset, .unset, .unset] [.null, (.ref bb181), (.ref b184), (.ref b184)])) rfl (by rw [hml]; rfl) (Steps.refl _) (a := b184) (argsL := [(.ref bb181), .null]) (rest := [(.ref b184)]) (lenOf pd_2 rfl) rfl (by show 2 * 0 + _ ≤ _; exact Nat.le_of_eq rfl) (hb hby at_76) (fun _ _ => ⟨rfl, e184, (by decide : 2 + 0 ≤ _), (by decide : 5 + 0 ≤ _)⟩)
        dsimp only [Pt.U, Pt.locs, Pt.cells, Pt.slots] at X191 l191 y191 z191 st191 hQ191
        subst l191 y191 z191
        obtain ⟨rfl, N191q, K191q, F191a⟩ := hQ191
        have N191 := Fr.app N181 N191q
        have F192 := F186.keep K191q (ninS ne185 nin0)
        have F193 := A184.keep K191q
        have K196 := K187.trans K191q (allS (Or.inr sz184) all0)
        have Zs197 : n0 ≤ T191.heap.size := Nat.le_trans Zs188 K191q.1
        refine Go.of (fun tg_ kk_ => st191.trans kk_) ?_
        show Go p e below T191 (mkF m 79 #[.val (.int p0), .val (.int p1), .val (.int p2), .val (.int p3), .val (.int p4), .val (.int (3 : Int32)), .val (.int (0 : Int32)), .val (.int (1 : Int32)), .val (.ref bb181), .val .null, .unset, .unset, .unset] [(.ref b184)]) _
        refine Go.of (fun tg_ kk_ => XS.astore X191.here hx rfl (hb hby at_79) rfl rfl (l' := #[.val (.int p0), .val (.int p1), .val (.int p2), .val (.int p3), .val (.int p4), .val (.int (3 : Int32)), .val (.int (0 : Int32)), .val (.int (1 : Int32)), .val (.ref bb181), .val .null, .val (.ref b184), .unset, .unset]) rfl kk_) ?_
        show Go p e below T191 (mkF m 81 #[.val (.int p0), .val (.int p1), .val (.int p2), .val (.int p3), .val (.int p4), .val (.int (3 : Int32)), .val (.int (0 : Int32)), .val (.int (1 : Int32)), .val (.ref bb181), .val .null, .val (.ref b184), .unset, .unset] []) _
        refine Go.of (fun tg_ kk_ => XS.iload X191.here hx rfl (hb hby at_81) rfl kk_) ?_
        show Go p e below T191 (mkF m 83 #[.val (.int p0), .val (.int p1), .val (.int p2), .val (.int p3), .val (.int p4), .val (.int (3 : Int32)), .val (.int (0 : Int32)), .val (.int (1 : Int32)), .val (.ref bb181), .val .null, .val (.ref b184), .unset, .unset] [(.int (0 : Int32))]) _
        refine Go.of (fun tg_ kk_ => XS.ifYes X191.here hx rfl (pc0 := 83) (pc' := 93) rfl (hb hby at_83) rfl ((if0 _ _).trans (teq (show (0 : Int32) = (0 : Int32) by decide)).1) (by decide) (by decide) kk_) ?_
        show Go p e below T191 (mkF m 93 #[.val (.int p0), .val (.int p1), .val (.int p2), .val (.int p3), .val (.int p4), .val (.int (3 : Int32)), .val (.int (0 : Int32)), .val (.int (1 : Int32)), .val (.ref bb181), .val .null, .val (.ref b184), .unset, .unset] []) _
        refine Go.of (fun tg_ kk_ => XS.iloadN X191.here hx rfl (hb hby at_93) rfl kk_) ?_
        show Go p e below T191 (mkF m 94 #[.val (.int p0), .val (.int p1), .val (.int p2), .val (.int p3), .val (.int p4), .val (.int (3 : Int32)), .val (.int (0 : Int32)), .val (.int (1 : Int32)), .val (.ref bb181), .val .null, .val (.ref b184), .unset, .unset] [(.int p2)]) _
        refine Go.of (X191.ldcInt hx hown (mvT hZ (hw _ (List.mem_of_getElem? (i := 28) rfl))) (g := (mkF m 94 #[.val (.int p0), .val (.int p1), .val (.int p2), .val (.int p3), .val (.int p4), .val (.int (3 : Int32)), .val (.int (0 : Int32)), .val (.int (1 : Int32)), .val (.ref bb181), .val .null, .val (.ref b184), .unset, .unset] [(.int p2)])) rfl (hb hby at_94)) ?_
        show Go p e below T191 (mkF m 96 #[.val (.int p0), .val (.int p1), .val (.int p2), .val (.int p3), .val (.int p4), .val (.int (3 : Int32)), .val (.int (0 : Int32)), .val (.int (1 : Int32)), .val (.ref bb181), .val .null, .val (.ref b184), .unset, .unset] [(.int (2147483647 : Int32)), (.int p2)]) _
        refine Go.of (fun tg_ kk_ => XS.iand X191.here hx rfl (hb hby at_96) rfl kk_) ?_
        show Go p e below T191 (mkF m 97 #[.val (.int p0), .val (.int p1), .val (.int p2), .val (.int p3), .val (.int p4), .val (.int (3 : Int32)), .val (.int (0 : Int32)), .val (.int (1 : Int32)), .val (.ref bb181), .val .null, .val (.ref b184), .unset, .unset] [(.int (p2 &&& (2147483647 : Int32)))]) _
        refine Go.of (fun tg_ kk_ => XS.iload X191.here hx rfl (hb hby at_97) rfl kk_) ?_
        show Go p e below T191 (mkF m 99 #[.val (.int p0), .val (.int p1), .val (.int p2), .val (.int p3), .val (.int p4), .val (.int (3 : Int32)), .val (.int (0 : Int32)), .val (.int (1 : Int32)), .val (.ref bb181), .val .null, .val (.ref b184), .unset, .unset] [(.int (3 : Int32)), (.int (p2 &&& (2147483647 : Int32)))]) _
        refine Go.of (fun tg_ kk_ => Jvm.RoadKit.iremM (g := (mkF m 99 #[.val (.int p0), .val (.int p1), .val (.int p2), .val (.int p3), .val (.int p4), .val (.int (3 : Int32)), .val (.int (0 : Int32)), .val (.int (1 : Int32)), .val (.ref bb181), .val .null, .val (.ref b184), .unset, .unset] [(.int (3 : Int32)), (.int (p2 &&& (2147483647 : Int32)))])) X191 hx rfl (hb hby at_99) rfl (by decide) kk_) ?_
        show Go p e below T191 (mkF m 100 #[.val (.int p0), .val (.int p1), .val (.int p2), .val (.int p3), .val (.int p4), .val (.int (3 : Int32)), .val (.int (0 : Int32)), .val (.int (1 : Int32)), .val (.ref bb181), .val .null, .val (.ref b184), .unset, .unset] [(.int ((p2 &&& (2147483647 : Int32)) % (3 : Int32)))]) _
        obtain ⟨ix, qix⟩ : ∃ z : Int32, z = ((p2 &&& (2147483647 : Int32)) % (3 : Int32)) := ⟨_, rfl⟩
        rw [← qix]
        show Go p e below T191 (mkF m 100 #[.val (.int p0), .val (.int p1), .val (.int p2), .val (.int p3), .val (.int p4), .val (.int (3 : Int32)), .val (.int (0 : Int32)), .val (.int (1 : Int32)), .val (.ref bb181), .val .null, .val (.ref b184), .unset, .unset] [(.int ix)]) _
        have hin : ¬ (ix < 0) ∧ (ix).toNatClampNeg < 3 := by rw [qix]; exact own_in p2 (3 : Int32) 3 (by decide) (by decide)
        have hin4 : ¬ (ix < 0) ∧ (ix).toNatClampNeg < 4 := ⟨hin.1, by omega⟩
        refine Go.of (fun tg_ kk_ => XS.istore X191.here hx rfl (hb hby at_100) rfl (l' := #[.val (.int p0), .val (.int p1), .val (.int p2), .val (.int p3), .val (.int p4), .val (.int (3 : Int32)), .val (.int (0 : Int32)), .val (.int (1 : Int32)), .val (.ref bb181), .val .null, .val (.ref b184), .val (.int ix), .unset]) rfl kk_) ?_
        show Go p e below T191 (mkF m 102 #[.val (.int p0), .val (.int p1), .val (.int p2), .val (.int p3), .val (.int p4), .val (.int (3 : Int32)), .val (.int (0 : Int32)), .val (.int (1 : Int32)), .val (.ref bb181), .val .null, .val (.ref b184), .val (.int ix), .unset] []) _
        refine Go.of (fun tg_ kk_ => XS.iloadN X191.here hx rfl (hb hby at_102) rfl kk_) ?_
        show Go p e below T191 (mkF m 103 #[.val (.int p0), .val (.int p1), .val (.int p2), .val (.int p3), .val (.int p4), .val (.int (3 : Int32)), .val (.int (0 : Int32)), .val (.int (1 : Int32)), .val (.ref bb181), .val .null, .val (.ref b184), .val (.int ix), .unset] [(.int p0)]) _
        refine Go.of (fun tg_ kk_ => XS.iload X191.here hx rfl (hb hby at_103) rfl kk_) ?_
        show Go p e below T191 (mkF m 105 #[.val (.int p0), .val (.int p1), .val (.int p2), .val (.int p3), .val (.int p4), .val (.int (3 : Int32)), .val (.int (0 : Int32)), .val (.int (1 : Int32)), .val (.ref bb181), .val .null, .val (.ref b184), .val (.int ix), .unset] [(.int ix), (.int p0)]) _
        refine Go.of (fun tg_ kk_ => XS.iushr X191.here hx rfl (hb hby at_105) rfl kk_) ?_
        show Go p e below T191 (mkF m 106 #[.val (.int p0), .val (.int p1), .val (.int p2), .val (.int p3), .val (.int p4), .val (.int (3 : Int32)), .val (.int (0 : Int32)), .val (.int (1 : Int32)), .val (.ref bb181), .val .null, .val (.ref b184), .val (.int ix), .unset] [(.int ((p0.toUInt32 >>> (ix &&& 31).toUInt32).toInt32))]) _
        refine Go.of (fun tg_ kk_ => XS.iconst X191.here hx rfl (hb hby at_106) kk_) ?_
        show Go p e below T191 (mkF m 107 #[.val (.int p0), .val (.int p1), .val (.int p2), .val (.int p3), .val (.int p4), .val (.int (3 : Int32)), .val (.int (0 : Int32)), .val (.int (1 : Int32)), .val (.ref bb181), .val .null, .val (.ref b184), .val (.int ix), .unset] [(.int (1 : Int32)), (.int ((p0.toUInt32 >>> (ix &&& 31).toUInt32).toInt32))]) _
        refine Go.of (fun tg_ kk_ => XS.iand X191.here hx rfl (hb hby at_107) rfl kk_) ?_
        show Go p e below T191 (mkF m 108 #[.val (.int p0), .val (.int p1), .val (.int p2), .val (.int p3), .val (.int p4), .val (.int (3 : Int32)), .val (.int (0 : Int32)), .val (.int (1 : Int32)), .val (.ref bb181), .val .null, .val (.ref b184), .val (.int ix), .unset] [(.int (((p0.toUInt32 >>> (ix &&& 31).toUInt32).toInt32) &&& (1 : Int32)))]) _
        have st198 : ∀ ex : Int32, ex = (if (((p0.toUInt32 >>> (ix &&& 31).toUInt32).toInt32) &&& (1 : Int32)) = (0 : Int32) then (0 : Int32) else (1 : Int32)) → ∀ t, Steps p.tables e below (T191.setTop (mkF m 116 #[.val (.int p0), .val (.int p1), .val (.int p2), .val (.int p3), .val (.int p4), .val (.int (3 : Int32)), .val (.int (0 : Int32)), .val (.int (1 : Int32)), .val (.ref bb181), .val .null, .val (.ref b184), .val (.int ix), .unset] [(.int ex)])) t → Steps p.tables e below (T191.setTop (mkF m 108 #[.val (.int p0), .val (.int p1), .val (.int p2), .val (.int p3), .val (.int p4), .val (.int (3 : Int32)), .val (.int (0 : Int32)), .val (.int (1 : Int32)), .val (.ref bb181), .val .null, .val (.ref b184), .val (.int ix), .unset] [(.int (((p0.toUInt32 >>> (ix &&& 31).toUInt32).toInt32) &&& (1 : Int32)))])) t := by
          intro ex qex tg_ kk_
          by_cases hc : (((p0.toUInt32 >>> (ix &&& 31).toUInt32).toInt32) &&& (1 : Int32)) = (0 : Int32)
          · rw [if_pos hc] at qex; rw [qex] at kk_
            show Steps p.tables e below (T191.setTop (mkF m 108 #[.val (.int p0), .val (.int p1), .val (.int p2), .val (.int p3), .val (.int p4), .val (.int (3 : Int32)), .val (.int (0 : Int32)), .val (.int (1 : Int32)), .val (.ref bb181), .val .null, .val (.ref b184), .val (.int ix), .unset] [(.int (((p0.toUInt32 >>> (ix &&& 31).toUInt32).toInt32) &&& (1 : Int32)))])) _
            refine XS.ifYes X191.here hx rfl (pc0 := 108) (pc' := 115) rfl (hb hby at_108) rfl ((if0 _ _).trans (teq hc).1) (by decide) (by decide) ?_
            show Steps p.tables e below (T191.setTop (mkF m 115 #[.val (.int p0), .val (.int p1), .val (.int p2), .val (.int p3), .val (.int p4), .val (.int (3 : Int32)), .val (.int (0 : Int32)), .val (.int (1 : Int32)), .val (.ref bb181), .val .null, .val (.ref b184), .val (.int ix), .unset] [])) _
            refine XS.iconst X191.here hx rfl (hb hby at_115) ?_
            show Steps p.tables e below (T191.setTop (mkF m 116 #[.val (.int p0), .val (.int p1), .val (.int p2), .val (.int p3), .val (.int p4), .val (.int (3 : Int32)), .val (.int (0 : Int32)), .val (.int (1 : Int32)), .val (.ref bb181), .val .null, .val (.ref b184), .val (.int ix), .unset] [(.int (0 : Int32))])) _
            exact kk_
          · rw [if_neg hc] at qex; rw [qex] at kk_
            show Steps p.tables e below (T191.setTop (mkF m 108 #[.val (.int p0), .val (.int p1), .val (.int p2), .val (.int p3), .val (.int p4), .val (.int (3 : Int32)), .val (.int (0 : Int32)), .val (.int (1 : Int32)), .val (.ref bb181), .val .null, .val (.ref b184), .val (.int ix), .unset] [(.int (((p0.toUInt32 >>> (ix &&& 31).toUInt32).toInt32) &&& (1 : Int32)))])) _
            refine XS.ifNo X191.here hx rfl (hb hby at_108) rfl ((if0 _ _).trans (feq hc).1) ?_
            show Steps p.tables e below (T191.setTop (mkF m 111 #[.val (.int p0), .val (.int p1), .val (.int p2), .val (.int p3), .val (.int p4), .val (.int (3 : Int32)), .val (.int (0 : Int32)), .val (.int (1 : Int32)), .val (.ref bb181), .val .null, .val (.ref b184), .val (.int ix), .unset] [])) _
            refine XS.iconst X191.here hx rfl (hb hby at_111) ?_
            show Steps p.tables e below (T191.setTop (mkF m 112 #[.val (.int p0), .val (.int p1), .val (.int p2), .val (.int p3), .val (.int p4), .val (.int (3 : Int32)), .val (.int (0 : Int32)), .val (.int (1 : Int32)), .val (.ref bb181), .val .null, .val (.ref b184), .val (.int ix), .unset] [(.int (1 : Int32))])) _
            refine XS.goto X191.here hx rfl (pc0 := 112) (pc' := 116) rfl (hb hby at_112) (by decide) (by decide) ?_
            show Steps p.tables e below (T191.setTop (mkF m 116 #[.val (.int p0), .val (.int p1), .val (.int p2), .val (.int p3), .val (.int p4), .val (.int (3 : Int32)), .val (.int (0 : Int32)), .val (.int (1 : Int32)), .val (.ref bb181), .val .null, .val (.ref b184), .val (.int ix), .unset] [(.int (1 : Int32))])) _
            exact kk_
        obtain ⟨ex, qex⟩ : ∃ z : Int32, z = (if (((p0.toUInt32 >>> (ix &&& 31).toUInt32).toInt32) &&& (1 : Int32)) = (0 : Int32) then (0 : Int32) else (1 : Int32)) := ⟨_, rfl⟩
        refine Go.of (st198 ex qex) ?_
        show Go p e below T191 (mkF m 116 #[.val (.int p0), .val (.int p1), .val (.int p2), .val (.int p3), .val (.int p4), .val (.int (3 : Int32)), .val (.int (0 : Int32)), .val (.int (1 : Int32)), .val (.ref bb181), .val .null, .val (.ref b184), .val (.int ix), .unset] [(.int ex)]) _
        refine Go.of (fun tg_ kk_ => XS.istore X191.here hx rfl (hb hby at_116) rfl (l' := #[.val (.int p0), .val (.int p1), .val (.int p2), .val (.int p3), .val (.int p4), .val (.int (3 : Int32)), .val (.int (0 : Int32)), .val (.int (1 : Int32)), .val (.ref bb181), .val .null, .val (.ref b184), .val (.int ix), .val (.int ex)]) rfl kk_) ?_
        show Go p e below T191 (mkF m 118 #[.val (.int p0), .val (.int p1), .val (.int p2), .val (.int p3), .val (.int p4), .val (.int (3 : Int32)), .val (.int (0 : Int32)), .val (.int (1 : Int32)), .val (.ref bb181), .val .null, .val (.ref b184), .val (.int ix), .val (.int ex)] []) _
        refine Go.of (fun tg_ kk_ => XS.aload X191.here hx rfl (hb hby at_118) rfl rfl kk_) ?_
        show Go p e below T191 (mkF m 120 #[.val (.int p0), .val (.int p1), .val (.int p2), .val (.int p3), .val (.int p4), .val (.int (3 : Int32)), .val (.int (0 : Int32)), .val (.int (1 : Int32)), .val (.ref bb181), .val .null, .val (.ref b184), .val (.int ix), .val (.int ex)] [(.ref b184)]) _
        refine Go.of (fun tg_ kk_ => XS.iload X191.here hx rfl (hb hby at_120) rfl kk_) ?_
        show Go p e below T191 (mkF m 122 #[.val (.int p0), .val (.int p1), .val (.int p2), .val (.int p3), .val (.int p4), .val (.int (3 : Int32)), .val (.int (0 : Int32)), .val (.int (1 : Int32)), .val (.ref bb181), .val .null, .val (.ref b184), .val (.int ix), .val (.int ex)] [(.int ix), (.ref b184)]) _
        obtain ⟨cq199, kq199, q199a, q199b, q199c⟩ := isOf hZ rfl F193
        obtain ⟨_, _, ⟨T199, L199, k199, n199⟩, -, X199, ⟨Lc199, hQ199, l199, y199, z199⟩, st199⟩ := X191.virtualBack hx (y := (⟨"com/example/planwright/planwright/planner/SharedAtoms$Among", "weighs", "(I)Z"⟩ : MethodName)) (z := (⟨"com/example/planwright/planwright/planner/SharedAtoms$Among", "weighs", "(I)Z"⟩ : MethodName)) hown (mvT hZ (hw _ (List.mem_of_getElem? (i := 23) rfl))) (mvT hZ (hw _ (List.mem_of_getElem? (i := 24) rfl))) (notFace_of_selects (args := #[]) (mvT hZ (hw _ (List.mem_of_getElem? (i := 26) rfl)))) (mvT hZ (hw _ (List.mem_of_getElem? (i := 26) rfl))) (mvT hZ (hw _ (List.mem_of_getElem? (i := 25) rfl))) (by decide) (backOf (W := 0) (rm5 l Z a0 hw [] b184 ix bb181 (bitsF p0) 3 T191.heap n0 Zs197 F191a F192 hin) hZ (hw _ (List.mem_of_getElem? (i := 27) rfl)) (hw _ (List.mem_of_getElem? (i := 7) rfl)) (by decide) (by decide)) q199a q199c (g := (mkF m 122 #[.val (.int p0), .val (.int p1), .val (.int p2), .val (.int p3), .val (.int p4), .val (.int (3 : Int32)), .val (.int (0 : Int32)), .val (.int (1 : Int32)), .val (.ref bb181), .val .null, .val (.ref b184), .val (.int ix), .val (.int ex)] [(.int ix), (.ref b184)])) rfl (by rw [hml]; rfl) (Steps.refl _) (argsL := [(.int ix)]) (rest := []) (lenOf pd_3 rfl) rfl (by show 2 * 0 + _ ≤ _; exact Nat.le_of_eq rfl) (hb hby at_122) (fun _ _ => ⟨rfl, rfl, (by decide : 2 + 0 ≤ _), (by decide : 5 + 0 ≤ _)⟩)
        dsimp only [Pt.U, Pt.locs, Pt.cells, Pt.slots] at X199 l199 y199 z199 st199 hQ199
        subst l199 y199 z199
        obtain ⟨rfl, N199q, e199⟩ := hQ199
        have N199 := Fr.app N191 N199q
        refine Go.of (fun tg_ kk_ => st199.trans kk_) ?_
        show Go p e below T199 (mkF m 125 #[.val (.int p0), .val (.int p1), .val (.int p2), .val (.int p3), .val (.int p4), .val (.int (3 : Int32)), .val (.int (0 : Int32)), .val (.int (1 : Int32)), .val (.ref bb181), .val .null, .val (.ref b184), .val (.int ix), .val (.int ex)] [(.int (if bitsF p0 (ix).toNatClampNeg = 0 then (0 : Int32) else (1 : Int32)))]) _
        refine Go.of (fun tg_ kk_ => XS.iload X199.here hx rfl (hb hby at_125) rfl kk_) ?_
        show Go p e below T199 (mkF m 127 #[.val (.int p0), .val (.int p1), .val (.int p2), .val (.int p3), .val (.int p4), .val (.int (3 : Int32)), .val (.int (0 : Int32)), .val (.int (1 : Int32)), .val (.ref bb181), .val .null, .val (.ref b184), .val (.int ix), .val (.int ex)] [(.int ex), (.int (if bitsF p0 (ix).toNatClampNeg = 0 then (0 : Int32) else (1 : Int32)))]) _
        refine Go.of (fun tg_ kk_ => XS.icmpNo X199.here hx rfl (hb hby at_127) rfl (teq (show (if bitsF p0 (ix).toNatClampNeg = 0 then (0 : Int32) else (1 : Int32)) = ex from (by rw [qex]; exact own_weighs p0 ix hin4))).2 kk_) ?_
        show Go p e below T199 (mkF m 130 #[.val (.int p0), .val (.int p1), .val (.int p2), .val (.int p3), .val (.int p4), .val (.int (3 : Int32)), .val (.int (0 : Int32)), .val (.int (1 : Int32)), .val (.ref bb181), .val .null, .val (.ref b184), .val (.int ix), .val (.int ex)] []) _
        refine Go.of (fun tg_ kk_ => XS.iconst X199.here hx rfl (hb hby at_130) kk_) ?_
        show Go p e below T199 (mkF m 131 #[.val (.int p0), .val (.int p1), .val (.int p2), .val (.int p3), .val (.int p4), .val (.int (3 : Int32)), .val (.int (0 : Int32)), .val (.int (1 : Int32)), .val (.ref bb181), .val .null, .val (.ref b184), .val (.int ix), .val (.int ex)] [(.int (1 : Int32))]) _
        refine Go.of (fun tg_ kk_ => XS.goto X199.here hx rfl (pc0 := 131) (pc' := 135) rfl (hb hby at_131) (by decide) (by decide) kk_) ?_
        show Go p e below T199 (mkF m 135 #[.val (.int p0), .val (.int p1), .val (.int p2), .val (.int p3), .val (.int p4), .val (.int (3 : Int32)), .val (.int (0 : Int32)), .val (.int (1 : Int32)), .val (.ref bb181), .val .null, .val (.ref b184), .val (.int ix), .val (.int ex)] [(.int (1 : Int32))]) _
        obtain ⟨fs, hr, hrun, hended, hW, hsame⟩ := X199.leave (v := some (.int (1 : Int32))) (fun h => by rw [Bd.returns] at h; cases h)
        refine ⟨_, _, ?_, hrun, hended, _, _, rfl, ?_, ⟨_, rfl⟩, hW, hsame.mono (by decide) (by decide)⟩
        · exact retN X199 hx (t := .boolean) Bd.returns (by simp) (hb hby at_135) hr
        · show Q0 Z p0 p1 p2 p3 p4 h0 n0 _ T199.heap _
          rw [e199]
          exact ⟨rfl, N199⟩
    · skip
      refine Go.of (fun tg_ kk_ => XS.ifNo X0.here hx rfl (hb hby at_10) rfl ((if0 _ _).trans (feq hw0).1) kk_) ?_
      show Go p e below s₁ (mkF m 13 #[.val (.int p0), .val (.int p1), .val (.int p2), .val (.int p3), .val (.int p4), .val (.int (3 : Int32)), .unset, .unset, .unset, .unset, .unset, .unset, .unset] []) _
      refine Go.of (fun tg_ kk_ => XS.iconst X0.here hx rfl (hb hby at_13) kk_) ?_
      show Go p e below s₁ (mkF m 14 #[.val (.int p0), .val (.int p1), .val (.int p2), .val (.int p3), .val (.int p4), .val (.int (3 : Int32)), .unset, .unset, .unset, .unset, .unset, .unset, .unset] [(.int (1 : Int32))]) _
      refine Go.of (fun tg_ kk_ => XS.goto X0.here hx rfl (pc0 := 14) (pc' := 18) rfl (hb hby at_14) (by decide) (by decide) kk_) ?_
      show Go p e below s₁ (mkF m 18 #[.val (.int p0), .val (.int p1), .val (.int p2), .val (.int p3), .val (.int p4), .val (.int (3 : Int32)), .unset, .unset, .unset, .unset, .unset, .unset, .unset] [(.int (1 : Int32))]) _
      refine Go.of (fun tg_ kk_ => XS.istore X0.here hx rfl (hb hby at_18) rfl (l' := #[.val (.int p0), .val (.int p1), .val (.int p2), .val (.int p3), .val (.int p4), .val (.int (3 : Int32)), .val (.int (1 : Int32)), .unset, .unset, .unset, .unset, .unset, .unset]) rfl kk_) ?_
      show Go p e below s₁ (mkF m 20 #[.val (.int p0), .val (.int p1), .val (.int p2), .val (.int p3), .val (.int p4), .val (.int (3 : Int32)), .val (.int (1 : Int32)), .unset, .unset, .unset, .unset, .unset, .unset] []) _
      refine Go.of (fun tg_ kk_ => XS.iloadN X0.here hx rfl (hb hby at_20) rfl kk_) ?_
      show Go p e below s₁ (mkF m 21 #[.val (.int p0), .val (.int p1), .val (.int p2), .val (.int p3), .val (.int p4), .val (.int (3 : Int32)), .val (.int (1 : Int32)), .unset, .unset, .unset, .unset, .unset, .unset] [(.int p3)]) _
      refine Go.of (fun tg_ kk_ => XS.iconst X0.here hx rfl (hb hby at_21) kk_) ?_
      show Go p e below s₁ (mkF m 22 #[.val (.int p0), .val (.int p1), .val (.int p2), .val (.int p3), .val (.int p4), .val (.int (3 : Int32)), .val (.int (1 : Int32)), .unset, .unset, .unset, .unset, .unset, .unset] [(.int (2 : Int32)), (.int p3)]) _
      refine Go.of (fun tg_ kk_ => XS.iand X0.here hx rfl (hb hby at_22) rfl kk_) ?_
      show Go p e below s₁ (mkF m 23 #[.val (.int p0), .val (.int p1), .val (.int p2), .val (.int p3), .val (.int p4), .val (.int (3 : Int32)), .val (.int (1 : Int32)), .unset, .unset, .unset, .unset, .unset, .unset] [(.int (p3 &&& (2 : Int32)))]) _
      by_cases he0 : (p3 &&& (2 : Int32)) = (0 : Int32)
      · skip
        refine Go.of (fun tg_ kk_ => XS.ifYes X0.here hx rfl (pc0 := 23) (pc' := 30) rfl (hb hby at_23) rfl ((if0 _ _).trans (teq he0).1) (by decide) (by decide) kk_) ?_
        show Go p e below s₁ (mkF m 30 #[.val (.int p0), .val (.int p1), .val (.int p2), .val (.int p3), .val (.int p4), .val (.int (3 : Int32)), .val (.int (1 : Int32)), .unset, .unset, .unset, .unset, .unset, .unset] []) _
        refine Go.of (fun tg_ kk_ => XS.iconst X0.here hx rfl (hb hby at_30) kk_) ?_
        show Go p e below s₁ (mkF m 31 #[.val (.int p0), .val (.int p1), .val (.int p2), .val (.int p3), .val (.int p4), .val (.int (3 : Int32)), .val (.int (1 : Int32)), .unset, .unset, .unset, .unset, .unset, .unset] [(.int (0 : Int32))]) _
        refine Go.of (fun tg_ kk_ => XS.istore X0.here hx rfl (hb hby at_31) rfl (l' := #[.val (.int p0), .val (.int p1), .val (.int p2), .val (.int p3), .val (.int p4), .val (.int (3 : Int32)), .val (.int (1 : Int32)), .val (.int (0 : Int32)), .unset, .unset, .unset, .unset, .unset]) rfl kk_) ?_
        show Go p e below s₁ (mkF m 33 #[.val (.int p0), .val (.int p1), .val (.int p2), .val (.int p3), .val (.int p4), .val (.int (3 : Int32)), .val (.int (1 : Int32)), .val (.int (0 : Int32)), .unset, .unset, .unset, .unset, .unset] []) _
        refine Go.of (fun tg_ kk_ => XS.iload X0.here hx rfl (hb hby at_33) rfl kk_) ?_
        show Go p e below s₁ (mkF m 35 #[.val (.int p0), .val (.int p1), .val (.int p2), .val (.int p3), .val (.int p4), .val (.int (3 : Int32)), .val (.int (1 : Int32)), .val (.int (0 : Int32)), .unset, .unset, .unset, .unset, .unset] [(.int (1 : Int32))]) _
        refine Go.of (fun tg_ kk_ => XS.ifNo X0.here hx rfl (hb hby at_35) rfl ((if0 _ _).trans (feq (show ¬ ((1 : Int32) = (0 : Int32)) by decide)).1) kk_) ?_
        show Go p e below s₁ (mkF m 38 #[.val (.int p0), .val (.int p1), .val (.int p2), .val (.int p3), .val (.int p4), .val (.int (3 : Int32)), .val (.int (1 : Int32)), .val (.int (0 : Int32)), .unset, .unset, .unset, .unset, .unset] []) _
        refine Go.of (fun tg_ kk_ => XS.aconstNull X0.here hx rfl (hb hby at_38) kk_) ?_
        show Go p e below s₁ (mkF m 39 #[.val (.int p0), .val (.int p1), .val (.int p2), .val (.int p3), .val (.int p4), .val (.int (3 : Int32)), .val (.int (1 : Int32)), .val (.int (0 : Int32)), .unset, .unset, .unset, .unset, .unset] [.null]) _
        refine Go.of (fun tg_ kk_ => XS.goto X0.here hx rfl (pc0 := 39) (pc' := 48) rfl (hb hby at_39) (by decide) (by decide) kk_) ?_
        show Go p e below s₁ (mkF m 48 #[.val (.int p0), .val (.int p1), .val (.int p2), .val (.int p3), .val (.int p4), .val (.int (3 : Int32)), .val (.int (1 : Int32)), .val (.int (0 : Int32)), .unset, .unset, .unset, .unset, .unset] [.null]) _
        refine Go.of (fun tg_ kk_ => XS.astore X0.here hx rfl (hb hby at_48) rfl rfl (l' := #[.val (.int p0), .val (.int p1), .val (.int p2), .val (.int p3), .val (.int p4), .val (.int (3 : Int32)), .val (.int (1 : Int32)), .val (.int (0 : Int32)), .val .null, .unset, .unset, .unset, .unset]) rfl kk_) ?_
        show Go p e below s₁ (mkF m 50 #[.val (.int p0), .val (.int p1), .val (.int p2), .val (.int p3), .val (.int p4), .val (.int (3 : Int32)), .val (.int (1 : Int32)), .val (.int (0 : Int32)), .val .null, .unset, .unset, .unset, .unset] []) _
        refine Go.of (fun tg_ kk_ => XS.iload X0.here hx rfl (hb hby at_50) rfl kk_) ?_
        show Go p e below s₁ (mkF m 52 #[.val (.int p0), .val (.int p1), .val (.int p2), .val (.int p3), .val (.int p4), .val (.int (3 : Int32)), .val (.int (1 : Int32)), .val (.int (0 : Int32)), .val .null, .unset, .unset, .unset, .unset] [(.int (0 : Int32))]) _
        refine Go.of (fun tg_ kk_ => XS.ifYes X0.here hx rfl (pc0 := 52) (pc' := 59) rfl (hb hby at_52) rfl ((if0 _ _).trans (teq (show (0 : Int32) = (0 : Int32) by decide)).1) (by decide) (by decide) kk_) ?_
        show Go p e below s₁ (mkF m 59 #[.val (.int p0), .val (.int p1), .val (.int p2), .val (.int p3), .val (.int p4), .val (.int (3 : Int32)), .val (.int (1 : Int32)), .val (.int (0 : Int32)), .val .null, .unset, .unset, .unset, .unset] []) _
        refine Go.of (fun tg_ kk_ => XS.iload X0.here hx rfl (hb hby at_59) rfl kk_) ?_
        show Go p e below s₁ (mkF m 61 #[.val (.int p0), .val (.int p1), .val (.int p2), .val (.int p3), .val (.int p4), .val (.int (3 : Int32)), .val (.int (1 : Int32)), .val (.int (0 : Int32)), .val .null, .unset, .unset, .unset, .unset] [(.int (3 : Int32))]) _
        refine Go.of (fun tg_ kk_ => XS.iload X0.here hx rfl (hb hby at_61) rfl kk_) ?_
        show Go p e below s₁ (mkF m 63 #[.val (.int p0), .val (.int p1), .val (.int p2), .val (.int p3), .val (.int p4), .val (.int (3 : Int32)), .val (.int (1 : Int32)), .val (.int (0 : Int32)), .val .null, .unset, .unset, .unset, .unset] [(.int p4), (.int (3 : Int32))]) _
        obtain ⟨_, _, ⟨T200, L200, k200, n200⟩, -, X200, ⟨Lc200, hQ200, l200, y200, z200⟩, st200⟩ := Jvm.LawKit.callS X0 hx (y := (⟨"com/example/planwright/planwright/planner/AmongWeighsPinLaw", "fill", "(II)[Z"⟩ : MethodName)) hown (mvT hZ (hw _ (List.mem_of_getElem? (i := 0) rfl))) (mvT hZ (hw _ (List.mem_of_getElem? (i := 1) rfl))) (mvT hZ (hw _ (List.mem_of_getElem? (i := 2) rfl))) (mvT hZ (hw _ (List.mem_of_getElem? (i := 3) rfl))) (by decide) (backOf (W := 0) (rm1_3 l Z a0 hw [] p4 h0 n0 Z0) hZ (hw _ (List.mem_of_getElem? (i := 3) rfl)) (hw _ (List.mem_of_getElem? (i := 2) rfl)) (by decide) (by decide)) (g := (mkF m 63 #[.val (.int p0), .val (.int p1), .val (.int p2), .val (.int p3), .val (.int p4), .val (.int (3 : Int32)), .val (.int (1 : Int32)), .val (.int (0 : Int32)), .val .null, .unset, .unset, .unset, .unset] [(.int p4), (.int (3 : Int32))])) rfl (by rw [hml]; rfl) (argsL := [(.int (3 : Int32)), (.int p4)]) (rest := []) (lenOf pd_1 rfl) rfl (by show 2 * 0 + _ ≤ _; exact Nat.le_of_eq rfl) (hb hby at_63) (fun _ _ => ⟨rfl, e0, (by decide : 0 + 1 ≤ _), (by decide : 0 + 3 ≤ _)⟩)
        dsimp only [Pt.U, Pt.locs, Pt.cells, Pt.slots] at X200 l200 y200 z200 st200 hQ200
        subst l200 y200 z200
        obtain ⟨bb200, rfl, N200q, K200q, sz200, gx200, V200⟩ := hQ200
        have N200 := Fr.app N0 N200q
        have sy200 : h0.size ≤ bb200 := Nat.le_trans K0.1 sz200
        have K201 := K0.trans K200q all0
        have Zs202 : n0 ≤ T200.heap.size := Nat.le_trans Z0 K200q.1
        refine Go.of (st200) ?_
        show Go p e below T200 (mkF m 66 #[.val (.int p0), .val (.int p1), .val (.int p2), .val (.int p3), .val (.int p4), .val (.int (3 : Int32)), .val (.int (1 : Int32)), .val (.int (0 : Int32)), .val .null, .unset, .unset, .unset, .unset] [(.ref bb200)]) _
        refine Go.of (fun tg_ kk_ => XS.astore X200.here hx rfl (hb hby at_66) rfl rfl (l' := #[.val (.int p0), .val (.int p1), .val (.int p2), .val (.int p3), .val (.int p4), .val (.int (3 : Int32)), .val (.int (1 : Int32)), .val (.int (0 : Int32)), .val .null, .val (.ref bb200), .unset, .unset, .unset]) rfl kk_) ?_
        show Go p e below T200 (mkF m 68 #[.val (.int p0), .val (.int p1), .val (.int p2), .val (.int p3), .val (.int p4), .val (.int (3 : Int32)), .val (.int (1 : Int32)), .val (.int (0 : Int32)), .val .null, .val (.ref bb200), .unset, .unset, .unset] []) _
        obtain ⟨T203, h203, X203, e203, E203, A203, D203, -, st203⟩ := newO X200 hx hZ hown (hw _ (List.mem_of_getElem? (i := 5) rfl)) (hw _ (List.mem_of_getElem? (i := 6) rfl)) (hw _ (List.mem_of_getElem? (i := 7) rfl)) rfl (g := (mkF m 68 #[.val (.int p0), .val (.int p1), .val (.int p2), .val (.int p3), .val (.int p4), .val (.int (3 : Int32)), .val (.int (1 : Int32)), .val (.int (0 : Int32)), .val .null, .val (.ref bb200), .unset, .unset, .unset] [])) rfl (hb hby at_68) (by decide) (by decide)
        obtain ⟨b203, g203⟩ : ∃ z, z = T200.heap.size := ⟨_, rfl⟩
        rw [← g203] at A203 D203 st203
        have gx203 : n0 ≤ b203 := Nat.le_trans Zs202 (Nat.le_of_eq g203.symm)
        have sz203 : h0.size ≤ b203 := Nat.le_trans K201.1 (Nat.le_of_eq g203.symm)
        have ne204 : bb200 ≠ b203 := Nat.ne_of_lt (Nat.lt_of_lt_of_le V200.lt (Nat.le_of_eq g203.symm))
        have F205 := V200.ext E203
        have K206 := K201.ext E203
        have Zs207 : n0 ≤ h203.size := Nat.le_trans Zs202 E203.1
        have F208 : Fld Z h203 b203 "com/example/planwright/planwright/planner/SharedAtoms$Among" "weighed" "[Z" .null := D203 (Or.inr (hw _ (List.mem_of_getElem? (i := 20) rfl))) (ty := (.array .boolean)) (by decide)
        have F209 : Fld Z h203 b203 "com/example/planwright/planwright/planner/SharedAtoms$Among" "elsewhere" "[Z" .null := D203 (Or.inr (hw _ (List.mem_of_getElem? (i := 22) rfl))) (ty := (.array .boolean)) (by decide)
        refine Go.of (st203) ?_
        show Go p e below T203 (mkF m 71 #[.val (.int p0), .val (.int p1), .val (.int p2), .val (.int p3), .val (.int p4), .val (.int (3 : Int32)), .val (.int (1 : Int32)), .val (.int (0 : Int32)), .val .null, .val (.ref bb200), .unset, .unset, .unset] [(.ref b203)]) _
        refine Go.of (fun tg_ kk_ => XS.dup X203.here hx rfl (hb hby at_71) rfl rfl kk_) ?_
        show Go p e below T203 (mkF m 72 #[.val (.int p0), .val (.int p1), .val (.int p2), .val (.int p3), .val (.int p4), .val (.int (3 : Int32)), .val (.int (1 : Int32)), .val (.int (0 : Int32)), .val .null, .val (.ref bb200), .unset, .unset, .unset] [(.ref b203), (.ref b203)]) _
        refine Go.of (fun tg_ kk_ => XS.aload X203.here hx rfl (hb hby at_72) rfl rfl kk_) ?_
        show Go p e below T203 (mkF m 74 #[.val (.int p0), .val (.int p1), .val (.int p2), .val (.int p3), .val (.int p4), .val (.int (3 : Int32)), .val (.int (1 : Int32)), .val (.int (0 : Int32)), .val .null, .val (.ref bb200), .unset, .unset, .unset] [.null, (.ref b203), (.ref b203)]) _
        refine Go.of (fun tg_ kk_ => XS.aload X203.here hx rfl (hb hby at_74) rfl rfl kk_) ?_
        show Go p e below T203 (mkF m 76 #[.val (.int p0), .val (.int p1), .val (.int p2), .val (.int p3), .val (.int p4), .val (.int (3 : Int32)), .val (.int (1 : Int32)), .val (.int (0 : Int32)), .val .null, .val (.ref bb200), .unset, .unset, .unset] [(.ref bb200), .null, (.ref b203), (.ref b203)]) _
        obtain ⟨_, _, ⟨T210, L210, k210, n210⟩, -, X210, ⟨Lc210, hQ210, l210, y210, z210⟩, st210⟩ := X203.specialBack hx (y := (⟨"com/example/planwright/planwright/planner/SharedAtoms$Among", "<init>", "([Z[Z)V"⟩ : MethodName)) rfl hown (mvT hZ (hw _ (List.mem_of_getElem? (i := 8) rfl))) (mvT hZ (hw _ (List.mem_of_getElem? (i := 9) rfl))) (mvT hZ (hw _ (List.mem_of_getElem? (i := 10) rfl))) (by decide) (backOf (W := 1) (rm2_10 l Z a0 hw [] b203 bb200 h203 n0 Zs207 gx203 A203 F208 F209) hZ (hw _ (List.mem_of_getElem? (i := 10) rfl)) (hw _ (List.mem_of_getElem? (i := 7) rfl)) (by decide) (by decide)) (g := (mkF m 76 #[.val (.int p0), .val (.int p1), .val (.int p2), .val (.int p3), .val (.int p4), .val (.int (3 : Int32)), .val (.int (1 : Int32)), .val (.int (0 : Int32)), .val .null, .val (.ref bb200), .unset, .unset, .unset] [(.ref bb200), .null, (.ref b203), (.ref b203)])) rfl (by rw [hml]; rfl) (Steps.refl _) (a := b203) (argsL := [.null, (.ref bb200)]) (rest := [(.ref b203)]) (lenOf pd_2 rfl) rfl (by show 2 * 0 + _ ≤ _; exact Nat.le_of_eq rfl) (hb hby at_76) (fun _ _ => ⟨rfl, e203, (by decide : 2 + 0 ≤ _), (by decide : 5 + 0 ≤ _)⟩)
        dsimp only [Pt.U, Pt.locs, Pt.cells, Pt.slots] at X210 l210 y210 z210 st210 hQ210
        subst l210 y210 z210
        obtain ⟨rfl, N210q, K210q, F210a⟩ := hQ210
        have N210 := Fr.app N200 N210q
        have F211 := F205.keep K210q (ninS ne204 nin0)
        have F212 := A203.keep K210q
        have K215 := K206.trans K210q (allS (Or.inr sz203) all0)
        have Zs216 : n0 ≤ T210.heap.size := Nat.le_trans Zs207 K210q.1
        refine Go.of (fun tg_ kk_ => st210.trans kk_) ?_
        show Go p e below T210 (mkF m 79 #[.val (.int p0), .val (.int p1), .val (.int p2), .val (.int p3), .val (.int p4), .val (.int (3 : Int32)), .val (.int (1 : Int32)), .val (.int (0 : Int32)), .val .null, .val (.ref bb200), .unset, .unset, .unset] [(.ref b203)]) _
        refine Go.of (fun tg_ kk_ => XS.astore X210.here hx rfl (hb hby at_79) rfl rfl (l' := #[.val (.int p0), .val (.int p1), .val (.int p2), .val (.int p3), .val (.int p4), .val (.int (3 : Int32)), .val (.int (1 : Int32)), .val (.int (0 : Int32)), .val .null, .val (.ref bb200), .val (.ref b203), .unset, .unset]) rfl kk_) ?_
        show Go p e below T210 (mkF m 81 #[.val (.int p0), .val (.int p1), .val (.int p2), .val (.int p3), .val (.int p4), .val (.int (3 : Int32)), .val (.int (1 : Int32)), .val (.int (0 : Int32)), .val .null, .val (.ref bb200), .val (.ref b203), .unset, .unset] []) _
        refine Go.of (fun tg_ kk_ => XS.iload X210.here hx rfl (hb hby at_81) rfl kk_) ?_
        show Go p e below T210 (mkF m 83 #[.val (.int p0), .val (.int p1), .val (.int p2), .val (.int p3), .val (.int p4), .val (.int (3 : Int32)), .val (.int (1 : Int32)), .val (.int (0 : Int32)), .val .null, .val (.ref bb200), .val (.ref b203), .unset, .unset] [(.int (1 : Int32))]) _
        refine Go.of (fun tg_ kk_ => XS.ifNo X210.here hx rfl (hb hby at_83) rfl ((if0 _ _).trans (feq (show ¬ ((1 : Int32) = (0 : Int32)) by decide)).1) kk_) ?_
        show Go p e below T210 (mkF m 86 #[.val (.int p0), .val (.int p1), .val (.int p2), .val (.int p3), .val (.int p4), .val (.int (3 : Int32)), .val (.int (1 : Int32)), .val (.int (0 : Int32)), .val .null, .val (.ref bb200), .val (.ref b203), .unset, .unset] []) _
        refine Go.of (fun tg_ kk_ => XS.aload X210.here hx rfl (hb hby at_86) rfl rfl kk_) ?_
        show Go p e below T210 (mkF m 88 #[.val (.int p0), .val (.int p1), .val (.int p2), .val (.int p3), .val (.int p4), .val (.int (3 : Int32)), .val (.int (1 : Int32)), .val (.int (0 : Int32)), .val .null, .val (.ref bb200), .val (.ref b203), .unset, .unset] [(.ref b203)]) _
        refine Go.of (fun tg_ kk_ => XS.iloadN X210.here hx rfl (hb hby at_88) rfl kk_) ?_
        show Go p e below T210 (mkF m 89 #[.val (.int p0), .val (.int p1), .val (.int p2), .val (.int p3), .val (.int p4), .val (.int (3 : Int32)), .val (.int (1 : Int32)), .val (.int (0 : Int32)), .val .null, .val (.ref bb200), .val (.ref b203), .unset, .unset] [(.int p2), (.ref b203)]) _
        obtain ⟨cq217, kq217, q217a, q217b, q217c⟩ := isOf hZ rfl F212
        obtain ⟨_, _, ⟨T217, L217, k217, n217⟩, -, X217, ⟨Lc217, hQ217, l217, y217, z217⟩, st217⟩ := X210.virtualBack hx (y := (⟨"com/example/planwright/planwright/planner/SharedAtoms$Among", "weighs", "(I)Z"⟩ : MethodName)) (z := (⟨"com/example/planwright/planwright/planner/SharedAtoms$Among", "weighs", "(I)Z"⟩ : MethodName)) hown (mvT hZ (hw _ (List.mem_of_getElem? (i := 23) rfl))) (mvT hZ (hw _ (List.mem_of_getElem? (i := 24) rfl))) (notFace_of_selects (args := #[]) (mvT hZ (hw _ (List.mem_of_getElem? (i := 26) rfl)))) (mvT hZ (hw _ (List.mem_of_getElem? (i := 26) rfl))) (mvT hZ (hw _ (List.mem_of_getElem? (i := 25) rfl))) (by decide) (backOf (W := 0) (rm5n l Z a0 hw [] b203 p2 T210.heap n0 Zs216 F210a) hZ (hw _ (List.mem_of_getElem? (i := 27) rfl)) (hw _ (List.mem_of_getElem? (i := 7) rfl)) (by decide) (by decide)) q217a q217c (g := (mkF m 89 #[.val (.int p0), .val (.int p1), .val (.int p2), .val (.int p3), .val (.int p4), .val (.int (3 : Int32)), .val (.int (1 : Int32)), .val (.int (0 : Int32)), .val .null, .val (.ref bb200), .val (.ref b203), .unset, .unset] [(.int p2), (.ref b203)])) rfl (by rw [hml]; rfl) (Steps.refl _) (argsL := [(.int p2)]) (rest := []) (lenOf pd_3 rfl) rfl (by show 2 * 0 + _ ≤ _; exact Nat.le_of_eq rfl) (hb hby at_89) (fun _ _ => ⟨rfl, rfl, (by decide : 2 + 0 ≤ _), (by decide : 5 + 0 ≤ _)⟩)
        dsimp only [Pt.U, Pt.locs, Pt.cells, Pt.slots] at X217 l217 y217 z217 st217 hQ217
        subst l217 y217 z217
        obtain ⟨rfl, N217q, e217⟩ := hQ217
        have N217 := Fr.app N210 N217q
        refine Go.of (fun tg_ kk_ => st217.trans kk_) ?_
        show Go p e below T217 (mkF m 92 #[.val (.int p0), .val (.int p1), .val (.int p2), .val (.int p3), .val (.int p4), .val (.int (3 : Int32)), .val (.int (1 : Int32)), .val (.int (0 : Int32)), .val .null, .val (.ref bb200), .val (.ref b203), .unset, .unset] [(.int (1 : Int32))]) _
        obtain ⟨fs, hr, hrun, hended, hW, hsame⟩ := X217.leave (v := some (.int (1 : Int32))) (fun h => by rw [Bd.returns] at h; cases h)
        refine ⟨_, _, ?_, hrun, hended, _, _, rfl, ?_, ⟨_, rfl⟩, hW, hsame.mono (by decide) (by decide)⟩
        · exact retN X217 hx (t := .boolean) Bd.returns (by simp) (hb hby at_92) hr
        · show Q0 Z p0 p1 p2 p3 p4 h0 n0 _ T217.heap _
          rw [e217]
          exact ⟨rfl, N217⟩
      · skip
        refine Go.of (fun tg_ kk_ => XS.ifNo X0.here hx rfl (hb hby at_23) rfl ((if0 _ _).trans (feq he0).1) kk_) ?_
        show Go p e below s₁ (mkF m 26 #[.val (.int p0), .val (.int p1), .val (.int p2), .val (.int p3), .val (.int p4), .val (.int (3 : Int32)), .val (.int (1 : Int32)), .unset, .unset, .unset, .unset, .unset, .unset] []) _
        refine Go.of (fun tg_ kk_ => XS.iconst X0.here hx rfl (hb hby at_26) kk_) ?_
        show Go p e below s₁ (mkF m 27 #[.val (.int p0), .val (.int p1), .val (.int p2), .val (.int p3), .val (.int p4), .val (.int (3 : Int32)), .val (.int (1 : Int32)), .unset, .unset, .unset, .unset, .unset, .unset] [(.int (1 : Int32))]) _
        refine Go.of (fun tg_ kk_ => XS.goto X0.here hx rfl (pc0 := 27) (pc' := 31) rfl (hb hby at_27) (by decide) (by decide) kk_) ?_
        show Go p e below s₁ (mkF m 31 #[.val (.int p0), .val (.int p1), .val (.int p2), .val (.int p3), .val (.int p4), .val (.int (3 : Int32)), .val (.int (1 : Int32)), .unset, .unset, .unset, .unset, .unset, .unset] [(.int (1 : Int32))]) _
        refine Go.of (fun tg_ kk_ => XS.istore X0.here hx rfl (hb hby at_31) rfl (l' := #[.val (.int p0), .val (.int p1), .val (.int p2), .val (.int p3), .val (.int p4), .val (.int (3 : Int32)), .val (.int (1 : Int32)), .val (.int (1 : Int32)), .unset, .unset, .unset, .unset, .unset]) rfl kk_) ?_
        show Go p e below s₁ (mkF m 33 #[.val (.int p0), .val (.int p1), .val (.int p2), .val (.int p3), .val (.int p4), .val (.int (3 : Int32)), .val (.int (1 : Int32)), .val (.int (1 : Int32)), .unset, .unset, .unset, .unset, .unset] []) _
        refine Go.of (fun tg_ kk_ => XS.iload X0.here hx rfl (hb hby at_33) rfl kk_) ?_
        show Go p e below s₁ (mkF m 35 #[.val (.int p0), .val (.int p1), .val (.int p2), .val (.int p3), .val (.int p4), .val (.int (3 : Int32)), .val (.int (1 : Int32)), .val (.int (1 : Int32)), .unset, .unset, .unset, .unset, .unset] [(.int (1 : Int32))]) _
        refine Go.of (fun tg_ kk_ => XS.ifNo X0.here hx rfl (hb hby at_35) rfl ((if0 _ _).trans (feq (show ¬ ((1 : Int32) = (0 : Int32)) by decide)).1) kk_) ?_
        show Go p e below s₁ (mkF m 38 #[.val (.int p0), .val (.int p1), .val (.int p2), .val (.int p3), .val (.int p4), .val (.int (3 : Int32)), .val (.int (1 : Int32)), .val (.int (1 : Int32)), .unset, .unset, .unset, .unset, .unset] []) _
        refine Go.of (fun tg_ kk_ => XS.aconstNull X0.here hx rfl (hb hby at_38) kk_) ?_
        show Go p e below s₁ (mkF m 39 #[.val (.int p0), .val (.int p1), .val (.int p2), .val (.int p3), .val (.int p4), .val (.int (3 : Int32)), .val (.int (1 : Int32)), .val (.int (1 : Int32)), .unset, .unset, .unset, .unset, .unset] [.null]) _
        refine Go.of (fun tg_ kk_ => XS.goto X0.here hx rfl (pc0 := 39) (pc' := 48) rfl (hb hby at_39) (by decide) (by decide) kk_) ?_
        show Go p e below s₁ (mkF m 48 #[.val (.int p0), .val (.int p1), .val (.int p2), .val (.int p3), .val (.int p4), .val (.int (3 : Int32)), .val (.int (1 : Int32)), .val (.int (1 : Int32)), .unset, .unset, .unset, .unset, .unset] [.null]) _
        refine Go.of (fun tg_ kk_ => XS.astore X0.here hx rfl (hb hby at_48) rfl rfl (l' := #[.val (.int p0), .val (.int p1), .val (.int p2), .val (.int p3), .val (.int p4), .val (.int (3 : Int32)), .val (.int (1 : Int32)), .val (.int (1 : Int32)), .val .null, .unset, .unset, .unset, .unset]) rfl kk_) ?_
        show Go p e below s₁ (mkF m 50 #[.val (.int p0), .val (.int p1), .val (.int p2), .val (.int p3), .val (.int p4), .val (.int (3 : Int32)), .val (.int (1 : Int32)), .val (.int (1 : Int32)), .val .null, .unset, .unset, .unset, .unset] []) _
        refine Go.of (fun tg_ kk_ => XS.iload X0.here hx rfl (hb hby at_50) rfl kk_) ?_
        show Go p e below s₁ (mkF m 52 #[.val (.int p0), .val (.int p1), .val (.int p2), .val (.int p3), .val (.int p4), .val (.int (3 : Int32)), .val (.int (1 : Int32)), .val (.int (1 : Int32)), .val .null, .unset, .unset, .unset, .unset] [(.int (1 : Int32))]) _
        refine Go.of (fun tg_ kk_ => XS.ifNo X0.here hx rfl (hb hby at_52) rfl ((if0 _ _).trans (feq (show ¬ ((1 : Int32) = (0 : Int32)) by decide)).1) kk_) ?_
        show Go p e below s₁ (mkF m 55 #[.val (.int p0), .val (.int p1), .val (.int p2), .val (.int p3), .val (.int p4), .val (.int (3 : Int32)), .val (.int (1 : Int32)), .val (.int (1 : Int32)), .val .null, .unset, .unset, .unset, .unset] []) _
        refine Go.of (fun tg_ kk_ => XS.aconstNull X0.here hx rfl (hb hby at_55) kk_) ?_
        show Go p e below s₁ (mkF m 56 #[.val (.int p0), .val (.int p1), .val (.int p2), .val (.int p3), .val (.int p4), .val (.int (3 : Int32)), .val (.int (1 : Int32)), .val (.int (1 : Int32)), .val .null, .unset, .unset, .unset, .unset] [.null]) _
        refine Go.of (fun tg_ kk_ => XS.goto X0.here hx rfl (pc0 := 56) (pc' := 66) rfl (hb hby at_56) (by decide) (by decide) kk_) ?_
        show Go p e below s₁ (mkF m 66 #[.val (.int p0), .val (.int p1), .val (.int p2), .val (.int p3), .val (.int p4), .val (.int (3 : Int32)), .val (.int (1 : Int32)), .val (.int (1 : Int32)), .val .null, .unset, .unset, .unset, .unset] [.null]) _
        refine Go.of (fun tg_ kk_ => XS.astore X0.here hx rfl (hb hby at_66) rfl rfl (l' := #[.val (.int p0), .val (.int p1), .val (.int p2), .val (.int p3), .val (.int p4), .val (.int (3 : Int32)), .val (.int (1 : Int32)), .val (.int (1 : Int32)), .val .null, .val .null, .unset, .unset, .unset]) rfl kk_) ?_
        show Go p e below s₁ (mkF m 68 #[.val (.int p0), .val (.int p1), .val (.int p2), .val (.int p3), .val (.int p4), .val (.int (3 : Int32)), .val (.int (1 : Int32)), .val (.int (1 : Int32)), .val .null, .val .null, .unset, .unset, .unset] []) _
        obtain ⟨T218, h218, X218, e218, E218, A218, D218, -, st218⟩ := newO X0 hx hZ hown (hw _ (List.mem_of_getElem? (i := 5) rfl)) (hw _ (List.mem_of_getElem? (i := 6) rfl)) (hw _ (List.mem_of_getElem? (i := 7) rfl)) e0 (g := (mkF m 68 #[.val (.int p0), .val (.int p1), .val (.int p2), .val (.int p3), .val (.int p4), .val (.int (3 : Int32)), .val (.int (1 : Int32)), .val (.int (1 : Int32)), .val .null, .val .null, .unset, .unset, .unset] [])) rfl (hb hby at_68) (by decide) (by decide)
        obtain ⟨b218, g218⟩ : ∃ z, z = h0.size := ⟨_, rfl⟩
        rw [← g218] at A218 D218 st218
        have gx218 : n0 ≤ b218 := Nat.le_trans Z0 (Nat.le_of_eq g218.symm)
        have sz218 : h0.size ≤ b218 := Nat.le_trans K0.1 (Nat.le_of_eq g218.symm)
        have K219 := K0.ext E218
        have Zs220 : n0 ≤ h218.size := Nat.le_trans Z0 E218.1
        have F221 : Fld Z h218 b218 "com/example/planwright/planwright/planner/SharedAtoms$Among" "weighed" "[Z" .null := D218 (Or.inr (hw _ (List.mem_of_getElem? (i := 20) rfl))) (ty := (.array .boolean)) (by decide)
        have F222 : Fld Z h218 b218 "com/example/planwright/planwright/planner/SharedAtoms$Among" "elsewhere" "[Z" .null := D218 (Or.inr (hw _ (List.mem_of_getElem? (i := 22) rfl))) (ty := (.array .boolean)) (by decide)
        refine Go.of (st218) ?_
        show Go p e below T218 (mkF m 71 #[.val (.int p0), .val (.int p1), .val (.int p2), .val (.int p3), .val (.int p4), .val (.int (3 : Int32)), .val (.int (1 : Int32)), .val (.int (1 : Int32)), .val .null, .val .null, .unset, .unset, .unset] [(.ref b218)]) _
        refine Go.of (fun tg_ kk_ => XS.dup X218.here hx rfl (hb hby at_71) rfl rfl kk_) ?_
        show Go p e below T218 (mkF m 72 #[.val (.int p0), .val (.int p1), .val (.int p2), .val (.int p3), .val (.int p4), .val (.int (3 : Int32)), .val (.int (1 : Int32)), .val (.int (1 : Int32)), .val .null, .val .null, .unset, .unset, .unset] [(.ref b218), (.ref b218)]) _
        refine Go.of (fun tg_ kk_ => XS.aload X218.here hx rfl (hb hby at_72) rfl rfl kk_) ?_
        show Go p e below T218 (mkF m 74 #[.val (.int p0), .val (.int p1), .val (.int p2), .val (.int p3), .val (.int p4), .val (.int (3 : Int32)), .val (.int (1 : Int32)), .val (.int (1 : Int32)), .val .null, .val .null, .unset, .unset, .unset] [.null, (.ref b218), (.ref b218)]) _
        refine Go.of (fun tg_ kk_ => XS.aload X218.here hx rfl (hb hby at_74) rfl rfl kk_) ?_
        show Go p e below T218 (mkF m 76 #[.val (.int p0), .val (.int p1), .val (.int p2), .val (.int p3), .val (.int p4), .val (.int (3 : Int32)), .val (.int (1 : Int32)), .val (.int (1 : Int32)), .val .null, .val .null, .unset, .unset, .unset] [.null, .null, (.ref b218), (.ref b218)]) _
        obtain ⟨_, _, ⟨T223, L223, k223, n223⟩, -, X223, ⟨Lc223, hQ223, l223, y223, z223⟩, st223⟩ := X218.specialBack hx (y := (⟨"com/example/planwright/planwright/planner/SharedAtoms$Among", "<init>", "([Z[Z)V"⟩ : MethodName)) rfl hown (mvT hZ (hw _ (List.mem_of_getElem? (i := 8) rfl))) (mvT hZ (hw _ (List.mem_of_getElem? (i := 9) rfl))) (mvT hZ (hw _ (List.mem_of_getElem? (i := 10) rfl))) (by decide) (backOf (W := 1) (rm2_11 l Z a0 hw [] b218 h218 n0 Zs220 gx218 A218 F221 F222) hZ (hw _ (List.mem_of_getElem? (i := 10) rfl)) (hw _ (List.mem_of_getElem? (i := 7) rfl)) (by decide) (by decide)) (g := (mkF m 76 #[.val (.int p0), .val (.int p1), .val (.int p2), .val (.int p3), .val (.int p4), .val (.int (3 : Int32)), .val (.int (1 : Int32)), .val (.int (1 : Int32)), .val .null, .val .null, .unset, .unset, .unset] [.null, .null, (.ref b218), (.ref b218)])) rfl (by rw [hml]; rfl) (Steps.refl _) (a := b218) (argsL := [.null, .null]) (rest := [(.ref b218)]) (lenOf pd_2 rfl) rfl (by show 2 * 0 + _ ≤ _; exact Nat.le_of_eq rfl) (hb hby at_76) (fun _ _ => ⟨rfl, e218, (by decide : 1 + 0 ≤ _), (by decide : 2 + 0 ≤ _)⟩)
        dsimp only [Pt.U, Pt.locs, Pt.cells, Pt.slots] at X223 l223 y223 z223 st223 hQ223
        subst l223 y223 z223
        obtain ⟨rfl, N223q, K223q, F223a⟩ := hQ223
        have N223 := Fr.app N0 N223q
        have F224 := A218.keep K223q
        have K227 := K219.trans K223q (allS (Or.inr sz218) all0)
        have Zs228 : n0 ≤ T223.heap.size := Nat.le_trans Zs220 K223q.1
        refine Go.of (fun tg_ kk_ => st223.trans kk_) ?_
        show Go p e below T223 (mkF m 79 #[.val (.int p0), .val (.int p1), .val (.int p2), .val (.int p3), .val (.int p4), .val (.int (3 : Int32)), .val (.int (1 : Int32)), .val (.int (1 : Int32)), .val .null, .val .null, .unset, .unset, .unset] [(.ref b218)]) _
        refine Go.of (fun tg_ kk_ => XS.astore X223.here hx rfl (hb hby at_79) rfl rfl (l' := #[.val (.int p0), .val (.int p1), .val (.int p2), .val (.int p3), .val (.int p4), .val (.int (3 : Int32)), .val (.int (1 : Int32)), .val (.int (1 : Int32)), .val .null, .val .null, .val (.ref b218), .unset, .unset]) rfl kk_) ?_
        show Go p e below T223 (mkF m 81 #[.val (.int p0), .val (.int p1), .val (.int p2), .val (.int p3), .val (.int p4), .val (.int (3 : Int32)), .val (.int (1 : Int32)), .val (.int (1 : Int32)), .val .null, .val .null, .val (.ref b218), .unset, .unset] []) _
        refine Go.of (fun tg_ kk_ => XS.iload X223.here hx rfl (hb hby at_81) rfl kk_) ?_
        show Go p e below T223 (mkF m 83 #[.val (.int p0), .val (.int p1), .val (.int p2), .val (.int p3), .val (.int p4), .val (.int (3 : Int32)), .val (.int (1 : Int32)), .val (.int (1 : Int32)), .val .null, .val .null, .val (.ref b218), .unset, .unset] [(.int (1 : Int32))]) _
        refine Go.of (fun tg_ kk_ => XS.ifNo X223.here hx rfl (hb hby at_83) rfl ((if0 _ _).trans (feq (show ¬ ((1 : Int32) = (0 : Int32)) by decide)).1) kk_) ?_
        show Go p e below T223 (mkF m 86 #[.val (.int p0), .val (.int p1), .val (.int p2), .val (.int p3), .val (.int p4), .val (.int (3 : Int32)), .val (.int (1 : Int32)), .val (.int (1 : Int32)), .val .null, .val .null, .val (.ref b218), .unset, .unset] []) _
        refine Go.of (fun tg_ kk_ => XS.aload X223.here hx rfl (hb hby at_86) rfl rfl kk_) ?_
        show Go p e below T223 (mkF m 88 #[.val (.int p0), .val (.int p1), .val (.int p2), .val (.int p3), .val (.int p4), .val (.int (3 : Int32)), .val (.int (1 : Int32)), .val (.int (1 : Int32)), .val .null, .val .null, .val (.ref b218), .unset, .unset] [(.ref b218)]) _
        refine Go.of (fun tg_ kk_ => XS.iloadN X223.here hx rfl (hb hby at_88) rfl kk_) ?_
        show Go p e below T223 (mkF m 89 #[.val (.int p0), .val (.int p1), .val (.int p2), .val (.int p3), .val (.int p4), .val (.int (3 : Int32)), .val (.int (1 : Int32)), .val (.int (1 : Int32)), .val .null, .val .null, .val (.ref b218), .unset, .unset] [(.int p2), (.ref b218)]) _
        obtain ⟨cq229, kq229, q229a, q229b, q229c⟩ := isOf hZ rfl F224
        obtain ⟨_, _, ⟨T229, L229, k229, n229⟩, -, X229, ⟨Lc229, hQ229, l229, y229, z229⟩, st229⟩ := X223.virtualBack hx (y := (⟨"com/example/planwright/planwright/planner/SharedAtoms$Among", "weighs", "(I)Z"⟩ : MethodName)) (z := (⟨"com/example/planwright/planwright/planner/SharedAtoms$Among", "weighs", "(I)Z"⟩ : MethodName)) hown (mvT hZ (hw _ (List.mem_of_getElem? (i := 23) rfl))) (mvT hZ (hw _ (List.mem_of_getElem? (i := 24) rfl))) (notFace_of_selects (args := #[]) (mvT hZ (hw _ (List.mem_of_getElem? (i := 26) rfl)))) (mvT hZ (hw _ (List.mem_of_getElem? (i := 26) rfl))) (mvT hZ (hw _ (List.mem_of_getElem? (i := 25) rfl))) (by decide) (backOf (W := 0) (rm5n l Z a0 hw [] b218 p2 T223.heap n0 Zs228 F223a) hZ (hw _ (List.mem_of_getElem? (i := 27) rfl)) (hw _ (List.mem_of_getElem? (i := 7) rfl)) (by decide) (by decide)) q229a q229c (g := (mkF m 89 #[.val (.int p0), .val (.int p1), .val (.int p2), .val (.int p3), .val (.int p4), .val (.int (3 : Int32)), .val (.int (1 : Int32)), .val (.int (1 : Int32)), .val .null, .val .null, .val (.ref b218), .unset, .unset] [(.int p2), (.ref b218)])) rfl (by rw [hml]; rfl) (Steps.refl _) (argsL := [(.int p2)]) (rest := []) (lenOf pd_3 rfl) rfl (by show 2 * 0 + _ ≤ _; exact Nat.le_of_eq rfl) (hb hby at_89) (fun _ _ => ⟨rfl, rfl, (by decide : 1 + 0 ≤ _), (by decide : 2 + 0 ≤ _)⟩)
        dsimp only [Pt.U, Pt.locs, Pt.cells, Pt.slots] at X229 l229 y229 z229 st229 hQ229
        subst l229 y229 z229
        obtain ⟨rfl, N229q, e229⟩ := hQ229
        have N229 := Fr.app N223 N229q
        refine Go.of (fun tg_ kk_ => st229.trans kk_) ?_
        show Go p e below T229 (mkF m 92 #[.val (.int p0), .val (.int p1), .val (.int p2), .val (.int p3), .val (.int p4), .val (.int (3 : Int32)), .val (.int (1 : Int32)), .val (.int (1 : Int32)), .val .null, .val .null, .val (.ref b218), .unset, .unset] [(.int (1 : Int32))]) _
        obtain ⟨fs, hr, hrun, hended, hW, hsame⟩ := X229.leave (v := some (.int (1 : Int32))) (fun h => by rw [Bd.returns] at h; cases h)
        refine ⟨_, _, ?_, hrun, hended, _, _, rfl, ?_, ⟨_, rfl⟩, hW, hsame.mono (by decide) (by decide)⟩
        · exact retN X229 hx (t := .boolean) Bd.returns (by simp) (hb hby at_92) hr
        · show Q0 Z p0 p1 p2 p3 p4 h0 n0 _ T229.heap _
          rw [e229]
          exact ⟨rfl, N229⟩
  · subst hs1
    show Go p e below s₁ (mkF m 5 #[.val (.int p0), .val (.int p1), .val (.int p2), .val (.int p3), .val (.int p4), .unset, .unset, .unset, .unset, .unset, .unset, .unset, .unset] [(.int (4 : Int32))]) _
    refine Go.of (fun tg_ kk_ => XS.istore X0.here hx rfl (hb hby at_5) rfl (l' := #[.val (.int p0), .val (.int p1), .val (.int p2), .val (.int p3), .val (.int p4), .val (.int (4 : Int32)), .unset, .unset, .unset, .unset, .unset, .unset, .unset]) rfl kk_) ?_
    show Go p e below s₁ (mkF m 7 #[.val (.int p0), .val (.int p1), .val (.int p2), .val (.int p3), .val (.int p4), .val (.int (4 : Int32)), .unset, .unset, .unset, .unset, .unset, .unset, .unset] []) _
    refine Go.of (fun tg_ kk_ => XS.iloadN X0.here hx rfl (hb hby at_7) rfl kk_) ?_
    show Go p e below s₁ (mkF m 8 #[.val (.int p0), .val (.int p1), .val (.int p2), .val (.int p3), .val (.int p4), .val (.int (4 : Int32)), .unset, .unset, .unset, .unset, .unset, .unset, .unset] [(.int p3)]) _
    refine Go.of (fun tg_ kk_ => XS.iconst X0.here hx rfl (hb hby at_8) kk_) ?_
    show Go p e below s₁ (mkF m 9 #[.val (.int p0), .val (.int p1), .val (.int p2), .val (.int p3), .val (.int p4), .val (.int (4 : Int32)), .unset, .unset, .unset, .unset, .unset, .unset, .unset] [(.int (1 : Int32)), (.int p3)]) _
    refine Go.of (fun tg_ kk_ => XS.iand X0.here hx rfl (hb hby at_9) rfl kk_) ?_
    show Go p e below s₁ (mkF m 10 #[.val (.int p0), .val (.int p1), .val (.int p2), .val (.int p3), .val (.int p4), .val (.int (4 : Int32)), .unset, .unset, .unset, .unset, .unset, .unset, .unset] [(.int (p3 &&& (1 : Int32)))]) _
    by_cases hw0 : (p3 &&& (1 : Int32)) = (0 : Int32)
    · skip
      refine Go.of (fun tg_ kk_ => XS.ifYes X0.here hx rfl (pc0 := 10) (pc' := 17) rfl (hb hby at_10) rfl ((if0 _ _).trans (teq hw0).1) (by decide) (by decide) kk_) ?_
      show Go p e below s₁ (mkF m 17 #[.val (.int p0), .val (.int p1), .val (.int p2), .val (.int p3), .val (.int p4), .val (.int (4 : Int32)), .unset, .unset, .unset, .unset, .unset, .unset, .unset] []) _
      refine Go.of (fun tg_ kk_ => XS.iconst X0.here hx rfl (hb hby at_17) kk_) ?_
      show Go p e below s₁ (mkF m 18 #[.val (.int p0), .val (.int p1), .val (.int p2), .val (.int p3), .val (.int p4), .val (.int (4 : Int32)), .unset, .unset, .unset, .unset, .unset, .unset, .unset] [(.int (0 : Int32))]) _
      refine Go.of (fun tg_ kk_ => XS.istore X0.here hx rfl (hb hby at_18) rfl (l' := #[.val (.int p0), .val (.int p1), .val (.int p2), .val (.int p3), .val (.int p4), .val (.int (4 : Int32)), .val (.int (0 : Int32)), .unset, .unset, .unset, .unset, .unset, .unset]) rfl kk_) ?_
      show Go p e below s₁ (mkF m 20 #[.val (.int p0), .val (.int p1), .val (.int p2), .val (.int p3), .val (.int p4), .val (.int (4 : Int32)), .val (.int (0 : Int32)), .unset, .unset, .unset, .unset, .unset, .unset] []) _
      refine Go.of (fun tg_ kk_ => XS.iloadN X0.here hx rfl (hb hby at_20) rfl kk_) ?_
      show Go p e below s₁ (mkF m 21 #[.val (.int p0), .val (.int p1), .val (.int p2), .val (.int p3), .val (.int p4), .val (.int (4 : Int32)), .val (.int (0 : Int32)), .unset, .unset, .unset, .unset, .unset, .unset] [(.int p3)]) _
      refine Go.of (fun tg_ kk_ => XS.iconst X0.here hx rfl (hb hby at_21) kk_) ?_
      show Go p e below s₁ (mkF m 22 #[.val (.int p0), .val (.int p1), .val (.int p2), .val (.int p3), .val (.int p4), .val (.int (4 : Int32)), .val (.int (0 : Int32)), .unset, .unset, .unset, .unset, .unset, .unset] [(.int (2 : Int32)), (.int p3)]) _
      refine Go.of (fun tg_ kk_ => XS.iand X0.here hx rfl (hb hby at_22) rfl kk_) ?_
      show Go p e below s₁ (mkF m 23 #[.val (.int p0), .val (.int p1), .val (.int p2), .val (.int p3), .val (.int p4), .val (.int (4 : Int32)), .val (.int (0 : Int32)), .unset, .unset, .unset, .unset, .unset, .unset] [(.int (p3 &&& (2 : Int32)))]) _
      by_cases he0 : (p3 &&& (2 : Int32)) = (0 : Int32)
      · skip
        refine Go.of (fun tg_ kk_ => XS.ifYes X0.here hx rfl (pc0 := 23) (pc' := 30) rfl (hb hby at_23) rfl ((if0 _ _).trans (teq he0).1) (by decide) (by decide) kk_) ?_
        show Go p e below s₁ (mkF m 30 #[.val (.int p0), .val (.int p1), .val (.int p2), .val (.int p3), .val (.int p4), .val (.int (4 : Int32)), .val (.int (0 : Int32)), .unset, .unset, .unset, .unset, .unset, .unset] []) _
        refine Go.of (fun tg_ kk_ => XS.iconst X0.here hx rfl (hb hby at_30) kk_) ?_
        show Go p e below s₁ (mkF m 31 #[.val (.int p0), .val (.int p1), .val (.int p2), .val (.int p3), .val (.int p4), .val (.int (4 : Int32)), .val (.int (0 : Int32)), .unset, .unset, .unset, .unset, .unset, .unset] [(.int (0 : Int32))]) _
        refine Go.of (fun tg_ kk_ => XS.istore X0.here hx rfl (hb hby at_31) rfl (l' := #[.val (.int p0), .val (.int p1), .val (.int p2), .val (.int p3), .val (.int p4), .val (.int (4 : Int32)), .val (.int (0 : Int32)), .val (.int (0 : Int32)), .unset, .unset, .unset, .unset, .unset]) rfl kk_) ?_
        show Go p e below s₁ (mkF m 33 #[.val (.int p0), .val (.int p1), .val (.int p2), .val (.int p3), .val (.int p4), .val (.int (4 : Int32)), .val (.int (0 : Int32)), .val (.int (0 : Int32)), .unset, .unset, .unset, .unset, .unset] []) _
        refine Go.of (fun tg_ kk_ => XS.iload X0.here hx rfl (hb hby at_33) rfl kk_) ?_
        show Go p e below s₁ (mkF m 35 #[.val (.int p0), .val (.int p1), .val (.int p2), .val (.int p3), .val (.int p4), .val (.int (4 : Int32)), .val (.int (0 : Int32)), .val (.int (0 : Int32)), .unset, .unset, .unset, .unset, .unset] [(.int (0 : Int32))]) _
        refine Go.of (fun tg_ kk_ => XS.ifYes X0.here hx rfl (pc0 := 35) (pc' := 42) rfl (hb hby at_35) rfl ((if0 _ _).trans (teq (show (0 : Int32) = (0 : Int32) by decide)).1) (by decide) (by decide) kk_) ?_
        show Go p e below s₁ (mkF m 42 #[.val (.int p0), .val (.int p1), .val (.int p2), .val (.int p3), .val (.int p4), .val (.int (4 : Int32)), .val (.int (0 : Int32)), .val (.int (0 : Int32)), .unset, .unset, .unset, .unset, .unset] []) _
        refine Go.of (fun tg_ kk_ => XS.iload X0.here hx rfl (hb hby at_42) rfl kk_) ?_
        show Go p e below s₁ (mkF m 44 #[.val (.int p0), .val (.int p1), .val (.int p2), .val (.int p3), .val (.int p4), .val (.int (4 : Int32)), .val (.int (0 : Int32)), .val (.int (0 : Int32)), .unset, .unset, .unset, .unset, .unset] [(.int (4 : Int32))]) _
        refine Go.of (fun tg_ kk_ => XS.iloadN X0.here hx rfl (hb hby at_44) rfl kk_) ?_
        show Go p e below s₁ (mkF m 45 #[.val (.int p0), .val (.int p1), .val (.int p2), .val (.int p3), .val (.int p4), .val (.int (4 : Int32)), .val (.int (0 : Int32)), .val (.int (0 : Int32)), .unset, .unset, .unset, .unset, .unset] [(.int p0), (.int (4 : Int32))]) _
        obtain ⟨_, _, ⟨T230, L230, k230, n230⟩, -, X230, ⟨Lc230, hQ230, l230, y230, z230⟩, st230⟩ := Jvm.LawKit.callS X0 hx (y := (⟨"com/example/planwright/planwright/planner/AmongWeighsPinLaw", "fill", "(II)[Z"⟩ : MethodName)) hown (mvT hZ (hw _ (List.mem_of_getElem? (i := 0) rfl))) (mvT hZ (hw _ (List.mem_of_getElem? (i := 1) rfl))) (mvT hZ (hw _ (List.mem_of_getElem? (i := 2) rfl))) (mvT hZ (hw _ (List.mem_of_getElem? (i := 3) rfl))) (by decide) (backOf (W := 0) (rm1_4 l Z a0 hw [] p0 h0 n0 Z0) hZ (hw _ (List.mem_of_getElem? (i := 3) rfl)) (hw _ (List.mem_of_getElem? (i := 2) rfl)) (by decide) (by decide)) (g := (mkF m 45 #[.val (.int p0), .val (.int p1), .val (.int p2), .val (.int p3), .val (.int p4), .val (.int (4 : Int32)), .val (.int (0 : Int32)), .val (.int (0 : Int32)), .unset, .unset, .unset, .unset, .unset] [(.int p0), (.int (4 : Int32))])) rfl (by rw [hml]; rfl) (argsL := [(.int (4 : Int32)), (.int p0)]) (rest := []) (lenOf pd_1 rfl) rfl (by show 2 * 0 + _ ≤ _; exact Nat.le_of_eq rfl) (hb hby at_45) (fun _ _ => ⟨rfl, e0, (by decide : 0 + 1 ≤ _), (by decide : 0 + 4 ≤ _)⟩)
        dsimp only [Pt.U, Pt.locs, Pt.cells, Pt.slots] at X230 l230 y230 z230 st230 hQ230
        subst l230 y230 z230
        obtain ⟨bb230, rfl, N230q, K230q, sz230, gx230, V230⟩ := hQ230
        have N230 := Fr.app N0 N230q
        have sy230 : h0.size ≤ bb230 := Nat.le_trans K0.1 sz230
        have K231 := K0.trans K230q all0
        have Zs232 : n0 ≤ T230.heap.size := Nat.le_trans Z0 K230q.1
        refine Go.of (st230) ?_
        show Go p e below T230 (mkF m 48 #[.val (.int p0), .val (.int p1), .val (.int p2), .val (.int p3), .val (.int p4), .val (.int (4 : Int32)), .val (.int (0 : Int32)), .val (.int (0 : Int32)), .unset, .unset, .unset, .unset, .unset] [(.ref bb230)]) _
        refine Go.of (fun tg_ kk_ => XS.astore X230.here hx rfl (hb hby at_48) rfl rfl (l' := #[.val (.int p0), .val (.int p1), .val (.int p2), .val (.int p3), .val (.int p4), .val (.int (4 : Int32)), .val (.int (0 : Int32)), .val (.int (0 : Int32)), .val (.ref bb230), .unset, .unset, .unset, .unset]) rfl kk_) ?_
        show Go p e below T230 (mkF m 50 #[.val (.int p0), .val (.int p1), .val (.int p2), .val (.int p3), .val (.int p4), .val (.int (4 : Int32)), .val (.int (0 : Int32)), .val (.int (0 : Int32)), .val (.ref bb230), .unset, .unset, .unset, .unset] []) _
        refine Go.of (fun tg_ kk_ => XS.iload X230.here hx rfl (hb hby at_50) rfl kk_) ?_
        show Go p e below T230 (mkF m 52 #[.val (.int p0), .val (.int p1), .val (.int p2), .val (.int p3), .val (.int p4), .val (.int (4 : Int32)), .val (.int (0 : Int32)), .val (.int (0 : Int32)), .val (.ref bb230), .unset, .unset, .unset, .unset] [(.int (0 : Int32))]) _
        refine Go.of (fun tg_ kk_ => XS.ifYes X230.here hx rfl (pc0 := 52) (pc' := 59) rfl (hb hby at_52) rfl ((if0 _ _).trans (teq (show (0 : Int32) = (0 : Int32) by decide)).1) (by decide) (by decide) kk_) ?_
        show Go p e below T230 (mkF m 59 #[.val (.int p0), .val (.int p1), .val (.int p2), .val (.int p3), .val (.int p4), .val (.int (4 : Int32)), .val (.int (0 : Int32)), .val (.int (0 : Int32)), .val (.ref bb230), .unset, .unset, .unset, .unset] []) _
        refine Go.of (fun tg_ kk_ => XS.iload X230.here hx rfl (hb hby at_59) rfl kk_) ?_
        show Go p e below T230 (mkF m 61 #[.val (.int p0), .val (.int p1), .val (.int p2), .val (.int p3), .val (.int p4), .val (.int (4 : Int32)), .val (.int (0 : Int32)), .val (.int (0 : Int32)), .val (.ref bb230), .unset, .unset, .unset, .unset] [(.int (4 : Int32))]) _
        refine Go.of (fun tg_ kk_ => XS.iload X230.here hx rfl (hb hby at_61) rfl kk_) ?_
        show Go p e below T230 (mkF m 63 #[.val (.int p0), .val (.int p1), .val (.int p2), .val (.int p3), .val (.int p4), .val (.int (4 : Int32)), .val (.int (0 : Int32)), .val (.int (0 : Int32)), .val (.ref bb230), .unset, .unset, .unset, .unset] [(.int p4), (.int (4 : Int32))]) _
        obtain ⟨_, _, ⟨T233, L233, k233, n233⟩, -, X233, ⟨Lc233, hQ233, l233, y233, z233⟩, st233⟩ := Jvm.LawKit.callS X230 hx (y := (⟨"com/example/planwright/planwright/planner/AmongWeighsPinLaw", "fill", "(II)[Z"⟩ : MethodName)) hown (mvT hZ (hw _ (List.mem_of_getElem? (i := 0) rfl))) (mvT hZ (hw _ (List.mem_of_getElem? (i := 1) rfl))) (mvT hZ (hw _ (List.mem_of_getElem? (i := 2) rfl))) (mvT hZ (hw _ (List.mem_of_getElem? (i := 3) rfl))) (by decide) (backOf (W := 0) (rm1_4 l Z a0 hw [] p4 T230.heap n0 Zs232) hZ (hw _ (List.mem_of_getElem? (i := 3) rfl)) (hw _ (List.mem_of_getElem? (i := 2) rfl)) (by decide) (by decide)) (g := (mkF m 63 #[.val (.int p0), .val (.int p1), .val (.int p2), .val (.int p3), .val (.int p4), .val (.int (4 : Int32)), .val (.int (0 : Int32)), .val (.int (0 : Int32)), .val (.ref bb230), .unset, .unset, .unset, .unset] [(.int p4), (.int (4 : Int32))])) rfl (by rw [hml]; rfl) (argsL := [(.int (4 : Int32)), (.int p4)]) (rest := []) (lenOf pd_1 rfl) rfl (by show 2 * 0 + _ ≤ _; exact Nat.le_of_eq rfl) (hb hby at_63) (fun _ _ => ⟨rfl, rfl, (by decide : 1 + 1 ≤ _), (by decide : 4 + 4 ≤ _)⟩)
        dsimp only [Pt.U, Pt.locs, Pt.cells, Pt.slots] at X233 l233 y233 z233 st233 hQ233
        subst l233 y233 z233
        obtain ⟨bb233, rfl, N233q, K233q, sz233, gx233, V233⟩ := hQ233
        have N233 := Fr.app N230 N233q
        have sy233 : h0.size ≤ bb233 := Nat.le_trans K231.1 sz233
        have ne234 : bb230 ≠ bb233 := Nat.ne_of_lt (Nat.lt_of_lt_of_le V230.lt sz233)
        have F235 := V230.keep K233q nin0
        have K236 := K231.trans K233q all0
        have Zs237 : n0 ≤ T233.heap.size := Nat.le_trans Zs232 K233q.1
        refine Go.of (st233) ?_
        show Go p e below T233 (mkF m 66 #[.val (.int p0), .val (.int p1), .val (.int p2), .val (.int p3), .val (.int p4), .val (.int (4 : Int32)), .val (.int (0 : Int32)), .val (.int (0 : Int32)), .val (.ref bb230), .unset, .unset, .unset, .unset] [(.ref bb233)]) _
        refine Go.of (fun tg_ kk_ => XS.astore X233.here hx rfl (hb hby at_66) rfl rfl (l' := #[.val (.int p0), .val (.int p1), .val (.int p2), .val (.int p3), .val (.int p4), .val (.int (4 : Int32)), .val (.int (0 : Int32)), .val (.int (0 : Int32)), .val (.ref bb230), .val (.ref bb233), .unset, .unset, .unset]) rfl kk_) ?_
        show Go p e below T233 (mkF m 68 #[.val (.int p0), .val (.int p1), .val (.int p2), .val (.int p3), .val (.int p4), .val (.int (4 : Int32)), .val (.int (0 : Int32)), .val (.int (0 : Int32)), .val (.ref bb230), .val (.ref bb233), .unset, .unset, .unset] []) _
        obtain ⟨T238, h238, X238, e238, E238, A238, D238, -, st238⟩ := newO X233 hx hZ hown (hw _ (List.mem_of_getElem? (i := 5) rfl)) (hw _ (List.mem_of_getElem? (i := 6) rfl)) (hw _ (List.mem_of_getElem? (i := 7) rfl)) rfl (g := (mkF m 68 #[.val (.int p0), .val (.int p1), .val (.int p2), .val (.int p3), .val (.int p4), .val (.int (4 : Int32)), .val (.int (0 : Int32)), .val (.int (0 : Int32)), .val (.ref bb230), .val (.ref bb233), .unset, .unset, .unset] [])) rfl (hb hby at_68) (by decide) (by decide)
        obtain ⟨b238, g238⟩ : ∃ z, z = T233.heap.size := ⟨_, rfl⟩
        rw [← g238] at A238 D238 st238
        have gx238 : n0 ≤ b238 := Nat.le_trans Zs237 (Nat.le_of_eq g238.symm)
        have sz238 : h0.size ≤ b238 := Nat.le_trans K236.1 (Nat.le_of_eq g238.symm)
        have ne239 : bb230 ≠ b238 := Nat.ne_of_lt (Nat.lt_of_lt_of_le F235.lt (Nat.le_of_eq g238.symm))
        have ne240 : bb233 ≠ b238 := Nat.ne_of_lt (Nat.lt_of_lt_of_le V233.lt (Nat.le_of_eq g238.symm))
        have F241 := F235.ext E238
        have F242 := V233.ext E238
        have K243 := K236.ext E238
        have Zs244 : n0 ≤ h238.size := Nat.le_trans Zs237 E238.1
        have F245 : Fld Z h238 b238 "com/example/planwright/planwright/planner/SharedAtoms$Among" "weighed" "[Z" .null := D238 (Or.inr (hw _ (List.mem_of_getElem? (i := 20) rfl))) (ty := (.array .boolean)) (by decide)
        have F246 : Fld Z h238 b238 "com/example/planwright/planwright/planner/SharedAtoms$Among" "elsewhere" "[Z" .null := D238 (Or.inr (hw _ (List.mem_of_getElem? (i := 22) rfl))) (ty := (.array .boolean)) (by decide)
        refine Go.of (st238) ?_
        show Go p e below T238 (mkF m 71 #[.val (.int p0), .val (.int p1), .val (.int p2), .val (.int p3), .val (.int p4), .val (.int (4 : Int32)), .val (.int (0 : Int32)), .val (.int (0 : Int32)), .val (.ref bb230), .val (.ref bb233), .unset, .unset, .unset] [(.ref b238)]) _
        refine Go.of (fun tg_ kk_ => XS.dup X238.here hx rfl (hb hby at_71) rfl rfl kk_) ?_
        show Go p e below T238 (mkF m 72 #[.val (.int p0), .val (.int p1), .val (.int p2), .val (.int p3), .val (.int p4), .val (.int (4 : Int32)), .val (.int (0 : Int32)), .val (.int (0 : Int32)), .val (.ref bb230), .val (.ref bb233), .unset, .unset, .unset] [(.ref b238), (.ref b238)]) _
        refine Go.of (fun tg_ kk_ => XS.aload X238.here hx rfl (hb hby at_72) rfl rfl kk_) ?_
        show Go p e below T238 (mkF m 74 #[.val (.int p0), .val (.int p1), .val (.int p2), .val (.int p3), .val (.int p4), .val (.int (4 : Int32)), .val (.int (0 : Int32)), .val (.int (0 : Int32)), .val (.ref bb230), .val (.ref bb233), .unset, .unset, .unset] [(.ref bb230), (.ref b238), (.ref b238)]) _
        refine Go.of (fun tg_ kk_ => XS.aload X238.here hx rfl (hb hby at_74) rfl rfl kk_) ?_
        show Go p e below T238 (mkF m 76 #[.val (.int p0), .val (.int p1), .val (.int p2), .val (.int p3), .val (.int p4), .val (.int (4 : Int32)), .val (.int (0 : Int32)), .val (.int (0 : Int32)), .val (.ref bb230), .val (.ref bb233), .unset, .unset, .unset] [(.ref bb233), (.ref bb230), (.ref b238), (.ref b238)]) _
        obtain ⟨_, _, ⟨T247, L247, k247, n247⟩, -, X247, ⟨Lc247, hQ247, l247, y247, z247⟩, st247⟩ := X238.specialBack hx (y := (⟨"com/example/planwright/planwright/planner/SharedAtoms$Among", "<init>", "([Z[Z)V"⟩ : MethodName)) rfl hown (mvT hZ (hw _ (List.mem_of_getElem? (i := 8) rfl))) (mvT hZ (hw _ (List.mem_of_getElem? (i := 9) rfl))) (mvT hZ (hw _ (List.mem_of_getElem? (i := 10) rfl))) (by decide) (backOf (W := 1) (rm2_00 l Z a0 hw [] b238 bb230 bb233 h238 n0 Zs244 gx238 A238 F245 F246) hZ (hw _ (List.mem_of_getElem? (i := 10) rfl)) (hw _ (List.mem_of_getElem? (i := 7) rfl)) (by decide) (by decide)) (g := (mkF m 76 #[.val (.int p0), .val (.int p1), .val (.int p2), .val (.int p3), .val (.int p4), .val (.int (4 : Int32)), .val (.int (0 : Int32)), .val (.int (0 : Int32)), .val (.ref bb230), .val (.ref bb233), .unset, .unset, .unset] [(.ref bb233), (.ref bb230), (.ref b238), (.ref b238)])) rfl (by rw [hml]; rfl) (Steps.refl _) (a := b238) (argsL := [(.ref bb230), (.ref bb233)]) (rest := [(.ref b238)]) (lenOf pd_2 rfl) rfl (by show 2 * 0 + _ ≤ _; exact Nat.le_of_eq rfl) (hb hby at_76) (fun _ _ => ⟨rfl, e238, (by decide : 3 + 0 ≤ _), (by decide : 10 + 0 ≤ _)⟩)
        dsimp only [Pt.U, Pt.locs, Pt.cells, Pt.slots] at X247 l247 y247 z247 st247 hQ247
        subst l247 y247 z247
        obtain ⟨rfl, N247q, K247q, F247a⟩ := hQ247
        have N247 := Fr.app N233 N247q
        have F248 := F241.keep K247q (ninS ne239 nin0)
        have F249 := F242.keep K247q (ninS ne240 nin0)
        have F250 := A238.keep K247q
        have K253 := K243.trans K247q (allS (Or.inr sz238) all0)
        have Zs254 : n0 ≤ T247.heap.size := Nat.le_trans Zs244 K247q.1
        refine Go.of (fun tg_ kk_ => st247.trans kk_) ?_
        show Go p e below T247 (mkF m 79 #[.val (.int p0), .val (.int p1), .val (.int p2), .val (.int p3), .val (.int p4), .val (.int (4 : Int32)), .val (.int (0 : Int32)), .val (.int (0 : Int32)), .val (.ref bb230), .val (.ref bb233), .unset, .unset, .unset] [(.ref b238)]) _
        refine Go.of (fun tg_ kk_ => XS.astore X247.here hx rfl (hb hby at_79) rfl rfl (l' := #[.val (.int p0), .val (.int p1), .val (.int p2), .val (.int p3), .val (.int p4), .val (.int (4 : Int32)), .val (.int (0 : Int32)), .val (.int (0 : Int32)), .val (.ref bb230), .val (.ref bb233), .val (.ref b238), .unset, .unset]) rfl kk_) ?_
        show Go p e below T247 (mkF m 81 #[.val (.int p0), .val (.int p1), .val (.int p2), .val (.int p3), .val (.int p4), .val (.int (4 : Int32)), .val (.int (0 : Int32)), .val (.int (0 : Int32)), .val (.ref bb230), .val (.ref bb233), .val (.ref b238), .unset, .unset] []) _
        refine Go.of (fun tg_ kk_ => XS.iload X247.here hx rfl (hb hby at_81) rfl kk_) ?_
        show Go p e below T247 (mkF m 83 #[.val (.int p0), .val (.int p1), .val (.int p2), .val (.int p3), .val (.int p4), .val (.int (4 : Int32)), .val (.int (0 : Int32)), .val (.int (0 : Int32)), .val (.ref bb230), .val (.ref bb233), .val (.ref b238), .unset, .unset] [(.int (0 : Int32))]) _
        refine Go.of (fun tg_ kk_ => XS.ifYes X247.here hx rfl (pc0 := 83) (pc' := 93) rfl (hb hby at_83) rfl ((if0 _ _).trans (teq (show (0 : Int32) = (0 : Int32) by decide)).1) (by decide) (by decide) kk_) ?_
        show Go p e below T247 (mkF m 93 #[.val (.int p0), .val (.int p1), .val (.int p2), .val (.int p3), .val (.int p4), .val (.int (4 : Int32)), .val (.int (0 : Int32)), .val (.int (0 : Int32)), .val (.ref bb230), .val (.ref bb233), .val (.ref b238), .unset, .unset] []) _
        refine Go.of (fun tg_ kk_ => XS.iloadN X247.here hx rfl (hb hby at_93) rfl kk_) ?_
        show Go p e below T247 (mkF m 94 #[.val (.int p0), .val (.int p1), .val (.int p2), .val (.int p3), .val (.int p4), .val (.int (4 : Int32)), .val (.int (0 : Int32)), .val (.int (0 : Int32)), .val (.ref bb230), .val (.ref bb233), .val (.ref b238), .unset, .unset] [(.int p2)]) _
        refine Go.of (X247.ldcInt hx hown (mvT hZ (hw _ (List.mem_of_getElem? (i := 28) rfl))) (g := (mkF m 94 #[.val (.int p0), .val (.int p1), .val (.int p2), .val (.int p3), .val (.int p4), .val (.int (4 : Int32)), .val (.int (0 : Int32)), .val (.int (0 : Int32)), .val (.ref bb230), .val (.ref bb233), .val (.ref b238), .unset, .unset] [(.int p2)])) rfl (hb hby at_94)) ?_
        show Go p e below T247 (mkF m 96 #[.val (.int p0), .val (.int p1), .val (.int p2), .val (.int p3), .val (.int p4), .val (.int (4 : Int32)), .val (.int (0 : Int32)), .val (.int (0 : Int32)), .val (.ref bb230), .val (.ref bb233), .val (.ref b238), .unset, .unset] [(.int (2147483647 : Int32)), (.int p2)]) _
        refine Go.of (fun tg_ kk_ => XS.iand X247.here hx rfl (hb hby at_96) rfl kk_) ?_
        show Go p e below T247 (mkF m 97 #[.val (.int p0), .val (.int p1), .val (.int p2), .val (.int p3), .val (.int p4), .val (.int (4 : Int32)), .val (.int (0 : Int32)), .val (.int (0 : Int32)), .val (.ref bb230), .val (.ref bb233), .val (.ref b238), .unset, .unset] [(.int (p2 &&& (2147483647 : Int32)))]) _
        refine Go.of (fun tg_ kk_ => XS.iload X247.here hx rfl (hb hby at_97) rfl kk_) ?_
        show Go p e below T247 (mkF m 99 #[.val (.int p0), .val (.int p1), .val (.int p2), .val (.int p3), .val (.int p4), .val (.int (4 : Int32)), .val (.int (0 : Int32)), .val (.int (0 : Int32)), .val (.ref bb230), .val (.ref bb233), .val (.ref b238), .unset, .unset] [(.int (4 : Int32)), (.int (p2 &&& (2147483647 : Int32)))]) _
        refine Go.of (fun tg_ kk_ => Jvm.RoadKit.iremM (g := (mkF m 99 #[.val (.int p0), .val (.int p1), .val (.int p2), .val (.int p3), .val (.int p4), .val (.int (4 : Int32)), .val (.int (0 : Int32)), .val (.int (0 : Int32)), .val (.ref bb230), .val (.ref bb233), .val (.ref b238), .unset, .unset] [(.int (4 : Int32)), (.int (p2 &&& (2147483647 : Int32)))])) X247 hx rfl (hb hby at_99) rfl (by decide) kk_) ?_
        show Go p e below T247 (mkF m 100 #[.val (.int p0), .val (.int p1), .val (.int p2), .val (.int p3), .val (.int p4), .val (.int (4 : Int32)), .val (.int (0 : Int32)), .val (.int (0 : Int32)), .val (.ref bb230), .val (.ref bb233), .val (.ref b238), .unset, .unset] [(.int ((p2 &&& (2147483647 : Int32)) % (4 : Int32)))]) _
        obtain ⟨ix, qix⟩ : ∃ z : Int32, z = ((p2 &&& (2147483647 : Int32)) % (4 : Int32)) := ⟨_, rfl⟩
        rw [← qix]
        show Go p e below T247 (mkF m 100 #[.val (.int p0), .val (.int p1), .val (.int p2), .val (.int p3), .val (.int p4), .val (.int (4 : Int32)), .val (.int (0 : Int32)), .val (.int (0 : Int32)), .val (.ref bb230), .val (.ref bb233), .val (.ref b238), .unset, .unset] [(.int ix)]) _
        have hin : ¬ (ix < 0) ∧ (ix).toNatClampNeg < 4 := by rw [qix]; exact own_in p2 (4 : Int32) 4 (by decide) (by decide)
        have hin4 : ¬ (ix < 0) ∧ (ix).toNatClampNeg < 4 := ⟨hin.1, by omega⟩
        refine Go.of (fun tg_ kk_ => XS.istore X247.here hx rfl (hb hby at_100) rfl (l' := #[.val (.int p0), .val (.int p1), .val (.int p2), .val (.int p3), .val (.int p4), .val (.int (4 : Int32)), .val (.int (0 : Int32)), .val (.int (0 : Int32)), .val (.ref bb230), .val (.ref bb233), .val (.ref b238), .val (.int ix), .unset]) rfl kk_) ?_
        show Go p e below T247 (mkF m 102 #[.val (.int p0), .val (.int p1), .val (.int p2), .val (.int p3), .val (.int p4), .val (.int (4 : Int32)), .val (.int (0 : Int32)), .val (.int (0 : Int32)), .val (.ref bb230), .val (.ref bb233), .val (.ref b238), .val (.int ix), .unset] []) _
        refine Go.of (fun tg_ kk_ => XS.iloadN X247.here hx rfl (hb hby at_102) rfl kk_) ?_
        show Go p e below T247 (mkF m 103 #[.val (.int p0), .val (.int p1), .val (.int p2), .val (.int p3), .val (.int p4), .val (.int (4 : Int32)), .val (.int (0 : Int32)), .val (.int (0 : Int32)), .val (.ref bb230), .val (.ref bb233), .val (.ref b238), .val (.int ix), .unset] [(.int p0)]) _
        refine Go.of (fun tg_ kk_ => XS.iload X247.here hx rfl (hb hby at_103) rfl kk_) ?_
        show Go p e below T247 (mkF m 105 #[.val (.int p0), .val (.int p1), .val (.int p2), .val (.int p3), .val (.int p4), .val (.int (4 : Int32)), .val (.int (0 : Int32)), .val (.int (0 : Int32)), .val (.ref bb230), .val (.ref bb233), .val (.ref b238), .val (.int ix), .unset] [(.int ix), (.int p0)]) _
        refine Go.of (fun tg_ kk_ => XS.iushr X247.here hx rfl (hb hby at_105) rfl kk_) ?_
        show Go p e below T247 (mkF m 106 #[.val (.int p0), .val (.int p1), .val (.int p2), .val (.int p3), .val (.int p4), .val (.int (4 : Int32)), .val (.int (0 : Int32)), .val (.int (0 : Int32)), .val (.ref bb230), .val (.ref bb233), .val (.ref b238), .val (.int ix), .unset] [(.int ((p0.toUInt32 >>> (ix &&& 31).toUInt32).toInt32))]) _
        refine Go.of (fun tg_ kk_ => XS.iconst X247.here hx rfl (hb hby at_106) kk_) ?_
        show Go p e below T247 (mkF m 107 #[.val (.int p0), .val (.int p1), .val (.int p2), .val (.int p3), .val (.int p4), .val (.int (4 : Int32)), .val (.int (0 : Int32)), .val (.int (0 : Int32)), .val (.ref bb230), .val (.ref bb233), .val (.ref b238), .val (.int ix), .unset] [(.int (1 : Int32)), (.int ((p0.toUInt32 >>> (ix &&& 31).toUInt32).toInt32))]) _
        refine Go.of (fun tg_ kk_ => XS.iand X247.here hx rfl (hb hby at_107) rfl kk_) ?_
        show Go p e below T247 (mkF m 108 #[.val (.int p0), .val (.int p1), .val (.int p2), .val (.int p3), .val (.int p4), .val (.int (4 : Int32)), .val (.int (0 : Int32)), .val (.int (0 : Int32)), .val (.ref bb230), .val (.ref bb233), .val (.ref b238), .val (.int ix), .unset] [(.int (((p0.toUInt32 >>> (ix &&& 31).toUInt32).toInt32) &&& (1 : Int32)))]) _
        have st255 : ∀ ex : Int32, ex = (if (((p0.toUInt32 >>> (ix &&& 31).toUInt32).toInt32) &&& (1 : Int32)) = (0 : Int32) then (0 : Int32) else (1 : Int32)) → ∀ t, Steps p.tables e below (T247.setTop (mkF m 116 #[.val (.int p0), .val (.int p1), .val (.int p2), .val (.int p3), .val (.int p4), .val (.int (4 : Int32)), .val (.int (0 : Int32)), .val (.int (0 : Int32)), .val (.ref bb230), .val (.ref bb233), .val (.ref b238), .val (.int ix), .unset] [(.int ex)])) t → Steps p.tables e below (T247.setTop (mkF m 108 #[.val (.int p0), .val (.int p1), .val (.int p2), .val (.int p3), .val (.int p4), .val (.int (4 : Int32)), .val (.int (0 : Int32)), .val (.int (0 : Int32)), .val (.ref bb230), .val (.ref bb233), .val (.ref b238), .val (.int ix), .unset] [(.int (((p0.toUInt32 >>> (ix &&& 31).toUInt32).toInt32) &&& (1 : Int32)))])) t := by
          intro ex qex tg_ kk_
          by_cases hc : (((p0.toUInt32 >>> (ix &&& 31).toUInt32).toInt32) &&& (1 : Int32)) = (0 : Int32)
          · rw [if_pos hc] at qex; rw [qex] at kk_
            show Steps p.tables e below (T247.setTop (mkF m 108 #[.val (.int p0), .val (.int p1), .val (.int p2), .val (.int p3), .val (.int p4), .val (.int (4 : Int32)), .val (.int (0 : Int32)), .val (.int (0 : Int32)), .val (.ref bb230), .val (.ref bb233), .val (.ref b238), .val (.int ix), .unset] [(.int (((p0.toUInt32 >>> (ix &&& 31).toUInt32).toInt32) &&& (1 : Int32)))])) _
            refine XS.ifYes X247.here hx rfl (pc0 := 108) (pc' := 115) rfl (hb hby at_108) rfl ((if0 _ _).trans (teq hc).1) (by decide) (by decide) ?_
            show Steps p.tables e below (T247.setTop (mkF m 115 #[.val (.int p0), .val (.int p1), .val (.int p2), .val (.int p3), .val (.int p4), .val (.int (4 : Int32)), .val (.int (0 : Int32)), .val (.int (0 : Int32)), .val (.ref bb230), .val (.ref bb233), .val (.ref b238), .val (.int ix), .unset] [])) _
            refine XS.iconst X247.here hx rfl (hb hby at_115) ?_
            show Steps p.tables e below (T247.setTop (mkF m 116 #[.val (.int p0), .val (.int p1), .val (.int p2), .val (.int p3), .val (.int p4), .val (.int (4 : Int32)), .val (.int (0 : Int32)), .val (.int (0 : Int32)), .val (.ref bb230), .val (.ref bb233), .val (.ref b238), .val (.int ix), .unset] [(.int (0 : Int32))])) _
            exact kk_
          · rw [if_neg hc] at qex; rw [qex] at kk_
            show Steps p.tables e below (T247.setTop (mkF m 108 #[.val (.int p0), .val (.int p1), .val (.int p2), .val (.int p3), .val (.int p4), .val (.int (4 : Int32)), .val (.int (0 : Int32)), .val (.int (0 : Int32)), .val (.ref bb230), .val (.ref bb233), .val (.ref b238), .val (.int ix), .unset] [(.int (((p0.toUInt32 >>> (ix &&& 31).toUInt32).toInt32) &&& (1 : Int32)))])) _
            refine XS.ifNo X247.here hx rfl (hb hby at_108) rfl ((if0 _ _).trans (feq hc).1) ?_
            show Steps p.tables e below (T247.setTop (mkF m 111 #[.val (.int p0), .val (.int p1), .val (.int p2), .val (.int p3), .val (.int p4), .val (.int (4 : Int32)), .val (.int (0 : Int32)), .val (.int (0 : Int32)), .val (.ref bb230), .val (.ref bb233), .val (.ref b238), .val (.int ix), .unset] [])) _
            refine XS.iconst X247.here hx rfl (hb hby at_111) ?_
            show Steps p.tables e below (T247.setTop (mkF m 112 #[.val (.int p0), .val (.int p1), .val (.int p2), .val (.int p3), .val (.int p4), .val (.int (4 : Int32)), .val (.int (0 : Int32)), .val (.int (0 : Int32)), .val (.ref bb230), .val (.ref bb233), .val (.ref b238), .val (.int ix), .unset] [(.int (1 : Int32))])) _
            refine XS.goto X247.here hx rfl (pc0 := 112) (pc' := 116) rfl (hb hby at_112) (by decide) (by decide) ?_
            show Steps p.tables e below (T247.setTop (mkF m 116 #[.val (.int p0), .val (.int p1), .val (.int p2), .val (.int p3), .val (.int p4), .val (.int (4 : Int32)), .val (.int (0 : Int32)), .val (.int (0 : Int32)), .val (.ref bb230), .val (.ref bb233), .val (.ref b238), .val (.int ix), .unset] [(.int (1 : Int32))])) _
            exact kk_
        obtain ⟨ex, qex⟩ : ∃ z : Int32, z = (if (((p0.toUInt32 >>> (ix &&& 31).toUInt32).toInt32) &&& (1 : Int32)) = (0 : Int32) then (0 : Int32) else (1 : Int32)) := ⟨_, rfl⟩
        refine Go.of (st255 ex qex) ?_
        show Go p e below T247 (mkF m 116 #[.val (.int p0), .val (.int p1), .val (.int p2), .val (.int p3), .val (.int p4), .val (.int (4 : Int32)), .val (.int (0 : Int32)), .val (.int (0 : Int32)), .val (.ref bb230), .val (.ref bb233), .val (.ref b238), .val (.int ix), .unset] [(.int ex)]) _
        refine Go.of (fun tg_ kk_ => XS.istore X247.here hx rfl (hb hby at_116) rfl (l' := #[.val (.int p0), .val (.int p1), .val (.int p2), .val (.int p3), .val (.int p4), .val (.int (4 : Int32)), .val (.int (0 : Int32)), .val (.int (0 : Int32)), .val (.ref bb230), .val (.ref bb233), .val (.ref b238), .val (.int ix), .val (.int ex)]) rfl kk_) ?_
        show Go p e below T247 (mkF m 118 #[.val (.int p0), .val (.int p1), .val (.int p2), .val (.int p3), .val (.int p4), .val (.int (4 : Int32)), .val (.int (0 : Int32)), .val (.int (0 : Int32)), .val (.ref bb230), .val (.ref bb233), .val (.ref b238), .val (.int ix), .val (.int ex)] []) _
        refine Go.of (fun tg_ kk_ => XS.aload X247.here hx rfl (hb hby at_118) rfl rfl kk_) ?_
        show Go p e below T247 (mkF m 120 #[.val (.int p0), .val (.int p1), .val (.int p2), .val (.int p3), .val (.int p4), .val (.int (4 : Int32)), .val (.int (0 : Int32)), .val (.int (0 : Int32)), .val (.ref bb230), .val (.ref bb233), .val (.ref b238), .val (.int ix), .val (.int ex)] [(.ref b238)]) _
        refine Go.of (fun tg_ kk_ => XS.iload X247.here hx rfl (hb hby at_120) rfl kk_) ?_
        show Go p e below T247 (mkF m 122 #[.val (.int p0), .val (.int p1), .val (.int p2), .val (.int p3), .val (.int p4), .val (.int (4 : Int32)), .val (.int (0 : Int32)), .val (.int (0 : Int32)), .val (.ref bb230), .val (.ref bb233), .val (.ref b238), .val (.int ix), .val (.int ex)] [(.int ix), (.ref b238)]) _
        obtain ⟨cq256, kq256, q256a, q256b, q256c⟩ := isOf hZ rfl F250
        obtain ⟨_, _, ⟨T256, L256, k256, n256⟩, -, X256, ⟨Lc256, hQ256, l256, y256, z256⟩, st256⟩ := X247.virtualBack hx (y := (⟨"com/example/planwright/planwright/planner/SharedAtoms$Among", "weighs", "(I)Z"⟩ : MethodName)) (z := (⟨"com/example/planwright/planwright/planner/SharedAtoms$Among", "weighs", "(I)Z"⟩ : MethodName)) hown (mvT hZ (hw _ (List.mem_of_getElem? (i := 23) rfl))) (mvT hZ (hw _ (List.mem_of_getElem? (i := 24) rfl))) (notFace_of_selects (args := #[]) (mvT hZ (hw _ (List.mem_of_getElem? (i := 26) rfl)))) (mvT hZ (hw _ (List.mem_of_getElem? (i := 26) rfl))) (mvT hZ (hw _ (List.mem_of_getElem? (i := 25) rfl))) (by decide) (backOf (W := 0) (rm5 l Z a0 hw [] b238 ix bb230 (bitsF p0) 4 T247.heap n0 Zs254 F247a F248 hin) hZ (hw _ (List.mem_of_getElem? (i := 27) rfl)) (hw _ (List.mem_of_getElem? (i := 7) rfl)) (by decide) (by decide)) q256a q256c (g := (mkF m 122 #[.val (.int p0), .val (.int p1), .val (.int p2), .val (.int p3), .val (.int p4), .val (.int (4 : Int32)), .val (.int (0 : Int32)), .val (.int (0 : Int32)), .val (.ref bb230), .val (.ref bb233), .val (.ref b238), .val (.int ix), .val (.int ex)] [(.int ix), (.ref b238)])) rfl (by rw [hml]; rfl) (Steps.refl _) (argsL := [(.int ix)]) (rest := []) (lenOf pd_3 rfl) rfl (by show 2 * 0 + _ ≤ _; exact Nat.le_of_eq rfl) (hb hby at_122) (fun _ _ => ⟨rfl, rfl, (by decide : 3 + 0 ≤ _), (by decide : 10 + 0 ≤ _)⟩)
        dsimp only [Pt.U, Pt.locs, Pt.cells, Pt.slots] at X256 l256 y256 z256 st256 hQ256
        subst l256 y256 z256
        obtain ⟨rfl, N256q, e256⟩ := hQ256
        have N256 := Fr.app N247 N256q
        refine Go.of (fun tg_ kk_ => st256.trans kk_) ?_
        show Go p e below T256 (mkF m 125 #[.val (.int p0), .val (.int p1), .val (.int p2), .val (.int p3), .val (.int p4), .val (.int (4 : Int32)), .val (.int (0 : Int32)), .val (.int (0 : Int32)), .val (.ref bb230), .val (.ref bb233), .val (.ref b238), .val (.int ix), .val (.int ex)] [(.int (if bitsF p0 (ix).toNatClampNeg = 0 then (0 : Int32) else (1 : Int32)))]) _
        refine Go.of (fun tg_ kk_ => XS.iload X256.here hx rfl (hb hby at_125) rfl kk_) ?_
        show Go p e below T256 (mkF m 127 #[.val (.int p0), .val (.int p1), .val (.int p2), .val (.int p3), .val (.int p4), .val (.int (4 : Int32)), .val (.int (0 : Int32)), .val (.int (0 : Int32)), .val (.ref bb230), .val (.ref bb233), .val (.ref b238), .val (.int ix), .val (.int ex)] [(.int ex), (.int (if bitsF p0 (ix).toNatClampNeg = 0 then (0 : Int32) else (1 : Int32)))]) _
        refine Go.of (fun tg_ kk_ => XS.icmpNo X256.here hx rfl (hb hby at_127) rfl (teq (show (if bitsF p0 (ix).toNatClampNeg = 0 then (0 : Int32) else (1 : Int32)) = ex from (by rw [qex]; exact own_weighs p0 ix hin4))).2 kk_) ?_
        show Go p e below T256 (mkF m 130 #[.val (.int p0), .val (.int p1), .val (.int p2), .val (.int p3), .val (.int p4), .val (.int (4 : Int32)), .val (.int (0 : Int32)), .val (.int (0 : Int32)), .val (.ref bb230), .val (.ref bb233), .val (.ref b238), .val (.int ix), .val (.int ex)] []) _
        refine Go.of (fun tg_ kk_ => XS.iconst X256.here hx rfl (hb hby at_130) kk_) ?_
        show Go p e below T256 (mkF m 131 #[.val (.int p0), .val (.int p1), .val (.int p2), .val (.int p3), .val (.int p4), .val (.int (4 : Int32)), .val (.int (0 : Int32)), .val (.int (0 : Int32)), .val (.ref bb230), .val (.ref bb233), .val (.ref b238), .val (.int ix), .val (.int ex)] [(.int (1 : Int32))]) _
        refine Go.of (fun tg_ kk_ => XS.goto X256.here hx rfl (pc0 := 131) (pc' := 135) rfl (hb hby at_131) (by decide) (by decide) kk_) ?_
        show Go p e below T256 (mkF m 135 #[.val (.int p0), .val (.int p1), .val (.int p2), .val (.int p3), .val (.int p4), .val (.int (4 : Int32)), .val (.int (0 : Int32)), .val (.int (0 : Int32)), .val (.ref bb230), .val (.ref bb233), .val (.ref b238), .val (.int ix), .val (.int ex)] [(.int (1 : Int32))]) _
        obtain ⟨fs, hr, hrun, hended, hW, hsame⟩ := X256.leave (v := some (.int (1 : Int32))) (fun h => by rw [Bd.returns] at h; cases h)
        refine ⟨_, _, ?_, hrun, hended, _, _, rfl, ?_, ⟨_, rfl⟩, hW, hsame.mono (by decide) (by decide)⟩
        · exact retN X256 hx (t := .boolean) Bd.returns (by simp) (hb hby at_135) hr
        · show Q0 Z p0 p1 p2 p3 p4 h0 n0 _ T256.heap _
          rw [e256]
          exact ⟨rfl, N256⟩
      · skip
        refine Go.of (fun tg_ kk_ => XS.ifNo X0.here hx rfl (hb hby at_23) rfl ((if0 _ _).trans (feq he0).1) kk_) ?_
        show Go p e below s₁ (mkF m 26 #[.val (.int p0), .val (.int p1), .val (.int p2), .val (.int p3), .val (.int p4), .val (.int (4 : Int32)), .val (.int (0 : Int32)), .unset, .unset, .unset, .unset, .unset, .unset] []) _
        refine Go.of (fun tg_ kk_ => XS.iconst X0.here hx rfl (hb hby at_26) kk_) ?_
        show Go p e below s₁ (mkF m 27 #[.val (.int p0), .val (.int p1), .val (.int p2), .val (.int p3), .val (.int p4), .val (.int (4 : Int32)), .val (.int (0 : Int32)), .unset, .unset, .unset, .unset, .unset, .unset] [(.int (1 : Int32))]) _
        refine Go.of (fun tg_ kk_ => XS.goto X0.here hx rfl (pc0 := 27) (pc' := 31) rfl (hb hby at_27) (by decide) (by decide) kk_) ?_
        show Go p e below s₁ (mkF m 31 #[.val (.int p0), .val (.int p1), .val (.int p2), .val (.int p3), .val (.int p4), .val (.int (4 : Int32)), .val (.int (0 : Int32)), .unset, .unset, .unset, .unset, .unset, .unset] [(.int (1 : Int32))]) _
        refine Go.of (fun tg_ kk_ => XS.istore X0.here hx rfl (hb hby at_31) rfl (l' := #[.val (.int p0), .val (.int p1), .val (.int p2), .val (.int p3), .val (.int p4), .val (.int (4 : Int32)), .val (.int (0 : Int32)), .val (.int (1 : Int32)), .unset, .unset, .unset, .unset, .unset]) rfl kk_) ?_
        show Go p e below s₁ (mkF m 33 #[.val (.int p0), .val (.int p1), .val (.int p2), .val (.int p3), .val (.int p4), .val (.int (4 : Int32)), .val (.int (0 : Int32)), .val (.int (1 : Int32)), .unset, .unset, .unset, .unset, .unset] []) _
        refine Go.of (fun tg_ kk_ => XS.iload X0.here hx rfl (hb hby at_33) rfl kk_) ?_
        show Go p e below s₁ (mkF m 35 #[.val (.int p0), .val (.int p1), .val (.int p2), .val (.int p3), .val (.int p4), .val (.int (4 : Int32)), .val (.int (0 : Int32)), .val (.int (1 : Int32)), .unset, .unset, .unset, .unset, .unset] [(.int (0 : Int32))]) _
        refine Go.of (fun tg_ kk_ => XS.ifYes X0.here hx rfl (pc0 := 35) (pc' := 42) rfl (hb hby at_35) rfl ((if0 _ _).trans (teq (show (0 : Int32) = (0 : Int32) by decide)).1) (by decide) (by decide) kk_) ?_
        show Go p e below s₁ (mkF m 42 #[.val (.int p0), .val (.int p1), .val (.int p2), .val (.int p3), .val (.int p4), .val (.int (4 : Int32)), .val (.int (0 : Int32)), .val (.int (1 : Int32)), .unset, .unset, .unset, .unset, .unset] []) _
        refine Go.of (fun tg_ kk_ => XS.iload X0.here hx rfl (hb hby at_42) rfl kk_) ?_
        show Go p e below s₁ (mkF m 44 #[.val (.int p0), .val (.int p1), .val (.int p2), .val (.int p3), .val (.int p4), .val (.int (4 : Int32)), .val (.int (0 : Int32)), .val (.int (1 : Int32)), .unset, .unset, .unset, .unset, .unset] [(.int (4 : Int32))]) _
        refine Go.of (fun tg_ kk_ => XS.iloadN X0.here hx rfl (hb hby at_44) rfl kk_) ?_
        show Go p e below s₁ (mkF m 45 #[.val (.int p0), .val (.int p1), .val (.int p2), .val (.int p3), .val (.int p4), .val (.int (4 : Int32)), .val (.int (0 : Int32)), .val (.int (1 : Int32)), .unset, .unset, .unset, .unset, .unset] [(.int p0), (.int (4 : Int32))]) _
        obtain ⟨_, _, ⟨T257, L257, k257, n257⟩, -, X257, ⟨Lc257, hQ257, l257, y257, z257⟩, st257⟩ := Jvm.LawKit.callS X0 hx (y := (⟨"com/example/planwright/planwright/planner/AmongWeighsPinLaw", "fill", "(II)[Z"⟩ : MethodName)) hown (mvT hZ (hw _ (List.mem_of_getElem? (i := 0) rfl))) (mvT hZ (hw _ (List.mem_of_getElem? (i := 1) rfl))) (mvT hZ (hw _ (List.mem_of_getElem? (i := 2) rfl))) (mvT hZ (hw _ (List.mem_of_getElem? (i := 3) rfl))) (by decide) (backOf (W := 0) (rm1_4 l Z a0 hw [] p0 h0 n0 Z0) hZ (hw _ (List.mem_of_getElem? (i := 3) rfl)) (hw _ (List.mem_of_getElem? (i := 2) rfl)) (by decide) (by decide)) (g := (mkF m 45 #[.val (.int p0), .val (.int p1), .val (.int p2), .val (.int p3), .val (.int p4), .val (.int (4 : Int32)), .val (.int (0 : Int32)), .val (.int (1 : Int32)), .unset, .unset, .unset, .unset, .unset] [(.int p0), (.int (4 : Int32))])) rfl (by rw [hml]; rfl) (argsL := [(.int (4 : Int32)), (.int p0)]) (rest := []) (lenOf pd_1 rfl) rfl (by show 2 * 0 + _ ≤ _; exact Nat.le_of_eq rfl) (hb hby at_45) (fun _ _ => ⟨rfl, e0, (by decide : 0 + 1 ≤ _), (by decide : 0 + 4 ≤ _)⟩)
        dsimp only [Pt.U, Pt.locs, Pt.cells, Pt.slots] at X257 l257 y257 z257 st257 hQ257
        subst l257 y257 z257
        obtain ⟨bb257, rfl, N257q, K257q, sz257, gx257, V257⟩ := hQ257
        have N257 := Fr.app N0 N257q
        have sy257 : h0.size ≤ bb257 := Nat.le_trans K0.1 sz257
        have K258 := K0.trans K257q all0
        have Zs259 : n0 ≤ T257.heap.size := Nat.le_trans Z0 K257q.1
        refine Go.of (st257) ?_
        show Go p e below T257 (mkF m 48 #[.val (.int p0), .val (.int p1), .val (.int p2), .val (.int p3), .val (.int p4), .val (.int (4 : Int32)), .val (.int (0 : Int32)), .val (.int (1 : Int32)), .unset, .unset, .unset, .unset, .unset] [(.ref bb257)]) _
        refine Go.of (fun tg_ kk_ => XS.astore X257.here hx rfl (hb hby at_48) rfl rfl (l' := #[.val (.int p0), .val (.int p1), .val (.int p2), .val (.int p3), .val (.int p4), .val (.int (4 : Int32)), .val (.int (0 : Int32)), .val (.int (1 : Int32)), .val (.ref bb257), .unset, .unset, .unset, .unset]) rfl kk_) ?_
        show Go p e below T257 (mkF m 50 #[.val (.int p0), .val (.int p1), .val (.int p2), .val (.int p3), .val (.int p4), .val (.int (4 : Int32)), .val (.int (0 : Int32)), .val (.int (1 : Int32)), .val (.ref bb257), .unset, .unset, .unset, .unset] []) _
        refine Go.of (fun tg_ kk_ => XS.iload X257.here hx rfl (hb hby at_50) rfl kk_) ?_
        show Go p e below T257 (mkF m 52 #[.val (.int p0), .val (.int p1), .val (.int p2), .val (.int p3), .val (.int p4), .val (.int (4 : Int32)), .val (.int (0 : Int32)), .val (.int (1 : Int32)), .val (.ref bb257), .unset, .unset, .unset, .unset] [(.int (1 : Int32))]) _
        refine Go.of (fun tg_ kk_ => XS.ifNo X257.here hx rfl (hb hby at_52) rfl ((if0 _ _).trans (feq (show ¬ ((1 : Int32) = (0 : Int32)) by decide)).1) kk_) ?_
        show Go p e below T257 (mkF m 55 #[.val (.int p0), .val (.int p1), .val (.int p2), .val (.int p3), .val (.int p4), .val (.int (4 : Int32)), .val (.int (0 : Int32)), .val (.int (1 : Int32)), .val (.ref bb257), .unset, .unset, .unset, .unset] []) _
        refine Go.of (fun tg_ kk_ => XS.aconstNull X257.here hx rfl (hb hby at_55) kk_) ?_
        show Go p e below T257 (mkF m 56 #[.val (.int p0), .val (.int p1), .val (.int p2), .val (.int p3), .val (.int p4), .val (.int (4 : Int32)), .val (.int (0 : Int32)), .val (.int (1 : Int32)), .val (.ref bb257), .unset, .unset, .unset, .unset] [.null]) _
        refine Go.of (fun tg_ kk_ => XS.goto X257.here hx rfl (pc0 := 56) (pc' := 66) rfl (hb hby at_56) (by decide) (by decide) kk_) ?_
        show Go p e below T257 (mkF m 66 #[.val (.int p0), .val (.int p1), .val (.int p2), .val (.int p3), .val (.int p4), .val (.int (4 : Int32)), .val (.int (0 : Int32)), .val (.int (1 : Int32)), .val (.ref bb257), .unset, .unset, .unset, .unset] [.null]) _
        refine Go.of (fun tg_ kk_ => XS.astore X257.here hx rfl (hb hby at_66) rfl rfl (l' := #[.val (.int p0), .val (.int p1), .val (.int p2), .val (.int p3), .val (.int p4), .val (.int (4 : Int32)), .val (.int (0 : Int32)), .val (.int (1 : Int32)), .val (.ref bb257), .val .null, .unset, .unset, .unset]) rfl kk_) ?_
        show Go p e below T257 (mkF m 68 #[.val (.int p0), .val (.int p1), .val (.int p2), .val (.int p3), .val (.int p4), .val (.int (4 : Int32)), .val (.int (0 : Int32)), .val (.int (1 : Int32)), .val (.ref bb257), .val .null, .unset, .unset, .unset] []) _
        obtain ⟨T260, h260, X260, e260, E260, A260, D260, -, st260⟩ := newO X257 hx hZ hown (hw _ (List.mem_of_getElem? (i := 5) rfl)) (hw _ (List.mem_of_getElem? (i := 6) rfl)) (hw _ (List.mem_of_getElem? (i := 7) rfl)) rfl (g := (mkF m 68 #[.val (.int p0), .val (.int p1), .val (.int p2), .val (.int p3), .val (.int p4), .val (.int (4 : Int32)), .val (.int (0 : Int32)), .val (.int (1 : Int32)), .val (.ref bb257), .val .null, .unset, .unset, .unset] [])) rfl (hb hby at_68) (by decide) (by decide)
        obtain ⟨b260, g260⟩ : ∃ z, z = T257.heap.size := ⟨_, rfl⟩
        rw [← g260] at A260 D260 st260
        have gx260 : n0 ≤ b260 := Nat.le_trans Zs259 (Nat.le_of_eq g260.symm)
        have sz260 : h0.size ≤ b260 := Nat.le_trans K258.1 (Nat.le_of_eq g260.symm)
        have ne261 : bb257 ≠ b260 := Nat.ne_of_lt (Nat.lt_of_lt_of_le V257.lt (Nat.le_of_eq g260.symm))
        have F262 := V257.ext E260
        have K263 := K258.ext E260
        have Zs264 : n0 ≤ h260.size := Nat.le_trans Zs259 E260.1
        have F265 : Fld Z h260 b260 "com/example/planwright/planwright/planner/SharedAtoms$Among" "weighed" "[Z" .null := D260 (Or.inr (hw _ (List.mem_of_getElem? (i := 20) rfl))) (ty := (.array .boolean)) (by decide)
        have F266 : Fld Z h260 b260 "com/example/planwright/planwright/planner/SharedAtoms$Among" "elsewhere" "[Z" .null := D260 (Or.inr (hw _ (List.mem_of_getElem? (i := 22) rfl))) (ty := (.array .boolean)) (by decide)
        refine Go.of (st260) ?_
        show Go p e below T260 (mkF m 71 #[.val (.int p0), .val (.int p1), .val (.int p2), .val (.int p3), .val (.int p4), .val (.int (4 : Int32)), .val (.int (0 : Int32)), .val (.int (1 : Int32)), .val (.ref bb257), .val .null, .unset, .unset, .unset] [(.ref b260)]) _
        refine Go.of (fun tg_ kk_ => XS.dup X260.here hx rfl (hb hby at_71) rfl rfl kk_) ?_
        show Go p e below T260 (mkF m 72 #[.val (.int p0), .val (.int p1), .val (.int p2), .val (.int p3), .val (.int p4), .val (.int (4 : Int32)), .val (.int (0 : Int32)), .val (.int (1 : Int32)), .val (.ref bb257), .val .null, .unset, .unset, .unset] [(.ref b260), (.ref b260)]) _
        refine Go.of (fun tg_ kk_ => XS.aload X260.here hx rfl (hb hby at_72) rfl rfl kk_) ?_
        show Go p e below T260 (mkF m 74 #[.val (.int p0), .val (.int p1), .val (.int p2), .val (.int p3), .val (.int p4), .val (.int (4 : Int32)), .val (.int (0 : Int32)), .val (.int (1 : Int32)), .val (.ref bb257), .val .null, .unset, .unset, .unset] [(.ref bb257), (.ref b260), (.ref b260)]) _
        refine Go.of (fun tg_ kk_ => XS.aload X260.here hx rfl (hb hby at_74) rfl rfl kk_) ?_
        show Go p e below T260 (mkF m 76 #[.val (.int p0), .val (.int p1), .val (.int p2), .val (.int p3), .val (.int p4), .val (.int (4 : Int32)), .val (.int (0 : Int32)), .val (.int (1 : Int32)), .val (.ref bb257), .val .null, .unset, .unset, .unset] [.null, (.ref bb257), (.ref b260), (.ref b260)]) _
        obtain ⟨_, _, ⟨T267, L267, k267, n267⟩, -, X267, ⟨Lc267, hQ267, l267, y267, z267⟩, st267⟩ := X260.specialBack hx (y := (⟨"com/example/planwright/planwright/planner/SharedAtoms$Among", "<init>", "([Z[Z)V"⟩ : MethodName)) rfl hown (mvT hZ (hw _ (List.mem_of_getElem? (i := 8) rfl))) (mvT hZ (hw _ (List.mem_of_getElem? (i := 9) rfl))) (mvT hZ (hw _ (List.mem_of_getElem? (i := 10) rfl))) (by decide) (backOf (W := 1) (rm2_01 l Z a0 hw [] b260 bb257 h260 n0 Zs264 gx260 A260 F265 F266) hZ (hw _ (List.mem_of_getElem? (i := 10) rfl)) (hw _ (List.mem_of_getElem? (i := 7) rfl)) (by decide) (by decide)) (g := (mkF m 76 #[.val (.int p0), .val (.int p1), .val (.int p2), .val (.int p3), .val (.int p4), .val (.int (4 : Int32)), .val (.int (0 : Int32)), .val (.int (1 : Int32)), .val (.ref bb257), .val .null, .unset, .unset, .unset] [.null, (.ref bb257), (.ref b260), (.ref b260)])) rfl (by rw [hml]; rfl) (Steps.refl _) (a := b260) (argsL := [(.ref bb257), .null]) (rest := [(.ref b260)]) (lenOf pd_2 rfl) rfl (by show 2 * 0 + _ ≤ _; exact Nat.le_of_eq rfl) (hb hby at_76) (fun _ _ => ⟨rfl, e260, (by decide : 2 + 0 ≤ _), (by decide : 6 + 0 ≤ _)⟩)
        dsimp only [Pt.U, Pt.locs, Pt.cells, Pt.slots] at X267 l267 y267 z267 st267 hQ267
        subst l267 y267 z267
        obtain ⟨rfl, N267q, K267q, F267a⟩ := hQ267
        have N267 := Fr.app N257 N267q
        have F268 := F262.keep K267q (ninS ne261 nin0)
        have F269 := A260.keep K267q
        have K272 := K263.trans K267q (allS (Or.inr sz260) all0)
        have Zs273 : n0 ≤ T267.heap.size := Nat.le_trans Zs264 K267q.1
        refine Go.of (fun tg_ kk_ => st267.trans kk_) ?_
        show Go p e below T267 (mkF m 79 #[.val (.int p0), .val (.int p1), .val (.int p2), .val (.int p3), .val (.int p4), .val (.int (4 : Int32)), .val (.int (0 : Int32)), .val (.int (1 : Int32)), .val (.ref bb257), .val .null, .unset, .unset, .unset] [(.ref b260)]) _
        refine Go.of (fun tg_ kk_ => XS.astore X267.here hx rfl (hb hby at_79) rfl rfl (l' := #[.val (.int p0), .val (.int p1), .val (.int p2), .val (.int p3), .val (.int p4), .val (.int (4 : Int32)), .val (.int (0 : Int32)), .val (.int (1 : Int32)), .val (.ref bb257), .val .null, .val (.ref b260), .unset, .unset]) rfl kk_) ?_
        show Go p e below T267 (mkF m 81 #[.val (.int p0), .val (.int p1), .val (.int p2), .val (.int p3), .val (.int p4), .val (.int (4 : Int32)), .val (.int (0 : Int32)), .val (.int (1 : Int32)), .val (.ref bb257), .val .null, .val (.ref b260), .unset, .unset] []) _
        refine Go.of (fun tg_ kk_ => XS.iload X267.here hx rfl (hb hby at_81) rfl kk_) ?_
        show Go p e below T267 (mkF m 83 #[.val (.int p0), .val (.int p1), .val (.int p2), .val (.int p3), .val (.int p4), .val (.int (4 : Int32)), .val (.int (0 : Int32)), .val (.int (1 : Int32)), .val (.ref bb257), .val .null, .val (.ref b260), .unset, .unset] [(.int (0 : Int32))]) _
        refine Go.of (fun tg_ kk_ => XS.ifYes X267.here hx rfl (pc0 := 83) (pc' := 93) rfl (hb hby at_83) rfl ((if0 _ _).trans (teq (show (0 : Int32) = (0 : Int32) by decide)).1) (by decide) (by decide) kk_) ?_
        show Go p e below T267 (mkF m 93 #[.val (.int p0), .val (.int p1), .val (.int p2), .val (.int p3), .val (.int p4), .val (.int (4 : Int32)), .val (.int (0 : Int32)), .val (.int (1 : Int32)), .val (.ref bb257), .val .null, .val (.ref b260), .unset, .unset] []) _
        refine Go.of (fun tg_ kk_ => XS.iloadN X267.here hx rfl (hb hby at_93) rfl kk_) ?_
        show Go p e below T267 (mkF m 94 #[.val (.int p0), .val (.int p1), .val (.int p2), .val (.int p3), .val (.int p4), .val (.int (4 : Int32)), .val (.int (0 : Int32)), .val (.int (1 : Int32)), .val (.ref bb257), .val .null, .val (.ref b260), .unset, .unset] [(.int p2)]) _
        refine Go.of (X267.ldcInt hx hown (mvT hZ (hw _ (List.mem_of_getElem? (i := 28) rfl))) (g := (mkF m 94 #[.val (.int p0), .val (.int p1), .val (.int p2), .val (.int p3), .val (.int p4), .val (.int (4 : Int32)), .val (.int (0 : Int32)), .val (.int (1 : Int32)), .val (.ref bb257), .val .null, .val (.ref b260), .unset, .unset] [(.int p2)])) rfl (hb hby at_94)) ?_
        show Go p e below T267 (mkF m 96 #[.val (.int p0), .val (.int p1), .val (.int p2), .val (.int p3), .val (.int p4), .val (.int (4 : Int32)), .val (.int (0 : Int32)), .val (.int (1 : Int32)), .val (.ref bb257), .val .null, .val (.ref b260), .unset, .unset] [(.int (2147483647 : Int32)), (.int p2)]) _
        refine Go.of (fun tg_ kk_ => XS.iand X267.here hx rfl (hb hby at_96) rfl kk_) ?_
        show Go p e below T267 (mkF m 97 #[.val (.int p0), .val (.int p1), .val (.int p2), .val (.int p3), .val (.int p4), .val (.int (4 : Int32)), .val (.int (0 : Int32)), .val (.int (1 : Int32)), .val (.ref bb257), .val .null, .val (.ref b260), .unset, .unset] [(.int (p2 &&& (2147483647 : Int32)))]) _
        refine Go.of (fun tg_ kk_ => XS.iload X267.here hx rfl (hb hby at_97) rfl kk_) ?_
        show Go p e below T267 (mkF m 99 #[.val (.int p0), .val (.int p1), .val (.int p2), .val (.int p3), .val (.int p4), .val (.int (4 : Int32)), .val (.int (0 : Int32)), .val (.int (1 : Int32)), .val (.ref bb257), .val .null, .val (.ref b260), .unset, .unset] [(.int (4 : Int32)), (.int (p2 &&& (2147483647 : Int32)))]) _
        refine Go.of (fun tg_ kk_ => Jvm.RoadKit.iremM (g := (mkF m 99 #[.val (.int p0), .val (.int p1), .val (.int p2), .val (.int p3), .val (.int p4), .val (.int (4 : Int32)), .val (.int (0 : Int32)), .val (.int (1 : Int32)), .val (.ref bb257), .val .null, .val (.ref b260), .unset, .unset] [(.int (4 : Int32)), (.int (p2 &&& (2147483647 : Int32)))])) X267 hx rfl (hb hby at_99) rfl (by decide) kk_) ?_
        show Go p e below T267 (mkF m 100 #[.val (.int p0), .val (.int p1), .val (.int p2), .val (.int p3), .val (.int p4), .val (.int (4 : Int32)), .val (.int (0 : Int32)), .val (.int (1 : Int32)), .val (.ref bb257), .val .null, .val (.ref b260), .unset, .unset] [(.int ((p2 &&& (2147483647 : Int32)) % (4 : Int32)))]) _
        obtain ⟨ix, qix⟩ : ∃ z : Int32, z = ((p2 &&& (2147483647 : Int32)) % (4 : Int32)) := ⟨_, rfl⟩
        rw [← qix]
        show Go p e below T267 (mkF m 100 #[.val (.int p0), .val (.int p1), .val (.int p2), .val (.int p3), .val (.int p4), .val (.int (4 : Int32)), .val (.int (0 : Int32)), .val (.int (1 : Int32)), .val (.ref bb257), .val .null, .val (.ref b260), .unset, .unset] [(.int ix)]) _
        have hin : ¬ (ix < 0) ∧ (ix).toNatClampNeg < 4 := by rw [qix]; exact own_in p2 (4 : Int32) 4 (by decide) (by decide)
        have hin4 : ¬ (ix < 0) ∧ (ix).toNatClampNeg < 4 := ⟨hin.1, by omega⟩
        refine Go.of (fun tg_ kk_ => XS.istore X267.here hx rfl (hb hby at_100) rfl (l' := #[.val (.int p0), .val (.int p1), .val (.int p2), .val (.int p3), .val (.int p4), .val (.int (4 : Int32)), .val (.int (0 : Int32)), .val (.int (1 : Int32)), .val (.ref bb257), .val .null, .val (.ref b260), .val (.int ix), .unset]) rfl kk_) ?_
        show Go p e below T267 (mkF m 102 #[.val (.int p0), .val (.int p1), .val (.int p2), .val (.int p3), .val (.int p4), .val (.int (4 : Int32)), .val (.int (0 : Int32)), .val (.int (1 : Int32)), .val (.ref bb257), .val .null, .val (.ref b260), .val (.int ix), .unset] []) _
        refine Go.of (fun tg_ kk_ => XS.iloadN X267.here hx rfl (hb hby at_102) rfl kk_) ?_
        show Go p e below T267 (mkF m 103 #[.val (.int p0), .val (.int p1), .val (.int p2), .val (.int p3), .val (.int p4), .val (.int (4 : Int32)), .val (.int (0 : Int32)), .val (.int (1 : Int32)), .val (.ref bb257), .val .null, .val (.ref b260), .val (.int ix), .unset] [(.int p0)]) _
        refine Go.of (fun tg_ kk_ => XS.iload X267.here hx rfl (hb hby at_103) rfl kk_) ?_
        show Go p e below T267 (mkF m 105 #[.val (.int p0), .val (.int p1), .val (.int p2), .val (.int p3), .val (.int p4), .val (.int (4 : Int32)), .val (.int (0 : Int32)), .val (.int (1 : Int32)), .val (.ref bb257), .val .null, .val (.ref b260), .val (.int ix), .unset] [(.int ix), (.int p0)]) _
        refine Go.of (fun tg_ kk_ => XS.iushr X267.here hx rfl (hb hby at_105) rfl kk_) ?_
        show Go p e below T267 (mkF m 106 #[.val (.int p0), .val (.int p1), .val (.int p2), .val (.int p3), .val (.int p4), .val (.int (4 : Int32)), .val (.int (0 : Int32)), .val (.int (1 : Int32)), .val (.ref bb257), .val .null, .val (.ref b260), .val (.int ix), .unset] [(.int ((p0.toUInt32 >>> (ix &&& 31).toUInt32).toInt32))]) _
        refine Go.of (fun tg_ kk_ => XS.iconst X267.here hx rfl (hb hby at_106) kk_) ?_
        show Go p e below T267 (mkF m 107 #[.val (.int p0), .val (.int p1), .val (.int p2), .val (.int p3), .val (.int p4), .val (.int (4 : Int32)), .val (.int (0 : Int32)), .val (.int (1 : Int32)), .val (.ref bb257), .val .null, .val (.ref b260), .val (.int ix), .unset] [(.int (1 : Int32)), (.int ((p0.toUInt32 >>> (ix &&& 31).toUInt32).toInt32))]) _
        refine Go.of (fun tg_ kk_ => XS.iand X267.here hx rfl (hb hby at_107) rfl kk_) ?_
        show Go p e below T267 (mkF m 108 #[.val (.int p0), .val (.int p1), .val (.int p2), .val (.int p3), .val (.int p4), .val (.int (4 : Int32)), .val (.int (0 : Int32)), .val (.int (1 : Int32)), .val (.ref bb257), .val .null, .val (.ref b260), .val (.int ix), .unset] [(.int (((p0.toUInt32 >>> (ix &&& 31).toUInt32).toInt32) &&& (1 : Int32)))]) _
        have st274 : ∀ ex : Int32, ex = (if (((p0.toUInt32 >>> (ix &&& 31).toUInt32).toInt32) &&& (1 : Int32)) = (0 : Int32) then (0 : Int32) else (1 : Int32)) → ∀ t, Steps p.tables e below (T267.setTop (mkF m 116 #[.val (.int p0), .val (.int p1), .val (.int p2), .val (.int p3), .val (.int p4), .val (.int (4 : Int32)), .val (.int (0 : Int32)), .val (.int (1 : Int32)), .val (.ref bb257), .val .null, .val (.ref b260), .val (.int ix), .unset] [(.int ex)])) t → Steps p.tables e below (T267.setTop (mkF m 108 #[.val (.int p0), .val (.int p1), .val (.int p2), .val (.int p3), .val (.int p4), .val (.int (4 : Int32)), .val (.int (0 : Int32)), .val (.int (1 : Int32)), .val (.ref bb257), .val .null, .val (.ref b260), .val (.int ix), .unset] [(.int (((p0.toUInt32 >>> (ix &&& 31).toUInt32).toInt32) &&& (1 : Int32)))])) t := by
          intro ex qex tg_ kk_
          by_cases hc : (((p0.toUInt32 >>> (ix &&& 31).toUInt32).toInt32) &&& (1 : Int32)) = (0 : Int32)
          · rw [if_pos hc] at qex; rw [qex] at kk_
            show Steps p.tables e below (T267.setTop (mkF m 108 #[.val (.int p0), .val (.int p1), .val (.int p2), .val (.int p3), .val (.int p4), .val (.int (4 : Int32)), .val (.int (0 : Int32)), .val (.int (1 : Int32)), .val (.ref bb257), .val .null, .val (.ref b260), .val (.int ix), .unset] [(.int (((p0.toUInt32 >>> (ix &&& 31).toUInt32).toInt32) &&& (1 : Int32)))])) _
            refine XS.ifYes X267.here hx rfl (pc0 := 108) (pc' := 115) rfl (hb hby at_108) rfl ((if0 _ _).trans (teq hc).1) (by decide) (by decide) ?_
            show Steps p.tables e below (T267.setTop (mkF m 115 #[.val (.int p0), .val (.int p1), .val (.int p2), .val (.int p3), .val (.int p4), .val (.int (4 : Int32)), .val (.int (0 : Int32)), .val (.int (1 : Int32)), .val (.ref bb257), .val .null, .val (.ref b260), .val (.int ix), .unset] [])) _
            refine XS.iconst X267.here hx rfl (hb hby at_115) ?_
            show Steps p.tables e below (T267.setTop (mkF m 116 #[.val (.int p0), .val (.int p1), .val (.int p2), .val (.int p3), .val (.int p4), .val (.int (4 : Int32)), .val (.int (0 : Int32)), .val (.int (1 : Int32)), .val (.ref bb257), .val .null, .val (.ref b260), .val (.int ix), .unset] [(.int (0 : Int32))])) _
            exact kk_
          · rw [if_neg hc] at qex; rw [qex] at kk_
            show Steps p.tables e below (T267.setTop (mkF m 108 #[.val (.int p0), .val (.int p1), .val (.int p2), .val (.int p3), .val (.int p4), .val (.int (4 : Int32)), .val (.int (0 : Int32)), .val (.int (1 : Int32)), .val (.ref bb257), .val .null, .val (.ref b260), .val (.int ix), .unset] [(.int (((p0.toUInt32 >>> (ix &&& 31).toUInt32).toInt32) &&& (1 : Int32)))])) _
            refine XS.ifNo X267.here hx rfl (hb hby at_108) rfl ((if0 _ _).trans (feq hc).1) ?_
            show Steps p.tables e below (T267.setTop (mkF m 111 #[.val (.int p0), .val (.int p1), .val (.int p2), .val (.int p3), .val (.int p4), .val (.int (4 : Int32)), .val (.int (0 : Int32)), .val (.int (1 : Int32)), .val (.ref bb257), .val .null, .val (.ref b260), .val (.int ix), .unset] [])) _
            refine XS.iconst X267.here hx rfl (hb hby at_111) ?_
            show Steps p.tables e below (T267.setTop (mkF m 112 #[.val (.int p0), .val (.int p1), .val (.int p2), .val (.int p3), .val (.int p4), .val (.int (4 : Int32)), .val (.int (0 : Int32)), .val (.int (1 : Int32)), .val (.ref bb257), .val .null, .val (.ref b260), .val (.int ix), .unset] [(.int (1 : Int32))])) _
            refine XS.goto X267.here hx rfl (pc0 := 112) (pc' := 116) rfl (hb hby at_112) (by decide) (by decide) ?_
            show Steps p.tables e below (T267.setTop (mkF m 116 #[.val (.int p0), .val (.int p1), .val (.int p2), .val (.int p3), .val (.int p4), .val (.int (4 : Int32)), .val (.int (0 : Int32)), .val (.int (1 : Int32)), .val (.ref bb257), .val .null, .val (.ref b260), .val (.int ix), .unset] [(.int (1 : Int32))])) _
            exact kk_
        obtain ⟨ex, qex⟩ : ∃ z : Int32, z = (if (((p0.toUInt32 >>> (ix &&& 31).toUInt32).toInt32) &&& (1 : Int32)) = (0 : Int32) then (0 : Int32) else (1 : Int32)) := ⟨_, rfl⟩
        refine Go.of (st274 ex qex) ?_
        show Go p e below T267 (mkF m 116 #[.val (.int p0), .val (.int p1), .val (.int p2), .val (.int p3), .val (.int p4), .val (.int (4 : Int32)), .val (.int (0 : Int32)), .val (.int (1 : Int32)), .val (.ref bb257), .val .null, .val (.ref b260), .val (.int ix), .unset] [(.int ex)]) _
        refine Go.of (fun tg_ kk_ => XS.istore X267.here hx rfl (hb hby at_116) rfl (l' := #[.val (.int p0), .val (.int p1), .val (.int p2), .val (.int p3), .val (.int p4), .val (.int (4 : Int32)), .val (.int (0 : Int32)), .val (.int (1 : Int32)), .val (.ref bb257), .val .null, .val (.ref b260), .val (.int ix), .val (.int ex)]) rfl kk_) ?_
        show Go p e below T267 (mkF m 118 #[.val (.int p0), .val (.int p1), .val (.int p2), .val (.int p3), .val (.int p4), .val (.int (4 : Int32)), .val (.int (0 : Int32)), .val (.int (1 : Int32)), .val (.ref bb257), .val .null, .val (.ref b260), .val (.int ix), .val (.int ex)] []) _
        refine Go.of (fun tg_ kk_ => XS.aload X267.here hx rfl (hb hby at_118) rfl rfl kk_) ?_
        show Go p e below T267 (mkF m 120 #[.val (.int p0), .val (.int p1), .val (.int p2), .val (.int p3), .val (.int p4), .val (.int (4 : Int32)), .val (.int (0 : Int32)), .val (.int (1 : Int32)), .val (.ref bb257), .val .null, .val (.ref b260), .val (.int ix), .val (.int ex)] [(.ref b260)]) _
        refine Go.of (fun tg_ kk_ => XS.iload X267.here hx rfl (hb hby at_120) rfl kk_) ?_
        show Go p e below T267 (mkF m 122 #[.val (.int p0), .val (.int p1), .val (.int p2), .val (.int p3), .val (.int p4), .val (.int (4 : Int32)), .val (.int (0 : Int32)), .val (.int (1 : Int32)), .val (.ref bb257), .val .null, .val (.ref b260), .val (.int ix), .val (.int ex)] [(.int ix), (.ref b260)]) _
        obtain ⟨cq275, kq275, q275a, q275b, q275c⟩ := isOf hZ rfl F269
        obtain ⟨_, _, ⟨T275, L275, k275, n275⟩, -, X275, ⟨Lc275, hQ275, l275, y275, z275⟩, st275⟩ := X267.virtualBack hx (y := (⟨"com/example/planwright/planwright/planner/SharedAtoms$Among", "weighs", "(I)Z"⟩ : MethodName)) (z := (⟨"com/example/planwright/planwright/planner/SharedAtoms$Among", "weighs", "(I)Z"⟩ : MethodName)) hown (mvT hZ (hw _ (List.mem_of_getElem? (i := 23) rfl))) (mvT hZ (hw _ (List.mem_of_getElem? (i := 24) rfl))) (notFace_of_selects (args := #[]) (mvT hZ (hw _ (List.mem_of_getElem? (i := 26) rfl)))) (mvT hZ (hw _ (List.mem_of_getElem? (i := 26) rfl))) (mvT hZ (hw _ (List.mem_of_getElem? (i := 25) rfl))) (by decide) (backOf (W := 0) (rm5 l Z a0 hw [] b260 ix bb257 (bitsF p0) 4 T267.heap n0 Zs273 F267a F268 hin) hZ (hw _ (List.mem_of_getElem? (i := 27) rfl)) (hw _ (List.mem_of_getElem? (i := 7) rfl)) (by decide) (by decide)) q275a q275c (g := (mkF m 122 #[.val (.int p0), .val (.int p1), .val (.int p2), .val (.int p3), .val (.int p4), .val (.int (4 : Int32)), .val (.int (0 : Int32)), .val (.int (1 : Int32)), .val (.ref bb257), .val .null, .val (.ref b260), .val (.int ix), .val (.int ex)] [(.int ix), (.ref b260)])) rfl (by rw [hml]; rfl) (Steps.refl _) (argsL := [(.int ix)]) (rest := []) (lenOf pd_3 rfl) rfl (by show 2 * 0 + _ ≤ _; exact Nat.le_of_eq rfl) (hb hby at_122) (fun _ _ => ⟨rfl, rfl, (by decide : 2 + 0 ≤ _), (by decide : 6 + 0 ≤ _)⟩)
        dsimp only [Pt.U, Pt.locs, Pt.cells, Pt.slots] at X275 l275 y275 z275 st275 hQ275
        subst l275 y275 z275
        obtain ⟨rfl, N275q, e275⟩ := hQ275
        have N275 := Fr.app N267 N275q
        refine Go.of (fun tg_ kk_ => st275.trans kk_) ?_
        show Go p e below T275 (mkF m 125 #[.val (.int p0), .val (.int p1), .val (.int p2), .val (.int p3), .val (.int p4), .val (.int (4 : Int32)), .val (.int (0 : Int32)), .val (.int (1 : Int32)), .val (.ref bb257), .val .null, .val (.ref b260), .val (.int ix), .val (.int ex)] [(.int (if bitsF p0 (ix).toNatClampNeg = 0 then (0 : Int32) else (1 : Int32)))]) _
        refine Go.of (fun tg_ kk_ => XS.iload X275.here hx rfl (hb hby at_125) rfl kk_) ?_
        show Go p e below T275 (mkF m 127 #[.val (.int p0), .val (.int p1), .val (.int p2), .val (.int p3), .val (.int p4), .val (.int (4 : Int32)), .val (.int (0 : Int32)), .val (.int (1 : Int32)), .val (.ref bb257), .val .null, .val (.ref b260), .val (.int ix), .val (.int ex)] [(.int ex), (.int (if bitsF p0 (ix).toNatClampNeg = 0 then (0 : Int32) else (1 : Int32)))]) _
        refine Go.of (fun tg_ kk_ => XS.icmpNo X275.here hx rfl (hb hby at_127) rfl (teq (show (if bitsF p0 (ix).toNatClampNeg = 0 then (0 : Int32) else (1 : Int32)) = ex from (by rw [qex]; exact own_weighs p0 ix hin4))).2 kk_) ?_
        show Go p e below T275 (mkF m 130 #[.val (.int p0), .val (.int p1), .val (.int p2), .val (.int p3), .val (.int p4), .val (.int (4 : Int32)), .val (.int (0 : Int32)), .val (.int (1 : Int32)), .val (.ref bb257), .val .null, .val (.ref b260), .val (.int ix), .val (.int ex)] []) _
        refine Go.of (fun tg_ kk_ => XS.iconst X275.here hx rfl (hb hby at_130) kk_) ?_
        show Go p e below T275 (mkF m 131 #[.val (.int p0), .val (.int p1), .val (.int p2), .val (.int p3), .val (.int p4), .val (.int (4 : Int32)), .val (.int (0 : Int32)), .val (.int (1 : Int32)), .val (.ref bb257), .val .null, .val (.ref b260), .val (.int ix), .val (.int ex)] [(.int (1 : Int32))]) _
        refine Go.of (fun tg_ kk_ => XS.goto X275.here hx rfl (pc0 := 131) (pc' := 135) rfl (hb hby at_131) (by decide) (by decide) kk_) ?_
        show Go p e below T275 (mkF m 135 #[.val (.int p0), .val (.int p1), .val (.int p2), .val (.int p3), .val (.int p4), .val (.int (4 : Int32)), .val (.int (0 : Int32)), .val (.int (1 : Int32)), .val (.ref bb257), .val .null, .val (.ref b260), .val (.int ix), .val (.int ex)] [(.int (1 : Int32))]) _
        obtain ⟨fs, hr, hrun, hended, hW, hsame⟩ := X275.leave (v := some (.int (1 : Int32))) (fun h => by rw [Bd.returns] at h; cases h)
        refine ⟨_, _, ?_, hrun, hended, _, _, rfl, ?_, ⟨_, rfl⟩, hW, hsame.mono (by decide) (by decide)⟩
        · exact retN X275 hx (t := .boolean) Bd.returns (by simp) (hb hby at_135) hr
        · show Q0 Z p0 p1 p2 p3 p4 h0 n0 _ T275.heap _
          rw [e275]
          exact ⟨rfl, N275⟩
    · skip
      refine Go.of (fun tg_ kk_ => XS.ifNo X0.here hx rfl (hb hby at_10) rfl ((if0 _ _).trans (feq hw0).1) kk_) ?_
      show Go p e below s₁ (mkF m 13 #[.val (.int p0), .val (.int p1), .val (.int p2), .val (.int p3), .val (.int p4), .val (.int (4 : Int32)), .unset, .unset, .unset, .unset, .unset, .unset, .unset] []) _
      refine Go.of (fun tg_ kk_ => XS.iconst X0.here hx rfl (hb hby at_13) kk_) ?_
      show Go p e below s₁ (mkF m 14 #[.val (.int p0), .val (.int p1), .val (.int p2), .val (.int p3), .val (.int p4), .val (.int (4 : Int32)), .unset, .unset, .unset, .unset, .unset, .unset, .unset] [(.int (1 : Int32))]) _
      refine Go.of (fun tg_ kk_ => XS.goto X0.here hx rfl (pc0 := 14) (pc' := 18) rfl (hb hby at_14) (by decide) (by decide) kk_) ?_
      show Go p e below s₁ (mkF m 18 #[.val (.int p0), .val (.int p1), .val (.int p2), .val (.int p3), .val (.int p4), .val (.int (4 : Int32)), .unset, .unset, .unset, .unset, .unset, .unset, .unset] [(.int (1 : Int32))]) _
      refine Go.of (fun tg_ kk_ => XS.istore X0.here hx rfl (hb hby at_18) rfl (l' := #[.val (.int p0), .val (.int p1), .val (.int p2), .val (.int p3), .val (.int p4), .val (.int (4 : Int32)), .val (.int (1 : Int32)), .unset, .unset, .unset, .unset, .unset, .unset]) rfl kk_) ?_
      show Go p e below s₁ (mkF m 20 #[.val (.int p0), .val (.int p1), .val (.int p2), .val (.int p3), .val (.int p4), .val (.int (4 : Int32)), .val (.int (1 : Int32)), .unset, .unset, .unset, .unset, .unset, .unset] []) _
      refine Go.of (fun tg_ kk_ => XS.iloadN X0.here hx rfl (hb hby at_20) rfl kk_) ?_
      show Go p e below s₁ (mkF m 21 #[.val (.int p0), .val (.int p1), .val (.int p2), .val (.int p3), .val (.int p4), .val (.int (4 : Int32)), .val (.int (1 : Int32)), .unset, .unset, .unset, .unset, .unset, .unset] [(.int p3)]) _
      refine Go.of (fun tg_ kk_ => XS.iconst X0.here hx rfl (hb hby at_21) kk_) ?_
      show Go p e below s₁ (mkF m 22 #[.val (.int p0), .val (.int p1), .val (.int p2), .val (.int p3), .val (.int p4), .val (.int (4 : Int32)), .val (.int (1 : Int32)), .unset, .unset, .unset, .unset, .unset, .unset] [(.int (2 : Int32)), (.int p3)]) _
      refine Go.of (fun tg_ kk_ => XS.iand X0.here hx rfl (hb hby at_22) rfl kk_) ?_
      show Go p e below s₁ (mkF m 23 #[.val (.int p0), .val (.int p1), .val (.int p2), .val (.int p3), .val (.int p4), .val (.int (4 : Int32)), .val (.int (1 : Int32)), .unset, .unset, .unset, .unset, .unset, .unset] [(.int (p3 &&& (2 : Int32)))]) _
      by_cases he0 : (p3 &&& (2 : Int32)) = (0 : Int32)
      · skip
        refine Go.of (fun tg_ kk_ => XS.ifYes X0.here hx rfl (pc0 := 23) (pc' := 30) rfl (hb hby at_23) rfl ((if0 _ _).trans (teq he0).1) (by decide) (by decide) kk_) ?_
        show Go p e below s₁ (mkF m 30 #[.val (.int p0), .val (.int p1), .val (.int p2), .val (.int p3), .val (.int p4), .val (.int (4 : Int32)), .val (.int (1 : Int32)), .unset, .unset, .unset, .unset, .unset, .unset] []) _
        refine Go.of (fun tg_ kk_ => XS.iconst X0.here hx rfl (hb hby at_30) kk_) ?_
        show Go p e below s₁ (mkF m 31 #[.val (.int p0), .val (.int p1), .val (.int p2), .val (.int p3), .val (.int p4), .val (.int (4 : Int32)), .val (.int (1 : Int32)), .unset, .unset, .unset, .unset, .unset, .unset] [(.int (0 : Int32))]) _
        refine Go.of (fun tg_ kk_ => XS.istore X0.here hx rfl (hb hby at_31) rfl (l' := #[.val (.int p0), .val (.int p1), .val (.int p2), .val (.int p3), .val (.int p4), .val (.int (4 : Int32)), .val (.int (1 : Int32)), .val (.int (0 : Int32)), .unset, .unset, .unset, .unset, .unset]) rfl kk_) ?_
        show Go p e below s₁ (mkF m 33 #[.val (.int p0), .val (.int p1), .val (.int p2), .val (.int p3), .val (.int p4), .val (.int (4 : Int32)), .val (.int (1 : Int32)), .val (.int (0 : Int32)), .unset, .unset, .unset, .unset, .unset] []) _
        refine Go.of (fun tg_ kk_ => XS.iload X0.here hx rfl (hb hby at_33) rfl kk_) ?_
        show Go p e below s₁ (mkF m 35 #[.val (.int p0), .val (.int p1), .val (.int p2), .val (.int p3), .val (.int p4), .val (.int (4 : Int32)), .val (.int (1 : Int32)), .val (.int (0 : Int32)), .unset, .unset, .unset, .unset, .unset] [(.int (1 : Int32))]) _
        refine Go.of (fun tg_ kk_ => XS.ifNo X0.here hx rfl (hb hby at_35) rfl ((if0 _ _).trans (feq (show ¬ ((1 : Int32) = (0 : Int32)) by decide)).1) kk_) ?_
        show Go p e below s₁ (mkF m 38 #[.val (.int p0), .val (.int p1), .val (.int p2), .val (.int p3), .val (.int p4), .val (.int (4 : Int32)), .val (.int (1 : Int32)), .val (.int (0 : Int32)), .unset, .unset, .unset, .unset, .unset] []) _
        refine Go.of (fun tg_ kk_ => XS.aconstNull X0.here hx rfl (hb hby at_38) kk_) ?_
        show Go p e below s₁ (mkF m 39 #[.val (.int p0), .val (.int p1), .val (.int p2), .val (.int p3), .val (.int p4), .val (.int (4 : Int32)), .val (.int (1 : Int32)), .val (.int (0 : Int32)), .unset, .unset, .unset, .unset, .unset] [.null]) _
        refine Go.of (fun tg_ kk_ => XS.goto X0.here hx rfl (pc0 := 39) (pc' := 48) rfl (hb hby at_39) (by decide) (by decide) kk_) ?_
        show Go p e below s₁ (mkF m 48 #[.val (.int p0), .val (.int p1), .val (.int p2), .val (.int p3), .val (.int p4), .val (.int (4 : Int32)), .val (.int (1 : Int32)), .val (.int (0 : Int32)), .unset, .unset, .unset, .unset, .unset] [.null]) _
        refine Go.of (fun tg_ kk_ => XS.astore X0.here hx rfl (hb hby at_48) rfl rfl (l' := #[.val (.int p0), .val (.int p1), .val (.int p2), .val (.int p3), .val (.int p4), .val (.int (4 : Int32)), .val (.int (1 : Int32)), .val (.int (0 : Int32)), .val .null, .unset, .unset, .unset, .unset]) rfl kk_) ?_
        show Go p e below s₁ (mkF m 50 #[.val (.int p0), .val (.int p1), .val (.int p2), .val (.int p3), .val (.int p4), .val (.int (4 : Int32)), .val (.int (1 : Int32)), .val (.int (0 : Int32)), .val .null, .unset, .unset, .unset, .unset] []) _
        refine Go.of (fun tg_ kk_ => XS.iload X0.here hx rfl (hb hby at_50) rfl kk_) ?_
        show Go p e below s₁ (mkF m 52 #[.val (.int p0), .val (.int p1), .val (.int p2), .val (.int p3), .val (.int p4), .val (.int (4 : Int32)), .val (.int (1 : Int32)), .val (.int (0 : Int32)), .val .null, .unset, .unset, .unset, .unset] [(.int (0 : Int32))]) _
        refine Go.of (fun tg_ kk_ => XS.ifYes X0.here hx rfl (pc0 := 52) (pc' := 59) rfl (hb hby at_52) rfl ((if0 _ _).trans (teq (show (0 : Int32) = (0 : Int32) by decide)).1) (by decide) (by decide) kk_) ?_
        show Go p e below s₁ (mkF m 59 #[.val (.int p0), .val (.int p1), .val (.int p2), .val (.int p3), .val (.int p4), .val (.int (4 : Int32)), .val (.int (1 : Int32)), .val (.int (0 : Int32)), .val .null, .unset, .unset, .unset, .unset] []) _
        refine Go.of (fun tg_ kk_ => XS.iload X0.here hx rfl (hb hby at_59) rfl kk_) ?_
        show Go p e below s₁ (mkF m 61 #[.val (.int p0), .val (.int p1), .val (.int p2), .val (.int p3), .val (.int p4), .val (.int (4 : Int32)), .val (.int (1 : Int32)), .val (.int (0 : Int32)), .val .null, .unset, .unset, .unset, .unset] [(.int (4 : Int32))]) _
        refine Go.of (fun tg_ kk_ => XS.iload X0.here hx rfl (hb hby at_61) rfl kk_) ?_
        show Go p e below s₁ (mkF m 63 #[.val (.int p0), .val (.int p1), .val (.int p2), .val (.int p3), .val (.int p4), .val (.int (4 : Int32)), .val (.int (1 : Int32)), .val (.int (0 : Int32)), .val .null, .unset, .unset, .unset, .unset] [(.int p4), (.int (4 : Int32))]) _
        obtain ⟨_, _, ⟨T276, L276, k276, n276⟩, -, X276, ⟨Lc276, hQ276, l276, y276, z276⟩, st276⟩ := Jvm.LawKit.callS X0 hx (y := (⟨"com/example/planwright/planwright/planner/AmongWeighsPinLaw", "fill", "(II)[Z"⟩ : MethodName)) hown (mvT hZ (hw _ (List.mem_of_getElem? (i := 0) rfl))) (mvT hZ (hw _ (List.mem_of_getElem? (i := 1) rfl))) (mvT hZ (hw _ (List.mem_of_getElem? (i := 2) rfl))) (mvT hZ (hw _ (List.mem_of_getElem? (i := 3) rfl))) (by decide) (backOf (W := 0) (rm1_4 l Z a0 hw [] p4 h0 n0 Z0) hZ (hw _ (List.mem_of_getElem? (i := 3) rfl)) (hw _ (List.mem_of_getElem? (i := 2) rfl)) (by decide) (by decide)) (g := (mkF m 63 #[.val (.int p0), .val (.int p1), .val (.int p2), .val (.int p3), .val (.int p4), .val (.int (4 : Int32)), .val (.int (1 : Int32)), .val (.int (0 : Int32)), .val .null, .unset, .unset, .unset, .unset] [(.int p4), (.int (4 : Int32))])) rfl (by rw [hml]; rfl) (argsL := [(.int (4 : Int32)), (.int p4)]) (rest := []) (lenOf pd_1 rfl) rfl (by show 2 * 0 + _ ≤ _; exact Nat.le_of_eq rfl) (hb hby at_63) (fun _ _ => ⟨rfl, e0, (by decide : 0 + 1 ≤ _), (by decide : 0 + 4 ≤ _)⟩)
        dsimp only [Pt.U, Pt.locs, Pt.cells, Pt.slots] at X276 l276 y276 z276 st276 hQ276
        subst l276 y276 z276
        obtain ⟨bb276, rfl, N276q, K276q, sz276, gx276, V276⟩ := hQ276
        have N276 := Fr.app N0 N276q
        have sy276 : h0.size ≤ bb276 := Nat.le_trans K0.1 sz276
        have K277 := K0.trans K276q all0
        have Zs278 : n0 ≤ T276.heap.size := Nat.le_trans Z0 K276q.1
        refine Go.of (st276) ?_
        show Go p e below T276 (mkF m 66 #[.val (.int p0), .val (.int p1), .val (.int p2), .val (.int p3), .val (.int p4), .val (.int (4 : Int32)), .val (.int (1 : Int32)), .val (.int (0 : Int32)), .val .null, .unset, .unset, .unset, .unset] [(.ref bb276)]) _
        refine Go.of (fun tg_ kk_ => XS.astore X276.here hx rfl (hb hby at_66) rfl rfl (l' := #[.val (.int p0), .val (.int p1), .val (.int p2), .val (.int p3), .val (.int p4), .val (.int (4 : Int32)), .val (.int (1 : Int32)), .val (.int (0 : Int32)), .val .null, .val (.ref bb276), .unset, .unset, .unset]) rfl kk_) ?_
        show Go p e below T276 (mkF m 68 #[.val (.int p0), .val (.int p1), .val (.int p2), .val (.int p3), .val (.int p4), .val (.int (4 : Int32)), .val (.int (1 : Int32)), .val (.int (0 : Int32)), .val .null, .val (.ref bb276), .unset, .unset, .unset] []) _
        obtain ⟨T279, h279, X279, e279, E279, A279, D279, -, st279⟩ := newO X276 hx hZ hown (hw _ (List.mem_of_getElem? (i := 5) rfl)) (hw _ (List.mem_of_getElem? (i := 6) rfl)) (hw _ (List.mem_of_getElem? (i := 7) rfl)) rfl (g := (mkF m 68 #[.val (.int p0), .val (.int p1), .val (.int p2), .val (.int p3), .val (.int p4), .val (.int (4 : Int32)), .val (.int (1 : Int32)), .val (.int (0 : Int32)), .val .null, .val (.ref bb276), .unset, .unset, .unset] [])) rfl (hb hby at_68) (by decide) (by decide)
        obtain ⟨b279, g279⟩ : ∃ z, z = T276.heap.size := ⟨_, rfl⟩
        rw [← g279] at A279 D279 st279
        have gx279 : n0 ≤ b279 := Nat.le_trans Zs278 (Nat.le_of_eq g279.symm)
        have sz279 : h0.size ≤ b279 := Nat.le_trans K277.1 (Nat.le_of_eq g279.symm)
        have ne280 : bb276 ≠ b279 := Nat.ne_of_lt (Nat.lt_of_lt_of_le V276.lt (Nat.le_of_eq g279.symm))
        have F281 := V276.ext E279
        have K282 := K277.ext E279
        have Zs283 : n0 ≤ h279.size := Nat.le_trans Zs278 E279.1
        have F284 : Fld Z h279 b279 "com/example/planwright/planwright/planner/SharedAtoms$Among" "weighed" "[Z" .null := D279 (Or.inr (hw _ (List.mem_of_getElem? (i := 20) rfl))) (ty := (.array .boolean)) (by decide)
        have F285 : Fld Z h279 b279 "com/example/planwright/planwright/planner/SharedAtoms$Among" "elsewhere" "[Z" .null := D279 (Or.inr (hw _ (List.mem_of_getElem? (i := 22) rfl))) (ty := (.array .boolean)) (by decide)
        refine Go.of (st279) ?_
        show Go p e below T279 (mkF m 71 #[.val (.int p0), .val (.int p1), .val (.int p2), .val (.int p3), .val (.int p4), .val (.int (4 : Int32)), .val (.int (1 : Int32)), .val (.int (0 : Int32)), .val .null, .val (.ref bb276), .unset, .unset, .unset] [(.ref b279)]) _
        refine Go.of (fun tg_ kk_ => XS.dup X279.here hx rfl (hb hby at_71) rfl rfl kk_) ?_
        show Go p e below T279 (mkF m 72 #[.val (.int p0), .val (.int p1), .val (.int p2), .val (.int p3), .val (.int p4), .val (.int (4 : Int32)), .val (.int (1 : Int32)), .val (.int (0 : Int32)), .val .null, .val (.ref bb276), .unset, .unset, .unset] [(.ref b279), (.ref b279)]) _
        refine Go.of (fun tg_ kk_ => XS.aload X279.here hx rfl (hb hby at_72) rfl rfl kk_) ?_
        show Go p e below T279 (mkF m 74 #[.val (.int p0), .val (.int p1), .val (.int p2), .val (.int p3), .val (.int p4), .val (.int (4 : Int32)), .val (.int (1 : Int32)), .val (.int (0 : Int32)), .val .null, .val (.ref bb276), .unset, .unset, .unset] [.null, (.ref b279), (.ref b279)]) _
        refine Go.of (fun tg_ kk_ => XS.aload X279.here hx rfl (hb hby at_74) rfl rfl kk_) ?_
        show Go p e below T279 (mkF m 76 #[.val (.int p0), .val (.int p1), .val (.int p2), .val (.int p3), .val (.int p4), .val (.int (4 : Int32)), .val (.int (1 : Int32)), .val (.int (0 : Int32)), .val .null, .val (.ref bb276), .unset, .unset, .unset] [(.ref bb276), .null, (.ref b279), (.ref b279)]) _
        obtain ⟨_, _, ⟨T286, L286, k286, n286⟩, -, X286, ⟨Lc286, hQ286, l286, y286, z286⟩, st286⟩ := X279.specialBack hx (y := (⟨"com/example/planwright/planwright/planner/SharedAtoms$Among", "<init>", "([Z[Z)V"⟩ : MethodName)) rfl hown (mvT hZ (hw _ (List.mem_of_getElem? (i := 8) rfl))) (mvT hZ (hw _ (List.mem_of_getElem? (i := 9) rfl))) (mvT hZ (hw _ (List.mem_of_getElem? (i := 10) rfl))) (by decide) (backOf (W := 1) (rm2_10 l Z a0 hw [] b279 bb276 h279 n0 Zs283 gx279 A279 F284 F285) hZ (hw _ (List.mem_of_getElem? (i := 10) rfl)) (hw _ (List.mem_of_getElem? (i := 7) rfl)) (by decide) (by decide)) (g := (mkF m 76 #[.val (.int p0), .val (.int p1), .val (.int p2), .val (.int p3), .val (.int p4), .val (.int (4 : Int32)), .val (.int (1 : Int32)), .val (.int (0 : Int32)), .val .null, .val (.ref bb276), .unset, .unset, .unset] [(.ref bb276), .null, (.ref b279), (.ref b279)])) rfl (by rw [hml]; rfl) (Steps.refl _) (a := b279) (argsL := [.null, (.ref bb276)]) (rest := [(.ref b279)]) (lenOf pd_2 rfl) rfl (by show 2 * 0 + _ ≤ _; exact Nat.le_of_eq rfl) (hb hby at_76) (fun _ _ => ⟨rfl, e279, (by decide : 2 + 0 ≤ _), (by decide : 6 + 0 ≤ _)⟩)
        dsimp only [Pt.U, Pt.locs, Pt.cells, Pt.slots] at X286 l286 y286 z286 st286 hQ286
        subst l286 y286 z286
        obtain ⟨rfl, N286q, K286q, F286a⟩ := hQ286
        have N286 := Fr.app N276 N286q
        have F287 := F281.keep K286q (ninS ne280 nin0)
        have F288 := A279.keep K286q
        have K291 := K282.trans K286q (allS (Or.inr sz279) all0)
        have Zs292 : n0 ≤ T286.heap.size := Nat.le_trans Zs283 K286q.1
        refine Go.of (fun tg_ kk_ => st286.trans kk_) ?_
        show Go p e below T286 (mkF m 79 #[.val (.int p0), .val (.int p1), .val (.int p2), .val (.int p3), .val (.int p4), .val (.int (4 : Int32)), .val (.int (1 : Int32)), .val (.int (0 : Int32)), .val .null, .val (.ref bb276), .unset, .unset, .unset] [(.ref b279)]) _
        refine Go.of (fun tg_ kk_ => XS.astore X286.here hx rfl (hb hby at_79) rfl rfl (l' := #[.val (.int p0), .val (.int p1), .val (.int p2), .val (.int p3), .val (.int p4), .val (.int (4 : Int32)), .val (.int (1 : Int32)), .val (.int (0 : Int32)), .val .null, .val (.ref bb276), .val (.ref b279), .unset, .unset]) rfl kk_) ?_
        show Go p e below T286 (mkF m 81 #[.val (.int p0), .val (.int p1), .val (.int p2), .val (.int p3), .val (.int p4), .val (.int (4 : Int32)), .val (.int (1 : Int32)), .val (.int (0 : Int32)), .val .null, .val (.ref bb276), .val (.ref b279), .unset, .unset] []) _
        refine Go.of (fun tg_ kk_ => XS.iload X286.here hx rfl (hb hby at_81) rfl kk_) ?_
        show Go p e below T286 (mkF m 83 #[.val (.int p0), .val (.int p1), .val (.int p2), .val (.int p3), .val (.int p4), .val (.int (4 : Int32)), .val (.int (1 : Int32)), .val (.int (0 : Int32)), .val .null, .val (.ref bb276), .val (.ref b279), .unset, .unset] [(.int (1 : Int32))]) _
        refine Go.of (fun tg_ kk_ => XS.ifNo X286.here hx rfl (hb hby at_83) rfl ((if0 _ _).trans (feq (show ¬ ((1 : Int32) = (0 : Int32)) by decide)).1) kk_) ?_
        show Go p e below T286 (mkF m 86 #[.val (.int p0), .val (.int p1), .val (.int p2), .val (.int p3), .val (.int p4), .val (.int (4 : Int32)), .val (.int (1 : Int32)), .val (.int (0 : Int32)), .val .null, .val (.ref bb276), .val (.ref b279), .unset, .unset] []) _
        refine Go.of (fun tg_ kk_ => XS.aload X286.here hx rfl (hb hby at_86) rfl rfl kk_) ?_
        show Go p e below T286 (mkF m 88 #[.val (.int p0), .val (.int p1), .val (.int p2), .val (.int p3), .val (.int p4), .val (.int (4 : Int32)), .val (.int (1 : Int32)), .val (.int (0 : Int32)), .val .null, .val (.ref bb276), .val (.ref b279), .unset, .unset] [(.ref b279)]) _
        refine Go.of (fun tg_ kk_ => XS.iloadN X286.here hx rfl (hb hby at_88) rfl kk_) ?_
        show Go p e below T286 (mkF m 89 #[.val (.int p0), .val (.int p1), .val (.int p2), .val (.int p3), .val (.int p4), .val (.int (4 : Int32)), .val (.int (1 : Int32)), .val (.int (0 : Int32)), .val .null, .val (.ref bb276), .val (.ref b279), .unset, .unset] [(.int p2), (.ref b279)]) _
        obtain ⟨cq293, kq293, q293a, q293b, q293c⟩ := isOf hZ rfl F288
        obtain ⟨_, _, ⟨T293, L293, k293, n293⟩, -, X293, ⟨Lc293, hQ293, l293, y293, z293⟩, st293⟩ := X286.virtualBack hx (y := (⟨"com/example/planwright/planwright/planner/SharedAtoms$Among", "weighs", "(I)Z"⟩ : MethodName)) (z := (⟨"com/example/planwright/planwright/planner/SharedAtoms$Among", "weighs", "(I)Z"⟩ : MethodName)) hown (mvT hZ (hw _ (List.mem_of_getElem? (i := 23) rfl))) (mvT hZ (hw _ (List.mem_of_getElem? (i := 24) rfl))) (notFace_of_selects (args := #[]) (mvT hZ (hw _ (List.mem_of_getElem? (i := 26) rfl)))) (mvT hZ (hw _ (List.mem_of_getElem? (i := 26) rfl))) (mvT hZ (hw _ (List.mem_of_getElem? (i := 25) rfl))) (by decide) (backOf (W := 0) (rm5n l Z a0 hw [] b279 p2 T286.heap n0 Zs292 F286a) hZ (hw _ (List.mem_of_getElem? (i := 27) rfl)) (hw _ (List.mem_of_getElem? (i := 7) rfl)) (by decide) (by decide)) q293a q293c (g := (mkF m 89 #[.val (.int p0), .val (.int p1), .val (.int p2), .val (.int p3), .val (.int p4), .val (.int (4 : Int32)), .val (.int (1 : Int32)), .val (.int (0 : Int32)), .val .null, .val (.ref bb276), .val (.ref b279), .unset, .unset] [(.int p2), (.ref b279)])) rfl (by rw [hml]; rfl) (Steps.refl _) (argsL := [(.int p2)]) (rest := []) (lenOf pd_3 rfl) rfl (by show 2 * 0 + _ ≤ _; exact Nat.le_of_eq rfl) (hb hby at_89) (fun _ _ => ⟨rfl, rfl, (by decide : 2 + 0 ≤ _), (by decide : 6 + 0 ≤ _)⟩)
        dsimp only [Pt.U, Pt.locs, Pt.cells, Pt.slots] at X293 l293 y293 z293 st293 hQ293
        subst l293 y293 z293
        obtain ⟨rfl, N293q, e293⟩ := hQ293
        have N293 := Fr.app N286 N293q
        refine Go.of (fun tg_ kk_ => st293.trans kk_) ?_
        show Go p e below T293 (mkF m 92 #[.val (.int p0), .val (.int p1), .val (.int p2), .val (.int p3), .val (.int p4), .val (.int (4 : Int32)), .val (.int (1 : Int32)), .val (.int (0 : Int32)), .val .null, .val (.ref bb276), .val (.ref b279), .unset, .unset] [(.int (1 : Int32))]) _
        obtain ⟨fs, hr, hrun, hended, hW, hsame⟩ := X293.leave (v := some (.int (1 : Int32))) (fun h => by rw [Bd.returns] at h; cases h)
        refine ⟨_, _, ?_, hrun, hended, _, _, rfl, ?_, ⟨_, rfl⟩, hW, hsame.mono (by decide) (by decide)⟩
        · exact retN X293 hx (t := .boolean) Bd.returns (by simp) (hb hby at_92) hr
        · show Q0 Z p0 p1 p2 p3 p4 h0 n0 _ T293.heap _
          rw [e293]
          exact ⟨rfl, N293⟩
      · skip
        refine Go.of (fun tg_ kk_ => XS.ifNo X0.here hx rfl (hb hby at_23) rfl ((if0 _ _).trans (feq he0).1) kk_) ?_
        show Go p e below s₁ (mkF m 26 #[.val (.int p0), .val (.int p1), .val (.int p2), .val (.int p3), .val (.int p4), .val (.int (4 : Int32)), .val (.int (1 : Int32)), .unset, .unset, .unset, .unset, .unset, .unset] []) _
        refine Go.of (fun tg_ kk_ => XS.iconst X0.here hx rfl (hb hby at_26) kk_) ?_
        show Go p e below s₁ (mkF m 27 #[.val (.int p0), .val (.int p1), .val (.int p2), .val (.int p3), .val (.int p4), .val (.int (4 : Int32)), .val (.int (1 : Int32)), .unset, .unset, .unset, .unset, .unset, .unset] [(.int (1 : Int32))]) _
        refine Go.of (fun tg_ kk_ => XS.goto X0.here hx rfl (pc0 := 27) (pc' := 31) rfl (hb hby at_27) (by decide) (by decide) kk_) ?_
        show Go p e below s₁ (mkF m 31 #[.val (.int p0), .val (.int p1), .val (.int p2), .val (.int p3), .val (.int p4), .val (.int (4 : Int32)), .val (.int (1 : Int32)), .unset, .unset, .unset, .unset, .unset, .unset] [(.int (1 : Int32))]) _
        refine Go.of (fun tg_ kk_ => XS.istore X0.here hx rfl (hb hby at_31) rfl (l' := #[.val (.int p0), .val (.int p1), .val (.int p2), .val (.int p3), .val (.int p4), .val (.int (4 : Int32)), .val (.int (1 : Int32)), .val (.int (1 : Int32)), .unset, .unset, .unset, .unset, .unset]) rfl kk_) ?_
        show Go p e below s₁ (mkF m 33 #[.val (.int p0), .val (.int p1), .val (.int p2), .val (.int p3), .val (.int p4), .val (.int (4 : Int32)), .val (.int (1 : Int32)), .val (.int (1 : Int32)), .unset, .unset, .unset, .unset, .unset] []) _
        refine Go.of (fun tg_ kk_ => XS.iload X0.here hx rfl (hb hby at_33) rfl kk_) ?_
        show Go p e below s₁ (mkF m 35 #[.val (.int p0), .val (.int p1), .val (.int p2), .val (.int p3), .val (.int p4), .val (.int (4 : Int32)), .val (.int (1 : Int32)), .val (.int (1 : Int32)), .unset, .unset, .unset, .unset, .unset] [(.int (1 : Int32))]) _
        refine Go.of (fun tg_ kk_ => XS.ifNo X0.here hx rfl (hb hby at_35) rfl ((if0 _ _).trans (feq (show ¬ ((1 : Int32) = (0 : Int32)) by decide)).1) kk_) ?_
        show Go p e below s₁ (mkF m 38 #[.val (.int p0), .val (.int p1), .val (.int p2), .val (.int p3), .val (.int p4), .val (.int (4 : Int32)), .val (.int (1 : Int32)), .val (.int (1 : Int32)), .unset, .unset, .unset, .unset, .unset] []) _
        refine Go.of (fun tg_ kk_ => XS.aconstNull X0.here hx rfl (hb hby at_38) kk_) ?_
        show Go p e below s₁ (mkF m 39 #[.val (.int p0), .val (.int p1), .val (.int p2), .val (.int p3), .val (.int p4), .val (.int (4 : Int32)), .val (.int (1 : Int32)), .val (.int (1 : Int32)), .unset, .unset, .unset, .unset, .unset] [.null]) _
        refine Go.of (fun tg_ kk_ => XS.goto X0.here hx rfl (pc0 := 39) (pc' := 48) rfl (hb hby at_39) (by decide) (by decide) kk_) ?_
        show Go p e below s₁ (mkF m 48 #[.val (.int p0), .val (.int p1), .val (.int p2), .val (.int p3), .val (.int p4), .val (.int (4 : Int32)), .val (.int (1 : Int32)), .val (.int (1 : Int32)), .unset, .unset, .unset, .unset, .unset] [.null]) _
        refine Go.of (fun tg_ kk_ => XS.astore X0.here hx rfl (hb hby at_48) rfl rfl (l' := #[.val (.int p0), .val (.int p1), .val (.int p2), .val (.int p3), .val (.int p4), .val (.int (4 : Int32)), .val (.int (1 : Int32)), .val (.int (1 : Int32)), .val .null, .unset, .unset, .unset, .unset]) rfl kk_) ?_
        show Go p e below s₁ (mkF m 50 #[.val (.int p0), .val (.int p1), .val (.int p2), .val (.int p3), .val (.int p4), .val (.int (4 : Int32)), .val (.int (1 : Int32)), .val (.int (1 : Int32)), .val .null, .unset, .unset, .unset, .unset] []) _
        refine Go.of (fun tg_ kk_ => XS.iload X0.here hx rfl (hb hby at_50) rfl kk_) ?_
        show Go p e below s₁ (mkF m 52 #[.val (.int p0), .val (.int p1), .val (.int p2), .val (.int p3), .val (.int p4), .val (.int (4 : Int32)), .val (.int (1 : Int32)), .val (.int (1 : Int32)), .val .null, .unset, .unset, .unset, .unset] [(.int (1 : Int32))]) _
        refine Go.of (fun tg_ kk_ => XS.ifNo X0.here hx rfl (hb hby at_52) rfl ((if0 _ _).trans (feq (show ¬ ((1 : Int32) = (0 : Int32)) by decide)).1) kk_) ?_
        show Go p e below s₁ (mkF m 55 #[.val (.int p0), .val (.int p1), .val (.int p2), .val (.int p3), .val (.int p4), .val (.int (4 : Int32)), .val (.int (1 : Int32)), .val (.int (1 : Int32)), .val .null, .unset, .unset, .unset, .unset] []) _
        refine Go.of (fun tg_ kk_ => XS.aconstNull X0.here hx rfl (hb hby at_55) kk_) ?_
        show Go p e below s₁ (mkF m 56 #[.val (.int p0), .val (.int p1), .val (.int p2), .val (.int p3), .val (.int p4), .val (.int (4 : Int32)), .val (.int (1 : Int32)), .val (.int (1 : Int32)), .val .null, .unset, .unset, .unset, .unset] [.null]) _
        refine Go.of (fun tg_ kk_ => XS.goto X0.here hx rfl (pc0 := 56) (pc' := 66) rfl (hb hby at_56) (by decide) (by decide) kk_) ?_
        show Go p e below s₁ (mkF m 66 #[.val (.int p0), .val (.int p1), .val (.int p2), .val (.int p3), .val (.int p4), .val (.int (4 : Int32)), .val (.int (1 : Int32)), .val (.int (1 : Int32)), .val .null, .unset, .unset, .unset, .unset] [.null]) _
        refine Go.of (fun tg_ kk_ => XS.astore X0.here hx rfl (hb hby at_66) rfl rfl (l' := #[.val (.int p0), .val (.int p1), .val (.int p2), .val (.int p3), .val (.int p4), .val (.int (4 : Int32)), .val (.int (1 : Int32)), .val (.int (1 : Int32)), .val .null, .val .null, .unset, .unset, .unset]) rfl kk_) ?_
        show Go p e below s₁ (mkF m 68 #[.val (.int p0), .val (.int p1), .val (.int p2), .val (.int p3), .val (.int p4), .val (.int (4 : Int32)), .val (.int (1 : Int32)), .val (.int (1 : Int32)), .val .null, .val .null, .unset, .unset, .unset] []) _
        obtain ⟨T294, h294, X294, e294, E294, A294, D294, -, st294⟩ := newO X0 hx hZ hown (hw _ (List.mem_of_getElem? (i := 5) rfl)) (hw _ (List.mem_of_getElem? (i := 6) rfl)) (hw _ (List.mem_of_getElem? (i := 7) rfl)) e0 (g := (mkF m 68 #[.val (.int p0), .val (.int p1), .val (.int p2), .val (.int p3), .val (.int p4), .val (.int (4 : Int32)), .val (.int (1 : Int32)), .val (.int (1 : Int32)), .val .null, .val .null, .unset, .unset, .unset] [])) rfl (hb hby at_68) (by decide) (by decide)
        obtain ⟨b294, g294⟩ : ∃ z, z = h0.size := ⟨_, rfl⟩
        rw [← g294] at A294 D294 st294
        have gx294 : n0 ≤ b294 := Nat.le_trans Z0 (Nat.le_of_eq g294.symm)
        have sz294 : h0.size ≤ b294 := Nat.le_trans K0.1 (Nat.le_of_eq g294.symm)
        have K295 := K0.ext E294
        have Zs296 : n0 ≤ h294.size := Nat.le_trans Z0 E294.1
        have F297 : Fld Z h294 b294 "com/example/planwright/planwright/planner/SharedAtoms$Among" "weighed" "[Z" .null := D294 (Or.inr (hw _ (List.mem_of_getElem? (i := 20) rfl))) (ty := (.array .boolean)) (by decide)
        have F298 : Fld Z h294 b294 "com/example/planwright/planwright/planner/SharedAtoms$Among" "elsewhere" "[Z" .null := D294 (Or.inr (hw _ (List.mem_of_getElem? (i := 22) rfl))) (ty := (.array .boolean)) (by decide)
        refine Go.of (st294) ?_
        show Go p e below T294 (mkF m 71 #[.val (.int p0), .val (.int p1), .val (.int p2), .val (.int p3), .val (.int p4), .val (.int (4 : Int32)), .val (.int (1 : Int32)), .val (.int (1 : Int32)), .val .null, .val .null, .unset, .unset, .unset] [(.ref b294)]) _
        refine Go.of (fun tg_ kk_ => XS.dup X294.here hx rfl (hb hby at_71) rfl rfl kk_) ?_
        show Go p e below T294 (mkF m 72 #[.val (.int p0), .val (.int p1), .val (.int p2), .val (.int p3), .val (.int p4), .val (.int (4 : Int32)), .val (.int (1 : Int32)), .val (.int (1 : Int32)), .val .null, .val .null, .unset, .unset, .unset] [(.ref b294), (.ref b294)]) _
        refine Go.of (fun tg_ kk_ => XS.aload X294.here hx rfl (hb hby at_72) rfl rfl kk_) ?_
        show Go p e below T294 (mkF m 74 #[.val (.int p0), .val (.int p1), .val (.int p2), .val (.int p3), .val (.int p4), .val (.int (4 : Int32)), .val (.int (1 : Int32)), .val (.int (1 : Int32)), .val .null, .val .null, .unset, .unset, .unset] [.null, (.ref b294), (.ref b294)]) _
        refine Go.of (fun tg_ kk_ => XS.aload X294.here hx rfl (hb hby at_74) rfl rfl kk_) ?_
        show Go p e below T294 (mkF m 76 #[.val (.int p0), .val (.int p1), .val (.int p2), .val (.int p3), .val (.int p4), .val (.int (4 : Int32)), .val (.int (1 : Int32)), .val (.int (1 : Int32)), .val .null, .val .null, .unset, .unset, .unset] [.null, .null, (.ref b294), (.ref b294)]) _
        obtain ⟨_, _, ⟨T299, L299, k299, n299⟩, -, X299, ⟨Lc299, hQ299, l299, y299, z299⟩, st299⟩ := X294.specialBack hx (y := (⟨"com/example/planwright/planwright/planner/SharedAtoms$Among", "<init>", "([Z[Z)V"⟩ : MethodName)) rfl hown (mvT hZ (hw _ (List.mem_of_getElem? (i := 8) rfl))) (mvT hZ (hw _ (List.mem_of_getElem? (i := 9) rfl))) (mvT hZ (hw _ (List.mem_of_getElem? (i := 10) rfl))) (by decide) (backOf (W := 1) (rm2_11 l Z a0 hw [] b294 h294 n0 Zs296 gx294 A294 F297 F298) hZ (hw _ (List.mem_of_getElem? (i := 10) rfl)) (hw _ (List.mem_of_getElem? (i := 7) rfl)) (by decide) (by decide)) (g := (mkF m 76 #[.val (.int p0), .val (.int p1), .val (.int p2), .val (.int p3), .val (.int p4), .val (.int (4 : Int32)), .val (.int (1 : Int32)), .val (.int (1 : Int32)), .val .null, .val .null, .unset, .unset, .unset] [.null, .null, (.ref b294), (.ref b294)])) rfl (by rw [hml]; rfl) (Steps.refl _) (a := b294) (argsL := [.null, .null]) (rest := [(.ref b294)]) (lenOf pd_2 rfl) rfl (by show 2 * 0 + _ ≤ _; exact Nat.le_of_eq rfl) (hb hby at_76) (fun _ _ => ⟨rfl, e294, (by decide : 1 + 0 ≤ _), (by decide : 2 + 0 ≤ _)⟩)
        dsimp only [Pt.U, Pt.locs, Pt.cells, Pt.slots] at X299 l299 y299 z299 st299 hQ299
        subst l299 y299 z299
        obtain ⟨rfl, N299q, K299q, F299a⟩ := hQ299
        have N299 := Fr.app N0 N299q
        have F300 := A294.keep K299q
        have K303 := K295.trans K299q (allS (Or.inr sz294) all0)
        have Zs304 : n0 ≤ T299.heap.size := Nat.le_trans Zs296 K299q.1
        refine Go.of (fun tg_ kk_ => st299.trans kk_) ?_
        show Go p e below T299 (mkF m 79 #[.val (.int p0), .val (.int p1), .val (.int p2), .val (.int p3), .val (.int p4), .val (.int (4 : Int32)), .val (.int (1 : Int32)), .val (.int (1 : Int32)), .val .null, .val .null, .unset, .unset, .unset] [(.ref b294)]) _
        refine Go.of (fun tg_ kk_ => XS.astore X299.here hx rfl (hb hby at_79) rfl rfl (l' := #[.val (.int p0), .val (.int p1), .val (.int p2), .val (.int p3), .val (.int p4), .val (.int (4 : Int32)), .val (.int (1 : Int32)), .val (.int (1 : Int32)), .val .null, .val .null, .val (.ref b294), .unset, .unset]) rfl kk_) ?_
        show Go p e below T299 (mkF m 81 #[.val (.int p0), .val (.int p1), .val (.int p2), .val (.int p3), .val (.int p4), .val (.int (4 : Int32)), .val (.int (1 : Int32)), .val (.int (1 : Int32)), .val .null, .val .null, .val (.ref b294), .unset, .unset] []) _
        refine Go.of (fun tg_ kk_ => XS.iload X299.here hx rfl (hb hby at_81) rfl kk_) ?_
        show Go p e below T299 (mkF m 83 #[.val (.int p0), .val (.int p1), .val (.int p2), .val (.int p3), .val (.int p4), .val (.int (4 : Int32)), .val (.int (1 : Int32)), .val (.int (1 : Int32)), .val .null, .val .null, .val (.ref b294), .unset, .unset] [(.int (1 : Int32))]) _
        refine Go.of (fun tg_ kk_ => XS.ifNo X299.here hx rfl (hb hby at_83) rfl ((if0 _ _).trans (feq (show ¬ ((1 : Int32) = (0 : Int32)) by decide)).1) kk_) ?_
        show Go p e below T299 (mkF m 86 #[.val (.int p0), .val (.int p1), .val (.int p2), .val (.int p3), .val (.int p4), .val (.int (4 : Int32)), .val (.int (1 : Int32)), .val (.int (1 : Int32)), .val .null, .val .null, .val (.ref b294), .unset, .unset] []) _
        refine Go.of (fun tg_ kk_ => XS.aload X299.here hx rfl (hb hby at_86) rfl rfl kk_) ?_
        show Go p e below T299 (mkF m 88 #[.val (.int p0), .val (.int p1), .val (.int p2), .val (.int p3), .val (.int p4), .val (.int (4 : Int32)), .val (.int (1 : Int32)), .val (.int (1 : Int32)), .val .null, .val .null, .val (.ref b294), .unset, .unset] [(.ref b294)]) _
        refine Go.of (fun tg_ kk_ => XS.iloadN X299.here hx rfl (hb hby at_88) rfl kk_) ?_
        show Go p e below T299 (mkF m 89 #[.val (.int p0), .val (.int p1), .val (.int p2), .val (.int p3), .val (.int p4), .val (.int (4 : Int32)), .val (.int (1 : Int32)), .val (.int (1 : Int32)), .val .null, .val .null, .val (.ref b294), .unset, .unset] [(.int p2), (.ref b294)]) _
        obtain ⟨cq305, kq305, q305a, q305b, q305c⟩ := isOf hZ rfl F300
        obtain ⟨_, _, ⟨T305, L305, k305, n305⟩, -, X305, ⟨Lc305, hQ305, l305, y305, z305⟩, st305⟩ := X299.virtualBack hx (y := (⟨"com/example/planwright/planwright/planner/SharedAtoms$Among", "weighs", "(I)Z"⟩ : MethodName)) (z := (⟨"com/example/planwright/planwright/planner/SharedAtoms$Among", "weighs", "(I)Z"⟩ : MethodName)) hown (mvT hZ (hw _ (List.mem_of_getElem? (i := 23) rfl))) (mvT hZ (hw _ (List.mem_of_getElem? (i := 24) rfl))) (notFace_of_selects (args := #[]) (mvT hZ (hw _ (List.mem_of_getElem? (i := 26) rfl)))) (mvT hZ (hw _ (List.mem_of_getElem? (i := 26) rfl))) (mvT hZ (hw _ (List.mem_of_getElem? (i := 25) rfl))) (by decide) (backOf (W := 0) (rm5n l Z a0 hw [] b294 p2 T299.heap n0 Zs304 F299a) hZ (hw _ (List.mem_of_getElem? (i := 27) rfl)) (hw _ (List.mem_of_getElem? (i := 7) rfl)) (by decide) (by decide)) q305a q305c (g := (mkF m 89 #[.val (.int p0), .val (.int p1), .val (.int p2), .val (.int p3), .val (.int p4), .val (.int (4 : Int32)), .val (.int (1 : Int32)), .val (.int (1 : Int32)), .val .null, .val .null, .val (.ref b294), .unset, .unset] [(.int p2), (.ref b294)])) rfl (by rw [hml]; rfl) (Steps.refl _) (argsL := [(.int p2)]) (rest := []) (lenOf pd_3 rfl) rfl (by show 2 * 0 + _ ≤ _; exact Nat.le_of_eq rfl) (hb hby at_89) (fun _ _ => ⟨rfl, rfl, (by decide : 1 + 0 ≤ _), (by decide : 2 + 0 ≤ _)⟩)
        dsimp only [Pt.U, Pt.locs, Pt.cells, Pt.slots] at X305 l305 y305 z305 st305 hQ305
        subst l305 y305 z305
        obtain ⟨rfl, N305q, e305⟩ := hQ305
        have N305 := Fr.app N299 N305q
        refine Go.of (fun tg_ kk_ => st305.trans kk_) ?_
        show Go p e below T305 (mkF m 92 #[.val (.int p0), .val (.int p1), .val (.int p2), .val (.int p3), .val (.int p4), .val (.int (4 : Int32)), .val (.int (1 : Int32)), .val (.int (1 : Int32)), .val .null, .val .null, .val (.ref b294), .unset, .unset] [(.int (1 : Int32))]) _
        obtain ⟨fs, hr, hrun, hended, hW, hsame⟩ := X305.leave (v := some (.int (1 : Int32))) (fun h => by rw [Bd.returns] at h; cases h)
        refine ⟨_, _, ?_, hrun, hended, _, _, rfl, ?_, ⟨_, rfl⟩, hW, hsame.mono (by decide) (by decide)⟩
        · exact retN X305 hx (t := .boolean) Bd.returns (by simp) (hb hby at_92) hr
        · show Q0 Z p0 p1 p2 p3 p4 h0 n0 _ T305.heap _
          rw [e305]
          exact ⟨rfl, N305⟩
set_option maxRecDepth 65536 in
set_option maxHeartbeats 40000000 in
theorem comes_1 {Post : Tables → Env → Array Value → State → Outcome → State → Prop} (hpost : ∀ tb e args s v u, (limb_1_1.after args s (.returned v) u = true ∧ limb_1_2.after args s (.returned v) u = true ∧ True) → FrameEnd s (.returned v) u (Jvm.fieldLocs frame_1_writes args s ++ Jvm.arrayLocs frame_1_arrays args s ++ Jvm.staticLocs frame_1_statics s) 16 128 → Post tb e args s (.returned v) u) :
    ArmFor flags0 classFile x code maxLocals ret World_1 tables_1 room_1 Calls_1 rest_1 Pre_1 Post := by
  intro l hfl _ _ p e ha hc hk s m args below hf hA hF happ hP
  obtain ⟨hcalls, hrest, hpre⟩ := hP
  obtain ⟨-, -, -, hnamed, -, -, -, hat⟩ := (Spec.applies_iff hf).mp happ
  obtain ⟨hg, hn⟩ := and_e (Cond.before_iff.mp (show (Jvm.Cond.and given_1 narrow_1).before args s = true from hpre))
  obtain ⟨gc, gr0⟩ := and_e hg
  obtain ⟨ga0, gr1⟩ := and_e gr0
  obtain ⟨ga1, gr2⟩ := and_e gr1
  obtain ⟨ga2, gr3⟩ := and_e gr2
  obtain ⟨ga3, gr4⟩ := and_e gr3
  obtain ⟨w0, w1, w2, w3, w4, rfl⟩ : ∃ w0 w1 w2 w3 w4 : Value, args = #[w0, w1, w2, w3, w4] := by
    have hs : args.size = 5 := by simpa [Cond.value, given_1] using gc
    obtain ⟨L⟩ := args
    match L, hs with
    | [w0, w1, w2, w3, w4], _ => exact ⟨w0, w1, w2, w3, w4, rfl⟩
  have hw := fun d (hd : d ∈ tables_1) => atoms_spec (ws := Jvm.Cond.code x code maxLocals ret :: tables_1) hat d (List.mem_cons_of_mem _ hd)
  obtain ⟨i0, ei0⟩ := is_v ga0
  obtain rfl : w0 = (.int i0) := Option.some.inj ei0
  obtain ⟨i1, ei1⟩ := is_v ga1
  obtain rfl : w1 = (.int i1) := Option.some.inj ei1
  obtain ⟨i2, ei2⟩ := is_v ga2
  obtain rfl : w2 = (.int i2) := Option.some.inj ei2
  obtain ⟨i3, ei3⟩ := is_v ga3
  obtain rfl : w3 = (.int i3) := Option.some.inj ei3
  obtain ⟨i4, ei4⟩ := is_v gr4
  obtain rfl : w4 = (.int i4) := Option.some.inj ei4
  obtain ⟨n, o, h1, h2, h3, _, L, rfl, ⟨rfl, N⟩, hq⟩ := rm0 l s _ hw tables_1 i0 i1 i2 i3 i4 s.heap s.heap.size (Nat.le_refl _) p e ha hc hk s m _ below hf ((Spec.applies_iff_loose hf).mp happ).1 ⟨rfl, State.Warmed39.refl s, rfl⟩ trivial
  refine ⟨n, _, h1, h2, h3, hpost _ _ _ _ _ _ ⟨Cond.after_iff.mpr rfl, Cond.after_iff.mpr (eq_i res_at (Term.int_eval (1)) rfl), trivial⟩ ⟨hq.1, hq.2.1, (hq.2.2.sift fun y hy => Or.inr (N y hy)).mono (by decide) (by decide)⟩⟩
theorem main_1_1 : Claimed_1_1 := comes_1 fun _ _ _ _ _ _ h hF => ⟨h.1, hF⟩
theorem main_1_2 : Claimed_1_2 := comes_1 fun _ _ _ _ _ _ h hF => ⟨h.2.1, hF⟩
end Jvm.Pilot.@@N@@
namespace Jvm.Pilot.@@N@@
open Jvm Jvm.ClassFile Sem Op Lib Jvm.Free Jvm.Stand Jvm.Pilot.@@N@@.Jvm.D
/-! MADE BY PROGRAM (witnessworld.py) out of the Statement's table words and the real class files: 12 classes; the members and pool entries that the words name. The judged class is class 1, her method 2. -/
namespace start1
open Jvm.ClassFile
def u (s : String) : CpInfo := .utf8 (stringToUtf16 s)
/-- a pool by its gaps: so many unusable entries, then the entry; so many at the end -/
def gap : Nat → List CpInfo → List CpInfo
  | 0, r => r
  | n + 1, r => .unusable :: gap n r
def poolList (es : List (Nat × CpInfo)) (last : Nat) : List CpInfo := es.foldr (fun e r => gap e.1 (e.2 :: r)) (gap last [])
def pool (es : List (Nat × CpInfo)) (last : Nat) : Array CpInfo := ⟨poolList es last⟩
def fileOf (pool : Array CpInfo) (this : Nat) (attrs : Array Attribute := #[]) (ms : Array MethodInfo := #[]) (fl : Nat := 33) (sup : Nat := 0) (ifs : Array Nat := #[]) (fds : Array FieldInfo := #[]) : ClassFile where
  minorVersion := 0
  majorVersion := 65
  constantPool := pool
  accessFlags := fl
  thisClass := this
  superClass := sup
  interfaces := ifs
  fields := fds
  methods := ms
  attributes := attrs
def plain (name : String) (sup : Option ClassId) : Class where
  name := name
  kind := .ordinary
  loader := none
  accessFlags := 33
  super := sup
  interfaces := #[]
  cf := none
  fields := #[]
  methods := #[]
  instanceTypes := #[]
  staticTypes := #[]
  resolved := #[]
  callSites := []
  init := .initialized
  statics := none
  mirror := none

def pool0 : Array CpInfo := pool [(5, u "<init>"), (0, u "()V"), (1, .class_ 10), (1, u "java/lang/Object")] 113

def k0c0 : Code := { maxStack := 0, maxLocals := 1, code := object_method_1_code, exceptionTable := #[], attributes := #[] }
def k0m0 : Method := { name := "<init>", desc := "()V", sig := { parameters := [], returnType := none }, accessFlags := 1, code := some k0c0 }
/-- java/lang/Object -/
def k0 : Class := { plain "java/lang/Object" none with
  accessFlags := 33
  interfaces := #[]
  cf := some (fileOf pool0 8 #[] #[{ accessFlags := 1, nameIndex := 5, descriptorIndex := 6, attributes := #[] }] 33 0 #[] #[])
  fields := #[]
  methods := #[k0m0]
  instanceTypes := #[]
  staticTypes := #[]
  resolved := Array.replicate 124 none
  statics := none }

def pool1 : Array CpInfo := pool [(2, .class_ 4), (1, u "java/lang/Object"), (0, u "<init>"), (0, u "()V"), (0, .methodref 8 9), (0, .class_ 10), (0, .nameAndType 11 12), (0, u "com/example/planwright/planwright/planner/AmongWeighsPinLaw"), (0, u "fill"), (0, u "(II)[Z"), (0, .class_ 14), (0, u "com/example/planwright/planwright/planner/SharedAtoms$Among"), (0, .methodref 13 16), (0, .nameAndType 5 17), (0, u "([Z[Z)V"), (0, .methodref 13 19), (0, .nameAndType 20 21), (0, u "weighs"), (0, u "(I)Z"), (0, .integer 2147483647), (5, u "law"), (0, u "(IIIII)Z")] 6

def k1m0 : Method := { name := "<init>", desc := "()V", sig := { parameters := [], returnType := none }, accessFlags := 1, code := none }
def k1c1 : Code := { maxStack := 4, maxLocals := 3, code := method_2_code, exceptionTable := #[], attributes := #[] }
def k1m1 : Method := { name := "fill", desc := "(II)[Z", sig := { parameters := [.int, .int], returnType := some (.array .boolean) }, accessFlags := 10, code := some k1c1 }
def k1c2 : Code := { maxStack := 4, maxLocals := 13, code := code, exceptionTable := #[], attributes := #[] }
def k1m2 : Method := { name := "law", desc := "(IIIII)Z", sig := { parameters := [.int, .int, .int, .int, .int], returnType := some .boolean }, accessFlags := 9, code := some k1c2 }
/-- com/example/planwright/planwright/planner/AmongWeighsPinLaw -/
def k1 : Class := { plain "com/example/planwright/planwright/planner/AmongWeighsPinLaw" (some 0) with
  accessFlags := 49
  interfaces := #[]
  cf := some (fileOf pool1 8 #[] #[{ accessFlags := 1, nameIndex := 5, descriptorIndex := 6, attributes := #[] }, { accessFlags := 10, nameIndex := 11, descriptorIndex := 12, attributes := #[] }, { accessFlags := 9, nameIndex := 28, descriptorIndex := 29, attributes := #[] }] 49 2 #[] #[])
  fields := #[]
  methods := #[k1m0, k1m1, k1m2]
  instanceTypes := #[]
  staticTypes := #[]
  resolved := Array.replicate 36 none
  statics := none }

def pool2 : Array CpInfo := pool [(1, .methodref 2 3), (0, .class_ 4), (0, .nameAndType 5 6), (0, u "java/lang/Object"), (0, u "<init>"), (0, u "()V"), (0, .class_ 8), (0, u "java/lang/Record")] 13

def k2c0 : Code := { maxStack := 1, maxLocals := 1, code := jdk_30_method_1_code, exceptionTable := #[], attributes := #[] }
def k2m0 : Method := { name := "<init>", desc := "()V", sig := { parameters := [], returnType := none }, accessFlags := 4, code := some k2c0 }
/-- java/lang/Record -/
def k2 : Class := { plain "java/lang/Record" (some 0) with
  accessFlags := 1057
  interfaces := #[]
  cf := some (fileOf pool2 7 #[] #[{ accessFlags := 4, nameIndex := 5, descriptorIndex := 6, attributes := #[] }] 1057 2 #[] #[])
  fields := #[]
  methods := #[k2m0]
  instanceTypes := #[]
  staticTypes := #[]
  resolved := Array.replicate 22 none
  statics := none }

def pool3 : Array CpInfo := pool [(1, .methodref 2 3), (0, .class_ 4), (0, .nameAndType 5 6), (0, u "java/lang/Record"), (0, u "<init>"), (0, u "()V"), (0, .fieldref 8 9), (0, .class_ 10), (0, .nameAndType 11 12), (0, u "com/example/planwright/planwright/planner/SharedAtoms$Among"), (0, u "weighed"), (0, u "[Z"), (0, .fieldref 8 14), (0, .nameAndType 15 12), (0, u "elsewhere"), (14, u "([Z[Z)V"), (2, u "ALL"), (0, u "Lcom/example/planwright/planwright/planner/SharedAtoms$Among;"), (3, u "weighs"), (0, u "(I)Z"), (10, .class_ 51), (0, u "com/example/planwright/planwright/planner/SharedAtoms")] 20

def k3c0 : Code := { maxStack := 2, maxLocals := 3, code := prog_162_method_1_code, exceptionTable := #[], attributes := #[] }
def k3m0 : Method := { name := "<init>", desc := "([Z[Z)V", sig := { parameters := [(.array .boolean), (.array .boolean)], returnType := none }, accessFlags := 0, code := some k3c0 }
def k3c1 : Code := { maxStack := 2, maxLocals := 2, code := prog_162_method_2_code, exceptionTable := #[], attributes := #[] }
def k3m1 : Method := { name := "weighs", desc := "(I)Z", sig := { parameters := [.int], returnType := some .boolean }, accessFlags := 0, code := some k3c1 }
/-- com/example/planwright/planwright/planner/SharedAtoms$Among -/
def k3 : Class := { plain "com/example/planwright/planwright/planner/SharedAtoms$Among" (some 2) with
  accessFlags := 48
  interfaces := #[]
  cf := some (fileOf pool3 8 #[.nestHost 50] #[{ accessFlags := 0, nameIndex := 5, descriptorIndex := 30, attributes := #[] }, { accessFlags := 0, nameIndex := 38, descriptorIndex := 39, attributes := #[] }] 48 2 #[] #[{ accessFlags := 18, nameIndex := 11, descriptorIndex := 12, attributes := #[] }, { accessFlags := 18, nameIndex := 15, descriptorIndex := 12, attributes := #[] }, { accessFlags := 24, nameIndex := 33, descriptorIndex := 34, attributes := #[] }])
  fields := #[{ name := "weighed", type := (.array .boolean), accessFlags := 18, slot := 0, constantValue := 0 }, { name := "elsewhere", type := (.array .boolean), accessFlags := 18, slot := 1, constantValue := 0 }, { name := "ALL", type := (.object "com/example/planwright/planwright/planner/SharedAtoms$Among"), accessFlags := 24, slot := 0, constantValue := 0 }]
  methods := #[k3m0, k3m1]
  instanceTypes := #[(.array .boolean), (.array .boolean)]
  staticTypes := #[(.object "com/example/planwright/planwright/planner/SharedAtoms$Among")]
  resolved := Array.replicate 72 none
  statics := none }

def pool4 : Array CpInfo := pool [(1, u "java/lang/Cloneable"), (0, .class_ 1), (0, u "java/lang/Object"), (0, .class_ 3)] 3

/-- java/lang/Cloneable -/
def k4 : Class := { plain "java/lang/Cloneable" (some 0) with
  accessFlags := 1537
  interfaces := #[]
  cf := some (fileOf pool4 2 #[] #[] 1537 4 #[] #[])
  fields := #[]
  methods := #[]
  instanceTypes := #[]
  staticTypes := #[]
  resolved := Array.replicate 8 none
  statics := none }

def pool5 : Array CpInfo := pool [(1, u "java/io/Serializable"), (0, .class_ 1), (0, u "java/lang/Object"), (0, .class_ 3)] 3

/-- java/io/Serializable -/
def k5 : Class := { plain "java/io/Serializable" (some 0) with
  accessFlags := 1537
  interfaces := #[]
  cf := some (fileOf pool5 2 #[] #[] 1537 4 #[] #[])
  fields := #[]
  methods := #[]
  instanceTypes := #[]
  staticTypes := #[]
  resolved := Array.replicate 8 none
  statics := none }

/-- the primitive boolean -/
def k6 : Class := { plain "boolean" none with kind := .primitive 'Z', accessFlags := 0x411 }
/-- [Z -/
def k7 : Class := { plain "[Z" (some 0) with kind := .array 6 .boolean, interfaces := #[4, 5], accessFlags := 1041 }

/-- the primitive byte -/
def k8 : Class := { plain "byte" none with kind := .primitive 'B', accessFlags := 0x411 }
/-- [B -/
def k9 : Class := { plain "[B" (some 0) with kind := .array 8 .byte, interfaces := #[4, 5], accessFlags := 1041 }

/-- the primitive int -/
def k10 : Class := { plain "int" none with kind := .primitive 'I', accessFlags := 0x411 }
/-- [I -/
def k11 : Class := { plain "[I" (some 0) with kind := .array 10 .int, interfaces := #[4, 5], accessFlags := 1041 }

def heap : Heap := #[]
def classes : Array Class := #[k0, k1, k2, k3, k4, k5, k6, k7, k8, k9, k10, k11]
def interned : List (Array UInt16 × Addr) := []
def slotsUsed : Nat := 0
def theMethod : MethodId := ⟨1, 2⟩
def args0 : Array Value := #[.int 5, .int 2, .int 1, .int 0, .int 6]
def aboutOver (below : List Frame) : State where
  vm := { classes := classes, interned := interned.toArray }
  heap := heap
  slotsUsed := slotsUsed
  threads := #[{ frames := .invoking theMethod args0 :: below }]
def below0 : List Frame := [.native { method := ⟨0, 0⟩, args := #[] }]
def about1 : State := aboutOver below0
def p0 : Program := .bare "" "" ""
def e0 : Env := launch0.env 0 0 0
theorem w_frames : about1.frames = Frame.invoking theMethod args0 :: below0 := rfl
set_option maxRecDepth 65536 in
theorem w_args : argsFit about1.vm theMethod args0 = true := by decide +kernel
set_option maxRecDepth 65536 in
theorem w_heap : heapFits about1 = true := by decide +kernel
set_option maxRecDepth 65536 in
theorem w_runnable : about1.curStatus? = some .runnable := by decide +kernel
set_option maxRecDepth 65536 in
theorem w_alone : about1.alone = true := by decide +kernel
set_option maxRecDepth 65536 in
theorem w_named : about1.methodNamed? x = some theMethod := by decide +kernel
set_option maxRecDepth 65536 in
theorem w_hears : about1.hears theMethod below0 = true := by decide +kernel
set_option maxRecDepth 65536 in
theorem w_ripe : about1.ripe theMethod args0 below0 = true := by decide +kernel
theorem w_running : about1.status = .running := rfl
set_option maxRecDepth 65536 in
theorem w_room : about1.hasRoom e0.platform room_1 = true :=
  launch0.hasRoom_least _ room_1 (by decide +kernel) (by decide +kernel) (by decide +kernel) (by decide +kernel) (by decide +kernel) (by decide +kernel)
theorem allAtoms_all (ts : List Jvm.Cond) (a : Array Jvm.Value) (st : Jvm.State) : (allAtoms ts).before a st = ts.all (fun c => c.before a st) := by
  induction ts with
  | nil => rfl
  | cons c t ih =>
    show (Jvm.Cond.and c (allAtoms t)).before a st = _
    rw [Jvm.Cond.before_and, ih, List.all_cons]
def words1 : List Jvm.Cond := Jvm.Cond.code x code maxLocals ret :: tables_1
/-- a 'code' word, met by the world's own term for the bytes: nothing is compared byte by byte -/
theorem code_word {y : MethodName} {bytes : ByteArray} {mx : Nat} {rt : Option FieldType} {a : Array Value} {s : State} {m : MethodId} {meth : Method} {c : Code} (h1 : s.methodNamed? y = some m) (h2 : s.vm.method? m = some meth) (h3 : meth.code = some c) (h4 : c.code = bytes)
    (h5 : (c.maxLocals == mx && c.exceptionTable.isEmpty && decide (c.maxStack ≤ mostOperands) && decide (meth.sig.returnType = rt) && !meth.locks && decide (parseMethodDescriptor y.desc = some meth.sig)) = true) : (Jvm.Cond.code y bytes mx rt).before a s = true := by
  simp only [Bool.and_eq_true, beq_iff_eq, Bool.not_eq_true', decide_eq_true_eq] at h5
  obtain ⟨⟨⟨⟨⟨g1, g2⟩, g3⟩, g4⟩, g5⟩, g6⟩ := h5
  simp [Cond.before, Cond.holds, Cond.value, h1, h2, h3, h4, g1, g2, g3, g4, g5, g6]
def isCode : Jvm.Cond → Bool
  | .code _ _ _ _ => true
  | _ => false
theorem all_split {L : List Jvm.Cond} {P : Jvm.Cond → Bool} (h1 : L.all (fun c => isCode c || P c) = true) (h2 : ∀ c ∈ L.filter isCode, P c = true) : L.all P = true := by
  refine List.all_eq_true.mpr fun c hc => ?_
  have h := List.all_eq_true.mp h1 c hc
  rcases Bool.eq_false_or_eq_true (isCode c) with hi | hi
  · exact h2 c (List.mem_filter.mpr ⟨hc, hi⟩)
  · simpa [hi] using h
set_option maxRecDepth 65536 in
theorem w_c0 : (Jvm.Cond.code x code maxLocals ret).before args0 about1 = true := code_word (m := ⟨1, 2⟩) (meth := k1m2) (c := k1c2) (by decide +kernel) rfl rfl rfl (by decide +kernel)
set_option maxRecDepth 65536 in
theorem w_c1 : (Jvm.Cond.code ({ cls := "com/example/planwright/planwright/planner/AmongWeighsPinLaw", name := "fill", desc := "(II)[Z" } : Jvm.MethodName) method_2_code (3 : Nat) (Option.some (Jvm.ClassFile.FieldType.array Jvm.ClassFile.FieldType.boolean))).before args0 about1 = true := code_word (m := ⟨1, 1⟩) (meth := k1m1) (c := k1c1) (by decide +kernel) rfl rfl rfl (by decide +kernel)
set_option maxRecDepth 65536 in
theorem w_c2 : (Jvm.Cond.code ({ cls := "com/example/planwright/planwright/planner/SharedAtoms$Among", name := "<init>", desc := "([Z[Z)V" } : Jvm.MethodName) prog_162_method_1_code (3 : Nat) (Option.none : Option Jvm.ClassFile.FieldType)).before args0 about1 = true := code_word (m := ⟨3, 0⟩) (meth := k3m0) (c := k3c0) (by decide +kernel) rfl rfl rfl (by decide +kernel)
set_option maxRecDepth 65536 in
theorem w_c3 : (Jvm.Cond.code ({ cls := "java/lang/Record", name := "<init>", desc := "()V" } : Jvm.MethodName) jdk_30_method_1_code (1 : Nat) (Option.none : Option Jvm.ClassFile.FieldType)).before args0 about1 = true := code_word (m := ⟨2, 0⟩) (meth := k2m0) (c := k2c0) (by decide +kernel) rfl rfl rfl (by decide +kernel)
set_option maxRecDepth 65536 in
theorem w_c4 : (Jvm.Cond.code ({ cls := "java/lang/Object", name := "<init>", desc := "()V" } : Jvm.MethodName) object_method_1_code (1 : Nat) (Option.none : Option Jvm.ClassFile.FieldType)).before args0 about1 = true := code_word (m := ⟨0, 0⟩) (meth := k0m0) (c := k0c0) (by decide +kernel) rfl rfl rfl (by decide +kernel)
set_option maxRecDepth 65536 in
theorem w_c5 : (Jvm.Cond.code ({ cls := "com/example/planwright/planwright/planner/SharedAtoms$Among", name := "weighs", desc := "(I)Z" } : Jvm.MethodName) prog_162_method_2_code (2 : Nat) (Option.some Jvm.ClassFile.FieldType.boolean)).before args0 about1 = true := code_word (m := ⟨3, 1⟩) (meth := k3m1) (c := k3c1) (by decide +kernel) rfl rfl rfl (by decide +kernel)
def codes1 : List Jvm.Cond := [Jvm.Cond.code x code maxLocals ret, Jvm.Cond.code ({ cls := "com/example/planwright/planwright/planner/AmongWeighsPinLaw", name := "fill", desc := "(II)[Z" } : Jvm.MethodName) method_2_code (3 : Nat) (Option.some (Jvm.ClassFile.FieldType.array Jvm.ClassFile.FieldType.boolean)), Jvm.Cond.code ({ cls := "com/example/planwright/planwright/planner/SharedAtoms$Among", name := "<init>", desc := "([Z[Z)V" } : Jvm.MethodName) prog_162_method_1_code (3 : Nat) (Option.none : Option Jvm.ClassFile.FieldType), Jvm.Cond.code ({ cls := "java/lang/Record", name := "<init>", desc := "()V" } : Jvm.MethodName) jdk_30_method_1_code (1 : Nat) (Option.none : Option Jvm.ClassFile.FieldType), Jvm.Cond.code ({ cls := "java/lang/Object", name := "<init>", desc := "()V" } : Jvm.MethodName) object_method_1_code (1 : Nat) (Option.none : Option Jvm.ClassFile.FieldType), Jvm.Cond.code ({ cls := "com/example/planwright/planwright/planner/SharedAtoms$Among", name := "weighs", desc := "(I)Z" } : Jvm.MethodName) prog_162_method_2_code (2 : Nat) (Option.some Jvm.ClassFile.FieldType.boolean)]
set_option maxRecDepth 65536 in
theorem codes_eq : words1.filter isCode = codes1 := rfl
theorem w_codes : ∀ c ∈ words1.filter isCode, c.before args0 about1 = true := by
  rw [codes_eq]
  intro c hc
  simp only [codes1, List.mem_cons, List.not_mem_nil, or_false] at hc
  rcases hc with rfl | rfl | rfl | rfl | rfl | rfl
  · exact w_c0
  · exact w_c1
  · exact w_c2
  · exact w_c3
  · exact w_c4
  · exact w_c5
set_option maxRecDepth 65536 in
theorem w_t1 : (words1.take 24).all (fun c => isCode c || c.before args0 about1) = true := by decide +kernel
set_option maxRecDepth 65536 in
theorem w_t2 : (words1.drop 24).all (fun c => isCode c || c.before args0 about1) = true := by decide +kernel
theorem w_tables : (allAtoms (Jvm.Cond.code x code maxLocals ret :: tables_1)).before args0 about1 = true := by
  rw [allAtoms_all]
  show words1.all (fun c => c.before args0 about1) = true
  refine all_split ?_ w_codes
  rw [← List.take_append_drop 24 words1, List.all_append, w_t1, w_t2]
  rfl
set_option maxRecDepth 65536 in
theorem w_case : (Jvm.Cond.and given_1 narrow_1).before args0 about1 = true := by decide +kernel
theorem w_applies : (headSpec (Jvm.Cond.code x code maxLocals ret :: tables_1) room_1).applies x e0.platform about1 = true :=
  (Spec.applies_iff w_frames).mpr ⟨w_running, w_runnable, w_alone, w_named, w_hears, w_ripe, w_room, w_tables⟩
theorem atStart : AtStart classFile x code maxLocals ret World_1 tables_1 room_1 Calls_1 rest_1 Pre_1 launch0 p0 e0 about1 theMethod args0 below0 :=
  ⟨lists_1, trivial, launch0.admits_env _ _ _, launch0.least_env, fairChoices_fair.cas, fairChoices_fair.clock, w_frames, w_args, w_heap, w_applies, trivial, trivial, w_case⟩
end start1
theorem witness_1 : WitnessClaimed_1 := ⟨start1.p0, start1.e0, start1.about1, start1.theMethod, start1.args0, start1.below0, start1.atStart⟩
end Jvm.Pilot.@@N@@
