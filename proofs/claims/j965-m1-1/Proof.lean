import JvmDerived
import JvmDerived.Pilot.@@N@@Statement
import JvmDerived.Pilot.@@N@@Code
set_option linter.unusedVariables false
set_option linter.unusedSimpArgs false
@@BLOCK:NumsL.lean.txt@@
namespace Jvm.Pilot.@@N@@
open Jvm Jvm.ClassFile Sem Op Lib Jvm.Free Jvm.Stand Jvm.LawKit Jvm.RoadKit Bundle Jvm.Pilot.@@N@@.Jvm.D
/-! the walk's own form: from this state and frame the run ends as P says -/
def Go (p : Program) (e : Env) (below : List Frame) (T : State) (g : JFrame) (P : Outcome → State → Prop) : Prop := ∃ s₂ o, Steps p.tables e below (T.setTop g) s₂ ∧ s₂.status = .running ∧ Ended s₂ below o ∧ P o s₂
theorem Go.of {p : Program} {e : Env} {below : List Frame} {T T' : State} {g g' : JFrame} {P : Outcome → State → Prop} (k : ∀ t, Steps p.tables e below (T'.setTop g') t → Steps p.tables e below (T.setTop g) t) (h : Go p e below T' g' P) : Go p e below T g P := by
  obtain ⟨s2, o, h1, h2⟩ := h; exact ⟨s2, o, k _ h1, h2⟩
theorem Go.enter {p : Program} {e : Env} {below : List Frame} {T : State} {g g' : JFrame} {P : Outcome → State → Prop} (q : g = g') (h : Go p e below T g' P) : ∃ s₂ o, Steps p.tables e below (T.setTop g) s₂ ∧ s₂.status = .running ∧ Ended s₂ below o ∧ P o s₂ := by
  subst q; exact h
theorem own_selp {s : State} {args : Array Value} {y : MethodName} {n : Nat} (hi : (Jvm.Cond.instantiable y.cls n).before args s = true) (hp : s.PrivateAt y) (hm : (Jvm.Cond.instanceMethod y).before args s = true) (hy : y.cls ≠ "java/lang/invoke/MethodHandle" ∧ y.cls ≠ "java/lang/invoke/VarHandle") : (Jvm.Cond.selects y.cls y y).before args s = true := by
  obtain ⟨c, k, h1, h2, -, h3, -⟩ := Cond.instantiable_spec hi
  rw [Bool.or_eq_false_iff] at h3
  exact selects_self_of_private h1 h2 h3.1 hp hm hy
/-- a local that holds nothing or one word -/
def Sl (o : Slot) : Prop := o = .unset ∨ ∃ w : Value, o = .val w ∧ w.category = 1
/-! an array of small ints: its kind, its length, its components as a function -/
def Af (Z : State) (h : Heap) (a : Addr) (ty : FieldType) (n : Nat) (f : Nat → Int32) : Prop := ∃ c : Cell, Arr Z h a c ty ∧ c.slots.size = n ∧ ∀ i, i < n → c.slots[i]? = some (.int (f i))
def upd (f : Nat → Int32) (j : Nat) (v : Int32) : Nat → Int32 := fun i => if i = j then v else f i
theorem Af.lt {Z : State} {h : Heap} {a : Addr} {ty : FieldType} {n : Nat} {f : Nat → Int32} (F : Af Z h a ty n f) : a < h.size := by obtain ⟨c, A, -⟩ := F; exact A.lt
theorem Af.ext {Z : State} {h h' : Heap} {a : Addr} {ty : FieldType} {n : Nat} {f : Nat → Int32} (F : Af Z h a ty n f) (E : Ext h h') : Af Z h' a ty n f := by obtain ⟨c, A, r⟩ := F; exact ⟨c, A.ext E, r⟩
theorem Af.other {Z : State} {h h' : Heap} {a b : Addr} {ty : FieldType} {n sl : Nat} {v : Value} {f : Nat → Int32} (F : Af Z h b ty n f) (W : Wr h h' a sl v) (q : b ≠ a) : Af Z h' b ty n f := by obtain ⟨c, A, r⟩ := F; exact ⟨c, A.other W q, r⟩
theorem Af.keep {Z : State} {h h' : Heap} {a : Addr} {ws : List Addr} {ty : FieldType} {n : Nat} {f : Nat → Int32} (F : Af Z h a ty n f) (K : Keep h h' ws) (q : a ∉ ws) : Af Z h' a ty n f := by obtain ⟨c, A, r⟩ := F; exact ⟨c, ⟨K.2.1 a c A.1 q, A.2⟩, r⟩
theorem Af.new {Z : State} {h : Heap} {a : Addr} {k : ClassId} {ty : FieldType} {z : Int32} {n : Nat} (hd : defaultValue ty = .int 0) (A : Arr Z h a (newA k ty z) ty) (hn : z.toNatClampNeg = n) : Af Z h a ty n (fun _ => 0) := by
  subst hn; exact ⟨_, A, sz_new _ _ _, fun i hi => by simp [newA, hd, hi]⟩
theorem Af.at {c : Cell} {n i : Nat} {j : Int32} {f : Nat → Int32} (H : ∀ i, i < n → c.slots[i]? = some (.int (f i))) (hj : j.toNatClampNeg = i) (q : ¬ (j < 0) ∧ j.toNatClampNeg < n) : c.slots[j.toNatClampNeg]? = some (.int (f i)) := by
  subst hj; exact H _ q.2
theorem Af.inb {c : Cell} {n : Nat} {j : Int32} (S : c.slots.size = n) (q : ¬ (j < 0) ∧ j.toNatClampNeg < n) : ¬ (j < 0 ∨ c.slots.size ≤ j.toNatClampNeg) := by rw [S]; exact fun z => z.elim q.1 (Nat.not_le.mpr q.2)
theorem Af.set {Z : State} {h h' : Heap} {a : Addr} {c : Cell} {ty : FieldType} {n j j' : Nat} {x : Int32} {f : Nat → Int32} (A : Arr Z h a c ty) (S : c.slots.size = n) (H : ∀ i, i < n → c.slots[i]? = some (.int (f i))) (W : Wr h h' a j' (.int x)) (hj : j' = j) : Af Z h' a ty n (upd f j x) := by
  subst hj
  refine ⟨_, A.same W, by rw [sz_set]; exact S, fun i hi => ?_⟩
  by_cases e : i = j'
  · subst e; simp [upd, Cell.setSlot, S, hi]
  · have q : (c.setSlot j' (.int x)).slots[i]? = c.slots[i]? := Array.getElem?_setIfInBounds_ne (Ne.symm e)
    rw [q, H i hi]; simp [upd, e]
theorem Af.congr {Z : State} {h : Heap} {a : Addr} {ty : FieldType} {n : Nat} {f g : Nat → Int32} (F : Af Z h a ty n f) (q : ∀ i, i < n → f i = g i) : Af Z h a ty n g := by
  obtain ⟨c, A, S, H⟩ := F; exact ⟨c, A, S, fun i hi => by rw [← q i hi]; exact H i hi⟩
def lenB (b : Int32) : Int32 := if b < (128 : Int32) then (1 : Int32) else if b < (224 : Int32) then (2 : Int32) else if b < (240 : Int32) then (3 : Int32) else (4 : Int32)
def stepU (w : Int32) : Int64 := if w = (4 : Int32) then (2 : Int64) else (1 : Int64)
def scan : Nat → (Nat → Int32) → Int32 → Int32 → Int64 → Int64 → Int32
  | 0, _, q, _, _, _ => q
  | k + 1, f, q, to, cn, un => if q < to then (if un < cn + stepU (lenB (f (q).toNatClampNeg &&& (255 : Int32))) then q else scan k f (q + lenB (f (q).toNatClampNeg &&& (255 : Int32))) to (cn + stepU (lenB (f (q).toNatClampNeg &&& (255 : Int32)))) un) else q
theorem own_t0 : (0 : Int32).toInt = 0 := by decide
theorem own_t1 : (1 : Int32).toInt = 1 := by decide
theorem own_t2 : (2 : Int32).toInt = 2 := by decide
theorem own_t3 : (3 : Int32).toInt = 3 := by decide
theorem own_t4 : (4 : Int32).toInt = 4 := by decide
theorem own_addc {y c : Int32} {n : Nat} (hy : 0 ≤ y.toInt ∧ y.toInt ≤ 12) (hc : c.toInt = (n : Int)) (hn : n ≤ 4) : (y + c).toInt = y.toInt + n := by
  rw [Jvm.Kit.i32_add (by omega) (by omega), hc]
theorem own_ic {y c : Int32} {n : Nat} (hy : 0 ≤ y.toInt ∧ y.toInt ≤ 12) (hc : c.toInt = (n : Int)) (hn : n ≤ 3) : ¬ ((y + c) < 0) ∧ (y + c).toNatClampNeg < 16 := by
  have e := own_addc hy hc (by omega)
  rw [Int32.lt_iff_toInt_lt, e, own_t0]
  refine ⟨by omega, ?_⟩
  show (y + c).toInt.toNat < 16
  rw [e]; omega
theorem own_i0 {y : Int32} (hy : 0 ≤ y.toInt ∧ y.toInt ≤ 12) : ¬ (y < 0) ∧ (y).toNatClampNeg < 16 := by
  rw [Int32.lt_iff_toInt_lt, own_t0]
  refine ⟨by omega, ?_⟩
  show y.toInt.toNat < 16
  omega
theorem own_i1 {y : Int32} (hy : 0 ≤ y.toInt ∧ y.toInt ≤ 12) : ¬ ((y + (1 : Int32)) < 0) ∧ ((y + (1 : Int32))).toNatClampNeg < 16 := own_ic (n := 1) hy (by decide) (by decide)
theorem own_i2 {y : Int32} (hy : 0 ≤ y.toInt ∧ y.toInt ≤ 12) : ¬ ((y + (2 : Int32)) < 0) ∧ ((y + (2 : Int32))).toNatClampNeg < 16 := own_ic (n := 2) hy (by decide) (by decide)
theorem own_i3 {y : Int32} (hy : 0 ≤ y.toInt ∧ y.toInt ≤ 12) : ¬ ((y + (3 : Int32)) < 0) ∧ ((y + (3 : Int32))).toNatClampNeg < 16 := own_ic (n := 3) hy (by decide) (by decide)
theorem own_updne {f : Nat → Int32} {i j : Nat} {v : Int32} (h : i ≠ j) : upd f j v i = f i := if_neg h
theorem own_upds {f : Nat → Int32} {j : Nat} {v : Int32} : upd f j v j = v := if_pos rfl
theorem own_nec {y c : Int32} {n : Nat} {i : Nat} (hy : 0 ≤ y.toInt ∧ y.toInt ≤ 12) (hi : (i : Int) < y.toInt) (hc : c.toInt = (n : Int)) (hn : n ≤ 3) : i ≠ ((y + c)).toNatClampNeg := by
  have e := own_addc hy hc (by omega)
  show i ≠ (y + c).toInt.toNat
  rw [e]; omega
theorem own_ne0 {y : Int32} {i : Nat} (hi : (i : Int) < y.toInt) : i ≠ (y).toNatClampNeg := by
  show i ≠ y.toInt.toNat
  omega
theorem own_yc {y c : Int32} {n : Nat} (hy : 0 ≤ y.toInt ∧ y.toInt ≤ 12) (hc : c.toInt = (n : Int)) (hn : n ≤ 3) (h1 : 1 ≤ n) : (y).toNatClampNeg ≠ ((y + c)).toNatClampNeg := by
  have e := own_addc hy hc (by omega)
  show y.toInt.toNat ≠ (y + c).toInt.toNat
  rw [e]; omega
theorem own_and3 (x : Int32) : x &&& 3 = 0 ∨ x &&& 3 = 1 ∨ x &&& 3 = 2 ∨ x &&& 3 = 3 := by
  have h : (x &&& 3).toInt = x.toInt % 2 ^ 2 := Jvm.Kit.i32_mask x 3 (k := 2) (by decide) (by decide)
  simp only [← Int32.toInt_inj, h, own_t0, own_t1, own_t2, own_t3]; omega
theorem own_k3 {x : Int32} {kk : Int32} (q : kk = x &&& 3) (h0 : ¬ kk = 0) (h1 : ¬ kk = 1) (h2 : ¬ kk = 2) : kk = 3 := by
  rcases own_and3 x with h | h | h | h <;> rw [h] at q
  · exact absurd q h0
  · exact absurd q h1
  · exact absurd q h2
  · exact q
theorem own_n255 (x : Int32) : (nar .byte (x.toInt8.toInt32)) &&& (255 : Int32) = x &&& (255 : Int32) := by
  apply Int32.toBitVec_inj.mp
  show (((x.toInt8.toInt32).toInt8).toInt32 &&& (255 : Int32)).toBitVec = _
  rw [Int8.toInt8_toInt32, Int32.toBitVec_and, Int32.toBitVec_and]
  have e : x.toInt8.toInt32.toBitVec = (x.toBitVec.signExtend 8).signExtend 32 := rfl
  rw [e]
  apply BitVec.eq_of_getLsbD_eq
  intro i hi
  rw [BitVec.getLsbD_and, BitVec.getLsbD_and]
  by_cases h : i < 8
  · rw [BitVec.getLsbD_signExtend, BitVec.getLsbD_signExtend]; simp [h, hi]
  · have hz : ((255 : Int32).toBitVec).getLsbD i = false := by
      have all : ∀ j : Fin 32, 8 ≤ j.val → ((255 : Int32).toBitVec).getLsbD j.val = false := by decide
      exact all ⟨i, hi⟩ (by simp only; omega)
    rw [hz, Bool.and_false, Bool.and_false]
theorem own_255 {x : Int32} (h0 : 0 ≤ x.toInt) (h1 : x.toInt < 256) : (x &&& (255 : Int32)).toInt = x.toInt := by
  have h : (x &&& 255).toInt = x.toInt % 2 ^ 8 := Jvm.Kit.i32_mask x 255 (k := 8) (by decide) (by decide)
  omega
theorem own_lenB (b : Int32) : lenB b = if b.toInt < 128 then (1 : Int32) else if b.toInt < 224 then (2 : Int32) else if b.toInt < 240 then (3 : Int32) else (4 : Int32) := by
  simp only [lenB, Int32.lt_iff_toInt_lt, show (128 : Int32).toInt = 128 from by decide, show (224 : Int32).toInt = 224 from by decide, show (240 : Int32).toInt = 240 from by decide]
theorem own_xx {z xx : Int32} (q : xx = (((z.toUInt32 >>> ((2 : Int32) &&& 31).toUInt32).toInt32) &&& (65535 : Int32))) : 0 ≤ xx.toInt ∧ xx.toInt < 65536 := by
  have h := Jvm.Kit.i32_mask ((z.toUInt32 >>> ((2 : Int32) &&& 31).toUInt32).toInt32) 65535 (k := 16) (by decide) (by decide)
  rw [q, h]; omega
theorem own_len0 {xx : Int32} : lenB ((nar .byte ((xx &&& (127 : Int32)).toInt8.toInt32)) &&& (255 : Int32)) = (0 : Int32) + (1 : Int32) := by
  have h : (xx &&& 127).toInt = xx.toInt % 2 ^ 7 := Jvm.Kit.i32_mask xx 127 (k := 7) (by decide) (by decide)
  rw [own_n255, own_lenB, own_255 (by omega) (by omega), if_pos (by omega)]; decide
theorem own_len1 {xx : Int32} (hx : 0 ≤ xx.toInt ∧ xx.toInt < 65536) : lenB ((nar .byte (((194 : Int32) + (xx % (30 : Int32))).toInt8.toInt32)) &&& (255 : Int32)) = (1 : Int32) + (1 : Int32) := by
  have h : (xx % (30 : Int32)).toInt = xx.toInt % (30 : Int32).toInt := Jvm.Kit.i32_rem_nonneg hx.1
  rw [show (30 : Int32).toInt = 30 from by decide] at h
  have h2 : ((194 : Int32) + (xx % (30 : Int32))).toInt = 194 + xx.toInt % 30 := by
    rw [Jvm.Kit.i32_add (by rw [h, show (194 : Int32).toInt = 194 from by decide]; omega) (by rw [h, show (194 : Int32).toInt = 194 from by decide]; omega), h]; rfl
  rw [own_n255, own_lenB, own_255 (by omega) (by omega), h2, if_neg (by omega), if_pos (by omega)]; decide
theorem own_len2 {xx : Int32} (hx : 0 ≤ xx.toInt ∧ xx.toInt < 65536) : lenB ((nar .byte (((224 : Int32) + (xx &&& (15 : Int32))).toInt8.toInt32)) &&& (255 : Int32)) = (2 : Int32) + (1 : Int32) := by
  have h : (xx &&& 15).toInt = xx.toInt % 2 ^ 4 := Jvm.Kit.i32_mask xx 15 (k := 4) (by decide) (by decide)
  have h2 : ((224 : Int32) + (xx &&& (15 : Int32))).toInt = 224 + xx.toInt % 16 := by
    rw [Jvm.Kit.i32_add (by rw [h, show (224 : Int32).toInt = 224 from by decide]; omega) (by rw [h, show (224 : Int32).toInt = 224 from by decide]; omega), h]; rfl
  rw [own_n255, own_lenB, own_255 (by omega) (by omega), h2, if_neg (by omega), if_neg (by omega), if_pos (by omega)]; decide
theorem own_len3 {xx : Int32} (hx : 0 ≤ xx.toInt ∧ xx.toInt < 65536) : lenB ((nar .byte (((240 : Int32) + (xx % (5 : Int32))).toInt8.toInt32)) &&& (255 : Int32)) = (3 : Int32) + (1 : Int32) := by
  have h : (xx % (5 : Int32)).toInt = xx.toInt % (5 : Int32).toInt := Jvm.Kit.i32_rem_nonneg hx.1
  rw [show (5 : Int32).toInt = 5 from by decide] at h
  have h2 : ((240 : Int32) + (xx % (5 : Int32))).toInt = 240 + xx.toInt % 5 := by
    rw [Jvm.Kit.i32_add (by rw [h, show (240 : Int32).toInt = 240 from by decide]; omega) (by rw [h, show (240 : Int32).toInt = 240 from by decide]; omega), h]; rfl
  rw [own_n255, own_lenB, own_255 (by omega) (by omega), h2, if_neg (by omega), if_neg (by omega), if_neg (by omega)]; decide
theorem own_lenR (b : Int32) : 1 ≤ (lenB b).toInt ∧ (lenB b).toInt ≤ 4 := by
  rw [own_lenB]; split
  · decide
  · split
    · decide
    · split <;> decide
theorem own_stop {q to : Int32} (h : 0 ≤ q.toInt ∧ to.toInt - q.toInt ≤ ((0 : Nat) : Int)) : ¬ q < to := by
  rw [Int32.lt_iff_toInt_lt]; omega
theorem own_ib {q to : Int32} {k : Int} (h : 0 ≤ q.toInt ∧ to.toInt - q.toInt ≤ k) (hc : q < to) (hto : to.toInt ≤ 16) : ¬ (q < 0) ∧ (q).toNatClampNeg < 16 := by
  rw [Int32.lt_iff_toInt_lt] at hc
  rw [Int32.lt_iff_toInt_lt, own_t0]
  refine ⟨by omega, ?_⟩
  show q.toInt.toNat < 16
  omega
theorem own_next {q to ln b : Int32} {k : Nat} (h : 0 ≤ q.toInt ∧ to.toInt - q.toInt ≤ ((k + 1 : Nat) : Int)) (hto : to.toInt ≤ 16) (hc : q < to) (ql : ln = lenB b) : 0 ≤ (q + ln).toInt ∧ to.toInt - (q + ln).toInt ≤ (k : Int) := by
  rw [Int32.lt_iff_toInt_lt] at hc
  have r := own_lenR b
  rw [← ql] at r
  rw [Jvm.Kit.i32_add (by omega) (by omega)]; omega
theorem own_scanE {k : Nat} {f : Nat → Int32} {q to : Int32} {cn un : Int64} (hc : ¬ q < to) : scan (k + 1) f q to cn un = q := by rw [scan, if_neg hc]
theorem own_scanS {k : Nat} {f : Nat → Int32} {q to ln : Int32} {cn un du : Int64} (hc : q < to) (h2 : un < cn + du) (ql : ln = lenB (f (q).toNatClampNeg &&& (255 : Int32))) (qd : du = stepU ln) : scan (k + 1) f q to cn un = q := by
  rw [scan, if_pos hc, ← ql, ← qd, if_pos h2]
theorem own_scanN {k : Nat} {f : Nat → Int32} {q to ln : Int32} {cn un du : Int64} (hc : q < to) (h2 : ¬ un < cn + du) (ql : ln = lenB (f (q).toNatClampNeg &&& (255 : Int32))) (qd : du = stepU ln) : scan k f (q + ln) to (cn + du) un = scan (k + 1) f q to cn un := by
  rw [scan, if_pos hc, ← ql, ← qd, if_neg h2]
theorem own_L (x : Int32) : 1 ≤ ((x &&& (3 : Int32)) + (1 : Int32)).toInt ∧ ((x &&& (3 : Int32)) + (1 : Int32)).toInt ≤ 4 := by
  rcases own_and3 x with h | h | h | h <;> rw [h] <;> decide
theorem own_p (x : Int32) : 0 ≤ (x &&& (3 : Int32)).toInt ∧ (x &&& (3 : Int32)).toInt ≤ 3 := by
  rcases own_and3 x with h | h | h | h <;> rw [h] <;> decide
theorem own_o {x a b : Int32} {m : Int} (q : b = a + ((x &&& (3 : Int32)) + (1 : Int32))) (h : 0 ≤ a.toInt ∧ a.toInt ≤ m) (hm : m ≤ 20) : a.toInt < b.toInt ∧ b.toInt ≤ m + 4 := by
  have l := own_L x
  rw [q, Jvm.Kit.i32_add (by omega) (by omega)]; omega
theorem own_su (x : Int32) : stepU ((x &&& (3 : Int32)) + (1 : Int32)) = (if (x &&& (3 : Int32)) = (3 : Int32) then (2 : Int32) else (1 : Int32)).toInt64 := by
  rcases own_and3 x with h | h | h | h <;> rw [h] <;> decide
theorem own_r0 {k : Nat} {f : Nat → Int32} {q : Int32} {cn un : Int64} : scan (k + 1) f q q cn un = q := by
  rw [scan, if_neg (by rw [Int32.lt_iff_toInt_lt]; omega)]
theorem own_r1 {k : Nat} {f : Nat → Int32} {x q q2 to : Int32} {cn cn2 un : Int64} (hq : q.toInt < to.toInt) (hl : lenB (f (q).toNatClampNeg &&& (255 : Int32)) = (x &&& (3 : Int32)) + (1 : Int32)) (h2 : q2 = q + ((x &&& (3 : Int32)) + (1 : Int32))) (hs : cn2 = cn + (if (x &&& (3 : Int32)) = (3 : Int32) then (2 : Int32) else (1 : Int32)).toInt64) :
    scan (k + 1) f q to cn un = if un < cn2 then q else scan k f q2 to cn2 un := by
  rw [scan, if_pos (by rw [Int32.lt_iff_toInt_lt]; exact hq), hl, own_su, ← hs, ← h2]
theorem own_z0 (c : Int64) (v : Int64) (h : c = v) : c = 0 + v := by rw [h]; simp
theorem own_n4 (x : Int32) : ((((x.toUInt32 >>> ((2 : Int32) &&& 31).toUInt32).toInt32)) &&& (3 : Int32)) = (0 : Int32) ∨ ((((x.toUInt32 >>> ((2 : Int32) &&& 31).toUInt32).toInt32)) &&& (3 : Int32)) = (1 : Int32) ∨ ((((x.toUInt32 >>> ((2 : Int32) &&& 31).toUInt32).toInt32)) &&& (3 : Int32)) = (2 : Int32) ∨ ((((x.toUInt32 >>> ((2 : Int32) &&& 31).toUInt32).toInt32)) &&& (3 : Int32)) = (3 : Int32) := own_and3 _
theorem pn_0 : plainName "com/example/diagnostic/diagnostic/Utf8OffsetOfUnitPinLaw" = true := by first | (simp [plainName, overriddenIn]; done) | decide +kernel
theorem pn_1 : plainName "com/example/diagnostic/diagnostic/Utf8" = true := by first | (simp [plainName, overriddenIn]; done) | decide +kernel
theorem pd_0 : parseMethodDescriptor "([BII)I" = some ⟨[(.array .byte), .int, .int], some .int⟩ := by decide +kernel
theorem pd_1 : parseMethodDescriptor "(I)I" = some ⟨[.int], some .int⟩ := by decide +kernel
theorem pd_2 : parseMethodDescriptor "([BIIJ)I" = some ⟨[(.array .byte), .int, .int, .long], some .int⟩ := by decide +kernel
theorem d2_0 : decode method_2_code 0 = .ok (.iload_n 0, 1) := by decide +kernel
theorem d2_1 : decode method_2_code 1 = .ok (.iconst 3, 1) := by decide +kernel
theorem d2_2 : decode method_2_code 2 = .ok (.iand, 1) := by decide +kernel
theorem d2_3 : decode method_2_code 3 = .ok (.iconst 3, 1) := by decide +kernel
theorem d2_4 : decode method_2_code 4 = .ok (.if_icmp .ne 7, 3) := by decide +kernel
theorem d2_7 : decode method_2_code 7 = .ok (.iconst 2, 1) := by decide +kernel
theorem d2_8 : decode method_2_code 8 = .ok (.goto 4, 3) := by decide +kernel
theorem d2_11 : decode method_2_code 11 = .ok (.iconst 1, 1) := by decide +kernel
theorem d2_12 : decode method_2_code 12 = .ok (.ireturn, 1) := by decide +kernel
theorem ef_2 (m : MethodId) (x0 : Int32) : entryFrame m #[(.int x0)] 1 = mkF m 0 #[.val (.int x0)] [] := by first | (simp [entryFrame, mkF, argsToLocals, Value.category]; done) | rfl
def Q2 (Z : State) (x : Int32) (h0 : Heap) (n0 : Nat) (v : Option Value) (h : Heap) (L : List Loc) : Prop := v = some (.int (if (x &&& (3 : Int32)) = (3 : Int32) then (2 : Int32) else (1 : Int32))) ∧ Fr n0 L ∧ h = h0
set_option maxRecDepth 65536 in
set_option maxHeartbeats 40000000 in
theorem rm2 (l : Launch) (Z : State) (a0 : Array Value) (hw : ∀ d ∈ tables_1, d.before a0 Z = true) (ws : List Jvm.Cond) (x : Int32) (h0 : Heap) (n0 : Nat) (Z0 : n0 ≤ h0.size) :
    MetFree l (⟨"com/example/diagnostic/diagnostic/Utf8OffsetOfUnitPinLaw", "units", "(I)I"⟩ : MethodName) (head1 (Jvm.Cond.code (⟨"com/example/diagnostic/diagnostic/Utf8OffsetOfUnitPinLaw", "units", "(I)I"⟩ : MethodName) method_2_code 1 (some .int) :: ws) ({ frames := 0, cells := 0, slots := 0, locals := 0 } : Room)) (fun aa_ U => aa_ = #[(.int x)] ∧ Z.Warmed39 U.vm ∧ U.heap = h0) (fun _ _ _ _ _ => True) (fun _ U o U' => ∃ vv_ LL_, o = .returned vv_ ∧ Q2 Z x h0 n0 vv_ U'.heap LL_ ∧ FrameEnd U o U' LL_ ({ frames := 0, cells := 0, slots := 0, locals := 0 } : Room).cells ({ frames := 0, cells := 0, slots := 0, locals := 0 } : Room).slots) := by
  refine MetFree.of_bodySF (plainFor_of_name pn_0) hisR ?_
  intro p e s m args below meth c s₁ Bd hml0 hP hK
  obtain ⟨rfl, hZ, hh⟩ := hP
  have hx := Bd.exec
  have hby := Bd.bytes
  have hml : c.maxLocals = 1 := hml0
  have hown : s.vm.findClass "com/example/diagnostic/diagnostic/Utf8OffsetOfUnitPinLaw" = some m.cls := findClass_of_methodNamed Bd.named
  have hnm := (name_of_methodNamed Bd.named Bd.method).1
  have X0 : Stand p l e ({ frames := 0, cells := 0, slots := 0, locals := 0 } : Room) s m #[(.int x)] below meth c s₁ [] 0 0 := Stand.of_body Bd
  have e0 : s₁.heap = h0 := by rw [← hh, Bd.state]; rfl
  have N0 := Fr.nil n0
  have K0 : Keep h0 h0 [] := Keep.refl h0 _
  refine Go.enter (P := fun o U' => ∃ vv_ LL_, o = .returned vv_ ∧ Q2 Z x h0 n0 vv_ U'.heap LL_ ∧ FrameEnd s o U' LL_ ({ frames := 0, cells := 0, slots := 0, locals := 0 } : Room).cells ({ frames := 0, cells := 0, slots := 0, locals := 0 } : Room).slots) (ef_2 m x) ?_
  show Go p e below s₁ (mkF m 0 #[.val (.int x)] []) _
  refine Go.of (fun tg_ kk_ => XS.iloadN X0.here hx rfl (hb hby d2_0) rfl kk_) ?_
  show Go p e below s₁ (mkF m 1 #[.val (.int x)] [(.int x)]) _
  refine Go.of (fun tg_ kk_ => XS.iconst X0.here hx rfl (hb hby d2_1) kk_) ?_
  show Go p e below s₁ (mkF m 2 #[.val (.int x)] [(.int (3 : Int32)), (.int x)]) _
  refine Go.of (fun tg_ kk_ => XS.iand X0.here hx rfl (hb hby d2_2) rfl kk_) ?_
  show Go p e below s₁ (mkF m 3 #[.val (.int x)] [(.int (x &&& (3 : Int32)))]) _
  refine Go.of (fun tg_ kk_ => XS.iconst X0.here hx rfl (hb hby d2_3) kk_) ?_
  show Go p e below s₁ (mkF m 4 #[.val (.int x)] [(.int (3 : Int32)), (.int (x &&& (3 : Int32)))]) _
  by_cases hc1 : (x &&& (3 : Int32)) = (3 : Int32)
  · skip
    refine Go.of (fun tg_ kk_ => XS.icmpNo X0.here hx rfl (hb hby d2_4) rfl (teq hc1).2 kk_) ?_
    show Go p e below s₁ (mkF m 7 #[.val (.int x)] []) _
    refine Go.of (fun tg_ kk_ => XS.iconst X0.here hx rfl (hb hby d2_7) kk_) ?_
    show Go p e below s₁ (mkF m 8 #[.val (.int x)] [(.int (2 : Int32))]) _
    refine Go.of (fun tg_ kk_ => XS.goto X0.here hx rfl (pc0 := 8) (pc' := 12) rfl (hb hby d2_8) (by decide) (by decide) kk_) ?_
    show Go p e below s₁ (mkF m 12 #[.val (.int x)] [(.int (2 : Int32))]) _
    obtain ⟨fs, hr, hrun, hended, hW, hsame⟩ := X0.leave (v := some (.int (2 : Int32))) (fun h => by rw [Bd.returns] at h; cases h)
    refine ⟨_, _, ?_, hrun, hended, _, _, rfl, ?_, ⟨_, rfl⟩, hW, hsame.mono (by decide) (by decide)⟩
    · exact retOut X0 hx Bd.returns rfl (Or.inl ⟨rfl, Or.inl rfl, _, rfl⟩) (hb hby d2_12) hr
    · show Q2 Z x h0 n0 _ s₁.heap _
      rw [e0]
      exact ⟨by simp [hc1], N0, rfl⟩
  · skip
    refine Go.of (fun tg_ kk_ => XS.icmpYes X0.here hx rfl (pc0 := 4) (pc' := 11) rfl (hb hby d2_4) rfl (feq hc1).2 (by decide) (by decide) kk_) ?_
    show Go p e below s₁ (mkF m 11 #[.val (.int x)] []) _
    refine Go.of (fun tg_ kk_ => XS.iconst X0.here hx rfl (hb hby d2_11) kk_) ?_
    show Go p e below s₁ (mkF m 12 #[.val (.int x)] [(.int (1 : Int32))]) _
    obtain ⟨fs, hr, hrun, hended, hW, hsame⟩ := X0.leave (v := some (.int (1 : Int32))) (fun h => by rw [Bd.returns] at h; cases h)
    refine ⟨_, _, ?_, hrun, hended, _, _, rfl, ?_, ⟨_, rfl⟩, hW, hsame.mono (by decide) (by decide)⟩
    · exact retOut X0 hx Bd.returns rfl (Or.inl ⟨rfl, Or.inl rfl, _, rfl⟩) (hb hby d2_12) hr
    · show Q2 Z x h0 n0 _ s₁.heap _
      rw [e0]
      exact ⟨by simp [hc1], N0, rfl⟩
theorem d1_0 : decode method_3_code 0 = .ok (.iload_n 2, 1) := by decide +kernel
theorem d1_1 : decode method_3_code 1 = .ok (.iconst 3, 1) := by decide +kernel
theorem d1_2 : decode method_3_code 2 = .ok (.iand, 1) := by decide +kernel
theorem d1_3 : decode method_3_code 3 = .ok (.istore_n 3, 1) := by decide +kernel
theorem d1_4 : decode method_3_code 4 = .ok (.iload_n 2, 1) := by decide +kernel
theorem d1_5 : decode method_3_code 5 = .ok (.iconst 2, 1) := by decide +kernel
theorem d1_6 : decode method_3_code 6 = .ok (.iushr, 1) := by decide +kernel
theorem d1_7 : decode method_3_code 7 = .ok (.ldc 7, 2) := by decide +kernel
theorem d1_9 : decode method_3_code 9 = .ok (.iand, 1) := by decide +kernel
theorem d1_10 : decode method_3_code 10 = .ok (.istore 4, 2) := by decide +kernel
theorem d1_12 : decode method_3_code 12 = .ok (.iload_n 3, 1) := by decide +kernel
theorem d1_13 : decode method_3_code 13 = .ok (.ifCond .ne 14, 3) := by decide +kernel
theorem d1_16 : decode method_3_code 16 = .ok (.aload_n 0, 1) := by decide +kernel
theorem d1_17 : decode method_3_code 17 = .ok (.iload_n 1, 1) := by decide +kernel
theorem d1_18 : decode method_3_code 18 = .ok (.iload 4, 2) := by decide +kernel
theorem d1_20 : decode method_3_code 20 = .ok (.bipush 127, 2) := by decide +kernel
theorem d1_22 : decode method_3_code 22 = .ok (.iand, 1) := by decide +kernel
theorem d1_23 : decode method_3_code 23 = .ok (.i2b, 1) := by decide +kernel
theorem d1_24 : decode method_3_code 24 = .ok (.bastore, 1) := by decide +kernel
theorem d1_25 : decode method_3_code 25 = .ok (.iconst 1, 1) := by decide +kernel
theorem d1_26 : decode method_3_code 26 = .ok (.ireturn, 1) := by decide +kernel
theorem d1_27 : decode method_3_code 27 = .ok (.iload_n 3, 1) := by decide +kernel
theorem d1_28 : decode method_3_code 28 = .ok (.iconst 1, 1) := by decide +kernel
theorem d1_29 : decode method_3_code 29 = .ok (.if_icmp .ne 36, 3) := by decide +kernel
theorem d1_32 : decode method_3_code 32 = .ok (.aload_n 0, 1) := by decide +kernel
theorem d1_33 : decode method_3_code 33 = .ok (.iload_n 1, 1) := by decide +kernel
theorem d1_34 : decode method_3_code 34 = .ok (.sipush 194, 3) := by decide +kernel
theorem d1_37 : decode method_3_code 37 = .ok (.iload 4, 2) := by decide +kernel
theorem d1_39 : decode method_3_code 39 = .ok (.bipush 30, 2) := by decide +kernel
theorem d1_41 : decode method_3_code 41 = .ok (.irem, 1) := by decide +kernel
theorem d1_42 : decode method_3_code 42 = .ok (.iadd, 1) := by decide +kernel
theorem d1_43 : decode method_3_code 43 = .ok (.i2b, 1) := by decide +kernel
theorem d1_44 : decode method_3_code 44 = .ok (.bastore, 1) := by decide +kernel
theorem d1_45 : decode method_3_code 45 = .ok (.aload_n 0, 1) := by decide +kernel
theorem d1_46 : decode method_3_code 46 = .ok (.iload_n 1, 1) := by decide +kernel
theorem d1_47 : decode method_3_code 47 = .ok (.iconst 1, 1) := by decide +kernel
theorem d1_48 : decode method_3_code 48 = .ok (.iadd, 1) := by decide +kernel
theorem d1_49 : decode method_3_code 49 = .ok (.sipush 128, 3) := by decide +kernel
theorem d1_52 : decode method_3_code 52 = .ok (.iload 4, 2) := by decide +kernel
theorem d1_54 : decode method_3_code 54 = .ok (.bipush 8, 2) := by decide +kernel
theorem d1_56 : decode method_3_code 56 = .ok (.iushr, 1) := by decide +kernel
theorem d1_57 : decode method_3_code 57 = .ok (.bipush 63, 2) := by decide +kernel
theorem d1_59 : decode method_3_code 59 = .ok (.iand, 1) := by decide +kernel
theorem d1_60 : decode method_3_code 60 = .ok (.ior, 1) := by decide +kernel
theorem d1_61 : decode method_3_code 61 = .ok (.i2b, 1) := by decide +kernel
theorem d1_62 : decode method_3_code 62 = .ok (.bastore, 1) := by decide +kernel
theorem d1_63 : decode method_3_code 63 = .ok (.iconst 2, 1) := by decide +kernel
theorem d1_64 : decode method_3_code 64 = .ok (.ireturn, 1) := by decide +kernel
theorem d1_65 : decode method_3_code 65 = .ok (.iload_n 3, 1) := by decide +kernel
theorem d1_66 : decode method_3_code 66 = .ok (.iconst 2, 1) := by decide +kernel
theorem d1_67 : decode method_3_code 67 = .ok (.if_icmp .ne 62, 3) := by decide +kernel
theorem d1_70 : decode method_3_code 70 = .ok (.sipush 224, 3) := by decide +kernel
theorem d1_73 : decode method_3_code 73 = .ok (.iload 4, 2) := by decide +kernel
theorem d1_75 : decode method_3_code 75 = .ok (.bipush 15, 2) := by decide +kernel
theorem d1_77 : decode method_3_code 77 = .ok (.iand, 1) := by decide +kernel
theorem d1_78 : decode method_3_code 78 = .ok (.iadd, 1) := by decide +kernel
theorem d1_79 : decode method_3_code 79 = .ok (.istore 5, 2) := by decide +kernel
theorem d1_81 : decode method_3_code 81 = .ok (.aload_n 0, 1) := by decide +kernel
theorem d1_82 : decode method_3_code 82 = .ok (.iload_n 1, 1) := by decide +kernel
theorem d1_83 : decode method_3_code 83 = .ok (.iload 5, 2) := by decide +kernel
theorem d1_85 : decode method_3_code 85 = .ok (.i2b, 1) := by decide +kernel
theorem d1_86 : decode method_3_code 86 = .ok (.bastore, 1) := by decide +kernel
theorem d1_87 : decode method_3_code 87 = .ok (.aload_n 0, 1) := by decide +kernel
theorem d1_88 : decode method_3_code 88 = .ok (.iload_n 1, 1) := by decide +kernel
theorem d1_89 : decode method_3_code 89 = .ok (.iconst 1, 1) := by decide +kernel
theorem d1_90 : decode method_3_code 90 = .ok (.iadd, 1) := by decide +kernel
theorem d1_91 : decode method_3_code 91 = .ok (.iload 5, 2) := by decide +kernel
theorem d1_93 : decode method_3_code 93 = .ok (.sipush 224, 3) := by decide +kernel
theorem d1_96 : decode method_3_code 96 = .ok (.if_icmp .ne 9, 3) := by decide +kernel
theorem d1_99 : decode method_3_code 99 = .ok (.sipush 160, 3) := by decide +kernel
theorem d1_102 : decode method_3_code 102 = .ok (.goto 6, 3) := by decide +kernel
theorem d1_105 : decode method_3_code 105 = .ok (.sipush 128, 3) := by decide +kernel
theorem d1_108 : decode method_3_code 108 = .ok (.i2b, 1) := by decide +kernel
theorem d1_109 : decode method_3_code 109 = .ok (.bastore, 1) := by decide +kernel
theorem d1_110 : decode method_3_code 110 = .ok (.aload_n 0, 1) := by decide +kernel
theorem d1_111 : decode method_3_code 111 = .ok (.iload_n 1, 1) := by decide +kernel
theorem d1_112 : decode method_3_code 112 = .ok (.iconst 2, 1) := by decide +kernel
theorem d1_113 : decode method_3_code 113 = .ok (.iadd, 1) := by decide +kernel
theorem d1_114 : decode method_3_code 114 = .ok (.sipush 128, 3) := by decide +kernel
theorem d1_117 : decode method_3_code 117 = .ok (.iload 4, 2) := by decide +kernel
theorem d1_119 : decode method_3_code 119 = .ok (.iconst 4, 1) := by decide +kernel
theorem d1_120 : decode method_3_code 120 = .ok (.iushr, 1) := by decide +kernel
theorem d1_121 : decode method_3_code 121 = .ok (.bipush 63, 2) := by decide +kernel
theorem d1_123 : decode method_3_code 123 = .ok (.iand, 1) := by decide +kernel
theorem d1_124 : decode method_3_code 124 = .ok (.ior, 1) := by decide +kernel
theorem d1_125 : decode method_3_code 125 = .ok (.i2b, 1) := by decide +kernel
theorem d1_126 : decode method_3_code 126 = .ok (.bastore, 1) := by decide +kernel
theorem d1_127 : decode method_3_code 127 = .ok (.iconst 3, 1) := by decide +kernel
theorem d1_128 : decode method_3_code 128 = .ok (.ireturn, 1) := by decide +kernel
theorem d1_129 : decode method_3_code 129 = .ok (.sipush 240, 3) := by decide +kernel
theorem d1_132 : decode method_3_code 132 = .ok (.iload 4, 2) := by decide +kernel
theorem d1_134 : decode method_3_code 134 = .ok (.iconst 5, 1) := by decide +kernel
theorem d1_135 : decode method_3_code 135 = .ok (.irem, 1) := by decide +kernel
theorem d1_136 : decode method_3_code 136 = .ok (.iadd, 1) := by decide +kernel
theorem d1_137 : decode method_3_code 137 = .ok (.istore 5, 2) := by decide +kernel
theorem d1_139 : decode method_3_code 139 = .ok (.aload_n 0, 1) := by decide +kernel
theorem d1_140 : decode method_3_code 140 = .ok (.iload_n 1, 1) := by decide +kernel
theorem d1_141 : decode method_3_code 141 = .ok (.iload 5, 2) := by decide +kernel
theorem d1_143 : decode method_3_code 143 = .ok (.i2b, 1) := by decide +kernel
theorem d1_144 : decode method_3_code 144 = .ok (.bastore, 1) := by decide +kernel
theorem d1_145 : decode method_3_code 145 = .ok (.aload_n 0, 1) := by decide +kernel
theorem d1_146 : decode method_3_code 146 = .ok (.iload_n 1, 1) := by decide +kernel
theorem d1_147 : decode method_3_code 147 = .ok (.iconst 1, 1) := by decide +kernel
theorem d1_148 : decode method_3_code 148 = .ok (.iadd, 1) := by decide +kernel
theorem d1_149 : decode method_3_code 149 = .ok (.iload 5, 2) := by decide +kernel
theorem d1_151 : decode method_3_code 151 = .ok (.sipush 240, 3) := by decide +kernel
theorem d1_154 : decode method_3_code 154 = .ok (.if_icmp .ne 9, 3) := by decide +kernel
theorem d1_157 : decode method_3_code 157 = .ok (.sipush 144, 3) := by decide +kernel
theorem d1_160 : decode method_3_code 160 = .ok (.goto 6, 3) := by decide +kernel
theorem d1_163 : decode method_3_code 163 = .ok (.sipush 128, 3) := by decide +kernel
theorem d1_166 : decode method_3_code 166 = .ok (.i2b, 1) := by decide +kernel
theorem d1_167 : decode method_3_code 167 = .ok (.bastore, 1) := by decide +kernel
theorem d1_168 : decode method_3_code 168 = .ok (.aload_n 0, 1) := by decide +kernel
theorem d1_169 : decode method_3_code 169 = .ok (.iload_n 1, 1) := by decide +kernel
theorem d1_170 : decode method_3_code 170 = .ok (.iconst 2, 1) := by decide +kernel
theorem d1_171 : decode method_3_code 171 = .ok (.iadd, 1) := by decide +kernel
theorem d1_172 : decode method_3_code 172 = .ok (.bipush (-128), 2) := by decide +kernel
theorem d1_174 : decode method_3_code 174 = .ok (.bastore, 1) := by decide +kernel
theorem d1_175 : decode method_3_code 175 = .ok (.aload_n 0, 1) := by decide +kernel
theorem d1_176 : decode method_3_code 176 = .ok (.iload_n 1, 1) := by decide +kernel
theorem d1_177 : decode method_3_code 177 = .ok (.iconst 3, 1) := by decide +kernel
theorem d1_178 : decode method_3_code 178 = .ok (.iadd, 1) := by decide +kernel
theorem d1_179 : decode method_3_code 179 = .ok (.sipush 128, 3) := by decide +kernel
theorem d1_182 : decode method_3_code 182 = .ok (.iload 4, 2) := by decide +kernel
theorem d1_184 : decode method_3_code 184 = .ok (.iconst 4, 1) := by decide +kernel
theorem d1_185 : decode method_3_code 185 = .ok (.iushr, 1) := by decide +kernel
theorem d1_186 : decode method_3_code 186 = .ok (.bipush 63, 2) := by decide +kernel
theorem d1_188 : decode method_3_code 188 = .ok (.iand, 1) := by decide +kernel
theorem d1_189 : decode method_3_code 189 = .ok (.ior, 1) := by decide +kernel
theorem d1_190 : decode method_3_code 190 = .ok (.i2b, 1) := by decide +kernel
theorem d1_191 : decode method_3_code 191 = .ok (.bastore, 1) := by decide +kernel
theorem d1_192 : decode method_3_code 192 = .ok (.iconst 4, 1) := by decide +kernel
theorem d1_193 : decode method_3_code 193 = .ok (.ireturn, 1) := by decide +kernel
theorem ef_1 (m : MethodId) (x0 : Addr) (x1 : Int32) (x2 : Int32) : entryFrame m #[(.ref x0), (.int x1), (.int x2)] 6 = mkF m 0 #[.val (.ref x0), .val (.int x1), .val (.int x2), .unset, .unset, .unset] [] := by first | (simp [entryFrame, mkF, argsToLocals, Value.category]; done) | rfl
def Q1 (Z : State) (a : Addr) (y : Int32) (z : Int32) (f : Nat → Int32) (h0 : Heap) (n0 : Nat) (v : Option Value) (h : Heap) (L : List Loc) : Prop := ∃ g, v = some (.int ((z &&& (3 : Int32)) + (1 : Int32))) ∧ Fr n0 L ∧ Keep h0 h [a] ∧ Af Z h a .byte 16 g ∧ (∀ i : Nat, (i : Int) < y.toInt → g i = f i) ∧ lenB (g (y).toNatClampNeg &&& (255 : Int32)) = (z &&& (3 : Int32)) + (1 : Int32)
set_option maxRecDepth 65536 in
set_option maxHeartbeats 40000000 in
theorem rm1 (l : Launch) (Z : State) (a0 : Array Value) (hw : ∀ d ∈ tables_1, d.before a0 Z = true) (ws : List Jvm.Cond) (a : Addr) (y : Int32) (z : Int32) (f : Nat → Int32) (h0 : Heap) (n0 : Nat) (Z0 : n0 ≤ h0.size) (g_a : n0 ≤ a) (Aa : Af Z h0 a .byte 16 f) (hy : 0 ≤ y.toInt ∧ y.toInt ≤ 12) :
    MetFree l (⟨"com/example/diagnostic/diagnostic/Utf8OffsetOfUnitPinLaw", "put", "([BII)I"⟩ : MethodName) (head1 (Jvm.Cond.code (⟨"com/example/diagnostic/diagnostic/Utf8OffsetOfUnitPinLaw", "put", "([BII)I"⟩ : MethodName) method_3_code 6 (some .int) :: ws) ({ frames := 0, cells := 0, slots := 0, locals := 0 } : Room)) (fun aa_ U => aa_ = #[(.ref a), (.int y), (.int z)] ∧ Z.Warmed39 U.vm ∧ U.heap = h0) (fun _ _ _ _ _ => True) (fun _ U o U' => ∃ vv_ LL_, o = .returned vv_ ∧ Q1 Z a y z f h0 n0 vv_ U'.heap LL_ ∧ FrameEnd U o U' LL_ ({ frames := 0, cells := 0, slots := 0, locals := 0 } : Room).cells ({ frames := 0, cells := 0, slots := 0, locals := 0 } : Room).slots) := by
  refine MetFree.of_bodySF (plainFor_of_name pn_0) hisR ?_
  intro p e s m args below meth c s₁ Bd hml0 hP hK
  obtain ⟨rfl, hZ, hh⟩ := hP
  have hx := Bd.exec
  have hby := Bd.bytes
  have hml : c.maxLocals = 6 := hml0
  have hown : s.vm.findClass "com/example/diagnostic/diagnostic/Utf8OffsetOfUnitPinLaw" = some m.cls := findClass_of_methodNamed Bd.named
  have hnm := (name_of_methodNamed Bd.named Bd.method).1
  have X0 : Stand p l e ({ frames := 0, cells := 0, slots := 0, locals := 0 } : Room) s m #[(.ref a), (.int y), (.int z)] below meth c s₁ [] 0 0 := Stand.of_body Bd
  have e0 : s₁.heap = h0 := by rw [← hh, Bd.state]; rfl
  have N0 := Fr.nil n0
  have K0 : Keep h0 h0 [a] := Keep.refl h0 _
  have hi0 := own_i0 hy
  have hi1 := own_i1 hy
  have hi2 := own_i2 hy
  have hi3 := own_i3 hy
  refine Go.enter (P := fun o U' => ∃ vv_ LL_, o = .returned vv_ ∧ Q1 Z a y z f h0 n0 vv_ U'.heap LL_ ∧ FrameEnd s o U' LL_ ({ frames := 0, cells := 0, slots := 0, locals := 0 } : Room).cells ({ frames := 0, cells := 0, slots := 0, locals := 0 } : Room).slots) (ef_1 m a y z) ?_
  show Go p e below s₁ (mkF m 0 #[.val (.ref a), .val (.int y), .val (.int z), .unset, .unset, .unset] []) _
  refine Go.of (fun tg_ kk_ => XS.iloadN X0.here hx rfl (hb hby d1_0) rfl kk_) ?_
  show Go p e below s₁ (mkF m 1 #[.val (.ref a), .val (.int y), .val (.int z), .unset, .unset, .unset] [(.int z)]) _
  refine Go.of (fun tg_ kk_ => XS.iconst X0.here hx rfl (hb hby d1_1) kk_) ?_
  show Go p e below s₁ (mkF m 2 #[.val (.ref a), .val (.int y), .val (.int z), .unset, .unset, .unset] [(.int (3 : Int32)), (.int z)]) _
  refine Go.of (fun tg_ kk_ => XS.iand X0.here hx rfl (hb hby d1_2) rfl kk_) ?_
  show Go p e below s₁ (mkF m 3 #[.val (.ref a), .val (.int y), .val (.int z), .unset, .unset, .unset] [(.int (z &&& (3 : Int32)))]) _
  obtain ⟨kk, qkk⟩ : ∃ zz_ : Int32, zz_ = (z &&& (3 : Int32)) := ⟨_, rfl⟩
  rw [← qkk]
  show Go p e below s₁ (mkF m 3 #[.val (.ref a), .val (.int y), .val (.int z), .unset, .unset, .unset] [(.int kk)]) _
  refine Go.of (fun tg_ kk_ => XS.istoreN X0.here hx rfl (hb hby d1_3) rfl (l' := #[.val (.ref a), .val (.int y), .val (.int z), .val (.int kk), .unset, .unset]) rfl kk_) ?_
  show Go p e below s₁ (mkF m 4 #[.val (.ref a), .val (.int y), .val (.int z), .val (.int kk), .unset, .unset] []) _
  refine Go.of (fun tg_ kk_ => XS.iloadN X0.here hx rfl (hb hby d1_4) rfl kk_) ?_
  show Go p e below s₁ (mkF m 5 #[.val (.ref a), .val (.int y), .val (.int z), .val (.int kk), .unset, .unset] [(.int z)]) _
  refine Go.of (fun tg_ kk_ => XS.iconst X0.here hx rfl (hb hby d1_5) kk_) ?_
  show Go p e below s₁ (mkF m 6 #[.val (.ref a), .val (.int y), .val (.int z), .val (.int kk), .unset, .unset] [(.int (2 : Int32)), (.int z)]) _
  refine Go.of (fun tg_ kk_ => XS.iushr X0.here hx rfl (hb hby d1_6) rfl kk_) ?_
  show Go p e below s₁ (mkF m 7 #[.val (.ref a), .val (.int y), .val (.int z), .val (.int kk), .unset, .unset] [(.int ((z.toUInt32 >>> ((2 : Int32) &&& 31).toUInt32).toInt32))]) _
  refine Go.of (X0.ldcInt hx hown (mvT hZ (hw _ (List.mem_of_getElem? (i := 5) rfl))) (g := (mkF m 7 #[.val (.ref a), .val (.int y), .val (.int z), .val (.int kk), .unset, .unset] [(.int ((z.toUInt32 >>> ((2 : Int32) &&& 31).toUInt32).toInt32))])) rfl (hb hby d1_7)) ?_
  show Go p e below s₁ (mkF m 9 #[.val (.ref a), .val (.int y), .val (.int z), .val (.int kk), .unset, .unset] [(.int (65535 : Int32)), (.int ((z.toUInt32 >>> ((2 : Int32) &&& 31).toUInt32).toInt32))]) _
  refine Go.of (fun tg_ kk_ => XS.iand X0.here hx rfl (hb hby d1_9) rfl kk_) ?_
  show Go p e below s₁ (mkF m 10 #[.val (.ref a), .val (.int y), .val (.int z), .val (.int kk), .unset, .unset] [(.int (((z.toUInt32 >>> ((2 : Int32) &&& 31).toUInt32).toInt32) &&& (65535 : Int32)))]) _
  obtain ⟨xx, qxx⟩ : ∃ zz_ : Int32, zz_ = (((z.toUInt32 >>> ((2 : Int32) &&& 31).toUInt32).toInt32) &&& (65535 : Int32)) := ⟨_, rfl⟩
  rw [← qxx]
  show Go p e below s₁ (mkF m 10 #[.val (.ref a), .val (.int y), .val (.int z), .val (.int kk), .unset, .unset] [(.int xx)]) _
  refine Go.of (fun tg_ kk_ => XS.istore X0.here hx rfl (hb hby d1_10) rfl (l' := #[.val (.ref a), .val (.int y), .val (.int z), .val (.int kk), .val (.int xx), .unset]) rfl kk_) ?_
  show Go p e below s₁ (mkF m 12 #[.val (.ref a), .val (.int y), .val (.int z), .val (.int kk), .val (.int xx), .unset] []) _
  refine Go.of (fun tg_ kk_ => XS.iloadN X0.here hx rfl (hb hby d1_12) rfl kk_) ?_
  show Go p e below s₁ (mkF m 13 #[.val (.ref a), .val (.int y), .val (.int z), .val (.int kk), .val (.int xx), .unset] [(.int kk)]) _
  by_cases hc1 : kk = (0 : Int32)
  · skip
    refine Go.of (fun tg_ kk_ => XS.ifNo X0.here hx rfl (hb hby d1_13) rfl ((if0 _ _).trans (teq hc1).2) kk_) ?_
    show Go p e below s₁ (mkF m 16 #[.val (.ref a), .val (.int y), .val (.int z), .val (.int kk), .val (.int xx), .unset] []) _
    refine Go.of (fun tg_ kk_ => XS.aloadN X0.here hx rfl (hb hby d1_16) rfl rfl kk_) ?_
    show Go p e below s₁ (mkF m 17 #[.val (.ref a), .val (.int y), .val (.int z), .val (.int kk), .val (.int xx), .unset] [(.ref a)]) _
    refine Go.of (fun tg_ kk_ => XS.iloadN X0.here hx rfl (hb hby d1_17) rfl kk_) ?_
    show Go p e below s₁ (mkF m 18 #[.val (.ref a), .val (.int y), .val (.int z), .val (.int kk), .val (.int xx), .unset] [(.int y), (.ref a)]) _
    refine Go.of (fun tg_ kk_ => XS.iload X0.here hx rfl (hb hby d1_18) rfl kk_) ?_
    show Go p e below s₁ (mkF m 20 #[.val (.ref a), .val (.int y), .val (.int z), .val (.int kk), .val (.int xx), .unset] [(.int xx), (.int y), (.ref a)]) _
    refine Go.of (fun tg_ kk_ => XS.bipush X0.here hx rfl (hb hby d1_20) kk_) ?_
    show Go p e below s₁ (mkF m 22 #[.val (.ref a), .val (.int y), .val (.int z), .val (.int kk), .val (.int xx), .unset] [(.int (127 : Int32)), (.int xx), (.int y), (.ref a)]) _
    refine Go.of (fun tg_ kk_ => XS.iand X0.here hx rfl (hb hby d1_22) rfl kk_) ?_
    show Go p e below s₁ (mkF m 23 #[.val (.ref a), .val (.int y), .val (.int z), .val (.int kk), .val (.int xx), .unset] [(.int (xx &&& (127 : Int32))), (.int y), (.ref a)]) _
    refine Go.of (fun tg_ kk_ => XS.i2b X0.here hx rfl (hb hby d1_23) rfl kk_) ?_
    show Go p e below s₁ (mkF m 24 #[.val (.ref a), .val (.int y), .val (.int z), .val (.int kk), .val (.int xx), .unset] [(.int ((xx &&& (127 : Int32)).toInt8.toInt32)), (.int y), (.ref a)]) _
    have ib2 := (show ¬ (y < 0) ∧ (y).toNatClampNeg < 16 from hi0)
    obtain ⟨cl2, Ar2, S2, H2⟩ := Aa
    obtain ⟨T2, h2, X2, e2, W2, st2⟩ := stB X0 hx hZ e0 Ar2 (j := y) (Af.inb S2 ib2) (g := (mkF m 24 #[.val (.ref a), .val (.int y), .val (.int z), .val (.int kk), .val (.int xx), .unset] [(.int ((xx &&& (127 : Int32)).toInt8.toInt32)), (.int y), (.ref a)])) rfl rfl (hb hby d1_24)
    obtain ⟨f2, qf2⟩ : ∃ qq_ : Nat → Int32, qq_ = upd f (y).toNatClampNeg (nar .byte ((xx &&& (127 : Int32)).toInt8.toInt32)) := ⟨_, rfl⟩
    have V2 : Af Z h2 a .byte 16 f2 := by rw [qf2]; exact Af.set Ar2 S2 H2 W2 rfl
    have K4 := K0.wr W2 (Or.inl (List.mem_of_getElem? (i := 0) rfl))
    have Zs5 : n0 ≤ h2.size := Nat.le_trans Z0 (Keep.of_wr W2).1
    have N2 := Fr.snoc X2 N0 g_a
    refine Go.of (st2) ?_
    show Go p e below T2 (mkF m 25 #[.val (.ref a), .val (.int y), .val (.int z), .val (.int kk), .val (.int xx), .unset] []) _
    refine Go.of (fun tg_ kk_ => XS.iconst X2.here hx rfl (hb hby d1_25) kk_) ?_
    show Go p e below T2 (mkF m 26 #[.val (.ref a), .val (.int y), .val (.int z), .val (.int kk), .val (.int xx), .unset] [(.int (1 : Int32))]) _
    obtain ⟨fs, hr, hrun, hended, hW, hsame⟩ := X2.leave (v := some (.int (1 : Int32))) (fun h => by rw [Bd.returns] at h; cases h)
    refine ⟨_, _, ?_, hrun, hended, _, _, rfl, ?_, ⟨_, rfl⟩, hW, hsame.mono (by decide) (by decide)⟩
    · exact retOut X2 hx Bd.returns rfl (Or.inl ⟨rfl, Or.inl rfl, _, rfl⟩) (hb hby d1_26) hr
    · show Q1 Z a y z f h0 n0 _ T2.heap _
      rw [e2]
      exact ⟨_, by rw [← qkk, hc1]; rfl, N2, K4, V2, fun i hi => by rw [qf2, own_updne (own_ne0 hi)], by rw [qf2, own_upds, ← qkk, hc1]; exact own_len0⟩
  · skip
    refine Go.of (fun tg_ kk_ => XS.ifYes X0.here hx rfl (pc0 := 13) (pc' := 27) rfl (hb hby d1_13) rfl ((if0 _ _).trans (feq hc1).2) (by decide) (by decide) kk_) ?_
    show Go p e below s₁ (mkF m 27 #[.val (.ref a), .val (.int y), .val (.int z), .val (.int kk), .val (.int xx), .unset] []) _
    refine Go.of (fun tg_ kk_ => XS.iloadN X0.here hx rfl (hb hby d1_27) rfl kk_) ?_
    show Go p e below s₁ (mkF m 28 #[.val (.ref a), .val (.int y), .val (.int z), .val (.int kk), .val (.int xx), .unset] [(.int kk)]) _
    refine Go.of (fun tg_ kk_ => XS.iconst X0.here hx rfl (hb hby d1_28) kk_) ?_
    show Go p e below s₁ (mkF m 29 #[.val (.ref a), .val (.int y), .val (.int z), .val (.int kk), .val (.int xx), .unset] [(.int (1 : Int32)), (.int kk)]) _
    by_cases hc6 : kk = (1 : Int32)
    · skip
      refine Go.of (fun tg_ kk_ => XS.icmpNo X0.here hx rfl (hb hby d1_29) rfl (teq hc6).2 kk_) ?_
      show Go p e below s₁ (mkF m 32 #[.val (.ref a), .val (.int y), .val (.int z), .val (.int kk), .val (.int xx), .unset] []) _
      refine Go.of (fun tg_ kk_ => XS.aloadN X0.here hx rfl (hb hby d1_32) rfl rfl kk_) ?_
      show Go p e below s₁ (mkF m 33 #[.val (.ref a), .val (.int y), .val (.int z), .val (.int kk), .val (.int xx), .unset] [(.ref a)]) _
      refine Go.of (fun tg_ kk_ => XS.iloadN X0.here hx rfl (hb hby d1_33) rfl kk_) ?_
      show Go p e below s₁ (mkF m 34 #[.val (.ref a), .val (.int y), .val (.int z), .val (.int kk), .val (.int xx), .unset] [(.int y), (.ref a)]) _
      refine Go.of (fun tg_ kk_ => XS.sipush X0.here hx rfl (hb hby d1_34) kk_) ?_
      show Go p e below s₁ (mkF m 37 #[.val (.ref a), .val (.int y), .val (.int z), .val (.int kk), .val (.int xx), .unset] [(.int (194 : Int32)), (.int y), (.ref a)]) _
      refine Go.of (fun tg_ kk_ => XS.iload X0.here hx rfl (hb hby d1_37) rfl kk_) ?_
      show Go p e below s₁ (mkF m 39 #[.val (.ref a), .val (.int y), .val (.int z), .val (.int kk), .val (.int xx), .unset] [(.int xx), (.int (194 : Int32)), (.int y), (.ref a)]) _
      refine Go.of (fun tg_ kk_ => XS.bipush X0.here hx rfl (hb hby d1_39) kk_) ?_
      show Go p e below s₁ (mkF m 41 #[.val (.ref a), .val (.int y), .val (.int z), .val (.int kk), .val (.int xx), .unset] [(.int (30 : Int32)), (.int xx), (.int (194 : Int32)), (.int y), (.ref a)]) _
      refine Go.of (fun tg_ kk_ => Jvm.RoadKit.iremM (g := (mkF m 41 #[.val (.ref a), .val (.int y), .val (.int z), .val (.int kk), .val (.int xx), .unset] [(.int (30 : Int32)), (.int xx), (.int (194 : Int32)), (.int y), (.ref a)])) X0 hx rfl (hb hby d1_41) rfl (by decide) kk_) ?_
      show Go p e below s₁ (mkF m 42 #[.val (.ref a), .val (.int y), .val (.int z), .val (.int kk), .val (.int xx), .unset] [(.int (xx % (30 : Int32))), (.int (194 : Int32)), (.int y), (.ref a)]) _
      refine Go.of (fun tg_ kk_ => XS.iadd X0.here hx rfl (hb hby d1_42) rfl kk_) ?_
      show Go p e below s₁ (mkF m 43 #[.val (.ref a), .val (.int y), .val (.int z), .val (.int kk), .val (.int xx), .unset] [(.int ((194 : Int32) + (xx % (30 : Int32)))), (.int y), (.ref a)]) _
      refine Go.of (fun tg_ kk_ => XS.i2b X0.here hx rfl (hb hby d1_43) rfl kk_) ?_
      show Go p e below s₁ (mkF m 44 #[.val (.ref a), .val (.int y), .val (.int z), .val (.int kk), .val (.int xx), .unset] [(.int (((194 : Int32) + (xx % (30 : Int32))).toInt8.toInt32)), (.int y), (.ref a)]) _
      have ib7 := (show ¬ (y < 0) ∧ (y).toNatClampNeg < 16 from hi0)
      obtain ⟨cl7, Ar7, S7, H7⟩ := Aa
      obtain ⟨T7, h7, X7, e7, W7, st7⟩ := stB X0 hx hZ e0 Ar7 (j := y) (Af.inb S7 ib7) (g := (mkF m 44 #[.val (.ref a), .val (.int y), .val (.int z), .val (.int kk), .val (.int xx), .unset] [(.int (((194 : Int32) + (xx % (30 : Int32))).toInt8.toInt32)), (.int y), (.ref a)])) rfl rfl (hb hby d1_44)
      obtain ⟨f7, qf7⟩ : ∃ qq_ : Nat → Int32, qq_ = upd f (y).toNatClampNeg (nar .byte (((194 : Int32) + (xx % (30 : Int32))).toInt8.toInt32)) := ⟨_, rfl⟩
      have V7 : Af Z h7 a .byte 16 f7 := by rw [qf7]; exact Af.set Ar7 S7 H7 W7 rfl
      have K9 := K0.wr W7 (Or.inl (List.mem_of_getElem? (i := 0) rfl))
      have Zs10 : n0 ≤ h7.size := Nat.le_trans Z0 (Keep.of_wr W7).1
      have N7 := Fr.snoc X7 N0 g_a
      refine Go.of (st7) ?_
      show Go p e below T7 (mkF m 45 #[.val (.ref a), .val (.int y), .val (.int z), .val (.int kk), .val (.int xx), .unset] []) _
      refine Go.of (fun tg_ kk_ => XS.aloadN X7.here hx rfl (hb hby d1_45) rfl rfl kk_) ?_
      show Go p e below T7 (mkF m 46 #[.val (.ref a), .val (.int y), .val (.int z), .val (.int kk), .val (.int xx), .unset] [(.ref a)]) _
      refine Go.of (fun tg_ kk_ => XS.iloadN X7.here hx rfl (hb hby d1_46) rfl kk_) ?_
      show Go p e below T7 (mkF m 47 #[.val (.ref a), .val (.int y), .val (.int z), .val (.int kk), .val (.int xx), .unset] [(.int y), (.ref a)]) _
      refine Go.of (fun tg_ kk_ => XS.iconst X7.here hx rfl (hb hby d1_47) kk_) ?_
      show Go p e below T7 (mkF m 48 #[.val (.ref a), .val (.int y), .val (.int z), .val (.int kk), .val (.int xx), .unset] [(.int (1 : Int32)), (.int y), (.ref a)]) _
      refine Go.of (fun tg_ kk_ => XS.iadd X7.here hx rfl (hb hby d1_48) rfl kk_) ?_
      show Go p e below T7 (mkF m 49 #[.val (.ref a), .val (.int y), .val (.int z), .val (.int kk), .val (.int xx), .unset] [(.int (y + (1 : Int32))), (.ref a)]) _
      refine Go.of (fun tg_ kk_ => XS.sipush X7.here hx rfl (hb hby d1_49) kk_) ?_
      show Go p e below T7 (mkF m 52 #[.val (.ref a), .val (.int y), .val (.int z), .val (.int kk), .val (.int xx), .unset] [(.int (128 : Int32)), (.int (y + (1 : Int32))), (.ref a)]) _
      refine Go.of (fun tg_ kk_ => XS.iload X7.here hx rfl (hb hby d1_52) rfl kk_) ?_
      show Go p e below T7 (mkF m 54 #[.val (.ref a), .val (.int y), .val (.int z), .val (.int kk), .val (.int xx), .unset] [(.int xx), (.int (128 : Int32)), (.int (y + (1 : Int32))), (.ref a)]) _
      refine Go.of (fun tg_ kk_ => XS.bipush X7.here hx rfl (hb hby d1_54) kk_) ?_
      show Go p e below T7 (mkF m 56 #[.val (.ref a), .val (.int y), .val (.int z), .val (.int kk), .val (.int xx), .unset] [(.int (8 : Int32)), (.int xx), (.int (128 : Int32)), (.int (y + (1 : Int32))), (.ref a)]) _
      refine Go.of (fun tg_ kk_ => XS.iushr X7.here hx rfl (hb hby d1_56) rfl kk_) ?_
      show Go p e below T7 (mkF m 57 #[.val (.ref a), .val (.int y), .val (.int z), .val (.int kk), .val (.int xx), .unset] [(.int ((xx.toUInt32 >>> ((8 : Int32) &&& 31).toUInt32).toInt32)), (.int (128 : Int32)), (.int (y + (1 : Int32))), (.ref a)]) _
      refine Go.of (fun tg_ kk_ => XS.bipush X7.here hx rfl (hb hby d1_57) kk_) ?_
      show Go p e below T7 (mkF m 59 #[.val (.ref a), .val (.int y), .val (.int z), .val (.int kk), .val (.int xx), .unset] [(.int (63 : Int32)), (.int ((xx.toUInt32 >>> ((8 : Int32) &&& 31).toUInt32).toInt32)), (.int (128 : Int32)), (.int (y + (1 : Int32))), (.ref a)]) _
      refine Go.of (fun tg_ kk_ => XS.iand X7.here hx rfl (hb hby d1_59) rfl kk_) ?_
      show Go p e below T7 (mkF m 60 #[.val (.ref a), .val (.int y), .val (.int z), .val (.int kk), .val (.int xx), .unset] [(.int (((xx.toUInt32 >>> ((8 : Int32) &&& 31).toUInt32).toInt32) &&& (63 : Int32))), (.int (128 : Int32)), (.int (y + (1 : Int32))), (.ref a)]) _
      refine Go.of (fun tg_ kk_ => XS.ior X7.here hx rfl (hb hby d1_60) rfl kk_) ?_
      show Go p e below T7 (mkF m 61 #[.val (.ref a), .val (.int y), .val (.int z), .val (.int kk), .val (.int xx), .unset] [(.int ((128 : Int32) ||| (((xx.toUInt32 >>> ((8 : Int32) &&& 31).toUInt32).toInt32) &&& (63 : Int32)))), (.int (y + (1 : Int32))), (.ref a)]) _
      refine Go.of (fun tg_ kk_ => XS.i2b X7.here hx rfl (hb hby d1_61) rfl kk_) ?_
      show Go p e below T7 (mkF m 62 #[.val (.ref a), .val (.int y), .val (.int z), .val (.int kk), .val (.int xx), .unset] [(.int (((128 : Int32) ||| (((xx.toUInt32 >>> ((8 : Int32) &&& 31).toUInt32).toInt32) &&& (63 : Int32))).toInt8.toInt32)), (.int (y + (1 : Int32))), (.ref a)]) _
      have ib11 := (show ¬ ((y + (1 : Int32)) < 0) ∧ ((y + (1 : Int32))).toNatClampNeg < 16 from hi1)
      obtain ⟨cl11, Ar11, S11, H11⟩ := V7
      obtain ⟨T11, h11, X11, e11, W11, st11⟩ := stB X7 hx hZ e7 Ar11 (j := (y + (1 : Int32))) (Af.inb S11 ib11) (g := (mkF m 62 #[.val (.ref a), .val (.int y), .val (.int z), .val (.int kk), .val (.int xx), .unset] [(.int (((128 : Int32) ||| (((xx.toUInt32 >>> ((8 : Int32) &&& 31).toUInt32).toInt32) &&& (63 : Int32))).toInt8.toInt32)), (.int (y + (1 : Int32))), (.ref a)])) rfl rfl (hb hby d1_62)
      obtain ⟨f11, qf11⟩ : ∃ qq_ : Nat → Int32, qq_ = upd f7 ((y + (1 : Int32))).toNatClampNeg (nar .byte (((128 : Int32) ||| (((xx.toUInt32 >>> ((8 : Int32) &&& 31).toUInt32).toInt32) &&& (63 : Int32))).toInt8.toInt32)) := ⟨_, rfl⟩
      have V11 : Af Z h11 a .byte 16 f11 := by rw [qf11]; exact Af.set Ar11 S11 H11 W11 rfl
      have K13 := K9.wr W11 (Or.inl (List.mem_of_getElem? (i := 0) rfl))
      have Zs14 : n0 ≤ h11.size := Nat.le_trans Zs10 (Keep.of_wr W11).1
      have N11 := Fr.snoc X11 N7 g_a
      refine Go.of (st11) ?_
      show Go p e below T11 (mkF m 63 #[.val (.ref a), .val (.int y), .val (.int z), .val (.int kk), .val (.int xx), .unset] []) _
      refine Go.of (fun tg_ kk_ => XS.iconst X11.here hx rfl (hb hby d1_63) kk_) ?_
      show Go p e below T11 (mkF m 64 #[.val (.ref a), .val (.int y), .val (.int z), .val (.int kk), .val (.int xx), .unset] [(.int (2 : Int32))]) _
      obtain ⟨fs, hr, hrun, hended, hW, hsame⟩ := X11.leave (v := some (.int (2 : Int32))) (fun h => by rw [Bd.returns] at h; cases h)
      refine ⟨_, _, ?_, hrun, hended, _, _, rfl, ?_, ⟨_, rfl⟩, hW, hsame.mono (by decide) (by decide)⟩
      · exact retOut X11 hx Bd.returns rfl (Or.inl ⟨rfl, Or.inl rfl, _, rfl⟩) (hb hby d1_64) hr
      · show Q1 Z a y z f h0 n0 _ T11.heap _
        rw [e11]
        exact ⟨_, by rw [← qkk, hc6]; rfl, N11, K13, V11, fun i hi => by rw [qf11, own_updne (own_nec (n := 1) hy hi (by decide) (by decide)), qf7, own_updne (own_ne0 hi)], by rw [qf11, own_updne (own_yc (n := 1) hy (by decide) (by decide) (by decide)), qf7, own_upds, ← qkk, hc6]; exact own_len1 (own_xx qxx)⟩
    · skip
      refine Go.of (fun tg_ kk_ => XS.icmpYes X0.here hx rfl (pc0 := 29) (pc' := 65) rfl (hb hby d1_29) rfl (feq hc6).2 (by decide) (by decide) kk_) ?_
      show Go p e below s₁ (mkF m 65 #[.val (.ref a), .val (.int y), .val (.int z), .val (.int kk), .val (.int xx), .unset] []) _
      refine Go.of (fun tg_ kk_ => XS.iloadN X0.here hx rfl (hb hby d1_65) rfl kk_) ?_
      show Go p e below s₁ (mkF m 66 #[.val (.ref a), .val (.int y), .val (.int z), .val (.int kk), .val (.int xx), .unset] [(.int kk)]) _
      refine Go.of (fun tg_ kk_ => XS.iconst X0.here hx rfl (hb hby d1_66) kk_) ?_
      show Go p e below s₁ (mkF m 67 #[.val (.ref a), .val (.int y), .val (.int z), .val (.int kk), .val (.int xx), .unset] [(.int (2 : Int32)), (.int kk)]) _
      by_cases hc15 : kk = (2 : Int32)
      · skip
        refine Go.of (fun tg_ kk_ => XS.icmpNo X0.here hx rfl (hb hby d1_67) rfl (teq hc15).2 kk_) ?_
        show Go p e below s₁ (mkF m 70 #[.val (.ref a), .val (.int y), .val (.int z), .val (.int kk), .val (.int xx), .unset] []) _
        refine Go.of (fun tg_ kk_ => XS.sipush X0.here hx rfl (hb hby d1_70) kk_) ?_
        show Go p e below s₁ (mkF m 73 #[.val (.ref a), .val (.int y), .val (.int z), .val (.int kk), .val (.int xx), .unset] [(.int (224 : Int32))]) _
        refine Go.of (fun tg_ kk_ => XS.iload X0.here hx rfl (hb hby d1_73) rfl kk_) ?_
        show Go p e below s₁ (mkF m 75 #[.val (.ref a), .val (.int y), .val (.int z), .val (.int kk), .val (.int xx), .unset] [(.int xx), (.int (224 : Int32))]) _
        refine Go.of (fun tg_ kk_ => XS.bipush X0.here hx rfl (hb hby d1_75) kk_) ?_
        show Go p e below s₁ (mkF m 77 #[.val (.ref a), .val (.int y), .val (.int z), .val (.int kk), .val (.int xx), .unset] [(.int (15 : Int32)), (.int xx), (.int (224 : Int32))]) _
        refine Go.of (fun tg_ kk_ => XS.iand X0.here hx rfl (hb hby d1_77) rfl kk_) ?_
        show Go p e below s₁ (mkF m 78 #[.val (.ref a), .val (.int y), .val (.int z), .val (.int kk), .val (.int xx), .unset] [(.int (xx &&& (15 : Int32))), (.int (224 : Int32))]) _
        refine Go.of (fun tg_ kk_ => XS.iadd X0.here hx rfl (hb hby d1_78) rfl kk_) ?_
        show Go p e below s₁ (mkF m 79 #[.val (.ref a), .val (.int y), .val (.int z), .val (.int kk), .val (.int xx), .unset] [(.int ((224 : Int32) + (xx &&& (15 : Int32))))]) _
        refine Go.of (fun tg_ kk_ => XS.istore X0.here hx rfl (hb hby d1_79) rfl (l' := #[.val (.ref a), .val (.int y), .val (.int z), .val (.int kk), .val (.int xx), .val (.int ((224 : Int32) + (xx &&& (15 : Int32))))]) rfl kk_) ?_
        show Go p e below s₁ (mkF m 81 #[.val (.ref a), .val (.int y), .val (.int z), .val (.int kk), .val (.int xx), .val (.int ((224 : Int32) + (xx &&& (15 : Int32))))] []) _
        refine Go.of (fun tg_ kk_ => XS.aloadN X0.here hx rfl (hb hby d1_81) rfl rfl kk_) ?_
        show Go p e below s₁ (mkF m 82 #[.val (.ref a), .val (.int y), .val (.int z), .val (.int kk), .val (.int xx), .val (.int ((224 : Int32) + (xx &&& (15 : Int32))))] [(.ref a)]) _
        refine Go.of (fun tg_ kk_ => XS.iloadN X0.here hx rfl (hb hby d1_82) rfl kk_) ?_
        show Go p e below s₁ (mkF m 83 #[.val (.ref a), .val (.int y), .val (.int z), .val (.int kk), .val (.int xx), .val (.int ((224 : Int32) + (xx &&& (15 : Int32))))] [(.int y), (.ref a)]) _
        refine Go.of (fun tg_ kk_ => XS.iload X0.here hx rfl (hb hby d1_83) rfl kk_) ?_
        show Go p e below s₁ (mkF m 85 #[.val (.ref a), .val (.int y), .val (.int z), .val (.int kk), .val (.int xx), .val (.int ((224 : Int32) + (xx &&& (15 : Int32))))] [(.int ((224 : Int32) + (xx &&& (15 : Int32)))), (.int y), (.ref a)]) _
        refine Go.of (fun tg_ kk_ => XS.i2b X0.here hx rfl (hb hby d1_85) rfl kk_) ?_
        show Go p e below s₁ (mkF m 86 #[.val (.ref a), .val (.int y), .val (.int z), .val (.int kk), .val (.int xx), .val (.int ((224 : Int32) + (xx &&& (15 : Int32))))] [(.int (((224 : Int32) + (xx &&& (15 : Int32))).toInt8.toInt32)), (.int y), (.ref a)]) _
        have ib16 := (show ¬ (y < 0) ∧ (y).toNatClampNeg < 16 from hi0)
        obtain ⟨cl16, Ar16, S16, H16⟩ := Aa
        obtain ⟨T16, h16, X16, e16, W16, st16⟩ := stB X0 hx hZ e0 Ar16 (j := y) (Af.inb S16 ib16) (g := (mkF m 86 #[.val (.ref a), .val (.int y), .val (.int z), .val (.int kk), .val (.int xx), .val (.int ((224 : Int32) + (xx &&& (15 : Int32))))] [(.int (((224 : Int32) + (xx &&& (15 : Int32))).toInt8.toInt32)), (.int y), (.ref a)])) rfl rfl (hb hby d1_86)
        obtain ⟨f16, qf16⟩ : ∃ qq_ : Nat → Int32, qq_ = upd f (y).toNatClampNeg (nar .byte (((224 : Int32) + (xx &&& (15 : Int32))).toInt8.toInt32)) := ⟨_, rfl⟩
        have V16 : Af Z h16 a .byte 16 f16 := by rw [qf16]; exact Af.set Ar16 S16 H16 W16 rfl
        have K18 := K0.wr W16 (Or.inl (List.mem_of_getElem? (i := 0) rfl))
        have Zs19 : n0 ≤ h16.size := Nat.le_trans Z0 (Keep.of_wr W16).1
        have N16 := Fr.snoc X16 N0 g_a
        refine Go.of (st16) ?_
        show Go p e below T16 (mkF m 87 #[.val (.ref a), .val (.int y), .val (.int z), .val (.int kk), .val (.int xx), .val (.int ((224 : Int32) + (xx &&& (15 : Int32))))] []) _
        refine Go.of (fun tg_ kk_ => XS.aloadN X16.here hx rfl (hb hby d1_87) rfl rfl kk_) ?_
        show Go p e below T16 (mkF m 88 #[.val (.ref a), .val (.int y), .val (.int z), .val (.int kk), .val (.int xx), .val (.int ((224 : Int32) + (xx &&& (15 : Int32))))] [(.ref a)]) _
        refine Go.of (fun tg_ kk_ => XS.iloadN X16.here hx rfl (hb hby d1_88) rfl kk_) ?_
        show Go p e below T16 (mkF m 89 #[.val (.ref a), .val (.int y), .val (.int z), .val (.int kk), .val (.int xx), .val (.int ((224 : Int32) + (xx &&& (15 : Int32))))] [(.int y), (.ref a)]) _
        refine Go.of (fun tg_ kk_ => XS.iconst X16.here hx rfl (hb hby d1_89) kk_) ?_
        show Go p e below T16 (mkF m 90 #[.val (.ref a), .val (.int y), .val (.int z), .val (.int kk), .val (.int xx), .val (.int ((224 : Int32) + (xx &&& (15 : Int32))))] [(.int (1 : Int32)), (.int y), (.ref a)]) _
        refine Go.of (fun tg_ kk_ => XS.iadd X16.here hx rfl (hb hby d1_90) rfl kk_) ?_
        show Go p e below T16 (mkF m 91 #[.val (.ref a), .val (.int y), .val (.int z), .val (.int kk), .val (.int xx), .val (.int ((224 : Int32) + (xx &&& (15 : Int32))))] [(.int (y + (1 : Int32))), (.ref a)]) _
        refine Go.of (fun tg_ kk_ => XS.iload X16.here hx rfl (hb hby d1_91) rfl kk_) ?_
        show Go p e below T16 (mkF m 93 #[.val (.ref a), .val (.int y), .val (.int z), .val (.int kk), .val (.int xx), .val (.int ((224 : Int32) + (xx &&& (15 : Int32))))] [(.int ((224 : Int32) + (xx &&& (15 : Int32)))), (.int (y + (1 : Int32))), (.ref a)]) _
        refine Go.of (fun tg_ kk_ => XS.sipush X16.here hx rfl (hb hby d1_93) kk_) ?_
        show Go p e below T16 (mkF m 96 #[.val (.ref a), .val (.int y), .val (.int z), .val (.int kk), .val (.int xx), .val (.int ((224 : Int32) + (xx &&& (15 : Int32))))] [(.int (224 : Int32)), (.int ((224 : Int32) + (xx &&& (15 : Int32)))), (.int (y + (1 : Int32))), (.ref a)]) _
        have st20 : ∀ sb : Int32, sb = (if ((224 : Int32) + (xx &&& (15 : Int32))) = (224 : Int32) then (160 : Int32) else (128 : Int32)) → ∀ t, Steps p.tables e below (T16.setTop (mkF m 108 #[.val (.ref a), .val (.int y), .val (.int z), .val (.int kk), .val (.int xx), .val (.int ((224 : Int32) + (xx &&& (15 : Int32))))] [(.int sb), (.int (y + (1 : Int32))), (.ref a)])) t → Steps p.tables e below (T16.setTop (mkF m 96 #[.val (.ref a), .val (.int y), .val (.int z), .val (.int kk), .val (.int xx), .val (.int ((224 : Int32) + (xx &&& (15 : Int32))))] [(.int (224 : Int32)), (.int ((224 : Int32) + (xx &&& (15 : Int32)))), (.int (y + (1 : Int32))), (.ref a)])) t := by
          intro sb qsb tg_ kk_
          by_cases hc : ((224 : Int32) + (xx &&& (15 : Int32))) = (224 : Int32)
          · rw [if_pos hc] at qsb; rw [qsb] at kk_
            show Steps p.tables e below (T16.setTop (mkF m 96 #[.val (.ref a), .val (.int y), .val (.int z), .val (.int kk), .val (.int xx), .val (.int ((224 : Int32) + (xx &&& (15 : Int32))))] [(.int (224 : Int32)), (.int ((224 : Int32) + (xx &&& (15 : Int32)))), (.int (y + (1 : Int32))), (.ref a)])) _
            refine XS.icmpNo X16.here hx rfl (hb hby d1_96) rfl (teq hc).2 ?_
            show Steps p.tables e below (T16.setTop (mkF m 99 #[.val (.ref a), .val (.int y), .val (.int z), .val (.int kk), .val (.int xx), .val (.int ((224 : Int32) + (xx &&& (15 : Int32))))] [(.int (y + (1 : Int32))), (.ref a)])) _
            refine XS.sipush X16.here hx rfl (hb hby d1_99) ?_
            show Steps p.tables e below (T16.setTop (mkF m 102 #[.val (.ref a), .val (.int y), .val (.int z), .val (.int kk), .val (.int xx), .val (.int ((224 : Int32) + (xx &&& (15 : Int32))))] [(.int (160 : Int32)), (.int (y + (1 : Int32))), (.ref a)])) _
            refine XS.goto X16.here hx rfl (pc0 := 102) (pc' := 108) rfl (hb hby d1_102) (by decide) (by decide) ?_
            show Steps p.tables e below (T16.setTop (mkF m 108 #[.val (.ref a), .val (.int y), .val (.int z), .val (.int kk), .val (.int xx), .val (.int ((224 : Int32) + (xx &&& (15 : Int32))))] [(.int (160 : Int32)), (.int (y + (1 : Int32))), (.ref a)])) _
            exact kk_
          · rw [if_neg hc] at qsb; rw [qsb] at kk_
            show Steps p.tables e below (T16.setTop (mkF m 96 #[.val (.ref a), .val (.int y), .val (.int z), .val (.int kk), .val (.int xx), .val (.int ((224 : Int32) + (xx &&& (15 : Int32))))] [(.int (224 : Int32)), (.int ((224 : Int32) + (xx &&& (15 : Int32)))), (.int (y + (1 : Int32))), (.ref a)])) _
            refine XS.icmpYes X16.here hx rfl (pc0 := 96) (pc' := 105) rfl (hb hby d1_96) rfl (feq hc).2 (by decide) (by decide) ?_
            show Steps p.tables e below (T16.setTop (mkF m 105 #[.val (.ref a), .val (.int y), .val (.int z), .val (.int kk), .val (.int xx), .val (.int ((224 : Int32) + (xx &&& (15 : Int32))))] [(.int (y + (1 : Int32))), (.ref a)])) _
            refine XS.sipush X16.here hx rfl (hb hby d1_105) ?_
            show Steps p.tables e below (T16.setTop (mkF m 108 #[.val (.ref a), .val (.int y), .val (.int z), .val (.int kk), .val (.int xx), .val (.int ((224 : Int32) + (xx &&& (15 : Int32))))] [(.int (128 : Int32)), (.int (y + (1 : Int32))), (.ref a)])) _
            exact kk_
        obtain ⟨sb, qsb⟩ : ∃ zz_ : Int32, zz_ = (if ((224 : Int32) + (xx &&& (15 : Int32))) = (224 : Int32) then (160 : Int32) else (128 : Int32)) := ⟨_, rfl⟩
        refine Go.of (st20 sb qsb) ?_
        show Go p e below T16 (mkF m 108 #[.val (.ref a), .val (.int y), .val (.int z), .val (.int kk), .val (.int xx), .val (.int ((224 : Int32) + (xx &&& (15 : Int32))))] [(.int sb), (.int (y + (1 : Int32))), (.ref a)]) _
        refine Go.of (fun tg_ kk_ => XS.i2b X16.here hx rfl (hb hby d1_108) rfl kk_) ?_
        show Go p e below T16 (mkF m 109 #[.val (.ref a), .val (.int y), .val (.int z), .val (.int kk), .val (.int xx), .val (.int ((224 : Int32) + (xx &&& (15 : Int32))))] [(.int (sb.toInt8.toInt32)), (.int (y + (1 : Int32))), (.ref a)]) _
        have ib21 := (show ¬ ((y + (1 : Int32)) < 0) ∧ ((y + (1 : Int32))).toNatClampNeg < 16 from hi1)
        obtain ⟨cl21, Ar21, S21, H21⟩ := V16
        obtain ⟨T21, h21, X21, e21, W21, st21⟩ := stB X16 hx hZ e16 Ar21 (j := (y + (1 : Int32))) (Af.inb S21 ib21) (g := (mkF m 109 #[.val (.ref a), .val (.int y), .val (.int z), .val (.int kk), .val (.int xx), .val (.int ((224 : Int32) + (xx &&& (15 : Int32))))] [(.int (sb.toInt8.toInt32)), (.int (y + (1 : Int32))), (.ref a)])) rfl rfl (hb hby d1_109)
        obtain ⟨f21, qf21⟩ : ∃ qq_ : Nat → Int32, qq_ = upd f16 ((y + (1 : Int32))).toNatClampNeg (nar .byte (sb.toInt8.toInt32)) := ⟨_, rfl⟩
        have V21 : Af Z h21 a .byte 16 f21 := by rw [qf21]; exact Af.set Ar21 S21 H21 W21 rfl
        have K23 := K18.wr W21 (Or.inl (List.mem_of_getElem? (i := 0) rfl))
        have Zs24 : n0 ≤ h21.size := Nat.le_trans Zs19 (Keep.of_wr W21).1
        have N21 := Fr.snoc X21 N16 g_a
        refine Go.of (st21) ?_
        show Go p e below T21 (mkF m 110 #[.val (.ref a), .val (.int y), .val (.int z), .val (.int kk), .val (.int xx), .val (.int ((224 : Int32) + (xx &&& (15 : Int32))))] []) _
        refine Go.of (fun tg_ kk_ => XS.aloadN X21.here hx rfl (hb hby d1_110) rfl rfl kk_) ?_
        show Go p e below T21 (mkF m 111 #[.val (.ref a), .val (.int y), .val (.int z), .val (.int kk), .val (.int xx), .val (.int ((224 : Int32) + (xx &&& (15 : Int32))))] [(.ref a)]) _
        refine Go.of (fun tg_ kk_ => XS.iloadN X21.here hx rfl (hb hby d1_111) rfl kk_) ?_
        show Go p e below T21 (mkF m 112 #[.val (.ref a), .val (.int y), .val (.int z), .val (.int kk), .val (.int xx), .val (.int ((224 : Int32) + (xx &&& (15 : Int32))))] [(.int y), (.ref a)]) _
        refine Go.of (fun tg_ kk_ => XS.iconst X21.here hx rfl (hb hby d1_112) kk_) ?_
        show Go p e below T21 (mkF m 113 #[.val (.ref a), .val (.int y), .val (.int z), .val (.int kk), .val (.int xx), .val (.int ((224 : Int32) + (xx &&& (15 : Int32))))] [(.int (2 : Int32)), (.int y), (.ref a)]) _
        refine Go.of (fun tg_ kk_ => XS.iadd X21.here hx rfl (hb hby d1_113) rfl kk_) ?_
        show Go p e below T21 (mkF m 114 #[.val (.ref a), .val (.int y), .val (.int z), .val (.int kk), .val (.int xx), .val (.int ((224 : Int32) + (xx &&& (15 : Int32))))] [(.int (y + (2 : Int32))), (.ref a)]) _
        refine Go.of (fun tg_ kk_ => XS.sipush X21.here hx rfl (hb hby d1_114) kk_) ?_
        show Go p e below T21 (mkF m 117 #[.val (.ref a), .val (.int y), .val (.int z), .val (.int kk), .val (.int xx), .val (.int ((224 : Int32) + (xx &&& (15 : Int32))))] [(.int (128 : Int32)), (.int (y + (2 : Int32))), (.ref a)]) _
        refine Go.of (fun tg_ kk_ => XS.iload X21.here hx rfl (hb hby d1_117) rfl kk_) ?_
        show Go p e below T21 (mkF m 119 #[.val (.ref a), .val (.int y), .val (.int z), .val (.int kk), .val (.int xx), .val (.int ((224 : Int32) + (xx &&& (15 : Int32))))] [(.int xx), (.int (128 : Int32)), (.int (y + (2 : Int32))), (.ref a)]) _
        refine Go.of (fun tg_ kk_ => XS.iconst X21.here hx rfl (hb hby d1_119) kk_) ?_
        show Go p e below T21 (mkF m 120 #[.val (.ref a), .val (.int y), .val (.int z), .val (.int kk), .val (.int xx), .val (.int ((224 : Int32) + (xx &&& (15 : Int32))))] [(.int (4 : Int32)), (.int xx), (.int (128 : Int32)), (.int (y + (2 : Int32))), (.ref a)]) _
        refine Go.of (fun tg_ kk_ => XS.iushr X21.here hx rfl (hb hby d1_120) rfl kk_) ?_
        show Go p e below T21 (mkF m 121 #[.val (.ref a), .val (.int y), .val (.int z), .val (.int kk), .val (.int xx), .val (.int ((224 : Int32) + (xx &&& (15 : Int32))))] [(.int ((xx.toUInt32 >>> ((4 : Int32) &&& 31).toUInt32).toInt32)), (.int (128 : Int32)), (.int (y + (2 : Int32))), (.ref a)]) _
        refine Go.of (fun tg_ kk_ => XS.bipush X21.here hx rfl (hb hby d1_121) kk_) ?_
        show Go p e below T21 (mkF m 123 #[.val (.ref a), .val (.int y), .val (.int z), .val (.int kk), .val (.int xx), .val (.int ((224 : Int32) + (xx &&& (15 : Int32))))] [(.int (63 : Int32)), (.int ((xx.toUInt32 >>> ((4 : Int32) &&& 31).toUInt32).toInt32)), (.int (128 : Int32)), (.int (y + (2 : Int32))), (.ref a)]) _
        refine Go.of (fun tg_ kk_ => XS.iand X21.here hx rfl (hb hby d1_123) rfl kk_) ?_
        show Go p e below T21 (mkF m 124 #[.val (.ref a), .val (.int y), .val (.int z), .val (.int kk), .val (.int xx), .val (.int ((224 : Int32) + (xx &&& (15 : Int32))))] [(.int (((xx.toUInt32 >>> ((4 : Int32) &&& 31).toUInt32).toInt32) &&& (63 : Int32))), (.int (128 : Int32)), (.int (y + (2 : Int32))), (.ref a)]) _
        refine Go.of (fun tg_ kk_ => XS.ior X21.here hx rfl (hb hby d1_124) rfl kk_) ?_
        show Go p e below T21 (mkF m 125 #[.val (.ref a), .val (.int y), .val (.int z), .val (.int kk), .val (.int xx), .val (.int ((224 : Int32) + (xx &&& (15 : Int32))))] [(.int ((128 : Int32) ||| (((xx.toUInt32 >>> ((4 : Int32) &&& 31).toUInt32).toInt32) &&& (63 : Int32)))), (.int (y + (2 : Int32))), (.ref a)]) _
        refine Go.of (fun tg_ kk_ => XS.i2b X21.here hx rfl (hb hby d1_125) rfl kk_) ?_
        show Go p e below T21 (mkF m 126 #[.val (.ref a), .val (.int y), .val (.int z), .val (.int kk), .val (.int xx), .val (.int ((224 : Int32) + (xx &&& (15 : Int32))))] [(.int (((128 : Int32) ||| (((xx.toUInt32 >>> ((4 : Int32) &&& 31).toUInt32).toInt32) &&& (63 : Int32))).toInt8.toInt32)), (.int (y + (2 : Int32))), (.ref a)]) _
        have ib25 := (show ¬ ((y + (2 : Int32)) < 0) ∧ ((y + (2 : Int32))).toNatClampNeg < 16 from hi2)
        obtain ⟨cl25, Ar25, S25, H25⟩ := V21
        obtain ⟨T25, h25, X25, e25, W25, st25⟩ := stB X21 hx hZ e21 Ar25 (j := (y + (2 : Int32))) (Af.inb S25 ib25) (g := (mkF m 126 #[.val (.ref a), .val (.int y), .val (.int z), .val (.int kk), .val (.int xx), .val (.int ((224 : Int32) + (xx &&& (15 : Int32))))] [(.int (((128 : Int32) ||| (((xx.toUInt32 >>> ((4 : Int32) &&& 31).toUInt32).toInt32) &&& (63 : Int32))).toInt8.toInt32)), (.int (y + (2 : Int32))), (.ref a)])) rfl rfl (hb hby d1_126)
        obtain ⟨f25, qf25⟩ : ∃ qq_ : Nat → Int32, qq_ = upd f21 ((y + (2 : Int32))).toNatClampNeg (nar .byte (((128 : Int32) ||| (((xx.toUInt32 >>> ((4 : Int32) &&& 31).toUInt32).toInt32) &&& (63 : Int32))).toInt8.toInt32)) := ⟨_, rfl⟩
        have V25 : Af Z h25 a .byte 16 f25 := by rw [qf25]; exact Af.set Ar25 S25 H25 W25 rfl
        have K27 := K23.wr W25 (Or.inl (List.mem_of_getElem? (i := 0) rfl))
        have Zs28 : n0 ≤ h25.size := Nat.le_trans Zs24 (Keep.of_wr W25).1
        have N25 := Fr.snoc X25 N21 g_a
        refine Go.of (st25) ?_
        show Go p e below T25 (mkF m 127 #[.val (.ref a), .val (.int y), .val (.int z), .val (.int kk), .val (.int xx), .val (.int ((224 : Int32) + (xx &&& (15 : Int32))))] []) _
        refine Go.of (fun tg_ kk_ => XS.iconst X25.here hx rfl (hb hby d1_127) kk_) ?_
        show Go p e below T25 (mkF m 128 #[.val (.ref a), .val (.int y), .val (.int z), .val (.int kk), .val (.int xx), .val (.int ((224 : Int32) + (xx &&& (15 : Int32))))] [(.int (3 : Int32))]) _
        obtain ⟨fs, hr, hrun, hended, hW, hsame⟩ := X25.leave (v := some (.int (3 : Int32))) (fun h => by rw [Bd.returns] at h; cases h)
        refine ⟨_, _, ?_, hrun, hended, _, _, rfl, ?_, ⟨_, rfl⟩, hW, hsame.mono (by decide) (by decide)⟩
        · exact retOut X25 hx Bd.returns rfl (Or.inl ⟨rfl, Or.inl rfl, _, rfl⟩) (hb hby d1_128) hr
        · show Q1 Z a y z f h0 n0 _ T25.heap _
          rw [e25]
          exact ⟨_, by rw [← qkk, hc15]; rfl, N25, K27, V25, fun i hi => by rw [qf25, own_updne (own_nec (n := 2) hy hi (by decide) (by decide)), qf21, own_updne (own_nec (n := 1) hy hi (by decide) (by decide)), qf16, own_updne (own_ne0 hi)], by rw [qf25, own_updne (own_yc (n := 2) hy (by decide) (by decide) (by decide)), qf21, own_updne (own_yc (n := 1) hy (by decide) (by decide) (by decide)), qf16, own_upds, ← qkk, hc15]; exact own_len2 (own_xx qxx)⟩
      · skip
        refine Go.of (fun tg_ kk_ => XS.icmpYes X0.here hx rfl (pc0 := 67) (pc' := 129) rfl (hb hby d1_67) rfl (feq hc15).2 (by decide) (by decide) kk_) ?_
        show Go p e below s₁ (mkF m 129 #[.val (.ref a), .val (.int y), .val (.int z), .val (.int kk), .val (.int xx), .unset] []) _
        refine Go.of (fun tg_ kk_ => XS.sipush X0.here hx rfl (hb hby d1_129) kk_) ?_
        show Go p e below s₁ (mkF m 132 #[.val (.ref a), .val (.int y), .val (.int z), .val (.int kk), .val (.int xx), .unset] [(.int (240 : Int32))]) _
        refine Go.of (fun tg_ kk_ => XS.iload X0.here hx rfl (hb hby d1_132) rfl kk_) ?_
        show Go p e below s₁ (mkF m 134 #[.val (.ref a), .val (.int y), .val (.int z), .val (.int kk), .val (.int xx), .unset] [(.int xx), (.int (240 : Int32))]) _
        refine Go.of (fun tg_ kk_ => XS.iconst X0.here hx rfl (hb hby d1_134) kk_) ?_
        show Go p e below s₁ (mkF m 135 #[.val (.ref a), .val (.int y), .val (.int z), .val (.int kk), .val (.int xx), .unset] [(.int (5 : Int32)), (.int xx), (.int (240 : Int32))]) _
        refine Go.of (fun tg_ kk_ => Jvm.RoadKit.iremM (g := (mkF m 135 #[.val (.ref a), .val (.int y), .val (.int z), .val (.int kk), .val (.int xx), .unset] [(.int (5 : Int32)), (.int xx), (.int (240 : Int32))])) X0 hx rfl (hb hby d1_135) rfl (by decide) kk_) ?_
        show Go p e below s₁ (mkF m 136 #[.val (.ref a), .val (.int y), .val (.int z), .val (.int kk), .val (.int xx), .unset] [(.int (xx % (5 : Int32))), (.int (240 : Int32))]) _
        refine Go.of (fun tg_ kk_ => XS.iadd X0.here hx rfl (hb hby d1_136) rfl kk_) ?_
        show Go p e below s₁ (mkF m 137 #[.val (.ref a), .val (.int y), .val (.int z), .val (.int kk), .val (.int xx), .unset] [(.int ((240 : Int32) + (xx % (5 : Int32))))]) _
        refine Go.of (fun tg_ kk_ => XS.istore X0.here hx rfl (hb hby d1_137) rfl (l' := #[.val (.ref a), .val (.int y), .val (.int z), .val (.int kk), .val (.int xx), .val (.int ((240 : Int32) + (xx % (5 : Int32))))]) rfl kk_) ?_
        show Go p e below s₁ (mkF m 139 #[.val (.ref a), .val (.int y), .val (.int z), .val (.int kk), .val (.int xx), .val (.int ((240 : Int32) + (xx % (5 : Int32))))] []) _
        refine Go.of (fun tg_ kk_ => XS.aloadN X0.here hx rfl (hb hby d1_139) rfl rfl kk_) ?_
        show Go p e below s₁ (mkF m 140 #[.val (.ref a), .val (.int y), .val (.int z), .val (.int kk), .val (.int xx), .val (.int ((240 : Int32) + (xx % (5 : Int32))))] [(.ref a)]) _
        refine Go.of (fun tg_ kk_ => XS.iloadN X0.here hx rfl (hb hby d1_140) rfl kk_) ?_
        show Go p e below s₁ (mkF m 141 #[.val (.ref a), .val (.int y), .val (.int z), .val (.int kk), .val (.int xx), .val (.int ((240 : Int32) + (xx % (5 : Int32))))] [(.int y), (.ref a)]) _
        refine Go.of (fun tg_ kk_ => XS.iload X0.here hx rfl (hb hby d1_141) rfl kk_) ?_
        show Go p e below s₁ (mkF m 143 #[.val (.ref a), .val (.int y), .val (.int z), .val (.int kk), .val (.int xx), .val (.int ((240 : Int32) + (xx % (5 : Int32))))] [(.int ((240 : Int32) + (xx % (5 : Int32)))), (.int y), (.ref a)]) _
        refine Go.of (fun tg_ kk_ => XS.i2b X0.here hx rfl (hb hby d1_143) rfl kk_) ?_
        show Go p e below s₁ (mkF m 144 #[.val (.ref a), .val (.int y), .val (.int z), .val (.int kk), .val (.int xx), .val (.int ((240 : Int32) + (xx % (5 : Int32))))] [(.int (((240 : Int32) + (xx % (5 : Int32))).toInt8.toInt32)), (.int y), (.ref a)]) _
        have ib29 := (show ¬ (y < 0) ∧ (y).toNatClampNeg < 16 from hi0)
        obtain ⟨cl29, Ar29, S29, H29⟩ := Aa
        obtain ⟨T29, h29, X29, e29, W29, st29⟩ := stB X0 hx hZ e0 Ar29 (j := y) (Af.inb S29 ib29) (g := (mkF m 144 #[.val (.ref a), .val (.int y), .val (.int z), .val (.int kk), .val (.int xx), .val (.int ((240 : Int32) + (xx % (5 : Int32))))] [(.int (((240 : Int32) + (xx % (5 : Int32))).toInt8.toInt32)), (.int y), (.ref a)])) rfl rfl (hb hby d1_144)
        obtain ⟨f29, qf29⟩ : ∃ qq_ : Nat → Int32, qq_ = upd f (y).toNatClampNeg (nar .byte (((240 : Int32) + (xx % (5 : Int32))).toInt8.toInt32)) := ⟨_, rfl⟩
        have V29 : Af Z h29 a .byte 16 f29 := by rw [qf29]; exact Af.set Ar29 S29 H29 W29 rfl
        have K31 := K0.wr W29 (Or.inl (List.mem_of_getElem? (i := 0) rfl))
        have Zs32 : n0 ≤ h29.size := Nat.le_trans Z0 (Keep.of_wr W29).1
        have N29 := Fr.snoc X29 N0 g_a
        refine Go.of (st29) ?_
        show Go p e below T29 (mkF m 145 #[.val (.ref a), .val (.int y), .val (.int z), .val (.int kk), .val (.int xx), .val (.int ((240 : Int32) + (xx % (5 : Int32))))] []) _
        refine Go.of (fun tg_ kk_ => XS.aloadN X29.here hx rfl (hb hby d1_145) rfl rfl kk_) ?_
        show Go p e below T29 (mkF m 146 #[.val (.ref a), .val (.int y), .val (.int z), .val (.int kk), .val (.int xx), .val (.int ((240 : Int32) + (xx % (5 : Int32))))] [(.ref a)]) _
        refine Go.of (fun tg_ kk_ => XS.iloadN X29.here hx rfl (hb hby d1_146) rfl kk_) ?_
        show Go p e below T29 (mkF m 147 #[.val (.ref a), .val (.int y), .val (.int z), .val (.int kk), .val (.int xx), .val (.int ((240 : Int32) + (xx % (5 : Int32))))] [(.int y), (.ref a)]) _
        refine Go.of (fun tg_ kk_ => XS.iconst X29.here hx rfl (hb hby d1_147) kk_) ?_
        show Go p e below T29 (mkF m 148 #[.val (.ref a), .val (.int y), .val (.int z), .val (.int kk), .val (.int xx), .val (.int ((240 : Int32) + (xx % (5 : Int32))))] [(.int (1 : Int32)), (.int y), (.ref a)]) _
        refine Go.of (fun tg_ kk_ => XS.iadd X29.here hx rfl (hb hby d1_148) rfl kk_) ?_
        show Go p e below T29 (mkF m 149 #[.val (.ref a), .val (.int y), .val (.int z), .val (.int kk), .val (.int xx), .val (.int ((240 : Int32) + (xx % (5 : Int32))))] [(.int (y + (1 : Int32))), (.ref a)]) _
        refine Go.of (fun tg_ kk_ => XS.iload X29.here hx rfl (hb hby d1_149) rfl kk_) ?_
        show Go p e below T29 (mkF m 151 #[.val (.ref a), .val (.int y), .val (.int z), .val (.int kk), .val (.int xx), .val (.int ((240 : Int32) + (xx % (5 : Int32))))] [(.int ((240 : Int32) + (xx % (5 : Int32)))), (.int (y + (1 : Int32))), (.ref a)]) _
        refine Go.of (fun tg_ kk_ => XS.sipush X29.here hx rfl (hb hby d1_151) kk_) ?_
        show Go p e below T29 (mkF m 154 #[.val (.ref a), .val (.int y), .val (.int z), .val (.int kk), .val (.int xx), .val (.int ((240 : Int32) + (xx % (5 : Int32))))] [(.int (240 : Int32)), (.int ((240 : Int32) + (xx % (5 : Int32)))), (.int (y + (1 : Int32))), (.ref a)]) _
        have st33 : ∀ sb : Int32, sb = (if ((240 : Int32) + (xx % (5 : Int32))) = (240 : Int32) then (144 : Int32) else (128 : Int32)) → ∀ t, Steps p.tables e below (T29.setTop (mkF m 166 #[.val (.ref a), .val (.int y), .val (.int z), .val (.int kk), .val (.int xx), .val (.int ((240 : Int32) + (xx % (5 : Int32))))] [(.int sb), (.int (y + (1 : Int32))), (.ref a)])) t → Steps p.tables e below (T29.setTop (mkF m 154 #[.val (.ref a), .val (.int y), .val (.int z), .val (.int kk), .val (.int xx), .val (.int ((240 : Int32) + (xx % (5 : Int32))))] [(.int (240 : Int32)), (.int ((240 : Int32) + (xx % (5 : Int32)))), (.int (y + (1 : Int32))), (.ref a)])) t := by
          intro sb qsb tg_ kk_
          by_cases hc : ((240 : Int32) + (xx % (5 : Int32))) = (240 : Int32)
          · rw [if_pos hc] at qsb; rw [qsb] at kk_
            show Steps p.tables e below (T29.setTop (mkF m 154 #[.val (.ref a), .val (.int y), .val (.int z), .val (.int kk), .val (.int xx), .val (.int ((240 : Int32) + (xx % (5 : Int32))))] [(.int (240 : Int32)), (.int ((240 : Int32) + (xx % (5 : Int32)))), (.int (y + (1 : Int32))), (.ref a)])) _
            refine XS.icmpNo X29.here hx rfl (hb hby d1_154) rfl (teq hc).2 ?_
            show Steps p.tables e below (T29.setTop (mkF m 157 #[.val (.ref a), .val (.int y), .val (.int z), .val (.int kk), .val (.int xx), .val (.int ((240 : Int32) + (xx % (5 : Int32))))] [(.int (y + (1 : Int32))), (.ref a)])) _
            refine XS.sipush X29.here hx rfl (hb hby d1_157) ?_
            show Steps p.tables e below (T29.setTop (mkF m 160 #[.val (.ref a), .val (.int y), .val (.int z), .val (.int kk), .val (.int xx), .val (.int ((240 : Int32) + (xx % (5 : Int32))))] [(.int (144 : Int32)), (.int (y + (1 : Int32))), (.ref a)])) _
            refine XS.goto X29.here hx rfl (pc0 := 160) (pc' := 166) rfl (hb hby d1_160) (by decide) (by decide) ?_
            show Steps p.tables e below (T29.setTop (mkF m 166 #[.val (.ref a), .val (.int y), .val (.int z), .val (.int kk), .val (.int xx), .val (.int ((240 : Int32) + (xx % (5 : Int32))))] [(.int (144 : Int32)), (.int (y + (1 : Int32))), (.ref a)])) _
            exact kk_
          · rw [if_neg hc] at qsb; rw [qsb] at kk_
            show Steps p.tables e below (T29.setTop (mkF m 154 #[.val (.ref a), .val (.int y), .val (.int z), .val (.int kk), .val (.int xx), .val (.int ((240 : Int32) + (xx % (5 : Int32))))] [(.int (240 : Int32)), (.int ((240 : Int32) + (xx % (5 : Int32)))), (.int (y + (1 : Int32))), (.ref a)])) _
            refine XS.icmpYes X29.here hx rfl (pc0 := 154) (pc' := 163) rfl (hb hby d1_154) rfl (feq hc).2 (by decide) (by decide) ?_
            show Steps p.tables e below (T29.setTop (mkF m 163 #[.val (.ref a), .val (.int y), .val (.int z), .val (.int kk), .val (.int xx), .val (.int ((240 : Int32) + (xx % (5 : Int32))))] [(.int (y + (1 : Int32))), (.ref a)])) _
            refine XS.sipush X29.here hx rfl (hb hby d1_163) ?_
            show Steps p.tables e below (T29.setTop (mkF m 166 #[.val (.ref a), .val (.int y), .val (.int z), .val (.int kk), .val (.int xx), .val (.int ((240 : Int32) + (xx % (5 : Int32))))] [(.int (128 : Int32)), (.int (y + (1 : Int32))), (.ref a)])) _
            exact kk_
        obtain ⟨sb, qsb⟩ : ∃ zz_ : Int32, zz_ = (if ((240 : Int32) + (xx % (5 : Int32))) = (240 : Int32) then (144 : Int32) else (128 : Int32)) := ⟨_, rfl⟩
        refine Go.of (st33 sb qsb) ?_
        show Go p e below T29 (mkF m 166 #[.val (.ref a), .val (.int y), .val (.int z), .val (.int kk), .val (.int xx), .val (.int ((240 : Int32) + (xx % (5 : Int32))))] [(.int sb), (.int (y + (1 : Int32))), (.ref a)]) _
        refine Go.of (fun tg_ kk_ => XS.i2b X29.here hx rfl (hb hby d1_166) rfl kk_) ?_
        show Go p e below T29 (mkF m 167 #[.val (.ref a), .val (.int y), .val (.int z), .val (.int kk), .val (.int xx), .val (.int ((240 : Int32) + (xx % (5 : Int32))))] [(.int (sb.toInt8.toInt32)), (.int (y + (1 : Int32))), (.ref a)]) _
        have ib34 := (show ¬ ((y + (1 : Int32)) < 0) ∧ ((y + (1 : Int32))).toNatClampNeg < 16 from hi1)
        obtain ⟨cl34, Ar34, S34, H34⟩ := V29
        obtain ⟨T34, h34, X34, e34, W34, st34⟩ := stB X29 hx hZ e29 Ar34 (j := (y + (1 : Int32))) (Af.inb S34 ib34) (g := (mkF m 167 #[.val (.ref a), .val (.int y), .val (.int z), .val (.int kk), .val (.int xx), .val (.int ((240 : Int32) + (xx % (5 : Int32))))] [(.int (sb.toInt8.toInt32)), (.int (y + (1 : Int32))), (.ref a)])) rfl rfl (hb hby d1_167)
        obtain ⟨f34, qf34⟩ : ∃ qq_ : Nat → Int32, qq_ = upd f29 ((y + (1 : Int32))).toNatClampNeg (nar .byte (sb.toInt8.toInt32)) := ⟨_, rfl⟩
        have V34 : Af Z h34 a .byte 16 f34 := by rw [qf34]; exact Af.set Ar34 S34 H34 W34 rfl
        have K36 := K31.wr W34 (Or.inl (List.mem_of_getElem? (i := 0) rfl))
        have Zs37 : n0 ≤ h34.size := Nat.le_trans Zs32 (Keep.of_wr W34).1
        have N34 := Fr.snoc X34 N29 g_a
        refine Go.of (st34) ?_
        show Go p e below T34 (mkF m 168 #[.val (.ref a), .val (.int y), .val (.int z), .val (.int kk), .val (.int xx), .val (.int ((240 : Int32) + (xx % (5 : Int32))))] []) _
        refine Go.of (fun tg_ kk_ => XS.aloadN X34.here hx rfl (hb hby d1_168) rfl rfl kk_) ?_
        show Go p e below T34 (mkF m 169 #[.val (.ref a), .val (.int y), .val (.int z), .val (.int kk), .val (.int xx), .val (.int ((240 : Int32) + (xx % (5 : Int32))))] [(.ref a)]) _
        refine Go.of (fun tg_ kk_ => XS.iloadN X34.here hx rfl (hb hby d1_169) rfl kk_) ?_
        show Go p e below T34 (mkF m 170 #[.val (.ref a), .val (.int y), .val (.int z), .val (.int kk), .val (.int xx), .val (.int ((240 : Int32) + (xx % (5 : Int32))))] [(.int y), (.ref a)]) _
        refine Go.of (fun tg_ kk_ => XS.iconst X34.here hx rfl (hb hby d1_170) kk_) ?_
        show Go p e below T34 (mkF m 171 #[.val (.ref a), .val (.int y), .val (.int z), .val (.int kk), .val (.int xx), .val (.int ((240 : Int32) + (xx % (5 : Int32))))] [(.int (2 : Int32)), (.int y), (.ref a)]) _
        refine Go.of (fun tg_ kk_ => XS.iadd X34.here hx rfl (hb hby d1_171) rfl kk_) ?_
        show Go p e below T34 (mkF m 172 #[.val (.ref a), .val (.int y), .val (.int z), .val (.int kk), .val (.int xx), .val (.int ((240 : Int32) + (xx % (5 : Int32))))] [(.int (y + (2 : Int32))), (.ref a)]) _
        refine Go.of (fun tg_ kk_ => XS.bipush X34.here hx rfl (hb hby d1_172) kk_) ?_
        show Go p e below T34 (mkF m 174 #[.val (.ref a), .val (.int y), .val (.int z), .val (.int kk), .val (.int xx), .val (.int ((240 : Int32) + (xx % (5 : Int32))))] [(.int (-128 : Int32)), (.int (y + (2 : Int32))), (.ref a)]) _
        have ib38 := (show ¬ ((y + (2 : Int32)) < 0) ∧ ((y + (2 : Int32))).toNatClampNeg < 16 from hi2)
        obtain ⟨cl38, Ar38, S38, H38⟩ := V34
        obtain ⟨T38, h38, X38, e38, W38, st38⟩ := stB X34 hx hZ e34 Ar38 (j := (y + (2 : Int32))) (Af.inb S38 ib38) (g := (mkF m 174 #[.val (.ref a), .val (.int y), .val (.int z), .val (.int kk), .val (.int xx), .val (.int ((240 : Int32) + (xx % (5 : Int32))))] [(.int (-128 : Int32)), (.int (y + (2 : Int32))), (.ref a)])) rfl rfl (hb hby d1_174)
        obtain ⟨f38, qf38⟩ : ∃ qq_ : Nat → Int32, qq_ = upd f34 ((y + (2 : Int32))).toNatClampNeg (-128 : Int32) := ⟨_, rfl⟩
        have V38 : Af Z h38 a .byte 16 f38 := by rw [qf38]; exact Af.set Ar38 S38 H38 W38 rfl
        have K40 := K36.wr W38 (Or.inl (List.mem_of_getElem? (i := 0) rfl))
        have Zs41 : n0 ≤ h38.size := Nat.le_trans Zs37 (Keep.of_wr W38).1
        have N38 := Fr.snoc X38 N34 g_a
        refine Go.of (st38) ?_
        show Go p e below T38 (mkF m 175 #[.val (.ref a), .val (.int y), .val (.int z), .val (.int kk), .val (.int xx), .val (.int ((240 : Int32) + (xx % (5 : Int32))))] []) _
        refine Go.of (fun tg_ kk_ => XS.aloadN X38.here hx rfl (hb hby d1_175) rfl rfl kk_) ?_
        show Go p e below T38 (mkF m 176 #[.val (.ref a), .val (.int y), .val (.int z), .val (.int kk), .val (.int xx), .val (.int ((240 : Int32) + (xx % (5 : Int32))))] [(.ref a)]) _
        refine Go.of (fun tg_ kk_ => XS.iloadN X38.here hx rfl (hb hby d1_176) rfl kk_) ?_
        show Go p e below T38 (mkF m 177 #[.val (.ref a), .val (.int y), .val (.int z), .val (.int kk), .val (.int xx), .val (.int ((240 : Int32) + (xx % (5 : Int32))))] [(.int y), (.ref a)]) _
        refine Go.of (fun tg_ kk_ => XS.iconst X38.here hx rfl (hb hby d1_177) kk_) ?_
        show Go p e below T38 (mkF m 178 #[.val (.ref a), .val (.int y), .val (.int z), .val (.int kk), .val (.int xx), .val (.int ((240 : Int32) + (xx % (5 : Int32))))] [(.int (3 : Int32)), (.int y), (.ref a)]) _
        refine Go.of (fun tg_ kk_ => XS.iadd X38.here hx rfl (hb hby d1_178) rfl kk_) ?_
        show Go p e below T38 (mkF m 179 #[.val (.ref a), .val (.int y), .val (.int z), .val (.int kk), .val (.int xx), .val (.int ((240 : Int32) + (xx % (5 : Int32))))] [(.int (y + (3 : Int32))), (.ref a)]) _
        refine Go.of (fun tg_ kk_ => XS.sipush X38.here hx rfl (hb hby d1_179) kk_) ?_
        show Go p e below T38 (mkF m 182 #[.val (.ref a), .val (.int y), .val (.int z), .val (.int kk), .val (.int xx), .val (.int ((240 : Int32) + (xx % (5 : Int32))))] [(.int (128 : Int32)), (.int (y + (3 : Int32))), (.ref a)]) _
        refine Go.of (fun tg_ kk_ => XS.iload X38.here hx rfl (hb hby d1_182) rfl kk_) ?_
        show Go p e below T38 (mkF m 184 #[.val (.ref a), .val (.int y), .val (.int z), .val (.int kk), .val (.int xx), .val (.int ((240 : Int32) + (xx % (5 : Int32))))] [(.int xx), (.int (128 : Int32)), (.int (y + (3 : Int32))), (.ref a)]) _
        refine Go.of (fun tg_ kk_ => XS.iconst X38.here hx rfl (hb hby d1_184) kk_) ?_
        show Go p e below T38 (mkF m 185 #[.val (.ref a), .val (.int y), .val (.int z), .val (.int kk), .val (.int xx), .val (.int ((240 : Int32) + (xx % (5 : Int32))))] [(.int (4 : Int32)), (.int xx), (.int (128 : Int32)), (.int (y + (3 : Int32))), (.ref a)]) _
        refine Go.of (fun tg_ kk_ => XS.iushr X38.here hx rfl (hb hby d1_185) rfl kk_) ?_
        show Go p e below T38 (mkF m 186 #[.val (.ref a), .val (.int y), .val (.int z), .val (.int kk), .val (.int xx), .val (.int ((240 : Int32) + (xx % (5 : Int32))))] [(.int ((xx.toUInt32 >>> ((4 : Int32) &&& 31).toUInt32).toInt32)), (.int (128 : Int32)), (.int (y + (3 : Int32))), (.ref a)]) _
        refine Go.of (fun tg_ kk_ => XS.bipush X38.here hx rfl (hb hby d1_186) kk_) ?_
        show Go p e below T38 (mkF m 188 #[.val (.ref a), .val (.int y), .val (.int z), .val (.int kk), .val (.int xx), .val (.int ((240 : Int32) + (xx % (5 : Int32))))] [(.int (63 : Int32)), (.int ((xx.toUInt32 >>> ((4 : Int32) &&& 31).toUInt32).toInt32)), (.int (128 : Int32)), (.int (y + (3 : Int32))), (.ref a)]) _
        refine Go.of (fun tg_ kk_ => XS.iand X38.here hx rfl (hb hby d1_188) rfl kk_) ?_
        show Go p e below T38 (mkF m 189 #[.val (.ref a), .val (.int y), .val (.int z), .val (.int kk), .val (.int xx), .val (.int ((240 : Int32) + (xx % (5 : Int32))))] [(.int (((xx.toUInt32 >>> ((4 : Int32) &&& 31).toUInt32).toInt32) &&& (63 : Int32))), (.int (128 : Int32)), (.int (y + (3 : Int32))), (.ref a)]) _
        refine Go.of (fun tg_ kk_ => XS.ior X38.here hx rfl (hb hby d1_189) rfl kk_) ?_
        show Go p e below T38 (mkF m 190 #[.val (.ref a), .val (.int y), .val (.int z), .val (.int kk), .val (.int xx), .val (.int ((240 : Int32) + (xx % (5 : Int32))))] [(.int ((128 : Int32) ||| (((xx.toUInt32 >>> ((4 : Int32) &&& 31).toUInt32).toInt32) &&& (63 : Int32)))), (.int (y + (3 : Int32))), (.ref a)]) _
        refine Go.of (fun tg_ kk_ => XS.i2b X38.here hx rfl (hb hby d1_190) rfl kk_) ?_
        show Go p e below T38 (mkF m 191 #[.val (.ref a), .val (.int y), .val (.int z), .val (.int kk), .val (.int xx), .val (.int ((240 : Int32) + (xx % (5 : Int32))))] [(.int (((128 : Int32) ||| (((xx.toUInt32 >>> ((4 : Int32) &&& 31).toUInt32).toInt32) &&& (63 : Int32))).toInt8.toInt32)), (.int (y + (3 : Int32))), (.ref a)]) _
        have ib42 := (show ¬ ((y + (3 : Int32)) < 0) ∧ ((y + (3 : Int32))).toNatClampNeg < 16 from hi3)
        obtain ⟨cl42, Ar42, S42, H42⟩ := V38
        obtain ⟨T42, h42, X42, e42, W42, st42⟩ := stB X38 hx hZ e38 Ar42 (j := (y + (3 : Int32))) (Af.inb S42 ib42) (g := (mkF m 191 #[.val (.ref a), .val (.int y), .val (.int z), .val (.int kk), .val (.int xx), .val (.int ((240 : Int32) + (xx % (5 : Int32))))] [(.int (((128 : Int32) ||| (((xx.toUInt32 >>> ((4 : Int32) &&& 31).toUInt32).toInt32) &&& (63 : Int32))).toInt8.toInt32)), (.int (y + (3 : Int32))), (.ref a)])) rfl rfl (hb hby d1_191)
        obtain ⟨f42, qf42⟩ : ∃ qq_ : Nat → Int32, qq_ = upd f38 ((y + (3 : Int32))).toNatClampNeg (nar .byte (((128 : Int32) ||| (((xx.toUInt32 >>> ((4 : Int32) &&& 31).toUInt32).toInt32) &&& (63 : Int32))).toInt8.toInt32)) := ⟨_, rfl⟩
        have V42 : Af Z h42 a .byte 16 f42 := by rw [qf42]; exact Af.set Ar42 S42 H42 W42 rfl
        have K44 := K40.wr W42 (Or.inl (List.mem_of_getElem? (i := 0) rfl))
        have Zs45 : n0 ≤ h42.size := Nat.le_trans Zs41 (Keep.of_wr W42).1
        have N42 := Fr.snoc X42 N38 g_a
        refine Go.of (st42) ?_
        show Go p e below T42 (mkF m 192 #[.val (.ref a), .val (.int y), .val (.int z), .val (.int kk), .val (.int xx), .val (.int ((240 : Int32) + (xx % (5 : Int32))))] []) _
        refine Go.of (fun tg_ kk_ => XS.iconst X42.here hx rfl (hb hby d1_192) kk_) ?_
        show Go p e below T42 (mkF m 193 #[.val (.ref a), .val (.int y), .val (.int z), .val (.int kk), .val (.int xx), .val (.int ((240 : Int32) + (xx % (5 : Int32))))] [(.int (4 : Int32))]) _
        obtain ⟨fs, hr, hrun, hended, hW, hsame⟩ := X42.leave (v := some (.int (4 : Int32))) (fun h => by rw [Bd.returns] at h; cases h)
        refine ⟨_, _, ?_, hrun, hended, _, _, rfl, ?_, ⟨_, rfl⟩, hW, hsame.mono (by decide) (by decide)⟩
        · exact retOut X42 hx Bd.returns rfl (Or.inl ⟨rfl, Or.inl rfl, _, rfl⟩) (hb hby d1_193) hr
        · show Q1 Z a y z f h0 n0 _ T42.heap _
          rw [e42]
          exact ⟨_, by rw [← qkk, (own_k3 qkk hc1 hc6 hc15)]; rfl, N42, K44, V42, fun i hi => by rw [qf42, own_updne (own_nec (n := 3) hy hi (by decide) (by decide)), qf38, own_updne (own_nec (n := 2) hy hi (by decide) (by decide)), qf34, own_updne (own_nec (n := 1) hy hi (by decide) (by decide)), qf29, own_updne (own_ne0 hi)], by rw [qf42, own_updne (own_yc (n := 3) hy (by decide) (by decide) (by decide)), qf38, own_updne (own_yc (n := 2) hy (by decide) (by decide) (by decide)), qf34, own_updne (own_yc (n := 1) hy (by decide) (by decide) (by decide)), qf29, own_upds, ← qkk, (own_k3 qkk hc1 hc6 hc15)]; exact own_len3 (own_xx qxx)⟩
theorem d3_0 : decode prog_5_method_4_code 0 = .ok (.lconst 0, 1) := by decide +kernel
theorem d3_1 : decode prog_5_method_4_code 1 = .ok (.lstore 5, 2) := by decide +kernel
theorem d3_3 : decode prog_5_method_4_code 3 = .ok (.iload_n 1, 1) := by decide +kernel
theorem d3_4 : decode prog_5_method_4_code 4 = .ok (.istore 7, 2) := by decide +kernel
theorem d3_6 : decode prog_5_method_4_code 6 = .ok (.iload 7, 2) := by decide +kernel
theorem d3_8 : decode prog_5_method_4_code 8 = .ok (.iload_n 2, 1) := by decide +kernel
theorem d3_9 : decode prog_5_method_4_code 9 = .ok (.if_icmp .ge 90, 3) := by decide +kernel
theorem d3_12 : decode prog_5_method_4_code 12 = .ok (.aload_n 0, 1) := by decide +kernel
theorem d3_13 : decode prog_5_method_4_code 13 = .ok (.iload 7, 2) := by decide +kernel
theorem d3_15 : decode prog_5_method_4_code 15 = .ok (.baload, 1) := by decide +kernel
theorem d3_16 : decode prog_5_method_4_code 16 = .ok (.sipush 255, 3) := by decide +kernel
theorem d3_19 : decode prog_5_method_4_code 19 = .ok (.iand, 1) := by decide +kernel
theorem d3_20 : decode prog_5_method_4_code 20 = .ok (.istore 8, 2) := by decide +kernel
theorem d3_22 : decode prog_5_method_4_code 22 = .ok (.iload 8, 2) := by decide +kernel
theorem d3_24 : decode prog_5_method_4_code 24 = .ok (.sipush 128, 3) := by decide +kernel
theorem d3_27 : decode prog_5_method_4_code 27 = .ok (.if_icmp .ge 7, 3) := by decide +kernel
theorem d3_30 : decode prog_5_method_4_code 30 = .ok (.iconst 1, 1) := by decide +kernel
theorem d3_31 : decode prog_5_method_4_code 31 = .ok (.goto 28, 3) := by decide +kernel
theorem d3_34 : decode prog_5_method_4_code 34 = .ok (.iload 8, 2) := by decide +kernel
theorem d3_36 : decode prog_5_method_4_code 36 = .ok (.sipush 224, 3) := by decide +kernel
theorem d3_39 : decode prog_5_method_4_code 39 = .ok (.if_icmp .ge 7, 3) := by decide +kernel
theorem d3_42 : decode prog_5_method_4_code 42 = .ok (.iconst 2, 1) := by decide +kernel
theorem d3_43 : decode prog_5_method_4_code 43 = .ok (.goto 16, 3) := by decide +kernel
theorem d3_46 : decode prog_5_method_4_code 46 = .ok (.iload 8, 2) := by decide +kernel
theorem d3_48 : decode prog_5_method_4_code 48 = .ok (.sipush 240, 3) := by decide +kernel
theorem d3_51 : decode prog_5_method_4_code 51 = .ok (.if_icmp .ge 7, 3) := by decide +kernel
theorem d3_54 : decode prog_5_method_4_code 54 = .ok (.iconst 3, 1) := by decide +kernel
theorem d3_55 : decode prog_5_method_4_code 55 = .ok (.goto 4, 3) := by decide +kernel
theorem d3_58 : decode prog_5_method_4_code 58 = .ok (.iconst 4, 1) := by decide +kernel
theorem d3_59 : decode prog_5_method_4_code 59 = .ok (.istore 9, 2) := by decide +kernel
theorem d3_61 : decode prog_5_method_4_code 61 = .ok (.lload 5, 2) := by decide +kernel
theorem d3_63 : decode prog_5_method_4_code 63 = .ok (.iload 9, 2) := by decide +kernel
theorem d3_65 : decode prog_5_method_4_code 65 = .ok (.iconst 4, 1) := by decide +kernel
theorem d3_66 : decode prog_5_method_4_code 66 = .ok (.if_icmp .ne 9, 3) := by decide +kernel
theorem d3_69 : decode prog_5_method_4_code 69 = .ok (.ldc2_w 34, 3) := by decide +kernel
theorem d3_72 : decode prog_5_method_4_code 72 = .ok (.goto 4, 3) := by decide +kernel
theorem d3_75 : decode prog_5_method_4_code 75 = .ok (.lconst 1, 1) := by decide +kernel
theorem d3_76 : decode prog_5_method_4_code 76 = .ok (.ladd, 1) := by decide +kernel
theorem d3_77 : decode prog_5_method_4_code 77 = .ok (.lstore 5, 2) := by decide +kernel
theorem d3_79 : decode prog_5_method_4_code 79 = .ok (.lload 5, 2) := by decide +kernel
theorem d3_81 : decode prog_5_method_4_code 81 = .ok (.lload_n 3, 1) := by decide +kernel
theorem d3_82 : decode prog_5_method_4_code 82 = .ok (.lcmp, 1) := by decide +kernel
theorem d3_83 : decode prog_5_method_4_code 83 = .ok (.ifCond .le 6, 3) := by decide +kernel
theorem d3_86 : decode prog_5_method_4_code 86 = .ok (.goto 13, 3) := by decide +kernel
theorem d3_89 : decode prog_5_method_4_code 89 = .ok (.iload 7, 2) := by decide +kernel
theorem d3_91 : decode prog_5_method_4_code 91 = .ok (.iload 9, 2) := by decide +kernel
theorem d3_93 : decode prog_5_method_4_code 93 = .ok (.iadd, 1) := by decide +kernel
theorem d3_94 : decode prog_5_method_4_code 94 = .ok (.istore 7, 2) := by decide +kernel
theorem d3_96 : decode prog_5_method_4_code 96 = .ok (.goto (-90), 3) := by decide +kernel
theorem d3_99 : decode prog_5_method_4_code 99 = .ok (.iload 7, 2) := by decide +kernel
theorem d3_101 : decode prog_5_method_4_code 101 = .ok (.ireturn, 1) := by decide +kernel
theorem ef_3 (m : MethodId) (x0 : Addr) (x1 : Int32) (x2 : Int32) (x3 : Int64) : entryFrame m #[(.ref x0), (.int x1), (.int x2), (.long x3)] 10 = mkF m 0 #[.val (.ref x0), .val (.int x1), .val (.int x2), .val (.long x3), .second, .unset, .unset, .unset, .unset, .unset] [] := by first | (simp [entryFrame, mkF, argsToLocals, Value.category]; done) | rfl
def Q3 (Z : State) (a : Addr) (fr : Int32) (to : Int32) (un : Int64) (f : Nat → Int32) (h0 : Heap) (n0 : Nat) (v : Option Value) (h : Heap) (L : List Loc) : Prop := v = some (.int (scan 16 f fr to 0 un)) ∧ Fr n0 L ∧ h = h0
set_option maxRecDepth 65536 in
set_option maxHeartbeats 40000000 in
theorem rm3 (l : Launch) (Z : State) (a0 : Array Value) (hw : ∀ d ∈ tables_1, d.before a0 Z = true) (ws : List Jvm.Cond) (a : Addr) (fr : Int32) (to : Int32) (un : Int64) (f : Nat → Int32) (h0 : Heap) (n0 : Nat) (Z0 : n0 ≤ h0.size) (Aa : Af Z h0 a .byte 16 f) (hfr : 0 ≤ fr.toInt) (hto : to.toInt ≤ 16) :
    MetFree l (⟨"com/example/diagnostic/diagnostic/Utf8", "offsetOfUnit", "([BIIJ)I"⟩ : MethodName) (head1 (Jvm.Cond.code (⟨"com/example/diagnostic/diagnostic/Utf8", "offsetOfUnit", "([BIIJ)I"⟩ : MethodName) prog_5_method_4_code 10 (some .int) :: ws) ({ frames := 0, cells := 0, slots := 0, locals := 0 } : Room)) (fun aa_ U => aa_ = #[(.ref a), (.int fr), (.int to), (.long un)] ∧ Z.Warmed39 U.vm ∧ U.heap = h0) (fun _ _ _ _ _ => True) (fun _ U o U' => ∃ vv_ LL_, o = .returned vv_ ∧ Q3 Z a fr to un f h0 n0 vv_ U'.heap LL_ ∧ FrameEnd U o U' LL_ ({ frames := 0, cells := 0, slots := 0, locals := 0 } : Room).cells ({ frames := 0, cells := 0, slots := 0, locals := 0 } : Room).slots) := by
  refine MetFree.of_bodySF (plainFor_of_name pn_1) hisR ?_
  intro p e s m args below meth c s₁ Bd hml0 hP hK
  obtain ⟨rfl, hZ, hh⟩ := hP
  have hx := Bd.exec
  have hby := Bd.bytes
  have hml : c.maxLocals = 10 := hml0
  have hown : s.vm.findClass "com/example/diagnostic/diagnostic/Utf8" = some m.cls := findClass_of_methodNamed Bd.named
  have hnm := (name_of_methodNamed Bd.named Bd.method).1
  have X0 : Stand p l e ({ frames := 0, cells := 0, slots := 0, locals := 0 } : Room) s m #[(.ref a), (.int fr), (.int to), (.long un)] below meth c s₁ [] 0 0 := Stand.of_body Bd
  have e0 : s₁.heap = h0 := by rw [← hh, Bd.state]; rfl
  have N0 := Fr.nil n0
  have K0 : Keep h0 h0 [] := Keep.refl h0 _
  refine Go.enter (P := fun o U' => ∃ vv_ LL_, o = .returned vv_ ∧ Q3 Z a fr to un f h0 n0 vv_ U'.heap LL_ ∧ FrameEnd s o U' LL_ ({ frames := 0, cells := 0, slots := 0, locals := 0 } : Room).cells ({ frames := 0, cells := 0, slots := 0, locals := 0 } : Room).slots) (ef_3 m a fr to un) ?_
  show Go p e below s₁ (mkF m 0 #[.val (.ref a), .val (.int fr), .val (.int to), .val (.long un), .second, .unset, .unset, .unset, .unset, .unset] []) _
  refine Go.of (fun tg_ kk_ => XS.lconst X0.here hx rfl (hb hby d3_0) kk_) ?_
  show Go p e below s₁ (mkF m 1 #[.val (.ref a), .val (.int fr), .val (.int to), .val (.long un), .second, .unset, .unset, .unset, .unset, .unset] [(.long (0 : Int64))]) _
  refine Go.of (fun tg_ kk_ => XS.lstore X0.here hx rfl (hb hby d3_1) rfl (l' := #[.val (.ref a), .val (.int fr), .val (.int to), .val (.long un), .second, .val (.long (0 : Int64)), .second, .unset, .unset, .unset]) rfl kk_) ?_
  show Go p e below s₁ (mkF m 3 #[.val (.ref a), .val (.int fr), .val (.int to), .val (.long un), .second, .val (.long (0 : Int64)), .second, .unset, .unset, .unset] []) _
  refine Go.of (fun tg_ kk_ => XS.iloadN X0.here hx rfl (hb hby d3_3) rfl kk_) ?_
  show Go p e below s₁ (mkF m 4 #[.val (.ref a), .val (.int fr), .val (.int to), .val (.long un), .second, .val (.long (0 : Int64)), .second, .unset, .unset, .unset] [(.int fr)]) _
  refine Go.of (fun tg_ kk_ => XS.istore X0.here hx rfl (hb hby d3_4) rfl (l' := #[.val (.ref a), .val (.int fr), .val (.int to), .val (.long un), .second, .val (.long (0 : Int64)), .second, .val (.int fr), .unset, .unset]) rfl kk_) ?_
  show Go p e below s₁ (mkF m 6 #[.val (.ref a), .val (.int fr), .val (.int to), .val (.long un), .second, .val (.long (0 : Int64)), .second, .val (.int fr), .unset, .unset] []) _
  have loop : ∀ (k : Nat) (q : Int32) (cn : Int64) (s8 s9 : Slot), Sl s8 → Sl s9 → (0 ≤ q.toInt ∧ to.toInt - q.toInt ≤ (k : Int)) → scan k f q to cn un = scan 16 f fr to 0 un → Go p e below s₁ (mkF m 6 #[.val (.ref a), .val (.int fr), .val (.int to), .val (.long un), .second, .val (.long cn), .second, .val (.int q), s8, s9] []) (fun o U' => ∃ vv_ LL_, o = .returned vv_ ∧ Q3 Z a fr to un f h0 n0 vv_ U'.heap LL_ ∧ FrameEnd s o U' LL_ ({ frames := 0, cells := 0, slots := 0, locals := 0 } : Room).cells ({ frames := 0, cells := 0, slots := 0, locals := 0 } : Room).slots) := by
    intro k
    induction k with
    | zero =>
      intro q cn s8 s9 hs8 hs9 hin hres
      have hc := own_stop hin
      refine Go.of (fun tg_ kk_ => XS.iload X0.here hx rfl (hb hby d3_6) rfl kk_) ?_
      show Go p e below s₁ (mkF m 8 #[.val (.ref a), .val (.int fr), .val (.int to), .val (.long un), .second, .val (.long cn), .second, .val (.int q), s8, s9] [(.int q)]) _
      refine Go.of (fun tg_ kk_ => XS.iloadN X0.here hx rfl (hb hby d3_8) rfl kk_) ?_
      show Go p e below s₁ (mkF m 9 #[.val (.ref a), .val (.int fr), .val (.int to), .val (.long un), .second, .val (.long cn), .second, .val (.int q), s8, s9] [(.int to), (.int q)]) _
      refine Go.of (fun tg_ kk_ => XS.icmpYes X0.here hx rfl (pc0 := 9) (pc' := 99) rfl (hb hby d3_9) rfl (flt hc).2.1 (by decide) (by decide) kk_) ?_
      show Go p e below s₁ (mkF m 99 #[.val (.ref a), .val (.int fr), .val (.int to), .val (.long un), .second, .val (.long cn), .second, .val (.int q), s8, s9] []) _
      refine Go.of (fun tg_ kk_ => XS.iload X0.here hx rfl (hb hby d3_99) rfl kk_) ?_
      show Go p e below s₁ (mkF m 101 #[.val (.ref a), .val (.int fr), .val (.int to), .val (.long un), .second, .val (.long cn), .second, .val (.int q), s8, s9] [(.int q)]) _
      obtain ⟨fs, hr, hrun, hended, hW, hsame⟩ := X0.leave (v := some (.int q)) (fun h => by rw [Bd.returns] at h; cases h)
      refine ⟨_, _, ?_, hrun, hended, _, _, rfl, ?_, ⟨_, rfl⟩, hW, hsame.mono (by decide) (by decide)⟩
      · exact retOut X0 hx Bd.returns rfl (Or.inl ⟨rfl, Or.inl rfl, _, rfl⟩) (hb hby d3_101) hr
      · show Q3 Z a fr to un f h0 n0 _ s₁.heap _
        rw [e0]
        exact ⟨by rw [← hres]; rfl, N0, rfl⟩
    | succ k ih =>
      intro q cn s8 s9 hs8 hs9 hin hres
      refine Go.of (fun tg_ kk_ => XS.iload X0.here hx rfl (hb hby d3_6) rfl kk_) ?_
      show Go p e below s₁ (mkF m 8 #[.val (.ref a), .val (.int fr), .val (.int to), .val (.long un), .second, .val (.long cn), .second, .val (.int q), s8, s9] [(.int q)]) _
      refine Go.of (fun tg_ kk_ => XS.iloadN X0.here hx rfl (hb hby d3_8) rfl kk_) ?_
      show Go p e below s₁ (mkF m 9 #[.val (.ref a), .val (.int fr), .val (.int to), .val (.long un), .second, .val (.long cn), .second, .val (.int q), s8, s9] [(.int to), (.int q)]) _
      by_cases hc : q < to
      · skip
        refine Go.of (fun tg_ kk_ => XS.icmpNo X0.here hx rfl (hb hby d3_9) rfl (tlt hc).2.1 kk_) ?_
        show Go p e below s₁ (mkF m 12 #[.val (.ref a), .val (.int fr), .val (.int to), .val (.long un), .second, .val (.long cn), .second, .val (.int q), s8, s9] []) _
        refine Go.of (fun tg_ kk_ => XS.aloadN X0.here hx rfl (hb hby d3_12) rfl rfl kk_) ?_
        show Go p e below s₁ (mkF m 13 #[.val (.ref a), .val (.int fr), .val (.int to), .val (.long un), .second, .val (.long cn), .second, .val (.int q), s8, s9] [(.ref a)]) _
        refine Go.of (fun tg_ kk_ => XS.iload X0.here hx rfl (hb hby d3_13) rfl kk_) ?_
        show Go p e below s₁ (mkF m 15 #[.val (.ref a), .val (.int fr), .val (.int to), .val (.long un), .second, .val (.long cn), .second, .val (.int q), s8, s9] [(.int q), (.ref a)]) _
        have ib1 := (show ¬ (q < 0) ∧ (q).toNatClampNeg < 16 from own_ib hin hc hto)
        obtain ⟨cl1, Ar1, S1, H1⟩ := Aa
        refine Go.of (X0.baloadBytes hx (j := q) (v := (.int (f (q).toNatClampNeg))) (by rw [e0]; exact Ar1.1) (State.isArrayOf_alike hZ.alike Ar1.2.1) Ar1.2.2 (Af.inb S1 ib1) (Af.at H1 rfl ib1) (g := (mkF m 15 #[.val (.ref a), .val (.int fr), .val (.int to), .val (.long un), .second, .val (.long cn), .second, .val (.int q), s8, s9] [(.int q), (.ref a)])) rfl rfl (hb hby d3_15)) ?_
        show Go p e below s₁ (mkF m 16 #[.val (.ref a), .val (.int fr), .val (.int to), .val (.long un), .second, .val (.long cn), .second, .val (.int q), s8, s9] [(.int (f (q).toNatClampNeg))]) _
        refine Go.of (fun tg_ kk_ => XS.sipush X0.here hx rfl (hb hby d3_16) kk_) ?_
        show Go p e below s₁ (mkF m 19 #[.val (.ref a), .val (.int fr), .val (.int to), .val (.long un), .second, .val (.long cn), .second, .val (.int q), s8, s9] [(.int (255 : Int32)), (.int (f (q).toNatClampNeg))]) _
        refine Go.of (fun tg_ kk_ => XS.iand X0.here hx rfl (hb hby d3_19) rfl kk_) ?_
        show Go p e below s₁ (mkF m 20 #[.val (.ref a), .val (.int fr), .val (.int to), .val (.long un), .second, .val (.long cn), .second, .val (.int q), s8, s9] [(.int ((f (q).toNatClampNeg) &&& (255 : Int32)))]) _
        refine Go.of (fun tg_ kk_ => XS.istoreS X0.here hx rfl (hb hby d3_20) rfl rfl hs8 kk_) ?_
        show Go p e below s₁ (mkF m 22 #[.val (.ref a), .val (.int fr), .val (.int to), .val (.long un), .second, .val (.long cn), .second, .val (.int q), .val (.int ((f (q).toNatClampNeg) &&& (255 : Int32))), s9] []) _
        refine Go.of (fun tg_ kk_ => XS.iload X0.here hx rfl (hb hby d3_22) rfl kk_) ?_
        show Go p e below s₁ (mkF m 24 #[.val (.ref a), .val (.int fr), .val (.int to), .val (.long un), .second, .val (.long cn), .second, .val (.int q), .val (.int ((f (q).toNatClampNeg) &&& (255 : Int32))), s9] [(.int ((f (q).toNatClampNeg) &&& (255 : Int32)))]) _
        refine Go.of (fun tg_ kk_ => XS.sipush X0.here hx rfl (hb hby d3_24) kk_) ?_
        show Go p e below s₁ (mkF m 27 #[.val (.ref a), .val (.int fr), .val (.int to), .val (.long un), .second, .val (.long cn), .second, .val (.int q), .val (.int ((f (q).toNatClampNeg) &&& (255 : Int32))), s9] [(.int (128 : Int32)), (.int ((f (q).toNatClampNeg) &&& (255 : Int32)))]) _
        have st6 : ∀ ln : Int32, ln = (if ((f (q).toNatClampNeg) &&& (255 : Int32)) < (128 : Int32) then (1 : Int32) else (if ((f (q).toNatClampNeg) &&& (255 : Int32)) < (224 : Int32) then (2 : Int32) else (if ((f (q).toNatClampNeg) &&& (255 : Int32)) < (240 : Int32) then (3 : Int32) else (4 : Int32)))) → ∀ t, Steps p.tables e below (s₁.setTop (mkF m 59 #[.val (.ref a), .val (.int fr), .val (.int to), .val (.long un), .second, .val (.long cn), .second, .val (.int q), .val (.int ((f (q).toNatClampNeg) &&& (255 : Int32))), s9] [(.int ln)])) t → Steps p.tables e below (s₁.setTop (mkF m 27 #[.val (.ref a), .val (.int fr), .val (.int to), .val (.long un), .second, .val (.long cn), .second, .val (.int q), .val (.int ((f (q).toNatClampNeg) &&& (255 : Int32))), s9] [(.int (128 : Int32)), (.int ((f (q).toNatClampNeg) &&& (255 : Int32)))])) t := by
          intro ln qln tg_ kk_
          by_cases hc : ((f (q).toNatClampNeg) &&& (255 : Int32)) < (128 : Int32)
          · rw [if_pos hc] at qln; rw [qln] at kk_
            show Steps p.tables e below (s₁.setTop (mkF m 27 #[.val (.ref a), .val (.int fr), .val (.int to), .val (.long un), .second, .val (.long cn), .second, .val (.int q), .val (.int ((f (q).toNatClampNeg) &&& (255 : Int32))), s9] [(.int (128 : Int32)), (.int ((f (q).toNatClampNeg) &&& (255 : Int32)))])) _
            refine XS.icmpNo X0.here hx rfl (hb hby d3_27) rfl (tlt hc).2.1 ?_
            show Steps p.tables e below (s₁.setTop (mkF m 30 #[.val (.ref a), .val (.int fr), .val (.int to), .val (.long un), .second, .val (.long cn), .second, .val (.int q), .val (.int ((f (q).toNatClampNeg) &&& (255 : Int32))), s9] [])) _
            refine XS.iconst X0.here hx rfl (hb hby d3_30) ?_
            show Steps p.tables e below (s₁.setTop (mkF m 31 #[.val (.ref a), .val (.int fr), .val (.int to), .val (.long un), .second, .val (.long cn), .second, .val (.int q), .val (.int ((f (q).toNatClampNeg) &&& (255 : Int32))), s9] [(.int (1 : Int32))])) _
            refine XS.goto X0.here hx rfl (pc0 := 31) (pc' := 59) rfl (hb hby d3_31) (by decide) (by decide) ?_
            show Steps p.tables e below (s₁.setTop (mkF m 59 #[.val (.ref a), .val (.int fr), .val (.int to), .val (.long un), .second, .val (.long cn), .second, .val (.int q), .val (.int ((f (q).toNatClampNeg) &&& (255 : Int32))), s9] [(.int (1 : Int32))])) _
            exact kk_
          · rw [if_neg hc] at qln; rw [qln] at kk_
            show Steps p.tables e below (s₁.setTop (mkF m 27 #[.val (.ref a), .val (.int fr), .val (.int to), .val (.long un), .second, .val (.long cn), .second, .val (.int q), .val (.int ((f (q).toNatClampNeg) &&& (255 : Int32))), s9] [(.int (128 : Int32)), (.int ((f (q).toNatClampNeg) &&& (255 : Int32)))])) _
            refine XS.icmpYes X0.here hx rfl (pc0 := 27) (pc' := 34) rfl (hb hby d3_27) rfl (flt hc).2.1 (by decide) (by decide) ?_
            show Steps p.tables e below (s₁.setTop (mkF m 34 #[.val (.ref a), .val (.int fr), .val (.int to), .val (.long un), .second, .val (.long cn), .second, .val (.int q), .val (.int ((f (q).toNatClampNeg) &&& (255 : Int32))), s9] [])) _
            refine XS.iload X0.here hx rfl (hb hby d3_34) rfl ?_
            show Steps p.tables e below (s₁.setTop (mkF m 36 #[.val (.ref a), .val (.int fr), .val (.int to), .val (.long un), .second, .val (.long cn), .second, .val (.int q), .val (.int ((f (q).toNatClampNeg) &&& (255 : Int32))), s9] [(.int ((f (q).toNatClampNeg) &&& (255 : Int32)))])) _
            refine XS.sipush X0.here hx rfl (hb hby d3_36) ?_
            show Steps p.tables e below (s₁.setTop (mkF m 39 #[.val (.ref a), .val (.int fr), .val (.int to), .val (.long un), .second, .val (.long cn), .second, .val (.int q), .val (.int ((f (q).toNatClampNeg) &&& (255 : Int32))), s9] [(.int (224 : Int32)), (.int ((f (q).toNatClampNeg) &&& (255 : Int32)))])) _
            have st5 : ∀ v4 : Int32, v4 = (if ((f (q).toNatClampNeg) &&& (255 : Int32)) < (224 : Int32) then (2 : Int32) else (if ((f (q).toNatClampNeg) &&& (255 : Int32)) < (240 : Int32) then (3 : Int32) else (4 : Int32))) → ∀ t, Steps p.tables e below (s₁.setTop (mkF m 59 #[.val (.ref a), .val (.int fr), .val (.int to), .val (.long un), .second, .val (.long cn), .second, .val (.int q), .val (.int ((f (q).toNatClampNeg) &&& (255 : Int32))), s9] [(.int v4)])) t → Steps p.tables e below (s₁.setTop (mkF m 39 #[.val (.ref a), .val (.int fr), .val (.int to), .val (.long un), .second, .val (.long cn), .second, .val (.int q), .val (.int ((f (q).toNatClampNeg) &&& (255 : Int32))), s9] [(.int (224 : Int32)), (.int ((f (q).toNatClampNeg) &&& (255 : Int32)))])) t := by
              intro v4 qv4 tg_ kk_
              by_cases hc : ((f (q).toNatClampNeg) &&& (255 : Int32)) < (224 : Int32)
              · rw [if_pos hc] at qv4; rw [qv4] at kk_
                show Steps p.tables e below (s₁.setTop (mkF m 39 #[.val (.ref a), .val (.int fr), .val (.int to), .val (.long un), .second, .val (.long cn), .second, .val (.int q), .val (.int ((f (q).toNatClampNeg) &&& (255 : Int32))), s9] [(.int (224 : Int32)), (.int ((f (q).toNatClampNeg) &&& (255 : Int32)))])) _
                refine XS.icmpNo X0.here hx rfl (hb hby d3_39) rfl (tlt hc).2.1 ?_
                show Steps p.tables e below (s₁.setTop (mkF m 42 #[.val (.ref a), .val (.int fr), .val (.int to), .val (.long un), .second, .val (.long cn), .second, .val (.int q), .val (.int ((f (q).toNatClampNeg) &&& (255 : Int32))), s9] [])) _
                refine XS.iconst X0.here hx rfl (hb hby d3_42) ?_
                show Steps p.tables e below (s₁.setTop (mkF m 43 #[.val (.ref a), .val (.int fr), .val (.int to), .val (.long un), .second, .val (.long cn), .second, .val (.int q), .val (.int ((f (q).toNatClampNeg) &&& (255 : Int32))), s9] [(.int (2 : Int32))])) _
                refine XS.goto X0.here hx rfl (pc0 := 43) (pc' := 59) rfl (hb hby d3_43) (by decide) (by decide) ?_
                show Steps p.tables e below (s₁.setTop (mkF m 59 #[.val (.ref a), .val (.int fr), .val (.int to), .val (.long un), .second, .val (.long cn), .second, .val (.int q), .val (.int ((f (q).toNatClampNeg) &&& (255 : Int32))), s9] [(.int (2 : Int32))])) _
                exact kk_
              · rw [if_neg hc] at qv4; rw [qv4] at kk_
                show Steps p.tables e below (s₁.setTop (mkF m 39 #[.val (.ref a), .val (.int fr), .val (.int to), .val (.long un), .second, .val (.long cn), .second, .val (.int q), .val (.int ((f (q).toNatClampNeg) &&& (255 : Int32))), s9] [(.int (224 : Int32)), (.int ((f (q).toNatClampNeg) &&& (255 : Int32)))])) _
                refine XS.icmpYes X0.here hx rfl (pc0 := 39) (pc' := 46) rfl (hb hby d3_39) rfl (flt hc).2.1 (by decide) (by decide) ?_
                show Steps p.tables e below (s₁.setTop (mkF m 46 #[.val (.ref a), .val (.int fr), .val (.int to), .val (.long un), .second, .val (.long cn), .second, .val (.int q), .val (.int ((f (q).toNatClampNeg) &&& (255 : Int32))), s9] [])) _
                refine XS.iload X0.here hx rfl (hb hby d3_46) rfl ?_
                show Steps p.tables e below (s₁.setTop (mkF m 48 #[.val (.ref a), .val (.int fr), .val (.int to), .val (.long un), .second, .val (.long cn), .second, .val (.int q), .val (.int ((f (q).toNatClampNeg) &&& (255 : Int32))), s9] [(.int ((f (q).toNatClampNeg) &&& (255 : Int32)))])) _
                refine XS.sipush X0.here hx rfl (hb hby d3_48) ?_
                show Steps p.tables e below (s₁.setTop (mkF m 51 #[.val (.ref a), .val (.int fr), .val (.int to), .val (.long un), .second, .val (.long cn), .second, .val (.int q), .val (.int ((f (q).toNatClampNeg) &&& (255 : Int32))), s9] [(.int (240 : Int32)), (.int ((f (q).toNatClampNeg) &&& (255 : Int32)))])) _
                have st3 : ∀ v2 : Int32, v2 = (if ((f (q).toNatClampNeg) &&& (255 : Int32)) < (240 : Int32) then (3 : Int32) else (4 : Int32)) → ∀ t, Steps p.tables e below (s₁.setTop (mkF m 59 #[.val (.ref a), .val (.int fr), .val (.int to), .val (.long un), .second, .val (.long cn), .second, .val (.int q), .val (.int ((f (q).toNatClampNeg) &&& (255 : Int32))), s9] [(.int v2)])) t → Steps p.tables e below (s₁.setTop (mkF m 51 #[.val (.ref a), .val (.int fr), .val (.int to), .val (.long un), .second, .val (.long cn), .second, .val (.int q), .val (.int ((f (q).toNatClampNeg) &&& (255 : Int32))), s9] [(.int (240 : Int32)), (.int ((f (q).toNatClampNeg) &&& (255 : Int32)))])) t := by
                  intro v2 qv2 tg_ kk_
                  by_cases hc : ((f (q).toNatClampNeg) &&& (255 : Int32)) < (240 : Int32)
                  · rw [if_pos hc] at qv2; rw [qv2] at kk_
                    show Steps p.tables e below (s₁.setTop (mkF m 51 #[.val (.ref a), .val (.int fr), .val (.int to), .val (.long un), .second, .val (.long cn), .second, .val (.int q), .val (.int ((f (q).toNatClampNeg) &&& (255 : Int32))), s9] [(.int (240 : Int32)), (.int ((f (q).toNatClampNeg) &&& (255 : Int32)))])) _
                    refine XS.icmpNo X0.here hx rfl (hb hby d3_51) rfl (tlt hc).2.1 ?_
                    show Steps p.tables e below (s₁.setTop (mkF m 54 #[.val (.ref a), .val (.int fr), .val (.int to), .val (.long un), .second, .val (.long cn), .second, .val (.int q), .val (.int ((f (q).toNatClampNeg) &&& (255 : Int32))), s9] [])) _
                    refine XS.iconst X0.here hx rfl (hb hby d3_54) ?_
                    show Steps p.tables e below (s₁.setTop (mkF m 55 #[.val (.ref a), .val (.int fr), .val (.int to), .val (.long un), .second, .val (.long cn), .second, .val (.int q), .val (.int ((f (q).toNatClampNeg) &&& (255 : Int32))), s9] [(.int (3 : Int32))])) _
                    refine XS.goto X0.here hx rfl (pc0 := 55) (pc' := 59) rfl (hb hby d3_55) (by decide) (by decide) ?_
                    show Steps p.tables e below (s₁.setTop (mkF m 59 #[.val (.ref a), .val (.int fr), .val (.int to), .val (.long un), .second, .val (.long cn), .second, .val (.int q), .val (.int ((f (q).toNatClampNeg) &&& (255 : Int32))), s9] [(.int (3 : Int32))])) _
                    exact kk_
                  · rw [if_neg hc] at qv2; rw [qv2] at kk_
                    show Steps p.tables e below (s₁.setTop (mkF m 51 #[.val (.ref a), .val (.int fr), .val (.int to), .val (.long un), .second, .val (.long cn), .second, .val (.int q), .val (.int ((f (q).toNatClampNeg) &&& (255 : Int32))), s9] [(.int (240 : Int32)), (.int ((f (q).toNatClampNeg) &&& (255 : Int32)))])) _
                    refine XS.icmpYes X0.here hx rfl (pc0 := 51) (pc' := 58) rfl (hb hby d3_51) rfl (flt hc).2.1 (by decide) (by decide) ?_
                    show Steps p.tables e below (s₁.setTop (mkF m 58 #[.val (.ref a), .val (.int fr), .val (.int to), .val (.long un), .second, .val (.long cn), .second, .val (.int q), .val (.int ((f (q).toNatClampNeg) &&& (255 : Int32))), s9] [])) _
                    refine XS.iconst X0.here hx rfl (hb hby d3_58) ?_
                    show Steps p.tables e below (s₁.setTop (mkF m 59 #[.val (.ref a), .val (.int fr), .val (.int to), .val (.long un), .second, .val (.long cn), .second, .val (.int q), .val (.int ((f (q).toNatClampNeg) &&& (255 : Int32))), s9] [(.int (4 : Int32))])) _
                    exact kk_
                refine st3 _ rfl _ ?_
                show Steps p.tables e below (s₁.setTop (mkF m 59 #[.val (.ref a), .val (.int fr), .val (.int to), .val (.long un), .second, .val (.long cn), .second, .val (.int q), .val (.int ((f (q).toNatClampNeg) &&& (255 : Int32))), s9] [(.int (if ((f (q).toNatClampNeg) &&& (255 : Int32)) < (240 : Int32) then (3 : Int32) else (4 : Int32)))])) _
                exact kk_
            refine st5 _ rfl _ ?_
            show Steps p.tables e below (s₁.setTop (mkF m 59 #[.val (.ref a), .val (.int fr), .val (.int to), .val (.long un), .second, .val (.long cn), .second, .val (.int q), .val (.int ((f (q).toNatClampNeg) &&& (255 : Int32))), s9] [(.int (if ((f (q).toNatClampNeg) &&& (255 : Int32)) < (224 : Int32) then (2 : Int32) else (if ((f (q).toNatClampNeg) &&& (255 : Int32)) < (240 : Int32) then (3 : Int32) else (4 : Int32))))])) _
            exact kk_
        obtain ⟨ln, qln⟩ : ∃ zz_ : Int32, zz_ = (if ((f (q).toNatClampNeg) &&& (255 : Int32)) < (128 : Int32) then (1 : Int32) else (if ((f (q).toNatClampNeg) &&& (255 : Int32)) < (224 : Int32) then (2 : Int32) else (if ((f (q).toNatClampNeg) &&& (255 : Int32)) < (240 : Int32) then (3 : Int32) else (4 : Int32)))) := ⟨_, rfl⟩
        refine Go.of (st6 ln qln) ?_
        show Go p e below s₁ (mkF m 59 #[.val (.ref a), .val (.int fr), .val (.int to), .val (.long un), .second, .val (.long cn), .second, .val (.int q), .val (.int ((f (q).toNatClampNeg) &&& (255 : Int32))), s9] [(.int ln)]) _
        refine Go.of (fun tg_ kk_ => XS.istoreS X0.here hx rfl (hb hby d3_59) rfl rfl hs9 kk_) ?_
        show Go p e below s₁ (mkF m 61 #[.val (.ref a), .val (.int fr), .val (.int to), .val (.long un), .second, .val (.long cn), .second, .val (.int q), .val (.int ((f (q).toNatClampNeg) &&& (255 : Int32))), .val (.int ln)] []) _
        refine Go.of (fun tg_ kk_ => XS.lload X0.here hx rfl (hb hby d3_61) rfl kk_) ?_
        show Go p e below s₁ (mkF m 63 #[.val (.ref a), .val (.int fr), .val (.int to), .val (.long un), .second, .val (.long cn), .second, .val (.int q), .val (.int ((f (q).toNatClampNeg) &&& (255 : Int32))), .val (.int ln)] [(.long cn)]) _
        refine Go.of (fun tg_ kk_ => XS.iload X0.here hx rfl (hb hby d3_63) rfl kk_) ?_
        show Go p e below s₁ (mkF m 65 #[.val (.ref a), .val (.int fr), .val (.int to), .val (.long un), .second, .val (.long cn), .second, .val (.int q), .val (.int ((f (q).toNatClampNeg) &&& (255 : Int32))), .val (.int ln)] [(.int ln), (.long cn)]) _
        refine Go.of (fun tg_ kk_ => XS.iconst X0.here hx rfl (hb hby d3_65) kk_) ?_
        show Go p e below s₁ (mkF m 66 #[.val (.ref a), .val (.int fr), .val (.int to), .val (.long un), .second, .val (.long cn), .second, .val (.int q), .val (.int ((f (q).toNatClampNeg) &&& (255 : Int32))), .val (.int ln)] [(.int (4 : Int32)), (.int ln), (.long cn)]) _
        have st7 : ∀ du : Int64, du = (if ln = (4 : Int32) then (2 : Int64) else (1 : Int64)) → ∀ t, Steps p.tables e below (s₁.setTop (mkF m 76 #[.val (.ref a), .val (.int fr), .val (.int to), .val (.long un), .second, .val (.long cn), .second, .val (.int q), .val (.int ((f (q).toNatClampNeg) &&& (255 : Int32))), .val (.int ln)] [(.long du), (.long cn)])) t → Steps p.tables e below (s₁.setTop (mkF m 66 #[.val (.ref a), .val (.int fr), .val (.int to), .val (.long un), .second, .val (.long cn), .second, .val (.int q), .val (.int ((f (q).toNatClampNeg) &&& (255 : Int32))), .val (.int ln)] [(.int (4 : Int32)), (.int ln), (.long cn)])) t := by
          intro du qdu tg_ kk_
          by_cases hc : ln = (4 : Int32)
          · rw [if_pos hc] at qdu; rw [qdu] at kk_
            show Steps p.tables e below (s₁.setTop (mkF m 66 #[.val (.ref a), .val (.int fr), .val (.int to), .val (.long un), .second, .val (.long cn), .second, .val (.int q), .val (.int ((f (q).toNatClampNeg) &&& (255 : Int32))), .val (.int ln)] [(.int (4 : Int32)), (.int ln), (.long cn)])) _
            refine XS.icmpNo X0.here hx rfl (hb hby d3_66) rfl (teq hc).2 ?_
            show Steps p.tables e below (s₁.setTop (mkF m 69 #[.val (.ref a), .val (.int fr), .val (.int to), .val (.long un), .second, .val (.long cn), .second, .val (.int q), .val (.int ((f (q).toNatClampNeg) &&& (255 : Int32))), .val (.int ln)] [(.long cn)])) _
            refine X0.ldc2Long hx hown (mvT hZ (hw _ (List.mem_of_getElem? (i := 13) rfl))) (g := (mkF m 69 #[.val (.ref a), .val (.int fr), .val (.int to), .val (.long un), .second, .val (.long cn), .second, .val (.int q), .val (.int ((f (q).toNatClampNeg) &&& (255 : Int32))), .val (.int ln)] [(.long cn)])) rfl (hb hby d3_69) _ ?_
            show Steps p.tables e below (s₁.setTop (mkF m 72 #[.val (.ref a), .val (.int fr), .val (.int to), .val (.long un), .second, .val (.long cn), .second, .val (.int q), .val (.int ((f (q).toNatClampNeg) &&& (255 : Int32))), .val (.int ln)] [(.long (2 : Int64)), (.long cn)])) _
            refine XS.goto X0.here hx rfl (pc0 := 72) (pc' := 76) rfl (hb hby d3_72) (by decide) (by decide) ?_
            show Steps p.tables e below (s₁.setTop (mkF m 76 #[.val (.ref a), .val (.int fr), .val (.int to), .val (.long un), .second, .val (.long cn), .second, .val (.int q), .val (.int ((f (q).toNatClampNeg) &&& (255 : Int32))), .val (.int ln)] [(.long (2 : Int64)), (.long cn)])) _
            exact kk_
          · rw [if_neg hc] at qdu; rw [qdu] at kk_
            show Steps p.tables e below (s₁.setTop (mkF m 66 #[.val (.ref a), .val (.int fr), .val (.int to), .val (.long un), .second, .val (.long cn), .second, .val (.int q), .val (.int ((f (q).toNatClampNeg) &&& (255 : Int32))), .val (.int ln)] [(.int (4 : Int32)), (.int ln), (.long cn)])) _
            refine XS.icmpYes X0.here hx rfl (pc0 := 66) (pc' := 75) rfl (hb hby d3_66) rfl (feq hc).2 (by decide) (by decide) ?_
            show Steps p.tables e below (s₁.setTop (mkF m 75 #[.val (.ref a), .val (.int fr), .val (.int to), .val (.long un), .second, .val (.long cn), .second, .val (.int q), .val (.int ((f (q).toNatClampNeg) &&& (255 : Int32))), .val (.int ln)] [(.long cn)])) _
            refine XS.lconst X0.here hx rfl (hb hby d3_75) ?_
            show Steps p.tables e below (s₁.setTop (mkF m 76 #[.val (.ref a), .val (.int fr), .val (.int to), .val (.long un), .second, .val (.long cn), .second, .val (.int q), .val (.int ((f (q).toNatClampNeg) &&& (255 : Int32))), .val (.int ln)] [(.long (1 : Int64)), (.long cn)])) _
            exact kk_
        obtain ⟨du, qdu⟩ : ∃ zz_ : Int64, zz_ = (if ln = (4 : Int32) then (2 : Int64) else (1 : Int64)) := ⟨_, rfl⟩
        refine Go.of (st7 du qdu) ?_
        show Go p e below s₁ (mkF m 76 #[.val (.ref a), .val (.int fr), .val (.int to), .val (.long un), .second, .val (.long cn), .second, .val (.int q), .val (.int ((f (q).toNatClampNeg) &&& (255 : Int32))), .val (.int ln)] [(.long du), (.long cn)]) _
        refine Go.of (fun tg_ kk_ => XS.ladd X0.here hx rfl (hb hby d3_76) rfl kk_) ?_
        show Go p e below s₁ (mkF m 77 #[.val (.ref a), .val (.int fr), .val (.int to), .val (.long un), .second, .val (.long cn), .second, .val (.int q), .val (.int ((f (q).toNatClampNeg) &&& (255 : Int32))), .val (.int ln)] [(.long (cn + du))]) _
        refine Go.of (fun tg_ kk_ => XS.lstore X0.here hx rfl (hb hby d3_77) rfl (l' := #[.val (.ref a), .val (.int fr), .val (.int to), .val (.long un), .second, .val (.long (cn + du)), .second, .val (.int q), .val (.int ((f (q).toNatClampNeg) &&& (255 : Int32))), .val (.int ln)]) rfl kk_) ?_
        show Go p e below s₁ (mkF m 79 #[.val (.ref a), .val (.int fr), .val (.int to), .val (.long un), .second, .val (.long (cn + du)), .second, .val (.int q), .val (.int ((f (q).toNatClampNeg) &&& (255 : Int32))), .val (.int ln)] []) _
        refine Go.of (fun tg_ kk_ => XS.lload X0.here hx rfl (hb hby d3_79) rfl kk_) ?_
        show Go p e below s₁ (mkF m 81 #[.val (.ref a), .val (.int fr), .val (.int to), .val (.long un), .second, .val (.long (cn + du)), .second, .val (.int q), .val (.int ((f (q).toNatClampNeg) &&& (255 : Int32))), .val (.int ln)] [(.long (cn + du))]) _
        refine Go.of (fun tg_ kk_ => XS.lloadN X0.here hx rfl (hb hby d3_81) rfl kk_) ?_
        show Go p e below s₁ (mkF m 82 #[.val (.ref a), .val (.int fr), .val (.int to), .val (.long un), .second, .val (.long (cn + du)), .second, .val (.int q), .val (.int ((f (q).toNatClampNeg) &&& (255 : Int32))), .val (.int ln)] [(.long un), (.long (cn + du))]) _
        refine Go.of (fun tg_ kk_ => XS.lcmp X0.here hx rfl (hb hby d3_82) rfl kk_) ?_
        show Go p e below s₁ (mkF m 83 #[.val (.ref a), .val (.int fr), .val (.int to), .val (.long un), .second, .val (.long (cn + du)), .second, .val (.int q), .val (.int ((f (q).toNatClampNeg) &&& (255 : Int32))), .val (.int ln)] [(.int (lcmpW (cn + du) un))]) _
        by_cases hc2 : un < (cn + du)
        · skip
          refine Go.of (fun tg_ kk_ => XS.ifNo X0.here hx rfl (hb hby d3_83) rfl ((if0 _ _).trans (tlt ((lw_gt (cn + du) un).mpr hc2)).2.2.2) kk_) ?_
          show Go p e below s₁ (mkF m 86 #[.val (.ref a), .val (.int fr), .val (.int to), .val (.long un), .second, .val (.long (cn + du)), .second, .val (.int q), .val (.int ((f (q).toNatClampNeg) &&& (255 : Int32))), .val (.int ln)] []) _
          refine Go.of (fun tg_ kk_ => XS.goto X0.here hx rfl (pc0 := 86) (pc' := 99) rfl (hb hby d3_86) (by decide) (by decide) kk_) ?_
          show Go p e below s₁ (mkF m 99 #[.val (.ref a), .val (.int fr), .val (.int to), .val (.long un), .second, .val (.long (cn + du)), .second, .val (.int q), .val (.int ((f (q).toNatClampNeg) &&& (255 : Int32))), .val (.int ln)] []) _
          refine Go.of (fun tg_ kk_ => XS.iload X0.here hx rfl (hb hby d3_99) rfl kk_) ?_
          show Go p e below s₁ (mkF m 101 #[.val (.ref a), .val (.int fr), .val (.int to), .val (.long un), .second, .val (.long (cn + du)), .second, .val (.int q), .val (.int ((f (q).toNatClampNeg) &&& (255 : Int32))), .val (.int ln)] [(.int q)]) _
          obtain ⟨fs, hr, hrun, hended, hW, hsame⟩ := X0.leave (v := some (.int q)) (fun h => by rw [Bd.returns] at h; cases h)
          refine ⟨_, _, ?_, hrun, hended, _, _, rfl, ?_, ⟨_, rfl⟩, hW, hsame.mono (by decide) (by decide)⟩
          · exact retOut X0 hx Bd.returns rfl (Or.inl ⟨rfl, Or.inl rfl, _, rfl⟩) (hb hby d3_101) hr
          · show Q3 Z a fr to un f h0 n0 _ s₁.heap _
            rw [e0]
            exact ⟨by rw [← hres, own_scanS hc hc2 qln qdu], N0, rfl⟩
        · skip
          refine Go.of (fun tg_ kk_ => XS.ifYes X0.here hx rfl (pc0 := 83) (pc' := 89) rfl (hb hby d3_83) rfl ((if0 _ _).trans (flt (fun q => hc2 ((lw_gt (cn + du) un).mp q))).2.2.2) (by decide) (by decide) kk_) ?_
          show Go p e below s₁ (mkF m 89 #[.val (.ref a), .val (.int fr), .val (.int to), .val (.long un), .second, .val (.long (cn + du)), .second, .val (.int q), .val (.int ((f (q).toNatClampNeg) &&& (255 : Int32))), .val (.int ln)] []) _
          refine Go.of (fun tg_ kk_ => XS.iload X0.here hx rfl (hb hby d3_89) rfl kk_) ?_
          show Go p e below s₁ (mkF m 91 #[.val (.ref a), .val (.int fr), .val (.int to), .val (.long un), .second, .val (.long (cn + du)), .second, .val (.int q), .val (.int ((f (q).toNatClampNeg) &&& (255 : Int32))), .val (.int ln)] [(.int q)]) _
          refine Go.of (fun tg_ kk_ => XS.iload X0.here hx rfl (hb hby d3_91) rfl kk_) ?_
          show Go p e below s₁ (mkF m 93 #[.val (.ref a), .val (.int fr), .val (.int to), .val (.long un), .second, .val (.long (cn + du)), .second, .val (.int q), .val (.int ((f (q).toNatClampNeg) &&& (255 : Int32))), .val (.int ln)] [(.int ln), (.int q)]) _
          refine Go.of (fun tg_ kk_ => XS.iadd X0.here hx rfl (hb hby d3_93) rfl kk_) ?_
          show Go p e below s₁ (mkF m 94 #[.val (.ref a), .val (.int fr), .val (.int to), .val (.long un), .second, .val (.long (cn + du)), .second, .val (.int q), .val (.int ((f (q).toNatClampNeg) &&& (255 : Int32))), .val (.int ln)] [(.int (q + ln))]) _
          refine Go.of (fun tg_ kk_ => XS.istore X0.here hx rfl (hb hby d3_94) rfl (l' := #[.val (.ref a), .val (.int fr), .val (.int to), .val (.long un), .second, .val (.long (cn + du)), .second, .val (.int (q + ln)), .val (.int ((f (q).toNatClampNeg) &&& (255 : Int32))), .val (.int ln)]) rfl kk_) ?_
          show Go p e below s₁ (mkF m 96 #[.val (.ref a), .val (.int fr), .val (.int to), .val (.long un), .second, .val (.long (cn + du)), .second, .val (.int (q + ln)), .val (.int ((f (q).toNatClampNeg) &&& (255 : Int32))), .val (.int ln)] []) _
          refine Go.of (fun tg_ kk_ => XS.goto X0.here hx rfl (pc0 := 96) (pc' := 6) rfl (hb hby d3_96) (by decide) (by decide) kk_) ?_
          show Go p e below s₁ (mkF m 6 #[.val (.ref a), .val (.int fr), .val (.int to), .val (.long un), .second, .val (.long (cn + du)), .second, .val (.int (q + ln)), .val (.int ((f (q).toNatClampNeg) &&& (255 : Int32))), .val (.int ln)] []) _
          exact ih (q + ln) (cn + du) _ _ (Or.inr ⟨_, rfl, rfl⟩) (Or.inr ⟨_, rfl, rfl⟩) (own_next hin hto hc qln) (by rw [← hres]; exact own_scanN hc hc2 qln qdu)
      · skip
        refine Go.of (fun tg_ kk_ => XS.icmpYes X0.here hx rfl (pc0 := 9) (pc' := 99) rfl (hb hby d3_9) rfl (flt hc).2.1 (by decide) (by decide) kk_) ?_
        show Go p e below s₁ (mkF m 99 #[.val (.ref a), .val (.int fr), .val (.int to), .val (.long un), .second, .val (.long cn), .second, .val (.int q), s8, s9] []) _
        refine Go.of (fun tg_ kk_ => XS.iload X0.here hx rfl (hb hby d3_99) rfl kk_) ?_
        show Go p e below s₁ (mkF m 101 #[.val (.ref a), .val (.int fr), .val (.int to), .val (.long un), .second, .val (.long cn), .second, .val (.int q), s8, s9] [(.int q)]) _
        obtain ⟨fs, hr, hrun, hended, hW, hsame⟩ := X0.leave (v := some (.int q)) (fun h => by rw [Bd.returns] at h; cases h)
        refine ⟨_, _, ?_, hrun, hended, _, _, rfl, ?_, ⟨_, rfl⟩, hW, hsame.mono (by decide) (by decide)⟩
        · exact retOut X0 hx Bd.returns rfl (Or.inl ⟨rfl, Or.inl rfl, _, rfl⟩) (hb hby d3_101) hr
        · show Q3 Z a fr to un f h0 n0 _ s₁.heap _
          rw [e0]
          exact ⟨by rw [← hres, own_scanE hc], N0, rfl⟩
  exact loop 16 fr 0 .unset .unset (Or.inl rfl) (Or.inl rfl) ⟨hfr, by omega⟩ rfl
theorem ef_0 (m : MethodId) (x0 : Int32) (x1 : Int32) (x2 : Int32) (x3 : Int32) (x4 : Int64) : entryFrame m #[(.int x0), (.int x1), (.int x2), (.int x3), (.long x4)] maxLocals = mkF m 0 #[.val (.int x0), .val (.int x1), .val (.int x2), .val (.int x3), .val (.long x4), .second, .unset, .unset, .unset, .unset, .unset, .unset, .unset, .unset, .unset, .unset, .unset, .unset, .unset, .unset, .unset, .unset, .unset] [] := by first | (simp [entryFrame, mkF, argsToLocals, Value.category, maxLocals]; done) | rfl
def Q0 (Z : State) (p0 : Int32) (p1 : Int32) (p2 : Int32) (p3 : Int32) (p4 : Int64) (h0 : Heap) (n0 : Nat) (v : Option Value) (h : Heap) (L : List Loc) : Prop := v = some (.int 1) ∧ Fr n0 L
set_option maxRecDepth 65536 in
set_option maxHeartbeats 40000000 in
theorem rm0 (l : Launch) (Z : State) (a0 : Array Value) (hw : ∀ d ∈ tables_1, d.before a0 Z = true) (ws : List Jvm.Cond) (p0 : Int32) (p1 : Int32) (p2 : Int32) (p3 : Int32) (p4 : Int64) (h0 : Heap) (n0 : Nat) (Z0 : n0 ≤ h0.size) :
    MetFree l x (head1 (Jvm.Cond.code x code maxLocals ret :: ws) room_1) (fun aa_ U => aa_ = #[(.int p0), (.int p1), (.int p2), (.int p3), (.long p4)] ∧ Z.Warmed39 U.vm ∧ U.heap = h0) (fun _ _ _ _ _ => True) (fun _ U o U' => ∃ vv_ LL_, o = .returned vv_ ∧ Q0 Z p0 p1 p2 p3 p4 h0 n0 vv_ U'.heap LL_ ∧ FrameEnd U o U' LL_ 16 128) := by
  refine MetFree.of_bodySF (plainFor_of_name pn_0) hisR ?_
  intro p e s m args below meth c s₁ Bd hml0 hP hK
  obtain ⟨rfl, hZ, hh⟩ := hP
  have hx := Bd.exec
  have hby := Bd.bytes
  have hml : c.maxLocals = 23 := hml0
  have hown : s.vm.findClass "com/example/diagnostic/diagnostic/Utf8OffsetOfUnitPinLaw" = some m.cls := findClass_of_methodNamed Bd.named
  have hnm := (name_of_methodNamed Bd.named Bd.method).1
  have X0 : Stand p l e room_1 s m #[(.int p0), (.int p1), (.int p2), (.int p3), (.long p4)] below meth c s₁ [] 0 0 := Stand.of_body Bd
  have e0 : s₁.heap = h0 := by rw [← hh, Bd.state]; rfl
  have N0 := Fr.nil n0
  have K0 : Keep h0 h0 [] := Keep.refl h0 _
  refine Go.enter (P := fun o U' => ∃ vv_ LL_, o = .returned vv_ ∧ Q0 Z p0 p1 p2 p3 p4 h0 n0 vv_ U'.heap LL_ ∧ FrameEnd s o U' LL_ 16 128) (ef_0 m p0 p1 p2 p3 p4) ?_
  show Go p e below s₁ (mkF m 0 #[.val (.int p0), .val (.int p1), .val (.int p2), .val (.int p3), .val (.long p4), .second, .unset, .unset, .unset, .unset, .unset, .unset, .unset, .unset, .unset, .unset, .unset, .unset, .unset, .unset, .unset, .unset, .unset] []) _
  refine Go.of (fun tg_ kk_ => XS.bipush X0.here hx rfl (hb hby at_0) kk_) ?_
  show Go p e below s₁ (mkF m 2 #[.val (.int p0), .val (.int p1), .val (.int p2), .val (.int p3), .val (.long p4), .second, .unset, .unset, .unset, .unset, .unset, .unset, .unset, .unset, .unset, .unset, .unset, .unset, .unset, .unset, .unset, .unset, .unset] [(.int (16 : Int32))]) _
  obtain ⟨T1, h1, k1, X1, e1, E1, A1, st1⟩ := newP X0 hx hZ (hw _ (List.mem_of_getElem? (i := 0) rfl)) e0 (g := (mkF m 2 #[.val (.int p0), .val (.int p1), .val (.int p2), .val (.int p3), .val (.long p4), .second, .unset, .unset, .unset, .unset, .unset, .unset, .unset, .unset, .unset, .unset, .unset, .unset, .unset, .unset, .unset, .unset, .unset] [(.int (16 : Int32))])) rfl (hb hby at_2) rfl (by decide) (cap := 16) (by decide) (by decide) (by decide) (by decide)
  obtain ⟨b1, g1⟩ : ∃ zz_, zz_ = h0.size := ⟨_, rfl⟩
  rw [← g1] at A1 st1
  have gx1 : n0 ≤ b1 := Nat.le_trans Z0 (Nat.le_of_eq g1.symm)
  have sz1 : h0.size ≤ b1 := Nat.le_trans K0.1 (Nat.le_of_eq g1.symm)
  have K2 := K0.ext E1
  have Zs3 : n0 ≤ h1.size := Nat.le_trans Z0 E1.1
  have V1 : Af Z h1 b1 .byte 16 (fun _ => 0) := Af.new rfl A1 (by decide)
  refine Go.of (st1) ?_
  show Go p e below T1 (mkF m 4 #[.val (.int p0), .val (.int p1), .val (.int p2), .val (.int p3), .val (.long p4), .second, .unset, .unset, .unset, .unset, .unset, .unset, .unset, .unset, .unset, .unset, .unset, .unset, .unset, .unset, .unset, .unset, .unset] [(.ref b1)]) _
  refine Go.of (fun tg_ kk_ => XS.astore X1.here hx rfl (hb hby at_4) rfl rfl (l' := #[.val (.int p0), .val (.int p1), .val (.int p2), .val (.int p3), .val (.long p4), .second, .val (.ref b1), .unset, .unset, .unset, .unset, .unset, .unset, .unset, .unset, .unset, .unset, .unset, .unset, .unset, .unset, .unset, .unset]) rfl kk_) ?_
  show Go p e below T1 (mkF m 6 #[.val (.int p0), .val (.int p1), .val (.int p2), .val (.int p3), .val (.long p4), .second, .val (.ref b1), .unset, .unset, .unset, .unset, .unset, .unset, .unset, .unset, .unset, .unset, .unset, .unset, .unset, .unset, .unset, .unset] []) _
  refine Go.of (fun tg_ kk_ => XS.iloadN X1.here hx rfl (hb hby at_6) rfl kk_) ?_
  show Go p e below T1 (mkF m 7 #[.val (.int p0), .val (.int p1), .val (.int p2), .val (.int p3), .val (.long p4), .second, .val (.ref b1), .unset, .unset, .unset, .unset, .unset, .unset, .unset, .unset, .unset, .unset, .unset, .unset, .unset, .unset, .unset, .unset] [(.int p3)]) _
  refine Go.of (fun tg_ kk_ => XS.iconst X1.here hx rfl (hb hby at_7) kk_) ?_
  show Go p e below T1 (mkF m 8 #[.val (.int p0), .val (.int p1), .val (.int p2), .val (.int p3), .val (.long p4), .second, .val (.ref b1), .unset, .unset, .unset, .unset, .unset, .unset, .unset, .unset, .unset, .unset, .unset, .unset, .unset, .unset, .unset, .unset] [(.int (3 : Int32)), (.int p3)]) _
  refine Go.of (fun tg_ kk_ => XS.iand X1.here hx rfl (hb hby at_8) rfl kk_) ?_
  show Go p e below T1 (mkF m 9 #[.val (.int p0), .val (.int p1), .val (.int p2), .val (.int p3), .val (.long p4), .second, .val (.ref b1), .unset, .unset, .unset, .unset, .unset, .unset, .unset, .unset, .unset, .unset, .unset, .unset, .unset, .unset, .unset, .unset] [(.int (p3 &&& (3 : Int32)))]) _
  obtain ⟨pp, qpp⟩ : ∃ zz_ : Int32, zz_ = (p3 &&& (3 : Int32)) := ⟨_, rfl⟩
  rw [← qpp]
  show Go p e below T1 (mkF m 9 #[.val (.int p0), .val (.int p1), .val (.int p2), .val (.int p3), .val (.long p4), .second, .val (.ref b1), .unset, .unset, .unset, .unset, .unset, .unset, .unset, .unset, .unset, .unset, .unset, .unset, .unset, .unset, .unset, .unset] [(.int pp)]) _
  refine Go.of (fun tg_ kk_ => XS.istore X1.here hx rfl (hb hby at_9) rfl (l' := #[.val (.int p0), .val (.int p1), .val (.int p2), .val (.int p3), .val (.long p4), .second, .val (.ref b1), .val (.int pp), .unset, .unset, .unset, .unset, .unset, .unset, .unset, .unset, .unset, .unset, .unset, .unset, .unset, .unset, .unset]) rfl kk_) ?_
  show Go p e below T1 (mkF m 11 #[.val (.int p0), .val (.int p1), .val (.int p2), .val (.int p3), .val (.long p4), .second, .val (.ref b1), .val (.int pp), .unset, .unset, .unset, .unset, .unset, .unset, .unset, .unset, .unset, .unset, .unset, .unset, .unset, .unset, .unset] []) _
  have hb0 : 0 ≤ pp.toInt ∧ pp.toInt ≤ 3 := by rw [qpp]; exact own_p p3
  have hy0 : 0 ≤ pp.toInt ∧ pp.toInt ≤ 12 := ⟨hb0.1, by omega⟩
  refine Go.of (fun tg_ kk_ => XS.iloadN X1.here hx rfl (hb hby at_11) rfl kk_) ?_
  show Go p e below T1 (mkF m 12 #[.val (.int p0), .val (.int p1), .val (.int p2), .val (.int p3), .val (.long p4), .second, .val (.ref b1), .val (.int pp), .unset, .unset, .unset, .unset, .unset, .unset, .unset, .unset, .unset, .unset, .unset, .unset, .unset, .unset, .unset] [(.int p3)]) _
  refine Go.of (fun tg_ kk_ => XS.iconst X1.here hx rfl (hb hby at_12) kk_) ?_
  show Go p e below T1 (mkF m 13 #[.val (.int p0), .val (.int p1), .val (.int p2), .val (.int p3), .val (.long p4), .second, .val (.ref b1), .val (.int pp), .unset, .unset, .unset, .unset, .unset, .unset, .unset, .unset, .unset, .unset, .unset, .unset, .unset, .unset, .unset] [(.int (2 : Int32)), (.int p3)]) _
  refine Go.of (fun tg_ kk_ => XS.iushr X1.here hx rfl (hb hby at_13) rfl kk_) ?_
  show Go p e below T1 (mkF m 14 #[.val (.int p0), .val (.int p1), .val (.int p2), .val (.int p3), .val (.long p4), .second, .val (.ref b1), .val (.int pp), .unset, .unset, .unset, .unset, .unset, .unset, .unset, .unset, .unset, .unset, .unset, .unset, .unset, .unset, .unset] [(.int ((p3.toUInt32 >>> ((2 : Int32) &&& 31).toUInt32).toInt32))]) _
  refine Go.of (fun tg_ kk_ => XS.iconst X1.here hx rfl (hb hby at_14) kk_) ?_
  show Go p e below T1 (mkF m 15 #[.val (.int p0), .val (.int p1), .val (.int p2), .val (.int p3), .val (.long p4), .second, .val (.ref b1), .val (.int pp), .unset, .unset, .unset, .unset, .unset, .unset, .unset, .unset, .unset, .unset, .unset, .unset, .unset, .unset, .unset] [(.int (3 : Int32)), (.int ((p3.toUInt32 >>> ((2 : Int32) &&& 31).toUInt32).toInt32))]) _
  refine Go.of (fun tg_ kk_ => XS.iand X1.here hx rfl (hb hby at_15) rfl kk_) ?_
  show Go p e below T1 (mkF m 16 #[.val (.int p0), .val (.int p1), .val (.int p2), .val (.int p3), .val (.long p4), .second, .val (.ref b1), .val (.int pp), .unset, .unset, .unset, .unset, .unset, .unset, .unset, .unset, .unset, .unset, .unset, .unset, .unset, .unset, .unset] [(.int (((p3.toUInt32 >>> ((2 : Int32) &&& 31).toUInt32).toInt32) &&& (3 : Int32)))]) _
  obtain ⟨nn, qnn⟩ : ∃ zz_ : Int32, zz_ = (((p3.toUInt32 >>> ((2 : Int32) &&& 31).toUInt32).toInt32) &&& (3 : Int32)) := ⟨_, rfl⟩
  rw [← qnn]
  show Go p e below T1 (mkF m 16 #[.val (.int p0), .val (.int p1), .val (.int p2), .val (.int p3), .val (.long p4), .second, .val (.ref b1), .val (.int pp), .unset, .unset, .unset, .unset, .unset, .unset, .unset, .unset, .unset, .unset, .unset, .unset, .unset, .unset, .unset] [(.int nn)]) _
  rcases (show nn = (0 : Int32) ∨ nn = (1 : Int32) ∨ nn = (2 : Int32) ∨ nn = (3 : Int32) from by rw [qnn]; exact own_n4 p3) with hs4 | hs4 | hs4 | hs4
  · subst hs4
    show Go p e below T1 (mkF m 16 #[.val (.int p0), .val (.int p1), .val (.int p2), .val (.int p3), .val (.long p4), .second, .val (.ref b1), .val (.int pp), .unset, .unset, .unset, .unset, .unset, .unset, .unset, .unset, .unset, .unset, .unset, .unset, .unset, .unset, .unset] [(.int (0 : Int32))]) _
    refine Go.of (fun tg_ kk_ => XS.istore X1.here hx rfl (hb hby at_16) rfl (l' := #[.val (.int p0), .val (.int p1), .val (.int p2), .val (.int p3), .val (.long p4), .second, .val (.ref b1), .val (.int pp), .val (.int (0 : Int32)), .unset, .unset, .unset, .unset, .unset, .unset, .unset, .unset, .unset, .unset, .unset, .unset, .unset, .unset]) rfl kk_) ?_
    show Go p e below T1 (mkF m 18 #[.val (.int p0), .val (.int p1), .val (.int p2), .val (.int p3), .val (.long p4), .second, .val (.ref b1), .val (.int pp), .val (.int (0 : Int32)), .unset, .unset, .unset, .unset, .unset, .unset, .unset, .unset, .unset, .unset, .unset, .unset, .unset, .unset] []) _
    refine Go.of (fun tg_ kk_ => XS.iloadN X1.here hx rfl (hb hby at_18) rfl kk_) ?_
    show Go p e below T1 (mkF m 19 #[.val (.int p0), .val (.int p1), .val (.int p2), .val (.int p3), .val (.long p4), .second, .val (.ref b1), .val (.int pp), .val (.int (0 : Int32)), .unset, .unset, .unset, .unset, .unset, .unset, .unset, .unset, .unset, .unset, .unset, .unset, .unset, .unset] [(.int p3)]) _
    refine Go.of (fun tg_ kk_ => XS.iconst X1.here hx rfl (hb hby at_19) kk_) ?_
    show Go p e below T1 (mkF m 20 #[.val (.int p0), .val (.int p1), .val (.int p2), .val (.int p3), .val (.long p4), .second, .val (.ref b1), .val (.int pp), .val (.int (0 : Int32)), .unset, .unset, .unset, .unset, .unset, .unset, .unset, .unset, .unset, .unset, .unset, .unset, .unset, .unset] [(.int (4 : Int32)), (.int p3)]) _
    refine Go.of (fun tg_ kk_ => XS.iushr X1.here hx rfl (hb hby at_20) rfl kk_) ?_
    show Go p e below T1 (mkF m 21 #[.val (.int p0), .val (.int p1), .val (.int p2), .val (.int p3), .val (.long p4), .second, .val (.ref b1), .val (.int pp), .val (.int (0 : Int32)), .unset, .unset, .unset, .unset, .unset, .unset, .unset, .unset, .unset, .unset, .unset, .unset, .unset, .unset] [(.int ((p3.toUInt32 >>> ((4 : Int32) &&& 31).toUInt32).toInt32))]) _
    refine Go.of (fun tg_ kk_ => XS.sipush X1.here hx rfl (hb hby at_21) kk_) ?_
    show Go p e below T1 (mkF m 24 #[.val (.int p0), .val (.int p1), .val (.int p2), .val (.int p3), .val (.long p4), .second, .val (.ref b1), .val (.int pp), .val (.int (0 : Int32)), .unset, .unset, .unset, .unset, .unset, .unset, .unset, .unset, .unset, .unset, .unset, .unset, .unset, .unset] [(.int (255 : Int32)), (.int ((p3.toUInt32 >>> ((4 : Int32) &&& 31).toUInt32).toInt32))]) _
    refine Go.of (fun tg_ kk_ => XS.iand X1.here hx rfl (hb hby at_24) rfl kk_) ?_
    show Go p e below T1 (mkF m 25 #[.val (.int p0), .val (.int p1), .val (.int p2), .val (.int p3), .val (.long p4), .second, .val (.ref b1), .val (.int pp), .val (.int (0 : Int32)), .unset, .unset, .unset, .unset, .unset, .unset, .unset, .unset, .unset, .unset, .unset, .unset, .unset, .unset] [(.int (((p3.toUInt32 >>> ((4 : Int32) &&& 31).toUInt32).toInt32) &&& (255 : Int32)))]) _
    refine Go.of (fun tg_ kk_ => XS.i2b X1.here hx rfl (hb hby at_25) rfl kk_) ?_
    show Go p e below T1 (mkF m 26 #[.val (.int p0), .val (.int p1), .val (.int p2), .val (.int p3), .val (.long p4), .second, .val (.ref b1), .val (.int pp), .val (.int (0 : Int32)), .unset, .unset, .unset, .unset, .unset, .unset, .unset, .unset, .unset, .unset, .unset, .unset, .unset, .unset] [(.int ((((p3.toUInt32 >>> ((4 : Int32) &&& 31).toUInt32).toInt32) &&& (255 : Int32)).toInt8.toInt32))]) _
    refine Go.of (fun tg_ kk_ => XS.istore X1.here hx rfl (hb hby at_26) rfl (l' := #[.val (.int p0), .val (.int p1), .val (.int p2), .val (.int p3), .val (.long p4), .second, .val (.ref b1), .val (.int pp), .val (.int (0 : Int32)), .val (.int ((((p3.toUInt32 >>> ((4 : Int32) &&& 31).toUInt32).toInt32) &&& (255 : Int32)).toInt8.toInt32)), .unset, .unset, .unset, .unset, .unset, .unset, .unset, .unset, .unset, .unset, .unset, .unset, .unset]) rfl kk_) ?_
    show Go p e below T1 (mkF m 28 #[.val (.int p0), .val (.int p1), .val (.int p2), .val (.int p3), .val (.long p4), .second, .val (.ref b1), .val (.int pp), .val (.int (0 : Int32)), .val (.int ((((p3.toUInt32 >>> ((4 : Int32) &&& 31).toUInt32).toInt32) &&& (255 : Int32)).toInt8.toInt32)), .unset, .unset, .unset, .unset, .unset, .unset, .unset, .unset, .unset, .unset, .unset, .unset, .unset] []) _
    refine Go.of (fun tg_ kk_ => XS.aload X1.here hx rfl (hb hby at_28) rfl rfl kk_) ?_
    show Go p e below T1 (mkF m 30 #[.val (.int p0), .val (.int p1), .val (.int p2), .val (.int p3), .val (.long p4), .second, .val (.ref b1), .val (.int pp), .val (.int (0 : Int32)), .val (.int ((((p3.toUInt32 >>> ((4 : Int32) &&& 31).toUInt32).toInt32) &&& (255 : Int32)).toInt8.toInt32)), .unset, .unset, .unset, .unset, .unset, .unset, .unset, .unset, .unset, .unset, .unset, .unset, .unset] [(.ref b1)]) _
    refine Go.of (fun tg_ kk_ => XS.iconst X1.here hx rfl (hb hby at_30) kk_) ?_
    show Go p e below T1 (mkF m 31 #[.val (.int p0), .val (.int p1), .val (.int p2), .val (.int p3), .val (.long p4), .second, .val (.ref b1), .val (.int pp), .val (.int (0 : Int32)), .val (.int ((((p3.toUInt32 >>> ((4 : Int32) &&& 31).toUInt32).toInt32) &&& (255 : Int32)).toInt8.toInt32)), .unset, .unset, .unset, .unset, .unset, .unset, .unset, .unset, .unset, .unset, .unset, .unset, .unset] [(.int (0 : Int32)), (.ref b1)]) _
    refine Go.of (fun tg_ kk_ => XS.iload X1.here hx rfl (hb hby at_31) rfl kk_) ?_
    show Go p e below T1 (mkF m 33 #[.val (.int p0), .val (.int p1), .val (.int p2), .val (.int p3), .val (.long p4), .second, .val (.ref b1), .val (.int pp), .val (.int (0 : Int32)), .val (.int ((((p3.toUInt32 >>> ((4 : Int32) &&& 31).toUInt32).toInt32) &&& (255 : Int32)).toInt8.toInt32)), .unset, .unset, .unset, .unset, .unset, .unset, .unset, .unset, .unset, .unset, .unset, .unset, .unset] [(.int ((((p3.toUInt32 >>> ((4 : Int32) &&& 31).toUInt32).toInt32) &&& (255 : Int32)).toInt8.toInt32)), (.int (0 : Int32)), (.ref b1)]) _
    have ib5 := (show ¬ ((0 : Int32) < 0) ∧ ((0 : Int32)).toNatClampNeg < 16 from ⟨by decide, by decide⟩)
    obtain ⟨cl5, Ar5, S5, H5⟩ := V1
    obtain ⟨T5, h5, X5, e5, W5, st5⟩ := stB X1 hx hZ e1 Ar5 (j := (0 : Int32)) (Af.inb S5 ib5) (g := (mkF m 33 #[.val (.int p0), .val (.int p1), .val (.int p2), .val (.int p3), .val (.long p4), .second, .val (.ref b1), .val (.int pp), .val (.int (0 : Int32)), .val (.int ((((p3.toUInt32 >>> ((4 : Int32) &&& 31).toUInt32).toInt32) &&& (255 : Int32)).toInt8.toInt32)), .unset, .unset, .unset, .unset, .unset, .unset, .unset, .unset, .unset, .unset, .unset, .unset, .unset] [(.int ((((p3.toUInt32 >>> ((4 : Int32) &&& 31).toUInt32).toInt32) &&& (255 : Int32)).toInt8.toInt32)), (.int (0 : Int32)), (.ref b1)])) rfl rfl (hb hby at_33)
    obtain ⟨f5, qf5⟩ : ∃ qq_ : Nat → Int32, qq_ = upd (fun _ => 0) 0 (nar .byte ((((p3.toUInt32 >>> ((4 : Int32) &&& 31).toUInt32).toInt32) &&& (255 : Int32)).toInt8.toInt32)) := ⟨_, rfl⟩
    have V5 : Af Z h5 b1 .byte 16 f5 := by rw [qf5]; exact Af.set Ar5 S5 H5 W5 (by decide)
    have K7 := K2.wr W5 (Or.inr sz1)
    have Zs8 : n0 ≤ h5.size := Nat.le_trans Zs3 (Keep.of_wr W5).1
    have N5 := Fr.snoc X5 N0 gx1
    refine Go.of (st5) ?_
    show Go p e below T5 (mkF m 34 #[.val (.int p0), .val (.int p1), .val (.int p2), .val (.int p3), .val (.long p4), .second, .val (.ref b1), .val (.int pp), .val (.int (0 : Int32)), .val (.int ((((p3.toUInt32 >>> ((4 : Int32) &&& 31).toUInt32).toInt32) &&& (255 : Int32)).toInt8.toInt32)), .unset, .unset, .unset, .unset, .unset, .unset, .unset, .unset, .unset, .unset, .unset, .unset, .unset] []) _
    refine Go.of (fun tg_ kk_ => XS.aload X5.here hx rfl (hb hby at_34) rfl rfl kk_) ?_
    show Go p e below T5 (mkF m 36 #[.val (.int p0), .val (.int p1), .val (.int p2), .val (.int p3), .val (.long p4), .second, .val (.ref b1), .val (.int pp), .val (.int (0 : Int32)), .val (.int ((((p3.toUInt32 >>> ((4 : Int32) &&& 31).toUInt32).toInt32) &&& (255 : Int32)).toInt8.toInt32)), .unset, .unset, .unset, .unset, .unset, .unset, .unset, .unset, .unset, .unset, .unset, .unset, .unset] [(.ref b1)]) _
    refine Go.of (fun tg_ kk_ => XS.iconst X5.here hx rfl (hb hby at_36) kk_) ?_
    show Go p e below T5 (mkF m 37 #[.val (.int p0), .val (.int p1), .val (.int p2), .val (.int p3), .val (.long p4), .second, .val (.ref b1), .val (.int pp), .val (.int (0 : Int32)), .val (.int ((((p3.toUInt32 >>> ((4 : Int32) &&& 31).toUInt32).toInt32) &&& (255 : Int32)).toInt8.toInt32)), .unset, .unset, .unset, .unset, .unset, .unset, .unset, .unset, .unset, .unset, .unset, .unset, .unset] [(.int (1 : Int32)), (.ref b1)]) _
    refine Go.of (fun tg_ kk_ => XS.iload X5.here hx rfl (hb hby at_37) rfl kk_) ?_
    show Go p e below T5 (mkF m 39 #[.val (.int p0), .val (.int p1), .val (.int p2), .val (.int p3), .val (.long p4), .second, .val (.ref b1), .val (.int pp), .val (.int (0 : Int32)), .val (.int ((((p3.toUInt32 >>> ((4 : Int32) &&& 31).toUInt32).toInt32) &&& (255 : Int32)).toInt8.toInt32)), .unset, .unset, .unset, .unset, .unset, .unset, .unset, .unset, .unset, .unset, .unset, .unset, .unset] [(.int ((((p3.toUInt32 >>> ((4 : Int32) &&& 31).toUInt32).toInt32) &&& (255 : Int32)).toInt8.toInt32)), (.int (1 : Int32)), (.ref b1)]) _
    have ib9 := (show ¬ ((1 : Int32) < 0) ∧ ((1 : Int32)).toNatClampNeg < 16 from ⟨by decide, by decide⟩)
    obtain ⟨cl9, Ar9, S9, H9⟩ := V5
    obtain ⟨T9, h9, X9, e9, W9, st9⟩ := stB X5 hx hZ e5 Ar9 (j := (1 : Int32)) (Af.inb S9 ib9) (g := (mkF m 39 #[.val (.int p0), .val (.int p1), .val (.int p2), .val (.int p3), .val (.long p4), .second, .val (.ref b1), .val (.int pp), .val (.int (0 : Int32)), .val (.int ((((p3.toUInt32 >>> ((4 : Int32) &&& 31).toUInt32).toInt32) &&& (255 : Int32)).toInt8.toInt32)), .unset, .unset, .unset, .unset, .unset, .unset, .unset, .unset, .unset, .unset, .unset, .unset, .unset] [(.int ((((p3.toUInt32 >>> ((4 : Int32) &&& 31).toUInt32).toInt32) &&& (255 : Int32)).toInt8.toInt32)), (.int (1 : Int32)), (.ref b1)])) rfl rfl (hb hby at_39)
    obtain ⟨f9, qf9⟩ : ∃ qq_ : Nat → Int32, qq_ = upd f5 1 (nar .byte ((((p3.toUInt32 >>> ((4 : Int32) &&& 31).toUInt32).toInt32) &&& (255 : Int32)).toInt8.toInt32)) := ⟨_, rfl⟩
    have V9 : Af Z h9 b1 .byte 16 f9 := by rw [qf9]; exact Af.set Ar9 S9 H9 W9 (by decide)
    have K11 := K7.wr W9 (Or.inr sz1)
    have Zs12 : n0 ≤ h9.size := Nat.le_trans Zs8 (Keep.of_wr W9).1
    have N9 := Fr.snoc X9 N5 gx1
    refine Go.of (st9) ?_
    show Go p e below T9 (mkF m 40 #[.val (.int p0), .val (.int p1), .val (.int p2), .val (.int p3), .val (.long p4), .second, .val (.ref b1), .val (.int pp), .val (.int (0 : Int32)), .val (.int ((((p3.toUInt32 >>> ((4 : Int32) &&& 31).toUInt32).toInt32) &&& (255 : Int32)).toInt8.toInt32)), .unset, .unset, .unset, .unset, .unset, .unset, .unset, .unset, .unset, .unset, .unset, .unset, .unset] []) _
    refine Go.of (fun tg_ kk_ => XS.aload X9.here hx rfl (hb hby at_40) rfl rfl kk_) ?_
    show Go p e below T9 (mkF m 42 #[.val (.int p0), .val (.int p1), .val (.int p2), .val (.int p3), .val (.long p4), .second, .val (.ref b1), .val (.int pp), .val (.int (0 : Int32)), .val (.int ((((p3.toUInt32 >>> ((4 : Int32) &&& 31).toUInt32).toInt32) &&& (255 : Int32)).toInt8.toInt32)), .unset, .unset, .unset, .unset, .unset, .unset, .unset, .unset, .unset, .unset, .unset, .unset, .unset] [(.ref b1)]) _
    refine Go.of (fun tg_ kk_ => XS.iconst X9.here hx rfl (hb hby at_42) kk_) ?_
    show Go p e below T9 (mkF m 43 #[.val (.int p0), .val (.int p1), .val (.int p2), .val (.int p3), .val (.long p4), .second, .val (.ref b1), .val (.int pp), .val (.int (0 : Int32)), .val (.int ((((p3.toUInt32 >>> ((4 : Int32) &&& 31).toUInt32).toInt32) &&& (255 : Int32)).toInt8.toInt32)), .unset, .unset, .unset, .unset, .unset, .unset, .unset, .unset, .unset, .unset, .unset, .unset, .unset] [(.int (2 : Int32)), (.ref b1)]) _
    refine Go.of (fun tg_ kk_ => XS.iload X9.here hx rfl (hb hby at_43) rfl kk_) ?_
    show Go p e below T9 (mkF m 45 #[.val (.int p0), .val (.int p1), .val (.int p2), .val (.int p3), .val (.long p4), .second, .val (.ref b1), .val (.int pp), .val (.int (0 : Int32)), .val (.int ((((p3.toUInt32 >>> ((4 : Int32) &&& 31).toUInt32).toInt32) &&& (255 : Int32)).toInt8.toInt32)), .unset, .unset, .unset, .unset, .unset, .unset, .unset, .unset, .unset, .unset, .unset, .unset, .unset] [(.int ((((p3.toUInt32 >>> ((4 : Int32) &&& 31).toUInt32).toInt32) &&& (255 : Int32)).toInt8.toInt32)), (.int (2 : Int32)), (.ref b1)]) _
    have ib13 := (show ¬ ((2 : Int32) < 0) ∧ ((2 : Int32)).toNatClampNeg < 16 from ⟨by decide, by decide⟩)
    obtain ⟨cl13, Ar13, S13, H13⟩ := V9
    obtain ⟨T13, h13, X13, e13, W13, st13⟩ := stB X9 hx hZ e9 Ar13 (j := (2 : Int32)) (Af.inb S13 ib13) (g := (mkF m 45 #[.val (.int p0), .val (.int p1), .val (.int p2), .val (.int p3), .val (.long p4), .second, .val (.ref b1), .val (.int pp), .val (.int (0 : Int32)), .val (.int ((((p3.toUInt32 >>> ((4 : Int32) &&& 31).toUInt32).toInt32) &&& (255 : Int32)).toInt8.toInt32)), .unset, .unset, .unset, .unset, .unset, .unset, .unset, .unset, .unset, .unset, .unset, .unset, .unset] [(.int ((((p3.toUInt32 >>> ((4 : Int32) &&& 31).toUInt32).toInt32) &&& (255 : Int32)).toInt8.toInt32)), (.int (2 : Int32)), (.ref b1)])) rfl rfl (hb hby at_45)
    obtain ⟨f13, qf13⟩ : ∃ qq_ : Nat → Int32, qq_ = upd f9 2 (nar .byte ((((p3.toUInt32 >>> ((4 : Int32) &&& 31).toUInt32).toInt32) &&& (255 : Int32)).toInt8.toInt32)) := ⟨_, rfl⟩
    have V13 : Af Z h13 b1 .byte 16 f13 := by rw [qf13]; exact Af.set Ar13 S13 H13 W13 (by decide)
    have K15 := K11.wr W13 (Or.inr sz1)
    have Zs16 : n0 ≤ h13.size := Nat.le_trans Zs12 (Keep.of_wr W13).1
    have N13 := Fr.snoc X13 N9 gx1
    refine Go.of (st13) ?_
    show Go p e below T13 (mkF m 46 #[.val (.int p0), .val (.int p1), .val (.int p2), .val (.int p3), .val (.long p4), .second, .val (.ref b1), .val (.int pp), .val (.int (0 : Int32)), .val (.int ((((p3.toUInt32 >>> ((4 : Int32) &&& 31).toUInt32).toInt32) &&& (255 : Int32)).toInt8.toInt32)), .unset, .unset, .unset, .unset, .unset, .unset, .unset, .unset, .unset, .unset, .unset, .unset, .unset] []) _
    refine Go.of (fun tg_ kk_ => XS.iload X13.here hx rfl (hb hby at_46) rfl kk_) ?_
    show Go p e below T13 (mkF m 48 #[.val (.int p0), .val (.int p1), .val (.int p2), .val (.int p3), .val (.long p4), .second, .val (.ref b1), .val (.int pp), .val (.int (0 : Int32)), .val (.int ((((p3.toUInt32 >>> ((4 : Int32) &&& 31).toUInt32).toInt32) &&& (255 : Int32)).toInt8.toInt32)), .unset, .unset, .unset, .unset, .unset, .unset, .unset, .unset, .unset, .unset, .unset, .unset, .unset] [(.int pp)]) _
    refine Go.of (fun tg_ kk_ => XS.istore X13.here hx rfl (hb hby at_48) rfl (l' := #[.val (.int p0), .val (.int p1), .val (.int p2), .val (.int p3), .val (.long p4), .second, .val (.ref b1), .val (.int pp), .val (.int (0 : Int32)), .val (.int ((((p3.toUInt32 >>> ((4 : Int32) &&& 31).toUInt32).toInt32) &&& (255 : Int32)).toInt8.toInt32)), .val (.int pp), .unset, .unset, .unset, .unset, .unset, .unset, .unset, .unset, .unset, .unset, .unset, .unset]) rfl kk_) ?_
    show Go p e below T13 (mkF m 50 #[.val (.int p0), .val (.int p1), .val (.int p2), .val (.int p3), .val (.long p4), .second, .val (.ref b1), .val (.int pp), .val (.int (0 : Int32)), .val (.int ((((p3.toUInt32 >>> ((4 : Int32) &&& 31).toUInt32).toInt32) &&& (255 : Int32)).toInt8.toInt32)), .val (.int pp), .unset, .unset, .unset, .unset, .unset, .unset, .unset, .unset, .unset, .unset, .unset, .unset] []) _
    refine Go.of (fun tg_ kk_ => XS.iload X13.here hx rfl (hb hby at_50) rfl kk_) ?_
    show Go p e below T13 (mkF m 52 #[.val (.int p0), .val (.int p1), .val (.int p2), .val (.int p3), .val (.long p4), .second, .val (.ref b1), .val (.int pp), .val (.int (0 : Int32)), .val (.int ((((p3.toUInt32 >>> ((4 : Int32) &&& 31).toUInt32).toInt32) &&& (255 : Int32)).toInt8.toInt32)), .val (.int pp), .unset, .unset, .unset, .unset, .unset, .unset, .unset, .unset, .unset, .unset, .unset, .unset] [(.int pp)]) _
    refine Go.of (fun tg_ kk_ => XS.aload X13.here hx rfl (hb hby at_52) rfl rfl kk_) ?_
    show Go p e below T13 (mkF m 54 #[.val (.int p0), .val (.int p1), .val (.int p2), .val (.int p3), .val (.long p4), .second, .val (.ref b1), .val (.int pp), .val (.int (0 : Int32)), .val (.int ((((p3.toUInt32 >>> ((4 : Int32) &&& 31).toUInt32).toInt32) &&& (255 : Int32)).toInt8.toInt32)), .val (.int pp), .unset, .unset, .unset, .unset, .unset, .unset, .unset, .unset, .unset, .unset, .unset, .unset] [(.ref b1), (.int pp)]) _
    refine Go.of (fun tg_ kk_ => XS.iload X13.here hx rfl (hb hby at_54) rfl kk_) ?_
    show Go p e below T13 (mkF m 56 #[.val (.int p0), .val (.int p1), .val (.int p2), .val (.int p3), .val (.long p4), .second, .val (.ref b1), .val (.int pp), .val (.int (0 : Int32)), .val (.int ((((p3.toUInt32 >>> ((4 : Int32) &&& 31).toUInt32).toInt32) &&& (255 : Int32)).toInt8.toInt32)), .val (.int pp), .unset, .unset, .unset, .unset, .unset, .unset, .unset, .unset, .unset, .unset, .unset, .unset] [(.int pp), (.ref b1), (.int pp)]) _
    refine Go.of (fun tg_ kk_ => XS.iloadN X13.here hx rfl (hb hby at_56) rfl kk_) ?_
    show Go p e below T13 (mkF m 57 #[.val (.int p0), .val (.int p1), .val (.int p2), .val (.int p3), .val (.long p4), .second, .val (.ref b1), .val (.int pp), .val (.int (0 : Int32)), .val (.int ((((p3.toUInt32 >>> ((4 : Int32) &&& 31).toUInt32).toInt32) &&& (255 : Int32)).toInt8.toInt32)), .val (.int pp), .unset, .unset, .unset, .unset, .unset, .unset, .unset, .unset, .unset, .unset, .unset, .unset] [(.int p0), (.int pp), (.ref b1), (.int pp)]) _
    obtain ⟨_, _, ⟨T17, L17, k17, n17⟩, -, X17, ⟨Lc17, hQ17, l17, y17, z17⟩, st17⟩ := Jvm.LawKit.callS X13 hx (y := (⟨"com/example/diagnostic/diagnostic/Utf8OffsetOfUnitPinLaw", "put", "([BII)I"⟩ : MethodName)) hown (mvT hZ (hw _ (List.mem_of_getElem? (i := 1) rfl))) (mvT hZ (hw _ (List.mem_of_getElem? (i := 2) rfl))) (mvT hZ (hw _ (List.mem_of_getElem? (i := 3) rfl))) (mvT hZ (hw _ (List.mem_of_getElem? (i := 4) rfl))) (by decide) (backOf (W := 1) (rm1 l Z a0 hw [] b1 pp p0 f13 h13 n0 Zs16 gx1 V13 hy0) hZ (hw _ (List.mem_of_getElem? (i := 4) rfl)) (hw _ (List.mem_of_getElem? (i := 3) rfl)) (by decide) (by decide)) (g := (mkF m 57 #[.val (.int p0), .val (.int p1), .val (.int p2), .val (.int p3), .val (.long p4), .second, .val (.ref b1), .val (.int pp), .val (.int (0 : Int32)), .val (.int ((((p3.toUInt32 >>> ((4 : Int32) &&& 31).toUInt32).toInt32) &&& (255 : Int32)).toInt8.toInt32)), .val (.int pp), .unset, .unset, .unset, .unset, .unset, .unset, .unset, .unset, .unset, .unset, .unset, .unset] [(.int p0), (.int pp), (.ref b1), (.int pp)])) rfl (by rw [hml]; rfl) (argsL := [(.ref b1), (.int pp), (.int p0)]) (rest := [(.int pp)]) (lenOf pd_0 rfl) rfl (by show 2 * 0 + _ ≤ _; exact Nat.le_of_eq rfl) (hb hby at_57) (fun _ _ => ⟨rfl, e13, (by decide : 1 + 0 ≤ _), (by decide : 16 + 0 ≤ _)⟩)
    dsimp only [Pt.U, Pt.locs, Pt.cells, Pt.slots] at X17 l17 y17 z17 st17 hQ17
    subst l17 y17 z17
    obtain ⟨g17, rfl, N17q, K17q, V17, Pl17, Ln17⟩ := hQ17
    have N17 := Fr.app N13 N17q
    have K19 := K15.trans K17q (allS (Or.inr sz1) all0)
    have Zs20 : n0 ≤ T17.heap.size := Nat.le_trans Zs16 K17q.1
    refine Go.of (st17) ?_
    show Go p e below T17 (mkF m 60 #[.val (.int p0), .val (.int p1), .val (.int p2), .val (.int p3), .val (.long p4), .second, .val (.ref b1), .val (.int pp), .val (.int (0 : Int32)), .val (.int ((((p3.toUInt32 >>> ((4 : Int32) &&& 31).toUInt32).toInt32) &&& (255 : Int32)).toInt8.toInt32)), .val (.int pp), .unset, .unset, .unset, .unset, .unset, .unset, .unset, .unset, .unset, .unset, .unset, .unset] [(.int ((p0 &&& (3 : Int32)) + (1 : Int32))), (.int pp)]) _
    refine Go.of (fun tg_ kk_ => XS.iadd X17.here hx rfl (hb hby at_60) rfl kk_) ?_
    show Go p e below T17 (mkF m 61 #[.val (.int p0), .val (.int p1), .val (.int p2), .val (.int p3), .val (.long p4), .second, .val (.ref b1), .val (.int pp), .val (.int (0 : Int32)), .val (.int ((((p3.toUInt32 >>> ((4 : Int32) &&& 31).toUInt32).toInt32) &&& (255 : Int32)).toInt8.toInt32)), .val (.int pp), .unset, .unset, .unset, .unset, .unset, .unset, .unset, .unset, .unset, .unset, .unset, .unset] [(.int (pp + ((p0 &&& (3 : Int32)) + (1 : Int32))))]) _
    obtain ⟨o1, qo1⟩ : ∃ zz_ : Int32, zz_ = (pp + ((p0 &&& (3 : Int32)) + (1 : Int32))) := ⟨_, rfl⟩
    rw [← qo1]
    show Go p e below T17 (mkF m 61 #[.val (.int p0), .val (.int p1), .val (.int p2), .val (.int p3), .val (.long p4), .second, .val (.ref b1), .val (.int pp), .val (.int (0 : Int32)), .val (.int ((((p3.toUInt32 >>> ((4 : Int32) &&& 31).toUInt32).toInt32) &&& (255 : Int32)).toInt8.toInt32)), .val (.int pp), .unset, .unset, .unset, .unset, .unset, .unset, .unset, .unset, .unset, .unset, .unset, .unset] [(.int o1)]) _
    have ho1 := own_o qo1 hb0 (by decide)
    have hb1 : 0 ≤ o1.toInt ∧ o1.toInt ≤ 7 := by omega
    have hy1 : 0 ≤ o1.toInt ∧ o1.toInt ≤ 12 := by omega
    refine Go.of (fun tg_ kk_ => XS.istore X17.here hx rfl (hb hby at_61) rfl (l' := #[.val (.int p0), .val (.int p1), .val (.int p2), .val (.int p3), .val (.long p4), .second, .val (.ref b1), .val (.int pp), .val (.int (0 : Int32)), .val (.int ((((p3.toUInt32 >>> ((4 : Int32) &&& 31).toUInt32).toInt32) &&& (255 : Int32)).toInt8.toInt32)), .val (.int pp), .val (.int o1), .unset, .unset, .unset, .unset, .unset, .unset, .unset, .unset, .unset, .unset, .unset]) rfl kk_) ?_
    show Go p e below T17 (mkF m 63 #[.val (.int p0), .val (.int p1), .val (.int p2), .val (.int p3), .val (.long p4), .second, .val (.ref b1), .val (.int pp), .val (.int (0 : Int32)), .val (.int ((((p3.toUInt32 >>> ((4 : Int32) &&& 31).toUInt32).toInt32) &&& (255 : Int32)).toInt8.toInt32)), .val (.int pp), .val (.int o1), .unset, .unset, .unset, .unset, .unset, .unset, .unset, .unset, .unset, .unset, .unset] []) _
    refine Go.of (fun tg_ kk_ => XS.iload X17.here hx rfl (hb hby at_63) rfl kk_) ?_
    show Go p e below T17 (mkF m 65 #[.val (.int p0), .val (.int p1), .val (.int p2), .val (.int p3), .val (.long p4), .second, .val (.ref b1), .val (.int pp), .val (.int (0 : Int32)), .val (.int ((((p3.toUInt32 >>> ((4 : Int32) &&& 31).toUInt32).toInt32) &&& (255 : Int32)).toInt8.toInt32)), .val (.int pp), .val (.int o1), .unset, .unset, .unset, .unset, .unset, .unset, .unset, .unset, .unset, .unset, .unset] [(.int o1)]) _
    refine Go.of (fun tg_ kk_ => XS.aload X17.here hx rfl (hb hby at_65) rfl rfl kk_) ?_
    show Go p e below T17 (mkF m 67 #[.val (.int p0), .val (.int p1), .val (.int p2), .val (.int p3), .val (.long p4), .second, .val (.ref b1), .val (.int pp), .val (.int (0 : Int32)), .val (.int ((((p3.toUInt32 >>> ((4 : Int32) &&& 31).toUInt32).toInt32) &&& (255 : Int32)).toInt8.toInt32)), .val (.int pp), .val (.int o1), .unset, .unset, .unset, .unset, .unset, .unset, .unset, .unset, .unset, .unset, .unset] [(.ref b1), (.int o1)]) _
    refine Go.of (fun tg_ kk_ => XS.iload X17.here hx rfl (hb hby at_67) rfl kk_) ?_
    show Go p e below T17 (mkF m 69 #[.val (.int p0), .val (.int p1), .val (.int p2), .val (.int p3), .val (.long p4), .second, .val (.ref b1), .val (.int pp), .val (.int (0 : Int32)), .val (.int ((((p3.toUInt32 >>> ((4 : Int32) &&& 31).toUInt32).toInt32) &&& (255 : Int32)).toInt8.toInt32)), .val (.int pp), .val (.int o1), .unset, .unset, .unset, .unset, .unset, .unset, .unset, .unset, .unset, .unset, .unset] [(.int o1), (.ref b1), (.int o1)]) _
    refine Go.of (fun tg_ kk_ => XS.iloadN X17.here hx rfl (hb hby at_69) rfl kk_) ?_
    show Go p e below T17 (mkF m 70 #[.val (.int p0), .val (.int p1), .val (.int p2), .val (.int p3), .val (.long p4), .second, .val (.ref b1), .val (.int pp), .val (.int (0 : Int32)), .val (.int ((((p3.toUInt32 >>> ((4 : Int32) &&& 31).toUInt32).toInt32) &&& (255 : Int32)).toInt8.toInt32)), .val (.int pp), .val (.int o1), .unset, .unset, .unset, .unset, .unset, .unset, .unset, .unset, .unset, .unset, .unset] [(.int p1), (.int o1), (.ref b1), (.int o1)]) _
    obtain ⟨_, _, ⟨T21, L21, k21, n21⟩, -, X21, ⟨Lc21, hQ21, l21, y21, z21⟩, st21⟩ := Jvm.LawKit.callS X17 hx (y := (⟨"com/example/diagnostic/diagnostic/Utf8OffsetOfUnitPinLaw", "put", "([BII)I"⟩ : MethodName)) hown (mvT hZ (hw _ (List.mem_of_getElem? (i := 1) rfl))) (mvT hZ (hw _ (List.mem_of_getElem? (i := 2) rfl))) (mvT hZ (hw _ (List.mem_of_getElem? (i := 3) rfl))) (mvT hZ (hw _ (List.mem_of_getElem? (i := 4) rfl))) (by decide) (backOf (W := 1) (rm1 l Z a0 hw [] b1 o1 p1 g17 T17.heap n0 Zs20 gx1 V17 hy1) hZ (hw _ (List.mem_of_getElem? (i := 4) rfl)) (hw _ (List.mem_of_getElem? (i := 3) rfl)) (by decide) (by decide)) (g := (mkF m 70 #[.val (.int p0), .val (.int p1), .val (.int p2), .val (.int p3), .val (.long p4), .second, .val (.ref b1), .val (.int pp), .val (.int (0 : Int32)), .val (.int ((((p3.toUInt32 >>> ((4 : Int32) &&& 31).toUInt32).toInt32) &&& (255 : Int32)).toInt8.toInt32)), .val (.int pp), .val (.int o1), .unset, .unset, .unset, .unset, .unset, .unset, .unset, .unset, .unset, .unset, .unset] [(.int p1), (.int o1), (.ref b1), (.int o1)])) rfl (by rw [hml]; rfl) (argsL := [(.ref b1), (.int o1), (.int p1)]) (rest := [(.int o1)]) (lenOf pd_0 rfl) rfl (by show 2 * 0 + _ ≤ _; exact Nat.le_of_eq rfl) (hb hby at_70) (fun _ _ => ⟨rfl, rfl, (by decide : 1 + 0 ≤ _), (by decide : 16 + 0 ≤ _)⟩)
    dsimp only [Pt.U, Pt.locs, Pt.cells, Pt.slots] at X21 l21 y21 z21 st21 hQ21
    subst l21 y21 z21
    obtain ⟨g21, rfl, N21q, K21q, V21, Pl21, Ln21⟩ := hQ21
    have N21 := Fr.app N17 N21q
    have K23 := K19.trans K21q (allS (Or.inr sz1) all0)
    have Zs24 : n0 ≤ T21.heap.size := Nat.le_trans Zs20 K21q.1
    refine Go.of (st21) ?_
    show Go p e below T21 (mkF m 73 #[.val (.int p0), .val (.int p1), .val (.int p2), .val (.int p3), .val (.long p4), .second, .val (.ref b1), .val (.int pp), .val (.int (0 : Int32)), .val (.int ((((p3.toUInt32 >>> ((4 : Int32) &&& 31).toUInt32).toInt32) &&& (255 : Int32)).toInt8.toInt32)), .val (.int pp), .val (.int o1), .unset, .unset, .unset, .unset, .unset, .unset, .unset, .unset, .unset, .unset, .unset] [(.int ((p1 &&& (3 : Int32)) + (1 : Int32))), (.int o1)]) _
    refine Go.of (fun tg_ kk_ => XS.iadd X21.here hx rfl (hb hby at_73) rfl kk_) ?_
    show Go p e below T21 (mkF m 74 #[.val (.int p0), .val (.int p1), .val (.int p2), .val (.int p3), .val (.long p4), .second, .val (.ref b1), .val (.int pp), .val (.int (0 : Int32)), .val (.int ((((p3.toUInt32 >>> ((4 : Int32) &&& 31).toUInt32).toInt32) &&& (255 : Int32)).toInt8.toInt32)), .val (.int pp), .val (.int o1), .unset, .unset, .unset, .unset, .unset, .unset, .unset, .unset, .unset, .unset, .unset] [(.int (o1 + ((p1 &&& (3 : Int32)) + (1 : Int32))))]) _
    obtain ⟨o2, qo2⟩ : ∃ zz_ : Int32, zz_ = (o1 + ((p1 &&& (3 : Int32)) + (1 : Int32))) := ⟨_, rfl⟩
    rw [← qo2]
    show Go p e below T21 (mkF m 74 #[.val (.int p0), .val (.int p1), .val (.int p2), .val (.int p3), .val (.long p4), .second, .val (.ref b1), .val (.int pp), .val (.int (0 : Int32)), .val (.int ((((p3.toUInt32 >>> ((4 : Int32) &&& 31).toUInt32).toInt32) &&& (255 : Int32)).toInt8.toInt32)), .val (.int pp), .val (.int o1), .unset, .unset, .unset, .unset, .unset, .unset, .unset, .unset, .unset, .unset, .unset] [(.int o2)]) _
    have ho2 := own_o qo2 hb1 (by decide)
    have hb2 : 0 ≤ o2.toInt ∧ o2.toInt ≤ 11 := by omega
    have hy2 : 0 ≤ o2.toInt ∧ o2.toInt ≤ 12 := by omega
    refine Go.of (fun tg_ kk_ => XS.istore X21.here hx rfl (hb hby at_74) rfl (l' := #[.val (.int p0), .val (.int p1), .val (.int p2), .val (.int p3), .val (.long p4), .second, .val (.ref b1), .val (.int pp), .val (.int (0 : Int32)), .val (.int ((((p3.toUInt32 >>> ((4 : Int32) &&& 31).toUInt32).toInt32) &&& (255 : Int32)).toInt8.toInt32)), .val (.int pp), .val (.int o1), .val (.int o2), .unset, .unset, .unset, .unset, .unset, .unset, .unset, .unset, .unset, .unset]) rfl kk_) ?_
    show Go p e below T21 (mkF m 76 #[.val (.int p0), .val (.int p1), .val (.int p2), .val (.int p3), .val (.long p4), .second, .val (.ref b1), .val (.int pp), .val (.int (0 : Int32)), .val (.int ((((p3.toUInt32 >>> ((4 : Int32) &&& 31).toUInt32).toInt32) &&& (255 : Int32)).toInt8.toInt32)), .val (.int pp), .val (.int o1), .val (.int o2), .unset, .unset, .unset, .unset, .unset, .unset, .unset, .unset, .unset, .unset] []) _
    refine Go.of (fun tg_ kk_ => XS.iload X21.here hx rfl (hb hby at_76) rfl kk_) ?_
    show Go p e below T21 (mkF m 78 #[.val (.int p0), .val (.int p1), .val (.int p2), .val (.int p3), .val (.long p4), .second, .val (.ref b1), .val (.int pp), .val (.int (0 : Int32)), .val (.int ((((p3.toUInt32 >>> ((4 : Int32) &&& 31).toUInt32).toInt32) &&& (255 : Int32)).toInt8.toInt32)), .val (.int pp), .val (.int o1), .val (.int o2), .unset, .unset, .unset, .unset, .unset, .unset, .unset, .unset, .unset, .unset] [(.int o2)]) _
    refine Go.of (fun tg_ kk_ => XS.aload X21.here hx rfl (hb hby at_78) rfl rfl kk_) ?_
    show Go p e below T21 (mkF m 80 #[.val (.int p0), .val (.int p1), .val (.int p2), .val (.int p3), .val (.long p4), .second, .val (.ref b1), .val (.int pp), .val (.int (0 : Int32)), .val (.int ((((p3.toUInt32 >>> ((4 : Int32) &&& 31).toUInt32).toInt32) &&& (255 : Int32)).toInt8.toInt32)), .val (.int pp), .val (.int o1), .val (.int o2), .unset, .unset, .unset, .unset, .unset, .unset, .unset, .unset, .unset, .unset] [(.ref b1), (.int o2)]) _
    refine Go.of (fun tg_ kk_ => XS.iload X21.here hx rfl (hb hby at_80) rfl kk_) ?_
    show Go p e below T21 (mkF m 82 #[.val (.int p0), .val (.int p1), .val (.int p2), .val (.int p3), .val (.long p4), .second, .val (.ref b1), .val (.int pp), .val (.int (0 : Int32)), .val (.int ((((p3.toUInt32 >>> ((4 : Int32) &&& 31).toUInt32).toInt32) &&& (255 : Int32)).toInt8.toInt32)), .val (.int pp), .val (.int o1), .val (.int o2), .unset, .unset, .unset, .unset, .unset, .unset, .unset, .unset, .unset, .unset] [(.int o2), (.ref b1), (.int o2)]) _
    refine Go.of (fun tg_ kk_ => XS.iloadN X21.here hx rfl (hb hby at_82) rfl kk_) ?_
    show Go p e below T21 (mkF m 83 #[.val (.int p0), .val (.int p1), .val (.int p2), .val (.int p3), .val (.long p4), .second, .val (.ref b1), .val (.int pp), .val (.int (0 : Int32)), .val (.int ((((p3.toUInt32 >>> ((4 : Int32) &&& 31).toUInt32).toInt32) &&& (255 : Int32)).toInt8.toInt32)), .val (.int pp), .val (.int o1), .val (.int o2), .unset, .unset, .unset, .unset, .unset, .unset, .unset, .unset, .unset, .unset] [(.int p2), (.int o2), (.ref b1), (.int o2)]) _
    obtain ⟨_, _, ⟨T25, L25, k25, n25⟩, -, X25, ⟨Lc25, hQ25, l25, y25, z25⟩, st25⟩ := Jvm.LawKit.callS X21 hx (y := (⟨"com/example/diagnostic/diagnostic/Utf8OffsetOfUnitPinLaw", "put", "([BII)I"⟩ : MethodName)) hown (mvT hZ (hw _ (List.mem_of_getElem? (i := 1) rfl))) (mvT hZ (hw _ (List.mem_of_getElem? (i := 2) rfl))) (mvT hZ (hw _ (List.mem_of_getElem? (i := 3) rfl))) (mvT hZ (hw _ (List.mem_of_getElem? (i := 4) rfl))) (by decide) (backOf (W := 1) (rm1 l Z a0 hw [] b1 o2 p2 g21 T21.heap n0 Zs24 gx1 V21 hy2) hZ (hw _ (List.mem_of_getElem? (i := 4) rfl)) (hw _ (List.mem_of_getElem? (i := 3) rfl)) (by decide) (by decide)) (g := (mkF m 83 #[.val (.int p0), .val (.int p1), .val (.int p2), .val (.int p3), .val (.long p4), .second, .val (.ref b1), .val (.int pp), .val (.int (0 : Int32)), .val (.int ((((p3.toUInt32 >>> ((4 : Int32) &&& 31).toUInt32).toInt32) &&& (255 : Int32)).toInt8.toInt32)), .val (.int pp), .val (.int o1), .val (.int o2), .unset, .unset, .unset, .unset, .unset, .unset, .unset, .unset, .unset, .unset] [(.int p2), (.int o2), (.ref b1), (.int o2)])) rfl (by rw [hml]; rfl) (argsL := [(.ref b1), (.int o2), (.int p2)]) (rest := [(.int o2)]) (lenOf pd_0 rfl) rfl (by show 2 * 0 + _ ≤ _; exact Nat.le_of_eq rfl) (hb hby at_83) (fun _ _ => ⟨rfl, rfl, (by decide : 1 + 0 ≤ _), (by decide : 16 + 0 ≤ _)⟩)
    dsimp only [Pt.U, Pt.locs, Pt.cells, Pt.slots] at X25 l25 y25 z25 st25 hQ25
    subst l25 y25 z25
    obtain ⟨g25, rfl, N25q, K25q, V25, Pl25, Ln25⟩ := hQ25
    have N25 := Fr.app N21 N25q
    have K27 := K23.trans K25q (allS (Or.inr sz1) all0)
    have Zs28 : n0 ≤ T25.heap.size := Nat.le_trans Zs24 K25q.1
    refine Go.of (st25) ?_
    show Go p e below T25 (mkF m 86 #[.val (.int p0), .val (.int p1), .val (.int p2), .val (.int p3), .val (.long p4), .second, .val (.ref b1), .val (.int pp), .val (.int (0 : Int32)), .val (.int ((((p3.toUInt32 >>> ((4 : Int32) &&& 31).toUInt32).toInt32) &&& (255 : Int32)).toInt8.toInt32)), .val (.int pp), .val (.int o1), .val (.int o2), .unset, .unset, .unset, .unset, .unset, .unset, .unset, .unset, .unset, .unset] [(.int ((p2 &&& (3 : Int32)) + (1 : Int32))), (.int o2)]) _
    refine Go.of (fun tg_ kk_ => XS.iadd X25.here hx rfl (hb hby at_86) rfl kk_) ?_
    show Go p e below T25 (mkF m 87 #[.val (.int p0), .val (.int p1), .val (.int p2), .val (.int p3), .val (.long p4), .second, .val (.ref b1), .val (.int pp), .val (.int (0 : Int32)), .val (.int ((((p3.toUInt32 >>> ((4 : Int32) &&& 31).toUInt32).toInt32) &&& (255 : Int32)).toInt8.toInt32)), .val (.int pp), .val (.int o1), .val (.int o2), .unset, .unset, .unset, .unset, .unset, .unset, .unset, .unset, .unset, .unset] [(.int (o2 + ((p2 &&& (3 : Int32)) + (1 : Int32))))]) _
    obtain ⟨o3, qo3⟩ : ∃ zz_ : Int32, zz_ = (o2 + ((p2 &&& (3 : Int32)) + (1 : Int32))) := ⟨_, rfl⟩
    rw [← qo3]
    show Go p e below T25 (mkF m 87 #[.val (.int p0), .val (.int p1), .val (.int p2), .val (.int p3), .val (.long p4), .second, .val (.ref b1), .val (.int pp), .val (.int (0 : Int32)), .val (.int ((((p3.toUInt32 >>> ((4 : Int32) &&& 31).toUInt32).toInt32) &&& (255 : Int32)).toInt8.toInt32)), .val (.int pp), .val (.int o1), .val (.int o2), .unset, .unset, .unset, .unset, .unset, .unset, .unset, .unset, .unset, .unset] [(.int o3)]) _
    have ho3 := own_o qo3 hb2 (by decide)
    have hb3 : 0 ≤ o3.toInt ∧ o3.toInt ≤ 15 := by omega
    have hl2 := Ln25
    have hl1 := Ln21
    rw [← Pl25 _ (show (((o1).toNatClampNeg : Nat) : Int) < o2.toInt by show ((o1.toInt.toNat : Nat) : Int) < o2.toInt; omega)] at hl1
    have hl0 := Ln17
    rw [← Pl21 _ (show (((pp).toNatClampNeg : Nat) : Int) < o1.toInt by show ((pp.toInt.toNat : Nat) : Int) < o1.toInt; omega), ← Pl25 _ (show (((pp).toNatClampNeg : Nat) : Int) < o2.toInt by show ((pp.toInt.toNat : Nat) : Int) < o2.toInt; omega)] at hl0
    refine Go.of (fun tg_ kk_ => XS.istore X25.here hx rfl (hb hby at_87) rfl (l' := #[.val (.int p0), .val (.int p1), .val (.int p2), .val (.int p3), .val (.long p4), .second, .val (.ref b1), .val (.int pp), .val (.int (0 : Int32)), .val (.int ((((p3.toUInt32 >>> ((4 : Int32) &&& 31).toUInt32).toInt32) &&& (255 : Int32)).toInt8.toInt32)), .val (.int pp), .val (.int o1), .val (.int o2), .val (.int o3), .unset, .unset, .unset, .unset, .unset, .unset, .unset, .unset, .unset]) rfl kk_) ?_
    show Go p e below T25 (mkF m 89 #[.val (.int p0), .val (.int p1), .val (.int p2), .val (.int p3), .val (.long p4), .second, .val (.ref b1), .val (.int pp), .val (.int (0 : Int32)), .val (.int ((((p3.toUInt32 >>> ((4 : Int32) &&& 31).toUInt32).toInt32) &&& (255 : Int32)).toInt8.toInt32)), .val (.int pp), .val (.int o1), .val (.int o2), .val (.int o3), .unset, .unset, .unset, .unset, .unset, .unset, .unset, .unset, .unset] []) _
    refine Go.of (fun tg_ kk_ => XS.iload X25.here hx rfl (hb hby at_89) rfl kk_) ?_
    show Go p e below T25 (mkF m 91 #[.val (.int p0), .val (.int p1), .val (.int p2), .val (.int p3), .val (.long p4), .second, .val (.ref b1), .val (.int pp), .val (.int (0 : Int32)), .val (.int ((((p3.toUInt32 >>> ((4 : Int32) &&& 31).toUInt32).toInt32) &&& (255 : Int32)).toInt8.toInt32)), .val (.int pp), .val (.int o1), .val (.int o2), .val (.int o3), .unset, .unset, .unset, .unset, .unset, .unset, .unset, .unset, .unset] [(.int (0 : Int32))]) _
    refine Go.of (fun tg_ kk_ => XS.ifNo X25.here hx rfl (hb hby at_91) rfl ((if0 _ _).trans (teq (show (0 : Int32) = (0 : Int32) by decide)).2) kk_) ?_
    show Go p e below T25 (mkF m 94 #[.val (.int p0), .val (.int p1), .val (.int p2), .val (.int p3), .val (.long p4), .second, .val (.ref b1), .val (.int pp), .val (.int (0 : Int32)), .val (.int ((((p3.toUInt32 >>> ((4 : Int32) &&& 31).toUInt32).toInt32) &&& (255 : Int32)).toInt8.toInt32)), .val (.int pp), .val (.int o1), .val (.int o2), .val (.int o3), .unset, .unset, .unset, .unset, .unset, .unset, .unset, .unset, .unset] []) _
    refine Go.of (fun tg_ kk_ => XS.iload X25.here hx rfl (hb hby at_94) rfl kk_) ?_
    show Go p e below T25 (mkF m 96 #[.val (.int p0), .val (.int p1), .val (.int p2), .val (.int p3), .val (.long p4), .second, .val (.ref b1), .val (.int pp), .val (.int (0 : Int32)), .val (.int ((((p3.toUInt32 >>> ((4 : Int32) &&& 31).toUInt32).toInt32) &&& (255 : Int32)).toInt8.toInt32)), .val (.int pp), .val (.int o1), .val (.int o2), .val (.int o3), .unset, .unset, .unset, .unset, .unset, .unset, .unset, .unset, .unset] [(.int pp)]) _
    refine Go.of (fun tg_ kk_ => XS.goto X25.here hx rfl (pc0 := 96) (pc' := 123) rfl (hb hby at_96) (by decide) (by decide) kk_) ?_
    show Go p e below T25 (mkF m 123 #[.val (.int p0), .val (.int p1), .val (.int p2), .val (.int p3), .val (.long p4), .second, .val (.ref b1), .val (.int pp), .val (.int (0 : Int32)), .val (.int ((((p3.toUInt32 >>> ((4 : Int32) &&& 31).toUInt32).toInt32) &&& (255 : Int32)).toInt8.toInt32)), .val (.int pp), .val (.int o1), .val (.int o2), .val (.int o3), .unset, .unset, .unset, .unset, .unset, .unset, .unset, .unset, .unset] [(.int pp)]) _
    refine Go.of (fun tg_ kk_ => XS.istore X25.here hx rfl (hb hby at_123) rfl (l' := #[.val (.int p0), .val (.int p1), .val (.int p2), .val (.int p3), .val (.long p4), .second, .val (.ref b1), .val (.int pp), .val (.int (0 : Int32)), .val (.int ((((p3.toUInt32 >>> ((4 : Int32) &&& 31).toUInt32).toInt32) &&& (255 : Int32)).toInt8.toInt32)), .val (.int pp), .val (.int o1), .val (.int o2), .val (.int o3), .val (.int pp), .unset, .unset, .unset, .unset, .unset, .unset, .unset, .unset]) rfl kk_) ?_
    show Go p e below T25 (mkF m 125 #[.val (.int p0), .val (.int p1), .val (.int p2), .val (.int p3), .val (.long p4), .second, .val (.ref b1), .val (.int pp), .val (.int (0 : Int32)), .val (.int ((((p3.toUInt32 >>> ((4 : Int32) &&& 31).toUInt32).toInt32) &&& (255 : Int32)).toInt8.toInt32)), .val (.int pp), .val (.int o1), .val (.int o2), .val (.int o3), .val (.int pp), .unset, .unset, .unset, .unset, .unset, .unset, .unset, .unset] []) _
    refine Go.of (fun tg_ kk_ => XS.iloadN X25.here hx rfl (hb hby at_125) rfl kk_) ?_
    show Go p e below T25 (mkF m 126 #[.val (.int p0), .val (.int p1), .val (.int p2), .val (.int p3), .val (.long p4), .second, .val (.ref b1), .val (.int pp), .val (.int (0 : Int32)), .val (.int ((((p3.toUInt32 >>> ((4 : Int32) &&& 31).toUInt32).toInt32) &&& (255 : Int32)).toInt8.toInt32)), .val (.int pp), .val (.int o1), .val (.int o2), .val (.int o3), .val (.int pp), .unset, .unset, .unset, .unset, .unset, .unset, .unset, .unset] [(.int p0)]) _
    obtain ⟨_, _, ⟨T29, L29, k29, n29⟩, -, X29, ⟨Lc29, hQ29, l29, y29, z29⟩, st29⟩ := Jvm.LawKit.callS X25 hx (y := (⟨"com/example/diagnostic/diagnostic/Utf8OffsetOfUnitPinLaw", "units", "(I)I"⟩ : MethodName)) hown (mvT hZ (hw _ (List.mem_of_getElem? (i := 6) rfl))) (mvT hZ (hw _ (List.mem_of_getElem? (i := 7) rfl))) (mvT hZ (hw _ (List.mem_of_getElem? (i := 3) rfl))) (mvT hZ (hw _ (List.mem_of_getElem? (i := 8) rfl))) (by decide) (backOf (W := 0) (rm2 l Z a0 hw [] p0 T25.heap n0 Zs28) hZ (hw _ (List.mem_of_getElem? (i := 8) rfl)) (hw _ (List.mem_of_getElem? (i := 3) rfl)) (by decide) (by decide)) (g := (mkF m 126 #[.val (.int p0), .val (.int p1), .val (.int p2), .val (.int p3), .val (.long p4), .second, .val (.ref b1), .val (.int pp), .val (.int (0 : Int32)), .val (.int ((((p3.toUInt32 >>> ((4 : Int32) &&& 31).toUInt32).toInt32) &&& (255 : Int32)).toInt8.toInt32)), .val (.int pp), .val (.int o1), .val (.int o2), .val (.int o3), .val (.int pp), .unset, .unset, .unset, .unset, .unset, .unset, .unset, .unset] [(.int p0)])) rfl (by rw [hml]; rfl) (argsL := [(.int p0)]) (rest := []) (lenOf pd_1 rfl) rfl (by show 2 * 0 + _ ≤ _; exact Nat.le_of_eq rfl) (hb hby at_126) (fun _ _ => ⟨rfl, rfl, (by decide : 1 + 0 ≤ _), (by decide : 16 + 0 ≤ _)⟩)
    dsimp only [Pt.U, Pt.locs, Pt.cells, Pt.slots] at X29 l29 y29 z29 st29 hQ29
    subst l29 y29 z29
    obtain ⟨rfl, N29q, e29⟩ := hQ29
    have N29 := Fr.app N25 N29q
    refine Go.of (st29) ?_
    show Go p e below T29 (mkF m 129 #[.val (.int p0), .val (.int p1), .val (.int p2), .val (.int p3), .val (.long p4), .second, .val (.ref b1), .val (.int pp), .val (.int (0 : Int32)), .val (.int ((((p3.toUInt32 >>> ((4 : Int32) &&& 31).toUInt32).toInt32) &&& (255 : Int32)).toInt8.toInt32)), .val (.int pp), .val (.int o1), .val (.int o2), .val (.int o3), .val (.int pp), .unset, .unset, .unset, .unset, .unset, .unset, .unset, .unset] [(.int (if (p0 &&& (3 : Int32)) = (3 : Int32) then (2 : Int32) else (1 : Int32)))]) _
    refine Go.of (fun tg_ kk_ => XS.i2l X29.here hx rfl (hb hby at_129) rfl kk_) ?_
    show Go p e below T29 (mkF m 130 #[.val (.int p0), .val (.int p1), .val (.int p2), .val (.int p3), .val (.long p4), .second, .val (.ref b1), .val (.int pp), .val (.int (0 : Int32)), .val (.int ((((p3.toUInt32 >>> ((4 : Int32) &&& 31).toUInt32).toInt32) &&& (255 : Int32)).toInt8.toInt32)), .val (.int pp), .val (.int o1), .val (.int o2), .val (.int o3), .val (.int pp), .unset, .unset, .unset, .unset, .unset, .unset, .unset, .unset] [(.long ((if (p0 &&& (3 : Int32)) = (3 : Int32) then (2 : Int32) else (1 : Int32)).toInt64))]) _
    obtain ⟨c1, qc1⟩ : ∃ zz_ : Int64, zz_ = ((if (p0 &&& (3 : Int32)) = (3 : Int32) then (2 : Int32) else (1 : Int32)).toInt64) := ⟨_, rfl⟩
    rw [← qc1]
    show Go p e below T29 (mkF m 130 #[.val (.int p0), .val (.int p1), .val (.int p2), .val (.int p3), .val (.long p4), .second, .val (.ref b1), .val (.int pp), .val (.int (0 : Int32)), .val (.int ((((p3.toUInt32 >>> ((4 : Int32) &&& 31).toUInt32).toInt32) &&& (255 : Int32)).toInt8.toInt32)), .val (.int pp), .val (.int o1), .val (.int o2), .val (.int o3), .val (.int pp), .unset, .unset, .unset, .unset, .unset, .unset, .unset, .unset] [(.long c1)]) _
    refine Go.of (fun tg_ kk_ => XS.lstore X29.here hx rfl (hb hby at_130) rfl (l' := #[.val (.int p0), .val (.int p1), .val (.int p2), .val (.int p3), .val (.long p4), .second, .val (.ref b1), .val (.int pp), .val (.int (0 : Int32)), .val (.int ((((p3.toUInt32 >>> ((4 : Int32) &&& 31).toUInt32).toInt32) &&& (255 : Int32)).toInt8.toInt32)), .val (.int pp), .val (.int o1), .val (.int o2), .val (.int o3), .val (.int pp), .val (.long c1), .second, .unset, .unset, .unset, .unset, .unset, .unset]) rfl kk_) ?_
    show Go p e below T29 (mkF m 132 #[.val (.int p0), .val (.int p1), .val (.int p2), .val (.int p3), .val (.long p4), .second, .val (.ref b1), .val (.int pp), .val (.int (0 : Int32)), .val (.int ((((p3.toUInt32 >>> ((4 : Int32) &&& 31).toUInt32).toInt32) &&& (255 : Int32)).toInt8.toInt32)), .val (.int pp), .val (.int o1), .val (.int o2), .val (.int o3), .val (.int pp), .val (.long c1), .second, .unset, .unset, .unset, .unset, .unset, .unset] []) _
    refine Go.of (fun tg_ kk_ => XS.lload X29.here hx rfl (hb hby at_132) rfl kk_) ?_
    show Go p e below T29 (mkF m 134 #[.val (.int p0), .val (.int p1), .val (.int p2), .val (.int p3), .val (.long p4), .second, .val (.ref b1), .val (.int pp), .val (.int (0 : Int32)), .val (.int ((((p3.toUInt32 >>> ((4 : Int32) &&& 31).toUInt32).toInt32) &&& (255 : Int32)).toInt8.toInt32)), .val (.int pp), .val (.int o1), .val (.int o2), .val (.int o3), .val (.int pp), .val (.long c1), .second, .unset, .unset, .unset, .unset, .unset, .unset] [(.long c1)]) _
    refine Go.of (fun tg_ kk_ => XS.iloadN X29.here hx rfl (hb hby at_134) rfl kk_) ?_
    show Go p e below T29 (mkF m 135 #[.val (.int p0), .val (.int p1), .val (.int p2), .val (.int p3), .val (.long p4), .second, .val (.ref b1), .val (.int pp), .val (.int (0 : Int32)), .val (.int ((((p3.toUInt32 >>> ((4 : Int32) &&& 31).toUInt32).toInt32) &&& (255 : Int32)).toInt8.toInt32)), .val (.int pp), .val (.int o1), .val (.int o2), .val (.int o3), .val (.int pp), .val (.long c1), .second, .unset, .unset, .unset, .unset, .unset, .unset] [(.int p1), (.long c1)]) _
    obtain ⟨_, _, ⟨T30, L30, k30, n30⟩, -, X30, ⟨Lc30, hQ30, l30, y30, z30⟩, st30⟩ := Jvm.LawKit.callS X29 hx (y := (⟨"com/example/diagnostic/diagnostic/Utf8OffsetOfUnitPinLaw", "units", "(I)I"⟩ : MethodName)) hown (mvT hZ (hw _ (List.mem_of_getElem? (i := 6) rfl))) (mvT hZ (hw _ (List.mem_of_getElem? (i := 7) rfl))) (mvT hZ (hw _ (List.mem_of_getElem? (i := 3) rfl))) (mvT hZ (hw _ (List.mem_of_getElem? (i := 8) rfl))) (by decide) (backOf (W := 2) (rm2 l Z a0 hw [] p1 T25.heap n0 Zs28) hZ (hw _ (List.mem_of_getElem? (i := 8) rfl)) (hw _ (List.mem_of_getElem? (i := 3) rfl)) (by decide) (by decide)) (g := (mkF m 135 #[.val (.int p0), .val (.int p1), .val (.int p2), .val (.int p3), .val (.long p4), .second, .val (.ref b1), .val (.int pp), .val (.int (0 : Int32)), .val (.int ((((p3.toUInt32 >>> ((4 : Int32) &&& 31).toUInt32).toInt32) &&& (255 : Int32)).toInt8.toInt32)), .val (.int pp), .val (.int o1), .val (.int o2), .val (.int o3), .val (.int pp), .val (.long c1), .second, .unset, .unset, .unset, .unset, .unset, .unset] [(.int p1), (.long c1)])) rfl (by rw [hml]; rfl) (argsL := [(.int p1)]) (rest := [(.long c1)]) (lenOf pd_1 rfl) rfl (by show 2 * 0 + _ ≤ _; exact Nat.le_of_eq rfl) (hb hby at_135) (fun _ _ => ⟨rfl, e29, (by decide : 1 + 0 ≤ _), (by decide : 16 + 0 ≤ _)⟩)
    dsimp only [Pt.U, Pt.locs, Pt.cells, Pt.slots] at X30 l30 y30 z30 st30 hQ30
    subst l30 y30 z30
    obtain ⟨rfl, N30q, e30⟩ := hQ30
    have N30 := Fr.app N29 N30q
    refine Go.of (st30) ?_
    show Go p e below T30 (mkF m 138 #[.val (.int p0), .val (.int p1), .val (.int p2), .val (.int p3), .val (.long p4), .second, .val (.ref b1), .val (.int pp), .val (.int (0 : Int32)), .val (.int ((((p3.toUInt32 >>> ((4 : Int32) &&& 31).toUInt32).toInt32) &&& (255 : Int32)).toInt8.toInt32)), .val (.int pp), .val (.int o1), .val (.int o2), .val (.int o3), .val (.int pp), .val (.long c1), .second, .unset, .unset, .unset, .unset, .unset, .unset] [(.int (if (p1 &&& (3 : Int32)) = (3 : Int32) then (2 : Int32) else (1 : Int32))), (.long c1)]) _
    refine Go.of (fun tg_ kk_ => XS.i2l X30.here hx rfl (hb hby at_138) rfl kk_) ?_
    show Go p e below T30 (mkF m 139 #[.val (.int p0), .val (.int p1), .val (.int p2), .val (.int p3), .val (.long p4), .second, .val (.ref b1), .val (.int pp), .val (.int (0 : Int32)), .val (.int ((((p3.toUInt32 >>> ((4 : Int32) &&& 31).toUInt32).toInt32) &&& (255 : Int32)).toInt8.toInt32)), .val (.int pp), .val (.int o1), .val (.int o2), .val (.int o3), .val (.int pp), .val (.long c1), .second, .unset, .unset, .unset, .unset, .unset, .unset] [(.long ((if (p1 &&& (3 : Int32)) = (3 : Int32) then (2 : Int32) else (1 : Int32)).toInt64)), (.long c1)]) _
    refine Go.of (fun tg_ kk_ => XS.ladd X30.here hx rfl (hb hby at_139) rfl kk_) ?_
    show Go p e below T30 (mkF m 140 #[.val (.int p0), .val (.int p1), .val (.int p2), .val (.int p3), .val (.long p4), .second, .val (.ref b1), .val (.int pp), .val (.int (0 : Int32)), .val (.int ((((p3.toUInt32 >>> ((4 : Int32) &&& 31).toUInt32).toInt32) &&& (255 : Int32)).toInt8.toInt32)), .val (.int pp), .val (.int o1), .val (.int o2), .val (.int o3), .val (.int pp), .val (.long c1), .second, .unset, .unset, .unset, .unset, .unset, .unset] [(.long (c1 + ((if (p1 &&& (3 : Int32)) = (3 : Int32) then (2 : Int32) else (1 : Int32)).toInt64)))]) _
    obtain ⟨c2, qc2⟩ : ∃ zz_ : Int64, zz_ = (c1 + ((if (p1 &&& (3 : Int32)) = (3 : Int32) then (2 : Int32) else (1 : Int32)).toInt64)) := ⟨_, rfl⟩
    rw [← qc2]
    show Go p e below T30 (mkF m 140 #[.val (.int p0), .val (.int p1), .val (.int p2), .val (.int p3), .val (.long p4), .second, .val (.ref b1), .val (.int pp), .val (.int (0 : Int32)), .val (.int ((((p3.toUInt32 >>> ((4 : Int32) &&& 31).toUInt32).toInt32) &&& (255 : Int32)).toInt8.toInt32)), .val (.int pp), .val (.int o1), .val (.int o2), .val (.int o3), .val (.int pp), .val (.long c1), .second, .unset, .unset, .unset, .unset, .unset, .unset] [(.long c2)]) _
    refine Go.of (fun tg_ kk_ => XS.lstore X30.here hx rfl (hb hby at_140) rfl (l' := #[.val (.int p0), .val (.int p1), .val (.int p2), .val (.int p3), .val (.long p4), .second, .val (.ref b1), .val (.int pp), .val (.int (0 : Int32)), .val (.int ((((p3.toUInt32 >>> ((4 : Int32) &&& 31).toUInt32).toInt32) &&& (255 : Int32)).toInt8.toInt32)), .val (.int pp), .val (.int o1), .val (.int o2), .val (.int o3), .val (.int pp), .val (.long c1), .second, .val (.long c2), .second, .unset, .unset, .unset, .unset]) rfl kk_) ?_
    show Go p e below T30 (mkF m 142 #[.val (.int p0), .val (.int p1), .val (.int p2), .val (.int p3), .val (.long p4), .second, .val (.ref b1), .val (.int pp), .val (.int (0 : Int32)), .val (.int ((((p3.toUInt32 >>> ((4 : Int32) &&& 31).toUInt32).toInt32) &&& (255 : Int32)).toInt8.toInt32)), .val (.int pp), .val (.int o1), .val (.int o2), .val (.int o3), .val (.int pp), .val (.long c1), .second, .val (.long c2), .second, .unset, .unset, .unset, .unset] []) _
    refine Go.of (fun tg_ kk_ => XS.lload X30.here hx rfl (hb hby at_142) rfl kk_) ?_
    show Go p e below T30 (mkF m 144 #[.val (.int p0), .val (.int p1), .val (.int p2), .val (.int p3), .val (.long p4), .second, .val (.ref b1), .val (.int pp), .val (.int (0 : Int32)), .val (.int ((((p3.toUInt32 >>> ((4 : Int32) &&& 31).toUInt32).toInt32) &&& (255 : Int32)).toInt8.toInt32)), .val (.int pp), .val (.int o1), .val (.int o2), .val (.int o3), .val (.int pp), .val (.long c1), .second, .val (.long c2), .second, .unset, .unset, .unset, .unset] [(.long c2)]) _
    refine Go.of (fun tg_ kk_ => XS.iloadN X30.here hx rfl (hb hby at_144) rfl kk_) ?_
    show Go p e below T30 (mkF m 145 #[.val (.int p0), .val (.int p1), .val (.int p2), .val (.int p3), .val (.long p4), .second, .val (.ref b1), .val (.int pp), .val (.int (0 : Int32)), .val (.int ((((p3.toUInt32 >>> ((4 : Int32) &&& 31).toUInt32).toInt32) &&& (255 : Int32)).toInt8.toInt32)), .val (.int pp), .val (.int o1), .val (.int o2), .val (.int o3), .val (.int pp), .val (.long c1), .second, .val (.long c2), .second, .unset, .unset, .unset, .unset] [(.int p2), (.long c2)]) _
    obtain ⟨_, _, ⟨T31, L31, k31, n31⟩, -, X31, ⟨Lc31, hQ31, l31, y31, z31⟩, st31⟩ := Jvm.LawKit.callS X30 hx (y := (⟨"com/example/diagnostic/diagnostic/Utf8OffsetOfUnitPinLaw", "units", "(I)I"⟩ : MethodName)) hown (mvT hZ (hw _ (List.mem_of_getElem? (i := 6) rfl))) (mvT hZ (hw _ (List.mem_of_getElem? (i := 7) rfl))) (mvT hZ (hw _ (List.mem_of_getElem? (i := 3) rfl))) (mvT hZ (hw _ (List.mem_of_getElem? (i := 8) rfl))) (by decide) (backOf (W := 2) (rm2 l Z a0 hw [] p2 T25.heap n0 Zs28) hZ (hw _ (List.mem_of_getElem? (i := 8) rfl)) (hw _ (List.mem_of_getElem? (i := 3) rfl)) (by decide) (by decide)) (g := (mkF m 145 #[.val (.int p0), .val (.int p1), .val (.int p2), .val (.int p3), .val (.long p4), .second, .val (.ref b1), .val (.int pp), .val (.int (0 : Int32)), .val (.int ((((p3.toUInt32 >>> ((4 : Int32) &&& 31).toUInt32).toInt32) &&& (255 : Int32)).toInt8.toInt32)), .val (.int pp), .val (.int o1), .val (.int o2), .val (.int o3), .val (.int pp), .val (.long c1), .second, .val (.long c2), .second, .unset, .unset, .unset, .unset] [(.int p2), (.long c2)])) rfl (by rw [hml]; rfl) (argsL := [(.int p2)]) (rest := [(.long c2)]) (lenOf pd_1 rfl) rfl (by show 2 * 0 + _ ≤ _; exact Nat.le_of_eq rfl) (hb hby at_145) (fun _ _ => ⟨rfl, e30, (by decide : 1 + 0 ≤ _), (by decide : 16 + 0 ≤ _)⟩)
    dsimp only [Pt.U, Pt.locs, Pt.cells, Pt.slots] at X31 l31 y31 z31 st31 hQ31
    subst l31 y31 z31
    obtain ⟨rfl, N31q, e31⟩ := hQ31
    have N31 := Fr.app N30 N31q
    refine Go.of (st31) ?_
    show Go p e below T31 (mkF m 148 #[.val (.int p0), .val (.int p1), .val (.int p2), .val (.int p3), .val (.long p4), .second, .val (.ref b1), .val (.int pp), .val (.int (0 : Int32)), .val (.int ((((p3.toUInt32 >>> ((4 : Int32) &&& 31).toUInt32).toInt32) &&& (255 : Int32)).toInt8.toInt32)), .val (.int pp), .val (.int o1), .val (.int o2), .val (.int o3), .val (.int pp), .val (.long c1), .second, .val (.long c2), .second, .unset, .unset, .unset, .unset] [(.int (if (p2 &&& (3 : Int32)) = (3 : Int32) then (2 : Int32) else (1 : Int32))), (.long c2)]) _
    refine Go.of (fun tg_ kk_ => XS.i2l X31.here hx rfl (hb hby at_148) rfl kk_) ?_
    show Go p e below T31 (mkF m 149 #[.val (.int p0), .val (.int p1), .val (.int p2), .val (.int p3), .val (.long p4), .second, .val (.ref b1), .val (.int pp), .val (.int (0 : Int32)), .val (.int ((((p3.toUInt32 >>> ((4 : Int32) &&& 31).toUInt32).toInt32) &&& (255 : Int32)).toInt8.toInt32)), .val (.int pp), .val (.int o1), .val (.int o2), .val (.int o3), .val (.int pp), .val (.long c1), .second, .val (.long c2), .second, .unset, .unset, .unset, .unset] [(.long ((if (p2 &&& (3 : Int32)) = (3 : Int32) then (2 : Int32) else (1 : Int32)).toInt64)), (.long c2)]) _
    refine Go.of (fun tg_ kk_ => XS.ladd X31.here hx rfl (hb hby at_149) rfl kk_) ?_
    show Go p e below T31 (mkF m 150 #[.val (.int p0), .val (.int p1), .val (.int p2), .val (.int p3), .val (.long p4), .second, .val (.ref b1), .val (.int pp), .val (.int (0 : Int32)), .val (.int ((((p3.toUInt32 >>> ((4 : Int32) &&& 31).toUInt32).toInt32) &&& (255 : Int32)).toInt8.toInt32)), .val (.int pp), .val (.int o1), .val (.int o2), .val (.int o3), .val (.int pp), .val (.long c1), .second, .val (.long c2), .second, .unset, .unset, .unset, .unset] [(.long (c2 + ((if (p2 &&& (3 : Int32)) = (3 : Int32) then (2 : Int32) else (1 : Int32)).toInt64)))]) _
    obtain ⟨c3, qc3⟩ : ∃ zz_ : Int64, zz_ = (c2 + ((if (p2 &&& (3 : Int32)) = (3 : Int32) then (2 : Int32) else (1 : Int32)).toInt64)) := ⟨_, rfl⟩
    rw [← qc3]
    show Go p e below T31 (mkF m 150 #[.val (.int p0), .val (.int p1), .val (.int p2), .val (.int p3), .val (.long p4), .second, .val (.ref b1), .val (.int pp), .val (.int (0 : Int32)), .val (.int ((((p3.toUInt32 >>> ((4 : Int32) &&& 31).toUInt32).toInt32) &&& (255 : Int32)).toInt8.toInt32)), .val (.int pp), .val (.int o1), .val (.int o2), .val (.int o3), .val (.int pp), .val (.long c1), .second, .val (.long c2), .second, .unset, .unset, .unset, .unset] [(.long c3)]) _
    refine Go.of (fun tg_ kk_ => XS.lstore X31.here hx rfl (hb hby at_150) rfl (l' := #[.val (.int p0), .val (.int p1), .val (.int p2), .val (.int p3), .val (.long p4), .second, .val (.ref b1), .val (.int pp), .val (.int (0 : Int32)), .val (.int ((((p3.toUInt32 >>> ((4 : Int32) &&& 31).toUInt32).toInt32) &&& (255 : Int32)).toInt8.toInt32)), .val (.int pp), .val (.int o1), .val (.int o2), .val (.int o3), .val (.int pp), .val (.long c1), .second, .val (.long c2), .second, .val (.long c3), .second, .unset, .unset]) rfl kk_) ?_
    show Go p e below T31 (mkF m 152 #[.val (.int p0), .val (.int p1), .val (.int p2), .val (.int p3), .val (.long p4), .second, .val (.ref b1), .val (.int pp), .val (.int (0 : Int32)), .val (.int ((((p3.toUInt32 >>> ((4 : Int32) &&& 31).toUInt32).toInt32) &&& (255 : Int32)).toInt8.toInt32)), .val (.int pp), .val (.int o1), .val (.int o2), .val (.int o3), .val (.int pp), .val (.long c1), .second, .val (.long c2), .second, .val (.long c3), .second, .unset, .unset] []) _
    refine Go.of (fun tg_ kk_ => XS.iload X31.here hx rfl (hb hby at_152) rfl kk_) ?_
    show Go p e below T31 (mkF m 154 #[.val (.int p0), .val (.int p1), .val (.int p2), .val (.int p3), .val (.long p4), .second, .val (.ref b1), .val (.int pp), .val (.int (0 : Int32)), .val (.int ((((p3.toUInt32 >>> ((4 : Int32) &&& 31).toUInt32).toInt32) &&& (255 : Int32)).toInt8.toInt32)), .val (.int pp), .val (.int o1), .val (.int o2), .val (.int o3), .val (.int pp), .val (.long c1), .second, .val (.long c2), .second, .val (.long c3), .second, .unset, .unset] [(.int (0 : Int32))]) _
    refine Go.of (fun tg_ kk_ => XS.iconst X31.here hx rfl (hb hby at_154) kk_) ?_
    show Go p e below T31 (mkF m 155 #[.val (.int p0), .val (.int p1), .val (.int p2), .val (.int p3), .val (.long p4), .second, .val (.ref b1), .val (.int pp), .val (.int (0 : Int32)), .val (.int ((((p3.toUInt32 >>> ((4 : Int32) &&& 31).toUInt32).toInt32) &&& (255 : Int32)).toInt8.toInt32)), .val (.int pp), .val (.int o1), .val (.int o2), .val (.int o3), .val (.int pp), .val (.long c1), .second, .val (.long c2), .second, .val (.long c3), .second, .unset, .unset] [(.int (1 : Int32)), (.int (0 : Int32))]) _
    refine Go.of (fun tg_ kk_ => XS.icmpYes X31.here hx rfl (pc0 := 155) (pc' := 173) rfl (hb hby at_155) rfl (tlt (show (0 : Int32) < (1 : Int32) by decide)).1 (by decide) (by decide) kk_) ?_
    show Go p e below T31 (mkF m 173 #[.val (.int p0), .val (.int p1), .val (.int p2), .val (.int p3), .val (.long p4), .second, .val (.ref b1), .val (.int pp), .val (.int (0 : Int32)), .val (.int ((((p3.toUInt32 >>> ((4 : Int32) &&& 31).toUInt32).toInt32) &&& (255 : Int32)).toInt8.toInt32)), .val (.int pp), .val (.int o1), .val (.int o2), .val (.int o3), .val (.int pp), .val (.long c1), .second, .val (.long c2), .second, .val (.long c3), .second, .unset, .unset] []) _
    refine Go.of (fun tg_ kk_ => XS.iload X31.here hx rfl (hb hby at_173) rfl kk_) ?_
    show Go p e below T31 (mkF m 175 #[.val (.int p0), .val (.int p1), .val (.int p2), .val (.int p3), .val (.long p4), .second, .val (.ref b1), .val (.int pp), .val (.int (0 : Int32)), .val (.int ((((p3.toUInt32 >>> ((4 : Int32) &&& 31).toUInt32).toInt32) &&& (255 : Int32)).toInt8.toInt32)), .val (.int pp), .val (.int o1), .val (.int o2), .val (.int o3), .val (.int pp), .val (.long c1), .second, .val (.long c2), .second, .val (.long c3), .second, .unset, .unset] [(.int (0 : Int32))]) _
    refine Go.of (fun tg_ kk_ => XS.iconst X31.here hx rfl (hb hby at_175) kk_) ?_
    show Go p e below T31 (mkF m 176 #[.val (.int p0), .val (.int p1), .val (.int p2), .val (.int p3), .val (.long p4), .second, .val (.ref b1), .val (.int pp), .val (.int (0 : Int32)), .val (.int ((((p3.toUInt32 >>> ((4 : Int32) &&& 31).toUInt32).toInt32) &&& (255 : Int32)).toInt8.toInt32)), .val (.int pp), .val (.int o1), .val (.int o2), .val (.int o3), .val (.int pp), .val (.long c1), .second, .val (.long c2), .second, .val (.long c3), .second, .unset, .unset] [(.int (2 : Int32)), (.int (0 : Int32))]) _
    refine Go.of (fun tg_ kk_ => XS.icmpYes X31.here hx rfl (pc0 := 176) (pc' := 194) rfl (hb hby at_176) rfl (tlt (show (0 : Int32) < (2 : Int32) by decide)).1 (by decide) (by decide) kk_) ?_
    show Go p e below T31 (mkF m 194 #[.val (.int p0), .val (.int p1), .val (.int p2), .val (.int p3), .val (.long p4), .second, .val (.ref b1), .val (.int pp), .val (.int (0 : Int32)), .val (.int ((((p3.toUInt32 >>> ((4 : Int32) &&& 31).toUInt32).toInt32) &&& (255 : Int32)).toInt8.toInt32)), .val (.int pp), .val (.int o1), .val (.int o2), .val (.int o3), .val (.int pp), .val (.long c1), .second, .val (.long c2), .second, .val (.long c3), .second, .unset, .unset] []) _
    refine Go.of (fun tg_ kk_ => XS.iload X31.here hx rfl (hb hby at_194) rfl kk_) ?_
    show Go p e below T31 (mkF m 196 #[.val (.int p0), .val (.int p1), .val (.int p2), .val (.int p3), .val (.long p4), .second, .val (.ref b1), .val (.int pp), .val (.int (0 : Int32)), .val (.int ((((p3.toUInt32 >>> ((4 : Int32) &&& 31).toUInt32).toInt32) &&& (255 : Int32)).toInt8.toInt32)), .val (.int pp), .val (.int o1), .val (.int o2), .val (.int o3), .val (.int pp), .val (.long c1), .second, .val (.long c2), .second, .val (.long c3), .second, .unset, .unset] [(.int (0 : Int32))]) _
    refine Go.of (fun tg_ kk_ => XS.iconst X31.here hx rfl (hb hby at_196) kk_) ?_
    show Go p e below T31 (mkF m 197 #[.val (.int p0), .val (.int p1), .val (.int p2), .val (.int p3), .val (.long p4), .second, .val (.ref b1), .val (.int pp), .val (.int (0 : Int32)), .val (.int ((((p3.toUInt32 >>> ((4 : Int32) &&& 31).toUInt32).toInt32) &&& (255 : Int32)).toInt8.toInt32)), .val (.int pp), .val (.int o1), .val (.int o2), .val (.int o3), .val (.int pp), .val (.long c1), .second, .val (.long c2), .second, .val (.long c3), .second, .unset, .unset] [(.int (3 : Int32)), (.int (0 : Int32))]) _
    refine Go.of (fun tg_ kk_ => XS.icmpYes X31.here hx rfl (pc0 := 197) (pc' := 215) rfl (hb hby at_197) rfl (tlt (show (0 : Int32) < (3 : Int32) by decide)).1 (by decide) (by decide) kk_) ?_
    show Go p e below T31 (mkF m 215 #[.val (.int p0), .val (.int p1), .val (.int p2), .val (.int p3), .val (.long p4), .second, .val (.ref b1), .val (.int pp), .val (.int (0 : Int32)), .val (.int ((((p3.toUInt32 >>> ((4 : Int32) &&& 31).toUInt32).toInt32) &&& (255 : Int32)).toInt8.toInt32)), .val (.int pp), .val (.int o1), .val (.int o2), .val (.int o3), .val (.int pp), .val (.long c1), .second, .val (.long c2), .second, .val (.long c3), .second, .unset, .unset] []) _
    refine Go.of (fun tg_ kk_ => XS.iload X31.here hx rfl (hb hby at_215) rfl kk_) ?_
    show Go p e below T31 (mkF m 217 #[.val (.int p0), .val (.int p1), .val (.int p2), .val (.int p3), .val (.long p4), .second, .val (.ref b1), .val (.int pp), .val (.int (0 : Int32)), .val (.int ((((p3.toUInt32 >>> ((4 : Int32) &&& 31).toUInt32).toInt32) &&& (255 : Int32)).toInt8.toInt32)), .val (.int pp), .val (.int o1), .val (.int o2), .val (.int o3), .val (.int pp), .val (.long c1), .second, .val (.long c2), .second, .val (.long c3), .second, .unset, .unset] [(.int pp)]) _
    refine Go.of (fun tg_ kk_ => XS.istore X31.here hx rfl (hb hby at_217) rfl (l' := #[.val (.int p0), .val (.int p1), .val (.int p2), .val (.int p3), .val (.long p4), .second, .val (.ref b1), .val (.int pp), .val (.int (0 : Int32)), .val (.int ((((p3.toUInt32 >>> ((4 : Int32) &&& 31).toUInt32).toInt32) &&& (255 : Int32)).toInt8.toInt32)), .val (.int pp), .val (.int o1), .val (.int o2), .val (.int o3), .val (.int pp), .val (.long c1), .second, .val (.long c2), .second, .val (.long c3), .second, .val (.int pp), .unset]) rfl kk_) ?_
    show Go p e below T31 (mkF m 219 #[.val (.int p0), .val (.int p1), .val (.int p2), .val (.int p3), .val (.long p4), .second, .val (.ref b1), .val (.int pp), .val (.int (0 : Int32)), .val (.int ((((p3.toUInt32 >>> ((4 : Int32) &&& 31).toUInt32).toInt32) &&& (255 : Int32)).toInt8.toInt32)), .val (.int pp), .val (.int o1), .val (.int o2), .val (.int o3), .val (.int pp), .val (.long c1), .second, .val (.long c2), .second, .val (.long c3), .second, .val (.int pp), .unset] []) _
    refine Go.of (fun tg_ kk_ => XS.aload X31.here hx rfl (hb hby at_219) rfl rfl kk_) ?_
    show Go p e below T31 (mkF m 221 #[.val (.int p0), .val (.int p1), .val (.int p2), .val (.int p3), .val (.long p4), .second, .val (.ref b1), .val (.int pp), .val (.int (0 : Int32)), .val (.int ((((p3.toUInt32 >>> ((4 : Int32) &&& 31).toUInt32).toInt32) &&& (255 : Int32)).toInt8.toInt32)), .val (.int pp), .val (.int o1), .val (.int o2), .val (.int o3), .val (.int pp), .val (.long c1), .second, .val (.long c2), .second, .val (.long c3), .second, .val (.int pp), .unset] [(.ref b1)]) _
    refine Go.of (fun tg_ kk_ => XS.iload X31.here hx rfl (hb hby at_221) rfl kk_) ?_
    show Go p e below T31 (mkF m 223 #[.val (.int p0), .val (.int p1), .val (.int p2), .val (.int p3), .val (.long p4), .second, .val (.ref b1), .val (.int pp), .val (.int (0 : Int32)), .val (.int ((((p3.toUInt32 >>> ((4 : Int32) &&& 31).toUInt32).toInt32) &&& (255 : Int32)).toInt8.toInt32)), .val (.int pp), .val (.int o1), .val (.int o2), .val (.int o3), .val (.int pp), .val (.long c1), .second, .val (.long c2), .second, .val (.long c3), .second, .val (.int pp), .unset] [(.int pp), (.ref b1)]) _
    refine Go.of (fun tg_ kk_ => XS.iload X31.here hx rfl (hb hby at_223) rfl kk_) ?_
    show Go p e below T31 (mkF m 225 #[.val (.int p0), .val (.int p1), .val (.int p2), .val (.int p3), .val (.long p4), .second, .val (.ref b1), .val (.int pp), .val (.int (0 : Int32)), .val (.int ((((p3.toUInt32 >>> ((4 : Int32) &&& 31).toUInt32).toInt32) &&& (255 : Int32)).toInt8.toInt32)), .val (.int pp), .val (.int o1), .val (.int o2), .val (.int o3), .val (.int pp), .val (.long c1), .second, .val (.long c2), .second, .val (.long c3), .second, .val (.int pp), .unset] [(.int pp), (.int pp), (.ref b1)]) _
    refine Go.of (fun tg_ kk_ => XS.lload X31.here hx rfl (hb hby at_225) rfl kk_) ?_
    show Go p e below T31 (mkF m 227 #[.val (.int p0), .val (.int p1), .val (.int p2), .val (.int p3), .val (.long p4), .second, .val (.ref b1), .val (.int pp), .val (.int (0 : Int32)), .val (.int ((((p3.toUInt32 >>> ((4 : Int32) &&& 31).toUInt32).toInt32) &&& (255 : Int32)).toInt8.toInt32)), .val (.int pp), .val (.int o1), .val (.int o2), .val (.int o3), .val (.int pp), .val (.long c1), .second, .val (.long c2), .second, .val (.long c3), .second, .val (.int pp), .unset] [(.long p4), (.int pp), (.int pp), (.ref b1)]) _
    obtain ⟨_, _, ⟨T32, L32, k32, n32⟩, -, X32, ⟨Lc32, hQ32, l32, y32, z32⟩, st32⟩ := Jvm.LawKit.callS X31 hx (y := (⟨"com/example/diagnostic/diagnostic/Utf8", "offsetOfUnit", "([BIIJ)I"⟩ : MethodName)) hown (mvT hZ (hw _ (List.mem_of_getElem? (i := 9) rfl))) (mvT hZ (hw _ (List.mem_of_getElem? (i := 10) rfl))) (mvT hZ (hw _ (List.mem_of_getElem? (i := 11) rfl))) (mvT hZ (hw _ (List.mem_of_getElem? (i := 12) rfl))) (by decide) (backOf (W := 0) (rm3 l Z a0 hw [] b1 pp pp p4 g25 T25.heap n0 Zs28 V25 hb0.1 (by have := hb0; omega)) hZ (hw _ (List.mem_of_getElem? (i := 12) rfl)) (hw _ (List.mem_of_getElem? (i := 11) rfl)) (by decide) (by decide)) (g := (mkF m 227 #[.val (.int p0), .val (.int p1), .val (.int p2), .val (.int p3), .val (.long p4), .second, .val (.ref b1), .val (.int pp), .val (.int (0 : Int32)), .val (.int ((((p3.toUInt32 >>> ((4 : Int32) &&& 31).toUInt32).toInt32) &&& (255 : Int32)).toInt8.toInt32)), .val (.int pp), .val (.int o1), .val (.int o2), .val (.int o3), .val (.int pp), .val (.long c1), .second, .val (.long c2), .second, .val (.long c3), .second, .val (.int pp), .unset] [(.long p4), (.int pp), (.int pp), (.ref b1)])) rfl (by rw [hml]; rfl) (argsL := [(.ref b1), (.int pp), (.int pp), (.long p4)]) (rest := []) (lenOf pd_2 rfl) rfl (by show 2 * 0 + _ ≤ _; exact Nat.le_of_eq rfl) (hb hby at_227) (fun _ _ => ⟨rfl, e31, (by decide : 1 + 0 ≤ _), (by decide : 16 + 0 ≤ _)⟩)
    dsimp only [Pt.U, Pt.locs, Pt.cells, Pt.slots] at X32 l32 y32 z32 st32 hQ32
    subst l32 y32 z32
    obtain ⟨rfl, N32q, e32⟩ := hQ32
    have N32 := Fr.app N31 N32q
    refine Go.of (st32) ?_
    show Go p e below T32 (mkF m 230 #[.val (.int p0), .val (.int p1), .val (.int p2), .val (.int p3), .val (.long p4), .second, .val (.ref b1), .val (.int pp), .val (.int (0 : Int32)), .val (.int ((((p3.toUInt32 >>> ((4 : Int32) &&& 31).toUInt32).toInt32) &&& (255 : Int32)).toInt8.toInt32)), .val (.int pp), .val (.int o1), .val (.int o2), .val (.int o3), .val (.int pp), .val (.long c1), .second, .val (.long c2), .second, .val (.long c3), .second, .val (.int pp), .unset] [(.int (scan 16 g25 pp pp 0 p4))]) _
    refine Go.of (fun tg_ kk_ => XS.istore X32.here hx rfl (hb hby at_230) rfl (l' := #[.val (.int p0), .val (.int p1), .val (.int p2), .val (.int p3), .val (.long p4), .second, .val (.ref b1), .val (.int pp), .val (.int (0 : Int32)), .val (.int ((((p3.toUInt32 >>> ((4 : Int32) &&& 31).toUInt32).toInt32) &&& (255 : Int32)).toInt8.toInt32)), .val (.int pp), .val (.int o1), .val (.int o2), .val (.int o3), .val (.int pp), .val (.long c1), .second, .val (.long c2), .second, .val (.long c3), .second, .val (.int pp), .val (.int (scan 16 g25 pp pp 0 p4))]) rfl kk_) ?_
    show Go p e below T32 (mkF m 232 #[.val (.int p0), .val (.int p1), .val (.int p2), .val (.int p3), .val (.long p4), .second, .val (.ref b1), .val (.int pp), .val (.int (0 : Int32)), .val (.int ((((p3.toUInt32 >>> ((4 : Int32) &&& 31).toUInt32).toInt32) &&& (255 : Int32)).toInt8.toInt32)), .val (.int pp), .val (.int o1), .val (.int o2), .val (.int o3), .val (.int pp), .val (.long c1), .second, .val (.long c2), .second, .val (.long c3), .second, .val (.int pp), .val (.int (scan 16 g25 pp pp 0 p4))] []) _
    refine Go.of (fun tg_ kk_ => XS.iload X32.here hx rfl (hb hby at_232) rfl kk_) ?_
    show Go p e below T32 (mkF m 234 #[.val (.int p0), .val (.int p1), .val (.int p2), .val (.int p3), .val (.long p4), .second, .val (.ref b1), .val (.int pp), .val (.int (0 : Int32)), .val (.int ((((p3.toUInt32 >>> ((4 : Int32) &&& 31).toUInt32).toInt32) &&& (255 : Int32)).toInt8.toInt32)), .val (.int pp), .val (.int o1), .val (.int o2), .val (.int o3), .val (.int pp), .val (.long c1), .second, .val (.long c2), .second, .val (.long c3), .second, .val (.int pp), .val (.int (scan 16 g25 pp pp 0 p4))] [(.int (scan 16 g25 pp pp 0 p4))]) _
    refine Go.of (fun tg_ kk_ => XS.iload X32.here hx rfl (hb hby at_234) rfl kk_) ?_
    show Go p e below T32 (mkF m 236 #[.val (.int p0), .val (.int p1), .val (.int p2), .val (.int p3), .val (.long p4), .second, .val (.ref b1), .val (.int pp), .val (.int (0 : Int32)), .val (.int ((((p3.toUInt32 >>> ((4 : Int32) &&& 31).toUInt32).toInt32) &&& (255 : Int32)).toInt8.toInt32)), .val (.int pp), .val (.int o1), .val (.int o2), .val (.int o3), .val (.int pp), .val (.long c1), .second, .val (.long c2), .second, .val (.long c3), .second, .val (.int pp), .val (.int (scan 16 g25 pp pp 0 p4))] [(.int pp), (.int (scan 16 g25 pp pp 0 p4))]) _
    refine Go.of (fun tg_ kk_ => XS.icmpNo X32.here hx rfl (hb hby at_236) rfl (teq (show (scan 16 g25 pp pp 0 p4) = pp from (by rw [own_r0]))).2 kk_) ?_
    show Go p e below T32 (mkF m 239 #[.val (.int p0), .val (.int p1), .val (.int p2), .val (.int p3), .val (.long p4), .second, .val (.ref b1), .val (.int pp), .val (.int (0 : Int32)), .val (.int ((((p3.toUInt32 >>> ((4 : Int32) &&& 31).toUInt32).toInt32) &&& (255 : Int32)).toInt8.toInt32)), .val (.int pp), .val (.int o1), .val (.int o2), .val (.int o3), .val (.int pp), .val (.long c1), .second, .val (.long c2), .second, .val (.long c3), .second, .val (.int pp), .val (.int (scan 16 g25 pp pp 0 p4))] []) _
    refine Go.of (fun tg_ kk_ => XS.iconst X32.here hx rfl (hb hby at_239) kk_) ?_
    show Go p e below T32 (mkF m 240 #[.val (.int p0), .val (.int p1), .val (.int p2), .val (.int p3), .val (.long p4), .second, .val (.ref b1), .val (.int pp), .val (.int (0 : Int32)), .val (.int ((((p3.toUInt32 >>> ((4 : Int32) &&& 31).toUInt32).toInt32) &&& (255 : Int32)).toInt8.toInt32)), .val (.int pp), .val (.int o1), .val (.int o2), .val (.int o3), .val (.int pp), .val (.long c1), .second, .val (.long c2), .second, .val (.long c3), .second, .val (.int pp), .val (.int (scan 16 g25 pp pp 0 p4))] [(.int (1 : Int32))]) _
    refine Go.of (fun tg_ kk_ => XS.goto X32.here hx rfl (pc0 := 240) (pc' := 244) rfl (hb hby at_240) (by decide) (by decide) kk_) ?_
    show Go p e below T32 (mkF m 244 #[.val (.int p0), .val (.int p1), .val (.int p2), .val (.int p3), .val (.long p4), .second, .val (.ref b1), .val (.int pp), .val (.int (0 : Int32)), .val (.int ((((p3.toUInt32 >>> ((4 : Int32) &&& 31).toUInt32).toInt32) &&& (255 : Int32)).toInt8.toInt32)), .val (.int pp), .val (.int o1), .val (.int o2), .val (.int o3), .val (.int pp), .val (.long c1), .second, .val (.long c2), .second, .val (.long c3), .second, .val (.int pp), .val (.int (scan 16 g25 pp pp 0 p4))] [(.int (1 : Int32))]) _
    obtain ⟨fs, hr, hrun, hended, hW, hsame⟩ := X32.leave (v := some (.int (1 : Int32))) (fun h => by rw [Bd.returns] at h; cases h)
    refine ⟨_, _, ?_, hrun, hended, _, _, rfl, ?_, ⟨_, rfl⟩, hW, hsame.mono (by decide) (by decide)⟩
    · exact retN X32 hx (t := .boolean) Bd.returns (by simp) (hb hby at_244) hr
    · show Q0 Z p0 p1 p2 p3 p4 h0 n0 _ T32.heap _
      rw [e32]
      exact ⟨rfl, N32⟩
  · subst hs4
    show Go p e below T1 (mkF m 16 #[.val (.int p0), .val (.int p1), .val (.int p2), .val (.int p3), .val (.long p4), .second, .val (.ref b1), .val (.int pp), .unset, .unset, .unset, .unset, .unset, .unset, .unset, .unset, .unset, .unset, .unset, .unset, .unset, .unset, .unset] [(.int (1 : Int32))]) _
    refine Go.of (fun tg_ kk_ => XS.istore X1.here hx rfl (hb hby at_16) rfl (l' := #[.val (.int p0), .val (.int p1), .val (.int p2), .val (.int p3), .val (.long p4), .second, .val (.ref b1), .val (.int pp), .val (.int (1 : Int32)), .unset, .unset, .unset, .unset, .unset, .unset, .unset, .unset, .unset, .unset, .unset, .unset, .unset, .unset]) rfl kk_) ?_
    show Go p e below T1 (mkF m 18 #[.val (.int p0), .val (.int p1), .val (.int p2), .val (.int p3), .val (.long p4), .second, .val (.ref b1), .val (.int pp), .val (.int (1 : Int32)), .unset, .unset, .unset, .unset, .unset, .unset, .unset, .unset, .unset, .unset, .unset, .unset, .unset, .unset] []) _
    refine Go.of (fun tg_ kk_ => XS.iloadN X1.here hx rfl (hb hby at_18) rfl kk_) ?_
    show Go p e below T1 (mkF m 19 #[.val (.int p0), .val (.int p1), .val (.int p2), .val (.int p3), .val (.long p4), .second, .val (.ref b1), .val (.int pp), .val (.int (1 : Int32)), .unset, .unset, .unset, .unset, .unset, .unset, .unset, .unset, .unset, .unset, .unset, .unset, .unset, .unset] [(.int p3)]) _
    refine Go.of (fun tg_ kk_ => XS.iconst X1.here hx rfl (hb hby at_19) kk_) ?_
    show Go p e below T1 (mkF m 20 #[.val (.int p0), .val (.int p1), .val (.int p2), .val (.int p3), .val (.long p4), .second, .val (.ref b1), .val (.int pp), .val (.int (1 : Int32)), .unset, .unset, .unset, .unset, .unset, .unset, .unset, .unset, .unset, .unset, .unset, .unset, .unset, .unset] [(.int (4 : Int32)), (.int p3)]) _
    refine Go.of (fun tg_ kk_ => XS.iushr X1.here hx rfl (hb hby at_20) rfl kk_) ?_
    show Go p e below T1 (mkF m 21 #[.val (.int p0), .val (.int p1), .val (.int p2), .val (.int p3), .val (.long p4), .second, .val (.ref b1), .val (.int pp), .val (.int (1 : Int32)), .unset, .unset, .unset, .unset, .unset, .unset, .unset, .unset, .unset, .unset, .unset, .unset, .unset, .unset] [(.int ((p3.toUInt32 >>> ((4 : Int32) &&& 31).toUInt32).toInt32))]) _
    refine Go.of (fun tg_ kk_ => XS.sipush X1.here hx rfl (hb hby at_21) kk_) ?_
    show Go p e below T1 (mkF m 24 #[.val (.int p0), .val (.int p1), .val (.int p2), .val (.int p3), .val (.long p4), .second, .val (.ref b1), .val (.int pp), .val (.int (1 : Int32)), .unset, .unset, .unset, .unset, .unset, .unset, .unset, .unset, .unset, .unset, .unset, .unset, .unset, .unset] [(.int (255 : Int32)), (.int ((p3.toUInt32 >>> ((4 : Int32) &&& 31).toUInt32).toInt32))]) _
    refine Go.of (fun tg_ kk_ => XS.iand X1.here hx rfl (hb hby at_24) rfl kk_) ?_
    show Go p e below T1 (mkF m 25 #[.val (.int p0), .val (.int p1), .val (.int p2), .val (.int p3), .val (.long p4), .second, .val (.ref b1), .val (.int pp), .val (.int (1 : Int32)), .unset, .unset, .unset, .unset, .unset, .unset, .unset, .unset, .unset, .unset, .unset, .unset, .unset, .unset] [(.int (((p3.toUInt32 >>> ((4 : Int32) &&& 31).toUInt32).toInt32) &&& (255 : Int32)))]) _
    refine Go.of (fun tg_ kk_ => XS.i2b X1.here hx rfl (hb hby at_25) rfl kk_) ?_
    show Go p e below T1 (mkF m 26 #[.val (.int p0), .val (.int p1), .val (.int p2), .val (.int p3), .val (.long p4), .second, .val (.ref b1), .val (.int pp), .val (.int (1 : Int32)), .unset, .unset, .unset, .unset, .unset, .unset, .unset, .unset, .unset, .unset, .unset, .unset, .unset, .unset] [(.int ((((p3.toUInt32 >>> ((4 : Int32) &&& 31).toUInt32).toInt32) &&& (255 : Int32)).toInt8.toInt32))]) _
    refine Go.of (fun tg_ kk_ => XS.istore X1.here hx rfl (hb hby at_26) rfl (l' := #[.val (.int p0), .val (.int p1), .val (.int p2), .val (.int p3), .val (.long p4), .second, .val (.ref b1), .val (.int pp), .val (.int (1 : Int32)), .val (.int ((((p3.toUInt32 >>> ((4 : Int32) &&& 31).toUInt32).toInt32) &&& (255 : Int32)).toInt8.toInt32)), .unset, .unset, .unset, .unset, .unset, .unset, .unset, .unset, .unset, .unset, .unset, .unset, .unset]) rfl kk_) ?_
    show Go p e below T1 (mkF m 28 #[.val (.int p0), .val (.int p1), .val (.int p2), .val (.int p3), .val (.long p4), .second, .val (.ref b1), .val (.int pp), .val (.int (1 : Int32)), .val (.int ((((p3.toUInt32 >>> ((4 : Int32) &&& 31).toUInt32).toInt32) &&& (255 : Int32)).toInt8.toInt32)), .unset, .unset, .unset, .unset, .unset, .unset, .unset, .unset, .unset, .unset, .unset, .unset, .unset] []) _
    refine Go.of (fun tg_ kk_ => XS.aload X1.here hx rfl (hb hby at_28) rfl rfl kk_) ?_
    show Go p e below T1 (mkF m 30 #[.val (.int p0), .val (.int p1), .val (.int p2), .val (.int p3), .val (.long p4), .second, .val (.ref b1), .val (.int pp), .val (.int (1 : Int32)), .val (.int ((((p3.toUInt32 >>> ((4 : Int32) &&& 31).toUInt32).toInt32) &&& (255 : Int32)).toInt8.toInt32)), .unset, .unset, .unset, .unset, .unset, .unset, .unset, .unset, .unset, .unset, .unset, .unset, .unset] [(.ref b1)]) _
    refine Go.of (fun tg_ kk_ => XS.iconst X1.here hx rfl (hb hby at_30) kk_) ?_
    show Go p e below T1 (mkF m 31 #[.val (.int p0), .val (.int p1), .val (.int p2), .val (.int p3), .val (.long p4), .second, .val (.ref b1), .val (.int pp), .val (.int (1 : Int32)), .val (.int ((((p3.toUInt32 >>> ((4 : Int32) &&& 31).toUInt32).toInt32) &&& (255 : Int32)).toInt8.toInt32)), .unset, .unset, .unset, .unset, .unset, .unset, .unset, .unset, .unset, .unset, .unset, .unset, .unset] [(.int (0 : Int32)), (.ref b1)]) _
    refine Go.of (fun tg_ kk_ => XS.iload X1.here hx rfl (hb hby at_31) rfl kk_) ?_
    show Go p e below T1 (mkF m 33 #[.val (.int p0), .val (.int p1), .val (.int p2), .val (.int p3), .val (.long p4), .second, .val (.ref b1), .val (.int pp), .val (.int (1 : Int32)), .val (.int ((((p3.toUInt32 >>> ((4 : Int32) &&& 31).toUInt32).toInt32) &&& (255 : Int32)).toInt8.toInt32)), .unset, .unset, .unset, .unset, .unset, .unset, .unset, .unset, .unset, .unset, .unset, .unset, .unset] [(.int ((((p3.toUInt32 >>> ((4 : Int32) &&& 31).toUInt32).toInt32) &&& (255 : Int32)).toInt8.toInt32)), (.int (0 : Int32)), (.ref b1)]) _
    have ib33 := (show ¬ ((0 : Int32) < 0) ∧ ((0 : Int32)).toNatClampNeg < 16 from ⟨by decide, by decide⟩)
    obtain ⟨cl33, Ar33, S33, H33⟩ := V1
    obtain ⟨T33, h33, X33, e33, W33, st33⟩ := stB X1 hx hZ e1 Ar33 (j := (0 : Int32)) (Af.inb S33 ib33) (g := (mkF m 33 #[.val (.int p0), .val (.int p1), .val (.int p2), .val (.int p3), .val (.long p4), .second, .val (.ref b1), .val (.int pp), .val (.int (1 : Int32)), .val (.int ((((p3.toUInt32 >>> ((4 : Int32) &&& 31).toUInt32).toInt32) &&& (255 : Int32)).toInt8.toInt32)), .unset, .unset, .unset, .unset, .unset, .unset, .unset, .unset, .unset, .unset, .unset, .unset, .unset] [(.int ((((p3.toUInt32 >>> ((4 : Int32) &&& 31).toUInt32).toInt32) &&& (255 : Int32)).toInt8.toInt32)), (.int (0 : Int32)), (.ref b1)])) rfl rfl (hb hby at_33)
    obtain ⟨f33, qf33⟩ : ∃ qq_ : Nat → Int32, qq_ = upd (fun _ => 0) 0 (nar .byte ((((p3.toUInt32 >>> ((4 : Int32) &&& 31).toUInt32).toInt32) &&& (255 : Int32)).toInt8.toInt32)) := ⟨_, rfl⟩
    have V33 : Af Z h33 b1 .byte 16 f33 := by rw [qf33]; exact Af.set Ar33 S33 H33 W33 (by decide)
    have K35 := K2.wr W33 (Or.inr sz1)
    have Zs36 : n0 ≤ h33.size := Nat.le_trans Zs3 (Keep.of_wr W33).1
    have N33 := Fr.snoc X33 N0 gx1
    refine Go.of (st33) ?_
    show Go p e below T33 (mkF m 34 #[.val (.int p0), .val (.int p1), .val (.int p2), .val (.int p3), .val (.long p4), .second, .val (.ref b1), .val (.int pp), .val (.int (1 : Int32)), .val (.int ((((p3.toUInt32 >>> ((4 : Int32) &&& 31).toUInt32).toInt32) &&& (255 : Int32)).toInt8.toInt32)), .unset, .unset, .unset, .unset, .unset, .unset, .unset, .unset, .unset, .unset, .unset, .unset, .unset] []) _
    refine Go.of (fun tg_ kk_ => XS.aload X33.here hx rfl (hb hby at_34) rfl rfl kk_) ?_
    show Go p e below T33 (mkF m 36 #[.val (.int p0), .val (.int p1), .val (.int p2), .val (.int p3), .val (.long p4), .second, .val (.ref b1), .val (.int pp), .val (.int (1 : Int32)), .val (.int ((((p3.toUInt32 >>> ((4 : Int32) &&& 31).toUInt32).toInt32) &&& (255 : Int32)).toInt8.toInt32)), .unset, .unset, .unset, .unset, .unset, .unset, .unset, .unset, .unset, .unset, .unset, .unset, .unset] [(.ref b1)]) _
    refine Go.of (fun tg_ kk_ => XS.iconst X33.here hx rfl (hb hby at_36) kk_) ?_
    show Go p e below T33 (mkF m 37 #[.val (.int p0), .val (.int p1), .val (.int p2), .val (.int p3), .val (.long p4), .second, .val (.ref b1), .val (.int pp), .val (.int (1 : Int32)), .val (.int ((((p3.toUInt32 >>> ((4 : Int32) &&& 31).toUInt32).toInt32) &&& (255 : Int32)).toInt8.toInt32)), .unset, .unset, .unset, .unset, .unset, .unset, .unset, .unset, .unset, .unset, .unset, .unset, .unset] [(.int (1 : Int32)), (.ref b1)]) _
    refine Go.of (fun tg_ kk_ => XS.iload X33.here hx rfl (hb hby at_37) rfl kk_) ?_
    show Go p e below T33 (mkF m 39 #[.val (.int p0), .val (.int p1), .val (.int p2), .val (.int p3), .val (.long p4), .second, .val (.ref b1), .val (.int pp), .val (.int (1 : Int32)), .val (.int ((((p3.toUInt32 >>> ((4 : Int32) &&& 31).toUInt32).toInt32) &&& (255 : Int32)).toInt8.toInt32)), .unset, .unset, .unset, .unset, .unset, .unset, .unset, .unset, .unset, .unset, .unset, .unset, .unset] [(.int ((((p3.toUInt32 >>> ((4 : Int32) &&& 31).toUInt32).toInt32) &&& (255 : Int32)).toInt8.toInt32)), (.int (1 : Int32)), (.ref b1)]) _
    have ib37 := (show ¬ ((1 : Int32) < 0) ∧ ((1 : Int32)).toNatClampNeg < 16 from ⟨by decide, by decide⟩)
    obtain ⟨cl37, Ar37, S37, H37⟩ := V33
    obtain ⟨T37, h37, X37, e37, W37, st37⟩ := stB X33 hx hZ e33 Ar37 (j := (1 : Int32)) (Af.inb S37 ib37) (g := (mkF m 39 #[.val (.int p0), .val (.int p1), .val (.int p2), .val (.int p3), .val (.long p4), .second, .val (.ref b1), .val (.int pp), .val (.int (1 : Int32)), .val (.int ((((p3.toUInt32 >>> ((4 : Int32) &&& 31).toUInt32).toInt32) &&& (255 : Int32)).toInt8.toInt32)), .unset, .unset, .unset, .unset, .unset, .unset, .unset, .unset, .unset, .unset, .unset, .unset, .unset] [(.int ((((p3.toUInt32 >>> ((4 : Int32) &&& 31).toUInt32).toInt32) &&& (255 : Int32)).toInt8.toInt32)), (.int (1 : Int32)), (.ref b1)])) rfl rfl (hb hby at_39)
    obtain ⟨f37, qf37⟩ : ∃ qq_ : Nat → Int32, qq_ = upd f33 1 (nar .byte ((((p3.toUInt32 >>> ((4 : Int32) &&& 31).toUInt32).toInt32) &&& (255 : Int32)).toInt8.toInt32)) := ⟨_, rfl⟩
    have V37 : Af Z h37 b1 .byte 16 f37 := by rw [qf37]; exact Af.set Ar37 S37 H37 W37 (by decide)
    have K39 := K35.wr W37 (Or.inr sz1)
    have Zs40 : n0 ≤ h37.size := Nat.le_trans Zs36 (Keep.of_wr W37).1
    have N37 := Fr.snoc X37 N33 gx1
    refine Go.of (st37) ?_
    show Go p e below T37 (mkF m 40 #[.val (.int p0), .val (.int p1), .val (.int p2), .val (.int p3), .val (.long p4), .second, .val (.ref b1), .val (.int pp), .val (.int (1 : Int32)), .val (.int ((((p3.toUInt32 >>> ((4 : Int32) &&& 31).toUInt32).toInt32) &&& (255 : Int32)).toInt8.toInt32)), .unset, .unset, .unset, .unset, .unset, .unset, .unset, .unset, .unset, .unset, .unset, .unset, .unset] []) _
    refine Go.of (fun tg_ kk_ => XS.aload X37.here hx rfl (hb hby at_40) rfl rfl kk_) ?_
    show Go p e below T37 (mkF m 42 #[.val (.int p0), .val (.int p1), .val (.int p2), .val (.int p3), .val (.long p4), .second, .val (.ref b1), .val (.int pp), .val (.int (1 : Int32)), .val (.int ((((p3.toUInt32 >>> ((4 : Int32) &&& 31).toUInt32).toInt32) &&& (255 : Int32)).toInt8.toInt32)), .unset, .unset, .unset, .unset, .unset, .unset, .unset, .unset, .unset, .unset, .unset, .unset, .unset] [(.ref b1)]) _
    refine Go.of (fun tg_ kk_ => XS.iconst X37.here hx rfl (hb hby at_42) kk_) ?_
    show Go p e below T37 (mkF m 43 #[.val (.int p0), .val (.int p1), .val (.int p2), .val (.int p3), .val (.long p4), .second, .val (.ref b1), .val (.int pp), .val (.int (1 : Int32)), .val (.int ((((p3.toUInt32 >>> ((4 : Int32) &&& 31).toUInt32).toInt32) &&& (255 : Int32)).toInt8.toInt32)), .unset, .unset, .unset, .unset, .unset, .unset, .unset, .unset, .unset, .unset, .unset, .unset, .unset] [(.int (2 : Int32)), (.ref b1)]) _
    refine Go.of (fun tg_ kk_ => XS.iload X37.here hx rfl (hb hby at_43) rfl kk_) ?_
    show Go p e below T37 (mkF m 45 #[.val (.int p0), .val (.int p1), .val (.int p2), .val (.int p3), .val (.long p4), .second, .val (.ref b1), .val (.int pp), .val (.int (1 : Int32)), .val (.int ((((p3.toUInt32 >>> ((4 : Int32) &&& 31).toUInt32).toInt32) &&& (255 : Int32)).toInt8.toInt32)), .unset, .unset, .unset, .unset, .unset, .unset, .unset, .unset, .unset, .unset, .unset, .unset, .unset] [(.int ((((p3.toUInt32 >>> ((4 : Int32) &&& 31).toUInt32).toInt32) &&& (255 : Int32)).toInt8.toInt32)), (.int (2 : Int32)), (.ref b1)]) _
    have ib41 := (show ¬ ((2 : Int32) < 0) ∧ ((2 : Int32)).toNatClampNeg < 16 from ⟨by decide, by decide⟩)
    obtain ⟨cl41, Ar41, S41, H41⟩ := V37
    obtain ⟨T41, h41, X41, e41, W41, st41⟩ := stB X37 hx hZ e37 Ar41 (j := (2 : Int32)) (Af.inb S41 ib41) (g := (mkF m 45 #[.val (.int p0), .val (.int p1), .val (.int p2), .val (.int p3), .val (.long p4), .second, .val (.ref b1), .val (.int pp), .val (.int (1 : Int32)), .val (.int ((((p3.toUInt32 >>> ((4 : Int32) &&& 31).toUInt32).toInt32) &&& (255 : Int32)).toInt8.toInt32)), .unset, .unset, .unset, .unset, .unset, .unset, .unset, .unset, .unset, .unset, .unset, .unset, .unset] [(.int ((((p3.toUInt32 >>> ((4 : Int32) &&& 31).toUInt32).toInt32) &&& (255 : Int32)).toInt8.toInt32)), (.int (2 : Int32)), (.ref b1)])) rfl rfl (hb hby at_45)
    obtain ⟨f41, qf41⟩ : ∃ qq_ : Nat → Int32, qq_ = upd f37 2 (nar .byte ((((p3.toUInt32 >>> ((4 : Int32) &&& 31).toUInt32).toInt32) &&& (255 : Int32)).toInt8.toInt32)) := ⟨_, rfl⟩
    have V41 : Af Z h41 b1 .byte 16 f41 := by rw [qf41]; exact Af.set Ar41 S41 H41 W41 (by decide)
    have K43 := K39.wr W41 (Or.inr sz1)
    have Zs44 : n0 ≤ h41.size := Nat.le_trans Zs40 (Keep.of_wr W41).1
    have N41 := Fr.snoc X41 N37 gx1
    refine Go.of (st41) ?_
    show Go p e below T41 (mkF m 46 #[.val (.int p0), .val (.int p1), .val (.int p2), .val (.int p3), .val (.long p4), .second, .val (.ref b1), .val (.int pp), .val (.int (1 : Int32)), .val (.int ((((p3.toUInt32 >>> ((4 : Int32) &&& 31).toUInt32).toInt32) &&& (255 : Int32)).toInt8.toInt32)), .unset, .unset, .unset, .unset, .unset, .unset, .unset, .unset, .unset, .unset, .unset, .unset, .unset] []) _
    refine Go.of (fun tg_ kk_ => XS.iload X41.here hx rfl (hb hby at_46) rfl kk_) ?_
    show Go p e below T41 (mkF m 48 #[.val (.int p0), .val (.int p1), .val (.int p2), .val (.int p3), .val (.long p4), .second, .val (.ref b1), .val (.int pp), .val (.int (1 : Int32)), .val (.int ((((p3.toUInt32 >>> ((4 : Int32) &&& 31).toUInt32).toInt32) &&& (255 : Int32)).toInt8.toInt32)), .unset, .unset, .unset, .unset, .unset, .unset, .unset, .unset, .unset, .unset, .unset, .unset, .unset] [(.int pp)]) _
    refine Go.of (fun tg_ kk_ => XS.istore X41.here hx rfl (hb hby at_48) rfl (l' := #[.val (.int p0), .val (.int p1), .val (.int p2), .val (.int p3), .val (.long p4), .second, .val (.ref b1), .val (.int pp), .val (.int (1 : Int32)), .val (.int ((((p3.toUInt32 >>> ((4 : Int32) &&& 31).toUInt32).toInt32) &&& (255 : Int32)).toInt8.toInt32)), .val (.int pp), .unset, .unset, .unset, .unset, .unset, .unset, .unset, .unset, .unset, .unset, .unset, .unset]) rfl kk_) ?_
    show Go p e below T41 (mkF m 50 #[.val (.int p0), .val (.int p1), .val (.int p2), .val (.int p3), .val (.long p4), .second, .val (.ref b1), .val (.int pp), .val (.int (1 : Int32)), .val (.int ((((p3.toUInt32 >>> ((4 : Int32) &&& 31).toUInt32).toInt32) &&& (255 : Int32)).toInt8.toInt32)), .val (.int pp), .unset, .unset, .unset, .unset, .unset, .unset, .unset, .unset, .unset, .unset, .unset, .unset] []) _
    refine Go.of (fun tg_ kk_ => XS.iload X41.here hx rfl (hb hby at_50) rfl kk_) ?_
    show Go p e below T41 (mkF m 52 #[.val (.int p0), .val (.int p1), .val (.int p2), .val (.int p3), .val (.long p4), .second, .val (.ref b1), .val (.int pp), .val (.int (1 : Int32)), .val (.int ((((p3.toUInt32 >>> ((4 : Int32) &&& 31).toUInt32).toInt32) &&& (255 : Int32)).toInt8.toInt32)), .val (.int pp), .unset, .unset, .unset, .unset, .unset, .unset, .unset, .unset, .unset, .unset, .unset, .unset] [(.int pp)]) _
    refine Go.of (fun tg_ kk_ => XS.aload X41.here hx rfl (hb hby at_52) rfl rfl kk_) ?_
    show Go p e below T41 (mkF m 54 #[.val (.int p0), .val (.int p1), .val (.int p2), .val (.int p3), .val (.long p4), .second, .val (.ref b1), .val (.int pp), .val (.int (1 : Int32)), .val (.int ((((p3.toUInt32 >>> ((4 : Int32) &&& 31).toUInt32).toInt32) &&& (255 : Int32)).toInt8.toInt32)), .val (.int pp), .unset, .unset, .unset, .unset, .unset, .unset, .unset, .unset, .unset, .unset, .unset, .unset] [(.ref b1), (.int pp)]) _
    refine Go.of (fun tg_ kk_ => XS.iload X41.here hx rfl (hb hby at_54) rfl kk_) ?_
    show Go p e below T41 (mkF m 56 #[.val (.int p0), .val (.int p1), .val (.int p2), .val (.int p3), .val (.long p4), .second, .val (.ref b1), .val (.int pp), .val (.int (1 : Int32)), .val (.int ((((p3.toUInt32 >>> ((4 : Int32) &&& 31).toUInt32).toInt32) &&& (255 : Int32)).toInt8.toInt32)), .val (.int pp), .unset, .unset, .unset, .unset, .unset, .unset, .unset, .unset, .unset, .unset, .unset, .unset] [(.int pp), (.ref b1), (.int pp)]) _
    refine Go.of (fun tg_ kk_ => XS.iloadN X41.here hx rfl (hb hby at_56) rfl kk_) ?_
    show Go p e below T41 (mkF m 57 #[.val (.int p0), .val (.int p1), .val (.int p2), .val (.int p3), .val (.long p4), .second, .val (.ref b1), .val (.int pp), .val (.int (1 : Int32)), .val (.int ((((p3.toUInt32 >>> ((4 : Int32) &&& 31).toUInt32).toInt32) &&& (255 : Int32)).toInt8.toInt32)), .val (.int pp), .unset, .unset, .unset, .unset, .unset, .unset, .unset, .unset, .unset, .unset, .unset, .unset] [(.int p0), (.int pp), (.ref b1), (.int pp)]) _
    obtain ⟨_, _, ⟨T45, L45, k45, n45⟩, -, X45, ⟨Lc45, hQ45, l45, y45, z45⟩, st45⟩ := Jvm.LawKit.callS X41 hx (y := (⟨"com/example/diagnostic/diagnostic/Utf8OffsetOfUnitPinLaw", "put", "([BII)I"⟩ : MethodName)) hown (mvT hZ (hw _ (List.mem_of_getElem? (i := 1) rfl))) (mvT hZ (hw _ (List.mem_of_getElem? (i := 2) rfl))) (mvT hZ (hw _ (List.mem_of_getElem? (i := 3) rfl))) (mvT hZ (hw _ (List.mem_of_getElem? (i := 4) rfl))) (by decide) (backOf (W := 1) (rm1 l Z a0 hw [] b1 pp p0 f41 h41 n0 Zs44 gx1 V41 hy0) hZ (hw _ (List.mem_of_getElem? (i := 4) rfl)) (hw _ (List.mem_of_getElem? (i := 3) rfl)) (by decide) (by decide)) (g := (mkF m 57 #[.val (.int p0), .val (.int p1), .val (.int p2), .val (.int p3), .val (.long p4), .second, .val (.ref b1), .val (.int pp), .val (.int (1 : Int32)), .val (.int ((((p3.toUInt32 >>> ((4 : Int32) &&& 31).toUInt32).toInt32) &&& (255 : Int32)).toInt8.toInt32)), .val (.int pp), .unset, .unset, .unset, .unset, .unset, .unset, .unset, .unset, .unset, .unset, .unset, .unset] [(.int p0), (.int pp), (.ref b1), (.int pp)])) rfl (by rw [hml]; rfl) (argsL := [(.ref b1), (.int pp), (.int p0)]) (rest := [(.int pp)]) (lenOf pd_0 rfl) rfl (by show 2 * 0 + _ ≤ _; exact Nat.le_of_eq rfl) (hb hby at_57) (fun _ _ => ⟨rfl, e41, (by decide : 1 + 0 ≤ _), (by decide : 16 + 0 ≤ _)⟩)
    dsimp only [Pt.U, Pt.locs, Pt.cells, Pt.slots] at X45 l45 y45 z45 st45 hQ45
    subst l45 y45 z45
    obtain ⟨g45, rfl, N45q, K45q, V45, Pl45, Ln45⟩ := hQ45
    have N45 := Fr.app N41 N45q
    have K47 := K43.trans K45q (allS (Or.inr sz1) all0)
    have Zs48 : n0 ≤ T45.heap.size := Nat.le_trans Zs44 K45q.1
    refine Go.of (st45) ?_
    show Go p e below T45 (mkF m 60 #[.val (.int p0), .val (.int p1), .val (.int p2), .val (.int p3), .val (.long p4), .second, .val (.ref b1), .val (.int pp), .val (.int (1 : Int32)), .val (.int ((((p3.toUInt32 >>> ((4 : Int32) &&& 31).toUInt32).toInt32) &&& (255 : Int32)).toInt8.toInt32)), .val (.int pp), .unset, .unset, .unset, .unset, .unset, .unset, .unset, .unset, .unset, .unset, .unset, .unset] [(.int ((p0 &&& (3 : Int32)) + (1 : Int32))), (.int pp)]) _
    refine Go.of (fun tg_ kk_ => XS.iadd X45.here hx rfl (hb hby at_60) rfl kk_) ?_
    show Go p e below T45 (mkF m 61 #[.val (.int p0), .val (.int p1), .val (.int p2), .val (.int p3), .val (.long p4), .second, .val (.ref b1), .val (.int pp), .val (.int (1 : Int32)), .val (.int ((((p3.toUInt32 >>> ((4 : Int32) &&& 31).toUInt32).toInt32) &&& (255 : Int32)).toInt8.toInt32)), .val (.int pp), .unset, .unset, .unset, .unset, .unset, .unset, .unset, .unset, .unset, .unset, .unset, .unset] [(.int (pp + ((p0 &&& (3 : Int32)) + (1 : Int32))))]) _
    obtain ⟨o1, qo1⟩ : ∃ zz_ : Int32, zz_ = (pp + ((p0 &&& (3 : Int32)) + (1 : Int32))) := ⟨_, rfl⟩
    rw [← qo1]
    show Go p e below T45 (mkF m 61 #[.val (.int p0), .val (.int p1), .val (.int p2), .val (.int p3), .val (.long p4), .second, .val (.ref b1), .val (.int pp), .val (.int (1 : Int32)), .val (.int ((((p3.toUInt32 >>> ((4 : Int32) &&& 31).toUInt32).toInt32) &&& (255 : Int32)).toInt8.toInt32)), .val (.int pp), .unset, .unset, .unset, .unset, .unset, .unset, .unset, .unset, .unset, .unset, .unset, .unset] [(.int o1)]) _
    have ho1 := own_o qo1 hb0 (by decide)
    have hb1 : 0 ≤ o1.toInt ∧ o1.toInt ≤ 7 := by omega
    have hy1 : 0 ≤ o1.toInt ∧ o1.toInt ≤ 12 := by omega
    refine Go.of (fun tg_ kk_ => XS.istore X45.here hx rfl (hb hby at_61) rfl (l' := #[.val (.int p0), .val (.int p1), .val (.int p2), .val (.int p3), .val (.long p4), .second, .val (.ref b1), .val (.int pp), .val (.int (1 : Int32)), .val (.int ((((p3.toUInt32 >>> ((4 : Int32) &&& 31).toUInt32).toInt32) &&& (255 : Int32)).toInt8.toInt32)), .val (.int pp), .val (.int o1), .unset, .unset, .unset, .unset, .unset, .unset, .unset, .unset, .unset, .unset, .unset]) rfl kk_) ?_
    show Go p e below T45 (mkF m 63 #[.val (.int p0), .val (.int p1), .val (.int p2), .val (.int p3), .val (.long p4), .second, .val (.ref b1), .val (.int pp), .val (.int (1 : Int32)), .val (.int ((((p3.toUInt32 >>> ((4 : Int32) &&& 31).toUInt32).toInt32) &&& (255 : Int32)).toInt8.toInt32)), .val (.int pp), .val (.int o1), .unset, .unset, .unset, .unset, .unset, .unset, .unset, .unset, .unset, .unset, .unset] []) _
    refine Go.of (fun tg_ kk_ => XS.iload X45.here hx rfl (hb hby at_63) rfl kk_) ?_
    show Go p e below T45 (mkF m 65 #[.val (.int p0), .val (.int p1), .val (.int p2), .val (.int p3), .val (.long p4), .second, .val (.ref b1), .val (.int pp), .val (.int (1 : Int32)), .val (.int ((((p3.toUInt32 >>> ((4 : Int32) &&& 31).toUInt32).toInt32) &&& (255 : Int32)).toInt8.toInt32)), .val (.int pp), .val (.int o1), .unset, .unset, .unset, .unset, .unset, .unset, .unset, .unset, .unset, .unset, .unset] [(.int o1)]) _
    refine Go.of (fun tg_ kk_ => XS.aload X45.here hx rfl (hb hby at_65) rfl rfl kk_) ?_
    show Go p e below T45 (mkF m 67 #[.val (.int p0), .val (.int p1), .val (.int p2), .val (.int p3), .val (.long p4), .second, .val (.ref b1), .val (.int pp), .val (.int (1 : Int32)), .val (.int ((((p3.toUInt32 >>> ((4 : Int32) &&& 31).toUInt32).toInt32) &&& (255 : Int32)).toInt8.toInt32)), .val (.int pp), .val (.int o1), .unset, .unset, .unset, .unset, .unset, .unset, .unset, .unset, .unset, .unset, .unset] [(.ref b1), (.int o1)]) _
    refine Go.of (fun tg_ kk_ => XS.iload X45.here hx rfl (hb hby at_67) rfl kk_) ?_
    show Go p e below T45 (mkF m 69 #[.val (.int p0), .val (.int p1), .val (.int p2), .val (.int p3), .val (.long p4), .second, .val (.ref b1), .val (.int pp), .val (.int (1 : Int32)), .val (.int ((((p3.toUInt32 >>> ((4 : Int32) &&& 31).toUInt32).toInt32) &&& (255 : Int32)).toInt8.toInt32)), .val (.int pp), .val (.int o1), .unset, .unset, .unset, .unset, .unset, .unset, .unset, .unset, .unset, .unset, .unset] [(.int o1), (.ref b1), (.int o1)]) _
    refine Go.of (fun tg_ kk_ => XS.iloadN X45.here hx rfl (hb hby at_69) rfl kk_) ?_
    show Go p e below T45 (mkF m 70 #[.val (.int p0), .val (.int p1), .val (.int p2), .val (.int p3), .val (.long p4), .second, .val (.ref b1), .val (.int pp), .val (.int (1 : Int32)), .val (.int ((((p3.toUInt32 >>> ((4 : Int32) &&& 31).toUInt32).toInt32) &&& (255 : Int32)).toInt8.toInt32)), .val (.int pp), .val (.int o1), .unset, .unset, .unset, .unset, .unset, .unset, .unset, .unset, .unset, .unset, .unset] [(.int p1), (.int o1), (.ref b1), (.int o1)]) _
    obtain ⟨_, _, ⟨T49, L49, k49, n49⟩, -, X49, ⟨Lc49, hQ49, l49, y49, z49⟩, st49⟩ := Jvm.LawKit.callS X45 hx (y := (⟨"com/example/diagnostic/diagnostic/Utf8OffsetOfUnitPinLaw", "put", "([BII)I"⟩ : MethodName)) hown (mvT hZ (hw _ (List.mem_of_getElem? (i := 1) rfl))) (mvT hZ (hw _ (List.mem_of_getElem? (i := 2) rfl))) (mvT hZ (hw _ (List.mem_of_getElem? (i := 3) rfl))) (mvT hZ (hw _ (List.mem_of_getElem? (i := 4) rfl))) (by decide) (backOf (W := 1) (rm1 l Z a0 hw [] b1 o1 p1 g45 T45.heap n0 Zs48 gx1 V45 hy1) hZ (hw _ (List.mem_of_getElem? (i := 4) rfl)) (hw _ (List.mem_of_getElem? (i := 3) rfl)) (by decide) (by decide)) (g := (mkF m 70 #[.val (.int p0), .val (.int p1), .val (.int p2), .val (.int p3), .val (.long p4), .second, .val (.ref b1), .val (.int pp), .val (.int (1 : Int32)), .val (.int ((((p3.toUInt32 >>> ((4 : Int32) &&& 31).toUInt32).toInt32) &&& (255 : Int32)).toInt8.toInt32)), .val (.int pp), .val (.int o1), .unset, .unset, .unset, .unset, .unset, .unset, .unset, .unset, .unset, .unset, .unset] [(.int p1), (.int o1), (.ref b1), (.int o1)])) rfl (by rw [hml]; rfl) (argsL := [(.ref b1), (.int o1), (.int p1)]) (rest := [(.int o1)]) (lenOf pd_0 rfl) rfl (by show 2 * 0 + _ ≤ _; exact Nat.le_of_eq rfl) (hb hby at_70) (fun _ _ => ⟨rfl, rfl, (by decide : 1 + 0 ≤ _), (by decide : 16 + 0 ≤ _)⟩)
    dsimp only [Pt.U, Pt.locs, Pt.cells, Pt.slots] at X49 l49 y49 z49 st49 hQ49
    subst l49 y49 z49
    obtain ⟨g49, rfl, N49q, K49q, V49, Pl49, Ln49⟩ := hQ49
    have N49 := Fr.app N45 N49q
    have K51 := K47.trans K49q (allS (Or.inr sz1) all0)
    have Zs52 : n0 ≤ T49.heap.size := Nat.le_trans Zs48 K49q.1
    refine Go.of (st49) ?_
    show Go p e below T49 (mkF m 73 #[.val (.int p0), .val (.int p1), .val (.int p2), .val (.int p3), .val (.long p4), .second, .val (.ref b1), .val (.int pp), .val (.int (1 : Int32)), .val (.int ((((p3.toUInt32 >>> ((4 : Int32) &&& 31).toUInt32).toInt32) &&& (255 : Int32)).toInt8.toInt32)), .val (.int pp), .val (.int o1), .unset, .unset, .unset, .unset, .unset, .unset, .unset, .unset, .unset, .unset, .unset] [(.int ((p1 &&& (3 : Int32)) + (1 : Int32))), (.int o1)]) _
    refine Go.of (fun tg_ kk_ => XS.iadd X49.here hx rfl (hb hby at_73) rfl kk_) ?_
    show Go p e below T49 (mkF m 74 #[.val (.int p0), .val (.int p1), .val (.int p2), .val (.int p3), .val (.long p4), .second, .val (.ref b1), .val (.int pp), .val (.int (1 : Int32)), .val (.int ((((p3.toUInt32 >>> ((4 : Int32) &&& 31).toUInt32).toInt32) &&& (255 : Int32)).toInt8.toInt32)), .val (.int pp), .val (.int o1), .unset, .unset, .unset, .unset, .unset, .unset, .unset, .unset, .unset, .unset, .unset] [(.int (o1 + ((p1 &&& (3 : Int32)) + (1 : Int32))))]) _
    obtain ⟨o2, qo2⟩ : ∃ zz_ : Int32, zz_ = (o1 + ((p1 &&& (3 : Int32)) + (1 : Int32))) := ⟨_, rfl⟩
    rw [← qo2]
    show Go p e below T49 (mkF m 74 #[.val (.int p0), .val (.int p1), .val (.int p2), .val (.int p3), .val (.long p4), .second, .val (.ref b1), .val (.int pp), .val (.int (1 : Int32)), .val (.int ((((p3.toUInt32 >>> ((4 : Int32) &&& 31).toUInt32).toInt32) &&& (255 : Int32)).toInt8.toInt32)), .val (.int pp), .val (.int o1), .unset, .unset, .unset, .unset, .unset, .unset, .unset, .unset, .unset, .unset, .unset] [(.int o2)]) _
    have ho2 := own_o qo2 hb1 (by decide)
    have hb2 : 0 ≤ o2.toInt ∧ o2.toInt ≤ 11 := by omega
    have hy2 : 0 ≤ o2.toInt ∧ o2.toInt ≤ 12 := by omega
    refine Go.of (fun tg_ kk_ => XS.istore X49.here hx rfl (hb hby at_74) rfl (l' := #[.val (.int p0), .val (.int p1), .val (.int p2), .val (.int p3), .val (.long p4), .second, .val (.ref b1), .val (.int pp), .val (.int (1 : Int32)), .val (.int ((((p3.toUInt32 >>> ((4 : Int32) &&& 31).toUInt32).toInt32) &&& (255 : Int32)).toInt8.toInt32)), .val (.int pp), .val (.int o1), .val (.int o2), .unset, .unset, .unset, .unset, .unset, .unset, .unset, .unset, .unset, .unset]) rfl kk_) ?_
    show Go p e below T49 (mkF m 76 #[.val (.int p0), .val (.int p1), .val (.int p2), .val (.int p3), .val (.long p4), .second, .val (.ref b1), .val (.int pp), .val (.int (1 : Int32)), .val (.int ((((p3.toUInt32 >>> ((4 : Int32) &&& 31).toUInt32).toInt32) &&& (255 : Int32)).toInt8.toInt32)), .val (.int pp), .val (.int o1), .val (.int o2), .unset, .unset, .unset, .unset, .unset, .unset, .unset, .unset, .unset, .unset] []) _
    refine Go.of (fun tg_ kk_ => XS.iload X49.here hx rfl (hb hby at_76) rfl kk_) ?_
    show Go p e below T49 (mkF m 78 #[.val (.int p0), .val (.int p1), .val (.int p2), .val (.int p3), .val (.long p4), .second, .val (.ref b1), .val (.int pp), .val (.int (1 : Int32)), .val (.int ((((p3.toUInt32 >>> ((4 : Int32) &&& 31).toUInt32).toInt32) &&& (255 : Int32)).toInt8.toInt32)), .val (.int pp), .val (.int o1), .val (.int o2), .unset, .unset, .unset, .unset, .unset, .unset, .unset, .unset, .unset, .unset] [(.int o2)]) _
    refine Go.of (fun tg_ kk_ => XS.aload X49.here hx rfl (hb hby at_78) rfl rfl kk_) ?_
    show Go p e below T49 (mkF m 80 #[.val (.int p0), .val (.int p1), .val (.int p2), .val (.int p3), .val (.long p4), .second, .val (.ref b1), .val (.int pp), .val (.int (1 : Int32)), .val (.int ((((p3.toUInt32 >>> ((4 : Int32) &&& 31).toUInt32).toInt32) &&& (255 : Int32)).toInt8.toInt32)), .val (.int pp), .val (.int o1), .val (.int o2), .unset, .unset, .unset, .unset, .unset, .unset, .unset, .unset, .unset, .unset] [(.ref b1), (.int o2)]) _
    refine Go.of (fun tg_ kk_ => XS.iload X49.here hx rfl (hb hby at_80) rfl kk_) ?_
    show Go p e below T49 (mkF m 82 #[.val (.int p0), .val (.int p1), .val (.int p2), .val (.int p3), .val (.long p4), .second, .val (.ref b1), .val (.int pp), .val (.int (1 : Int32)), .val (.int ((((p3.toUInt32 >>> ((4 : Int32) &&& 31).toUInt32).toInt32) &&& (255 : Int32)).toInt8.toInt32)), .val (.int pp), .val (.int o1), .val (.int o2), .unset, .unset, .unset, .unset, .unset, .unset, .unset, .unset, .unset, .unset] [(.int o2), (.ref b1), (.int o2)]) _
    refine Go.of (fun tg_ kk_ => XS.iloadN X49.here hx rfl (hb hby at_82) rfl kk_) ?_
    show Go p e below T49 (mkF m 83 #[.val (.int p0), .val (.int p1), .val (.int p2), .val (.int p3), .val (.long p4), .second, .val (.ref b1), .val (.int pp), .val (.int (1 : Int32)), .val (.int ((((p3.toUInt32 >>> ((4 : Int32) &&& 31).toUInt32).toInt32) &&& (255 : Int32)).toInt8.toInt32)), .val (.int pp), .val (.int o1), .val (.int o2), .unset, .unset, .unset, .unset, .unset, .unset, .unset, .unset, .unset, .unset] [(.int p2), (.int o2), (.ref b1), (.int o2)]) _
    obtain ⟨_, _, ⟨T53, L53, k53, n53⟩, -, X53, ⟨Lc53, hQ53, l53, y53, z53⟩, st53⟩ := Jvm.LawKit.callS X49 hx (y := (⟨"com/example/diagnostic/diagnostic/Utf8OffsetOfUnitPinLaw", "put", "([BII)I"⟩ : MethodName)) hown (mvT hZ (hw _ (List.mem_of_getElem? (i := 1) rfl))) (mvT hZ (hw _ (List.mem_of_getElem? (i := 2) rfl))) (mvT hZ (hw _ (List.mem_of_getElem? (i := 3) rfl))) (mvT hZ (hw _ (List.mem_of_getElem? (i := 4) rfl))) (by decide) (backOf (W := 1) (rm1 l Z a0 hw [] b1 o2 p2 g49 T49.heap n0 Zs52 gx1 V49 hy2) hZ (hw _ (List.mem_of_getElem? (i := 4) rfl)) (hw _ (List.mem_of_getElem? (i := 3) rfl)) (by decide) (by decide)) (g := (mkF m 83 #[.val (.int p0), .val (.int p1), .val (.int p2), .val (.int p3), .val (.long p4), .second, .val (.ref b1), .val (.int pp), .val (.int (1 : Int32)), .val (.int ((((p3.toUInt32 >>> ((4 : Int32) &&& 31).toUInt32).toInt32) &&& (255 : Int32)).toInt8.toInt32)), .val (.int pp), .val (.int o1), .val (.int o2), .unset, .unset, .unset, .unset, .unset, .unset, .unset, .unset, .unset, .unset] [(.int p2), (.int o2), (.ref b1), (.int o2)])) rfl (by rw [hml]; rfl) (argsL := [(.ref b1), (.int o2), (.int p2)]) (rest := [(.int o2)]) (lenOf pd_0 rfl) rfl (by show 2 * 0 + _ ≤ _; exact Nat.le_of_eq rfl) (hb hby at_83) (fun _ _ => ⟨rfl, rfl, (by decide : 1 + 0 ≤ _), (by decide : 16 + 0 ≤ _)⟩)
    dsimp only [Pt.U, Pt.locs, Pt.cells, Pt.slots] at X53 l53 y53 z53 st53 hQ53
    subst l53 y53 z53
    obtain ⟨g53, rfl, N53q, K53q, V53, Pl53, Ln53⟩ := hQ53
    have N53 := Fr.app N49 N53q
    have K55 := K51.trans K53q (allS (Or.inr sz1) all0)
    have Zs56 : n0 ≤ T53.heap.size := Nat.le_trans Zs52 K53q.1
    refine Go.of (st53) ?_
    show Go p e below T53 (mkF m 86 #[.val (.int p0), .val (.int p1), .val (.int p2), .val (.int p3), .val (.long p4), .second, .val (.ref b1), .val (.int pp), .val (.int (1 : Int32)), .val (.int ((((p3.toUInt32 >>> ((4 : Int32) &&& 31).toUInt32).toInt32) &&& (255 : Int32)).toInt8.toInt32)), .val (.int pp), .val (.int o1), .val (.int o2), .unset, .unset, .unset, .unset, .unset, .unset, .unset, .unset, .unset, .unset] [(.int ((p2 &&& (3 : Int32)) + (1 : Int32))), (.int o2)]) _
    refine Go.of (fun tg_ kk_ => XS.iadd X53.here hx rfl (hb hby at_86) rfl kk_) ?_
    show Go p e below T53 (mkF m 87 #[.val (.int p0), .val (.int p1), .val (.int p2), .val (.int p3), .val (.long p4), .second, .val (.ref b1), .val (.int pp), .val (.int (1 : Int32)), .val (.int ((((p3.toUInt32 >>> ((4 : Int32) &&& 31).toUInt32).toInt32) &&& (255 : Int32)).toInt8.toInt32)), .val (.int pp), .val (.int o1), .val (.int o2), .unset, .unset, .unset, .unset, .unset, .unset, .unset, .unset, .unset, .unset] [(.int (o2 + ((p2 &&& (3 : Int32)) + (1 : Int32))))]) _
    obtain ⟨o3, qo3⟩ : ∃ zz_ : Int32, zz_ = (o2 + ((p2 &&& (3 : Int32)) + (1 : Int32))) := ⟨_, rfl⟩
    rw [← qo3]
    show Go p e below T53 (mkF m 87 #[.val (.int p0), .val (.int p1), .val (.int p2), .val (.int p3), .val (.long p4), .second, .val (.ref b1), .val (.int pp), .val (.int (1 : Int32)), .val (.int ((((p3.toUInt32 >>> ((4 : Int32) &&& 31).toUInt32).toInt32) &&& (255 : Int32)).toInt8.toInt32)), .val (.int pp), .val (.int o1), .val (.int o2), .unset, .unset, .unset, .unset, .unset, .unset, .unset, .unset, .unset, .unset] [(.int o3)]) _
    have ho3 := own_o qo3 hb2 (by decide)
    have hb3 : 0 ≤ o3.toInt ∧ o3.toInt ≤ 15 := by omega
    have hl2 := Ln53
    have hl1 := Ln49
    rw [← Pl53 _ (show (((o1).toNatClampNeg : Nat) : Int) < o2.toInt by show ((o1.toInt.toNat : Nat) : Int) < o2.toInt; omega)] at hl1
    have hl0 := Ln45
    rw [← Pl49 _ (show (((pp).toNatClampNeg : Nat) : Int) < o1.toInt by show ((pp.toInt.toNat : Nat) : Int) < o1.toInt; omega), ← Pl53 _ (show (((pp).toNatClampNeg : Nat) : Int) < o2.toInt by show ((pp.toInt.toNat : Nat) : Int) < o2.toInt; omega)] at hl0
    refine Go.of (fun tg_ kk_ => XS.istore X53.here hx rfl (hb hby at_87) rfl (l' := #[.val (.int p0), .val (.int p1), .val (.int p2), .val (.int p3), .val (.long p4), .second, .val (.ref b1), .val (.int pp), .val (.int (1 : Int32)), .val (.int ((((p3.toUInt32 >>> ((4 : Int32) &&& 31).toUInt32).toInt32) &&& (255 : Int32)).toInt8.toInt32)), .val (.int pp), .val (.int o1), .val (.int o2), .val (.int o3), .unset, .unset, .unset, .unset, .unset, .unset, .unset, .unset, .unset]) rfl kk_) ?_
    show Go p e below T53 (mkF m 89 #[.val (.int p0), .val (.int p1), .val (.int p2), .val (.int p3), .val (.long p4), .second, .val (.ref b1), .val (.int pp), .val (.int (1 : Int32)), .val (.int ((((p3.toUInt32 >>> ((4 : Int32) &&& 31).toUInt32).toInt32) &&& (255 : Int32)).toInt8.toInt32)), .val (.int pp), .val (.int o1), .val (.int o2), .val (.int o3), .unset, .unset, .unset, .unset, .unset, .unset, .unset, .unset, .unset] []) _
    refine Go.of (fun tg_ kk_ => XS.iload X53.here hx rfl (hb hby at_89) rfl kk_) ?_
    show Go p e below T53 (mkF m 91 #[.val (.int p0), .val (.int p1), .val (.int p2), .val (.int p3), .val (.long p4), .second, .val (.ref b1), .val (.int pp), .val (.int (1 : Int32)), .val (.int ((((p3.toUInt32 >>> ((4 : Int32) &&& 31).toUInt32).toInt32) &&& (255 : Int32)).toInt8.toInt32)), .val (.int pp), .val (.int o1), .val (.int o2), .val (.int o3), .unset, .unset, .unset, .unset, .unset, .unset, .unset, .unset, .unset] [(.int (1 : Int32))]) _
    refine Go.of (fun tg_ kk_ => XS.ifYes X53.here hx rfl (pc0 := 91) (pc' := 99) rfl (hb hby at_91) rfl ((if0 _ _).trans (feq (show ¬ ((1 : Int32) = (0 : Int32)) by decide)).2) (by decide) (by decide) kk_) ?_
    show Go p e below T53 (mkF m 99 #[.val (.int p0), .val (.int p1), .val (.int p2), .val (.int p3), .val (.long p4), .second, .val (.ref b1), .val (.int pp), .val (.int (1 : Int32)), .val (.int ((((p3.toUInt32 >>> ((4 : Int32) &&& 31).toUInt32).toInt32) &&& (255 : Int32)).toInt8.toInt32)), .val (.int pp), .val (.int o1), .val (.int o2), .val (.int o3), .unset, .unset, .unset, .unset, .unset, .unset, .unset, .unset, .unset] []) _
    refine Go.of (fun tg_ kk_ => XS.iload X53.here hx rfl (hb hby at_99) rfl kk_) ?_
    show Go p e below T53 (mkF m 101 #[.val (.int p0), .val (.int p1), .val (.int p2), .val (.int p3), .val (.long p4), .second, .val (.ref b1), .val (.int pp), .val (.int (1 : Int32)), .val (.int ((((p3.toUInt32 >>> ((4 : Int32) &&& 31).toUInt32).toInt32) &&& (255 : Int32)).toInt8.toInt32)), .val (.int pp), .val (.int o1), .val (.int o2), .val (.int o3), .unset, .unset, .unset, .unset, .unset, .unset, .unset, .unset, .unset] [(.int (1 : Int32))]) _
    refine Go.of (fun tg_ kk_ => XS.iconst X53.here hx rfl (hb hby at_101) kk_) ?_
    show Go p e below T53 (mkF m 102 #[.val (.int p0), .val (.int p1), .val (.int p2), .val (.int p3), .val (.long p4), .second, .val (.ref b1), .val (.int pp), .val (.int (1 : Int32)), .val (.int ((((p3.toUInt32 >>> ((4 : Int32) &&& 31).toUInt32).toInt32) &&& (255 : Int32)).toInt8.toInt32)), .val (.int pp), .val (.int o1), .val (.int o2), .val (.int o3), .unset, .unset, .unset, .unset, .unset, .unset, .unset, .unset, .unset] [(.int (1 : Int32)), (.int (1 : Int32))]) _
    refine Go.of (fun tg_ kk_ => XS.icmpNo X53.here hx rfl (hb hby at_102) rfl (teq (show (1 : Int32) = (1 : Int32) by decide)).2 kk_) ?_
    show Go p e below T53 (mkF m 105 #[.val (.int p0), .val (.int p1), .val (.int p2), .val (.int p3), .val (.long p4), .second, .val (.ref b1), .val (.int pp), .val (.int (1 : Int32)), .val (.int ((((p3.toUInt32 >>> ((4 : Int32) &&& 31).toUInt32).toInt32) &&& (255 : Int32)).toInt8.toInt32)), .val (.int pp), .val (.int o1), .val (.int o2), .val (.int o3), .unset, .unset, .unset, .unset, .unset, .unset, .unset, .unset, .unset] []) _
    refine Go.of (fun tg_ kk_ => XS.iload X53.here hx rfl (hb hby at_105) rfl kk_) ?_
    show Go p e below T53 (mkF m 107 #[.val (.int p0), .val (.int p1), .val (.int p2), .val (.int p3), .val (.long p4), .second, .val (.ref b1), .val (.int pp), .val (.int (1 : Int32)), .val (.int ((((p3.toUInt32 >>> ((4 : Int32) &&& 31).toUInt32).toInt32) &&& (255 : Int32)).toInt8.toInt32)), .val (.int pp), .val (.int o1), .val (.int o2), .val (.int o3), .unset, .unset, .unset, .unset, .unset, .unset, .unset, .unset, .unset] [(.int o1)]) _
    refine Go.of (fun tg_ kk_ => XS.goto X53.here hx rfl (pc0 := 107) (pc' := 123) rfl (hb hby at_107) (by decide) (by decide) kk_) ?_
    show Go p e below T53 (mkF m 123 #[.val (.int p0), .val (.int p1), .val (.int p2), .val (.int p3), .val (.long p4), .second, .val (.ref b1), .val (.int pp), .val (.int (1 : Int32)), .val (.int ((((p3.toUInt32 >>> ((4 : Int32) &&& 31).toUInt32).toInt32) &&& (255 : Int32)).toInt8.toInt32)), .val (.int pp), .val (.int o1), .val (.int o2), .val (.int o3), .unset, .unset, .unset, .unset, .unset, .unset, .unset, .unset, .unset] [(.int o1)]) _
    refine Go.of (fun tg_ kk_ => XS.istore X53.here hx rfl (hb hby at_123) rfl (l' := #[.val (.int p0), .val (.int p1), .val (.int p2), .val (.int p3), .val (.long p4), .second, .val (.ref b1), .val (.int pp), .val (.int (1 : Int32)), .val (.int ((((p3.toUInt32 >>> ((4 : Int32) &&& 31).toUInt32).toInt32) &&& (255 : Int32)).toInt8.toInt32)), .val (.int pp), .val (.int o1), .val (.int o2), .val (.int o3), .val (.int o1), .unset, .unset, .unset, .unset, .unset, .unset, .unset, .unset]) rfl kk_) ?_
    show Go p e below T53 (mkF m 125 #[.val (.int p0), .val (.int p1), .val (.int p2), .val (.int p3), .val (.long p4), .second, .val (.ref b1), .val (.int pp), .val (.int (1 : Int32)), .val (.int ((((p3.toUInt32 >>> ((4 : Int32) &&& 31).toUInt32).toInt32) &&& (255 : Int32)).toInt8.toInt32)), .val (.int pp), .val (.int o1), .val (.int o2), .val (.int o3), .val (.int o1), .unset, .unset, .unset, .unset, .unset, .unset, .unset, .unset] []) _
    refine Go.of (fun tg_ kk_ => XS.iloadN X53.here hx rfl (hb hby at_125) rfl kk_) ?_
    show Go p e below T53 (mkF m 126 #[.val (.int p0), .val (.int p1), .val (.int p2), .val (.int p3), .val (.long p4), .second, .val (.ref b1), .val (.int pp), .val (.int (1 : Int32)), .val (.int ((((p3.toUInt32 >>> ((4 : Int32) &&& 31).toUInt32).toInt32) &&& (255 : Int32)).toInt8.toInt32)), .val (.int pp), .val (.int o1), .val (.int o2), .val (.int o3), .val (.int o1), .unset, .unset, .unset, .unset, .unset, .unset, .unset, .unset] [(.int p0)]) _
    obtain ⟨_, _, ⟨T57, L57, k57, n57⟩, -, X57, ⟨Lc57, hQ57, l57, y57, z57⟩, st57⟩ := Jvm.LawKit.callS X53 hx (y := (⟨"com/example/diagnostic/diagnostic/Utf8OffsetOfUnitPinLaw", "units", "(I)I"⟩ : MethodName)) hown (mvT hZ (hw _ (List.mem_of_getElem? (i := 6) rfl))) (mvT hZ (hw _ (List.mem_of_getElem? (i := 7) rfl))) (mvT hZ (hw _ (List.mem_of_getElem? (i := 3) rfl))) (mvT hZ (hw _ (List.mem_of_getElem? (i := 8) rfl))) (by decide) (backOf (W := 0) (rm2 l Z a0 hw [] p0 T53.heap n0 Zs56) hZ (hw _ (List.mem_of_getElem? (i := 8) rfl)) (hw _ (List.mem_of_getElem? (i := 3) rfl)) (by decide) (by decide)) (g := (mkF m 126 #[.val (.int p0), .val (.int p1), .val (.int p2), .val (.int p3), .val (.long p4), .second, .val (.ref b1), .val (.int pp), .val (.int (1 : Int32)), .val (.int ((((p3.toUInt32 >>> ((4 : Int32) &&& 31).toUInt32).toInt32) &&& (255 : Int32)).toInt8.toInt32)), .val (.int pp), .val (.int o1), .val (.int o2), .val (.int o3), .val (.int o1), .unset, .unset, .unset, .unset, .unset, .unset, .unset, .unset] [(.int p0)])) rfl (by rw [hml]; rfl) (argsL := [(.int p0)]) (rest := []) (lenOf pd_1 rfl) rfl (by show 2 * 0 + _ ≤ _; exact Nat.le_of_eq rfl) (hb hby at_126) (fun _ _ => ⟨rfl, rfl, (by decide : 1 + 0 ≤ _), (by decide : 16 + 0 ≤ _)⟩)
    dsimp only [Pt.U, Pt.locs, Pt.cells, Pt.slots] at X57 l57 y57 z57 st57 hQ57
    subst l57 y57 z57
    obtain ⟨rfl, N57q, e57⟩ := hQ57
    have N57 := Fr.app N53 N57q
    refine Go.of (st57) ?_
    show Go p e below T57 (mkF m 129 #[.val (.int p0), .val (.int p1), .val (.int p2), .val (.int p3), .val (.long p4), .second, .val (.ref b1), .val (.int pp), .val (.int (1 : Int32)), .val (.int ((((p3.toUInt32 >>> ((4 : Int32) &&& 31).toUInt32).toInt32) &&& (255 : Int32)).toInt8.toInt32)), .val (.int pp), .val (.int o1), .val (.int o2), .val (.int o3), .val (.int o1), .unset, .unset, .unset, .unset, .unset, .unset, .unset, .unset] [(.int (if (p0 &&& (3 : Int32)) = (3 : Int32) then (2 : Int32) else (1 : Int32)))]) _
    refine Go.of (fun tg_ kk_ => XS.i2l X57.here hx rfl (hb hby at_129) rfl kk_) ?_
    show Go p e below T57 (mkF m 130 #[.val (.int p0), .val (.int p1), .val (.int p2), .val (.int p3), .val (.long p4), .second, .val (.ref b1), .val (.int pp), .val (.int (1 : Int32)), .val (.int ((((p3.toUInt32 >>> ((4 : Int32) &&& 31).toUInt32).toInt32) &&& (255 : Int32)).toInt8.toInt32)), .val (.int pp), .val (.int o1), .val (.int o2), .val (.int o3), .val (.int o1), .unset, .unset, .unset, .unset, .unset, .unset, .unset, .unset] [(.long ((if (p0 &&& (3 : Int32)) = (3 : Int32) then (2 : Int32) else (1 : Int32)).toInt64))]) _
    obtain ⟨c1, qc1⟩ : ∃ zz_ : Int64, zz_ = ((if (p0 &&& (3 : Int32)) = (3 : Int32) then (2 : Int32) else (1 : Int32)).toInt64) := ⟨_, rfl⟩
    rw [← qc1]
    show Go p e below T57 (mkF m 130 #[.val (.int p0), .val (.int p1), .val (.int p2), .val (.int p3), .val (.long p4), .second, .val (.ref b1), .val (.int pp), .val (.int (1 : Int32)), .val (.int ((((p3.toUInt32 >>> ((4 : Int32) &&& 31).toUInt32).toInt32) &&& (255 : Int32)).toInt8.toInt32)), .val (.int pp), .val (.int o1), .val (.int o2), .val (.int o3), .val (.int o1), .unset, .unset, .unset, .unset, .unset, .unset, .unset, .unset] [(.long c1)]) _
    refine Go.of (fun tg_ kk_ => XS.lstore X57.here hx rfl (hb hby at_130) rfl (l' := #[.val (.int p0), .val (.int p1), .val (.int p2), .val (.int p3), .val (.long p4), .second, .val (.ref b1), .val (.int pp), .val (.int (1 : Int32)), .val (.int ((((p3.toUInt32 >>> ((4 : Int32) &&& 31).toUInt32).toInt32) &&& (255 : Int32)).toInt8.toInt32)), .val (.int pp), .val (.int o1), .val (.int o2), .val (.int o3), .val (.int o1), .val (.long c1), .second, .unset, .unset, .unset, .unset, .unset, .unset]) rfl kk_) ?_
    show Go p e below T57 (mkF m 132 #[.val (.int p0), .val (.int p1), .val (.int p2), .val (.int p3), .val (.long p4), .second, .val (.ref b1), .val (.int pp), .val (.int (1 : Int32)), .val (.int ((((p3.toUInt32 >>> ((4 : Int32) &&& 31).toUInt32).toInt32) &&& (255 : Int32)).toInt8.toInt32)), .val (.int pp), .val (.int o1), .val (.int o2), .val (.int o3), .val (.int o1), .val (.long c1), .second, .unset, .unset, .unset, .unset, .unset, .unset] []) _
    refine Go.of (fun tg_ kk_ => XS.lload X57.here hx rfl (hb hby at_132) rfl kk_) ?_
    show Go p e below T57 (mkF m 134 #[.val (.int p0), .val (.int p1), .val (.int p2), .val (.int p3), .val (.long p4), .second, .val (.ref b1), .val (.int pp), .val (.int (1 : Int32)), .val (.int ((((p3.toUInt32 >>> ((4 : Int32) &&& 31).toUInt32).toInt32) &&& (255 : Int32)).toInt8.toInt32)), .val (.int pp), .val (.int o1), .val (.int o2), .val (.int o3), .val (.int o1), .val (.long c1), .second, .unset, .unset, .unset, .unset, .unset, .unset] [(.long c1)]) _
    refine Go.of (fun tg_ kk_ => XS.iloadN X57.here hx rfl (hb hby at_134) rfl kk_) ?_
    show Go p e below T57 (mkF m 135 #[.val (.int p0), .val (.int p1), .val (.int p2), .val (.int p3), .val (.long p4), .second, .val (.ref b1), .val (.int pp), .val (.int (1 : Int32)), .val (.int ((((p3.toUInt32 >>> ((4 : Int32) &&& 31).toUInt32).toInt32) &&& (255 : Int32)).toInt8.toInt32)), .val (.int pp), .val (.int o1), .val (.int o2), .val (.int o3), .val (.int o1), .val (.long c1), .second, .unset, .unset, .unset, .unset, .unset, .unset] [(.int p1), (.long c1)]) _
    obtain ⟨_, _, ⟨T58, L58, k58, n58⟩, -, X58, ⟨Lc58, hQ58, l58, y58, z58⟩, st58⟩ := Jvm.LawKit.callS X57 hx (y := (⟨"com/example/diagnostic/diagnostic/Utf8OffsetOfUnitPinLaw", "units", "(I)I"⟩ : MethodName)) hown (mvT hZ (hw _ (List.mem_of_getElem? (i := 6) rfl))) (mvT hZ (hw _ (List.mem_of_getElem? (i := 7) rfl))) (mvT hZ (hw _ (List.mem_of_getElem? (i := 3) rfl))) (mvT hZ (hw _ (List.mem_of_getElem? (i := 8) rfl))) (by decide) (backOf (W := 2) (rm2 l Z a0 hw [] p1 T53.heap n0 Zs56) hZ (hw _ (List.mem_of_getElem? (i := 8) rfl)) (hw _ (List.mem_of_getElem? (i := 3) rfl)) (by decide) (by decide)) (g := (mkF m 135 #[.val (.int p0), .val (.int p1), .val (.int p2), .val (.int p3), .val (.long p4), .second, .val (.ref b1), .val (.int pp), .val (.int (1 : Int32)), .val (.int ((((p3.toUInt32 >>> ((4 : Int32) &&& 31).toUInt32).toInt32) &&& (255 : Int32)).toInt8.toInt32)), .val (.int pp), .val (.int o1), .val (.int o2), .val (.int o3), .val (.int o1), .val (.long c1), .second, .unset, .unset, .unset, .unset, .unset, .unset] [(.int p1), (.long c1)])) rfl (by rw [hml]; rfl) (argsL := [(.int p1)]) (rest := [(.long c1)]) (lenOf pd_1 rfl) rfl (by show 2 * 0 + _ ≤ _; exact Nat.le_of_eq rfl) (hb hby at_135) (fun _ _ => ⟨rfl, e57, (by decide : 1 + 0 ≤ _), (by decide : 16 + 0 ≤ _)⟩)
    dsimp only [Pt.U, Pt.locs, Pt.cells, Pt.slots] at X58 l58 y58 z58 st58 hQ58
    subst l58 y58 z58
    obtain ⟨rfl, N58q, e58⟩ := hQ58
    have N58 := Fr.app N57 N58q
    refine Go.of (st58) ?_
    show Go p e below T58 (mkF m 138 #[.val (.int p0), .val (.int p1), .val (.int p2), .val (.int p3), .val (.long p4), .second, .val (.ref b1), .val (.int pp), .val (.int (1 : Int32)), .val (.int ((((p3.toUInt32 >>> ((4 : Int32) &&& 31).toUInt32).toInt32) &&& (255 : Int32)).toInt8.toInt32)), .val (.int pp), .val (.int o1), .val (.int o2), .val (.int o3), .val (.int o1), .val (.long c1), .second, .unset, .unset, .unset, .unset, .unset, .unset] [(.int (if (p1 &&& (3 : Int32)) = (3 : Int32) then (2 : Int32) else (1 : Int32))), (.long c1)]) _
    refine Go.of (fun tg_ kk_ => XS.i2l X58.here hx rfl (hb hby at_138) rfl kk_) ?_
    show Go p e below T58 (mkF m 139 #[.val (.int p0), .val (.int p1), .val (.int p2), .val (.int p3), .val (.long p4), .second, .val (.ref b1), .val (.int pp), .val (.int (1 : Int32)), .val (.int ((((p3.toUInt32 >>> ((4 : Int32) &&& 31).toUInt32).toInt32) &&& (255 : Int32)).toInt8.toInt32)), .val (.int pp), .val (.int o1), .val (.int o2), .val (.int o3), .val (.int o1), .val (.long c1), .second, .unset, .unset, .unset, .unset, .unset, .unset] [(.long ((if (p1 &&& (3 : Int32)) = (3 : Int32) then (2 : Int32) else (1 : Int32)).toInt64)), (.long c1)]) _
    refine Go.of (fun tg_ kk_ => XS.ladd X58.here hx rfl (hb hby at_139) rfl kk_) ?_
    show Go p e below T58 (mkF m 140 #[.val (.int p0), .val (.int p1), .val (.int p2), .val (.int p3), .val (.long p4), .second, .val (.ref b1), .val (.int pp), .val (.int (1 : Int32)), .val (.int ((((p3.toUInt32 >>> ((4 : Int32) &&& 31).toUInt32).toInt32) &&& (255 : Int32)).toInt8.toInt32)), .val (.int pp), .val (.int o1), .val (.int o2), .val (.int o3), .val (.int o1), .val (.long c1), .second, .unset, .unset, .unset, .unset, .unset, .unset] [(.long (c1 + ((if (p1 &&& (3 : Int32)) = (3 : Int32) then (2 : Int32) else (1 : Int32)).toInt64)))]) _
    obtain ⟨c2, qc2⟩ : ∃ zz_ : Int64, zz_ = (c1 + ((if (p1 &&& (3 : Int32)) = (3 : Int32) then (2 : Int32) else (1 : Int32)).toInt64)) := ⟨_, rfl⟩
    rw [← qc2]
    show Go p e below T58 (mkF m 140 #[.val (.int p0), .val (.int p1), .val (.int p2), .val (.int p3), .val (.long p4), .second, .val (.ref b1), .val (.int pp), .val (.int (1 : Int32)), .val (.int ((((p3.toUInt32 >>> ((4 : Int32) &&& 31).toUInt32).toInt32) &&& (255 : Int32)).toInt8.toInt32)), .val (.int pp), .val (.int o1), .val (.int o2), .val (.int o3), .val (.int o1), .val (.long c1), .second, .unset, .unset, .unset, .unset, .unset, .unset] [(.long c2)]) _
    refine Go.of (fun tg_ kk_ => XS.lstore X58.here hx rfl (hb hby at_140) rfl (l' := #[.val (.int p0), .val (.int p1), .val (.int p2), .val (.int p3), .val (.long p4), .second, .val (.ref b1), .val (.int pp), .val (.int (1 : Int32)), .val (.int ((((p3.toUInt32 >>> ((4 : Int32) &&& 31).toUInt32).toInt32) &&& (255 : Int32)).toInt8.toInt32)), .val (.int pp), .val (.int o1), .val (.int o2), .val (.int o3), .val (.int o1), .val (.long c1), .second, .val (.long c2), .second, .unset, .unset, .unset, .unset]) rfl kk_) ?_
    show Go p e below T58 (mkF m 142 #[.val (.int p0), .val (.int p1), .val (.int p2), .val (.int p3), .val (.long p4), .second, .val (.ref b1), .val (.int pp), .val (.int (1 : Int32)), .val (.int ((((p3.toUInt32 >>> ((4 : Int32) &&& 31).toUInt32).toInt32) &&& (255 : Int32)).toInt8.toInt32)), .val (.int pp), .val (.int o1), .val (.int o2), .val (.int o3), .val (.int o1), .val (.long c1), .second, .val (.long c2), .second, .unset, .unset, .unset, .unset] []) _
    refine Go.of (fun tg_ kk_ => XS.lload X58.here hx rfl (hb hby at_142) rfl kk_) ?_
    show Go p e below T58 (mkF m 144 #[.val (.int p0), .val (.int p1), .val (.int p2), .val (.int p3), .val (.long p4), .second, .val (.ref b1), .val (.int pp), .val (.int (1 : Int32)), .val (.int ((((p3.toUInt32 >>> ((4 : Int32) &&& 31).toUInt32).toInt32) &&& (255 : Int32)).toInt8.toInt32)), .val (.int pp), .val (.int o1), .val (.int o2), .val (.int o3), .val (.int o1), .val (.long c1), .second, .val (.long c2), .second, .unset, .unset, .unset, .unset] [(.long c2)]) _
    refine Go.of (fun tg_ kk_ => XS.iloadN X58.here hx rfl (hb hby at_144) rfl kk_) ?_
    show Go p e below T58 (mkF m 145 #[.val (.int p0), .val (.int p1), .val (.int p2), .val (.int p3), .val (.long p4), .second, .val (.ref b1), .val (.int pp), .val (.int (1 : Int32)), .val (.int ((((p3.toUInt32 >>> ((4 : Int32) &&& 31).toUInt32).toInt32) &&& (255 : Int32)).toInt8.toInt32)), .val (.int pp), .val (.int o1), .val (.int o2), .val (.int o3), .val (.int o1), .val (.long c1), .second, .val (.long c2), .second, .unset, .unset, .unset, .unset] [(.int p2), (.long c2)]) _
    obtain ⟨_, _, ⟨T59, L59, k59, n59⟩, -, X59, ⟨Lc59, hQ59, l59, y59, z59⟩, st59⟩ := Jvm.LawKit.callS X58 hx (y := (⟨"com/example/diagnostic/diagnostic/Utf8OffsetOfUnitPinLaw", "units", "(I)I"⟩ : MethodName)) hown (mvT hZ (hw _ (List.mem_of_getElem? (i := 6) rfl))) (mvT hZ (hw _ (List.mem_of_getElem? (i := 7) rfl))) (mvT hZ (hw _ (List.mem_of_getElem? (i := 3) rfl))) (mvT hZ (hw _ (List.mem_of_getElem? (i := 8) rfl))) (by decide) (backOf (W := 2) (rm2 l Z a0 hw [] p2 T53.heap n0 Zs56) hZ (hw _ (List.mem_of_getElem? (i := 8) rfl)) (hw _ (List.mem_of_getElem? (i := 3) rfl)) (by decide) (by decide)) (g := (mkF m 145 #[.val (.int p0), .val (.int p1), .val (.int p2), .val (.int p3), .val (.long p4), .second, .val (.ref b1), .val (.int pp), .val (.int (1 : Int32)), .val (.int ((((p3.toUInt32 >>> ((4 : Int32) &&& 31).toUInt32).toInt32) &&& (255 : Int32)).toInt8.toInt32)), .val (.int pp), .val (.int o1), .val (.int o2), .val (.int o3), .val (.int o1), .val (.long c1), .second, .val (.long c2), .second, .unset, .unset, .unset, .unset] [(.int p2), (.long c2)])) rfl (by rw [hml]; rfl) (argsL := [(.int p2)]) (rest := [(.long c2)]) (lenOf pd_1 rfl) rfl (by show 2 * 0 + _ ≤ _; exact Nat.le_of_eq rfl) (hb hby at_145) (fun _ _ => ⟨rfl, e58, (by decide : 1 + 0 ≤ _), (by decide : 16 + 0 ≤ _)⟩)
    dsimp only [Pt.U, Pt.locs, Pt.cells, Pt.slots] at X59 l59 y59 z59 st59 hQ59
    subst l59 y59 z59
    obtain ⟨rfl, N59q, e59⟩ := hQ59
    have N59 := Fr.app N58 N59q
    refine Go.of (st59) ?_
    show Go p e below T59 (mkF m 148 #[.val (.int p0), .val (.int p1), .val (.int p2), .val (.int p3), .val (.long p4), .second, .val (.ref b1), .val (.int pp), .val (.int (1 : Int32)), .val (.int ((((p3.toUInt32 >>> ((4 : Int32) &&& 31).toUInt32).toInt32) &&& (255 : Int32)).toInt8.toInt32)), .val (.int pp), .val (.int o1), .val (.int o2), .val (.int o3), .val (.int o1), .val (.long c1), .second, .val (.long c2), .second, .unset, .unset, .unset, .unset] [(.int (if (p2 &&& (3 : Int32)) = (3 : Int32) then (2 : Int32) else (1 : Int32))), (.long c2)]) _
    refine Go.of (fun tg_ kk_ => XS.i2l X59.here hx rfl (hb hby at_148) rfl kk_) ?_
    show Go p e below T59 (mkF m 149 #[.val (.int p0), .val (.int p1), .val (.int p2), .val (.int p3), .val (.long p4), .second, .val (.ref b1), .val (.int pp), .val (.int (1 : Int32)), .val (.int ((((p3.toUInt32 >>> ((4 : Int32) &&& 31).toUInt32).toInt32) &&& (255 : Int32)).toInt8.toInt32)), .val (.int pp), .val (.int o1), .val (.int o2), .val (.int o3), .val (.int o1), .val (.long c1), .second, .val (.long c2), .second, .unset, .unset, .unset, .unset] [(.long ((if (p2 &&& (3 : Int32)) = (3 : Int32) then (2 : Int32) else (1 : Int32)).toInt64)), (.long c2)]) _
    refine Go.of (fun tg_ kk_ => XS.ladd X59.here hx rfl (hb hby at_149) rfl kk_) ?_
    show Go p e below T59 (mkF m 150 #[.val (.int p0), .val (.int p1), .val (.int p2), .val (.int p3), .val (.long p4), .second, .val (.ref b1), .val (.int pp), .val (.int (1 : Int32)), .val (.int ((((p3.toUInt32 >>> ((4 : Int32) &&& 31).toUInt32).toInt32) &&& (255 : Int32)).toInt8.toInt32)), .val (.int pp), .val (.int o1), .val (.int o2), .val (.int o3), .val (.int o1), .val (.long c1), .second, .val (.long c2), .second, .unset, .unset, .unset, .unset] [(.long (c2 + ((if (p2 &&& (3 : Int32)) = (3 : Int32) then (2 : Int32) else (1 : Int32)).toInt64)))]) _
    obtain ⟨c3, qc3⟩ : ∃ zz_ : Int64, zz_ = (c2 + ((if (p2 &&& (3 : Int32)) = (3 : Int32) then (2 : Int32) else (1 : Int32)).toInt64)) := ⟨_, rfl⟩
    rw [← qc3]
    show Go p e below T59 (mkF m 150 #[.val (.int p0), .val (.int p1), .val (.int p2), .val (.int p3), .val (.long p4), .second, .val (.ref b1), .val (.int pp), .val (.int (1 : Int32)), .val (.int ((((p3.toUInt32 >>> ((4 : Int32) &&& 31).toUInt32).toInt32) &&& (255 : Int32)).toInt8.toInt32)), .val (.int pp), .val (.int o1), .val (.int o2), .val (.int o3), .val (.int o1), .val (.long c1), .second, .val (.long c2), .second, .unset, .unset, .unset, .unset] [(.long c3)]) _
    refine Go.of (fun tg_ kk_ => XS.lstore X59.here hx rfl (hb hby at_150) rfl (l' := #[.val (.int p0), .val (.int p1), .val (.int p2), .val (.int p3), .val (.long p4), .second, .val (.ref b1), .val (.int pp), .val (.int (1 : Int32)), .val (.int ((((p3.toUInt32 >>> ((4 : Int32) &&& 31).toUInt32).toInt32) &&& (255 : Int32)).toInt8.toInt32)), .val (.int pp), .val (.int o1), .val (.int o2), .val (.int o3), .val (.int o1), .val (.long c1), .second, .val (.long c2), .second, .val (.long c3), .second, .unset, .unset]) rfl kk_) ?_
    show Go p e below T59 (mkF m 152 #[.val (.int p0), .val (.int p1), .val (.int p2), .val (.int p3), .val (.long p4), .second, .val (.ref b1), .val (.int pp), .val (.int (1 : Int32)), .val (.int ((((p3.toUInt32 >>> ((4 : Int32) &&& 31).toUInt32).toInt32) &&& (255 : Int32)).toInt8.toInt32)), .val (.int pp), .val (.int o1), .val (.int o2), .val (.int o3), .val (.int o1), .val (.long c1), .second, .val (.long c2), .second, .val (.long c3), .second, .unset, .unset] []) _
    refine Go.of (fun tg_ kk_ => XS.iload X59.here hx rfl (hb hby at_152) rfl kk_) ?_
    show Go p e below T59 (mkF m 154 #[.val (.int p0), .val (.int p1), .val (.int p2), .val (.int p3), .val (.long p4), .second, .val (.ref b1), .val (.int pp), .val (.int (1 : Int32)), .val (.int ((((p3.toUInt32 >>> ((4 : Int32) &&& 31).toUInt32).toInt32) &&& (255 : Int32)).toInt8.toInt32)), .val (.int pp), .val (.int o1), .val (.int o2), .val (.int o3), .val (.int o1), .val (.long c1), .second, .val (.long c2), .second, .val (.long c3), .second, .unset, .unset] [(.int (1 : Int32))]) _
    refine Go.of (fun tg_ kk_ => XS.iconst X59.here hx rfl (hb hby at_154) kk_) ?_
    show Go p e below T59 (mkF m 155 #[.val (.int p0), .val (.int p1), .val (.int p2), .val (.int p3), .val (.long p4), .second, .val (.ref b1), .val (.int pp), .val (.int (1 : Int32)), .val (.int ((((p3.toUInt32 >>> ((4 : Int32) &&& 31).toUInt32).toInt32) &&& (255 : Int32)).toInt8.toInt32)), .val (.int pp), .val (.int o1), .val (.int o2), .val (.int o3), .val (.int o1), .val (.long c1), .second, .val (.long c2), .second, .val (.long c3), .second, .unset, .unset] [(.int (1 : Int32)), (.int (1 : Int32))]) _
    refine Go.of (fun tg_ kk_ => XS.icmpNo X59.here hx rfl (hb hby at_155) rfl (flt (show ¬ ((1 : Int32) < (1 : Int32)) by decide)).1 kk_) ?_
    show Go p e below T59 (mkF m 158 #[.val (.int p0), .val (.int p1), .val (.int p2), .val (.int p3), .val (.long p4), .second, .val (.ref b1), .val (.int pp), .val (.int (1 : Int32)), .val (.int ((((p3.toUInt32 >>> ((4 : Int32) &&& 31).toUInt32).toInt32) &&& (255 : Int32)).toInt8.toInt32)), .val (.int pp), .val (.int o1), .val (.int o2), .val (.int o3), .val (.int o1), .val (.long c1), .second, .val (.long c2), .second, .val (.long c3), .second, .unset, .unset] []) _
    refine Go.of (fun tg_ kk_ => XS.lload X59.here hx rfl (hb hby at_158) rfl kk_) ?_
    show Go p e below T59 (mkF m 160 #[.val (.int p0), .val (.int p1), .val (.int p2), .val (.int p3), .val (.long p4), .second, .val (.ref b1), .val (.int pp), .val (.int (1 : Int32)), .val (.int ((((p3.toUInt32 >>> ((4 : Int32) &&& 31).toUInt32).toInt32) &&& (255 : Int32)).toInt8.toInt32)), .val (.int pp), .val (.int o1), .val (.int o2), .val (.int o3), .val (.int o1), .val (.long c1), .second, .val (.long c2), .second, .val (.long c3), .second, .unset, .unset] [(.long c1)]) _
    refine Go.of (fun tg_ kk_ => XS.lload X59.here hx rfl (hb hby at_160) rfl kk_) ?_
    show Go p e below T59 (mkF m 162 #[.val (.int p0), .val (.int p1), .val (.int p2), .val (.int p3), .val (.long p4), .second, .val (.ref b1), .val (.int pp), .val (.int (1 : Int32)), .val (.int ((((p3.toUInt32 >>> ((4 : Int32) &&& 31).toUInt32).toInt32) &&& (255 : Int32)).toInt8.toInt32)), .val (.int pp), .val (.int o1), .val (.int o2), .val (.int o3), .val (.int o1), .val (.long c1), .second, .val (.long c2), .second, .val (.long c3), .second, .unset, .unset] [(.long p4), (.long c1)]) _
    refine Go.of (fun tg_ kk_ => XS.lcmp X59.here hx rfl (hb hby at_162) rfl kk_) ?_
    show Go p e below T59 (mkF m 163 #[.val (.int p0), .val (.int p1), .val (.int p2), .val (.int p3), .val (.long p4), .second, .val (.ref b1), .val (.int pp), .val (.int (1 : Int32)), .val (.int ((((p3.toUInt32 >>> ((4 : Int32) &&& 31).toUInt32).toInt32) &&& (255 : Int32)).toInt8.toInt32)), .val (.int pp), .val (.int o1), .val (.int o2), .val (.int o3), .val (.int o1), .val (.long c1), .second, .val (.long c2), .second, .val (.long c3), .second, .unset, .unset] [(.int (lcmpW c1 p4))]) _
    by_cases hc60 : p4 < c1
    · skip
      refine Go.of (fun tg_ kk_ => XS.ifNo X59.here hx rfl (hb hby at_163) rfl ((if0 _ _).trans (tlt ((lw_gt c1 p4).mpr hc60)).2.2.2) kk_) ?_
      show Go p e below T59 (mkF m 166 #[.val (.int p0), .val (.int p1), .val (.int p2), .val (.int p3), .val (.long p4), .second, .val (.ref b1), .val (.int pp), .val (.int (1 : Int32)), .val (.int ((((p3.toUInt32 >>> ((4 : Int32) &&& 31).toUInt32).toInt32) &&& (255 : Int32)).toInt8.toInt32)), .val (.int pp), .val (.int o1), .val (.int o2), .val (.int o3), .val (.int o1), .val (.long c1), .second, .val (.long c2), .second, .val (.long c3), .second, .unset, .unset] []) _
      refine Go.of (fun tg_ kk_ => XS.iload X59.here hx rfl (hb hby at_166) rfl kk_) ?_
      show Go p e below T59 (mkF m 168 #[.val (.int p0), .val (.int p1), .val (.int p2), .val (.int p3), .val (.long p4), .second, .val (.ref b1), .val (.int pp), .val (.int (1 : Int32)), .val (.int ((((p3.toUInt32 >>> ((4 : Int32) &&& 31).toUInt32).toInt32) &&& (255 : Int32)).toInt8.toInt32)), .val (.int pp), .val (.int o1), .val (.int o2), .val (.int o3), .val (.int o1), .val (.long c1), .second, .val (.long c2), .second, .val (.long c3), .second, .unset, .unset] [(.int pp)]) _
      refine Go.of (fun tg_ kk_ => XS.istore X59.here hx rfl (hb hby at_168) rfl (l' := #[.val (.int p0), .val (.int p1), .val (.int p2), .val (.int p3), .val (.long p4), .second, .val (.ref b1), .val (.int pp), .val (.int (1 : Int32)), .val (.int ((((p3.toUInt32 >>> ((4 : Int32) &&& 31).toUInt32).toInt32) &&& (255 : Int32)).toInt8.toInt32)), .val (.int pp), .val (.int o1), .val (.int o2), .val (.int o3), .val (.int o1), .val (.long c1), .second, .val (.long c2), .second, .val (.long c3), .second, .val (.int pp), .unset]) rfl kk_) ?_
      show Go p e below T59 (mkF m 170 #[.val (.int p0), .val (.int p1), .val (.int p2), .val (.int p3), .val (.long p4), .second, .val (.ref b1), .val (.int pp), .val (.int (1 : Int32)), .val (.int ((((p3.toUInt32 >>> ((4 : Int32) &&& 31).toUInt32).toInt32) &&& (255 : Int32)).toInt8.toInt32)), .val (.int pp), .val (.int o1), .val (.int o2), .val (.int o3), .val (.int o1), .val (.long c1), .second, .val (.long c2), .second, .val (.long c3), .second, .val (.int pp), .unset] []) _
      refine Go.of (fun tg_ kk_ => XS.goto X59.here hx rfl (pc0 := 170) (pc' := 219) rfl (hb hby at_170) (by decide) (by decide) kk_) ?_
      show Go p e below T59 (mkF m 219 #[.val (.int p0), .val (.int p1), .val (.int p2), .val (.int p3), .val (.long p4), .second, .val (.ref b1), .val (.int pp), .val (.int (1 : Int32)), .val (.int ((((p3.toUInt32 >>> ((4 : Int32) &&& 31).toUInt32).toInt32) &&& (255 : Int32)).toInt8.toInt32)), .val (.int pp), .val (.int o1), .val (.int o2), .val (.int o3), .val (.int o1), .val (.long c1), .second, .val (.long c2), .second, .val (.long c3), .second, .val (.int pp), .unset] []) _
      refine Go.of (fun tg_ kk_ => XS.aload X59.here hx rfl (hb hby at_219) rfl rfl kk_) ?_
      show Go p e below T59 (mkF m 221 #[.val (.int p0), .val (.int p1), .val (.int p2), .val (.int p3), .val (.long p4), .second, .val (.ref b1), .val (.int pp), .val (.int (1 : Int32)), .val (.int ((((p3.toUInt32 >>> ((4 : Int32) &&& 31).toUInt32).toInt32) &&& (255 : Int32)).toInt8.toInt32)), .val (.int pp), .val (.int o1), .val (.int o2), .val (.int o3), .val (.int o1), .val (.long c1), .second, .val (.long c2), .second, .val (.long c3), .second, .val (.int pp), .unset] [(.ref b1)]) _
      refine Go.of (fun tg_ kk_ => XS.iload X59.here hx rfl (hb hby at_221) rfl kk_) ?_
      show Go p e below T59 (mkF m 223 #[.val (.int p0), .val (.int p1), .val (.int p2), .val (.int p3), .val (.long p4), .second, .val (.ref b1), .val (.int pp), .val (.int (1 : Int32)), .val (.int ((((p3.toUInt32 >>> ((4 : Int32) &&& 31).toUInt32).toInt32) &&& (255 : Int32)).toInt8.toInt32)), .val (.int pp), .val (.int o1), .val (.int o2), .val (.int o3), .val (.int o1), .val (.long c1), .second, .val (.long c2), .second, .val (.long c3), .second, .val (.int pp), .unset] [(.int pp), (.ref b1)]) _
      refine Go.of (fun tg_ kk_ => XS.iload X59.here hx rfl (hb hby at_223) rfl kk_) ?_
      show Go p e below T59 (mkF m 225 #[.val (.int p0), .val (.int p1), .val (.int p2), .val (.int p3), .val (.long p4), .second, .val (.ref b1), .val (.int pp), .val (.int (1 : Int32)), .val (.int ((((p3.toUInt32 >>> ((4 : Int32) &&& 31).toUInt32).toInt32) &&& (255 : Int32)).toInt8.toInt32)), .val (.int pp), .val (.int o1), .val (.int o2), .val (.int o3), .val (.int o1), .val (.long c1), .second, .val (.long c2), .second, .val (.long c3), .second, .val (.int pp), .unset] [(.int o1), (.int pp), (.ref b1)]) _
      refine Go.of (fun tg_ kk_ => XS.lload X59.here hx rfl (hb hby at_225) rfl kk_) ?_
      show Go p e below T59 (mkF m 227 #[.val (.int p0), .val (.int p1), .val (.int p2), .val (.int p3), .val (.long p4), .second, .val (.ref b1), .val (.int pp), .val (.int (1 : Int32)), .val (.int ((((p3.toUInt32 >>> ((4 : Int32) &&& 31).toUInt32).toInt32) &&& (255 : Int32)).toInt8.toInt32)), .val (.int pp), .val (.int o1), .val (.int o2), .val (.int o3), .val (.int o1), .val (.long c1), .second, .val (.long c2), .second, .val (.long c3), .second, .val (.int pp), .unset] [(.long p4), (.int o1), (.int pp), (.ref b1)]) _
      obtain ⟨_, _, ⟨T61, L61, k61, n61⟩, -, X61, ⟨Lc61, hQ61, l61, y61, z61⟩, st61⟩ := Jvm.LawKit.callS X59 hx (y := (⟨"com/example/diagnostic/diagnostic/Utf8", "offsetOfUnit", "([BIIJ)I"⟩ : MethodName)) hown (mvT hZ (hw _ (List.mem_of_getElem? (i := 9) rfl))) (mvT hZ (hw _ (List.mem_of_getElem? (i := 10) rfl))) (mvT hZ (hw _ (List.mem_of_getElem? (i := 11) rfl))) (mvT hZ (hw _ (List.mem_of_getElem? (i := 12) rfl))) (by decide) (backOf (W := 0) (rm3 l Z a0 hw [] b1 pp o1 p4 g53 T53.heap n0 Zs56 V53 hb0.1 (by have := hb1; omega)) hZ (hw _ (List.mem_of_getElem? (i := 12) rfl)) (hw _ (List.mem_of_getElem? (i := 11) rfl)) (by decide) (by decide)) (g := (mkF m 227 #[.val (.int p0), .val (.int p1), .val (.int p2), .val (.int p3), .val (.long p4), .second, .val (.ref b1), .val (.int pp), .val (.int (1 : Int32)), .val (.int ((((p3.toUInt32 >>> ((4 : Int32) &&& 31).toUInt32).toInt32) &&& (255 : Int32)).toInt8.toInt32)), .val (.int pp), .val (.int o1), .val (.int o2), .val (.int o3), .val (.int o1), .val (.long c1), .second, .val (.long c2), .second, .val (.long c3), .second, .val (.int pp), .unset] [(.long p4), (.int o1), (.int pp), (.ref b1)])) rfl (by rw [hml]; rfl) (argsL := [(.ref b1), (.int pp), (.int o1), (.long p4)]) (rest := []) (lenOf pd_2 rfl) rfl (by show 2 * 0 + _ ≤ _; exact Nat.le_of_eq rfl) (hb hby at_227) (fun _ _ => ⟨rfl, e59, (by decide : 1 + 0 ≤ _), (by decide : 16 + 0 ≤ _)⟩)
      dsimp only [Pt.U, Pt.locs, Pt.cells, Pt.slots] at X61 l61 y61 z61 st61 hQ61
      subst l61 y61 z61
      obtain ⟨rfl, N61q, e61⟩ := hQ61
      have N61 := Fr.app N59 N61q
      refine Go.of (st61) ?_
      show Go p e below T61 (mkF m 230 #[.val (.int p0), .val (.int p1), .val (.int p2), .val (.int p3), .val (.long p4), .second, .val (.ref b1), .val (.int pp), .val (.int (1 : Int32)), .val (.int ((((p3.toUInt32 >>> ((4 : Int32) &&& 31).toUInt32).toInt32) &&& (255 : Int32)).toInt8.toInt32)), .val (.int pp), .val (.int o1), .val (.int o2), .val (.int o3), .val (.int o1), .val (.long c1), .second, .val (.long c2), .second, .val (.long c3), .second, .val (.int pp), .unset] [(.int (scan 16 g53 pp o1 0 p4))]) _
      refine Go.of (fun tg_ kk_ => XS.istore X61.here hx rfl (hb hby at_230) rfl (l' := #[.val (.int p0), .val (.int p1), .val (.int p2), .val (.int p3), .val (.long p4), .second, .val (.ref b1), .val (.int pp), .val (.int (1 : Int32)), .val (.int ((((p3.toUInt32 >>> ((4 : Int32) &&& 31).toUInt32).toInt32) &&& (255 : Int32)).toInt8.toInt32)), .val (.int pp), .val (.int o1), .val (.int o2), .val (.int o3), .val (.int o1), .val (.long c1), .second, .val (.long c2), .second, .val (.long c3), .second, .val (.int pp), .val (.int (scan 16 g53 pp o1 0 p4))]) rfl kk_) ?_
      show Go p e below T61 (mkF m 232 #[.val (.int p0), .val (.int p1), .val (.int p2), .val (.int p3), .val (.long p4), .second, .val (.ref b1), .val (.int pp), .val (.int (1 : Int32)), .val (.int ((((p3.toUInt32 >>> ((4 : Int32) &&& 31).toUInt32).toInt32) &&& (255 : Int32)).toInt8.toInt32)), .val (.int pp), .val (.int o1), .val (.int o2), .val (.int o3), .val (.int o1), .val (.long c1), .second, .val (.long c2), .second, .val (.long c3), .second, .val (.int pp), .val (.int (scan 16 g53 pp o1 0 p4))] []) _
      refine Go.of (fun tg_ kk_ => XS.iload X61.here hx rfl (hb hby at_232) rfl kk_) ?_
      show Go p e below T61 (mkF m 234 #[.val (.int p0), .val (.int p1), .val (.int p2), .val (.int p3), .val (.long p4), .second, .val (.ref b1), .val (.int pp), .val (.int (1 : Int32)), .val (.int ((((p3.toUInt32 >>> ((4 : Int32) &&& 31).toUInt32).toInt32) &&& (255 : Int32)).toInt8.toInt32)), .val (.int pp), .val (.int o1), .val (.int o2), .val (.int o3), .val (.int o1), .val (.long c1), .second, .val (.long c2), .second, .val (.long c3), .second, .val (.int pp), .val (.int (scan 16 g53 pp o1 0 p4))] [(.int (scan 16 g53 pp o1 0 p4))]) _
      refine Go.of (fun tg_ kk_ => XS.iload X61.here hx rfl (hb hby at_234) rfl kk_) ?_
      show Go p e below T61 (mkF m 236 #[.val (.int p0), .val (.int p1), .val (.int p2), .val (.int p3), .val (.long p4), .second, .val (.ref b1), .val (.int pp), .val (.int (1 : Int32)), .val (.int ((((p3.toUInt32 >>> ((4 : Int32) &&& 31).toUInt32).toInt32) &&& (255 : Int32)).toInt8.toInt32)), .val (.int pp), .val (.int o1), .val (.int o2), .val (.int o3), .val (.int o1), .val (.long c1), .second, .val (.long c2), .second, .val (.long c3), .second, .val (.int pp), .val (.int (scan 16 g53 pp o1 0 p4))] [(.int pp), (.int (scan 16 g53 pp o1 0 p4))]) _
      refine Go.of (fun tg_ kk_ => XS.icmpNo X61.here hx rfl (hb hby at_236) rfl (teq (show (scan 16 g53 pp o1 0 p4) = pp from (by rw [own_r1 (by omega) hl0 qo1 (own_z0 _ _ qc1), if_pos hc60]))).2 kk_) ?_
      show Go p e below T61 (mkF m 239 #[.val (.int p0), .val (.int p1), .val (.int p2), .val (.int p3), .val (.long p4), .second, .val (.ref b1), .val (.int pp), .val (.int (1 : Int32)), .val (.int ((((p3.toUInt32 >>> ((4 : Int32) &&& 31).toUInt32).toInt32) &&& (255 : Int32)).toInt8.toInt32)), .val (.int pp), .val (.int o1), .val (.int o2), .val (.int o3), .val (.int o1), .val (.long c1), .second, .val (.long c2), .second, .val (.long c3), .second, .val (.int pp), .val (.int (scan 16 g53 pp o1 0 p4))] []) _
      refine Go.of (fun tg_ kk_ => XS.iconst X61.here hx rfl (hb hby at_239) kk_) ?_
      show Go p e below T61 (mkF m 240 #[.val (.int p0), .val (.int p1), .val (.int p2), .val (.int p3), .val (.long p4), .second, .val (.ref b1), .val (.int pp), .val (.int (1 : Int32)), .val (.int ((((p3.toUInt32 >>> ((4 : Int32) &&& 31).toUInt32).toInt32) &&& (255 : Int32)).toInt8.toInt32)), .val (.int pp), .val (.int o1), .val (.int o2), .val (.int o3), .val (.int o1), .val (.long c1), .second, .val (.long c2), .second, .val (.long c3), .second, .val (.int pp), .val (.int (scan 16 g53 pp o1 0 p4))] [(.int (1 : Int32))]) _
      refine Go.of (fun tg_ kk_ => XS.goto X61.here hx rfl (pc0 := 240) (pc' := 244) rfl (hb hby at_240) (by decide) (by decide) kk_) ?_
      show Go p e below T61 (mkF m 244 #[.val (.int p0), .val (.int p1), .val (.int p2), .val (.int p3), .val (.long p4), .second, .val (.ref b1), .val (.int pp), .val (.int (1 : Int32)), .val (.int ((((p3.toUInt32 >>> ((4 : Int32) &&& 31).toUInt32).toInt32) &&& (255 : Int32)).toInt8.toInt32)), .val (.int pp), .val (.int o1), .val (.int o2), .val (.int o3), .val (.int o1), .val (.long c1), .second, .val (.long c2), .second, .val (.long c3), .second, .val (.int pp), .val (.int (scan 16 g53 pp o1 0 p4))] [(.int (1 : Int32))]) _
      obtain ⟨fs, hr, hrun, hended, hW, hsame⟩ := X61.leave (v := some (.int (1 : Int32))) (fun h => by rw [Bd.returns] at h; cases h)
      refine ⟨_, _, ?_, hrun, hended, _, _, rfl, ?_, ⟨_, rfl⟩, hW, hsame.mono (by decide) (by decide)⟩
      · exact retN X61 hx (t := .boolean) Bd.returns (by simp) (hb hby at_244) hr
      · show Q0 Z p0 p1 p2 p3 p4 h0 n0 _ T61.heap _
        rw [e61]
        exact ⟨rfl, N61⟩
    · skip
      refine Go.of (fun tg_ kk_ => XS.ifYes X59.here hx rfl (pc0 := 163) (pc' := 173) rfl (hb hby at_163) rfl ((if0 _ _).trans (flt (fun q => hc60 ((lw_gt c1 p4).mp q))).2.2.2) (by decide) (by decide) kk_) ?_
      show Go p e below T59 (mkF m 173 #[.val (.int p0), .val (.int p1), .val (.int p2), .val (.int p3), .val (.long p4), .second, .val (.ref b1), .val (.int pp), .val (.int (1 : Int32)), .val (.int ((((p3.toUInt32 >>> ((4 : Int32) &&& 31).toUInt32).toInt32) &&& (255 : Int32)).toInt8.toInt32)), .val (.int pp), .val (.int o1), .val (.int o2), .val (.int o3), .val (.int o1), .val (.long c1), .second, .val (.long c2), .second, .val (.long c3), .second, .unset, .unset] []) _
      refine Go.of (fun tg_ kk_ => XS.iload X59.here hx rfl (hb hby at_173) rfl kk_) ?_
      show Go p e below T59 (mkF m 175 #[.val (.int p0), .val (.int p1), .val (.int p2), .val (.int p3), .val (.long p4), .second, .val (.ref b1), .val (.int pp), .val (.int (1 : Int32)), .val (.int ((((p3.toUInt32 >>> ((4 : Int32) &&& 31).toUInt32).toInt32) &&& (255 : Int32)).toInt8.toInt32)), .val (.int pp), .val (.int o1), .val (.int o2), .val (.int o3), .val (.int o1), .val (.long c1), .second, .val (.long c2), .second, .val (.long c3), .second, .unset, .unset] [(.int (1 : Int32))]) _
      refine Go.of (fun tg_ kk_ => XS.iconst X59.here hx rfl (hb hby at_175) kk_) ?_
      show Go p e below T59 (mkF m 176 #[.val (.int p0), .val (.int p1), .val (.int p2), .val (.int p3), .val (.long p4), .second, .val (.ref b1), .val (.int pp), .val (.int (1 : Int32)), .val (.int ((((p3.toUInt32 >>> ((4 : Int32) &&& 31).toUInt32).toInt32) &&& (255 : Int32)).toInt8.toInt32)), .val (.int pp), .val (.int o1), .val (.int o2), .val (.int o3), .val (.int o1), .val (.long c1), .second, .val (.long c2), .second, .val (.long c3), .second, .unset, .unset] [(.int (2 : Int32)), (.int (1 : Int32))]) _
      refine Go.of (fun tg_ kk_ => XS.icmpYes X59.here hx rfl (pc0 := 176) (pc' := 194) rfl (hb hby at_176) rfl (tlt (show (1 : Int32) < (2 : Int32) by decide)).1 (by decide) (by decide) kk_) ?_
      show Go p e below T59 (mkF m 194 #[.val (.int p0), .val (.int p1), .val (.int p2), .val (.int p3), .val (.long p4), .second, .val (.ref b1), .val (.int pp), .val (.int (1 : Int32)), .val (.int ((((p3.toUInt32 >>> ((4 : Int32) &&& 31).toUInt32).toInt32) &&& (255 : Int32)).toInt8.toInt32)), .val (.int pp), .val (.int o1), .val (.int o2), .val (.int o3), .val (.int o1), .val (.long c1), .second, .val (.long c2), .second, .val (.long c3), .second, .unset, .unset] []) _
      refine Go.of (fun tg_ kk_ => XS.iload X59.here hx rfl (hb hby at_194) rfl kk_) ?_
      show Go p e below T59 (mkF m 196 #[.val (.int p0), .val (.int p1), .val (.int p2), .val (.int p3), .val (.long p4), .second, .val (.ref b1), .val (.int pp), .val (.int (1 : Int32)), .val (.int ((((p3.toUInt32 >>> ((4 : Int32) &&& 31).toUInt32).toInt32) &&& (255 : Int32)).toInt8.toInt32)), .val (.int pp), .val (.int o1), .val (.int o2), .val (.int o3), .val (.int o1), .val (.long c1), .second, .val (.long c2), .second, .val (.long c3), .second, .unset, .unset] [(.int (1 : Int32))]) _
      refine Go.of (fun tg_ kk_ => XS.iconst X59.here hx rfl (hb hby at_196) kk_) ?_
      show Go p e below T59 (mkF m 197 #[.val (.int p0), .val (.int p1), .val (.int p2), .val (.int p3), .val (.long p4), .second, .val (.ref b1), .val (.int pp), .val (.int (1 : Int32)), .val (.int ((((p3.toUInt32 >>> ((4 : Int32) &&& 31).toUInt32).toInt32) &&& (255 : Int32)).toInt8.toInt32)), .val (.int pp), .val (.int o1), .val (.int o2), .val (.int o3), .val (.int o1), .val (.long c1), .second, .val (.long c2), .second, .val (.long c3), .second, .unset, .unset] [(.int (3 : Int32)), (.int (1 : Int32))]) _
      refine Go.of (fun tg_ kk_ => XS.icmpYes X59.here hx rfl (pc0 := 197) (pc' := 215) rfl (hb hby at_197) rfl (tlt (show (1 : Int32) < (3 : Int32) by decide)).1 (by decide) (by decide) kk_) ?_
      show Go p e below T59 (mkF m 215 #[.val (.int p0), .val (.int p1), .val (.int p2), .val (.int p3), .val (.long p4), .second, .val (.ref b1), .val (.int pp), .val (.int (1 : Int32)), .val (.int ((((p3.toUInt32 >>> ((4 : Int32) &&& 31).toUInt32).toInt32) &&& (255 : Int32)).toInt8.toInt32)), .val (.int pp), .val (.int o1), .val (.int o2), .val (.int o3), .val (.int o1), .val (.long c1), .second, .val (.long c2), .second, .val (.long c3), .second, .unset, .unset] []) _
      refine Go.of (fun tg_ kk_ => XS.iload X59.here hx rfl (hb hby at_215) rfl kk_) ?_
      show Go p e below T59 (mkF m 217 #[.val (.int p0), .val (.int p1), .val (.int p2), .val (.int p3), .val (.long p4), .second, .val (.ref b1), .val (.int pp), .val (.int (1 : Int32)), .val (.int ((((p3.toUInt32 >>> ((4 : Int32) &&& 31).toUInt32).toInt32) &&& (255 : Int32)).toInt8.toInt32)), .val (.int pp), .val (.int o1), .val (.int o2), .val (.int o3), .val (.int o1), .val (.long c1), .second, .val (.long c2), .second, .val (.long c3), .second, .unset, .unset] [(.int o1)]) _
      refine Go.of (fun tg_ kk_ => XS.istore X59.here hx rfl (hb hby at_217) rfl (l' := #[.val (.int p0), .val (.int p1), .val (.int p2), .val (.int p3), .val (.long p4), .second, .val (.ref b1), .val (.int pp), .val (.int (1 : Int32)), .val (.int ((((p3.toUInt32 >>> ((4 : Int32) &&& 31).toUInt32).toInt32) &&& (255 : Int32)).toInt8.toInt32)), .val (.int pp), .val (.int o1), .val (.int o2), .val (.int o3), .val (.int o1), .val (.long c1), .second, .val (.long c2), .second, .val (.long c3), .second, .val (.int o1), .unset]) rfl kk_) ?_
      show Go p e below T59 (mkF m 219 #[.val (.int p0), .val (.int p1), .val (.int p2), .val (.int p3), .val (.long p4), .second, .val (.ref b1), .val (.int pp), .val (.int (1 : Int32)), .val (.int ((((p3.toUInt32 >>> ((4 : Int32) &&& 31).toUInt32).toInt32) &&& (255 : Int32)).toInt8.toInt32)), .val (.int pp), .val (.int o1), .val (.int o2), .val (.int o3), .val (.int o1), .val (.long c1), .second, .val (.long c2), .second, .val (.long c3), .second, .val (.int o1), .unset] []) _
      refine Go.of (fun tg_ kk_ => XS.aload X59.here hx rfl (hb hby at_219) rfl rfl kk_) ?_
      show Go p e below T59 (mkF m 221 #[.val (.int p0), .val (.int p1), .val (.int p2), .val (.int p3), .val (.long p4), .second, .val (.ref b1), .val (.int pp), .val (.int (1 : Int32)), .val (.int ((((p3.toUInt32 >>> ((4 : Int32) &&& 31).toUInt32).toInt32) &&& (255 : Int32)).toInt8.toInt32)), .val (.int pp), .val (.int o1), .val (.int o2), .val (.int o3), .val (.int o1), .val (.long c1), .second, .val (.long c2), .second, .val (.long c3), .second, .val (.int o1), .unset] [(.ref b1)]) _
      refine Go.of (fun tg_ kk_ => XS.iload X59.here hx rfl (hb hby at_221) rfl kk_) ?_
      show Go p e below T59 (mkF m 223 #[.val (.int p0), .val (.int p1), .val (.int p2), .val (.int p3), .val (.long p4), .second, .val (.ref b1), .val (.int pp), .val (.int (1 : Int32)), .val (.int ((((p3.toUInt32 >>> ((4 : Int32) &&& 31).toUInt32).toInt32) &&& (255 : Int32)).toInt8.toInt32)), .val (.int pp), .val (.int o1), .val (.int o2), .val (.int o3), .val (.int o1), .val (.long c1), .second, .val (.long c2), .second, .val (.long c3), .second, .val (.int o1), .unset] [(.int pp), (.ref b1)]) _
      refine Go.of (fun tg_ kk_ => XS.iload X59.here hx rfl (hb hby at_223) rfl kk_) ?_
      show Go p e below T59 (mkF m 225 #[.val (.int p0), .val (.int p1), .val (.int p2), .val (.int p3), .val (.long p4), .second, .val (.ref b1), .val (.int pp), .val (.int (1 : Int32)), .val (.int ((((p3.toUInt32 >>> ((4 : Int32) &&& 31).toUInt32).toInt32) &&& (255 : Int32)).toInt8.toInt32)), .val (.int pp), .val (.int o1), .val (.int o2), .val (.int o3), .val (.int o1), .val (.long c1), .second, .val (.long c2), .second, .val (.long c3), .second, .val (.int o1), .unset] [(.int o1), (.int pp), (.ref b1)]) _
      refine Go.of (fun tg_ kk_ => XS.lload X59.here hx rfl (hb hby at_225) rfl kk_) ?_
      show Go p e below T59 (mkF m 227 #[.val (.int p0), .val (.int p1), .val (.int p2), .val (.int p3), .val (.long p4), .second, .val (.ref b1), .val (.int pp), .val (.int (1 : Int32)), .val (.int ((((p3.toUInt32 >>> ((4 : Int32) &&& 31).toUInt32).toInt32) &&& (255 : Int32)).toInt8.toInt32)), .val (.int pp), .val (.int o1), .val (.int o2), .val (.int o3), .val (.int o1), .val (.long c1), .second, .val (.long c2), .second, .val (.long c3), .second, .val (.int o1), .unset] [(.long p4), (.int o1), (.int pp), (.ref b1)]) _
      obtain ⟨_, _, ⟨T62, L62, k62, n62⟩, -, X62, ⟨Lc62, hQ62, l62, y62, z62⟩, st62⟩ := Jvm.LawKit.callS X59 hx (y := (⟨"com/example/diagnostic/diagnostic/Utf8", "offsetOfUnit", "([BIIJ)I"⟩ : MethodName)) hown (mvT hZ (hw _ (List.mem_of_getElem? (i := 9) rfl))) (mvT hZ (hw _ (List.mem_of_getElem? (i := 10) rfl))) (mvT hZ (hw _ (List.mem_of_getElem? (i := 11) rfl))) (mvT hZ (hw _ (List.mem_of_getElem? (i := 12) rfl))) (by decide) (backOf (W := 0) (rm3 l Z a0 hw [] b1 pp o1 p4 g53 T53.heap n0 Zs56 V53 hb0.1 (by have := hb1; omega)) hZ (hw _ (List.mem_of_getElem? (i := 12) rfl)) (hw _ (List.mem_of_getElem? (i := 11) rfl)) (by decide) (by decide)) (g := (mkF m 227 #[.val (.int p0), .val (.int p1), .val (.int p2), .val (.int p3), .val (.long p4), .second, .val (.ref b1), .val (.int pp), .val (.int (1 : Int32)), .val (.int ((((p3.toUInt32 >>> ((4 : Int32) &&& 31).toUInt32).toInt32) &&& (255 : Int32)).toInt8.toInt32)), .val (.int pp), .val (.int o1), .val (.int o2), .val (.int o3), .val (.int o1), .val (.long c1), .second, .val (.long c2), .second, .val (.long c3), .second, .val (.int o1), .unset] [(.long p4), (.int o1), (.int pp), (.ref b1)])) rfl (by rw [hml]; rfl) (argsL := [(.ref b1), (.int pp), (.int o1), (.long p4)]) (rest := []) (lenOf pd_2 rfl) rfl (by show 2 * 0 + _ ≤ _; exact Nat.le_of_eq rfl) (hb hby at_227) (fun _ _ => ⟨rfl, e59, (by decide : 1 + 0 ≤ _), (by decide : 16 + 0 ≤ _)⟩)
      dsimp only [Pt.U, Pt.locs, Pt.cells, Pt.slots] at X62 l62 y62 z62 st62 hQ62
      subst l62 y62 z62
      obtain ⟨rfl, N62q, e62⟩ := hQ62
      have N62 := Fr.app N59 N62q
      refine Go.of (st62) ?_
      show Go p e below T62 (mkF m 230 #[.val (.int p0), .val (.int p1), .val (.int p2), .val (.int p3), .val (.long p4), .second, .val (.ref b1), .val (.int pp), .val (.int (1 : Int32)), .val (.int ((((p3.toUInt32 >>> ((4 : Int32) &&& 31).toUInt32).toInt32) &&& (255 : Int32)).toInt8.toInt32)), .val (.int pp), .val (.int o1), .val (.int o2), .val (.int o3), .val (.int o1), .val (.long c1), .second, .val (.long c2), .second, .val (.long c3), .second, .val (.int o1), .unset] [(.int (scan 16 g53 pp o1 0 p4))]) _
      refine Go.of (fun tg_ kk_ => XS.istore X62.here hx rfl (hb hby at_230) rfl (l' := #[.val (.int p0), .val (.int p1), .val (.int p2), .val (.int p3), .val (.long p4), .second, .val (.ref b1), .val (.int pp), .val (.int (1 : Int32)), .val (.int ((((p3.toUInt32 >>> ((4 : Int32) &&& 31).toUInt32).toInt32) &&& (255 : Int32)).toInt8.toInt32)), .val (.int pp), .val (.int o1), .val (.int o2), .val (.int o3), .val (.int o1), .val (.long c1), .second, .val (.long c2), .second, .val (.long c3), .second, .val (.int o1), .val (.int (scan 16 g53 pp o1 0 p4))]) rfl kk_) ?_
      show Go p e below T62 (mkF m 232 #[.val (.int p0), .val (.int p1), .val (.int p2), .val (.int p3), .val (.long p4), .second, .val (.ref b1), .val (.int pp), .val (.int (1 : Int32)), .val (.int ((((p3.toUInt32 >>> ((4 : Int32) &&& 31).toUInt32).toInt32) &&& (255 : Int32)).toInt8.toInt32)), .val (.int pp), .val (.int o1), .val (.int o2), .val (.int o3), .val (.int o1), .val (.long c1), .second, .val (.long c2), .second, .val (.long c3), .second, .val (.int o1), .val (.int (scan 16 g53 pp o1 0 p4))] []) _
      refine Go.of (fun tg_ kk_ => XS.iload X62.here hx rfl (hb hby at_232) rfl kk_) ?_
      show Go p e below T62 (mkF m 234 #[.val (.int p0), .val (.int p1), .val (.int p2), .val (.int p3), .val (.long p4), .second, .val (.ref b1), .val (.int pp), .val (.int (1 : Int32)), .val (.int ((((p3.toUInt32 >>> ((4 : Int32) &&& 31).toUInt32).toInt32) &&& (255 : Int32)).toInt8.toInt32)), .val (.int pp), .val (.int o1), .val (.int o2), .val (.int o3), .val (.int o1), .val (.long c1), .second, .val (.long c2), .second, .val (.long c3), .second, .val (.int o1), .val (.int (scan 16 g53 pp o1 0 p4))] [(.int (scan 16 g53 pp o1 0 p4))]) _
      refine Go.of (fun tg_ kk_ => XS.iload X62.here hx rfl (hb hby at_234) rfl kk_) ?_
      show Go p e below T62 (mkF m 236 #[.val (.int p0), .val (.int p1), .val (.int p2), .val (.int p3), .val (.long p4), .second, .val (.ref b1), .val (.int pp), .val (.int (1 : Int32)), .val (.int ((((p3.toUInt32 >>> ((4 : Int32) &&& 31).toUInt32).toInt32) &&& (255 : Int32)).toInt8.toInt32)), .val (.int pp), .val (.int o1), .val (.int o2), .val (.int o3), .val (.int o1), .val (.long c1), .second, .val (.long c2), .second, .val (.long c3), .second, .val (.int o1), .val (.int (scan 16 g53 pp o1 0 p4))] [(.int o1), (.int (scan 16 g53 pp o1 0 p4))]) _
      refine Go.of (fun tg_ kk_ => XS.icmpNo X62.here hx rfl (hb hby at_236) rfl (teq (show (scan 16 g53 pp o1 0 p4) = o1 from (by rw [own_r1 (by omega) hl0 qo1 (own_z0 _ _ qc1), if_neg hc60, own_r0]))).2 kk_) ?_
      show Go p e below T62 (mkF m 239 #[.val (.int p0), .val (.int p1), .val (.int p2), .val (.int p3), .val (.long p4), .second, .val (.ref b1), .val (.int pp), .val (.int (1 : Int32)), .val (.int ((((p3.toUInt32 >>> ((4 : Int32) &&& 31).toUInt32).toInt32) &&& (255 : Int32)).toInt8.toInt32)), .val (.int pp), .val (.int o1), .val (.int o2), .val (.int o3), .val (.int o1), .val (.long c1), .second, .val (.long c2), .second, .val (.long c3), .second, .val (.int o1), .val (.int (scan 16 g53 pp o1 0 p4))] []) _
      refine Go.of (fun tg_ kk_ => XS.iconst X62.here hx rfl (hb hby at_239) kk_) ?_
      show Go p e below T62 (mkF m 240 #[.val (.int p0), .val (.int p1), .val (.int p2), .val (.int p3), .val (.long p4), .second, .val (.ref b1), .val (.int pp), .val (.int (1 : Int32)), .val (.int ((((p3.toUInt32 >>> ((4 : Int32) &&& 31).toUInt32).toInt32) &&& (255 : Int32)).toInt8.toInt32)), .val (.int pp), .val (.int o1), .val (.int o2), .val (.int o3), .val (.int o1), .val (.long c1), .second, .val (.long c2), .second, .val (.long c3), .second, .val (.int o1), .val (.int (scan 16 g53 pp o1 0 p4))] [(.int (1 : Int32))]) _
      refine Go.of (fun tg_ kk_ => XS.goto X62.here hx rfl (pc0 := 240) (pc' := 244) rfl (hb hby at_240) (by decide) (by decide) kk_) ?_
      show Go p e below T62 (mkF m 244 #[.val (.int p0), .val (.int p1), .val (.int p2), .val (.int p3), .val (.long p4), .second, .val (.ref b1), .val (.int pp), .val (.int (1 : Int32)), .val (.int ((((p3.toUInt32 >>> ((4 : Int32) &&& 31).toUInt32).toInt32) &&& (255 : Int32)).toInt8.toInt32)), .val (.int pp), .val (.int o1), .val (.int o2), .val (.int o3), .val (.int o1), .val (.long c1), .second, .val (.long c2), .second, .val (.long c3), .second, .val (.int o1), .val (.int (scan 16 g53 pp o1 0 p4))] [(.int (1 : Int32))]) _
      obtain ⟨fs, hr, hrun, hended, hW, hsame⟩ := X62.leave (v := some (.int (1 : Int32))) (fun h => by rw [Bd.returns] at h; cases h)
      refine ⟨_, _, ?_, hrun, hended, _, _, rfl, ?_, ⟨_, rfl⟩, hW, hsame.mono (by decide) (by decide)⟩
      · exact retN X62 hx (t := .boolean) Bd.returns (by simp) (hb hby at_244) hr
      · show Q0 Z p0 p1 p2 p3 p4 h0 n0 _ T62.heap _
        rw [e62]
        exact ⟨rfl, N62⟩
  · subst hs4
    show Go p e below T1 (mkF m 16 #[.val (.int p0), .val (.int p1), .val (.int p2), .val (.int p3), .val (.long p4), .second, .val (.ref b1), .val (.int pp), .unset, .unset, .unset, .unset, .unset, .unset, .unset, .unset, .unset, .unset, .unset, .unset, .unset, .unset, .unset] [(.int (2 : Int32))]) _
    refine Go.of (fun tg_ kk_ => XS.istore X1.here hx rfl (hb hby at_16) rfl (l' := #[.val (.int p0), .val (.int p1), .val (.int p2), .val (.int p3), .val (.long p4), .second, .val (.ref b1), .val (.int pp), .val (.int (2 : Int32)), .unset, .unset, .unset, .unset, .unset, .unset, .unset, .unset, .unset, .unset, .unset, .unset, .unset, .unset]) rfl kk_) ?_
    show Go p e below T1 (mkF m 18 #[.val (.int p0), .val (.int p1), .val (.int p2), .val (.int p3), .val (.long p4), .second, .val (.ref b1), .val (.int pp), .val (.int (2 : Int32)), .unset, .unset, .unset, .unset, .unset, .unset, .unset, .unset, .unset, .unset, .unset, .unset, .unset, .unset] []) _
    refine Go.of (fun tg_ kk_ => XS.iloadN X1.here hx rfl (hb hby at_18) rfl kk_) ?_
    show Go p e below T1 (mkF m 19 #[.val (.int p0), .val (.int p1), .val (.int p2), .val (.int p3), .val (.long p4), .second, .val (.ref b1), .val (.int pp), .val (.int (2 : Int32)), .unset, .unset, .unset, .unset, .unset, .unset, .unset, .unset, .unset, .unset, .unset, .unset, .unset, .unset] [(.int p3)]) _
    refine Go.of (fun tg_ kk_ => XS.iconst X1.here hx rfl (hb hby at_19) kk_) ?_
    show Go p e below T1 (mkF m 20 #[.val (.int p0), .val (.int p1), .val (.int p2), .val (.int p3), .val (.long p4), .second, .val (.ref b1), .val (.int pp), .val (.int (2 : Int32)), .unset, .unset, .unset, .unset, .unset, .unset, .unset, .unset, .unset, .unset, .unset, .unset, .unset, .unset] [(.int (4 : Int32)), (.int p3)]) _
    refine Go.of (fun tg_ kk_ => XS.iushr X1.here hx rfl (hb hby at_20) rfl kk_) ?_
    show Go p e below T1 (mkF m 21 #[.val (.int p0), .val (.int p1), .val (.int p2), .val (.int p3), .val (.long p4), .second, .val (.ref b1), .val (.int pp), .val (.int (2 : Int32)), .unset, .unset, .unset, .unset, .unset, .unset, .unset, .unset, .unset, .unset, .unset, .unset, .unset, .unset] [(.int ((p3.toUInt32 >>> ((4 : Int32) &&& 31).toUInt32).toInt32))]) _
    refine Go.of (fun tg_ kk_ => XS.sipush X1.here hx rfl (hb hby at_21) kk_) ?_
    show Go p e below T1 (mkF m 24 #[.val (.int p0), .val (.int p1), .val (.int p2), .val (.int p3), .val (.long p4), .second, .val (.ref b1), .val (.int pp), .val (.int (2 : Int32)), .unset, .unset, .unset, .unset, .unset, .unset, .unset, .unset, .unset, .unset, .unset, .unset, .unset, .unset] [(.int (255 : Int32)), (.int ((p3.toUInt32 >>> ((4 : Int32) &&& 31).toUInt32).toInt32))]) _
    refine Go.of (fun tg_ kk_ => XS.iand X1.here hx rfl (hb hby at_24) rfl kk_) ?_
    show Go p e below T1 (mkF m 25 #[.val (.int p0), .val (.int p1), .val (.int p2), .val (.int p3), .val (.long p4), .second, .val (.ref b1), .val (.int pp), .val (.int (2 : Int32)), .unset, .unset, .unset, .unset, .unset, .unset, .unset, .unset, .unset, .unset, .unset, .unset, .unset, .unset] [(.int (((p3.toUInt32 >>> ((4 : Int32) &&& 31).toUInt32).toInt32) &&& (255 : Int32)))]) _
    refine Go.of (fun tg_ kk_ => XS.i2b X1.here hx rfl (hb hby at_25) rfl kk_) ?_
    show Go p e below T1 (mkF m 26 #[.val (.int p0), .val (.int p1), .val (.int p2), .val (.int p3), .val (.long p4), .second, .val (.ref b1), .val (.int pp), .val (.int (2 : Int32)), .unset, .unset, .unset, .unset, .unset, .unset, .unset, .unset, .unset, .unset, .unset, .unset, .unset, .unset] [(.int ((((p3.toUInt32 >>> ((4 : Int32) &&& 31).toUInt32).toInt32) &&& (255 : Int32)).toInt8.toInt32))]) _
    refine Go.of (fun tg_ kk_ => XS.istore X1.here hx rfl (hb hby at_26) rfl (l' := #[.val (.int p0), .val (.int p1), .val (.int p2), .val (.int p3), .val (.long p4), .second, .val (.ref b1), .val (.int pp), .val (.int (2 : Int32)), .val (.int ((((p3.toUInt32 >>> ((4 : Int32) &&& 31).toUInt32).toInt32) &&& (255 : Int32)).toInt8.toInt32)), .unset, .unset, .unset, .unset, .unset, .unset, .unset, .unset, .unset, .unset, .unset, .unset, .unset]) rfl kk_) ?_
    show Go p e below T1 (mkF m 28 #[.val (.int p0), .val (.int p1), .val (.int p2), .val (.int p3), .val (.long p4), .second, .val (.ref b1), .val (.int pp), .val (.int (2 : Int32)), .val (.int ((((p3.toUInt32 >>> ((4 : Int32) &&& 31).toUInt32).toInt32) &&& (255 : Int32)).toInt8.toInt32)), .unset, .unset, .unset, .unset, .unset, .unset, .unset, .unset, .unset, .unset, .unset, .unset, .unset] []) _
    refine Go.of (fun tg_ kk_ => XS.aload X1.here hx rfl (hb hby at_28) rfl rfl kk_) ?_
    show Go p e below T1 (mkF m 30 #[.val (.int p0), .val (.int p1), .val (.int p2), .val (.int p3), .val (.long p4), .second, .val (.ref b1), .val (.int pp), .val (.int (2 : Int32)), .val (.int ((((p3.toUInt32 >>> ((4 : Int32) &&& 31).toUInt32).toInt32) &&& (255 : Int32)).toInt8.toInt32)), .unset, .unset, .unset, .unset, .unset, .unset, .unset, .unset, .unset, .unset, .unset, .unset, .unset] [(.ref b1)]) _
    refine Go.of (fun tg_ kk_ => XS.iconst X1.here hx rfl (hb hby at_30) kk_) ?_
    show Go p e below T1 (mkF m 31 #[.val (.int p0), .val (.int p1), .val (.int p2), .val (.int p3), .val (.long p4), .second, .val (.ref b1), .val (.int pp), .val (.int (2 : Int32)), .val (.int ((((p3.toUInt32 >>> ((4 : Int32) &&& 31).toUInt32).toInt32) &&& (255 : Int32)).toInt8.toInt32)), .unset, .unset, .unset, .unset, .unset, .unset, .unset, .unset, .unset, .unset, .unset, .unset, .unset] [(.int (0 : Int32)), (.ref b1)]) _
    refine Go.of (fun tg_ kk_ => XS.iload X1.here hx rfl (hb hby at_31) rfl kk_) ?_
    show Go p e below T1 (mkF m 33 #[.val (.int p0), .val (.int p1), .val (.int p2), .val (.int p3), .val (.long p4), .second, .val (.ref b1), .val (.int pp), .val (.int (2 : Int32)), .val (.int ((((p3.toUInt32 >>> ((4 : Int32) &&& 31).toUInt32).toInt32) &&& (255 : Int32)).toInt8.toInt32)), .unset, .unset, .unset, .unset, .unset, .unset, .unset, .unset, .unset, .unset, .unset, .unset, .unset] [(.int ((((p3.toUInt32 >>> ((4 : Int32) &&& 31).toUInt32).toInt32) &&& (255 : Int32)).toInt8.toInt32)), (.int (0 : Int32)), (.ref b1)]) _
    have ib63 := (show ¬ ((0 : Int32) < 0) ∧ ((0 : Int32)).toNatClampNeg < 16 from ⟨by decide, by decide⟩)
    obtain ⟨cl63, Ar63, S63, H63⟩ := V1
    obtain ⟨T63, h63, X63, e63, W63, st63⟩ := stB X1 hx hZ e1 Ar63 (j := (0 : Int32)) (Af.inb S63 ib63) (g := (mkF m 33 #[.val (.int p0), .val (.int p1), .val (.int p2), .val (.int p3), .val (.long p4), .second, .val (.ref b1), .val (.int pp), .val (.int (2 : Int32)), .val (.int ((((p3.toUInt32 >>> ((4 : Int32) &&& 31).toUInt32).toInt32) &&& (255 : Int32)).toInt8.toInt32)), .unset, .unset, .unset, .unset, .unset, .unset, .unset, .unset, .unset, .unset, .unset, .unset, .unset] [(.int ((((p3.toUInt32 >>> ((4 : Int32) &&& 31).toUInt32).toInt32) &&& (255 : Int32)).toInt8.toInt32)), (.int (0 : Int32)), (.ref b1)])) rfl rfl (hb hby at_33)
    obtain ⟨f63, qf63⟩ : ∃ qq_ : Nat → Int32, qq_ = upd (fun _ => 0) 0 (nar .byte ((((p3.toUInt32 >>> ((4 : Int32) &&& 31).toUInt32).toInt32) &&& (255 : Int32)).toInt8.toInt32)) := ⟨_, rfl⟩
    have V63 : Af Z h63 b1 .byte 16 f63 := by rw [qf63]; exact Af.set Ar63 S63 H63 W63 (by decide)
    have K65 := K2.wr W63 (Or.inr sz1)
    have Zs66 : n0 ≤ h63.size := Nat.le_trans Zs3 (Keep.of_wr W63).1
    have N63 := Fr.snoc X63 N0 gx1
    refine Go.of (st63) ?_
    show Go p e below T63 (mkF m 34 #[.val (.int p0), .val (.int p1), .val (.int p2), .val (.int p3), .val (.long p4), .second, .val (.ref b1), .val (.int pp), .val (.int (2 : Int32)), .val (.int ((((p3.toUInt32 >>> ((4 : Int32) &&& 31).toUInt32).toInt32) &&& (255 : Int32)).toInt8.toInt32)), .unset, .unset, .unset, .unset, .unset, .unset, .unset, .unset, .unset, .unset, .unset, .unset, .unset] []) _
    refine Go.of (fun tg_ kk_ => XS.aload X63.here hx rfl (hb hby at_34) rfl rfl kk_) ?_
    show Go p e below T63 (mkF m 36 #[.val (.int p0), .val (.int p1), .val (.int p2), .val (.int p3), .val (.long p4), .second, .val (.ref b1), .val (.int pp), .val (.int (2 : Int32)), .val (.int ((((p3.toUInt32 >>> ((4 : Int32) &&& 31).toUInt32).toInt32) &&& (255 : Int32)).toInt8.toInt32)), .unset, .unset, .unset, .unset, .unset, .unset, .unset, .unset, .unset, .unset, .unset, .unset, .unset] [(.ref b1)]) _
    refine Go.of (fun tg_ kk_ => XS.iconst X63.here hx rfl (hb hby at_36) kk_) ?_
    show Go p e below T63 (mkF m 37 #[.val (.int p0), .val (.int p1), .val (.int p2), .val (.int p3), .val (.long p4), .second, .val (.ref b1), .val (.int pp), .val (.int (2 : Int32)), .val (.int ((((p3.toUInt32 >>> ((4 : Int32) &&& 31).toUInt32).toInt32) &&& (255 : Int32)).toInt8.toInt32)), .unset, .unset, .unset, .unset, .unset, .unset, .unset, .unset, .unset, .unset, .unset, .unset, .unset] [(.int (1 : Int32)), (.ref b1)]) _
    refine Go.of (fun tg_ kk_ => XS.iload X63.here hx rfl (hb hby at_37) rfl kk_) ?_
    show Go p e below T63 (mkF m 39 #[.val (.int p0), .val (.int p1), .val (.int p2), .val (.int p3), .val (.long p4), .second, .val (.ref b1), .val (.int pp), .val (.int (2 : Int32)), .val (.int ((((p3.toUInt32 >>> ((4 : Int32) &&& 31).toUInt32).toInt32) &&& (255 : Int32)).toInt8.toInt32)), .unset, .unset, .unset, .unset, .unset, .unset, .unset, .unset, .unset, .unset, .unset, .unset, .unset] [(.int ((((p3.toUInt32 >>> ((4 : Int32) &&& 31).toUInt32).toInt32) &&& (255 : Int32)).toInt8.toInt32)), (.int (1 : Int32)), (.ref b1)]) _
    have ib67 := (show ¬ ((1 : Int32) < 0) ∧ ((1 : Int32)).toNatClampNeg < 16 from ⟨by decide, by decide⟩)
    obtain ⟨cl67, Ar67, S67, H67⟩ := V63
    obtain ⟨T67, h67, X67, e67, W67, st67⟩ := stB X63 hx hZ e63 Ar67 (j := (1 : Int32)) (Af.inb S67 ib67) (g := (mkF m 39 #[.val (.int p0), .val (.int p1), .val (.int p2), .val (.int p3), .val (.long p4), .second, .val (.ref b1), .val (.int pp), .val (.int (2 : Int32)), .val (.int ((((p3.toUInt32 >>> ((4 : Int32) &&& 31).toUInt32).toInt32) &&& (255 : Int32)).toInt8.toInt32)), .unset, .unset, .unset, .unset, .unset, .unset, .unset, .unset, .unset, .unset, .unset, .unset, .unset] [(.int ((((p3.toUInt32 >>> ((4 : Int32) &&& 31).toUInt32).toInt32) &&& (255 : Int32)).toInt8.toInt32)), (.int (1 : Int32)), (.ref b1)])) rfl rfl (hb hby at_39)
    obtain ⟨f67, qf67⟩ : ∃ qq_ : Nat → Int32, qq_ = upd f63 1 (nar .byte ((((p3.toUInt32 >>> ((4 : Int32) &&& 31).toUInt32).toInt32) &&& (255 : Int32)).toInt8.toInt32)) := ⟨_, rfl⟩
    have V67 : Af Z h67 b1 .byte 16 f67 := by rw [qf67]; exact Af.set Ar67 S67 H67 W67 (by decide)
    have K69 := K65.wr W67 (Or.inr sz1)
    have Zs70 : n0 ≤ h67.size := Nat.le_trans Zs66 (Keep.of_wr W67).1
    have N67 := Fr.snoc X67 N63 gx1
    refine Go.of (st67) ?_
    show Go p e below T67 (mkF m 40 #[.val (.int p0), .val (.int p1), .val (.int p2), .val (.int p3), .val (.long p4), .second, .val (.ref b1), .val (.int pp), .val (.int (2 : Int32)), .val (.int ((((p3.toUInt32 >>> ((4 : Int32) &&& 31).toUInt32).toInt32) &&& (255 : Int32)).toInt8.toInt32)), .unset, .unset, .unset, .unset, .unset, .unset, .unset, .unset, .unset, .unset, .unset, .unset, .unset] []) _
    refine Go.of (fun tg_ kk_ => XS.aload X67.here hx rfl (hb hby at_40) rfl rfl kk_) ?_
    show Go p e below T67 (mkF m 42 #[.val (.int p0), .val (.int p1), .val (.int p2), .val (.int p3), .val (.long p4), .second, .val (.ref b1), .val (.int pp), .val (.int (2 : Int32)), .val (.int ((((p3.toUInt32 >>> ((4 : Int32) &&& 31).toUInt32).toInt32) &&& (255 : Int32)).toInt8.toInt32)), .unset, .unset, .unset, .unset, .unset, .unset, .unset, .unset, .unset, .unset, .unset, .unset, .unset] [(.ref b1)]) _
    refine Go.of (fun tg_ kk_ => XS.iconst X67.here hx rfl (hb hby at_42) kk_) ?_
    show Go p e below T67 (mkF m 43 #[.val (.int p0), .val (.int p1), .val (.int p2), .val (.int p3), .val (.long p4), .second, .val (.ref b1), .val (.int pp), .val (.int (2 : Int32)), .val (.int ((((p3.toUInt32 >>> ((4 : Int32) &&& 31).toUInt32).toInt32) &&& (255 : Int32)).toInt8.toInt32)), .unset, .unset, .unset, .unset, .unset, .unset, .unset, .unset, .unset, .unset, .unset, .unset, .unset] [(.int (2 : Int32)), (.ref b1)]) _
    refine Go.of (fun tg_ kk_ => XS.iload X67.here hx rfl (hb hby at_43) rfl kk_) ?_
    show Go p e below T67 (mkF m 45 #[.val (.int p0), .val (.int p1), .val (.int p2), .val (.int p3), .val (.long p4), .second, .val (.ref b1), .val (.int pp), .val (.int (2 : Int32)), .val (.int ((((p3.toUInt32 >>> ((4 : Int32) &&& 31).toUInt32).toInt32) &&& (255 : Int32)).toInt8.toInt32)), .unset, .unset, .unset, .unset, .unset, .unset, .unset, .unset, .unset, .unset, .unset, .unset, .unset] [(.int ((((p3.toUInt32 >>> ((4 : Int32) &&& 31).toUInt32).toInt32) &&& (255 : Int32)).toInt8.toInt32)), (.int (2 : Int32)), (.ref b1)]) _
    have ib71 := (show ¬ ((2 : Int32) < 0) ∧ ((2 : Int32)).toNatClampNeg < 16 from ⟨by decide, by decide⟩)
    obtain ⟨cl71, Ar71, S71, H71⟩ := V67
    obtain ⟨T71, h71, X71, e71, W71, st71⟩ := stB X67 hx hZ e67 Ar71 (j := (2 : Int32)) (Af.inb S71 ib71) (g := (mkF m 45 #[.val (.int p0), .val (.int p1), .val (.int p2), .val (.int p3), .val (.long p4), .second, .val (.ref b1), .val (.int pp), .val (.int (2 : Int32)), .val (.int ((((p3.toUInt32 >>> ((4 : Int32) &&& 31).toUInt32).toInt32) &&& (255 : Int32)).toInt8.toInt32)), .unset, .unset, .unset, .unset, .unset, .unset, .unset, .unset, .unset, .unset, .unset, .unset, .unset] [(.int ((((p3.toUInt32 >>> ((4 : Int32) &&& 31).toUInt32).toInt32) &&& (255 : Int32)).toInt8.toInt32)), (.int (2 : Int32)), (.ref b1)])) rfl rfl (hb hby at_45)
    obtain ⟨f71, qf71⟩ : ∃ qq_ : Nat → Int32, qq_ = upd f67 2 (nar .byte ((((p3.toUInt32 >>> ((4 : Int32) &&& 31).toUInt32).toInt32) &&& (255 : Int32)).toInt8.toInt32)) := ⟨_, rfl⟩
    have V71 : Af Z h71 b1 .byte 16 f71 := by rw [qf71]; exact Af.set Ar71 S71 H71 W71 (by decide)
    have K73 := K69.wr W71 (Or.inr sz1)
    have Zs74 : n0 ≤ h71.size := Nat.le_trans Zs70 (Keep.of_wr W71).1
    have N71 := Fr.snoc X71 N67 gx1
    refine Go.of (st71) ?_
    show Go p e below T71 (mkF m 46 #[.val (.int p0), .val (.int p1), .val (.int p2), .val (.int p3), .val (.long p4), .second, .val (.ref b1), .val (.int pp), .val (.int (2 : Int32)), .val (.int ((((p3.toUInt32 >>> ((4 : Int32) &&& 31).toUInt32).toInt32) &&& (255 : Int32)).toInt8.toInt32)), .unset, .unset, .unset, .unset, .unset, .unset, .unset, .unset, .unset, .unset, .unset, .unset, .unset] []) _
    refine Go.of (fun tg_ kk_ => XS.iload X71.here hx rfl (hb hby at_46) rfl kk_) ?_
    show Go p e below T71 (mkF m 48 #[.val (.int p0), .val (.int p1), .val (.int p2), .val (.int p3), .val (.long p4), .second, .val (.ref b1), .val (.int pp), .val (.int (2 : Int32)), .val (.int ((((p3.toUInt32 >>> ((4 : Int32) &&& 31).toUInt32).toInt32) &&& (255 : Int32)).toInt8.toInt32)), .unset, .unset, .unset, .unset, .unset, .unset, .unset, .unset, .unset, .unset, .unset, .unset, .unset] [(.int pp)]) _
    refine Go.of (fun tg_ kk_ => XS.istore X71.here hx rfl (hb hby at_48) rfl (l' := #[.val (.int p0), .val (.int p1), .val (.int p2), .val (.int p3), .val (.long p4), .second, .val (.ref b1), .val (.int pp), .val (.int (2 : Int32)), .val (.int ((((p3.toUInt32 >>> ((4 : Int32) &&& 31).toUInt32).toInt32) &&& (255 : Int32)).toInt8.toInt32)), .val (.int pp), .unset, .unset, .unset, .unset, .unset, .unset, .unset, .unset, .unset, .unset, .unset, .unset]) rfl kk_) ?_
    show Go p e below T71 (mkF m 50 #[.val (.int p0), .val (.int p1), .val (.int p2), .val (.int p3), .val (.long p4), .second, .val (.ref b1), .val (.int pp), .val (.int (2 : Int32)), .val (.int ((((p3.toUInt32 >>> ((4 : Int32) &&& 31).toUInt32).toInt32) &&& (255 : Int32)).toInt8.toInt32)), .val (.int pp), .unset, .unset, .unset, .unset, .unset, .unset, .unset, .unset, .unset, .unset, .unset, .unset] []) _
    refine Go.of (fun tg_ kk_ => XS.iload X71.here hx rfl (hb hby at_50) rfl kk_) ?_
    show Go p e below T71 (mkF m 52 #[.val (.int p0), .val (.int p1), .val (.int p2), .val (.int p3), .val (.long p4), .second, .val (.ref b1), .val (.int pp), .val (.int (2 : Int32)), .val (.int ((((p3.toUInt32 >>> ((4 : Int32) &&& 31).toUInt32).toInt32) &&& (255 : Int32)).toInt8.toInt32)), .val (.int pp), .unset, .unset, .unset, .unset, .unset, .unset, .unset, .unset, .unset, .unset, .unset, .unset] [(.int pp)]) _
    refine Go.of (fun tg_ kk_ => XS.aload X71.here hx rfl (hb hby at_52) rfl rfl kk_) ?_
    show Go p e below T71 (mkF m 54 #[.val (.int p0), .val (.int p1), .val (.int p2), .val (.int p3), .val (.long p4), .second, .val (.ref b1), .val (.int pp), .val (.int (2 : Int32)), .val (.int ((((p3.toUInt32 >>> ((4 : Int32) &&& 31).toUInt32).toInt32) &&& (255 : Int32)).toInt8.toInt32)), .val (.int pp), .unset, .unset, .unset, .unset, .unset, .unset, .unset, .unset, .unset, .unset, .unset, .unset] [(.ref b1), (.int pp)]) _
    refine Go.of (fun tg_ kk_ => XS.iload X71.here hx rfl (hb hby at_54) rfl kk_) ?_
    show Go p e below T71 (mkF m 56 #[.val (.int p0), .val (.int p1), .val (.int p2), .val (.int p3), .val (.long p4), .second, .val (.ref b1), .val (.int pp), .val (.int (2 : Int32)), .val (.int ((((p3.toUInt32 >>> ((4 : Int32) &&& 31).toUInt32).toInt32) &&& (255 : Int32)).toInt8.toInt32)), .val (.int pp), .unset, .unset, .unset, .unset, .unset, .unset, .unset, .unset, .unset, .unset, .unset, .unset] [(.int pp), (.ref b1), (.int pp)]) _
    refine Go.of (fun tg_ kk_ => XS.iloadN X71.here hx rfl (hb hby at_56) rfl kk_) ?_
    show Go p e below T71 (mkF m 57 #[.val (.int p0), .val (.int p1), .val (.int p2), .val (.int p3), .val (.long p4), .second, .val (.ref b1), .val (.int pp), .val (.int (2 : Int32)), .val (.int ((((p3.toUInt32 >>> ((4 : Int32) &&& 31).toUInt32).toInt32) &&& (255 : Int32)).toInt8.toInt32)), .val (.int pp), .unset, .unset, .unset, .unset, .unset, .unset, .unset, .unset, .unset, .unset, .unset, .unset] [(.int p0), (.int pp), (.ref b1), (.int pp)]) _
    obtain ⟨_, _, ⟨T75, L75, k75, n75⟩, -, X75, ⟨Lc75, hQ75, l75, y75, z75⟩, st75⟩ := Jvm.LawKit.callS X71 hx (y := (⟨"com/example/diagnostic/diagnostic/Utf8OffsetOfUnitPinLaw", "put", "([BII)I"⟩ : MethodName)) hown (mvT hZ (hw _ (List.mem_of_getElem? (i := 1) rfl))) (mvT hZ (hw _ (List.mem_of_getElem? (i := 2) rfl))) (mvT hZ (hw _ (List.mem_of_getElem? (i := 3) rfl))) (mvT hZ (hw _ (List.mem_of_getElem? (i := 4) rfl))) (by decide) (backOf (W := 1) (rm1 l Z a0 hw [] b1 pp p0 f71 h71 n0 Zs74 gx1 V71 hy0) hZ (hw _ (List.mem_of_getElem? (i := 4) rfl)) (hw _ (List.mem_of_getElem? (i := 3) rfl)) (by decide) (by decide)) (g := (mkF m 57 #[.val (.int p0), .val (.int p1), .val (.int p2), .val (.int p3), .val (.long p4), .second, .val (.ref b1), .val (.int pp), .val (.int (2 : Int32)), .val (.int ((((p3.toUInt32 >>> ((4 : Int32) &&& 31).toUInt32).toInt32) &&& (255 : Int32)).toInt8.toInt32)), .val (.int pp), .unset, .unset, .unset, .unset, .unset, .unset, .unset, .unset, .unset, .unset, .unset, .unset] [(.int p0), (.int pp), (.ref b1), (.int pp)])) rfl (by rw [hml]; rfl) (argsL := [(.ref b1), (.int pp), (.int p0)]) (rest := [(.int pp)]) (lenOf pd_0 rfl) rfl (by show 2 * 0 + _ ≤ _; exact Nat.le_of_eq rfl) (hb hby at_57) (fun _ _ => ⟨rfl, e71, (by decide : 1 + 0 ≤ _), (by decide : 16 + 0 ≤ _)⟩)
    dsimp only [Pt.U, Pt.locs, Pt.cells, Pt.slots] at X75 l75 y75 z75 st75 hQ75
    subst l75 y75 z75
    obtain ⟨g75, rfl, N75q, K75q, V75, Pl75, Ln75⟩ := hQ75
    have N75 := Fr.app N71 N75q
    have K77 := K73.trans K75q (allS (Or.inr sz1) all0)
    have Zs78 : n0 ≤ T75.heap.size := Nat.le_trans Zs74 K75q.1
    refine Go.of (st75) ?_
    show Go p e below T75 (mkF m 60 #[.val (.int p0), .val (.int p1), .val (.int p2), .val (.int p3), .val (.long p4), .second, .val (.ref b1), .val (.int pp), .val (.int (2 : Int32)), .val (.int ((((p3.toUInt32 >>> ((4 : Int32) &&& 31).toUInt32).toInt32) &&& (255 : Int32)).toInt8.toInt32)), .val (.int pp), .unset, .unset, .unset, .unset, .unset, .unset, .unset, .unset, .unset, .unset, .unset, .unset] [(.int ((p0 &&& (3 : Int32)) + (1 : Int32))), (.int pp)]) _
    refine Go.of (fun tg_ kk_ => XS.iadd X75.here hx rfl (hb hby at_60) rfl kk_) ?_
    show Go p e below T75 (mkF m 61 #[.val (.int p0), .val (.int p1), .val (.int p2), .val (.int p3), .val (.long p4), .second, .val (.ref b1), .val (.int pp), .val (.int (2 : Int32)), .val (.int ((((p3.toUInt32 >>> ((4 : Int32) &&& 31).toUInt32).toInt32) &&& (255 : Int32)).toInt8.toInt32)), .val (.int pp), .unset, .unset, .unset, .unset, .unset, .unset, .unset, .unset, .unset, .unset, .unset, .unset] [(.int (pp + ((p0 &&& (3 : Int32)) + (1 : Int32))))]) _
    obtain ⟨o1, qo1⟩ : ∃ zz_ : Int32, zz_ = (pp + ((p0 &&& (3 : Int32)) + (1 : Int32))) := ⟨_, rfl⟩
    rw [← qo1]
    show Go p e below T75 (mkF m 61 #[.val (.int p0), .val (.int p1), .val (.int p2), .val (.int p3), .val (.long p4), .second, .val (.ref b1), .val (.int pp), .val (.int (2 : Int32)), .val (.int ((((p3.toUInt32 >>> ((4 : Int32) &&& 31).toUInt32).toInt32) &&& (255 : Int32)).toInt8.toInt32)), .val (.int pp), .unset, .unset, .unset, .unset, .unset, .unset, .unset, .unset, .unset, .unset, .unset, .unset] [(.int o1)]) _
    have ho1 := own_o qo1 hb0 (by decide)
    have hb1 : 0 ≤ o1.toInt ∧ o1.toInt ≤ 7 := by omega
    have hy1 : 0 ≤ o1.toInt ∧ o1.toInt ≤ 12 := by omega
    refine Go.of (fun tg_ kk_ => XS.istore X75.here hx rfl (hb hby at_61) rfl (l' := #[.val (.int p0), .val (.int p1), .val (.int p2), .val (.int p3), .val (.long p4), .second, .val (.ref b1), .val (.int pp), .val (.int (2 : Int32)), .val (.int ((((p3.toUInt32 >>> ((4 : Int32) &&& 31).toUInt32).toInt32) &&& (255 : Int32)).toInt8.toInt32)), .val (.int pp), .val (.int o1), .unset, .unset, .unset, .unset, .unset, .unset, .unset, .unset, .unset, .unset, .unset]) rfl kk_) ?_
    show Go p e below T75 (mkF m 63 #[.val (.int p0), .val (.int p1), .val (.int p2), .val (.int p3), .val (.long p4), .second, .val (.ref b1), .val (.int pp), .val (.int (2 : Int32)), .val (.int ((((p3.toUInt32 >>> ((4 : Int32) &&& 31).toUInt32).toInt32) &&& (255 : Int32)).toInt8.toInt32)), .val (.int pp), .val (.int o1), .unset, .unset, .unset, .unset, .unset, .unset, .unset, .unset, .unset, .unset, .unset] []) _
    refine Go.of (fun tg_ kk_ => XS.iload X75.here hx rfl (hb hby at_63) rfl kk_) ?_
    show Go p e below T75 (mkF m 65 #[.val (.int p0), .val (.int p1), .val (.int p2), .val (.int p3), .val (.long p4), .second, .val (.ref b1), .val (.int pp), .val (.int (2 : Int32)), .val (.int ((((p3.toUInt32 >>> ((4 : Int32) &&& 31).toUInt32).toInt32) &&& (255 : Int32)).toInt8.toInt32)), .val (.int pp), .val (.int o1), .unset, .unset, .unset, .unset, .unset, .unset, .unset, .unset, .unset, .unset, .unset] [(.int o1)]) _
    refine Go.of (fun tg_ kk_ => XS.aload X75.here hx rfl (hb hby at_65) rfl rfl kk_) ?_
    show Go p e below T75 (mkF m 67 #[.val (.int p0), .val (.int p1), .val (.int p2), .val (.int p3), .val (.long p4), .second, .val (.ref b1), .val (.int pp), .val (.int (2 : Int32)), .val (.int ((((p3.toUInt32 >>> ((4 : Int32) &&& 31).toUInt32).toInt32) &&& (255 : Int32)).toInt8.toInt32)), .val (.int pp), .val (.int o1), .unset, .unset, .unset, .unset, .unset, .unset, .unset, .unset, .unset, .unset, .unset] [(.ref b1), (.int o1)]) _
    refine Go.of (fun tg_ kk_ => XS.iload X75.here hx rfl (hb hby at_67) rfl kk_) ?_
    show Go p e below T75 (mkF m 69 #[.val (.int p0), .val (.int p1), .val (.int p2), .val (.int p3), .val (.long p4), .second, .val (.ref b1), .val (.int pp), .val (.int (2 : Int32)), .val (.int ((((p3.toUInt32 >>> ((4 : Int32) &&& 31).toUInt32).toInt32) &&& (255 : Int32)).toInt8.toInt32)), .val (.int pp), .val (.int o1), .unset, .unset, .unset, .unset, .unset, .unset, .unset, .unset, .unset, .unset, .unset] [(.int o1), (.ref b1), (.int o1)]) _
    refine Go.of (fun tg_ kk_ => XS.iloadN X75.here hx rfl (hb hby at_69) rfl kk_) ?_
    show Go p e below T75 (mkF m 70 #[.val (.int p0), .val (.int p1), .val (.int p2), .val (.int p3), .val (.long p4), .second, .val (.ref b1), .val (.int pp), .val (.int (2 : Int32)), .val (.int ((((p3.toUInt32 >>> ((4 : Int32) &&& 31).toUInt32).toInt32) &&& (255 : Int32)).toInt8.toInt32)), .val (.int pp), .val (.int o1), .unset, .unset, .unset, .unset, .unset, .unset, .unset, .unset, .unset, .unset, .unset] [(.int p1), (.int o1), (.ref b1), (.int o1)]) _
    obtain ⟨_, _, ⟨T79, L79, k79, n79⟩, -, X79, ⟨Lc79, hQ79, l79, y79, z79⟩, st79⟩ := Jvm.LawKit.callS X75 hx (y := (⟨"com/example/diagnostic/diagnostic/Utf8OffsetOfUnitPinLaw", "put", "([BII)I"⟩ : MethodName)) hown (mvT hZ (hw _ (List.mem_of_getElem? (i := 1) rfl))) (mvT hZ (hw _ (List.mem_of_getElem? (i := 2) rfl))) (mvT hZ (hw _ (List.mem_of_getElem? (i := 3) rfl))) (mvT hZ (hw _ (List.mem_of_getElem? (i := 4) rfl))) (by decide) (backOf (W := 1) (rm1 l Z a0 hw [] b1 o1 p1 g75 T75.heap n0 Zs78 gx1 V75 hy1) hZ (hw _ (List.mem_of_getElem? (i := 4) rfl)) (hw _ (List.mem_of_getElem? (i := 3) rfl)) (by decide) (by decide)) (g := (mkF m 70 #[.val (.int p0), .val (.int p1), .val (.int p2), .val (.int p3), .val (.long p4), .second, .val (.ref b1), .val (.int pp), .val (.int (2 : Int32)), .val (.int ((((p3.toUInt32 >>> ((4 : Int32) &&& 31).toUInt32).toInt32) &&& (255 : Int32)).toInt8.toInt32)), .val (.int pp), .val (.int o1), .unset, .unset, .unset, .unset, .unset, .unset, .unset, .unset, .unset, .unset, .unset] [(.int p1), (.int o1), (.ref b1), (.int o1)])) rfl (by rw [hml]; rfl) (argsL := [(.ref b1), (.int o1), (.int p1)]) (rest := [(.int o1)]) (lenOf pd_0 rfl) rfl (by show 2 * 0 + _ ≤ _; exact Nat.le_of_eq rfl) (hb hby at_70) (fun _ _ => ⟨rfl, rfl, (by decide : 1 + 0 ≤ _), (by decide : 16 + 0 ≤ _)⟩)
    dsimp only [Pt.U, Pt.locs, Pt.cells, Pt.slots] at X79 l79 y79 z79 st79 hQ79
    subst l79 y79 z79
    obtain ⟨g79, rfl, N79q, K79q, V79, Pl79, Ln79⟩ := hQ79
    have N79 := Fr.app N75 N79q
    have K81 := K77.trans K79q (allS (Or.inr sz1) all0)
    have Zs82 : n0 ≤ T79.heap.size := Nat.le_trans Zs78 K79q.1
    refine Go.of (st79) ?_
    show Go p e below T79 (mkF m 73 #[.val (.int p0), .val (.int p1), .val (.int p2), .val (.int p3), .val (.long p4), .second, .val (.ref b1), .val (.int pp), .val (.int (2 : Int32)), .val (.int ((((p3.toUInt32 >>> ((4 : Int32) &&& 31).toUInt32).toInt32) &&& (255 : Int32)).toInt8.toInt32)), .val (.int pp), .val (.int o1), .unset, .unset, .unset, .unset, .unset, .unset, .unset, .unset, .unset, .unset, .unset] [(.int ((p1 &&& (3 : Int32)) + (1 : Int32))), (.int o1)]) _
    refine Go.of (fun tg_ kk_ => XS.iadd X79.here hx rfl (hb hby at_73) rfl kk_) ?_
    show Go p e below T79 (mkF m 74 #[.val (.int p0), .val (.int p1), .val (.int p2), .val (.int p3), .val (.long p4), .second, .val (.ref b1), .val (.int pp), .val (.int (2 : Int32)), .val (.int ((((p3.toUInt32 >>> ((4 : Int32) &&& 31).toUInt32).toInt32) &&& (255 : Int32)).toInt8.toInt32)), .val (.int pp), .val (.int o1), .unset, .unset, .unset, .unset, .unset, .unset, .unset, .unset, .unset, .unset, .unset] [(.int (o1 + ((p1 &&& (3 : Int32)) + (1 : Int32))))]) _
    obtain ⟨o2, qo2⟩ : ∃ zz_ : Int32, zz_ = (o1 + ((p1 &&& (3 : Int32)) + (1 : Int32))) := ⟨_, rfl⟩
    rw [← qo2]
    show Go p e below T79 (mkF m 74 #[.val (.int p0), .val (.int p1), .val (.int p2), .val (.int p3), .val (.long p4), .second, .val (.ref b1), .val (.int pp), .val (.int (2 : Int32)), .val (.int ((((p3.toUInt32 >>> ((4 : Int32) &&& 31).toUInt32).toInt32) &&& (255 : Int32)).toInt8.toInt32)), .val (.int pp), .val (.int o1), .unset, .unset, .unset, .unset, .unset, .unset, .unset, .unset, .unset, .unset, .unset] [(.int o2)]) _
    have ho2 := own_o qo2 hb1 (by decide)
    have hb2 : 0 ≤ o2.toInt ∧ o2.toInt ≤ 11 := by omega
    have hy2 : 0 ≤ o2.toInt ∧ o2.toInt ≤ 12 := by omega
    refine Go.of (fun tg_ kk_ => XS.istore X79.here hx rfl (hb hby at_74) rfl (l' := #[.val (.int p0), .val (.int p1), .val (.int p2), .val (.int p3), .val (.long p4), .second, .val (.ref b1), .val (.int pp), .val (.int (2 : Int32)), .val (.int ((((p3.toUInt32 >>> ((4 : Int32) &&& 31).toUInt32).toInt32) &&& (255 : Int32)).toInt8.toInt32)), .val (.int pp), .val (.int o1), .val (.int o2), .unset, .unset, .unset, .unset, .unset, .unset, .unset, .unset, .unset, .unset]) rfl kk_) ?_
    show Go p e below T79 (mkF m 76 #[.val (.int p0), .val (.int p1), .val (.int p2), .val (.int p3), .val (.long p4), .second, .val (.ref b1), .val (.int pp), .val (.int (2 : Int32)), .val (.int ((((p3.toUInt32 >>> ((4 : Int32) &&& 31).toUInt32).toInt32) &&& (255 : Int32)).toInt8.toInt32)), .val (.int pp), .val (.int o1), .val (.int o2), .unset, .unset, .unset, .unset, .unset, .unset, .unset, .unset, .unset, .unset] []) _
    refine Go.of (fun tg_ kk_ => XS.iload X79.here hx rfl (hb hby at_76) rfl kk_) ?_
    show Go p e below T79 (mkF m 78 #[.val (.int p0), .val (.int p1), .val (.int p2), .val (.int p3), .val (.long p4), .second, .val (.ref b1), .val (.int pp), .val (.int (2 : Int32)), .val (.int ((((p3.toUInt32 >>> ((4 : Int32) &&& 31).toUInt32).toInt32) &&& (255 : Int32)).toInt8.toInt32)), .val (.int pp), .val (.int o1), .val (.int o2), .unset, .unset, .unset, .unset, .unset, .unset, .unset, .unset, .unset, .unset] [(.int o2)]) _
    refine Go.of (fun tg_ kk_ => XS.aload X79.here hx rfl (hb hby at_78) rfl rfl kk_) ?_
    show Go p e below T79 (mkF m 80 #[.val (.int p0), .val (.int p1), .val (.int p2), .val (.int p3), .val (.long p4), .second, .val (.ref b1), .val (.int pp), .val (.int (2 : Int32)), .val (.int ((((p3.toUInt32 >>> ((4 : Int32) &&& 31).toUInt32).toInt32) &&& (255 : Int32)).toInt8.toInt32)), .val (.int pp), .val (.int o1), .val (.int o2), .unset, .unset, .unset, .unset, .unset, .unset, .unset, .unset, .unset, .unset] [(.ref b1), (.int o2)]) _
    refine Go.of (fun tg_ kk_ => XS.iload X79.here hx rfl (hb hby at_80) rfl kk_) ?_
    show Go p e below T79 (mkF m 82 #[.val (.int p0), .val (.int p1), .val (.int p2), .val (.int p3), .val (.long p4), .second, .val (.ref b1), .val (.int pp), .val (.int (2 : Int32)), .val (.int ((((p3.toUInt32 >>> ((4 : Int32) &&& 31).toUInt32).toInt32) &&& (255 : Int32)).toInt8.toInt32)), .val (.int pp), .val (.int o1), .val (.int o2), .unset, .unset, .unset, .unset, .unset, .unset, .unset, .unset, .unset, .unset] [(.int o2), (.ref b1), (.int o2)]) _
    refine Go.of (fun tg_ kk_ => XS.iloadN X79.here hx rfl (hb hby at_82) rfl kk_) ?_
    show Go p e below T79 (mkF m 83 #[.val (.int p0), .val (.int p1), .val (.int p2), .val (.int p3), .val (.long p4), .second, .val (.ref b1), .val (.int pp), .val (.int (2 : Int32)), .val (.int ((((p3.toUInt32 >>> ((4 : Int32) &&& 31).toUInt32).toInt32) &&& (255 : Int32)).toInt8.toInt32)), .val (.int pp), .val (.int o1), .val (.int o2), .unset, .unset, .unset, .unset, .unset, .unset, .unset, .unset, .unset, .unset] [(.int p2), (.int o2), (.ref b1), (.int o2)]) _
    obtain ⟨_, _, ⟨T83, L83, k83, n83⟩, -, X83, ⟨Lc83, hQ83, l83, y83, z83⟩, st83⟩ := Jvm.LawKit.callS X79 hx (y := (⟨"com/example/diagnostic/diagnostic/Utf8OffsetOfUnitPinLaw", "put", "([BII)I"⟩ : MethodName)) hown (mvT hZ (hw _ (List.mem_of_getElem? (i := 1) rfl))) (mvT hZ (hw _ (List.mem_of_getElem? (i := 2) rfl))) (mvT hZ (hw _ (List.mem_of_getElem? (i := 3) rfl))) (mvT hZ (hw _ (List.mem_of_getElem? (i := 4) rfl))) (by decide) (backOf (W := 1) (rm1 l Z a0 hw [] b1 o2 p2 g79 T79.heap n0 Zs82 gx1 V79 hy2) hZ (hw _ (List.mem_of_getElem? (i := 4) rfl)) (hw _ (List.mem_of_getElem? (i := 3) rfl)) (by decide) (by decide)) (g := (mkF m 83 #[.val (.int p0), .val (.int p1), .val (.int p2), .val (.int p3), .val (.long p4), .second, .val (.ref b1), .val (.int pp), .val (.int (2 : Int32)), .val (.int ((((p3.toUInt32 >>> ((4 : Int32) &&& 31).toUInt32).toInt32) &&& (255 : Int32)).toInt8.toInt32)), .val (.int pp), .val (.int o1), .val (.int o2), .unset, .unset, .unset, .unset, .unset, .unset, .unset, .unset, .unset, .unset] [(.int p2), (.int o2), (.ref b1), (.int o2)])) rfl (by rw [hml]; rfl) (argsL := [(.ref b1), (.int o2), (.int p2)]) (rest := [(.int o2)]) (lenOf pd_0 rfl) rfl (by show 2 * 0 + _ ≤ _; exact Nat.le_of_eq rfl) (hb hby at_83) (fun _ _ => ⟨rfl, rfl, (by decide : 1 + 0 ≤ _), (by decide : 16 + 0 ≤ _)⟩)
    dsimp only [Pt.U, Pt.locs, Pt.cells, Pt.slots] at X83 l83 y83 z83 st83 hQ83
    subst l83 y83 z83
    obtain ⟨g83, rfl, N83q, K83q, V83, Pl83, Ln83⟩ := hQ83
    have N83 := Fr.app N79 N83q
    have K85 := K81.trans K83q (allS (Or.inr sz1) all0)
    have Zs86 : n0 ≤ T83.heap.size := Nat.le_trans Zs82 K83q.1
    refine Go.of (st83) ?_
    show Go p e below T83 (mkF m 86 #[.val (.int p0), .val (.int p1), .val (.int p2), .val (.int p3), .val (.long p4), .second, .val (.ref b1), .val (.int pp), .val (.int (2 : Int32)), .val (.int ((((p3.toUInt32 >>> ((4 : Int32) &&& 31).toUInt32).toInt32) &&& (255 : Int32)).toInt8.toInt32)), .val (.int pp), .val (.int o1), .val (.int o2), .unset, .unset, .unset, .unset, .unset, .unset, .unset, .unset, .unset, .unset] [(.int ((p2 &&& (3 : Int32)) + (1 : Int32))), (.int o2)]) _
    refine Go.of (fun tg_ kk_ => XS.iadd X83.here hx rfl (hb hby at_86) rfl kk_) ?_
    show Go p e below T83 (mkF m 87 #[.val (.int p0), .val (.int p1), .val (.int p2), .val (.int p3), .val (.long p4), .second, .val (.ref b1), .val (.int pp), .val (.int (2 : Int32)), .val (.int ((((p3.toUInt32 >>> ((4 : Int32) &&& 31).toUInt32).toInt32) &&& (255 : Int32)).toInt8.toInt32)), .val (.int pp), .val (.int o1), .val (.int o2), .unset, .unset, .unset, .unset, .unset, .unset, .unset, .unset, .unset, .unset] [(.int (o2 + ((p2 &&& (3 : Int32)) + (1 : Int32))))]) _
    obtain ⟨o3, qo3⟩ : ∃ zz_ : Int32, zz_ = (o2 + ((p2 &&& (3 : Int32)) + (1 : Int32))) := ⟨_, rfl⟩
    rw [← qo3]
    show Go p e below T83 (mkF m 87 #[.val (.int p0), .val (.int p1), .val (.int p2), .val (.int p3), .val (.long p4), .second, .val (.ref b1), .val (.int pp), .val (.int (2 : Int32)), .val (.int ((((p3.toUInt32 >>> ((4 : Int32) &&& 31).toUInt32).toInt32) &&& (255 : Int32)).toInt8.toInt32)), .val (.int pp), .val (.int o1), .val (.int o2), .unset, .unset, .unset, .unset, .unset, .unset, .unset, .unset, .unset, .unset] [(.int o3)]) _
    have ho3 := own_o qo3 hb2 (by decide)
    have hb3 : 0 ≤ o3.toInt ∧ o3.toInt ≤ 15 := by omega
    have hl2 := Ln83
    have hl1 := Ln79
    rw [← Pl83 _ (show (((o1).toNatClampNeg : Nat) : Int) < o2.toInt by show ((o1.toInt.toNat : Nat) : Int) < o2.toInt; omega)] at hl1
    have hl0 := Ln75
    rw [← Pl79 _ (show (((pp).toNatClampNeg : Nat) : Int) < o1.toInt by show ((pp.toInt.toNat : Nat) : Int) < o1.toInt; omega), ← Pl83 _ (show (((pp).toNatClampNeg : Nat) : Int) < o2.toInt by show ((pp.toInt.toNat : Nat) : Int) < o2.toInt; omega)] at hl0
    refine Go.of (fun tg_ kk_ => XS.istore X83.here hx rfl (hb hby at_87) rfl (l' := #[.val (.int p0), .val (.int p1), .val (.int p2), .val (.int p3), .val (.long p4), .second, .val (.ref b1), .val (.int pp), .val (.int (2 : Int32)), .val (.int ((((p3.toUInt32 >>> ((4 : Int32) &&& 31).toUInt32).toInt32) &&& (255 : Int32)).toInt8.toInt32)), .val (.int pp), .val (.int o1), .val (.int o2), .val (.int o3), .unset, .unset, .unset, .unset, .unset, .unset, .unset, .unset, .unset]) rfl kk_) ?_
    show Go p e below T83 (mkF m 89 #[.val (.int p0), .val (.int p1), .val (.int p2), .val (.int p3), .val (.long p4), .second, .val (.ref b1), .val (.int pp), .val (.int (2 : Int32)), .val (.int ((((p3.toUInt32 >>> ((4 : Int32) &&& 31).toUInt32).toInt32) &&& (255 : Int32)).toInt8.toInt32)), .val (.int pp), .val (.int o1), .val (.int o2), .val (.int o3), .unset, .unset, .unset, .unset, .unset, .unset, .unset, .unset, .unset] []) _
    refine Go.of (fun tg_ kk_ => XS.iload X83.here hx rfl (hb hby at_89) rfl kk_) ?_
    show Go p e below T83 (mkF m 91 #[.val (.int p0), .val (.int p1), .val (.int p2), .val (.int p3), .val (.long p4), .second, .val (.ref b1), .val (.int pp), .val (.int (2 : Int32)), .val (.int ((((p3.toUInt32 >>> ((4 : Int32) &&& 31).toUInt32).toInt32) &&& (255 : Int32)).toInt8.toInt32)), .val (.int pp), .val (.int o1), .val (.int o2), .val (.int o3), .unset, .unset, .unset, .unset, .unset, .unset, .unset, .unset, .unset] [(.int (2 : Int32))]) _
    refine Go.of (fun tg_ kk_ => XS.ifYes X83.here hx rfl (pc0 := 91) (pc' := 99) rfl (hb hby at_91) rfl ((if0 _ _).trans (feq (show ¬ ((2 : Int32) = (0 : Int32)) by decide)).2) (by decide) (by decide) kk_) ?_
    show Go p e below T83 (mkF m 99 #[.val (.int p0), .val (.int p1), .val (.int p2), .val (.int p3), .val (.long p4), .second, .val (.ref b1), .val (.int pp), .val (.int (2 : Int32)), .val (.int ((((p3.toUInt32 >>> ((4 : Int32) &&& 31).toUInt32).toInt32) &&& (255 : Int32)).toInt8.toInt32)), .val (.int pp), .val (.int o1), .val (.int o2), .val (.int o3), .unset, .unset, .unset, .unset, .unset, .unset, .unset, .unset, .unset] []) _
    refine Go.of (fun tg_ kk_ => XS.iload X83.here hx rfl (hb hby at_99) rfl kk_) ?_
    show Go p e below T83 (mkF m 101 #[.val (.int p0), .val (.int p1), .val (.int p2), .val (.int p3), .val (.long p4), .second, .val (.ref b1), .val (.int pp), .val (.int (2 : Int32)), .val (.int ((((p3.toUInt32 >>> ((4 : Int32) &&& 31).toUInt32).toInt32) &&& (255 : Int32)).toInt8.toInt32)), .val (.int pp), .val (.int o1), .val (.int o2), .val (.int o3), .unset, .unset, .unset, .unset, .unset, .unset, .unset, .unset, .unset] [(.int (2 : Int32))]) _
    refine Go.of (fun tg_ kk_ => XS.iconst X83.here hx rfl (hb hby at_101) kk_) ?_
    show Go p e below T83 (mkF m 102 #[.val (.int p0), .val (.int p1), .val (.int p2), .val (.int p3), .val (.long p4), .second, .val (.ref b1), .val (.int pp), .val (.int (2 : Int32)), .val (.int ((((p3.toUInt32 >>> ((4 : Int32) &&& 31).toUInt32).toInt32) &&& (255 : Int32)).toInt8.toInt32)), .val (.int pp), .val (.int o1), .val (.int o2), .val (.int o3), .unset, .unset, .unset, .unset, .unset, .unset, .unset, .unset, .unset] [(.int (1 : Int32)), (.int (2 : Int32))]) _
    refine Go.of (fun tg_ kk_ => XS.icmpYes X83.here hx rfl (pc0 := 102) (pc' := 110) rfl (hb hby at_102) rfl (feq (show ¬ ((2 : Int32) = (1 : Int32)) by decide)).2 (by decide) (by decide) kk_) ?_
    show Go p e below T83 (mkF m 110 #[.val (.int p0), .val (.int p1), .val (.int p2), .val (.int p3), .val (.long p4), .second, .val (.ref b1), .val (.int pp), .val (.int (2 : Int32)), .val (.int ((((p3.toUInt32 >>> ((4 : Int32) &&& 31).toUInt32).toInt32) &&& (255 : Int32)).toInt8.toInt32)), .val (.int pp), .val (.int o1), .val (.int o2), .val (.int o3), .unset, .unset, .unset, .unset, .unset, .unset, .unset, .unset, .unset] []) _
    refine Go.of (fun tg_ kk_ => XS.iload X83.here hx rfl (hb hby at_110) rfl kk_) ?_
    show Go p e below T83 (mkF m 112 #[.val (.int p0), .val (.int p1), .val (.int p2), .val (.int p3), .val (.long p4), .second, .val (.ref b1), .val (.int pp), .val (.int (2 : Int32)), .val (.int ((((p3.toUInt32 >>> ((4 : Int32) &&& 31).toUInt32).toInt32) &&& (255 : Int32)).toInt8.toInt32)), .val (.int pp), .val (.int o1), .val (.int o2), .val (.int o3), .unset, .unset, .unset, .unset, .unset, .unset, .unset, .unset, .unset] [(.int (2 : Int32))]) _
    refine Go.of (fun tg_ kk_ => XS.iconst X83.here hx rfl (hb hby at_112) kk_) ?_
    show Go p e below T83 (mkF m 113 #[.val (.int p0), .val (.int p1), .val (.int p2), .val (.int p3), .val (.long p4), .second, .val (.ref b1), .val (.int pp), .val (.int (2 : Int32)), .val (.int ((((p3.toUInt32 >>> ((4 : Int32) &&& 31).toUInt32).toInt32) &&& (255 : Int32)).toInt8.toInt32)), .val (.int pp), .val (.int o1), .val (.int o2), .val (.int o3), .unset, .unset, .unset, .unset, .unset, .unset, .unset, .unset, .unset] [(.int (2 : Int32)), (.int (2 : Int32))]) _
    refine Go.of (fun tg_ kk_ => XS.icmpNo X83.here hx rfl (hb hby at_113) rfl (teq (show (2 : Int32) = (2 : Int32) by decide)).2 kk_) ?_
    show Go p e below T83 (mkF m 116 #[.val (.int p0), .val (.int p1), .val (.int p2), .val (.int p3), .val (.long p4), .second, .val (.ref b1), .val (.int pp), .val (.int (2 : Int32)), .val (.int ((((p3.toUInt32 >>> ((4 : Int32) &&& 31).toUInt32).toInt32) &&& (255 : Int32)).toInt8.toInt32)), .val (.int pp), .val (.int o1), .val (.int o2), .val (.int o3), .unset, .unset, .unset, .unset, .unset, .unset, .unset, .unset, .unset] []) _
    refine Go.of (fun tg_ kk_ => XS.iload X83.here hx rfl (hb hby at_116) rfl kk_) ?_
    show Go p e below T83 (mkF m 118 #[.val (.int p0), .val (.int p1), .val (.int p2), .val (.int p3), .val (.long p4), .second, .val (.ref b1), .val (.int pp), .val (.int (2 : Int32)), .val (.int ((((p3.toUInt32 >>> ((4 : Int32) &&& 31).toUInt32).toInt32) &&& (255 : Int32)).toInt8.toInt32)), .val (.int pp), .val (.int o1), .val (.int o2), .val (.int o3), .unset, .unset, .unset, .unset, .unset, .unset, .unset, .unset, .unset] [(.int o2)]) _
    refine Go.of (fun tg_ kk_ => XS.goto X83.here hx rfl (pc0 := 118) (pc' := 123) rfl (hb hby at_118) (by decide) (by decide) kk_) ?_
    show Go p e below T83 (mkF m 123 #[.val (.int p0), .val (.int p1), .val (.int p2), .val (.int p3), .val (.long p4), .second, .val (.ref b1), .val (.int pp), .val (.int (2 : Int32)), .val (.int ((((p3.toUInt32 >>> ((4 : Int32) &&& 31).toUInt32).toInt32) &&& (255 : Int32)).toInt8.toInt32)), .val (.int pp), .val (.int o1), .val (.int o2), .val (.int o3), .unset, .unset, .unset, .unset, .unset, .unset, .unset, .unset, .unset] [(.int o2)]) _
    refine Go.of (fun tg_ kk_ => XS.istore X83.here hx rfl (hb hby at_123) rfl (l' := #[.val (.int p0), .val (.int p1), .val (.int p2), .val (.int p3), .val (.long p4), .second, .val (.ref b1), .val (.int pp), .val (.int (2 : Int32)), .val (.int ((((p3.toUInt32 >>> ((4 : Int32) &&& 31).toUInt32).toInt32) &&& (255 : Int32)).toInt8.toInt32)), .val (.int pp), .val (.int o1), .val (.int o2), .val (.int o3), .val (.int o2), .unset, .unset, .unset, .unset, .unset, .unset, .unset, .unset]) rfl kk_) ?_
    show Go p e below T83 (mkF m 125 #[.val (.int p0), .val (.int p1), .val (.int p2), .val (.int p3), .val (.long p4), .second, .val (.ref b1), .val (.int pp), .val (.int (2 : Int32)), .val (.int ((((p3.toUInt32 >>> ((4 : Int32) &&& 31).toUInt32).toInt32) &&& (255 : Int32)).toInt8.toInt32)), .val (.int pp), .val (.int o1), .val (.int o2), .val (.int o3), .val (.int o2), .unset, .unset, .unset, .unset, .unset, .unset, .unset, .unset] []) _
    refine Go.of (fun tg_ kk_ => XS.iloadN X83.here hx rfl (hb hby at_125) rfl kk_) ?_
    show Go p e below T83 (mkF m 126 #[.val (.int p0), .val (.int p1), .val (.int p2), .val (.int p3), .val (.long p4), .second, .val (.ref b1), .val (.int pp), .val (.int (2 : Int32)), .val (.int ((((p3.toUInt32 >>> ((4 : Int32) &&& 31).toUInt32).toInt32) &&& (255 : Int32)).toInt8.toInt32)), .val (.int pp), .val (.int o1), .val (.int o2), .val (.int o3), .val (.int o2), .unset, .unset, .unset, .unset, .unset, .unset, .unset, .unset] [(.int p0)]) _
    obtain ⟨_, _, ⟨T87, L87, k87, n87⟩, -, X87, ⟨Lc87, hQ87, l87, y87, z87⟩, st87⟩ := Jvm.LawKit.callS X83 hx (y := (⟨"com/example/diagnostic/diagnostic/Utf8OffsetOfUnitPinLaw", "units", "(I)I"⟩ : MethodName)) hown (mvT hZ (hw _ (List.mem_of_getElem? (i := 6) rfl))) (mvT hZ (hw _ (List.mem_of_getElem? (i := 7) rfl))) (mvT hZ (hw _ (List.mem_of_getElem? (i := 3) rfl))) (mvT hZ (hw _ (List.mem_of_getElem? (i := 8) rfl))) (by decide) (backOf (W := 0) (rm2 l Z a0 hw [] p0 T83.heap n0 Zs86) hZ (hw _ (List.mem_of_getElem? (i := 8) rfl)) (hw _ (List.mem_of_getElem? (i := 3) rfl)) (by decide) (by decide)) (g := (mkF m 126 #[.val (.int p0), .val (.int p1), .val (.int p2), .val (.int p3), .val (.long p4), .second, .val (.ref b1), .val (.int pp), .val (.int (2 : Int32)), .val (.int ((((p3.toUInt32 >>> ((4 : Int32) &&& 31).toUInt32).toInt32) &&& (255 : Int32)).toInt8.toInt32)), .val (.int pp), .val (.int o1), .val (.int o2), .val (.int o3), .val (.int o2), .unset, .unset, .unset, .unset, .unset, .unset, .unset, .unset] [(.int p0)])) rfl (by rw [hml]; rfl) (argsL := [(.int p0)]) (rest := []) (lenOf pd_1 rfl) rfl (by show 2 * 0 + _ ≤ _; exact Nat.le_of_eq rfl) (hb hby at_126) (fun _ _ => ⟨rfl, rfl, (by decide : 1 + 0 ≤ _), (by decide : 16 + 0 ≤ _)⟩)
    dsimp only [Pt.U, Pt.locs, Pt.cells, Pt.slots] at X87 l87 y87 z87 st87 hQ87
    subst l87 y87 z87
    obtain ⟨rfl, N87q, e87⟩ := hQ87
    have N87 := Fr.app N83 N87q
    refine Go.of (st87) ?_
    show Go p e below T87 (mkF m 129 #[.val (.int p0), .val (.int p1), .val (.int p2), .val (.int p3), .val (.long p4), .second, .val (.ref b1), .val (.int pp), .val (.int (2 : Int32)), .val (.int ((((p3.toUInt32 >>> ((4 : Int32) &&& 31).toUInt32).toInt32) &&& (255 : Int32)).toInt8.toInt32)), .val (.int pp), .val (.int o1), .val (.int o2), .val (.int o3), .val (.int o2), .unset, .unset, .unset, .unset, .unset, .unset, .unset, .unset] [(.int (if (p0 &&& (3 : Int32)) = (3 : Int32) then (2 : Int32) else (1 : Int32)))]) _
    refine Go.of (fun tg_ kk_ => XS.i2l X87.here hx rfl (hb hby at_129) rfl kk_) ?_
    show Go p e below T87 (mkF m 130 #[.val (.int p0), .val (.int p1), .val (.int p2), .val (.int p3), .val (.long p4), .second, .val (.ref b1), .val (.int pp), .val (.int (2 : Int32)), .val (.int ((((p3.toUInt32 >>> ((4 : Int32) &&& 31).toUInt32).toInt32) &&& (255 : Int32)).toInt8.toInt32)), .val (.int pp), .val (.int o1), .val (.int o2), .val (.int o3), .val (.int o2), .unset, .unset, .unset, .unset, .unset, .unset, .unset, .unset] [(.long ((if (p0 &&& (3 : Int32)) = (3 : Int32) then (2 : Int32) else (1 : Int32)).toInt64))]) _
    obtain ⟨c1, qc1⟩ : ∃ zz_ : Int64, zz_ = ((if (p0 &&& (3 : Int32)) = (3 : Int32) then (2 : Int32) else (1 : Int32)).toInt64) := ⟨_, rfl⟩
    rw [← qc1]
    show Go p e below T87 (mkF m 130 #[.val (.int p0), .val (.int p1), .val (.int p2), .val (.int p3), .val (.long p4), .second, .val (.ref b1), .val (.int pp), .val (.int (2 : Int32)), .val (.int ((((p3.toUInt32 >>> ((4 : Int32) &&& 31).toUInt32).toInt32) &&& (255 : Int32)).toInt8.toInt32)), .val (.int pp), .val (.int o1), .val (.int o2), .val (.int o3), .val (.int o2), .unset, .unset, .unset, .unset, .unset, .unset, .unset, .unset] [(.long c1)]) _
    refine Go.of (fun tg_ kk_ => XS.lstore X87.here hx rfl (hb hby at_130) rfl (l' := #[.val (.int p0), .val (.int p1), .val (.int p2), .val (.int p3), .val (.long p4), .second, .val (.ref b1), .val (.int pp), .val (.int (2 : Int32)), .val (.int ((((p3.toUInt32 >>> ((4 : Int32) &&& 31).toUInt32).toInt32) &&& (255 : Int32)).toInt8.toInt32)), .val (.int pp), .val (.int o1), .val (.int o2), .val (.int o3), .val (.int o2), .val (.long c1), .second, .unset, .unset, .unset, .unset, .unset, .unset]) rfl kk_) ?_
    show Go p e below T87 (mkF m 132 #[.val (.int p0), .val (.int p1), .val (.int p2), .val (.int p3), .val (.long p4), .second, .val (.ref b1), .val (.int pp), .val (.int (2 : Int32)), .val (.int ((((p3.toUInt32 >>> ((4 : Int32) &&& 31).toUInt32).toInt32) &&& (255 : Int32)).toInt8.toInt32)), .val (.int pp), .val (.int o1), .val (.int o2), .val (.int o3), .val (.int o2), .val (.long c1), .second, .unset, .unset, .unset, .unset, .unset, .unset] []) _
    refine Go.of (fun tg_ kk_ => XS.lload X87.here hx rfl (hb hby at_132) rfl kk_) ?_
    show Go p e below T87 (mkF m 134 #[.val (.int p0), .val (.int p1), .val (.int p2), .val (.int p3), .val (.long p4), .second, .val (.ref b1), .val (.int pp), .val (.int (2 : Int32)), .val (.int ((((p3.toUInt32 >>> ((4 : Int32) &&& 31).toUInt32).toInt32) &&& (255 : Int32)).toInt8.toInt32)), .val (.int pp), .val (.int o1), .val (.int o2), .val (.int o3), .val (.int o2), .val (.long c1), .second, .unset, .unset, .unset, .unset, .unset, .unset] [(.long c1)]) _
    refine Go.of (fun tg_ kk_ => XS.iloadN X87.here hx rfl (hb hby at_134) rfl kk_) ?_
    show Go p e below T87 (mkF m 135 #[.val (.int p0), .val (.int p1), .val (.int p2), .val (.int p3), .val (.long p4), .second, .val (.ref b1), .val (.int pp), .val (.int (2 : Int32)), .val (.int ((((p3.toUInt32 >>> ((4 : Int32) &&& 31).toUInt32).toInt32) &&& (255 : Int32)).toInt8.toInt32)), .val (.int pp), .val (.int o1), .val (.int o2), .val (.int o3), .val (.int o2), .val (.long c1), .second, .unset, .unset, .unset, .unset, .unset, .unset] [(.int p1), (.long c1)]) _
    obtain ⟨_, _, ⟨T88, L88, k88, n88⟩, -, X88, ⟨Lc88, hQ88, l88, y88, z88⟩, st88⟩ := Jvm.LawKit.callS X87 hx (y := (⟨"com/example/diagnostic/diagnostic/Utf8OffsetOfUnitPinLaw", "units", "(I)I"⟩ : MethodName)) hown (mvT hZ (hw _ (List.mem_of_getElem? (i := 6) rfl))) (mvT hZ (hw _ (List.mem_of_getElem? (i := 7) rfl))) (mvT hZ (hw _ (List.mem_of_getElem? (i := 3) rfl))) (mvT hZ (hw _ (List.mem_of_getElem? (i := 8) rfl))) (by decide) (backOf (W := 2) (rm2 l Z a0 hw [] p1 T83.heap n0 Zs86) hZ (hw _ (List.mem_of_getElem? (i := 8) rfl)) (hw _ (List.mem_of_getElem? (i := 3) rfl)) (by decide) (by decide)) (g := (mkF m 135 #[.val (.int p0), .val (.int p1), .val (.int p2), .val (.int p3), .val (.long p4), .second, .val (.ref b1), .val (.int pp), .val (.int (2 : Int32)), .val (.int ((((p3.toUInt32 >>> ((4 : Int32) &&& 31).toUInt32).toInt32) &&& (255 : Int32)).toInt8.toInt32)), .val (.int pp), .val (.int o1), .val (.int o2), .val (.int o3), .val (.int o2), .val (.long c1), .second, .unset, .unset, .unset, .unset, .unset, .unset] [(.int p1), (.long c1)])) rfl (by rw [hml]; rfl) (argsL := [(.int p1)]) (rest := [(.long c1)]) (lenOf pd_1 rfl) rfl (by show 2 * 0 + _ ≤ _; exact Nat.le_of_eq rfl) (hb hby at_135) (fun _ _ => ⟨rfl, e87, (by decide : 1 + 0 ≤ _), (by decide : 16 + 0 ≤ _)⟩)
    dsimp only [Pt.U, Pt.locs, Pt.cells, Pt.slots] at X88 l88 y88 z88 st88 hQ88
    subst l88 y88 z88
    obtain ⟨rfl, N88q, e88⟩ := hQ88
    have N88 := Fr.app N87 N88q
    refine Go.of (st88) ?_
    show Go p e below T88 (mkF m 138 #[.val (.int p0), .val (.int p1), .val (.int p2), .val (.int p3), .val (.long p4), .second, .val (.ref b1), .val (.int pp), .val (.int (2 : Int32)), .val (.int ((((p3.toUInt32 >>> ((4 : Int32) &&& 31).toUInt32).toInt32) &&& (255 : Int32)).toInt8.toInt32)), .val (.int pp), .val (.int o1), .val (.int o2), .val (.int o3), .val (.int o2), .val (.long c1), .second, .unset, .unset, .unset, .unset, .unset, .unset] [(.int (if (p1 &&& (3 : Int32)) = (3 : Int32) then (2 : Int32) else (1 : Int32))), (.long c1)]) _
    refine Go.of (fun tg_ kk_ => XS.i2l X88.here hx rfl (hb hby at_138) rfl kk_) ?_
    show Go p e below T88 (mkF m 139 #[.val (.int p0), .val (.int p1), .val (.int p2), .val (.int p3), .val (.long p4), .second, .val (.ref b1), .val (.int pp), .val (.int (2 : Int32)), .val (.int ((((p3.toUInt32 >>> ((4 : Int32) &&& 31).toUInt32).toInt32) &&& (255 : Int32)).toInt8.toInt32)), .val (.int pp), .val (.int o1), .val (.int o2), .val (.int o3), .val (.int o2), .val (.long c1), .second, .unset, .unset, .unset, .unset, .unset, .unset] [(.long ((if (p1 &&& (3 : Int32)) = (3 : Int32) then (2 : Int32) else (1 : Int32)).toInt64)), (.long c1)]) _
    refine Go.of (fun tg_ kk_ => XS.ladd X88.here hx rfl (hb hby at_139) rfl kk_) ?_
    show Go p e below T88 (mkF m 140 #[.val (.int p0), .val (.int p1), .val (.int p2), .val (.int p3), .val (.long p4), .second, .val (.ref b1), .val (.int pp), .val (.int (2 : Int32)), .val (.int ((((p3.toUInt32 >>> ((4 : Int32) &&& 31).toUInt32).toInt32) &&& (255 : Int32)).toInt8.toInt32)), .val (.int pp), .val (.int o1), .val (.int o2), .val (.int o3), .val (.int o2), .val (.long c1), .second, .unset, .unset, .unset, .unset, .unset, .unset] [(.long (c1 + ((if (p1 &&& (3 : Int32)) = (3 : Int32) then (2 : Int32) else (1 : Int32)).toInt64)))]) _
    obtain ⟨c2, qc2⟩ : ∃ zz_ : Int64, zz_ = (c1 + ((if (p1 &&& (3 : Int32)) = (3 : Int32) then (2 : Int32) else (1 : Int32)).toInt64)) := ⟨_, rfl⟩
    rw [← qc2]
    show Go p e below T88 (mkF m 140 #[.val (.int p0), .val (.int p1), .val (.int p2), .val (.int p3), .val (.long p4), .second, .val (.ref b1), .val (.int pp), .val (.int (2 : Int32)), .val (.int ((((p3.toUInt32 >>> ((4 : Int32) &&& 31).toUInt32).toInt32) &&& (255 : Int32)).toInt8.toInt32)), .val (.int pp), .val (.int o1), .val (.int o2), .val (.int o3), .val (.int o2), .val (.long c1), .second, .unset, .unset, .unset, .unset, .unset, .unset] [(.long c2)]) _
    refine Go.of (fun tg_ kk_ => XS.lstore X88.here hx rfl (hb hby at_140) rfl (l' := #[.val (.int p0), .val (.int p1), .val (.int p2), .val (.int p3), .val (.long p4), .second, .val (.ref b1), .val (.int pp), .val (.int (2 : Int32)), .val (.int ((((p3.toUInt32 >>> ((4 : Int32) &&& 31).toUInt32).toInt32) &&& (255 : Int32)).toInt8.toInt32)), .val (.int pp), .val (.int o1), .val (.int o2), .val (.int o3), .val (.int o2), .val (.long c1), .second, .val (.long c2), .second, .unset, .unset, .unset, .unset]) rfl kk_) ?_
    show Go p e below T88 (mkF m 142 #[.val (.int p0), .val (.int p1), .val (.int p2), .val (.int p3), .val (.long p4), .second, .val (.ref b1), .val (.int pp), .val (.int (2 : Int32)), .val (.int ((((p3.toUInt32 >>> ((4 : Int32) &&& 31).toUInt32).toInt32) &&& (255 : Int32)).toInt8.toInt32)), .val (.int pp), .val (.int o1), .val (.int o2), .val (.int o3), .val (.int o2), .val (.long c1), .second, .val (.long c2), .second, .unset, .unset, .unset, .unset] []) _
    refine Go.of (fun tg_ kk_ => XS.lload X88.here hx rfl (hb hby at_142) rfl kk_) ?_
    show Go p e below T88 (mkF m 144 #[.val (.int p0), .val (.int p1), .val (.int p2), .val (.int p3), .val (.long p4), .second, .val (.ref b1), .val (.int pp), .val (.int (2 : Int32)), .val (.int ((((p3.toUInt32 >>> ((4 : Int32) &&& 31).toUInt32).toInt32) &&& (255 : Int32)).toInt8.toInt32)), .val (.int pp), .val (.int o1), .val (.int o2), .val (.int o3), .val (.int o2), .val (.long c1), .second, .val (.long c2), .second, .unset, .unset, .unset, .unset] [(.long c2)]) _
    refine Go.of (fun tg_ kk_ => XS.iloadN X88.here hx rfl (hb hby at_144) rfl kk_) ?_
    show Go p e below T88 (mkF m 145 #[.val (.int p0), .val (.int p1), .val (.int p2), .val (.int p3), .val (.long p4), .second, .val (.ref b1), .val (.int pp), .val (.int (2 : Int32)), .val (.int ((((p3.toUInt32 >>> ((4 : Int32) &&& 31).toUInt32).toInt32) &&& (255 : Int32)).toInt8.toInt32)), .val (.int pp), .val (.int o1), .val (.int o2), .val (.int o3), .val (.int o2), .val (.long c1), .second, .val (.long c2), .second, .unset, .unset, .unset, .unset] [(.int p2), (.long c2)]) _
    obtain ⟨_, _, ⟨T89, L89, k89, n89⟩, -, X89, ⟨Lc89, hQ89, l89, y89, z89⟩, st89⟩ := Jvm.LawKit.callS X88 hx (y := (⟨"com/example/diagnostic/diagnostic/Utf8OffsetOfUnitPinLaw", "units", "(I)I"⟩ : MethodName)) hown (mvT hZ (hw _ (List.mem_of_getElem? (i := 6) rfl))) (mvT hZ (hw _ (List.mem_of_getElem? (i := 7) rfl))) (mvT hZ (hw _ (List.mem_of_getElem? (i := 3) rfl))) (mvT hZ (hw _ (List.mem_of_getElem? (i := 8) rfl))) (by decide) (backOf (W := 2) (rm2 l Z a0 hw [] p2 T83.heap n0 Zs86) hZ (hw _ (List.mem_of_getElem? (i := 8) rfl)) (hw _ (List.mem_of_getElem? (i := 3) rfl)) (by decide) (by decide)) (g := (mkF m 145 #[.val (.int p0), .val (.int p1), .val (.int p2), .val (.int p3), .val (.long p4), .second, .val (.ref b1), .val (.int pp), .val (.int (2 : Int32)), .val (.int ((((p3.toUInt32 >>> ((4 : Int32) &&& 31).toUInt32).toInt32) &&& (255 : Int32)).toInt8.toInt32)), .val (.int pp), .val (.int o1), .val (.int o2), .val (.int o3), .val (.int o2), .val (.long c1), .second, .val (.long c2), .second, .unset, .unset, .unset, .unset] [(.int p2), (.long c2)])) rfl (by rw [hml]; rfl) (argsL := [(.int p2)]) (rest := [(.long c2)]) (lenOf pd_1 rfl) rfl (by show 2 * 0 + _ ≤ _; exact Nat.le_of_eq rfl) (hb hby at_145) (fun _ _ => ⟨rfl, e88, (by decide : 1 + 0 ≤ _), (by decide : 16 + 0 ≤ _)⟩)
    dsimp only [Pt.U, Pt.locs, Pt.cells, Pt.slots] at X89 l89 y89 z89 st89 hQ89
    subst l89 y89 z89
    obtain ⟨rfl, N89q, e89⟩ := hQ89
    have N89 := Fr.app N88 N89q
    refine Go.of (st89) ?_
    show Go p e below T89 (mkF m 148 #[.val (.int p0), .val (.int p1), .val (.int p2), .val (.int p3), .val (.long p4), .second, .val (.ref b1), .val (.int pp), .val (.int (2 : Int32)), .val (.int ((((p3.toUInt32 >>> ((4 : Int32) &&& 31).toUInt32).toInt32) &&& (255 : Int32)).toInt8.toInt32)), .val (.int pp), .val (.int o1), .val (.int o2), .val (.int o3), .val (.int o2), .val (.long c1), .second, .val (.long c2), .second, .unset, .unset, .unset, .unset] [(.int (if (p2 &&& (3 : Int32)) = (3 : Int32) then (2 : Int32) else (1 : Int32))), (.long c2)]) _
    refine Go.of (fun tg_ kk_ => XS.i2l X89.here hx rfl (hb hby at_148) rfl kk_) ?_
    show Go p e below T89 (mkF m 149 #[.val (.int p0), .val (.int p1), .val (.int p2), .val (.int p3), .val (.long p4), .second, .val (.ref b1), .val (.int pp), .val (.int (2 : Int32)), .val (.int ((((p3.toUInt32 >>> ((4 : Int32) &&& 31).toUInt32).toInt32) &&& (255 : Int32)).toInt8.toInt32)), .val (.int pp), .val (.int o1), .val (.int o2), .val (.int o3), .val (.int o2), .val (.long c1), .second, .val (.long c2), .second, .unset, .unset, .unset, .unset] [(.long ((if (p2 &&& (3 : Int32)) = (3 : Int32) then (2 : Int32) else (1 : Int32)).toInt64)), (.long c2)]) _
    refine Go.of (fun tg_ kk_ => XS.ladd X89.here hx rfl (hb hby at_149) rfl kk_) ?_
    show Go p e below T89 (mkF m 150 #[.val (.int p0), .val (.int p1), .val (.int p2), .val (.int p3), .val (.long p4), .second, .val (.ref b1), .val (.int pp), .val (.int (2 : Int32)), .val (.int ((((p3.toUInt32 >>> ((4 : Int32) &&& 31).toUInt32).toInt32) &&& (255 : Int32)).toInt8.toInt32)), .val (.int pp), .val (.int o1), .val (.int o2), .val (.int o3), .val (.int o2), .val (.long c1), .second, .val (.long c2), .second, .unset, .unset, .unset, .unset] [(.long (c2 + ((if (p2 &&& (3 : Int32)) = (3 : Int32) then (2 : Int32) else (1 : Int32)).toInt64)))]) _
    obtain ⟨c3, qc3⟩ : ∃ zz_ : Int64, zz_ = (c2 + ((if (p2 &&& (3 : Int32)) = (3 : Int32) then (2 : Int32) else (1 : Int32)).toInt64)) := ⟨_, rfl⟩
    rw [← qc3]
    show Go p e below T89 (mkF m 150 #[.val (.int p0), .val (.int p1), .val (.int p2), .val (.int p3), .val (.long p4), .second, .val (.ref b1), .val (.int pp), .val (.int (2 : Int32)), .val (.int ((((p3.toUInt32 >>> ((4 : Int32) &&& 31).toUInt32).toInt32) &&& (255 : Int32)).toInt8.toInt32)), .val (.int pp), .val (.int o1), .val (.int o2), .val (.int o3), .val (.int o2), .val (.long c1), .second, .val (.long c2), .second, .unset, .unset, .unset, .unset] [(.long c3)]) _
    refine Go.of (fun tg_ kk_ => XS.lstore X89.here hx rfl (hb hby at_150) rfl (l' := #[.val (.int p0), .val (.int p1), .val (.int p2), .val (.int p3), .val (.long p4), .second, .val (.ref b1), .val (.int pp), .val (.int (2 : Int32)), .val (.int ((((p3.toUInt32 >>> ((4 : Int32) &&& 31).toUInt32).toInt32) &&& (255 : Int32)).toInt8.toInt32)), .val (.int pp), .val (.int o1), .val (.int o2), .val (.int o3), .val (.int o2), .val (.long c1), .second, .val (.long c2), .second, .val (.long c3), .second, .unset, .unset]) rfl kk_) ?_
    show Go p e below T89 (mkF m 152 #[.val (.int p0), .val (.int p1), .val (.int p2), .val (.int p3), .val (.long p4), .second, .val (.ref b1), .val (.int pp), .val (.int (2 : Int32)), .val (.int ((((p3.toUInt32 >>> ((4 : Int32) &&& 31).toUInt32).toInt32) &&& (255 : Int32)).toInt8.toInt32)), .val (.int pp), .val (.int o1), .val (.int o2), .val (.int o3), .val (.int o2), .val (.long c1), .second, .val (.long c2), .second, .val (.long c3), .second, .unset, .unset] []) _
    refine Go.of (fun tg_ kk_ => XS.iload X89.here hx rfl (hb hby at_152) rfl kk_) ?_
    show Go p e below T89 (mkF m 154 #[.val (.int p0), .val (.int p1), .val (.int p2), .val (.int p3), .val (.long p4), .second, .val (.ref b1), .val (.int pp), .val (.int (2 : Int32)), .val (.int ((((p3.toUInt32 >>> ((4 : Int32) &&& 31).toUInt32).toInt32) &&& (255 : Int32)).toInt8.toInt32)), .val (.int pp), .val (.int o1), .val (.int o2), .val (.int o3), .val (.int o2), .val (.long c1), .second, .val (.long c2), .second, .val (.long c3), .second, .unset, .unset] [(.int (2 : Int32))]) _
    refine Go.of (fun tg_ kk_ => XS.iconst X89.here hx rfl (hb hby at_154) kk_) ?_
    show Go p e below T89 (mkF m 155 #[.val (.int p0), .val (.int p1), .val (.int p2), .val (.int p3), .val (.long p4), .second, .val (.ref b1), .val (.int pp), .val (.int (2 : Int32)), .val (.int ((((p3.toUInt32 >>> ((4 : Int32) &&& 31).toUInt32).toInt32) &&& (255 : Int32)).toInt8.toInt32)), .val (.int pp), .val (.int o1), .val (.int o2), .val (.int o3), .val (.int o2), .val (.long c1), .second, .val (.long c2), .second, .val (.long c3), .second, .unset, .unset] [(.int (1 : Int32)), (.int (2 : Int32))]) _
    refine Go.of (fun tg_ kk_ => XS.icmpNo X89.here hx rfl (hb hby at_155) rfl (flt (show ¬ ((2 : Int32) < (1 : Int32)) by decide)).1 kk_) ?_
    show Go p e below T89 (mkF m 158 #[.val (.int p0), .val (.int p1), .val (.int p2), .val (.int p3), .val (.long p4), .second, .val (.ref b1), .val (.int pp), .val (.int (2 : Int32)), .val (.int ((((p3.toUInt32 >>> ((4 : Int32) &&& 31).toUInt32).toInt32) &&& (255 : Int32)).toInt8.toInt32)), .val (.int pp), .val (.int o1), .val (.int o2), .val (.int o3), .val (.int o2), .val (.long c1), .second, .val (.long c2), .second, .val (.long c3), .second, .unset, .unset] []) _
    refine Go.of (fun tg_ kk_ => XS.lload X89.here hx rfl (hb hby at_158) rfl kk_) ?_
    show Go p e below T89 (mkF m 160 #[.val (.int p0), .val (.int p1), .val (.int p2), .val (.int p3), .val (.long p4), .second, .val (.ref b1), .val (.int pp), .val (.int (2 : Int32)), .val (.int ((((p3.toUInt32 >>> ((4 : Int32) &&& 31).toUInt32).toInt32) &&& (255 : Int32)).toInt8.toInt32)), .val (.int pp), .val (.int o1), .val (.int o2), .val (.int o3), .val (.int o2), .val (.long c1), .second, .val (.long c2), .second, .val (.long c3), .second, .unset, .unset] [(.long c1)]) _
    refine Go.of (fun tg_ kk_ => XS.lload X89.here hx rfl (hb hby at_160) rfl kk_) ?_
    show Go p e below T89 (mkF m 162 #[.val (.int p0), .val (.int p1), .val (.int p2), .val (.int p3), .val (.long p4), .second, .val (.ref b1), .val (.int pp), .val (.int (2 : Int32)), .val (.int ((((p3.toUInt32 >>> ((4 : Int32) &&& 31).toUInt32).toInt32) &&& (255 : Int32)).toInt8.toInt32)), .val (.int pp), .val (.int o1), .val (.int o2), .val (.int o3), .val (.int o2), .val (.long c1), .second, .val (.long c2), .second, .val (.long c3), .second, .unset, .unset] [(.long p4), (.long c1)]) _
    refine Go.of (fun tg_ kk_ => XS.lcmp X89.here hx rfl (hb hby at_162) rfl kk_) ?_
    show Go p e below T89 (mkF m 163 #[.val (.int p0), .val (.int p1), .val (.int p2), .val (.int p3), .val (.long p4), .second, .val (.ref b1), .val (.int pp), .val (.int (2 : Int32)), .val (.int ((((p3.toUInt32 >>> ((4 : Int32) &&& 31).toUInt32).toInt32) &&& (255 : Int32)).toInt8.toInt32)), .val (.int pp), .val (.int o1), .val (.int o2), .val (.int o3), .val (.int o2), .val (.long c1), .second, .val (.long c2), .second, .val (.long c3), .second, .unset, .unset] [(.int (lcmpW c1 p4))]) _
    by_cases hc90 : p4 < c1
    · skip
      refine Go.of (fun tg_ kk_ => XS.ifNo X89.here hx rfl (hb hby at_163) rfl ((if0 _ _).trans (tlt ((lw_gt c1 p4).mpr hc90)).2.2.2) kk_) ?_
      show Go p e below T89 (mkF m 166 #[.val (.int p0), .val (.int p1), .val (.int p2), .val (.int p3), .val (.long p4), .second, .val (.ref b1), .val (.int pp), .val (.int (2 : Int32)), .val (.int ((((p3.toUInt32 >>> ((4 : Int32) &&& 31).toUInt32).toInt32) &&& (255 : Int32)).toInt8.toInt32)), .val (.int pp), .val (.int o1), .val (.int o2), .val (.int o3), .val (.int o2), .val (.long c1), .second, .val (.long c2), .second, .val (.long c3), .second, .unset, .unset] []) _
      refine Go.of (fun tg_ kk_ => XS.iload X89.here hx rfl (hb hby at_166) rfl kk_) ?_
      show Go p e below T89 (mkF m 168 #[.val (.int p0), .val (.int p1), .val (.int p2), .val (.int p3), .val (.long p4), .second, .val (.ref b1), .val (.int pp), .val (.int (2 : Int32)), .val (.int ((((p3.toUInt32 >>> ((4 : Int32) &&& 31).toUInt32).toInt32) &&& (255 : Int32)).toInt8.toInt32)), .val (.int pp), .val (.int o1), .val (.int o2), .val (.int o3), .val (.int o2), .val (.long c1), .second, .val (.long c2), .second, .val (.long c3), .second, .unset, .unset] [(.int pp)]) _
      refine Go.of (fun tg_ kk_ => XS.istore X89.here hx rfl (hb hby at_168) rfl (l' := #[.val (.int p0), .val (.int p1), .val (.int p2), .val (.int p3), .val (.long p4), .second, .val (.ref b1), .val (.int pp), .val (.int (2 : Int32)), .val (.int ((((p3.toUInt32 >>> ((4 : Int32) &&& 31).toUInt32).toInt32) &&& (255 : Int32)).toInt8.toInt32)), .val (.int pp), .val (.int o1), .val (.int o2), .val (.int o3), .val (.int o2), .val (.long c1), .second, .val (.long c2), .second, .val (.long c3), .second, .val (.int pp), .unset]) rfl kk_) ?_
      show Go p e below T89 (mkF m 170 #[.val (.int p0), .val (.int p1), .val (.int p2), .val (.int p3), .val (.long p4), .second, .val (.ref b1), .val (.int pp), .val (.int (2 : Int32)), .val (.int ((((p3.toUInt32 >>> ((4 : Int32) &&& 31).toUInt32).toInt32) &&& (255 : Int32)).toInt8.toInt32)), .val (.int pp), .val (.int o1), .val (.int o2), .val (.int o3), .val (.int o2), .val (.long c1), .second, .val (.long c2), .second, .val (.long c3), .second, .val (.int pp), .unset] []) _
      refine Go.of (fun tg_ kk_ => XS.goto X89.here hx rfl (pc0 := 170) (pc' := 219) rfl (hb hby at_170) (by decide) (by decide) kk_) ?_
      show Go p e below T89 (mkF m 219 #[.val (.int p0), .val (.int p1), .val (.int p2), .val (.int p3), .val (.long p4), .second, .val (.ref b1), .val (.int pp), .val (.int (2 : Int32)), .val (.int ((((p3.toUInt32 >>> ((4 : Int32) &&& 31).toUInt32).toInt32) &&& (255 : Int32)).toInt8.toInt32)), .val (.int pp), .val (.int o1), .val (.int o2), .val (.int o3), .val (.int o2), .val (.long c1), .second, .val (.long c2), .second, .val (.long c3), .second, .val (.int pp), .unset] []) _
      refine Go.of (fun tg_ kk_ => XS.aload X89.here hx rfl (hb hby at_219) rfl rfl kk_) ?_
      show Go p e below T89 (mkF m 221 #[.val (.int p0), .val (.int p1), .val (.int p2), .val (.int p3), .val (.long p4), .second, .val (.ref b1), .val (.int pp), .val (.int (2 : Int32)), .val (.int ((((p3.toUInt32 >>> ((4 : Int32) &&& 31).toUInt32).toInt32) &&& (255 : Int32)).toInt8.toInt32)), .val (.int pp), .val (.int o1), .val (.int o2), .val (.int o3), .val (.int o2), .val (.long c1), .second, .val (.long c2), .second, .val (.long c3), .second, .val (.int pp), .unset] [(.ref b1)]) _
      refine Go.of (fun tg_ kk_ => XS.iload X89.here hx rfl (hb hby at_221) rfl kk_) ?_
      show Go p e below T89 (mkF m 223 #[.val (.int p0), .val (.int p1), .val (.int p2), .val (.int p3), .val (.long p4), .second, .val (.ref b1), .val (.int pp), .val (.int (2 : Int32)), .val (.int ((((p3.toUInt32 >>> ((4 : Int32) &&& 31).toUInt32).toInt32) &&& (255 : Int32)).toInt8.toInt32)), .val (.int pp), .val (.int o1), .val (.int o2), .val (.int o3), .val (.int o2), .val (.long c1), .second, .val (.long c2), .second, .val (.long c3), .second, .val (.int pp), .unset] [(.int pp), (.ref b1)]) _
      refine Go.of (fun tg_ kk_ => XS.iload X89.here hx rfl (hb hby at_223) rfl kk_) ?_
      show Go p e below T89 (mkF m 225 #[.val (.int p0), .val (.int p1), .val (.int p2), .val (.int p3), .val (.long p4), .second, .val (.ref b1), .val (.int pp), .val (.int (2 : Int32)), .val (.int ((((p3.toUInt32 >>> ((4 : Int32) &&& 31).toUInt32).toInt32) &&& (255 : Int32)).toInt8.toInt32)), .val (.int pp), .val (.int o1), .val (.int o2), .val (.int o3), .val (.int o2), .val (.long c1), .second, .val (.long c2), .second, .val (.long c3), .second, .val (.int pp), .unset] [(.int o2), (.int pp), (.ref b1)]) _
      refine Go.of (fun tg_ kk_ => XS.lload X89.here hx rfl (hb hby at_225) rfl kk_) ?_
      show Go p e below T89 (mkF m 227 #[.val (.int p0), .val (.int p1), .val (.int p2), .val (.int p3), .val (.long p4), .second, .val (.ref b1), .val (.int pp), .val (.int (2 : Int32)), .val (.int ((((p3.toUInt32 >>> ((4 : Int32) &&& 31).toUInt32).toInt32) &&& (255 : Int32)).toInt8.toInt32)), .val (.int pp), .val (.int o1), .val (.int o2), .val (.int o3), .val (.int o2), .val (.long c1), .second, .val (.long c2), .second, .val (.long c3), .second, .val (.int pp), .unset] [(.long p4), (.int o2), (.int pp), (.ref b1)]) _
      obtain ⟨_, _, ⟨T91, L91, k91, n91⟩, -, X91, ⟨Lc91, hQ91, l91, y91, z91⟩, st91⟩ := Jvm.LawKit.callS X89 hx (y := (⟨"com/example/diagnostic/diagnostic/Utf8", "offsetOfUnit", "([BIIJ)I"⟩ : MethodName)) hown (mvT hZ (hw _ (List.mem_of_getElem? (i := 9) rfl))) (mvT hZ (hw _ (List.mem_of_getElem? (i := 10) rfl))) (mvT hZ (hw _ (List.mem_of_getElem? (i := 11) rfl))) (mvT hZ (hw _ (List.mem_of_getElem? (i := 12) rfl))) (by decide) (backOf (W := 0) (rm3 l Z a0 hw [] b1 pp o2 p4 g83 T83.heap n0 Zs86 V83 hb0.1 (by have := hb2; omega)) hZ (hw _ (List.mem_of_getElem? (i := 12) rfl)) (hw _ (List.mem_of_getElem? (i := 11) rfl)) (by decide) (by decide)) (g := (mkF m 227 #[.val (.int p0), .val (.int p1), .val (.int p2), .val (.int p3), .val (.long p4), .second, .val (.ref b1), .val (.int pp), .val (.int (2 : Int32)), .val (.int ((((p3.toUInt32 >>> ((4 : Int32) &&& 31).toUInt32).toInt32) &&& (255 : Int32)).toInt8.toInt32)), .val (.int pp), .val (.int o1), .val (.int o2), .val (.int o3), .val (.int o2), .val (.long c1), .second, .val (.long c2), .second, .val (.long c3), .second, .val (.int pp), .unset] [(.long p4), (.int o2), (.int pp), (.ref b1)])) rfl (by rw [hml]; rfl) (argsL := [(.ref b1), (.int pp), (.int o2), (.long p4)]) (rest := []) (lenOf pd_2 rfl) rfl (by show 2 * 0 + _ ≤ _; exact Nat.le_of_eq rfl) (hb hby at_227) (fun _ _ => ⟨rfl, e89, (by decide : 1 + 0 ≤ _), (by decide : 16 + 0 ≤ _)⟩)
      dsimp only [Pt.U, Pt.locs, Pt.cells, Pt.slots] at X91 l91 y91 z91 st91 hQ91
      subst l91 y91 z91
      obtain ⟨rfl, N91q, e91⟩ := hQ91
      have N91 := Fr.app N89 N91q
      refine Go.of (st91) ?_
      show Go p e below T91 (mkF m 230 #[.val (.int p0), .val (.int p1), .val (.int p2), .val (.int p3), .val (.long p4), .second, .val (.ref b1), .val (.int pp), .val (.int (2 : Int32)), .val (.int ((((p3.toUInt32 >>> ((4 : Int32) &&& 31).toUInt32).toInt32) &&& (255 : Int32)).toInt8.toInt32)), .val (.int pp), .val (.int o1), .val (.int o2), .val (.int o3), .val (.int o2), .val (.long c1), .second, .val (.long c2), .second, .val (.long c3), .second, .val (.int pp), .unset] [(.int (scan 16 g83 pp o2 0 p4))]) _
      refine Go.of (fun tg_ kk_ => XS.istore X91.here hx rfl (hb hby at_230) rfl (l' := #[.val (.int p0), .val (.int p1), .val (.int p2), .val (.int p3), .val (.long p4), .second, .val (.ref b1), .val (.int pp), .val (.int (2 : Int32)), .val (.int ((((p3.toUInt32 >>> ((4 : Int32) &&& 31).toUInt32).toInt32) &&& (255 : Int32)).toInt8.toInt32)), .val (.int pp), .val (.int o1), .val (.int o2), .val (.int o3), .val (.int o2), .val (.long c1), .second, .val (.long c2), .second, .val (.long c3), .second, .val (.int pp), .val (.int (scan 16 g83 pp o2 0 p4))]) rfl kk_) ?_
      show Go p e below T91 (mkF m 232 #[.val (.int p0), .val (.int p1), .val (.int p2), .val (.int p3), .val (.long p4), .second, .val (.ref b1), .val (.int pp), .val (.int (2 : Int32)), .val (.int ((((p3.toUInt32 >>> ((4 : Int32) &&& 31).toUInt32).toInt32) &&& (255 : Int32)).toInt8.toInt32)), .val (.int pp), .val (.int o1), .val (.int o2), .val (.int o3), .val (.int o2), .val (.long c1), .second, .val (.long c2), .second, .val (.long c3), .second, .val (.int pp), .val (.int (scan 16 g83 pp o2 0 p4))] []) _
      refine Go.of (fun tg_ kk_ => XS.iload X91.here hx rfl (hb hby at_232) rfl kk_) ?_
      show Go p e below T91 (mkF m 234 #[.val (.int p0), .val (.int p1), .val (.int p2), .val (.int p3), .val (.long p4), .second, .val (.ref b1), .val (.int pp), .val (.int (2 : Int32)), .val (.int ((((p3.toUInt32 >>> ((4 : Int32) &&& 31).toUInt32).toInt32) &&& (255 : Int32)).toInt8.toInt32)), .val (.int pp), .val (.int o1), .val (.int o2), .val (.int o3), .val (.int o2), .val (.long c1), .second, .val (.long c2), .second, .val (.long c3), .second, .val (.int pp), .val (.int (scan 16 g83 pp o2 0 p4))] [(.int (scan 16 g83 pp o2 0 p4))]) _
      refine Go.of (fun tg_ kk_ => XS.iload X91.here hx rfl (hb hby at_234) rfl kk_) ?_
      show Go p e below T91 (mkF m 236 #[.val (.int p0), .val (.int p1), .val (.int p2), .val (.int p3), .val (.long p4), .second, .val (.ref b1), .val (.int pp), .val (.int (2 : Int32)), .val (.int ((((p3.toUInt32 >>> ((4 : Int32) &&& 31).toUInt32).toInt32) &&& (255 : Int32)).toInt8.toInt32)), .val (.int pp), .val (.int o1), .val (.int o2), .val (.int o3), .val (.int o2), .val (.long c1), .second, .val (.long c2), .second, .val (.long c3), .second, .val (.int pp), .val (.int (scan 16 g83 pp o2 0 p4))] [(.int pp), (.int (scan 16 g83 pp o2 0 p4))]) _
      refine Go.of (fun tg_ kk_ => XS.icmpNo X91.here hx rfl (hb hby at_236) rfl (teq (show (scan 16 g83 pp o2 0 p4) = pp from (by rw [own_r1 (by omega) hl0 qo1 (own_z0 _ _ qc1), if_pos hc90]))).2 kk_) ?_
      show Go p e below T91 (mkF m 239 #[.val (.int p0), .val (.int p1), .val (.int p2), .val (.int p3), .val (.long p4), .second, .val (.ref b1), .val (.int pp), .val (.int (2 : Int32)), .val (.int ((((p3.toUInt32 >>> ((4 : Int32) &&& 31).toUInt32).toInt32) &&& (255 : Int32)).toInt8.toInt32)), .val (.int pp), .val (.int o1), .val (.int o2), .val (.int o3), .val (.int o2), .val (.long c1), .second, .val (.long c2), .second, .val (.long c3), .second, .val (.int pp), .val (.int (scan 16 g83 pp o2 0 p4))] []) _
      refine Go.of (fun tg_ kk_ => XS.iconst X91.here hx rfl (hb hby at_239) kk_) ?_
      show Go p e below T91 (mkF m 240 #[.val (.int p0), .val (.int p1), .val (.int p2), .val (.int p3), .val (.long p4), .second, .val (.ref b1), .val (.int pp), .val (.int (2 : Int32)), .val (.int ((((p3.toUInt32 >>> ((4 : Int32) &&& 31).toUInt32).toInt32) &&& (255 : Int32)).toInt8.toInt32)), .val (.int pp), .val (.int o1), .val (.int o2), .val (.int o3), .val (.int o2), .val (.long c1), .second, .val (.long c2), .second, .val (.long c3), .second, .val (.int pp), .val (.int (scan 16 g83 pp o2 0 p4))] [(.int (1 : Int32))]) _
      refine Go.of (fun tg_ kk_ => XS.goto X91.here hx rfl (pc0 := 240) (pc' := 244) rfl (hb hby at_240) (by decide) (by decide) kk_) ?_
      show Go p e below T91 (mkF m 244 #[.val (.int p0), .val (.int p1), .val (.int p2), .val (.int p3), .val (.long p4), .second, .val (.ref b1), .val (.int pp), .val (.int (2 : Int32)), .val (.int ((((p3.toUInt32 >>> ((4 : Int32) &&& 31).toUInt32).toInt32) &&& (255 : Int32)).toInt8.toInt32)), .val (.int pp), .val (.int o1), .val (.int o2), .val (.int o3), .val (.int o2), .val (.long c1), .second, .val (.long c2), .second, .val (.long c3), .second, .val (.int pp), .val (.int (scan 16 g83 pp o2 0 p4))] [(.int (1 : Int32))]) _
      obtain ⟨fs, hr, hrun, hended, hW, hsame⟩ := X91.leave (v := some (.int (1 : Int32))) (fun h => by rw [Bd.returns] at h; cases h)
      refine ⟨_, _, ?_, hrun, hended, _, _, rfl, ?_, ⟨_, rfl⟩, hW, hsame.mono (by decide) (by decide)⟩
      · exact retN X91 hx (t := .boolean) Bd.returns (by simp) (hb hby at_244) hr
      · show Q0 Z p0 p1 p2 p3 p4 h0 n0 _ T91.heap _
        rw [e91]
        exact ⟨rfl, N91⟩
    · skip
      refine Go.of (fun tg_ kk_ => XS.ifYes X89.here hx rfl (pc0 := 163) (pc' := 173) rfl (hb hby at_163) rfl ((if0 _ _).trans (flt (fun q => hc90 ((lw_gt c1 p4).mp q))).2.2.2) (by decide) (by decide) kk_) ?_
      show Go p e below T89 (mkF m 173 #[.val (.int p0), .val (.int p1), .val (.int p2), .val (.int p3), .val (.long p4), .second, .val (.ref b1), .val (.int pp), .val (.int (2 : Int32)), .val (.int ((((p3.toUInt32 >>> ((4 : Int32) &&& 31).toUInt32).toInt32) &&& (255 : Int32)).toInt8.toInt32)), .val (.int pp), .val (.int o1), .val (.int o2), .val (.int o3), .val (.int o2), .val (.long c1), .second, .val (.long c2), .second, .val (.long c3), .second, .unset, .unset] []) _
      refine Go.of (fun tg_ kk_ => XS.iload X89.here hx rfl (hb hby at_173) rfl kk_) ?_
      show Go p e below T89 (mkF m 175 #[.val (.int p0), .val (.int p1), .val (.int p2), .val (.int p3), .val (.long p4), .second, .val (.ref b1), .val (.int pp), .val (.int (2 : Int32)), .val (.int ((((p3.toUInt32 >>> ((4 : Int32) &&& 31).toUInt32).toInt32) &&& (255 : Int32)).toInt8.toInt32)), .val (.int pp), .val (.int o1), .val (.int o2), .val (.int o3), .val (.int o2), .val (.long c1), .second, .val (.long c2), .second, .val (.long c3), .second, .unset, .unset] [(.int (2 : Int32))]) _
      refine Go.of (fun tg_ kk_ => XS.iconst X89.here hx rfl (hb hby at_175) kk_) ?_
      show Go p e below T89 (mkF m 176 #[.val (.int p0), .val (.int p1), .val (.int p2), .val (.int p3), .val (.long p4), .second, .val (.ref b1), .val (.int pp), .val (.int (2 : Int32)), .val (.int ((((p3.toUInt32 >>> ((4 : Int32) &&& 31).toUInt32).toInt32) &&& (255 : Int32)).toInt8.toInt32)), .val (.int pp), .val (.int o1), .val (.int o2), .val (.int o3), .val (.int o2), .val (.long c1), .second, .val (.long c2), .second, .val (.long c3), .second, .unset, .unset] [(.int (2 : Int32)), (.int (2 : Int32))]) _
      refine Go.of (fun tg_ kk_ => XS.icmpNo X89.here hx rfl (hb hby at_176) rfl (flt (show ¬ ((2 : Int32) < (2 : Int32)) by decide)).1 kk_) ?_
      show Go p e below T89 (mkF m 179 #[.val (.int p0), .val (.int p1), .val (.int p2), .val (.int p3), .val (.long p4), .second, .val (.ref b1), .val (.int pp), .val (.int (2 : Int32)), .val (.int ((((p3.toUInt32 >>> ((4 : Int32) &&& 31).toUInt32).toInt32) &&& (255 : Int32)).toInt8.toInt32)), .val (.int pp), .val (.int o1), .val (.int o2), .val (.int o3), .val (.int o2), .val (.long c1), .second, .val (.long c2), .second, .val (.long c3), .second, .unset, .unset] []) _
      refine Go.of (fun tg_ kk_ => XS.lload X89.here hx rfl (hb hby at_179) rfl kk_) ?_
      show Go p e below T89 (mkF m 181 #[.val (.int p0), .val (.int p1), .val (.int p2), .val (.int p3), .val (.long p4), .second, .val (.ref b1), .val (.int pp), .val (.int (2 : Int32)), .val (.int ((((p3.toUInt32 >>> ((4 : Int32) &&& 31).toUInt32).toInt32) &&& (255 : Int32)).toInt8.toInt32)), .val (.int pp), .val (.int o1), .val (.int o2), .val (.int o3), .val (.int o2), .val (.long c1), .second, .val (.long c2), .second, .val (.long c3), .second, .unset, .unset] [(.long c2)]) _
      refine Go.of (fun tg_ kk_ => XS.lload X89.here hx rfl (hb hby at_181) rfl kk_) ?_
      show Go p e below T89 (mkF m 183 #[.val (.int p0), .val (.int p1), .val (.int p2), .val (.int p3), .val (.long p4), .second, .val (.ref b1), .val (.int pp), .val (.int (2 : Int32)), .val (.int ((((p3.toUInt32 >>> ((4 : Int32) &&& 31).toUInt32).toInt32) &&& (255 : Int32)).toInt8.toInt32)), .val (.int pp), .val (.int o1), .val (.int o2), .val (.int o3), .val (.int o2), .val (.long c1), .second, .val (.long c2), .second, .val (.long c3), .second, .unset, .unset] [(.long p4), (.long c2)]) _
      refine Go.of (fun tg_ kk_ => XS.lcmp X89.here hx rfl (hb hby at_183) rfl kk_) ?_
      show Go p e below T89 (mkF m 184 #[.val (.int p0), .val (.int p1), .val (.int p2), .val (.int p3), .val (.long p4), .second, .val (.ref b1), .val (.int pp), .val (.int (2 : Int32)), .val (.int ((((p3.toUInt32 >>> ((4 : Int32) &&& 31).toUInt32).toInt32) &&& (255 : Int32)).toInt8.toInt32)), .val (.int pp), .val (.int o1), .val (.int o2), .val (.int o3), .val (.int o2), .val (.long c1), .second, .val (.long c2), .second, .val (.long c3), .second, .unset, .unset] [(.int (lcmpW c2 p4))]) _
      by_cases hc92 : p4 < c2
      · skip
        refine Go.of (fun tg_ kk_ => XS.ifNo X89.here hx rfl (hb hby at_184) rfl ((if0 _ _).trans (tlt ((lw_gt c2 p4).mpr hc92)).2.2.2) kk_) ?_
        show Go p e below T89 (mkF m 187 #[.val (.int p0), .val (.int p1), .val (.int p2), .val (.int p3), .val (.long p4), .second, .val (.ref b1), .val (.int pp), .val (.int (2 : Int32)), .val (.int ((((p3.toUInt32 >>> ((4 : Int32) &&& 31).toUInt32).toInt32) &&& (255 : Int32)).toInt8.toInt32)), .val (.int pp), .val (.int o1), .val (.int o2), .val (.int o3), .val (.int o2), .val (.long c1), .second, .val (.long c2), .second, .val (.long c3), .second, .unset, .unset] []) _
        refine Go.of (fun tg_ kk_ => XS.iload X89.here hx rfl (hb hby at_187) rfl kk_) ?_
        show Go p e below T89 (mkF m 189 #[.val (.int p0), .val (.int p1), .val (.int p2), .val (.int p3), .val (.long p4), .second, .val (.ref b1), .val (.int pp), .val (.int (2 : Int32)), .val (.int ((((p3.toUInt32 >>> ((4 : Int32) &&& 31).toUInt32).toInt32) &&& (255 : Int32)).toInt8.toInt32)), .val (.int pp), .val (.int o1), .val (.int o2), .val (.int o3), .val (.int o2), .val (.long c1), .second, .val (.long c2), .second, .val (.long c3), .second, .unset, .unset] [(.int o1)]) _
        refine Go.of (fun tg_ kk_ => XS.istore X89.here hx rfl (hb hby at_189) rfl (l' := #[.val (.int p0), .val (.int p1), .val (.int p2), .val (.int p3), .val (.long p4), .second, .val (.ref b1), .val (.int pp), .val (.int (2 : Int32)), .val (.int ((((p3.toUInt32 >>> ((4 : Int32) &&& 31).toUInt32).toInt32) &&& (255 : Int32)).toInt8.toInt32)), .val (.int pp), .val (.int o1), .val (.int o2), .val (.int o3), .val (.int o2), .val (.long c1), .second, .val (.long c2), .second, .val (.long c3), .second, .val (.int o1), .unset]) rfl kk_) ?_
        show Go p e below T89 (mkF m 191 #[.val (.int p0), .val (.int p1), .val (.int p2), .val (.int p3), .val (.long p4), .second, .val (.ref b1), .val (.int pp), .val (.int (2 : Int32)), .val (.int ((((p3.toUInt32 >>> ((4 : Int32) &&& 31).toUInt32).toInt32) &&& (255 : Int32)).toInt8.toInt32)), .val (.int pp), .val (.int o1), .val (.int o2), .val (.int o3), .val (.int o2), .val (.long c1), .second, .val (.long c2), .second, .val (.long c3), .second, .val (.int o1), .unset] []) _
        refine Go.of (fun tg_ kk_ => XS.goto X89.here hx rfl (pc0 := 191) (pc' := 219) rfl (hb hby at_191) (by decide) (by decide) kk_) ?_
        show Go p e below T89 (mkF m 219 #[.val (.int p0), .val (.int p1), .val (.int p2), .val (.int p3), .val (.long p4), .second, .val (.ref b1), .val (.int pp), .val (.int (2 : Int32)), .val (.int ((((p3.toUInt32 >>> ((4 : Int32) &&& 31).toUInt32).toInt32) &&& (255 : Int32)).toInt8.toInt32)), .val (.int pp), .val (.int o1), .val (.int o2), .val (.int o3), .val (.int o2), .val (.long c1), .second, .val (.long c2), .second, .val (.long c3), .second, .val (.int o1), .unset] []) _
        refine Go.of (fun tg_ kk_ => XS.aload X89.here hx rfl (hb hby at_219) rfl rfl kk_) ?_
        show Go p e below T89 (mkF m 221 #[.val (.int p0), .val (.int p1), .val (.int p2), .val (.int p3), .val (.long p4), .second, .val (.ref b1), .val (.int pp), .val (.int (2 : Int32)), .val (.int ((((p3.toUInt32 >>> ((4 : Int32) &&& 31).toUInt32).toInt32) &&& (255 : Int32)).toInt8.toInt32)), .val (.int pp), .val (.int o1), .val (.int o2), .val (.int o3), .val (.int o2), .val (.long c1), .second, .val (.long c2), .second, .val (.long c3), .second, .val (.int o1), .unset] [(.ref b1)]) _
        refine Go.of (fun tg_ kk_ => XS.iload X89.here hx rfl (hb hby at_221) rfl kk_) ?_
        show Go p e below T89 (mkF m 223 #[.val (.int p0), .val (.int p1), .val (.int p2), .val (.int p3), .val (.long p4), .second, .val (.ref b1), .val (.int pp), .val (.int (2 : Int32)), .val (.int ((((p3.toUInt32 >>> ((4 : Int32) &&& 31).toUInt32).toInt32) &&& (255 : Int32)).toInt8.toInt32)), .val (.int pp), .val (.int o1), .val (.int o2), .val (.int o3), .val (.int o2), .val (.long c1), .second, .val (.long c2), .second, .val (.long c3), .second, .val (.int o1), .unset] [(.int pp), (.ref b1)]) _
        refine Go.of (fun tg_ kk_ => XS.iload X89.here hx rfl (hb hby at_223) rfl kk_) ?_
        show Go p e below T89 (mkF m 225 #[.val (.int p0), .val (.int p1), .val (.int p2), .val (.int p3), .val (.long p4), .second, .val (.ref b1), .val (.int pp), .val (.int (2 : Int32)), .val (.int ((((p3.toUInt32 >>> ((4 : Int32) &&& 31).toUInt32).toInt32) &&& (255 : Int32)).toInt8.toInt32)), .val (.int pp), .val (.int o1), .val (.int o2), .val (.int o3), .val (.int o2), .val (.long c1), .second, .val (.long c2), .second, .val (.long c3), .second, .val (.int o1), .unset] [(.int o2), (.int pp), (.ref b1)]) _
        refine Go.of (fun tg_ kk_ => XS.lload X89.here hx rfl (hb hby at_225) rfl kk_) ?_
        show Go p e below T89 (mkF m 227 #[.val (.int p0), .val (.int p1), .val (.int p2), .val (.int p3), .val (.long p4), .second, .val (.ref b1), .val (.int pp), .val (.int (2 : Int32)), .val (.int ((((p3.toUInt32 >>> ((4 : Int32) &&& 31).toUInt32).toInt32) &&& (255 : Int32)).toInt8.toInt32)), .val (.int pp), .val (.int o1), .val (.int o2), .val (.int o3), .val (.int o2), .val (.long c1), .second, .val (.long c2), .second, .val (.long c3), .second, .val (.int o1), .unset] [(.long p4), (.int o2), (.int pp), (.ref b1)]) _
        obtain ⟨_, _, ⟨T93, L93, k93, n93⟩, -, X93, ⟨Lc93, hQ93, l93, y93, z93⟩, st93⟩ := Jvm.LawKit.callS X89 hx (y := (⟨"com/example/diagnostic/diagnostic/Utf8", "offsetOfUnit", "([BIIJ)I"⟩ : MethodName)) hown (mvT hZ (hw _ (List.mem_of_getElem? (i := 9) rfl))) (mvT hZ (hw _ (List.mem_of_getElem? (i := 10) rfl))) (mvT hZ (hw _ (List.mem_of_getElem? (i := 11) rfl))) (mvT hZ (hw _ (List.mem_of_getElem? (i := 12) rfl))) (by decide) (backOf (W := 0) (rm3 l Z a0 hw [] b1 pp o2 p4 g83 T83.heap n0 Zs86 V83 hb0.1 (by have := hb2; omega)) hZ (hw _ (List.mem_of_getElem? (i := 12) rfl)) (hw _ (List.mem_of_getElem? (i := 11) rfl)) (by decide) (by decide)) (g := (mkF m 227 #[.val (.int p0), .val (.int p1), .val (.int p2), .val (.int p3), .val (.long p4), .second, .val (.ref b1), .val (.int pp), .val (.int (2 : Int32)), .val (.int ((((p3.toUInt32 >>> ((4 : Int32) &&& 31).toUInt32).toInt32) &&& (255 : Int32)).toInt8.toInt32)), .val (.int pp), .val (.int o1), .val (.int o2), .val (.int o3), .val (.int o2), .val (.long c1), .second, .val (.long c2), .second, .val (.long c3), .second, .val (.int o1), .unset] [(.long p4), (.int o2), (.int pp), (.ref b1)])) rfl (by rw [hml]; rfl) (argsL := [(.ref b1), (.int pp), (.int o2), (.long p4)]) (rest := []) (lenOf pd_2 rfl) rfl (by show 2 * 0 + _ ≤ _; exact Nat.le_of_eq rfl) (hb hby at_227) (fun _ _ => ⟨rfl, e89, (by decide : 1 + 0 ≤ _), (by decide : 16 + 0 ≤ _)⟩)
        dsimp only [Pt.U, Pt.locs, Pt.cells, Pt.slots] at X93 l93 y93 z93 st93 hQ93
        subst l93 y93 z93
        obtain ⟨rfl, N93q, e93⟩ := hQ93
        have N93 := Fr.app N89 N93q
        refine Go.of (st93) ?_
        show Go p e below T93 (mkF m 230 #[.val (.int p0), .val (.int p1), .val (.int p2), .val (.int p3), .val (.long p4), .second, .val (.ref b1), .val (.int pp), .val (.int (2 : Int32)), .val (.int ((((p3.toUInt32 >>> ((4 : Int32) &&& 31).toUInt32).toInt32) &&& (255 : Int32)).toInt8.toInt32)), .val (.int pp), .val (.int o1), .val (.int o2), .val (.int o3), .val (.int o2), .val (.long c1), .second, .val (.long c2), .second, .val (.long c3), .second, .val (.int o1), .unset] [(.int (scan 16 g83 pp o2 0 p4))]) _
        refine Go.of (fun tg_ kk_ => XS.istore X93.here hx rfl (hb hby at_230) rfl (l' := #[.val (.int p0), .val (.int p1), .val (.int p2), .val (.int p3), .val (.long p4), .second, .val (.ref b1), .val (.int pp), .val (.int (2 : Int32)), .val (.int ((((p3.toUInt32 >>> ((4 : Int32) &&& 31).toUInt32).toInt32) &&& (255 : Int32)).toInt8.toInt32)), .val (.int pp), .val (.int o1), .val (.int o2), .val (.int o3), .val (.int o2), .val (.long c1), .second, .val (.long c2), .second, .val (.long c3), .second, .val (.int o1), .val (.int (scan 16 g83 pp o2 0 p4))]) rfl kk_) ?_
        show Go p e below T93 (mkF m 232 #[.val (.int p0), .val (.int p1), .val (.int p2), .val (.int p3), .val (.long p4), .second, .val (.ref b1), .val (.int pp), .val (.int (2 : Int32)), .val (.int ((((p3.toUInt32 >>> ((4 : Int32) &&& 31).toUInt32).toInt32) &&& (255 : Int32)).toInt8.toInt32)), .val (.int pp), .val (.int o1), .val (.int o2), .val (.int o3), .val (.int o2), .val (.long c1), .second, .val (.long c2), .second, .val (.long c3), .second, .val (.int o1), .val (.int (scan 16 g83 pp o2 0 p4))] []) _
        refine Go.of (fun tg_ kk_ => XS.iload X93.here hx rfl (hb hby at_232) rfl kk_) ?_
        show Go p e below T93 (mkF m 234 #[.val (.int p0), .val (.int p1), .val (.int p2), .val (.int p3), .val (.long p4), .second, .val (.ref b1), .val (.int pp), .val (.int (2 : Int32)), .val (.int ((((p3.toUInt32 >>> ((4 : Int32) &&& 31).toUInt32).toInt32) &&& (255 : Int32)).toInt8.toInt32)), .val (.int pp), .val (.int o1), .val (.int o2), .val (.int o3), .val (.int o2), .val (.long c1), .second, .val (.long c2), .second, .val (.long c3), .second, .val (.int o1), .val (.int (scan 16 g83 pp o2 0 p4))] [(.int (scan 16 g83 pp o2 0 p4))]) _
        refine Go.of (fun tg_ kk_ => XS.iload X93.here hx rfl (hb hby at_234) rfl kk_) ?_
        show Go p e below T93 (mkF m 236 #[.val (.int p0), .val (.int p1), .val (.int p2), .val (.int p3), .val (.long p4), .second, .val (.ref b1), .val (.int pp), .val (.int (2 : Int32)), .val (.int ((((p3.toUInt32 >>> ((4 : Int32) &&& 31).toUInt32).toInt32) &&& (255 : Int32)).toInt8.toInt32)), .val (.int pp), .val (.int o1), .val (.int o2), .val (.int o3), .val (.int o2), .val (.long c1), .second, .val (.long c2), .second, .val (.long c3), .second, .val (.int o1), .val (.int (scan 16 g83 pp o2 0 p4))] [(.int o1), (.int (scan 16 g83 pp o2 0 p4))]) _
        refine Go.of (fun tg_ kk_ => XS.icmpNo X93.here hx rfl (hb hby at_236) rfl (teq (show (scan 16 g83 pp o2 0 p4) = o1 from (by rw [own_r1 (by omega) hl0 qo1 (own_z0 _ _ qc1), if_neg hc90, own_r1 (by omega) hl1 qo2 qc2, if_pos hc92]))).2 kk_) ?_
        show Go p e below T93 (mkF m 239 #[.val (.int p0), .val (.int p1), .val (.int p2), .val (.int p3), .val (.long p4), .second, .val (.ref b1), .val (.int pp), .val (.int (2 : Int32)), .val (.int ((((p3.toUInt32 >>> ((4 : Int32) &&& 31).toUInt32).toInt32) &&& (255 : Int32)).toInt8.toInt32)), .val (.int pp), .val (.int o1), .val (.int o2), .val (.int o3), .val (.int o2), .val (.long c1), .second, .val (.long c2), .second, .val (.long c3), .second, .val (.int o1), .val (.int (scan 16 g83 pp o2 0 p4))] []) _
        refine Go.of (fun tg_ kk_ => XS.iconst X93.here hx rfl (hb hby at_239) kk_) ?_
        show Go p e below T93 (mkF m 240 #[.val (.int p0), .val (.int p1), .val (.int p2), .val (.int p3), .val (.long p4), .second, .val (.ref b1), .val (.int pp), .val (.int (2 : Int32)), .val (.int ((((p3.toUInt32 >>> ((4 : Int32) &&& 31).toUInt32).toInt32) &&& (255 : Int32)).toInt8.toInt32)), .val (.int pp), .val (.int o1), .val (.int o2), .val (.int o3), .val (.int o2), .val (.long c1), .second, .val (.long c2), .second, .val (.long c3), .second, .val (.int o1), .val (.int (scan 16 g83 pp o2 0 p4))] [(.int (1 : Int32))]) _
        refine Go.of (fun tg_ kk_ => XS.goto X93.here hx rfl (pc0 := 240) (pc' := 244) rfl (hb hby at_240) (by decide) (by decide) kk_) ?_
        show Go p e below T93 (mkF m 244 #[.val (.int p0), .val (.int p1), .val (.int p2), .val (.int p3), .val (.long p4), .second, .val (.ref b1), .val (.int pp), .val (.int (2 : Int32)), .val (.int ((((p3.toUInt32 >>> ((4 : Int32) &&& 31).toUInt32).toInt32) &&& (255 : Int32)).toInt8.toInt32)), .val (.int pp), .val (.int o1), .val (.int o2), .val (.int o3), .val (.int o2), .val (.long c1), .second, .val (.long c2), .second, .val (.long c3), .second, .val (.int o1), .val (.int (scan 16 g83 pp o2 0 p4))] [(.int (1 : Int32))]) _
        obtain ⟨fs, hr, hrun, hended, hW, hsame⟩ := X93.leave (v := some (.int (1 : Int32))) (fun h => by rw [Bd.returns] at h; cases h)
        refine ⟨_, _, ?_, hrun, hended, _, _, rfl, ?_, ⟨_, rfl⟩, hW, hsame.mono (by decide) (by decide)⟩
        · exact retN X93 hx (t := .boolean) Bd.returns (by simp) (hb hby at_244) hr
        · show Q0 Z p0 p1 p2 p3 p4 h0 n0 _ T93.heap _
          rw [e93]
          exact ⟨rfl, N93⟩
      · skip
        refine Go.of (fun tg_ kk_ => XS.ifYes X89.here hx rfl (pc0 := 184) (pc' := 194) rfl (hb hby at_184) rfl ((if0 _ _).trans (flt (fun q => hc92 ((lw_gt c2 p4).mp q))).2.2.2) (by decide) (by decide) kk_) ?_
        show Go p e below T89 (mkF m 194 #[.val (.int p0), .val (.int p1), .val (.int p2), .val (.int p3), .val (.long p4), .second, .val (.ref b1), .val (.int pp), .val (.int (2 : Int32)), .val (.int ((((p3.toUInt32 >>> ((4 : Int32) &&& 31).toUInt32).toInt32) &&& (255 : Int32)).toInt8.toInt32)), .val (.int pp), .val (.int o1), .val (.int o2), .val (.int o3), .val (.int o2), .val (.long c1), .second, .val (.long c2), .second, .val (.long c3), .second, .unset, .unset] []) _
        refine Go.of (fun tg_ kk_ => XS.iload X89.here hx rfl (hb hby at_194) rfl kk_) ?_
        show Go p e below T89 (mkF m 196 #[.val (.int p0), .val (.int p1), .val (.int p2), .val (.int p3), .val (.long p4), .second, .val (.ref b1), .val (.int pp), .val (.int (2 : Int32)), .val (.int ((((p3.toUInt32 >>> ((4 : Int32) &&& 31).toUInt32).toInt32) &&& (255 : Int32)).toInt8.toInt32)), .val (.int pp), .val (.int o1), .val (.int o2), .val (.int o3), .val (.int o2), .val (.long c1), .second, .val (.long c2), .second, .val (.long c3), .second, .unset, .unset] [(.int (2 : Int32))]) _
        refine Go.of (fun tg_ kk_ => XS.iconst X89.here hx rfl (hb hby at_196) kk_) ?_
        show Go p e below T89 (mkF m 197 #[.val (.int p0), .val (.int p1), .val (.int p2), .val (.int p3), .val (.long p4), .second, .val (.ref b1), .val (.int pp), .val (.int (2 : Int32)), .val (.int ((((p3.toUInt32 >>> ((4 : Int32) &&& 31).toUInt32).toInt32) &&& (255 : Int32)).toInt8.toInt32)), .val (.int pp), .val (.int o1), .val (.int o2), .val (.int o3), .val (.int o2), .val (.long c1), .second, .val (.long c2), .second, .val (.long c3), .second, .unset, .unset] [(.int (3 : Int32)), (.int (2 : Int32))]) _
        refine Go.of (fun tg_ kk_ => XS.icmpYes X89.here hx rfl (pc0 := 197) (pc' := 215) rfl (hb hby at_197) rfl (tlt (show (2 : Int32) < (3 : Int32) by decide)).1 (by decide) (by decide) kk_) ?_
        show Go p e below T89 (mkF m 215 #[.val (.int p0), .val (.int p1), .val (.int p2), .val (.int p3), .val (.long p4), .second, .val (.ref b1), .val (.int pp), .val (.int (2 : Int32)), .val (.int ((((p3.toUInt32 >>> ((4 : Int32) &&& 31).toUInt32).toInt32) &&& (255 : Int32)).toInt8.toInt32)), .val (.int pp), .val (.int o1), .val (.int o2), .val (.int o3), .val (.int o2), .val (.long c1), .second, .val (.long c2), .second, .val (.long c3), .second, .unset, .unset] []) _
        refine Go.of (fun tg_ kk_ => XS.iload X89.here hx rfl (hb hby at_215) rfl kk_) ?_
        show Go p e below T89 (mkF m 217 #[.val (.int p0), .val (.int p1), .val (.int p2), .val (.int p3), .val (.long p4), .second, .val (.ref b1), .val (.int pp), .val (.int (2 : Int32)), .val (.int ((((p3.toUInt32 >>> ((4 : Int32) &&& 31).toUInt32).toInt32) &&& (255 : Int32)).toInt8.toInt32)), .val (.int pp), .val (.int o1), .val (.int o2), .val (.int o3), .val (.int o2), .val (.long c1), .second, .val (.long c2), .second, .val (.long c3), .second, .unset, .unset] [(.int o2)]) _
        refine Go.of (fun tg_ kk_ => XS.istore X89.here hx rfl (hb hby at_217) rfl (l' := #[.val (.int p0), .val (.int p1), .val (.int p2), .val (.int p3), .val (.long p4), .second, .val (.ref b1), .val (.int pp), .val (.int (2 : Int32)), .val (.int ((((p3.toUInt32 >>> ((4 : Int32) &&& 31).toUInt32).toInt32) &&& (255 : Int32)).toInt8.toInt32)), .val (.int pp), .val (.int o1), .val (.int o2), .val (.int o3), .val (.int o2), .val (.long c1), .second, .val (.long c2), .second, .val (.long c3), .second, .val (.int o2), .unset]) rfl kk_) ?_
        show Go p e below T89 (mkF m 219 #[.val (.int p0), .val (.int p1), .val (.int p2), .val (.int p3), .val (.long p4), .second, .val (.ref b1), .val (.int pp), .val (.int (2 : Int32)), .val (.int ((((p3.toUInt32 >>> ((4 : Int32) &&& 31).toUInt32).toInt32) &&& (255 : Int32)).toInt8.toInt32)), .val (.int pp), .val (.int o1), .val (.int o2), .val (.int o3), .val (.int o2), .val (.long c1), .second, .val (.long c2), .second, .val (.long c3), .second, .val (.int o2), .unset] []) _
        refine Go.of (fun tg_ kk_ => XS.aload X89.here hx rfl (hb hby at_219) rfl rfl kk_) ?_
        show Go p e below T89 (mkF m 221 #[.val (.int p0), .val (.int p1), .val (.int p2), .val (.int p3), .val (.long p4), .second, .val (.ref b1), .val (.int pp), .val (.int (2 : Int32)), .val (.int ((((p3.toUInt32 >>> ((4 : Int32) &&& 31).toUInt32).toInt32) &&& (255 : Int32)).toInt8.toInt32)), .val (.int pp), .val (.int o1), .val (.int o2), .val (.int o3), .val (.int o2), .val (.long c1), .second, .val (.long c2), .second, .val (.long c3), .second, .val (.int o2), .unset] [(.ref b1)]) _
        refine Go.of (fun tg_ kk_ => XS.iload X89.here hx rfl (hb hby at_221) rfl kk_) ?_
        show Go p e below T89 (mkF m 223 #[.val (.int p0), .val (.int p1), .val (.int p2), .val (.int p3), .val (.long p4), .second, .val (.ref b1), .val (.int pp), .val (.int (2 : Int32)), .val (.int ((((p3.toUInt32 >>> ((4 : Int32) &&& 31).toUInt32).toInt32) &&& (255 : Int32)).toInt8.toInt32)), .val (.int pp), .val (.int o1), .val (.int o2), .val (.int o3), .val (.int o2), .val (.long c1), .second, .val (.long c2), .second, .val (.long c3), .second, .val (.int o2), .unset] [(.int pp), (.ref b1)]) _
        refine Go.of (fun tg_ kk_ => XS.iload X89.here hx rfl (hb hby at_223) rfl kk_) ?_
        show Go p e below T89 (mkF m 225 #[.val (.int p0), .val (.int p1), .val (.int p2), .val (.int p3), .val (.long p4), .second, .val (.ref b1), .val (.int pp), .val (.int (2 : Int32)), .val (.int ((((p3.toUInt32 >>> ((4 : Int32) &&& 31).toUInt32).toInt32) &&& (255 : Int32)).toInt8.toInt32)), .val (.int pp), .val (.int o1), .val (.int o2), .val (.int o3), .val (.int o2), .val (.long c1), .second, .val (.long c2), .second, .val (.long c3), .second, .val (.int o2), .unset] [(.int o2), (.int pp), (.ref b1)]) _
        refine Go.of (fun tg_ kk_ => XS.lload X89.here hx rfl (hb hby at_225) rfl kk_) ?_
        show Go p e below T89 (mkF m 227 #[.val (.int p0), .val (.int p1), .val (.int p2), .val (.int p3), .val (.long p4), .second, .val (.ref b1), .val (.int pp), .val (.int (2 : Int32)), .val (.int ((((p3.toUInt32 >>> ((4 : Int32) &&& 31).toUInt32).toInt32) &&& (255 : Int32)).toInt8.toInt32)), .val (.int pp), .val (.int o1), .val (.int o2), .val (.int o3), .val (.int o2), .val (.long c1), .second, .val (.long c2), .second, .val (.long c3), .second, .val (.int o2), .unset] [(.long p4), (.int o2), (.int pp), (.ref b1)]) _
        obtain ⟨_, _, ⟨T94, L94, k94, n94⟩, -, X94, ⟨Lc94, hQ94, l94, y94, z94⟩, st94⟩ := Jvm.LawKit.callS X89 hx (y := (⟨"com/example/diagnostic/diagnostic/Utf8", "offsetOfUnit", "([BIIJ)I"⟩ : MethodName)) hown (mvT hZ (hw _ (List.mem_of_getElem? (i := 9) rfl))) (mvT hZ (hw _ (List.mem_of_getElem? (i := 10) rfl))) (mvT hZ (hw _ (List.mem_of_getElem? (i := 11) rfl))) (mvT hZ (hw _ (List.mem_of_getElem? (i := 12) rfl))) (by decide) (backOf (W := 0) (rm3 l Z a0 hw [] b1 pp o2 p4 g83 T83.heap n0 Zs86 V83 hb0.1 (by have := hb2; omega)) hZ (hw _ (List.mem_of_getElem? (i := 12) rfl)) (hw _ (List.mem_of_getElem? (i := 11) rfl)) (by decide) (by decide)) (g := (mkF m 227 #[.val (.int p0), .val (.int p1), .val (.int p2), .val (.int p3), .val (.long p4), .second, .val (.ref b1), .val (.int pp), .val (.int (2 : Int32)), .val (.int ((((p3.toUInt32 >>> ((4 : Int32) &&& 31).toUInt32).toInt32) &&& (255 : Int32)).toInt8.toInt32)), .val (.int pp), .val (.int o1), .val (.int o2), .val (.int o3), .val (.int o2), .val (.long c1), .second, .val (.long c2), .second, .val (.long c3), .second, .val (.int o2), .unset] [(.long p4), (.int o2), (.int pp), (.ref b1)])) rfl (by rw [hml]; rfl) (argsL := [(.ref b1), (.int pp), (.int o2), (.long p4)]) (rest := []) (lenOf pd_2 rfl) rfl (by show 2 * 0 + _ ≤ _; exact Nat.le_of_eq rfl) (hb hby at_227) (fun _ _ => ⟨rfl, e89, (by decide : 1 + 0 ≤ _), (by decide : 16 + 0 ≤ _)⟩)
        dsimp only [Pt.U, Pt.locs, Pt.cells, Pt.slots] at X94 l94 y94 z94 st94 hQ94
        subst l94 y94 z94
        obtain ⟨rfl, N94q, e94⟩ := hQ94
        have N94 := Fr.app N89 N94q
        refine Go.of (st94) ?_
        show Go p e below T94 (mkF m 230 #[.val (.int p0), .val (.int p1), .val (.int p2), .val (.int p3), .val (.long p4), .second, .val (.ref b1), .val (.int pp), .val (.int (2 : Int32)), .val (.int ((((p3.toUInt32 >>> ((4 : Int32) &&& 31).toUInt32).toInt32) &&& (255 : Int32)).toInt8.toInt32)), .val (.int pp), .val (.int o1), .val (.int o2), .val (.int o3), .val (.int o2), .val (.long c1), .second, .val (.long c2), .second, .val (.long c3), .second, .val (.int o2), .unset] [(.int (scan 16 g83 pp o2 0 p4))]) _
        refine Go.of (fun tg_ kk_ => XS.istore X94.here hx rfl (hb hby at_230) rfl (l' := #[.val (.int p0), .val (.int p1), .val (.int p2), .val (.int p3), .val (.long p4), .second, .val (.ref b1), .val (.int pp), .val (.int (2 : Int32)), .val (.int ((((p3.toUInt32 >>> ((4 : Int32) &&& 31).toUInt32).toInt32) &&& (255 : Int32)).toInt8.toInt32)), .val (.int pp), .val (.int o1), .val (.int o2), .val (.int o3), .val (.int o2), .val (.long c1), .second, .val (.long c2), .second, .val (.long c3), .second, .val (.int o2), .val (.int (scan 16 g83 pp o2 0 p4))]) rfl kk_) ?_
        show Go p e below T94 (mkF m 232 #[.val (.int p0), .val (.int p1), .val (.int p2), .val (.int p3), .val (.long p4), .second, .val (.ref b1), .val (.int pp), .val (.int (2 : Int32)), .val (.int ((((p3.toUInt32 >>> ((4 : Int32) &&& 31).toUInt32).toInt32) &&& (255 : Int32)).toInt8.toInt32)), .val (.int pp), .val (.int o1), .val (.int o2), .val (.int o3), .val (.int o2), .val (.long c1), .second, .val (.long c2), .second, .val (.long c3), .second, .val (.int o2), .val (.int (scan 16 g83 pp o2 0 p4))] []) _
        refine Go.of (fun tg_ kk_ => XS.iload X94.here hx rfl (hb hby at_232) rfl kk_) ?_
        show Go p e below T94 (mkF m 234 #[.val (.int p0), .val (.int p1), .val (.int p2), .val (.int p3), .val (.long p4), .second, .val (.ref b1), .val (.int pp), .val (.int (2 : Int32)), .val (.int ((((p3.toUInt32 >>> ((4 : Int32) &&& 31).toUInt32).toInt32) &&& (255 : Int32)).toInt8.toInt32)), .val (.int pp), .val (.int o1), .val (.int o2), .val (.int o3), .val (.int o2), .val (.long c1), .second, .val (.long c2), .second, .val (.long c3), .second, .val (.int o2), .val (.int (scan 16 g83 pp o2 0 p4))] [(.int (scan 16 g83 pp o2 0 p4))]) _
        refine Go.of (fun tg_ kk_ => XS.iload X94.here hx rfl (hb hby at_234) rfl kk_) ?_
        show Go p e below T94 (mkF m 236 #[.val (.int p0), .val (.int p1), .val (.int p2), .val (.int p3), .val (.long p4), .second, .val (.ref b1), .val (.int pp), .val (.int (2 : Int32)), .val (.int ((((p3.toUInt32 >>> ((4 : Int32) &&& 31).toUInt32).toInt32) &&& (255 : Int32)).toInt8.toInt32)), .val (.int pp), .val (.int o1), .val (.int o2), .val (.int o3), .val (.int o2), .val (.long c1), .second, .val (.long c2), .second, .val (.long c3), .second, .val (.int o2), .val (.int (scan 16 g83 pp o2 0 p4))] [(.int o2), (.int (scan 16 g83 pp o2 0 p4))]) _
        refine Go.of (fun tg_ kk_ => XS.icmpNo X94.here hx rfl (hb hby at_236) rfl (teq (show (scan 16 g83 pp o2 0 p4) = o2 from (by rw [own_r1 (by omega) hl0 qo1 (own_z0 _ _ qc1), if_neg hc90, own_r1 (by omega) hl1 qo2 qc2, if_neg hc92, own_r0]))).2 kk_) ?_
        show Go p e below T94 (mkF m 239 #[.val (.int p0), .val (.int p1), .val (.int p2), .val (.int p3), .val (.long p4), .second, .val (.ref b1), .val (.int pp), .val (.int (2 : Int32)), .val (.int ((((p3.toUInt32 >>> ((4 : Int32) &&& 31).toUInt32).toInt32) &&& (255 : Int32)).toInt8.toInt32)), .val (.int pp), .val (.int o1), .val (.int o2), .val (.int o3), .val (.int o2), .val (.long c1), .second, .val (.long c2), .second, .val (.long c3), .second, .val (.int o2), .val (.int (scan 16 g83 pp o2 0 p4))] []) _
        refine Go.of (fun tg_ kk_ => XS.iconst X94.here hx rfl (hb hby at_239) kk_) ?_
        show Go p e below T94 (mkF m 240 #[.val (.int p0), .val (.int p1), .val (.int p2), .val (.int p3), .val (.long p4), .second, .val (.ref b1), .val (.int pp), .val (.int (2 : Int32)), .val (.int ((((p3.toUInt32 >>> ((4 : Int32) &&& 31).toUInt32).toInt32) &&& (255 : Int32)).toInt8.toInt32)), .val (.int pp), .val (.int o1), .val (.int o2), .val (.int o3), .val (.int o2), .val (.long c1), .second, .val (.long c2), .second, .val (.long c3), .second, .val (.int o2), .val (.int (scan 16 g83 pp o2 0 p4))] [(.int (1 : Int32))]) _
        refine Go.of (fun tg_ kk_ => XS.goto X94.here hx rfl (pc0 := 240) (pc' := 244) rfl (hb hby at_240) (by decide) (by decide) kk_) ?_
        show Go p e below T94 (mkF m 244 #[.val (.int p0), .val (.int p1), .val (.int p2), .val (.int p3), .val (.long p4), .second, .val (.ref b1), .val (.int pp), .val (.int (2 : Int32)), .val (.int ((((p3.toUInt32 >>> ((4 : Int32) &&& 31).toUInt32).toInt32) &&& (255 : Int32)).toInt8.toInt32)), .val (.int pp), .val (.int o1), .val (.int o2), .val (.int o3), .val (.int o2), .val (.long c1), .second, .val (.long c2), .second, .val (.long c3), .second, .val (.int o2), .val (.int (scan 16 g83 pp o2 0 p4))] [(.int (1 : Int32))]) _
        obtain ⟨fs, hr, hrun, hended, hW, hsame⟩ := X94.leave (v := some (.int (1 : Int32))) (fun h => by rw [Bd.returns] at h; cases h)
        refine ⟨_, _, ?_, hrun, hended, _, _, rfl, ?_, ⟨_, rfl⟩, hW, hsame.mono (by decide) (by decide)⟩
        · exact retN X94 hx (t := .boolean) Bd.returns (by simp) (hb hby at_244) hr
        · show Q0 Z p0 p1 p2 p3 p4 h0 n0 _ T94.heap _
          rw [e94]
          exact ⟨rfl, N94⟩
  · subst hs4
    show Go p e below T1 (mkF m 16 #[.val (.int p0), .val (.int p1), .val (.int p2), .val (.int p3), .val (.long p4), .second, .val (.ref b1), .val (.int pp), .unset, .unset, .unset, .unset, .unset, .unset, .unset, .unset, .unset, .unset, .unset, .unset, .unset, .unset, .unset] [(.int (3 : Int32))]) _
    refine Go.of (fun tg_ kk_ => XS.istore X1.here hx rfl (hb hby at_16) rfl (l' := #[.val (.int p0), .val (.int p1), .val (.int p2), .val (.int p3), .val (.long p4), .second, .val (.ref b1), .val (.int pp), .val (.int (3 : Int32)), .unset, .unset, .unset, .unset, .unset, .unset, .unset, .unset, .unset, .unset, .unset, .unset, .unset, .unset]) rfl kk_) ?_
    show Go p e below T1 (mkF m 18 #[.val (.int p0), .val (.int p1), .val (.int p2), .val (.int p3), .val (.long p4), .second, .val (.ref b1), .val (.int pp), .val (.int (3 : Int32)), .unset, .unset, .unset, .unset, .unset, .unset, .unset, .unset, .unset, .unset, .unset, .unset, .unset, .unset] []) _
    refine Go.of (fun tg_ kk_ => XS.iloadN X1.here hx rfl (hb hby at_18) rfl kk_) ?_
    show Go p e below T1 (mkF m 19 #[.val (.int p0), .val (.int p1), .val (.int p2), .val (.int p3), .val (.long p4), .second, .val (.ref b1), .val (.int pp), .val (.int (3 : Int32)), .unset, .unset, .unset, .unset, .unset, .unset, .unset, .unset, .unset, .unset, .unset, .unset, .unset, .unset] [(.int p3)]) _
    refine Go.of (fun tg_ kk_ => XS.iconst X1.here hx rfl (hb hby at_19) kk_) ?_
    show Go p e below T1 (mkF m 20 #[.val (.int p0), .val (.int p1), .val (.int p2), .val (.int p3), .val (.long p4), .second, .val (.ref b1), .val (.int pp), .val (.int (3 : Int32)), .unset, .unset, .unset, .unset, .unset, .unset, .unset, .unset, .unset, .unset, .unset, .unset, .unset, .unset] [(.int (4 : Int32)), (.int p3)]) _
    refine Go.of (fun tg_ kk_ => XS.iushr X1.here hx rfl (hb hby at_20) rfl kk_) ?_
    show Go p e below T1 (mkF m 21 #[.val (.int p0), .val (.int p1), .val (.int p2), .val (.int p3), .val (.long p4), .second, .val (.ref b1), .val (.int pp), .val (.int (3 : Int32)), .unset, .unset, .unset, .unset, .unset, .unset, .unset, .unset, .unset, .unset, .unset, .unset, .unset, .unset] [(.int ((p3.toUInt32 >>> ((4 : Int32) &&& 31).toUInt32).toInt32))]) _
    refine Go.of (fun tg_ kk_ => XS.sipush X1.here hx rfl (hb hby at_21) kk_) ?_
    show Go p e below T1 (mkF m 24 #[.val (.int p0), .val (.int p1), .val (.int p2), .val (.int p3), .val (.long p4), .second, .val (.ref b1), .val (.int pp), .val (.int (3 : Int32)), .unset, .unset, .unset, .unset, .unset, .unset, .unset, .unset, .unset, .unset, .unset, .unset, .unset, .unset] [(.int (255 : Int32)), (.int ((p3.toUInt32 >>> ((4 : Int32) &&& 31).toUInt32).toInt32))]) _
    refine Go.of (fun tg_ kk_ => XS.iand X1.here hx rfl (hb hby at_24) rfl kk_) ?_
    show Go p e below T1 (mkF m 25 #[.val (.int p0), .val (.int p1), .val (.int p2), .val (.int p3), .val (.long p4), .second, .val (.ref b1), .val (.int pp), .val (.int (3 : Int32)), .unset, .unset, .unset, .unset, .unset, .unset, .unset, .unset, .unset, .unset, .unset, .unset, .unset, .unset] [(.int (((p3.toUInt32 >>> ((4 : Int32) &&& 31).toUInt32).toInt32) &&& (255 : Int32)))]) _
    refine Go.of (fun tg_ kk_ => XS.i2b X1.here hx rfl (hb hby at_25) rfl kk_) ?_
    show Go p e below T1 (mkF m 26 #[.val (.int p0), .val (.int p1), .val (.int p2), .val (.int p3), .val (.long p4), .second, .val (.ref b1), .val (.int pp), .val (.int (3 : Int32)), .unset, .unset, .unset, .unset, .unset, .unset, .unset, .unset, .unset, .unset, .unset, .unset, .unset, .unset] [(.int ((((p3.toUInt32 >>> ((4 : Int32) &&& 31).toUInt32).toInt32) &&& (255 : Int32)).toInt8.toInt32))]) _
    refine Go.of (fun tg_ kk_ => XS.istore X1.here hx rfl (hb hby at_26) rfl (l' := #[.val (.int p0), .val (.int p1), .val (.int p2), .val (.int p3), .val (.long p4), .second, .val (.ref b1), .val (.int pp), .val (.int (3 : Int32)), .val (.int ((((p3.toUInt32 >>> ((4 : Int32) &&& 31).toUInt32).toInt32) &&& (255 : Int32)).toInt8.toInt32)), .unset, .unset, .unset, .unset, .unset, .unset, .unset, .unset, .unset, .unset, .unset, .unset, .unset]) rfl kk_) ?_
    show Go p e below T1 (mkF m 28 #[.val (.int p0), .val (.int p1), .val (.int p2), .val (.int p3), .val (.long p4), .second, .val (.ref b1), .val (.int pp), .val (.int (3 : Int32)), .val (.int ((((p3.toUInt32 >>> ((4 : Int32) &&& 31).toUInt32).toInt32) &&& (255 : Int32)).toInt8.toInt32)), .unset, .unset, .unset, .unset, .unset, .unset, .unset, .unset, .unset, .unset, .unset, .unset, .unset] []) _
    refine Go.of (fun tg_ kk_ => XS.aload X1.here hx rfl (hb hby at_28) rfl rfl kk_) ?_
    show Go p e below T1 (mkF m 30 #[.val (.int p0), .val (.int p1), .val (.int p2), .val (.int p3), .val (.long p4), .second, .val (.ref b1), .val (.int pp), .val (.int (3 : Int32)), .val (.int ((((p3.toUInt32 >>> ((4 : Int32) &&& 31).toUInt32).toInt32) &&& (255 : Int32)).toInt8.toInt32)), .unset, .unset, .unset, .unset, .unset, .unset, .unset, .unset, .unset, .unset, .unset, .unset, .unset] [(.ref b1)]) _
    refine Go.of (fun tg_ kk_ => XS.iconst X1.here hx rfl (hb hby at_30) kk_) ?_
    show Go p e below T1 (mkF m 31 #[.val (.int p0), .val (.int p1), .val (.int p2), .val (.int p3), .val (.long p4), .second, .val (.ref b1), .val (.int pp), .val (.int (3 : Int32)), .val (.int ((((p3.toUInt32 >>> ((4 : Int32) &&& 31).toUInt32).toInt32) &&& (255 : Int32)).toInt8.toInt32)), .unset, .unset, .unset, .unset, .unset, .unset, .unset, .unset, .unset, .unset, .unset, .unset, .unset] [(.int (0 : Int32)), (.ref b1)]) _
    refine Go.of (fun tg_ kk_ => XS.iload X1.here hx rfl (hb hby at_31) rfl kk_) ?_
    show Go p e below T1 (mkF m 33 #[.val (.int p0), .val (.int p1), .val (.int p2), .val (.int p3), .val (.long p4), .second, .val (.ref b1), .val (.int pp), .val (.int (3 : Int32)), .val (.int ((((p3.toUInt32 >>> ((4 : Int32) &&& 31).toUInt32).toInt32) &&& (255 : Int32)).toInt8.toInt32)), .unset, .unset, .unset, .unset, .unset, .unset, .unset, .unset, .unset, .unset, .unset, .unset, .unset] [(.int ((((p3.toUInt32 >>> ((4 : Int32) &&& 31).toUInt32).toInt32) &&& (255 : Int32)).toInt8.toInt32)), (.int (0 : Int32)), (.ref b1)]) _
    have ib95 := (show ¬ ((0 : Int32) < 0) ∧ ((0 : Int32)).toNatClampNeg < 16 from ⟨by decide, by decide⟩)
    obtain ⟨cl95, Ar95, S95, H95⟩ := V1
    obtain ⟨T95, h95, X95, e95, W95, st95⟩ := stB X1 hx hZ e1 Ar95 (j := (0 : Int32)) (Af.inb S95 ib95) (g := (mkF m 33 #[.val (.int p0), .val (.int p1), .val (.int p2), .val (.int p3), .val (.long p4), .second, .val (.ref b1), .val (.int pp), .val (.int (3 : Int32)), .val (.int ((((p3.toUInt32 >>> ((4 : Int32) &&& 31).toUInt32).toInt32) &&& (255 : Int32)).toInt8.toInt32)), .unset, .unset, .unset, .unset, .unset, .unset, .unset, .unset, .unset, .unset, .unset, .unset, .unset] [(.int ((((p3.toUInt32 >>> ((4 : Int32) &&& 31).toUInt32).toInt32) &&& (255 : Int32)).toInt8.toInt32)), (.int (0 : Int32)), (.ref b1)])) rfl rfl (hb hby at_33)
    obtain ⟨f95, qf95⟩ : ∃ qq_ : Nat → Int32, qq_ = upd (fun _ => 0) 0 (nar .byte ((((p3.toUInt32 >>> ((4 : Int32) &&& 31).toUInt32).toInt32) &&& (255 : Int32)).toInt8.toInt32)) := ⟨_, rfl⟩
    have V95 : Af Z h95 b1 .byte 16 f95 := by rw [qf95]; exact Af.set Ar95 S95 H95 W95 (by decide)
    have K97 := K2.wr W95 (Or.inr sz1)
    have Zs98 : n0 ≤ h95.size := Nat.le_trans Zs3 (Keep.of_wr W95).1
    have N95 := Fr.snoc X95 N0 gx1
    refine Go.of (st95) ?_
    show Go p e below T95 (mkF m 34 #[.val (.int p0), .val (.int p1), .val (.int p2), .val (.int p3), .val (.long p4), .second, .val (.ref b1), .val (.int pp), .val (.int (3 : Int32)), .val (.int ((((p3.toUInt32 >>> ((4 : Int32) &&& 31).toUInt32).toInt32) &&& (255 : Int32)).toInt8.toInt32)), .unset, .unset, .unset, .unset, .unset, .unset, .unset, .unset, .unset, .unset, .unset, .unset, .unset] []) _
    refine Go.of (fun tg_ kk_ => XS.aload X95.here hx rfl (hb hby at_34) rfl rfl kk_) ?_
    show Go p e below T95 (mkF m 36 #[.val (.int p0), .val (.int p1), .val (.int p2), .val (.int p3), .val (.long p4), .second, .val (.ref b1), .val (.int pp), .val (.int (3 : Int32)), .val (.int ((((p3.toUInt32 >>> ((4 : Int32) &&& 31).toUInt32).toInt32) &&& (255 : Int32)).toInt8.toInt32)), .unset, .unset, .unset, .unset, .unset, .unset, .unset, .unset, .unset, .unset, .unset, .unset, .unset] [(.ref b1)]) _
    refine Go.of (fun tg_ kk_ => XS.iconst X95.here hx rfl (hb hby at_36) kk_) ?_
    show Go p e below T95 (mkF m 37 #[.val (.int p0), .val (.int p1), .val (.int p2), .val (.int p3), .val (.long p4), .second, .val (.ref b1), .val (.int pp), .val (.int (3 : Int32)), .val (.int ((((p3.toUInt32 >>> ((4 : Int32) &&& 31).toUInt32).toInt32) &&& (255 : Int32)).toInt8.toInt32)), .unset, .unset, .unset, .unset, .unset, .unset, .unset, .unset, .unset, .unset, .unset, .unset, .unset] [(.int (1 : Int32)), (.ref b1)]) _
    refine Go.of (fun tg_ kk_ => XS.iload X95.here hx rfl (hb hby at_37) rfl kk_) ?_
    show Go p e below T95 (mkF m 39 #[.val (.int p0), .val (.int p1), .val (.int p2), .val (.int p3), .val (.long p4), .second, .val (.ref b1), .val (.int pp), .val (.int (3 : Int32)), .val (.int ((((p3.toUInt32 >>> ((4 : Int32) &&& 31).toUInt32).toInt32) &&& (255 : Int32)).toInt8.toInt32)), .unset, .unset, .unset, .unset, .unset, .unset, .unset, .unset, .unset, .unset, .unset, .unset, .unset] [(.int ((((p3.toUInt32 >>> ((4 : Int32) &&& 31).toUInt32).toInt32) &&& (255 : Int32)).toInt8.toInt32)), (.int (1 : Int32)), (.ref b1)]) _
    have ib99 := (show ¬ ((1 : Int32) < 0) ∧ ((1 : Int32)).toNatClampNeg < 16 from ⟨by decide, by decide⟩)
    obtain ⟨cl99, Ar99, S99, H99⟩ := V95
    obtain ⟨T99, h99, X99, e99, W99, st99⟩ := stB X95 hx hZ e95 Ar99 (j := (1 : Int32)) (Af.inb S99 ib99) (g := (mkF m 39 #[.val (.int p0), .val (.int p1), .val (.int p2), .val (.int p3), .val (.long p4), .second, .val (.ref b1), .val (.int pp), .val (.int (3 : Int32)), .val (.int ((((p3.toUInt32 >>> ((4 : Int32) &&& 31).toUInt32).toInt32) &&& (255 : Int32)).toInt8.toInt32)), .unset, .unset, .unset, .unset, .unset, .unset, .unset, .unset, .unset, .unset, .unset, .unset, .unset] [(.int ((((p3.toUInt32 >>> ((4 : Int32) &&& 31).toUInt32).toInt32) &&& (255 : Int32)).toInt8.toInt32)), (.int (1 : Int32)), (.ref b1)])) rfl rfl (hb hby at_39)
    obtain ⟨f99, qf99⟩ : ∃ qq_ : Nat → Int32, qq_ = upd f95 1 (nar .byte ((((p3.toUInt32 >>> ((4 : Int32) &&& 31).toUInt32).toInt32) &&& (255 : Int32)).toInt8.toInt32)) := ⟨_, rfl⟩
    have V99 : Af Z h99 b1 .byte 16 f99 := by rw [qf99]; exact Af.set Ar99 S99 H99 W99 (by decide)
    have K101 := K97.wr W99 (Or.inr sz1)
    have Zs102 : n0 ≤ h99.size := Nat.le_trans Zs98 (Keep.of_wr W99).1
    have N99 := Fr.snoc X99 N95 gx1
    refine Go.of (st99) ?_
    show Go p e below T99 (mkF m 40 #[.val (.int p0), .val (.int p1), .val (.int p2), .val (.int p3), .val (.long p4), .second, .val (.ref b1), .val (.int pp), .val (.int (3 : Int32)), .val (.int ((((p3.toUInt32 >>> ((4 : Int32) &&& 31).toUInt32).toInt32) &&& (255 : Int32)).toInt8.toInt32)), .unset, .unset, .unset, .unset, .unset, .unset, .unset, .unset, .unset, .unset, .unset, .unset, .unset] []) _
    refine Go.of (fun tg_ kk_ => XS.aload X99.here hx rfl (hb hby at_40) rfl rfl kk_) ?_
    show Go p e below T99 (mkF m 42 #[.val (.int p0), .val (.int p1), .val (.int p2), .val (.int p3), .val (.long p4), .second, .val (.ref b1), .val (.int pp), .val (.int (3 : Int32)), .val (.int ((((p3.toUInt32 >>> ((4 : Int32) &&& 31).toUInt32).toInt32) &&& (255 : Int32)).toInt8.toInt32)), .unset, .unset, .unset, .unset, .unset, .unset, .unset, .unset, .unset, .unset, .unset, .unset, .unset] [(.ref b1)]) _
    refine Go.of (fun tg_ kk_ => XS.iconst X99.here hx rfl (hb hby at_42) kk_) ?_
    show Go p e below T99 (mkF m 43 #[.val (.int p0), .val (.int p1), .val (.int p2), .val (.int p3), .val (.long p4), .second, .val (.ref b1), .val (.int pp), .val (.int (3 : Int32)), .val (.int ((((p3.toUInt32 >>> ((4 : Int32) &&& 31).toUInt32).toInt32) &&& (255 : Int32)).toInt8.toInt32)), .unset, .unset, .unset, .unset, .unset, .unset, .unset, .unset, .unset, .unset, .unset, .unset, .unset] [(.int (2 : Int32)), (.ref b1)]) _
    refine Go.of (fun tg_ kk_ => XS.iload X99.here hx rfl (hb hby at_43) rfl kk_) ?_
    show Go p e below T99 (mkF m 45 #[.val (.int p0), .val (.int p1), .val (.int p2), .val (.int p3), .val (.long p4), .second, .val (.ref b1), .val (.int pp), .val (.int (3 : Int32)), .val (.int ((((p3.toUInt32 >>> ((4 : Int32) &&& 31).toUInt32).toInt32) &&& (255 : Int32)).toInt8.toInt32)), .unset, .unset, .unset, .unset, .unset, .unset, .unset, .unset, .unset, .unset, .unset, .unset, .unset] [(.int ((((p3.toUInt32 >>> ((4 : Int32) &&& 31).toUInt32).toInt32) &&& (255 : Int32)).toInt8.toInt32)), (.int (2 : Int32)), (.ref b1)]) _
    have ib103 := (show ¬ ((2 : Int32) < 0) ∧ ((2 : Int32)).toNatClampNeg < 16 from ⟨by decide, by decide⟩)
    obtain ⟨cl103, Ar103, S103, H103⟩ := V99
    obtain ⟨T103, h103, X103, e103, W103, st103⟩ := stB X99 hx hZ e99 Ar103 (j := (2 : Int32)) (Af.inb S103 ib103) (g := (mkF m 45 #[.val (.int p0), .val (.int p1), .val (.int p2), .val (.int p3), .val (.long p4), .second, .val (.ref b1), .val (.int pp), .val (.int (3 : Int32)), .val (.int ((((p3.toUInt32 >>> ((4 : Int32) &&& 31).toUInt32).toInt32) &&& (255 : Int32)).toInt8.toInt32)), .unset, .unset, .unset, .unset, .unset, .unset, .unset, .unset, .unset, .unset, .unset, .unset, .unset] [(.int ((((p3.toUInt32 >>> ((4 : Int32) &&& 31).toUInt32).toInt32) &&& (255 : Int32)).toInt8.toInt32)), (.int (2 : Int32)), (.ref b1)])) rfl rfl (hb hby at_45)
    obtain ⟨f103, qf103⟩ : ∃ qq_ : Nat → Int32, qq_ = upd f99 2 (nar .byte ((((p3.toUInt32 >>> ((4 : Int32) &&& 31).toUInt32).toInt32) &&& (255 : Int32)).toInt8.toInt32)) := ⟨_, rfl⟩
    have V103 : Af Z h103 b1 .byte 16 f103 := by rw [qf103]; exact Af.set Ar103 S103 H103 W103 (by decide)
    have K105 := K101.wr W103 (Or.inr sz1)
    have Zs106 : n0 ≤ h103.size := Nat.le_trans Zs102 (Keep.of_wr W103).1
    have N103 := Fr.snoc X103 N99 gx1
    refine Go.of (st103) ?_
    show Go p e below T103 (mkF m 46 #[.val (.int p0), .val (.int p1), .val (.int p2), .val (.int p3), .val (.long p4), .second, .val (.ref b1), .val (.int pp), .val (.int (3 : Int32)), .val (.int ((((p3.toUInt32 >>> ((4 : Int32) &&& 31).toUInt32).toInt32) &&& (255 : Int32)).toInt8.toInt32)), .unset, .unset, .unset, .unset, .unset, .unset, .unset, .unset, .unset, .unset, .unset, .unset, .unset] []) _
    refine Go.of (fun tg_ kk_ => XS.iload X103.here hx rfl (hb hby at_46) rfl kk_) ?_
    show Go p e below T103 (mkF m 48 #[.val (.int p0), .val (.int p1), .val (.int p2), .val (.int p3), .val (.long p4), .second, .val (.ref b1), .val (.int pp), .val (.int (3 : Int32)), .val (.int ((((p3.toUInt32 >>> ((4 : Int32) &&& 31).toUInt32).toInt32) &&& (255 : Int32)).toInt8.toInt32)), .unset, .unset, .unset, .unset, .unset, .unset, .unset, .unset, .unset, .unset, .unset, .unset, .unset] [(.int pp)]) _
    refine Go.of (fun tg_ kk_ => XS.istore X103.here hx rfl (hb hby at_48) rfl (l' := #[.val (.int p0), .val (.int p1), .val (.int p2), .val (.int p3), .val (.long p4), .second, .val (.ref b1), .val (.int pp), .val (.int (3 : Int32)), .val (.int ((((p3.toUInt32 >>> ((4 : Int32) &&& 31).toUInt32).toInt32) &&& (255 : Int32)).toInt8.toInt32)), .val (.int pp), .unset, .unset, .unset, .unset, .unset, .unset, .unset, .unset, .unset, .unset, .unset, .unset]) rfl kk_) ?_
    show Go p e below T103 (mkF m 50 #[.val (.int p0), .val (.int p1), .val (.int p2), .val (.int p3), .val (.long p4), .second, .val (.ref b1), .val (.int pp), .val (.int (3 : Int32)), .val (.int ((((p3.toUInt32 >>> ((4 : Int32) &&& 31).toUInt32).toInt32) &&& (255 : Int32)).toInt8.toInt32)), .val (.int pp), .unset, .unset, .unset, .unset, .unset, .unset, .unset, .unset, .unset, .unset, .unset, .unset] []) _
    refine Go.of (fun tg_ kk_ => XS.iload X103.here hx rfl (hb hby at_50) rfl kk_) ?_
    show Go p e below T103 (mkF m 52 #[.val (.int p0), .val (.int p1), .val (.int p2), .val (.int p3), .val (.long p4), .second, .val (.ref b1), .val (.int pp), .val (.int (3 : Int32)), .val (.int ((((p3.toUInt32 >>> ((4 : Int32) &&& 31).toUInt32).toInt32) &&& (255 : Int32)).toInt8.toInt32)), .val (.int pp), .unset, .unset, .unset, .unset, .unset, .unset, .unset, .unset, .unset, .unset, .unset, .unset] [(.int pp)]) _
    refine Go.of (fun tg_ kk_ => XS.aload X103.here hx rfl (hb hby at_52) rfl rfl kk_) ?_
    show Go p e below T103 (mkF m 54 #[.val (.int p0), .val (.int p1), .val (.int p2), .val (.int p3), .val (.long p4), .second, .val (.ref b1), .val (.int pp), .val (.int (3 : Int32)), .val (.int ((((p3.toUInt32 >>> ((4 : Int32) &&& 31).toUInt32).toInt32) &&& (255 : Int32)).toInt8.toInt32)), .val (.int pp), .unset, .unset, .unset, .unset, .unset, .unset, .unset, .unset, .unset, .unset, .unset, .unset] [(.ref b1), (.int pp)]) _
    refine Go.of (fun tg_ kk_ => XS.iload X103.here hx rfl (hb hby at_54) rfl kk_) ?_
    show Go p e below T103 (mkF m 56 #[.val (.int p0), .val (.int p1), .val (.int p2), .val (.int p3), .val (.long p4), .second, .val (.ref b1), .val (.int pp), .val (.int (3 : Int32)), .val (.int ((((p3.toUInt32 >>> ((4 : Int32) &&& 31).toUInt32).toInt32) &&& (255 : Int32)).toInt8.toInt32)), .val (.int pp), .unset, .unset, .unset, .unset, .unset, .unset, .unset, .unset, .unset, .unset, .unset, .unset] [(.int pp), (.ref b1), (.int pp)]) _
    refine Go.of (fun tg_ kk_ => XS.iloadN X103.here hx rfl (hb hby at_56) rfl kk_) ?_
    show Go p e below T103 (mkF m 57 #[.val (.int p0), .val (.int p1), .val (.int p2), .val (.int p3), .val (.long p4), .second, .val (.ref b1), .val (.int pp), .val (.int (3 : Int32)), .val (.int ((((p3.toUInt32 >>> ((4 : Int32) &&& 31).toUInt32).toInt32) &&& (255 : Int32)).toInt8.toInt32)), .val (.int pp), .unset, .unset, .unset, .unset, .unset, .unset, .unset, .unset, .unset, .unset, .unset, .unset] [(.int p0), (.int pp), (.ref b1), (.int pp)]) _
    obtain ⟨_, _, ⟨T107, L107, k107, n107⟩, -, X107, ⟨Lc107, hQ107, l107, y107, z107⟩, st107⟩ := Jvm.LawKit.callS X103 hx (y := (⟨"com/example/diagnostic/diagnostic/Utf8OffsetOfUnitPinLaw", "put", "([BII)I"⟩ : MethodName)) hown (mvT hZ (hw _ (List.mem_of_getElem? (i := 1) rfl))) (mvT hZ (hw _ (List.mem_of_getElem? (i := 2) rfl))) (mvT hZ (hw _ (List.mem_of_getElem? (i := 3) rfl))) (mvT hZ (hw _ (List.mem_of_getElem? (i := 4) rfl))) (by decide) (backOf (W := 1) (rm1 l Z a0 hw [] b1 pp p0 f103 h103 n0 Zs106 gx1 V103 hy0) hZ (hw _ (List.mem_of_getElem? (i := 4) rfl)) (hw _ (List.mem_of_getElem? (i := 3) rfl)) (by decide) (by decide)) (g := (mkF m 57 #[.val (.int p0), .val (.int p1), .val (.int p2), .val (.int p3), .val (.long p4), .second, .val (.ref b1), .val (.int pp), .val (.int (3 : Int32)), .val (.int ((((p3.toUInt32 >>> ((4 : Int32) &&& 31).toUInt32).toInt32) &&& (255 : Int32)).toInt8.toInt32)), .val (.int pp), .unset, .unset, .unset, .unset, .unset, .unset, .unset, .unset, .unset, .unset, .unset, .unset] [(.int p0), (.int pp), (.ref b1), (.int pp)])) rfl (by rw [hml]; rfl) (argsL := [(.ref b1), (.int pp), (.int p0)]) (rest := [(.int pp)]) (lenOf pd_0 rfl) rfl (by show 2 * 0 + _ ≤ _; exact Nat.le_of_eq rfl) (hb hby at_57) (fun _ _ => ⟨rfl, e103, (by decide : 1 + 0 ≤ _), (by decide : 16 + 0 ≤ _)⟩)
    dsimp only [Pt.U, Pt.locs, Pt.cells, Pt.slots] at X107 l107 y107 z107 st107 hQ107
    subst l107 y107 z107
    obtain ⟨g107, rfl, N107q, K107q, V107, Pl107, Ln107⟩ := hQ107
    have N107 := Fr.app N103 N107q
    have K109 := K105.trans K107q (allS (Or.inr sz1) all0)
    have Zs110 : n0 ≤ T107.heap.size := Nat.le_trans Zs106 K107q.1
    refine Go.of (st107) ?_
    show Go p e below T107 (mkF m 60 #[.val (.int p0), .val (.int p1), .val (.int p2), .val (.int p3), .val (.long p4), .second, .val (.ref b1), .val (.int pp), .val (.int (3 : Int32)), .val (.int ((((p3.toUInt32 >>> ((4 : Int32) &&& 31).toUInt32).toInt32) &&& (255 : Int32)).toInt8.toInt32)), .val (.int pp), .unset, .unset, .unset, .unset, .unset, .unset, .unset, .unset, .unset, .unset, .unset, .unset] [(.int ((p0 &&& (3 : Int32)) + (1 : Int32))), (.int pp)]) _
    refine Go.of (fun tg_ kk_ => XS.iadd X107.here hx rfl (hb hby at_60) rfl kk_) ?_
    show Go p e below T107 (mkF m 61 #[.val (.int p0), .val (.int p1), .val (.int p2), .val (.int p3), .val (.long p4), .second, .val (.ref b1), .val (.int pp), .val (.int (3 : Int32)), .val (.int ((((p3.toUInt32 >>> ((4 : Int32) &&& 31).toUInt32).toInt32) &&& (255 : Int32)).toInt8.toInt32)), .val (.int pp), .unset, .unset, .unset, .unset, .unset, .unset, .unset, .unset, .unset, .unset, .unset, .unset] [(.int (pp + ((p0 &&& (3 : Int32)) + (1 : Int32))))]) _
    obtain ⟨o1, qo1⟩ : ∃ zz_ : Int32, zz_ = (pp + ((p0 &&& (3 : Int32)) + (1 : Int32))) := ⟨_, rfl⟩
    rw [← qo1]
    show Go p e below T107 (mkF m 61 #[.val (.int p0), .val (.int p1), .val (.int p2), .val (.int p3), .val (.long p4), .second, .val (.ref b1), .val (.int pp), .val (.int (3 : Int32)), .val (.int ((((p3.toUInt32 >>> ((4 : Int32) &&& 31).toUInt32).toInt32) &&& (255 : Int32)).toInt8.toInt32)), .val (.int pp), .unset, .unset, .unset, .unset, .unset, .unset, .unset, .unset, .unset, .unset, .unset, .unset] [(.int o1)]) _
    have ho1 := own_o qo1 hb0 (by decide)
    have hb1 : 0 ≤ o1.toInt ∧ o1.toInt ≤ 7 := by omega
    have hy1 : 0 ≤ o1.toInt ∧ o1.toInt ≤ 12 := by omega
    refine Go.of (fun tg_ kk_ => XS.istore X107.here hx rfl (hb hby at_61) rfl (l' := #[.val (.int p0), .val (.int p1), .val (.int p2), .val (.int p3), .val (.long p4), .second, .val (.ref b1), .val (.int pp), .val (.int (3 : Int32)), .val (.int ((((p3.toUInt32 >>> ((4 : Int32) &&& 31).toUInt32).toInt32) &&& (255 : Int32)).toInt8.toInt32)), .val (.int pp), .val (.int o1), .unset, .unset, .unset, .unset, .unset, .unset, .unset, .unset, .unset, .unset, .unset]) rfl kk_) ?_
    show Go p e below T107 (mkF m 63 #[.val (.int p0), .val (.int p1), .val (.int p2), .val (.int p3), .val (.long p4), .second, .val (.ref b1), .val (.int pp), .val (.int (3 : Int32)), .val (.int ((((p3.toUInt32 >>> ((4 : Int32) &&& 31).toUInt32).toInt32) &&& (255 : Int32)).toInt8.toInt32)), .val (.int pp), .val (.int o1), .unset, .unset, .unset, .unset, .unset, .unset, .unset, .unset, .unset, .unset, .unset] []) _
    refine Go.of (fun tg_ kk_ => XS.iload X107.here hx rfl (hb hby at_63) rfl kk_) ?_
    show Go p e below T107 (mkF m 65 #[.val (.int p0), .val (.int p1), .val (.int p2), .val (.int p3), .val (.long p4), .second, .val (.ref b1), .val (.int pp), .val (.int (3 : Int32)), .val (.int ((((p3.toUInt32 >>> ((4 : Int32) &&& 31).toUInt32).toInt32) &&& (255 : Int32)).toInt8.toInt32)), .val (.int pp), .val (.int o1), .unset, .unset, .unset, .unset, .unset, .unset, .unset, .unset, .unset, .unset, .unset] [(.int o1)]) _
    refine Go.of (fun tg_ kk_ => XS.aload X107.here hx rfl (hb hby at_65) rfl rfl kk_) ?_
    show Go p e below T107 (mkF m 67 #[.val (.int p0), .val (.int p1), .val (.int p2), .val (.int p3), .val (.long p4), .second, .val (.ref b1), .val (.int pp), .val (.int (3 : Int32)), .val (.int ((((p3.toUInt32 >>> ((4 : Int32) &&& 31).toUInt32).toInt32) &&& (255 : Int32)).toInt8.toInt32)), .val (.int pp), .val (.int o1), .unset, .unset, .unset, .unset, .unset, .unset, .unset, .unset, .unset, .unset, .unset] [(.ref b1), (.int o1)]) _
    refine Go.of (fun tg_ kk_ => XS.iload X107.here hx rfl (hb hby at_67) rfl kk_) ?_
    show Go p e below T107 (mkF m 69 #[.val (.int p0), .val (.int p1), .val (.int p2), .val (.int p3), .val (.long p4), .second, .val (.ref b1), .val (.int pp), .val (.int (3 : Int32)), .val (.int ((((p3.toUInt32 >>> ((4 : Int32) &&& 31).toUInt32).toInt32) &&& (255 : Int32)).toInt8.toInt32)), .val (.int pp), .val (.int o1), .unset, .unset, .unset, .unset, .unset, .unset, .unset, .unset, .unset, .unset, .unset] [(.int o1), (.ref b1), (.int o1)]) _
    refine Go.of (fun tg_ kk_ => XS.iloadN X107.here hx rfl (hb hby at_69) rfl kk_) ?_
    show Go p e below T107 (mkF m 70 #[.val (.int p0), .val (.int p1), .val (.int p2), .val (.int p3), .val (.long p4), .second, .val (.ref b1), .val (.int pp), .val (.int (3 : Int32)), .val (.int ((((p3.toUInt32 >>> ((4 : Int32) &&& 31).toUInt32).toInt32) &&& (255 : Int32)).toInt8.toInt32)), .val (.int pp), .val (.int o1), .unset, .unset, .unset, .unset, .unset, .unset, .unset, .unset, .unset, .unset, .unset] [(.int p1), (.int o1), (.ref b1), (.int o1)]) _
    obtain ⟨_, _, ⟨T111, L111, k111, n111⟩, -, X111, ⟨Lc111, hQ111, l111, y111, z111⟩, st111⟩ := Jvm.LawKit.callS X107 hx (y := (⟨"com/example/diagnostic/diagnostic/Utf8OffsetOfUnitPinLaw", "put", "([BII)I"⟩ : MethodName)) hown (mvT hZ (hw _ (List.mem_of_getElem? (i := 1) rfl))) (mvT hZ (hw _ (List.mem_of_getElem? (i := 2) rfl))) (mvT hZ (hw _ (List.mem_of_getElem? (i := 3) rfl))) (mvT hZ (hw _ (List.mem_of_getElem? (i := 4) rfl))) (by decide) (backOf (W := 1) (rm1 l Z a0 hw [] b1 o1 p1 g107 T107.heap n0 Zs110 gx1 V107 hy1) hZ (hw _ (List.mem_of_getElem? (i := 4) rfl)) (hw _ (List.mem_of_getElem? (i := 3) rfl)) (by decide) (by decide)) (g := (mkF m 70 #[.val (.int p0), .val (.int p1), .val (.int p2), .val (.int p3), .val (.long p4), .second, .val (.ref b1), .val (.int pp), .val (.int (3 : Int32)), .val (.int ((((p3.toUInt32 >>> ((4 : Int32) &&& 31).toUInt32).toInt32) &&& (255 : Int32)).toInt8.toInt32)), .val (.int pp), .val (.int o1), .unset, .unset, .unset, .unset, .unset, .unset, .unset, .unset, .unset, .unset, .unset] [(.int p1), (.int o1), (.ref b1), (.int o1)])) rfl (by rw [hml]; rfl) (argsL := [(.ref b1), (.int o1), (.int p1)]) (rest := [(.int o1)]) (lenOf pd_0 rfl) rfl (by show 2 * 0 + _ ≤ _; exact Nat.le_of_eq rfl) (hb hby at_70) (fun _ _ => ⟨rfl, rfl, (by decide : 1 + 0 ≤ _), (by decide : 16 + 0 ≤ _)⟩)
    dsimp only [Pt.U, Pt.locs, Pt.cells, Pt.slots] at X111 l111 y111 z111 st111 hQ111
    subst l111 y111 z111
    obtain ⟨g111, rfl, N111q, K111q, V111, Pl111, Ln111⟩ := hQ111
    have N111 := Fr.app N107 N111q
    have K113 := K109.trans K111q (allS (Or.inr sz1) all0)
    have Zs114 : n0 ≤ T111.heap.size := Nat.le_trans Zs110 K111q.1
    refine Go.of (st111) ?_
    show Go p e below T111 (mkF m 73 #[.val (.int p0), .val (.int p1), .val (.int p2), .val (.int p3), .val (.long p4), .second, .val (.ref b1), .val (.int pp), .val (.int (3 : Int32)), .val (.int ((((p3.toUInt32 >>> ((4 : Int32) &&& 31).toUInt32).toInt32) &&& (255 : Int32)).toInt8.toInt32)), .val (.int pp), .val (.int o1), .unset, .unset, .unset, .unset, .unset, .unset, .unset, .unset, .unset, .unset, .unset] [(.int ((p1 &&& (3 : Int32)) + (1 : Int32))), (.int o1)]) _
    refine Go.of (fun tg_ kk_ => XS.iadd X111.here hx rfl (hb hby at_73) rfl kk_) ?_
    show Go p e below T111 (mkF m 74 #[.val (.int p0), .val (.int p1), .val (.int p2), .val (.int p3), .val (.long p4), .second, .val (.ref b1), .val (.int pp), .val (.int (3 : Int32)), .val (.int ((((p3.toUInt32 >>> ((4 : Int32) &&& 31).toUInt32).toInt32) &&& (255 : Int32)).toInt8.toInt32)), .val (.int pp), .val (.int o1), .unset, .unset, .unset, .unset, .unset, .unset, .unset, .unset, .unset, .unset, .unset] [(.int (o1 + ((p1 &&& (3 : Int32)) + (1 : Int32))))]) _
    obtain ⟨o2, qo2⟩ : ∃ zz_ : Int32, zz_ = (o1 + ((p1 &&& (3 : Int32)) + (1 : Int32))) := ⟨_, rfl⟩
    rw [← qo2]
    show Go p e below T111 (mkF m 74 #[.val (.int p0), .val (.int p1), .val (.int p2), .val (.int p3), .val (.long p4), .second, .val (.ref b1), .val (.int pp), .val (.int (3 : Int32)), .val (.int ((((p3.toUInt32 >>> ((4 : Int32) &&& 31).toUInt32).toInt32) &&& (255 : Int32)).toInt8.toInt32)), .val (.int pp), .val (.int o1), .unset, .unset, .unset, .unset, .unset, .unset, .unset, .unset, .unset, .unset, .unset] [(.int o2)]) _
    have ho2 := own_o qo2 hb1 (by decide)
    have hb2 : 0 ≤ o2.toInt ∧ o2.toInt ≤ 11 := by omega
    have hy2 : 0 ≤ o2.toInt ∧ o2.toInt ≤ 12 := by omega
    refine Go.of (fun tg_ kk_ => XS.istore X111.here hx rfl (hb hby at_74) rfl (l' := #[.val (.int p0), .val (.int p1), .val (.int p2), .val (.int p3), .val (.long p4), .second, .val (.ref b1), .val (.int pp), .val (.int (3 : Int32)), .val (.int ((((p3.toUInt32 >>> ((4 : Int32) &&& 31).toUInt32).toInt32) &&& (255 : Int32)).toInt8.toInt32)), .val (.int pp), .val (.int o1), .val (.int o2), .unset, .unset, .unset, .unset, .unset, .unset, .unset, .unset, .unset, .unset]) rfl kk_) ?_
    show Go p e below T111 (mkF m 76 #[.val (.int p0), .val (.int p1), .val (.int p2), .val (.int p3), .val (.long p4), .second, .val (.ref b1), .val (.int pp), .val (.int (3 : Int32)), .val (.int ((((p3.toUInt32 >>> ((4 : Int32) &&& 31).toUInt32).toInt32) &&& (255 : Int32)).toInt8.toInt32)), .val (.int pp), .val (.int o1), .val (.int o2), .unset, .unset, .unset, .unset, .unset, .unset, .unset, .unset, .unset, .unset] []) _
    refine Go.of (fun tg_ kk_ => XS.iload X111.here hx rfl (hb hby at_76) rfl kk_) ?_
    show Go p e below T111 (mkF m 78 #[.val (.int p0), .val (.int p1), .val (.int p2), .val (.int p3), .val (.long p4), .second, .val (.ref b1), .val (.int pp), .val (.int (3 : Int32)), .val (.int ((((p3.toUInt32 >>> ((4 : Int32) &&& 31).toUInt32).toInt32) &&& (255 : Int32)).toInt8.toInt32)), .val (.int pp), .val (.int o1), .val (.int o2), .unset, .unset, .unset, .unset, .unset, .unset, .unset, .unset, .unset, .unset] [(.int o2)]) _
    refine Go.of (fun tg_ kk_ => XS.aload X111.here hx rfl (hb hby at_78) rfl rfl kk_) ?_
    show Go p e below T111 (mkF m 80 #[.val (.int p0), .val (.int p1), .val (.int p2), .val (.int p3), .val (.long p4), .second, .val (.ref b1), .val (.int pp), .val (.int (3 : Int32)), .val (.int ((((p3.toUInt32 >>> ((4 : Int32) &&& 31).toUInt32).toInt32) &&& (255 : Int32)).toInt8.toInt32)), .val (.int pp), .val (.int o1), .val (.int o2), .unset, .unset, .unset, .unset, .unset, .unset, .unset, .unset, .unset, .unset] [(.ref b1), (.int o2)]) _
    refine Go.of (fun tg_ kk_ => XS.iload X111.here hx rfl (hb hby at_80) rfl kk_) ?_
    show Go p e below T111 (mkF m 82 #[.val (.int p0), .val (.int p1), .val (.int p2), .val (.int p3), .val (.long p4), .second, .val (.ref b1), .val (.int pp), .val (.int (3 : Int32)), .val (.int ((((p3.toUInt32 >>> ((4 : Int32) &&& 31).toUInt32).toInt32) &&& (255 : Int32)).toInt8.toInt32)), .val (.int pp), .val (.int o1), .val (.int o2), .unset, .unset, .unset, .unset, .unset, .unset, .unset, .unset, .unset, .unset] [(.int o2), (.ref b1), (.int o2)]) _
    refine Go.of (fun tg_ kk_ => XS.iloadN X111.here hx rfl (hb hby at_82) rfl kk_) ?_
    show Go p e below T111 (mkF m 83 #[.val (.int p0), .val (.int p1), .val (.int p2), .val (.int p3), .val (.long p4), .second, .val (.ref b1), .val (.int pp), .val (.int (3 : Int32)), .val (.int ((((p3.toUInt32 >>> ((4 : Int32) &&& 31).toUInt32).toInt32) &&& (255 : Int32)).toInt8.toInt32)), .val (.int pp), .val (.int o1), .val (.int o2), .unset, .unset, .unset, .unset, .unset, .unset, .unset, .unset, .unset, .unset] [(.int p2), (.int o2), (.ref b1), (.int o2)]) _
    obtain ⟨_, _, ⟨T115, L115, k115, n115⟩, -, X115, ⟨Lc115, hQ115, l115, y115, z115⟩, st115⟩ := Jvm.LawKit.callS X111 hx (y := (⟨"com/example/diagnostic/diagnostic/Utf8OffsetOfUnitPinLaw", "put", "([BII)I"⟩ : MethodName)) hown (mvT hZ (hw _ (List.mem_of_getElem? (i := 1) rfl))) (mvT hZ (hw _ (List.mem_of_getElem? (i := 2) rfl))) (mvT hZ (hw _ (List.mem_of_getElem? (i := 3) rfl))) (mvT hZ (hw _ (List.mem_of_getElem? (i := 4) rfl))) (by decide) (backOf (W := 1) (rm1 l Z a0 hw [] b1 o2 p2 g111 T111.heap n0 Zs114 gx1 V111 hy2) hZ (hw _ (List.mem_of_getElem? (i := 4) rfl)) (hw _ (List.mem_of_getElem? (i := 3) rfl)) (by decide) (by decide)) (g := (mkF m 83 #[.val (.int p0), .val (.int p1), .val (.int p2), .val (.int p3), .val (.long p4), .second, .val (.ref b1), .val (.int pp), .val (.int (3 : Int32)), .val (.int ((((p3.toUInt32 >>> ((4 : Int32) &&& 31).toUInt32).toInt32) &&& (255 : Int32)).toInt8.toInt32)), .val (.int pp), .val (.int o1), .val (.int o2), .unset, .unset, .unset, .unset, .unset, .unset, .unset, .unset, .unset, .unset] [(.int p2), (.int o2), (.ref b1), (.int o2)])) rfl (by rw [hml]; rfl) (argsL := [(.ref b1), (.int o2), (.int p2)]) (rest := [(.int o2)]) (lenOf pd_0 rfl) rfl (by show 2 * 0 + _ ≤ _; exact Nat.le_of_eq rfl) (hb hby at_83) (fun _ _ => ⟨rfl, rfl, (by decide : 1 + 0 ≤ _), (by decide : 16 + 0 ≤ _)⟩)
    dsimp only [Pt.U, Pt.locs, Pt.cells, Pt.slots] at X115 l115 y115 z115 st115 hQ115
    subst l115 y115 z115
    obtain ⟨g115, rfl, N115q, K115q, V115, Pl115, Ln115⟩ := hQ115
    have N115 := Fr.app N111 N115q
    have K117 := K113.trans K115q (allS (Or.inr sz1) all0)
    have Zs118 : n0 ≤ T115.heap.size := Nat.le_trans Zs114 K115q.1
    refine Go.of (st115) ?_
    show Go p e below T115 (mkF m 86 #[.val (.int p0), .val (.int p1), .val (.int p2), .val (.int p3), .val (.long p4), .second, .val (.ref b1), .val (.int pp), .val (.int (3 : Int32)), .val (.int ((((p3.toUInt32 >>> ((4 : Int32) &&& 31).toUInt32).toInt32) &&& (255 : Int32)).toInt8.toInt32)), .val (.int pp), .val (.int o1), .val (.int o2), .unset, .unset, .unset, .unset, .unset, .unset, .unset, .unset, .unset, .unset] [(.int ((p2 &&& (3 : Int32)) + (1 : Int32))), (.int o2)]) _
    refine Go.of (fun tg_ kk_ => XS.iadd X115.here hx rfl (hb hby at_86) rfl kk_) ?_
    show Go p e below T115 (mkF m 87 #[.val (.int p0), .val (.int p1), .val (.int p2), .val (.int p3), .val (.long p4), .second, .val (.ref b1), .val (.int pp), .val (.int (3 : Int32)), .val (.int ((((p3.toUInt32 >>> ((4 : Int32) &&& 31).toUInt32).toInt32) &&& (255 : Int32)).toInt8.toInt32)), .val (.int pp), .val (.int o1), .val (.int o2), .unset, .unset, .unset, .unset, .unset, .unset, .unset, .unset, .unset, .unset] [(.int (o2 + ((p2 &&& (3 : Int32)) + (1 : Int32))))]) _
    obtain ⟨o3, qo3⟩ : ∃ zz_ : Int32, zz_ = (o2 + ((p2 &&& (3 : Int32)) + (1 : Int32))) := ⟨_, rfl⟩
    rw [← qo3]
    show Go p e below T115 (mkF m 87 #[.val (.int p0), .val (.int p1), .val (.int p2), .val (.int p3), .val (.long p4), .second, .val (.ref b1), .val (.int pp), .val (.int (3 : Int32)), .val (.int ((((p3.toUInt32 >>> ((4 : Int32) &&& 31).toUInt32).toInt32) &&& (255 : Int32)).toInt8.toInt32)), .val (.int pp), .val (.int o1), .val (.int o2), .unset, .unset, .unset, .unset, .unset, .unset, .unset, .unset, .unset, .unset] [(.int o3)]) _
    have ho3 := own_o qo3 hb2 (by decide)
    have hb3 : 0 ≤ o3.toInt ∧ o3.toInt ≤ 15 := by omega
    have hl2 := Ln115
    have hl1 := Ln111
    rw [← Pl115 _ (show (((o1).toNatClampNeg : Nat) : Int) < o2.toInt by show ((o1.toInt.toNat : Nat) : Int) < o2.toInt; omega)] at hl1
    have hl0 := Ln107
    rw [← Pl111 _ (show (((pp).toNatClampNeg : Nat) : Int) < o1.toInt by show ((pp.toInt.toNat : Nat) : Int) < o1.toInt; omega), ← Pl115 _ (show (((pp).toNatClampNeg : Nat) : Int) < o2.toInt by show ((pp.toInt.toNat : Nat) : Int) < o2.toInt; omega)] at hl0
    refine Go.of (fun tg_ kk_ => XS.istore X115.here hx rfl (hb hby at_87) rfl (l' := #[.val (.int p0), .val (.int p1), .val (.int p2), .val (.int p3), .val (.long p4), .second, .val (.ref b1), .val (.int pp), .val (.int (3 : Int32)), .val (.int ((((p3.toUInt32 >>> ((4 : Int32) &&& 31).toUInt32).toInt32) &&& (255 : Int32)).toInt8.toInt32)), .val (.int pp), .val (.int o1), .val (.int o2), .val (.int o3), .unset, .unset, .unset, .unset, .unset, .unset, .unset, .unset, .unset]) rfl kk_) ?_
    show Go p e below T115 (mkF m 89 #[.val (.int p0), .val (.int p1), .val (.int p2), .val (.int p3), .val (.long p4), .second, .val (.ref b1), .val (.int pp), .val (.int (3 : Int32)), .val (.int ((((p3.toUInt32 >>> ((4 : Int32) &&& 31).toUInt32).toInt32) &&& (255 : Int32)).toInt8.toInt32)), .val (.int pp), .val (.int o1), .val (.int o2), .val (.int o3), .unset, .unset, .unset, .unset, .unset, .unset, .unset, .unset, .unset] []) _
    refine Go.of (fun tg_ kk_ => XS.iload X115.here hx rfl (hb hby at_89) rfl kk_) ?_
    show Go p e below T115 (mkF m 91 #[.val (.int p0), .val (.int p1), .val (.int p2), .val (.int p3), .val (.long p4), .second, .val (.ref b1), .val (.int pp), .val (.int (3 : Int32)), .val (.int ((((p3.toUInt32 >>> ((4 : Int32) &&& 31).toUInt32).toInt32) &&& (255 : Int32)).toInt8.toInt32)), .val (.int pp), .val (.int o1), .val (.int o2), .val (.int o3), .unset, .unset, .unset, .unset, .unset, .unset, .unset, .unset, .unset] [(.int (3 : Int32))]) _
    refine Go.of (fun tg_ kk_ => XS.ifYes X115.here hx rfl (pc0 := 91) (pc' := 99) rfl (hb hby at_91) rfl ((if0 _ _).trans (feq (show ¬ ((3 : Int32) = (0 : Int32)) by decide)).2) (by decide) (by decide) kk_) ?_
    show Go p e below T115 (mkF m 99 #[.val (.int p0), .val (.int p1), .val (.int p2), .val (.int p3), .val (.long p4), .second, .val (.ref b1), .val (.int pp), .val (.int (3 : Int32)), .val (.int ((((p3.toUInt32 >>> ((4 : Int32) &&& 31).toUInt32).toInt32) &&& (255 : Int32)).toInt8.toInt32)), .val (.int pp), .val (.int o1), .val (.int o2), .val (.int o3), .unset, .unset, .unset, .unset, .unset, .unset, .unset, .unset, .unset] []) _
    refine Go.of (fun tg_ kk_ => XS.iload X115.here hx rfl (hb hby at_99) rfl kk_) ?_
    show Go p e below T115 (mkF m 101 #[.val (.int p0), .val (.int p1), .val (.int p2), .val (.int p3), .val (.long p4), .second, .val (.ref b1), .val (.int pp), .val (.int (3 : Int32)), .val (.int ((((p3.toUInt32 >>> ((4 : Int32) &&& 31).toUInt32).toInt32) &&& (255 : Int32)).toInt8.toInt32)), .val (.int pp), .val (.int o1), .val (.int o2), .val (.int o3), .unset, .unset, .unset, .unset, .unset, .unset, .unset, .unset, .unset] [(.int (3 : Int32))]) _
    refine Go.of (fun tg_ kk_ => XS.iconst X115.here hx rfl (hb hby at_101) kk_) ?_
    show Go p e below T115 (mkF m 102 #[.val (.int p0), .val (.int p1), .val (.int p2), .val (.int p3), .val (.long p4), .second, .val (.ref b1), .val (.int pp), .val (.int (3 : Int32)), .val (.int ((((p3.toUInt32 >>> ((4 : Int32) &&& 31).toUInt32).toInt32) &&& (255 : Int32)).toInt8.toInt32)), .val (.int pp), .val (.int o1), .val (.int o2), .val (.int o3), .unset, .unset, .unset, .unset, .unset, .unset, .unset, .unset, .unset] [(.int (1 : Int32)), (.int (3 : Int32))]) _
    refine Go.of (fun tg_ kk_ => XS.icmpYes X115.here hx rfl (pc0 := 102) (pc' := 110) rfl (hb hby at_102) rfl (feq (show ¬ ((3 : Int32) = (1 : Int32)) by decide)).2 (by decide) (by decide) kk_) ?_
    show Go p e below T115 (mkF m 110 #[.val (.int p0), .val (.int p1), .val (.int p2), .val (.int p3), .val (.long p4), .second, .val (.ref b1), .val (.int pp), .val (.int (3 : Int32)), .val (.int ((((p3.toUInt32 >>> ((4 : Int32) &&& 31).toUInt32).toInt32) &&& (255 : Int32)).toInt8.toInt32)), .val (.int pp), .val (.int o1), .val (.int o2), .val (.int o3), .unset, .unset, .unset, .unset, .unset, .unset, .unset, .unset, .unset] []) _
    refine Go.of (fun tg_ kk_ => XS.iload X115.here hx rfl (hb hby at_110) rfl kk_) ?_
    show Go p e below T115 (mkF m 112 #[.val (.int p0), .val (.int p1), .val (.int p2), .val (.int p3), .val (.long p4), .second, .val (.ref b1), .val (.int pp), .val (.int (3 : Int32)), .val (.int ((((p3.toUInt32 >>> ((4 : Int32) &&& 31).toUInt32).toInt32) &&& (255 : Int32)).toInt8.toInt32)), .val (.int pp), .val (.int o1), .val (.int o2), .val (.int o3), .unset, .unset, .unset, .unset, .unset, .unset, .unset, .unset, .unset] [(.int (3 : Int32))]) _
    refine Go.of (fun tg_ kk_ => XS.iconst X115.here hx rfl (hb hby at_112) kk_) ?_
    show Go p e below T115 (mkF m 113 #[.val (.int p0), .val (.int p1), .val (.int p2), .val (.int p3), .val (.long p4), .second, .val (.ref b1), .val (.int pp), .val (.int (3 : Int32)), .val (.int ((((p3.toUInt32 >>> ((4 : Int32) &&& 31).toUInt32).toInt32) &&& (255 : Int32)).toInt8.toInt32)), .val (.int pp), .val (.int o1), .val (.int o2), .val (.int o3), .unset, .unset, .unset, .unset, .unset, .unset, .unset, .unset, .unset] [(.int (2 : Int32)), (.int (3 : Int32))]) _
    refine Go.of (fun tg_ kk_ => XS.icmpYes X115.here hx rfl (pc0 := 113) (pc' := 121) rfl (hb hby at_113) rfl (feq (show ¬ ((3 : Int32) = (2 : Int32)) by decide)).2 (by decide) (by decide) kk_) ?_
    show Go p e below T115 (mkF m 121 #[.val (.int p0), .val (.int p1), .val (.int p2), .val (.int p3), .val (.long p4), .second, .val (.ref b1), .val (.int pp), .val (.int (3 : Int32)), .val (.int ((((p3.toUInt32 >>> ((4 : Int32) &&& 31).toUInt32).toInt32) &&& (255 : Int32)).toInt8.toInt32)), .val (.int pp), .val (.int o1), .val (.int o2), .val (.int o3), .unset, .unset, .unset, .unset, .unset, .unset, .unset, .unset, .unset] []) _
    refine Go.of (fun tg_ kk_ => XS.iload X115.here hx rfl (hb hby at_121) rfl kk_) ?_
    show Go p e below T115 (mkF m 123 #[.val (.int p0), .val (.int p1), .val (.int p2), .val (.int p3), .val (.long p4), .second, .val (.ref b1), .val (.int pp), .val (.int (3 : Int32)), .val (.int ((((p3.toUInt32 >>> ((4 : Int32) &&& 31).toUInt32).toInt32) &&& (255 : Int32)).toInt8.toInt32)), .val (.int pp), .val (.int o1), .val (.int o2), .val (.int o3), .unset, .unset, .unset, .unset, .unset, .unset, .unset, .unset, .unset] [(.int o3)]) _
    refine Go.of (fun tg_ kk_ => XS.istore X115.here hx rfl (hb hby at_123) rfl (l' := #[.val (.int p0), .val (.int p1), .val (.int p2), .val (.int p3), .val (.long p4), .second, .val (.ref b1), .val (.int pp), .val (.int (3 : Int32)), .val (.int ((((p3.toUInt32 >>> ((4 : Int32) &&& 31).toUInt32).toInt32) &&& (255 : Int32)).toInt8.toInt32)), .val (.int pp), .val (.int o1), .val (.int o2), .val (.int o3), .val (.int o3), .unset, .unset, .unset, .unset, .unset, .unset, .unset, .unset]) rfl kk_) ?_
    show Go p e below T115 (mkF m 125 #[.val (.int p0), .val (.int p1), .val (.int p2), .val (.int p3), .val (.long p4), .second, .val (.ref b1), .val (.int pp), .val (.int (3 : Int32)), .val (.int ((((p3.toUInt32 >>> ((4 : Int32) &&& 31).toUInt32).toInt32) &&& (255 : Int32)).toInt8.toInt32)), .val (.int pp), .val (.int o1), .val (.int o2), .val (.int o3), .val (.int o3), .unset, .unset, .unset, .unset, .unset, .unset, .unset, .unset] []) _
    refine Go.of (fun tg_ kk_ => XS.iloadN X115.here hx rfl (hb hby at_125) rfl kk_) ?_
    show Go p e below T115 (mkF m 126 #[.val (.int p0), .val (.int p1), .val (.int p2), .val (.int p3), .val (.long p4), .second, .val (.ref b1), .val (.int pp), .val (.int (3 : Int32)), .val (.int ((((p3.toUInt32 >>> ((4 : Int32) &&& 31).toUInt32).toInt32) &&& (255 : Int32)).toInt8.toInt32)), .val (.int pp), .val (.int o1), .val (.int o2), .val (.int o3), .val (.int o3), .unset, .unset, .unset, .unset, .unset, .unset, .unset, .unset] [(.int p0)]) _
    obtain ⟨_, _, ⟨T119, L119, k119, n119⟩, -, X119, ⟨Lc119, hQ119, l119, y119, z119⟩, st119⟩ := Jvm.LawKit.callS X115 hx (y := (⟨"com/example/diagnostic/diagnostic/Utf8OffsetOfUnitPinLaw", "units", "(I)I"⟩ : MethodName)) hown (mvT hZ (hw _ (List.mem_of_getElem? (i := 6) rfl))) (mvT hZ (hw _ (List.mem_of_getElem? (i := 7) rfl))) (mvT hZ (hw _ (List.mem_of_getElem? (i := 3) rfl))) (mvT hZ (hw _ (List.mem_of_getElem? (i := 8) rfl))) (by decide) (backOf (W := 0) (rm2 l Z a0 hw [] p0 T115.heap n0 Zs118) hZ (hw _ (List.mem_of_getElem? (i := 8) rfl)) (hw _ (List.mem_of_getElem? (i := 3) rfl)) (by decide) (by decide)) (g := (mkF m 126 #[.val (.int p0), .val (.int p1), .val (.int p2), .val (.int p3), .val (.long p4), .second, .val (.ref b1), .val (.int pp), .val (.int (3 : Int32)), .val (.int ((((p3.toUInt32 >>> ((4 : Int32) &&& 31).toUInt32).toInt32) &&& (255 : Int32)).toInt8.toInt32)), .val (.int pp), .val (.int o1), .val (.int o2), .val (.int o3), .val (.int o3), .unset, .unset, .unset, .unset, .unset, .unset, .unset, .unset] [(.int p0)])) rfl (by rw [hml]; rfl) (argsL := [(.int p0)]) (rest := []) (lenOf pd_1 rfl) rfl (by show 2 * 0 + _ ≤ _; exact Nat.le_of_eq rfl) (hb hby at_126) (fun _ _ => ⟨rfl, rfl, (by decide : 1 + 0 ≤ _), (by decide : 16 + 0 ≤ _)⟩)
    dsimp only [Pt.U, Pt.locs, Pt.cells, Pt.slots] at X119 l119 y119 z119 st119 hQ119
    subst l119 y119 z119
    obtain ⟨rfl, N119q, e119⟩ := hQ119
    have N119 := Fr.app N115 N119q
    refine Go.of (st119) ?_
    show Go p e below T119 (mkF m 129 #[.val (.int p0), .val (.int p1), .val (.int p2), .val (.int p3), .val (.long p4), .second, .val (.ref b1), .val (.int pp), .val (.int (3 : Int32)), .val (.int ((((p3.toUInt32 >>> ((4 : Int32) &&& 31).toUInt32).toInt32) &&& (255 : Int32)).toInt8.toInt32)), .val (.int pp), .val (.int o1), .val (.int o2), .val (.int o3), .val (.int o3), .unset, .unset, .unset, .unset, .unset, .unset, .unset, .unset] [(.int (if (p0 &&& (3 : Int32)) = (3 : Int32) then (2 : Int32) else (1 : Int32)))]) _
    refine Go.of (fun tg_ kk_ => XS.i2l X119.here hx rfl (hb hby at_129) rfl kk_) ?_
    show Go p e below T119 (mkF m 130 #[.val (.int p0), .val (.int p1), .val (.int p2), .val (.int p3), .val (.long p4), .second, .val (.ref b1), .val (.int pp), .val (.int (3 : Int32)), .val (.int ((((p3.toUInt32 >>> ((4 : Int32) &&& 31).toUInt32).toInt32) &&& (255 : Int32)).toInt8.toInt32)), .val (.int pp), .val (.int o1), .val (.int o2), .val (.int o3), .val (.int o3), .unset, .unset, .unset, .unset, .unset, .unset, .unset, .unset] [(.long ((if (p0 &&& (3 : Int32)) = (3 : Int32) then (2 : Int32) else (1 : Int32)).toInt64))]) _
    obtain ⟨c1, qc1⟩ : ∃ zz_ : Int64, zz_ = ((if (p0 &&& (3 : Int32)) = (3 : Int32) then (2 : Int32) else (1 : Int32)).toInt64) := ⟨_, rfl⟩
    rw [← qc1]
    show Go p e below T119 (mkF m 130 #[.val (.int p0), .val (.int p1), .val (.int p2), .val (.int p3), .val (.long p4), .second, .val (.ref b1), .val (.int pp), .val (.int (3 : Int32)), .val (.int ((((p3.toUInt32 >>> ((4 : Int32) &&& 31).toUInt32).toInt32) &&& (255 : Int32)).toInt8.toInt32)), .val (.int pp), .val (.int o1), .val (.int o2), .val (.int o3), .val (.int o3), .unset, .unset, .unset, .unset, .unset, .unset, .unset, .unset] [(.long c1)]) _
    refine Go.of (fun tg_ kk_ => XS.lstore X119.here hx rfl (hb hby at_130) rfl (l' := #[.val (.int p0), .val (.int p1), .val (.int p2), .val (.int p3), .val (.long p4), .second, .val (.ref b1), .val (.int pp), .val (.int (3 : Int32)), .val (.int ((((p3.toUInt32 >>> ((4 : Int32) &&& 31).toUInt32).toInt32) &&& (255 : Int32)).toInt8.toInt32)), .val (.int pp), .val (.int o1), .val (.int o2), .val (.int o3), .val (.int o3), .val (.long c1), .second, .unset, .unset, .unset, .unset, .unset, .unset]) rfl kk_) ?_
    show Go p e below T119 (mkF m 132 #[.val (.int p0), .val (.int p1), .val (.int p2), .val (.int p3), .val (.long p4), .second, .val (.ref b1), .val (.int pp), .val (.int (3 : Int32)), .val (.int ((((p3.toUInt32 >>> ((4 : Int32) &&& 31).toUInt32).toInt32) &&& (255 : Int32)).toInt8.toInt32)), .val (.int pp), .val (.int o1), .val (.int o2), .val (.int o3), .val (.int o3), .val (.long c1), .second, .unset, .unset, .unset, .unset, .unset, .unset] []) _
    refine Go.of (fun tg_ kk_ => XS.lload X119.here hx rfl (hb hby at_132) rfl kk_) ?_
    show Go p e below T119 (mkF m 134 #[.val (.int p0), .val (.int p1), .val (.int p2), .val (.int p3), .val (.long p4), .second, .val (.ref b1), .val (.int pp), .val (.int (3 : Int32)), .val (.int ((((p3.toUInt32 >>> ((4 : Int32) &&& 31).toUInt32).toInt32) &&& (255 : Int32)).toInt8.toInt32)), .val (.int pp), .val (.int o1), .val (.int o2), .val (.int o3), .val (.int o3), .val (.long c1), .second, .unset, .unset, .unset, .unset, .unset, .unset] [(.long c1)]) _
    refine Go.of (fun tg_ kk_ => XS.iloadN X119.here hx rfl (hb hby at_134) rfl kk_) ?_
    show Go p e below T119 (mkF m 135 #[.val (.int p0), .val (.int p1), .val (.int p2), .val (.int p3), .val (.long p4), .second, .val (.ref b1), .val (.int pp), .val (.int (3 : Int32)), .val (.int ((((p3.toUInt32 >>> ((4 : Int32) &&& 31).toUInt32).toInt32) &&& (255 : Int32)).toInt8.toInt32)), .val (.int pp), .val (.int o1), .val (.int o2), .val (.int o3), .val (.int o3), .val (.long c1), .second, .unset, .unset, .unset, .unset, .unset, .unset] [(.int p1), (.long c1)]) _
    obtain ⟨_, _, ⟨T120, L120, k120, n120⟩, -, X120, ⟨Lc120, hQ120, l120, y120, z120⟩, st120⟩ := Jvm.LawKit.callS X119 hx (y := (⟨"com/example/diagnostic/diagnostic/Utf8OffsetOfUnitPinLaw", "units", "(I)I"⟩ : MethodName)) hown (mvT hZ (hw _ (List.mem_of_getElem? (i := 6) rfl))) (mvT hZ (hw _ (List.mem_of_getElem? (i := 7) rfl))) (mvT hZ (hw _ (List.mem_of_getElem? (i := 3) rfl))) (mvT hZ (hw _ (List.mem_of_getElem? (i := 8) rfl))) (by decide) (backOf (W := 2) (rm2 l Z a0 hw [] p1 T115.heap n0 Zs118) hZ (hw _ (List.mem_of_getElem? (i := 8) rfl)) (hw _ (List.mem_of_getElem? (i := 3) rfl)) (by decide) (by decide)) (g := (mkF m 135 #[.val (.int p0), .val (.int p1), .val (.int p2), .val (.int p3), .val (.long p4), .second, .val (.ref b1), .val (.int pp), .val (.int (3 : Int32)), .val (.int ((((p3.toUInt32 >>> ((4 : Int32) &&& 31).toUInt32).toInt32) &&& (255 : Int32)).toInt8.toInt32)), .val (.int pp), .val (.int o1), .val (.int o2), .val (.int o3), .val (.int o3), .val (.long c1), .second, .unset, .unset, .unset, .unset, .unset, .unset] [(.int p1), (.long c1)])) rfl (by rw [hml]; rfl) (argsL := [(.int p1)]) (rest := [(.long c1)]) (lenOf pd_1 rfl) rfl (by show 2 * 0 + _ ≤ _; exact Nat.le_of_eq rfl) (hb hby at_135) (fun _ _ => ⟨rfl, e119, (by decide : 1 + 0 ≤ _), (by decide : 16 + 0 ≤ _)⟩)
    dsimp only [Pt.U, Pt.locs, Pt.cells, Pt.slots] at X120 l120 y120 z120 st120 hQ120
    subst l120 y120 z120
    obtain ⟨rfl, N120q, e120⟩ := hQ120
    have N120 := Fr.app N119 N120q
    refine Go.of (st120) ?_
    show Go p e below T120 (mkF m 138 #[.val (.int p0), .val (.int p1), .val (.int p2), .val (.int p3), .val (.long p4), .second, .val (.ref b1), .val (.int pp), .val (.int (3 : Int32)), .val (.int ((((p3.toUInt32 >>> ((4 : Int32) &&& 31).toUInt32).toInt32) &&& (255 : Int32)).toInt8.toInt32)), .val (.int pp), .val (.int o1), .val (.int o2), .val (.int o3), .val (.int o3), .val (.long c1), .second, .unset, .unset, .unset, .unset, .unset, .unset] [(.int (if (p1 &&& (3 : Int32)) = (3 : Int32) then (2 : Int32) else (1 : Int32))), (.long c1)]) _
    refine Go.of (fun tg_ kk_ => XS.i2l X120.here hx rfl (hb hby at_138) rfl kk_) ?_
    show Go p e below T120 (mkF m 139 #[.val (.int p0), .val (.int p1), .val (.int p2), .val (.int p3), .val (.long p4), .second, .val (.ref b1), .val (.int pp), .val (.int (3 : Int32)), .val (.int ((((p3.toUInt32 >>> ((4 : Int32) &&& 31).toUInt32).toInt32) &&& (255 : Int32)).toInt8.toInt32)), .val (.int pp), .val (.int o1), .val (.int o2), .val (.int o3), .val (.int o3), .val (.long c1), .second, .unset, .unset, .unset, .unset, .unset, .unset] [(.long ((if (p1 &&& (3 : Int32)) = (3 : Int32) then (2 : Int32) else (1 : Int32)).toInt64)), (.long c1)]) _
    refine Go.of (fun tg_ kk_ => XS.ladd X120.here hx rfl (hb hby at_139) rfl kk_) ?_
    show Go p e below T120 (mkF m 140 #[.val (.int p0), .val (.int p1), .val (.int p2), .val (.int p3), .val (.long p4), .second, .val (.ref b1), .val (.int pp), .val (.int (3 : Int32)), .val (.int ((((p3.toUInt32 >>> ((4 : Int32) &&& 31).toUInt32).toInt32) &&& (255 : Int32)).toInt8.toInt32)), .val (.int pp), .val (.int o1), .val (.int o2), .val (.int o3), .val (.int o3), .val (.long c1), .second, .unset, .unset, .unset, .unset, .unset, .unset] [(.long (c1 + ((if (p1 &&& (3 : Int32)) = (3 : Int32) then (2 : Int32) else (1 : Int32)).toInt64)))]) _
    obtain ⟨c2, qc2⟩ : ∃ zz_ : Int64, zz_ = (c1 + ((if (p1 &&& (3 : Int32)) = (3 : Int32) then (2 : Int32) else (1 : Int32)).toInt64)) := ⟨_, rfl⟩
    rw [← qc2]
    show Go p e below T120 (mkF m 140 #[.val (.int p0), .val (.int p1), .val (.int p2), .val (.int p3), .val (.long p4), .second, .val (.ref b1), .val (.int pp), .val (.int (3 : Int32)), .val (.int ((((p3.toUInt32 >>> ((4 : Int32) &&& 31).toUInt32).toInt32) &&& (255 : Int32)).toInt8.toInt32)), .val (.int pp), .val (.int o1), .val (.int o2), .val (.int o3), .val (.int o3), .val (.long c1), .second, .unset, .unset, .unset, .unset, .unset, .unset] [(.long c2)]) _
    refine Go.of (fun tg_ kk_ => XS.lstore X120.here hx rfl (hb hby at_140) rfl (l' := #[.val (.int p0), .val (.int p1), .val (.int p2), .val (.int p3), .val (.long p4), .second, .val (.ref b1), .val (.int pp), .val (.int (3 : Int32)), .val (.int ((((p3.toUInt32 >>> ((4 : Int32) &&& 31).toUInt32).toInt32) &&& (255 : Int32)).toInt8.toInt32)), .val (.int pp), .val (.int o1), .val (.int o2), .val (.int o3), .val (.int o3), .val (.long c1), .second, .val (.long c2), .second, .unset, .unset, .unset, .unset]) rfl kk_) ?_
    show Go p e below T120 (mkF m 142 #[.val (.int p0), .val (.int p1), .val (.int p2), .val (.int p3), .val (.long p4), .second, .val (.ref b1), .val (.int pp), .val (.int (3 : Int32)), .val (.int ((((p3.toUInt32 >>> ((4 : Int32) &&& 31).toUInt32).toInt32) &&& (255 : Int32)).toInt8.toInt32)), .val (.int pp), .val (.int o1), .val (.int o2), .val (.int o3), .val (.int o3), .val (.long c1), .second, .val (.long c2), .second, .unset, .unset, .unset, .unset] []) _
    refine Go.of (fun tg_ kk_ => XS.lload X120.here hx rfl (hb hby at_142) rfl kk_) ?_
    show Go p e below T120 (mkF m 144 #[.val (.int p0), .val (.int p1), .val (.int p2), .val (.int p3), .val (.long p4), .second, .val (.ref b1), .val (.int pp), .val (.int (3 : Int32)), .val (.int ((((p3.toUInt32 >>> ((4 : Int32) &&& 31).toUInt32).toInt32) &&& (255 : Int32)).toInt8.toInt32)), .val (.int pp), .val (.int o1), .val (.int o2), .val (.int o3), .val (.int o3), .val (.long c1), .second, .val (.long c2), .second, .unset, .unset, .unset, .unset] [(.long c2)]) _
    refine Go.of (fun tg_ kk_ => XS.iloadN X120.here hx rfl (hb hby at_144) rfl kk_) ?_
    show Go p e below T120 (mkF m 145 #[.val (.int p0), .val (.int p1), .val (.int p2), .val (.int p3), .val (.long p4), .second, .val (.ref b1), .val (.int pp), .val (.int (3 : Int32)), .val (.int ((((p3.toUInt32 >>> ((4 : Int32) &&& 31).toUInt32).toInt32) &&& (255 : Int32)).toInt8.toInt32)), .val (.int pp), .val (.int o1), .val (.int o2), .val (.int o3), .val (.int o3), .val (.long c1), .second, .val (.long c2), .second, .unset, .unset, .unset, .unset] [(.int p2), (.long c2)]) _
    obtain ⟨_, _, ⟨T121, L121, k121, n121⟩, -, X121, ⟨Lc121, hQ121, l121, y121, z121⟩, st121⟩ := Jvm.LawKit.callS X120 hx (y := (⟨"com/example/diagnostic/diagnostic/Utf8OffsetOfUnitPinLaw", "units", "(I)I"⟩ : MethodName)) hown (mvT hZ (hw _ (List.mem_of_getElem? (i := 6) rfl))) (mvT hZ (hw _ (List.mem_of_getElem? (i := 7) rfl))) (mvT hZ (hw _ (List.mem_of_getElem? (i := 3) rfl))) (mvT hZ (hw _ (List.mem_of_getElem? (i := 8) rfl))) (by decide) (backOf (W := 2) (rm2 l Z a0 hw [] p2 T115.heap n0 Zs118) hZ (hw _ (List.mem_of_getElem? (i := 8) rfl)) (hw _ (List.mem_of_getElem? (i := 3) rfl)) (by decide) (by decide)) (g := (mkF m 145 #[.val (.int p0), .val (.int p1), .val (.int p2), .val (.int p3), .val (.long p4), .second, .val (.ref b1), .val (.int pp), .val (.int (3 : Int32)), .val (.int ((((p3.toUInt32 >>> ((4 : Int32) &&& 31).toUInt32).toInt32) &&& (255 : Int32)).toInt8.toInt32)), .val (.int pp), .val (.int o1), .val (.int o2), .val (.int o3), .val (.int o3), .val (.long c1), .second, .val (.long c2), .second, .unset, .unset, .unset, .unset] [(.int p2), (.long c2)])) rfl (by rw [hml]; rfl) (argsL := [(.int p2)]) (rest := [(.long c2)]) (lenOf pd_1 rfl) rfl (by show 2 * 0 + _ ≤ _; exact Nat.le_of_eq rfl) (hb hby at_145) (fun _ _ => ⟨rfl, e120, (by decide : 1 + 0 ≤ _), (by decide : 16 + 0 ≤ _)⟩)
    dsimp only [Pt.U, Pt.locs, Pt.cells, Pt.slots] at X121 l121 y121 z121 st121 hQ121
    subst l121 y121 z121
    obtain ⟨rfl, N121q, e121⟩ := hQ121
    have N121 := Fr.app N120 N121q
    refine Go.of (st121) ?_
    show Go p e below T121 (mkF m 148 #[.val (.int p0), .val (.int p1), .val (.int p2), .val (.int p3), .val (.long p4), .second, .val (.ref b1), .val (.int pp), .val (.int (3 : Int32)), .val (.int ((((p3.toUInt32 >>> ((4 : Int32) &&& 31).toUInt32).toInt32) &&& (255 : Int32)).toInt8.toInt32)), .val (.int pp), .val (.int o1), .val (.int o2), .val (.int o3), .val (.int o3), .val (.long c1), .second, .val (.long c2), .second, .unset, .unset, .unset, .unset] [(.int (if (p2 &&& (3 : Int32)) = (3 : Int32) then (2 : Int32) else (1 : Int32))), (.long c2)]) _
    refine Go.of (fun tg_ kk_ => XS.i2l X121.here hx rfl (hb hby at_148) rfl kk_) ?_
    show Go p e below T121 (mkF m 149 #[.val (.int p0), .val (.int p1), .val (.int p2), .val (.int p3), .val (.long p4), .second, .val (.ref b1), .val (.int pp), .val (.int (3 : Int32)), .val (.int ((((p3.toUInt32 >>> ((4 : Int32) &&& 31).toUInt32).toInt32) &&& (255 : Int32)).toInt8.toInt32)), .val (.int pp), .val (.int o1), .val (.int o2), .val (.int o3), .val (.int o3), .val (.long c1), .second, .val (.long c2), .second, .unset, .unset, .unset, .unset] [(.long ((if (p2 &&& (3 : Int32)) = (3 : Int32) then (2 : Int32) else (1 : Int32)).toInt64)), (.long c2)]) _
    refine Go.of (fun tg_ kk_ => XS.ladd X121.here hx rfl (hb hby at_149) rfl kk_) ?_
    show Go p e below T121 (mkF m 150 #[.val (.int p0), .val (.int p1), .val (.int p2), .val (.int p3), .val (.long p4), .second, .val (.ref b1), .val (.int pp), .val (.int (3 : Int32)), .val (.int ((((p3.toUInt32 >>> ((4 : Int32) &&& 31).toUInt32).toInt32) &&& (255 : Int32)).toInt8.toInt32)), .val (.int pp), .val (.int o1), .val (.int o2), .val (.int o3), .val (.int o3), .val (.long c1), .second, .val (.long c2), .second, .unset, .unset, .unset, .unset] [(.long (c2 + ((if (p2 &&& (3 : Int32)) = (3 : Int32) then (2 : Int32) else (1 : Int32)).toInt64)))]) _
    obtain ⟨c3, qc3⟩ : ∃ zz_ : Int64, zz_ = (c2 + ((if (p2 &&& (3 : Int32)) = (3 : Int32) then (2 : Int32) else (1 : Int32)).toInt64)) := ⟨_, rfl⟩
    rw [← qc3]
    show Go p e below T121 (mkF m 150 #[.val (.int p0), .val (.int p1), .val (.int p2), .val (.int p3), .val (.long p4), .second, .val (.ref b1), .val (.int pp), .val (.int (3 : Int32)), .val (.int ((((p3.toUInt32 >>> ((4 : Int32) &&& 31).toUInt32).toInt32) &&& (255 : Int32)).toInt8.toInt32)), .val (.int pp), .val (.int o1), .val (.int o2), .val (.int o3), .val (.int o3), .val (.long c1), .second, .val (.long c2), .second, .unset, .unset, .unset, .unset] [(.long c3)]) _
    refine Go.of (fun tg_ kk_ => XS.lstore X121.here hx rfl (hb hby at_150) rfl (l' := #[.val (.int p0), .val (.int p1), .val (.int p2), .val (.int p3), .val (.long p4), .second, .val (.ref b1), .val (.int pp), .val (.int (3 : Int32)), .val (.int ((((p3.toUInt32 >>> ((4 : Int32) &&& 31).toUInt32).toInt32) &&& (255 : Int32)).toInt8.toInt32)), .val (.int pp), .val (.int o1), .val (.int o2), .val (.int o3), .val (.int o3), .val (.long c1), .second, .val (.long c2), .second, .val (.long c3), .second, .unset, .unset]) rfl kk_) ?_
    show Go p e below T121 (mkF m 152 #[.val (.int p0), .val (.int p1), .val (.int p2), .val (.int p3), .val (.long p4), .second, .val (.ref b1), .val (.int pp), .val (.int (3 : Int32)), .val (.int ((((p3.toUInt32 >>> ((4 : Int32) &&& 31).toUInt32).toInt32) &&& (255 : Int32)).toInt8.toInt32)), .val (.int pp), .val (.int o1), .val (.int o2), .val (.int o3), .val (.int o3), .val (.long c1), .second, .val (.long c2), .second, .val (.long c3), .second, .unset, .unset] []) _
    refine Go.of (fun tg_ kk_ => XS.iload X121.here hx rfl (hb hby at_152) rfl kk_) ?_
    show Go p e below T121 (mkF m 154 #[.val (.int p0), .val (.int p1), .val (.int p2), .val (.int p3), .val (.long p4), .second, .val (.ref b1), .val (.int pp), .val (.int (3 : Int32)), .val (.int ((((p3.toUInt32 >>> ((4 : Int32) &&& 31).toUInt32).toInt32) &&& (255 : Int32)).toInt8.toInt32)), .val (.int pp), .val (.int o1), .val (.int o2), .val (.int o3), .val (.int o3), .val (.long c1), .second, .val (.long c2), .second, .val (.long c3), .second, .unset, .unset] [(.int (3 : Int32))]) _
    refine Go.of (fun tg_ kk_ => XS.iconst X121.here hx rfl (hb hby at_154) kk_) ?_
    show Go p e below T121 (mkF m 155 #[.val (.int p0), .val (.int p1), .val (.int p2), .val (.int p3), .val (.long p4), .second, .val (.ref b1), .val (.int pp), .val (.int (3 : Int32)), .val (.int ((((p3.toUInt32 >>> ((4 : Int32) &&& 31).toUInt32).toInt32) &&& (255 : Int32)).toInt8.toInt32)), .val (.int pp), .val (.int o1), .val (.int o2), .val (.int o3), .val (.int o3), .val (.long c1), .second, .val (.long c2), .second, .val (.long c3), .second, .unset, .unset] [(.int (1 : Int32)), (.int (3 : Int32))]) _
    refine Go.of (fun tg_ kk_ => XS.icmpNo X121.here hx rfl (hb hby at_155) rfl (flt (show ¬ ((3 : Int32) < (1 : Int32)) by decide)).1 kk_) ?_
    show Go p e below T121 (mkF m 158 #[.val (.int p0), .val (.int p1), .val (.int p2), .val (.int p3), .val (.long p4), .second, .val (.ref b1), .val (.int pp), .val (.int (3 : Int32)), .val (.int ((((p3.toUInt32 >>> ((4 : Int32) &&& 31).toUInt32).toInt32) &&& (255 : Int32)).toInt8.toInt32)), .val (.int pp), .val (.int o1), .val (.int o2), .val (.int o3), .val (.int o3), .val (.long c1), .second, .val (.long c2), .second, .val (.long c3), .second, .unset, .unset] []) _
    refine Go.of (fun tg_ kk_ => XS.lload X121.here hx rfl (hb hby at_158) rfl kk_) ?_
    show Go p e below T121 (mkF m 160 #[.val (.int p0), .val (.int p1), .val (.int p2), .val (.int p3), .val (.long p4), .second, .val (.ref b1), .val (.int pp), .val (.int (3 : Int32)), .val (.int ((((p3.toUInt32 >>> ((4 : Int32) &&& 31).toUInt32).toInt32) &&& (255 : Int32)).toInt8.toInt32)), .val (.int pp), .val (.int o1), .val (.int o2), .val (.int o3), .val (.int o3), .val (.long c1), .second, .val (.long c2), .second, .val (.long c3), .second, .unset, .unset] [(.long c1)]) _
    refine Go.of (fun tg_ kk_ => XS.lload X121.here hx rfl (hb hby at_160) rfl kk_) ?_
    show Go p e below T121 (mkF m 162 #[.val (.int p0), .val (.int p1), .val (.int p2), .val (.int p3), .val (.long p4), .second, .val (.ref b1), .val (.int pp), .val (.int (3 : Int32)), .val (.int ((((p3.toUInt32 >>> ((4 : Int32) &&& 31).toUInt32).toInt32) &&& (255 : Int32)).toInt8.toInt32)), .val (.int pp), .val (.int o1), .val (.int o2), .val (.int o3), .val (.int o3), .val (.long c1), .second, .val (.long c2), .second, .val (.long c3), .second, .unset, .unset] [(.long p4), (.long c1)]) _
    refine Go.of (fun tg_ kk_ => XS.lcmp X121.here hx rfl (hb hby at_162) rfl kk_) ?_
    show Go p e below T121 (mkF m 163 #[.val (.int p0), .val (.int p1), .val (.int p2), .val (.int p3), .val (.long p4), .second, .val (.ref b1), .val (.int pp), .val (.int (3 : Int32)), .val (.int ((((p3.toUInt32 >>> ((4 : Int32) &&& 31).toUInt32).toInt32) &&& (255 : Int32)).toInt8.toInt32)), .val (.int pp), .val (.int o1), .val (.int o2), .val (.int o3), .val (.int o3), .val (.long c1), .second, .val (.long c2), .second, .val (.long c3), .second, .unset, .unset] [(.int (lcmpW c1 p4))]) _
    by_cases hc122 : p4 < c1
    · skip
      refine Go.of (fun tg_ kk_ => XS.ifNo X121.here hx rfl (hb hby at_163) rfl ((if0 _ _).trans (tlt ((lw_gt c1 p4).mpr hc122)).2.2.2) kk_) ?_
      show Go p e below T121 (mkF m 166 #[.val (.int p0), .val (.int p1), .val (.int p2), .val (.int p3), .val (.long p4), .second, .val (.ref b1), .val (.int pp), .val (.int (3 : Int32)), .val (.int ((((p3.toUInt32 >>> ((4 : Int32) &&& 31).toUInt32).toInt32) &&& (255 : Int32)).toInt8.toInt32)), .val (.int pp), .val (.int o1), .val (.int o2), .val (.int o3), .val (.int o3), .val (.long c1), .second, .val (.long c2), .second, .val (.long c3), .second, .unset, .unset] []) _
      refine Go.of (fun tg_ kk_ => XS.iload X121.here hx rfl (hb hby at_166) rfl kk_) ?_
      show Go p e below T121 (mkF m 168 #[.val (.int p0), .val (.int p1), .val (.int p2), .val (.int p3), .val (.long p4), .second, .val (.ref b1), .val (.int pp), .val (.int (3 : Int32)), .val (.int ((((p3.toUInt32 >>> ((4 : Int32) &&& 31).toUInt32).toInt32) &&& (255 : Int32)).toInt8.toInt32)), .val (.int pp), .val (.int o1), .val (.int o2), .val (.int o3), .val (.int o3), .val (.long c1), .second, .val (.long c2), .second, .val (.long c3), .second, .unset, .unset] [(.int pp)]) _
      refine Go.of (fun tg_ kk_ => XS.istore X121.here hx rfl (hb hby at_168) rfl (l' := #[.val (.int p0), .val (.int p1), .val (.int p2), .val (.int p3), .val (.long p4), .second, .val (.ref b1), .val (.int pp), .val (.int (3 : Int32)), .val (.int ((((p3.toUInt32 >>> ((4 : Int32) &&& 31).toUInt32).toInt32) &&& (255 : Int32)).toInt8.toInt32)), .val (.int pp), .val (.int o1), .val (.int o2), .val (.int o3), .val (.int o3), .val (.long c1), .second, .val (.long c2), .second, .val (.long c3), .second, .val (.int pp), .unset]) rfl kk_) ?_
      show Go p e below T121 (mkF m 170 #[.val (.int p0), .val (.int p1), .val (.int p2), .val (.int p3), .val (.long p4), .second, .val (.ref b1), .val (.int pp), .val (.int (3 : Int32)), .val (.int ((((p3.toUInt32 >>> ((4 : Int32) &&& 31).toUInt32).toInt32) &&& (255 : Int32)).toInt8.toInt32)), .val (.int pp), .val (.int o1), .val (.int o2), .val (.int o3), .val (.int o3), .val (.long c1), .second, .val (.long c2), .second, .val (.long c3), .second, .val (.int pp), .unset] []) _
      refine Go.of (fun tg_ kk_ => XS.goto X121.here hx rfl (pc0 := 170) (pc' := 219) rfl (hb hby at_170) (by decide) (by decide) kk_) ?_
      show Go p e below T121 (mkF m 219 #[.val (.int p0), .val (.int p1), .val (.int p2), .val (.int p3), .val (.long p4), .second, .val (.ref b1), .val (.int pp), .val (.int (3 : Int32)), .val (.int ((((p3.toUInt32 >>> ((4 : Int32) &&& 31).toUInt32).toInt32) &&& (255 : Int32)).toInt8.toInt32)), .val (.int pp), .val (.int o1), .val (.int o2), .val (.int o3), .val (.int o3), .val (.long c1), .second, .val (.long c2), .second, .val (.long c3), .second, .val (.int pp), .unset] []) _
      refine Go.of (fun tg_ kk_ => XS.aload X121.here hx rfl (hb hby at_219) rfl rfl kk_) ?_
      show Go p e below T121 (mkF m 221 #[.val (.int p0), .val (.int p1), .val (.int p2), .val (.int p3), .val (.long p4), .second, .val (.ref b1), .val (.int pp), .val (.int (3 : Int32)), .val (.int ((((p3.toUInt32 >>> ((4 : Int32) &&& 31).toUInt32).toInt32) &&& (255 : Int32)).toInt8.toInt32)), .val (.int pp), .val (.int o1), .val (.int o2), .val (.int o3), .val (.int o3), .val (.long c1), .second, .val (.long c2), .second, .val (.long c3), .second, .val (.int pp), .unset] [(.ref b1)]) _
      refine Go.of (fun tg_ kk_ => XS.iload X121.here hx rfl (hb hby at_221) rfl kk_) ?_
      show Go p e below T121 (mkF m 223 #[.val (.int p0), .val (.int p1), .val (.int p2), .val (.int p3), .val (.long p4), .second, .val (.ref b1), .val (.int pp), .val (.int (3 : Int32)), .val (.int ((((p3.toUInt32 >>> ((4 : Int32) &&& 31).toUInt32).toInt32) &&& (255 : Int32)).toInt8.toInt32)), .val (.int pp), .val (.int o1), .val (.int o2), .val (.int o3), .val (.int o3), .val (.long c1), .second, .val (.long c2), .second, .val (.long c3), .second, .val (.int pp), .unset] [(.int pp), (.ref b1)]) _
      refine Go.of (fun tg_ kk_ => XS.iload X121.here hx rfl (hb hby at_223) rfl kk_) ?_
      show Go p e below T121 (mkF m 225 #[.val (.int p0), .val (.int p1), .val (.int p2), .val (.int p3), .val (.long p4), .second, .val (.ref b1), .val (.int pp), .val (.int (3 : Int32)), .val (.int ((((p3.toUInt32 >>> ((4 : Int32) &&& 31).toUInt32).toInt32) &&& (255 : Int32)).toInt8.toInt32)), .val (.int pp), .val (.int o1), .val (.int o2), .val (.int o3), .val (.int o3), .val (.long c1), .second, .val (.long c2), .second, .val (.long c3), .second, .val (.int pp), .unset] [(.int o3), (.int pp), (.ref b1)]) _
      refine Go.of (fun tg_ kk_ => XS.lload X121.here hx rfl (hb hby at_225) rfl kk_) ?_
      show Go p e below T121 (mkF m 227 #[.val (.int p0), .val (.int p1), .val (.int p2), .val (.int p3), .val (.long p4), .second, .val (.ref b1), .val (.int pp), .val (.int (3 : Int32)), .val (.int ((((p3.toUInt32 >>> ((4 : Int32) &&& 31).toUInt32).toInt32) &&& (255 : Int32)).toInt8.toInt32)), .val (.int pp), .val (.int o1), .val (.int o2), .val (.int o3), .val (.int o3), .val (.long c1), .second, .val (.long c2), .second, .val (.long c3), .second, .val (.int pp), .unset] [(.long p4), (.int o3), (.int pp), (.ref b1)]) _
      obtain ⟨_, _, ⟨T123, L123, k123, n123⟩, -, X123, ⟨Lc123, hQ123, l123, y123, z123⟩, st123⟩ := Jvm.LawKit.callS X121 hx (y := (⟨"com/example/diagnostic/diagnostic/Utf8", "offsetOfUnit", "([BIIJ)I"⟩ : MethodName)) hown (mvT hZ (hw _ (List.mem_of_getElem? (i := 9) rfl))) (mvT hZ (hw _ (List.mem_of_getElem? (i := 10) rfl))) (mvT hZ (hw _ (List.mem_of_getElem? (i := 11) rfl))) (mvT hZ (hw _ (List.mem_of_getElem? (i := 12) rfl))) (by decide) (backOf (W := 0) (rm3 l Z a0 hw [] b1 pp o3 p4 g115 T115.heap n0 Zs118 V115 hb0.1 (by have := hb3; omega)) hZ (hw _ (List.mem_of_getElem? (i := 12) rfl)) (hw _ (List.mem_of_getElem? (i := 11) rfl)) (by decide) (by decide)) (g := (mkF m 227 #[.val (.int p0), .val (.int p1), .val (.int p2), .val (.int p3), .val (.long p4), .second, .val (.ref b1), .val (.int pp), .val (.int (3 : Int32)), .val (.int ((((p3.toUInt32 >>> ((4 : Int32) &&& 31).toUInt32).toInt32) &&& (255 : Int32)).toInt8.toInt32)), .val (.int pp), .val (.int o1), .val (.int o2), .val (.int o3), .val (.int o3), .val (.long c1), .second, .val (.long c2), .second, .val (.long c3), .second, .val (.int pp), .unset] [(.long p4), (.int o3), (.int pp), (.ref b1)])) rfl (by rw [hml]; rfl) (argsL := [(.ref b1), (.int pp), (.int o3), (.long p4)]) (rest := []) (lenOf pd_2 rfl) rfl (by show 2 * 0 + _ ≤ _; exact Nat.le_of_eq rfl) (hb hby at_227) (fun _ _ => ⟨rfl, e121, (by decide : 1 + 0 ≤ _), (by decide : 16 + 0 ≤ _)⟩)
      dsimp only [Pt.U, Pt.locs, Pt.cells, Pt.slots] at X123 l123 y123 z123 st123 hQ123
      subst l123 y123 z123
      obtain ⟨rfl, N123q, e123⟩ := hQ123
      have N123 := Fr.app N121 N123q
      refine Go.of (st123) ?_
      show Go p e below T123 (mkF m 230 #[.val (.int p0), .val (.int p1), .val (.int p2), .val (.int p3), .val (.long p4), .second, .val (.ref b1), .val (.int pp), .val (.int (3 : Int32)), .val (.int ((((p3.toUInt32 >>> ((4 : Int32) &&& 31).toUInt32).toInt32) &&& (255 : Int32)).toInt8.toInt32)), .val (.int pp), .val (.int o1), .val (.int o2), .val (.int o3), .val (.int o3), .val (.long c1), .second, .val (.long c2), .second, .val (.long c3), .second, .val (.int pp), .unset] [(.int (scan 16 g115 pp o3 0 p4))]) _
      refine Go.of (fun tg_ kk_ => XS.istore X123.here hx rfl (hb hby at_230) rfl (l' := #[.val (.int p0), .val (.int p1), .val (.int p2), .val (.int p3), .val (.long p4), .second, .val (.ref b1), .val (.int pp), .val (.int (3 : Int32)), .val (.int ((((p3.toUInt32 >>> ((4 : Int32) &&& 31).toUInt32).toInt32) &&& (255 : Int32)).toInt8.toInt32)), .val (.int pp), .val (.int o1), .val (.int o2), .val (.int o3), .val (.int o3), .val (.long c1), .second, .val (.long c2), .second, .val (.long c3), .second, .val (.int pp), .val (.int (scan 16 g115 pp o3 0 p4))]) rfl kk_) ?_
      show Go p e below T123 (mkF m 232 #[.val (.int p0), .val (.int p1), .val (.int p2), .val (.int p3), .val (.long p4), .second, .val (.ref b1), .val (.int pp), .val (.int (3 : Int32)), .val (.int ((((p3.toUInt32 >>> ((4 : Int32) &&& 31).toUInt32).toInt32) &&& (255 : Int32)).toInt8.toInt32)), .val (.int pp), .val (.int o1), .val (.int o2), .val (.int o3), .val (.int o3), .val (.long c1), .second, .val (.long c2), .second, .val (.long c3), .second, .val (.int pp), .val (.int (scan 16 g115 pp o3 0 p4))] []) _
      refine Go.of (fun tg_ kk_ => XS.iload X123.here hx rfl (hb hby at_232) rfl kk_) ?_
      show Go p e below T123 (mkF m 234 #[.val (.int p0), .val (.int p1), .val (.int p2), .val (.int p3), .val (.long p4), .second, .val (.ref b1), .val (.int pp), .val (.int (3 : Int32)), .val (.int ((((p3.toUInt32 >>> ((4 : Int32) &&& 31).toUInt32).toInt32) &&& (255 : Int32)).toInt8.toInt32)), .val (.int pp), .val (.int o1), .val (.int o2), .val (.int o3), .val (.int o3), .val (.long c1), .second, .val (.long c2), .second, .val (.long c3), .second, .val (.int pp), .val (.int (scan 16 g115 pp o3 0 p4))] [(.int (scan 16 g115 pp o3 0 p4))]) _
      refine Go.of (fun tg_ kk_ => XS.iload X123.here hx rfl (hb hby at_234) rfl kk_) ?_
      show Go p e below T123 (mkF m 236 #[.val (.int p0), .val (.int p1), .val (.int p2), .val (.int p3), .val (.long p4), .second, .val (.ref b1), .val (.int pp), .val (.int (3 : Int32)), .val (.int ((((p3.toUInt32 >>> ((4 : Int32) &&& 31).toUInt32).toInt32) &&& (255 : Int32)).toInt8.toInt32)), .val (.int pp), .val (.int o1), .val (.int o2), .val (.int o3), .val (.int o3), .val (.long c1), .second, .val (.long c2), .second, .val (.long c3), .second, .val (.int pp), .val (.int (scan 16 g115 pp o3 0 p4))] [(.int pp), (.int (scan 16 g115 pp o3 0 p4))]) _
      refine Go.of (fun tg_ kk_ => XS.icmpNo X123.here hx rfl (hb hby at_236) rfl (teq (show (scan 16 g115 pp o3 0 p4) = pp from (by rw [own_r1 (by omega) hl0 qo1 (own_z0 _ _ qc1), if_pos hc122]))).2 kk_) ?_
      show Go p e below T123 (mkF m 239 #[.val (.int p0), .val (.int p1), .val (.int p2), .val (.int p3), .val (.long p4), .second, .val (.ref b1), .val (.int pp), .val (.int (3 : Int32)), .val (.int ((((p3.toUInt32 >>> ((4 : Int32) &&& 31).toUInt32).toInt32) &&& (255 : Int32)).toInt8.toInt32)), .val (.int pp), .val (.int o1), .val (.int o2), .val (.int o3), .val (.int o3), .val (.long c1), .second, .val (.long c2), .second, .val (.long c3), .second, .val (.int pp), .val (.int (scan 16 g115 pp o3 0 p4))] []) _
      refine Go.of (fun tg_ kk_ => XS.iconst X123.here hx rfl (hb hby at_239) kk_) ?_
      show Go p e below T123 (mkF m 240 #[.val (.int p0), .val (.int p1), .val (.int p2), .val (.int p3), .val (.long p4), .second, .val (.ref b1), .val (.int pp), .val (.int (3 : Int32)), .val (.int ((((p3.toUInt32 >>> ((4 : Int32) &&& 31).toUInt32).toInt32) &&& (255 : Int32)).toInt8.toInt32)), .val (.int pp), .val (.int o1), .val (.int o2), .val (.int o3), .val (.int o3), .val (.long c1), .second, .val (.long c2), .second, .val (.long c3), .second, .val (.int pp), .val (.int (scan 16 g115 pp o3 0 p4))] [(.int (1 : Int32))]) _
      refine Go.of (fun tg_ kk_ => XS.goto X123.here hx rfl (pc0 := 240) (pc' := 244) rfl (hb hby at_240) (by decide) (by decide) kk_) ?_
      show Go p e below T123 (mkF m 244 #[.val (.int p0), .val (.int p1), .val (.int p2), .val (.int p3), .val (.long p4), .second, .val (.ref b1), .val (.int pp), .val (.int (3 : Int32)), .val (.int ((((p3.toUInt32 >>> ((4 : Int32) &&& 31).toUInt32).toInt32) &&& (255 : Int32)).toInt8.toInt32)), .val (.int pp), .val (.int o1), .val (.int o2), .val (.int o3), .val (.int o3), .val (.long c1), .second, .val (.long c2), .second, .val (.long c3), .second, .val (.int pp), .val (.int (scan 16 g115 pp o3 0 p4))] [(.int (1 : Int32))]) _
      obtain ⟨fs, hr, hrun, hended, hW, hsame⟩ := X123.leave (v := some (.int (1 : Int32))) (fun h => by rw [Bd.returns] at h; cases h)
      refine ⟨_, _, ?_, hrun, hended, _, _, rfl, ?_, ⟨_, rfl⟩, hW, hsame.mono (by decide) (by decide)⟩
      · exact retN X123 hx (t := .boolean) Bd.returns (by simp) (hb hby at_244) hr
      · show Q0 Z p0 p1 p2 p3 p4 h0 n0 _ T123.heap _
        rw [e123]
        exact ⟨rfl, N123⟩
    · skip
      refine Go.of (fun tg_ kk_ => XS.ifYes X121.here hx rfl (pc0 := 163) (pc' := 173) rfl (hb hby at_163) rfl ((if0 _ _).trans (flt (fun q => hc122 ((lw_gt c1 p4).mp q))).2.2.2) (by decide) (by decide) kk_) ?_
      show Go p e below T121 (mkF m 173 #[.val (.int p0), .val (.int p1), .val (.int p2), .val (.int p3), .val (.long p4), .second, .val (.ref b1), .val (.int pp), .val (.int (3 : Int32)), .val (.int ((((p3.toUInt32 >>> ((4 : Int32) &&& 31).toUInt32).toInt32) &&& (255 : Int32)).toInt8.toInt32)), .val (.int pp), .val (.int o1), .val (.int o2), .val (.int o3), .val (.int o3), .val (.long c1), .second, .val (.long c2), .second, .val (.long c3), .second, .unset, .unset] []) _
      refine Go.of (fun tg_ kk_ => XS.iload X121.here hx rfl (hb hby at_173) rfl kk_) ?_
      show Go p e below T121 (mkF m 175 #[.val (.int p0), .val (.int p1), .val (.int p2), .val (.int p3), .val (.long p4), .second, .val (.ref b1), .val (.int pp), .val (.int (3 : Int32)), .val (.int ((((p3.toUInt32 >>> ((4 : Int32) &&& 31).toUInt32).toInt32) &&& (255 : Int32)).toInt8.toInt32)), .val (.int pp), .val (.int o1), .val (.int o2), .val (.int o3), .val (.int o3), .val (.long c1), .second, .val (.long c2), .second, .val (.long c3), .second, .unset, .unset] [(.int (3 : Int32))]) _
      refine Go.of (fun tg_ kk_ => XS.iconst X121.here hx rfl (hb hby at_175) kk_) ?_
      show Go p e below T121 (mkF m 176 #[.val (.int p0), .val (.int p1), .val (.int p2), .val (.int p3), .val (.long p4), .second, .val (.ref b1), .val (.int pp), .val (.int (3 : Int32)), .val (.int ((((p3.toUInt32 >>> ((4 : Int32) &&& 31).toUInt32).toInt32) &&& (255 : Int32)).toInt8.toInt32)), .val (.int pp), .val (.int o1), .val (.int o2), .val (.int o3), .val (.int o3), .val (.long c1), .second, .val (.long c2), .second, .val (.long c3), .second, .unset, .unset] [(.int (2 : Int32)), (.int (3 : Int32))]) _
      refine Go.of (fun tg_ kk_ => XS.icmpNo X121.here hx rfl (hb hby at_176) rfl (flt (show ¬ ((3 : Int32) < (2 : Int32)) by decide)).1 kk_) ?_
      show Go p e below T121 (mkF m 179 #[.val (.int p0), .val (.int p1), .val (.int p2), .val (.int p3), .val (.long p4), .second, .val (.ref b1), .val (.int pp), .val (.int (3 : Int32)), .val (.int ((((p3.toUInt32 >>> ((4 : Int32) &&& 31).toUInt32).toInt32) &&& (255 : Int32)).toInt8.toInt32)), .val (.int pp), .val (.int o1), .val (.int o2), .val (.int o3), .val (.int o3), .val (.long c1), .second, .val (.long c2), .second, .val (.long c3), .second, .unset, .unset] []) _
      refine Go.of (fun tg_ kk_ => XS.lload X121.here hx rfl (hb hby at_179) rfl kk_) ?_
      show Go p e below T121 (mkF m 181 #[.val (.int p0), .val (.int p1), .val (.int p2), .val (.int p3), .val (.long p4), .second, .val (.ref b1), .val (.int pp), .val (.int (3 : Int32)), .val (.int ((((p3.toUInt32 >>> ((4 : Int32) &&& 31).toUInt32).toInt32) &&& (255 : Int32)).toInt8.toInt32)), .val (.int pp), .val (.int o1), .val (.int o2), .val (.int o3), .val (.int o3), .val (.long c1), .second, .val (.long c2), .second, .val (.long c3), .second, .unset, .unset] [(.long c2)]) _
      refine Go.of (fun tg_ kk_ => XS.lload X121.here hx rfl (hb hby at_181) rfl kk_) ?_
      show Go p e below T121 (mkF m 183 #[.val (.int p0), .val (.int p1), .val (.int p2), .val (.int p3), .val (.long p4), .second, .val (.ref b1), .val (.int pp), .val (.int (3 : Int32)), .val (.int ((((p3.toUInt32 >>> ((4 : Int32) &&& 31).toUInt32).toInt32) &&& (255 : Int32)).toInt8.toInt32)), .val (.int pp), .val (.int o1), .val (.int o2), .val (.int o3), .val (.int o3), .val (.long c1), .second, .val (.long c2), .second, .val (.long c3), .second, .unset, .unset] [(.long p4), (.long c2)]) _
      refine Go.of (fun tg_ kk_ => XS.lcmp X121.here hx rfl (hb hby at_183) rfl kk_) ?_
      show Go p e below T121 (mkF m 184 #[.val (.int p0), .val (.int p1), .val (.int p2), .val (.int p3), .val (.long p4), .second, .val (.ref b1), .val (.int pp), .val (.int (3 : Int32)), .val (.int ((((p3.toUInt32 >>> ((4 : Int32) &&& 31).toUInt32).toInt32) &&& (255 : Int32)).toInt8.toInt32)), .val (.int pp), .val (.int o1), .val (.int o2), .val (.int o3), .val (.int o3), .val (.long c1), .second, .val (.long c2), .second, .val (.long c3), .second, .unset, .unset] [(.int (lcmpW c2 p4))]) _
      by_cases hc124 : p4 < c2
      · skip
        refine Go.of (fun tg_ kk_ => XS.ifNo X121.here hx rfl (hb hby at_184) rfl ((if0 _ _).trans (tlt ((lw_gt c2 p4).mpr hc124)).2.2.2) kk_) ?_
        show Go p e below T121 (mkF m 187 #[.val (.int p0), .val (.int p1), .val (.int p2), .val (.int p3), .val (.long p4), .second, .val (.ref b1), .val (.int pp), .val (.int (3 : Int32)), .val (.int ((((p3.toUInt32 >>> ((4 : Int32) &&& 31).toUInt32).toInt32) &&& (255 : Int32)).toInt8.toInt32)), .val (.int pp), .val (.int o1), .val (.int o2), .val (.int o3), .val (.int o3), .val (.long c1), .second, .val (.long c2), .second, .val (.long c3), .second, .unset, .unset] []) _
        refine Go.of (fun tg_ kk_ => XS.iload X121.here hx rfl (hb hby at_187) rfl kk_) ?_
        show Go p e below T121 (mkF m 189 #[.val (.int p0), .val (.int p1), .val (.int p2), .val (.int p3), .val (.long p4), .second, .val (.ref b1), .val (.int pp), .val (.int (3 : Int32)), .val (.int ((((p3.toUInt32 >>> ((4 : Int32) &&& 31).toUInt32).toInt32) &&& (255 : Int32)).toInt8.toInt32)), .val (.int pp), .val (.int o1), .val (.int o2), .val (.int o3), .val (.int o3), .val (.long c1), .second, .val (.long c2), .second, .val (.long c3), .second, .unset, .unset] [(.int o1)]) _
        refine Go.of (fun tg_ kk_ => XS.istore X121.here hx rfl (hb hby at_189) rfl (l' := #[.val (.int p0), .val (.int p1), .val (.int p2), .val (.int p3), .val (.long p4), .second, .val (.ref b1), .val (.int pp), .val (.int (3 : Int32)), .val (.int ((((p3.toUInt32 >>> ((4 : Int32) &&& 31).toUInt32).toInt32) &&& (255 : Int32)).toInt8.toInt32)), .val (.int pp), .val (.int o1), .val (.int o2), .val (.int o3), .val (.int o3), .val (.long c1), .second, .val (.long c2), .second, .val (.long c3), .second, .val (.int o1), .unset]) rfl kk_) ?_
        show Go p e below T121 (mkF m 191 #[.val (.int p0), .val (.int p1), .val (.int p2), .val (.int p3), .val (.long p4), .second, .val (.ref b1), .val (.int pp), .val (.int (3 : Int32)), .val (.int ((((p3.toUInt32 >>> ((4 : Int32) &&& 31).toUInt32).toInt32) &&& (255 : Int32)).toInt8.toInt32)), .val (.int pp), .val (.int o1), .val (.int o2), .val (.int o3), .val (.int o3), .val (.long c1), .second, .val (.long c2), .second, .val (.long c3), .second, .val (.int o1), .unset] []) _
        refine Go.of (fun tg_ kk_ => XS.goto X121.here hx rfl (pc0 := 191) (pc' := 219) rfl (hb hby at_191) (by decide) (by decide) kk_) ?_
        show Go p e below T121 (mkF m 219 #[.val (.int p0), .val (.int p1), .val (.int p2), .val (.int p3), .val (.long p4), .second, .val (.ref b1), .val (.int pp), .val (.int (3 : Int32)), .val (.int ((((p3.toUInt32 >>> ((4 : Int32) &&& 31).toUInt32).toInt32) &&& (255 : Int32)).toInt8.toInt32)), .val (.int pp), .val (.int o1), .val (.int o2), .val (.int o3), .val (.int o3), .val (.long c1), .second, .val (.long c2), .second, .val (.long c3), .second, .val (.int o1), .unset] []) _
        refine Go.of (fun tg_ kk_ => XS.aload X121.here hx rfl (hb hby at_219) rfl rfl kk_) ?_
        show Go p e below T121 (mkF m 221 #[.val (.int p0), .val (.int p1), .val (.int p2), .val (.int p3), .val (.long p4), .second, .val (.ref b1), .val (.int pp), .val (.int (3 : Int32)), .val (.int ((((p3.toUInt32 >>> ((4 : Int32) &&& 31).toUInt32).toInt32) &&& (255 : Int32)).toInt8.toInt32)), .val (.int pp), .val (.int o1), .val (.int o2), .val (.int o3), .val (.int o3), .val (.long c1), .second, .val (.long c2), .second, .val (.long c3), .second, .val (.int o1), .unset] [(.ref b1)]) _
        refine Go.of (fun tg_ kk_ => XS.iload X121.here hx rfl (hb hby at_221) rfl kk_) ?_
        show Go p e below T121 (mkF m 223 #[.val (.int p0), .val (.int p1), .val (.int p2), .val (.int p3), .val (.long p4), .second, .val (.ref b1), .val (.int pp), .val (.int (3 : Int32)), .val (.int ((((p3.toUInt32 >>> ((4 : Int32) &&& 31).toUInt32).toInt32) &&& (255 : Int32)).toInt8.toInt32)), .val (.int pp), .val (.int o1), .val (.int o2), .val (.int o3), .val (.int o3), .val (.long c1), .second, .val (.long c2), .second, .val (.long c3), .second, .val (.int o1), .unset] [(.int pp), (.ref b1)]) _
        refine Go.of (fun tg_ kk_ => XS.iload X121.here hx rfl (hb hby at_223) rfl kk_) ?_
        show Go p e below T121 (mkF m 225 #[.val (.int p0), .val (.int p1), .val (.int p2), .val (.int p3), .val (.long p4), .second, .val (.ref b1), .val (.int pp), .val (.int (3 : Int32)), .val (.int ((((p3.toUInt32 >>> ((4 : Int32) &&& 31).toUInt32).toInt32) &&& (255 : Int32)).toInt8.toInt32)), .val (.int pp), .val (.int o1), .val (.int o2), .val (.int o3), .val (.int o3), .val (.long c1), .second, .val (.long c2), .second, .val (.long c3), .second, .val (.int o1), .unset] [(.int o3), (.int pp), (.ref b1)]) _
        refine Go.of (fun tg_ kk_ => XS.lload X121.here hx rfl (hb hby at_225) rfl kk_) ?_
        show Go p e below T121 (mkF m 227 #[.val (.int p0), .val (.int p1), .val (.int p2), .val (.int p3), .val (.long p4), .second, .val (.ref b1), .val (.int pp), .val (.int (3 : Int32)), .val (.int ((((p3.toUInt32 >>> ((4 : Int32) &&& 31).toUInt32).toInt32) &&& (255 : Int32)).toInt8.toInt32)), .val (.int pp), .val (.int o1), .val (.int o2), .val (.int o3), .val (.int o3), .val (.long c1), .second, .val (.long c2), .second, .val (.long c3), .second, .val (.int o1), .unset] [(.long p4), (.int o3), (.int pp), (.ref b1)]) _
        obtain ⟨_, _, ⟨T125, L125, k125, n125⟩, -, X125, ⟨Lc125, hQ125, l125, y125, z125⟩, st125⟩ := Jvm.LawKit.callS X121 hx (y := (⟨"com/example/diagnostic/diagnostic/Utf8", "offsetOfUnit", "([BIIJ)I"⟩ : MethodName)) hown (mvT hZ (hw _ (List.mem_of_getElem? (i := 9) rfl))) (mvT hZ (hw _ (List.mem_of_getElem? (i := 10) rfl))) (mvT hZ (hw _ (List.mem_of_getElem? (i := 11) rfl))) (mvT hZ (hw _ (List.mem_of_getElem? (i := 12) rfl))) (by decide) (backOf (W := 0) (rm3 l Z a0 hw [] b1 pp o3 p4 g115 T115.heap n0 Zs118 V115 hb0.1 (by have := hb3; omega)) hZ (hw _ (List.mem_of_getElem? (i := 12) rfl)) (hw _ (List.mem_of_getElem? (i := 11) rfl)) (by decide) (by decide)) (g := (mkF m 227 #[.val (.int p0), .val (.int p1), .val (.int p2), .val (.int p3), .val (.long p4), .second, .val (.ref b1), .val (.int pp), .val (.int (3 : Int32)), .val (.int ((((p3.toUInt32 >>> ((4 : Int32) &&& 31).toUInt32).toInt32) &&& (255 : Int32)).toInt8.toInt32)), .val (.int pp), .val (.int o1), .val (.int o2), .val (.int o3), .val (.int o3), .val (.long c1), .second, .val (.long c2), .second, .val (.long c3), .second, .val (.int o1), .unset] [(.long p4), (.int o3), (.int pp), (.ref b1)])) rfl (by rw [hml]; rfl) (argsL := [(.ref b1), (.int pp), (.int o3), (.long p4)]) (rest := []) (lenOf pd_2 rfl) rfl (by show 2 * 0 + _ ≤ _; exact Nat.le_of_eq rfl) (hb hby at_227) (fun _ _ => ⟨rfl, e121, (by decide : 1 + 0 ≤ _), (by decide : 16 + 0 ≤ _)⟩)
        dsimp only [Pt.U, Pt.locs, Pt.cells, Pt.slots] at X125 l125 y125 z125 st125 hQ125
        subst l125 y125 z125
        obtain ⟨rfl, N125q, e125⟩ := hQ125
        have N125 := Fr.app N121 N125q
        refine Go.of (st125) ?_
        show Go p e below T125 (mkF m 230 #[.val (.int p0), .val (.int p1), .val (.int p2), .val (.int p3), .val (.long p4), .second, .val (.ref b1), .val (.int pp), .val (.int (3 : Int32)), .val (.int ((((p3.toUInt32 >>> ((4 : Int32) &&& 31).toUInt32).toInt32) &&& (255 : Int32)).toInt8.toInt32)), .val (.int pp), .val (.int o1), .val (.int o2), .val (.int o3), .val (.int o3), .val (.long c1), .second, .val (.long c2), .second, .val (.long c3), .second, .val (.int o1), .unset] [(.int (scan 16 g115 pp o3 0 p4))]) _
        refine Go.of (fun tg_ kk_ => XS.istore X125.here hx rfl (hb hby at_230) rfl (l' := #[.val (.int p0), .val (.int p1), .val (.int p2), .val (.int p3), .val (.long p4), .second, .val (.ref b1), .val (.int pp), .val (.int (3 : Int32)), .val (.int ((((p3.toUInt32 >>> ((4 : Int32) &&& 31).toUInt32).toInt32) &&& (255 : Int32)).toInt8.toInt32)), .val (.int pp), .val (.int o1), .val (.int o2), .val (.int o3), .val (.int o3), .val (.long c1), .second, .val (.long c2), .second, .val (.long c3), .second, .val (.int o1), .val (.int (scan 16 g115 pp o3 0 p4))]) rfl kk_) ?_
        show Go p e below T125 (mkF m 232 #[.val (.int p0), .val (.int p1), .val (.int p2), .val (.int p3), .val (.long p4), .second, .val (.ref b1), .val (.int pp), .val (.int (3 : Int32)), .val (.int ((((p3.toUInt32 >>> ((4 : Int32) &&& 31).toUInt32).toInt32) &&& (255 : Int32)).toInt8.toInt32)), .val (.int pp), .val (.int o1), .val (.int o2), .val (.int o3), .val (.int o3), .val (.long c1), .second, .val (.long c2), .second, .val (.long c3), .second, .val (.int o1), .val (.int (scan 16 g115 pp o3 0 p4))] []) _
        refine Go.of (fun tg_ kk_ => XS.iload X125.here hx rfl (hb hby at_232) rfl kk_) ?_
        show Go p e below T125 (mkF m 234 #[.val (.int p0), .val (.int p1), .val (.int p2), .val (.int p3), .val (.long p4), .second, .val (.ref b1), .val (.int pp), .val (.int (3 : Int32)), .val (.int ((((p3.toUInt32 >>> ((4 : Int32) &&& 31).toUInt32).toInt32) &&& (255 : Int32)).toInt8.toInt32)), .val (.int pp), .val (.int o1), .val (.int o2), .val (.int o3), .val (.int o3), .val (.long c1), .second, .val (.long c2), .second, .val (.long c3), .second, .val (.int o1), .val (.int (scan 16 g115 pp o3 0 p4))] [(.int (scan 16 g115 pp o3 0 p4))]) _
        refine Go.of (fun tg_ kk_ => XS.iload X125.here hx rfl (hb hby at_234) rfl kk_) ?_
        show Go p e below T125 (mkF m 236 #[.val (.int p0), .val (.int p1), .val (.int p2), .val (.int p3), .val (.long p4), .second, .val (.ref b1), .val (.int pp), .val (.int (3 : Int32)), .val (.int ((((p3.toUInt32 >>> ((4 : Int32) &&& 31).toUInt32).toInt32) &&& (255 : Int32)).toInt8.toInt32)), .val (.int pp), .val (.int o1), .val (.int o2), .val (.int o3), .val (.int o3), .val (.long c1), .second, .val (.long c2), .second, .val (.long c3), .second, .val (.int o1), .val (.int (scan 16 g115 pp o3 0 p4))] [(.int o1), (.int (scan 16 g115 pp o3 0 p4))]) _
        refine Go.of (fun tg_ kk_ => XS.icmpNo X125.here hx rfl (hb hby at_236) rfl (teq (show (scan 16 g115 pp o3 0 p4) = o1 from (by rw [own_r1 (by omega) hl0 qo1 (own_z0 _ _ qc1), if_neg hc122, own_r1 (by omega) hl1 qo2 qc2, if_pos hc124]))).2 kk_) ?_
        show Go p e below T125 (mkF m 239 #[.val (.int p0), .val (.int p1), .val (.int p2), .val (.int p3), .val (.long p4), .second, .val (.ref b1), .val (.int pp), .val (.int (3 : Int32)), .val (.int ((((p3.toUInt32 >>> ((4 : Int32) &&& 31).toUInt32).toInt32) &&& (255 : Int32)).toInt8.toInt32)), .val (.int pp), .val (.int o1), .val (.int o2), .val (.int o3), .val (.int o3), .val (.long c1), .second, .val (.long c2), .second, .val (.long c3), .second, .val (.int o1), .val (.int (scan 16 g115 pp o3 0 p4))] []) _
        refine Go.of (fun tg_ kk_ => XS.iconst X125.here hx rfl (hb hby at_239) kk_) ?_
        show Go p e below T125 (mkF m 240 #[.val (.int p0), .val (.int p1), .val (.int p2), .val (.int p3), .val (.long p4), .second, .val (.ref b1), .val (.int pp), .val (.int (3 : Int32)), .val (.int ((((p3.toUInt32 >>> ((4 : Int32) &&& 31).toUInt32).toInt32) &&& (255 : Int32)).toInt8.toInt32)), .val (.int pp), .val (.int o1), .val (.int o2), .val (.int o3), .val (.int o3), .val (.long c1), .second, .val (.long c2), .second, .val (.long c3), .second, .val (.int o1), .val (.int (scan 16 g115 pp o3 0 p4))] [(.int (1 : Int32))]) _
        refine Go.of (fun tg_ kk_ => XS.goto X125.here hx rfl (pc0 := 240) (pc' := 244) rfl (hb hby at_240) (by decide) (by decide) kk_) ?_
        show Go p e below T125 (mkF m 244 #[.val (.int p0), .val (.int p1), .val (.int p2), .val (.int p3), .val (.long p4), .second, .val (.ref b1), .val (.int pp), .val (.int (3 : Int32)), .val (.int ((((p3.toUInt32 >>> ((4 : Int32) &&& 31).toUInt32).toInt32) &&& (255 : Int32)).toInt8.toInt32)), .val (.int pp), .val (.int o1), .val (.int o2), .val (.int o3), .val (.int o3), .val (.long c1), .second, .val (.long c2), .second, .val (.long c3), .second, .val (.int o1), .val (.int (scan 16 g115 pp o3 0 p4))] [(.int (1 : Int32))]) _
        obtain ⟨fs, hr, hrun, hended, hW, hsame⟩ := X125.leave (v := some (.int (1 : Int32))) (fun h => by rw [Bd.returns] at h; cases h)
        refine ⟨_, _, ?_, hrun, hended, _, _, rfl, ?_, ⟨_, rfl⟩, hW, hsame.mono (by decide) (by decide)⟩
        · exact retN X125 hx (t := .boolean) Bd.returns (by simp) (hb hby at_244) hr
        · show Q0 Z p0 p1 p2 p3 p4 h0 n0 _ T125.heap _
          rw [e125]
          exact ⟨rfl, N125⟩
      · skip
        refine Go.of (fun tg_ kk_ => XS.ifYes X121.here hx rfl (pc0 := 184) (pc' := 194) rfl (hb hby at_184) rfl ((if0 _ _).trans (flt (fun q => hc124 ((lw_gt c2 p4).mp q))).2.2.2) (by decide) (by decide) kk_) ?_
        show Go p e below T121 (mkF m 194 #[.val (.int p0), .val (.int p1), .val (.int p2), .val (.int p3), .val (.long p4), .second, .val (.ref b1), .val (.int pp), .val (.int (3 : Int32)), .val (.int ((((p3.toUInt32 >>> ((4 : Int32) &&& 31).toUInt32).toInt32) &&& (255 : Int32)).toInt8.toInt32)), .val (.int pp), .val (.int o1), .val (.int o2), .val (.int o3), .val (.int o3), .val (.long c1), .second, .val (.long c2), .second, .val (.long c3), .second, .unset, .unset] []) _
        refine Go.of (fun tg_ kk_ => XS.iload X121.here hx rfl (hb hby at_194) rfl kk_) ?_
        show Go p e below T121 (mkF m 196 #[.val (.int p0), .val (.int p1), .val (.int p2), .val (.int p3), .val (.long p4), .second, .val (.ref b1), .val (.int pp), .val (.int (3 : Int32)), .val (.int ((((p3.toUInt32 >>> ((4 : Int32) &&& 31).toUInt32).toInt32) &&& (255 : Int32)).toInt8.toInt32)), .val (.int pp), .val (.int o1), .val (.int o2), .val (.int o3), .val (.int o3), .val (.long c1), .second, .val (.long c2), .second, .val (.long c3), .second, .unset, .unset] [(.int (3 : Int32))]) _
        refine Go.of (fun tg_ kk_ => XS.iconst X121.here hx rfl (hb hby at_196) kk_) ?_
        show Go p e below T121 (mkF m 197 #[.val (.int p0), .val (.int p1), .val (.int p2), .val (.int p3), .val (.long p4), .second, .val (.ref b1), .val (.int pp), .val (.int (3 : Int32)), .val (.int ((((p3.toUInt32 >>> ((4 : Int32) &&& 31).toUInt32).toInt32) &&& (255 : Int32)).toInt8.toInt32)), .val (.int pp), .val (.int o1), .val (.int o2), .val (.int o3), .val (.int o3), .val (.long c1), .second, .val (.long c2), .second, .val (.long c3), .second, .unset, .unset] [(.int (3 : Int32)), (.int (3 : Int32))]) _
        refine Go.of (fun tg_ kk_ => XS.icmpNo X121.here hx rfl (hb hby at_197) rfl (flt (show ¬ ((3 : Int32) < (3 : Int32)) by decide)).1 kk_) ?_
        show Go p e below T121 (mkF m 200 #[.val (.int p0), .val (.int p1), .val (.int p2), .val (.int p3), .val (.long p4), .second, .val (.ref b1), .val (.int pp), .val (.int (3 : Int32)), .val (.int ((((p3.toUInt32 >>> ((4 : Int32) &&& 31).toUInt32).toInt32) &&& (255 : Int32)).toInt8.toInt32)), .val (.int pp), .val (.int o1), .val (.int o2), .val (.int o3), .val (.int o3), .val (.long c1), .second, .val (.long c2), .second, .val (.long c3), .second, .unset, .unset] []) _
        refine Go.of (fun tg_ kk_ => XS.lload X121.here hx rfl (hb hby at_200) rfl kk_) ?_
        show Go p e below T121 (mkF m 202 #[.val (.int p0), .val (.int p1), .val (.int p2), .val (.int p3), .val (.long p4), .second, .val (.ref b1), .val (.int pp), .val (.int (3 : Int32)), .val (.int ((((p3.toUInt32 >>> ((4 : Int32) &&& 31).toUInt32).toInt32) &&& (255 : Int32)).toInt8.toInt32)), .val (.int pp), .val (.int o1), .val (.int o2), .val (.int o3), .val (.int o3), .val (.long c1), .second, .val (.long c2), .second, .val (.long c3), .second, .unset, .unset] [(.long c3)]) _
        refine Go.of (fun tg_ kk_ => XS.lload X121.here hx rfl (hb hby at_202) rfl kk_) ?_
        show Go p e below T121 (mkF m 204 #[.val (.int p0), .val (.int p1), .val (.int p2), .val (.int p3), .val (.long p4), .second, .val (.ref b1), .val (.int pp), .val (.int (3 : Int32)), .val (.int ((((p3.toUInt32 >>> ((4 : Int32) &&& 31).toUInt32).toInt32) &&& (255 : Int32)).toInt8.toInt32)), .val (.int pp), .val (.int o1), .val (.int o2), .val (.int o3), .val (.int o3), .val (.long c1), .second, .val (.long c2), .second, .val (.long c3), .second, .unset, .unset] [(.long p4), (.long c3)]) _
        refine Go.of (fun tg_ kk_ => XS.lcmp X121.here hx rfl (hb hby at_204) rfl kk_) ?_
        show Go p e below T121 (mkF m 205 #[.val (.int p0), .val (.int p1), .val (.int p2), .val (.int p3), .val (.long p4), .second, .val (.ref b1), .val (.int pp), .val (.int (3 : Int32)), .val (.int ((((p3.toUInt32 >>> ((4 : Int32) &&& 31).toUInt32).toInt32) &&& (255 : Int32)).toInt8.toInt32)), .val (.int pp), .val (.int o1), .val (.int o2), .val (.int o3), .val (.int o3), .val (.long c1), .second, .val (.long c2), .second, .val (.long c3), .second, .unset, .unset] [(.int (lcmpW c3 p4))]) _
        by_cases hc126 : p4 < c3
        · skip
          refine Go.of (fun tg_ kk_ => XS.ifNo X121.here hx rfl (hb hby at_205) rfl ((if0 _ _).trans (tlt ((lw_gt c3 p4).mpr hc126)).2.2.2) kk_) ?_
          show Go p e below T121 (mkF m 208 #[.val (.int p0), .val (.int p1), .val (.int p2), .val (.int p3), .val (.long p4), .second, .val (.ref b1), .val (.int pp), .val (.int (3 : Int32)), .val (.int ((((p3.toUInt32 >>> ((4 : Int32) &&& 31).toUInt32).toInt32) &&& (255 : Int32)).toInt8.toInt32)), .val (.int pp), .val (.int o1), .val (.int o2), .val (.int o3), .val (.int o3), .val (.long c1), .second, .val (.long c2), .second, .val (.long c3), .second, .unset, .unset] []) _
          refine Go.of (fun tg_ kk_ => XS.iload X121.here hx rfl (hb hby at_208) rfl kk_) ?_
          show Go p e below T121 (mkF m 210 #[.val (.int p0), .val (.int p1), .val (.int p2), .val (.int p3), .val (.long p4), .second, .val (.ref b1), .val (.int pp), .val (.int (3 : Int32)), .val (.int ((((p3.toUInt32 >>> ((4 : Int32) &&& 31).toUInt32).toInt32) &&& (255 : Int32)).toInt8.toInt32)), .val (.int pp), .val (.int o1), .val (.int o2), .val (.int o3), .val (.int o3), .val (.long c1), .second, .val (.long c2), .second, .val (.long c3), .second, .unset, .unset] [(.int o2)]) _
          refine Go.of (fun tg_ kk_ => XS.istore X121.here hx rfl (hb hby at_210) rfl (l' := #[.val (.int p0), .val (.int p1), .val (.int p2), .val (.int p3), .val (.long p4), .second, .val (.ref b1), .val (.int pp), .val (.int (3 : Int32)), .val (.int ((((p3.toUInt32 >>> ((4 : Int32) &&& 31).toUInt32).toInt32) &&& (255 : Int32)).toInt8.toInt32)), .val (.int pp), .val (.int o1), .val (.int o2), .val (.int o3), .val (.int o3), .val (.long c1), .second, .val (.long c2), .second, .val (.long c3), .second, .val (.int o2), .unset]) rfl kk_) ?_
          show Go p e below T121 (mkF m 212 #[.val (.int p0), .val (.int p1), .val (.int p2), .val (.int p3), .val (.long p4), .second, .val (.ref b1), .val (.int pp), .val (.int (3 : Int32)), .val (.int ((((p3.toUInt32 >>> ((4 : Int32) &&& 31).toUInt32).toInt32) &&& (255 : Int32)).toInt8.toInt32)), .val (.int pp), .val (.int o1), .val (.int o2), .val (.int o3), .val (.int o3), .val (.long c1), .second, .val (.long c2), .second, .val (.long c3), .second, .val (.int o2), .unset] []) _
          refine Go.of (fun tg_ kk_ => XS.goto X121.here hx rfl (pc0 := 212) (pc' := 219) rfl (hb hby at_212) (by decide) (by decide) kk_) ?_
          show Go p e below T121 (mkF m 219 #[.val (.int p0), .val (.int p1), .val (.int p2), .val (.int p3), .val (.long p4), .second, .val (.ref b1), .val (.int pp), .val (.int (3 : Int32)), .val (.int ((((p3.toUInt32 >>> ((4 : Int32) &&& 31).toUInt32).toInt32) &&& (255 : Int32)).toInt8.toInt32)), .val (.int pp), .val (.int o1), .val (.int o2), .val (.int o3), .val (.int o3), .val (.long c1), .second, .val (.long c2), .second, .val (.long c3), .second, .val (.int o2), .unset] []) _
          refine Go.of (fun tg_ kk_ => XS.aload X121.here hx rfl (hb hby at_219) rfl rfl kk_) ?_
          show Go p e below T121 (mkF m 221 #[.val (.int p0), .val (.int p1), .val (.int p2), .val (.int p3), .val (.long p4), .second, .val (.ref b1), .val (.int pp), .val (.int (3 : Int32)), .val (.int ((((p3.toUInt32 >>> ((4 : Int32) &&& 31).toUInt32).toInt32) &&& (255 : Int32)).toInt8.toInt32)), .val (.int pp), .val (.int o1), .val (.int o2), .val (.int o3), .val (.int o3), .val (.long c1), .second, .val (.long c2), .second, .val (.long c3), .second, .val (.int o2), .unset] [(.ref b1)]) _
          refine Go.of (fun tg_ kk_ => XS.iload X121.here hx rfl (hb hby at_221) rfl kk_) ?_
          show Go p e below T121 (mkF m 223 #[.val (.int p0), .val (.int p1), .val (.int p2), .val (.int p3), .val (.long p4), .second, .val (.ref b1), .val (.int pp), .val (.int (3 : Int32)), .val (.int ((((p3.toUInt32 >>> ((4 : Int32) &&& 31).toUInt32).toInt32) &&& (255 : Int32)).toInt8.toInt32)), .val (.int pp), .val (.int o1), .val (.int o2), .val (.int o3), .val (.int o3), .val (.long c1), .second, .val (.long c2), .second, .val (.long c3), .second, .val (.int o2), .unset] [(.int pp), (.ref b1)]) _
          refine Go.of (fun tg_ kk_ => XS.iload X121.here hx rfl (hb hby at_223) rfl kk_) ?_
          show Go p e below T121 (mkF m 225 #[.val (.int p0), .val (.int p1), .val (.int p2), .val (.int p3), .val (.long p4), .second, .val (.ref b1), .val (.int pp), .val (.int (3 : Int32)), .val (.int ((((p3.toUInt32 >>> ((4 : Int32) &&& 31).toUInt32).toInt32) &&& (255 : Int32)).toInt8.toInt32)), .val (.int pp), .val (.int o1), .val (.int o2), .val (.int o3), .val (.int o3), .val (.long c1), .second, .val (.long c2), .second, .val (.long c3), .second, .val (.int o2), .unset] [(.int o3), (.int pp), (.ref b1)]) _
          refine Go.of (fun tg_ kk_ => XS.lload X121.here hx rfl (hb hby at_225) rfl kk_) ?_
          show Go p e below T121 (mkF m 227 #[.val (.int p0), .val (.int p1), .val (.int p2), .val (.int p3), .val (.long p4), .second, .val (.ref b1), .val (.int pp), .val (.int (3 : Int32)), .val (.int ((((p3.toUInt32 >>> ((4 : Int32) &&& 31).toUInt32).toInt32) &&& (255 : Int32)).toInt8.toInt32)), .val (.int pp), .val (.int o1), .val (.int o2), .val (.int o3), .val (.int o3), .val (.long c1), .second, .val (.long c2), .second, .val (.long c3), .second, .val (.int o2), .unset] [(.long p4), (.int o3), (.int pp), (.ref b1)]) _
          obtain ⟨_, _, ⟨T127, L127, k127, n127⟩, -, X127, ⟨Lc127, hQ127, l127, y127, z127⟩, st127⟩ := Jvm.LawKit.callS X121 hx (y := (⟨"com/example/diagnostic/diagnostic/Utf8", "offsetOfUnit", "([BIIJ)I"⟩ : MethodName)) hown (mvT hZ (hw _ (List.mem_of_getElem? (i := 9) rfl))) (mvT hZ (hw _ (List.mem_of_getElem? (i := 10) rfl))) (mvT hZ (hw _ (List.mem_of_getElem? (i := 11) rfl))) (mvT hZ (hw _ (List.mem_of_getElem? (i := 12) rfl))) (by decide) (backOf (W := 0) (rm3 l Z a0 hw [] b1 pp o3 p4 g115 T115.heap n0 Zs118 V115 hb0.1 (by have := hb3; omega)) hZ (hw _ (List.mem_of_getElem? (i := 12) rfl)) (hw _ (List.mem_of_getElem? (i := 11) rfl)) (by decide) (by decide)) (g := (mkF m 227 #[.val (.int p0), .val (.int p1), .val (.int p2), .val (.int p3), .val (.long p4), .second, .val (.ref b1), .val (.int pp), .val (.int (3 : Int32)), .val (.int ((((p3.toUInt32 >>> ((4 : Int32) &&& 31).toUInt32).toInt32) &&& (255 : Int32)).toInt8.toInt32)), .val (.int pp), .val (.int o1), .val (.int o2), .val (.int o3), .val (.int o3), .val (.long c1), .second, .val (.long c2), .second, .val (.long c3), .second, .val (.int o2), .unset] [(.long p4), (.int o3), (.int pp), (.ref b1)])) rfl (by rw [hml]; rfl) (argsL := [(.ref b1), (.int pp), (.int o3), (.long p4)]) (rest := []) (lenOf pd_2 rfl) rfl (by show 2 * 0 + _ ≤ _; exact Nat.le_of_eq rfl) (hb hby at_227) (fun _ _ => ⟨rfl, e121, (by decide : 1 + 0 ≤ _), (by decide : 16 + 0 ≤ _)⟩)
          dsimp only [Pt.U, Pt.locs, Pt.cells, Pt.slots] at X127 l127 y127 z127 st127 hQ127
          subst l127 y127 z127
          obtain ⟨rfl, N127q, e127⟩ := hQ127
          have N127 := Fr.app N121 N127q
          refine Go.of (st127) ?_
          show Go p e below T127 (mkF m 230 #[.val (.int p0), .val (.int p1), .val (.int p2), .val (.int p3), .val (.long p4), .second, .val (.ref b1), .val (.int pp), .val (.int (3 : Int32)), .val (.int ((((p3.toUInt32 >>> ((4 : Int32) &&& 31).toUInt32).toInt32) &&& (255 : Int32)).toInt8.toInt32)), .val (.int pp), .val (.int o1), .val (.int o2), .val (.int o3), .val (.int o3), .val (.long c1), .second, .val (.long c2), .second, .val (.long c3), .second, .val (.int o2), .unset] [(.int (scan 16 g115 pp o3 0 p4))]) _
          refine Go.of (fun tg_ kk_ => XS.istore X127.here hx rfl (hb hby at_230) rfl (l' := #[.val (.int p0), .val (.int p1), .val (.int p2), .val (.int p3), .val (.long p4), .second, .val (.ref b1), .val (.int pp), .val (.int (3 : Int32)), .val (.int ((((p3.toUInt32 >>> ((4 : Int32) &&& 31).toUInt32).toInt32) &&& (255 : Int32)).toInt8.toInt32)), .val (.int pp), .val (.int o1), .val (.int o2), .val (.int o3), .val (.int o3), .val (.long c1), .second, .val (.long c2), .second, .val (.long c3), .second, .val (.int o2), .val (.int (scan 16 g115 pp o3 0 p4))]) rfl kk_) ?_
          show Go p e below T127 (mkF m 232 #[.val (.int p0), .val (.int p1), .val (.int p2), .val (.int p3), .val (.long p4), .second, .val (.ref b1), .val (.int pp), .val (.int (3 : Int32)), .val (.int ((((p3.toUInt32 >>> ((4 : Int32) &&& 31).toUInt32).toInt32) &&& (255 : Int32)).toInt8.toInt32)), .val (.int pp), .val (.int o1), .val (.int o2), .val (.int o3), .val (.int o3), .val (.long c1), .second, .val (.long c2), .second, .val (.long c3), .second, .val (.int o2), .val (.int (scan 16 g115 pp o3 0 p4))] []) _
          refine Go.of (fun tg_ kk_ => XS.iload X127.here hx rfl (hb hby at_232) rfl kk_) ?_
          show Go p e below T127 (mkF m 234 #[.val (.int p0), .val (.int p1), .val (.int p2), .val (.int p3), .val (.long p4), .second, .val (.ref b1), .val (.int pp), .val (.int (3 : Int32)), .val (.int ((((p3.toUInt32 >>> ((4 : Int32) &&& 31).toUInt32).toInt32) &&& (255 : Int32)).toInt8.toInt32)), .val (.int pp), .val (.int o1), .val (.int o2), .val (.int o3), .val (.int o3), .val (.long c1), .second, .val (.long c2), .second, .val (.long c3), .second, .val (.int o2), .val (.int (scan 16 g115 pp o3 0 p4))] [(.int (scan 16 g115 pp o3 0 p4))]) _
          refine Go.of (fun tg_ kk_ => XS.iload X127.here hx rfl (hb hby at_234) rfl kk_) ?_
          show Go p e below T127 (mkF m 236 #[.val (.int p0), .val (.int p1), .val (.int p2), .val (.int p3), .val (.long p4), .second, .val (.ref b1), .val (.int pp), .val (.int (3 : Int32)), .val (.int ((((p3.toUInt32 >>> ((4 : Int32) &&& 31).toUInt32).toInt32) &&& (255 : Int32)).toInt8.toInt32)), .val (.int pp), .val (.int o1), .val (.int o2), .val (.int o3), .val (.int o3), .val (.long c1), .second, .val (.long c2), .second, .val (.long c3), .second, .val (.int o2), .val (.int (scan 16 g115 pp o3 0 p4))] [(.int o2), (.int (scan 16 g115 pp o3 0 p4))]) _
          refine Go.of (fun tg_ kk_ => XS.icmpNo X127.here hx rfl (hb hby at_236) rfl (teq (show (scan 16 g115 pp o3 0 p4) = o2 from (by rw [own_r1 (by omega) hl0 qo1 (own_z0 _ _ qc1), if_neg hc122, own_r1 (by omega) hl1 qo2 qc2, if_neg hc124, own_r1 (by omega) hl2 qo3 qc3, if_pos hc126]))).2 kk_) ?_
          show Go p e below T127 (mkF m 239 #[.val (.int p0), .val (.int p1), .val (.int p2), .val (.int p3), .val (.long p4), .second, .val (.ref b1), .val (.int pp), .val (.int (3 : Int32)), .val (.int ((((p3.toUInt32 >>> ((4 : Int32) &&& 31).toUInt32).toInt32) &&& (255 : Int32)).toInt8.toInt32)), .val (.int pp), .val (.int o1), .val (.int o2), .val (.int o3), .val (.int o3), .val (.long c1), .second, .val (.long c2), .second, .val (.long c3), .second, .val (.int o2), .val (.int (scan 16 g115 pp o3 0 p4))] []) _
          refine Go.of (fun tg_ kk_ => XS.iconst X127.here hx rfl (hb hby at_239) kk_) ?_
          show Go p e below T127 (mkF m 240 #[.val (.int p0), .val (.int p1), .val (.int p2), .val (.int p3), .val (.long p4), .second, .val (.ref b1), .val (.int pp), .val (.int (3 : Int32)), .val (.int ((((p3.toUInt32 >>> ((4 : Int32) &&& 31).toUInt32).toInt32) &&& (255 : Int32)).toInt8.toInt32)), .val (.int pp), .val (.int o1), .val (.int o2), .val (.int o3), .val (.int o3), .val (.long c1), .second, .val (.long c2), .second, .val (.long c3), .second, .val (.int o2), .val (.int (scan 16 g115 pp o3 0 p4))] [(.int (1 : Int32))]) _
          refine Go.of (fun tg_ kk_ => XS.goto X127.here hx rfl (pc0 := 240) (pc' := 244) rfl (hb hby at_240) (by decide) (by decide) kk_) ?_
          show Go p e below T127 (mkF m 244 #[.val (.int p0), .val (.int p1), .val (.int p2), .val (.int p3), .val (.long p4), .second, .val (.ref b1), .val (.int pp), .val (.int (3 : Int32)), .val (.int ((((p3.toUInt32 >>> ((4 : Int32) &&& 31).toUInt32).toInt32) &&& (255 : Int32)).toInt8.toInt32)), .val (.int pp), .val (.int o1), .val (.int o2), .val (.int o3), .val (.int o3), .val (.long c1), .second, .val (.long c2), .second, .val (.long c3), .second, .val (.int o2), .val (.int (scan 16 g115 pp o3 0 p4))] [(.int (1 : Int32))]) _
          obtain ⟨fs, hr, hrun, hended, hW, hsame⟩ := X127.leave (v := some (.int (1 : Int32))) (fun h => by rw [Bd.returns] at h; cases h)
          refine ⟨_, _, ?_, hrun, hended, _, _, rfl, ?_, ⟨_, rfl⟩, hW, hsame.mono (by decide) (by decide)⟩
          · exact retN X127 hx (t := .boolean) Bd.returns (by simp) (hb hby at_244) hr
          · show Q0 Z p0 p1 p2 p3 p4 h0 n0 _ T127.heap _
            rw [e127]
            exact ⟨rfl, N127⟩
        · skip
          refine Go.of (fun tg_ kk_ => XS.ifYes X121.here hx rfl (pc0 := 205) (pc' := 215) rfl (hb hby at_205) rfl ((if0 _ _).trans (flt (fun q => hc126 ((lw_gt c3 p4).mp q))).2.2.2) (by decide) (by decide) kk_) ?_
          show Go p e below T121 (mkF m 215 #[.val (.int p0), .val (.int p1), .val (.int p2), .val (.int p3), .val (.long p4), .second, .val (.ref b1), .val (.int pp), .val (.int (3 : Int32)), .val (.int ((((p3.toUInt32 >>> ((4 : Int32) &&& 31).toUInt32).toInt32) &&& (255 : Int32)).toInt8.toInt32)), .val (.int pp), .val (.int o1), .val (.int o2), .val (.int o3), .val (.int o3), .val (.long c1), .second, .val (.long c2), .second, .val (.long c3), .second, .unset, .unset] []) _
          refine Go.of (fun tg_ kk_ => XS.iload X121.here hx rfl (hb hby at_215) rfl kk_) ?_
          show Go p e below T121 (mkF m 217 #[.val (.int p0), .val (.int p1), .val (.int p2), .val (.int p3), .val (.long p4), .second, .val (.ref b1), .val (.int pp), .val (.int (3 : Int32)), .val (.int ((((p3.toUInt32 >>> ((4 : Int32) &&& 31).toUInt32).toInt32) &&& (255 : Int32)).toInt8.toInt32)), .val (.int pp), .val (.int o1), .val (.int o2), .val (.int o3), .val (.int o3), .val (.long c1), .second, .val (.long c2), .second, .val (.long c3), .second, .unset, .unset] [(.int o3)]) _
          refine Go.of (fun tg_ kk_ => XS.istore X121.here hx rfl (hb hby at_217) rfl (l' := #[.val (.int p0), .val (.int p1), .val (.int p2), .val (.int p3), .val (.long p4), .second, .val (.ref b1), .val (.int pp), .val (.int (3 : Int32)), .val (.int ((((p3.toUInt32 >>> ((4 : Int32) &&& 31).toUInt32).toInt32) &&& (255 : Int32)).toInt8.toInt32)), .val (.int pp), .val (.int o1), .val (.int o2), .val (.int o3), .val (.int o3), .val (.long c1), .second, .val (.long c2), .second, .val (.long c3), .second, .val (.int o3), .unset]) rfl kk_) ?_
          show Go p e below T121 (mkF m 219 #[.val (.int p0), .val (.int p1), .val (.int p2), .val (.int p3), .val (.long p4), .second, .val (.ref b1), .val (.int pp), .val (.int (3 : Int32)), .val (.int ((((p3.toUInt32 >>> ((4 : Int32) &&& 31).toUInt32).toInt32) &&& (255 : Int32)).toInt8.toInt32)), .val (.int pp), .val (.int o1), .val (.int o2), .val (.int o3), .val (.int o3), .val (.long c1), .second, .val (.long c2), .second, .val (.long c3), .second, .val (.int o3), .unset] []) _
          refine Go.of (fun tg_ kk_ => XS.aload X121.here hx rfl (hb hby at_219) rfl rfl kk_) ?_
          show Go p e below T121 (mkF m 221 #[.val (.int p0), .val (.int p1), .val (.int p2), .val (.int p3), .val (.long p4), .second, .val (.ref b1), .val (.int pp), .val (.int (3 : Int32)), .val (.int ((((p3.toUInt32 >>> ((4 : Int32) &&& 31).toUInt32).toInt32) &&& (255 : Int32)).toInt8.toInt32)), .val (.int pp), .val (.int o1), .val (.int o2), .val (.int o3), .val (.int o3), .val (.long c1), .second, .val (.long c2), .second, .val (.long c3), .second, .val (.int o3), .unset] [(.ref b1)]) _
          refine Go.of (fun tg_ kk_ => XS.iload X121.here hx rfl (hb hby at_221) rfl kk_) ?_
          show Go p e below T121 (mkF m 223 #[.val (.int p0), .val (.int p1), .val (.int p2), .val (.int p3), .val (.long p4), .second, .val (.ref b1), .val (.int pp), .val (.int (3 : Int32)), .val (.int ((((p3.toUInt32 >>> ((4 : Int32) &&& 31).toUInt32).toInt32) &&& (255 : Int32)).toInt8.toInt32)), .val (.int pp), .val (.int o1), .val (.int o2), .val (.int o3), .val (.int o3), .val (.long c1), .second, .val (.long c2), .second, .val (.long c3), .second, .val (.int o3), .unset] [(.int pp), (.ref b1)]) _
          refine Go.of (fun tg_ kk_ => XS.iload X121.here hx rfl (hb hby at_223) rfl kk_) ?_
          show Go p e below T121 (mkF m 225 #[.val (.int p0), .val (.int p1), .val (.int p2), .val (.int p3), .val (.long p4), .second, .val (.ref b1), .val (.int pp), .val (.int (3 : Int32)), .val (.int ((((p3.toUInt32 >>> ((4 : Int32) &&& 31).toUInt32).toInt32) &&& (255 : Int32)).toInt8.toInt32)), .val (.int pp), .val (.int o1), .val (.int o2), .val (.int o3), .val (.int o3), .val (.long c1), .second, .val (.long c2), .second, .val (.long c3), .second, .val (.int o3), .unset] [(.int o3), (.int pp), (.ref b1)]) _
          refine Go.of (fun tg_ kk_ => XS.lload X121.here hx rfl (hb hby at_225) rfl kk_) ?_
          show Go p e below T121 (mkF m 227 #[.val (.int p0), .val (.int p1), .val (.int p2), .val (.int p3), .val (.long p4), .second, .val (.ref b1), .val (.int pp), .val (.int (3 : Int32)), .val (.int ((((p3.toUInt32 >>> ((4 : Int32) &&& 31).toUInt32).toInt32) &&& (255 : Int32)).toInt8.toInt32)), .val (.int pp), .val (.int o1), .val (.int o2), .val (.int o3), .val (.int o3), .val (.long c1), .second, .val (.long c2), .second, .val (.long c3), .second, .val (.int o3), .unset] [(.long p4), (.int o3), (.int pp), (.ref b1)]) _
          obtain ⟨_, _, ⟨T128, L128, k128, n128⟩, -, X128, ⟨Lc128, hQ128, l128, y128, z128⟩, st128⟩ := Jvm.LawKit.callS X121 hx (y := (⟨"com/example/diagnostic/diagnostic/Utf8", "offsetOfUnit", "([BIIJ)I"⟩ : MethodName)) hown (mvT hZ (hw _ (List.mem_of_getElem? (i := 9) rfl))) (mvT hZ (hw _ (List.mem_of_getElem? (i := 10) rfl))) (mvT hZ (hw _ (List.mem_of_getElem? (i := 11) rfl))) (mvT hZ (hw _ (List.mem_of_getElem? (i := 12) rfl))) (by decide) (backOf (W := 0) (rm3 l Z a0 hw [] b1 pp o3 p4 g115 T115.heap n0 Zs118 V115 hb0.1 (by have := hb3; omega)) hZ (hw _ (List.mem_of_getElem? (i := 12) rfl)) (hw _ (List.mem_of_getElem? (i := 11) rfl)) (by decide) (by decide)) (g := (mkF m 227 #[.val (.int p0), .val (.int p1), .val (.int p2), .val (.int p3), .val (.long p4), .second, .val (.ref b1), .val (.int pp), .val (.int (3 : Int32)), .val (.int ((((p3.toUInt32 >>> ((4 : Int32) &&& 31).toUInt32).toInt32) &&& (255 : Int32)).toInt8.toInt32)), .val (.int pp), .val (.int o1), .val (.int o2), .val (.int o3), .val (.int o3), .val (.long c1), .second, .val (.long c2), .second, .val (.long c3), .second, .val (.int o3), .unset] [(.long p4), (.int o3), (.int pp), (.ref b1)])) rfl (by rw [hml]; rfl) (argsL := [(.ref b1), (.int pp), (.int o3), (.long p4)]) (rest := []) (lenOf pd_2 rfl) rfl (by show 2 * 0 + _ ≤ _; exact Nat.le_of_eq rfl) (hb hby at_227) (fun _ _ => ⟨rfl, e121, (by decide : 1 + 0 ≤ _), (by decide : 16 + 0 ≤ _)⟩)
          dsimp only [Pt.U, Pt.locs, Pt.cells, Pt.slots] at X128 l128 y128 z128 st128 hQ128
          subst l128 y128 z128
          obtain ⟨rfl, N128q, e128⟩ := hQ128
          have N128 := Fr.app N121 N128q
          refine Go.of (st128) ?_
          show Go p e below T128 (mkF m 230 #[.val (.int p0), .val (.int p1), .val (.int p2), .val (.int p3), .val (.long p4), .second, .val (.ref b1), .val (.int pp), .val (.int (3 : Int32)), .val (.int ((((p3.toUInt32 >>> ((4 : Int32) &&& 31).toUInt32).toInt32) &&& (255 : Int32)).toInt8.toInt32)), .val (.int pp), .val (.int o1), .val (.int o2), .val (.int o3), .val (.int o3), .val (.long c1), .second, .val (.long c2), .second, .val (.long c3), .second, .val (.int o3), .unset] [(.int (scan 16 g115 pp o3 0 p4))]) _
          refine Go.of (fun tg_ kk_ => XS.istore X128.here hx rfl (hb hby at_230) rfl (l' := #[.val (.int p0), .val (.int p1), .val (.int p2), .val (.int p3), .val (.long p4), .second, .val (.ref b1), .val (.int pp), .val (.int (3 : Int32)), .val (.int ((((p3.toUInt32 >>> ((4 : Int32) &&& 31).toUInt32).toInt32) &&& (255 : Int32)).toInt8.toInt32)), .val (.int pp), .val (.int o1), .val (.int o2), .val (.int o3), .val (.int o3), .val (.long c1), .second, .val (.long c2), .second, .val (.long c3), .second, .val (.int o3), .val (.int (scan 16 g115 pp o3 0 p4))]) rfl kk_) ?_
          show Go p e below T128 (mkF m 232 #[.val (.int p0), .val (.int p1), .val (.int p2), .val (.int p3), .val (.long p4), .second, .val (.ref b1), .val (.int pp), .val (.int (3 : Int32)), .val (.int ((((p3.toUInt32 >>> ((4 : Int32) &&& 31).toUInt32).toInt32) &&& (255 : Int32)).toInt8.toInt32)), .val (.int pp), .val (.int o1), .val (.int o2), .val (.int o3), .val (.int o3), .val (.long c1), .second, .val (.long c2), .second, .val (.long c3), .second, .val (.int o3), .val (.int (scan 16 g115 pp o3 0 p4))] []) _
          refine Go.of (fun tg_ kk_ => XS.iload X128.here hx rfl (hb hby at_232) rfl kk_) ?_
          show Go p e below T128 (mkF m 234 #[.val (.int p0), .val (.int p1), .val (.int p2), .val (.int p3), .val (.long p4), .second, .val (.ref b1), .val (.int pp), .val (.int (3 : Int32)), .val (.int ((((p3.toUInt32 >>> ((4 : Int32) &&& 31).toUInt32).toInt32) &&& (255 : Int32)).toInt8.toInt32)), .val (.int pp), .val (.int o1), .val (.int o2), .val (.int o3), .val (.int o3), .val (.long c1), .second, .val (.long c2), .second, .val (.long c3), .second, .val (.int o3), .val (.int (scan 16 g115 pp o3 0 p4))] [(.int (scan 16 g115 pp o3 0 p4))]) _
          refine Go.of (fun tg_ kk_ => XS.iload X128.here hx rfl (hb hby at_234) rfl kk_) ?_
          show Go p e below T128 (mkF m 236 #[.val (.int p0), .val (.int p1), .val (.int p2), .val (.int p3), .val (.long p4), .second, .val (.ref b1), .val (.int pp), .val (.int (3 : Int32)), .val (.int ((((p3.toUInt32 >>> ((4 : Int32) &&& 31).toUInt32).toInt32) &&& (255 : Int32)).toInt8.toInt32)), .val (.int pp), .val (.int o1), .val (.int o2), .val (.int o3), .val (.int o3), .val (.long c1), .second, .val (.long c2), .second, .val (.long c3), .second, .val (.int o3), .val (.int (scan 16 g115 pp o3 0 p4))] [(.int o3), (.int (scan 16 g115 pp o3 0 p4))]) _
          refine Go.of (fun tg_ kk_ => XS.icmpNo X128.here hx rfl (hb hby at_236) rfl (teq (show (scan 16 g115 pp o3 0 p4) = o3 from (by rw [own_r1 (by omega) hl0 qo1 (own_z0 _ _ qc1), if_neg hc122, own_r1 (by omega) hl1 qo2 qc2, if_neg hc124, own_r1 (by omega) hl2 qo3 qc3, if_neg hc126, own_r0]))).2 kk_) ?_
          show Go p e below T128 (mkF m 239 #[.val (.int p0), .val (.int p1), .val (.int p2), .val (.int p3), .val (.long p4), .second, .val (.ref b1), .val (.int pp), .val (.int (3 : Int32)), .val (.int ((((p3.toUInt32 >>> ((4 : Int32) &&& 31).toUInt32).toInt32) &&& (255 : Int32)).toInt8.toInt32)), .val (.int pp), .val (.int o1), .val (.int o2), .val (.int o3), .val (.int o3), .val (.long c1), .second, .val (.long c2), .second, .val (.long c3), .second, .val (.int o3), .val (.int (scan 16 g115 pp o3 0 p4))] []) _
          refine Go.of (fun tg_ kk_ => XS.iconst X128.here hx rfl (hb hby at_239) kk_) ?_
          show Go p e below T128 (mkF m 240 #[.val (.int p0), .val (.int p1), .val (.int p2), .val (.int p3), .val (.long p4), .second, .val (.ref b1), .val (.int pp), .val (.int (3 : Int32)), .val (.int ((((p3.toUInt32 >>> ((4 : Int32) &&& 31).toUInt32).toInt32) &&& (255 : Int32)).toInt8.toInt32)), .val (.int pp), .val (.int o1), .val (.int o2), .val (.int o3), .val (.int o3), .val (.long c1), .second, .val (.long c2), .second, .val (.long c3), .second, .val (.int o3), .val (.int (scan 16 g115 pp o3 0 p4))] [(.int (1 : Int32))]) _
          refine Go.of (fun tg_ kk_ => XS.goto X128.here hx rfl (pc0 := 240) (pc' := 244) rfl (hb hby at_240) (by decide) (by decide) kk_) ?_
          show Go p e below T128 (mkF m 244 #[.val (.int p0), .val (.int p1), .val (.int p2), .val (.int p3), .val (.long p4), .second, .val (.ref b1), .val (.int pp), .val (.int (3 : Int32)), .val (.int ((((p3.toUInt32 >>> ((4 : Int32) &&& 31).toUInt32).toInt32) &&& (255 : Int32)).toInt8.toInt32)), .val (.int pp), .val (.int o1), .val (.int o2), .val (.int o3), .val (.int o3), .val (.long c1), .second, .val (.long c2), .second, .val (.long c3), .second, .val (.int o3), .val (.int (scan 16 g115 pp o3 0 p4))] [(.int (1 : Int32))]) _
          obtain ⟨fs, hr, hrun, hended, hW, hsame⟩ := X128.leave (v := some (.int (1 : Int32))) (fun h => by rw [Bd.returns] at h; cases h)
          refine ⟨_, _, ?_, hrun, hended, _, _, rfl, ?_, ⟨_, rfl⟩, hW, hsame.mono (by decide) (by decide)⟩
          · exact retN X128 hx (t := .boolean) Bd.returns (by simp) (hb hby at_244) hr
          · show Q0 Z p0 p1 p2 p3 p4 h0 n0 _ T128.heap _
            rw [e128]
            exact ⟨rfl, N128⟩
set_option maxRecDepth 65536 in
set_option maxHeartbeats 40000000 in
theorem comes_1 {Post : Tables → Env → Array Value → State → Outcome → State → Prop} (hpost : ∀ tb e args s v u, (limb_1_1.after args s (.returned v) u = true ∧ limb_1_2.after args s (.returned v) u = true ∧ True) → FrameEnd s (.returned v) u (Jvm.fieldLocs frame_1_writes args s ++ Jvm.arrayLocs frame_1_arrays args s ++ Jvm.staticLocs frame_1_statics s) 16 128 → Post tb e args s (.returned v) u) :
    ArmFor flags0 classFile x code maxLocals ret World_1 tables_1 room_1 Calls_1 rest_1 Pre_1 Post := by
  intro l hfl _ _ p e ha hc hk s m args below hf hA hF happ hP
  obtain ⟨hcalls, hrest, hpre⟩ := hP
  obtain ⟨-, -, -, hnamed, -, -, -, hat⟩ := (Spec.applies_iff hf).mp happ
  obtain ⟨hg, hn⟩ := and_e (Cond.before_iff.mp (show (Jvm.Cond.and given_1 narrow_1).before args s = true from hpre))
  obtain ⟨gc, gr0⟩ := and_e hg
  obtain ⟨ga0, gr1⟩ := and_e gr0
  obtain ⟨ga1, gr2⟩ := and_e gr1
  obtain ⟨ga2, gr3⟩ := and_e gr2
  obtain ⟨ga3, gr4⟩ := and_e gr3
  obtain ⟨w0, w1, w2, w3, w4, rfl⟩ : ∃ w0 w1 w2 w3 w4 : Value, args = #[w0, w1, w2, w3, w4] := by
    have hs : args.size = 5 := by simpa [Cond.value, given_1] using gc
    obtain ⟨L⟩ := args
    match L, hs with
    | [w0, w1, w2, w3, w4], _ => exact ⟨w0, w1, w2, w3, w4, rfl⟩
  have hw := fun d (hd : d ∈ tables_1) => atoms_spec (ws := Jvm.Cond.code x code maxLocals ret :: tables_1) hat d (List.mem_cons_of_mem _ hd)
  obtain ⟨i0, ei0⟩ := is_v ga0
  obtain rfl : w0 = (.int i0) := Option.some.inj ei0
  obtain ⟨i1, ei1⟩ := is_v ga1
  obtain rfl : w1 = (.int i1) := Option.some.inj ei1
  obtain ⟨i2, ei2⟩ := is_v ga2
  obtain rfl : w2 = (.int i2) := Option.some.inj ei2
  obtain ⟨i3, ei3⟩ := is_v ga3
  obtain rfl : w3 = (.int i3) := Option.some.inj ei3
  obtain ⟨i4, ei4⟩ := isL_v gr4
  obtain rfl : w4 = (.long i4) := Option.some.inj ei4
  obtain ⟨n, o, h1, h2, h3, _, L, rfl, ⟨rfl, N⟩, hq⟩ := rm0 l s _ hw tables_1 i0 i1 i2 i3 i4 s.heap s.heap.size (Nat.le_refl _) p e ha hc hk s m _ below hf ((Spec.applies_iff_loose hf).mp happ).1 ⟨rfl, State.Warmed39.refl s, rfl⟩ trivial
  refine ⟨n, _, h1, h2, h3, hpost _ _ _ _ _ _ ⟨Cond.after_iff.mpr rfl, Cond.after_iff.mpr (eq_i res_at (Term.int_eval (1)) rfl), trivial⟩ ⟨hq.1, hq.2.1, (hq.2.2.sift fun y hy => Or.inr (N y hy)).mono (by decide) (by decide)⟩⟩
theorem main_1_1 : Claimed_1_1 := comes_1 fun _ _ _ _ _ _ h hF => ⟨h.1, hF⟩
theorem main_1_2 : Claimed_1_2 := comes_1 fun _ _ _ _ _ _ h hF => ⟨h.2.1, hF⟩
end Jvm.Pilot.@@N@@
namespace Jvm.Pilot.@@N@@
open Jvm Jvm.ClassFile Sem Op Lib Jvm.Free Jvm.Stand Jvm.Pilot.@@N@@.Jvm.D
/-! MADE BY PROGRAM (witnessworld.py) out of the Statement's table words and the real class files: 9 classes; the members and pool entries that the words name. The judged class is class 1, her method 3. -/
namespace start1
open Jvm.ClassFile
def u (s : String) : CpInfo := .utf8 (stringToUtf16 s)
/-- a pool by its gaps: so many unusable entries, then the entry; so many at the end -/
def gap : Nat → List CpInfo → List CpInfo
  | 0, r => r
  | n + 1, r => .unusable :: gap n r
def poolList (es : List (Nat × CpInfo)) (last : Nat) : List CpInfo := es.foldr (fun e r => gap e.1 (e.2 :: r)) (gap last [])
def pool (es : List (Nat × CpInfo)) (last : Nat) : Array CpInfo := ⟨poolList es last⟩
def fileOf (pool : Array CpInfo) (this : Nat) (attrs : Array Attribute := #[]) (ms : Array MethodInfo := #[]) (fl : Nat := 33) (sup : Nat := 0) (ifs : Array Nat := #[]) (fds : Array FieldInfo := #[]) : ClassFile where
  minorVersion := 0
  majorVersion := 65
  constantPool := pool
  accessFlags := fl
  thisClass := this
  superClass := sup
  interfaces := ifs
  fields := fds
  methods := ms
  attributes := attrs
def plain (name : String) (sup : Option ClassId) : Class where
  name := name
  kind := .ordinary
  loader := none
  accessFlags := 33
  super := sup
  interfaces := #[]
  cf := none
  fields := #[]
  methods := #[]
  instanceTypes := #[]
  staticTypes := #[]
  resolved := #[]
  callSites := []
  init := .initialized
  statics := none
  mirror := none

def pool0 : Array CpInfo := pool [(5, u "<init>"), (0, u "()V"), (1, .class_ 10), (1, u "java/lang/Object")] 113

def k0m0 : Method := { name := "<init>", desc := "()V", sig := { parameters := [], returnType := none }, accessFlags := 1, code := none }
/-- java/lang/Object -/
def k0 : Class := { plain "java/lang/Object" none with
  accessFlags := 33
  interfaces := #[]
  cf := some (fileOf pool0 8 #[] #[{ accessFlags := 1, nameIndex := 5, descriptorIndex := 6, attributes := #[] }] 33 0 #[] #[])
  fields := #[]
  methods := #[k0m0]
  instanceTypes := #[]
  staticTypes := #[]
  resolved := Array.replicate 124 none
  statics := none }

def pool1 : Array CpInfo := pool [(2, .class_ 4), (1, u "java/lang/Object"), (0, u "<init>"), (0, u "()V"), (0, .integer 65535), (0, .methodref 9 10), (0, .class_ 11), (0, .nameAndType 12 13), (0, u "com/example/diagnostic/diagnostic/Utf8OffsetOfUnitPinLaw"), (0, u "put"), (0, u "([BII)I"), (0, .methodref 9 15), (0, .nameAndType 16 17), (0, u "units"), (0, u "(I)I"), (0, .methodref 19 20), (0, .class_ 21), (0, .nameAndType 22 23), (0, u "com/example/diagnostic/diagnostic/Utf8"), (0, u "offsetOfUnit"), (0, u "([BIIJ)I"), (5, u "law"), (0, u "(IIIIJ)Z")] 2

def k1m0 : Method := { name := "<init>", desc := "()V", sig := { parameters := [], returnType := none }, accessFlags := 2, code := none }
def k1c1 : Code := { maxStack := 2, maxLocals := 1, code := method_2_code, exceptionTable := #[], attributes := #[] }
def k1m1 : Method := { name := "units", desc := "(I)I", sig := { parameters := [.int], returnType := some .int }, accessFlags := 10, code := some k1c1 }
def k1c2 : Code := { maxStack := 5, maxLocals := 6, code := method_3_code, exceptionTable := #[], attributes := #[] }
def k1m2 : Method := { name := "put", desc := "([BII)I", sig := { parameters := [(.array .byte), .int, .int], returnType := some .int }, accessFlags := 10, code := some k1c2 }
def k1c3 : Code := { maxStack := 5, maxLocals := 23, code := code, exceptionTable := #[], attributes := #[] }
def k1m3 : Method := { name := "law", desc := "(IIIIJ)Z", sig := { parameters := [.int, .int, .int, .int, .long], returnType := some .boolean }, accessFlags := 9, code := some k1c3 }
/-- com/example/diagnostic/diagnostic/Utf8OffsetOfUnitPinLaw -/
def k1 : Class := { plain "com/example/diagnostic/diagnostic/Utf8OffsetOfUnitPinLaw" (some 0) with
  accessFlags := 49
  interfaces := #[]
  cf := some (fileOf pool1 9 #[] #[{ accessFlags := 2, nameIndex := 5, descriptorIndex := 6, attributes := #[] }, { accessFlags := 10, nameIndex := 16, descriptorIndex := 17, attributes := #[] }, { accessFlags := 10, nameIndex := 12, descriptorIndex := 13, attributes := #[] }, { accessFlags := 9, nameIndex := 29, descriptorIndex := 30, attributes := #[] }] 49 2 #[] #[])
  fields := #[]
  methods := #[k1m0, k1m1, k1m2, k1m3]
  instanceTypes := #[]
  staticTypes := #[]
  resolved := Array.replicate 33 none
  statics := none }

def pool2 : Array CpInfo := pool [(2, .class_ 4), (1, u "java/lang/Object"), (0, u "<init>"), (0, u "()V"), (12, .class_ 20), (0, u "com/example/diagnostic/diagnostic/Utf8$Scan"), (13, .long 2), (18, .class_ 54), (0, u "com/example/diagnostic/diagnostic/Utf8"), (8, u "offsetOfUnit"), (0, u "([BIIJ)I")] 7

def k2m0 : Method := { name := "<init>", desc := "()V", sig := { parameters := [], returnType := none }, accessFlags := 2, code := none }
def k2c1 : Code := { maxStack := 4, maxLocals := 10, code := prog_5_method_4_code, exceptionTable := #[], attributes := #[] }
def k2m1 : Method := { name := "offsetOfUnit", desc := "([BIIJ)I", sig := { parameters := [(.array .byte), .int, .int, .long], returnType := some .int }, accessFlags := 8, code := some k2c1 }
/-- com/example/diagnostic/diagnostic/Utf8 -/
def k2 : Class := { plain "com/example/diagnostic/diagnostic/Utf8" (some 0) with
  accessFlags := 48
  interfaces := #[]
  cf := some (fileOf pool2 53 #[.nestMembers #[19]] #[{ accessFlags := 2, nameIndex := 5, descriptorIndex := 6, attributes := #[] }, { accessFlags := 8, nameIndex := 63, descriptorIndex := 64, attributes := #[] }] 48 2 #[] #[])
  fields := #[]
  methods := #[k2m0, k2m1]
  instanceTypes := #[]
  staticTypes := #[]
  resolved := Array.replicate 72 none
  statics := none }

def pool3 : Array CpInfo := pool [(1, u "java/lang/Cloneable"), (0, .class_ 1), (0, u "java/lang/Object"), (0, .class_ 3)] 3

/-- java/lang/Cloneable -/
def k3 : Class := { plain "java/lang/Cloneable" (some 0) with
  accessFlags := 1537
  interfaces := #[]
  cf := some (fileOf pool3 2 #[] #[] 1537 4 #[] #[])
  fields := #[]
  methods := #[]
  instanceTypes := #[]
  staticTypes := #[]
  resolved := Array.replicate 8 none
  statics := none }

def pool4 : Array CpInfo := pool [(1, u "java/io/Serializable"), (0, .class_ 1), (0, u "java/lang/Object"), (0, .class_ 3)] 3

/-- java/io/Serializable -/
def k4 : Class := { plain "java/io/Serializable" (some 0) with
  accessFlags := 1537
  interfaces := #[]
  cf := some (fileOf pool4 2 #[] #[] 1537 4 #[] #[])
  fields := #[]
  methods := #[]
  instanceTypes := #[]
  staticTypes := #[]
  resolved := Array.replicate 8 none
  statics := none }

/-- the primitive byte -/
def k5 : Class := { plain "byte" none with kind := .primitive 'B', accessFlags := 0x411 }
/-- [B -/
def k6 : Class := { plain "[B" (some 0) with kind := .array 5 .byte, interfaces := #[3, 4], accessFlags := 1041 }

/-- the primitive int -/
def k7 : Class := { plain "int" none with kind := .primitive 'I', accessFlags := 0x411 }
/-- [I -/
def k8 : Class := { plain "[I" (some 0) with kind := .array 7 .int, interfaces := #[3, 4], accessFlags := 1041 }

def heap : Heap := #[]
def classes : Array Class := #[k0, k1, k2, k3, k4, k5, k6, k7, k8]
def interned : List (Array UInt16 × Addr) := []
def slotsUsed : Nat := 0
def theMethod : MethodId := ⟨1, 3⟩
def args0 : Array Value := #[.int 5, .int 6, .int 7, .int 8, .long 1]
def aboutOver (below : List Frame) : State where
  vm := { classes := classes, interned := interned.toArray }
  heap := heap
  slotsUsed := slotsUsed
  threads := #[{ frames := .invoking theMethod args0 :: below }]
def below0 : List Frame := [.native { method := ⟨0, 0⟩, args := #[] }]
def about1 : State := aboutOver below0
def p0 : Program := .bare "" "" ""
def e0 : Env := launch0.env 0 0 0
theorem w_frames : about1.frames = Frame.invoking theMethod args0 :: below0 := rfl
set_option maxRecDepth 65536 in
theorem w_args : argsFit about1.vm theMethod args0 = true := by decide +kernel
set_option maxRecDepth 65536 in
theorem w_heap : heapFits about1 = true := by decide +kernel
set_option maxRecDepth 65536 in
theorem w_runnable : about1.curStatus? = some .runnable := by decide +kernel
set_option maxRecDepth 65536 in
theorem w_alone : about1.alone = true := by decide +kernel
set_option maxRecDepth 65536 in
theorem w_named : about1.methodNamed? x = some theMethod := by decide +kernel
set_option maxRecDepth 65536 in
theorem w_hears : about1.hears theMethod below0 = true := by decide +kernel
set_option maxRecDepth 65536 in
theorem w_ripe : about1.ripe theMethod args0 below0 = true := by decide +kernel
theorem w_running : about1.status = .running := rfl
set_option maxRecDepth 65536 in
theorem w_room : about1.hasRoom e0.platform room_1 = true :=
  launch0.hasRoom_least _ room_1 (by decide +kernel) (by decide +kernel) (by decide +kernel) (by decide +kernel) (by decide +kernel) (by decide +kernel)
theorem allAtoms_all (ts : List Jvm.Cond) (a : Array Jvm.Value) (st : Jvm.State) : (allAtoms ts).before a st = ts.all (fun c => c.before a st) := by
  induction ts with
  | nil => rfl
  | cons c t ih =>
    show (Jvm.Cond.and c (allAtoms t)).before a st = _
    rw [Jvm.Cond.before_and, ih, List.all_cons]
def words1 : List Jvm.Cond := Jvm.Cond.code x code maxLocals ret :: tables_1
/-- a 'code' word, met by the world's own term for the bytes: nothing is compared byte by byte -/
theorem code_word {y : MethodName} {bytes : ByteArray} {mx : Nat} {rt : Option FieldType} {a : Array Value} {s : State} {m : MethodId} {meth : Method} {c : Code} (h1 : s.methodNamed? y = some m) (h2 : s.vm.method? m = some meth) (h3 : meth.code = some c) (h4 : c.code = bytes)
    (h5 : (c.maxLocals == mx && c.exceptionTable.isEmpty && decide (c.maxStack ≤ mostOperands) && decide (meth.sig.returnType = rt) && !meth.locks && decide (parseMethodDescriptor y.desc = some meth.sig)) = true) : (Jvm.Cond.code y bytes mx rt).before a s = true := by
  simp only [Bool.and_eq_true, beq_iff_eq, Bool.not_eq_true', decide_eq_true_eq] at h5
  obtain ⟨⟨⟨⟨⟨g1, g2⟩, g3⟩, g4⟩, g5⟩, g6⟩ := h5
  simp [Cond.before, Cond.holds, Cond.value, h1, h2, h3, h4, g1, g2, g3, g4, g5, g6]
def isCode : Jvm.Cond → Bool
  | .code _ _ _ _ => true
  | _ => false
theorem all_split {L : List Jvm.Cond} {P : Jvm.Cond → Bool} (h1 : L.all (fun c => isCode c || P c) = true) (h2 : ∀ c ∈ L.filter isCode, P c = true) : L.all P = true := by
  refine List.all_eq_true.mpr fun c hc => ?_
  have h := List.all_eq_true.mp h1 c hc
  rcases Bool.eq_false_or_eq_true (isCode c) with hi | hi
  · exact h2 c (List.mem_filter.mpr ⟨hc, hi⟩)
  · simpa [hi] using h
set_option maxRecDepth 65536 in
theorem w_c0 : (Jvm.Cond.code x code maxLocals ret).before args0 about1 = true := code_word (m := ⟨1, 3⟩) (meth := k1m3) (c := k1c3) (by decide +kernel) rfl rfl rfl (by decide +kernel)
set_option maxRecDepth 65536 in
theorem w_c1 : (Jvm.Cond.code ({ cls := "com/example/diagnostic/diagnostic/Utf8OffsetOfUnitPinLaw", name := "put", desc := "([BII)I" } : Jvm.MethodName) method_3_code (6 : Nat) (Option.some Jvm.ClassFile.FieldType.int)).before args0 about1 = true := code_word (m := ⟨1, 2⟩) (meth := k1m2) (c := k1c2) (by decide +kernel) rfl rfl rfl (by decide +kernel)
set_option maxRecDepth 65536 in
theorem w_c2 : (Jvm.Cond.code ({ cls := "com/example/diagnostic/diagnostic/Utf8OffsetOfUnitPinLaw", name := "units", desc := "(I)I" } : Jvm.MethodName) method_2_code (1 : Nat) (Option.some Jvm.ClassFile.FieldType.int)).before args0 about1 = true := code_word (m := ⟨1, 1⟩) (meth := k1m1) (c := k1c1) (by decide +kernel) rfl rfl rfl (by decide +kernel)
set_option maxRecDepth 65536 in
theorem w_c3 : (Jvm.Cond.code ({ cls := "com/example/diagnostic/diagnostic/Utf8", name := "offsetOfUnit", desc := "([BIIJ)I" } : Jvm.MethodName) prog_5_method_4_code (10 : Nat) (Option.some Jvm.ClassFile.FieldType.int)).before args0 about1 = true := code_word (m := ⟨2, 1⟩) (meth := k2m1) (c := k2c1) (by decide +kernel) rfl rfl rfl (by decide +kernel)
def codes1 : List Jvm.Cond := [Jvm.Cond.code x code maxLocals ret, Jvm.Cond.code ({ cls := "com/example/diagnostic/diagnostic/Utf8OffsetOfUnitPinLaw", name := "put", desc := "([BII)I" } : Jvm.MethodName) method_3_code (6 : Nat) (Option.some Jvm.ClassFile.FieldType.int), Jvm.Cond.code ({ cls := "com/example/diagnostic/diagnostic/Utf8OffsetOfUnitPinLaw", name := "units", desc := "(I)I" } : Jvm.MethodName) method_2_code (1 : Nat) (Option.some Jvm.ClassFile.FieldType.int), Jvm.Cond.code ({ cls := "com/example/diagnostic/diagnostic/Utf8", name := "offsetOfUnit", desc := "([BIIJ)I" } : Jvm.MethodName) prog_5_method_4_code (10 : Nat) (Option.some Jvm.ClassFile.FieldType.int)]
set_option maxRecDepth 65536 in
theorem codes_eq : words1.filter isCode = codes1 := rfl
theorem w_codes : ∀ c ∈ words1.filter isCode, c.before args0 about1 = true := by
  rw [codes_eq]
  intro c hc
  simp only [codes1, List.mem_cons, List.not_mem_nil, or_false] at hc
  rcases hc with rfl | rfl | rfl | rfl
  · exact w_c0
  · exact w_c1
  · exact w_c2
  · exact w_c3
set_option maxRecDepth 65536 in
theorem w_t1 : words1.all (fun c => isCode c || c.before args0 about1) = true := by decide +kernel
theorem w_tables : (allAtoms (Jvm.Cond.code x code maxLocals ret :: tables_1)).before args0 about1 = true := by
  rw [allAtoms_all]
  show words1.all (fun c => c.before args0 about1) = true
  refine all_split ?_ w_codes
  rw [w_t1]
set_option maxRecDepth 65536 in
theorem w_case : (Jvm.Cond.and given_1 narrow_1).before args0 about1 = true := by decide +kernel
theorem w_applies : (headSpec (Jvm.Cond.code x code maxLocals ret :: tables_1) room_1).applies x e0.platform about1 = true :=
  (Spec.applies_iff w_frames).mpr ⟨w_running, w_runnable, w_alone, w_named, w_hears, w_ripe, w_room, w_tables⟩
theorem atStart : AtStart classFile x code maxLocals ret World_1 tables_1 room_1 Calls_1 rest_1 Pre_1 launch0 p0 e0 about1 theMethod args0 below0 :=
  ⟨lists_1, trivial, launch0.admits_env _ _ _, launch0.least_env, fairChoices_fair.cas, fairChoices_fair.clock, w_frames, w_args, w_heap, w_applies, trivial, trivial, w_case⟩
end start1
theorem witness_1 : WitnessClaimed_1 := ⟨start1.p0, start1.e0, start1.about1, start1.theMethod, start1.args0, start1.below0, start1.atStart⟩
end Jvm.Pilot.@@N@@
