import JvmDerived
import JvmDerived.Pilot.@@N@@Statement
import JvmDerived.Pilot.@@N@@Code
set_option linter.unusedVariables false
set_option linter.unusedSimpArgs false
@@BLOCK:NumsL.lean.txt@@
namespace Jvm.Pilot.@@N@@
open Jvm Jvm.ClassFile Sem Op Lib Jvm.Free Jvm.Stand Jvm.LawKit Jvm.RoadKit Bundle Jvm.Pilot.@@N@@.Jvm.D
/-! the walk's own form: from this state and frame the run ends as P says -/
def Go (p : Program) (e : Env) (below : List Frame) (T : State) (g : JFrame) (P : Outcome → State → Prop) : Prop := ∃ s₂ o, Steps p.tables e below (T.setTop g) s₂ ∧ s₂.status = .running ∧ Ended s₂ below o ∧ P o s₂
theorem Go.of {p : Program} {e : Env} {below : List Frame} {T T' : State} {g g' : JFrame} {P : Outcome → State → Prop} (k : ∀ t, Steps p.tables e below (T'.setTop g') t → Steps p.tables e below (T.setTop g) t) (h : Go p e below T' g' P) : Go p e below T g P := by
  obtain ⟨s2, o, h1, h2⟩ := h; exact ⟨s2, o, k _ h1, h2⟩
theorem Go.enter {p : Program} {e : Env} {below : List Frame} {T : State} {g g' : JFrame} {P : Outcome → State → Prop} (q : g = g') (h : Go p e below T g' P) : ∃ s₂ o, Steps p.tables e below (T.setTop g) s₂ ∧ s₂.status = .running ∧ Ended s₂ below o ∧ P o s₂ := by
  subst q; exact h
theorem own_selp {s : State} {args : Array Value} {y : MethodName} {n : Nat} (hi : (Jvm.Cond.instantiable y.cls n).before args s = true) (hp : s.PrivateAt y) (hm : (Jvm.Cond.instanceMethod y).before args s = true) (hy : y.cls ≠ "java/lang/invoke/MethodHandle" ∧ y.cls ≠ "java/lang/invoke/VarHandle") : (Jvm.Cond.selects y.cls y y).before args s = true := by
  obtain ⟨c, k, h1, h2, -, h3, -⟩ := Cond.instantiable_spec hi
  rw [Bool.or_eq_false_iff] at h3
  exact selects_self_of_private h1 h2 h3.1 hp hm hy
theorem own_stand {p : Program} {l : Launch} {e : Env} {R : Room} {s : State} {m : MethodId} {args : Array Value} {below : List Frame} {meth : Method} {c : Code} {T : State} {L L' : List Loc} {k k' n n' : Nat} (X : Stand p l e R s m args below meth c T L k n) (h1 : L = L') (h2 : k = k') (h3 : n = n') : Stand p l e R s m args below meth c T L' k' n' := by
  subst h1 h2 h3; exact X
/-- a local that holds nothing or one word -/
def Sl (o : Slot) : Prop := o = .unset ∨ ∃ w : Value, o = .val w ∧ w.category = 1
/-! an array of small ints: its kind, its length, its components as a function -/
def Af (Z : State) (h : Heap) (a : Addr) (ty : FieldType) (n : Nat) (f : Nat → Int32) : Prop := ∃ c : Cell, Arr Z h a c ty ∧ c.slots.size = n ∧ ∀ i, i < n → c.slots[i]? = some (.int (f i))
def upd (f : Nat → Int32) (j : Nat) (v : Int32) : Nat → Int32 := fun i => if i = j then v else f i
theorem Af.lt {Z : State} {h : Heap} {a : Addr} {ty : FieldType} {n : Nat} {f : Nat → Int32} (F : Af Z h a ty n f) : a < h.size := by obtain ⟨c, A, -⟩ := F; exact A.lt
theorem Af.ext {Z : State} {h h' : Heap} {a : Addr} {ty : FieldType} {n : Nat} {f : Nat → Int32} (F : Af Z h a ty n f) (E : Ext h h') : Af Z h' a ty n f := by obtain ⟨c, A, r⟩ := F; exact ⟨c, A.ext E, r⟩
theorem Af.other {Z : State} {h h' : Heap} {a b : Addr} {ty : FieldType} {n sl : Nat} {v : Value} {f : Nat → Int32} (F : Af Z h b ty n f) (W : Wr h h' a sl v) (q : b ≠ a) : Af Z h' b ty n f := by obtain ⟨c, A, r⟩ := F; exact ⟨c, A.other W q, r⟩
theorem Af.keep {Z : State} {h h' : Heap} {a : Addr} {ws : List Addr} {ty : FieldType} {n : Nat} {f : Nat → Int32} (F : Af Z h a ty n f) (K : Keep h h' ws) (q : a ∉ ws) : Af Z h' a ty n f := by obtain ⟨c, A, r⟩ := F; exact ⟨c, ⟨K.2.1 a c A.1 q, A.2⟩, r⟩
theorem Af.new {Z : State} {h : Heap} {a : Addr} {k : ClassId} {ty : FieldType} {z : Int32} {n : Nat} (hd : defaultValue ty = .int 0) (A : Arr Z h a (newA k ty z) ty) (hn : z.toNatClampNeg = n) : Af Z h a ty n (fun _ => 0) := by
  subst hn; exact ⟨_, A, sz_new _ _ _, fun i hi => by simp [newA, hd, hi]⟩
theorem Af.at {c : Cell} {n i : Nat} {j : Int32} {f : Nat → Int32} (H : ∀ i, i < n → c.slots[i]? = some (.int (f i))) (hj : j.toNatClampNeg = i) (q : ¬ (j < 0) ∧ j.toNatClampNeg < n) : c.slots[j.toNatClampNeg]? = some (.int (f i)) := by
  subst hj; exact H _ q.2
theorem Af.inb {c : Cell} {n : Nat} {j : Int32} (S : c.slots.size = n) (q : ¬ (j < 0) ∧ j.toNatClampNeg < n) : ¬ (j < 0 ∨ c.slots.size ≤ j.toNatClampNeg) := by rw [S]; exact fun z => z.elim q.1 (Nat.not_le.mpr q.2)
theorem Af.set {Z : State} {h h' : Heap} {a : Addr} {c : Cell} {ty : FieldType} {n j j' : Nat} {x : Int32} {f : Nat → Int32} (A : Arr Z h a c ty) (S : c.slots.size = n) (H : ∀ i, i < n → c.slots[i]? = some (.int (f i))) (W : Wr h h' a j' (.int x)) (hj : j' = j) : Af Z h' a ty n (upd f j x) := by
  subst hj
  refine ⟨_, A.same W, by rw [sz_set]; exact S, fun i hi => ?_⟩
  by_cases e : i = j'
  · subst e; simp [upd, Cell.setSlot, S, hi]
  · have q : (c.setSlot j' (.int x)).slots[i]? = c.slots[i]? := Array.getElem?_setIfInBounds_ne (Ne.symm e)
    rw [q, H i hi]; simp [upd, e]
theorem Af.congr {Z : State} {h : Heap} {a : Addr} {ty : FieldType} {n : Nat} {f g : Nat → Int32} (F : Af Z h a ty n f) (q : ∀ i, i < n → f i = g i) : Af Z h a ty n g := by
  obtain ⟨c, A, S, H⟩ := F; exact ⟨c, A, S, fun i hi => by rw [← q i hi]; exact H i hi⟩
/-! a constructor of a nest mate whose pool entry is taken as resolved -/
theorem own_refAt {Z T : State} {a0 args : Array Value} {own : String} {y : MethodName} {index : Nat} (hZ : Z.Warmed39 T.vm) (hi : (Jvm.Cond.instanceMethod y).before a0 Z = true) (hy : y.cls ≠ "java/lang/invoke/MethodHandle" ∧ y.cls ≠ "java/lang/invoke/VarHandle") (h : (Jvm.Cond.methodRef own index y).before a0 Z = true) : (Jvm.Cond.methodRef own index y).before args T = true := by
  obtain ⟨mk, _, hn, -⟩ := Cond.instanceMethod_spec hi
  have q := Cond.methodRef_warmed39 hZ hn hy h
  simp only [Cond.before, Cond.holds, Cond.value] at q ⊢
  exact q
theorem own_refBack {p : Program} {l : Launch} {e : Env} {R : Room} {s : State} {m : MethodId} {args : Array Value} {below : List Frame} {meth : Method} {c : Code} {T : State} {locs : List Loc} {cells slots : Nat} (X : Stand p l e R s m args below meth c T locs cells slots) (hexec : p.tables.exec = Jvm.exec) {own : String} {index : Nat} {y : MethodName} (hy1 : y.name = "<init>")
    (hown : s.vm.findClass own = some m.cls) (href : (Jvm.Cond.methodRef own index y).before args T = true) (hinst : (Jvm.Cond.instanceMethod y).before args s = true)
    {bytes : ByteArray} {maxL : Nat} (hcode : (Jvm.Cond.code y bytes maxL none).before args s = true)
    (hy : y.cls ≠ "java/lang/invoke/MethodHandle" ∧ y.cls ≠ "java/lang/invoke/VarHandle")
    {W : Nat} {Pre : Pt → Array Value → Prop} {Post : Pt → Array Value → Option Value → Pt → Prop} (hK : Back l R p e below s args y 3 W Pre Post)
    {g : JFrame} (hg : g.method = m) (hsize : g.locals.size = c.maxLocals) {a : Addr} {argsL rest : List Value}
    (hlen : ∀ sig, parseMethodDescriptor y.desc = some sig → argsL.length = sig.parameters.length) (hstack : g.stack = argsL.reverse ++ .ref a :: rest) (hW : 2 * g.monitorRoom + (rest.map fun v => v.category).sum ≤ W)
    (hdg : decode c.code g.pc = .ok (.invokespecial index, 3)) (hpre : Pre ⟨T, locs, cells, slots⟩ (.ref a :: argsL).toArray) :
    ∃ (v : Option Value) (B : Pt), Stand p l e R s m args below meth c B.U B.locs B.cells B.slots ∧ Post ⟨T, locs, cells, slots⟩ (.ref a :: argsL).toArray v B ∧
      Steps p.tables e below (T.setTop g) (B.U.setTop { g with pc := g.pc + 3, stack := v.toList ++ rest }) := by
  subst hg
  obtain ⟨mk, methM, hnamed, hmethM, hstM, habM⟩ := Cond.instanceMethod_spec hinst
  obtain ⟨methM', cM, hmethM', -, -, -, -, -, -, hsigM⟩ := Cond.code_spec hnamed hcode
  cases hmethM.symm.trans hmethM'
  have hnT : T.methodNamed? y = some mk := X.named hnamed
  have hmT : T.vm.method? mk = some methM := by rw [X.warmed.alike.method?]; exact hmethM
  have hoT : T.vm.findClass own = some g.method.cls := by rw [X.warmed.alike.findClass]; exact hown
  obtain ⟨m', c', h1, h2, h3, h4⟩ := Cond.methodRef_named e hoT href
  have e1 : m' = mk := Option.some.inj (h1.symm.trans (State.methodFound?_of_named hnT hy))
  subst e1
  have e2 : c' = m'.cls := Option.some.inj (h3.symm.trans (findClass_of_methodNamed hnT))
  subst e2
  obtain ⟨kP, hkP, -⟩ := className_of_methodNamed hnT
  obtain ⟨hnm, hdesc⟩ := name_of_methodNamed hnT hmT
  have hfound : lookupSpecial T.vm m'.cls "<init>" methM.desc = .method m' := by
    rw [hdesc, ← hy1]; exact lookupSpecial_of_named hnT hmT hstM
  obtain ⟨v, B, X', hpost, hsteps⟩ := hK g.method meth c ⟨T, locs, cells, slots⟩ { g with stack := rest } (.invokespecial index) m' (.ref a :: argsL).toArray X rfl hsize hdg hW hnT hpre
  refine ⟨v, B, X', hpost, ?_⟩
  have hstep : ∀ target, (∀ acts, Steps p.tables e below (doInvoke e (T.setTop { g with stack := rest }) acts m' (.ref a :: argsL).toArray).1 target) → Steps p.tables e below (T.setTop g) target := by
    intro target hrest
    jvm_step X.here [hexec, hdg, invokespecial.wp_init (e := e) (s := T) (k := kP) (meth := methM) (m := m') (a := a) (args := argsL) (rest := rest) (f := g) X.here.top h4 h2 hkP hmT (by rw [hnm]; exact hy1) hstM habM hfound (hlen _ hsigM) hstack]
    exact hrest
  exact (hstep _ fun acts => by rw [doInvoke_state]; exact Steps.refl _).trans hsteps
theorem own_ne {z : Int32} (h : z < (128 : Int32)) : ¬ (z = (128 : Int32)) := by
  intro e; rw [e] at h; exact absurd h (by decide)
theorem own_nlt (x : Int32) : ¬ (x < x + (0 : Int32).toInt64.toInt32) := by
  have e : (0 : Int32).toInt64.toInt32 = 0 := by decide
  rw [e, Int32.lt_iff_toInt_lt]; simp
theorem own_one1 (x : Int32) : ¬ ((1 : Int32) < ((x + (1 : Int32)) - x)) := by
  have e : (x + (1 : Int32)) - x = 1 := by
    rw [← Int32.toBitVec_inj, Int32.toBitVec_sub, Int32.toBitVec_add, BitVec.add_comm, BitVec.add_sub_cancel]
  rw [e]; decide
theorem own_lm1 {z : Int32} (h : ¬ (z < (0 : Int32))) : ¬ (z.toInt64 = (-1 : Int64)) := by
  intro e
  have e2 := congrArg Int64.toInt e
  rw [Int32.toInt_toInt64, show (-1 : Int64).toInt = -1 from by decide] at e2
  rw [Int32.lt_iff_toInt_lt, show (0 : Int32).toInt = 0 from by decide] at h
  omega
theorem own_l128 {z : Int32} (h : z < (128 : Int32)) (h0 : ¬ (z < (0 : Int32))) : z.toInt64 < (128 : Int64) := by
  rw [Int32.lt_iff_toInt_lt, show (128 : Int32).toInt = 128 from by decide] at h
  rw [Int64.lt_iff_toInt_lt, Int32.toInt_toInt64, show (128 : Int64).toInt = 128 from by decide]
  omega
theorem own_updN {f : Nat → Int32} {j i : Nat} {v : Int32} (h : i ≠ j) : upd f j v i = f i := if_neg h
theorem own_updS {f : Nat → Int32} {j : Nat} {v : Int32} : upd f j v j = v := if_pos rfl
theorem own_mod5 (x : Int32) : (x &&& 2147483647) % 5 = 0 ∨ (x &&& 2147483647) % 5 = 1 ∨ (x &&& 2147483647) % 5 = 2 ∨ (x &&& 2147483647) % 5 = 3 ∨ (x &&& 2147483647) % 5 = 4 := by
  have h : (x &&& 2147483647).toInt = x.toInt % 2 ^ 31 := Jvm.Kit.i32_mask x 2147483647 (k := 31) (by decide) (by decide)
  have hr : ((x &&& 2147483647) % 5).toInt = (x &&& 2147483647).toInt % (5 : Int32).toInt := Jvm.Kit.i32_rem_nonneg (by omega)
  have h0 : (0 : Int32).toInt = 0 := by decide
  have h1 : (1 : Int32).toInt = 1 := by decide
  have h2 : (2 : Int32).toInt = 2 := by decide
  have h3 : (3 : Int32).toInt = 3 := by decide
  have h4 : (4 : Int32).toInt = 4 := by decide
  have h5 : (5 : Int32).toInt = 5 := by decide
  rw [h5] at hr
  simp only [← Int32.toInt_inj, hr, h0, h1, h2, h3, h4]; omega
theorem pn_0 : plainName "com/example/attestry/attestry/DerReaderHasNextPinLaw" = true := by first | (simp [plainName, overriddenIn]; done) | decide +kernel
theorem pn_1 : plainName "com/example/attestry/attestry/DerReader$BerNote" = true := by first | (simp [plainName, overriddenIn]; done) | decide +kernel
theorem pd_0 : parseMethodDescriptor "()V" = some ⟨[], none⟩ := by decide +kernel
theorem pn_2 : plainName "com/example/attestry/attestry/DerReader" = true := by first | (simp [plainName, overriddenIn]; done) | decide +kernel
theorem pd_1 : parseMethodDescriptor "()Z" = some ⟨[], some .boolean⟩ := by decide +kernel
theorem pd_2 : parseMethodDescriptor "(ILjava/lang/String;)I" = some ⟨[.int, (.object "java/lang/String")], some .int⟩ := by decide +kernel
theorem pd_3 : parseMethodDescriptor "(ILjava/lang/String;)J" = some ⟨[.int, (.object "java/lang/String")], some .long⟩ := by decide +kernel
theorem pd_4 : parseMethodDescriptor "(J)I" = some ⟨[.long], some .int⟩ := by decide +kernel
theorem pd_5 : parseMethodDescriptor "(Lcom/example/attestry/attestry/DerReader;III)V" = some ⟨[(.object "com/example/attestry/attestry/DerReader"), .int, .int, .int], none⟩ := by decide +kernel
theorem pd_6 : parseMethodDescriptor "(ILjava/lang/String;Z)Lcom/example/attestry/attestry/DerReader;" = some ⟨[.int, (.object "java/lang/String"), .boolean], some (.object "com/example/attestry/attestry/DerReader")⟩ := by decide +kernel
theorem pd_7 : parseMethodDescriptor "(ILjava/lang/String;)Lcom/example/attestry/attestry/DerReader;" = some ⟨[.int, (.object "java/lang/String")], some (.object "com/example/attestry/attestry/DerReader")⟩ := by decide +kernel
theorem pd_8 : parseMethodDescriptor "(III)B" = some ⟨[.int, .int, .int], some .byte⟩ := by decide +kernel
theorem pd_9 : parseMethodDescriptor "([B)V" = some ⟨[(.array .byte)], none⟩ := by decide +kernel
theorem pd_10 : parseMethodDescriptor "()Lcom/example/attestry/attestry/DerReader;" = some ⟨[], some (.object "com/example/attestry/attestry/DerReader")⟩ := by decide +kernel
def slotF (x y w : Int32) : Int32 := if (x - (2 : Int32)) < ((2 : Int32) * y) then (if ((x - (2 : Int32)) &&& (1 : Int32)) = (0 : Int32) then (5 : Int32) else (0 : Int32)) else nar .byte ((((w.toUInt32 >>> (((x &&& (3 : Int32)) * (8 : Int32)) &&& 31).toUInt32).toInt32)).toInt8.toInt32)
theorem d1_0 : decode method_2_code 0 = .ok (.iload_n 0, 1) := by decide +kernel
theorem d1_1 : decode method_2_code 1 = .ok (.iconst 2, 1) := by decide +kernel
theorem d1_2 : decode method_2_code 2 = .ok (.isub, 1) := by decide +kernel
theorem d1_3 : decode method_2_code 3 = .ok (.istore_n 3, 1) := by decide +kernel
theorem d1_4 : decode method_2_code 4 = .ok (.iload_n 3, 1) := by decide +kernel
theorem d1_5 : decode method_2_code 5 = .ok (.iconst 2, 1) := by decide +kernel
theorem d1_6 : decode method_2_code 6 = .ok (.iload_n 1, 1) := by decide +kernel
theorem d1_7 : decode method_2_code 7 = .ok (.imul, 1) := by decide +kernel
theorem d1_8 : decode method_2_code 8 = .ok (.if_icmp .ge 16, 3) := by decide +kernel
theorem d1_11 : decode method_2_code 11 = .ok (.iload_n 3, 1) := by decide +kernel
theorem d1_12 : decode method_2_code 12 = .ok (.iconst 1, 1) := by decide +kernel
theorem d1_13 : decode method_2_code 13 = .ok (.iand, 1) := by decide +kernel
theorem d1_14 : decode method_2_code 14 = .ok (.ifCond .ne 7, 3) := by decide +kernel
theorem d1_17 : decode method_2_code 17 = .ok (.iconst 5, 1) := by decide +kernel
theorem d1_18 : decode method_2_code 18 = .ok (.goto 4, 3) := by decide +kernel
theorem d1_21 : decode method_2_code 21 = .ok (.iconst 0, 1) := by decide +kernel
theorem d1_22 : decode method_2_code 22 = .ok (.i2b, 1) := by decide +kernel
theorem d1_23 : decode method_2_code 23 = .ok (.ireturn, 1) := by decide +kernel
theorem d1_24 : decode method_2_code 24 = .ok (.iload_n 2, 1) := by decide +kernel
theorem d1_25 : decode method_2_code 25 = .ok (.iload_n 0, 1) := by decide +kernel
theorem d1_26 : decode method_2_code 26 = .ok (.iconst 3, 1) := by decide +kernel
theorem d1_27 : decode method_2_code 27 = .ok (.iand, 1) := by decide +kernel
theorem d1_28 : decode method_2_code 28 = .ok (.bipush 8, 2) := by decide +kernel
theorem d1_30 : decode method_2_code 30 = .ok (.imul, 1) := by decide +kernel
theorem d1_31 : decode method_2_code 31 = .ok (.iushr, 1) := by decide +kernel
theorem d1_32 : decode method_2_code 32 = .ok (.i2b, 1) := by decide +kernel
theorem d1_33 : decode method_2_code 33 = .ok (.ireturn, 1) := by decide +kernel
theorem ef_1 (m : MethodId) (x0 : Int32) (x1 : Int32) (x2 : Int32) : entryFrame m #[(.int x0), (.int x1), (.int x2)] 4 = mkF m 0 #[.val (.int x0), .val (.int x1), .val (.int x2), .unset] [] := by first | (simp [entryFrame, mkF, argsToLocals, Value.category]; done) | rfl
def Q1 (Z : State) (x : Int32) (y : Int32) (w : Int32) (h0 : Heap) (n0 : Nat) (v : Option Value) (h : Heap) (L : List Loc) : Prop := v = some (.int (slotF x y w)) ∧ Fr n0 L ∧ h = h0
set_option maxRecDepth 65536 in
set_option maxHeartbeats 40000000 in
theorem rm1 (l : Launch) (Z : State) (a0 : Array Value) (hw : ∀ d ∈ tables_1, d.before a0 Z = true) (ws : List Jvm.Cond) (x : Int32) (y : Int32) (w : Int32) (h0 : Heap) (n0 : Nat) (Z0 : n0 ≤ h0.size) :
    MetFree l (⟨"com/example/attestry/attestry/DerReaderHasNextPinLaw", "slot", "(III)B"⟩ : MethodName) (head1 (Jvm.Cond.code (⟨"com/example/attestry/attestry/DerReaderHasNextPinLaw", "slot", "(III)B"⟩ : MethodName) method_2_code 4 (some .byte) :: ws) ({ frames := 0, cells := 0, slots := 0, locals := 0 } : Room)) (fun aa_ U => aa_ = #[(.int x), (.int y), (.int w)] ∧ Z.Warmed39 U.vm ∧ U.heap = h0) (fun _ _ _ _ _ => True) (fun _ U o U' => ∃ vv_ LL_, o = .returned vv_ ∧ Q1 Z x y w h0 n0 vv_ U'.heap LL_ ∧ FrameEnd U o U' LL_ ({ frames := 0, cells := 0, slots := 0, locals := 0 } : Room).cells ({ frames := 0, cells := 0, slots := 0, locals := 0 } : Room).slots) := by
  refine MetFree.of_bodySF (plainFor_of_name pn_0) hisR ?_
  intro p e s m args below meth c s₁ Bd hml0 hP hK
  obtain ⟨rfl, hZ, hh⟩ := hP
  have hx := Bd.exec
  have hby := Bd.bytes
  have hml : c.maxLocals = 4 := hml0
  have hown : s.vm.findClass "com/example/attestry/attestry/DerReaderHasNextPinLaw" = some m.cls := findClass_of_methodNamed Bd.named
  have hnm := (name_of_methodNamed Bd.named Bd.method).1
  have X0 : Stand p l e ({ frames := 0, cells := 0, slots := 0, locals := 0 } : Room) s m #[(.int x), (.int y), (.int w)] below meth c s₁ [] 0 0 := Stand.of_body Bd
  have e0 : s₁.heap = h0 := by rw [← hh, Bd.state]; rfl
  have N0 := Fr.nil n0
  have K0 : Keep h0 h0 [] := Keep.refl h0 _
  refine Go.enter (P := fun o U' => ∃ vv_ LL_, o = .returned vv_ ∧ Q1 Z x y w h0 n0 vv_ U'.heap LL_ ∧ FrameEnd s o U' LL_ ({ frames := 0, cells := 0, slots := 0, locals := 0 } : Room).cells ({ frames := 0, cells := 0, slots := 0, locals := 0 } : Room).slots) (ef_1 m x y w) ?_
  show Go p e below s₁ (mkF m 0 #[.val (.int x), .val (.int y), .val (.int w), .unset] []) _
  refine Go.of (fun tg_ kk_ => XS.iloadN X0.here hx rfl (hb hby d1_0) rfl kk_) ?_
  show Go p e below s₁ (mkF m 1 #[.val (.int x), .val (.int y), .val (.int w), .unset] [(.int x)]) _
  refine Go.of (fun tg_ kk_ => XS.iconst X0.here hx rfl (hb hby d1_1) kk_) ?_
  show Go p e below s₁ (mkF m 2 #[.val (.int x), .val (.int y), .val (.int w), .unset] [(.int (2 : Int32)), (.int x)]) _
  refine Go.of (fun tg_ kk_ => XS.isub X0.here hx rfl (hb hby d1_2) rfl kk_) ?_
  show Go p e below s₁ (mkF m 3 #[.val (.int x), .val (.int y), .val (.int w), .unset] [(.int (x - (2 : Int32)))]) _
  refine Go.of (fun tg_ kk_ => XS.istoreN X0.here hx rfl (hb hby d1_3) rfl (l' := #[.val (.int x), .val (.int y), .val (.int w), .val (.int (x - (2 : Int32)))]) rfl kk_) ?_
  show Go p e below s₁ (mkF m 4 #[.val (.int x), .val (.int y), .val (.int w), .val (.int (x - (2 : Int32)))] []) _
  refine Go.of (fun tg_ kk_ => XS.iloadN X0.here hx rfl (hb hby d1_4) rfl kk_) ?_
  show Go p e below s₁ (mkF m 5 #[.val (.int x), .val (.int y), .val (.int w), .val (.int (x - (2 : Int32)))] [(.int (x - (2 : Int32)))]) _
  refine Go.of (fun tg_ kk_ => XS.iconst X0.here hx rfl (hb hby d1_5) kk_) ?_
  show Go p e below s₁ (mkF m 6 #[.val (.int x), .val (.int y), .val (.int w), .val (.int (x - (2 : Int32)))] [(.int (2 : Int32)), (.int (x - (2 : Int32)))]) _
  refine Go.of (fun tg_ kk_ => XS.iloadN X0.here hx rfl (hb hby d1_6) rfl kk_) ?_
  show Go p e below s₁ (mkF m 7 #[.val (.int x), .val (.int y), .val (.int w), .val (.int (x - (2 : Int32)))] [(.int y), (.int (2 : Int32)), (.int (x - (2 : Int32)))]) _
  refine Go.of (fun tg_ kk_ => XS.imul X0.here hx rfl (hb hby d1_7) rfl kk_) ?_
  show Go p e below s₁ (mkF m 8 #[.val (.int x), .val (.int y), .val (.int w), .val (.int (x - (2 : Int32)))] [(.int ((2 : Int32) * y)), (.int (x - (2 : Int32)))]) _
  by_cases hc1 : (x - (2 : Int32)) < ((2 : Int32) * y)
  · skip
    refine Go.of (fun tg_ kk_ => XS.icmpNo X0.here hx rfl (hb hby d1_8) rfl (tlt hc1).2.1 kk_) ?_
    show Go p e below s₁ (mkF m 11 #[.val (.int x), .val (.int y), .val (.int w), .val (.int (x - (2 : Int32)))] []) _
    refine Go.of (fun tg_ kk_ => XS.iloadN X0.here hx rfl (hb hby d1_11) rfl kk_) ?_
    show Go p e below s₁ (mkF m 12 #[.val (.int x), .val (.int y), .val (.int w), .val (.int (x - (2 : Int32)))] [(.int (x - (2 : Int32)))]) _
    refine Go.of (fun tg_ kk_ => XS.iconst X0.here hx rfl (hb hby d1_12) kk_) ?_
    show Go p e below s₁ (mkF m 13 #[.val (.int x), .val (.int y), .val (.int w), .val (.int (x - (2 : Int32)))] [(.int (1 : Int32)), (.int (x - (2 : Int32)))]) _
    refine Go.of (fun tg_ kk_ => XS.iand X0.here hx rfl (hb hby d1_13) rfl kk_) ?_
    show Go p e below s₁ (mkF m 14 #[.val (.int x), .val (.int y), .val (.int w), .val (.int (x - (2 : Int32)))] [(.int ((x - (2 : Int32)) &&& (1 : Int32)))]) _
    by_cases hc2 : ((x - (2 : Int32)) &&& (1 : Int32)) = (0 : Int32)
    · skip
      refine Go.of (fun tg_ kk_ => XS.ifNo X0.here hx rfl (hb hby d1_14) rfl ((if0 _ _).trans (teq hc2).2) kk_) ?_
      show Go p e below s₁ (mkF m 17 #[.val (.int x), .val (.int y), .val (.int w), .val (.int (x - (2 : Int32)))] []) _
      refine Go.of (fun tg_ kk_ => XS.iconst X0.here hx rfl (hb hby d1_17) kk_) ?_
      show Go p e below s₁ (mkF m 18 #[.val (.int x), .val (.int y), .val (.int w), .val (.int (x - (2 : Int32)))] [(.int (5 : Int32))]) _
      refine Go.of (fun tg_ kk_ => XS.goto X0.here hx rfl (pc0 := 18) (pc' := 22) rfl (hb hby d1_18) (by decide) (by decide) kk_) ?_
      show Go p e below s₁ (mkF m 22 #[.val (.int x), .val (.int y), .val (.int w), .val (.int (x - (2 : Int32)))] [(.int (5 : Int32))]) _
      refine Go.of (fun tg_ kk_ => XS.i2b X0.here hx rfl (hb hby d1_22) rfl kk_) ?_
      show Go p e below s₁ (mkF m 23 #[.val (.int x), .val (.int y), .val (.int w), .val (.int (x - (2 : Int32)))] [(.int ((5 : Int32).toInt8.toInt32))]) _
      obtain ⟨fs, hr, hrun, hended, hW, hsame⟩ := X0.leave (v := some (.int (nar .byte ((5 : Int32).toInt8.toInt32)))) (fun h => by rw [Bd.returns] at h; cases h)
      refine ⟨_, _, ?_, hrun, hended, _, _, rfl, ?_, ⟨_, rfl⟩, hW, hsame.mono (by decide) (by decide)⟩
      · exact retN X0 hx (t := .byte) Bd.returns (by simp) (hb hby d1_23) hr
      · show Q1 Z x y w h0 n0 _ s₁.heap _
        rw [e0]
        exact ⟨by simp [slotF, hc1, hc2] <;> rfl, N0, rfl⟩
    · skip
      refine Go.of (fun tg_ kk_ => XS.ifYes X0.here hx rfl (pc0 := 14) (pc' := 21) rfl (hb hby d1_14) rfl ((if0 _ _).trans (feq hc2).2) (by decide) (by decide) kk_) ?_
      show Go p e below s₁ (mkF m 21 #[.val (.int x), .val (.int y), .val (.int w), .val (.int (x - (2 : Int32)))] []) _
      refine Go.of (fun tg_ kk_ => XS.iconst X0.here hx rfl (hb hby d1_21) kk_) ?_
      show Go p e below s₁ (mkF m 22 #[.val (.int x), .val (.int y), .val (.int w), .val (.int (x - (2 : Int32)))] [(.int (0 : Int32))]) _
      refine Go.of (fun tg_ kk_ => XS.i2b X0.here hx rfl (hb hby d1_22) rfl kk_) ?_
      show Go p e below s₁ (mkF m 23 #[.val (.int x), .val (.int y), .val (.int w), .val (.int (x - (2 : Int32)))] [(.int ((0 : Int32).toInt8.toInt32))]) _
      obtain ⟨fs, hr, hrun, hended, hW, hsame⟩ := X0.leave (v := some (.int (nar .byte ((0 : Int32).toInt8.toInt32)))) (fun h => by rw [Bd.returns] at h; cases h)
      refine ⟨_, _, ?_, hrun, hended, _, _, rfl, ?_, ⟨_, rfl⟩, hW, hsame.mono (by decide) (by decide)⟩
      · exact retN X0 hx (t := .byte) Bd.returns (by simp) (hb hby d1_23) hr
      · show Q1 Z x y w h0 n0 _ s₁.heap _
        rw [e0]
        exact ⟨by simp [slotF, hc1, hc2] <;> rfl, N0, rfl⟩
  · skip
    refine Go.of (fun tg_ kk_ => XS.icmpYes X0.here hx rfl (pc0 := 8) (pc' := 24) rfl (hb hby d1_8) rfl (flt hc1).2.1 (by decide) (by decide) kk_) ?_
    show Go p e below s₁ (mkF m 24 #[.val (.int x), .val (.int y), .val (.int w), .val (.int (x - (2 : Int32)))] []) _
    refine Go.of (fun tg_ kk_ => XS.iloadN X0.here hx rfl (hb hby d1_24) rfl kk_) ?_
    show Go p e below s₁ (mkF m 25 #[.val (.int x), .val (.int y), .val (.int w), .val (.int (x - (2 : Int32)))] [(.int w)]) _
    refine Go.of (fun tg_ kk_ => XS.iloadN X0.here hx rfl (hb hby d1_25) rfl kk_) ?_
    show Go p e below s₁ (mkF m 26 #[.val (.int x), .val (.int y), .val (.int w), .val (.int (x - (2 : Int32)))] [(.int x), (.int w)]) _
    refine Go.of (fun tg_ kk_ => XS.iconst X0.here hx rfl (hb hby d1_26) kk_) ?_
    show Go p e below s₁ (mkF m 27 #[.val (.int x), .val (.int y), .val (.int w), .val (.int (x - (2 : Int32)))] [(.int (3 : Int32)), (.int x), (.int w)]) _
    refine Go.of (fun tg_ kk_ => XS.iand X0.here hx rfl (hb hby d1_27) rfl kk_) ?_
    show Go p e below s₁ (mkF m 28 #[.val (.int x), .val (.int y), .val (.int w), .val (.int (x - (2 : Int32)))] [(.int (x &&& (3 : Int32))), (.int w)]) _
    refine Go.of (fun tg_ kk_ => XS.bipush X0.here hx rfl (hb hby d1_28) kk_) ?_
    show Go p e below s₁ (mkF m 30 #[.val (.int x), .val (.int y), .val (.int w), .val (.int (x - (2 : Int32)))] [(.int (8 : Int32)), (.int (x &&& (3 : Int32))), (.int w)]) _
    refine Go.of (fun tg_ kk_ => XS.imul X0.here hx rfl (hb hby d1_30) rfl kk_) ?_
    show Go p e below s₁ (mkF m 31 #[.val (.int x), .val (.int y), .val (.int w), .val (.int (x - (2 : Int32)))] [(.int ((x &&& (3 : Int32)) * (8 : Int32))), (.int w)]) _
    refine Go.of (fun tg_ kk_ => XS.iushr X0.here hx rfl (hb hby d1_31) rfl kk_) ?_
    show Go p e below s₁ (mkF m 32 #[.val (.int x), .val (.int y), .val (.int w), .val (.int (x - (2 : Int32)))] [(.int ((w.toUInt32 >>> (((x &&& (3 : Int32)) * (8 : Int32)) &&& 31).toUInt32).toInt32))]) _
    refine Go.of (fun tg_ kk_ => XS.i2b X0.here hx rfl (hb hby d1_32) rfl kk_) ?_
    show Go p e below s₁ (mkF m 33 #[.val (.int x), .val (.int y), .val (.int w), .val (.int (x - (2 : Int32)))] [(.int (((w.toUInt32 >>> (((x &&& (3 : Int32)) * (8 : Int32)) &&& 31).toUInt32).toInt32).toInt8.toInt32))]) _
    obtain ⟨fs, hr, hrun, hended, hW, hsame⟩ := X0.leave (v := some (.int (nar .byte (((w.toUInt32 >>> (((x &&& (3 : Int32)) * (8 : Int32)) &&& 31).toUInt32).toInt32).toInt8.toInt32)))) (fun h => by rw [Bd.returns] at h; cases h)
    refine ⟨_, _, ?_, hrun, hended, _, _, rfl, ?_, ⟨_, rfl⟩, hW, hsame.mono (by decide) (by decide)⟩
    · exact retN X0 hx (t := .byte) Bd.returns (by simp) (hb hby d1_33) hr
    · show Q1 Z x y w h0 n0 _ s₁.heap _
      rw [e0]
      exact ⟨by simp [slotF, hc1] <;> rfl, N0, rfl⟩
theorem d4_0 : decode prog_4_method_1_code 0 = .ok (.aload_n 0, 1) := by decide +kernel
theorem d4_1 : decode prog_4_method_1_code 1 = .ok (.invokespecial 1, 3) := by decide +kernel
theorem d4_4 : decode prog_4_method_1_code 4 = .ok (.return_, 1) := by decide +kernel
theorem ef_4 (m : MethodId) (x0 : Addr) : entryFrame m #[(.ref x0)] 1 = mkF m 0 #[.val (.ref x0)] [] := by first | (simp [entryFrame, mkF, argsToLocals, Value.category]; done) | rfl
def Q4 (Z : State) (a : Addr) (h0 : Heap) (n0 : Nat) (v : Option Value) (h : Heap) (L : List Loc) : Prop := v = none ∧ Fr n0 L ∧ h = h0
set_option maxRecDepth 65536 in
set_option maxHeartbeats 40000000 in
theorem rm4 (l : Launch) (Z : State) (a0 : Array Value) (hw : ∀ d ∈ tables_1, d.before a0 Z = true) (ws : List Jvm.Cond) (a : Addr) (h0 : Heap) (n0 : Nat) (Z0 : n0 ≤ h0.size) :
    MetFree l (⟨"com/example/attestry/attestry/DerReader$BerNote", "<init>", "()V"⟩ : MethodName) (head1 (Jvm.Cond.code (⟨"com/example/attestry/attestry/DerReader$BerNote", "<init>", "()V"⟩ : MethodName) prog_4_method_1_code 1 none :: ws) ({ frames := 1, cells := 0, slots := 0, locals := 12 } : Room)) (fun aa_ U => aa_ = #[(.ref a)] ∧ Z.Warmed39 U.vm ∧ U.heap = h0) (fun _ _ _ _ _ => True) (fun _ U o U' => ∃ vv_ LL_, o = .returned vv_ ∧ Q4 Z a h0 n0 vv_ U'.heap LL_ ∧ FrameEnd U o U' LL_ ({ frames := 1, cells := 0, slots := 0, locals := 12 } : Room).cells ({ frames := 1, cells := 0, slots := 0, locals := 12 } : Room).slots) := by
  refine MetFree.of_bodySF (plainFor_of_name pn_1) hisR ?_
  intro p e s m args below meth c s₁ Bd hml0 hP hK
  obtain ⟨rfl, hZ, hh⟩ := hP
  have hx := Bd.exec
  have hby := Bd.bytes
  have hml : c.maxLocals = 1 := hml0
  have hown : s.vm.findClass "com/example/attestry/attestry/DerReader$BerNote" = some m.cls := findClass_of_methodNamed Bd.named
  have hnm := (name_of_methodNamed Bd.named Bd.method).1
  have X0 : Stand p l e ({ frames := 1, cells := 0, slots := 0, locals := 12 } : Room) s m #[(.ref a)] below meth c s₁ [] 0 0 := Stand.of_body Bd
  have e0 : s₁.heap = h0 := by rw [← hh, Bd.state]; rfl
  have N0 := Fr.nil n0
  have K0 : Keep h0 h0 [] := Keep.refl h0 _
  refine Go.enter (P := fun o U' => ∃ vv_ LL_, o = .returned vv_ ∧ Q4 Z a h0 n0 vv_ U'.heap LL_ ∧ FrameEnd s o U' LL_ ({ frames := 1, cells := 0, slots := 0, locals := 12 } : Room).cells ({ frames := 1, cells := 0, slots := 0, locals := 12 } : Room).slots) (ef_4 m a) ?_
  show Go p e below s₁ (mkF m 0 #[.val (.ref a)] []) _
  refine Go.of (fun tg_ kk_ => XS.aloadN X0.here hx rfl (hb hby d4_0) rfl rfl kk_) ?_
  show Go p e below s₁ (mkF m 1 #[.val (.ref a)] [(.ref a)]) _
  obtain ⟨T1, X1, e1, st1⟩ := initO X0 hx hZ hown (hw _ (List.mem_of_getElem? (i := 23) rfl)) (hw _ (List.mem_of_getElem? (i := 13) rfl)) (hw _ (List.mem_of_getElem? (i := 14) rfl)) e0 (g := (mkF m 1 #[.val (.ref a)] [(.ref a)])) rfl (by rw [hml]; rfl) rfl (hb hby d4_1) (by decide) (W := 0) (by show 2 * 0 + _ ≤ _; exact Nat.le_of_eq rfl) (by decide)
  refine Go.of (st1) ?_
  show Go p e below T1 (mkF m 4 #[.val (.ref a)] []) _
  obtain ⟨fs, hr, hrun, hended, hW, hsame⟩ := X1.leave (v := none) (fun _ => rfl)
  refine ⟨_, _, ?_, hrun, hended, _, _, rfl, ?_, ⟨_, rfl⟩, hW, hsame.mono (by decide) (by decide)⟩
  · exact X1.returnOut hx Bd.returns (hb hby d4_4) hr
  · show Q4 Z a h0 n0 _ T1.heap _
    rw [e1]
    exact ⟨rfl, N0, rfl⟩
theorem d2_0 : decode prog_3_method_1_code 0 = .ok (.aload_n 0, 1) := by decide +kernel
theorem d2_1 : decode prog_3_method_1_code 1 = .ok (.invokespecial 1, 3) := by decide +kernel
theorem d2_4 : decode prog_3_method_1_code 4 = .ok (.aload_n 0, 1) := by decide +kernel
theorem d2_5 : decode prog_3_method_1_code 5 = .ok (.aload_n 1, 1) := by decide +kernel
theorem d2_6 : decode prog_3_method_1_code 6 = .ok (.putfield 7, 3) := by decide +kernel
theorem d2_9 : decode prog_3_method_1_code 9 = .ok (.aload_n 0, 1) := by decide +kernel
theorem d2_10 : decode prog_3_method_1_code 10 = .ok (.new 13, 3) := by decide +kernel
theorem d2_13 : decode prog_3_method_1_code 13 = .ok (.dup, 1) := by decide +kernel
theorem d2_14 : decode prog_3_method_1_code 14 = .ok (.invokespecial 15, 3) := by decide +kernel
theorem d2_17 : decode prog_3_method_1_code 17 = .ok (.putfield 16, 3) := by decide +kernel
theorem d2_20 : decode prog_3_method_1_code 20 = .ok (.aload_n 0, 1) := by decide +kernel
theorem d2_21 : decode prog_3_method_1_code 21 = .ok (.iconst 0, 1) := by decide +kernel
theorem d2_22 : decode prog_3_method_1_code 22 = .ok (.putfield 20, 3) := by decide +kernel
theorem d2_25 : decode prog_3_method_1_code 25 = .ok (.aload_n 0, 1) := by decide +kernel
theorem d2_26 : decode prog_3_method_1_code 26 = .ok (.iconst 0, 1) := by decide +kernel
theorem d2_27 : decode prog_3_method_1_code 27 = .ok (.putfield 24, 3) := by decide +kernel
theorem d2_30 : decode prog_3_method_1_code 30 = .ok (.aload_n 0, 1) := by decide +kernel
theorem d2_31 : decode prog_3_method_1_code 31 = .ok (.aload_n 1, 1) := by decide +kernel
theorem d2_32 : decode prog_3_method_1_code 32 = .ok (.arraylength, 1) := by decide +kernel
theorem d2_33 : decode prog_3_method_1_code 33 = .ok (.putfield 27, 3) := by decide +kernel
theorem d2_36 : decode prog_3_method_1_code 36 = .ok (.aload_n 0, 1) := by decide +kernel
theorem d2_37 : decode prog_3_method_1_code 37 = .ok (.iconst 1, 1) := by decide +kernel
theorem d2_38 : decode prog_3_method_1_code 38 = .ok (.putfield 30, 3) := by decide +kernel
theorem d2_41 : decode prog_3_method_1_code 41 = .ok (.return_, 1) := by decide +kernel
theorem ef_2_0 (m : MethodId) (x0 : Addr) (x1 : Addr) : entryFrame m #[(.ref x0), (.ref x1)] 2 = mkF m 0 #[.val (.ref x0), .val (.ref x1)] [] := by first | (simp [entryFrame, mkF, argsToLocals, Value.category]; done) | rfl
def Q2_0 (Z : State) (a : Addr) (b : Addr) (f : Nat → Int32) (h0 : Heap) (n0 : Nat) (v : Option Value) (h : Heap) (L : List Loc) : Prop := ∃ q : Addr, v = none ∧ Fr n0 L ∧ Keep h0 h [a] ∧ Fld Z h a "com/example/attestry/attestry/DerReader" "bytes" "[B" (.ref b) ∧ Fld Z h a "com/example/attestry/attestry/DerReader" "berNote" "Lcom/example/attestry/attestry/DerReader$BerNote;" (.ref q) ∧ Fld Z h a "com/example/attestry/attestry/DerReader" "start" "I" (.int (0 : Int32)) ∧ Fld Z h a "com/example/attestry/attestry/DerReader" "position" "I" (.int (0 : Int32)) ∧ Fld Z h a "com/example/attestry/attestry/DerReader" "end" "I" (.int (0 : Int32)) ∧ Fld Z h a "com/example/attestry/attestry/DerReader" "depth" "I" (.int (1 : Int32))
set_option maxRecDepth 65536 in
set_option maxHeartbeats 40000000 in
theorem rm2_0 (l : Launch) (Z : State) (a0 : Array Value) (hw : ∀ d ∈ tables_1, d.before a0 Z = true) (ws : List Jvm.Cond) (a : Addr) (b : Addr) (f : Nat → Int32) (h0 : Heap) (n0 : Nat) (Z0 : n0 ≤ h0.size) (g_a : n0 ≤ a) (E_a : Exa Z h0 a "com/example/attestry/attestry/DerReader") (Fbytes : Fld Z h0 a "com/example/attestry/attestry/DerReader" "bytes" "[B" .null) (FberNote : Fld Z h0 a "com/example/attestry/attestry/DerReader" "berNote" "Lcom/example/attestry/attestry/DerReader$BerNote;" .null) (Fstart : Fld Z h0 a "com/example/attestry/attestry/DerReader" "start" "I" (.int (0 : Int32))) (Fposition : Fld Z h0 a "com/example/attestry/attestry/DerReader" "position" "I" (.int (0 : Int32))) (Fend : Fld Z h0 a "com/example/attestry/attestry/DerReader" "end" "I" (.int (0 : Int32))) (Fdepth : Fld Z h0 a "com/example/attestry/attestry/DerReader" "depth" "I" (.int (0 : Int32))) (Ab : Af Z h0 b .byte 0 f) (hab : a ≠ b) :
    MetFree l (⟨"com/example/attestry/attestry/DerReader", "<init>", "([B)V"⟩ : MethodName) (head1 (Jvm.Cond.code (⟨"com/example/attestry/attestry/DerReader", "<init>", "([B)V"⟩ : MethodName) prog_3_method_1_code 2 none :: ws) ({ frames := 2, cells := 1, slots := 1, locals := 26 } : Room)) (fun aa_ U => aa_ = #[(.ref a), (.ref b)] ∧ Z.Warmed39 U.vm ∧ U.heap = h0) (fun _ _ _ _ _ => True) (fun _ U o U' => ∃ vv_ LL_, o = .returned vv_ ∧ Q2_0 Z a b f h0 n0 vv_ U'.heap LL_ ∧ FrameEnd U o U' LL_ ({ frames := 2, cells := 1, slots := 1, locals := 26 } : Room).cells ({ frames := 2, cells := 1, slots := 1, locals := 26 } : Room).slots) := by
  refine MetFree.of_bodySF (plainFor_of_name pn_2) hisR ?_
  intro p e s m args below meth c s₁ Bd hml0 hP hK
  obtain ⟨rfl, hZ, hh⟩ := hP
  have hx := Bd.exec
  have hby := Bd.bytes
  have hml : c.maxLocals = 2 := hml0
  have hown : s.vm.findClass "com/example/attestry/attestry/DerReader" = some m.cls := findClass_of_methodNamed Bd.named
  have hnm := (name_of_methodNamed Bd.named Bd.method).1
  have X0 : Stand p l e ({ frames := 2, cells := 1, slots := 1, locals := 26 } : Room) s m #[(.ref a), (.ref b)] below meth c s₁ [] 0 0 := Stand.of_body Bd
  have e0 : s₁.heap = h0 := by rw [← hh, Bd.state]; rfl
  have N0 := Fr.nil n0
  have K0 : Keep h0 h0 [a] := Keep.refl h0 _
  refine Go.enter (P := fun o U' => ∃ vv_ LL_, o = .returned vv_ ∧ Q2_0 Z a b f h0 n0 vv_ U'.heap LL_ ∧ FrameEnd s o U' LL_ ({ frames := 2, cells := 1, slots := 1, locals := 26 } : Room).cells ({ frames := 2, cells := 1, slots := 1, locals := 26 } : Room).slots) (ef_2_0 m a b) ?_
  show Go p e below s₁ (mkF m 0 #[.val (.ref a), .val (.ref b)] []) _
  refine Go.of (fun tg_ kk_ => XS.aloadN X0.here hx rfl (hb hby d2_0) rfl rfl kk_) ?_
  show Go p e below s₁ (mkF m 1 #[.val (.ref a), .val (.ref b)] [(.ref a)]) _
  obtain ⟨T1, X1, e1, st1⟩ := initO X0 hx hZ hown (hw _ (List.mem_of_getElem? (i := 12) rfl)) (hw _ (List.mem_of_getElem? (i := 13) rfl)) (hw _ (List.mem_of_getElem? (i := 14) rfl)) e0 (g := (mkF m 1 #[.val (.ref a), .val (.ref b)] [(.ref a)])) rfl (by rw [hml]; rfl) rfl (hb hby d2_1) (by decide) (W := 0) (by show 2 * 0 + _ ≤ _; exact Nat.le_of_eq rfl) (by decide)
  refine Go.of (st1) ?_
  show Go p e below T1 (mkF m 4 #[.val (.ref a), .val (.ref b)] []) _
  refine Go.of (fun tg_ kk_ => XS.aloadN X1.here hx rfl (hb hby d2_4) rfl rfl kk_) ?_
  show Go p e below T1 (mkF m 5 #[.val (.ref a), .val (.ref b)] [(.ref a)]) _
  refine Go.of (fun tg_ kk_ => XS.aloadN X1.here hx rfl (hb hby d2_5) rfl rfl kk_) ?_
  show Go p e below T1 (mkF m 6 #[.val (.ref a), .val (.ref b)] [(.ref b), (.ref a)]) _
  obtain ⟨T2, h2, X2, e2, W2, st2⟩ := putF X1 hx hZ hown (host := "") (Or.inl (hw _ (List.mem_of_getElem? (i := 15) rfl))) Via.refl e1 Fbytes E_a (Or.inr ⟨(hw _ (List.mem_of_getElem? (i := 16) rfl)), rfl, hnm⟩) (hw _ (List.mem_of_getElem? (i := 7) rfl)) (ty := (.array .byte)) (by decide) rfl rfl (g := (mkF m 6 #[.val (.ref a), .val (.ref b)] [(.ref b), (.ref a)])) rfl rfl (hb hby d2_6)
  have Fw2 := Fbytes.same W2
  have F3 := E_a.wr W2
  have F4 := Ab.other W2 (Ne.symm hab)
  have F6 := FberNote.other W2 (Or.inr (slot_ne (Or.inr (hw _ (List.mem_of_getElem? (i := 25) rfl))) (Or.inr (hw _ (List.mem_of_getElem? (i := 16) rfl))) (by decide) (t := (.object "com/example/attestry/attestry/DerReader$BerNote")) (t' := (.array .byte)) (by decide) (by decide)))
  have F7 := Fstart.other W2 (Or.inr (slot_ne (Or.inr (hw _ (List.mem_of_getElem? (i := 27) rfl))) (Or.inr (hw _ (List.mem_of_getElem? (i := 16) rfl))) (by decide) (t := .int) (t' := (.array .byte)) (by decide) (by decide)))
  have F8 := Fposition.other W2 (Or.inr (slot_ne (Or.inl (hw _ (List.mem_of_getElem? (i := 29) rfl))) (Or.inr (hw _ (List.mem_of_getElem? (i := 16) rfl))) (by decide) (t := .int) (t' := (.array .byte)) (by decide) (by decide)))
  have F9 := Fend.other W2 (Or.inr (slot_ne (Or.inr (hw _ (List.mem_of_getElem? (i := 31) rfl))) (Or.inr (hw _ (List.mem_of_getElem? (i := 16) rfl))) (by decide) (t := .int) (t' := (.array .byte)) (by decide) (by decide)))
  have F10 := Fdepth.other W2 (Or.inr (slot_ne (Or.inr (hw _ (List.mem_of_getElem? (i := 33) rfl))) (Or.inr (hw _ (List.mem_of_getElem? (i := 16) rfl))) (by decide) (t := .int) (t' := (.array .byte)) (by decide) (by decide)))
  have K11 := K0.wr W2 (Or.inl (List.mem_of_getElem? (i := 0) rfl))
  have Zs12 : n0 ≤ h2.size := Nat.le_trans Z0 (Keep.of_wr W2).1
  have N2 := Fr.snoc X2 N0 g_a
  refine Go.of (st2) ?_
  show Go p e below T2 (mkF m 9 #[.val (.ref a), .val (.ref b)] []) _
  refine Go.of (fun tg_ kk_ => XS.aloadN X2.here hx rfl (hb hby d2_9) rfl rfl kk_) ?_
  show Go p e below T2 (mkF m 10 #[.val (.ref a), .val (.ref b)] [(.ref a)]) _
  obtain ⟨T13, h13, X13, e13, E13, A13, D13, -, st13⟩ := newO X2 hx hZ hown (hw _ (List.mem_of_getElem? (i := 17) rfl)) (hw _ (List.mem_of_getElem? (i := 18) rfl)) (hw _ (List.mem_of_getElem? (i := 19) rfl)) e2 (g := (mkF m 10 #[.val (.ref a), .val (.ref b)] [(.ref a)])) rfl (hb hby d2_10) (by decide) (by decide)
  obtain ⟨b13, g13⟩ : ∃ zz_, zz_ = h2.size := ⟨_, rfl⟩
  rw [← g13] at A13 D13 st13
  have gx13 : n0 ≤ b13 := Nat.le_trans Zs12 (Nat.le_of_eq g13.symm)
  have sz13 : h0.size ≤ b13 := Nat.le_trans K11.1 (Nat.le_of_eq g13.symm)
  have ne14 : a ≠ b13 := Nat.ne_of_lt (Nat.lt_of_lt_of_le F3.lt (Nat.le_of_eq g13.symm))
  have ne15 : b ≠ b13 := Nat.ne_of_lt (Nat.lt_of_lt_of_le F4.lt (Nat.le_of_eq g13.symm))
  have F16 := F3.ext E13
  have F17 := F4.ext E13
  have F18 := F6.ext E13
  have F19 := F7.ext E13
  have F20 := F8.ext E13
  have F21 := F9.ext E13
  have F22 := F10.ext E13
  have F23 := Fw2.ext E13
  have K24 := K11.ext E13
  have Zs25 : n0 ≤ h13.size := Nat.le_trans Zs12 E13.1
  refine Go.of (st13) ?_
  show Go p e below T13 (mkF m 13 #[.val (.ref a), .val (.ref b)] [(.ref b13), (.ref a)]) _
  refine Go.of (fun tg_ kk_ => XS.dup X13.here hx rfl (hb hby d2_13) rfl rfl kk_) ?_
  show Go p e below T13 (mkF m 14 #[.val (.ref a), .val (.ref b)] [(.ref b13), (.ref b13), (.ref a)]) _
  obtain ⟨_, ⟨T26, L26, k26, n26⟩, X26, ⟨Lc26, hQ26, l26, y26, z26⟩, st26⟩ := own_refBack X13 hx (y := (⟨"com/example/attestry/attestry/DerReader$BerNote", "<init>", "()V"⟩ : MethodName)) rfl hown (own_refAt (wtrans hZ X13.warmed) (hw _ (List.mem_of_getElem? (i := 21) rfl)) (by decide) (hw _ (List.mem_of_getElem? (i := 20) rfl))) (mvT hZ (hw _ (List.mem_of_getElem? (i := 21) rfl))) (mvT hZ (hw _ (List.mem_of_getElem? (i := 22) rfl))) (by decide) (backOf (W := 2) (rm4 l Z a0 hw [] b13 h13 n0 Zs25) hZ (hw _ (List.mem_of_getElem? (i := 22) rfl)) (hw _ (List.mem_of_getElem? (i := 19) rfl)) (by decide) (by decide)) (g := (mkF m 14 #[.val (.ref a), .val (.ref b)] [(.ref b13), (.ref b13), (.ref a)])) rfl (by rw [hml]; rfl) (a := b13) (argsL := []) (rest := [(.ref b13), (.ref a)]) (lenOf pd_0 rfl) rfl (by show 2 * 0 + _ ≤ _; exact Nat.le_of_eq rfl) (hb hby d2_14) ⟨rfl, e13, (by decide : 1 + 0 ≤ _), (by decide : 1 + 0 ≤ _)⟩
  dsimp only [Pt.U, Pt.locs, Pt.cells, Pt.slots] at X26 l26 y26 z26 st26 hQ26
  have X26 := own_stand X26 l26 y26 z26
  obtain ⟨rfl, N26q, e26⟩ := hQ26
  have N26 := Fr.app N2 N26q
  refine Go.of (fun tg_ kk_ => st26.trans kk_) ?_
  show Go p e below T26 (mkF m 17 #[.val (.ref a), .val (.ref b)] [(.ref b13), (.ref a)]) _
  obtain ⟨T27, h27, X27, e27, W27, st27⟩ := putF X26 hx hZ hown (host := "") (Or.inl (hw _ (List.mem_of_getElem? (i := 24) rfl))) Via.refl e26 F18 F16 (Or.inr ⟨(hw _ (List.mem_of_getElem? (i := 25) rfl)), rfl, hnm⟩) (hw _ (List.mem_of_getElem? (i := 7) rfl)) (ty := (.object "com/example/attestry/attestry/DerReader$BerNote")) (by decide) rfl rfl (g := (mkF m 17 #[.val (.ref a), .val (.ref b)] [(.ref b13), (.ref a)])) rfl rfl (hb hby d2_17)
  have Fw27 := F18.same W27
  have F28 := F16.wr W27
  have F29 := F17.other W27 (Ne.symm hab)
  have F31 := F19.other W27 (Or.inr (slot_ne (Or.inr (hw _ (List.mem_of_getElem? (i := 27) rfl))) (Or.inr (hw _ (List.mem_of_getElem? (i := 25) rfl))) (by decide) (t := .int) (t' := (.object "com/example/attestry/attestry/DerReader$BerNote")) (by decide) (by decide)))
  have F32 := F20.other W27 (Or.inr (slot_ne (Or.inl (hw _ (List.mem_of_getElem? (i := 29) rfl))) (Or.inr (hw _ (List.mem_of_getElem? (i := 25) rfl))) (by decide) (t := .int) (t' := (.object "com/example/attestry/attestry/DerReader$BerNote")) (by decide) (by decide)))
  have F33 := F21.other W27 (Or.inr (slot_ne (Or.inr (hw _ (List.mem_of_getElem? (i := 31) rfl))) (Or.inr (hw _ (List.mem_of_getElem? (i := 25) rfl))) (by decide) (t := .int) (t' := (.object "com/example/attestry/attestry/DerReader$BerNote")) (by decide) (by decide)))
  have F34 := F22.other W27 (Or.inr (slot_ne (Or.inr (hw _ (List.mem_of_getElem? (i := 33) rfl))) (Or.inr (hw _ (List.mem_of_getElem? (i := 25) rfl))) (by decide) (t := .int) (t' := (.object "com/example/attestry/attestry/DerReader$BerNote")) (by decide) (by decide)))
  have F35 := F23.other W27 (Or.inr (slot_ne (Or.inr (hw _ (List.mem_of_getElem? (i := 16) rfl))) (Or.inr (hw _ (List.mem_of_getElem? (i := 25) rfl))) (by decide) (t := (.array .byte)) (t' := (.object "com/example/attestry/attestry/DerReader$BerNote")) (by decide) (by decide)))
  have F36 := A13.wr W27
  have K37 := K24.wr W27 (Or.inl (List.mem_of_getElem? (i := 0) rfl))
  have Zs38 : n0 ≤ h27.size := Nat.le_trans Zs25 (Keep.of_wr W27).1
  have N27 := Fr.snoc X27 N26 g_a
  refine Go.of (st27) ?_
  show Go p e below T27 (mkF m 20 #[.val (.ref a), .val (.ref b)] []) _
  refine Go.of (fun tg_ kk_ => XS.aloadN X27.here hx rfl (hb hby d2_20) rfl rfl kk_) ?_
  show Go p e below T27 (mkF m 21 #[.val (.ref a), .val (.ref b)] [(.ref a)]) _
  refine Go.of (fun tg_ kk_ => XS.iconst X27.here hx rfl (hb hby d2_21) kk_) ?_
  show Go p e below T27 (mkF m 22 #[.val (.ref a), .val (.ref b)] [(.int (0 : Int32)), (.ref a)]) _
  obtain ⟨T39, h39, X39, e39, W39, st39⟩ := putF X27 hx hZ hown (host := "") (Or.inl (hw _ (List.mem_of_getElem? (i := 26) rfl))) Via.refl e27 F31 F28 (Or.inr ⟨(hw _ (List.mem_of_getElem? (i := 27) rfl)), rfl, hnm⟩) (hw _ (List.mem_of_getElem? (i := 7) rfl)) (ty := .int) (by decide) rfl rfl (g := (mkF m 22 #[.val (.ref a), .val (.ref b)] [(.int (0 : Int32)), (.ref a)])) rfl rfl (hb hby d2_22)
  have Fw39 := F31.same W39
  have F40 := F28.wr W39
  have F41 := F29.other W39 (Ne.symm hab)
  have F43 := F32.other W39 (Or.inr (slot_ne (Or.inl (hw _ (List.mem_of_getElem? (i := 29) rfl))) (Or.inr (hw _ (List.mem_of_getElem? (i := 27) rfl))) (by decide) (t := .int) (t' := .int) (by decide) (by decide)))
  have F44 := F33.other W39 (Or.inr (slot_ne (Or.inr (hw _ (List.mem_of_getElem? (i := 31) rfl))) (Or.inr (hw _ (List.mem_of_getElem? (i := 27) rfl))) (by decide) (t := .int) (t' := .int) (by decide) (by decide)))
  have F45 := F34.other W39 (Or.inr (slot_ne (Or.inr (hw _ (List.mem_of_getElem? (i := 33) rfl))) (Or.inr (hw _ (List.mem_of_getElem? (i := 27) rfl))) (by decide) (t := .int) (t' := .int) (by decide) (by decide)))
  have F46 := F35.other W39 (Or.inr (slot_ne (Or.inr (hw _ (List.mem_of_getElem? (i := 16) rfl))) (Or.inr (hw _ (List.mem_of_getElem? (i := 27) rfl))) (by decide) (t := (.array .byte)) (t' := .int) (by decide) (by decide)))
  have F47 := F36.wr W39
  have F48 := Fw27.other W39 (Or.inr (slot_ne (Or.inr (hw _ (List.mem_of_getElem? (i := 25) rfl))) (Or.inr (hw _ (List.mem_of_getElem? (i := 27) rfl))) (by decide) (t := (.object "com/example/attestry/attestry/DerReader$BerNote")) (t' := .int) (by decide) (by decide)))
  have K49 := K37.wr W39 (Or.inl (List.mem_of_getElem? (i := 0) rfl))
  have Zs50 : n0 ≤ h39.size := Nat.le_trans Zs38 (Keep.of_wr W39).1
  have N39 := Fr.snoc X39 N27 g_a
  refine Go.of (st39) ?_
  show Go p e below T39 (mkF m 25 #[.val (.ref a), .val (.ref b)] []) _
  refine Go.of (fun tg_ kk_ => XS.aloadN X39.here hx rfl (hb hby d2_25) rfl rfl kk_) ?_
  show Go p e below T39 (mkF m 26 #[.val (.ref a), .val (.ref b)] [(.ref a)]) _
  refine Go.of (fun tg_ kk_ => XS.iconst X39.here hx rfl (hb hby d2_26) kk_) ?_
  show Go p e below T39 (mkF m 27 #[.val (.ref a), .val (.ref b)] [(.int (0 : Int32)), (.ref a)]) _
  obtain ⟨T51, h51, X51, e51, W51, st51⟩ := putF X39 hx hZ hown (host := "") (Or.inl (hw _ (List.mem_of_getElem? (i := 28) rfl))) Via.refl e39 F43 F40 (Or.inl (hw _ (List.mem_of_getElem? (i := 29) rfl))) (hw _ (List.mem_of_getElem? (i := 7) rfl)) (ty := .int) (by decide) rfl rfl (g := (mkF m 27 #[.val (.ref a), .val (.ref b)] [(.int (0 : Int32)), (.ref a)])) rfl rfl (hb hby d2_27)
  have Fw51 := F43.same W51
  have F52 := F40.wr W51
  have F53 := F41.other W51 (Ne.symm hab)
  have F55 := F44.other W51 (Or.inr (slot_ne (Or.inr (hw _ (List.mem_of_getElem? (i := 31) rfl))) (Or.inl (hw _ (List.mem_of_getElem? (i := 29) rfl))) (by decide) (t := .int) (t' := .int) (by decide) (by decide)))
  have F56 := F45.other W51 (Or.inr (slot_ne (Or.inr (hw _ (List.mem_of_getElem? (i := 33) rfl))) (Or.inl (hw _ (List.mem_of_getElem? (i := 29) rfl))) (by decide) (t := .int) (t' := .int) (by decide) (by decide)))
  have F57 := F46.other W51 (Or.inr (slot_ne (Or.inr (hw _ (List.mem_of_getElem? (i := 16) rfl))) (Or.inl (hw _ (List.mem_of_getElem? (i := 29) rfl))) (by decide) (t := (.array .byte)) (t' := .int) (by decide) (by decide)))
  have F58 := F47.wr W51
  have F59 := F48.other W51 (Or.inr (slot_ne (Or.inr (hw _ (List.mem_of_getElem? (i := 25) rfl))) (Or.inl (hw _ (List.mem_of_getElem? (i := 29) rfl))) (by decide) (t := (.object "com/example/attestry/attestry/DerReader$BerNote")) (t' := .int) (by decide) (by decide)))
  have F60 := Fw39.other W51 (Or.inr (slot_ne (Or.inr (hw _ (List.mem_of_getElem? (i := 27) rfl))) (Or.inl (hw _ (List.mem_of_getElem? (i := 29) rfl))) (by decide) (t := .int) (t' := .int) (by decide) (by decide)))
  have K61 := K49.wr W51 (Or.inl (List.mem_of_getElem? (i := 0) rfl))
  have Zs62 : n0 ≤ h51.size := Nat.le_trans Zs50 (Keep.of_wr W51).1
  have N51 := Fr.snoc X51 N39 g_a
  refine Go.of (st51) ?_
  show Go p e below T51 (mkF m 30 #[.val (.ref a), .val (.ref b)] []) _
  refine Go.of (fun tg_ kk_ => XS.aloadN X51.here hx rfl (hb hby d2_30) rfl rfl kk_) ?_
  show Go p e below T51 (mkF m 31 #[.val (.ref a), .val (.ref b)] [(.ref a)]) _
  refine Go.of (fun tg_ kk_ => XS.aloadN X51.here hx rfl (hb hby d2_31) rfl rfl kk_) ?_
  show Go p e below T51 (mkF m 32 #[.val (.ref a), .val (.ref b)] [(.ref b), (.ref a)]) _
  obtain ⟨cl63, Ar63, S63, H63⟩ := id F53
  refine Go.of (fun tg_ kk_ => X51.arraylength hx (by rw [e51]; exact Ar63.1) (State.isArrayOf_alike hZ.alike Ar63.2.1) (g := (mkF m 32 #[.val (.ref a), .val (.ref b)] [(.ref b), (.ref a)])) rfl rfl (hb hby d2_32) _ (by rw [S63, show (0 : Nat).toInt32 = (0 : Int32) from (by decide)]; exact kk_)) ?_
  show Go p e below T51 (mkF m 33 #[.val (.ref a), .val (.ref b)] [(.int (0 : Int32)), (.ref a)]) _
  obtain ⟨T64, h64, X64, e64, W64, st64⟩ := putF X51 hx hZ hown (host := "") (Or.inl (hw _ (List.mem_of_getElem? (i := 30) rfl))) Via.refl e51 F55 F52 (Or.inr ⟨(hw _ (List.mem_of_getElem? (i := 31) rfl)), rfl, hnm⟩) (hw _ (List.mem_of_getElem? (i := 7) rfl)) (ty := .int) (by decide) rfl rfl (g := (mkF m 33 #[.val (.ref a), .val (.ref b)] [(.int (0 : Int32)), (.ref a)])) rfl rfl (hb hby d2_33)
  have Fw64 := F55.same W64
  have F65 := F52.wr W64
  have F66 := F53.other W64 (Ne.symm hab)
  have F68 := F56.other W64 (Or.inr (slot_ne (Or.inr (hw _ (List.mem_of_getElem? (i := 33) rfl))) (Or.inr (hw _ (List.mem_of_getElem? (i := 31) rfl))) (by decide) (t := .int) (t' := .int) (by decide) (by decide)))
  have F69 := F57.other W64 (Or.inr (slot_ne (Or.inr (hw _ (List.mem_of_getElem? (i := 16) rfl))) (Or.inr (hw _ (List.mem_of_getElem? (i := 31) rfl))) (by decide) (t := (.array .byte)) (t' := .int) (by decide) (by decide)))
  have F70 := F58.wr W64
  have F71 := F59.other W64 (Or.inr (slot_ne (Or.inr (hw _ (List.mem_of_getElem? (i := 25) rfl))) (Or.inr (hw _ (List.mem_of_getElem? (i := 31) rfl))) (by decide) (t := (.object "com/example/attestry/attestry/DerReader$BerNote")) (t' := .int) (by decide) (by decide)))
  have F72 := F60.other W64 (Or.inr (slot_ne (Or.inr (hw _ (List.mem_of_getElem? (i := 27) rfl))) (Or.inr (hw _ (List.mem_of_getElem? (i := 31) rfl))) (by decide) (t := .int) (t' := .int) (by decide) (by decide)))
  have F73 := Fw51.other W64 (Or.inr (slot_ne (Or.inl (hw _ (List.mem_of_getElem? (i := 29) rfl))) (Or.inr (hw _ (List.mem_of_getElem? (i := 31) rfl))) (by decide) (t := .int) (t' := .int) (by decide) (by decide)))
  have K74 := K61.wr W64 (Or.inl (List.mem_of_getElem? (i := 0) rfl))
  have Zs75 : n0 ≤ h64.size := Nat.le_trans Zs62 (Keep.of_wr W64).1
  have N64 := Fr.snoc X64 N51 g_a
  refine Go.of (st64) ?_
  show Go p e below T64 (mkF m 36 #[.val (.ref a), .val (.ref b)] []) _
  refine Go.of (fun tg_ kk_ => XS.aloadN X64.here hx rfl (hb hby d2_36) rfl rfl kk_) ?_
  show Go p e below T64 (mkF m 37 #[.val (.ref a), .val (.ref b)] [(.ref a)]) _
  refine Go.of (fun tg_ kk_ => XS.iconst X64.here hx rfl (hb hby d2_37) kk_) ?_
  show Go p e below T64 (mkF m 38 #[.val (.ref a), .val (.ref b)] [(.int (1 : Int32)), (.ref a)]) _
  obtain ⟨T76, h76, X76, e76, W76, st76⟩ := putF X64 hx hZ hown (host := "") (Or.inl (hw _ (List.mem_of_getElem? (i := 32) rfl))) Via.refl e64 F68 F65 (Or.inr ⟨(hw _ (List.mem_of_getElem? (i := 33) rfl)), rfl, hnm⟩) (hw _ (List.mem_of_getElem? (i := 7) rfl)) (ty := .int) (by decide) rfl rfl (g := (mkF m 38 #[.val (.ref a), .val (.ref b)] [(.int (1 : Int32)), (.ref a)])) rfl rfl (hb hby d2_38)
  have Fw76 := F68.same W76
  have F77 := F65.wr W76
  have F78 := F66.other W76 (Ne.symm hab)
  have F80 := F69.other W76 (Or.inr (slot_ne (Or.inr (hw _ (List.mem_of_getElem? (i := 16) rfl))) (Or.inr (hw _ (List.mem_of_getElem? (i := 33) rfl))) (by decide) (t := (.array .byte)) (t' := .int) (by decide) (by decide)))
  have F81 := F70.wr W76
  have F82 := F71.other W76 (Or.inr (slot_ne (Or.inr (hw _ (List.mem_of_getElem? (i := 25) rfl))) (Or.inr (hw _ (List.mem_of_getElem? (i := 33) rfl))) (by decide) (t := (.object "com/example/attestry/attestry/DerReader$BerNote")) (t' := .int) (by decide) (by decide)))
  have F83 := F72.other W76 (Or.inr (slot_ne (Or.inr (hw _ (List.mem_of_getElem? (i := 27) rfl))) (Or.inr (hw _ (List.mem_of_getElem? (i := 33) rfl))) (by decide) (t := .int) (t' := .int) (by decide) (by decide)))
  have F84 := F73.other W76 (Or.inr (slot_ne (Or.inl (hw _ (List.mem_of_getElem? (i := 29) rfl))) (Or.inr (hw _ (List.mem_of_getElem? (i := 33) rfl))) (by decide) (t := .int) (t' := .int) (by decide) (by decide)))
  have F85 := Fw64.other W76 (Or.inr (slot_ne (Or.inr (hw _ (List.mem_of_getElem? (i := 31) rfl))) (Or.inr (hw _ (List.mem_of_getElem? (i := 33) rfl))) (by decide) (t := .int) (t' := .int) (by decide) (by decide)))
  have K86 := K74.wr W76 (Or.inl (List.mem_of_getElem? (i := 0) rfl))
  have Zs87 : n0 ≤ h76.size := Nat.le_trans Zs75 (Keep.of_wr W76).1
  have N76 := Fr.snoc X76 N64 g_a
  refine Go.of (st76) ?_
  show Go p e below T76 (mkF m 41 #[.val (.ref a), .val (.ref b)] []) _
  obtain ⟨fs, hr, hrun, hended, hW, hsame⟩ := X76.leave (v := none) (fun _ => rfl)
  refine ⟨_, _, ?_, hrun, hended, _, _, rfl, ?_, ⟨_, rfl⟩, hW, hsame.mono (by decide) (by decide)⟩
  · exact X76.returnOut hx Bd.returns (hb hby d2_41) hr
  · show Q2_0 Z a b f h0 n0 _ T76.heap _
    rw [e76]
    exact ⟨_, rfl, N76, K86, F80, F82, F83, F84, F85, Fw76⟩
theorem ef_2_10 (m : MethodId) (x0 : Addr) (x1 : Addr) : entryFrame m #[(.ref x0), (.ref x1)] 2 = mkF m 0 #[.val (.ref x0), .val (.ref x1)] [] := by first | (simp [entryFrame, mkF, argsToLocals, Value.category]; done) | rfl
def Q2_10 (Z : State) (a : Addr) (b : Addr) (f : Nat → Int32) (h0 : Heap) (n0 : Nat) (v : Option Value) (h : Heap) (L : List Loc) : Prop := ∃ q : Addr, v = none ∧ Fr n0 L ∧ Keep h0 h [a] ∧ Fld Z h a "com/example/attestry/attestry/DerReader" "bytes" "[B" (.ref b) ∧ Fld Z h a "com/example/attestry/attestry/DerReader" "berNote" "Lcom/example/attestry/attestry/DerReader$BerNote;" (.ref q) ∧ Fld Z h a "com/example/attestry/attestry/DerReader" "start" "I" (.int (0 : Int32)) ∧ Fld Z h a "com/example/attestry/attestry/DerReader" "position" "I" (.int (0 : Int32)) ∧ Fld Z h a "com/example/attestry/attestry/DerReader" "end" "I" (.int (10 : Int32)) ∧ Fld Z h a "com/example/attestry/attestry/DerReader" "depth" "I" (.int (1 : Int32))
set_option maxRecDepth 65536 in
set_option maxHeartbeats 40000000 in
theorem rm2_10 (l : Launch) (Z : State) (a0 : Array Value) (hw : ∀ d ∈ tables_1, d.before a0 Z = true) (ws : List Jvm.Cond) (a : Addr) (b : Addr) (f : Nat → Int32) (h0 : Heap) (n0 : Nat) (Z0 : n0 ≤ h0.size) (g_a : n0 ≤ a) (E_a : Exa Z h0 a "com/example/attestry/attestry/DerReader") (Fbytes : Fld Z h0 a "com/example/attestry/attestry/DerReader" "bytes" "[B" .null) (FberNote : Fld Z h0 a "com/example/attestry/attestry/DerReader" "berNote" "Lcom/example/attestry/attestry/DerReader$BerNote;" .null) (Fstart : Fld Z h0 a "com/example/attestry/attestry/DerReader" "start" "I" (.int (0 : Int32))) (Fposition : Fld Z h0 a "com/example/attestry/attestry/DerReader" "position" "I" (.int (0 : Int32))) (Fend : Fld Z h0 a "com/example/attestry/attestry/DerReader" "end" "I" (.int (0 : Int32))) (Fdepth : Fld Z h0 a "com/example/attestry/attestry/DerReader" "depth" "I" (.int (0 : Int32))) (Ab : Af Z h0 b .byte 10 f) (hab : a ≠ b) :
    MetFree l (⟨"com/example/attestry/attestry/DerReader", "<init>", "([B)V"⟩ : MethodName) (head1 (Jvm.Cond.code (⟨"com/example/attestry/attestry/DerReader", "<init>", "([B)V"⟩ : MethodName) prog_3_method_1_code 2 none :: ws) ({ frames := 2, cells := 1, slots := 1, locals := 26 } : Room)) (fun aa_ U => aa_ = #[(.ref a), (.ref b)] ∧ Z.Warmed39 U.vm ∧ U.heap = h0) (fun _ _ _ _ _ => True) (fun _ U o U' => ∃ vv_ LL_, o = .returned vv_ ∧ Q2_10 Z a b f h0 n0 vv_ U'.heap LL_ ∧ FrameEnd U o U' LL_ ({ frames := 2, cells := 1, slots := 1, locals := 26 } : Room).cells ({ frames := 2, cells := 1, slots := 1, locals := 26 } : Room).slots) := by
  refine MetFree.of_bodySF (plainFor_of_name pn_2) hisR ?_
  intro p e s m args below meth c s₁ Bd hml0 hP hK
  obtain ⟨rfl, hZ, hh⟩ := hP
  have hx := Bd.exec
  have hby := Bd.bytes
  have hml : c.maxLocals = 2 := hml0
  have hown : s.vm.findClass "com/example/attestry/attestry/DerReader" = some m.cls := findClass_of_methodNamed Bd.named
  have hnm := (name_of_methodNamed Bd.named Bd.method).1
  have X0 : Stand p l e ({ frames := 2, cells := 1, slots := 1, locals := 26 } : Room) s m #[(.ref a), (.ref b)] below meth c s₁ [] 0 0 := Stand.of_body Bd
  have e0 : s₁.heap = h0 := by rw [← hh, Bd.state]; rfl
  have N0 := Fr.nil n0
  have K0 : Keep h0 h0 [a] := Keep.refl h0 _
  refine Go.enter (P := fun o U' => ∃ vv_ LL_, o = .returned vv_ ∧ Q2_10 Z a b f h0 n0 vv_ U'.heap LL_ ∧ FrameEnd s o U' LL_ ({ frames := 2, cells := 1, slots := 1, locals := 26 } : Room).cells ({ frames := 2, cells := 1, slots := 1, locals := 26 } : Room).slots) (ef_2_10 m a b) ?_
  show Go p e below s₁ (mkF m 0 #[.val (.ref a), .val (.ref b)] []) _
  refine Go.of (fun tg_ kk_ => XS.aloadN X0.here hx rfl (hb hby d2_0) rfl rfl kk_) ?_
  show Go p e below s₁ (mkF m 1 #[.val (.ref a), .val (.ref b)] [(.ref a)]) _
  obtain ⟨T1, X1, e1, st1⟩ := initO X0 hx hZ hown (hw _ (List.mem_of_getElem? (i := 12) rfl)) (hw _ (List.mem_of_getElem? (i := 13) rfl)) (hw _ (List.mem_of_getElem? (i := 14) rfl)) e0 (g := (mkF m 1 #[.val (.ref a), .val (.ref b)] [(.ref a)])) rfl (by rw [hml]; rfl) rfl (hb hby d2_1) (by decide) (W := 0) (by show 2 * 0 + _ ≤ _; exact Nat.le_of_eq rfl) (by decide)
  refine Go.of (st1) ?_
  show Go p e below T1 (mkF m 4 #[.val (.ref a), .val (.ref b)] []) _
  refine Go.of (fun tg_ kk_ => XS.aloadN X1.here hx rfl (hb hby d2_4) rfl rfl kk_) ?_
  show Go p e below T1 (mkF m 5 #[.val (.ref a), .val (.ref b)] [(.ref a)]) _
  refine Go.of (fun tg_ kk_ => XS.aloadN X1.here hx rfl (hb hby d2_5) rfl rfl kk_) ?_
  show Go p e below T1 (mkF m 6 #[.val (.ref a), .val (.ref b)] [(.ref b), (.ref a)]) _
  obtain ⟨T2, h2, X2, e2, W2, st2⟩ := putF X1 hx hZ hown (host := "") (Or.inl (hw _ (List.mem_of_getElem? (i := 15) rfl))) Via.refl e1 Fbytes E_a (Or.inr ⟨(hw _ (List.mem_of_getElem? (i := 16) rfl)), rfl, hnm⟩) (hw _ (List.mem_of_getElem? (i := 7) rfl)) (ty := (.array .byte)) (by decide) rfl rfl (g := (mkF m 6 #[.val (.ref a), .val (.ref b)] [(.ref b), (.ref a)])) rfl rfl (hb hby d2_6)
  have Fw2 := Fbytes.same W2
  have F3 := E_a.wr W2
  have F4 := Ab.other W2 (Ne.symm hab)
  have F6 := FberNote.other W2 (Or.inr (slot_ne (Or.inr (hw _ (List.mem_of_getElem? (i := 25) rfl))) (Or.inr (hw _ (List.mem_of_getElem? (i := 16) rfl))) (by decide) (t := (.object "com/example/attestry/attestry/DerReader$BerNote")) (t' := (.array .byte)) (by decide) (by decide)))
  have F7 := Fstart.other W2 (Or.inr (slot_ne (Or.inr (hw _ (List.mem_of_getElem? (i := 27) rfl))) (Or.inr (hw _ (List.mem_of_getElem? (i := 16) rfl))) (by decide) (t := .int) (t' := (.array .byte)) (by decide) (by decide)))
  have F8 := Fposition.other W2 (Or.inr (slot_ne (Or.inl (hw _ (List.mem_of_getElem? (i := 29) rfl))) (Or.inr (hw _ (List.mem_of_getElem? (i := 16) rfl))) (by decide) (t := .int) (t' := (.array .byte)) (by decide) (by decide)))
  have F9 := Fend.other W2 (Or.inr (slot_ne (Or.inr (hw _ (List.mem_of_getElem? (i := 31) rfl))) (Or.inr (hw _ (List.mem_of_getElem? (i := 16) rfl))) (by decide) (t := .int) (t' := (.array .byte)) (by decide) (by decide)))
  have F10 := Fdepth.other W2 (Or.inr (slot_ne (Or.inr (hw _ (List.mem_of_getElem? (i := 33) rfl))) (Or.inr (hw _ (List.mem_of_getElem? (i := 16) rfl))) (by decide) (t := .int) (t' := (.array .byte)) (by decide) (by decide)))
  have K11 := K0.wr W2 (Or.inl (List.mem_of_getElem? (i := 0) rfl))
  have Zs12 : n0 ≤ h2.size := Nat.le_trans Z0 (Keep.of_wr W2).1
  have N2 := Fr.snoc X2 N0 g_a
  refine Go.of (st2) ?_
  show Go p e below T2 (mkF m 9 #[.val (.ref a), .val (.ref b)] []) _
  refine Go.of (fun tg_ kk_ => XS.aloadN X2.here hx rfl (hb hby d2_9) rfl rfl kk_) ?_
  show Go p e below T2 (mkF m 10 #[.val (.ref a), .val (.ref b)] [(.ref a)]) _
  obtain ⟨T13, h13, X13, e13, E13, A13, D13, -, st13⟩ := newO X2 hx hZ hown (hw _ (List.mem_of_getElem? (i := 17) rfl)) (hw _ (List.mem_of_getElem? (i := 18) rfl)) (hw _ (List.mem_of_getElem? (i := 19) rfl)) e2 (g := (mkF m 10 #[.val (.ref a), .val (.ref b)] [(.ref a)])) rfl (hb hby d2_10) (by decide) (by decide)
  obtain ⟨b13, g13⟩ : ∃ zz_, zz_ = h2.size := ⟨_, rfl⟩
  rw [← g13] at A13 D13 st13
  have gx13 : n0 ≤ b13 := Nat.le_trans Zs12 (Nat.le_of_eq g13.symm)
  have sz13 : h0.size ≤ b13 := Nat.le_trans K11.1 (Nat.le_of_eq g13.symm)
  have ne14 : a ≠ b13 := Nat.ne_of_lt (Nat.lt_of_lt_of_le F3.lt (Nat.le_of_eq g13.symm))
  have ne15 : b ≠ b13 := Nat.ne_of_lt (Nat.lt_of_lt_of_le F4.lt (Nat.le_of_eq g13.symm))
  have F16 := F3.ext E13
  have F17 := F4.ext E13
  have F18 := F6.ext E13
  have F19 := F7.ext E13
  have F20 := F8.ext E13
  have F21 := F9.ext E13
  have F22 := F10.ext E13
  have F23 := Fw2.ext E13
  have K24 := K11.ext E13
  have Zs25 : n0 ≤ h13.size := Nat.le_trans Zs12 E13.1
  refine Go.of (st13) ?_
  show Go p e below T13 (mkF m 13 #[.val (.ref a), .val (.ref b)] [(.ref b13), (.ref a)]) _
  refine Go.of (fun tg_ kk_ => XS.dup X13.here hx rfl (hb hby d2_13) rfl rfl kk_) ?_
  show Go p e below T13 (mkF m 14 #[.val (.ref a), .val (.ref b)] [(.ref b13), (.ref b13), (.ref a)]) _
  obtain ⟨_, ⟨T26, L26, k26, n26⟩, X26, ⟨Lc26, hQ26, l26, y26, z26⟩, st26⟩ := own_refBack X13 hx (y := (⟨"com/example/attestry/attestry/DerReader$BerNote", "<init>", "()V"⟩ : MethodName)) rfl hown (own_refAt (wtrans hZ X13.warmed) (hw _ (List.mem_of_getElem? (i := 21) rfl)) (by decide) (hw _ (List.mem_of_getElem? (i := 20) rfl))) (mvT hZ (hw _ (List.mem_of_getElem? (i := 21) rfl))) (mvT hZ (hw _ (List.mem_of_getElem? (i := 22) rfl))) (by decide) (backOf (W := 2) (rm4 l Z a0 hw [] b13 h13 n0 Zs25) hZ (hw _ (List.mem_of_getElem? (i := 22) rfl)) (hw _ (List.mem_of_getElem? (i := 19) rfl)) (by decide) (by decide)) (g := (mkF m 14 #[.val (.ref a), .val (.ref b)] [(.ref b13), (.ref b13), (.ref a)])) rfl (by rw [hml]; rfl) (a := b13) (argsL := []) (rest := [(.ref b13), (.ref a)]) (lenOf pd_0 rfl) rfl (by show 2 * 0 + _ ≤ _; exact Nat.le_of_eq rfl) (hb hby d2_14) ⟨rfl, e13, (by decide : 1 + 0 ≤ _), (by decide : 1 + 0 ≤ _)⟩
  dsimp only [Pt.U, Pt.locs, Pt.cells, Pt.slots] at X26 l26 y26 z26 st26 hQ26
  have X26 := own_stand X26 l26 y26 z26
  obtain ⟨rfl, N26q, e26⟩ := hQ26
  have N26 := Fr.app N2 N26q
  refine Go.of (fun tg_ kk_ => st26.trans kk_) ?_
  show Go p e below T26 (mkF m 17 #[.val (.ref a), .val (.ref b)] [(.ref b13), (.ref a)]) _
  obtain ⟨T27, h27, X27, e27, W27, st27⟩ := putF X26 hx hZ hown (host := "") (Or.inl (hw _ (List.mem_of_getElem? (i := 24) rfl))) Via.refl e26 F18 F16 (Or.inr ⟨(hw _ (List.mem_of_getElem? (i := 25) rfl)), rfl, hnm⟩) (hw _ (List.mem_of_getElem? (i := 7) rfl)) (ty := (.object "com/example/attestry/attestry/DerReader$BerNote")) (by decide) rfl rfl (g := (mkF m 17 #[.val (.ref a), .val (.ref b)] [(.ref b13), (.ref a)])) rfl rfl (hb hby d2_17)
  have Fw27 := F18.same W27
  have F28 := F16.wr W27
  have F29 := F17.other W27 (Ne.symm hab)
  have F31 := F19.other W27 (Or.inr (slot_ne (Or.inr (hw _ (List.mem_of_getElem? (i := 27) rfl))) (Or.inr (hw _ (List.mem_of_getElem? (i := 25) rfl))) (by decide) (t := .int) (t' := (.object "com/example/attestry/attestry/DerReader$BerNote")) (by decide) (by decide)))
  have F32 := F20.other W27 (Or.inr (slot_ne (Or.inl (hw _ (List.mem_of_getElem? (i := 29) rfl))) (Or.inr (hw _ (List.mem_of_getElem? (i := 25) rfl))) (by decide) (t := .int) (t' := (.object "com/example/attestry/attestry/DerReader$BerNote")) (by decide) (by decide)))
  have F33 := F21.other W27 (Or.inr (slot_ne (Or.inr (hw _ (List.mem_of_getElem? (i := 31) rfl))) (Or.inr (hw _ (List.mem_of_getElem? (i := 25) rfl))) (by decide) (t := .int) (t' := (.object "com/example/attestry/attestry/DerReader$BerNote")) (by decide) (by decide)))
  have F34 := F22.other W27 (Or.inr (slot_ne (Or.inr (hw _ (List.mem_of_getElem? (i := 33) rfl))) (Or.inr (hw _ (List.mem_of_getElem? (i := 25) rfl))) (by decide) (t := .int) (t' := (.object "com/example/attestry/attestry/DerReader$BerNote")) (by decide) (by decide)))
  have F35 := F23.other W27 (Or.inr (slot_ne (Or.inr (hw _ (List.mem_of_getElem? (i := 16) rfl))) (Or.inr (hw _ (List.mem_of_getElem? (i := 25) rfl))) (by decide) (t := (.array .byte)) (t' := (.object "com/example/attestry/attestry/DerReader$BerNote")) (by decide) (by decide)))
  have F36 := A13.wr W27
  have K37 := K24.wr W27 (Or.inl (List.mem_of_getElem? (i := 0) rfl))
  have Zs38 : n0 ≤ h27.size := Nat.le_trans Zs25 (Keep.of_wr W27).1
  have N27 := Fr.snoc X27 N26 g_a
  refine Go.of (st27) ?_
  show Go p e below T27 (mkF m 20 #[.val (.ref a), .val (.ref b)] []) _
  refine Go.of (fun tg_ kk_ => XS.aloadN X27.here hx rfl (hb hby d2_20) rfl rfl kk_) ?_
  show Go p e below T27 (mkF m 21 #[.val (.ref a), .val (.ref b)] [(.ref a)]) _
  refine Go.of (fun tg_ kk_ => XS.iconst X27.here hx rfl (hb hby d2_21) kk_) ?_
  show Go p e below T27 (mkF m 22 #[.val (.ref a), .val (.ref b)] [(.int (0 : Int32)), (.ref a)]) _
  obtain ⟨T39, h39, X39, e39, W39, st39⟩ := putF X27 hx hZ hown (host := "") (Or.inl (hw _ (List.mem_of_getElem? (i := 26) rfl))) Via.refl e27 F31 F28 (Or.inr ⟨(hw _ (List.mem_of_getElem? (i := 27) rfl)), rfl, hnm⟩) (hw _ (List.mem_of_getElem? (i := 7) rfl)) (ty := .int) (by decide) rfl rfl (g := (mkF m 22 #[.val (.ref a), .val (.ref b)] [(.int (0 : Int32)), (.ref a)])) rfl rfl (hb hby d2_22)
  have Fw39 := F31.same W39
  have F40 := F28.wr W39
  have F41 := F29.other W39 (Ne.symm hab)
  have F43 := F32.other W39 (Or.inr (slot_ne (Or.inl (hw _ (List.mem_of_getElem? (i := 29) rfl))) (Or.inr (hw _ (List.mem_of_getElem? (i := 27) rfl))) (by decide) (t := .int) (t' := .int) (by decide) (by decide)))
  have F44 := F33.other W39 (Or.inr (slot_ne (Or.inr (hw _ (List.mem_of_getElem? (i := 31) rfl))) (Or.inr (hw _ (List.mem_of_getElem? (i := 27) rfl))) (by decide) (t := .int) (t' := .int) (by decide) (by decide)))
  have F45 := F34.other W39 (Or.inr (slot_ne (Or.inr (hw _ (List.mem_of_getElem? (i := 33) rfl))) (Or.inr (hw _ (List.mem_of_getElem? (i := 27) rfl))) (by decide) (t := .int) (t' := .int) (by decide) (by decide)))
  have F46 := F35.other W39 (Or.inr (slot_ne (Or.inr (hw _ (List.mem_of_getElem? (i := 16) rfl))) (Or.inr (hw _ (List.mem_of_getElem? (i := 27) rfl))) (by decide) (t := (.array .byte)) (t' := .int) (by decide) (by decide)))
  have F47 := F36.wr W39
  have F48 := Fw27.other W39 (Or.inr (slot_ne (Or.inr (hw _ (List.mem_of_getElem? (i := 25) rfl))) (Or.inr (hw _ (List.mem_of_getElem? (i := 27) rfl))) (by decide) (t := (.object "com/example/attestry/attestry/DerReader$BerNote")) (t' := .int) (by decide) (by decide)))
  have K49 := K37.wr W39 (Or.inl (List.mem_of_getElem? (i := 0) rfl))
  have Zs50 : n0 ≤ h39.size := Nat.le_trans Zs38 (Keep.of_wr W39).1
  have N39 := Fr.snoc X39 N27 g_a
  refine Go.of (st39) ?_
  show Go p e below T39 (mkF m 25 #[.val (.ref a), .val (.ref b)] []) _
  refine Go.of (fun tg_ kk_ => XS.aloadN X39.here hx rfl (hb hby d2_25) rfl rfl kk_) ?_
  show Go p e below T39 (mkF m 26 #[.val (.ref a), .val (.ref b)] [(.ref a)]) _
  refine Go.of (fun tg_ kk_ => XS.iconst X39.here hx rfl (hb hby d2_26) kk_) ?_
  show Go p e below T39 (mkF m 27 #[.val (.ref a), .val (.ref b)] [(.int (0 : Int32)), (.ref a)]) _
  obtain ⟨T51, h51, X51, e51, W51, st51⟩ := putF X39 hx hZ hown (host := "") (Or.inl (hw _ (List.mem_of_getElem? (i := 28) rfl))) Via.refl e39 F43 F40 (Or.inl (hw _ (List.mem_of_getElem? (i := 29) rfl))) (hw _ (List.mem_of_getElem? (i := 7) rfl)) (ty := .int) (by decide) rfl rfl (g := (mkF m 27 #[.val (.ref a), .val (.ref b)] [(.int (0 : Int32)), (.ref a)])) rfl rfl (hb hby d2_27)
  have Fw51 := F43.same W51
  have F52 := F40.wr W51
  have F53 := F41.other W51 (Ne.symm hab)
  have F55 := F44.other W51 (Or.inr (slot_ne (Or.inr (hw _ (List.mem_of_getElem? (i := 31) rfl))) (Or.inl (hw _ (List.mem_of_getElem? (i := 29) rfl))) (by decide) (t := .int) (t' := .int) (by decide) (by decide)))
  have F56 := F45.other W51 (Or.inr (slot_ne (Or.inr (hw _ (List.mem_of_getElem? (i := 33) rfl))) (Or.inl (hw _ (List.mem_of_getElem? (i := 29) rfl))) (by decide) (t := .int) (t' := .int) (by decide) (by decide)))
  have F57 := F46.other W51 (Or.inr (slot_ne (Or.inr (hw _ (List.mem_of_getElem? (i := 16) rfl))) (Or.inl (hw _ (List.mem_of_getElem? (i := 29) rfl))) (by decide) (t := (.array .byte)) (t' := .int) (by decide) (by decide)))
  have F58 := F47.wr W51
  have F59 := F48.other W51 (Or.inr (slot_ne (Or.inr (hw _ (List.mem_of_getElem? (i := 25) rfl))) (Or.inl (hw _ (List.mem_of_getElem? (i := 29) rfl))) (by decide) (t := (.object "com/example/attestry/attestry/DerReader$BerNote")) (t' := .int) (by decide) (by decide)))
  have F60 := Fw39.other W51 (Or.inr (slot_ne (Or.inr (hw _ (List.mem_of_getElem? (i := 27) rfl))) (Or.inl (hw _ (List.mem_of_getElem? (i := 29) rfl))) (by decide) (t := .int) (t' := .int) (by decide) (by decide)))
  have K61 := K49.wr W51 (Or.inl (List.mem_of_getElem? (i := 0) rfl))
  have Zs62 : n0 ≤ h51.size := Nat.le_trans Zs50 (Keep.of_wr W51).1
  have N51 := Fr.snoc X51 N39 g_a
  refine Go.of (st51) ?_
  show Go p e below T51 (mkF m 30 #[.val (.ref a), .val (.ref b)] []) _
  refine Go.of (fun tg_ kk_ => XS.aloadN X51.here hx rfl (hb hby d2_30) rfl rfl kk_) ?_
  show Go p e below T51 (mkF m 31 #[.val (.ref a), .val (.ref b)] [(.ref a)]) _
  refine Go.of (fun tg_ kk_ => XS.aloadN X51.here hx rfl (hb hby d2_31) rfl rfl kk_) ?_
  show Go p e below T51 (mkF m 32 #[.val (.ref a), .val (.ref b)] [(.ref b), (.ref a)]) _
  obtain ⟨cl63, Ar63, S63, H63⟩ := id F53
  refine Go.of (fun tg_ kk_ => X51.arraylength hx (by rw [e51]; exact Ar63.1) (State.isArrayOf_alike hZ.alike Ar63.2.1) (g := (mkF m 32 #[.val (.ref a), .val (.ref b)] [(.ref b), (.ref a)])) rfl rfl (hb hby d2_32) _ (by rw [S63, show (10 : Nat).toInt32 = (10 : Int32) from (by decide)]; exact kk_)) ?_
  show Go p e below T51 (mkF m 33 #[.val (.ref a), .val (.ref b)] [(.int (10 : Int32)), (.ref a)]) _
  obtain ⟨T64, h64, X64, e64, W64, st64⟩ := putF X51 hx hZ hown (host := "") (Or.inl (hw _ (List.mem_of_getElem? (i := 30) rfl))) Via.refl e51 F55 F52 (Or.inr ⟨(hw _ (List.mem_of_getElem? (i := 31) rfl)), rfl, hnm⟩) (hw _ (List.mem_of_getElem? (i := 7) rfl)) (ty := .int) (by decide) rfl rfl (g := (mkF m 33 #[.val (.ref a), .val (.ref b)] [(.int (10 : Int32)), (.ref a)])) rfl rfl (hb hby d2_33)
  have Fw64 := F55.same W64
  have F65 := F52.wr W64
  have F66 := F53.other W64 (Ne.symm hab)
  have F68 := F56.other W64 (Or.inr (slot_ne (Or.inr (hw _ (List.mem_of_getElem? (i := 33) rfl))) (Or.inr (hw _ (List.mem_of_getElem? (i := 31) rfl))) (by decide) (t := .int) (t' := .int) (by decide) (by decide)))
  have F69 := F57.other W64 (Or.inr (slot_ne (Or.inr (hw _ (List.mem_of_getElem? (i := 16) rfl))) (Or.inr (hw _ (List.mem_of_getElem? (i := 31) rfl))) (by decide) (t := (.array .byte)) (t' := .int) (by decide) (by decide)))
  have F70 := F58.wr W64
  have F71 := F59.other W64 (Or.inr (slot_ne (Or.inr (hw _ (List.mem_of_getElem? (i := 25) rfl))) (Or.inr (hw _ (List.mem_of_getElem? (i := 31) rfl))) (by decide) (t := (.object "com/example/attestry/attestry/DerReader$BerNote")) (t' := .int) (by decide) (by decide)))
  have F72 := F60.other W64 (Or.inr (slot_ne (Or.inr (hw _ (List.mem_of_getElem? (i := 27) rfl))) (Or.inr (hw _ (List.mem_of_getElem? (i := 31) rfl))) (by decide) (t := .int) (t' := .int) (by decide) (by decide)))
  have F73 := Fw51.other W64 (Or.inr (slot_ne (Or.inl (hw _ (List.mem_of_getElem? (i := 29) rfl))) (Or.inr (hw _ (List.mem_of_getElem? (i := 31) rfl))) (by decide) (t := .int) (t' := .int) (by decide) (by decide)))
  have K74 := K61.wr W64 (Or.inl (List.mem_of_getElem? (i := 0) rfl))
  have Zs75 : n0 ≤ h64.size := Nat.le_trans Zs62 (Keep.of_wr W64).1
  have N64 := Fr.snoc X64 N51 g_a
  refine Go.of (st64) ?_
  show Go p e below T64 (mkF m 36 #[.val (.ref a), .val (.ref b)] []) _
  refine Go.of (fun tg_ kk_ => XS.aloadN X64.here hx rfl (hb hby d2_36) rfl rfl kk_) ?_
  show Go p e below T64 (mkF m 37 #[.val (.ref a), .val (.ref b)] [(.ref a)]) _
  refine Go.of (fun tg_ kk_ => XS.iconst X64.here hx rfl (hb hby d2_37) kk_) ?_
  show Go p e below T64 (mkF m 38 #[.val (.ref a), .val (.ref b)] [(.int (1 : Int32)), (.ref a)]) _
  obtain ⟨T76, h76, X76, e76, W76, st76⟩ := putF X64 hx hZ hown (host := "") (Or.inl (hw _ (List.mem_of_getElem? (i := 32) rfl))) Via.refl e64 F68 F65 (Or.inr ⟨(hw _ (List.mem_of_getElem? (i := 33) rfl)), rfl, hnm⟩) (hw _ (List.mem_of_getElem? (i := 7) rfl)) (ty := .int) (by decide) rfl rfl (g := (mkF m 38 #[.val (.ref a), .val (.ref b)] [(.int (1 : Int32)), (.ref a)])) rfl rfl (hb hby d2_38)
  have Fw76 := F68.same W76
  have F77 := F65.wr W76
  have F78 := F66.other W76 (Ne.symm hab)
  have F80 := F69.other W76 (Or.inr (slot_ne (Or.inr (hw _ (List.mem_of_getElem? (i := 16) rfl))) (Or.inr (hw _ (List.mem_of_getElem? (i := 33) rfl))) (by decide) (t := (.array .byte)) (t' := .int) (by decide) (by decide)))
  have F81 := F70.wr W76
  have F82 := F71.other W76 (Or.inr (slot_ne (Or.inr (hw _ (List.mem_of_getElem? (i := 25) rfl))) (Or.inr (hw _ (List.mem_of_getElem? (i := 33) rfl))) (by decide) (t := (.object "com/example/attestry/attestry/DerReader$BerNote")) (t' := .int) (by decide) (by decide)))
  have F83 := F72.other W76 (Or.inr (slot_ne (Or.inr (hw _ (List.mem_of_getElem? (i := 27) rfl))) (Or.inr (hw _ (List.mem_of_getElem? (i := 33) rfl))) (by decide) (t := .int) (t' := .int) (by decide) (by decide)))
  have F84 := F73.other W76 (Or.inr (slot_ne (Or.inl (hw _ (List.mem_of_getElem? (i := 29) rfl))) (Or.inr (hw _ (List.mem_of_getElem? (i := 33) rfl))) (by decide) (t := .int) (t' := .int) (by decide) (by decide)))
  have F85 := Fw64.other W76 (Or.inr (slot_ne (Or.inr (hw _ (List.mem_of_getElem? (i := 31) rfl))) (Or.inr (hw _ (List.mem_of_getElem? (i := 33) rfl))) (by decide) (t := .int) (t' := .int) (by decide) (by decide)))
  have K86 := K74.wr W76 (Or.inl (List.mem_of_getElem? (i := 0) rfl))
  have Zs87 : n0 ≤ h76.size := Nat.le_trans Zs75 (Keep.of_wr W76).1
  have N76 := Fr.snoc X76 N64 g_a
  refine Go.of (st76) ?_
  show Go p e below T76 (mkF m 41 #[.val (.ref a), .val (.ref b)] []) _
  obtain ⟨fs, hr, hrun, hended, hW, hsame⟩ := X76.leave (v := none) (fun _ => rfl)
  refine ⟨_, _, ?_, hrun, hended, _, _, rfl, ?_, ⟨_, rfl⟩, hW, hsame.mono (by decide) (by decide)⟩
  · exact X76.returnOut hx Bd.returns (hb hby d2_41) hr
  · show Q2_10 Z a b f h0 n0 _ T76.heap _
    rw [e76]
    exact ⟨_, rfl, N76, K86, F80, F82, F83, F84, F85, Fw76⟩
theorem d5_0 : decode prog_3_method_3_code 0 = .ok (.aload_n 0, 1) := by decide +kernel
theorem d5_1 : decode prog_3_method_3_code 1 = .ok (.getfield 24, 3) := by decide +kernel
theorem d5_4 : decode prog_3_method_3_code 4 = .ok (.aload_n 0, 1) := by decide +kernel
theorem d5_5 : decode prog_3_method_3_code 5 = .ok (.getfield 27, 3) := by decide +kernel
theorem d5_8 : decode prog_3_method_3_code 8 = .ok (.if_icmp .ge 7, 3) := by decide +kernel
theorem d5_11 : decode prog_3_method_3_code 11 = .ok (.iconst 1, 1) := by decide +kernel
theorem d5_12 : decode prog_3_method_3_code 12 = .ok (.goto 4, 3) := by decide +kernel
theorem d5_15 : decode prog_3_method_3_code 15 = .ok (.iconst 0, 1) := by decide +kernel
theorem d5_16 : decode prog_3_method_3_code 16 = .ok (.ireturn, 1) := by decide +kernel
theorem ef_5 (m : MethodId) (x0 : Addr) : entryFrame m #[(.ref x0)] 1 = mkF m 0 #[.val (.ref x0)] [] := by first | (simp [entryFrame, mkF, argsToLocals, Value.category]; done) | rfl
def Q5 (Z : State) (a : Addr) (x : Int32) (y : Int32) (h0 : Heap) (n0 : Nat) (v : Option Value) (h : Heap) (L : List Loc) : Prop := v = some (.int (if x < y then 1 else 0)) ∧ Fr n0 L ∧ h = h0
set_option maxRecDepth 65536 in
set_option maxHeartbeats 40000000 in
theorem rm5 (l : Launch) (Z : State) (a0 : Array Value) (hw : ∀ d ∈ tables_1, d.before a0 Z = true) (ws : List Jvm.Cond) (a : Addr) (x : Int32) (y : Int32) (h0 : Heap) (n0 : Nat) (Z0 : n0 ≤ h0.size) (Fp : Fld Z h0 a "com/example/attestry/attestry/DerReader" "position" "I" (.int x)) (Fe : Fld Z h0 a "com/example/attestry/attestry/DerReader" "end" "I" (.int y)) :
    MetFree l (⟨"com/example/attestry/attestry/DerReader", "hasNext", "()Z"⟩ : MethodName) (head1 (Jvm.Cond.code (⟨"com/example/attestry/attestry/DerReader", "hasNext", "()Z"⟩ : MethodName) prog_3_method_3_code 1 (some .boolean) :: ws) ({ frames := 0, cells := 0, slots := 0, locals := 0 } : Room)) (fun aa_ U => aa_ = #[(.ref a)] ∧ Z.Warmed39 U.vm ∧ U.heap = h0) (fun _ _ _ _ _ => True) (fun _ U o U' => ∃ vv_ LL_, o = .returned vv_ ∧ Q5 Z a x y h0 n0 vv_ U'.heap LL_ ∧ FrameEnd U o U' LL_ ({ frames := 0, cells := 0, slots := 0, locals := 0 } : Room).cells ({ frames := 0, cells := 0, slots := 0, locals := 0 } : Room).slots) := by
  refine MetFree.of_bodySF (plainFor_of_name pn_2) hisR ?_
  intro p e s m args below meth c s₁ Bd hml0 hP hK
  obtain ⟨rfl, hZ, hh⟩ := hP
  have hx := Bd.exec
  have hby := Bd.bytes
  have hml : c.maxLocals = 1 := hml0
  have hown : s.vm.findClass "com/example/attestry/attestry/DerReader" = some m.cls := findClass_of_methodNamed Bd.named
  have hnm := (name_of_methodNamed Bd.named Bd.method).1
  have X0 : Stand p l e ({ frames := 0, cells := 0, slots := 0, locals := 0 } : Room) s m #[(.ref a)] below meth c s₁ [] 0 0 := Stand.of_body Bd
  have e0 : s₁.heap = h0 := by rw [← hh, Bd.state]; rfl
  have N0 := Fr.nil n0
  have K0 : Keep h0 h0 [] := Keep.refl h0 _
  refine Go.enter (P := fun o U' => ∃ vv_ LL_, o = .returned vv_ ∧ Q5 Z a x y h0 n0 vv_ U'.heap LL_ ∧ FrameEnd s o U' LL_ ({ frames := 0, cells := 0, slots := 0, locals := 0 } : Room).cells ({ frames := 0, cells := 0, slots := 0, locals := 0 } : Room).slots) (ef_5 m a) ?_
  show Go p e below s₁ (mkF m 0 #[.val (.ref a)] []) _
  refine Go.of (fun tg_ kk_ => XS.aloadN X0.here hx rfl (hb hby d5_0) rfl rfl kk_) ?_
  show Go p e below s₁ (mkF m 1 #[.val (.ref a)] [(.ref a)]) _
  obtain ⟨T1, X1, e1, st1⟩ := getF X0 hx hZ hown (host := "") (Or.inl (hw _ (List.mem_of_getElem? (i := 28) rfl))) Via.refl e0 Fp (g := (mkF m 1 #[.val (.ref a)] [(.ref a)])) rfl rfl (hb hby d5_1)
  refine Go.of (st1) ?_
  show Go p e below T1 (mkF m 4 #[.val (.ref a)] [(.int x)]) _
  refine Go.of (fun tg_ kk_ => XS.aloadN X1.here hx rfl (hb hby d5_4) rfl rfl kk_) ?_
  show Go p e below T1 (mkF m 5 #[.val (.ref a)] [(.ref a), (.int x)]) _
  obtain ⟨T2, X2, e2, st2⟩ := getF X1 hx hZ hown (host := "") (Or.inl (hw _ (List.mem_of_getElem? (i := 30) rfl))) Via.refl e1 Fe (g := (mkF m 5 #[.val (.ref a)] [(.ref a), (.int x)])) rfl rfl (hb hby d5_5)
  refine Go.of (st2) ?_
  show Go p e below T2 (mkF m 8 #[.val (.ref a)] [(.int y), (.int x)]) _
  by_cases hc3 : x < y
  · skip
    refine Go.of (fun tg_ kk_ => XS.icmpNo X2.here hx rfl (hb hby d5_8) rfl (tlt hc3).2.1 kk_) ?_
    show Go p e below T2 (mkF m 11 #[.val (.ref a)] []) _
    refine Go.of (fun tg_ kk_ => XS.iconst X2.here hx rfl (hb hby d5_11) kk_) ?_
    show Go p e below T2 (mkF m 12 #[.val (.ref a)] [(.int (1 : Int32))]) _
    refine Go.of (fun tg_ kk_ => XS.goto X2.here hx rfl (pc0 := 12) (pc' := 16) rfl (hb hby d5_12) (by decide) (by decide) kk_) ?_
    show Go p e below T2 (mkF m 16 #[.val (.ref a)] [(.int (1 : Int32))]) _
    obtain ⟨fs, hr, hrun, hended, hW, hsame⟩ := X2.leave (v := some (.int (1 : Int32))) (fun h => by rw [Bd.returns] at h; cases h)
    refine ⟨_, _, ?_, hrun, hended, _, _, rfl, ?_, ⟨_, rfl⟩, hW, hsame.mono (by decide) (by decide)⟩
    · exact retN X2 hx (t := .boolean) Bd.returns (by simp) (hb hby d5_16) hr
    · show Q5 Z a x y h0 n0 _ T2.heap _
      rw [e2]
      exact ⟨by simp [hc3], N0, rfl⟩
  · skip
    refine Go.of (fun tg_ kk_ => XS.icmpYes X2.here hx rfl (pc0 := 8) (pc' := 15) rfl (hb hby d5_8) rfl (flt hc3).2.1 (by decide) (by decide) kk_) ?_
    show Go p e below T2 (mkF m 15 #[.val (.ref a)] []) _
    refine Go.of (fun tg_ kk_ => XS.iconst X2.here hx rfl (hb hby d5_15) kk_) ?_
    show Go p e below T2 (mkF m 16 #[.val (.ref a)] [(.int (0 : Int32))]) _
    obtain ⟨fs, hr, hrun, hended, hW, hsame⟩ := X2.leave (v := some (.int (0 : Int32))) (fun h => by rw [Bd.returns] at h; cases h)
    refine ⟨_, _, ?_, hrun, hended, _, _, rfl, ?_, ⟨_, rfl⟩, hW, hsame.mono (by decide) (by decide)⟩
    · exact retN X2 hx (t := .boolean) Bd.returns (by simp) (hb hby d5_16) hr
    · show Q5 Z a x y h0 n0 _ T2.heap _
      rw [e2]
      exact ⟨by simp [hc3], N0, rfl⟩
theorem d9_0 : decode prog_3_method_52_code 0 = .ok (.aload_n 0, 1) := by decide +kernel
theorem d9_1 : decode prog_3_method_52_code 1 = .ok (.invokevirtual 98, 3) := by decide +kernel
theorem d9_4 : decode prog_3_method_52_code 4 = .ok (.ifCond .ne 14, 3) := by decide +kernel
theorem d9_18 : decode prog_3_method_52_code 18 = .ok (.aload_n 0, 1) := by decide +kernel
theorem d9_19 : decode prog_3_method_52_code 19 = .ok (.getfield 7, 3) := by decide +kernel
theorem d9_22 : decode prog_3_method_52_code 22 = .ok (.aload_n 0, 1) := by decide +kernel
theorem d9_23 : decode prog_3_method_52_code 23 = .ok (.dup, 1) := by decide +kernel
theorem d9_24 : decode prog_3_method_52_code 24 = .ok (.getfield 24, 3) := by decide +kernel
theorem d9_27 : decode prog_3_method_52_code 27 = .ok (.dup_x1, 1) := by decide +kernel
theorem d9_28 : decode prog_3_method_52_code 28 = .ok (.iconst 1, 1) := by decide +kernel
theorem d9_29 : decode prog_3_method_52_code 29 = .ok (.iadd, 1) := by decide +kernel
theorem d9_30 : decode prog_3_method_52_code 30 = .ok (.putfield 24, 3) := by decide +kernel
theorem d9_33 : decode prog_3_method_52_code 33 = .ok (.baload, 1) := by decide +kernel
theorem d9_34 : decode prog_3_method_52_code 34 = .ok (.sipush 255, 3) := by decide +kernel
theorem d9_37 : decode prog_3_method_52_code 37 = .ok (.iand, 1) := by decide +kernel
theorem d9_38 : decode prog_3_method_52_code 38 = .ok (.ireturn, 1) := by decide +kernel
theorem ef_9 (m : MethodId) (x0 : Addr) (x1 : Int32) (x2 : Addr) : entryFrame m #[(.ref x0), (.int x1), (.ref x2)] 3 = mkF m 0 #[.val (.ref x0), .val (.int x1), .val (.ref x2)] [] := by first | (simp [entryFrame, mkF, argsToLocals, Value.category]; done) | rfl
def Q9 (Z : State) (u : Int32) (w : Addr) (a : Addr) (b : Addr) (q : Addr) (x : Int32) (pp : Int32) (y : Int32) (d : Int32) (f : Nat → Int32) (h0 : Heap) (n0 : Nat) (v : Option Value) (h : Heap) (L : List Loc) : Prop := v = some (.int (f (pp).toNatClampNeg &&& (255 : Int32))) ∧ Fr n0 L ∧ Keep h0 h [a] ∧ Fld Z h a "com/example/attestry/attestry/DerReader" "bytes" "[B" (.ref b) ∧ Fld Z h a "com/example/attestry/attestry/DerReader" "berNote" "Lcom/example/attestry/attestry/DerReader$BerNote;" (.ref q) ∧ Fld Z h a "com/example/attestry/attestry/DerReader" "start" "I" (.int x) ∧ Fld Z h a "com/example/attestry/attestry/DerReader" "position" "I" (.int (pp + (1 : Int32))) ∧ Fld Z h a "com/example/attestry/attestry/DerReader" "end" "I" (.int y) ∧ Fld Z h a "com/example/attestry/attestry/DerReader" "depth" "I" (.int d)
set_option maxRecDepth 65536 in
set_option maxHeartbeats 40000000 in
theorem rm9 (l : Launch) (Z : State) (a0 : Array Value) (hw : ∀ d ∈ tables_1, d.before a0 Z = true) (ws : List Jvm.Cond) (u : Int32) (w : Addr) (a : Addr) (b : Addr) (q : Addr) (x : Int32) (pp : Int32) (y : Int32) (d : Int32) (f : Nat → Int32) (h0 : Heap) (n0 : Nat) (Z0 : n0 ≤ h0.size) (g_a : n0 ≤ a) (E_a : Exa Z h0 a "com/example/attestry/attestry/DerReader") (Fbytes : Fld Z h0 a "com/example/attestry/attestry/DerReader" "bytes" "[B" (.ref b)) (FberNote : Fld Z h0 a "com/example/attestry/attestry/DerReader" "berNote" "Lcom/example/attestry/attestry/DerReader$BerNote;" (.ref q)) (Fstart : Fld Z h0 a "com/example/attestry/attestry/DerReader" "start" "I" (.int x)) (Fposition : Fld Z h0 a "com/example/attestry/attestry/DerReader" "position" "I" (.int pp)) (Fend : Fld Z h0 a "com/example/attestry/attestry/DerReader" "end" "I" (.int y)) (Fdepth : Fld Z h0 a "com/example/attestry/attestry/DerReader" "depth" "I" (.int d)) (Ab : Af Z h0 b .byte 10 f) (hab : a ≠ b) (hlt : pp < y) (hin : ¬ (pp < 0) ∧ (pp).toNatClampNeg < 10) :
    MetFree l (⟨"com/example/attestry/attestry/DerReader", "nextOctet", "(ILjava/lang/String;)I"⟩ : MethodName) (head1 (Jvm.Cond.code (⟨"com/example/attestry/attestry/DerReader", "nextOctet", "(ILjava/lang/String;)I"⟩ : MethodName) prog_3_method_52_code 3 (some .int) :: ws) ({ frames := 1, cells := 0, slots := 0, locals := 12 } : Room)) (fun aa_ U => aa_ = #[(.ref a), (.int u), (.ref w)] ∧ Z.Warmed39 U.vm ∧ U.heap = h0) (fun _ _ _ _ _ => True) (fun _ U o U' => ∃ vv_ LL_, o = .returned vv_ ∧ Q9 Z u w a b q x pp y d f h0 n0 vv_ U'.heap LL_ ∧ FrameEnd U o U' LL_ ({ frames := 1, cells := 0, slots := 0, locals := 12 } : Room).cells ({ frames := 1, cells := 0, slots := 0, locals := 12 } : Room).slots) := by
  refine MetFree.of_bodySF (plainFor_of_name pn_2) hisR ?_
  intro p e s m args below meth c s₁ Bd hml0 hP hK
  obtain ⟨rfl, hZ, hh⟩ := hP
  have hx := Bd.exec
  have hby := Bd.bytes
  have hml : c.maxLocals = 3 := hml0
  have hown : s.vm.findClass "com/example/attestry/attestry/DerReader" = some m.cls := findClass_of_methodNamed Bd.named
  have hnm := (name_of_methodNamed Bd.named Bd.method).1
  have X0 : Stand p l e ({ frames := 1, cells := 0, slots := 0, locals := 12 } : Room) s m #[(.ref a), (.int u), (.ref w)] below meth c s₁ [] 0 0 := Stand.of_body Bd
  have e0 : s₁.heap = h0 := by rw [← hh, Bd.state]; rfl
  have N0 := Fr.nil n0
  have K0 : Keep h0 h0 [a] := Keep.refl h0 _
  refine Go.enter (P := fun o U' => ∃ vv_ LL_, o = .returned vv_ ∧ Q9 Z u w a b q x pp y d f h0 n0 vv_ U'.heap LL_ ∧ FrameEnd s o U' LL_ ({ frames := 1, cells := 0, slots := 0, locals := 12 } : Room).cells ({ frames := 1, cells := 0, slots := 0, locals := 12 } : Room).slots) (ef_9 m a u w) ?_
  show Go p e below s₁ (mkF m 0 #[.val (.ref a), .val (.int u), .val (.ref w)] []) _
  refine Go.of (fun tg_ kk_ => XS.aloadN X0.here hx rfl (hb hby d9_0) rfl rfl kk_) ?_
  show Go p e below s₁ (mkF m 1 #[.val (.ref a), .val (.int u), .val (.ref w)] [(.ref a)]) _
  obtain ⟨cq1, kq1, q1a, q1b, q1c⟩ := isOf hZ e0 E_a
  obtain ⟨_, _, ⟨T1, L1, k1, n1⟩, -, X1, ⟨Lc1, hQ1, l1, y1, z1⟩, st1⟩ := X0.virtualBack hx (y := (⟨"com/example/attestry/attestry/DerReader", "hasNext", "()Z"⟩ : MethodName)) (z := (⟨"com/example/attestry/attestry/DerReader", "hasNext", "()Z"⟩ : MethodName)) hown (mvT hZ (hw _ (List.mem_of_getElem? (i := 59) rfl))) (mvT hZ (hw _ (List.mem_of_getElem? (i := 35) rfl))) (notFace_of_selects (args := #[]) (mvT hZ (hw _ (List.mem_of_getElem? (i := 37) rfl)))) (mvT hZ (hw _ (List.mem_of_getElem? (i := 37) rfl))) (mvT hZ (hw _ (List.mem_of_getElem? (i := 36) rfl))) (by decide) (backOf (W := 0) (rm5 l Z a0 hw [] a pp y h0 n0 Z0 Fposition Fend) hZ (hw _ (List.mem_of_getElem? (i := 38) rfl)) (hw _ (List.mem_of_getElem? (i := 8) rfl)) (by decide) (by decide)) q1a q1c (g := (mkF m 1 #[.val (.ref a), .val (.int u), .val (.ref w)] [(.ref a)])) rfl (by rw [hml]; rfl) (Steps.refl _) (argsL := []) (rest := []) (lenOf pd_1 rfl) rfl (by show 2 * 0 + _ ≤ _; exact Nat.le_of_eq rfl) (hb hby d9_1) (fun _ _ => ⟨rfl, e0, (by decide : 0 + 0 ≤ _), (by decide : 0 + 0 ≤ _)⟩)
  dsimp only [Pt.U, Pt.locs, Pt.cells, Pt.slots] at X1 l1 y1 z1 st1 hQ1
  have X1 := own_stand X1 l1 y1 z1
  obtain ⟨hv1, N1q, e1⟩ := hQ1
  rw [if_pos hlt] at hv1
  subst hv1
  have N1 := Fr.app N0 N1q
  refine Go.of (fun tg_ kk_ => st1.trans kk_) ?_
  show Go p e below T1 (mkF m 4 #[.val (.ref a), .val (.int u), .val (.ref w)] [(.int (1 : Int32))]) _
  refine Go.of (fun tg_ kk_ => XS.ifYes X1.here hx rfl (pc0 := 4) (pc' := 18) rfl (hb hby d9_4) rfl ((if0 _ _).trans (feq (show ¬ ((1 : Int32) = (0 : Int32)) by decide)).2) (by decide) (by decide) kk_) ?_
  show Go p e below T1 (mkF m 18 #[.val (.ref a), .val (.int u), .val (.ref w)] []) _
  refine Go.of (fun tg_ kk_ => XS.aloadN X1.here hx rfl (hb hby d9_18) rfl rfl kk_) ?_
  show Go p e below T1 (mkF m 19 #[.val (.ref a), .val (.int u), .val (.ref w)] [(.ref a)]) _
  obtain ⟨T2, X2, e2, st2⟩ := getF X1 hx hZ hown (host := "") (Or.inl (hw _ (List.mem_of_getElem? (i := 15) rfl))) Via.refl e1 Fbytes (g := (mkF m 19 #[.val (.ref a), .val (.int u), .val (.ref w)] [(.ref a)])) rfl rfl (hb hby d9_19)
  refine Go.of (st2) ?_
  show Go p e below T2 (mkF m 22 #[.val (.ref a), .val (.int u), .val (.ref w)] [(.ref b)]) _
  refine Go.of (fun tg_ kk_ => XS.aloadN X2.here hx rfl (hb hby d9_22) rfl rfl kk_) ?_
  show Go p e below T2 (mkF m 23 #[.val (.ref a), .val (.int u), .val (.ref w)] [(.ref a), (.ref b)]) _
  refine Go.of (fun tg_ kk_ => XS.dup X2.here hx rfl (hb hby d9_23) rfl rfl kk_) ?_
  show Go p e below T2 (mkF m 24 #[.val (.ref a), .val (.int u), .val (.ref w)] [(.ref a), (.ref a), (.ref b)]) _
  obtain ⟨T3, X3, e3, st3⟩ := getF X2 hx hZ hown (host := "") (Or.inl (hw _ (List.mem_of_getElem? (i := 28) rfl))) Via.refl e2 Fposition (g := (mkF m 24 #[.val (.ref a), .val (.int u), .val (.ref w)] [(.ref a), (.ref a), (.ref b)])) rfl rfl (hb hby d9_24)
  refine Go.of (st3) ?_
  show Go p e below T3 (mkF m 27 #[.val (.ref a), .val (.int u), .val (.ref w)] [(.int pp), (.ref a), (.ref b)]) _
  refine Go.of (fun tg_ kk_ => XS.dupX1 X3.here hx rfl (hb hby d9_27) rfl rfl rfl kk_) ?_
  show Go p e below T3 (mkF m 28 #[.val (.ref a), .val (.int u), .val (.ref w)] [(.int pp), (.ref a), (.int pp), (.ref b)]) _
  refine Go.of (fun tg_ kk_ => XS.iconst X3.here hx rfl (hb hby d9_28) kk_) ?_
  show Go p e below T3 (mkF m 29 #[.val (.ref a), .val (.int u), .val (.ref w)] [(.int (1 : Int32)), (.int pp), (.ref a), (.int pp), (.ref b)]) _
  refine Go.of (fun tg_ kk_ => XS.iadd X3.here hx rfl (hb hby d9_29) rfl kk_) ?_
  show Go p e below T3 (mkF m 30 #[.val (.ref a), .val (.int u), .val (.ref w)] [(.int (pp + (1 : Int32))), (.ref a), (.int pp), (.ref b)]) _
  obtain ⟨T4, h4, X4, e4, W4, st4⟩ := putF X3 hx hZ hown (host := "") (Or.inl (hw _ (List.mem_of_getElem? (i := 28) rfl))) Via.refl e3 Fposition E_a (Or.inl (hw _ (List.mem_of_getElem? (i := 29) rfl))) (hw _ (List.mem_of_getElem? (i := 7) rfl)) (ty := .int) (by decide) rfl rfl (g := (mkF m 30 #[.val (.ref a), .val (.int u), .val (.ref w)] [(.int (pp + (1 : Int32))), (.ref a), (.int pp), (.ref b)])) rfl rfl (hb hby d9_30)
  have Fw4 := Fposition.same W4
  have F5 := E_a.wr W4
  have F6 := Ab.other W4 (Ne.symm hab)
  have F7 := Fbytes.other W4 (Or.inr (slot_ne (Or.inr (hw _ (List.mem_of_getElem? (i := 16) rfl))) (Or.inl (hw _ (List.mem_of_getElem? (i := 29) rfl))) (by decide) (t := (.array .byte)) (t' := .int) (by decide) (by decide)))
  have F8 := FberNote.other W4 (Or.inr (slot_ne (Or.inr (hw _ (List.mem_of_getElem? (i := 25) rfl))) (Or.inl (hw _ (List.mem_of_getElem? (i := 29) rfl))) (by decide) (t := (.object "com/example/attestry/attestry/DerReader$BerNote")) (t' := .int) (by decide) (by decide)))
  have F9 := Fstart.other W4 (Or.inr (slot_ne (Or.inr (hw _ (List.mem_of_getElem? (i := 27) rfl))) (Or.inl (hw _ (List.mem_of_getElem? (i := 29) rfl))) (by decide) (t := .int) (t' := .int) (by decide) (by decide)))
  have F11 := Fend.other W4 (Or.inr (slot_ne (Or.inr (hw _ (List.mem_of_getElem? (i := 31) rfl))) (Or.inl (hw _ (List.mem_of_getElem? (i := 29) rfl))) (by decide) (t := .int) (t' := .int) (by decide) (by decide)))
  have F12 := Fdepth.other W4 (Or.inr (slot_ne (Or.inr (hw _ (List.mem_of_getElem? (i := 33) rfl))) (Or.inl (hw _ (List.mem_of_getElem? (i := 29) rfl))) (by decide) (t := .int) (t' := .int) (by decide) (by decide)))
  have K13 := K0.wr W4 (Or.inl (List.mem_of_getElem? (i := 0) rfl))
  have Zs14 : n0 ≤ h4.size := Nat.le_trans Z0 (Keep.of_wr W4).1
  have N4 := Fr.snoc X4 N1 g_a
  refine Go.of (st4) ?_
  show Go p e below T4 (mkF m 33 #[.val (.ref a), .val (.int u), .val (.ref w)] [(.int pp), (.ref b)]) _
  have ib15 := (show ¬ (pp < 0) ∧ (pp).toNatClampNeg < 10 from hin)
  obtain ⟨cl15, Ar15, S15, H15⟩ := id F6
  refine Go.of (X4.baloadBytes hx (j := pp) (v := (.int (f (pp).toNatClampNeg))) (by rw [e4]; exact Ar15.1) (State.isArrayOf_alike hZ.alike Ar15.2.1) Ar15.2.2 (Af.inb S15 ib15) (Af.at H15 rfl ib15) (g := (mkF m 33 #[.val (.ref a), .val (.int u), .val (.ref w)] [(.int pp), (.ref b)])) rfl rfl (hb hby d9_33)) ?_
  show Go p e below T4 (mkF m 34 #[.val (.ref a), .val (.int u), .val (.ref w)] [(.int (f (pp).toNatClampNeg))]) _
  refine Go.of (fun tg_ kk_ => XS.sipush X4.here hx rfl (hb hby d9_34) kk_) ?_
  show Go p e below T4 (mkF m 37 #[.val (.ref a), .val (.int u), .val (.ref w)] [(.int (255 : Int32)), (.int (f (pp).toNatClampNeg))]) _
  refine Go.of (fun tg_ kk_ => XS.iand X4.here hx rfl (hb hby d9_37) rfl kk_) ?_
  show Go p e below T4 (mkF m 38 #[.val (.ref a), .val (.int u), .val (.ref w)] [(.int ((f (pp).toNatClampNeg) &&& (255 : Int32)))]) _
  obtain ⟨fs, hr, hrun, hended, hW, hsame⟩ := X4.leave (v := some (.int ((f (pp).toNatClampNeg) &&& (255 : Int32)))) (fun h => by rw [Bd.returns] at h; cases h)
  refine ⟨_, _, ?_, hrun, hended, _, _, rfl, ?_, ⟨_, rfl⟩, hW, hsame.mono (by decide) (by decide)⟩
  · exact retOut X4 hx Bd.returns rfl (Or.inl ⟨rfl, Or.inl rfl, _, rfl⟩) (hb hby d9_38) hr
  · show Q9 Z u w a b q x pp y d f h0 n0 _ T4.heap _
    rw [e4]
    exact ⟨rfl, N4, K13, F7, F8, F9, Fw4, F11, F12⟩
theorem d11_0 : decode prog_3_method_49_code 0 = .ok (.aload_n 0, 1) := by decide +kernel
theorem d11_1 : decode prog_3_method_49_code 1 = .ok (.iload_n 1, 1) := by decide +kernel
theorem d11_2 : decode prog_3_method_49_code 2 = .ok (.aload_n 2, 1) := by decide +kernel
theorem d11_3 : decode prog_3_method_49_code 3 = .ok (.invokevirtual 300, 3) := by decide +kernel
theorem d11_6 : decode prog_3_method_49_code 6 = .ok (.istore_n 3, 1) := by decide +kernel
theorem d11_7 : decode prog_3_method_49_code 7 = .ok (.iload_n 3, 1) := by decide +kernel
theorem d11_8 : decode prog_3_method_49_code 8 = .ok (.sipush 128, 3) := by decide +kernel
theorem d11_11 : decode prog_3_method_49_code 11 = .ok (.if_icmp .ne 7, 3) := by decide +kernel
theorem d11_18 : decode prog_3_method_49_code 18 = .ok (.iload_n 3, 1) := by decide +kernel
theorem d11_19 : decode prog_3_method_49_code 19 = .ok (.sipush 128, 3) := by decide +kernel
theorem d11_22 : decode prog_3_method_49_code 22 = .ok (.if_icmp .ge 6, 3) := by decide +kernel
theorem d11_25 : decode prog_3_method_49_code 25 = .ok (.iload_n 3, 1) := by decide +kernel
theorem d11_26 : decode prog_3_method_49_code 26 = .ok (.i2l, 1) := by decide +kernel
theorem d11_27 : decode prog_3_method_49_code 27 = .ok (.lreturn, 1) := by decide +kernel
theorem ef_11 (m : MethodId) (x0 : Addr) (x1 : Int32) (x2 : Addr) : entryFrame m #[(.ref x0), (.int x1), (.ref x2)] 8 = mkF m 0 #[.val (.ref x0), .val (.int x1), .val (.ref x2), .unset, .unset, .unset, .unset, .unset] [] := by first | (simp [entryFrame, mkF, argsToLocals, Value.category]; done) | rfl
def Q11 (Z : State) (u : Int32) (w : Addr) (a : Addr) (b : Addr) (q : Addr) (x : Int32) (pp : Int32) (y : Int32) (d : Int32) (f : Nat → Int32) (z : Int32) (h0 : Heap) (n0 : Nat) (v : Option Value) (h : Heap) (L : List Loc) : Prop := v = some (.long z.toInt64) ∧ Fr n0 L ∧ Keep h0 h [a] ∧ Fld Z h a "com/example/attestry/attestry/DerReader" "bytes" "[B" (.ref b) ∧ Fld Z h a "com/example/attestry/attestry/DerReader" "berNote" "Lcom/example/attestry/attestry/DerReader$BerNote;" (.ref q) ∧ Fld Z h a "com/example/attestry/attestry/DerReader" "start" "I" (.int x) ∧ Fld Z h a "com/example/attestry/attestry/DerReader" "position" "I" (.int (pp + (1 : Int32))) ∧ Fld Z h a "com/example/attestry/attestry/DerReader" "end" "I" (.int y) ∧ Fld Z h a "com/example/attestry/attestry/DerReader" "depth" "I" (.int d)
set_option maxRecDepth 65536 in
set_option maxHeartbeats 40000000 in
theorem rm11 (l : Launch) (Z : State) (a0 : Array Value) (hw : ∀ d ∈ tables_1, d.before a0 Z = true) (ws : List Jvm.Cond) (u : Int32) (w : Addr) (a : Addr) (b : Addr) (q : Addr) (x : Int32) (pp : Int32) (y : Int32) (d : Int32) (f : Nat → Int32) (z : Int32) (h0 : Heap) (n0 : Nat) (Z0 : n0 ≤ h0.size) (g_a : n0 ≤ a) (E_a : Exa Z h0 a "com/example/attestry/attestry/DerReader") (Fbytes : Fld Z h0 a "com/example/attestry/attestry/DerReader" "bytes" "[B" (.ref b)) (FberNote : Fld Z h0 a "com/example/attestry/attestry/DerReader" "berNote" "Lcom/example/attestry/attestry/DerReader$BerNote;" (.ref q)) (Fstart : Fld Z h0 a "com/example/attestry/attestry/DerReader" "start" "I" (.int x)) (Fposition : Fld Z h0 a "com/example/attestry/attestry/DerReader" "position" "I" (.int pp)) (Fend : Fld Z h0 a "com/example/attestry/attestry/DerReader" "end" "I" (.int y)) (Fdepth : Fld Z h0 a "com/example/attestry/attestry/DerReader" "depth" "I" (.int d)) (Ab : Af Z h0 b .byte 10 f) (hab : a ≠ b) (hlt : pp < y) (hin : ¬ (pp < 0) ∧ (pp).toNatClampNeg < 10) (hz : f (pp).toNatClampNeg &&& (255 : Int32) = z) (hz8 : z < (128 : Int32)) :
    MetFree l (⟨"com/example/attestry/attestry/DerReader", "length", "(ILjava/lang/String;)J"⟩ : MethodName) (head1 (Jvm.Cond.code (⟨"com/example/attestry/attestry/DerReader", "length", "(ILjava/lang/String;)J"⟩ : MethodName) prog_3_method_49_code 8 (some .long) :: ws) ({ frames := 2, cells := 0, slots := 0, locals := 26 } : Room)) (fun aa_ U => aa_ = #[(.ref a), (.int u), (.ref w)] ∧ Z.Warmed39 U.vm ∧ U.heap = h0) (fun _ _ _ _ _ => True) (fun _ U o U' => ∃ vv_ LL_, o = .returned vv_ ∧ Q11 Z u w a b q x pp y d f z h0 n0 vv_ U'.heap LL_ ∧ FrameEnd U o U' LL_ ({ frames := 2, cells := 0, slots := 0, locals := 26 } : Room).cells ({ frames := 2, cells := 0, slots := 0, locals := 26 } : Room).slots) := by
  refine MetFree.of_bodySF (plainFor_of_name pn_2) hisR ?_
  intro p e s m args below meth c s₁ Bd hml0 hP hK
  obtain ⟨rfl, hZ, hh⟩ := hP
  have hx := Bd.exec
  have hby := Bd.bytes
  have hml : c.maxLocals = 8 := hml0
  have hown : s.vm.findClass "com/example/attestry/attestry/DerReader" = some m.cls := findClass_of_methodNamed Bd.named
  have hnm := (name_of_methodNamed Bd.named Bd.method).1
  have X0 : Stand p l e ({ frames := 2, cells := 0, slots := 0, locals := 26 } : Room) s m #[(.ref a), (.int u), (.ref w)] below meth c s₁ [] 0 0 := Stand.of_body Bd
  have e0 : s₁.heap = h0 := by rw [← hh, Bd.state]; rfl
  have N0 := Fr.nil n0
  have K0 : Keep h0 h0 [a] := Keep.refl h0 _
  refine Go.enter (P := fun o U' => ∃ vv_ LL_, o = .returned vv_ ∧ Q11 Z u w a b q x pp y d f z h0 n0 vv_ U'.heap LL_ ∧ FrameEnd s o U' LL_ ({ frames := 2, cells := 0, slots := 0, locals := 26 } : Room).cells ({ frames := 2, cells := 0, slots := 0, locals := 26 } : Room).slots) (ef_11 m a u w) ?_
  show Go p e below s₁ (mkF m 0 #[.val (.ref a), .val (.int u), .val (.ref w), .unset, .unset, .unset, .unset, .unset] []) _
  refine Go.of (fun tg_ kk_ => XS.aloadN X0.here hx rfl (hb hby d11_0) rfl rfl kk_) ?_
  show Go p e below s₁ (mkF m 1 #[.val (.ref a), .val (.int u), .val (.ref w), .unset, .unset, .unset, .unset, .unset] [(.ref a)]) _
  refine Go.of (fun tg_ kk_ => XS.iloadN X0.here hx rfl (hb hby d11_1) rfl kk_) ?_
  show Go p e below s₁ (mkF m 2 #[.val (.ref a), .val (.int u), .val (.ref w), .unset, .unset, .unset, .unset, .unset] [(.int u), (.ref a)]) _
  refine Go.of (fun tg_ kk_ => XS.aloadN X0.here hx rfl (hb hby d11_2) rfl rfl kk_) ?_
  show Go p e below s₁ (mkF m 3 #[.val (.ref a), .val (.int u), .val (.ref w), .unset, .unset, .unset, .unset, .unset] [(.ref w), (.int u), (.ref a)]) _
  obtain ⟨cq1, qc1, qd1⟩ := E_a.cell
  obtain ⟨_, _, ⟨T1, L1, k1, n1⟩, -, X1, ⟨Lc1, hQ1, l1, y1, z1⟩, st1⟩ := X0.privateBack hx (y := (⟨"com/example/attestry/attestry/DerReader", "nextOctet", "(ILjava/lang/String;)I"⟩ : MethodName)) hown (mvT hZ (hw _ (List.mem_of_getElem? (i := 60) rfl))) (mvT hZ (hw _ (List.mem_of_getElem? (i := 61) rfl))) (own_selp (y := (⟨"com/example/attestry/attestry/DerReader", "nextOctet", "(ILjava/lang/String;)I"⟩ : MethodName)) (mvT hZ (hw _ (List.mem_of_getElem? (i := 7) rfl))) (Cond.privateMethod_at (mvP hZ (hw _ (List.mem_of_getElem? (i := 62) rfl)) (args := #[]))) (mvT hZ (hw _ (List.mem_of_getElem? (i := 61) rfl))) (by decide)) (Cond.privateMethod_at (mvP hZ (hw _ (List.mem_of_getElem? (i := 62) rfl)) (args := #[]))) (mvT hZ (hw _ (List.mem_of_getElem? (i := 63) rfl))) (by decide) (backOf (W := 0) (rm9 l Z a0 hw [] u w a b q x pp y d f h0 n0 Z0 g_a E_a Fbytes FberNote Fstart Fposition Fend Fdepth Ab hab hlt hin) hZ (hw _ (List.mem_of_getElem? (i := 63) rfl)) (hw _ (List.mem_of_getElem? (i := 8) rfl)) (by decide) (by decide)) (g := (mkF m 3 #[.val (.ref a), .val (.int u), .val (.ref w), .unset, .unset, .unset, .unset, .unset] [(.ref w), (.int u), (.ref a)])) rfl (by rw [hml]; rfl) (Steps.refl _) (a := a) (by rw [e0]; exact qc1) qd1 (argsL := [(.int u), (.ref w)]) (rest := []) (lenOf pd_2 rfl) rfl (by show 2 * 0 + _ ≤ _; exact Nat.le_of_eq rfl) (hb hby d11_3) (fun _ _ => ⟨rfl, e0, (by decide : 0 + 0 ≤ _), (by decide : 0 + 0 ≤ _)⟩)
  dsimp only [Pt.U, Pt.locs, Pt.cells, Pt.slots] at X1 l1 y1 z1 st1 hQ1
  have X1 := own_stand X1 l1 y1 z1
  obtain ⟨hv1, N1q, K1q, Fbytes_1, FberNote_1, Fstart_1, Fposition_1, Fend_1, Fdepth_1⟩ := hQ1
  have N1 := Fr.app N0 N1q
  have F2 := E_a.keep K1q
  have F3 := Ab.keep K1q (ninS (Ne.symm hab) nin0)
  have K10 := K0.trans K1q (allS (Or.inl (List.mem_of_getElem? (i := 0) rfl)) all0)
  have Zs11 : n0 ≤ T1.heap.size := Nat.le_trans Z0 K1q.1
  rw [hz] at hv1
  subst hv1
  refine Go.of (fun tg_ kk_ => st1.trans kk_) ?_
  show Go p e below T1 (mkF m 6 #[.val (.ref a), .val (.int u), .val (.ref w), .unset, .unset, .unset, .unset, .unset] [(.int z)]) _
  refine Go.of (fun tg_ kk_ => XS.istoreN X1.here hx rfl (hb hby d11_6) rfl (l' := #[.val (.ref a), .val (.int u), .val (.ref w), .val (.int z), .unset, .unset, .unset, .unset]) rfl kk_) ?_
  show Go p e below T1 (mkF m 7 #[.val (.ref a), .val (.int u), .val (.ref w), .val (.int z), .unset, .unset, .unset, .unset] []) _
  refine Go.of (fun tg_ kk_ => XS.iloadN X1.here hx rfl (hb hby d11_7) rfl kk_) ?_
  show Go p e below T1 (mkF m 8 #[.val (.ref a), .val (.int u), .val (.ref w), .val (.int z), .unset, .unset, .unset, .unset] [(.int z)]) _
  refine Go.of (fun tg_ kk_ => XS.sipush X1.here hx rfl (hb hby d11_8) kk_) ?_
  show Go p e below T1 (mkF m 11 #[.val (.ref a), .val (.int u), .val (.ref w), .val (.int z), .unset, .unset, .unset, .unset] [(.int (128 : Int32)), (.int z)]) _
  refine Go.of (fun tg_ kk_ => XS.icmpYes X1.here hx rfl (pc0 := 11) (pc' := 18) rfl (hb hby d11_11) rfl (feq (show ¬ (z = (128 : Int32)) from (own_ne hz8))).2 (by decide) (by decide) kk_) ?_
  show Go p e below T1 (mkF m 18 #[.val (.ref a), .val (.int u), .val (.ref w), .val (.int z), .unset, .unset, .unset, .unset] []) _
  refine Go.of (fun tg_ kk_ => XS.iloadN X1.here hx rfl (hb hby d11_18) rfl kk_) ?_
  show Go p e below T1 (mkF m 19 #[.val (.ref a), .val (.int u), .val (.ref w), .val (.int z), .unset, .unset, .unset, .unset] [(.int z)]) _
  refine Go.of (fun tg_ kk_ => XS.sipush X1.here hx rfl (hb hby d11_19) kk_) ?_
  show Go p e below T1 (mkF m 22 #[.val (.ref a), .val (.int u), .val (.ref w), .val (.int z), .unset, .unset, .unset, .unset] [(.int (128 : Int32)), (.int z)]) _
  refine Go.of (fun tg_ kk_ => XS.icmpNo X1.here hx rfl (hb hby d11_22) rfl (tlt (show z < (128 : Int32) from hz8)).2.1 kk_) ?_
  show Go p e below T1 (mkF m 25 #[.val (.ref a), .val (.int u), .val (.ref w), .val (.int z), .unset, .unset, .unset, .unset] []) _
  refine Go.of (fun tg_ kk_ => XS.iloadN X1.here hx rfl (hb hby d11_25) rfl kk_) ?_
  show Go p e below T1 (mkF m 26 #[.val (.ref a), .val (.int u), .val (.ref w), .val (.int z), .unset, .unset, .unset, .unset] [(.int z)]) _
  refine Go.of (fun tg_ kk_ => XS.i2l X1.here hx rfl (hb hby d11_26) rfl kk_) ?_
  show Go p e below T1 (mkF m 27 #[.val (.ref a), .val (.int u), .val (.ref w), .val (.int z), .unset, .unset, .unset, .unset] [(.long (z.toInt64))]) _
  obtain ⟨fs, hr, hrun, hended, hW, hsame⟩ := X1.leave (v := some (.long (z.toInt64))) (fun h => by rw [Bd.returns] at h; cases h)
  refine ⟨_, _, ?_, hrun, hended, _, _, rfl, ?_, ⟨_, rfl⟩, hW, hsame.mono (by decide) (by decide)⟩
  · exact retOut X1 hx Bd.returns rfl (Or.inr (Or.inl ⟨rfl, rfl, _, rfl⟩)) (hb hby d11_27) hr
  · show Q11 Z u w a b q x pp y d f z h0 n0 _ T1.heap _
    exact ⟨rfl, N1, K10, Fbytes_1, FberNote_1, Fstart_1, Fposition_1, Fend_1, Fdepth_1⟩
theorem d12_0 : decode prog_3_method_50_code 0 = .ok (.lload_n 0, 1) := by decide +kernel
theorem d12_1 : decode prog_3_method_50_code 1 = .ok (.ldc2_w 392, 3) := by decide +kernel
theorem d12_4 : decode prog_3_method_50_code 4 = .ok (.lcmp, 1) := by decide +kernel
theorem d12_5 : decode prog_3_method_50_code 5 = .ok (.ifCond .ge 7, 3) := by decide +kernel
theorem d12_8 : decode prog_3_method_50_code 8 = .ok (.iconst 1, 1) := by decide +kernel
theorem d12_9 : decode prog_3_method_50_code 9 = .ok (.goto 18, 3) := by decide +kernel
theorem d12_27 : decode prog_3_method_50_code 27 = .ok (.ireturn, 1) := by decide +kernel
theorem ef_12 (m : MethodId) (x0 : Int64) : entryFrame m #[(.long x0)] 2 = mkF m 0 #[.val (.long x0), .second] [] := by first | (simp [entryFrame, mkF, argsToLocals, Value.category]; done) | rfl
def Q12 (Z : State) (x : Int64) (h0 : Heap) (n0 : Nat) (v : Option Value) (h : Heap) (L : List Loc) : Prop := v = some (.int 1) ∧ Fr n0 L ∧ h = h0
set_option maxRecDepth 65536 in
set_option maxHeartbeats 40000000 in
theorem rm12 (l : Launch) (Z : State) (a0 : Array Value) (hw : ∀ d ∈ tables_1, d.before a0 Z = true) (ws : List Jvm.Cond) (x : Int64) (h0 : Heap) (n0 : Nat) (Z0 : n0 ≤ h0.size) (hx8 : x < (128 : Int64)) :
    MetFree l (⟨"com/example/attestry/attestry/DerReader", "lengthOctets", "(J)I"⟩ : MethodName) (head1 (Jvm.Cond.code (⟨"com/example/attestry/attestry/DerReader", "lengthOctets", "(J)I"⟩ : MethodName) prog_3_method_50_code 2 (some .int) :: ws) ({ frames := 0, cells := 0, slots := 0, locals := 0 } : Room)) (fun aa_ U => aa_ = #[(.long x)] ∧ Z.Warmed39 U.vm ∧ U.heap = h0) (fun _ _ _ _ _ => True) (fun _ U o U' => ∃ vv_ LL_, o = .returned vv_ ∧ Q12 Z x h0 n0 vv_ U'.heap LL_ ∧ FrameEnd U o U' LL_ ({ frames := 0, cells := 0, slots := 0, locals := 0 } : Room).cells ({ frames := 0, cells := 0, slots := 0, locals := 0 } : Room).slots) := by
  refine MetFree.of_bodySF (plainFor_of_name pn_2) hisR ?_
  intro p e s m args below meth c s₁ Bd hml0 hP hK
  obtain ⟨rfl, hZ, hh⟩ := hP
  have hx := Bd.exec
  have hby := Bd.bytes
  have hml : c.maxLocals = 2 := hml0
  have hown : s.vm.findClass "com/example/attestry/attestry/DerReader" = some m.cls := findClass_of_methodNamed Bd.named
  have hnm := (name_of_methodNamed Bd.named Bd.method).1
  have X0 : Stand p l e ({ frames := 0, cells := 0, slots := 0, locals := 0 } : Room) s m #[(.long x)] below meth c s₁ [] 0 0 := Stand.of_body Bd
  have e0 : s₁.heap = h0 := by rw [← hh, Bd.state]; rfl
  have N0 := Fr.nil n0
  have K0 : Keep h0 h0 [] := Keep.refl h0 _
  refine Go.enter (P := fun o U' => ∃ vv_ LL_, o = .returned vv_ ∧ Q12 Z x h0 n0 vv_ U'.heap LL_ ∧ FrameEnd s o U' LL_ ({ frames := 0, cells := 0, slots := 0, locals := 0 } : Room).cells ({ frames := 0, cells := 0, slots := 0, locals := 0 } : Room).slots) (ef_12 m x) ?_
  show Go p e below s₁ (mkF m 0 #[.val (.long x), .second] []) _
  refine Go.of (fun tg_ kk_ => XS.lloadN X0.here hx rfl (hb hby d12_0) rfl kk_) ?_
  show Go p e below s₁ (mkF m 1 #[.val (.long x), .second] [(.long x)]) _
  refine Go.of (X0.ldc2Long hx hown (mvT hZ (hw _ (List.mem_of_getElem? (i := 76) rfl))) (g := (mkF m 1 #[.val (.long x), .second] [(.long x)])) rfl (hb hby d12_1)) ?_
  show Go p e below s₁ (mkF m 4 #[.val (.long x), .second] [(.long (128 : Int64)), (.long x)]) _
  refine Go.of (fun tg_ kk_ => XS.lcmp X0.here hx rfl (hb hby d12_4) rfl kk_) ?_
  show Go p e below s₁ (mkF m 5 #[.val (.long x), .second] [(.int (lcmpW x (128 : Int64)))]) _
  refine Go.of (fun tg_ kk_ => XS.ifNo X0.here hx rfl (hb hby d12_5) rfl ((if0 _ _).trans (tlt ((lw_lt x (128 : Int64)).mpr (show x < (128 : Int64) from hx8))).2.1) kk_) ?_
  show Go p e below s₁ (mkF m 8 #[.val (.long x), .second] []) _
  refine Go.of (fun tg_ kk_ => XS.iconst X0.here hx rfl (hb hby d12_8) kk_) ?_
  show Go p e below s₁ (mkF m 9 #[.val (.long x), .second] [(.int (1 : Int32))]) _
  refine Go.of (fun tg_ kk_ => XS.goto X0.here hx rfl (pc0 := 9) (pc' := 27) rfl (hb hby d12_9) (by decide) (by decide) kk_) ?_
  show Go p e below s₁ (mkF m 27 #[.val (.long x), .second] [(.int (1 : Int32))]) _
  obtain ⟨fs, hr, hrun, hended, hW, hsame⟩ := X0.leave (v := some (.int (1 : Int32))) (fun h => by rw [Bd.returns] at h; cases h)
  refine ⟨_, _, ?_, hrun, hended, _, _, rfl, ?_, ⟨_, rfl⟩, hW, hsame.mono (by decide) (by decide)⟩
  · exact retOut X0 hx Bd.returns rfl (Or.inl ⟨rfl, Or.inl rfl, _, rfl⟩) (hb hby d12_27) hr
  · show Q12 Z x h0 n0 _ s₁.heap _
    rw [e0]
    exact ⟨rfl, N0, rfl⟩
theorem d13_0 : decode prog_3_method_2_code 0 = .ok (.aload_n 0, 1) := by decide +kernel
theorem d13_1 : decode prog_3_method_2_code 1 = .ok (.invokespecial 1, 3) := by decide +kernel
theorem d13_4 : decode prog_3_method_2_code 4 = .ok (.aload_n 0, 1) := by decide +kernel
theorem d13_5 : decode prog_3_method_2_code 5 = .ok (.aload_n 1, 1) := by decide +kernel
theorem d13_6 : decode prog_3_method_2_code 6 = .ok (.getfield 7, 3) := by decide +kernel
theorem d13_9 : decode prog_3_method_2_code 9 = .ok (.putfield 7, 3) := by decide +kernel
theorem d13_12 : decode prog_3_method_2_code 12 = .ok (.aload_n 0, 1) := by decide +kernel
theorem d13_13 : decode prog_3_method_2_code 13 = .ok (.aload_n 1, 1) := by decide +kernel
theorem d13_14 : decode prog_3_method_2_code 14 = .ok (.getfield 16, 3) := by decide +kernel
theorem d13_17 : decode prog_3_method_2_code 17 = .ok (.putfield 16, 3) := by decide +kernel
theorem d13_20 : decode prog_3_method_2_code 20 = .ok (.aload_n 0, 1) := by decide +kernel
theorem d13_21 : decode prog_3_method_2_code 21 = .ok (.iload_n 2, 1) := by decide +kernel
theorem d13_22 : decode prog_3_method_2_code 22 = .ok (.putfield 20, 3) := by decide +kernel
theorem d13_25 : decode prog_3_method_2_code 25 = .ok (.aload_n 0, 1) := by decide +kernel
theorem d13_26 : decode prog_3_method_2_code 26 = .ok (.iload_n 3, 1) := by decide +kernel
theorem d13_27 : decode prog_3_method_2_code 27 = .ok (.putfield 24, 3) := by decide +kernel
theorem d13_30 : decode prog_3_method_2_code 30 = .ok (.aload_n 0, 1) := by decide +kernel
theorem d13_31 : decode prog_3_method_2_code 31 = .ok (.iload 4, 2) := by decide +kernel
theorem d13_33 : decode prog_3_method_2_code 33 = .ok (.putfield 27, 3) := by decide +kernel
theorem d13_36 : decode prog_3_method_2_code 36 = .ok (.aload_n 0, 1) := by decide +kernel
theorem d13_37 : decode prog_3_method_2_code 37 = .ok (.aload_n 1, 1) := by decide +kernel
theorem d13_38 : decode prog_3_method_2_code 38 = .ok (.getfield 30, 3) := by decide +kernel
theorem d13_41 : decode prog_3_method_2_code 41 = .ok (.iconst 1, 1) := by decide +kernel
theorem d13_42 : decode prog_3_method_2_code 42 = .ok (.iadd, 1) := by decide +kernel
theorem d13_43 : decode prog_3_method_2_code 43 = .ok (.putfield 30, 3) := by decide +kernel
theorem d13_46 : decode prog_3_method_2_code 46 = .ok (.return_, 1) := by decide +kernel
theorem ef_13 (m : MethodId) (x0 : Addr) (x1 : Addr) (x2 : Int32) (x3 : Int32) (x4 : Int32) : entryFrame m #[(.ref x0), (.ref x1), (.int x2), (.int x3), (.int x4)] 5 = mkF m 0 #[.val (.ref x0), .val (.ref x1), .val (.int x2), .val (.int x3), .val (.int x4)] [] := by first | (simp [entryFrame, mkF, argsToLocals, Value.category]; done) | rfl
def Q13 (Z : State) (a : Addr) (od : Addr) (u : Int32) (w : Int32) (z : Int32) (b : Addr) (q : Addr) (d : Int32) (h0 : Heap) (n0 : Nat) (v : Option Value) (h : Heap) (L : List Loc) : Prop := v = none ∧ Fr n0 L ∧ Keep h0 h [a] ∧ Fld Z h a "com/example/attestry/attestry/DerReader" "bytes" "[B" (.ref b) ∧ Fld Z h a "com/example/attestry/attestry/DerReader" "berNote" "Lcom/example/attestry/attestry/DerReader$BerNote;" (.ref q) ∧ Fld Z h a "com/example/attestry/attestry/DerReader" "start" "I" (.int u) ∧ Fld Z h a "com/example/attestry/attestry/DerReader" "position" "I" (.int w) ∧ Fld Z h a "com/example/attestry/attestry/DerReader" "end" "I" (.int z) ∧ Fld Z h a "com/example/attestry/attestry/DerReader" "depth" "I" (.int (d + (1 : Int32)))
set_option maxRecDepth 65536 in
set_option maxHeartbeats 40000000 in
theorem rm13 (l : Launch) (Z : State) (a0 : Array Value) (hw : ∀ d ∈ tables_1, d.before a0 Z = true) (ws : List Jvm.Cond) (a : Addr) (od : Addr) (u : Int32) (w : Int32) (z : Int32) (b : Addr) (q : Addr) (d : Int32) (h0 : Heap) (n0 : Nat) (Z0 : n0 ≤ h0.size) (g_a : n0 ≤ a) (E_a : Exa Z h0 a "com/example/attestry/attestry/DerReader") (Fbytes : Fld Z h0 a "com/example/attestry/attestry/DerReader" "bytes" "[B" .null) (FberNote : Fld Z h0 a "com/example/attestry/attestry/DerReader" "berNote" "Lcom/example/attestry/attestry/DerReader$BerNote;" .null) (Fstart : Fld Z h0 a "com/example/attestry/attestry/DerReader" "start" "I" (.int (0 : Int32))) (Fposition : Fld Z h0 a "com/example/attestry/attestry/DerReader" "position" "I" (.int (0 : Int32))) (Fend : Fld Z h0 a "com/example/attestry/attestry/DerReader" "end" "I" (.int (0 : Int32))) (Fdepth : Fld Z h0 a "com/example/attestry/attestry/DerReader" "depth" "I" (.int (0 : Int32))) (Ob : Fld Z h0 od "com/example/attestry/attestry/DerReader" "bytes" "[B" (.ref b)) (Oq : Fld Z h0 od "com/example/attestry/attestry/DerReader" "berNote" "Lcom/example/attestry/attestry/DerReader$BerNote;" (.ref q)) (Od : Fld Z h0 od "com/example/attestry/attestry/DerReader" "depth" "I" (.int d)) (hoa : od ≠ a) :
    MetFree l (⟨"com/example/attestry/attestry/DerReader", "<init>", "(Lcom/example/attestry/attestry/DerReader;III)V"⟩ : MethodName) (head1 (Jvm.Cond.code (⟨"com/example/attestry/attestry/DerReader", "<init>", "(Lcom/example/attestry/attestry/DerReader;III)V"⟩ : MethodName) prog_3_method_2_code 5 none :: ws) ({ frames := 1, cells := 0, slots := 0, locals := 12 } : Room)) (fun aa_ U => aa_ = #[(.ref a), (.ref od), (.int u), (.int w), (.int z)] ∧ Z.Warmed39 U.vm ∧ U.heap = h0) (fun _ _ _ _ _ => True) (fun _ U o U' => ∃ vv_ LL_, o = .returned vv_ ∧ Q13 Z a od u w z b q d h0 n0 vv_ U'.heap LL_ ∧ FrameEnd U o U' LL_ ({ frames := 1, cells := 0, slots := 0, locals := 12 } : Room).cells ({ frames := 1, cells := 0, slots := 0, locals := 12 } : Room).slots) := by
  refine MetFree.of_bodySF (plainFor_of_name pn_2) hisR ?_
  intro p e s m args below meth c s₁ Bd hml0 hP hK
  obtain ⟨rfl, hZ, hh⟩ := hP
  have hx := Bd.exec
  have hby := Bd.bytes
  have hml : c.maxLocals = 5 := hml0
  have hown : s.vm.findClass "com/example/attestry/attestry/DerReader" = some m.cls := findClass_of_methodNamed Bd.named
  have hnm := (name_of_methodNamed Bd.named Bd.method).1
  have X0 : Stand p l e ({ frames := 1, cells := 0, slots := 0, locals := 12 } : Room) s m #[(.ref a), (.ref od), (.int u), (.int w), (.int z)] below meth c s₁ [] 0 0 := Stand.of_body Bd
  have e0 : s₁.heap = h0 := by rw [← hh, Bd.state]; rfl
  have N0 := Fr.nil n0
  have K0 : Keep h0 h0 [a] := Keep.refl h0 _
  refine Go.enter (P := fun o U' => ∃ vv_ LL_, o = .returned vv_ ∧ Q13 Z a od u w z b q d h0 n0 vv_ U'.heap LL_ ∧ FrameEnd s o U' LL_ ({ frames := 1, cells := 0, slots := 0, locals := 12 } : Room).cells ({ frames := 1, cells := 0, slots := 0, locals := 12 } : Room).slots) (ef_13 m a od u w z) ?_
  show Go p e below s₁ (mkF m 0 #[.val (.ref a), .val (.ref od), .val (.int u), .val (.int w), .val (.int z)] []) _
  refine Go.of (fun tg_ kk_ => XS.aloadN X0.here hx rfl (hb hby d13_0) rfl rfl kk_) ?_
  show Go p e below s₁ (mkF m 1 #[.val (.ref a), .val (.ref od), .val (.int u), .val (.int w), .val (.int z)] [(.ref a)]) _
  obtain ⟨T1, X1, e1, st1⟩ := initO X0 hx hZ hown (hw _ (List.mem_of_getElem? (i := 12) rfl)) (hw _ (List.mem_of_getElem? (i := 13) rfl)) (hw _ (List.mem_of_getElem? (i := 14) rfl)) e0 (g := (mkF m 1 #[.val (.ref a), .val (.ref od), .val (.int u), .val (.int w), .val (.int z)] [(.ref a)])) rfl (by rw [hml]; rfl) rfl (hb hby d13_1) (by decide) (W := 0) (by show 2 * 0 + _ ≤ _; exact Nat.le_of_eq rfl) (by decide)
  refine Go.of (st1) ?_
  show Go p e below T1 (mkF m 4 #[.val (.ref a), .val (.ref od), .val (.int u), .val (.int w), .val (.int z)] []) _
  refine Go.of (fun tg_ kk_ => XS.aloadN X1.here hx rfl (hb hby d13_4) rfl rfl kk_) ?_
  show Go p e below T1 (mkF m 5 #[.val (.ref a), .val (.ref od), .val (.int u), .val (.int w), .val (.int z)] [(.ref a)]) _
  refine Go.of (fun tg_ kk_ => XS.aloadN X1.here hx rfl (hb hby d13_5) rfl rfl kk_) ?_
  show Go p e below T1 (mkF m 6 #[.val (.ref a), .val (.ref od), .val (.int u), .val (.int w), .val (.int z)] [(.ref od), (.ref a)]) _
  obtain ⟨T2, X2, e2, st2⟩ := getF X1 hx hZ hown (host := "") (Or.inl (hw _ (List.mem_of_getElem? (i := 15) rfl))) Via.refl e1 Ob (g := (mkF m 6 #[.val (.ref a), .val (.ref od), .val (.int u), .val (.int w), .val (.int z)] [(.ref od), (.ref a)])) rfl rfl (hb hby d13_6)
  refine Go.of (st2) ?_
  show Go p e below T2 (mkF m 9 #[.val (.ref a), .val (.ref od), .val (.int u), .val (.int w), .val (.int z)] [(.ref b), (.ref a)]) _
  obtain ⟨T3, h3, X3, e3, W3, st3⟩ := putF X2 hx hZ hown (host := "") (Or.inl (hw _ (List.mem_of_getElem? (i := 15) rfl))) Via.refl e2 Fbytes E_a (Or.inr ⟨(hw _ (List.mem_of_getElem? (i := 16) rfl)), rfl, hnm⟩) (hw _ (List.mem_of_getElem? (i := 7) rfl)) (ty := (.array .byte)) (by decide) rfl rfl (g := (mkF m 9 #[.val (.ref a), .val (.ref od), .val (.int u), .val (.int w), .val (.int z)] [(.ref b), (.ref a)])) rfl rfl (hb hby d13_9)
  have Fw3 := Fbytes.same W3
  have F4 := E_a.wr W3
  have F5 := Ob.other W3 (Or.inl hoa)
  have F6 := Oq.other W3 (Or.inl hoa)
  have F7 := Od.other W3 (Or.inl hoa)
  have F9 := FberNote.other W3 (Or.inr (slot_ne (Or.inr (hw _ (List.mem_of_getElem? (i := 25) rfl))) (Or.inr (hw _ (List.mem_of_getElem? (i := 16) rfl))) (by decide) (t := (.object "com/example/attestry/attestry/DerReader$BerNote")) (t' := (.array .byte)) (by decide) (by decide)))
  have F10 := Fstart.other W3 (Or.inr (slot_ne (Or.inr (hw _ (List.mem_of_getElem? (i := 27) rfl))) (Or.inr (hw _ (List.mem_of_getElem? (i := 16) rfl))) (by decide) (t := .int) (t' := (.array .byte)) (by decide) (by decide)))
  have F11 := Fposition.other W3 (Or.inr (slot_ne (Or.inl (hw _ (List.mem_of_getElem? (i := 29) rfl))) (Or.inr (hw _ (List.mem_of_getElem? (i := 16) rfl))) (by decide) (t := .int) (t' := (.array .byte)) (by decide) (by decide)))
  have F12 := Fend.other W3 (Or.inr (slot_ne (Or.inr (hw _ (List.mem_of_getElem? (i := 31) rfl))) (Or.inr (hw _ (List.mem_of_getElem? (i := 16) rfl))) (by decide) (t := .int) (t' := (.array .byte)) (by decide) (by decide)))
  have F13 := Fdepth.other W3 (Or.inr (slot_ne (Or.inr (hw _ (List.mem_of_getElem? (i := 33) rfl))) (Or.inr (hw _ (List.mem_of_getElem? (i := 16) rfl))) (by decide) (t := .int) (t' := (.array .byte)) (by decide) (by decide)))
  have K14 := K0.wr W3 (Or.inl (List.mem_of_getElem? (i := 0) rfl))
  have Zs15 : n0 ≤ h3.size := Nat.le_trans Z0 (Keep.of_wr W3).1
  have N3 := Fr.snoc X3 N0 g_a
  refine Go.of (st3) ?_
  show Go p e below T3 (mkF m 12 #[.val (.ref a), .val (.ref od), .val (.int u), .val (.int w), .val (.int z)] []) _
  refine Go.of (fun tg_ kk_ => XS.aloadN X3.here hx rfl (hb hby d13_12) rfl rfl kk_) ?_
  show Go p e below T3 (mkF m 13 #[.val (.ref a), .val (.ref od), .val (.int u), .val (.int w), .val (.int z)] [(.ref a)]) _
  refine Go.of (fun tg_ kk_ => XS.aloadN X3.here hx rfl (hb hby d13_13) rfl rfl kk_) ?_
  show Go p e below T3 (mkF m 14 #[.val (.ref a), .val (.ref od), .val (.int u), .val (.int w), .val (.int z)] [(.ref od), (.ref a)]) _
  obtain ⟨T16, X16, e16, st16⟩ := getF X3 hx hZ hown (host := "") (Or.inl (hw _ (List.mem_of_getElem? (i := 24) rfl))) Via.refl e3 F6 (g := (mkF m 14 #[.val (.ref a), .val (.ref od), .val (.int u), .val (.int w), .val (.int z)] [(.ref od), (.ref a)])) rfl rfl (hb hby d13_14)
  refine Go.of (st16) ?_
  show Go p e below T16 (mkF m 17 #[.val (.ref a), .val (.ref od), .val (.int u), .val (.int w), .val (.int z)] [(.ref q), (.ref a)]) _
  obtain ⟨T17, h17, X17, e17, W17, st17⟩ := putF X16 hx hZ hown (host := "") (Or.inl (hw _ (List.mem_of_getElem? (i := 24) rfl))) Via.refl e16 F9 F4 (Or.inr ⟨(hw _ (List.mem_of_getElem? (i := 25) rfl)), rfl, hnm⟩) (hw _ (List.mem_of_getElem? (i := 7) rfl)) (ty := (.object "com/example/attestry/attestry/DerReader$BerNote")) (by decide) rfl rfl (g := (mkF m 17 #[.val (.ref a), .val (.ref od), .val (.int u), .val (.int w), .val (.int z)] [(.ref q), (.ref a)])) rfl rfl (hb hby d13_17)
  have Fw17 := F9.same W17
  have F18 := F4.wr W17
  have F19 := F5.other W17 (Or.inl hoa)
  have F20 := F6.other W17 (Or.inl hoa)
  have F21 := F7.other W17 (Or.inl hoa)
  have F23 := F10.other W17 (Or.inr (slot_ne (Or.inr (hw _ (List.mem_of_getElem? (i := 27) rfl))) (Or.inr (hw _ (List.mem_of_getElem? (i := 25) rfl))) (by decide) (t := .int) (t' := (.object "com/example/attestry/attestry/DerReader$BerNote")) (by decide) (by decide)))
  have F24 := F11.other W17 (Or.inr (slot_ne (Or.inl (hw _ (List.mem_of_getElem? (i := 29) rfl))) (Or.inr (hw _ (List.mem_of_getElem? (i := 25) rfl))) (by decide) (t := .int) (t' := (.object "com/example/attestry/attestry/DerReader$BerNote")) (by decide) (by decide)))
  have F25 := F12.other W17 (Or.inr (slot_ne (Or.inr (hw _ (List.mem_of_getElem? (i := 31) rfl))) (Or.inr (hw _ (List.mem_of_getElem? (i := 25) rfl))) (by decide) (t := .int) (t' := (.object "com/example/attestry/attestry/DerReader$BerNote")) (by decide) (by decide)))
  have F26 := F13.other W17 (Or.inr (slot_ne (Or.inr (hw _ (List.mem_of_getElem? (i := 33) rfl))) (Or.inr (hw _ (List.mem_of_getElem? (i := 25) rfl))) (by decide) (t := .int) (t' := (.object "com/example/attestry/attestry/DerReader$BerNote")) (by decide) (by decide)))
  have F27 := Fw3.other W17 (Or.inr (slot_ne (Or.inr (hw _ (List.mem_of_getElem? (i := 16) rfl))) (Or.inr (hw _ (List.mem_of_getElem? (i := 25) rfl))) (by decide) (t := (.array .byte)) (t' := (.object "com/example/attestry/attestry/DerReader$BerNote")) (by decide) (by decide)))
  have K28 := K14.wr W17 (Or.inl (List.mem_of_getElem? (i := 0) rfl))
  have Zs29 : n0 ≤ h17.size := Nat.le_trans Zs15 (Keep.of_wr W17).1
  have N17 := Fr.snoc X17 N3 g_a
  refine Go.of (st17) ?_
  show Go p e below T17 (mkF m 20 #[.val (.ref a), .val (.ref od), .val (.int u), .val (.int w), .val (.int z)] []) _
  refine Go.of (fun tg_ kk_ => XS.aloadN X17.here hx rfl (hb hby d13_20) rfl rfl kk_) ?_
  show Go p e below T17 (mkF m 21 #[.val (.ref a), .val (.ref od), .val (.int u), .val (.int w), .val (.int z)] [(.ref a)]) _
  refine Go.of (fun tg_ kk_ => XS.iloadN X17.here hx rfl (hb hby d13_21) rfl kk_) ?_
  show Go p e below T17 (mkF m 22 #[.val (.ref a), .val (.ref od), .val (.int u), .val (.int w), .val (.int z)] [(.int u), (.ref a)]) _
  obtain ⟨T30, h30, X30, e30, W30, st30⟩ := putF X17 hx hZ hown (host := "") (Or.inl (hw _ (List.mem_of_getElem? (i := 26) rfl))) Via.refl e17 F23 F18 (Or.inr ⟨(hw _ (List.mem_of_getElem? (i := 27) rfl)), rfl, hnm⟩) (hw _ (List.mem_of_getElem? (i := 7) rfl)) (ty := .int) (by decide) rfl rfl (g := (mkF m 22 #[.val (.ref a), .val (.ref od), .val (.int u), .val (.int w), .val (.int z)] [(.int u), (.ref a)])) rfl rfl (hb hby d13_22)
  have Fw30 := F23.same W30
  have F31 := F18.wr W30
  have F32 := F19.other W30 (Or.inl hoa)
  have F33 := F20.other W30 (Or.inl hoa)
  have F34 := F21.other W30 (Or.inl hoa)
  have F36 := F24.other W30 (Or.inr (slot_ne (Or.inl (hw _ (List.mem_of_getElem? (i := 29) rfl))) (Or.inr (hw _ (List.mem_of_getElem? (i := 27) rfl))) (by decide) (t := .int) (t' := .int) (by decide) (by decide)))
  have F37 := F25.other W30 (Or.inr (slot_ne (Or.inr (hw _ (List.mem_of_getElem? (i := 31) rfl))) (Or.inr (hw _ (List.mem_of_getElem? (i := 27) rfl))) (by decide) (t := .int) (t' := .int) (by decide) (by decide)))
  have F38 := F26.other W30 (Or.inr (slot_ne (Or.inr (hw _ (List.mem_of_getElem? (i := 33) rfl))) (Or.inr (hw _ (List.mem_of_getElem? (i := 27) rfl))) (by decide) (t := .int) (t' := .int) (by decide) (by decide)))
  have F39 := F27.other W30 (Or.inr (slot_ne (Or.inr (hw _ (List.mem_of_getElem? (i := 16) rfl))) (Or.inr (hw _ (List.mem_of_getElem? (i := 27) rfl))) (by decide) (t := (.array .byte)) (t' := .int) (by decide) (by decide)))
  have F40 := Fw17.other W30 (Or.inr (slot_ne (Or.inr (hw _ (List.mem_of_getElem? (i := 25) rfl))) (Or.inr (hw _ (List.mem_of_getElem? (i := 27) rfl))) (by decide) (t := (.object "com/example/attestry/attestry/DerReader$BerNote")) (t' := .int) (by decide) (by decide)))
  have K41 := K28.wr W30 (Or.inl (List.mem_of_getElem? (i := 0) rfl))
  have Zs42 : n0 ≤ h30.size := Nat.le_trans Zs29 (Keep.of_wr W30).1
  have N30 := Fr.snoc X30 N17 g_a
  refine Go.of (st30) ?_
  show Go p e below T30 (mkF m 25 #[.val (.ref a), .val (.ref od), .val (.int u), .val (.int w), .val (.int z)] []) _
  refine Go.of (fun tg_ kk_ => XS.aloadN X30.here hx rfl (hb hby d13_25) rfl rfl kk_) ?_
  show Go p e below T30 (mkF m 26 #[.val (.ref a), .val (.ref od), .val (.int u), .val (.int w), .val (.int z)] [(.ref a)]) _
  refine Go.of (fun tg_ kk_ => XS.iloadN X30.here hx rfl (hb hby d13_26) rfl kk_) ?_
  show Go p e below T30 (mkF m 27 #[.val (.ref a), .val (.ref od), .val (.int u), .val (.int w), .val (.int z)] [(.int w), (.ref a)]) _
  obtain ⟨T43, h43, X43, e43, W43, st43⟩ := putF X30 hx hZ hown (host := "") (Or.inl (hw _ (List.mem_of_getElem? (i := 28) rfl))) Via.refl e30 F36 F31 (Or.inl (hw _ (List.mem_of_getElem? (i := 29) rfl))) (hw _ (List.mem_of_getElem? (i := 7) rfl)) (ty := .int) (by decide) rfl rfl (g := (mkF m 27 #[.val (.ref a), .val (.ref od), .val (.int u), .val (.int w), .val (.int z)] [(.int w), (.ref a)])) rfl rfl (hb hby d13_27)
  have Fw43 := F36.same W43
  have F44 := F31.wr W43
  have F45 := F32.other W43 (Or.inl hoa)
  have F46 := F33.other W43 (Or.inl hoa)
  have F47 := F34.other W43 (Or.inl hoa)
  have F49 := F37.other W43 (Or.inr (slot_ne (Or.inr (hw _ (List.mem_of_getElem? (i := 31) rfl))) (Or.inl (hw _ (List.mem_of_getElem? (i := 29) rfl))) (by decide) (t := .int) (t' := .int) (by decide) (by decide)))
  have F50 := F38.other W43 (Or.inr (slot_ne (Or.inr (hw _ (List.mem_of_getElem? (i := 33) rfl))) (Or.inl (hw _ (List.mem_of_getElem? (i := 29) rfl))) (by decide) (t := .int) (t' := .int) (by decide) (by decide)))
  have F51 := F39.other W43 (Or.inr (slot_ne (Or.inr (hw _ (List.mem_of_getElem? (i := 16) rfl))) (Or.inl (hw _ (List.mem_of_getElem? (i := 29) rfl))) (by decide) (t := (.array .byte)) (t' := .int) (by decide) (by decide)))
  have F52 := F40.other W43 (Or.inr (slot_ne (Or.inr (hw _ (List.mem_of_getElem? (i := 25) rfl))) (Or.inl (hw _ (List.mem_of_getElem? (i := 29) rfl))) (by decide) (t := (.object "com/example/attestry/attestry/DerReader$BerNote")) (t' := .int) (by decide) (by decide)))
  have F53 := Fw30.other W43 (Or.inr (slot_ne (Or.inr (hw _ (List.mem_of_getElem? (i := 27) rfl))) (Or.inl (hw _ (List.mem_of_getElem? (i := 29) rfl))) (by decide) (t := .int) (t' := .int) (by decide) (by decide)))
  have K54 := K41.wr W43 (Or.inl (List.mem_of_getElem? (i := 0) rfl))
  have Zs55 : n0 ≤ h43.size := Nat.le_trans Zs42 (Keep.of_wr W43).1
  have N43 := Fr.snoc X43 N30 g_a
  refine Go.of (st43) ?_
  show Go p e below T43 (mkF m 30 #[.val (.ref a), .val (.ref od), .val (.int u), .val (.int w), .val (.int z)] []) _
  refine Go.of (fun tg_ kk_ => XS.aloadN X43.here hx rfl (hb hby d13_30) rfl rfl kk_) ?_
  show Go p e below T43 (mkF m 31 #[.val (.ref a), .val (.ref od), .val (.int u), .val (.int w), .val (.int z)] [(.ref a)]) _
  refine Go.of (fun tg_ kk_ => XS.iload X43.here hx rfl (hb hby d13_31) rfl kk_) ?_
  show Go p e below T43 (mkF m 33 #[.val (.ref a), .val (.ref od), .val (.int u), .val (.int w), .val (.int z)] [(.int z), (.ref a)]) _
  obtain ⟨T56, h56, X56, e56, W56, st56⟩ := putF X43 hx hZ hown (host := "") (Or.inl (hw _ (List.mem_of_getElem? (i := 30) rfl))) Via.refl e43 F49 F44 (Or.inr ⟨(hw _ (List.mem_of_getElem? (i := 31) rfl)), rfl, hnm⟩) (hw _ (List.mem_of_getElem? (i := 7) rfl)) (ty := .int) (by decide) rfl rfl (g := (mkF m 33 #[.val (.ref a), .val (.ref od), .val (.int u), .val (.int w), .val (.int z)] [(.int z), (.ref a)])) rfl rfl (hb hby d13_33)
  have Fw56 := F49.same W56
  have F57 := F44.wr W56
  have F58 := F45.other W56 (Or.inl hoa)
  have F59 := F46.other W56 (Or.inl hoa)
  have F60 := F47.other W56 (Or.inl hoa)
  have F62 := F50.other W56 (Or.inr (slot_ne (Or.inr (hw _ (List.mem_of_getElem? (i := 33) rfl))) (Or.inr (hw _ (List.mem_of_getElem? (i := 31) rfl))) (by decide) (t := .int) (t' := .int) (by decide) (by decide)))
  have F63 := F51.other W56 (Or.inr (slot_ne (Or.inr (hw _ (List.mem_of_getElem? (i := 16) rfl))) (Or.inr (hw _ (List.mem_of_getElem? (i := 31) rfl))) (by decide) (t := (.array .byte)) (t' := .int) (by decide) (by decide)))
  have F64 := F52.other W56 (Or.inr (slot_ne (Or.inr (hw _ (List.mem_of_getElem? (i := 25) rfl))) (Or.inr (hw _ (List.mem_of_getElem? (i := 31) rfl))) (by decide) (t := (.object "com/example/attestry/attestry/DerReader$BerNote")) (t' := .int) (by decide) (by decide)))
  have F65 := F53.other W56 (Or.inr (slot_ne (Or.inr (hw _ (List.mem_of_getElem? (i := 27) rfl))) (Or.inr (hw _ (List.mem_of_getElem? (i := 31) rfl))) (by decide) (t := .int) (t' := .int) (by decide) (by decide)))
  have F66 := Fw43.other W56 (Or.inr (slot_ne (Or.inl (hw _ (List.mem_of_getElem? (i := 29) rfl))) (Or.inr (hw _ (List.mem_of_getElem? (i := 31) rfl))) (by decide) (t := .int) (t' := .int) (by decide) (by decide)))
  have K67 := K54.wr W56 (Or.inl (List.mem_of_getElem? (i := 0) rfl))
  have Zs68 : n0 ≤ h56.size := Nat.le_trans Zs55 (Keep.of_wr W56).1
  have N56 := Fr.snoc X56 N43 g_a
  refine Go.of (st56) ?_
  show Go p e below T56 (mkF m 36 #[.val (.ref a), .val (.ref od), .val (.int u), .val (.int w), .val (.int z)] []) _
  refine Go.of (fun tg_ kk_ => XS.aloadN X56.here hx rfl (hb hby d13_36) rfl rfl kk_) ?_
  show Go p e below T56 (mkF m 37 #[.val (.ref a), .val (.ref od), .val (.int u), .val (.int w), .val (.int z)] [(.ref a)]) _
  refine Go.of (fun tg_ kk_ => XS.aloadN X56.here hx rfl (hb hby d13_37) rfl rfl kk_) ?_
  show Go p e below T56 (mkF m 38 #[.val (.ref a), .val (.ref od), .val (.int u), .val (.int w), .val (.int z)] [(.ref od), (.ref a)]) _
  obtain ⟨T69, X69, e69, st69⟩ := getF X56 hx hZ hown (host := "") (Or.inl (hw _ (List.mem_of_getElem? (i := 32) rfl))) Via.refl e56 F60 (g := (mkF m 38 #[.val (.ref a), .val (.ref od), .val (.int u), .val (.int w), .val (.int z)] [(.ref od), (.ref a)])) rfl rfl (hb hby d13_38)
  refine Go.of (st69) ?_
  show Go p e below T69 (mkF m 41 #[.val (.ref a), .val (.ref od), .val (.int u), .val (.int w), .val (.int z)] [(.int d), (.ref a)]) _
  refine Go.of (fun tg_ kk_ => XS.iconst X69.here hx rfl (hb hby d13_41) kk_) ?_
  show Go p e below T69 (mkF m 42 #[.val (.ref a), .val (.ref od), .val (.int u), .val (.int w), .val (.int z)] [(.int (1 : Int32)), (.int d), (.ref a)]) _
  refine Go.of (fun tg_ kk_ => XS.iadd X69.here hx rfl (hb hby d13_42) rfl kk_) ?_
  show Go p e below T69 (mkF m 43 #[.val (.ref a), .val (.ref od), .val (.int u), .val (.int w), .val (.int z)] [(.int (d + (1 : Int32))), (.ref a)]) _
  obtain ⟨T70, h70, X70, e70, W70, st70⟩ := putF X69 hx hZ hown (host := "") (Or.inl (hw _ (List.mem_of_getElem? (i := 32) rfl))) Via.refl e69 F62 F57 (Or.inr ⟨(hw _ (List.mem_of_getElem? (i := 33) rfl)), rfl, hnm⟩) (hw _ (List.mem_of_getElem? (i := 7) rfl)) (ty := .int) (by decide) rfl rfl (g := (mkF m 43 #[.val (.ref a), .val (.ref od), .val (.int u), .val (.int w), .val (.int z)] [(.int (d + (1 : Int32))), (.ref a)])) rfl rfl (hb hby d13_43)
  have Fw70 := F62.same W70
  have F71 := F57.wr W70
  have F72 := F58.other W70 (Or.inl hoa)
  have F73 := F59.other W70 (Or.inl hoa)
  have F74 := F60.other W70 (Or.inl hoa)
  have F76 := F63.other W70 (Or.inr (slot_ne (Or.inr (hw _ (List.mem_of_getElem? (i := 16) rfl))) (Or.inr (hw _ (List.mem_of_getElem? (i := 33) rfl))) (by decide) (t := (.array .byte)) (t' := .int) (by decide) (by decide)))
  have F77 := F64.other W70 (Or.inr (slot_ne (Or.inr (hw _ (List.mem_of_getElem? (i := 25) rfl))) (Or.inr (hw _ (List.mem_of_getElem? (i := 33) rfl))) (by decide) (t := (.object "com/example/attestry/attestry/DerReader$BerNote")) (t' := .int) (by decide) (by decide)))
  have F78 := F65.other W70 (Or.inr (slot_ne (Or.inr (hw _ (List.mem_of_getElem? (i := 27) rfl))) (Or.inr (hw _ (List.mem_of_getElem? (i := 33) rfl))) (by decide) (t := .int) (t' := .int) (by decide) (by decide)))
  have F79 := F66.other W70 (Or.inr (slot_ne (Or.inl (hw _ (List.mem_of_getElem? (i := 29) rfl))) (Or.inr (hw _ (List.mem_of_getElem? (i := 33) rfl))) (by decide) (t := .int) (t' := .int) (by decide) (by decide)))
  have F80 := Fw56.other W70 (Or.inr (slot_ne (Or.inr (hw _ (List.mem_of_getElem? (i := 31) rfl))) (Or.inr (hw _ (List.mem_of_getElem? (i := 33) rfl))) (by decide) (t := .int) (t' := .int) (by decide) (by decide)))
  have K81 := K67.wr W70 (Or.inl (List.mem_of_getElem? (i := 0) rfl))
  have Zs82 : n0 ≤ h70.size := Nat.le_trans Zs68 (Keep.of_wr W70).1
  have N70 := Fr.snoc X70 N56 g_a
  refine Go.of (st70) ?_
  show Go p e below T70 (mkF m 46 #[.val (.ref a), .val (.ref od), .val (.int u), .val (.int w), .val (.int z)] []) _
  obtain ⟨fs, hr, hrun, hended, hW, hsame⟩ := X70.leave (v := none) (fun _ => rfl)
  refine ⟨_, _, ?_, hrun, hended, _, _, rfl, ?_, ⟨_, rfl⟩, hW, hsame.mono (by decide) (by decide)⟩
  · exact X70.returnOut hx Bd.returns (hb hby d13_46) hr
  · show Q13 Z a od u w z b q d h0 n0 _ T70.heap _
    rw [e70]
    exact ⟨rfl, N70, K81, F76, F77, F78, F79, F80, Fw70⟩
theorem d10_0 : decode prog_3_method_42_code 0 = .ok (.aload_n 0, 1) := by decide +kernel
theorem d10_1 : decode prog_3_method_42_code 1 = .ok (.getfield 30, 3) := by decide +kernel
theorem d10_4 : decode prog_3_method_42_code 4 = .ok (.bipush 32, 2) := by decide +kernel
theorem d10_6 : decode prog_3_method_42_code 6 = .ok (.if_icmp .le 8, 3) := by decide +kernel
theorem d10_14 : decode prog_3_method_42_code 14 = .ok (.aload_n 0, 1) := by decide +kernel
theorem d10_15 : decode prog_3_method_42_code 15 = .ok (.getfield 24, 3) := by decide +kernel
theorem d10_18 : decode prog_3_method_42_code 18 = .ok (.istore 4, 2) := by decide +kernel
theorem d10_20 : decode prog_3_method_42_code 20 = .ok (.aload_n 0, 1) := by decide +kernel
theorem d10_21 : decode prog_3_method_42_code 21 = .ok (.iload_n 1, 1) := by decide +kernel
theorem d10_22 : decode prog_3_method_42_code 22 = .ok (.aload_n 2, 1) := by decide +kernel
theorem d10_23 : decode prog_3_method_42_code 23 = .ok (.invokevirtual 313, 3) := by decide +kernel
theorem d10_26 : decode prog_3_method_42_code 26 = .ok (.lstore 5, 2) := by decide +kernel
theorem d10_28 : decode prog_3_method_42_code 28 = .ok (.lload 5, 2) := by decide +kernel
theorem d10_30 : decode prog_3_method_42_code 30 = .ok (.ldc2_w 316, 3) := by decide +kernel
theorem d10_33 : decode prog_3_method_42_code 33 = .ok (.lcmp, 1) := by decide +kernel
theorem d10_34 : decode prog_3_method_42_code 34 = .ok (.ifCond .ne 7, 3) := by decide +kernel
theorem d10_41 : decode prog_3_method_42_code 41 = .ok (.iconst 0, 1) := by decide +kernel
theorem d10_42 : decode prog_3_method_42_code 42 = .ok (.istore 7, 2) := by decide +kernel
theorem d10_44 : decode prog_3_method_42_code 44 = .ok (.iload 7, 2) := by decide +kernel
theorem d10_46 : decode prog_3_method_42_code 46 = .ok (.ifCond .ne 18, 3) := by decide +kernel
theorem d10_49 : decode prog_3_method_42_code 49 = .ok (.aload_n 0, 1) := by decide +kernel
theorem d10_50 : decode prog_3_method_42_code 50 = .ok (.getfield 24, 3) := by decide +kernel
theorem d10_53 : decode prog_3_method_42_code 53 = .ok (.iload 4, 2) := by decide +kernel
theorem d10_55 : decode prog_3_method_42_code 55 = .ok (.isub, 1) := by decide +kernel
theorem d10_56 : decode prog_3_method_42_code 56 = .ok (.lload 5, 2) := by decide +kernel
theorem d10_58 : decode prog_3_method_42_code 58 = .ok (.invokestatic 318, 3) := by decide +kernel
theorem d10_61 : decode prog_3_method_42_code 61 = .ok (.if_icmp .le 91, 3) := by decide +kernel
theorem d10_152 : decode prog_3_method_42_code 152 = .ok (.iload 7, 2) := by decide +kernel
theorem d10_154 : decode prog_3_method_42_code 154 = .ok (.ifCond .eq 20, 3) := by decide +kernel
theorem d10_174 : decode prog_3_method_42_code 174 = .ok (.lload 5, 2) := by decide +kernel
theorem d10_176 : decode prog_3_method_42_code 176 = .ok (.aload_n 0, 1) := by decide +kernel
theorem d10_177 : decode prog_3_method_42_code 177 = .ok (.getfield 27, 3) := by decide +kernel
theorem d10_180 : decode prog_3_method_42_code 180 = .ok (.aload_n 0, 1) := by decide +kernel
theorem d10_181 : decode prog_3_method_42_code 181 = .ok (.getfield 24, 3) := by decide +kernel
theorem d10_184 : decode prog_3_method_42_code 184 = .ok (.isub, 1) := by decide +kernel
theorem d10_185 : decode prog_3_method_42_code 185 = .ok (.i2l, 1) := by decide +kernel
theorem d10_186 : decode prog_3_method_42_code 186 = .ok (.lcmp, 1) := by decide +kernel
theorem d10_187 : decode prog_3_method_42_code 187 = .ok (.ifCond .le 45, 3) := by decide +kernel
theorem d10_232 : decode prog_3_method_42_code 232 = .ok (.aload_n 0, 1) := by decide +kernel
theorem d10_233 : decode prog_3_method_42_code 233 = .ok (.getfield 24, 3) := by decide +kernel
theorem d10_236 : decode prog_3_method_42_code 236 = .ok (.lload 5, 2) := by decide +kernel
theorem d10_238 : decode prog_3_method_42_code 238 = .ok (.l2i, 1) := by decide +kernel
theorem d10_239 : decode prog_3_method_42_code 239 = .ok (.iadd, 1) := by decide +kernel
theorem d10_240 : decode prog_3_method_42_code 240 = .ok (.istore 8, 2) := by decide +kernel
theorem d10_242 : decode prog_3_method_42_code 242 = .ok (.iload 8, 2) := by decide +kernel
theorem d10_244 : decode prog_3_method_42_code 244 = .ok (.istore 9, 2) := by decide +kernel
theorem d10_246 : decode prog_3_method_42_code 246 = .ok (.new 8, 3) := by decide +kernel
theorem d10_249 : decode prog_3_method_42_code 249 = .ok (.dup, 1) := by decide +kernel
theorem d10_250 : decode prog_3_method_42_code 250 = .ok (.aload_n 0, 1) := by decide +kernel
theorem d10_251 : decode prog_3_method_42_code 251 = .ok (.iload_n 1, 1) := by decide +kernel
theorem d10_252 : decode prog_3_method_42_code 252 = .ok (.aload_n 0, 1) := by decide +kernel
theorem d10_253 : decode prog_3_method_42_code 253 = .ok (.getfield 24, 3) := by decide +kernel
theorem d10_256 : decode prog_3_method_42_code 256 = .ok (.iload 8, 2) := by decide +kernel
theorem d10_258 : decode prog_3_method_42_code 258 = .ok (.invokespecial 338, 3) := by decide +kernel
theorem d10_261 : decode prog_3_method_42_code 261 = .ok (.astore 10, 2) := by decide +kernel
theorem d10_263 : decode prog_3_method_42_code 263 = .ok (.aload_n 0, 1) := by decide +kernel
theorem d10_264 : decode prog_3_method_42_code 264 = .ok (.iload 9, 2) := by decide +kernel
theorem d10_266 : decode prog_3_method_42_code 266 = .ok (.putfield 24, 3) := by decide +kernel
theorem d10_269 : decode prog_3_method_42_code 269 = .ok (.aload 10, 2) := by decide +kernel
theorem d10_271 : decode prog_3_method_42_code 271 = .ok (.areturn, 1) := by decide +kernel
theorem ef_10 (m : MethodId) (x0 : Addr) (x1 : Int32) (x2 : Addr) (x3 : Int32) : entryFrame m #[(.ref x0), (.int x1), (.ref x2), (.int x3)] 11 = mkF m 0 #[.val (.ref x0), .val (.int x1), .val (.ref x2), .val (.int x3), .unset, .unset, .unset, .unset, .unset, .unset, .unset] [] := by first | (simp [entryFrame, mkF, argsToLocals, Value.category]; done) | rfl
def Q10 (Z : State) (u : Int32) (w : Addr) (a : Addr) (b : Addr) (q : Addr) (x : Int32) (pp : Int32) (y : Int32) (d : Int32) (f : Nat → Int32) (z : Int32) (h0 : Heap) (n0 : Nat) (v : Option Value) (h : Heap) (L : List Loc) : Prop := ∃ c2 : Addr, v = some (.ref c2) ∧ Fr n0 L ∧ Keep h0 h [a] ∧ n0 ≤ c2 ∧ h0.size ≤ c2 ∧ Exa Z h c2 "com/example/attestry/attestry/DerReader" ∧ Fld Z h a "com/example/attestry/attestry/DerReader" "bytes" "[B" (.ref b) ∧ Fld Z h a "com/example/attestry/attestry/DerReader" "berNote" "Lcom/example/attestry/attestry/DerReader$BerNote;" (.ref q) ∧ Fld Z h a "com/example/attestry/attestry/DerReader" "start" "I" (.int x) ∧ Fld Z h a "com/example/attestry/attestry/DerReader" "position" "I" (.int ((pp + (1 : Int32)) + z.toInt64.toInt32)) ∧ Fld Z h a "com/example/attestry/attestry/DerReader" "end" "I" (.int y) ∧ Fld Z h a "com/example/attestry/attestry/DerReader" "depth" "I" (.int d) ∧ Fld Z h c2 "com/example/attestry/attestry/DerReader" "bytes" "[B" (.ref b) ∧ Fld Z h c2 "com/example/attestry/attestry/DerReader" "berNote" "Lcom/example/attestry/attestry/DerReader$BerNote;" (.ref q) ∧ Fld Z h c2 "com/example/attestry/attestry/DerReader" "start" "I" (.int u) ∧ Fld Z h c2 "com/example/attestry/attestry/DerReader" "position" "I" (.int (pp + (1 : Int32))) ∧ Fld Z h c2 "com/example/attestry/attestry/DerReader" "end" "I" (.int ((pp + (1 : Int32)) + z.toInt64.toInt32)) ∧ Fld Z h c2 "com/example/attestry/attestry/DerReader" "depth" "I" (.int (d + (1 : Int32)))
set_option maxRecDepth 65536 in
set_option maxHeartbeats 40000000 in
theorem rm10 (l : Launch) (Z : State) (a0 : Array Value) (hw : ∀ d ∈ tables_1, d.before a0 Z = true) (ws : List Jvm.Cond) (u : Int32) (w : Addr) (a : Addr) (b : Addr) (q : Addr) (x : Int32) (pp : Int32) (y : Int32) (d : Int32) (f : Nat → Int32) (z : Int32) (h0 : Heap) (n0 : Nat) (Z0 : n0 ≤ h0.size) (g_a : n0 ≤ a) (E_a : Exa Z h0 a "com/example/attestry/attestry/DerReader") (Fbytes : Fld Z h0 a "com/example/attestry/attestry/DerReader" "bytes" "[B" (.ref b)) (FberNote : Fld Z h0 a "com/example/attestry/attestry/DerReader" "berNote" "Lcom/example/attestry/attestry/DerReader$BerNote;" (.ref q)) (Fstart : Fld Z h0 a "com/example/attestry/attestry/DerReader" "start" "I" (.int x)) (Fposition : Fld Z h0 a "com/example/attestry/attestry/DerReader" "position" "I" (.int pp)) (Fend : Fld Z h0 a "com/example/attestry/attestry/DerReader" "end" "I" (.int y)) (Fdepth : Fld Z h0 a "com/example/attestry/attestry/DerReader" "depth" "I" (.int d)) (Ab : Af Z h0 b .byte 10 f) (hab : a ≠ b) (hlt : pp < y) (hin : ¬ (pp < 0) ∧ (pp).toNatClampNeg < 10) (hz : f (pp).toNatClampNeg &&& (255 : Int32) = z) (hz8 : z < (128 : Int32)) (hz0 : ¬ (z < (0 : Int32))) (hd : ¬ ((32 : Int32) < d)) (hle : ¬ ((y - (pp + (1 : Int32))).toInt64 < z.toInt64)) :
    MetFree l (⟨"com/example/attestry/attestry/DerReader", "body", "(ILjava/lang/String;Z)Lcom/example/attestry/attestry/DerReader;"⟩ : MethodName) (head1 (Jvm.Cond.code (⟨"com/example/attestry/attestry/DerReader", "body", "(ILjava/lang/String;Z)Lcom/example/attestry/attestry/DerReader;"⟩ : MethodName) prog_3_method_42_code 11 (some (.object "com/example/attestry/attestry/DerReader")) :: ws) ({ frames := 3, cells := 1, slots := 6, locals := 45 } : Room)) (fun aa_ U => aa_ = #[(.ref a), (.int u), (.ref w), (.int (0 : Int32))] ∧ Z.Warmed39 U.vm ∧ U.heap = h0) (fun _ _ _ _ _ => True) (fun _ U o U' => ∃ vv_ LL_, o = .returned vv_ ∧ Q10 Z u w a b q x pp y d f z h0 n0 vv_ U'.heap LL_ ∧ FrameEnd U o U' LL_ ({ frames := 3, cells := 1, slots := 6, locals := 45 } : Room).cells ({ frames := 3, cells := 1, slots := 6, locals := 45 } : Room).slots) := by
  refine MetFree.of_bodySF (plainFor_of_name pn_2) hisR ?_
  intro p e s m args below meth c s₁ Bd hml0 hP hK
  obtain ⟨rfl, hZ, hh⟩ := hP
  have hx := Bd.exec
  have hby := Bd.bytes
  have hml : c.maxLocals = 11 := hml0
  have hown : s.vm.findClass "com/example/attestry/attestry/DerReader" = some m.cls := findClass_of_methodNamed Bd.named
  have hnm := (name_of_methodNamed Bd.named Bd.method).1
  have X0 : Stand p l e ({ frames := 3, cells := 1, slots := 6, locals := 45 } : Room) s m #[(.ref a), (.int u), (.ref w), (.int (0 : Int32))] below meth c s₁ [] 0 0 := Stand.of_body Bd
  have e0 : s₁.heap = h0 := by rw [← hh, Bd.state]; rfl
  have N0 := Fr.nil n0
  have K0 : Keep h0 h0 [a] := Keep.refl h0 _
  refine Go.enter (P := fun o U' => ∃ vv_ LL_, o = .returned vv_ ∧ Q10 Z u w a b q x pp y d f z h0 n0 vv_ U'.heap LL_ ∧ FrameEnd s o U' LL_ ({ frames := 3, cells := 1, slots := 6, locals := 45 } : Room).cells ({ frames := 3, cells := 1, slots := 6, locals := 45 } : Room).slots) (ef_10 m a u w (0 : Int32)) ?_
  show Go p e below s₁ (mkF m 0 #[.val (.ref a), .val (.int u), .val (.ref w), .val (.int (0 : Int32)), .unset, .unset, .unset, .unset, .unset, .unset, .unset] []) _
  refine Go.of (fun tg_ kk_ => XS.aloadN X0.here hx rfl (hb hby d10_0) rfl rfl kk_) ?_
  show Go p e below s₁ (mkF m 1 #[.val (.ref a), .val (.int u), .val (.ref w), .val (.int (0 : Int32)), .unset, .unset, .unset, .unset, .unset, .unset, .unset] [(.ref a)]) _
  obtain ⟨T1, X1, e1, st1⟩ := getF X0 hx hZ hown (host := "") (Or.inl (hw _ (List.mem_of_getElem? (i := 32) rfl))) Via.refl e0 Fdepth (g := (mkF m 1 #[.val (.ref a), .val (.int u), .val (.ref w), .val (.int (0 : Int32)), .unset, .unset, .unset, .unset, .unset, .unset, .unset] [(.ref a)])) rfl rfl (hb hby d10_1)
  refine Go.of (st1) ?_
  show Go p e below T1 (mkF m 4 #[.val (.ref a), .val (.int u), .val (.ref w), .val (.int (0 : Int32)), .unset, .unset, .unset, .unset, .unset, .unset, .unset] [(.int d)]) _
  refine Go.of (fun tg_ kk_ => XS.bipush X1.here hx rfl (hb hby d10_4) kk_) ?_
  show Go p e below T1 (mkF m 6 #[.val (.ref a), .val (.int u), .val (.ref w), .val (.int (0 : Int32)), .unset, .unset, .unset, .unset, .unset, .unset, .unset] [(.int (32 : Int32)), (.int d)]) _
  refine Go.of (fun tg_ kk_ => XS.icmpYes X1.here hx rfl (pc0 := 6) (pc' := 14) rfl (hb hby d10_6) rfl (flt (show ¬ ((32 : Int32) < d) from hd)).2.2.2 (by decide) (by decide) kk_) ?_
  show Go p e below T1 (mkF m 14 #[.val (.ref a), .val (.int u), .val (.ref w), .val (.int (0 : Int32)), .unset, .unset, .unset, .unset, .unset, .unset, .unset] []) _
  refine Go.of (fun tg_ kk_ => XS.aloadN X1.here hx rfl (hb hby d10_14) rfl rfl kk_) ?_
  show Go p e below T1 (mkF m 15 #[.val (.ref a), .val (.int u), .val (.ref w), .val (.int (0 : Int32)), .unset, .unset, .unset, .unset, .unset, .unset, .unset] [(.ref a)]) _
  obtain ⟨T2, X2, e2, st2⟩ := getF X1 hx hZ hown (host := "") (Or.inl (hw _ (List.mem_of_getElem? (i := 28) rfl))) Via.refl e1 Fposition (g := (mkF m 15 #[.val (.ref a), .val (.int u), .val (.ref w), .val (.int (0 : Int32)), .unset, .unset, .unset, .unset, .unset, .unset, .unset] [(.ref a)])) rfl rfl (hb hby d10_15)
  refine Go.of (st2) ?_
  show Go p e below T2 (mkF m 18 #[.val (.ref a), .val (.int u), .val (.ref w), .val (.int (0 : Int32)), .unset, .unset, .unset, .unset, .unset, .unset, .unset] [(.int pp)]) _
  refine Go.of (fun tg_ kk_ => XS.istore X2.here hx rfl (hb hby d10_18) rfl (l' := #[.val (.ref a), .val (.int u), .val (.ref w), .val (.int (0 : Int32)), .val (.int pp), .unset, .unset, .unset, .unset, .unset, .unset]) rfl kk_) ?_
  show Go p e below T2 (mkF m 20 #[.val (.ref a), .val (.int u), .val (.ref w), .val (.int (0 : Int32)), .val (.int pp), .unset, .unset, .unset, .unset, .unset, .unset] []) _
  refine Go.of (fun tg_ kk_ => XS.aloadN X2.here hx rfl (hb hby d10_20) rfl rfl kk_) ?_
  show Go p e below T2 (mkF m 21 #[.val (.ref a), .val (.int u), .val (.ref w), .val (.int (0 : Int32)), .val (.int pp), .unset, .unset, .unset, .unset, .unset, .unset] [(.ref a)]) _
  refine Go.of (fun tg_ kk_ => XS.iloadN X2.here hx rfl (hb hby d10_21) rfl kk_) ?_
  show Go p e below T2 (mkF m 22 #[.val (.ref a), .val (.int u), .val (.ref w), .val (.int (0 : Int32)), .val (.int pp), .unset, .unset, .unset, .unset, .unset, .unset] [(.int u), (.ref a)]) _
  refine Go.of (fun tg_ kk_ => XS.aloadN X2.here hx rfl (hb hby d10_22) rfl rfl kk_) ?_
  show Go p e below T2 (mkF m 23 #[.val (.ref a), .val (.int u), .val (.ref w), .val (.int (0 : Int32)), .val (.int pp), .unset, .unset, .unset, .unset, .unset, .unset] [(.ref w), (.int u), (.ref a)]) _
  obtain ⟨cq3, qc3, qd3⟩ := E_a.cell
  obtain ⟨_, _, ⟨T3, L3, k3, n3⟩, -, X3, ⟨Lc3, hQ3, l3, y3, z3⟩, st3⟩ := X2.privateBack hx (y := (⟨"com/example/attestry/attestry/DerReader", "length", "(ILjava/lang/String;)J"⟩ : MethodName)) hown (mvT hZ (hw _ (List.mem_of_getElem? (i := 68) rfl))) (mvT hZ (hw _ (List.mem_of_getElem? (i := 69) rfl))) (own_selp (y := (⟨"com/example/attestry/attestry/DerReader", "length", "(ILjava/lang/String;)J"⟩ : MethodName)) (mvT hZ (hw _ (List.mem_of_getElem? (i := 7) rfl))) (Cond.privateMethod_at (mvP hZ (hw _ (List.mem_of_getElem? (i := 70) rfl)) (args := #[]))) (mvT hZ (hw _ (List.mem_of_getElem? (i := 69) rfl))) (by decide)) (Cond.privateMethod_at (mvP hZ (hw _ (List.mem_of_getElem? (i := 70) rfl)) (args := #[]))) (mvT hZ (hw _ (List.mem_of_getElem? (i := 71) rfl))) (by decide) (backOf (W := 0) (rm11 l Z a0 hw [] u w a b q x pp y d f z h0 n0 Z0 g_a E_a Fbytes FberNote Fstart Fposition Fend Fdepth Ab hab hlt hin hz hz8) hZ (hw _ (List.mem_of_getElem? (i := 71) rfl)) (hw _ (List.mem_of_getElem? (i := 8) rfl)) (by decide) (by decide)) (g := (mkF m 23 #[.val (.ref a), .val (.int u), .val (.ref w), .val (.int (0 : Int32)), .val (.int pp), .unset, .unset, .unset, .unset, .unset, .unset] [(.ref w), (.int u), (.ref a)])) rfl (by rw [hml]; rfl) (Steps.refl _) (a := a) (by rw [e2]; exact qc3) qd3 (argsL := [(.int u), (.ref w)]) (rest := []) (lenOf pd_3 rfl) rfl (by show 2 * 0 + _ ≤ _; exact Nat.le_of_eq rfl) (hb hby d10_23) (fun _ _ => ⟨rfl, e2, (by decide : 0 + 0 ≤ _), (by decide : 0 + 0 ≤ _)⟩)
  dsimp only [Pt.U, Pt.locs, Pt.cells, Pt.slots] at X3 l3 y3 z3 st3 hQ3
  have X3 := own_stand X3 l3 y3 z3
  obtain ⟨rfl, N3q, K3q, Fbytes_3, FberNote_3, Fstart_3, Fposition_3, Fend_3, Fdepth_3⟩ := hQ3
  have N3 := Fr.app N0 N3q
  have F4 := E_a.keep K3q
  have F5 := Ab.keep K3q (ninS (Ne.symm hab) nin0)
  have K12 := K0.trans K3q (allS (Or.inl (List.mem_of_getElem? (i := 0) rfl)) all0)
  have Zs13 : n0 ≤ T3.heap.size := Nat.le_trans Z0 K3q.1
  refine Go.of (fun tg_ kk_ => st3.trans kk_) ?_
  show Go p e below T3 (mkF m 26 #[.val (.ref a), .val (.int u), .val (.ref w), .val (.int (0 : Int32)), .val (.int pp), .unset, .unset, .unset, .unset, .unset, .unset] [(.long z.toInt64)]) _
  refine Go.of (fun tg_ kk_ => XS.lstore X3.here hx rfl (hb hby d10_26) rfl (l' := #[.val (.ref a), .val (.int u), .val (.ref w), .val (.int (0 : Int32)), .val (.int pp), .val (.long z.toInt64), .second, .unset, .unset, .unset, .unset]) rfl kk_) ?_
  show Go p e below T3 (mkF m 28 #[.val (.ref a), .val (.int u), .val (.ref w), .val (.int (0 : Int32)), .val (.int pp), .val (.long z.toInt64), .second, .unset, .unset, .unset, .unset] []) _
  refine Go.of (fun tg_ kk_ => XS.lload X3.here hx rfl (hb hby d10_28) rfl kk_) ?_
  show Go p e below T3 (mkF m 30 #[.val (.ref a), .val (.int u), .val (.ref w), .val (.int (0 : Int32)), .val (.int pp), .val (.long z.toInt64), .second, .unset, .unset, .unset, .unset] [(.long z.toInt64)]) _
  refine Go.of (X3.ldc2Long hx hown (mvT hZ (hw _ (List.mem_of_getElem? (i := 72) rfl))) (g := (mkF m 30 #[.val (.ref a), .val (.int u), .val (.ref w), .val (.int (0 : Int32)), .val (.int pp), .val (.long z.toInt64), .second, .unset, .unset, .unset, .unset] [(.long z.toInt64)])) rfl (hb hby d10_30)) ?_
  show Go p e below T3 (mkF m 33 #[.val (.ref a), .val (.int u), .val (.ref w), .val (.int (0 : Int32)), .val (.int pp), .val (.long z.toInt64), .second, .unset, .unset, .unset, .unset] [(.long (-1 : Int64)), (.long z.toInt64)]) _
  refine Go.of (fun tg_ kk_ => XS.lcmp X3.here hx rfl (hb hby d10_33) rfl kk_) ?_
  show Go p e below T3 (mkF m 34 #[.val (.ref a), .val (.int u), .val (.ref w), .val (.int (0 : Int32)), .val (.int pp), .val (.long z.toInt64), .second, .unset, .unset, .unset, .unset] [(.int (lcmpW z.toInt64 (-1 : Int64)))]) _
  refine Go.of (fun tg_ kk_ => XS.ifYes X3.here hx rfl (pc0 := 34) (pc' := 41) rfl (hb hby d10_34) rfl ((if0 _ _).trans (feq (fun q => (show ¬ (z.toInt64 = (-1 : Int64)) from (own_lm1 hz0)) ((lw_eq z.toInt64 (-1 : Int64)).mp q))).2) (by decide) (by decide) kk_) ?_
  show Go p e below T3 (mkF m 41 #[.val (.ref a), .val (.int u), .val (.ref w), .val (.int (0 : Int32)), .val (.int pp), .val (.long z.toInt64), .second, .unset, .unset, .unset, .unset] []) _
  refine Go.of (fun tg_ kk_ => XS.iconst X3.here hx rfl (hb hby d10_41) kk_) ?_
  show Go p e below T3 (mkF m 42 #[.val (.ref a), .val (.int u), .val (.ref w), .val (.int (0 : Int32)), .val (.int pp), .val (.long z.toInt64), .second, .unset, .unset, .unset, .unset] [(.int (0 : Int32))]) _
  refine Go.of (fun tg_ kk_ => XS.istore X3.here hx rfl (hb hby d10_42) rfl (l' := #[.val (.ref a), .val (.int u), .val (.ref w), .val (.int (0 : Int32)), .val (.int pp), .val (.long z.toInt64), .second, .val (.int (0 : Int32)), .unset, .unset, .unset]) rfl kk_) ?_
  show Go p e below T3 (mkF m 44 #[.val (.ref a), .val (.int u), .val (.ref w), .val (.int (0 : Int32)), .val (.int pp), .val (.long z.toInt64), .second, .val (.int (0 : Int32)), .unset, .unset, .unset] []) _
  refine Go.of (fun tg_ kk_ => XS.iload X3.here hx rfl (hb hby d10_44) rfl kk_) ?_
  show Go p e below T3 (mkF m 46 #[.val (.ref a), .val (.int u), .val (.ref w), .val (.int (0 : Int32)), .val (.int pp), .val (.long z.toInt64), .second, .val (.int (0 : Int32)), .unset, .unset, .unset] [(.int (0 : Int32))]) _
  refine Go.of (fun tg_ kk_ => XS.ifNo X3.here hx rfl (hb hby d10_46) rfl ((if0 _ _).trans (teq (show (0 : Int32) = (0 : Int32) by decide)).2) kk_) ?_
  show Go p e below T3 (mkF m 49 #[.val (.ref a), .val (.int u), .val (.ref w), .val (.int (0 : Int32)), .val (.int pp), .val (.long z.toInt64), .second, .val (.int (0 : Int32)), .unset, .unset, .unset] []) _
  refine Go.of (fun tg_ kk_ => XS.aloadN X3.here hx rfl (hb hby d10_49) rfl rfl kk_) ?_
  show Go p e below T3 (mkF m 50 #[.val (.ref a), .val (.int u), .val (.ref w), .val (.int (0 : Int32)), .val (.int pp), .val (.long z.toInt64), .second, .val (.int (0 : Int32)), .unset, .unset, .unset] [(.ref a)]) _
  obtain ⟨T14, X14, e14, st14⟩ := getF X3 hx hZ hown (host := "") (Or.inl (hw _ (List.mem_of_getElem? (i := 28) rfl))) Via.refl rfl Fposition_3 (g := (mkF m 50 #[.val (.ref a), .val (.int u), .val (.ref w), .val (.int (0 : Int32)), .val (.int pp), .val (.long z.toInt64), .second, .val (.int (0 : Int32)), .unset, .unset, .unset] [(.ref a)])) rfl rfl (hb hby d10_50)
  refine Go.of (st14) ?_
  show Go p e below T14 (mkF m 53 #[.val (.ref a), .val (.int u), .val (.ref w), .val (.int (0 : Int32)), .val (.int pp), .val (.long z.toInt64), .second, .val (.int (0 : Int32)), .unset, .unset, .unset] [(.int (pp + (1 : Int32)))]) _
  refine Go.of (fun tg_ kk_ => XS.iload X14.here hx rfl (hb hby d10_53) rfl kk_) ?_
  show Go p e below T14 (mkF m 55 #[.val (.ref a), .val (.int u), .val (.ref w), .val (.int (0 : Int32)), .val (.int pp), .val (.long z.toInt64), .second, .val (.int (0 : Int32)), .unset, .unset, .unset] [(.int pp), (.int (pp + (1 : Int32)))]) _
  refine Go.of (fun tg_ kk_ => XS.isub X14.here hx rfl (hb hby d10_55) rfl kk_) ?_
  show Go p e below T14 (mkF m 56 #[.val (.ref a), .val (.int u), .val (.ref w), .val (.int (0 : Int32)), .val (.int pp), .val (.long z.toInt64), .second, .val (.int (0 : Int32)), .unset, .unset, .unset] [(.int ((pp + (1 : Int32)) - pp))]) _
  refine Go.of (fun tg_ kk_ => XS.lload X14.here hx rfl (hb hby d10_56) rfl kk_) ?_
  show Go p e below T14 (mkF m 58 #[.val (.ref a), .val (.int u), .val (.ref w), .val (.int (0 : Int32)), .val (.int pp), .val (.long z.toInt64), .second, .val (.int (0 : Int32)), .unset, .unset, .unset] [(.long z.toInt64), (.int ((pp + (1 : Int32)) - pp))]) _
  obtain ⟨_, _, ⟨T15, L15, k15, n15⟩, -, X15, ⟨Lc15, hQ15, l15, y15, z15⟩, st15⟩ := Jvm.LawKit.callS X14 hx (y := (⟨"com/example/attestry/attestry/DerReader", "lengthOctets", "(J)I"⟩ : MethodName)) hown (mvT hZ (hw _ (List.mem_of_getElem? (i := 73) rfl))) (mvT hZ (hw _ (List.mem_of_getElem? (i := 74) rfl))) (mvT hZ (hw _ (List.mem_of_getElem? (i := 8) rfl))) (mvT hZ (hw _ (List.mem_of_getElem? (i := 75) rfl))) (by decide) (backOf (W := 1) (rm12 l Z a0 hw [] z.toInt64 T3.heap n0 Zs13 (own_l128 hz8 hz0)) hZ (hw _ (List.mem_of_getElem? (i := 75) rfl)) (hw _ (List.mem_of_getElem? (i := 8) rfl)) (by decide) (by decide)) (g := (mkF m 58 #[.val (.ref a), .val (.int u), .val (.ref w), .val (.int (0 : Int32)), .val (.int pp), .val (.long z.toInt64), .second, .val (.int (0 : Int32)), .unset, .unset, .unset] [(.long z.toInt64), (.int ((pp + (1 : Int32)) - pp))])) rfl (by rw [hml]; rfl) (argsL := [(.long z.toInt64)]) (rest := [(.int ((pp + (1 : Int32)) - pp))]) (lenOf pd_4 rfl) rfl (by show 2 * 0 + _ ≤ _; exact Nat.le_of_eq rfl) (hb hby d10_58) (fun _ _ => ⟨rfl, e14, (by decide : 0 + 0 ≤ _), (by decide : 0 + 0 ≤ _)⟩)
  dsimp only [Pt.U, Pt.locs, Pt.cells, Pt.slots] at X15 l15 y15 z15 st15 hQ15
  have X15 := own_stand X15 l15 y15 z15
  obtain ⟨rfl, N15q, e15⟩ := hQ15
  have N15 := Fr.app N3 N15q
  refine Go.of (st15) ?_
  show Go p e below T15 (mkF m 61 #[.val (.ref a), .val (.int u), .val (.ref w), .val (.int (0 : Int32)), .val (.int pp), .val (.long z.toInt64), .second, .val (.int (0 : Int32)), .unset, .unset, .unset] [(.int (1 : Int32)), (.int ((pp + (1 : Int32)) - pp))]) _
  refine Go.of (fun tg_ kk_ => XS.icmpYes X15.here hx rfl (pc0 := 61) (pc' := 152) rfl (hb hby d10_61) rfl (flt (show ¬ ((1 : Int32) < ((pp + (1 : Int32)) - pp)) from (own_one1 pp))).2.2.2 (by decide) (by decide) kk_) ?_
  show Go p e below T15 (mkF m 152 #[.val (.ref a), .val (.int u), .val (.ref w), .val (.int (0 : Int32)), .val (.int pp), .val (.long z.toInt64), .second, .val (.int (0 : Int32)), .unset, .unset, .unset] []) _
  refine Go.of (fun tg_ kk_ => XS.iload X15.here hx rfl (hb hby d10_152) rfl kk_) ?_
  show Go p e below T15 (mkF m 154 #[.val (.ref a), .val (.int u), .val (.ref w), .val (.int (0 : Int32)), .val (.int pp), .val (.long z.toInt64), .second, .val (.int (0 : Int32)), .unset, .unset, .unset] [(.int (0 : Int32))]) _
  refine Go.of (fun tg_ kk_ => XS.ifYes X15.here hx rfl (pc0 := 154) (pc' := 174) rfl (hb hby d10_154) rfl ((if0 _ _).trans (teq (show (0 : Int32) = (0 : Int32) by decide)).1) (by decide) (by decide) kk_) ?_
  show Go p e below T15 (mkF m 174 #[.val (.ref a), .val (.int u), .val (.ref w), .val (.int (0 : Int32)), .val (.int pp), .val (.long z.toInt64), .second, .val (.int (0 : Int32)), .unset, .unset, .unset] []) _
  refine Go.of (fun tg_ kk_ => XS.lload X15.here hx rfl (hb hby d10_174) rfl kk_) ?_
  show Go p e below T15 (mkF m 176 #[.val (.ref a), .val (.int u), .val (.ref w), .val (.int (0 : Int32)), .val (.int pp), .val (.long z.toInt64), .second, .val (.int (0 : Int32)), .unset, .unset, .unset] [(.long z.toInt64)]) _
  refine Go.of (fun tg_ kk_ => XS.aloadN X15.here hx rfl (hb hby d10_176) rfl rfl kk_) ?_
  show Go p e below T15 (mkF m 177 #[.val (.ref a), .val (.int u), .val (.ref w), .val (.int (0 : Int32)), .val (.int pp), .val (.long z.toInt64), .second, .val (.int (0 : Int32)), .unset, .unset, .unset] [(.ref a), (.long z.toInt64)]) _
  obtain ⟨T16, X16, e16, st16⟩ := getF X15 hx hZ hown (host := "") (Or.inl (hw _ (List.mem_of_getElem? (i := 30) rfl))) Via.refl e15 Fend_3 (g := (mkF m 177 #[.val (.ref a), .val (.int u), .val (.ref w), .val (.int (0 : Int32)), .val (.int pp), .val (.long z.toInt64), .second, .val (.int (0 : Int32)), .unset, .unset, .unset] [(.ref a), (.long z.toInt64)])) rfl rfl (hb hby d10_177)
  refine Go.of (st16) ?_
  show Go p e below T16 (mkF m 180 #[.val (.ref a), .val (.int u), .val (.ref w), .val (.int (0 : Int32)), .val (.int pp), .val (.long z.toInt64), .second, .val (.int (0 : Int32)), .unset, .unset, .unset] [(.int y), (.long z.toInt64)]) _
  refine Go.of (fun tg_ kk_ => XS.aloadN X16.here hx rfl (hb hby d10_180) rfl rfl kk_) ?_
  show Go p e below T16 (mkF m 181 #[.val (.ref a), .val (.int u), .val (.ref w), .val (.int (0 : Int32)), .val (.int pp), .val (.long z.toInt64), .second, .val (.int (0 : Int32)), .unset, .unset, .unset] [(.ref a), (.int y), (.long z.toInt64)]) _
  obtain ⟨T17, X17, e17, st17⟩ := getF X16 hx hZ hown (host := "") (Or.inl (hw _ (List.mem_of_getElem? (i := 28) rfl))) Via.refl e16 Fposition_3 (g := (mkF m 181 #[.val (.ref a), .val (.int u), .val (.ref w), .val (.int (0 : Int32)), .val (.int pp), .val (.long z.toInt64), .second, .val (.int (0 : Int32)), .unset, .unset, .unset] [(.ref a), (.int y), (.long z.toInt64)])) rfl rfl (hb hby d10_181)
  refine Go.of (st17) ?_
  show Go p e below T17 (mkF m 184 #[.val (.ref a), .val (.int u), .val (.ref w), .val (.int (0 : Int32)), .val (.int pp), .val (.long z.toInt64), .second, .val (.int (0 : Int32)), .unset, .unset, .unset] [(.int (pp + (1 : Int32))), (.int y), (.long z.toInt64)]) _
  refine Go.of (fun tg_ kk_ => XS.isub X17.here hx rfl (hb hby d10_184) rfl kk_) ?_
  show Go p e below T17 (mkF m 185 #[.val (.ref a), .val (.int u), .val (.ref w), .val (.int (0 : Int32)), .val (.int pp), .val (.long z.toInt64), .second, .val (.int (0 : Int32)), .unset, .unset, .unset] [(.int (y - (pp + (1 : Int32)))), (.long z.toInt64)]) _
  refine Go.of (fun tg_ kk_ => XS.i2l X17.here hx rfl (hb hby d10_185) rfl kk_) ?_
  show Go p e below T17 (mkF m 186 #[.val (.ref a), .val (.int u), .val (.ref w), .val (.int (0 : Int32)), .val (.int pp), .val (.long z.toInt64), .second, .val (.int (0 : Int32)), .unset, .unset, .unset] [(.long ((y - (pp + (1 : Int32))).toInt64)), (.long z.toInt64)]) _
  refine Go.of (fun tg_ kk_ => XS.lcmp X17.here hx rfl (hb hby d10_186) rfl kk_) ?_
  show Go p e below T17 (mkF m 187 #[.val (.ref a), .val (.int u), .val (.ref w), .val (.int (0 : Int32)), .val (.int pp), .val (.long z.toInt64), .second, .val (.int (0 : Int32)), .unset, .unset, .unset] [(.int (lcmpW z.toInt64 ((y - (pp + (1 : Int32))).toInt64)))]) _
  refine Go.of (fun tg_ kk_ => XS.ifYes X17.here hx rfl (pc0 := 187) (pc' := 232) rfl (hb hby d10_187) rfl ((if0 _ _).trans (flt (fun q => (show ¬ (((y - (pp + (1 : Int32))).toInt64) < z.toInt64) from hle) ((lw_gt z.toInt64 ((y - (pp + (1 : Int32))).toInt64)).mp q))).2.2.2) (by decide) (by decide) kk_) ?_
  show Go p e below T17 (mkF m 232 #[.val (.ref a), .val (.int u), .val (.ref w), .val (.int (0 : Int32)), .val (.int pp), .val (.long z.toInt64), .second, .val (.int (0 : Int32)), .unset, .unset, .unset] []) _
  refine Go.of (fun tg_ kk_ => XS.aloadN X17.here hx rfl (hb hby d10_232) rfl rfl kk_) ?_
  show Go p e below T17 (mkF m 233 #[.val (.ref a), .val (.int u), .val (.ref w), .val (.int (0 : Int32)), .val (.int pp), .val (.long z.toInt64), .second, .val (.int (0 : Int32)), .unset, .unset, .unset] [(.ref a)]) _
  obtain ⟨T18, X18, e18, st18⟩ := getF X17 hx hZ hown (host := "") (Or.inl (hw _ (List.mem_of_getElem? (i := 28) rfl))) Via.refl e17 Fposition_3 (g := (mkF m 233 #[.val (.ref a), .val (.int u), .val (.ref w), .val (.int (0 : Int32)), .val (.int pp), .val (.long z.toInt64), .second, .val (.int (0 : Int32)), .unset, .unset, .unset] [(.ref a)])) rfl rfl (hb hby d10_233)
  refine Go.of (st18) ?_
  show Go p e below T18 (mkF m 236 #[.val (.ref a), .val (.int u), .val (.ref w), .val (.int (0 : Int32)), .val (.int pp), .val (.long z.toInt64), .second, .val (.int (0 : Int32)), .unset, .unset, .unset] [(.int (pp + (1 : Int32)))]) _
  refine Go.of (fun tg_ kk_ => XS.lload X18.here hx rfl (hb hby d10_236) rfl kk_) ?_
  show Go p e below T18 (mkF m 238 #[.val (.ref a), .val (.int u), .val (.ref w), .val (.int (0 : Int32)), .val (.int pp), .val (.long z.toInt64), .second, .val (.int (0 : Int32)), .unset, .unset, .unset] [(.long z.toInt64), (.int (pp + (1 : Int32)))]) _
  refine Go.of (fun tg_ kk_ => XS.l2i X18.here hx rfl (hb hby d10_238) rfl kk_) ?_
  show Go p e below T18 (mkF m 239 #[.val (.ref a), .val (.int u), .val (.ref w), .val (.int (0 : Int32)), .val (.int pp), .val (.long z.toInt64), .second, .val (.int (0 : Int32)), .unset, .unset, .unset] [(.int (z.toInt64.toInt32)), (.int (pp + (1 : Int32)))]) _
  refine Go.of (fun tg_ kk_ => XS.iadd X18.here hx rfl (hb hby d10_239) rfl kk_) ?_
  show Go p e below T18 (mkF m 240 #[.val (.ref a), .val (.int u), .val (.ref w), .val (.int (0 : Int32)), .val (.int pp), .val (.long z.toInt64), .second, .val (.int (0 : Int32)), .unset, .unset, .unset] [(.int ((pp + (1 : Int32)) + (z.toInt64.toInt32)))]) _
  refine Go.of (fun tg_ kk_ => XS.istore X18.here hx rfl (hb hby d10_240) rfl (l' := #[.val (.ref a), .val (.int u), .val (.ref w), .val (.int (0 : Int32)), .val (.int pp), .val (.long z.toInt64), .second, .val (.int (0 : Int32)), .val (.int ((pp + (1 : Int32)) + (z.toInt64.toInt32))), .unset, .unset]) rfl kk_) ?_
  show Go p e below T18 (mkF m 242 #[.val (.ref a), .val (.int u), .val (.ref w), .val (.int (0 : Int32)), .val (.int pp), .val (.long z.toInt64), .second, .val (.int (0 : Int32)), .val (.int ((pp + (1 : Int32)) + (z.toInt64.toInt32))), .unset, .unset] []) _
  refine Go.of (fun tg_ kk_ => XS.iload X18.here hx rfl (hb hby d10_242) rfl kk_) ?_
  show Go p e below T18 (mkF m 244 #[.val (.ref a), .val (.int u), .val (.ref w), .val (.int (0 : Int32)), .val (.int pp), .val (.long z.toInt64), .second, .val (.int (0 : Int32)), .val (.int ((pp + (1 : Int32)) + (z.toInt64.toInt32))), .unset, .unset] [(.int ((pp + (1 : Int32)) + (z.toInt64.toInt32)))]) _
  refine Go.of (fun tg_ kk_ => XS.istore X18.here hx rfl (hb hby d10_244) rfl (l' := #[.val (.ref a), .val (.int u), .val (.ref w), .val (.int (0 : Int32)), .val (.int pp), .val (.long z.toInt64), .second, .val (.int (0 : Int32)), .val (.int ((pp + (1 : Int32)) + (z.toInt64.toInt32))), .val (.int ((pp + (1 : Int32)) + (z.toInt64.toInt32))), .unset]) rfl kk_) ?_
  show Go p e below T18 (mkF m 246 #[.val (.ref a), .val (.int u), .val (.ref w), .val (.int (0 : Int32)), .val (.int pp), .val (.long z.toInt64), .second, .val (.int (0 : Int32)), .val (.int ((pp + (1 : Int32)) + (z.toInt64.toInt32))), .val (.int ((pp + (1 : Int32)) + (z.toInt64.toInt32))), .unset] []) _
  obtain ⟨T19, h19, X19, e19, E19, A19, D19, -, st19⟩ := newO X18 hx hZ hown (hw _ (List.mem_of_getElem? (i := 77) rfl)) (hw _ (List.mem_of_getElem? (i := 7) rfl)) (hw _ (List.mem_of_getElem? (i := 8) rfl)) e18 (g := (mkF m 246 #[.val (.ref a), .val (.int u), .val (.ref w), .val (.int (0 : Int32)), .val (.int pp), .val (.long z.toInt64), .second, .val (.int (0 : Int32)), .val (.int ((pp + (1 : Int32)) + (z.toInt64.toInt32))), .val (.int ((pp + (1 : Int32)) + (z.toInt64.toInt32))), .unset] [])) rfl (hb hby d10_246) (by decide) (by decide)
  obtain ⟨b19, g19⟩ : ∃ zz_, zz_ = T3.heap.size := ⟨_, rfl⟩
  rw [← g19] at A19 D19 st19
  have gx19 : n0 ≤ b19 := Nat.le_trans Zs13 (Nat.le_of_eq g19.symm)
  have sz19 : h0.size ≤ b19 := Nat.le_trans K12.1 (Nat.le_of_eq g19.symm)
  have ne20 : a ≠ b19 := Nat.ne_of_lt (Nat.lt_of_lt_of_le F4.lt (Nat.le_of_eq g19.symm))
  have ne21 : b ≠ b19 := Nat.ne_of_lt (Nat.lt_of_lt_of_le F5.lt (Nat.le_of_eq g19.symm))
  have F22 := F4.ext E19
  have F23 := F5.ext E19
  have F24 := Fbytes_3.ext E19
  have F25 := FberNote_3.ext E19
  have F26 := Fstart_3.ext E19
  have F27 := Fposition_3.ext E19
  have F28 := Fend_3.ext E19
  have F29 := Fdepth_3.ext E19
  have K30 := K12.ext E19
  have Zs31 : n0 ≤ h19.size := Nat.le_trans Zs13 E19.1
  have F32 : Fld Z h19 b19 "com/example/attestry/attestry/DerReader" "bytes" "[B" .null := D19 (Or.inr (hw _ (List.mem_of_getElem? (i := 16) rfl))) (ty := (.array .byte)) (by decide)
  have F33 : Fld Z h19 b19 "com/example/attestry/attestry/DerReader" "berNote" "Lcom/example/attestry/attestry/DerReader$BerNote;" .null := D19 (Or.inr (hw _ (List.mem_of_getElem? (i := 25) rfl))) (ty := (.object "com/example/attestry/attestry/DerReader$BerNote")) (by decide)
  have F34 : Fld Z h19 b19 "com/example/attestry/attestry/DerReader" "start" "I" (.int (0 : Int32)) := D19 (Or.inr (hw _ (List.mem_of_getElem? (i := 27) rfl))) (ty := .int) (by decide)
  have F35 : Fld Z h19 b19 "com/example/attestry/attestry/DerReader" "position" "I" (.int (0 : Int32)) := D19 (Or.inl (hw _ (List.mem_of_getElem? (i := 29) rfl))) (ty := .int) (by decide)
  have F36 : Fld Z h19 b19 "com/example/attestry/attestry/DerReader" "end" "I" (.int (0 : Int32)) := D19 (Or.inr (hw _ (List.mem_of_getElem? (i := 31) rfl))) (ty := .int) (by decide)
  have F37 : Fld Z h19 b19 "com/example/attestry/attestry/DerReader" "depth" "I" (.int (0 : Int32)) := D19 (Or.inr (hw _ (List.mem_of_getElem? (i := 33) rfl))) (ty := .int) (by decide)
  refine Go.of (st19) ?_
  show Go p e below T19 (mkF m 249 #[.val (.ref a), .val (.int u), .val (.ref w), .val (.int (0 : Int32)), .val (.int pp), .val (.long z.toInt64), .second, .val (.int (0 : Int32)), .val (.int ((pp + (1 : Int32)) + (z.toInt64.toInt32))), .val (.int ((pp + (1 : Int32)) + (z.toInt64.toInt32))), .unset] [(.ref b19)]) _
  refine Go.of (fun tg_ kk_ => XS.dup X19.here hx rfl (hb hby d10_249) rfl rfl kk_) ?_
  show Go p e below T19 (mkF m 250 #[.val (.ref a), .val (.int u), .val (.ref w), .val (.int (0 : Int32)), .val (.int pp), .val (.long z.toInt64), .second, .val (.int (0 : Int32)), .val (.int ((pp + (1 : Int32)) + (z.toInt64.toInt32))), .val (.int ((pp + (1 : Int32)) + (z.toInt64.toInt32))), .unset] [(.ref b19), (.ref b19)]) _
  refine Go.of (fun tg_ kk_ => XS.aloadN X19.here hx rfl (hb hby d10_250) rfl rfl kk_) ?_
  show Go p e below T19 (mkF m 251 #[.val (.ref a), .val (.int u), .val (.ref w), .val (.int (0 : Int32)), .val (.int pp), .val (.long z.toInt64), .second, .val (.int (0 : Int32)), .val (.int ((pp + (1 : Int32)) + (z.toInt64.toInt32))), .val (.int ((pp + (1 : Int32)) + (z.toInt64.toInt32))), .unset] [(.ref a), (.ref b19), (.ref b19)]) _
  refine Go.of (fun tg_ kk_ => XS.iloadN X19.here hx rfl (hb hby d10_251) rfl kk_) ?_
  show Go p e below T19 (mkF m 252 #[.val (.ref a), .val (.int u), .val (.ref w), .val (.int (0 : Int32)), .val (.int pp), .val (.long z.toInt64), .second, .val (.int (0 : Int32)), .val (.int ((pp + (1 : Int32)) + (z.toInt64.toInt32))), .val (.int ((pp + (1 : Int32)) + (z.toInt64.toInt32))), .unset] [(.int u), (.ref a), (.ref b19), (.ref b19)]) _
  refine Go.of (fun tg_ kk_ => XS.aloadN X19.here hx rfl (hb hby d10_252) rfl rfl kk_) ?_
  show Go p e below T19 (mkF m 253 #[.val (.ref a), .val (.int u), .val (.ref w), .val (.int (0 : Int32)), .val (.int pp), .val (.long z.toInt64), .second, .val (.int (0 : Int32)), .val (.int ((pp + (1 : Int32)) + (z.toInt64.toInt32))), .val (.int ((pp + (1 : Int32)) + (z.toInt64.toInt32))), .unset] [(.ref a), (.int u), (.ref a), (.ref b19), (.ref b19)]) _
  obtain ⟨T38, X38, e38, st38⟩ := getF X19 hx hZ hown (host := "") (Or.inl (hw _ (List.mem_of_getElem? (i := 28) rfl))) Via.refl e19 F27 (g := (mkF m 253 #[.val (.ref a), .val (.int u), .val (.ref w), .val (.int (0 : Int32)), .val (.int pp), .val (.long z.toInt64), .second, .val (.int (0 : Int32)), .val (.int ((pp + (1 : Int32)) + (z.toInt64.toInt32))), .val (.int ((pp + (1 : Int32)) + (z.toInt64.toInt32))), .unset] [(.ref a), (.int u), (.ref a), (.ref b19), (.ref b19)])) rfl rfl (hb hby d10_253)
  refine Go.of (st38) ?_
  show Go p e below T38 (mkF m 256 #[.val (.ref a), .val (.int u), .val (.ref w), .val (.int (0 : Int32)), .val (.int pp), .val (.long z.toInt64), .second, .val (.int (0 : Int32)), .val (.int ((pp + (1 : Int32)) + (z.toInt64.toInt32))), .val (.int ((pp + (1 : Int32)) + (z.toInt64.toInt32))), .unset] [(.int (pp + (1 : Int32))), (.int u), (.ref a), (.ref b19), (.ref b19)]) _
  refine Go.of (fun tg_ kk_ => XS.iload X38.here hx rfl (hb hby d10_256) rfl kk_) ?_
  show Go p e below T38 (mkF m 258 #[.val (.ref a), .val (.int u), .val (.ref w), .val (.int (0 : Int32)), .val (.int pp), .val (.long z.toInt64), .second, .val (.int (0 : Int32)), .val (.int ((pp + (1 : Int32)) + (z.toInt64.toInt32))), .val (.int ((pp + (1 : Int32)) + (z.toInt64.toInt32))), .unset] [(.int ((pp + (1 : Int32)) + (z.toInt64.toInt32))), (.int (pp + (1 : Int32))), (.int u), (.ref a), (.ref b19), (.ref b19)]) _
  obtain ⟨_, _, ⟨T39, L39, k39, n39⟩, -, X39, ⟨Lc39, hQ39, l39, y39, z39⟩, st39⟩ := X38.specialBack hx (y := (⟨"com/example/attestry/attestry/DerReader", "<init>", "(Lcom/example/attestry/attestry/DerReader;III)V"⟩ : MethodName)) rfl hown (mvT hZ (hw _ (List.mem_of_getElem? (i := 78) rfl))) (mvT hZ (hw _ (List.mem_of_getElem? (i := 79) rfl))) (mvT hZ (hw _ (List.mem_of_getElem? (i := 80) rfl))) (by decide) (backOf (W := 1) (rm13 l Z a0 hw [] b19 a u (pp + (1 : Int32)) ((pp + (1 : Int32)) + (z.toInt64.toInt32)) b q d h19 n0 Zs31 gx19 A19 F32 F33 F34 F35 F36 F37 F24 F25 F29 ne20) hZ (hw _ (List.mem_of_getElem? (i := 80) rfl)) (hw _ (List.mem_of_getElem? (i := 8) rfl)) (by decide) (by decide)) (g := (mkF m 258 #[.val (.ref a), .val (.int u), .val (.ref w), .val (.int (0 : Int32)), .val (.int pp), .val (.long z.toInt64), .second, .val (.int (0 : Int32)), .val (.int ((pp + (1 : Int32)) + (z.toInt64.toInt32))), .val (.int ((pp + (1 : Int32)) + (z.toInt64.toInt32))), .unset] [(.int ((pp + (1 : Int32)) + (z.toInt64.toInt32))), (.int (pp + (1 : Int32))), (.int u), (.ref a), (.ref b19), (.ref b19)])) rfl (by rw [hml]; rfl) (Steps.refl _) (a := b19) (argsL := [(.ref a), (.int u), (.int (pp + (1 : Int32))), (.int ((pp + (1 : Int32)) + (z.toInt64.toInt32)))]) (rest := [(.ref b19)]) (lenOf pd_5 rfl) rfl (by show 2 * 0 + _ ≤ _; exact Nat.le_of_eq rfl) (hb hby d10_258) (fun _ _ => ⟨rfl, e38, (by decide : 1 + 0 ≤ _), (by decide : 6 + 0 ≤ _)⟩)
  dsimp only [Pt.U, Pt.locs, Pt.cells, Pt.slots] at X39 l39 y39 z39 st39 hQ39
  have X39 := own_stand X39 l39 y39 z39
  obtain ⟨rfl, N39q, K39q, Fbytes_39, FberNote_39, Fstart_39, Fposition_39, Fend_39, Fdepth_39⟩ := hQ39
  have N39 := Fr.app N15 N39q
  have F40 := F22.keep K39q
  have F41 := F23.keep K39q (ninS ne21 nin0)
  have F42 := F24.keep K39q (ninS ne20 nin0)
  have F43 := F25.keep K39q (ninS ne20 nin0)
  have F44 := F26.keep K39q (ninS ne20 nin0)
  have F45 := F27.keep K39q (ninS ne20 nin0)
  have F46 := F28.keep K39q (ninS ne20 nin0)
  have F47 := F29.keep K39q (ninS ne20 nin0)
  have F48 := A19.keep K39q
  have K55 := K30.trans K39q (allS (Or.inr sz19) all0)
  have Zs56 : n0 ≤ T39.heap.size := Nat.le_trans Zs31 K39q.1
  refine Go.of (fun tg_ kk_ => st39.trans kk_) ?_
  show Go p e below T39 (mkF m 261 #[.val (.ref a), .val (.int u), .val (.ref w), .val (.int (0 : Int32)), .val (.int pp), .val (.long z.toInt64), .second, .val (.int (0 : Int32)), .val (.int ((pp + (1 : Int32)) + (z.toInt64.toInt32))), .val (.int ((pp + (1 : Int32)) + (z.toInt64.toInt32))), .unset] [(.ref b19)]) _
  refine Go.of (fun tg_ kk_ => XS.astore X39.here hx rfl (hb hby d10_261) rfl rfl (l' := #[.val (.ref a), .val (.int u), .val (.ref w), .val (.int (0 : Int32)), .val (.int pp), .val (.long z.toInt64), .second, .val (.int (0 : Int32)), .val (.int ((pp + (1 : Int32)) + (z.toInt64.toInt32))), .val (.int ((pp + (1 : Int32)) + (z.toInt64.toInt32))), .val (.ref b19)]) rfl kk_) ?_
  show Go p e below T39 (mkF m 263 #[.val (.ref a), .val (.int u), .val (.ref w), .val (.int (0 : Int32)), .val (.int pp), .val (.long z.toInt64), .second, .val (.int (0 : Int32)), .val (.int ((pp + (1 : Int32)) + (z.toInt64.toInt32))), .val (.int ((pp + (1 : Int32)) + (z.toInt64.toInt32))), .val (.ref b19)] []) _
  refine Go.of (fun tg_ kk_ => XS.aloadN X39.here hx rfl (hb hby d10_263) rfl rfl kk_) ?_
  show Go p e below T39 (mkF m 264 #[.val (.ref a), .val (.int u), .val (.ref w), .val (.int (0 : Int32)), .val (.int pp), .val (.long z.toInt64), .second, .val (.int (0 : Int32)), .val (.int ((pp + (1 : Int32)) + (z.toInt64.toInt32))), .val (.int ((pp + (1 : Int32)) + (z.toInt64.toInt32))), .val (.ref b19)] [(.ref a)]) _
  refine Go.of (fun tg_ kk_ => XS.iload X39.here hx rfl (hb hby d10_264) rfl kk_) ?_
  show Go p e below T39 (mkF m 266 #[.val (.ref a), .val (.int u), .val (.ref w), .val (.int (0 : Int32)), .val (.int pp), .val (.long z.toInt64), .second, .val (.int (0 : Int32)), .val (.int ((pp + (1 : Int32)) + (z.toInt64.toInt32))), .val (.int ((pp + (1 : Int32)) + (z.toInt64.toInt32))), .val (.ref b19)] [(.int ((pp + (1 : Int32)) + (z.toInt64.toInt32))), (.ref a)]) _
  obtain ⟨T57, h57, X57, e57, W57, st57⟩ := putF X39 hx hZ hown (host := "") (Or.inl (hw _ (List.mem_of_getElem? (i := 28) rfl))) Via.refl rfl F45 F40 (Or.inl (hw _ (List.mem_of_getElem? (i := 29) rfl))) (hw _ (List.mem_of_getElem? (i := 7) rfl)) (ty := .int) (by decide) rfl rfl (g := (mkF m 266 #[.val (.ref a), .val (.int u), .val (.ref w), .val (.int (0 : Int32)), .val (.int pp), .val (.long z.toInt64), .second, .val (.int (0 : Int32)), .val (.int ((pp + (1 : Int32)) + (z.toInt64.toInt32))), .val (.int ((pp + (1 : Int32)) + (z.toInt64.toInt32))), .val (.ref b19)] [(.int ((pp + (1 : Int32)) + (z.toInt64.toInt32))), (.ref a)])) rfl rfl (hb hby d10_266)
  have Fw57 := F45.same W57
  have F58 := F40.wr W57
  have F59 := F41.other W57 (Ne.symm hab)
  have F60 := F42.other W57 (Or.inr (slot_ne (Or.inr (hw _ (List.mem_of_getElem? (i := 16) rfl))) (Or.inl (hw _ (List.mem_of_getElem? (i := 29) rfl))) (by decide) (t := (.array .byte)) (t' := .int) (by decide) (by decide)))
  have F61 := F43.other W57 (Or.inr (slot_ne (Or.inr (hw _ (List.mem_of_getElem? (i := 25) rfl))) (Or.inl (hw _ (List.mem_of_getElem? (i := 29) rfl))) (by decide) (t := (.object "com/example/attestry/attestry/DerReader$BerNote")) (t' := .int) (by decide) (by decide)))
  have F62 := F44.other W57 (Or.inr (slot_ne (Or.inr (hw _ (List.mem_of_getElem? (i := 27) rfl))) (Or.inl (hw _ (List.mem_of_getElem? (i := 29) rfl))) (by decide) (t := .int) (t' := .int) (by decide) (by decide)))
  have F64 := F46.other W57 (Or.inr (slot_ne (Or.inr (hw _ (List.mem_of_getElem? (i := 31) rfl))) (Or.inl (hw _ (List.mem_of_getElem? (i := 29) rfl))) (by decide) (t := .int) (t' := .int) (by decide) (by decide)))
  have F65 := F47.other W57 (Or.inr (slot_ne (Or.inr (hw _ (List.mem_of_getElem? (i := 33) rfl))) (Or.inl (hw _ (List.mem_of_getElem? (i := 29) rfl))) (by decide) (t := .int) (t' := .int) (by decide) (by decide)))
  have F66 := F48.wr W57
  have F67 := Fbytes_39.other W57 (Or.inl (Ne.symm ne20))
  have F68 := FberNote_39.other W57 (Or.inl (Ne.symm ne20))
  have F69 := Fstart_39.other W57 (Or.inl (Ne.symm ne20))
  have F70 := Fposition_39.other W57 (Or.inl (Ne.symm ne20))
  have F71 := Fend_39.other W57 (Or.inl (Ne.symm ne20))
  have F72 := Fdepth_39.other W57 (Or.inl (Ne.symm ne20))
  have K73 := K55.wr W57 (Or.inl (List.mem_of_getElem? (i := 0) rfl))
  have Zs74 : n0 ≤ h57.size := Nat.le_trans Zs56 (Keep.of_wr W57).1
  have N57 := Fr.snoc X57 N39 g_a
  refine Go.of (st57) ?_
  show Go p e below T57 (mkF m 269 #[.val (.ref a), .val (.int u), .val (.ref w), .val (.int (0 : Int32)), .val (.int pp), .val (.long z.toInt64), .second, .val (.int (0 : Int32)), .val (.int ((pp + (1 : Int32)) + (z.toInt64.toInt32))), .val (.int ((pp + (1 : Int32)) + (z.toInt64.toInt32))), .val (.ref b19)] []) _
  refine Go.of (fun tg_ kk_ => XS.aload X57.here hx rfl (hb hby d10_269) rfl rfl kk_) ?_
  show Go p e below T57 (mkF m 271 #[.val (.ref a), .val (.int u), .val (.ref w), .val (.int (0 : Int32)), .val (.int pp), .val (.long z.toInt64), .second, .val (.int (0 : Int32)), .val (.int ((pp + (1 : Int32)) + (z.toInt64.toInt32))), .val (.int ((pp + (1 : Int32)) + (z.toInt64.toInt32))), .val (.ref b19)] [(.ref b19)]) _
  obtain ⟨fs, hr, hrun, hended, hW, hsame⟩ := X57.leave (v := some (.ref b19)) (fun h => by rw [Bd.returns] at h; cases h)
  refine ⟨_, _, ?_, hrun, hended, _, _, rfl, ?_, ⟨_, rfl⟩, hW, hsame.mono (by decide) (by decide)⟩
  · exact retOut X57 hx Bd.returns rfl (Or.inr (Or.inr (Or.inr (Or.inr ⟨rfl, rfl, rfl⟩)))) (hb hby d10_271) hr
  · show Q10 Z u w a b q x pp y d f z h0 n0 _ T57.heap _
    rw [e57]
    exact ⟨_, rfl, N57, K73, gx19, sz19, F66, F60, F61, F62, Fw57, F64, F65, F67, F68, F69, F70, F71, F72⟩
theorem d8_0 : decode prog_3_method_41_code 0 = .ok (.aload_n 0, 1) := by decide +kernel
theorem d8_1 : decode prog_3_method_41_code 1 = .ok (.getfield 24, 3) := by decide +kernel
theorem d8_4 : decode prog_3_method_41_code 4 = .ok (.istore 4, 2) := by decide +kernel
theorem d8_6 : decode prog_3_method_41_code 6 = .ok (.aload_n 0, 1) := by decide +kernel
theorem d8_7 : decode prog_3_method_41_code 7 = .ok (.invokevirtual 98, 3) := by decide +kernel
theorem d8_10 : decode prog_3_method_41_code 10 = .ok (.ifCond .ne 15, 3) := by decide +kernel
theorem d8_25 : decode prog_3_method_41_code 25 = .ok (.aload_n 0, 1) := by decide +kernel
theorem d8_26 : decode prog_3_method_41_code 26 = .ok (.iload 4, 2) := by decide +kernel
theorem d8_28 : decode prog_3_method_41_code 28 = .ok (.aload_n 2, 1) := by decide +kernel
theorem d8_29 : decode prog_3_method_41_code 29 = .ok (.invokevirtual 300, 3) := by decide +kernel
theorem d8_32 : decode prog_3_method_41_code 32 = .ok (.istore 5, 2) := by decide +kernel
theorem d8_34 : decode prog_3_method_41_code 34 = .ok (.iload 5, 2) := by decide +kernel
theorem d8_36 : decode prog_3_method_41_code 36 = .ok (.iload_n 1, 1) := by decide +kernel
theorem d8_37 : decode prog_3_method_41_code 37 = .ok (.if_icmp .eq 31, 3) := by decide +kernel
theorem d8_68 : decode prog_3_method_41_code 68 = .ok (.aload_n 0, 1) := by decide +kernel
theorem d8_69 : decode prog_3_method_41_code 69 = .ok (.iload 4, 2) := by decide +kernel
theorem d8_71 : decode prog_3_method_41_code 71 = .ok (.aload_n 2, 1) := by decide +kernel
theorem d8_72 : decode prog_3_method_41_code 72 = .ok (.iload_n 3, 1) := by decide +kernel
theorem d8_73 : decode prog_3_method_41_code 73 = .ok (.invokevirtual 306, 3) := by decide +kernel
theorem d8_76 : decode prog_3_method_41_code 76 = .ok (.areturn, 1) := by decide +kernel
theorem ef_8 (m : MethodId) (x0 : Addr) (x1 : Int32) (x2 : Addr) (x3 : Int32) : entryFrame m #[(.ref x0), (.int x1), (.ref x2), (.int x3)] 6 = mkF m 0 #[.val (.ref x0), .val (.int x1), .val (.ref x2), .val (.int x3), .unset, .unset] [] := by first | (simp [entryFrame, mkF, argsToLocals, Value.category]; done) | rfl
def Q8 (Z : State) (t : Int32) (w : Addr) (a : Addr) (b : Addr) (q : Addr) (x : Int32) (pp : Int32) (y : Int32) (d : Int32) (f : Nat → Int32) (z : Int32) (h0 : Heap) (n0 : Nat) (v : Option Value) (h : Heap) (L : List Loc) : Prop := ∃ c2 : Addr, v = some (.ref c2) ∧ Fr n0 L ∧ Keep h0 h [a] ∧ n0 ≤ c2 ∧ h0.size ≤ c2 ∧ Exa Z h c2 "com/example/attestry/attestry/DerReader" ∧ Fld Z h a "com/example/attestry/attestry/DerReader" "bytes" "[B" (.ref b) ∧ Fld Z h a "com/example/attestry/attestry/DerReader" "berNote" "Lcom/example/attestry/attestry/DerReader$BerNote;" (.ref q) ∧ Fld Z h a "com/example/attestry/attestry/DerReader" "start" "I" (.int x) ∧ Fld Z h a "com/example/attestry/attestry/DerReader" "position" "I" (.int (((pp + (1 : Int32)) + (1 : Int32)) + z.toInt64.toInt32)) ∧ Fld Z h a "com/example/attestry/attestry/DerReader" "end" "I" (.int y) ∧ Fld Z h a "com/example/attestry/attestry/DerReader" "depth" "I" (.int d) ∧ Fld Z h c2 "com/example/attestry/attestry/DerReader" "bytes" "[B" (.ref b) ∧ Fld Z h c2 "com/example/attestry/attestry/DerReader" "berNote" "Lcom/example/attestry/attestry/DerReader$BerNote;" (.ref q) ∧ Fld Z h c2 "com/example/attestry/attestry/DerReader" "start" "I" (.int pp) ∧ Fld Z h c2 "com/example/attestry/attestry/DerReader" "position" "I" (.int ((pp + (1 : Int32)) + (1 : Int32))) ∧ Fld Z h c2 "com/example/attestry/attestry/DerReader" "end" "I" (.int (((pp + (1 : Int32)) + (1 : Int32)) + z.toInt64.toInt32)) ∧ Fld Z h c2 "com/example/attestry/attestry/DerReader" "depth" "I" (.int (d + (1 : Int32)))
set_option maxRecDepth 65536 in
set_option maxHeartbeats 40000000 in
theorem rm8 (l : Launch) (Z : State) (a0 : Array Value) (hw : ∀ d ∈ tables_1, d.before a0 Z = true) (ws : List Jvm.Cond) (t : Int32) (w : Addr) (a : Addr) (b : Addr) (q : Addr) (x : Int32) (pp : Int32) (y : Int32) (d : Int32) (f : Nat → Int32) (z : Int32) (h0 : Heap) (n0 : Nat) (Z0 : n0 ≤ h0.size) (g_a : n0 ≤ a) (E_a : Exa Z h0 a "com/example/attestry/attestry/DerReader") (Fbytes : Fld Z h0 a "com/example/attestry/attestry/DerReader" "bytes" "[B" (.ref b)) (FberNote : Fld Z h0 a "com/example/attestry/attestry/DerReader" "berNote" "Lcom/example/attestry/attestry/DerReader$BerNote;" (.ref q)) (Fstart : Fld Z h0 a "com/example/attestry/attestry/DerReader" "start" "I" (.int x)) (Fposition : Fld Z h0 a "com/example/attestry/attestry/DerReader" "position" "I" (.int pp)) (Fend : Fld Z h0 a "com/example/attestry/attestry/DerReader" "end" "I" (.int y)) (Fdepth : Fld Z h0 a "com/example/attestry/attestry/DerReader" "depth" "I" (.int d)) (Ab : Af Z h0 b .byte 10 f) (hab : a ≠ b) (hlt : pp < y) (hin : ¬ (pp < 0) ∧ (pp).toNatClampNeg < 10) (ht : f (pp).toNatClampNeg &&& (255 : Int32) = t) (hlt1 : (pp + (1 : Int32)) < y) (hin1 : ¬ ((pp + (1 : Int32)) < 0) ∧ ((pp + (1 : Int32))).toNatClampNeg < 10) (hz : f ((pp + (1 : Int32))).toNatClampNeg &&& (255 : Int32) = z) (hz8 : z < (128 : Int32)) (hz0 : ¬ (z < (0 : Int32))) (hd : ¬ ((32 : Int32) < d)) (hle : ¬ ((y - ((pp + (1 : Int32)) + (1 : Int32))).toInt64 < z.toInt64)) :
    MetFree l (⟨"com/example/attestry/attestry/DerReader", "contents", "(ILjava/lang/String;Z)Lcom/example/attestry/attestry/DerReader;"⟩ : MethodName) (head1 (Jvm.Cond.code (⟨"com/example/attestry/attestry/DerReader", "contents", "(ILjava/lang/String;Z)Lcom/example/attestry/attestry/DerReader;"⟩ : MethodName) prog_3_method_41_code 6 (some (.object "com/example/attestry/attestry/DerReader")) :: ws) ({ frames := 4, cells := 1, slots := 6, locals := 67 } : Room)) (fun aa_ U => aa_ = #[(.ref a), (.int t), (.ref w), (.int (0 : Int32))] ∧ Z.Warmed39 U.vm ∧ U.heap = h0) (fun _ _ _ _ _ => True) (fun _ U o U' => ∃ vv_ LL_, o = .returned vv_ ∧ Q8 Z t w a b q x pp y d f z h0 n0 vv_ U'.heap LL_ ∧ FrameEnd U o U' LL_ ({ frames := 4, cells := 1, slots := 6, locals := 67 } : Room).cells ({ frames := 4, cells := 1, slots := 6, locals := 67 } : Room).slots) := by
  refine MetFree.of_bodySF (plainFor_of_name pn_2) hisR ?_
  intro p e s m args below meth c s₁ Bd hml0 hP hK
  obtain ⟨rfl, hZ, hh⟩ := hP
  have hx := Bd.exec
  have hby := Bd.bytes
  have hml : c.maxLocals = 6 := hml0
  have hown : s.vm.findClass "com/example/attestry/attestry/DerReader" = some m.cls := findClass_of_methodNamed Bd.named
  have hnm := (name_of_methodNamed Bd.named Bd.method).1
  have X0 : Stand p l e ({ frames := 4, cells := 1, slots := 6, locals := 67 } : Room) s m #[(.ref a), (.int t), (.ref w), (.int (0 : Int32))] below meth c s₁ [] 0 0 := Stand.of_body Bd
  have e0 : s₁.heap = h0 := by rw [← hh, Bd.state]; rfl
  have N0 := Fr.nil n0
  have K0 : Keep h0 h0 [a] := Keep.refl h0 _
  refine Go.enter (P := fun o U' => ∃ vv_ LL_, o = .returned vv_ ∧ Q8 Z t w a b q x pp y d f z h0 n0 vv_ U'.heap LL_ ∧ FrameEnd s o U' LL_ ({ frames := 4, cells := 1, slots := 6, locals := 67 } : Room).cells ({ frames := 4, cells := 1, slots := 6, locals := 67 } : Room).slots) (ef_8 m a t w (0 : Int32)) ?_
  show Go p e below s₁ (mkF m 0 #[.val (.ref a), .val (.int t), .val (.ref w), .val (.int (0 : Int32)), .unset, .unset] []) _
  refine Go.of (fun tg_ kk_ => XS.aloadN X0.here hx rfl (hb hby d8_0) rfl rfl kk_) ?_
  show Go p e below s₁ (mkF m 1 #[.val (.ref a), .val (.int t), .val (.ref w), .val (.int (0 : Int32)), .unset, .unset] [(.ref a)]) _
  obtain ⟨T1, X1, e1, st1⟩ := getF X0 hx hZ hown (host := "") (Or.inl (hw _ (List.mem_of_getElem? (i := 28) rfl))) Via.refl e0 Fposition (g := (mkF m 1 #[.val (.ref a), .val (.int t), .val (.ref w), .val (.int (0 : Int32)), .unset, .unset] [(.ref a)])) rfl rfl (hb hby d8_1)
  refine Go.of (st1) ?_
  show Go p e below T1 (mkF m 4 #[.val (.ref a), .val (.int t), .val (.ref w), .val (.int (0 : Int32)), .unset, .unset] [(.int pp)]) _
  refine Go.of (fun tg_ kk_ => XS.istore X1.here hx rfl (hb hby d8_4) rfl (l' := #[.val (.ref a), .val (.int t), .val (.ref w), .val (.int (0 : Int32)), .val (.int pp), .unset]) rfl kk_) ?_
  show Go p e below T1 (mkF m 6 #[.val (.ref a), .val (.int t), .val (.ref w), .val (.int (0 : Int32)), .val (.int pp), .unset] []) _
  refine Go.of (fun tg_ kk_ => XS.aloadN X1.here hx rfl (hb hby d8_6) rfl rfl kk_) ?_
  show Go p e below T1 (mkF m 7 #[.val (.ref a), .val (.int t), .val (.ref w), .val (.int (0 : Int32)), .val (.int pp), .unset] [(.ref a)]) _
  obtain ⟨cq2, kq2, q2a, q2b, q2c⟩ := isOf hZ e1 E_a
  obtain ⟨_, _, ⟨T2, L2, k2, n2⟩, -, X2, ⟨Lc2, hQ2, l2, y2, z2⟩, st2⟩ := X1.virtualBack hx (y := (⟨"com/example/attestry/attestry/DerReader", "hasNext", "()Z"⟩ : MethodName)) (z := (⟨"com/example/attestry/attestry/DerReader", "hasNext", "()Z"⟩ : MethodName)) hown (mvT hZ (hw _ (List.mem_of_getElem? (i := 59) rfl))) (mvT hZ (hw _ (List.mem_of_getElem? (i := 35) rfl))) (notFace_of_selects (args := #[]) (mvT hZ (hw _ (List.mem_of_getElem? (i := 37) rfl)))) (mvT hZ (hw _ (List.mem_of_getElem? (i := 37) rfl))) (mvT hZ (hw _ (List.mem_of_getElem? (i := 36) rfl))) (by decide) (backOf (W := 0) (rm5 l Z a0 hw [] a pp y h0 n0 Z0 Fposition Fend) hZ (hw _ (List.mem_of_getElem? (i := 38) rfl)) (hw _ (List.mem_of_getElem? (i := 8) rfl)) (by decide) (by decide)) q2a q2c (g := (mkF m 7 #[.val (.ref a), .val (.int t), .val (.ref w), .val (.int (0 : Int32)), .val (.int pp), .unset] [(.ref a)])) rfl (by rw [hml]; rfl) (Steps.refl _) (argsL := []) (rest := []) (lenOf pd_1 rfl) rfl (by show 2 * 0 + _ ≤ _; exact Nat.le_of_eq rfl) (hb hby d8_7) (fun _ _ => ⟨rfl, e1, (by decide : 0 + 0 ≤ _), (by decide : 0 + 0 ≤ _)⟩)
  dsimp only [Pt.U, Pt.locs, Pt.cells, Pt.slots] at X2 l2 y2 z2 st2 hQ2
  have X2 := own_stand X2 l2 y2 z2
  obtain ⟨hv2, N2q, e2⟩ := hQ2
  rw [if_pos hlt] at hv2
  subst hv2
  have N2 := Fr.app N0 N2q
  refine Go.of (fun tg_ kk_ => st2.trans kk_) ?_
  show Go p e below T2 (mkF m 10 #[.val (.ref a), .val (.int t), .val (.ref w), .val (.int (0 : Int32)), .val (.int pp), .unset] [(.int (1 : Int32))]) _
  refine Go.of (fun tg_ kk_ => XS.ifYes X2.here hx rfl (pc0 := 10) (pc' := 25) rfl (hb hby d8_10) rfl ((if0 _ _).trans (feq (show ¬ ((1 : Int32) = (0 : Int32)) by decide)).2) (by decide) (by decide) kk_) ?_
  show Go p e below T2 (mkF m 25 #[.val (.ref a), .val (.int t), .val (.ref w), .val (.int (0 : Int32)), .val (.int pp), .unset] []) _
  refine Go.of (fun tg_ kk_ => XS.aloadN X2.here hx rfl (hb hby d8_25) rfl rfl kk_) ?_
  show Go p e below T2 (mkF m 26 #[.val (.ref a), .val (.int t), .val (.ref w), .val (.int (0 : Int32)), .val (.int pp), .unset] [(.ref a)]) _
  refine Go.of (fun tg_ kk_ => XS.iload X2.here hx rfl (hb hby d8_26) rfl kk_) ?_
  show Go p e below T2 (mkF m 28 #[.val (.ref a), .val (.int t), .val (.ref w), .val (.int (0 : Int32)), .val (.int pp), .unset] [(.int pp), (.ref a)]) _
  refine Go.of (fun tg_ kk_ => XS.aloadN X2.here hx rfl (hb hby d8_28) rfl rfl kk_) ?_
  show Go p e below T2 (mkF m 29 #[.val (.ref a), .val (.int t), .val (.ref w), .val (.int (0 : Int32)), .val (.int pp), .unset] [(.ref w), (.int pp), (.ref a)]) _
  obtain ⟨cq3, qc3, qd3⟩ := E_a.cell
  obtain ⟨_, _, ⟨T3, L3, k3, n3⟩, -, X3, ⟨Lc3, hQ3, l3, y3, z3⟩, st3⟩ := X2.privateBack hx (y := (⟨"com/example/attestry/attestry/DerReader", "nextOctet", "(ILjava/lang/String;)I"⟩ : MethodName)) hown (mvT hZ (hw _ (List.mem_of_getElem? (i := 60) rfl))) (mvT hZ (hw _ (List.mem_of_getElem? (i := 61) rfl))) (own_selp (y := (⟨"com/example/attestry/attestry/DerReader", "nextOctet", "(ILjava/lang/String;)I"⟩ : MethodName)) (mvT hZ (hw _ (List.mem_of_getElem? (i := 7) rfl))) (Cond.privateMethod_at (mvP hZ (hw _ (List.mem_of_getElem? (i := 62) rfl)) (args := #[]))) (mvT hZ (hw _ (List.mem_of_getElem? (i := 61) rfl))) (by decide)) (Cond.privateMethod_at (mvP hZ (hw _ (List.mem_of_getElem? (i := 62) rfl)) (args := #[]))) (mvT hZ (hw _ (List.mem_of_getElem? (i := 63) rfl))) (by decide) (backOf (W := 0) (rm9 l Z a0 hw [] pp w a b q x pp y d f h0 n0 Z0 g_a E_a Fbytes FberNote Fstart Fposition Fend Fdepth Ab hab hlt hin) hZ (hw _ (List.mem_of_getElem? (i := 63) rfl)) (hw _ (List.mem_of_getElem? (i := 8) rfl)) (by decide) (by decide)) (g := (mkF m 29 #[.val (.ref a), .val (.int t), .val (.ref w), .val (.int (0 : Int32)), .val (.int pp), .unset] [(.ref w), (.int pp), (.ref a)])) rfl (by rw [hml]; rfl) (Steps.refl _) (a := a) (by rw [e2]; exact qc3) qd3 (argsL := [(.int pp), (.ref w)]) (rest := []) (lenOf pd_2 rfl) rfl (by show 2 * 0 + _ ≤ _; exact Nat.le_of_eq rfl) (hb hby d8_29) (fun _ _ => ⟨rfl, e2, (by decide : 0 + 0 ≤ _), (by decide : 0 + 0 ≤ _)⟩)
  dsimp only [Pt.U, Pt.locs, Pt.cells, Pt.slots] at X3 l3 y3 z3 st3 hQ3
  have X3 := own_stand X3 l3 y3 z3
  obtain ⟨hv3, N3q, K3q, Fbytes_3, FberNote_3, Fstart_3, Fposition_3, Fend_3, Fdepth_3⟩ := hQ3
  have N3 := Fr.app N2 N3q
  have F4 := E_a.keep K3q
  have F5 := Ab.keep K3q (ninS (Ne.symm hab) nin0)
  have K12 := K0.trans K3q (allS (Or.inl (List.mem_of_getElem? (i := 0) rfl)) all0)
  have Zs13 : n0 ≤ T3.heap.size := Nat.le_trans Z0 K3q.1
  rw [ht] at hv3
  subst hv3
  refine Go.of (fun tg_ kk_ => st3.trans kk_) ?_
  show Go p e below T3 (mkF m 32 #[.val (.ref a), .val (.int t), .val (.ref w), .val (.int (0 : Int32)), .val (.int pp), .unset] [(.int t)]) _
  refine Go.of (fun tg_ kk_ => XS.istore X3.here hx rfl (hb hby d8_32) rfl (l' := #[.val (.ref a), .val (.int t), .val (.ref w), .val (.int (0 : Int32)), .val (.int pp), .val (.int t)]) rfl kk_) ?_
  show Go p e below T3 (mkF m 34 #[.val (.ref a), .val (.int t), .val (.ref w), .val (.int (0 : Int32)), .val (.int pp), .val (.int t)] []) _
  refine Go.of (fun tg_ kk_ => XS.iload X3.here hx rfl (hb hby d8_34) rfl kk_) ?_
  show Go p e below T3 (mkF m 36 #[.val (.ref a), .val (.int t), .val (.ref w), .val (.int (0 : Int32)), .val (.int pp), .val (.int t)] [(.int t)]) _
  refine Go.of (fun tg_ kk_ => XS.iloadN X3.here hx rfl (hb hby d8_36) rfl kk_) ?_
  show Go p e below T3 (mkF m 37 #[.val (.ref a), .val (.int t), .val (.ref w), .val (.int (0 : Int32)), .val (.int pp), .val (.int t)] [(.int t), (.int t)]) _
  refine Go.of (fun tg_ kk_ => XS.icmpYes X3.here hx rfl (pc0 := 37) (pc' := 68) rfl (hb hby d8_37) rfl (teq (show t = t from rfl)).1 (by decide) (by decide) kk_) ?_
  show Go p e below T3 (mkF m 68 #[.val (.ref a), .val (.int t), .val (.ref w), .val (.int (0 : Int32)), .val (.int pp), .val (.int t)] []) _
  refine Go.of (fun tg_ kk_ => XS.aloadN X3.here hx rfl (hb hby d8_68) rfl rfl kk_) ?_
  show Go p e below T3 (mkF m 69 #[.val (.ref a), .val (.int t), .val (.ref w), .val (.int (0 : Int32)), .val (.int pp), .val (.int t)] [(.ref a)]) _
  refine Go.of (fun tg_ kk_ => XS.iload X3.here hx rfl (hb hby d8_69) rfl kk_) ?_
  show Go p e below T3 (mkF m 71 #[.val (.ref a), .val (.int t), .val (.ref w), .val (.int (0 : Int32)), .val (.int pp), .val (.int t)] [(.int pp), (.ref a)]) _
  refine Go.of (fun tg_ kk_ => XS.aloadN X3.here hx rfl (hb hby d8_71) rfl rfl kk_) ?_
  show Go p e below T3 (mkF m 72 #[.val (.ref a), .val (.int t), .val (.ref w), .val (.int (0 : Int32)), .val (.int pp), .val (.int t)] [(.ref w), (.int pp), (.ref a)]) _
  refine Go.of (fun tg_ kk_ => XS.iloadN X3.here hx rfl (hb hby d8_72) rfl kk_) ?_
  show Go p e below T3 (mkF m 73 #[.val (.ref a), .val (.int t), .val (.ref w), .val (.int (0 : Int32)), .val (.int pp), .val (.int t)] [(.int (0 : Int32)), (.ref w), (.int pp), (.ref a)]) _
  obtain ⟨cq14, qc14, qd14⟩ := F4.cell
  obtain ⟨_, _, ⟨T14, L14, k14, n14⟩, -, X14, ⟨Lc14, hQ14, l14, y14, z14⟩, st14⟩ := X3.privateBack hx (y := (⟨"com/example/attestry/attestry/DerReader", "body", "(ILjava/lang/String;Z)Lcom/example/attestry/attestry/DerReader;"⟩ : MethodName)) hown (mvT hZ (hw _ (List.mem_of_getElem? (i := 64) rfl))) (mvT hZ (hw _ (List.mem_of_getElem? (i := 65) rfl))) (own_selp (y := (⟨"com/example/attestry/attestry/DerReader", "body", "(ILjava/lang/String;Z)Lcom/example/attestry/attestry/DerReader;"⟩ : MethodName)) (mvT hZ (hw _ (List.mem_of_getElem? (i := 7) rfl))) (Cond.privateMethod_at (mvP hZ (hw _ (List.mem_of_getElem? (i := 66) rfl)) (args := #[]))) (mvT hZ (hw _ (List.mem_of_getElem? (i := 65) rfl))) (by decide)) (Cond.privateMethod_at (mvP hZ (hw _ (List.mem_of_getElem? (i := 66) rfl)) (args := #[]))) (mvT hZ (hw _ (List.mem_of_getElem? (i := 67) rfl))) (by decide) (backOf (W := 0) (rm10 l Z a0 hw [] pp w a b q x (pp + (1 : Int32)) y d f z T3.heap n0 Zs13 g_a F4 Fbytes_3 FberNote_3 Fstart_3 Fposition_3 Fend_3 Fdepth_3 F5 hab hlt1 hin1 hz hz8 hz0 hd hle) hZ (hw _ (List.mem_of_getElem? (i := 67) rfl)) (hw _ (List.mem_of_getElem? (i := 8) rfl)) (by decide) (by decide)) (g := (mkF m 73 #[.val (.ref a), .val (.int t), .val (.ref w), .val (.int (0 : Int32)), .val (.int pp), .val (.int t)] [(.int (0 : Int32)), (.ref w), (.int pp), (.ref a)])) rfl (by rw [hml]; rfl) (Steps.refl _) (a := a) (by exact qc14) qd14 (argsL := [(.int pp), (.ref w), (.int (0 : Int32))]) (rest := []) (lenOf pd_6 rfl) rfl (by show 2 * 0 + _ ≤ _; exact Nat.le_of_eq rfl) (hb hby d8_73) (fun _ _ => ⟨rfl, rfl, (by decide : 0 + 1 ≤ _), (by decide : 0 + 6 ≤ _)⟩)
  dsimp only [Pt.U, Pt.locs, Pt.cells, Pt.slots] at X14 l14 y14 z14 st14 hQ14
  have X14 := own_stand X14 l14 y14 z14
  obtain ⟨c14, rfl, N14q, K14q, gx14, sz14, E14, Fbytes_14, FberNote_14, Fstart_14, Fposition_14, Fend_14, Fdepth_14, Gbytes_14, GberNote_14, Gstart_14, Gposition_14, Gend_14, Gdepth_14⟩ := hQ14
  have N14 := Fr.app N3 N14q
  have sy14 : h0.size ≤ c14 := Nat.le_trans K12.1 sz14
  have ne15 : a ≠ c14 := Nat.ne_of_lt (Nat.lt_of_lt_of_le F4.lt sz14)
  have ne16 : b ≠ c14 := Nat.ne_of_lt (Nat.lt_of_lt_of_le F5.lt sz14)
  have F17 := F4.keep K14q
  have F18 := F5.keep K14q (ninS (Ne.symm hab) nin0)
  have K25 := K12.trans K14q (allS (Or.inl (List.mem_of_getElem? (i := 0) rfl)) all0)
  have Zs26 : n0 ≤ T14.heap.size := Nat.le_trans Zs13 K14q.1
  refine Go.of (fun tg_ kk_ => st14.trans kk_) ?_
  show Go p e below T14 (mkF m 76 #[.val (.ref a), .val (.int t), .val (.ref w), .val (.int (0 : Int32)), .val (.int pp), .val (.int t)] [(.ref c14)]) _
  obtain ⟨fs, hr, hrun, hended, hW, hsame⟩ := X14.leave (v := some (.ref c14)) (fun h => by rw [Bd.returns] at h; cases h)
  refine ⟨_, _, ?_, hrun, hended, _, _, rfl, ?_, ⟨_, rfl⟩, hW, hsame.mono (by decide) (by decide)⟩
  · exact retOut X14 hx Bd.returns rfl (Or.inr (Or.inr (Or.inr (Or.inr ⟨rfl, rfl, rfl⟩)))) (hb hby d8_76) hr
  · show Q8 Z t w a b q x pp y d f z h0 n0 _ T14.heap _
    exact ⟨_, rfl, N14, K25, gx14, sy14, E14, Fbytes_14, FberNote_14, Fstart_14, Fposition_14, Fend_14, Fdepth_14, Gbytes_14, GberNote_14, Gstart_14, Gposition_14, Gend_14, Gdepth_14⟩
theorem d7_0 : decode prog_3_method_40_code 0 = .ok (.aload_n 0, 1) := by decide +kernel
theorem d7_1 : decode prog_3_method_40_code 1 = .ok (.iload_n 1, 1) := by decide +kernel
theorem d7_2 : decode prog_3_method_40_code 2 = .ok (.aload_n 2, 1) := by decide +kernel
theorem d7_3 : decode prog_3_method_40_code 3 = .ok (.iconst 0, 1) := by decide +kernel
theorem d7_4 : decode prog_3_method_40_code 4 = .ok (.invokevirtual 52, 3) := by decide +kernel
theorem d7_7 : decode prog_3_method_40_code 7 = .ok (.areturn, 1) := by decide +kernel
theorem ef_7 (m : MethodId) (x0 : Addr) (x1 : Int32) (x2 : Addr) : entryFrame m #[(.ref x0), (.int x1), (.ref x2)] 3 = mkF m 0 #[.val (.ref x0), .val (.int x1), .val (.ref x2)] [] := by first | (simp [entryFrame, mkF, argsToLocals, Value.category]; done) | rfl
def Q7 (Z : State) (t : Int32) (w : Addr) (a : Addr) (b : Addr) (q : Addr) (x : Int32) (pp : Int32) (y : Int32) (d : Int32) (f : Nat → Int32) (z : Int32) (h0 : Heap) (n0 : Nat) (v : Option Value) (h : Heap) (L : List Loc) : Prop := ∃ c2 : Addr, v = some (.ref c2) ∧ Fr n0 L ∧ Keep h0 h [a] ∧ n0 ≤ c2 ∧ h0.size ≤ c2 ∧ Exa Z h c2 "com/example/attestry/attestry/DerReader" ∧ Fld Z h a "com/example/attestry/attestry/DerReader" "bytes" "[B" (.ref b) ∧ Fld Z h a "com/example/attestry/attestry/DerReader" "berNote" "Lcom/example/attestry/attestry/DerReader$BerNote;" (.ref q) ∧ Fld Z h a "com/example/attestry/attestry/DerReader" "start" "I" (.int x) ∧ Fld Z h a "com/example/attestry/attestry/DerReader" "position" "I" (.int (((pp + (1 : Int32)) + (1 : Int32)) + z.toInt64.toInt32)) ∧ Fld Z h a "com/example/attestry/attestry/DerReader" "end" "I" (.int y) ∧ Fld Z h a "com/example/attestry/attestry/DerReader" "depth" "I" (.int d) ∧ Fld Z h c2 "com/example/attestry/attestry/DerReader" "bytes" "[B" (.ref b) ∧ Fld Z h c2 "com/example/attestry/attestry/DerReader" "berNote" "Lcom/example/attestry/attestry/DerReader$BerNote;" (.ref q) ∧ Fld Z h c2 "com/example/attestry/attestry/DerReader" "start" "I" (.int pp) ∧ Fld Z h c2 "com/example/attestry/attestry/DerReader" "position" "I" (.int ((pp + (1 : Int32)) + (1 : Int32))) ∧ Fld Z h c2 "com/example/attestry/attestry/DerReader" "end" "I" (.int (((pp + (1 : Int32)) + (1 : Int32)) + z.toInt64.toInt32)) ∧ Fld Z h c2 "com/example/attestry/attestry/DerReader" "depth" "I" (.int (d + (1 : Int32)))
set_option maxRecDepth 65536 in
set_option maxHeartbeats 40000000 in
theorem rm7 (l : Launch) (Z : State) (a0 : Array Value) (hw : ∀ d ∈ tables_1, d.before a0 Z = true) (ws : List Jvm.Cond) (t : Int32) (w : Addr) (a : Addr) (b : Addr) (q : Addr) (x : Int32) (pp : Int32) (y : Int32) (d : Int32) (f : Nat → Int32) (z : Int32) (h0 : Heap) (n0 : Nat) (Z0 : n0 ≤ h0.size) (g_a : n0 ≤ a) (E_a : Exa Z h0 a "com/example/attestry/attestry/DerReader") (Fbytes : Fld Z h0 a "com/example/attestry/attestry/DerReader" "bytes" "[B" (.ref b)) (FberNote : Fld Z h0 a "com/example/attestry/attestry/DerReader" "berNote" "Lcom/example/attestry/attestry/DerReader$BerNote;" (.ref q)) (Fstart : Fld Z h0 a "com/example/attestry/attestry/DerReader" "start" "I" (.int x)) (Fposition : Fld Z h0 a "com/example/attestry/attestry/DerReader" "position" "I" (.int pp)) (Fend : Fld Z h0 a "com/example/attestry/attestry/DerReader" "end" "I" (.int y)) (Fdepth : Fld Z h0 a "com/example/attestry/attestry/DerReader" "depth" "I" (.int d)) (Ab : Af Z h0 b .byte 10 f) (hab : a ≠ b) (hlt : pp < y) (hin : ¬ (pp < 0) ∧ (pp).toNatClampNeg < 10) (ht : f (pp).toNatClampNeg &&& (255 : Int32) = t) (hlt1 : (pp + (1 : Int32)) < y) (hin1 : ¬ ((pp + (1 : Int32)) < 0) ∧ ((pp + (1 : Int32))).toNatClampNeg < 10) (hz : f ((pp + (1 : Int32))).toNatClampNeg &&& (255 : Int32) = z) (hz8 : z < (128 : Int32)) (hz0 : ¬ (z < (0 : Int32))) (hd : ¬ ((32 : Int32) < d)) (hle : ¬ ((y - ((pp + (1 : Int32)) + (1 : Int32))).toInt64 < z.toInt64)) :
    MetFree l (⟨"com/example/attestry/attestry/DerReader", "contents", "(ILjava/lang/String;)Lcom/example/attestry/attestry/DerReader;"⟩ : MethodName) (head1 (Jvm.Cond.code (⟨"com/example/attestry/attestry/DerReader", "contents", "(ILjava/lang/String;)Lcom/example/attestry/attestry/DerReader;"⟩ : MethodName) prog_3_method_40_code 3 (some (.object "com/example/attestry/attestry/DerReader")) :: ws) ({ frames := 5, cells := 1, slots := 6, locals := 84 } : Room)) (fun aa_ U => aa_ = #[(.ref a), (.int t), (.ref w)] ∧ Z.Warmed39 U.vm ∧ U.heap = h0) (fun _ _ _ _ _ => True) (fun _ U o U' => ∃ vv_ LL_, o = .returned vv_ ∧ Q7 Z t w a b q x pp y d f z h0 n0 vv_ U'.heap LL_ ∧ FrameEnd U o U' LL_ ({ frames := 5, cells := 1, slots := 6, locals := 84 } : Room).cells ({ frames := 5, cells := 1, slots := 6, locals := 84 } : Room).slots) := by
  refine MetFree.of_bodySF (plainFor_of_name pn_2) hisR ?_
  intro p e s m args below meth c s₁ Bd hml0 hP hK
  obtain ⟨rfl, hZ, hh⟩ := hP
  have hx := Bd.exec
  have hby := Bd.bytes
  have hml : c.maxLocals = 3 := hml0
  have hown : s.vm.findClass "com/example/attestry/attestry/DerReader" = some m.cls := findClass_of_methodNamed Bd.named
  have hnm := (name_of_methodNamed Bd.named Bd.method).1
  have X0 : Stand p l e ({ frames := 5, cells := 1, slots := 6, locals := 84 } : Room) s m #[(.ref a), (.int t), (.ref w)] below meth c s₁ [] 0 0 := Stand.of_body Bd
  have e0 : s₁.heap = h0 := by rw [← hh, Bd.state]; rfl
  have N0 := Fr.nil n0
  have K0 : Keep h0 h0 [a] := Keep.refl h0 _
  refine Go.enter (P := fun o U' => ∃ vv_ LL_, o = .returned vv_ ∧ Q7 Z t w a b q x pp y d f z h0 n0 vv_ U'.heap LL_ ∧ FrameEnd s o U' LL_ ({ frames := 5, cells := 1, slots := 6, locals := 84 } : Room).cells ({ frames := 5, cells := 1, slots := 6, locals := 84 } : Room).slots) (ef_7 m a t w) ?_
  show Go p e below s₁ (mkF m 0 #[.val (.ref a), .val (.int t), .val (.ref w)] []) _
  refine Go.of (fun tg_ kk_ => XS.aloadN X0.here hx rfl (hb hby d7_0) rfl rfl kk_) ?_
  show Go p e below s₁ (mkF m 1 #[.val (.ref a), .val (.int t), .val (.ref w)] [(.ref a)]) _
  refine Go.of (fun tg_ kk_ => XS.iloadN X0.here hx rfl (hb hby d7_1) rfl kk_) ?_
  show Go p e below s₁ (mkF m 2 #[.val (.ref a), .val (.int t), .val (.ref w)] [(.int t), (.ref a)]) _
  refine Go.of (fun tg_ kk_ => XS.aloadN X0.here hx rfl (hb hby d7_2) rfl rfl kk_) ?_
  show Go p e below s₁ (mkF m 3 #[.val (.ref a), .val (.int t), .val (.ref w)] [(.ref w), (.int t), (.ref a)]) _
  refine Go.of (fun tg_ kk_ => XS.iconst X0.here hx rfl (hb hby d7_3) kk_) ?_
  show Go p e below s₁ (mkF m 4 #[.val (.ref a), .val (.int t), .val (.ref w)] [(.int (0 : Int32)), (.ref w), (.int t), (.ref a)]) _
  obtain ⟨cq1, qc1, qd1⟩ := E_a.cell
  obtain ⟨_, _, ⟨T1, L1, k1, n1⟩, -, X1, ⟨Lc1, hQ1, l1, y1, z1⟩, st1⟩ := X0.privateBack hx (y := (⟨"com/example/attestry/attestry/DerReader", "contents", "(ILjava/lang/String;Z)Lcom/example/attestry/attestry/DerReader;"⟩ : MethodName)) hown (mvT hZ (hw _ (List.mem_of_getElem? (i := 55) rfl))) (mvT hZ (hw _ (List.mem_of_getElem? (i := 56) rfl))) (own_selp (y := (⟨"com/example/attestry/attestry/DerReader", "contents", "(ILjava/lang/String;Z)Lcom/example/attestry/attestry/DerReader;"⟩ : MethodName)) (mvT hZ (hw _ (List.mem_of_getElem? (i := 7) rfl))) (Cond.privateMethod_at (mvP hZ (hw _ (List.mem_of_getElem? (i := 57) rfl)) (args := #[]))) (mvT hZ (hw _ (List.mem_of_getElem? (i := 56) rfl))) (by decide)) (Cond.privateMethod_at (mvP hZ (hw _ (List.mem_of_getElem? (i := 57) rfl)) (args := #[]))) (mvT hZ (hw _ (List.mem_of_getElem? (i := 58) rfl))) (by decide) (backOf (W := 0) (rm8 l Z a0 hw [] t w a b q x pp y d f z h0 n0 Z0 g_a E_a Fbytes FberNote Fstart Fposition Fend Fdepth Ab hab hlt hin ht hlt1 hin1 hz hz8 hz0 hd hle) hZ (hw _ (List.mem_of_getElem? (i := 58) rfl)) (hw _ (List.mem_of_getElem? (i := 8) rfl)) (by decide) (by decide)) (g := (mkF m 4 #[.val (.ref a), .val (.int t), .val (.ref w)] [(.int (0 : Int32)), (.ref w), (.int t), (.ref a)])) rfl (by rw [hml]; rfl) (Steps.refl _) (a := a) (by rw [e0]; exact qc1) qd1 (argsL := [(.int t), (.ref w), (.int (0 : Int32))]) (rest := []) (lenOf pd_6 rfl) rfl (by show 2 * 0 + _ ≤ _; exact Nat.le_of_eq rfl) (hb hby d7_4) (fun _ _ => ⟨rfl, e0, (by decide : 0 + 1 ≤ _), (by decide : 0 + 6 ≤ _)⟩)
  dsimp only [Pt.U, Pt.locs, Pt.cells, Pt.slots] at X1 l1 y1 z1 st1 hQ1
  have X1 := own_stand X1 l1 y1 z1
  obtain ⟨c1, rfl, N1q, K1q, gx1, sz1, E1, Fbytes_1, FberNote_1, Fstart_1, Fposition_1, Fend_1, Fdepth_1, Gbytes_1, GberNote_1, Gstart_1, Gposition_1, Gend_1, Gdepth_1⟩ := hQ1
  have N1 := Fr.app N0 N1q
  have sy1 : h0.size ≤ c1 := Nat.le_trans K0.1 sz1
  have ne2 : a ≠ c1 := Nat.ne_of_lt (Nat.lt_of_lt_of_le E_a.lt sz1)
  have ne3 : b ≠ c1 := Nat.ne_of_lt (Nat.lt_of_lt_of_le Ab.lt sz1)
  have F4 := E_a.keep K1q
  have F5 := Ab.keep K1q (ninS (Ne.symm hab) nin0)
  have K12 := K0.trans K1q (allS (Or.inl (List.mem_of_getElem? (i := 0) rfl)) all0)
  have Zs13 : n0 ≤ T1.heap.size := Nat.le_trans Z0 K1q.1
  refine Go.of (fun tg_ kk_ => st1.trans kk_) ?_
  show Go p e below T1 (mkF m 7 #[.val (.ref a), .val (.int t), .val (.ref w)] [(.ref c1)]) _
  obtain ⟨fs, hr, hrun, hended, hW, hsame⟩ := X1.leave (v := some (.ref c1)) (fun h => by rw [Bd.returns] at h; cases h)
  refine ⟨_, _, ?_, hrun, hended, _, _, rfl, ?_, ⟨_, rfl⟩, hW, hsame.mono (by decide) (by decide)⟩
  · exact retOut X1 hx Bd.returns rfl (Or.inr (Or.inr (Or.inr (Or.inr ⟨rfl, rfl, rfl⟩)))) (hb hby d7_7) hr
  · show Q7 Z t w a b q x pp y d f z h0 n0 _ T1.heap _
    exact ⟨_, rfl, N1, K12, gx1, sy1, E1, Fbytes_1, FberNote_1, Fstart_1, Fposition_1, Fend_1, Fdepth_1, Gbytes_1, GberNote_1, Gstart_1, Gposition_1, Gend_1, Gdepth_1⟩
theorem d6_0 : decode prog_3_method_8_code 0 = .ok (.aload_n 0, 1) := by decide +kernel
theorem d6_1 : decode prog_3_method_8_code 1 = .ok (.bipush 48, 2) := by decide +kernel
theorem d6_3 : decode prog_3_method_8_code 3 = .ok (.ldc 37, 2) := by decide +kernel
theorem d6_5 : decode prog_3_method_8_code 5 = .ok (.invokevirtual 39, 3) := by decide +kernel
theorem d6_8 : decode prog_3_method_8_code 8 = .ok (.areturn, 1) := by decide +kernel
theorem ef_6 (m : MethodId) (x0 : Addr) : entryFrame m #[(.ref x0)] 1 = mkF m 0 #[.val (.ref x0)] [] := by first | (simp [entryFrame, mkF, argsToLocals, Value.category]; done) | rfl
def Q6 (Z : State) (a : Addr) (b : Addr) (q : Addr) (x : Int32) (pp : Int32) (y : Int32) (d : Int32) (f : Nat → Int32) (z : Int32) (h0 : Heap) (n0 : Nat) (v : Option Value) (h : Heap) (L : List Loc) : Prop := ∃ c2 : Addr, v = some (.ref c2) ∧ Fr n0 L ∧ Keep h0 h [a] ∧ n0 ≤ c2 ∧ h0.size ≤ c2 ∧ Exa Z h c2 "com/example/attestry/attestry/DerReader" ∧ Fld Z h a "com/example/attestry/attestry/DerReader" "bytes" "[B" (.ref b) ∧ Fld Z h a "com/example/attestry/attestry/DerReader" "berNote" "Lcom/example/attestry/attestry/DerReader$BerNote;" (.ref q) ∧ Fld Z h a "com/example/attestry/attestry/DerReader" "start" "I" (.int x) ∧ Fld Z h a "com/example/attestry/attestry/DerReader" "position" "I" (.int (((pp + (1 : Int32)) + (1 : Int32)) + z.toInt64.toInt32)) ∧ Fld Z h a "com/example/attestry/attestry/DerReader" "end" "I" (.int y) ∧ Fld Z h a "com/example/attestry/attestry/DerReader" "depth" "I" (.int d) ∧ Fld Z h c2 "com/example/attestry/attestry/DerReader" "bytes" "[B" (.ref b) ∧ Fld Z h c2 "com/example/attestry/attestry/DerReader" "berNote" "Lcom/example/attestry/attestry/DerReader$BerNote;" (.ref q) ∧ Fld Z h c2 "com/example/attestry/attestry/DerReader" "start" "I" (.int pp) ∧ Fld Z h c2 "com/example/attestry/attestry/DerReader" "position" "I" (.int ((pp + (1 : Int32)) + (1 : Int32))) ∧ Fld Z h c2 "com/example/attestry/attestry/DerReader" "end" "I" (.int (((pp + (1 : Int32)) + (1 : Int32)) + z.toInt64.toInt32)) ∧ Fld Z h c2 "com/example/attestry/attestry/DerReader" "depth" "I" (.int (d + (1 : Int32)))
set_option maxRecDepth 65536 in
set_option maxHeartbeats 40000000 in
theorem rm6 (l : Launch) (Z : State) (a0 : Array Value) (hw : ∀ d ∈ tables_1, d.before a0 Z = true) (ws : List Jvm.Cond) (a : Addr) (b : Addr) (q : Addr) (x : Int32) (pp : Int32) (y : Int32) (d : Int32) (f : Nat → Int32) (z : Int32) (h0 : Heap) (n0 : Nat) (Z0 : n0 ≤ h0.size) (g_a : n0 ≤ a) (E_a : Exa Z h0 a "com/example/attestry/attestry/DerReader") (Fbytes : Fld Z h0 a "com/example/attestry/attestry/DerReader" "bytes" "[B" (.ref b)) (FberNote : Fld Z h0 a "com/example/attestry/attestry/DerReader" "berNote" "Lcom/example/attestry/attestry/DerReader$BerNote;" (.ref q)) (Fstart : Fld Z h0 a "com/example/attestry/attestry/DerReader" "start" "I" (.int x)) (Fposition : Fld Z h0 a "com/example/attestry/attestry/DerReader" "position" "I" (.int pp)) (Fend : Fld Z h0 a "com/example/attestry/attestry/DerReader" "end" "I" (.int y)) (Fdepth : Fld Z h0 a "com/example/attestry/attestry/DerReader" "depth" "I" (.int d)) (Ab : Af Z h0 b .byte 10 f) (hab : a ≠ b) (hlt : pp < y) (hin : ¬ (pp < 0) ∧ (pp).toNatClampNeg < 10) (ht : f (pp).toNatClampNeg &&& (255 : Int32) = (48 : Int32)) (hlt1 : (pp + (1 : Int32)) < y) (hin1 : ¬ ((pp + (1 : Int32)) < 0) ∧ ((pp + (1 : Int32))).toNatClampNeg < 10) (hz : f ((pp + (1 : Int32))).toNatClampNeg &&& (255 : Int32) = z) (hz8 : z < (128 : Int32)) (hz0 : ¬ (z < (0 : Int32))) (hd : ¬ ((32 : Int32) < d)) (hle : ¬ ((y - ((pp + (1 : Int32)) + (1 : Int32))).toInt64 < z.toInt64)) :
    MetFree l (⟨"com/example/attestry/attestry/DerReader", "sequence", "()Lcom/example/attestry/attestry/DerReader;"⟩ : MethodName) (head1 (Jvm.Cond.code (⟨"com/example/attestry/attestry/DerReader", "sequence", "()Lcom/example/attestry/attestry/DerReader;"⟩ : MethodName) prog_3_method_8_code 1 (some (.object "com/example/attestry/attestry/DerReader")) :: ws) ({ frames := 6, cells := 3, slots := 42, locals := 98 } : Room)) (fun aa_ U => aa_ = #[(.ref a)] ∧ Z.Warmed39 U.vm ∧ U.heap = h0) (fun _ _ _ _ _ => True) (fun _ U o U' => ∃ vv_ LL_, o = .returned vv_ ∧ Q6 Z a b q x pp y d f z h0 n0 vv_ U'.heap LL_ ∧ ReturnedEndW U o U' LL_ ({ frames := 6, cells := 3, slots := 42, locals := 98 } : Room).cells ({ frames := 6, cells := 3, slots := 42, locals := 98 } : Room).slots) := by
  refine MetFree.of_bodySF (plainFor_of_name pn_2) hisR ?_
  intro p e s m args below meth c s₁ Bd hml0 hP hK
  obtain ⟨rfl, hZ, hh⟩ := hP
  have hx := Bd.exec
  have hby := Bd.bytes
  have hml : c.maxLocals = 1 := hml0
  have hown : s.vm.findClass "com/example/attestry/attestry/DerReader" = some m.cls := findClass_of_methodNamed Bd.named
  have hnm := (name_of_methodNamed Bd.named Bd.method).1
  have X0 : Stand p l e ({ frames := 6, cells := 3, slots := 42, locals := 98 } : Room) (s.setVm s.vm) m #[(.ref a)] below meth c s₁ [] 0 0 := Stand.of_body Bd
  have e0 : s₁.heap = h0 := by rw [← hh, Bd.state]; rfl
  have N0 := Fr.nil n0
  have K0 : Keep h0 h0 [a] := Keep.refl h0 _
  have hS0 : s.Since s.vm h0.size := (State.WarmedH.refl s).since _
  have hk0 : h0.size ≤ h0.size := Nat.le_refl _
  have wS : ∀ a ∈ Bundle.stringAtoms, a.before a0 Z = true := by
    intro d hd
    simp only [Bundle.stringAtoms, List.mem_cons, List.not_mem_nil, or_false] at hd
    rcases hd with rfl | rfl | rfl | rfl | rfl | rfl | rfl
    · exact (hw _ (List.mem_of_getElem? (i := 45) rfl))
    · exact (hw _ (List.mem_of_getElem? (i := 46) rfl))
    · exact (hw _ (List.mem_of_getElem? (i := 1) rfl))
    · exact (hw _ (List.mem_of_getElem? (i := 47) rfl))
    · exact (hw _ (List.mem_of_getElem? (i := 48) rfl))
    · exact (hw _ (List.mem_of_getElem? (i := 49) rfl))
    · exact (hw _ (List.mem_of_getElem? (i := 50) rfl))
  refine Go.enter (P := fun o U' => ∃ vv_ LL_, o = .returned vv_ ∧ Q6 Z a b q x pp y d f z h0 n0 vv_ U'.heap LL_ ∧ ReturnedEndW s o U' LL_ ({ frames := 6, cells := 3, slots := 42, locals := 98 } : Room).cells ({ frames := 6, cells := 3, slots := 42, locals := 98 } : Room).slots) (ef_6 m a) ?_
  show Go p e below s₁ (mkF m 0 #[.val (.ref a)] []) _
  refine Go.of (fun tg_ kk_ => XS.aloadN X0.here hx rfl (hb hby d6_0) rfl rfl kk_) ?_
  show Go p e below s₁ (mkF m 1 #[.val (.ref a)] [(.ref a)]) _
  refine Go.of (fun tg_ kk_ => XS.bipush X0.here hx rfl (hb hby d6_1) kk_) ?_
  show Go p e below s₁ (mkF m 3 #[.val (.ref a)] [(.int (48 : Int32)), (.ref a)]) _
  obtain ⟨sa1, T1, h1, kk1, X1, e1, E1, hS1, hj1, hZ1, hown1, st1⟩ := ldcS X0 hx hZ hown (hw _ (List.mem_of_getElem? (i := 44) rfl)) wS e0 hS0 hk0 (g := (mkF m 3 #[.val (.ref a)] [(.int (48 : Int32)), (.ref a)])) rfl (hb hby d6_3) (n := 32) (by decide +kernel) (by decide) (by decide) (by decide)
  have F2 := E_a.ext E1
  have F3 := Ab.ext E1
  have F4 := Fbytes.ext E1
  have F5 := FberNote.ext E1
  have F6 := Fstart.ext E1
  have F7 := Fposition.ext E1
  have F8 := Fend.ext E1
  have F9 := Fdepth.ext E1
  have K10 := K0.ext E1
  have Zs11 : n0 ≤ h1.size := Nat.le_trans Z0 E1.1
  have hk12 := Nat.le_trans hk0 E1.1
  refine Go.of (st1) ?_
  show Go p e below T1 (mkF m 5 #[.val (.ref a)] [(.ref sa1), (.int (48 : Int32)), (.ref a)]) _
  obtain ⟨cq13, qc13, qd13⟩ := F2.cell
  obtain ⟨_, _, ⟨T13, L13, k13, n13⟩, -, X13, ⟨Lc13, hQ13, l13, y13, z13⟩, st13⟩ := X1.privateBack hx (y := (⟨"com/example/attestry/attestry/DerReader", "contents", "(ILjava/lang/String;)Lcom/example/attestry/attestry/DerReader;"⟩ : MethodName)) hown1 (mvT hZ1 (hw _ (List.mem_of_getElem? (i := 51) rfl))) (mvT hZ1 (hw _ (List.mem_of_getElem? (i := 52) rfl))) (own_selp (y := (⟨"com/example/attestry/attestry/DerReader", "contents", "(ILjava/lang/String;)Lcom/example/attestry/attestry/DerReader;"⟩ : MethodName)) (mvT hZ1 (hw _ (List.mem_of_getElem? (i := 7) rfl))) (Cond.privateMethod_at (mvP hZ1 (hw _ (List.mem_of_getElem? (i := 53) rfl)) (args := #[]))) (mvT hZ1 (hw _ (List.mem_of_getElem? (i := 52) rfl))) (by decide)) (Cond.privateMethod_at (mvP hZ1 (hw _ (List.mem_of_getElem? (i := 53) rfl)) (args := #[]))) (mvT hZ1 (hw _ (List.mem_of_getElem? (i := 54) rfl))) (by decide) (backOf (W := 0) (rm7 l Z a0 hw [] (48 : Int32) sa1 a b q x pp y d f z h1 n0 Zs11 g_a F2 F4 F5 F6 F7 F8 F9 F3 hab hlt hin ht hlt1 hin1 hz hz8 hz0 hd hle) hZ1 (hw _ (List.mem_of_getElem? (i := 54) rfl)) (hw _ (List.mem_of_getElem? (i := 8) rfl)) (by decide) (by decide)) (g := (mkF m 5 #[.val (.ref a)] [(.ref sa1), (.int (48 : Int32)), (.ref a)])) rfl (by rw [hml]; rfl) (Steps.refl _) (a := a) (by rw [e1]; exact qc13) qd13 (argsL := [(.int (48 : Int32)), (.ref sa1)]) (rest := []) (lenOf pd_7 rfl) rfl (by show 2 * 0 + _ ≤ _; exact Nat.le_of_eq rfl) (hb hby d6_5) (fun _ _ => ⟨rfl, e1, (by decide : 2 + 1 ≤ _), (by decide : 36 + 6 ≤ _)⟩)
  dsimp only [Pt.U, Pt.locs, Pt.cells, Pt.slots] at X13 l13 y13 z13 st13 hQ13
  have X13 := own_stand X13 l13 y13 z13
  obtain ⟨c13, rfl, N13q, K13q, gx13, sz13, E13, Fbytes_13, FberNote_13, Fstart_13, Fposition_13, Fend_13, Fdepth_13, Gbytes_13, GberNote_13, Gstart_13, Gposition_13, Gend_13, Gdepth_13⟩ := hQ13
  have N13 := Fr.app N0 N13q
  have sy13 : h0.size ≤ c13 := Nat.le_trans K10.1 sz13
  have ne14 : a ≠ c13 := Nat.ne_of_lt (Nat.lt_of_lt_of_le F2.lt sz13)
  have ne15 : b ≠ c13 := Nat.ne_of_lt (Nat.lt_of_lt_of_le F3.lt sz13)
  have F16 := F2.keep K13q
  have F17 := F3.keep K13q (ninS (Ne.symm hab) nin0)
  have K24 := K10.trans K13q (allS (Or.inl (List.mem_of_getElem? (i := 0) rfl)) all0)
  have Zs25 : n0 ≤ T13.heap.size := Nat.le_trans Zs11 K13q.1
  have hk26 := Nat.le_trans hj1 K13q.1
  refine Go.of (fun tg_ kk_ => st13.trans kk_) ?_
  show Go p e below T13 (mkF m 8 #[.val (.ref a)] [(.ref c13)]) _
  obtain ⟨fs, hr, hrun, hended, hend⟩ := X13.leaveW hS1 hk26 (v := some (.ref c13)) (fun h => by rw [Bd.returns] at h; cases h)
  refine ⟨_, _, ?_, hrun, hended, _, _, rfl, ?_, hend.1, hend.2.1, hend.2.2.1, hend.2.2.2.mono (by decide) (by decide)⟩
  · exact retOut X13 hx Bd.returns rfl (Or.inr (Or.inr (Or.inr (Or.inr ⟨rfl, rfl, rfl⟩)))) (hb hby d6_8) hr
  · show Q6 Z a b q x pp y d f z h0 n0 _ T13.heap _
    exact ⟨_, rfl, N13, K24, gx13, sy13, E13, Fbytes_13, FberNote_13, Fstart_13, Fposition_13, Fend_13, Fdepth_13, Gbytes_13, GberNote_13, Gstart_13, Gposition_13, Gend_13, Gdepth_13⟩
theorem d14_0 : decode prog_3_method_18_code 0 = .ok (.aload_n 0, 1) := by decide +kernel
theorem d14_1 : decode prog_3_method_18_code 1 = .ok (.getfield 24, 3) := by decide +kernel
theorem d14_4 : decode prog_3_method_18_code 4 = .ok (.istore_n 1, 1) := by decide +kernel
theorem d14_5 : decode prog_3_method_18_code 5 = .ok (.aload_n 0, 1) := by decide +kernel
theorem d14_6 : decode prog_3_method_18_code 6 = .ok (.iconst 5, 1) := by decide +kernel
theorem d14_7 : decode prog_3_method_18_code 7 = .ok (.ldc 96, 2) := by decide +kernel
theorem d14_9 : decode prog_3_method_18_code 9 = .ok (.invokevirtual 39, 3) := by decide +kernel
theorem d14_12 : decode prog_3_method_18_code 12 = .ok (.astore_n 2, 1) := by decide +kernel
theorem d14_13 : decode prog_3_method_18_code 13 = .ok (.aload_n 2, 1) := by decide +kernel
theorem d14_14 : decode prog_3_method_18_code 14 = .ok (.invokevirtual 98, 3) := by decide +kernel
theorem d14_17 : decode prog_3_method_18_code 17 = .ok (.ifCond .eq 10, 3) := by decide +kernel
theorem d14_27 : decode prog_3_method_18_code 27 = .ok (.return_, 1) := by decide +kernel
theorem ef_14 (m : MethodId) (x0 : Addr) : entryFrame m #[(.ref x0)] 3 = mkF m 0 #[.val (.ref x0), .unset, .unset] [] := by first | (simp [entryFrame, mkF, argsToLocals, Value.category]; done) | rfl
def Q14 (Z : State) (a : Addr) (b : Addr) (q : Addr) (x : Int32) (pp : Int32) (y : Int32) (d : Int32) (f : Nat → Int32) (h0 : Heap) (n0 : Nat) (v : Option Value) (h : Heap) (L : List Loc) : Prop := v = none ∧ Fr n0 L ∧ Keep h0 h [a] ∧ Fld Z h a "com/example/attestry/attestry/DerReader" "bytes" "[B" (.ref b) ∧ Fld Z h a "com/example/attestry/attestry/DerReader" "berNote" "Lcom/example/attestry/attestry/DerReader$BerNote;" (.ref q) ∧ Fld Z h a "com/example/attestry/attestry/DerReader" "start" "I" (.int x) ∧ Fld Z h a "com/example/attestry/attestry/DerReader" "position" "I" (.int (((pp + (1 : Int32)) + (1 : Int32)) + (0 : Int32).toInt64.toInt32)) ∧ Fld Z h a "com/example/attestry/attestry/DerReader" "end" "I" (.int y) ∧ Fld Z h a "com/example/attestry/attestry/DerReader" "depth" "I" (.int d)
set_option maxRecDepth 65536 in
set_option maxHeartbeats 40000000 in
theorem rm14 (l : Launch) (Z : State) (a0 : Array Value) (hw : ∀ d ∈ tables_1, d.before a0 Z = true) (ws : List Jvm.Cond) (a : Addr) (b : Addr) (q : Addr) (x : Int32) (pp : Int32) (y : Int32) (d : Int32) (f : Nat → Int32) (h0 : Heap) (n0 : Nat) (Z0 : n0 ≤ h0.size) (g_a : n0 ≤ a) (E_a : Exa Z h0 a "com/example/attestry/attestry/DerReader") (Fbytes : Fld Z h0 a "com/example/attestry/attestry/DerReader" "bytes" "[B" (.ref b)) (FberNote : Fld Z h0 a "com/example/attestry/attestry/DerReader" "berNote" "Lcom/example/attestry/attestry/DerReader$BerNote;" (.ref q)) (Fstart : Fld Z h0 a "com/example/attestry/attestry/DerReader" "start" "I" (.int x)) (Fposition : Fld Z h0 a "com/example/attestry/attestry/DerReader" "position" "I" (.int pp)) (Fend : Fld Z h0 a "com/example/attestry/attestry/DerReader" "end" "I" (.int y)) (Fdepth : Fld Z h0 a "com/example/attestry/attestry/DerReader" "depth" "I" (.int d)) (Ab : Af Z h0 b .byte 10 f) (hab : a ≠ b) (hlt : pp < y) (hin : ¬ (pp < 0) ∧ (pp).toNatClampNeg < 10) (ht : f (pp).toNatClampNeg &&& (255 : Int32) = (5 : Int32)) (hlt1 : (pp + (1 : Int32)) < y) (hin1 : ¬ ((pp + (1 : Int32)) < 0) ∧ ((pp + (1 : Int32))).toNatClampNeg < 10) (hz : f ((pp + (1 : Int32))).toNatClampNeg &&& (255 : Int32) = (0 : Int32)) (hz8 : (0 : Int32) < (128 : Int32)) (hz0 : ¬ ((0 : Int32) < (0 : Int32))) (hd : ¬ ((32 : Int32) < d)) (hle : ¬ ((y - ((pp + (1 : Int32)) + (1 : Int32))).toInt64 < (0 : Int32).toInt64)) :
    MetFree l (⟨"com/example/attestry/attestry/DerReader", "nullValue", "()V"⟩ : MethodName) (head1 (Jvm.Cond.code (⟨"com/example/attestry/attestry/DerReader", "nullValue", "()V"⟩ : MethodName) prog_3_method_18_code 3 none :: ws) ({ frames := 6, cells := 3, slots := 26, locals := 98 } : Room)) (fun aa_ U => aa_ = #[(.ref a)] ∧ Z.Warmed39 U.vm ∧ U.heap = h0) (fun _ _ _ _ _ => True) (fun _ U o U' => ∃ vv_ LL_, o = .returned vv_ ∧ Q14 Z a b q x pp y d f h0 n0 vv_ U'.heap LL_ ∧ ReturnedEndW U o U' LL_ ({ frames := 6, cells := 3, slots := 26, locals := 98 } : Room).cells ({ frames := 6, cells := 3, slots := 26, locals := 98 } : Room).slots) := by
  refine MetFree.of_bodySF (plainFor_of_name pn_2) hisR ?_
  intro p e s m args below meth c s₁ Bd hml0 hP hK
  obtain ⟨rfl, hZ, hh⟩ := hP
  have hx := Bd.exec
  have hby := Bd.bytes
  have hml : c.maxLocals = 3 := hml0
  have hown : s.vm.findClass "com/example/attestry/attestry/DerReader" = some m.cls := findClass_of_methodNamed Bd.named
  have hnm := (name_of_methodNamed Bd.named Bd.method).1
  have X0 : Stand p l e ({ frames := 6, cells := 3, slots := 26, locals := 98 } : Room) (s.setVm s.vm) m #[(.ref a)] below meth c s₁ [] 0 0 := Stand.of_body Bd
  have e0 : s₁.heap = h0 := by rw [← hh, Bd.state]; rfl
  have N0 := Fr.nil n0
  have K0 : Keep h0 h0 [a] := Keep.refl h0 _
  have hS0 : s.Since s.vm h0.size := (State.WarmedH.refl s).since _
  have hk0 : h0.size ≤ h0.size := Nat.le_refl _
  have wS : ∀ a ∈ Bundle.stringAtoms, a.before a0 Z = true := by
    intro d hd
    simp only [Bundle.stringAtoms, List.mem_cons, List.not_mem_nil, or_false] at hd
    rcases hd with rfl | rfl | rfl | rfl | rfl | rfl | rfl
    · exact (hw _ (List.mem_of_getElem? (i := 45) rfl))
    · exact (hw _ (List.mem_of_getElem? (i := 46) rfl))
    · exact (hw _ (List.mem_of_getElem? (i := 1) rfl))
    · exact (hw _ (List.mem_of_getElem? (i := 47) rfl))
    · exact (hw _ (List.mem_of_getElem? (i := 48) rfl))
    · exact (hw _ (List.mem_of_getElem? (i := 49) rfl))
    · exact (hw _ (List.mem_of_getElem? (i := 50) rfl))
  refine Go.enter (P := fun o U' => ∃ vv_ LL_, o = .returned vv_ ∧ Q14 Z a b q x pp y d f h0 n0 vv_ U'.heap LL_ ∧ ReturnedEndW s o U' LL_ ({ frames := 6, cells := 3, slots := 26, locals := 98 } : Room).cells ({ frames := 6, cells := 3, slots := 26, locals := 98 } : Room).slots) (ef_14 m a) ?_
  show Go p e below s₁ (mkF m 0 #[.val (.ref a), .unset, .unset] []) _
  refine Go.of (fun tg_ kk_ => XS.aloadN X0.here hx rfl (hb hby d14_0) rfl rfl kk_) ?_
  show Go p e below s₁ (mkF m 1 #[.val (.ref a), .unset, .unset] [(.ref a)]) _
  obtain ⟨T1, X1, e1, st1⟩ := getF X0 hx hZ hown (host := "") (Or.inl (hw _ (List.mem_of_getElem? (i := 28) rfl))) Via.refl e0 Fposition (g := (mkF m 1 #[.val (.ref a), .unset, .unset] [(.ref a)])) rfl rfl (hb hby d14_1)
  refine Go.of (st1) ?_
  show Go p e below T1 (mkF m 4 #[.val (.ref a), .unset, .unset] [(.int pp)]) _
  refine Go.of (fun tg_ kk_ => XS.istoreN X1.here hx rfl (hb hby d14_4) rfl (l' := #[.val (.ref a), .val (.int pp), .unset]) rfl kk_) ?_
  show Go p e below T1 (mkF m 5 #[.val (.ref a), .val (.int pp), .unset] []) _
  refine Go.of (fun tg_ kk_ => XS.aloadN X1.here hx rfl (hb hby d14_5) rfl rfl kk_) ?_
  show Go p e below T1 (mkF m 6 #[.val (.ref a), .val (.int pp), .unset] [(.ref a)]) _
  refine Go.of (fun tg_ kk_ => XS.iconst X1.here hx rfl (hb hby d14_6) kk_) ?_
  show Go p e below T1 (mkF m 7 #[.val (.ref a), .val (.int pp), .unset] [(.int (5 : Int32)), (.ref a)]) _
  obtain ⟨sa2, T2, h2, kk2, X2, e2, E2, hS2, hj2, hZ2, hown2, st2⟩ := ldcS X1 hx hZ hown (hw _ (List.mem_of_getElem? (i := 86) rfl)) wS e1 hS0 hk0 (g := (mkF m 7 #[.val (.ref a), .val (.int pp), .unset] [(.int (5 : Int32)), (.ref a)])) rfl (hb hby d14_7) (n := 16) (by decide +kernel) (by decide) (by decide) (by decide)
  have F3 := E_a.ext E2
  have F4 := Ab.ext E2
  have F5 := Fbytes.ext E2
  have F6 := FberNote.ext E2
  have F7 := Fstart.ext E2
  have F8 := Fposition.ext E2
  have F9 := Fend.ext E2
  have F10 := Fdepth.ext E2
  have K11 := K0.ext E2
  have Zs12 : n0 ≤ h2.size := Nat.le_trans Z0 E2.1
  have hk13 := Nat.le_trans hk0 E2.1
  refine Go.of (st2) ?_
  show Go p e below T2 (mkF m 9 #[.val (.ref a), .val (.int pp), .unset] [(.ref sa2), (.int (5 : Int32)), (.ref a)]) _
  obtain ⟨cq14, qc14, qd14⟩ := F3.cell
  obtain ⟨_, _, ⟨T14, L14, k14, n14⟩, -, X14, ⟨Lc14, hQ14, l14, y14, z14⟩, st14⟩ := X2.privateBack hx (y := (⟨"com/example/attestry/attestry/DerReader", "contents", "(ILjava/lang/String;)Lcom/example/attestry/attestry/DerReader;"⟩ : MethodName)) hown2 (mvT hZ2 (hw _ (List.mem_of_getElem? (i := 51) rfl))) (mvT hZ2 (hw _ (List.mem_of_getElem? (i := 52) rfl))) (own_selp (y := (⟨"com/example/attestry/attestry/DerReader", "contents", "(ILjava/lang/String;)Lcom/example/attestry/attestry/DerReader;"⟩ : MethodName)) (mvT hZ2 (hw _ (List.mem_of_getElem? (i := 7) rfl))) (Cond.privateMethod_at (mvP hZ2 (hw _ (List.mem_of_getElem? (i := 53) rfl)) (args := #[]))) (mvT hZ2 (hw _ (List.mem_of_getElem? (i := 52) rfl))) (by decide)) (Cond.privateMethod_at (mvP hZ2 (hw _ (List.mem_of_getElem? (i := 53) rfl)) (args := #[]))) (mvT hZ2 (hw _ (List.mem_of_getElem? (i := 54) rfl))) (by decide) (backOf (W := 0) (rm7 l Z a0 hw [] (5 : Int32) sa2 a b q x pp y d f (0 : Int32) h2 n0 Zs12 g_a F3 F5 F6 F7 F8 F9 F10 F4 hab hlt hin ht hlt1 hin1 hz hz8 hz0 hd hle) hZ2 (hw _ (List.mem_of_getElem? (i := 54) rfl)) (hw _ (List.mem_of_getElem? (i := 8) rfl)) (by decide) (by decide)) (g := (mkF m 9 #[.val (.ref a), .val (.int pp), .unset] [(.ref sa2), (.int (5 : Int32)), (.ref a)])) rfl (by rw [hml]; rfl) (Steps.refl _) (a := a) (by rw [e2]; exact qc14) qd14 (argsL := [(.int (5 : Int32)), (.ref sa2)]) (rest := []) (lenOf pd_7 rfl) rfl (by show 2 * 0 + _ ≤ _; exact Nat.le_of_eq rfl) (hb hby d14_9) (fun _ _ => ⟨rfl, e2, (by decide : 2 + 1 ≤ _), (by decide : 20 + 6 ≤ _)⟩)
  dsimp only [Pt.U, Pt.locs, Pt.cells, Pt.slots] at X14 l14 y14 z14 st14 hQ14
  have X14 := own_stand X14 l14 y14 z14
  obtain ⟨c14, rfl, N14q, K14q, gx14, sz14, E14, Fbytes_14, FberNote_14, Fstart_14, Fposition_14, Fend_14, Fdepth_14, Gbytes_14, GberNote_14, Gstart_14, Gposition_14, Gend_14, Gdepth_14⟩ := hQ14
  have N14 := Fr.app N0 N14q
  have sy14 : h0.size ≤ c14 := Nat.le_trans K11.1 sz14
  have ne15 : a ≠ c14 := Nat.ne_of_lt (Nat.lt_of_lt_of_le F3.lt sz14)
  have ne16 : b ≠ c14 := Nat.ne_of_lt (Nat.lt_of_lt_of_le F4.lt sz14)
  have F17 := F3.keep K14q
  have F18 := F4.keep K14q (ninS (Ne.symm hab) nin0)
  have K25 := K11.trans K14q (allS (Or.inl (List.mem_of_getElem? (i := 0) rfl)) all0)
  have Zs26 : n0 ≤ T14.heap.size := Nat.le_trans Zs12 K14q.1
  have hk27 := Nat.le_trans hj2 K14q.1
  refine Go.of (fun tg_ kk_ => st14.trans kk_) ?_
  show Go p e below T14 (mkF m 12 #[.val (.ref a), .val (.int pp), .unset] [(.ref c14)]) _
  refine Go.of (fun tg_ kk_ => XS.astoreN X14.here hx rfl (hb hby d14_12) rfl rfl (l' := #[.val (.ref a), .val (.int pp), .val (.ref c14)]) rfl kk_) ?_
  show Go p e below T14 (mkF m 13 #[.val (.ref a), .val (.int pp), .val (.ref c14)] []) _
  refine Go.of (fun tg_ kk_ => XS.aloadN X14.here hx rfl (hb hby d14_13) rfl rfl kk_) ?_
  show Go p e below T14 (mkF m 14 #[.val (.ref a), .val (.int pp), .val (.ref c14)] [(.ref c14)]) _
  obtain ⟨cq28, kq28, q28a, q28b, q28c⟩ := isOf hZ2 rfl E14
  obtain ⟨_, _, ⟨T28, L28, k28, n28⟩, -, X28, ⟨Lc28, hQ28, l28, y28, z28⟩, st28⟩ := X14.virtualBack hx (y := (⟨"com/example/attestry/attestry/DerReader", "hasNext", "()Z"⟩ : MethodName)) (z := (⟨"com/example/attestry/attestry/DerReader", "hasNext", "()Z"⟩ : MethodName)) hown2 (mvT hZ2 (hw _ (List.mem_of_getElem? (i := 59) rfl))) (mvT hZ2 (hw _ (List.mem_of_getElem? (i := 35) rfl))) (notFace_of_selects (args := #[]) (mvT hZ2 (hw _ (List.mem_of_getElem? (i := 37) rfl)))) (mvT hZ2 (hw _ (List.mem_of_getElem? (i := 37) rfl))) (mvT hZ2 (hw _ (List.mem_of_getElem? (i := 36) rfl))) (by decide) (backOf (W := 0) (rm5 l Z a0 hw [] c14 ((pp + (1 : Int32)) + (1 : Int32)) (((pp + (1 : Int32)) + (1 : Int32)) + (0 : Int32).toInt64.toInt32) T14.heap n0 Zs26 Gposition_14 Gend_14) hZ2 (hw _ (List.mem_of_getElem? (i := 38) rfl)) (hw _ (List.mem_of_getElem? (i := 8) rfl)) (by decide) (by decide)) q28a q28c (g := (mkF m 14 #[.val (.ref a), .val (.int pp), .val (.ref c14)] [(.ref c14)])) rfl (by rw [hml]; rfl) (Steps.refl _) (argsL := []) (rest := []) (lenOf pd_1 rfl) rfl (by show 2 * 0 + _ ≤ _; exact Nat.le_of_eq rfl) (hb hby d14_14) (fun _ _ => ⟨rfl, rfl, (by decide : 3 + 0 ≤ _), (by decide : 26 + 0 ≤ _)⟩)
  dsimp only [Pt.U, Pt.locs, Pt.cells, Pt.slots] at X28 l28 y28 z28 st28 hQ28
  have X28 := own_stand X28 l28 y28 z28
  obtain ⟨hv28, N28q, e28⟩ := hQ28
  rw [if_neg (own_nlt ((pp + (1 : Int32)) + (1 : Int32)))] at hv28
  subst hv28
  have N28 := Fr.app N14 N28q
  refine Go.of (fun tg_ kk_ => st28.trans kk_) ?_
  show Go p e below T28 (mkF m 17 #[.val (.ref a), .val (.int pp), .val (.ref c14)] [(.int (0 : Int32))]) _
  refine Go.of (fun tg_ kk_ => XS.ifYes X28.here hx rfl (pc0 := 17) (pc' := 27) rfl (hb hby d14_17) rfl ((if0 _ _).trans (teq (show (0 : Int32) = (0 : Int32) by decide)).1) (by decide) (by decide) kk_) ?_
  show Go p e below T28 (mkF m 27 #[.val (.ref a), .val (.int pp), .val (.ref c14)] []) _
  obtain ⟨fs, hr, hrun, hended, hend⟩ := X28.leaveW hS2 (by rw [e28]; exact hk27) (v := none) (fun _ => rfl)
  refine ⟨_, _, ?_, hrun, hended, _, _, rfl, ?_, hend.1, hend.2.1, hend.2.2.1, hend.2.2.2.mono (by decide) (by decide)⟩
  · exact X28.returnOut hx Bd.returns (hb hby d14_27) hr
  · show Q14 Z a b q x pp y d f h0 n0 _ T28.heap _
    rw [e28]
    exact ⟨rfl, N28, K25, Fbytes_14, FberNote_14, Fstart_14, Fposition_14, Fend_14, Fdepth_14⟩
theorem ef_0 (m : MethodId) (x0 : Int32) (x1 : Int32) : entryFrame m #[(.int x0), (.int x1)] maxLocals = mkF m 0 #[.val (.int x0), .val (.int x1), .unset, .unset, .unset, .unset, .unset] [] := by first | (simp [entryFrame, mkF, argsToLocals, Value.category, maxLocals]; done) | rfl
def Q0 (Z : State) (p0 : Int32) (p1 : Int32) (h0 : Heap) (n0 : Nat) (v : Option Value) (h : Heap) (L : List Loc) : Prop := v = some (.int 1) ∧ Fr n0 L
set_option maxRecDepth 65536 in
set_option maxHeartbeats 40000000 in
theorem rm0 (l : Launch) (Z : State) (a0 : Array Value) (hw : ∀ d ∈ tables_1, d.before a0 Z = true) (ws : List Jvm.Cond) (p0 : Int32) (p1 : Int32) (h0 : Heap) (n0 : Nat) (Z0 : n0 ≤ h0.size) :
    MetFree l x (head1 (Jvm.Cond.code x code maxLocals ret :: ws) room_1) (fun aa_ U => aa_ = #[(.int p0), (.int p1)] ∧ Z.Warmed39 U.vm ∧ U.heap = h0) (fun _ _ _ _ _ => True) (fun _ U o U' => ∃ vv_ LL_, o = .returned vv_ ∧ Q0 Z p0 p1 h0 n0 vv_ U'.heap LL_ ∧ ReturnedEndW U o U' LL_ 32 2240) := by
  refine MetFree.of_bodySF (plainFor_of_name pn_0) hisR ?_
  intro p e s m args below meth c s₁ Bd hml0 hP hK
  obtain ⟨rfl, hZ, hh⟩ := hP
  have hx := Bd.exec
  have hby := Bd.bytes
  have hml : c.maxLocals = 7 := hml0
  have hown : s.vm.findClass "com/example/attestry/attestry/DerReaderHasNextPinLaw" = some m.cls := findClass_of_methodNamed Bd.named
  have hnm := (name_of_methodNamed Bd.named Bd.method).1
  have X0 : Stand p l e room_1 (s.setVm s.vm) m #[(.int p0), (.int p1)] below meth c s₁ [] 0 0 := Stand.of_body Bd
  have e0 : s₁.heap = h0 := by rw [← hh, Bd.state]; rfl
  have N0 := Fr.nil n0
  have K0 : Keep h0 h0 [] := Keep.refl h0 _
  have hS0 : s.Since s.vm h0.size := (State.WarmedH.refl s).since _
  have hk0 : h0.size ≤ h0.size := Nat.le_refl _
  have wS : ∀ a ∈ Bundle.stringAtoms, a.before a0 Z = true := by
    intro d hd
    simp only [Bundle.stringAtoms, List.mem_cons, List.not_mem_nil, or_false] at hd
    rcases hd with rfl | rfl | rfl | rfl | rfl | rfl | rfl
    · exact (hw _ (List.mem_of_getElem? (i := 45) rfl))
    · exact (hw _ (List.mem_of_getElem? (i := 46) rfl))
    · exact (hw _ (List.mem_of_getElem? (i := 1) rfl))
    · exact (hw _ (List.mem_of_getElem? (i := 47) rfl))
    · exact (hw _ (List.mem_of_getElem? (i := 48) rfl))
    · exact (hw _ (List.mem_of_getElem? (i := 49) rfl))
    · exact (hw _ (List.mem_of_getElem? (i := 50) rfl))
  refine Go.enter (P := fun o U' => ∃ vv_ LL_, o = .returned vv_ ∧ Q0 Z p0 p1 h0 n0 vv_ U'.heap LL_ ∧ ReturnedEndW s o U' LL_ 32 2240) (ef_0 m p0 p1) ?_
  show Go p e below s₁ (mkF m 0 #[.val (.int p0), .val (.int p1), .unset, .unset, .unset, .unset, .unset] []) _
  refine Go.of (fun tg_ kk_ => XS.iloadN X0.here hx rfl (hb hby at_0) rfl kk_) ?_
  show Go p e below s₁ (mkF m 1 #[.val (.int p0), .val (.int p1), .unset, .unset, .unset, .unset, .unset] [(.int p0)]) _
  refine Go.of (X0.ldcInt hx hown (mvT hZ (hw _ (List.mem_of_getElem? (i := 0) rfl))) (g := (mkF m 1 #[.val (.int p0), .val (.int p1), .unset, .unset, .unset, .unset, .unset] [(.int p0)])) rfl (hb hby at_1)) ?_
  show Go p e below s₁ (mkF m 3 #[.val (.int p0), .val (.int p1), .unset, .unset, .unset, .unset, .unset] [(.int (2147483647 : Int32)), (.int p0)]) _
  refine Go.of (fun tg_ kk_ => XS.iand X0.here hx rfl (hb hby at_3) rfl kk_) ?_
  show Go p e below s₁ (mkF m 4 #[.val (.int p0), .val (.int p1), .unset, .unset, .unset, .unset, .unset] [(.int (p0 &&& (2147483647 : Int32)))]) _
  refine Go.of (fun tg_ kk_ => XS.iconst X0.here hx rfl (hb hby at_4) kk_) ?_
  show Go p e below s₁ (mkF m 5 #[.val (.int p0), .val (.int p1), .unset, .unset, .unset, .unset, .unset] [(.int (5 : Int32)), (.int (p0 &&& (2147483647 : Int32)))]) _
  refine Go.of (fun tg_ kk_ => Jvm.RoadKit.iremM (g := (mkF m 5 #[.val (.int p0), .val (.int p1), .unset, .unset, .unset, .unset, .unset] [(.int (5 : Int32)), (.int (p0 &&& (2147483647 : Int32)))])) X0 hx rfl (hb hby at_5) rfl (by decide) kk_) ?_
  show Go p e below s₁ (mkF m 6 #[.val (.int p0), .val (.int p1), .unset, .unset, .unset, .unset, .unset] [(.int ((p0 &&& (2147483647 : Int32)) % (5 : Int32)))]) _
  obtain ⟨kk, qkk⟩ : ∃ zz_ : Int32, zz_ = ((p0 &&& (2147483647 : Int32)) % (5 : Int32)) := ⟨_, rfl⟩
  rw [← qkk]
  show Go p e below s₁ (mkF m 6 #[.val (.int p0), .val (.int p1), .unset, .unset, .unset, .unset, .unset] [(.int kk)]) _
  rcases (show kk = (0 : Int32) ∨ kk = (1 : Int32) ∨ kk = (2 : Int32) ∨ kk = (3 : Int32) ∨ kk = (4 : Int32) from by rw [qkk]; exact own_mod5 p0) with hs1 | hs1 | hs1 | hs1 | hs1
  · subst hs1
    show Go p e below s₁ (mkF m 6 #[.val (.int p0), .val (.int p1), .unset, .unset, .unset, .unset, .unset] [(.int (0 : Int32))]) _
    refine Go.of (fun tg_ kk_ => XS.istoreN X0.here hx rfl (hb hby at_6) rfl (l' := #[.val (.int p0), .val (.int p1), .val (.int (0 : Int32)), .unset, .unset, .unset, .unset]) rfl kk_) ?_
    show Go p e below s₁ (mkF m 7 #[.val (.int p0), .val (.int p1), .val (.int (0 : Int32)), .unset, .unset, .unset, .unset] []) _
    refine Go.of (fun tg_ kk_ => XS.bipush X0.here hx rfl (hb hby at_7) kk_) ?_
    show Go p e below s₁ (mkF m 9 #[.val (.int p0), .val (.int p1), .val (.int (0 : Int32)), .unset, .unset, .unset, .unset] [(.int (10 : Int32))]) _
    obtain ⟨T2, h2, k2, X2, e2, E2, A2, st2⟩ := newP X0 hx hZ (hw _ (List.mem_of_getElem? (i := 1) rfl)) e0 (g := (mkF m 9 #[.val (.int p0), .val (.int p1), .val (.int (0 : Int32)), .unset, .unset, .unset, .unset] [(.int (10 : Int32))])) rfl (hb hby at_9) rfl (by decide) (cap := 10) (by decide) (by decide) (by decide) (by decide)
    obtain ⟨b2, g2⟩ : ∃ zz_, zz_ = h0.size := ⟨_, rfl⟩
    rw [← g2] at A2 st2
    have gx2 : n0 ≤ b2 := Nat.le_trans Z0 (Nat.le_of_eq g2.symm)
    have sz2 : h0.size ≤ b2 := Nat.le_trans K0.1 (Nat.le_of_eq g2.symm)
    have K3 := K0.ext E2
    have Zs4 : n0 ≤ h2.size := Nat.le_trans Z0 E2.1
    have hk5 := Nat.le_trans hk0 E2.1
    have V2 : Af Z h2 b2 .byte 10 (fun _ => 0) := Af.new rfl A2 (by decide)
    refine Go.of (st2) ?_
    show Go p e below T2 (mkF m 11 #[.val (.int p0), .val (.int p1), .val (.int (0 : Int32)), .unset, .unset, .unset, .unset] [(.ref b2)]) _
    refine Go.of (fun tg_ kk_ => XS.astoreN X2.here hx rfl (hb hby at_11) rfl rfl (l' := #[.val (.int p0), .val (.int p1), .val (.int (0 : Int32)), .val (.ref b2), .unset, .unset, .unset]) rfl kk_) ?_
    show Go p e below T2 (mkF m 12 #[.val (.int p0), .val (.int p1), .val (.int (0 : Int32)), .val (.ref b2), .unset, .unset, .unset] []) _
    refine Go.of (fun tg_ kk_ => XS.aloadN X2.here hx rfl (hb hby at_12) rfl rfl kk_) ?_
    show Go p e below T2 (mkF m 13 #[.val (.int p0), .val (.int p1), .val (.int (0 : Int32)), .val (.ref b2), .unset, .unset, .unset] [(.ref b2)]) _
    refine Go.of (fun tg_ kk_ => XS.iconst X2.here hx rfl (hb hby at_13) kk_) ?_
    show Go p e below T2 (mkF m 14 #[.val (.int p0), .val (.int p1), .val (.int (0 : Int32)), .val (.ref b2), .unset, .unset, .unset] [(.int (0 : Int32)), (.ref b2)]) _
    refine Go.of (fun tg_ kk_ => XS.bipush X2.here hx rfl (hb hby at_14) kk_) ?_
    show Go p e below T2 (mkF m 16 #[.val (.int p0), .val (.int p1), .val (.int (0 : Int32)), .val (.ref b2), .unset, .unset, .unset] [(.int (48 : Int32)), (.int (0 : Int32)), (.ref b2)]) _
    have ib6 := (show ¬ ((0 : Int32) < 0) ∧ ((0 : Int32)).toNatClampNeg < 10 from ⟨by decide, by decide⟩)
    obtain ⟨cl6, Ar6, S6, H6⟩ := id V2
    obtain ⟨T6, h6, X6, e6, W6, st6⟩ := stB X2 hx hZ e2 Ar6 (j := (0 : Int32)) (Af.inb S6 ib6) (g := (mkF m 16 #[.val (.int p0), .val (.int p1), .val (.int (0 : Int32)), .val (.ref b2), .unset, .unset, .unset] [(.int (48 : Int32)), (.int (0 : Int32)), (.ref b2)])) rfl rfl (hb hby at_16)
    obtain ⟨f6, qf6⟩ : ∃ qq_ : Nat → Int32, qq_ = upd (fun _ => 0) 0 (48 : Int32) := ⟨_, rfl⟩
    have V6 : Af Z h6 b2 .byte 10 f6 := by rw [qf6]; exact Af.set Ar6 S6 H6 W6 (by decide)
    have K8 := K3.wr W6 (Or.inr sz2)
    have Zs9 : n0 ≤ h6.size := Nat.le_trans Zs4 (Keep.of_wr W6).1
    have hk10 := Nat.le_trans hk5 (Keep.of_wr W6).1
    have N6 := Fr.snoc X6 N0 gx2
    refine Go.of (st6) ?_
    show Go p e below T6 (mkF m 17 #[.val (.int p0), .val (.int p1), .val (.int (0 : Int32)), .val (.ref b2), .unset, .unset, .unset] []) _
    refine Go.of (fun tg_ kk_ => XS.aloadN X6.here hx rfl (hb hby at_17) rfl rfl kk_) ?_
    show Go p e below T6 (mkF m 18 #[.val (.int p0), .val (.int p1), .val (.int (0 : Int32)), .val (.ref b2), .unset, .unset, .unset] [(.ref b2)]) _
    refine Go.of (fun tg_ kk_ => XS.iconst X6.here hx rfl (hb hby at_18) kk_) ?_
    show Go p e below T6 (mkF m 19 #[.val (.int p0), .val (.int p1), .val (.int (0 : Int32)), .val (.ref b2), .unset, .unset, .unset] [(.int (1 : Int32)), (.ref b2)]) _
    refine Go.of (fun tg_ kk_ => XS.iconst X6.here hx rfl (hb hby at_19) kk_) ?_
    show Go p e below T6 (mkF m 20 #[.val (.int p0), .val (.int p1), .val (.int (0 : Int32)), .val (.ref b2), .unset, .unset, .unset] [(.int (2 : Int32)), (.int (1 : Int32)), (.ref b2)]) _
    refine Go.of (fun tg_ kk_ => XS.iloadN X6.here hx rfl (hb hby at_20) rfl kk_) ?_
    show Go p e below T6 (mkF m 21 #[.val (.int p0), .val (.int p1), .val (.int (0 : Int32)), .val (.ref b2), .unset, .unset, .unset] [(.int (0 : Int32)), (.int (2 : Int32)), (.int (1 : Int32)), (.ref b2)]) _
    refine Go.of (fun tg_ kk_ => XS.imul X6.here hx rfl (hb hby at_21) rfl kk_) ?_
    show Go p e below T6 (mkF m 22 #[.val (.int p0), .val (.int p1), .val (.int (0 : Int32)), .val (.ref b2), .unset, .unset, .unset] [(.int ((2 : Int32) * (0 : Int32))), (.int (1 : Int32)), (.ref b2)]) _
    rw [show ((2 : Int32) * (0 : Int32)) = (0 : Int32) from by decide]
    show Go p e below T6 (mkF m 22 #[.val (.int p0), .val (.int p1), .val (.int (0 : Int32)), .val (.ref b2), .unset, .unset, .unset] [(.int (0 : Int32)), (.int (1 : Int32)), (.ref b2)]) _
    refine Go.of (fun tg_ kk_ => XS.i2b X6.here hx rfl (hb hby at_22) rfl kk_) ?_
    show Go p e below T6 (mkF m 23 #[.val (.int p0), .val (.int p1), .val (.int (0 : Int32)), .val (.ref b2), .unset, .unset, .unset] [(.int ((0 : Int32).toInt8.toInt32)), (.int (1 : Int32)), (.ref b2)]) _
    rw [show ((0 : Int32).toInt8.toInt32) = (0 : Int32) from by decide]
    show Go p e below T6 (mkF m 23 #[.val (.int p0), .val (.int p1), .val (.int (0 : Int32)), .val (.ref b2), .unset, .unset, .unset] [(.int (0 : Int32)), (.int (1 : Int32)), (.ref b2)]) _
    have ib11 := (show ¬ ((1 : Int32) < 0) ∧ ((1 : Int32)).toNatClampNeg < 10 from ⟨by decide, by decide⟩)
    obtain ⟨cl11, Ar11, S11, H11⟩ := id V6
    obtain ⟨T11, h11, X11, e11, W11, st11⟩ := stB X6 hx hZ e6 Ar11 (j := (1 : Int32)) (Af.inb S11 ib11) (g := (mkF m 23 #[.val (.int p0), .val (.int p1), .val (.int (0 : Int32)), .val (.ref b2), .unset, .unset, .unset] [(.int (0 : Int32)), (.int (1 : Int32)), (.ref b2)])) rfl rfl (hb hby at_23)
    obtain ⟨f11, qf11⟩ : ∃ qq_ : Nat → Int32, qq_ = upd f6 1 (0 : Int32) := ⟨_, rfl⟩
    have V11 : Af Z h11 b2 .byte 10 f11 := by rw [qf11]; exact Af.set Ar11 S11 H11 W11 (by decide)
    have K13 := K8.wr W11 (Or.inr sz2)
    have Zs14 : n0 ≤ h11.size := Nat.le_trans Zs9 (Keep.of_wr W11).1
    have hk15 := Nat.le_trans hk10 (Keep.of_wr W11).1
    have N11 := Fr.snoc X11 N6 gx2
    refine Go.of (st11) ?_
    show Go p e below T11 (mkF m 24 #[.val (.int p0), .val (.int p1), .val (.int (0 : Int32)), .val (.ref b2), .unset, .unset, .unset] []) _
    refine Go.of (fun tg_ kk_ => XS.aloadN X11.here hx rfl (hb hby at_24) rfl rfl kk_) ?_
    show Go p e below T11 (mkF m 25 #[.val (.int p0), .val (.int p1), .val (.int (0 : Int32)), .val (.ref b2), .unset, .unset, .unset] [(.ref b2)]) _
    refine Go.of (fun tg_ kk_ => XS.iconst X11.here hx rfl (hb hby at_25) kk_) ?_
    show Go p e below T11 (mkF m 26 #[.val (.int p0), .val (.int p1), .val (.int (0 : Int32)), .val (.ref b2), .unset, .unset, .unset] [(.int (2 : Int32)), (.ref b2)]) _
    refine Go.of (fun tg_ kk_ => XS.iconst X11.here hx rfl (hb hby at_26) kk_) ?_
    show Go p e below T11 (mkF m 27 #[.val (.int p0), .val (.int p1), .val (.int (0 : Int32)), .val (.ref b2), .unset, .unset, .unset] [(.int (2 : Int32)), (.int (2 : Int32)), (.ref b2)]) _
    refine Go.of (fun tg_ kk_ => XS.iloadN X11.here hx rfl (hb hby at_27) rfl kk_) ?_
    show Go p e below T11 (mkF m 28 #[.val (.int p0), .val (.int p1), .val (.int (0 : Int32)), .val (.ref b2), .unset, .unset, .unset] [(.int (0 : Int32)), (.int (2 : Int32)), (.int (2 : Int32)), (.ref b2)]) _
    refine Go.of (fun tg_ kk_ => XS.iloadN X11.here hx rfl (hb hby at_28) rfl kk_) ?_
    show Go p e below T11 (mkF m 29 #[.val (.int p0), .val (.int p1), .val (.int (0 : Int32)), .val (.ref b2), .unset, .unset, .unset] [(.int p1), (.int (0 : Int32)), (.int (2 : Int32)), (.int (2 : Int32)), (.ref b2)]) _
    obtain ⟨_, _, ⟨T16, L16, k16, n16⟩, -, X16, ⟨Lc16, hQ16, l16, y16, z16⟩, st16⟩ := Jvm.LawKit.callS X11 hx (y := (⟨"com/example/attestry/attestry/DerReaderHasNextPinLaw", "slot", "(III)B"⟩ : MethodName)) hown (mvT hZ (hw _ (List.mem_of_getElem? (i := 2) rfl))) (mvT hZ (hw _ (List.mem_of_getElem? (i := 3) rfl))) (mvT hZ (hw _ (List.mem_of_getElem? (i := 4) rfl))) (mvT hZ (hw _ (List.mem_of_getElem? (i := 5) rfl))) (by decide) (backOf (W := 2) (rm1 l Z a0 hw [] (2 : Int32) (0 : Int32) p1 h11 n0 Zs14) hZ (hw _ (List.mem_of_getElem? (i := 5) rfl)) (hw _ (List.mem_of_getElem? (i := 4) rfl)) (by decide) (by decide)) (g := (mkF m 29 #[.val (.int p0), .val (.int p1), .val (.int (0 : Int32)), .val (.ref b2), .unset, .unset, .unset] [(.int p1), (.int (0 : Int32)), (.int (2 : Int32)), (.int (2 : Int32)), (.ref b2)])) rfl (by rw [hml]; rfl) (argsL := [(.int (2 : Int32)), (.int (0 : Int32)), (.int p1)]) (rest := [(.int (2 : Int32)), (.ref b2)]) (lenOf pd_8 rfl) rfl (by show 2 * 0 + _ ≤ _; exact Nat.le_of_eq rfl) (hb hby at_29) (fun _ _ => ⟨rfl, e11, (show 1 + 0 ≤ 32 from by decide), (show 10 + 0 ≤ 2240 from by decide)⟩)
    dsimp only [Pt.U, Pt.locs, Pt.cells, Pt.slots] at X16 l16 y16 z16 st16 hQ16
    have X16 := own_stand X16 l16 y16 z16
    obtain ⟨rfl, N16q, e16⟩ := hQ16
    have N16 := Fr.app N11 N16q
    refine Go.of (st16) ?_
    show Go p e below T16 (mkF m 32 #[.val (.int p0), .val (.int p1), .val (.int (0 : Int32)), .val (.ref b2), .unset, .unset, .unset] [(.int (slotF (2 : Int32) (0 : Int32) p1)), (.int (2 : Int32)), (.ref b2)]) _
    have ib17 := (show ¬ ((2 : Int32) < 0) ∧ ((2 : Int32)).toNatClampNeg < 10 from ⟨by decide, by decide⟩)
    obtain ⟨cl17, Ar17, S17, H17⟩ := id V11
    obtain ⟨T17, h17, X17, e17, W17, st17⟩ := stB X16 hx hZ e16 Ar17 (j := (2 : Int32)) (Af.inb S17 ib17) (g := (mkF m 32 #[.val (.int p0), .val (.int p1), .val (.int (0 : Int32)), .val (.ref b2), .unset, .unset, .unset] [(.int (slotF (2 : Int32) (0 : Int32) p1)), (.int (2 : Int32)), (.ref b2)])) rfl rfl (hb hby at_32)
    obtain ⟨f17, qf17⟩ : ∃ qq_ : Nat → Int32, qq_ = upd f11 2 (nar .byte (slotF (2 : Int32) (0 : Int32) p1)) := ⟨_, rfl⟩
    have V17 : Af Z h17 b2 .byte 10 f17 := by rw [qf17]; exact Af.set Ar17 S17 H17 W17 (by decide)
    have K19 := K13.wr W17 (Or.inr sz2)
    have Zs20 : n0 ≤ h17.size := Nat.le_trans Zs14 (Keep.of_wr W17).1
    have hk21 := Nat.le_trans hk15 (Keep.of_wr W17).1
    have N17 := Fr.snoc X17 N16 gx2
    refine Go.of (st17) ?_
    show Go p e below T17 (mkF m 33 #[.val (.int p0), .val (.int p1), .val (.int (0 : Int32)), .val (.ref b2), .unset, .unset, .unset] []) _
    refine Go.of (fun tg_ kk_ => XS.aloadN X17.here hx rfl (hb hby at_33) rfl rfl kk_) ?_
    show Go p e below T17 (mkF m 34 #[.val (.int p0), .val (.int p1), .val (.int (0 : Int32)), .val (.ref b2), .unset, .unset, .unset] [(.ref b2)]) _
    refine Go.of (fun tg_ kk_ => XS.iconst X17.here hx rfl (hb hby at_34) kk_) ?_
    show Go p e below T17 (mkF m 35 #[.val (.int p0), .val (.int p1), .val (.int (0 : Int32)), .val (.ref b2), .unset, .unset, .unset] [(.int (3 : Int32)), (.ref b2)]) _
    refine Go.of (fun tg_ kk_ => XS.iconst X17.here hx rfl (hb hby at_35) kk_) ?_
    show Go p e below T17 (mkF m 36 #[.val (.int p0), .val (.int p1), .val (.int (0 : Int32)), .val (.ref b2), .unset, .unset, .unset] [(.int (3 : Int32)), (.int (3 : Int32)), (.ref b2)]) _
    refine Go.of (fun tg_ kk_ => XS.iloadN X17.here hx rfl (hb hby at_36) rfl kk_) ?_
    show Go p e below T17 (mkF m 37 #[.val (.int p0), .val (.int p1), .val (.int (0 : Int32)), .val (.ref b2), .unset, .unset, .unset] [(.int (0 : Int32)), (.int (3 : Int32)), (.int (3 : Int32)), (.ref b2)]) _
    refine Go.of (fun tg_ kk_ => XS.iloadN X17.here hx rfl (hb hby at_37) rfl kk_) ?_
    show Go p e below T17 (mkF m 38 #[.val (.int p0), .val (.int p1), .val (.int (0 : Int32)), .val (.ref b2), .unset, .unset, .unset] [(.int p1), (.int (0 : Int32)), (.int (3 : Int32)), (.int (3 : Int32)), (.ref b2)]) _
    obtain ⟨_, _, ⟨T22, L22, k22, n22⟩, -, X22, ⟨Lc22, hQ22, l22, y22, z22⟩, st22⟩ := Jvm.LawKit.callS X17 hx (y := (⟨"com/example/attestry/attestry/DerReaderHasNextPinLaw", "slot", "(III)B"⟩ : MethodName)) hown (mvT hZ (hw _ (List.mem_of_getElem? (i := 2) rfl))) (mvT hZ (hw _ (List.mem_of_getElem? (i := 3) rfl))) (mvT hZ (hw _ (List.mem_of_getElem? (i := 4) rfl))) (mvT hZ (hw _ (List.mem_of_getElem? (i := 5) rfl))) (by decide) (backOf (W := 2) (rm1 l Z a0 hw [] (3 : Int32) (0 : Int32) p1 h17 n0 Zs20) hZ (hw _ (List.mem_of_getElem? (i := 5) rfl)) (hw _ (List.mem_of_getElem? (i := 4) rfl)) (by decide) (by decide)) (g := (mkF m 38 #[.val (.int p0), .val (.int p1), .val (.int (0 : Int32)), .val (.ref b2), .unset, .unset, .unset] [(.int p1), (.int (0 : Int32)), (.int (3 : Int32)), (.int (3 : Int32)), (.ref b2)])) rfl (by rw [hml]; rfl) (argsL := [(.int (3 : Int32)), (.int (0 : Int32)), (.int p1)]) (rest := [(.int (3 : Int32)), (.ref b2)]) (lenOf pd_8 rfl) rfl (by show 2 * 0 + _ ≤ _; exact Nat.le_of_eq rfl) (hb hby at_38) (fun _ _ => ⟨rfl, e17, (show 1 + 0 ≤ 32 from by decide), (show 10 + 0 ≤ 2240 from by decide)⟩)
    dsimp only [Pt.U, Pt.locs, Pt.cells, Pt.slots] at X22 l22 y22 z22 st22 hQ22
    have X22 := own_stand X22 l22 y22 z22
    obtain ⟨rfl, N22q, e22⟩ := hQ22
    have N22 := Fr.app N17 N22q
    refine Go.of (st22) ?_
    show Go p e below T22 (mkF m 41 #[.val (.int p0), .val (.int p1), .val (.int (0 : Int32)), .val (.ref b2), .unset, .unset, .unset] [(.int (slotF (3 : Int32) (0 : Int32) p1)), (.int (3 : Int32)), (.ref b2)]) _
    have ib23 := (show ¬ ((3 : Int32) < 0) ∧ ((3 : Int32)).toNatClampNeg < 10 from ⟨by decide, by decide⟩)
    obtain ⟨cl23, Ar23, S23, H23⟩ := id V17
    obtain ⟨T23, h23, X23, e23, W23, st23⟩ := stB X22 hx hZ e22 Ar23 (j := (3 : Int32)) (Af.inb S23 ib23) (g := (mkF m 41 #[.val (.int p0), .val (.int p1), .val (.int (0 : Int32)), .val (.ref b2), .unset, .unset, .unset] [(.int (slotF (3 : Int32) (0 : Int32) p1)), (.int (3 : Int32)), (.ref b2)])) rfl rfl (hb hby at_41)
    obtain ⟨f23, qf23⟩ : ∃ qq_ : Nat → Int32, qq_ = upd f17 3 (nar .byte (slotF (3 : Int32) (0 : Int32) p1)) := ⟨_, rfl⟩
    have V23 : Af Z h23 b2 .byte 10 f23 := by rw [qf23]; exact Af.set Ar23 S23 H23 W23 (by decide)
    have K25 := K19.wr W23 (Or.inr sz2)
    have Zs26 : n0 ≤ h23.size := Nat.le_trans Zs20 (Keep.of_wr W23).1
    have hk27 := Nat.le_trans hk21 (Keep.of_wr W23).1
    have N23 := Fr.snoc X23 N22 gx2
    refine Go.of (st23) ?_
    show Go p e below T23 (mkF m 42 #[.val (.int p0), .val (.int p1), .val (.int (0 : Int32)), .val (.ref b2), .unset, .unset, .unset] []) _
    refine Go.of (fun tg_ kk_ => XS.aloadN X23.here hx rfl (hb hby at_42) rfl rfl kk_) ?_
    show Go p e below T23 (mkF m 43 #[.val (.int p0), .val (.int p1), .val (.int (0 : Int32)), .val (.ref b2), .unset, .unset, .unset] [(.ref b2)]) _
    refine Go.of (fun tg_ kk_ => XS.iconst X23.here hx rfl (hb hby at_43) kk_) ?_
    show Go p e below T23 (mkF m 44 #[.val (.int p0), .val (.int p1), .val (.int (0 : Int32)), .val (.ref b2), .unset, .unset, .unset] [(.int (4 : Int32)), (.ref b2)]) _
    refine Go.of (fun tg_ kk_ => XS.iconst X23.here hx rfl (hb hby at_44) kk_) ?_
    show Go p e below T23 (mkF m 45 #[.val (.int p0), .val (.int p1), .val (.int (0 : Int32)), .val (.ref b2), .unset, .unset, .unset] [(.int (4 : Int32)), (.int (4 : Int32)), (.ref b2)]) _
    refine Go.of (fun tg_ kk_ => XS.iloadN X23.here hx rfl (hb hby at_45) rfl kk_) ?_
    show Go p e below T23 (mkF m 46 #[.val (.int p0), .val (.int p1), .val (.int (0 : Int32)), .val (.ref b2), .unset, .unset, .unset] [(.int (0 : Int32)), (.int (4 : Int32)), (.int (4 : Int32)), (.ref b2)]) _
    refine Go.of (fun tg_ kk_ => XS.iloadN X23.here hx rfl (hb hby at_46) rfl kk_) ?_
    show Go p e below T23 (mkF m 47 #[.val (.int p0), .val (.int p1), .val (.int (0 : Int32)), .val (.ref b2), .unset, .unset, .unset] [(.int p1), (.int (0 : Int32)), (.int (4 : Int32)), (.int (4 : Int32)), (.ref b2)]) _
    obtain ⟨_, _, ⟨T28, L28, k28, n28⟩, -, X28, ⟨Lc28, hQ28, l28, y28, z28⟩, st28⟩ := Jvm.LawKit.callS X23 hx (y := (⟨"com/example/attestry/attestry/DerReaderHasNextPinLaw", "slot", "(III)B"⟩ : MethodName)) hown (mvT hZ (hw _ (List.mem_of_getElem? (i := 2) rfl))) (mvT hZ (hw _ (List.mem_of_getElem? (i := 3) rfl))) (mvT hZ (hw _ (List.mem_of_getElem? (i := 4) rfl))) (mvT hZ (hw _ (List.mem_of_getElem? (i := 5) rfl))) (by decide) (backOf (W := 2) (rm1 l Z a0 hw [] (4 : Int32) (0 : Int32) p1 h23 n0 Zs26) hZ (hw _ (List.mem_of_getElem? (i := 5) rfl)) (hw _ (List.mem_of_getElem? (i := 4) rfl)) (by decide) (by decide)) (g := (mkF m 47 #[.val (.int p0), .val (.int p1), .val (.int (0 : Int32)), .val (.ref b2), .unset, .unset, .unset] [(.int p1), (.int (0 : Int32)), (.int (4 : Int32)), (.int (4 : Int32)), (.ref b2)])) rfl (by rw [hml]; rfl) (argsL := [(.int (4 : Int32)), (.int (0 : Int32)), (.int p1)]) (rest := [(.int (4 : Int32)), (.ref b2)]) (lenOf pd_8 rfl) rfl (by show 2 * 0 + _ ≤ _; exact Nat.le_of_eq rfl) (hb hby at_47) (fun _ _ => ⟨rfl, e23, (show 1 + 0 ≤ 32 from by decide), (show 10 + 0 ≤ 2240 from by decide)⟩)
    dsimp only [Pt.U, Pt.locs, Pt.cells, Pt.slots] at X28 l28 y28 z28 st28 hQ28
    have X28 := own_stand X28 l28 y28 z28
    obtain ⟨rfl, N28q, e28⟩ := hQ28
    have N28 := Fr.app N23 N28q
    refine Go.of (st28) ?_
    show Go p e below T28 (mkF m 50 #[.val (.int p0), .val (.int p1), .val (.int (0 : Int32)), .val (.ref b2), .unset, .unset, .unset] [(.int (slotF (4 : Int32) (0 : Int32) p1)), (.int (4 : Int32)), (.ref b2)]) _
    have ib29 := (show ¬ ((4 : Int32) < 0) ∧ ((4 : Int32)).toNatClampNeg < 10 from ⟨by decide, by decide⟩)
    obtain ⟨cl29, Ar29, S29, H29⟩ := id V23
    obtain ⟨T29, h29, X29, e29, W29, st29⟩ := stB X28 hx hZ e28 Ar29 (j := (4 : Int32)) (Af.inb S29 ib29) (g := (mkF m 50 #[.val (.int p0), .val (.int p1), .val (.int (0 : Int32)), .val (.ref b2), .unset, .unset, .unset] [(.int (slotF (4 : Int32) (0 : Int32) p1)), (.int (4 : Int32)), (.ref b2)])) rfl rfl (hb hby at_50)
    obtain ⟨f29, qf29⟩ : ∃ qq_ : Nat → Int32, qq_ = upd f23 4 (nar .byte (slotF (4 : Int32) (0 : Int32) p1)) := ⟨_, rfl⟩
    have V29 : Af Z h29 b2 .byte 10 f29 := by rw [qf29]; exact Af.set Ar29 S29 H29 W29 (by decide)
    have K31 := K25.wr W29 (Or.inr sz2)
    have Zs32 : n0 ≤ h29.size := Nat.le_trans Zs26 (Keep.of_wr W29).1
    have hk33 := Nat.le_trans hk27 (Keep.of_wr W29).1
    have N29 := Fr.snoc X29 N28 gx2
    refine Go.of (st29) ?_
    show Go p e below T29 (mkF m 51 #[.val (.int p0), .val (.int p1), .val (.int (0 : Int32)), .val (.ref b2), .unset, .unset, .unset] []) _
    refine Go.of (fun tg_ kk_ => XS.aloadN X29.here hx rfl (hb hby at_51) rfl rfl kk_) ?_
    show Go p e below T29 (mkF m 52 #[.val (.int p0), .val (.int p1), .val (.int (0 : Int32)), .val (.ref b2), .unset, .unset, .unset] [(.ref b2)]) _
    refine Go.of (fun tg_ kk_ => XS.iconst X29.here hx rfl (hb hby at_52) kk_) ?_
    show Go p e below T29 (mkF m 53 #[.val (.int p0), .val (.int p1), .val (.int (0 : Int32)), .val (.ref b2), .unset, .unset, .unset] [(.int (5 : Int32)), (.ref b2)]) _
    refine Go.of (fun tg_ kk_ => XS.iconst X29.here hx rfl (hb hby at_53) kk_) ?_
    show Go p e below T29 (mkF m 54 #[.val (.int p0), .val (.int p1), .val (.int (0 : Int32)), .val (.ref b2), .unset, .unset, .unset] [(.int (5 : Int32)), (.int (5 : Int32)), (.ref b2)]) _
    refine Go.of (fun tg_ kk_ => XS.iloadN X29.here hx rfl (hb hby at_54) rfl kk_) ?_
    show Go p e below T29 (mkF m 55 #[.val (.int p0), .val (.int p1), .val (.int (0 : Int32)), .val (.ref b2), .unset, .unset, .unset] [(.int (0 : Int32)), (.int (5 : Int32)), (.int (5 : Int32)), (.ref b2)]) _
    refine Go.of (fun tg_ kk_ => XS.iloadN X29.here hx rfl (hb hby at_55) rfl kk_) ?_
    show Go p e below T29 (mkF m 56 #[.val (.int p0), .val (.int p1), .val (.int (0 : Int32)), .val (.ref b2), .unset, .unset, .unset] [(.int p1), (.int (0 : Int32)), (.int (5 : Int32)), (.int (5 : Int32)), (.ref b2)]) _
    obtain ⟨_, _, ⟨T34, L34, k34, n34⟩, -, X34, ⟨Lc34, hQ34, l34, y34, z34⟩, st34⟩ := Jvm.LawKit.callS X29 hx (y := (⟨"com/example/attestry/attestry/DerReaderHasNextPinLaw", "slot", "(III)B"⟩ : MethodName)) hown (mvT hZ (hw _ (List.mem_of_getElem? (i := 2) rfl))) (mvT hZ (hw _ (List.mem_of_getElem? (i := 3) rfl))) (mvT hZ (hw _ (List.mem_of_getElem? (i := 4) rfl))) (mvT hZ (hw _ (List.mem_of_getElem? (i := 5) rfl))) (by decide) (backOf (W := 2) (rm1 l Z a0 hw [] (5 : Int32) (0 : Int32) p1 h29 n0 Zs32) hZ (hw _ (List.mem_of_getElem? (i := 5) rfl)) (hw _ (List.mem_of_getElem? (i := 4) rfl)) (by decide) (by decide)) (g := (mkF m 56 #[.val (.int p0), .val (.int p1), .val (.int (0 : Int32)), .val (.ref b2), .unset, .unset, .unset] [(.int p1), (.int (0 : Int32)), (.int (5 : Int32)), (.int (5 : Int32)), (.ref b2)])) rfl (by rw [hml]; rfl) (argsL := [(.int (5 : Int32)), (.int (0 : Int32)), (.int p1)]) (rest := [(.int (5 : Int32)), (.ref b2)]) (lenOf pd_8 rfl) rfl (by show 2 * 0 + _ ≤ _; exact Nat.le_of_eq rfl) (hb hby at_56) (fun _ _ => ⟨rfl, e29, (show 1 + 0 ≤ 32 from by decide), (show 10 + 0 ≤ 2240 from by decide)⟩)
    dsimp only [Pt.U, Pt.locs, Pt.cells, Pt.slots] at X34 l34 y34 z34 st34 hQ34
    have X34 := own_stand X34 l34 y34 z34
    obtain ⟨rfl, N34q, e34⟩ := hQ34
    have N34 := Fr.app N29 N34q
    refine Go.of (st34) ?_
    show Go p e below T34 (mkF m 59 #[.val (.int p0), .val (.int p1), .val (.int (0 : Int32)), .val (.ref b2), .unset, .unset, .unset] [(.int (slotF (5 : Int32) (0 : Int32) p1)), (.int (5 : Int32)), (.ref b2)]) _
    have ib35 := (show ¬ ((5 : Int32) < 0) ∧ ((5 : Int32)).toNatClampNeg < 10 from ⟨by decide, by decide⟩)
    obtain ⟨cl35, Ar35, S35, H35⟩ := id V29
    obtain ⟨T35, h35, X35, e35, W35, st35⟩ := stB X34 hx hZ e34 Ar35 (j := (5 : Int32)) (Af.inb S35 ib35) (g := (mkF m 59 #[.val (.int p0), .val (.int p1), .val (.int (0 : Int32)), .val (.ref b2), .unset, .unset, .unset] [(.int (slotF (5 : Int32) (0 : Int32) p1)), (.int (5 : Int32)), (.ref b2)])) rfl rfl (hb hby at_59)
    obtain ⟨f35, qf35⟩ : ∃ qq_ : Nat → Int32, qq_ = upd f29 5 (nar .byte (slotF (5 : Int32) (0 : Int32) p1)) := ⟨_, rfl⟩
    have V35 : Af Z h35 b2 .byte 10 f35 := by rw [qf35]; exact Af.set Ar35 S35 H35 W35 (by decide)
    have K37 := K31.wr W35 (Or.inr sz2)
    have Zs38 : n0 ≤ h35.size := Nat.le_trans Zs32 (Keep.of_wr W35).1
    have hk39 := Nat.le_trans hk33 (Keep.of_wr W35).1
    have N35 := Fr.snoc X35 N34 gx2
    refine Go.of (st35) ?_
    show Go p e below T35 (mkF m 60 #[.val (.int p0), .val (.int p1), .val (.int (0 : Int32)), .val (.ref b2), .unset, .unset, .unset] []) _
    refine Go.of (fun tg_ kk_ => XS.aloadN X35.here hx rfl (hb hby at_60) rfl rfl kk_) ?_
    show Go p e below T35 (mkF m 61 #[.val (.int p0), .val (.int p1), .val (.int (0 : Int32)), .val (.ref b2), .unset, .unset, .unset] [(.ref b2)]) _
    refine Go.of (fun tg_ kk_ => XS.bipush X35.here hx rfl (hb hby at_61) kk_) ?_
    show Go p e below T35 (mkF m 63 #[.val (.int p0), .val (.int p1), .val (.int (0 : Int32)), .val (.ref b2), .unset, .unset, .unset] [(.int (6 : Int32)), (.ref b2)]) _
    refine Go.of (fun tg_ kk_ => XS.bipush X35.here hx rfl (hb hby at_63) kk_) ?_
    show Go p e below T35 (mkF m 65 #[.val (.int p0), .val (.int p1), .val (.int (0 : Int32)), .val (.ref b2), .unset, .unset, .unset] [(.int (6 : Int32)), (.int (6 : Int32)), (.ref b2)]) _
    refine Go.of (fun tg_ kk_ => XS.iloadN X35.here hx rfl (hb hby at_65) rfl kk_) ?_
    show Go p e below T35 (mkF m 66 #[.val (.int p0), .val (.int p1), .val (.int (0 : Int32)), .val (.ref b2), .unset, .unset, .unset] [(.int (0 : Int32)), (.int (6 : Int32)), (.int (6 : Int32)), (.ref b2)]) _
    refine Go.of (fun tg_ kk_ => XS.iloadN X35.here hx rfl (hb hby at_66) rfl kk_) ?_
    show Go p e below T35 (mkF m 67 #[.val (.int p0), .val (.int p1), .val (.int (0 : Int32)), .val (.ref b2), .unset, .unset, .unset] [(.int p1), (.int (0 : Int32)), (.int (6 : Int32)), (.int (6 : Int32)), (.ref b2)]) _
    obtain ⟨_, _, ⟨T40, L40, k40, n40⟩, -, X40, ⟨Lc40, hQ40, l40, y40, z40⟩, st40⟩ := Jvm.LawKit.callS X35 hx (y := (⟨"com/example/attestry/attestry/DerReaderHasNextPinLaw", "slot", "(III)B"⟩ : MethodName)) hown (mvT hZ (hw _ (List.mem_of_getElem? (i := 2) rfl))) (mvT hZ (hw _ (List.mem_of_getElem? (i := 3) rfl))) (mvT hZ (hw _ (List.mem_of_getElem? (i := 4) rfl))) (mvT hZ (hw _ (List.mem_of_getElem? (i := 5) rfl))) (by decide) (backOf (W := 2) (rm1 l Z a0 hw [] (6 : Int32) (0 : Int32) p1 h35 n0 Zs38) hZ (hw _ (List.mem_of_getElem? (i := 5) rfl)) (hw _ (List.mem_of_getElem? (i := 4) rfl)) (by decide) (by decide)) (g := (mkF m 67 #[.val (.int p0), .val (.int p1), .val (.int (0 : Int32)), .val (.ref b2), .unset, .unset, .unset] [(.int p1), (.int (0 : Int32)), (.int (6 : Int32)), (.int (6 : Int32)), (.ref b2)])) rfl (by rw [hml]; rfl) (argsL := [(.int (6 : Int32)), (.int (0 : Int32)), (.int p1)]) (rest := [(.int (6 : Int32)), (.ref b2)]) (lenOf pd_8 rfl) rfl (by show 2 * 0 + _ ≤ _; exact Nat.le_of_eq rfl) (hb hby at_67) (fun _ _ => ⟨rfl, e35, (show 1 + 0 ≤ 32 from by decide), (show 10 + 0 ≤ 2240 from by decide)⟩)
    dsimp only [Pt.U, Pt.locs, Pt.cells, Pt.slots] at X40 l40 y40 z40 st40 hQ40
    have X40 := own_stand X40 l40 y40 z40
    obtain ⟨rfl, N40q, e40⟩ := hQ40
    have N40 := Fr.app N35 N40q
    refine Go.of (st40) ?_
    show Go p e below T40 (mkF m 70 #[.val (.int p0), .val (.int p1), .val (.int (0 : Int32)), .val (.ref b2), .unset, .unset, .unset] [(.int (slotF (6 : Int32) (0 : Int32) p1)), (.int (6 : Int32)), (.ref b2)]) _
    have ib41 := (show ¬ ((6 : Int32) < 0) ∧ ((6 : Int32)).toNatClampNeg < 10 from ⟨by decide, by decide⟩)
    obtain ⟨cl41, Ar41, S41, H41⟩ := id V35
    obtain ⟨T41, h41, X41, e41, W41, st41⟩ := stB X40 hx hZ e40 Ar41 (j := (6 : Int32)) (Af.inb S41 ib41) (g := (mkF m 70 #[.val (.int p0), .val (.int p1), .val (.int (0 : Int32)), .val (.ref b2), .unset, .unset, .unset] [(.int (slotF (6 : Int32) (0 : Int32) p1)), (.int (6 : Int32)), (.ref b2)])) rfl rfl (hb hby at_70)
    obtain ⟨f41, qf41⟩ : ∃ qq_ : Nat → Int32, qq_ = upd f35 6 (nar .byte (slotF (6 : Int32) (0 : Int32) p1)) := ⟨_, rfl⟩
    have V41 : Af Z h41 b2 .byte 10 f41 := by rw [qf41]; exact Af.set Ar41 S41 H41 W41 (by decide)
    have K43 := K37.wr W41 (Or.inr sz2)
    have Zs44 : n0 ≤ h41.size := Nat.le_trans Zs38 (Keep.of_wr W41).1
    have hk45 := Nat.le_trans hk39 (Keep.of_wr W41).1
    have N41 := Fr.snoc X41 N40 gx2
    refine Go.of (st41) ?_
    show Go p e below T41 (mkF m 71 #[.val (.int p0), .val (.int p1), .val (.int (0 : Int32)), .val (.ref b2), .unset, .unset, .unset] []) _
    refine Go.of (fun tg_ kk_ => XS.aloadN X41.here hx rfl (hb hby at_71) rfl rfl kk_) ?_
    show Go p e below T41 (mkF m 72 #[.val (.int p0), .val (.int p1), .val (.int (0 : Int32)), .val (.ref b2), .unset, .unset, .unset] [(.ref b2)]) _
    refine Go.of (fun tg_ kk_ => XS.bipush X41.here hx rfl (hb hby at_72) kk_) ?_
    show Go p e below T41 (mkF m 74 #[.val (.int p0), .val (.int p1), .val (.int (0 : Int32)), .val (.ref b2), .unset, .unset, .unset] [(.int (7 : Int32)), (.ref b2)]) _
    refine Go.of (fun tg_ kk_ => XS.bipush X41.here hx rfl (hb hby at_74) kk_) ?_
    show Go p e below T41 (mkF m 76 #[.val (.int p0), .val (.int p1), .val (.int (0 : Int32)), .val (.ref b2), .unset, .unset, .unset] [(.int (7 : Int32)), (.int (7 : Int32)), (.ref b2)]) _
    refine Go.of (fun tg_ kk_ => XS.iloadN X41.here hx rfl (hb hby at_76) rfl kk_) ?_
    show Go p e below T41 (mkF m 77 #[.val (.int p0), .val (.int p1), .val (.int (0 : Int32)), .val (.ref b2), .unset, .unset, .unset] [(.int (0 : Int32)), (.int (7 : Int32)), (.int (7 : Int32)), (.ref b2)]) _
    refine Go.of (fun tg_ kk_ => XS.iloadN X41.here hx rfl (hb hby at_77) rfl kk_) ?_
    show Go p e below T41 (mkF m 78 #[.val (.int p0), .val (.int p1), .val (.int (0 : Int32)), .val (.ref b2), .unset, .unset, .unset] [(.int p1), (.int (0 : Int32)), (.int (7 : Int32)), (.int (7 : Int32)), (.ref b2)]) _
    obtain ⟨_, _, ⟨T46, L46, k46, n46⟩, -, X46, ⟨Lc46, hQ46, l46, y46, z46⟩, st46⟩ := Jvm.LawKit.callS X41 hx (y := (⟨"com/example/attestry/attestry/DerReaderHasNextPinLaw", "slot", "(III)B"⟩ : MethodName)) hown (mvT hZ (hw _ (List.mem_of_getElem? (i := 2) rfl))) (mvT hZ (hw _ (List.mem_of_getElem? (i := 3) rfl))) (mvT hZ (hw _ (List.mem_of_getElem? (i := 4) rfl))) (mvT hZ (hw _ (List.mem_of_getElem? (i := 5) rfl))) (by decide) (backOf (W := 2) (rm1 l Z a0 hw [] (7 : Int32) (0 : Int32) p1 h41 n0 Zs44) hZ (hw _ (List.mem_of_getElem? (i := 5) rfl)) (hw _ (List.mem_of_getElem? (i := 4) rfl)) (by decide) (by decide)) (g := (mkF m 78 #[.val (.int p0), .val (.int p1), .val (.int (0 : Int32)), .val (.ref b2), .unset, .unset, .unset] [(.int p1), (.int (0 : Int32)), (.int (7 : Int32)), (.int (7 : Int32)), (.ref b2)])) rfl (by rw [hml]; rfl) (argsL := [(.int (7 : Int32)), (.int (0 : Int32)), (.int p1)]) (rest := [(.int (7 : Int32)), (.ref b2)]) (lenOf pd_8 rfl) rfl (by show 2 * 0 + _ ≤ _; exact Nat.le_of_eq rfl) (hb hby at_78) (fun _ _ => ⟨rfl, e41, (show 1 + 0 ≤ 32 from by decide), (show 10 + 0 ≤ 2240 from by decide)⟩)
    dsimp only [Pt.U, Pt.locs, Pt.cells, Pt.slots] at X46 l46 y46 z46 st46 hQ46
    have X46 := own_stand X46 l46 y46 z46
    obtain ⟨rfl, N46q, e46⟩ := hQ46
    have N46 := Fr.app N41 N46q
    refine Go.of (st46) ?_
    show Go p e below T46 (mkF m 81 #[.val (.int p0), .val (.int p1), .val (.int (0 : Int32)), .val (.ref b2), .unset, .unset, .unset] [(.int (slotF (7 : Int32) (0 : Int32) p1)), (.int (7 : Int32)), (.ref b2)]) _
    have ib47 := (show ¬ ((7 : Int32) < 0) ∧ ((7 : Int32)).toNatClampNeg < 10 from ⟨by decide, by decide⟩)
    obtain ⟨cl47, Ar47, S47, H47⟩ := id V41
    obtain ⟨T47, h47, X47, e47, W47, st47⟩ := stB X46 hx hZ e46 Ar47 (j := (7 : Int32)) (Af.inb S47 ib47) (g := (mkF m 81 #[.val (.int p0), .val (.int p1), .val (.int (0 : Int32)), .val (.ref b2), .unset, .unset, .unset] [(.int (slotF (7 : Int32) (0 : Int32) p1)), (.int (7 : Int32)), (.ref b2)])) rfl rfl (hb hby at_81)
    obtain ⟨f47, qf47⟩ : ∃ qq_ : Nat → Int32, qq_ = upd f41 7 (nar .byte (slotF (7 : Int32) (0 : Int32) p1)) := ⟨_, rfl⟩
    have V47 : Af Z h47 b2 .byte 10 f47 := by rw [qf47]; exact Af.set Ar47 S47 H47 W47 (by decide)
    have K49 := K43.wr W47 (Or.inr sz2)
    have Zs50 : n0 ≤ h47.size := Nat.le_trans Zs44 (Keep.of_wr W47).1
    have hk51 := Nat.le_trans hk45 (Keep.of_wr W47).1
    have N47 := Fr.snoc X47 N46 gx2
    refine Go.of (st47) ?_
    show Go p e below T47 (mkF m 82 #[.val (.int p0), .val (.int p1), .val (.int (0 : Int32)), .val (.ref b2), .unset, .unset, .unset] []) _
    refine Go.of (fun tg_ kk_ => XS.aloadN X47.here hx rfl (hb hby at_82) rfl rfl kk_) ?_
    show Go p e below T47 (mkF m 83 #[.val (.int p0), .val (.int p1), .val (.int (0 : Int32)), .val (.ref b2), .unset, .unset, .unset] [(.ref b2)]) _
    refine Go.of (fun tg_ kk_ => XS.bipush X47.here hx rfl (hb hby at_83) kk_) ?_
    show Go p e below T47 (mkF m 85 #[.val (.int p0), .val (.int p1), .val (.int (0 : Int32)), .val (.ref b2), .unset, .unset, .unset] [(.int (8 : Int32)), (.ref b2)]) _
    refine Go.of (fun tg_ kk_ => XS.bipush X47.here hx rfl (hb hby at_85) kk_) ?_
    show Go p e below T47 (mkF m 87 #[.val (.int p0), .val (.int p1), .val (.int (0 : Int32)), .val (.ref b2), .unset, .unset, .unset] [(.int (8 : Int32)), (.int (8 : Int32)), (.ref b2)]) _
    refine Go.of (fun tg_ kk_ => XS.iloadN X47.here hx rfl (hb hby at_87) rfl kk_) ?_
    show Go p e below T47 (mkF m 88 #[.val (.int p0), .val (.int p1), .val (.int (0 : Int32)), .val (.ref b2), .unset, .unset, .unset] [(.int (0 : Int32)), (.int (8 : Int32)), (.int (8 : Int32)), (.ref b2)]) _
    refine Go.of (fun tg_ kk_ => XS.iloadN X47.here hx rfl (hb hby at_88) rfl kk_) ?_
    show Go p e below T47 (mkF m 89 #[.val (.int p0), .val (.int p1), .val (.int (0 : Int32)), .val (.ref b2), .unset, .unset, .unset] [(.int p1), (.int (0 : Int32)), (.int (8 : Int32)), (.int (8 : Int32)), (.ref b2)]) _
    obtain ⟨_, _, ⟨T52, L52, k52, n52⟩, -, X52, ⟨Lc52, hQ52, l52, y52, z52⟩, st52⟩ := Jvm.LawKit.callS X47 hx (y := (⟨"com/example/attestry/attestry/DerReaderHasNextPinLaw", "slot", "(III)B"⟩ : MethodName)) hown (mvT hZ (hw _ (List.mem_of_getElem? (i := 2) rfl))) (mvT hZ (hw _ (List.mem_of_getElem? (i := 3) rfl))) (mvT hZ (hw _ (List.mem_of_getElem? (i := 4) rfl))) (mvT hZ (hw _ (List.mem_of_getElem? (i := 5) rfl))) (by decide) (backOf (W := 2) (rm1 l Z a0 hw [] (8 : Int32) (0 : Int32) p1 h47 n0 Zs50) hZ (hw _ (List.mem_of_getElem? (i := 5) rfl)) (hw _ (List.mem_of_getElem? (i := 4) rfl)) (by decide) (by decide)) (g := (mkF m 89 #[.val (.int p0), .val (.int p1), .val (.int (0 : Int32)), .val (.ref b2), .unset, .unset, .unset] [(.int p1), (.int (0 : Int32)), (.int (8 : Int32)), (.int (8 : Int32)), (.ref b2)])) rfl (by rw [hml]; rfl) (argsL := [(.int (8 : Int32)), (.int (0 : Int32)), (.int p1)]) (rest := [(.int (8 : Int32)), (.ref b2)]) (lenOf pd_8 rfl) rfl (by show 2 * 0 + _ ≤ _; exact Nat.le_of_eq rfl) (hb hby at_89) (fun _ _ => ⟨rfl, e47, (show 1 + 0 ≤ 32 from by decide), (show 10 + 0 ≤ 2240 from by decide)⟩)
    dsimp only [Pt.U, Pt.locs, Pt.cells, Pt.slots] at X52 l52 y52 z52 st52 hQ52
    have X52 := own_stand X52 l52 y52 z52
    obtain ⟨rfl, N52q, e52⟩ := hQ52
    have N52 := Fr.app N47 N52q
    refine Go.of (st52) ?_
    show Go p e below T52 (mkF m 92 #[.val (.int p0), .val (.int p1), .val (.int (0 : Int32)), .val (.ref b2), .unset, .unset, .unset] [(.int (slotF (8 : Int32) (0 : Int32) p1)), (.int (8 : Int32)), (.ref b2)]) _
    have ib53 := (show ¬ ((8 : Int32) < 0) ∧ ((8 : Int32)).toNatClampNeg < 10 from ⟨by decide, by decide⟩)
    obtain ⟨cl53, Ar53, S53, H53⟩ := id V47
    obtain ⟨T53, h53, X53, e53, W53, st53⟩ := stB X52 hx hZ e52 Ar53 (j := (8 : Int32)) (Af.inb S53 ib53) (g := (mkF m 92 #[.val (.int p0), .val (.int p1), .val (.int (0 : Int32)), .val (.ref b2), .unset, .unset, .unset] [(.int (slotF (8 : Int32) (0 : Int32) p1)), (.int (8 : Int32)), (.ref b2)])) rfl rfl (hb hby at_92)
    obtain ⟨f53, qf53⟩ : ∃ qq_ : Nat → Int32, qq_ = upd f47 8 (nar .byte (slotF (8 : Int32) (0 : Int32) p1)) := ⟨_, rfl⟩
    have V53 : Af Z h53 b2 .byte 10 f53 := by rw [qf53]; exact Af.set Ar53 S53 H53 W53 (by decide)
    have K55 := K49.wr W53 (Or.inr sz2)
    have Zs56 : n0 ≤ h53.size := Nat.le_trans Zs50 (Keep.of_wr W53).1
    have hk57 := Nat.le_trans hk51 (Keep.of_wr W53).1
    have N53 := Fr.snoc X53 N52 gx2
    refine Go.of (st53) ?_
    show Go p e below T53 (mkF m 93 #[.val (.int p0), .val (.int p1), .val (.int (0 : Int32)), .val (.ref b2), .unset, .unset, .unset] []) _
    refine Go.of (fun tg_ kk_ => XS.aloadN X53.here hx rfl (hb hby at_93) rfl rfl kk_) ?_
    show Go p e below T53 (mkF m 94 #[.val (.int p0), .val (.int p1), .val (.int (0 : Int32)), .val (.ref b2), .unset, .unset, .unset] [(.ref b2)]) _
    refine Go.of (fun tg_ kk_ => XS.bipush X53.here hx rfl (hb hby at_94) kk_) ?_
    show Go p e below T53 (mkF m 96 #[.val (.int p0), .val (.int p1), .val (.int (0 : Int32)), .val (.ref b2), .unset, .unset, .unset] [(.int (9 : Int32)), (.ref b2)]) _
    refine Go.of (fun tg_ kk_ => XS.bipush X53.here hx rfl (hb hby at_96) kk_) ?_
    show Go p e below T53 (mkF m 98 #[.val (.int p0), .val (.int p1), .val (.int (0 : Int32)), .val (.ref b2), .unset, .unset, .unset] [(.int (9 : Int32)), (.int (9 : Int32)), (.ref b2)]) _
    refine Go.of (fun tg_ kk_ => XS.iloadN X53.here hx rfl (hb hby at_98) rfl kk_) ?_
    show Go p e below T53 (mkF m 99 #[.val (.int p0), .val (.int p1), .val (.int (0 : Int32)), .val (.ref b2), .unset, .unset, .unset] [(.int (0 : Int32)), (.int (9 : Int32)), (.int (9 : Int32)), (.ref b2)]) _
    refine Go.of (fun tg_ kk_ => XS.iloadN X53.here hx rfl (hb hby at_99) rfl kk_) ?_
    show Go p e below T53 (mkF m 100 #[.val (.int p0), .val (.int p1), .val (.int (0 : Int32)), .val (.ref b2), .unset, .unset, .unset] [(.int p1), (.int (0 : Int32)), (.int (9 : Int32)), (.int (9 : Int32)), (.ref b2)]) _
    obtain ⟨_, _, ⟨T58, L58, k58, n58⟩, -, X58, ⟨Lc58, hQ58, l58, y58, z58⟩, st58⟩ := Jvm.LawKit.callS X53 hx (y := (⟨"com/example/attestry/attestry/DerReaderHasNextPinLaw", "slot", "(III)B"⟩ : MethodName)) hown (mvT hZ (hw _ (List.mem_of_getElem? (i := 2) rfl))) (mvT hZ (hw _ (List.mem_of_getElem? (i := 3) rfl))) (mvT hZ (hw _ (List.mem_of_getElem? (i := 4) rfl))) (mvT hZ (hw _ (List.mem_of_getElem? (i := 5) rfl))) (by decide) (backOf (W := 2) (rm1 l Z a0 hw [] (9 : Int32) (0 : Int32) p1 h53 n0 Zs56) hZ (hw _ (List.mem_of_getElem? (i := 5) rfl)) (hw _ (List.mem_of_getElem? (i := 4) rfl)) (by decide) (by decide)) (g := (mkF m 100 #[.val (.int p0), .val (.int p1), .val (.int (0 : Int32)), .val (.ref b2), .unset, .unset, .unset] [(.int p1), (.int (0 : Int32)), (.int (9 : Int32)), (.int (9 : Int32)), (.ref b2)])) rfl (by rw [hml]; rfl) (argsL := [(.int (9 : Int32)), (.int (0 : Int32)), (.int p1)]) (rest := [(.int (9 : Int32)), (.ref b2)]) (lenOf pd_8 rfl) rfl (by show 2 * 0 + _ ≤ _; exact Nat.le_of_eq rfl) (hb hby at_100) (fun _ _ => ⟨rfl, e53, (show 1 + 0 ≤ 32 from by decide), (show 10 + 0 ≤ 2240 from by decide)⟩)
    dsimp only [Pt.U, Pt.locs, Pt.cells, Pt.slots] at X58 l58 y58 z58 st58 hQ58
    have X58 := own_stand X58 l58 y58 z58
    obtain ⟨rfl, N58q, e58⟩ := hQ58
    have N58 := Fr.app N53 N58q
    refine Go.of (st58) ?_
    show Go p e below T58 (mkF m 103 #[.val (.int p0), .val (.int p1), .val (.int (0 : Int32)), .val (.ref b2), .unset, .unset, .unset] [(.int (slotF (9 : Int32) (0 : Int32) p1)), (.int (9 : Int32)), (.ref b2)]) _
    have ib59 := (show ¬ ((9 : Int32) < 0) ∧ ((9 : Int32)).toNatClampNeg < 10 from ⟨by decide, by decide⟩)
    obtain ⟨cl59, Ar59, S59, H59⟩ := id V53
    obtain ⟨T59, h59, X59, e59, W59, st59⟩ := stB X58 hx hZ e58 Ar59 (j := (9 : Int32)) (Af.inb S59 ib59) (g := (mkF m 103 #[.val (.int p0), .val (.int p1), .val (.int (0 : Int32)), .val (.ref b2), .unset, .unset, .unset] [(.int (slotF (9 : Int32) (0 : Int32) p1)), (.int (9 : Int32)), (.ref b2)])) rfl rfl (hb hby at_103)
    obtain ⟨f59, qf59⟩ : ∃ qq_ : Nat → Int32, qq_ = upd f53 9 (nar .byte (slotF (9 : Int32) (0 : Int32) p1)) := ⟨_, rfl⟩
    have V59 : Af Z h59 b2 .byte 10 f59 := by rw [qf59]; exact Af.set Ar59 S59 H59 W59 (by decide)
    have K61 := K55.wr W59 (Or.inr sz2)
    have Zs62 : n0 ≤ h59.size := Nat.le_trans Zs56 (Keep.of_wr W59).1
    have hk63 := Nat.le_trans hk57 (Keep.of_wr W59).1
    have N59 := Fr.snoc X59 N58 gx2
    refine Go.of (st59) ?_
    show Go p e below T59 (mkF m 104 #[.val (.int p0), .val (.int p1), .val (.int (0 : Int32)), .val (.ref b2), .unset, .unset, .unset] []) _
    have by0_ : f59 0 = (48 : Int32) := by rw [qf59, own_updN (by decide), qf53, own_updN (by decide), qf47, own_updN (by decide), qf41, own_updN (by decide), qf35, own_updN (by decide), qf29, own_updN (by decide), qf23, own_updN (by decide), qf17, own_updN (by decide), qf11, own_updN (by decide), qf6, own_updS]
    have by1_ : f59 1 = (0 : Int32) := by rw [qf59, own_updN (by decide), qf53, own_updN (by decide), qf47, own_updN (by decide), qf41, own_updN (by decide), qf35, own_updN (by decide), qf29, own_updN (by decide), qf23, own_updN (by decide), qf17, own_updN (by decide), qf11, own_updS]
    obtain ⟨T64, h64, X64, e64, E64, A64, D64, -, st64⟩ := newO X59 hx hZ hown (hw _ (List.mem_of_getElem? (i := 6) rfl)) (hw _ (List.mem_of_getElem? (i := 7) rfl)) (hw _ (List.mem_of_getElem? (i := 8) rfl)) e59 (g := (mkF m 104 #[.val (.int p0), .val (.int p1), .val (.int (0 : Int32)), .val (.ref b2), .unset, .unset, .unset] [])) rfl (hb hby at_104) (by decide) (by decide)
    obtain ⟨b64, g64⟩ : ∃ zz_, zz_ = h59.size := ⟨_, rfl⟩
    rw [← g64] at A64 D64 st64
    have gx64 : n0 ≤ b64 := Nat.le_trans Zs62 (Nat.le_of_eq g64.symm)
    have sz64 : h0.size ≤ b64 := Nat.le_trans K61.1 (Nat.le_of_eq g64.symm)
    have ne65 : b2 ≠ b64 := Nat.ne_of_lt (Nat.lt_of_lt_of_le V59.lt (Nat.le_of_eq g64.symm))
    have F66 := V59.ext E64
    have K67 := K61.ext E64
    have Zs68 : n0 ≤ h64.size := Nat.le_trans Zs62 E64.1
    have hk69 := Nat.le_trans hk63 E64.1
    have F70 : Fld Z h64 b64 "com/example/attestry/attestry/DerReader" "bytes" "[B" .null := D64 (Or.inr (hw _ (List.mem_of_getElem? (i := 16) rfl))) (ty := (.array .byte)) (by decide)
    have F71 : Fld Z h64 b64 "com/example/attestry/attestry/DerReader" "berNote" "Lcom/example/attestry/attestry/DerReader$BerNote;" .null := D64 (Or.inr (hw _ (List.mem_of_getElem? (i := 25) rfl))) (ty := (.object "com/example/attestry/attestry/DerReader$BerNote")) (by decide)
    have F72 : Fld Z h64 b64 "com/example/attestry/attestry/DerReader" "start" "I" (.int (0 : Int32)) := D64 (Or.inr (hw _ (List.mem_of_getElem? (i := 27) rfl))) (ty := .int) (by decide)
    have F73 : Fld Z h64 b64 "com/example/attestry/attestry/DerReader" "position" "I" (.int (0 : Int32)) := D64 (Or.inl (hw _ (List.mem_of_getElem? (i := 29) rfl))) (ty := .int) (by decide)
    have F74 : Fld Z h64 b64 "com/example/attestry/attestry/DerReader" "end" "I" (.int (0 : Int32)) := D64 (Or.inr (hw _ (List.mem_of_getElem? (i := 31) rfl))) (ty := .int) (by decide)
    have F75 : Fld Z h64 b64 "com/example/attestry/attestry/DerReader" "depth" "I" (.int (0 : Int32)) := D64 (Or.inr (hw _ (List.mem_of_getElem? (i := 33) rfl))) (ty := .int) (by decide)
    refine Go.of (st64) ?_
    show Go p e below T64 (mkF m 107 #[.val (.int p0), .val (.int p1), .val (.int (0 : Int32)), .val (.ref b2), .unset, .unset, .unset] [(.ref b64)]) _
    refine Go.of (fun tg_ kk_ => XS.dup X64.here hx rfl (hb hby at_107) rfl rfl kk_) ?_
    show Go p e below T64 (mkF m 108 #[.val (.int p0), .val (.int p1), .val (.int (0 : Int32)), .val (.ref b2), .unset, .unset, .unset] [(.ref b64), (.ref b64)]) _
    refine Go.of (fun tg_ kk_ => XS.iconst X64.here hx rfl (hb hby at_108) kk_) ?_
    show Go p e below T64 (mkF m 109 #[.val (.int p0), .val (.int p1), .val (.int (0 : Int32)), .val (.ref b2), .unset, .unset, .unset] [(.int (0 : Int32)), (.ref b64), (.ref b64)]) _
    obtain ⟨T76, h76, k76, X76, e76, E76, A76, st76⟩ := newP X64 hx hZ (hw _ (List.mem_of_getElem? (i := 1) rfl)) e64 (g := (mkF m 109 #[.val (.int p0), .val (.int p1), .val (.int (0 : Int32)), .val (.ref b2), .unset, .unset, .unset] [(.int (0 : Int32)), (.ref b64), (.ref b64)])) rfl (hb hby at_109) rfl (by decide) (cap := 0) (by decide) (by decide) (by decide) (by decide)
    obtain ⟨b76, g76⟩ : ∃ zz_, zz_ = h64.size := ⟨_, rfl⟩
    rw [← g76] at A76 st76
    have gx76 : n0 ≤ b76 := Nat.le_trans Zs68 (Nat.le_of_eq g76.symm)
    have sz76 : h0.size ≤ b76 := Nat.le_trans K67.1 (Nat.le_of_eq g76.symm)
    have ne77 : b2 ≠ b76 := Nat.ne_of_lt (Nat.lt_of_lt_of_le F66.lt (Nat.le_of_eq g76.symm))
    have ne78 : b64 ≠ b76 := Nat.ne_of_lt (Nat.lt_of_lt_of_le A64.lt (Nat.le_of_eq g76.symm))
    have F79 := F66.ext E76
    have F80 := A64.ext E76
    have F81 := F70.ext E76
    have F82 := F71.ext E76
    have F83 := F72.ext E76
    have F84 := F73.ext E76
    have F85 := F74.ext E76
    have F86 := F75.ext E76
    have K87 := K67.ext E76
    have Zs88 : n0 ≤ h76.size := Nat.le_trans Zs68 E76.1
    have hk89 := Nat.le_trans hk69 E76.1
    have V76 : Af Z h76 b76 .byte 0 (fun _ => 0) := Af.new rfl A76 (by decide)
    refine Go.of (st76) ?_
    show Go p e below T76 (mkF m 111 #[.val (.int p0), .val (.int p1), .val (.int (0 : Int32)), .val (.ref b2), .unset, .unset, .unset] [(.ref b76), (.ref b64), (.ref b64)]) _
    obtain ⟨_, _, ⟨T90, L90, k90, n90⟩, -, X90, ⟨Lc90, hQ90, l90, y90, z90⟩, st90⟩ := X76.specialBack hx (y := (⟨"com/example/attestry/attestry/DerReader", "<init>", "([B)V"⟩ : MethodName)) rfl hown (mvT hZ (hw _ (List.mem_of_getElem? (i := 9) rfl))) (mvT hZ (hw _ (List.mem_of_getElem? (i := 10) rfl))) (mvT hZ (hw _ (List.mem_of_getElem? (i := 11) rfl))) (by decide) (backOf (W := 1) (rm2_0 l Z a0 hw [] b64 b76 (fun _ => 0) h76 n0 Zs88 gx64 F80 F81 F82 F83 F84 F85 F86 V76 ne78) hZ (hw _ (List.mem_of_getElem? (i := 11) rfl)) (hw _ (List.mem_of_getElem? (i := 8) rfl)) (by decide) (by decide)) (g := (mkF m 111 #[.val (.int p0), .val (.int p1), .val (.int (0 : Int32)), .val (.ref b2), .unset, .unset, .unset] [(.ref b76), (.ref b64), (.ref b64)])) rfl (by rw [hml]; rfl) (Steps.refl _) (a := b64) (argsL := [(.ref b76)]) (rest := [(.ref b64)]) (lenOf pd_9 rfl) rfl (by show 2 * 0 + _ ≤ _; exact Nat.le_of_eq rfl) (hb hby at_111) (fun _ _ => ⟨rfl, e76, (show 3 + 1 ≤ 32 from by decide), (show 16 + 1 ≤ 2240 from by decide)⟩)
    dsimp only [Pt.U, Pt.locs, Pt.cells, Pt.slots] at X90 l90 y90 z90 st90 hQ90
    have X90 := own_stand X90 l90 y90 z90
    obtain ⟨q90, rfl, N90q, K90q, Fbytes_90, FberNote_90, Fstart_90, Fposition_90, Fend_90, Fdepth_90⟩ := hQ90
    have N90 := Fr.app N59 N90q
    have F91 := F79.keep K90q (ninS ne65 nin0)
    have F92 := F80.keep K90q
    have F99 := V76.keep K90q (ninS (Ne.symm ne78) nin0)
    have K100 := K87.trans K90q (allS (Or.inr sz64) all0)
    have Zs101 : n0 ≤ T90.heap.size := Nat.le_trans Zs88 K90q.1
    have hk102 := Nat.le_trans hk89 K90q.1
    refine Go.of (fun tg_ kk_ => st90.trans kk_) ?_
    show Go p e below T90 (mkF m 114 #[.val (.int p0), .val (.int p1), .val (.int (0 : Int32)), .val (.ref b2), .unset, .unset, .unset] [(.ref b64)]) _
    obtain ⟨cq103, kq103, q103a, q103b, q103c⟩ := isOf hZ rfl F92
    obtain ⟨_, _, ⟨T103, L103, k103, n103⟩, -, X103, ⟨Lc103, hQ103, l103, y103, z103⟩, st103⟩ := X90.virtualBack hx (y := (⟨"com/example/attestry/attestry/DerReader", "hasNext", "()Z"⟩ : MethodName)) (z := (⟨"com/example/attestry/attestry/DerReader", "hasNext", "()Z"⟩ : MethodName)) hown (mvT hZ (hw _ (List.mem_of_getElem? (i := 34) rfl))) (mvT hZ (hw _ (List.mem_of_getElem? (i := 35) rfl))) (notFace_of_selects (args := #[]) (mvT hZ (hw _ (List.mem_of_getElem? (i := 37) rfl)))) (mvT hZ (hw _ (List.mem_of_getElem? (i := 37) rfl))) (mvT hZ (hw _ (List.mem_of_getElem? (i := 36) rfl))) (by decide) (backOf (W := 0) (rm5 l Z a0 hw [] b64 (0 : Int32) (0 : Int32) T90.heap n0 Zs101 Fposition_90 Fend_90) hZ (hw _ (List.mem_of_getElem? (i := 38) rfl)) (hw _ (List.mem_of_getElem? (i := 8) rfl)) (by decide) (by decide)) q103a q103c (g := (mkF m 114 #[.val (.int p0), .val (.int p1), .val (.int (0 : Int32)), .val (.ref b2), .unset, .unset, .unset] [(.ref b64)])) rfl (by rw [hml]; rfl) (Steps.refl _) (argsL := []) (rest := []) (lenOf pd_1 rfl) rfl (by show 2 * 0 + _ ≤ _; exact Nat.le_of_eq rfl) (hb hby at_114) (fun _ _ => ⟨rfl, rfl, (show 4 + 0 ≤ 32 from by decide), (show 17 + 0 ≤ 2240 from by decide)⟩)
    dsimp only [Pt.U, Pt.locs, Pt.cells, Pt.slots] at X103 l103 y103 z103 st103 hQ103
    have X103 := own_stand X103 l103 y103 z103
    obtain ⟨hv103, N103q, e103⟩ := hQ103
    rw [if_neg (show ¬ ((0 : Int32) < (0 : Int32)) by decide)] at hv103
    subst hv103
    have N103 := Fr.app N90 N103q
    refine Go.of (fun tg_ kk_ => st103.trans kk_) ?_
    show Go p e below T103 (mkF m 117 #[.val (.int p0), .val (.int p1), .val (.int (0 : Int32)), .val (.ref b2), .unset, .unset, .unset] [(.int (0 : Int32))]) _
    refine Go.of (fun tg_ kk_ => XS.ifNo X103.here hx rfl (hb hby at_117) rfl ((if0 _ _).trans (teq (show (0 : Int32) = (0 : Int32) by decide)).2) kk_) ?_
    show Go p e below T103 (mkF m 120 #[.val (.int p0), .val (.int p1), .val (.int (0 : Int32)), .val (.ref b2), .unset, .unset, .unset] []) _
    refine Go.of (fun tg_ kk_ => XS.iconst X103.here hx rfl (hb hby at_120) kk_) ?_
    show Go p e below T103 (mkF m 121 #[.val (.int p0), .val (.int p1), .val (.int (0 : Int32)), .val (.ref b2), .unset, .unset, .unset] [(.int (1 : Int32))]) _
    refine Go.of (fun tg_ kk_ => XS.goto X103.here hx rfl (pc0 := 121) (pc' := 125) rfl (hb hby at_121) (by decide) (by decide) kk_) ?_
    show Go p e below T103 (mkF m 125 #[.val (.int p0), .val (.int p1), .val (.int (0 : Int32)), .val (.ref b2), .unset, .unset, .unset] [(.int (1 : Int32))]) _
    refine Go.of (fun tg_ kk_ => XS.istore X103.here hx rfl (hb hby at_125) rfl (l' := #[.val (.int p0), .val (.int p1), .val (.int (0 : Int32)), .val (.ref b2), .val (.int (1 : Int32)), .unset, .unset]) rfl kk_) ?_
    show Go p e below T103 (mkF m 127 #[.val (.int p0), .val (.int p1), .val (.int (0 : Int32)), .val (.ref b2), .val (.int (1 : Int32)), .unset, .unset] []) _
    obtain ⟨T104, h104, X104, e104, E104, A104, D104, -, st104⟩ := newO X103 hx hZ hown (hw _ (List.mem_of_getElem? (i := 6) rfl)) (hw _ (List.mem_of_getElem? (i := 7) rfl)) (hw _ (List.mem_of_getElem? (i := 8) rfl)) e103 (g := (mkF m 127 #[.val (.int p0), .val (.int p1), .val (.int (0 : Int32)), .val (.ref b2), .val (.int (1 : Int32)), .unset, .unset] [])) rfl (hb hby at_127) (by decide) (by decide)
    obtain ⟨b104, g104⟩ : ∃ zz_, zz_ = T90.heap.size := ⟨_, rfl⟩
    rw [← g104] at A104 D104 st104
    have gx104 : n0 ≤ b104 := Nat.le_trans Zs101 (Nat.le_of_eq g104.symm)
    have sz104 : h0.size ≤ b104 := Nat.le_trans K100.1 (Nat.le_of_eq g104.symm)
    have ne105 : b2 ≠ b104 := Nat.ne_of_lt (Nat.lt_of_lt_of_le F91.lt (Nat.le_of_eq g104.symm))
    have ne106 : b64 ≠ b104 := Nat.ne_of_lt (Nat.lt_of_lt_of_le F92.lt (Nat.le_of_eq g104.symm))
    have ne107 : b76 ≠ b104 := Nat.ne_of_lt (Nat.lt_of_lt_of_le F99.lt (Nat.le_of_eq g104.symm))
    have F108 := F91.ext E104
    have F109 := F92.ext E104
    have F110 := F99.ext E104
    have F111 := Fbytes_90.ext E104
    have F112 := FberNote_90.ext E104
    have F113 := Fstart_90.ext E104
    have F114 := Fposition_90.ext E104
    have F115 := Fend_90.ext E104
    have F116 := Fdepth_90.ext E104
    have K117 := K100.ext E104
    have Zs118 : n0 ≤ h104.size := Nat.le_trans Zs101 E104.1
    have hk119 := Nat.le_trans hk102 E104.1
    have F120 : Fld Z h104 b104 "com/example/attestry/attestry/DerReader" "bytes" "[B" .null := D104 (Or.inr (hw _ (List.mem_of_getElem? (i := 16) rfl))) (ty := (.array .byte)) (by decide)
    have F121 : Fld Z h104 b104 "com/example/attestry/attestry/DerReader" "berNote" "Lcom/example/attestry/attestry/DerReader$BerNote;" .null := D104 (Or.inr (hw _ (List.mem_of_getElem? (i := 25) rfl))) (ty := (.object "com/example/attestry/attestry/DerReader$BerNote")) (by decide)
    have F122 : Fld Z h104 b104 "com/example/attestry/attestry/DerReader" "start" "I" (.int (0 : Int32)) := D104 (Or.inr (hw _ (List.mem_of_getElem? (i := 27) rfl))) (ty := .int) (by decide)
    have F123 : Fld Z h104 b104 "com/example/attestry/attestry/DerReader" "position" "I" (.int (0 : Int32)) := D104 (Or.inl (hw _ (List.mem_of_getElem? (i := 29) rfl))) (ty := .int) (by decide)
    have F124 : Fld Z h104 b104 "com/example/attestry/attestry/DerReader" "end" "I" (.int (0 : Int32)) := D104 (Or.inr (hw _ (List.mem_of_getElem? (i := 31) rfl))) (ty := .int) (by decide)
    have F125 : Fld Z h104 b104 "com/example/attestry/attestry/DerReader" "depth" "I" (.int (0 : Int32)) := D104 (Or.inr (hw _ (List.mem_of_getElem? (i := 33) rfl))) (ty := .int) (by decide)
    refine Go.of (st104) ?_
    show Go p e below T104 (mkF m 130 #[.val (.int p0), .val (.int p1), .val (.int (0 : Int32)), .val (.ref b2), .val (.int (1 : Int32)), .unset, .unset] [(.ref b104)]) _
    refine Go.of (fun tg_ kk_ => XS.dup X104.here hx rfl (hb hby at_130) rfl rfl kk_) ?_
    show Go p e below T104 (mkF m 131 #[.val (.int p0), .val (.int p1), .val (.int (0 : Int32)), .val (.ref b2), .val (.int (1 : Int32)), .unset, .unset] [(.ref b104), (.ref b104)]) _
    refine Go.of (fun tg_ kk_ => XS.aloadN X104.here hx rfl (hb hby at_131) rfl rfl kk_) ?_
    show Go p e below T104 (mkF m 132 #[.val (.int p0), .val (.int p1), .val (.int (0 : Int32)), .val (.ref b2), .val (.int (1 : Int32)), .unset, .unset] [(.ref b2), (.ref b104), (.ref b104)]) _
    obtain ⟨_, _, ⟨T126, L126, k126, n126⟩, -, X126, ⟨Lc126, hQ126, l126, y126, z126⟩, st126⟩ := X104.specialBack hx (y := (⟨"com/example/attestry/attestry/DerReader", "<init>", "([B)V"⟩ : MethodName)) rfl hown (mvT hZ (hw _ (List.mem_of_getElem? (i := 9) rfl))) (mvT hZ (hw _ (List.mem_of_getElem? (i := 10) rfl))) (mvT hZ (hw _ (List.mem_of_getElem? (i := 11) rfl))) (by decide) (backOf (W := 1) (rm2_10 l Z a0 hw [] b104 b2 f59 h104 n0 Zs118 gx104 A104 F120 F121 F122 F123 F124 F125 F108 (Ne.symm ne105)) hZ (hw _ (List.mem_of_getElem? (i := 11) rfl)) (hw _ (List.mem_of_getElem? (i := 8) rfl)) (by decide) (by decide)) (g := (mkF m 132 #[.val (.int p0), .val (.int p1), .val (.int (0 : Int32)), .val (.ref b2), .val (.int (1 : Int32)), .unset, .unset] [(.ref b2), (.ref b104), (.ref b104)])) rfl (by rw [hml]; rfl) (Steps.refl _) (a := b104) (argsL := [(.ref b2)]) (rest := [(.ref b104)]) (lenOf pd_9 rfl) rfl (by show 2 * 0 + _ ≤ _; exact Nat.le_of_eq rfl) (hb hby at_132) (fun _ _ => ⟨rfl, e104, (show 5 + 1 ≤ 32 from by decide), (show 23 + 1 ≤ 2240 from by decide)⟩)
    dsimp only [Pt.U, Pt.locs, Pt.cells, Pt.slots] at X126 l126 y126 z126 st126 hQ126
    have X126 := own_stand X126 l126 y126 z126
    obtain ⟨q126, rfl, N126q, K126q, Fbytes_126, FberNote_126, Fstart_126, Fposition_126, Fend_126, Fdepth_126⟩ := hQ126
    have N126 := Fr.app N103 N126q
    have F127 := F108.keep K126q (ninS ne105 nin0)
    have F128 := F109.keep K126q
    have F129 := F110.keep K126q (ninS ne107 nin0)
    have F130 := F111.keep K126q (ninS ne106 nin0)
    have F131 := F112.keep K126q (ninS ne106 nin0)
    have F132 := F113.keep K126q (ninS ne106 nin0)
    have F133 := F114.keep K126q (ninS ne106 nin0)
    have F134 := F115.keep K126q (ninS ne106 nin0)
    have F135 := F116.keep K126q (ninS ne106 nin0)
    have F136 := A104.keep K126q
    have K143 := K117.trans K126q (allS (Or.inr sz104) all0)
    have Zs144 : n0 ≤ T126.heap.size := Nat.le_trans Zs118 K126q.1
    have hk145 := Nat.le_trans hk119 K126q.1
    refine Go.of (fun tg_ kk_ => st126.trans kk_) ?_
    show Go p e below T126 (mkF m 135 #[.val (.int p0), .val (.int p1), .val (.int (0 : Int32)), .val (.ref b2), .val (.int (1 : Int32)), .unset, .unset] [(.ref b104)]) _
    refine Go.of (fun tg_ kk_ => XS.astore X126.here hx rfl (hb hby at_135) rfl rfl (l' := #[.val (.int p0), .val (.int p1), .val (.int (0 : Int32)), .val (.ref b2), .val (.int (1 : Int32)), .val (.ref b104), .unset]) rfl kk_) ?_
    show Go p e below T126 (mkF m 137 #[.val (.int p0), .val (.int p1), .val (.int (0 : Int32)), .val (.ref b2), .val (.int (1 : Int32)), .val (.ref b104), .unset] []) _
    refine Go.of (fun tg_ kk_ => XS.iload X126.here hx rfl (hb hby at_137) rfl kk_) ?_
    show Go p e below T126 (mkF m 139 #[.val (.int p0), .val (.int p1), .val (.int (0 : Int32)), .val (.ref b2), .val (.int (1 : Int32)), .val (.ref b104), .unset] [(.int (1 : Int32))]) _
    refine Go.of (fun tg_ kk_ => XS.ifNo X126.here hx rfl (hb hby at_139) rfl ((if0 _ _).trans (feq (show ¬ ((1 : Int32) = (0 : Int32)) by decide)).1) kk_) ?_
    show Go p e below T126 (mkF m 142 #[.val (.int p0), .val (.int p1), .val (.int (0 : Int32)), .val (.ref b2), .val (.int (1 : Int32)), .val (.ref b104), .unset] []) _
    refine Go.of (fun tg_ kk_ => XS.aload X126.here hx rfl (hb hby at_142) rfl rfl kk_) ?_
    show Go p e below T126 (mkF m 144 #[.val (.int p0), .val (.int p1), .val (.int (0 : Int32)), .val (.ref b2), .val (.int (1 : Int32)), .val (.ref b104), .unset] [(.ref b104)]) _
    obtain ⟨cq146, kq146, q146a, q146b, q146c⟩ := isOf hZ rfl F136
    obtain ⟨_, _, ⟨T146, L146, k146, n146⟩, -, X146, ⟨Lc146, hQ146, l146, y146, z146⟩, st146⟩ := X126.virtualBack hx (y := (⟨"com/example/attestry/attestry/DerReader", "hasNext", "()Z"⟩ : MethodName)) (z := (⟨"com/example/attestry/attestry/DerReader", "hasNext", "()Z"⟩ : MethodName)) hown (mvT hZ (hw _ (List.mem_of_getElem? (i := 34) rfl))) (mvT hZ (hw _ (List.mem_of_getElem? (i := 35) rfl))) (notFace_of_selects (args := #[]) (mvT hZ (hw _ (List.mem_of_getElem? (i := 37) rfl)))) (mvT hZ (hw _ (List.mem_of_getElem? (i := 37) rfl))) (mvT hZ (hw _ (List.mem_of_getElem? (i := 36) rfl))) (by decide) (backOf (W := 0) (rm5 l Z a0 hw [] b104 (0 : Int32) (10 : Int32) T126.heap n0 Zs144 Fposition_126 Fend_126) hZ (hw _ (List.mem_of_getElem? (i := 38) rfl)) (hw _ (List.mem_of_getElem? (i := 8) rfl)) (by decide) (by decide)) q146a q146c (g := (mkF m 144 #[.val (.int p0), .val (.int p1), .val (.int (0 : Int32)), .val (.ref b2), .val (.int (1 : Int32)), .val (.ref b104), .unset] [(.ref b104)])) rfl (by rw [hml]; rfl) (Steps.refl _) (argsL := []) (rest := []) (lenOf pd_1 rfl) rfl (by show 2 * 0 + _ ≤ _; exact Nat.le_of_eq rfl) (hb hby at_144) (fun _ _ => ⟨rfl, rfl, (show 6 + 0 ≤ 32 from by decide), (show 24 + 0 ≤ 2240 from by decide)⟩)
    dsimp only [Pt.U, Pt.locs, Pt.cells, Pt.slots] at X146 l146 y146 z146 st146 hQ146
    have X146 := own_stand X146 l146 y146 z146
    obtain ⟨hv146, N146q, e146⟩ := hQ146
    rw [if_pos (show ((0 : Int32) < (10 : Int32)) by decide)] at hv146
    subst hv146
    have N146 := Fr.app N126 N146q
    refine Go.of (fun tg_ kk_ => st146.trans kk_) ?_
    show Go p e below T146 (mkF m 147 #[.val (.int p0), .val (.int p1), .val (.int (0 : Int32)), .val (.ref b2), .val (.int (1 : Int32)), .val (.ref b104), .unset] [(.int (1 : Int32))]) _
    refine Go.of (fun tg_ kk_ => XS.ifNo X146.here hx rfl (hb hby at_147) rfl ((if0 _ _).trans (feq (show ¬ ((1 : Int32) = (0 : Int32)) by decide)).1) kk_) ?_
    show Go p e below T146 (mkF m 150 #[.val (.int p0), .val (.int p1), .val (.int (0 : Int32)), .val (.ref b2), .val (.int (1 : Int32)), .val (.ref b104), .unset] []) _
    refine Go.of (fun tg_ kk_ => XS.iconst X146.here hx rfl (hb hby at_150) kk_) ?_
    show Go p e below T146 (mkF m 151 #[.val (.int p0), .val (.int p1), .val (.int (0 : Int32)), .val (.ref b2), .val (.int (1 : Int32)), .val (.ref b104), .unset] [(.int (1 : Int32))]) _
    refine Go.of (fun tg_ kk_ => XS.goto X146.here hx rfl (pc0 := 151) (pc' := 155) rfl (hb hby at_151) (by decide) (by decide) kk_) ?_
    show Go p e below T146 (mkF m 155 #[.val (.int p0), .val (.int p1), .val (.int (0 : Int32)), .val (.ref b2), .val (.int (1 : Int32)), .val (.ref b104), .unset] [(.int (1 : Int32))]) _
    refine Go.of (fun tg_ kk_ => XS.istore X146.here hx rfl (hb hby at_155) rfl (l' := #[.val (.int p0), .val (.int p1), .val (.int (0 : Int32)), .val (.ref b2), .val (.int (1 : Int32)), .val (.ref b104), .unset]) rfl kk_) ?_
    show Go p e below T146 (mkF m 157 #[.val (.int p0), .val (.int p1), .val (.int (0 : Int32)), .val (.ref b2), .val (.int (1 : Int32)), .val (.ref b104), .unset] []) _
    refine Go.of (fun tg_ kk_ => XS.iload X146.here hx rfl (hb hby at_157) rfl kk_) ?_
    show Go p e below T146 (mkF m 159 #[.val (.int p0), .val (.int p1), .val (.int (0 : Int32)), .val (.ref b2), .val (.int (1 : Int32)), .val (.ref b104), .unset] [(.int (1 : Int32))]) _
    refine Go.of (fun tg_ kk_ => XS.ifNo X146.here hx rfl (hb hby at_159) rfl ((if0 _ _).trans (feq (show ¬ ((1 : Int32) = (0 : Int32)) by decide)).1) kk_) ?_
    show Go p e below T146 (mkF m 162 #[.val (.int p0), .val (.int p1), .val (.int (0 : Int32)), .val (.ref b2), .val (.int (1 : Int32)), .val (.ref b104), .unset] []) _
    refine Go.of (fun tg_ kk_ => XS.aload X146.here hx rfl (hb hby at_162) rfl rfl kk_) ?_
    show Go p e below T146 (mkF m 164 #[.val (.int p0), .val (.int p1), .val (.int (0 : Int32)), .val (.ref b2), .val (.int (1 : Int32)), .val (.ref b104), .unset] [(.ref b104)]) _
    obtain ⟨cq147, kq147, q147a, q147b, q147c⟩ := isOf hZ e146 F136
    obtain ⟨_, _, ⟨T147, L147, k147, n147⟩, -, X147, ⟨Lc147, hQ147, l147, y147, z147⟩, st147⟩ := X146.virtualBack hx (y := (⟨"com/example/attestry/attestry/DerReader", "hasNext", "()Z"⟩ : MethodName)) (z := (⟨"com/example/attestry/attestry/DerReader", "hasNext", "()Z"⟩ : MethodName)) hown (mvT hZ (hw _ (List.mem_of_getElem? (i := 34) rfl))) (mvT hZ (hw _ (List.mem_of_getElem? (i := 35) rfl))) (notFace_of_selects (args := #[]) (mvT hZ (hw _ (List.mem_of_getElem? (i := 37) rfl)))) (mvT hZ (hw _ (List.mem_of_getElem? (i := 37) rfl))) (mvT hZ (hw _ (List.mem_of_getElem? (i := 36) rfl))) (by decide) (backOf (W := 0) (rm5 l Z a0 hw [] b104 (0 : Int32) (10 : Int32) T126.heap n0 Zs144 Fposition_126 Fend_126) hZ (hw _ (List.mem_of_getElem? (i := 38) rfl)) (hw _ (List.mem_of_getElem? (i := 8) rfl)) (by decide) (by decide)) q147a q147c (g := (mkF m 164 #[.val (.int p0), .val (.int p1), .val (.int (0 : Int32)), .val (.ref b2), .val (.int (1 : Int32)), .val (.ref b104), .unset] [(.ref b104)])) rfl (by rw [hml]; rfl) (Steps.refl _) (argsL := []) (rest := []) (lenOf pd_1 rfl) rfl (by show 2 * 0 + _ ≤ _; exact Nat.le_of_eq rfl) (hb hby at_164) (fun _ _ => ⟨rfl, e146, (show 6 + 0 ≤ 32 from by decide), (show 24 + 0 ≤ 2240 from by decide)⟩)
    dsimp only [Pt.U, Pt.locs, Pt.cells, Pt.slots] at X147 l147 y147 z147 st147 hQ147
    have X147 := own_stand X147 l147 y147 z147
    obtain ⟨hv147, N147q, e147⟩ := hQ147
    rw [if_pos (show ((0 : Int32) < (10 : Int32)) by decide)] at hv147
    subst hv147
    have N147 := Fr.app N146 N147q
    refine Go.of (fun tg_ kk_ => st147.trans kk_) ?_
    show Go p e below T147 (mkF m 167 #[.val (.int p0), .val (.int p1), .val (.int (0 : Int32)), .val (.ref b2), .val (.int (1 : Int32)), .val (.ref b104), .unset] [(.int (1 : Int32))]) _
    refine Go.of (fun tg_ kk_ => XS.ifNo X147.here hx rfl (hb hby at_167) rfl ((if0 _ _).trans (feq (show ¬ ((1 : Int32) = (0 : Int32)) by decide)).1) kk_) ?_
    show Go p e below T147 (mkF m 170 #[.val (.int p0), .val (.int p1), .val (.int (0 : Int32)), .val (.ref b2), .val (.int (1 : Int32)), .val (.ref b104), .unset] []) _
    refine Go.of (fun tg_ kk_ => XS.iconst X147.here hx rfl (hb hby at_170) kk_) ?_
    show Go p e below T147 (mkF m 171 #[.val (.int p0), .val (.int p1), .val (.int (0 : Int32)), .val (.ref b2), .val (.int (1 : Int32)), .val (.ref b104), .unset] [(.int (1 : Int32))]) _
    refine Go.of (fun tg_ kk_ => XS.goto X147.here hx rfl (pc0 := 171) (pc' := 175) rfl (hb hby at_171) (by decide) (by decide) kk_) ?_
    show Go p e below T147 (mkF m 175 #[.val (.int p0), .val (.int p1), .val (.int (0 : Int32)), .val (.ref b2), .val (.int (1 : Int32)), .val (.ref b104), .unset] [(.int (1 : Int32))]) _
    refine Go.of (fun tg_ kk_ => XS.istore X147.here hx rfl (hb hby at_175) rfl (l' := #[.val (.int p0), .val (.int p1), .val (.int (0 : Int32)), .val (.ref b2), .val (.int (1 : Int32)), .val (.ref b104), .unset]) rfl kk_) ?_
    show Go p e below T147 (mkF m 177 #[.val (.int p0), .val (.int p1), .val (.int (0 : Int32)), .val (.ref b2), .val (.int (1 : Int32)), .val (.ref b104), .unset] []) _
    refine Go.of (fun tg_ kk_ => XS.aload X147.here hx rfl (hb hby at_177) rfl rfl kk_) ?_
    show Go p e below T147 (mkF m 179 #[.val (.int p0), .val (.int p1), .val (.int (0 : Int32)), .val (.ref b2), .val (.int (1 : Int32)), .val (.ref b104), .unset] [(.ref b104)]) _
    obtain ⟨cq148, kq148, q148a, q148b, q148c⟩ := isOf hZ e147 F136
    obtain ⟨_, _, ⟨T148, L148, k148, n148⟩, -, Xq148, hSq148, hgr148, ⟨Lc148, hQ148, l148, y148, z148⟩, st148⟩ := X147.virtualBackS hx (y := (⟨"com/example/attestry/attestry/DerReader", "sequence", "()Lcom/example/attestry/attestry/DerReader;"⟩ : MethodName)) (z := (⟨"com/example/attestry/attestry/DerReader", "sequence", "()Lcom/example/attestry/attestry/DerReader;"⟩ : MethodName)) hown (mvT hZ (hw _ (List.mem_of_getElem? (i := 39) rfl))) (mvT hZ (hw _ (List.mem_of_getElem? (i := 40) rfl))) (notFace_of_selects (args := #[]) (mvT hZ (hw _ (List.mem_of_getElem? (i := 42) rfl)))) (mvT hZ (hw _ (List.mem_of_getElem? (i := 42) rfl))) (mvT hZ (hw _ (List.mem_of_getElem? (i := 41) rfl))) (by decide) (backOfS (W := 0) (rm6 l Z a0 hw [] b104 b2 q126 (0 : Int32) (0 : Int32) (10 : Int32) (1 : Int32) f59 (0 : Int32) T126.heap n0 Zs144 gx104 F136 Fbytes_126 FberNote_126 Fstart_126 Fposition_126 Fend_126 Fdepth_126 F127 (Ne.symm ne105) (by decide +kernel) ⟨by decide +kernel, by decide +kernel⟩ (by rw [show ((0 : Int32)).toNatClampNeg = 0 from by decide +kernel, by0_]; decide +kernel) (by decide +kernel) ⟨by decide +kernel, by decide +kernel⟩ (by rw [show (((0 : Int32) + (1 : Int32))).toNatClampNeg = 1 from by decide +kernel, by1_]; decide +kernel) (by decide +kernel) (by decide +kernel) (by decide +kernel) (by decide +kernel)) hZ (hw _ (List.mem_of_getElem? (i := 43) rfl)) (hw _ (List.mem_of_getElem? (i := 8) rfl)) (by decide) (by decide)) q148a q148c (g := (mkF m 179 #[.val (.int p0), .val (.int p1), .val (.int (0 : Int32)), .val (.ref b2), .val (.int (1 : Int32)), .val (.ref b104), .unset] [(.ref b104)])) rfl (by rw [hml]; rfl) (Steps.refl _) (argsL := []) (rest := []) (lenOf pd_10 rfl) rfl (by show 2 * 0 + _ ≤ _; exact Nat.le_of_eq rfl) (hb hby at_179) (fun _ _ => ⟨rfl, e147, (show 6 + 3 ≤ 32 from by decide), (show 24 + 42 ≤ 2240 from by decide)⟩)
    dsimp only [Pt.U, Pt.locs, Pt.cells, Pt.slots] at Xq148 l148 y148 z148 st148 hQ148 hSq148 hgr148
    have Xq148 := own_stand Xq148 l148 y148 z148
    obtain ⟨X148, hS148, hZ148, hown148⟩ := rebS hS0 (by rw [e147]; exact hk145) Xq148 hSq148 hgr148 hZ hown
    obtain ⟨c148, rfl, N148q, K148q, gx148, sz148, E148, Fbytes_148, FberNote_148, Fstart_148, Fposition_148, Fend_148, Fdepth_148, Gbytes_148, GberNote_148, Gstart_148, Gposition_148, Gend_148, Gdepth_148⟩ := hQ148
    have N148 := Fr.app N147 N148q
    have sy148 : h0.size ≤ c148 := Nat.le_trans K143.1 sz148
    have ne149 : b2 ≠ c148 := Nat.ne_of_lt (Nat.lt_of_lt_of_le F127.lt sz148)
    have ne150 : b64 ≠ c148 := Nat.ne_of_lt (Nat.lt_of_lt_of_le F128.lt sz148)
    have ne151 : b76 ≠ c148 := Nat.ne_of_lt (Nat.lt_of_lt_of_le F129.lt sz148)
    have ne152 : b104 ≠ c148 := Nat.ne_of_lt (Nat.lt_of_lt_of_le F136.lt sz148)
    have F153 := F127.keep K148q (ninS ne105 nin0)
    have F154 := F128.keep K148q
    have F155 := F129.keep K148q (ninS ne107 nin0)
    have F156 := F130.keep K148q (ninS ne106 nin0)
    have F157 := F131.keep K148q (ninS ne106 nin0)
    have F158 := F132.keep K148q (ninS ne106 nin0)
    have F159 := F133.keep K148q (ninS ne106 nin0)
    have F160 := F134.keep K148q (ninS ne106 nin0)
    have F161 := F135.keep K148q (ninS ne106 nin0)
    have F162 := F136.keep K148q
    have K169 := K143.trans K148q (allS (Or.inr sz104) all0)
    have Zs170 : n0 ≤ T148.heap.size := Nat.le_trans Zs144 K148q.1
    have hk171 := Nat.le_trans hk145 K148q.1
    rw [show ((((0 : Int32) + (1 : Int32)) + (1 : Int32)) + (0 : Int32).toInt64.toInt32) = (2 : Int32) from by decide +kernel] at Fposition_148
    rw [show (((0 : Int32) + (1 : Int32)) + (1 : Int32)) = (2 : Int32) from by decide +kernel] at Gposition_148
    rw [show ((((0 : Int32) + (1 : Int32)) + (1 : Int32)) + (0 : Int32).toInt64.toInt32) = (2 : Int32) from by decide +kernel] at Gend_148
    rw [show ((1 : Int32) + (1 : Int32)) = (2 : Int32) from by decide +kernel] at Gdepth_148
    refine Go.of (fun tg_ kk_ => st148.trans kk_) ?_
    show Go p e below T148 (mkF m 182 #[.val (.int p0), .val (.int p1), .val (.int (0 : Int32)), .val (.ref b2), .val (.int (1 : Int32)), .val (.ref b104), .unset] [(.ref c148)]) _
    refine Go.of (fun tg_ kk_ => XS.astore X148.here hx rfl (hb hby at_182) rfl rfl (l' := #[.val (.int p0), .val (.int p1), .val (.int (0 : Int32)), .val (.ref b2), .val (.int (1 : Int32)), .val (.ref b104), .val (.ref c148)]) rfl kk_) ?_
    show Go p e below T148 (mkF m 184 #[.val (.int p0), .val (.int p1), .val (.int (0 : Int32)), .val (.ref b2), .val (.int (1 : Int32)), .val (.ref b104), .val (.ref c148)] []) _
    refine Go.of (fun tg_ kk_ => XS.iload X148.here hx rfl (hb hby at_184) rfl kk_) ?_
    show Go p e below T148 (mkF m 186 #[.val (.int p0), .val (.int p1), .val (.int (0 : Int32)), .val (.ref b2), .val (.int (1 : Int32)), .val (.ref b104), .val (.ref c148)] [(.int (1 : Int32))]) _
    refine Go.of (fun tg_ kk_ => XS.ifNo X148.here hx rfl (hb hby at_186) rfl ((if0 _ _).trans (feq (show ¬ ((1 : Int32) = (0 : Int32)) by decide)).1) kk_) ?_
    show Go p e below T148 (mkF m 189 #[.val (.int p0), .val (.int p1), .val (.int (0 : Int32)), .val (.ref b2), .val (.int (1 : Int32)), .val (.ref b104), .val (.ref c148)] []) _
    refine Go.of (fun tg_ kk_ => XS.aload X148.here hx rfl (hb hby at_189) rfl rfl kk_) ?_
    show Go p e below T148 (mkF m 191 #[.val (.int p0), .val (.int p1), .val (.int (0 : Int32)), .val (.ref b2), .val (.int (1 : Int32)), .val (.ref b104), .val (.ref c148)] [(.ref b104)]) _
    obtain ⟨cq172, kq172, q172a, q172b, q172c⟩ := isOf hZ148 rfl F162
    obtain ⟨_, _, ⟨T172, L172, k172, n172⟩, -, X172, ⟨Lc172, hQ172, l172, y172, z172⟩, st172⟩ := X148.virtualBack hx (y := (⟨"com/example/attestry/attestry/DerReader", "hasNext", "()Z"⟩ : MethodName)) (z := (⟨"com/example/attestry/attestry/DerReader", "hasNext", "()Z"⟩ : MethodName)) hown148 (mvT hZ148 (hw _ (List.mem_of_getElem? (i := 34) rfl))) (mvT hZ148 (hw _ (List.mem_of_getElem? (i := 35) rfl))) (notFace_of_selects (args := #[]) (mvT hZ148 (hw _ (List.mem_of_getElem? (i := 37) rfl)))) (mvT hZ148 (hw _ (List.mem_of_getElem? (i := 37) rfl))) (mvT hZ148 (hw _ (List.mem_of_getElem? (i := 36) rfl))) (by decide) (backOf (W := 0) (rm5 l Z a0 hw [] b104 (2 : Int32) (10 : Int32) T148.heap n0 Zs170 Fposition_148 Fend_148) hZ148 (hw _ (List.mem_of_getElem? (i := 38) rfl)) (hw _ (List.mem_of_getElem? (i := 8) rfl)) (by decide) (by decide)) q172a q172c (g := (mkF m 191 #[.val (.int p0), .val (.int p1), .val (.int (0 : Int32)), .val (.ref b2), .val (.int (1 : Int32)), .val (.ref b104), .val (.ref c148)] [(.ref b104)])) rfl (by rw [hml]; rfl) (Steps.refl _) (argsL := []) (rest := []) (lenOf pd_1 rfl) rfl (by show 2 * 0 + _ ≤ _; exact Nat.le_of_eq rfl) (hb hby at_191) (fun _ _ => ⟨rfl, rfl, (show 9 + 0 ≤ 32 from by decide), (show 66 + 0 ≤ 2240 from by decide)⟩)
    dsimp only [Pt.U, Pt.locs, Pt.cells, Pt.slots] at X172 l172 y172 z172 st172 hQ172
    have X172 := own_stand X172 l172 y172 z172
    obtain ⟨hv172, N172q, e172⟩ := hQ172
    rw [if_pos (show ((2 : Int32) < (10 : Int32)) by decide)] at hv172
    subst hv172
    have N172 := Fr.app N148 N172q
    refine Go.of (fun tg_ kk_ => st172.trans kk_) ?_
    show Go p e below T172 (mkF m 194 #[.val (.int p0), .val (.int p1), .val (.int (0 : Int32)), .val (.ref b2), .val (.int (1 : Int32)), .val (.ref b104), .val (.ref c148)] [(.int (1 : Int32))]) _
    refine Go.of (fun tg_ kk_ => XS.iloadN X172.here hx rfl (hb hby at_194) rfl kk_) ?_
    show Go p e below T172 (mkF m 195 #[.val (.int p0), .val (.int p1), .val (.int (0 : Int32)), .val (.ref b2), .val (.int (1 : Int32)), .val (.ref b104), .val (.ref c148)] [(.int (0 : Int32)), (.int (1 : Int32))]) _
    refine Go.of (fun tg_ kk_ => XS.iconst X172.here hx rfl (hb hby at_195) kk_) ?_
    show Go p e below T172 (mkF m 196 #[.val (.int p0), .val (.int p1), .val (.int (0 : Int32)), .val (.ref b2), .val (.int (1 : Int32)), .val (.ref b104), .val (.ref c148)] [(.int (4 : Int32)), (.int (0 : Int32)), (.int (1 : Int32))]) _
    refine Go.of (fun tg_ kk_ => XS.icmpNo X172.here hx rfl (hb hby at_196) rfl (tlt (show (0 : Int32) < (4 : Int32) by decide)).2.1 kk_) ?_
    show Go p e below T172 (mkF m 199 #[.val (.int p0), .val (.int p1), .val (.int (0 : Int32)), .val (.ref b2), .val (.int (1 : Int32)), .val (.ref b104), .val (.ref c148)] [(.int (1 : Int32))]) _
    refine Go.of (fun tg_ kk_ => XS.iconst X172.here hx rfl (hb hby at_199) kk_) ?_
    show Go p e below T172 (mkF m 200 #[.val (.int p0), .val (.int p1), .val (.int (0 : Int32)), .val (.ref b2), .val (.int (1 : Int32)), .val (.ref b104), .val (.ref c148)] [(.int (1 : Int32)), (.int (1 : Int32))]) _
    refine Go.of (fun tg_ kk_ => XS.goto X172.here hx rfl (pc0 := 200) (pc' := 204) rfl (hb hby at_200) (by decide) (by decide) kk_) ?_
    show Go p e below T172 (mkF m 204 #[.val (.int p0), .val (.int p1), .val (.int (0 : Int32)), .val (.ref b2), .val (.int (1 : Int32)), .val (.ref b104), .val (.ref c148)] [(.int (1 : Int32)), (.int (1 : Int32))]) _
    refine Go.of (fun tg_ kk_ => XS.icmpNo X172.here hx rfl (hb hby at_204) rfl (teq (show (1 : Int32) = (1 : Int32) by decide)).2 kk_) ?_
    show Go p e below T172 (mkF m 207 #[.val (.int p0), .val (.int p1), .val (.int (0 : Int32)), .val (.ref b2), .val (.int (1 : Int32)), .val (.ref b104), .val (.ref c148)] []) _
    refine Go.of (fun tg_ kk_ => XS.iconst X172.here hx rfl (hb hby at_207) kk_) ?_
    show Go p e below T172 (mkF m 208 #[.val (.int p0), .val (.int p1), .val (.int (0 : Int32)), .val (.ref b2), .val (.int (1 : Int32)), .val (.ref b104), .val (.ref c148)] [(.int (1 : Int32))]) _
    refine Go.of (fun tg_ kk_ => XS.goto X172.here hx rfl (pc0 := 208) (pc' := 212) rfl (hb hby at_208) (by decide) (by decide) kk_) ?_
    show Go p e below T172 (mkF m 212 #[.val (.int p0), .val (.int p1), .val (.int (0 : Int32)), .val (.ref b2), .val (.int (1 : Int32)), .val (.ref b104), .val (.ref c148)] [(.int (1 : Int32))]) _
    refine Go.of (fun tg_ kk_ => XS.istore X172.here hx rfl (hb hby at_212) rfl (l' := #[.val (.int p0), .val (.int p1), .val (.int (0 : Int32)), .val (.ref b2), .val (.int (1 : Int32)), .val (.ref b104), .val (.ref c148)]) rfl kk_) ?_
    show Go p e below T172 (mkF m 214 #[.val (.int p0), .val (.int p1), .val (.int (0 : Int32)), .val (.ref b2), .val (.int (1 : Int32)), .val (.ref b104), .val (.ref c148)] []) _
    refine Go.of (fun tg_ kk_ => XS.iload X172.here hx rfl (hb hby at_214) rfl kk_) ?_
    show Go p e below T172 (mkF m 216 #[.val (.int p0), .val (.int p1), .val (.int (0 : Int32)), .val (.ref b2), .val (.int (1 : Int32)), .val (.ref b104), .val (.ref c148)] [(.int (1 : Int32))]) _
    refine Go.of (fun tg_ kk_ => XS.ifNo X172.here hx rfl (hb hby at_216) rfl ((if0 _ _).trans (feq (show ¬ ((1 : Int32) = (0 : Int32)) by decide)).1) kk_) ?_
    show Go p e below T172 (mkF m 219 #[.val (.int p0), .val (.int p1), .val (.int (0 : Int32)), .val (.ref b2), .val (.int (1 : Int32)), .val (.ref b104), .val (.ref c148)] []) _
    refine Go.of (fun tg_ kk_ => XS.aload X172.here hx rfl (hb hby at_219) rfl rfl kk_) ?_
    show Go p e below T172 (mkF m 221 #[.val (.int p0), .val (.int p1), .val (.int (0 : Int32)), .val (.ref b2), .val (.int (1 : Int32)), .val (.ref b104), .val (.ref c148)] [(.ref c148)]) _
    obtain ⟨cq173, kq173, q173a, q173b, q173c⟩ := isOf hZ148 e172 E148
    obtain ⟨_, _, ⟨T173, L173, k173, n173⟩, -, X173, ⟨Lc173, hQ173, l173, y173, z173⟩, st173⟩ := X172.virtualBack hx (y := (⟨"com/example/attestry/attestry/DerReader", "hasNext", "()Z"⟩ : MethodName)) (z := (⟨"com/example/attestry/attestry/DerReader", "hasNext", "()Z"⟩ : MethodName)) hown148 (mvT hZ148 (hw _ (List.mem_of_getElem? (i := 34) rfl))) (mvT hZ148 (hw _ (List.mem_of_getElem? (i := 35) rfl))) (notFace_of_selects (args := #[]) (mvT hZ148 (hw _ (List.mem_of_getElem? (i := 37) rfl)))) (mvT hZ148 (hw _ (List.mem_of_getElem? (i := 37) rfl))) (mvT hZ148 (hw _ (List.mem_of_getElem? (i := 36) rfl))) (by decide) (backOf (W := 0) (rm5 l Z a0 hw [] c148 (2 : Int32) (2 : Int32) T148.heap n0 Zs170 Gposition_148 Gend_148) hZ148 (hw _ (List.mem_of_getElem? (i := 38) rfl)) (hw _ (List.mem_of_getElem? (i := 8) rfl)) (by decide) (by decide)) q173a q173c (g := (mkF m 221 #[.val (.int p0), .val (.int p1), .val (.int (0 : Int32)), .val (.ref b2), .val (.int (1 : Int32)), .val (.ref b104), .val (.ref c148)] [(.ref c148)])) rfl (by rw [hml]; rfl) (Steps.refl _) (argsL := []) (rest := []) (lenOf pd_1 rfl) rfl (by show 2 * 0 + _ ≤ _; exact Nat.le_of_eq rfl) (hb hby at_221) (fun _ _ => ⟨rfl, e172, (show 9 + 0 ≤ 32 from by decide), (show 66 + 0 ≤ 2240 from by decide)⟩)
    dsimp only [Pt.U, Pt.locs, Pt.cells, Pt.slots] at X173 l173 y173 z173 st173 hQ173
    have X173 := own_stand X173 l173 y173 z173
    obtain ⟨hv173, N173q, e173⟩ := hQ173
    rw [if_neg (show ¬ ((2 : Int32) < (2 : Int32)) by decide)] at hv173
    subst hv173
    have N173 := Fr.app N172 N173q
    refine Go.of (fun tg_ kk_ => st173.trans kk_) ?_
    show Go p e below T173 (mkF m 224 #[.val (.int p0), .val (.int p1), .val (.int (0 : Int32)), .val (.ref b2), .val (.int (1 : Int32)), .val (.ref b104), .val (.ref c148)] [(.int (0 : Int32))]) _
    refine Go.of (fun tg_ kk_ => XS.iloadN X173.here hx rfl (hb hby at_224) rfl kk_) ?_
    show Go p e below T173 (mkF m 225 #[.val (.int p0), .val (.int p1), .val (.int (0 : Int32)), .val (.ref b2), .val (.int (1 : Int32)), .val (.ref b104), .val (.ref c148)] [(.int (0 : Int32)), (.int (0 : Int32))]) _
    refine Go.of (fun tg_ kk_ => XS.ifYes X173.here hx rfl (pc0 := 225) (pc' := 232) rfl (hb hby at_225) rfl ((if0 _ _).trans (flt (show ¬ ((0 : Int32) < (0 : Int32)) by decide)).2.2.2) (by decide) (by decide) kk_) ?_
    show Go p e below T173 (mkF m 232 #[.val (.int p0), .val (.int p1), .val (.int (0 : Int32)), .val (.ref b2), .val (.int (1 : Int32)), .val (.ref b104), .val (.ref c148)] [(.int (0 : Int32))]) _
    refine Go.of (fun tg_ kk_ => XS.iconst X173.here hx rfl (hb hby at_232) kk_) ?_
    show Go p e below T173 (mkF m 233 #[.val (.int p0), .val (.int p1), .val (.int (0 : Int32)), .val (.ref b2), .val (.int (1 : Int32)), .val (.ref b104), .val (.ref c148)] [(.int (0 : Int32)), (.int (0 : Int32))]) _
    refine Go.of (fun tg_ kk_ => XS.icmpNo X173.here hx rfl (hb hby at_233) rfl (teq (show (0 : Int32) = (0 : Int32) by decide)).2 kk_) ?_
    show Go p e below T173 (mkF m 236 #[.val (.int p0), .val (.int p1), .val (.int (0 : Int32)), .val (.ref b2), .val (.int (1 : Int32)), .val (.ref b104), .val (.ref c148)] []) _
    refine Go.of (fun tg_ kk_ => XS.iconst X173.here hx rfl (hb hby at_236) kk_) ?_
    show Go p e below T173 (mkF m 237 #[.val (.int p0), .val (.int p1), .val (.int (0 : Int32)), .val (.ref b2), .val (.int (1 : Int32)), .val (.ref b104), .val (.ref c148)] [(.int (1 : Int32))]) _
    refine Go.of (fun tg_ kk_ => XS.goto X173.here hx rfl (pc0 := 237) (pc' := 241) rfl (hb hby at_237) (by decide) (by decide) kk_) ?_
    show Go p e below T173 (mkF m 241 #[.val (.int p0), .val (.int p1), .val (.int (0 : Int32)), .val (.ref b2), .val (.int (1 : Int32)), .val (.ref b104), .val (.ref c148)] [(.int (1 : Int32))]) _
    refine Go.of (fun tg_ kk_ => XS.istore X173.here hx rfl (hb hby at_241) rfl (l' := #[.val (.int p0), .val (.int p1), .val (.int (0 : Int32)), .val (.ref b2), .val (.int (1 : Int32)), .val (.ref b104), .val (.ref c148)]) rfl kk_) ?_
    show Go p e below T173 (mkF m 243 #[.val (.int p0), .val (.int p1), .val (.int (0 : Int32)), .val (.ref b2), .val (.int (1 : Int32)), .val (.ref b104), .val (.ref c148)] []) _
    refine Go.of (fun tg_ kk_ => XS.iloadN X173.here hx rfl (hb hby at_243) rfl kk_) ?_
    show Go p e below T173 (mkF m 244 #[.val (.int p0), .val (.int p1), .val (.int (0 : Int32)), .val (.ref b2), .val (.int (1 : Int32)), .val (.ref b104), .val (.ref c148)] [(.int (0 : Int32))]) _
    refine Go.of (fun tg_ kk_ => XS.ifYes X173.here hx rfl (pc0 := 244) (pc' := 282) rfl (hb hby at_244) rfl ((if0 _ _).trans (flt (show ¬ ((0 : Int32) < (0 : Int32)) by decide)).2.2.2) (by decide) (by decide) kk_) ?_
    show Go p e below T173 (mkF m 282 #[.val (.int p0), .val (.int p1), .val (.int (0 : Int32)), .val (.ref b2), .val (.int (1 : Int32)), .val (.ref b104), .val (.ref c148)] []) _
    refine Go.of (fun tg_ kk_ => XS.iload X173.here hx rfl (hb hby at_282) rfl kk_) ?_
    show Go p e below T173 (mkF m 284 #[.val (.int p0), .val (.int p1), .val (.int (0 : Int32)), .val (.ref b2), .val (.int (1 : Int32)), .val (.ref b104), .val (.ref c148)] [(.int (1 : Int32))]) _
    obtain ⟨fs, hr, hrun, hended, hend⟩ := X173.leaveW hS148 (by rw [e173]; exact (Nat.le_refl T148.heap.size)) (v := some (.int (1 : Int32))) (fun h => by rw [Bd.returns] at h; cases h)
    refine ⟨_, _, ?_, hrun, hended, _, _, rfl, ?_, hend.1, hend.2.1, hend.2.2.1, hend.2.2.2.mono (by decide) (by decide)⟩
    · exact retN X173 hx (t := .boolean) Bd.returns (by simp) (hb hby at_284) hr
    · show Q0 Z p0 p1 h0 n0 _ T173.heap _
      rw [e173]
      exact ⟨rfl, N173⟩
  · subst hs1
    show Go p e below s₁ (mkF m 6 #[.val (.int p0), .val (.int p1), .unset, .unset, .unset, .unset, .unset] [(.int (1 : Int32))]) _
    refine Go.of (fun tg_ kk_ => XS.istoreN X0.here hx rfl (hb hby at_6) rfl (l' := #[.val (.int p0), .val (.int p1), .val (.int (1 : Int32)), .unset, .unset, .unset, .unset]) rfl kk_) ?_
    show Go p e below s₁ (mkF m 7 #[.val (.int p0), .val (.int p1), .val (.int (1 : Int32)), .unset, .unset, .unset, .unset] []) _
    refine Go.of (fun tg_ kk_ => XS.bipush X0.here hx rfl (hb hby at_7) kk_) ?_
    show Go p e below s₁ (mkF m 9 #[.val (.int p0), .val (.int p1), .val (.int (1 : Int32)), .unset, .unset, .unset, .unset] [(.int (10 : Int32))]) _
    obtain ⟨T174, h174, k174, X174, e174, E174, A174, st174⟩ := newP X0 hx hZ (hw _ (List.mem_of_getElem? (i := 1) rfl)) e0 (g := (mkF m 9 #[.val (.int p0), .val (.int p1), .val (.int (1 : Int32)), .unset, .unset, .unset, .unset] [(.int (10 : Int32))])) rfl (hb hby at_9) rfl (by decide) (cap := 10) (by decide) (by decide) (by decide) (by decide)
    obtain ⟨b174, g174⟩ : ∃ zz_, zz_ = h0.size := ⟨_, rfl⟩
    rw [← g174] at A174 st174
    have gx174 : n0 ≤ b174 := Nat.le_trans Z0 (Nat.le_of_eq g174.symm)
    have sz174 : h0.size ≤ b174 := Nat.le_trans K0.1 (Nat.le_of_eq g174.symm)
    have K175 := K0.ext E174
    have Zs176 : n0 ≤ h174.size := Nat.le_trans Z0 E174.1
    have hk177 := Nat.le_trans hk0 E174.1
    have V174 : Af Z h174 b174 .byte 10 (fun _ => 0) := Af.new rfl A174 (by decide)
    refine Go.of (st174) ?_
    show Go p e below T174 (mkF m 11 #[.val (.int p0), .val (.int p1), .val (.int (1 : Int32)), .unset, .unset, .unset, .unset] [(.ref b174)]) _
    refine Go.of (fun tg_ kk_ => XS.astoreN X174.here hx rfl (hb hby at_11) rfl rfl (l' := #[.val (.int p0), .val (.int p1), .val (.int (1 : Int32)), .val (.ref b174), .unset, .unset, .unset]) rfl kk_) ?_
    show Go p e below T174 (mkF m 12 #[.val (.int p0), .val (.int p1), .val (.int (1 : Int32)), .val (.ref b174), .unset, .unset, .unset] []) _
    refine Go.of (fun tg_ kk_ => XS.aloadN X174.here hx rfl (hb hby at_12) rfl rfl kk_) ?_
    show Go p e below T174 (mkF m 13 #[.val (.int p0), .val (.int p1), .val (.int (1 : Int32)), .val (.ref b174), .unset, .unset, .unset] [(.ref b174)]) _
    refine Go.of (fun tg_ kk_ => XS.iconst X174.here hx rfl (hb hby at_13) kk_) ?_
    show Go p e below T174 (mkF m 14 #[.val (.int p0), .val (.int p1), .val (.int (1 : Int32)), .val (.ref b174), .unset, .unset, .unset] [(.int (0 : Int32)), (.ref b174)]) _
    refine Go.of (fun tg_ kk_ => XS.bipush X174.here hx rfl (hb hby at_14) kk_) ?_
    show Go p e below T174 (mkF m 16 #[.val (.int p0), .val (.int p1), .val (.int (1 : Int32)), .val (.ref b174), .unset, .unset, .unset] [(.int (48 : Int32)), (.int (0 : Int32)), (.ref b174)]) _
    have ib178 := (show ¬ ((0 : Int32) < 0) ∧ ((0 : Int32)).toNatClampNeg < 10 from ⟨by decide, by decide⟩)
    obtain ⟨cl178, Ar178, S178, H178⟩ := id V174
    obtain ⟨T178, h178, X178, e178, W178, st178⟩ := stB X174 hx hZ e174 Ar178 (j := (0 : Int32)) (Af.inb S178 ib178) (g := (mkF m 16 #[.val (.int p0), .val (.int p1), .val (.int (1 : Int32)), .val (.ref b174), .unset, .unset, .unset] [(.int (48 : Int32)), (.int (0 : Int32)), (.ref b174)])) rfl rfl (hb hby at_16)
    obtain ⟨f178, qf178⟩ : ∃ qq_ : Nat → Int32, qq_ = upd (fun _ => 0) 0 (48 : Int32) := ⟨_, rfl⟩
    have V178 : Af Z h178 b174 .byte 10 f178 := by rw [qf178]; exact Af.set Ar178 S178 H178 W178 (by decide)
    have K180 := K175.wr W178 (Or.inr sz174)
    have Zs181 : n0 ≤ h178.size := Nat.le_trans Zs176 (Keep.of_wr W178).1
    have hk182 := Nat.le_trans hk177 (Keep.of_wr W178).1
    have N178 := Fr.snoc X178 N0 gx174
    refine Go.of (st178) ?_
    show Go p e below T178 (mkF m 17 #[.val (.int p0), .val (.int p1), .val (.int (1 : Int32)), .val (.ref b174), .unset, .unset, .unset] []) _
    refine Go.of (fun tg_ kk_ => XS.aloadN X178.here hx rfl (hb hby at_17) rfl rfl kk_) ?_
    show Go p e below T178 (mkF m 18 #[.val (.int p0), .val (.int p1), .val (.int (1 : Int32)), .val (.ref b174), .unset, .unset, .unset] [(.ref b174)]) _
    refine Go.of (fun tg_ kk_ => XS.iconst X178.here hx rfl (hb hby at_18) kk_) ?_
    show Go p e below T178 (mkF m 19 #[.val (.int p0), .val (.int p1), .val (.int (1 : Int32)), .val (.ref b174), .unset, .unset, .unset] [(.int (1 : Int32)), (.ref b174)]) _
    refine Go.of (fun tg_ kk_ => XS.iconst X178.here hx rfl (hb hby at_19) kk_) ?_
    show Go p e below T178 (mkF m 20 #[.val (.int p0), .val (.int p1), .val (.int (1 : Int32)), .val (.ref b174), .unset, .unset, .unset] [(.int (2 : Int32)), (.int (1 : Int32)), (.ref b174)]) _
    refine Go.of (fun tg_ kk_ => XS.iloadN X178.here hx rfl (hb hby at_20) rfl kk_) ?_
    show Go p e below T178 (mkF m 21 #[.val (.int p0), .val (.int p1), .val (.int (1 : Int32)), .val (.ref b174), .unset, .unset, .unset] [(.int (1 : Int32)), (.int (2 : Int32)), (.int (1 : Int32)), (.ref b174)]) _
    refine Go.of (fun tg_ kk_ => XS.imul X178.here hx rfl (hb hby at_21) rfl kk_) ?_
    show Go p e below T178 (mkF m 22 #[.val (.int p0), .val (.int p1), .val (.int (1 : Int32)), .val (.ref b174), .unset, .unset, .unset] [(.int ((2 : Int32) * (1 : Int32))), (.int (1 : Int32)), (.ref b174)]) _
    rw [show ((2 : Int32) * (1 : Int32)) = (2 : Int32) from by decide]
    show Go p e below T178 (mkF m 22 #[.val (.int p0), .val (.int p1), .val (.int (1 : Int32)), .val (.ref b174), .unset, .unset, .unset] [(.int (2 : Int32)), (.int (1 : Int32)), (.ref b174)]) _
    refine Go.of (fun tg_ kk_ => XS.i2b X178.here hx rfl (hb hby at_22) rfl kk_) ?_
    show Go p e below T178 (mkF m 23 #[.val (.int p0), .val (.int p1), .val (.int (1 : Int32)), .val (.ref b174), .unset, .unset, .unset] [(.int ((2 : Int32).toInt8.toInt32)), (.int (1 : Int32)), (.ref b174)]) _
    rw [show ((2 : Int32).toInt8.toInt32) = (2 : Int32) from by decide]
    show Go p e below T178 (mkF m 23 #[.val (.int p0), .val (.int p1), .val (.int (1 : Int32)), .val (.ref b174), .unset, .unset, .unset] [(.int (2 : Int32)), (.int (1 : Int32)), (.ref b174)]) _
    have ib183 := (show ¬ ((1 : Int32) < 0) ∧ ((1 : Int32)).toNatClampNeg < 10 from ⟨by decide, by decide⟩)
    obtain ⟨cl183, Ar183, S183, H183⟩ := id V178
    obtain ⟨T183, h183, X183, e183, W183, st183⟩ := stB X178 hx hZ e178 Ar183 (j := (1 : Int32)) (Af.inb S183 ib183) (g := (mkF m 23 #[.val (.int p0), .val (.int p1), .val (.int (1 : Int32)), .val (.ref b174), .unset, .unset, .unset] [(.int (2 : Int32)), (.int (1 : Int32)), (.ref b174)])) rfl rfl (hb hby at_23)
    obtain ⟨f183, qf183⟩ : ∃ qq_ : Nat → Int32, qq_ = upd f178 1 (2 : Int32) := ⟨_, rfl⟩
    have V183 : Af Z h183 b174 .byte 10 f183 := by rw [qf183]; exact Af.set Ar183 S183 H183 W183 (by decide)
    have K185 := K180.wr W183 (Or.inr sz174)
    have Zs186 : n0 ≤ h183.size := Nat.le_trans Zs181 (Keep.of_wr W183).1
    have hk187 := Nat.le_trans hk182 (Keep.of_wr W183).1
    have N183 := Fr.snoc X183 N178 gx174
    refine Go.of (st183) ?_
    show Go p e below T183 (mkF m 24 #[.val (.int p0), .val (.int p1), .val (.int (1 : Int32)), .val (.ref b174), .unset, .unset, .unset] []) _
    refine Go.of (fun tg_ kk_ => XS.aloadN X183.here hx rfl (hb hby at_24) rfl rfl kk_) ?_
    show Go p e below T183 (mkF m 25 #[.val (.int p0), .val (.int p1), .val (.int (1 : Int32)), .val (.ref b174), .unset, .unset, .unset] [(.ref b174)]) _
    refine Go.of (fun tg_ kk_ => XS.iconst X183.here hx rfl (hb hby at_25) kk_) ?_
    show Go p e below T183 (mkF m 26 #[.val (.int p0), .val (.int p1), .val (.int (1 : Int32)), .val (.ref b174), .unset, .unset, .unset] [(.int (2 : Int32)), (.ref b174)]) _
    refine Go.of (fun tg_ kk_ => XS.iconst X183.here hx rfl (hb hby at_26) kk_) ?_
    show Go p e below T183 (mkF m 27 #[.val (.int p0), .val (.int p1), .val (.int (1 : Int32)), .val (.ref b174), .unset, .unset, .unset] [(.int (2 : Int32)), (.int (2 : Int32)), (.ref b174)]) _
    refine Go.of (fun tg_ kk_ => XS.iloadN X183.here hx rfl (hb hby at_27) rfl kk_) ?_
    show Go p e below T183 (mkF m 28 #[.val (.int p0), .val (.int p1), .val (.int (1 : Int32)), .val (.ref b174), .unset, .unset, .unset] [(.int (1 : Int32)), (.int (2 : Int32)), (.int (2 : Int32)), (.ref b174)]) _
    refine Go.of (fun tg_ kk_ => XS.iloadN X183.here hx rfl (hb hby at_28) rfl kk_) ?_
    show Go p e below T183 (mkF m 29 #[.val (.int p0), .val (.int p1), .val (.int (1 : Int32)), .val (.ref b174), .unset, .unset, .unset] [(.int p1), (.int (1 : Int32)), (.int (2 : Int32)), (.int (2 : Int32)), (.ref b174)]) _
    obtain ⟨_, _, ⟨T188, L188, k188, n188⟩, -, X188, ⟨Lc188, hQ188, l188, y188, z188⟩, st188⟩ := Jvm.LawKit.callS X183 hx (y := (⟨"com/example/attestry/attestry/DerReaderHasNextPinLaw", "slot", "(III)B"⟩ : MethodName)) hown (mvT hZ (hw _ (List.mem_of_getElem? (i := 2) rfl))) (mvT hZ (hw _ (List.mem_of_getElem? (i := 3) rfl))) (mvT hZ (hw _ (List.mem_of_getElem? (i := 4) rfl))) (mvT hZ (hw _ (List.mem_of_getElem? (i := 5) rfl))) (by decide) (backOf (W := 2) (rm1 l Z a0 hw [] (2 : Int32) (1 : Int32) p1 h183 n0 Zs186) hZ (hw _ (List.mem_of_getElem? (i := 5) rfl)) (hw _ (List.mem_of_getElem? (i := 4) rfl)) (by decide) (by decide)) (g := (mkF m 29 #[.val (.int p0), .val (.int p1), .val (.int (1 : Int32)), .val (.ref b174), .unset, .unset, .unset] [(.int p1), (.int (1 : Int32)), (.int (2 : Int32)), (.int (2 : Int32)), (.ref b174)])) rfl (by rw [hml]; rfl) (argsL := [(.int (2 : Int32)), (.int (1 : Int32)), (.int p1)]) (rest := [(.int (2 : Int32)), (.ref b174)]) (lenOf pd_8 rfl) rfl (by show 2 * 0 + _ ≤ _; exact Nat.le_of_eq rfl) (hb hby at_29) (fun _ _ => ⟨rfl, e183, (show 1 + 0 ≤ 32 from by decide), (show 10 + 0 ≤ 2240 from by decide)⟩)
    dsimp only [Pt.U, Pt.locs, Pt.cells, Pt.slots] at X188 l188 y188 z188 st188 hQ188
    have X188 := own_stand X188 l188 y188 z188
    obtain ⟨hv188, N188q, e188⟩ := hQ188
    rw [show slotF (2 : Int32) (1 : Int32) p1 = (5 : Int32) from by rw [slotF, if_pos (by decide), if_pos (by decide)]] at hv188
    subst hv188
    have N188 := Fr.app N183 N188q
    refine Go.of (st188) ?_
    show Go p e below T188 (mkF m 32 #[.val (.int p0), .val (.int p1), .val (.int (1 : Int32)), .val (.ref b174), .unset, .unset, .unset] [(.int (5 : Int32)), (.int (2 : Int32)), (.ref b174)]) _
    have ib189 := (show ¬ ((2 : Int32) < 0) ∧ ((2 : Int32)).toNatClampNeg < 10 from ⟨by decide, by decide⟩)
    obtain ⟨cl189, Ar189, S189, H189⟩ := id V183
    obtain ⟨T189, h189, X189, e189, W189, st189⟩ := stB X188 hx hZ e188 Ar189 (j := (2 : Int32)) (Af.inb S189 ib189) (g := (mkF m 32 #[.val (.int p0), .val (.int p1), .val (.int (1 : Int32)), .val (.ref b174), .unset, .unset, .unset] [(.int (5 : Int32)), (.int (2 : Int32)), (.ref b174)])) rfl rfl (hb hby at_32)
    obtain ⟨f189, qf189⟩ : ∃ qq_ : Nat → Int32, qq_ = upd f183 2 (5 : Int32) := ⟨_, rfl⟩
    have V189 : Af Z h189 b174 .byte 10 f189 := by rw [qf189]; exact Af.set Ar189 S189 H189 W189 (by decide)
    have K191 := K185.wr W189 (Or.inr sz174)
    have Zs192 : n0 ≤ h189.size := Nat.le_trans Zs186 (Keep.of_wr W189).1
    have hk193 := Nat.le_trans hk187 (Keep.of_wr W189).1
    have N189 := Fr.snoc X189 N188 gx174
    refine Go.of (st189) ?_
    show Go p e below T189 (mkF m 33 #[.val (.int p0), .val (.int p1), .val (.int (1 : Int32)), .val (.ref b174), .unset, .unset, .unset] []) _
    refine Go.of (fun tg_ kk_ => XS.aloadN X189.here hx rfl (hb hby at_33) rfl rfl kk_) ?_
    show Go p e below T189 (mkF m 34 #[.val (.int p0), .val (.int p1), .val (.int (1 : Int32)), .val (.ref b174), .unset, .unset, .unset] [(.ref b174)]) _
    refine Go.of (fun tg_ kk_ => XS.iconst X189.here hx rfl (hb hby at_34) kk_) ?_
    show Go p e below T189 (mkF m 35 #[.val (.int p0), .val (.int p1), .val (.int (1 : Int32)), .val (.ref b174), .unset, .unset, .unset] [(.int (3 : Int32)), (.ref b174)]) _
    refine Go.of (fun tg_ kk_ => XS.iconst X189.here hx rfl (hb hby at_35) kk_) ?_
    show Go p e below T189 (mkF m 36 #[.val (.int p0), .val (.int p1), .val (.int (1 : Int32)), .val (.ref b174), .unset, .unset, .unset] [(.int (3 : Int32)), (.int (3 : Int32)), (.ref b174)]) _
    refine Go.of (fun tg_ kk_ => XS.iloadN X189.here hx rfl (hb hby at_36) rfl kk_) ?_
    show Go p e below T189 (mkF m 37 #[.val (.int p0), .val (.int p1), .val (.int (1 : Int32)), .val (.ref b174), .unset, .unset, .unset] [(.int (1 : Int32)), (.int (3 : Int32)), (.int (3 : Int32)), (.ref b174)]) _
    refine Go.of (fun tg_ kk_ => XS.iloadN X189.here hx rfl (hb hby at_37) rfl kk_) ?_
    show Go p e below T189 (mkF m 38 #[.val (.int p0), .val (.int p1), .val (.int (1 : Int32)), .val (.ref b174), .unset, .unset, .unset] [(.int p1), (.int (1 : Int32)), (.int (3 : Int32)), (.int (3 : Int32)), (.ref b174)]) _
    obtain ⟨_, _, ⟨T194, L194, k194, n194⟩, -, X194, ⟨Lc194, hQ194, l194, y194, z194⟩, st194⟩ := Jvm.LawKit.callS X189 hx (y := (⟨"com/example/attestry/attestry/DerReaderHasNextPinLaw", "slot", "(III)B"⟩ : MethodName)) hown (mvT hZ (hw _ (List.mem_of_getElem? (i := 2) rfl))) (mvT hZ (hw _ (List.mem_of_getElem? (i := 3) rfl))) (mvT hZ (hw _ (List.mem_of_getElem? (i := 4) rfl))) (mvT hZ (hw _ (List.mem_of_getElem? (i := 5) rfl))) (by decide) (backOf (W := 2) (rm1 l Z a0 hw [] (3 : Int32) (1 : Int32) p1 h189 n0 Zs192) hZ (hw _ (List.mem_of_getElem? (i := 5) rfl)) (hw _ (List.mem_of_getElem? (i := 4) rfl)) (by decide) (by decide)) (g := (mkF m 38 #[.val (.int p0), .val (.int p1), .val (.int (1 : Int32)), .val (.ref b174), .unset, .unset, .unset] [(.int p1), (.int (1 : Int32)), (.int (3 : Int32)), (.int (3 : Int32)), (.ref b174)])) rfl (by rw [hml]; rfl) (argsL := [(.int (3 : Int32)), (.int (1 : Int32)), (.int p1)]) (rest := [(.int (3 : Int32)), (.ref b174)]) (lenOf pd_8 rfl) rfl (by show 2 * 0 + _ ≤ _; exact Nat.le_of_eq rfl) (hb hby at_38) (fun _ _ => ⟨rfl, e189, (show 1 + 0 ≤ 32 from by decide), (show 10 + 0 ≤ 2240 from by decide)⟩)
    dsimp only [Pt.U, Pt.locs, Pt.cells, Pt.slots] at X194 l194 y194 z194 st194 hQ194
    have X194 := own_stand X194 l194 y194 z194
    obtain ⟨hv194, N194q, e194⟩ := hQ194
    rw [show slotF (3 : Int32) (1 : Int32) p1 = (0 : Int32) from by rw [slotF, if_pos (by decide), if_neg (by decide)]] at hv194
    subst hv194
    have N194 := Fr.app N189 N194q
    refine Go.of (st194) ?_
    show Go p e below T194 (mkF m 41 #[.val (.int p0), .val (.int p1), .val (.int (1 : Int32)), .val (.ref b174), .unset, .unset, .unset] [(.int (0 : Int32)), (.int (3 : Int32)), (.ref b174)]) _
    have ib195 := (show ¬ ((3 : Int32) < 0) ∧ ((3 : Int32)).toNatClampNeg < 10 from ⟨by decide, by decide⟩)
    obtain ⟨cl195, Ar195, S195, H195⟩ := id V189
    obtain ⟨T195, h195, X195, e195, W195, st195⟩ := stB X194 hx hZ e194 Ar195 (j := (3 : Int32)) (Af.inb S195 ib195) (g := (mkF m 41 #[.val (.int p0), .val (.int p1), .val (.int (1 : Int32)), .val (.ref b174), .unset, .unset, .unset] [(.int (0 : Int32)), (.int (3 : Int32)), (.ref b174)])) rfl rfl (hb hby at_41)
    obtain ⟨f195, qf195⟩ : ∃ qq_ : Nat → Int32, qq_ = upd f189 3 (0 : Int32) := ⟨_, rfl⟩
    have V195 : Af Z h195 b174 .byte 10 f195 := by rw [qf195]; exact Af.set Ar195 S195 H195 W195 (by decide)
    have K197 := K191.wr W195 (Or.inr sz174)
    have Zs198 : n0 ≤ h195.size := Nat.le_trans Zs192 (Keep.of_wr W195).1
    have hk199 := Nat.le_trans hk193 (Keep.of_wr W195).1
    have N195 := Fr.snoc X195 N194 gx174
    refine Go.of (st195) ?_
    show Go p e below T195 (mkF m 42 #[.val (.int p0), .val (.int p1), .val (.int (1 : Int32)), .val (.ref b174), .unset, .unset, .unset] []) _
    refine Go.of (fun tg_ kk_ => XS.aloadN X195.here hx rfl (hb hby at_42) rfl rfl kk_) ?_
    show Go p e below T195 (mkF m 43 #[.val (.int p0), .val (.int p1), .val (.int (1 : Int32)), .val (.ref b174), .unset, .unset, .unset] [(.ref b174)]) _
    refine Go.of (fun tg_ kk_ => XS.iconst X195.here hx rfl (hb hby at_43) kk_) ?_
    show Go p e below T195 (mkF m 44 #[.val (.int p0), .val (.int p1), .val (.int (1 : Int32)), .val (.ref b174), .unset, .unset, .unset] [(.int (4 : Int32)), (.ref b174)]) _
    refine Go.of (fun tg_ kk_ => XS.iconst X195.here hx rfl (hb hby at_44) kk_) ?_
    show Go p e below T195 (mkF m 45 #[.val (.int p0), .val (.int p1), .val (.int (1 : Int32)), .val (.ref b174), .unset, .unset, .unset] [(.int (4 : Int32)), (.int (4 : Int32)), (.ref b174)]) _
    refine Go.of (fun tg_ kk_ => XS.iloadN X195.here hx rfl (hb hby at_45) rfl kk_) ?_
    show Go p e below T195 (mkF m 46 #[.val (.int p0), .val (.int p1), .val (.int (1 : Int32)), .val (.ref b174), .unset, .unset, .unset] [(.int (1 : Int32)), (.int (4 : Int32)), (.int (4 : Int32)), (.ref b174)]) _
    refine Go.of (fun tg_ kk_ => XS.iloadN X195.here hx rfl (hb hby at_46) rfl kk_) ?_
    show Go p e below T195 (mkF m 47 #[.val (.int p0), .val (.int p1), .val (.int (1 : Int32)), .val (.ref b174), .unset, .unset, .unset] [(.int p1), (.int (1 : Int32)), (.int (4 : Int32)), (.int (4 : Int32)), (.ref b174)]) _
    obtain ⟨_, _, ⟨T200, L200, k200, n200⟩, -, X200, ⟨Lc200, hQ200, l200, y200, z200⟩, st200⟩ := Jvm.LawKit.callS X195 hx (y := (⟨"com/example/attestry/attestry/DerReaderHasNextPinLaw", "slot", "(III)B"⟩ : MethodName)) hown (mvT hZ (hw _ (List.mem_of_getElem? (i := 2) rfl))) (mvT hZ (hw _ (List.mem_of_getElem? (i := 3) rfl))) (mvT hZ (hw _ (List.mem_of_getElem? (i := 4) rfl))) (mvT hZ (hw _ (List.mem_of_getElem? (i := 5) rfl))) (by decide) (backOf (W := 2) (rm1 l Z a0 hw [] (4 : Int32) (1 : Int32) p1 h195 n0 Zs198) hZ (hw _ (List.mem_of_getElem? (i := 5) rfl)) (hw _ (List.mem_of_getElem? (i := 4) rfl)) (by decide) (by decide)) (g := (mkF m 47 #[.val (.int p0), .val (.int p1), .val (.int (1 : Int32)), .val (.ref b174), .unset, .unset, .unset] [(.int p1), (.int (1 : Int32)), (.int (4 : Int32)), (.int (4 : Int32)), (.ref b174)])) rfl (by rw [hml]; rfl) (argsL := [(.int (4 : Int32)), (.int (1 : Int32)), (.int p1)]) (rest := [(.int (4 : Int32)), (.ref b174)]) (lenOf pd_8 rfl) rfl (by show 2 * 0 + _ ≤ _; exact Nat.le_of_eq rfl) (hb hby at_47) (fun _ _ => ⟨rfl, e195, (show 1 + 0 ≤ 32 from by decide), (show 10 + 0 ≤ 2240 from by decide)⟩)
    dsimp only [Pt.U, Pt.locs, Pt.cells, Pt.slots] at X200 l200 y200 z200 st200 hQ200
    have X200 := own_stand X200 l200 y200 z200
    obtain ⟨rfl, N200q, e200⟩ := hQ200
    have N200 := Fr.app N195 N200q
    refine Go.of (st200) ?_
    show Go p e below T200 (mkF m 50 #[.val (.int p0), .val (.int p1), .val (.int (1 : Int32)), .val (.ref b174), .unset, .unset, .unset] [(.int (slotF (4 : Int32) (1 : Int32) p1)), (.int (4 : Int32)), (.ref b174)]) _
    have ib201 := (show ¬ ((4 : Int32) < 0) ∧ ((4 : Int32)).toNatClampNeg < 10 from ⟨by decide, by decide⟩)
    obtain ⟨cl201, Ar201, S201, H201⟩ := id V195
    obtain ⟨T201, h201, X201, e201, W201, st201⟩ := stB X200 hx hZ e200 Ar201 (j := (4 : Int32)) (Af.inb S201 ib201) (g := (mkF m 50 #[.val (.int p0), .val (.int p1), .val (.int (1 : Int32)), .val (.ref b174), .unset, .unset, .unset] [(.int (slotF (4 : Int32) (1 : Int32) p1)), (.int (4 : Int32)), (.ref b174)])) rfl rfl (hb hby at_50)
    obtain ⟨f201, qf201⟩ : ∃ qq_ : Nat → Int32, qq_ = upd f195 4 (nar .byte (slotF (4 : Int32) (1 : Int32) p1)) := ⟨_, rfl⟩
    have V201 : Af Z h201 b174 .byte 10 f201 := by rw [qf201]; exact Af.set Ar201 S201 H201 W201 (by decide)
    have K203 := K197.wr W201 (Or.inr sz174)
    have Zs204 : n0 ≤ h201.size := Nat.le_trans Zs198 (Keep.of_wr W201).1
    have hk205 := Nat.le_trans hk199 (Keep.of_wr W201).1
    have N201 := Fr.snoc X201 N200 gx174
    refine Go.of (st201) ?_
    show Go p e below T201 (mkF m 51 #[.val (.int p0), .val (.int p1), .val (.int (1 : Int32)), .val (.ref b174), .unset, .unset, .unset] []) _
    refine Go.of (fun tg_ kk_ => XS.aloadN X201.here hx rfl (hb hby at_51) rfl rfl kk_) ?_
    show Go p e below T201 (mkF m 52 #[.val (.int p0), .val (.int p1), .val (.int (1 : Int32)), .val (.ref b174), .unset, .unset, .unset] [(.ref b174)]) _
    refine Go.of (fun tg_ kk_ => XS.iconst X201.here hx rfl (hb hby at_52) kk_) ?_
    show Go p e below T201 (mkF m 53 #[.val (.int p0), .val (.int p1), .val (.int (1 : Int32)), .val (.ref b174), .unset, .unset, .unset] [(.int (5 : Int32)), (.ref b174)]) _
    refine Go.of (fun tg_ kk_ => XS.iconst X201.here hx rfl (hb hby at_53) kk_) ?_
    show Go p e below T201 (mkF m 54 #[.val (.int p0), .val (.int p1), .val (.int (1 : Int32)), .val (.ref b174), .unset, .unset, .unset] [(.int (5 : Int32)), (.int (5 : Int32)), (.ref b174)]) _
    refine Go.of (fun tg_ kk_ => XS.iloadN X201.here hx rfl (hb hby at_54) rfl kk_) ?_
    show Go p e below T201 (mkF m 55 #[.val (.int p0), .val (.int p1), .val (.int (1 : Int32)), .val (.ref b174), .unset, .unset, .unset] [(.int (1 : Int32)), (.int (5 : Int32)), (.int (5 : Int32)), (.ref b174)]) _
    refine Go.of (fun tg_ kk_ => XS.iloadN X201.here hx rfl (hb hby at_55) rfl kk_) ?_
    show Go p e below T201 (mkF m 56 #[.val (.int p0), .val (.int p1), .val (.int (1 : Int32)), .val (.ref b174), .unset, .unset, .unset] [(.int p1), (.int (1 : Int32)), (.int (5 : Int32)), (.int (5 : Int32)), (.ref b174)]) _
    obtain ⟨_, _, ⟨T206, L206, k206, n206⟩, -, X206, ⟨Lc206, hQ206, l206, y206, z206⟩, st206⟩ := Jvm.LawKit.callS X201 hx (y := (⟨"com/example/attestry/attestry/DerReaderHasNextPinLaw", "slot", "(III)B"⟩ : MethodName)) hown (mvT hZ (hw _ (List.mem_of_getElem? (i := 2) rfl))) (mvT hZ (hw _ (List.mem_of_getElem? (i := 3) rfl))) (mvT hZ (hw _ (List.mem_of_getElem? (i := 4) rfl))) (mvT hZ (hw _ (List.mem_of_getElem? (i := 5) rfl))) (by decide) (backOf (W := 2) (rm1 l Z a0 hw [] (5 : Int32) (1 : Int32) p1 h201 n0 Zs204) hZ (hw _ (List.mem_of_getElem? (i := 5) rfl)) (hw _ (List.mem_of_getElem? (i := 4) rfl)) (by decide) (by decide)) (g := (mkF m 56 #[.val (.int p0), .val (.int p1), .val (.int (1 : Int32)), .val (.ref b174), .unset, .unset, .unset] [(.int p1), (.int (1 : Int32)), (.int (5 : Int32)), (.int (5 : Int32)), (.ref b174)])) rfl (by rw [hml]; rfl) (argsL := [(.int (5 : Int32)), (.int (1 : Int32)), (.int p1)]) (rest := [(.int (5 : Int32)), (.ref b174)]) (lenOf pd_8 rfl) rfl (by show 2 * 0 + _ ≤ _; exact Nat.le_of_eq rfl) (hb hby at_56) (fun _ _ => ⟨rfl, e201, (show 1 + 0 ≤ 32 from by decide), (show 10 + 0 ≤ 2240 from by decide)⟩)
    dsimp only [Pt.U, Pt.locs, Pt.cells, Pt.slots] at X206 l206 y206 z206 st206 hQ206
    have X206 := own_stand X206 l206 y206 z206
    obtain ⟨rfl, N206q, e206⟩ := hQ206
    have N206 := Fr.app N201 N206q
    refine Go.of (st206) ?_
    show Go p e below T206 (mkF m 59 #[.val (.int p0), .val (.int p1), .val (.int (1 : Int32)), .val (.ref b174), .unset, .unset, .unset] [(.int (slotF (5 : Int32) (1 : Int32) p1)), (.int (5 : Int32)), (.ref b174)]) _
    have ib207 := (show ¬ ((5 : Int32) < 0) ∧ ((5 : Int32)).toNatClampNeg < 10 from ⟨by decide, by decide⟩)
    obtain ⟨cl207, Ar207, S207, H207⟩ := id V201
    obtain ⟨T207, h207, X207, e207, W207, st207⟩ := stB X206 hx hZ e206 Ar207 (j := (5 : Int32)) (Af.inb S207 ib207) (g := (mkF m 59 #[.val (.int p0), .val (.int p1), .val (.int (1 : Int32)), .val (.ref b174), .unset, .unset, .unset] [(.int (slotF (5 : Int32) (1 : Int32) p1)), (.int (5 : Int32)), (.ref b174)])) rfl rfl (hb hby at_59)
    obtain ⟨f207, qf207⟩ : ∃ qq_ : Nat → Int32, qq_ = upd f201 5 (nar .byte (slotF (5 : Int32) (1 : Int32) p1)) := ⟨_, rfl⟩
    have V207 : Af Z h207 b174 .byte 10 f207 := by rw [qf207]; exact Af.set Ar207 S207 H207 W207 (by decide)
    have K209 := K203.wr W207 (Or.inr sz174)
    have Zs210 : n0 ≤ h207.size := Nat.le_trans Zs204 (Keep.of_wr W207).1
    have hk211 := Nat.le_trans hk205 (Keep.of_wr W207).1
    have N207 := Fr.snoc X207 N206 gx174
    refine Go.of (st207) ?_
    show Go p e below T207 (mkF m 60 #[.val (.int p0), .val (.int p1), .val (.int (1 : Int32)), .val (.ref b174), .unset, .unset, .unset] []) _
    refine Go.of (fun tg_ kk_ => XS.aloadN X207.here hx rfl (hb hby at_60) rfl rfl kk_) ?_
    show Go p e below T207 (mkF m 61 #[.val (.int p0), .val (.int p1), .val (.int (1 : Int32)), .val (.ref b174), .unset, .unset, .unset] [(.ref b174)]) _
    refine Go.of (fun tg_ kk_ => XS.bipush X207.here hx rfl (hb hby at_61) kk_) ?_
    show Go p e below T207 (mkF m 63 #[.val (.int p0), .val (.int p1), .val (.int (1 : Int32)), .val (.ref b174), .unset, .unset, .unset] [(.int (6 : Int32)), (.ref b174)]) _
    refine Go.of (fun tg_ kk_ => XS.bipush X207.here hx rfl (hb hby at_63) kk_) ?_
    show Go p e below T207 (mkF m 65 #[.val (.int p0), .val (.int p1), .val (.int (1 : Int32)), .val (.ref b174), .unset, .unset, .unset] [(.int (6 : Int32)), (.int (6 : Int32)), (.ref b174)]) _
    refine Go.of (fun tg_ kk_ => XS.iloadN X207.here hx rfl (hb hby at_65) rfl kk_) ?_
    show Go p e below T207 (mkF m 66 #[.val (.int p0), .val (.int p1), .val (.int (1 : Int32)), .val (.ref b174), .unset, .unset, .unset] [(.int (1 : Int32)), (.int (6 : Int32)), (.int (6 : Int32)), (.ref b174)]) _
    refine Go.of (fun tg_ kk_ => XS.iloadN X207.here hx rfl (hb hby at_66) rfl kk_) ?_
    show Go p e below T207 (mkF m 67 #[.val (.int p0), .val (.int p1), .val (.int (1 : Int32)), .val (.ref b174), .unset, .unset, .unset] [(.int p1), (.int (1 : Int32)), (.int (6 : Int32)), (.int (6 : Int32)), (.ref b174)]) _
    obtain ⟨_, _, ⟨T212, L212, k212, n212⟩, -, X212, ⟨Lc212, hQ212, l212, y212, z212⟩, st212⟩ := Jvm.LawKit.callS X207 hx (y := (⟨"com/example/attestry/attestry/DerReaderHasNextPinLaw", "slot", "(III)B"⟩ : MethodName)) hown (mvT hZ (hw _ (List.mem_of_getElem? (i := 2) rfl))) (mvT hZ (hw _ (List.mem_of_getElem? (i := 3) rfl))) (mvT hZ (hw _ (List.mem_of_getElem? (i := 4) rfl))) (mvT hZ (hw _ (List.mem_of_getElem? (i := 5) rfl))) (by decide) (backOf (W := 2) (rm1 l Z a0 hw [] (6 : Int32) (1 : Int32) p1 h207 n0 Zs210) hZ (hw _ (List.mem_of_getElem? (i := 5) rfl)) (hw _ (List.mem_of_getElem? (i := 4) rfl)) (by decide) (by decide)) (g := (mkF m 67 #[.val (.int p0), .val (.int p1), .val (.int (1 : Int32)), .val (.ref b174), .unset, .unset, .unset] [(.int p1), (.int (1 : Int32)), (.int (6 : Int32)), (.int (6 : Int32)), (.ref b174)])) rfl (by rw [hml]; rfl) (argsL := [(.int (6 : Int32)), (.int (1 : Int32)), (.int p1)]) (rest := [(.int (6 : Int32)), (.ref b174)]) (lenOf pd_8 rfl) rfl (by show 2 * 0 + _ ≤ _; exact Nat.le_of_eq rfl) (hb hby at_67) (fun _ _ => ⟨rfl, e207, (show 1 + 0 ≤ 32 from by decide), (show 10 + 0 ≤ 2240 from by decide)⟩)
    dsimp only [Pt.U, Pt.locs, Pt.cells, Pt.slots] at X212 l212 y212 z212 st212 hQ212
    have X212 := own_stand X212 l212 y212 z212
    obtain ⟨rfl, N212q, e212⟩ := hQ212
    have N212 := Fr.app N207 N212q
    refine Go.of (st212) ?_
    show Go p e below T212 (mkF m 70 #[.val (.int p0), .val (.int p1), .val (.int (1 : Int32)), .val (.ref b174), .unset, .unset, .unset] [(.int (slotF (6 : Int32) (1 : Int32) p1)), (.int (6 : Int32)), (.ref b174)]) _
    have ib213 := (show ¬ ((6 : Int32) < 0) ∧ ((6 : Int32)).toNatClampNeg < 10 from ⟨by decide, by decide⟩)
    obtain ⟨cl213, Ar213, S213, H213⟩ := id V207
    obtain ⟨T213, h213, X213, e213, W213, st213⟩ := stB X212 hx hZ e212 Ar213 (j := (6 : Int32)) (Af.inb S213 ib213) (g := (mkF m 70 #[.val (.int p0), .val (.int p1), .val (.int (1 : Int32)), .val (.ref b174), .unset, .unset, .unset] [(.int (slotF (6 : Int32) (1 : Int32) p1)), (.int (6 : Int32)), (.ref b174)])) rfl rfl (hb hby at_70)
    obtain ⟨f213, qf213⟩ : ∃ qq_ : Nat → Int32, qq_ = upd f207 6 (nar .byte (slotF (6 : Int32) (1 : Int32) p1)) := ⟨_, rfl⟩
    have V213 : Af Z h213 b174 .byte 10 f213 := by rw [qf213]; exact Af.set Ar213 S213 H213 W213 (by decide)
    have K215 := K209.wr W213 (Or.inr sz174)
    have Zs216 : n0 ≤ h213.size := Nat.le_trans Zs210 (Keep.of_wr W213).1
    have hk217 := Nat.le_trans hk211 (Keep.of_wr W213).1
    have N213 := Fr.snoc X213 N212 gx174
    refine Go.of (st213) ?_
    show Go p e below T213 (mkF m 71 #[.val (.int p0), .val (.int p1), .val (.int (1 : Int32)), .val (.ref b174), .unset, .unset, .unset] []) _
    refine Go.of (fun tg_ kk_ => XS.aloadN X213.here hx rfl (hb hby at_71) rfl rfl kk_) ?_
    show Go p e below T213 (mkF m 72 #[.val (.int p0), .val (.int p1), .val (.int (1 : Int32)), .val (.ref b174), .unset, .unset, .unset] [(.ref b174)]) _
    refine Go.of (fun tg_ kk_ => XS.bipush X213.here hx rfl (hb hby at_72) kk_) ?_
    show Go p e below T213 (mkF m 74 #[.val (.int p0), .val (.int p1), .val (.int (1 : Int32)), .val (.ref b174), .unset, .unset, .unset] [(.int (7 : Int32)), (.ref b174)]) _
    refine Go.of (fun tg_ kk_ => XS.bipush X213.here hx rfl (hb hby at_74) kk_) ?_
    show Go p e below T213 (mkF m 76 #[.val (.int p0), .val (.int p1), .val (.int (1 : Int32)), .val (.ref b174), .unset, .unset, .unset] [(.int (7 : Int32)), (.int (7 : Int32)), (.ref b174)]) _
    refine Go.of (fun tg_ kk_ => XS.iloadN X213.here hx rfl (hb hby at_76) rfl kk_) ?_
    show Go p e below T213 (mkF m 77 #[.val (.int p0), .val (.int p1), .val (.int (1 : Int32)), .val (.ref b174), .unset, .unset, .unset] [(.int (1 : Int32)), (.int (7 : Int32)), (.int (7 : Int32)), (.ref b174)]) _
    refine Go.of (fun tg_ kk_ => XS.iloadN X213.here hx rfl (hb hby at_77) rfl kk_) ?_
    show Go p e below T213 (mkF m 78 #[.val (.int p0), .val (.int p1), .val (.int (1 : Int32)), .val (.ref b174), .unset, .unset, .unset] [(.int p1), (.int (1 : Int32)), (.int (7 : Int32)), (.int (7 : Int32)), (.ref b174)]) _
    obtain ⟨_, _, ⟨T218, L218, k218, n218⟩, -, X218, ⟨Lc218, hQ218, l218, y218, z218⟩, st218⟩ := Jvm.LawKit.callS X213 hx (y := (⟨"com/example/attestry/attestry/DerReaderHasNextPinLaw", "slot", "(III)B"⟩ : MethodName)) hown (mvT hZ (hw _ (List.mem_of_getElem? (i := 2) rfl))) (mvT hZ (hw _ (List.mem_of_getElem? (i := 3) rfl))) (mvT hZ (hw _ (List.mem_of_getElem? (i := 4) rfl))) (mvT hZ (hw _ (List.mem_of_getElem? (i := 5) rfl))) (by decide) (backOf (W := 2) (rm1 l Z a0 hw [] (7 : Int32) (1 : Int32) p1 h213 n0 Zs216) hZ (hw _ (List.mem_of_getElem? (i := 5) rfl)) (hw _ (List.mem_of_getElem? (i := 4) rfl)) (by decide) (by decide)) (g := (mkF m 78 #[.val (.int p0), .val (.int p1), .val (.int (1 : Int32)), .val (.ref b174), .unset, .unset, .unset] [(.int p1), (.int (1 : Int32)), (.int (7 : Int32)), (.int (7 : Int32)), (.ref b174)])) rfl (by rw [hml]; rfl) (argsL := [(.int (7 : Int32)), (.int (1 : Int32)), (.int p1)]) (rest := [(.int (7 : Int32)), (.ref b174)]) (lenOf pd_8 rfl) rfl (by show 2 * 0 + _ ≤ _; exact Nat.le_of_eq rfl) (hb hby at_78) (fun _ _ => ⟨rfl, e213, (show 1 + 0 ≤ 32 from by decide), (show 10 + 0 ≤ 2240 from by decide)⟩)
    dsimp only [Pt.U, Pt.locs, Pt.cells, Pt.slots] at X218 l218 y218 z218 st218 hQ218
    have X218 := own_stand X218 l218 y218 z218
    obtain ⟨rfl, N218q, e218⟩ := hQ218
    have N218 := Fr.app N213 N218q
    refine Go.of (st218) ?_
    show Go p e below T218 (mkF m 81 #[.val (.int p0), .val (.int p1), .val (.int (1 : Int32)), .val (.ref b174), .unset, .unset, .unset] [(.int (slotF (7 : Int32) (1 : Int32) p1)), (.int (7 : Int32)), (.ref b174)]) _
    have ib219 := (show ¬ ((7 : Int32) < 0) ∧ ((7 : Int32)).toNatClampNeg < 10 from ⟨by decide, by decide⟩)
    obtain ⟨cl219, Ar219, S219, H219⟩ := id V213
    obtain ⟨T219, h219, X219, e219, W219, st219⟩ := stB X218 hx hZ e218 Ar219 (j := (7 : Int32)) (Af.inb S219 ib219) (g := (mkF m 81 #[.val (.int p0), .val (.int p1), .val (.int (1 : Int32)), .val (.ref b174), .unset, .unset, .unset] [(.int (slotF (7 : Int32) (1 : Int32) p1)), (.int (7 : Int32)), (.ref b174)])) rfl rfl (hb hby at_81)
    obtain ⟨f219, qf219⟩ : ∃ qq_ : Nat → Int32, qq_ = upd f213 7 (nar .byte (slotF (7 : Int32) (1 : Int32) p1)) := ⟨_, rfl⟩
    have V219 : Af Z h219 b174 .byte 10 f219 := by rw [qf219]; exact Af.set Ar219 S219 H219 W219 (by decide)
    have K221 := K215.wr W219 (Or.inr sz174)
    have Zs222 : n0 ≤ h219.size := Nat.le_trans Zs216 (Keep.of_wr W219).1
    have hk223 := Nat.le_trans hk217 (Keep.of_wr W219).1
    have N219 := Fr.snoc X219 N218 gx174
    refine Go.of (st219) ?_
    show Go p e below T219 (mkF m 82 #[.val (.int p0), .val (.int p1), .val (.int (1 : Int32)), .val (.ref b174), .unset, .unset, .unset] []) _
    refine Go.of (fun tg_ kk_ => XS.aloadN X219.here hx rfl (hb hby at_82) rfl rfl kk_) ?_
    show Go p e below T219 (mkF m 83 #[.val (.int p0), .val (.int p1), .val (.int (1 : Int32)), .val (.ref b174), .unset, .unset, .unset] [(.ref b174)]) _
    refine Go.of (fun tg_ kk_ => XS.bipush X219.here hx rfl (hb hby at_83) kk_) ?_
    show Go p e below T219 (mkF m 85 #[.val (.int p0), .val (.int p1), .val (.int (1 : Int32)), .val (.ref b174), .unset, .unset, .unset] [(.int (8 : Int32)), (.ref b174)]) _
    refine Go.of (fun tg_ kk_ => XS.bipush X219.here hx rfl (hb hby at_85) kk_) ?_
    show Go p e below T219 (mkF m 87 #[.val (.int p0), .val (.int p1), .val (.int (1 : Int32)), .val (.ref b174), .unset, .unset, .unset] [(.int (8 : Int32)), (.int (8 : Int32)), (.ref b174)]) _
    refine Go.of (fun tg_ kk_ => XS.iloadN X219.here hx rfl (hb hby at_87) rfl kk_) ?_
    show Go p e below T219 (mkF m 88 #[.val (.int p0), .val (.int p1), .val (.int (1 : Int32)), .val (.ref b174), .unset, .unset, .unset] [(.int (1 : Int32)), (.int (8 : Int32)), (.int (8 : Int32)), (.ref b174)]) _
    refine Go.of (fun tg_ kk_ => XS.iloadN X219.here hx rfl (hb hby at_88) rfl kk_) ?_
    show Go p e below T219 (mkF m 89 #[.val (.int p0), .val (.int p1), .val (.int (1 : Int32)), .val (.ref b174), .unset, .unset, .unset] [(.int p1), (.int (1 : Int32)), (.int (8 : Int32)), (.int (8 : Int32)), (.ref b174)]) _
    obtain ⟨_, _, ⟨T224, L224, k224, n224⟩, -, X224, ⟨Lc224, hQ224, l224, y224, z224⟩, st224⟩ := Jvm.LawKit.callS X219 hx (y := (⟨"com/example/attestry/attestry/DerReaderHasNextPinLaw", "slot", "(III)B"⟩ : MethodName)) hown (mvT hZ (hw _ (List.mem_of_getElem? (i := 2) rfl))) (mvT hZ (hw _ (List.mem_of_getElem? (i := 3) rfl))) (mvT hZ (hw _ (List.mem_of_getElem? (i := 4) rfl))) (mvT hZ (hw _ (List.mem_of_getElem? (i := 5) rfl))) (by decide) (backOf (W := 2) (rm1 l Z a0 hw [] (8 : Int32) (1 : Int32) p1 h219 n0 Zs222) hZ (hw _ (List.mem_of_getElem? (i := 5) rfl)) (hw _ (List.mem_of_getElem? (i := 4) rfl)) (by decide) (by decide)) (g := (mkF m 89 #[.val (.int p0), .val (.int p1), .val (.int (1 : Int32)), .val (.ref b174), .unset, .unset, .unset] [(.int p1), (.int (1 : Int32)), (.int (8 : Int32)), (.int (8 : Int32)), (.ref b174)])) rfl (by rw [hml]; rfl) (argsL := [(.int (8 : Int32)), (.int (1 : Int32)), (.int p1)]) (rest := [(.int (8 : Int32)), (.ref b174)]) (lenOf pd_8 rfl) rfl (by show 2 * 0 + _ ≤ _; exact Nat.le_of_eq rfl) (hb hby at_89) (fun _ _ => ⟨rfl, e219, (show 1 + 0 ≤ 32 from by decide), (show 10 + 0 ≤ 2240 from by decide)⟩)
    dsimp only [Pt.U, Pt.locs, Pt.cells, Pt.slots] at X224 l224 y224 z224 st224 hQ224
    have X224 := own_stand X224 l224 y224 z224
    obtain ⟨rfl, N224q, e224⟩ := hQ224
    have N224 := Fr.app N219 N224q
    refine Go.of (st224) ?_
    show Go p e below T224 (mkF m 92 #[.val (.int p0), .val (.int p1), .val (.int (1 : Int32)), .val (.ref b174), .unset, .unset, .unset] [(.int (slotF (8 : Int32) (1 : Int32) p1)), (.int (8 : Int32)), (.ref b174)]) _
    have ib225 := (show ¬ ((8 : Int32) < 0) ∧ ((8 : Int32)).toNatClampNeg < 10 from ⟨by decide, by decide⟩)
    obtain ⟨cl225, Ar225, S225, H225⟩ := id V219
    obtain ⟨T225, h225, X225, e225, W225, st225⟩ := stB X224 hx hZ e224 Ar225 (j := (8 : Int32)) (Af.inb S225 ib225) (g := (mkF m 92 #[.val (.int p0), .val (.int p1), .val (.int (1 : Int32)), .val (.ref b174), .unset, .unset, .unset] [(.int (slotF (8 : Int32) (1 : Int32) p1)), (.int (8 : Int32)), (.ref b174)])) rfl rfl (hb hby at_92)
    obtain ⟨f225, qf225⟩ : ∃ qq_ : Nat → Int32, qq_ = upd f219 8 (nar .byte (slotF (8 : Int32) (1 : Int32) p1)) := ⟨_, rfl⟩
    have V225 : Af Z h225 b174 .byte 10 f225 := by rw [qf225]; exact Af.set Ar225 S225 H225 W225 (by decide)
    have K227 := K221.wr W225 (Or.inr sz174)
    have Zs228 : n0 ≤ h225.size := Nat.le_trans Zs222 (Keep.of_wr W225).1
    have hk229 := Nat.le_trans hk223 (Keep.of_wr W225).1
    have N225 := Fr.snoc X225 N224 gx174
    refine Go.of (st225) ?_
    show Go p e below T225 (mkF m 93 #[.val (.int p0), .val (.int p1), .val (.int (1 : Int32)), .val (.ref b174), .unset, .unset, .unset] []) _
    refine Go.of (fun tg_ kk_ => XS.aloadN X225.here hx rfl (hb hby at_93) rfl rfl kk_) ?_
    show Go p e below T225 (mkF m 94 #[.val (.int p0), .val (.int p1), .val (.int (1 : Int32)), .val (.ref b174), .unset, .unset, .unset] [(.ref b174)]) _
    refine Go.of (fun tg_ kk_ => XS.bipush X225.here hx rfl (hb hby at_94) kk_) ?_
    show Go p e below T225 (mkF m 96 #[.val (.int p0), .val (.int p1), .val (.int (1 : Int32)), .val (.ref b174), .unset, .unset, .unset] [(.int (9 : Int32)), (.ref b174)]) _
    refine Go.of (fun tg_ kk_ => XS.bipush X225.here hx rfl (hb hby at_96) kk_) ?_
    show Go p e below T225 (mkF m 98 #[.val (.int p0), .val (.int p1), .val (.int (1 : Int32)), .val (.ref b174), .unset, .unset, .unset] [(.int (9 : Int32)), (.int (9 : Int32)), (.ref b174)]) _
    refine Go.of (fun tg_ kk_ => XS.iloadN X225.here hx rfl (hb hby at_98) rfl kk_) ?_
    show Go p e below T225 (mkF m 99 #[.val (.int p0), .val (.int p1), .val (.int (1 : Int32)), .val (.ref b174), .unset, .unset, .unset] [(.int (1 : Int32)), (.int (9 : Int32)), (.int (9 : Int32)), (.ref b174)]) _
    refine Go.of (fun tg_ kk_ => XS.iloadN X225.here hx rfl (hb hby at_99) rfl kk_) ?_
    show Go p e below T225 (mkF m 100 #[.val (.int p0), .val (.int p1), .val (.int (1 : Int32)), .val (.ref b174), .unset, .unset, .unset] [(.int p1), (.int (1 : Int32)), (.int (9 : Int32)), (.int (9 : Int32)), (.ref b174)]) _
    obtain ⟨_, _, ⟨T230, L230, k230, n230⟩, -, X230, ⟨Lc230, hQ230, l230, y230, z230⟩, st230⟩ := Jvm.LawKit.callS X225 hx (y := (⟨"com/example/attestry/attestry/DerReaderHasNextPinLaw", "slot", "(III)B"⟩ : MethodName)) hown (mvT hZ (hw _ (List.mem_of_getElem? (i := 2) rfl))) (mvT hZ (hw _ (List.mem_of_getElem? (i := 3) rfl))) (mvT hZ (hw _ (List.mem_of_getElem? (i := 4) rfl))) (mvT hZ (hw _ (List.mem_of_getElem? (i := 5) rfl))) (by decide) (backOf (W := 2) (rm1 l Z a0 hw [] (9 : Int32) (1 : Int32) p1 h225 n0 Zs228) hZ (hw _ (List.mem_of_getElem? (i := 5) rfl)) (hw _ (List.mem_of_getElem? (i := 4) rfl)) (by decide) (by decide)) (g := (mkF m 100 #[.val (.int p0), .val (.int p1), .val (.int (1 : Int32)), .val (.ref b174), .unset, .unset, .unset] [(.int p1), (.int (1 : Int32)), (.int (9 : Int32)), (.int (9 : Int32)), (.ref b174)])) rfl (by rw [hml]; rfl) (argsL := [(.int (9 : Int32)), (.int (1 : Int32)), (.int p1)]) (rest := [(.int (9 : Int32)), (.ref b174)]) (lenOf pd_8 rfl) rfl (by show 2 * 0 + _ ≤ _; exact Nat.le_of_eq rfl) (hb hby at_100) (fun _ _ => ⟨rfl, e225, (show 1 + 0 ≤ 32 from by decide), (show 10 + 0 ≤ 2240 from by decide)⟩)
    dsimp only [Pt.U, Pt.locs, Pt.cells, Pt.slots] at X230 l230 y230 z230 st230 hQ230
    have X230 := own_stand X230 l230 y230 z230
    obtain ⟨rfl, N230q, e230⟩ := hQ230
    have N230 := Fr.app N225 N230q
    refine Go.of (st230) ?_
    show Go p e below T230 (mkF m 103 #[.val (.int p0), .val (.int p1), .val (.int (1 : Int32)), .val (.ref b174), .unset, .unset, .unset] [(.int (slotF (9 : Int32) (1 : Int32) p1)), (.int (9 : Int32)), (.ref b174)]) _
    have ib231 := (show ¬ ((9 : Int32) < 0) ∧ ((9 : Int32)).toNatClampNeg < 10 from ⟨by decide, by decide⟩)
    obtain ⟨cl231, Ar231, S231, H231⟩ := id V225
    obtain ⟨T231, h231, X231, e231, W231, st231⟩ := stB X230 hx hZ e230 Ar231 (j := (9 : Int32)) (Af.inb S231 ib231) (g := (mkF m 103 #[.val (.int p0), .val (.int p1), .val (.int (1 : Int32)), .val (.ref b174), .unset, .unset, .unset] [(.int (slotF (9 : Int32) (1 : Int32) p1)), (.int (9 : Int32)), (.ref b174)])) rfl rfl (hb hby at_103)
    obtain ⟨f231, qf231⟩ : ∃ qq_ : Nat → Int32, qq_ = upd f225 9 (nar .byte (slotF (9 : Int32) (1 : Int32) p1)) := ⟨_, rfl⟩
    have V231 : Af Z h231 b174 .byte 10 f231 := by rw [qf231]; exact Af.set Ar231 S231 H231 W231 (by decide)
    have K233 := K227.wr W231 (Or.inr sz174)
    have Zs234 : n0 ≤ h231.size := Nat.le_trans Zs228 (Keep.of_wr W231).1
    have hk235 := Nat.le_trans hk229 (Keep.of_wr W231).1
    have N231 := Fr.snoc X231 N230 gx174
    refine Go.of (st231) ?_
    show Go p e below T231 (mkF m 104 #[.val (.int p0), .val (.int p1), .val (.int (1 : Int32)), .val (.ref b174), .unset, .unset, .unset] []) _
    have by0_ : f231 0 = (48 : Int32) := by rw [qf231, own_updN (by decide), qf225, own_updN (by decide), qf219, own_updN (by decide), qf213, own_updN (by decide), qf207, own_updN (by decide), qf201, own_updN (by decide), qf195, own_updN (by decide), qf189, own_updN (by decide), qf183, own_updN (by decide), qf178, own_updS]
    have by1_ : f231 1 = (2 : Int32) := by rw [qf231, own_updN (by decide), qf225, own_updN (by decide), qf219, own_updN (by decide), qf213, own_updN (by decide), qf207, own_updN (by decide), qf201, own_updN (by decide), qf195, own_updN (by decide), qf189, own_updN (by decide), qf183, own_updS]
    have by2_ : f231 2 = (5 : Int32) := by rw [qf231, own_updN (by decide), qf225, own_updN (by decide), qf219, own_updN (by decide), qf213, own_updN (by decide), qf207, own_updN (by decide), qf201, own_updN (by decide), qf195, own_updN (by decide), qf189, own_updS]
    have by3_ : f231 3 = (0 : Int32) := by rw [qf231, own_updN (by decide), qf225, own_updN (by decide), qf219, own_updN (by decide), qf213, own_updN (by decide), qf207, own_updN (by decide), qf201, own_updN (by decide), qf195, own_updS]
    obtain ⟨T236, h236, X236, e236, E236, A236, D236, -, st236⟩ := newO X231 hx hZ hown (hw _ (List.mem_of_getElem? (i := 6) rfl)) (hw _ (List.mem_of_getElem? (i := 7) rfl)) (hw _ (List.mem_of_getElem? (i := 8) rfl)) e231 (g := (mkF m 104 #[.val (.int p0), .val (.int p1), .val (.int (1 : Int32)), .val (.ref b174), .unset, .unset, .unset] [])) rfl (hb hby at_104) (by decide) (by decide)
    obtain ⟨b236, g236⟩ : ∃ zz_, zz_ = h231.size := ⟨_, rfl⟩
    rw [← g236] at A236 D236 st236
    have gx236 : n0 ≤ b236 := Nat.le_trans Zs234 (Nat.le_of_eq g236.symm)
    have sz236 : h0.size ≤ b236 := Nat.le_trans K233.1 (Nat.le_of_eq g236.symm)
    have ne237 : b174 ≠ b236 := Nat.ne_of_lt (Nat.lt_of_lt_of_le V231.lt (Nat.le_of_eq g236.symm))
    have F238 := V231.ext E236
    have K239 := K233.ext E236
    have Zs240 : n0 ≤ h236.size := Nat.le_trans Zs234 E236.1
    have hk241 := Nat.le_trans hk235 E236.1
    have F242 : Fld Z h236 b236 "com/example/attestry/attestry/DerReader" "bytes" "[B" .null := D236 (Or.inr (hw _ (List.mem_of_getElem? (i := 16) rfl))) (ty := (.array .byte)) (by decide)
    have F243 : Fld Z h236 b236 "com/example/attestry/attestry/DerReader" "berNote" "Lcom/example/attestry/attestry/DerReader$BerNote;" .null := D236 (Or.inr (hw _ (List.mem_of_getElem? (i := 25) rfl))) (ty := (.object "com/example/attestry/attestry/DerReader$BerNote")) (by decide)
    have F244 : Fld Z h236 b236 "com/example/attestry/attestry/DerReader" "start" "I" (.int (0 : Int32)) := D236 (Or.inr (hw _ (List.mem_of_getElem? (i := 27) rfl))) (ty := .int) (by decide)
    have F245 : Fld Z h236 b236 "com/example/attestry/attestry/DerReader" "position" "I" (.int (0 : Int32)) := D236 (Or.inl (hw _ (List.mem_of_getElem? (i := 29) rfl))) (ty := .int) (by decide)
    have F246 : Fld Z h236 b236 "com/example/attestry/attestry/DerReader" "end" "I" (.int (0 : Int32)) := D236 (Or.inr (hw _ (List.mem_of_getElem? (i := 31) rfl))) (ty := .int) (by decide)
    have F247 : Fld Z h236 b236 "com/example/attestry/attestry/DerReader" "depth" "I" (.int (0 : Int32)) := D236 (Or.inr (hw _ (List.mem_of_getElem? (i := 33) rfl))) (ty := .int) (by decide)
    refine Go.of (st236) ?_
    show Go p e below T236 (mkF m 107 #[.val (.int p0), .val (.int p1), .val (.int (1 : Int32)), .val (.ref b174), .unset, .unset, .unset] [(.ref b236)]) _
    refine Go.of (fun tg_ kk_ => XS.dup X236.here hx rfl (hb hby at_107) rfl rfl kk_) ?_
    show Go p e below T236 (mkF m 108 #[.val (.int p0), .val (.int p1), .val (.int (1 : Int32)), .val (.ref b174), .unset, .unset, .unset] [(.ref b236), (.ref b236)]) _
    refine Go.of (fun tg_ kk_ => XS.iconst X236.here hx rfl (hb hby at_108) kk_) ?_
    show Go p e below T236 (mkF m 109 #[.val (.int p0), .val (.int p1), .val (.int (1 : Int32)), .val (.ref b174), .unset, .unset, .unset] [(.int (0 : Int32)), (.ref b236), (.ref b236)]) _
    obtain ⟨T248, h248, k248, X248, e248, E248, A248, st248⟩ := newP X236 hx hZ (hw _ (List.mem_of_getElem? (i := 1) rfl)) e236 (g := (mkF m 109 #[.val (.int p0), .val (.int p1), .val (.int (1 : Int32)), .val (.ref b174), .unset, .unset, .unset] [(.int (0 : Int32)), (.ref b236), (.ref b236)])) rfl (hb hby at_109) rfl (by decide) (cap := 0) (by decide) (by decide) (by decide) (by decide)
    obtain ⟨b248, g248⟩ : ∃ zz_, zz_ = h236.size := ⟨_, rfl⟩
    rw [← g248] at A248 st248
    have gx248 : n0 ≤ b248 := Nat.le_trans Zs240 (Nat.le_of_eq g248.symm)
    have sz248 : h0.size ≤ b248 := Nat.le_trans K239.1 (Nat.le_of_eq g248.symm)
    have ne249 : b174 ≠ b248 := Nat.ne_of_lt (Nat.lt_of_lt_of_le F238.lt (Nat.le_of_eq g248.symm))
    have ne250 : b236 ≠ b248 := Nat.ne_of_lt (Nat.lt_of_lt_of_le A236.lt (Nat.le_of_eq g248.symm))
    have F251 := F238.ext E248
    have F252 := A236.ext E248
    have F253 := F242.ext E248
    have F254 := F243.ext E248
    have F255 := F244.ext E248
    have F256 := F245.ext E248
    have F257 := F246.ext E248
    have F258 := F247.ext E248
    have K259 := K239.ext E248
    have Zs260 : n0 ≤ h248.size := Nat.le_trans Zs240 E248.1
    have hk261 := Nat.le_trans hk241 E248.1
    have V248 : Af Z h248 b248 .byte 0 (fun _ => 0) := Af.new rfl A248 (by decide)
    refine Go.of (st248) ?_
    show Go p e below T248 (mkF m 111 #[.val (.int p0), .val (.int p1), .val (.int (1 : Int32)), .val (.ref b174), .unset, .unset, .unset] [(.ref b248), (.ref b236), (.ref b236)]) _
    obtain ⟨_, _, ⟨T262, L262, k262, n262⟩, -, X262, ⟨Lc262, hQ262, l262, y262, z262⟩, st262⟩ := X248.specialBack hx (y := (⟨"com/example/attestry/attestry/DerReader", "<init>", "([B)V"⟩ : MethodName)) rfl hown (mvT hZ (hw _ (List.mem_of_getElem? (i := 9) rfl))) (mvT hZ (hw _ (List.mem_of_getElem? (i := 10) rfl))) (mvT hZ (hw _ (List.mem_of_getElem? (i := 11) rfl))) (by decide) (backOf (W := 1) (rm2_0 l Z a0 hw [] b236 b248 (fun _ => 0) h248 n0 Zs260 gx236 F252 F253 F254 F255 F256 F257 F258 V248 ne250) hZ (hw _ (List.mem_of_getElem? (i := 11) rfl)) (hw _ (List.mem_of_getElem? (i := 8) rfl)) (by decide) (by decide)) (g := (mkF m 111 #[.val (.int p0), .val (.int p1), .val (.int (1 : Int32)), .val (.ref b174), .unset, .unset, .unset] [(.ref b248), (.ref b236), (.ref b236)])) rfl (by rw [hml]; rfl) (Steps.refl _) (a := b236) (argsL := [(.ref b248)]) (rest := [(.ref b236)]) (lenOf pd_9 rfl) rfl (by show 2 * 0 + _ ≤ _; exact Nat.le_of_eq rfl) (hb hby at_111) (fun _ _ => ⟨rfl, e248, (show 3 + 1 ≤ 32 from by decide), (show 16 + 1 ≤ 2240 from by decide)⟩)
    dsimp only [Pt.U, Pt.locs, Pt.cells, Pt.slots] at X262 l262 y262 z262 st262 hQ262
    have X262 := own_stand X262 l262 y262 z262
    obtain ⟨q262, rfl, N262q, K262q, Fbytes_262, FberNote_262, Fstart_262, Fposition_262, Fend_262, Fdepth_262⟩ := hQ262
    have N262 := Fr.app N231 N262q
    have F263 := F251.keep K262q (ninS ne237 nin0)
    have F264 := F252.keep K262q
    have F271 := V248.keep K262q (ninS (Ne.symm ne250) nin0)
    have K272 := K259.trans K262q (allS (Or.inr sz236) all0)
    have Zs273 : n0 ≤ T262.heap.size := Nat.le_trans Zs260 K262q.1
    have hk274 := Nat.le_trans hk261 K262q.1
    refine Go.of (fun tg_ kk_ => st262.trans kk_) ?_
    show Go p e below T262 (mkF m 114 #[.val (.int p0), .val (.int p1), .val (.int (1 : Int32)), .val (.ref b174), .unset, .unset, .unset] [(.ref b236)]) _
    obtain ⟨cq275, kq275, q275a, q275b, q275c⟩ := isOf hZ rfl F264
    obtain ⟨_, _, ⟨T275, L275, k275, n275⟩, -, X275, ⟨Lc275, hQ275, l275, y275, z275⟩, st275⟩ := X262.virtualBack hx (y := (⟨"com/example/attestry/attestry/DerReader", "hasNext", "()Z"⟩ : MethodName)) (z := (⟨"com/example/attestry/attestry/DerReader", "hasNext", "()Z"⟩ : MethodName)) hown (mvT hZ (hw _ (List.mem_of_getElem? (i := 34) rfl))) (mvT hZ (hw _ (List.mem_of_getElem? (i := 35) rfl))) (notFace_of_selects (args := #[]) (mvT hZ (hw _ (List.mem_of_getElem? (i := 37) rfl)))) (mvT hZ (hw _ (List.mem_of_getElem? (i := 37) rfl))) (mvT hZ (hw _ (List.mem_of_getElem? (i := 36) rfl))) (by decide) (backOf (W := 0) (rm5 l Z a0 hw [] b236 (0 : Int32) (0 : Int32) T262.heap n0 Zs273 Fposition_262 Fend_262) hZ (hw _ (List.mem_of_getElem? (i := 38) rfl)) (hw _ (List.mem_of_getElem? (i := 8) rfl)) (by decide) (by decide)) q275a q275c (g := (mkF m 114 #[.val (.int p0), .val (.int p1), .val (.int (1 : Int32)), .val (.ref b174), .unset, .unset, .unset] [(.ref b236)])) rfl (by rw [hml]; rfl) (Steps.refl _) (argsL := []) (rest := []) (lenOf pd_1 rfl) rfl (by show 2 * 0 + _ ≤ _; exact Nat.le_of_eq rfl) (hb hby at_114) (fun _ _ => ⟨rfl, rfl, (show 4 + 0 ≤ 32 from by decide), (show 17 + 0 ≤ 2240 from by decide)⟩)
    dsimp only [Pt.U, Pt.locs, Pt.cells, Pt.slots] at X275 l275 y275 z275 st275 hQ275
    have X275 := own_stand X275 l275 y275 z275
    obtain ⟨hv275, N275q, e275⟩ := hQ275
    rw [if_neg (show ¬ ((0 : Int32) < (0 : Int32)) by decide)] at hv275
    subst hv275
    have N275 := Fr.app N262 N275q
    refine Go.of (fun tg_ kk_ => st275.trans kk_) ?_
    show Go p e below T275 (mkF m 117 #[.val (.int p0), .val (.int p1), .val (.int (1 : Int32)), .val (.ref b174), .unset, .unset, .unset] [(.int (0 : Int32))]) _
    refine Go.of (fun tg_ kk_ => XS.ifNo X275.here hx rfl (hb hby at_117) rfl ((if0 _ _).trans (teq (show (0 : Int32) = (0 : Int32) by decide)).2) kk_) ?_
    show Go p e below T275 (mkF m 120 #[.val (.int p0), .val (.int p1), .val (.int (1 : Int32)), .val (.ref b174), .unset, .unset, .unset] []) _
    refine Go.of (fun tg_ kk_ => XS.iconst X275.here hx rfl (hb hby at_120) kk_) ?_
    show Go p e below T275 (mkF m 121 #[.val (.int p0), .val (.int p1), .val (.int (1 : Int32)), .val (.ref b174), .unset, .unset, .unset] [(.int (1 : Int32))]) _
    refine Go.of (fun tg_ kk_ => XS.goto X275.here hx rfl (pc0 := 121) (pc' := 125) rfl (hb hby at_121) (by decide) (by decide) kk_) ?_
    show Go p e below T275 (mkF m 125 #[.val (.int p0), .val (.int p1), .val (.int (1 : Int32)), .val (.ref b174), .unset, .unset, .unset] [(.int (1 : Int32))]) _
    refine Go.of (fun tg_ kk_ => XS.istore X275.here hx rfl (hb hby at_125) rfl (l' := #[.val (.int p0), .val (.int p1), .val (.int (1 : Int32)), .val (.ref b174), .val (.int (1 : Int32)), .unset, .unset]) rfl kk_) ?_
    show Go p e below T275 (mkF m 127 #[.val (.int p0), .val (.int p1), .val (.int (1 : Int32)), .val (.ref b174), .val (.int (1 : Int32)), .unset, .unset] []) _
    obtain ⟨T276, h276, X276, e276, E276, A276, D276, -, st276⟩ := newO X275 hx hZ hown (hw _ (List.mem_of_getElem? (i := 6) rfl)) (hw _ (List.mem_of_getElem? (i := 7) rfl)) (hw _ (List.mem_of_getElem? (i := 8) rfl)) e275 (g := (mkF m 127 #[.val (.int p0), .val (.int p1), .val (.int (1 : Int32)), .val (.ref b174), .val (.int (1 : Int32)), .unset, .unset] [])) rfl (hb hby at_127) (by decide) (by decide)
    obtain ⟨b276, g276⟩ : ∃ zz_, zz_ = T262.heap.size := ⟨_, rfl⟩
    rw [← g276] at A276 D276 st276
    have gx276 : n0 ≤ b276 := Nat.le_trans Zs273 (Nat.le_of_eq g276.symm)
    have sz276 : h0.size ≤ b276 := Nat.le_trans K272.1 (Nat.le_of_eq g276.symm)
    have ne277 : b174 ≠ b276 := Nat.ne_of_lt (Nat.lt_of_lt_of_le F263.lt (Nat.le_of_eq g276.symm))
    have ne278 : b236 ≠ b276 := Nat.ne_of_lt (Nat.lt_of_lt_of_le F264.lt (Nat.le_of_eq g276.symm))
    have ne279 : b248 ≠ b276 := Nat.ne_of_lt (Nat.lt_of_lt_of_le F271.lt (Nat.le_of_eq g276.symm))
    have F280 := F263.ext E276
    have F281 := F264.ext E276
    have F282 := F271.ext E276
    have F283 := Fbytes_262.ext E276
    have F284 := FberNote_262.ext E276
    have F285 := Fstart_262.ext E276
    have F286 := Fposition_262.ext E276
    have F287 := Fend_262.ext E276
    have F288 := Fdepth_262.ext E276
    have K289 := K272.ext E276
    have Zs290 : n0 ≤ h276.size := Nat.le_trans Zs273 E276.1
    have hk291 := Nat.le_trans hk274 E276.1
    have F292 : Fld Z h276 b276 "com/example/attestry/attestry/DerReader" "bytes" "[B" .null := D276 (Or.inr (hw _ (List.mem_of_getElem? (i := 16) rfl))) (ty := (.array .byte)) (by decide)
    have F293 : Fld Z h276 b276 "com/example/attestry/attestry/DerReader" "berNote" "Lcom/example/attestry/attestry/DerReader$BerNote;" .null := D276 (Or.inr (hw _ (List.mem_of_getElem? (i := 25) rfl))) (ty := (.object "com/example/attestry/attestry/DerReader$BerNote")) (by decide)
    have F294 : Fld Z h276 b276 "com/example/attestry/attestry/DerReader" "start" "I" (.int (0 : Int32)) := D276 (Or.inr (hw _ (List.mem_of_getElem? (i := 27) rfl))) (ty := .int) (by decide)
    have F295 : Fld Z h276 b276 "com/example/attestry/attestry/DerReader" "position" "I" (.int (0 : Int32)) := D276 (Or.inl (hw _ (List.mem_of_getElem? (i := 29) rfl))) (ty := .int) (by decide)
    have F296 : Fld Z h276 b276 "com/example/attestry/attestry/DerReader" "end" "I" (.int (0 : Int32)) := D276 (Or.inr (hw _ (List.mem_of_getElem? (i := 31) rfl))) (ty := .int) (by decide)
    have F297 : Fld Z h276 b276 "com/example/attestry/attestry/DerReader" "depth" "I" (.int (0 : Int32)) := D276 (Or.inr (hw _ (List.mem_of_getElem? (i := 33) rfl))) (ty := .int) (by decide)
    refine Go.of (st276) ?_
    show Go p e below T276 (mkF m 130 #[.val (.int p0), .val (.int p1), .val (.int (1 : Int32)), .val (.ref b174), .val (.int (1 : Int32)), .unset, .unset] [(.ref b276)]) _
    refine Go.of (fun tg_ kk_ => XS.dup X276.here hx rfl (hb hby at_130) rfl rfl kk_) ?_
    show Go p e below T276 (mkF m 131 #[.val (.int p0), .val (.int p1), .val (.int (1 : Int32)), .val (.ref b174), .val (.int (1 : Int32)), .unset, .unset] [(.ref b276), (.ref b276)]) _
    refine Go.of (fun tg_ kk_ => XS.aloadN X276.here hx rfl (hb hby at_131) rfl rfl kk_) ?_
    show Go p e below T276 (mkF m 132 #[.val (.int p0), .val (.int p1), .val (.int (1 : Int32)), .val (.ref b174), .val (.int (1 : Int32)), .unset, .unset] [(.ref b174), (.ref b276), (.ref b276)]) _
    obtain ⟨_, _, ⟨T298, L298, k298, n298⟩, -, X298, ⟨Lc298, hQ298, l298, y298, z298⟩, st298⟩ := X276.specialBack hx (y := (⟨"com/example/attestry/attestry/DerReader", "<init>", "([B)V"⟩ : MethodName)) rfl hown (mvT hZ (hw _ (List.mem_of_getElem? (i := 9) rfl))) (mvT hZ (hw _ (List.mem_of_getElem? (i := 10) rfl))) (mvT hZ (hw _ (List.mem_of_getElem? (i := 11) rfl))) (by decide) (backOf (W := 1) (rm2_10 l Z a0 hw [] b276 b174 f231 h276 n0 Zs290 gx276 A276 F292 F293 F294 F295 F296 F297 F280 (Ne.symm ne277)) hZ (hw _ (List.mem_of_getElem? (i := 11) rfl)) (hw _ (List.mem_of_getElem? (i := 8) rfl)) (by decide) (by decide)) (g := (mkF m 132 #[.val (.int p0), .val (.int p1), .val (.int (1 : Int32)), .val (.ref b174), .val (.int (1 : Int32)), .unset, .unset] [(.ref b174), (.ref b276), (.ref b276)])) rfl (by rw [hml]; rfl) (Steps.refl _) (a := b276) (argsL := [(.ref b174)]) (rest := [(.ref b276)]) (lenOf pd_9 rfl) rfl (by show 2 * 0 + _ ≤ _; exact Nat.le_of_eq rfl) (hb hby at_132) (fun _ _ => ⟨rfl, e276, (show 5 + 1 ≤ 32 from by decide), (show 23 + 1 ≤ 2240 from by decide)⟩)
    dsimp only [Pt.U, Pt.locs, Pt.cells, Pt.slots] at X298 l298 y298 z298 st298 hQ298
    have X298 := own_stand X298 l298 y298 z298
    obtain ⟨q298, rfl, N298q, K298q, Fbytes_298, FberNote_298, Fstart_298, Fposition_298, Fend_298, Fdepth_298⟩ := hQ298
    have N298 := Fr.app N275 N298q
    have F299 := F280.keep K298q (ninS ne277 nin0)
    have F300 := F281.keep K298q
    have F301 := F282.keep K298q (ninS ne279 nin0)
    have F302 := F283.keep K298q (ninS ne278 nin0)
    have F303 := F284.keep K298q (ninS ne278 nin0)
    have F304 := F285.keep K298q (ninS ne278 nin0)
    have F305 := F286.keep K298q (ninS ne278 nin0)
    have F306 := F287.keep K298q (ninS ne278 nin0)
    have F307 := F288.keep K298q (ninS ne278 nin0)
    have F308 := A276.keep K298q
    have K315 := K289.trans K298q (allS (Or.inr sz276) all0)
    have Zs316 : n0 ≤ T298.heap.size := Nat.le_trans Zs290 K298q.1
    have hk317 := Nat.le_trans hk291 K298q.1
    refine Go.of (fun tg_ kk_ => st298.trans kk_) ?_
    show Go p e below T298 (mkF m 135 #[.val (.int p0), .val (.int p1), .val (.int (1 : Int32)), .val (.ref b174), .val (.int (1 : Int32)), .unset, .unset] [(.ref b276)]) _
    refine Go.of (fun tg_ kk_ => XS.astore X298.here hx rfl (hb hby at_135) rfl rfl (l' := #[.val (.int p0), .val (.int p1), .val (.int (1 : Int32)), .val (.ref b174), .val (.int (1 : Int32)), .val (.ref b276), .unset]) rfl kk_) ?_
    show Go p e below T298 (mkF m 137 #[.val (.int p0), .val (.int p1), .val (.int (1 : Int32)), .val (.ref b174), .val (.int (1 : Int32)), .val (.ref b276), .unset] []) _
    refine Go.of (fun tg_ kk_ => XS.iload X298.here hx rfl (hb hby at_137) rfl kk_) ?_
    show Go p e below T298 (mkF m 139 #[.val (.int p0), .val (.int p1), .val (.int (1 : Int32)), .val (.ref b174), .val (.int (1 : Int32)), .val (.ref b276), .unset] [(.int (1 : Int32))]) _
    refine Go.of (fun tg_ kk_ => XS.ifNo X298.here hx rfl (hb hby at_139) rfl ((if0 _ _).trans (feq (show ¬ ((1 : Int32) = (0 : Int32)) by decide)).1) kk_) ?_
    show Go p e below T298 (mkF m 142 #[.val (.int p0), .val (.int p1), .val (.int (1 : Int32)), .val (.ref b174), .val (.int (1 : Int32)), .val (.ref b276), .unset] []) _
    refine Go.of (fun tg_ kk_ => XS.aload X298.here hx rfl (hb hby at_142) rfl rfl kk_) ?_
    show Go p e below T298 (mkF m 144 #[.val (.int p0), .val (.int p1), .val (.int (1 : Int32)), .val (.ref b174), .val (.int (1 : Int32)), .val (.ref b276), .unset] [(.ref b276)]) _
    obtain ⟨cq318, kq318, q318a, q318b, q318c⟩ := isOf hZ rfl F308
    obtain ⟨_, _, ⟨T318, L318, k318, n318⟩, -, X318, ⟨Lc318, hQ318, l318, y318, z318⟩, st318⟩ := X298.virtualBack hx (y := (⟨"com/example/attestry/attestry/DerReader", "hasNext", "()Z"⟩ : MethodName)) (z := (⟨"com/example/attestry/attestry/DerReader", "hasNext", "()Z"⟩ : MethodName)) hown (mvT hZ (hw _ (List.mem_of_getElem? (i := 34) rfl))) (mvT hZ (hw _ (List.mem_of_getElem? (i := 35) rfl))) (notFace_of_selects (args := #[]) (mvT hZ (hw _ (List.mem_of_getElem? (i := 37) rfl)))) (mvT hZ (hw _ (List.mem_of_getElem? (i := 37) rfl))) (mvT hZ (hw _ (List.mem_of_getElem? (i := 36) rfl))) (by decide) (backOf (W := 0) (rm5 l Z a0 hw [] b276 (0 : Int32) (10 : Int32) T298.heap n0 Zs316 Fposition_298 Fend_298) hZ (hw _ (List.mem_of_getElem? (i := 38) rfl)) (hw _ (List.mem_of_getElem? (i := 8) rfl)) (by decide) (by decide)) q318a q318c (g := (mkF m 144 #[.val (.int p0), .val (.int p1), .val (.int (1 : Int32)), .val (.ref b174), .val (.int (1 : Int32)), .val (.ref b276), .unset] [(.ref b276)])) rfl (by rw [hml]; rfl) (Steps.refl _) (argsL := []) (rest := []) (lenOf pd_1 rfl) rfl (by show 2 * 0 + _ ≤ _; exact Nat.le_of_eq rfl) (hb hby at_144) (fun _ _ => ⟨rfl, rfl, (show 6 + 0 ≤ 32 from by decide), (show 24 + 0 ≤ 2240 from by decide)⟩)
    dsimp only [Pt.U, Pt.locs, Pt.cells, Pt.slots] at X318 l318 y318 z318 st318 hQ318
    have X318 := own_stand X318 l318 y318 z318
    obtain ⟨hv318, N318q, e318⟩ := hQ318
    rw [if_pos (show ((0 : Int32) < (10 : Int32)) by decide)] at hv318
    subst hv318
    have N318 := Fr.app N298 N318q
    refine Go.of (fun tg_ kk_ => st318.trans kk_) ?_
    show Go p e below T318 (mkF m 147 #[.val (.int p0), .val (.int p1), .val (.int (1 : Int32)), .val (.ref b174), .val (.int (1 : Int32)), .val (.ref b276), .unset] [(.int (1 : Int32))]) _
    refine Go.of (fun tg_ kk_ => XS.ifNo X318.here hx rfl (hb hby at_147) rfl ((if0 _ _).trans (feq (show ¬ ((1 : Int32) = (0 : Int32)) by decide)).1) kk_) ?_
    show Go p e below T318 (mkF m 150 #[.val (.int p0), .val (.int p1), .val (.int (1 : Int32)), .val (.ref b174), .val (.int (1 : Int32)), .val (.ref b276), .unset] []) _
    refine Go.of (fun tg_ kk_ => XS.iconst X318.here hx rfl (hb hby at_150) kk_) ?_
    show Go p e below T318 (mkF m 151 #[.val (.int p0), .val (.int p1), .val (.int (1 : Int32)), .val (.ref b174), .val (.int (1 : Int32)), .val (.ref b276), .unset] [(.int (1 : Int32))]) _
    refine Go.of (fun tg_ kk_ => XS.goto X318.here hx rfl (pc0 := 151) (pc' := 155) rfl (hb hby at_151) (by decide) (by decide) kk_) ?_
    show Go p e below T318 (mkF m 155 #[.val (.int p0), .val (.int p1), .val (.int (1 : Int32)), .val (.ref b174), .val (.int (1 : Int32)), .val (.ref b276), .unset] [(.int (1 : Int32))]) _
    refine Go.of (fun tg_ kk_ => XS.istore X318.here hx rfl (hb hby at_155) rfl (l' := #[.val (.int p0), .val (.int p1), .val (.int (1 : Int32)), .val (.ref b174), .val (.int (1 : Int32)), .val (.ref b276), .unset]) rfl kk_) ?_
    show Go p e below T318 (mkF m 157 #[.val (.int p0), .val (.int p1), .val (.int (1 : Int32)), .val (.ref b174), .val (.int (1 : Int32)), .val (.ref b276), .unset] []) _
    refine Go.of (fun tg_ kk_ => XS.iload X318.here hx rfl (hb hby at_157) rfl kk_) ?_
    show Go p e below T318 (mkF m 159 #[.val (.int p0), .val (.int p1), .val (.int (1 : Int32)), .val (.ref b174), .val (.int (1 : Int32)), .val (.ref b276), .unset] [(.int (1 : Int32))]) _
    refine Go.of (fun tg_ kk_ => XS.ifNo X318.here hx rfl (hb hby at_159) rfl ((if0 _ _).trans (feq (show ¬ ((1 : Int32) = (0 : Int32)) by decide)).1) kk_) ?_
    show Go p e below T318 (mkF m 162 #[.val (.int p0), .val (.int p1), .val (.int (1 : Int32)), .val (.ref b174), .val (.int (1 : Int32)), .val (.ref b276), .unset] []) _
    refine Go.of (fun tg_ kk_ => XS.aload X318.here hx rfl (hb hby at_162) rfl rfl kk_) ?_
    show Go p e below T318 (mkF m 164 #[.val (.int p0), .val (.int p1), .val (.int (1 : Int32)), .val (.ref b174), .val (.int (1 : Int32)), .val (.ref b276), .unset] [(.ref b276)]) _
    obtain ⟨cq319, kq319, q319a, q319b, q319c⟩ := isOf hZ e318 F308
    obtain ⟨_, _, ⟨T319, L319, k319, n319⟩, -, X319, ⟨Lc319, hQ319, l319, y319, z319⟩, st319⟩ := X318.virtualBack hx (y := (⟨"com/example/attestry/attestry/DerReader", "hasNext", "()Z"⟩ : MethodName)) (z := (⟨"com/example/attestry/attestry/DerReader", "hasNext", "()Z"⟩ : MethodName)) hown (mvT hZ (hw _ (List.mem_of_getElem? (i := 34) rfl))) (mvT hZ (hw _ (List.mem_of_getElem? (i := 35) rfl))) (notFace_of_selects (args := #[]) (mvT hZ (hw _ (List.mem_of_getElem? (i := 37) rfl)))) (mvT hZ (hw _ (List.mem_of_getElem? (i := 37) rfl))) (mvT hZ (hw _ (List.mem_of_getElem? (i := 36) rfl))) (by decide) (backOf (W := 0) (rm5 l Z a0 hw [] b276 (0 : Int32) (10 : Int32) T298.heap n0 Zs316 Fposition_298 Fend_298) hZ (hw _ (List.mem_of_getElem? (i := 38) rfl)) (hw _ (List.mem_of_getElem? (i := 8) rfl)) (by decide) (by decide)) q319a q319c (g := (mkF m 164 #[.val (.int p0), .val (.int p1), .val (.int (1 : Int32)), .val (.ref b174), .val (.int (1 : Int32)), .val (.ref b276), .unset] [(.ref b276)])) rfl (by rw [hml]; rfl) (Steps.refl _) (argsL := []) (rest := []) (lenOf pd_1 rfl) rfl (by show 2 * 0 + _ ≤ _; exact Nat.le_of_eq rfl) (hb hby at_164) (fun _ _ => ⟨rfl, e318, (show 6 + 0 ≤ 32 from by decide), (show 24 + 0 ≤ 2240 from by decide)⟩)
    dsimp only [Pt.U, Pt.locs, Pt.cells, Pt.slots] at X319 l319 y319 z319 st319 hQ319
    have X319 := own_stand X319 l319 y319 z319
    obtain ⟨hv319, N319q, e319⟩ := hQ319
    rw [if_pos (show ((0 : Int32) < (10 : Int32)) by decide)] at hv319
    subst hv319
    have N319 := Fr.app N318 N319q
    refine Go.of (fun tg_ kk_ => st319.trans kk_) ?_
    show Go p e below T319 (mkF m 167 #[.val (.int p0), .val (.int p1), .val (.int (1 : Int32)), .val (.ref b174), .val (.int (1 : Int32)), .val (.ref b276), .unset] [(.int (1 : Int32))]) _
    refine Go.of (fun tg_ kk_ => XS.ifNo X319.here hx rfl (hb hby at_167) rfl ((if0 _ _).trans (feq (show ¬ ((1 : Int32) = (0 : Int32)) by decide)).1) kk_) ?_
    show Go p e below T319 (mkF m 170 #[.val (.int p0), .val (.int p1), .val (.int (1 : Int32)), .val (.ref b174), .val (.int (1 : Int32)), .val (.ref b276), .unset] []) _
    refine Go.of (fun tg_ kk_ => XS.iconst X319.here hx rfl (hb hby at_170) kk_) ?_
    show Go p e below T319 (mkF m 171 #[.val (.int p0), .val (.int p1), .val (.int (1 : Int32)), .val (.ref b174), .val (.int (1 : Int32)), .val (.ref b276), .unset] [(.int (1 : Int32))]) _
    refine Go.of (fun tg_ kk_ => XS.goto X319.here hx rfl (pc0 := 171) (pc' := 175) rfl (hb hby at_171) (by decide) (by decide) kk_) ?_
    show Go p e below T319 (mkF m 175 #[.val (.int p0), .val (.int p1), .val (.int (1 : Int32)), .val (.ref b174), .val (.int (1 : Int32)), .val (.ref b276), .unset] [(.int (1 : Int32))]) _
    refine Go.of (fun tg_ kk_ => XS.istore X319.here hx rfl (hb hby at_175) rfl (l' := #[.val (.int p0), .val (.int p1), .val (.int (1 : Int32)), .val (.ref b174), .val (.int (1 : Int32)), .val (.ref b276), .unset]) rfl kk_) ?_
    show Go p e below T319 (mkF m 177 #[.val (.int p0), .val (.int p1), .val (.int (1 : Int32)), .val (.ref b174), .val (.int (1 : Int32)), .val (.ref b276), .unset] []) _
    refine Go.of (fun tg_ kk_ => XS.aload X319.here hx rfl (hb hby at_177) rfl rfl kk_) ?_
    show Go p e below T319 (mkF m 179 #[.val (.int p0), .val (.int p1), .val (.int (1 : Int32)), .val (.ref b174), .val (.int (1 : Int32)), .val (.ref b276), .unset] [(.ref b276)]) _
    obtain ⟨cq320, kq320, q320a, q320b, q320c⟩ := isOf hZ e319 F308
    obtain ⟨_, _, ⟨T320, L320, k320, n320⟩, -, Xq320, hSq320, hgr320, ⟨Lc320, hQ320, l320, y320, z320⟩, st320⟩ := X319.virtualBackS hx (y := (⟨"com/example/attestry/attestry/DerReader", "sequence", "()Lcom/example/attestry/attestry/DerReader;"⟩ : MethodName)) (z := (⟨"com/example/attestry/attestry/DerReader", "sequence", "()Lcom/example/attestry/attestry/DerReader;"⟩ : MethodName)) hown (mvT hZ (hw _ (List.mem_of_getElem? (i := 39) rfl))) (mvT hZ (hw _ (List.mem_of_getElem? (i := 40) rfl))) (notFace_of_selects (args := #[]) (mvT hZ (hw _ (List.mem_of_getElem? (i := 42) rfl)))) (mvT hZ (hw _ (List.mem_of_getElem? (i := 42) rfl))) (mvT hZ (hw _ (List.mem_of_getElem? (i := 41) rfl))) (by decide) (backOfS (W := 0) (rm6 l Z a0 hw [] b276 b174 q298 (0 : Int32) (0 : Int32) (10 : Int32) (1 : Int32) f231 (2 : Int32) T298.heap n0 Zs316 gx276 F308 Fbytes_298 FberNote_298 Fstart_298 Fposition_298 Fend_298 Fdepth_298 F299 (Ne.symm ne277) (by decide +kernel) ⟨by decide +kernel, by decide +kernel⟩ (by rw [show ((0 : Int32)).toNatClampNeg = 0 from by decide +kernel, by0_]; decide +kernel) (by decide +kernel) ⟨by decide +kernel, by decide +kernel⟩ (by rw [show (((0 : Int32) + (1 : Int32))).toNatClampNeg = 1 from by decide +kernel, by1_]; decide +kernel) (by decide +kernel) (by decide +kernel) (by decide +kernel) (by decide +kernel)) hZ (hw _ (List.mem_of_getElem? (i := 43) rfl)) (hw _ (List.mem_of_getElem? (i := 8) rfl)) (by decide) (by decide)) q320a q320c (g := (mkF m 179 #[.val (.int p0), .val (.int p1), .val (.int (1 : Int32)), .val (.ref b174), .val (.int (1 : Int32)), .val (.ref b276), .unset] [(.ref b276)])) rfl (by rw [hml]; rfl) (Steps.refl _) (argsL := []) (rest := []) (lenOf pd_10 rfl) rfl (by show 2 * 0 + _ ≤ _; exact Nat.le_of_eq rfl) (hb hby at_179) (fun _ _ => ⟨rfl, e319, (show 6 + 3 ≤ 32 from by decide), (show 24 + 42 ≤ 2240 from by decide)⟩)
    dsimp only [Pt.U, Pt.locs, Pt.cells, Pt.slots] at Xq320 l320 y320 z320 st320 hQ320 hSq320 hgr320
    have Xq320 := own_stand Xq320 l320 y320 z320
    obtain ⟨X320, hS320, hZ320, hown320⟩ := rebS hS0 (by rw [e319]; exact hk317) Xq320 hSq320 hgr320 hZ hown
    obtain ⟨c320, rfl, N320q, K320q, gx320, sz320, E320, Fbytes_320, FberNote_320, Fstart_320, Fposition_320, Fend_320, Fdepth_320, Gbytes_320, GberNote_320, Gstart_320, Gposition_320, Gend_320, Gdepth_320⟩ := hQ320
    have N320 := Fr.app N319 N320q
    have sy320 : h0.size ≤ c320 := Nat.le_trans K315.1 sz320
    have ne321 : b174 ≠ c320 := Nat.ne_of_lt (Nat.lt_of_lt_of_le F299.lt sz320)
    have ne322 : b236 ≠ c320 := Nat.ne_of_lt (Nat.lt_of_lt_of_le F300.lt sz320)
    have ne323 : b248 ≠ c320 := Nat.ne_of_lt (Nat.lt_of_lt_of_le F301.lt sz320)
    have ne324 : b276 ≠ c320 := Nat.ne_of_lt (Nat.lt_of_lt_of_le F308.lt sz320)
    have F325 := F299.keep K320q (ninS ne277 nin0)
    have F326 := F300.keep K320q
    have F327 := F301.keep K320q (ninS ne279 nin0)
    have F328 := F302.keep K320q (ninS ne278 nin0)
    have F329 := F303.keep K320q (ninS ne278 nin0)
    have F330 := F304.keep K320q (ninS ne278 nin0)
    have F331 := F305.keep K320q (ninS ne278 nin0)
    have F332 := F306.keep K320q (ninS ne278 nin0)
    have F333 := F307.keep K320q (ninS ne278 nin0)
    have F334 := F308.keep K320q
    have K341 := K315.trans K320q (allS (Or.inr sz276) all0)
    have Zs342 : n0 ≤ T320.heap.size := Nat.le_trans Zs316 K320q.1
    have hk343 := Nat.le_trans hk317 K320q.1
    rw [show ((((0 : Int32) + (1 : Int32)) + (1 : Int32)) + (2 : Int32).toInt64.toInt32) = (4 : Int32) from by decide +kernel] at Fposition_320
    rw [show (((0 : Int32) + (1 : Int32)) + (1 : Int32)) = (2 : Int32) from by decide +kernel] at Gposition_320
    rw [show ((((0 : Int32) + (1 : Int32)) + (1 : Int32)) + (2 : Int32).toInt64.toInt32) = (4 : Int32) from by decide +kernel] at Gend_320
    rw [show ((1 : Int32) + (1 : Int32)) = (2 : Int32) from by decide +kernel] at Gdepth_320
    refine Go.of (fun tg_ kk_ => st320.trans kk_) ?_
    show Go p e below T320 (mkF m 182 #[.val (.int p0), .val (.int p1), .val (.int (1 : Int32)), .val (.ref b174), .val (.int (1 : Int32)), .val (.ref b276), .unset] [(.ref c320)]) _
    refine Go.of (fun tg_ kk_ => XS.astore X320.here hx rfl (hb hby at_182) rfl rfl (l' := #[.val (.int p0), .val (.int p1), .val (.int (1 : Int32)), .val (.ref b174), .val (.int (1 : Int32)), .val (.ref b276), .val (.ref c320)]) rfl kk_) ?_
    show Go p e below T320 (mkF m 184 #[.val (.int p0), .val (.int p1), .val (.int (1 : Int32)), .val (.ref b174), .val (.int (1 : Int32)), .val (.ref b276), .val (.ref c320)] []) _
    refine Go.of (fun tg_ kk_ => XS.iload X320.here hx rfl (hb hby at_184) rfl kk_) ?_
    show Go p e below T320 (mkF m 186 #[.val (.int p0), .val (.int p1), .val (.int (1 : Int32)), .val (.ref b174), .val (.int (1 : Int32)), .val (.ref b276), .val (.ref c320)] [(.int (1 : Int32))]) _
    refine Go.of (fun tg_ kk_ => XS.ifNo X320.here hx rfl (hb hby at_186) rfl ((if0 _ _).trans (feq (show ¬ ((1 : Int32) = (0 : Int32)) by decide)).1) kk_) ?_
    show Go p e below T320 (mkF m 189 #[.val (.int p0), .val (.int p1), .val (.int (1 : Int32)), .val (.ref b174), .val (.int (1 : Int32)), .val (.ref b276), .val (.ref c320)] []) _
    refine Go.of (fun tg_ kk_ => XS.aload X320.here hx rfl (hb hby at_189) rfl rfl kk_) ?_
    show Go p e below T320 (mkF m 191 #[.val (.int p0), .val (.int p1), .val (.int (1 : Int32)), .val (.ref b174), .val (.int (1 : Int32)), .val (.ref b276), .val (.ref c320)] [(.ref b276)]) _
    obtain ⟨cq344, kq344, q344a, q344b, q344c⟩ := isOf hZ320 rfl F334
    obtain ⟨_, _, ⟨T344, L344, k344, n344⟩, -, X344, ⟨Lc344, hQ344, l344, y344, z344⟩, st344⟩ := X320.virtualBack hx (y := (⟨"com/example/attestry/attestry/DerReader", "hasNext", "()Z"⟩ : MethodName)) (z := (⟨"com/example/attestry/attestry/DerReader", "hasNext", "()Z"⟩ : MethodName)) hown320 (mvT hZ320 (hw _ (List.mem_of_getElem? (i := 34) rfl))) (mvT hZ320 (hw _ (List.mem_of_getElem? (i := 35) rfl))) (notFace_of_selects (args := #[]) (mvT hZ320 (hw _ (List.mem_of_getElem? (i := 37) rfl)))) (mvT hZ320 (hw _ (List.mem_of_getElem? (i := 37) rfl))) (mvT hZ320 (hw _ (List.mem_of_getElem? (i := 36) rfl))) (by decide) (backOf (W := 0) (rm5 l Z a0 hw [] b276 (4 : Int32) (10 : Int32) T320.heap n0 Zs342 Fposition_320 Fend_320) hZ320 (hw _ (List.mem_of_getElem? (i := 38) rfl)) (hw _ (List.mem_of_getElem? (i := 8) rfl)) (by decide) (by decide)) q344a q344c (g := (mkF m 191 #[.val (.int p0), .val (.int p1), .val (.int (1 : Int32)), .val (.ref b174), .val (.int (1 : Int32)), .val (.ref b276), .val (.ref c320)] [(.ref b276)])) rfl (by rw [hml]; rfl) (Steps.refl _) (argsL := []) (rest := []) (lenOf pd_1 rfl) rfl (by show 2 * 0 + _ ≤ _; exact Nat.le_of_eq rfl) (hb hby at_191) (fun _ _ => ⟨rfl, rfl, (show 9 + 0 ≤ 32 from by decide), (show 66 + 0 ≤ 2240 from by decide)⟩)
    dsimp only [Pt.U, Pt.locs, Pt.cells, Pt.slots] at X344 l344 y344 z344 st344 hQ344
    have X344 := own_stand X344 l344 y344 z344
    obtain ⟨hv344, N344q, e344⟩ := hQ344
    rw [if_pos (show ((4 : Int32) < (10 : Int32)) by decide)] at hv344
    subst hv344
    have N344 := Fr.app N320 N344q
    refine Go.of (fun tg_ kk_ => st344.trans kk_) ?_
    show Go p e below T344 (mkF m 194 #[.val (.int p0), .val (.int p1), .val (.int (1 : Int32)), .val (.ref b174), .val (.int (1 : Int32)), .val (.ref b276), .val (.ref c320)] [(.int (1 : Int32))]) _
    refine Go.of (fun tg_ kk_ => XS.iloadN X344.here hx rfl (hb hby at_194) rfl kk_) ?_
    show Go p e below T344 (mkF m 195 #[.val (.int p0), .val (.int p1), .val (.int (1 : Int32)), .val (.ref b174), .val (.int (1 : Int32)), .val (.ref b276), .val (.ref c320)] [(.int (1 : Int32)), (.int (1 : Int32))]) _
    refine Go.of (fun tg_ kk_ => XS.iconst X344.here hx rfl (hb hby at_195) kk_) ?_
    show Go p e below T344 (mkF m 196 #[.val (.int p0), .val (.int p1), .val (.int (1 : Int32)), .val (.ref b174), .val (.int (1 : Int32)), .val (.ref b276), .val (.ref c320)] [(.int (4 : Int32)), (.int (1 : Int32)), (.int (1 : Int32))]) _
    refine Go.of (fun tg_ kk_ => XS.icmpNo X344.here hx rfl (hb hby at_196) rfl (tlt (show (1 : Int32) < (4 : Int32) by decide)).2.1 kk_) ?_
    show Go p e below T344 (mkF m 199 #[.val (.int p0), .val (.int p1), .val (.int (1 : Int32)), .val (.ref b174), .val (.int (1 : Int32)), .val (.ref b276), .val (.ref c320)] [(.int (1 : Int32))]) _
    refine Go.of (fun tg_ kk_ => XS.iconst X344.here hx rfl (hb hby at_199) kk_) ?_
    show Go p e below T344 (mkF m 200 #[.val (.int p0), .val (.int p1), .val (.int (1 : Int32)), .val (.ref b174), .val (.int (1 : Int32)), .val (.ref b276), .val (.ref c320)] [(.int (1 : Int32)), (.int (1 : Int32))]) _
    refine Go.of (fun tg_ kk_ => XS.goto X344.here hx rfl (pc0 := 200) (pc' := 204) rfl (hb hby at_200) (by decide) (by decide) kk_) ?_
    show Go p e below T344 (mkF m 204 #[.val (.int p0), .val (.int p1), .val (.int (1 : Int32)), .val (.ref b174), .val (.int (1 : Int32)), .val (.ref b276), .val (.ref c320)] [(.int (1 : Int32)), (.int (1 : Int32))]) _
    refine Go.of (fun tg_ kk_ => XS.icmpNo X344.here hx rfl (hb hby at_204) rfl (teq (show (1 : Int32) = (1 : Int32) by decide)).2 kk_) ?_
    show Go p e below T344 (mkF m 207 #[.val (.int p0), .val (.int p1), .val (.int (1 : Int32)), .val (.ref b174), .val (.int (1 : Int32)), .val (.ref b276), .val (.ref c320)] []) _
    refine Go.of (fun tg_ kk_ => XS.iconst X344.here hx rfl (hb hby at_207) kk_) ?_
    show Go p e below T344 (mkF m 208 #[.val (.int p0), .val (.int p1), .val (.int (1 : Int32)), .val (.ref b174), .val (.int (1 : Int32)), .val (.ref b276), .val (.ref c320)] [(.int (1 : Int32))]) _
    refine Go.of (fun tg_ kk_ => XS.goto X344.here hx rfl (pc0 := 208) (pc' := 212) rfl (hb hby at_208) (by decide) (by decide) kk_) ?_
    show Go p e below T344 (mkF m 212 #[.val (.int p0), .val (.int p1), .val (.int (1 : Int32)), .val (.ref b174), .val (.int (1 : Int32)), .val (.ref b276), .val (.ref c320)] [(.int (1 : Int32))]) _
    refine Go.of (fun tg_ kk_ => XS.istore X344.here hx rfl (hb hby at_212) rfl (l' := #[.val (.int p0), .val (.int p1), .val (.int (1 : Int32)), .val (.ref b174), .val (.int (1 : Int32)), .val (.ref b276), .val (.ref c320)]) rfl kk_) ?_
    show Go p e below T344 (mkF m 214 #[.val (.int p0), .val (.int p1), .val (.int (1 : Int32)), .val (.ref b174), .val (.int (1 : Int32)), .val (.ref b276), .val (.ref c320)] []) _
    refine Go.of (fun tg_ kk_ => XS.iload X344.here hx rfl (hb hby at_214) rfl kk_) ?_
    show Go p e below T344 (mkF m 216 #[.val (.int p0), .val (.int p1), .val (.int (1 : Int32)), .val (.ref b174), .val (.int (1 : Int32)), .val (.ref b276), .val (.ref c320)] [(.int (1 : Int32))]) _
    refine Go.of (fun tg_ kk_ => XS.ifNo X344.here hx rfl (hb hby at_216) rfl ((if0 _ _).trans (feq (show ¬ ((1 : Int32) = (0 : Int32)) by decide)).1) kk_) ?_
    show Go p e below T344 (mkF m 219 #[.val (.int p0), .val (.int p1), .val (.int (1 : Int32)), .val (.ref b174), .val (.int (1 : Int32)), .val (.ref b276), .val (.ref c320)] []) _
    refine Go.of (fun tg_ kk_ => XS.aload X344.here hx rfl (hb hby at_219) rfl rfl kk_) ?_
    show Go p e below T344 (mkF m 221 #[.val (.int p0), .val (.int p1), .val (.int (1 : Int32)), .val (.ref b174), .val (.int (1 : Int32)), .val (.ref b276), .val (.ref c320)] [(.ref c320)]) _
    obtain ⟨cq345, kq345, q345a, q345b, q345c⟩ := isOf hZ320 e344 E320
    obtain ⟨_, _, ⟨T345, L345, k345, n345⟩, -, X345, ⟨Lc345, hQ345, l345, y345, z345⟩, st345⟩ := X344.virtualBack hx (y := (⟨"com/example/attestry/attestry/DerReader", "hasNext", "()Z"⟩ : MethodName)) (z := (⟨"com/example/attestry/attestry/DerReader", "hasNext", "()Z"⟩ : MethodName)) hown320 (mvT hZ320 (hw _ (List.mem_of_getElem? (i := 34) rfl))) (mvT hZ320 (hw _ (List.mem_of_getElem? (i := 35) rfl))) (notFace_of_selects (args := #[]) (mvT hZ320 (hw _ (List.mem_of_getElem? (i := 37) rfl)))) (mvT hZ320 (hw _ (List.mem_of_getElem? (i := 37) rfl))) (mvT hZ320 (hw _ (List.mem_of_getElem? (i := 36) rfl))) (by decide) (backOf (W := 0) (rm5 l Z a0 hw [] c320 (2 : Int32) (4 : Int32) T320.heap n0 Zs342 Gposition_320 Gend_320) hZ320 (hw _ (List.mem_of_getElem? (i := 38) rfl)) (hw _ (List.mem_of_getElem? (i := 8) rfl)) (by decide) (by decide)) q345a q345c (g := (mkF m 221 #[.val (.int p0), .val (.int p1), .val (.int (1 : Int32)), .val (.ref b174), .val (.int (1 : Int32)), .val (.ref b276), .val (.ref c320)] [(.ref c320)])) rfl (by rw [hml]; rfl) (Steps.refl _) (argsL := []) (rest := []) (lenOf pd_1 rfl) rfl (by show 2 * 0 + _ ≤ _; exact Nat.le_of_eq rfl) (hb hby at_221) (fun _ _ => ⟨rfl, e344, (show 9 + 0 ≤ 32 from by decide), (show 66 + 0 ≤ 2240 from by decide)⟩)
    dsimp only [Pt.U, Pt.locs, Pt.cells, Pt.slots] at X345 l345 y345 z345 st345 hQ345
    have X345 := own_stand X345 l345 y345 z345
    obtain ⟨hv345, N345q, e345⟩ := hQ345
    rw [if_pos (show ((2 : Int32) < (4 : Int32)) by decide)] at hv345
    subst hv345
    have N345 := Fr.app N344 N345q
    refine Go.of (fun tg_ kk_ => st345.trans kk_) ?_
    show Go p e below T345 (mkF m 224 #[.val (.int p0), .val (.int p1), .val (.int (1 : Int32)), .val (.ref b174), .val (.int (1 : Int32)), .val (.ref b276), .val (.ref c320)] [(.int (1 : Int32))]) _
    refine Go.of (fun tg_ kk_ => XS.iloadN X345.here hx rfl (hb hby at_224) rfl kk_) ?_
    show Go p e below T345 (mkF m 225 #[.val (.int p0), .val (.int p1), .val (.int (1 : Int32)), .val (.ref b174), .val (.int (1 : Int32)), .val (.ref b276), .val (.ref c320)] [(.int (1 : Int32)), (.int (1 : Int32))]) _
    refine Go.of (fun tg_ kk_ => XS.ifNo X345.here hx rfl (hb hby at_225) rfl ((if0 _ _).trans (tlt (show (0 : Int32) < (1 : Int32) by decide)).2.2.2) kk_) ?_
    show Go p e below T345 (mkF m 228 #[.val (.int p0), .val (.int p1), .val (.int (1 : Int32)), .val (.ref b174), .val (.int (1 : Int32)), .val (.ref b276), .val (.ref c320)] [(.int (1 : Int32))]) _
    refine Go.of (fun tg_ kk_ => XS.iconst X345.here hx rfl (hb hby at_228) kk_) ?_
    show Go p e below T345 (mkF m 229 #[.val (.int p0), .val (.int p1), .val (.int (1 : Int32)), .val (.ref b174), .val (.int (1 : Int32)), .val (.ref b276), .val (.ref c320)] [(.int (1 : Int32)), (.int (1 : Int32))]) _
    refine Go.of (fun tg_ kk_ => XS.goto X345.here hx rfl (pc0 := 229) (pc' := 233) rfl (hb hby at_229) (by decide) (by decide) kk_) ?_
    show Go p e below T345 (mkF m 233 #[.val (.int p0), .val (.int p1), .val (.int (1 : Int32)), .val (.ref b174), .val (.int (1 : Int32)), .val (.ref b276), .val (.ref c320)] [(.int (1 : Int32)), (.int (1 : Int32))]) _
    refine Go.of (fun tg_ kk_ => XS.icmpNo X345.here hx rfl (hb hby at_233) rfl (teq (show (1 : Int32) = (1 : Int32) by decide)).2 kk_) ?_
    show Go p e below T345 (mkF m 236 #[.val (.int p0), .val (.int p1), .val (.int (1 : Int32)), .val (.ref b174), .val (.int (1 : Int32)), .val (.ref b276), .val (.ref c320)] []) _
    refine Go.of (fun tg_ kk_ => XS.iconst X345.here hx rfl (hb hby at_236) kk_) ?_
    show Go p e below T345 (mkF m 237 #[.val (.int p0), .val (.int p1), .val (.int (1 : Int32)), .val (.ref b174), .val (.int (1 : Int32)), .val (.ref b276), .val (.ref c320)] [(.int (1 : Int32))]) _
    refine Go.of (fun tg_ kk_ => XS.goto X345.here hx rfl (pc0 := 237) (pc' := 241) rfl (hb hby at_237) (by decide) (by decide) kk_) ?_
    show Go p e below T345 (mkF m 241 #[.val (.int p0), .val (.int p1), .val (.int (1 : Int32)), .val (.ref b174), .val (.int (1 : Int32)), .val (.ref b276), .val (.ref c320)] [(.int (1 : Int32))]) _
    refine Go.of (fun tg_ kk_ => XS.istore X345.here hx rfl (hb hby at_241) rfl (l' := #[.val (.int p0), .val (.int p1), .val (.int (1 : Int32)), .val (.ref b174), .val (.int (1 : Int32)), .val (.ref b276), .val (.ref c320)]) rfl kk_) ?_
    show Go p e below T345 (mkF m 243 #[.val (.int p0), .val (.int p1), .val (.int (1 : Int32)), .val (.ref b174), .val (.int (1 : Int32)), .val (.ref b276), .val (.ref c320)] []) _
    refine Go.of (fun tg_ kk_ => XS.iloadN X345.here hx rfl (hb hby at_243) rfl kk_) ?_
    show Go p e below T345 (mkF m 244 #[.val (.int p0), .val (.int p1), .val (.int (1 : Int32)), .val (.ref b174), .val (.int (1 : Int32)), .val (.ref b276), .val (.ref c320)] [(.int (1 : Int32))]) _
    refine Go.of (fun tg_ kk_ => XS.ifNo X345.here hx rfl (hb hby at_244) rfl ((if0 _ _).trans (tlt (show (0 : Int32) < (1 : Int32) by decide)).2.2.2) kk_) ?_
    show Go p e below T345 (mkF m 247 #[.val (.int p0), .val (.int p1), .val (.int (1 : Int32)), .val (.ref b174), .val (.int (1 : Int32)), .val (.ref b276), .val (.ref c320)] []) _
    refine Go.of (fun tg_ kk_ => XS.aload X345.here hx rfl (hb hby at_247) rfl rfl kk_) ?_
    show Go p e below T345 (mkF m 249 #[.val (.int p0), .val (.int p1), .val (.int (1 : Int32)), .val (.ref b174), .val (.int (1 : Int32)), .val (.ref b276), .val (.ref c320)] [(.ref c320)]) _
    obtain ⟨cq346, kq346, q346a, q346b, q346c⟩ := isOf hZ320 e345 E320
    obtain ⟨_, _, ⟨T346, L346, k346, n346⟩, -, Xq346, hSq346, hgr346, ⟨Lc346, hQ346, l346, y346, z346⟩, st346⟩ := X345.virtualBackS hx (y := (⟨"com/example/attestry/attestry/DerReader", "nullValue", "()V"⟩ : MethodName)) (z := (⟨"com/example/attestry/attestry/DerReader", "nullValue", "()V"⟩ : MethodName)) hown320 (mvT hZ320 (hw _ (List.mem_of_getElem? (i := 81) rfl))) (mvT hZ320 (hw _ (List.mem_of_getElem? (i := 82) rfl))) (notFace_of_selects (args := #[]) (mvT hZ320 (hw _ (List.mem_of_getElem? (i := 84) rfl)))) (mvT hZ320 (hw _ (List.mem_of_getElem? (i := 84) rfl))) (mvT hZ320 (hw _ (List.mem_of_getElem? (i := 83) rfl))) (by decide) (backOfS (W := 0) (rm14 l Z a0 hw [] c320 b174 q298 (0 : Int32) (2 : Int32) (4 : Int32) (2 : Int32) f231 T320.heap n0 Zs342 gx320 E320 Gbytes_320 GberNote_320 Gstart_320 Gposition_320 Gend_320 Gdepth_320 F325 (Ne.symm ne321) (by decide +kernel) ⟨by decide +kernel, by decide +kernel⟩ (by rw [show ((2 : Int32)).toNatClampNeg = 2 from by decide +kernel, by2_]; decide +kernel) (by decide +kernel) ⟨by decide +kernel, by decide +kernel⟩ (by rw [show (((2 : Int32) + (1 : Int32))).toNatClampNeg = 3 from by decide +kernel, by3_]; decide +kernel) (by decide +kernel) (by decide +kernel) (by decide +kernel) (by decide +kernel)) hZ320 (hw _ (List.mem_of_getElem? (i := 85) rfl)) (hw _ (List.mem_of_getElem? (i := 8) rfl)) (by decide) (by decide)) q346a q346c (g := (mkF m 249 #[.val (.int p0), .val (.int p1), .val (.int (1 : Int32)), .val (.ref b174), .val (.int (1 : Int32)), .val (.ref b276), .val (.ref c320)] [(.ref c320)])) rfl (by rw [hml]; rfl) (Steps.refl _) (argsL := []) (rest := []) (lenOf pd_0 rfl) rfl (by show 2 * 0 + _ ≤ _; exact Nat.le_of_eq rfl) (hb hby at_249) (fun _ _ => ⟨rfl, e345, (show 9 + 3 ≤ 32 from by decide), (show 66 + 26 ≤ 2240 from by decide)⟩)
    dsimp only [Pt.U, Pt.locs, Pt.cells, Pt.slots] at Xq346 l346 y346 z346 st346 hQ346 hSq346 hgr346
    have Xq346 := own_stand Xq346 l346 y346 z346
    obtain ⟨X346, hS346, hZ346, hown346⟩ := rebS hS320 (by rw [e345]; exact (Nat.le_refl T320.heap.size)) Xq346 hSq346 hgr346 hZ320 hown320
    obtain ⟨rfl, N346q, K346q, Fbytes_346, FberNote_346, Fstart_346, Fposition_346, Fend_346, Fdepth_346⟩ := hQ346
    have N346 := Fr.app N345 N346q
    have F347 := F325.keep K346q (ninS ne321 nin0)
    have F348 := F326.keep K346q
    have F349 := F327.keep K346q (ninS ne323 nin0)
    have F350 := F328.keep K346q (ninS ne322 nin0)
    have F351 := F329.keep K346q (ninS ne322 nin0)
    have F352 := F330.keep K346q (ninS ne322 nin0)
    have F353 := F331.keep K346q (ninS ne322 nin0)
    have F354 := F332.keep K346q (ninS ne322 nin0)
    have F355 := F333.keep K346q (ninS ne322 nin0)
    have F356 := F334.keep K346q
    have F357 := Fbytes_320.keep K346q (ninS ne324 nin0)
    have F358 := FberNote_320.keep K346q (ninS ne324 nin0)
    have F359 := Fstart_320.keep K346q (ninS ne324 nin0)
    have F360 := Fposition_320.keep K346q (ninS ne324 nin0)
    have F361 := Fend_320.keep K346q (ninS ne324 nin0)
    have F362 := Fdepth_320.keep K346q (ninS ne324 nin0)
    have F369 := E320.keep K346q
    have K370 := K341.trans K346q (allS (Or.inr sy320) all0)
    have Zs371 : n0 ≤ T346.heap.size := Nat.le_trans Zs342 K346q.1
    have hk372 := Nat.le_trans (Nat.le_refl T320.heap.size) K346q.1
    rw [show ((((2 : Int32) + (1 : Int32)) + (1 : Int32)) + (0 : Int32).toInt64.toInt32) = (4 : Int32) from by decide +kernel] at Fposition_346
    refine Go.of (fun tg_ kk_ => st346.trans kk_) ?_
    show Go p e below T346 (mkF m 252 #[.val (.int p0), .val (.int p1), .val (.int (1 : Int32)), .val (.ref b174), .val (.int (1 : Int32)), .val (.ref b276), .val (.ref c320)] []) _
    refine Go.of (fun tg_ kk_ => XS.iload X346.here hx rfl (hb hby at_252) rfl kk_) ?_
    show Go p e below T346 (mkF m 254 #[.val (.int p0), .val (.int p1), .val (.int (1 : Int32)), .val (.ref b174), .val (.int (1 : Int32)), .val (.ref b276), .val (.ref c320)] [(.int (1 : Int32))]) _
    refine Go.of (fun tg_ kk_ => XS.ifNo X346.here hx rfl (hb hby at_254) rfl ((if0 _ _).trans (feq (show ¬ ((1 : Int32) = (0 : Int32)) by decide)).1) kk_) ?_
    show Go p e below T346 (mkF m 257 #[.val (.int p0), .val (.int p1), .val (.int (1 : Int32)), .val (.ref b174), .val (.int (1 : Int32)), .val (.ref b276), .val (.ref c320)] []) _
    refine Go.of (fun tg_ kk_ => XS.aload X346.here hx rfl (hb hby at_257) rfl rfl kk_) ?_
    show Go p e below T346 (mkF m 259 #[.val (.int p0), .val (.int p1), .val (.int (1 : Int32)), .val (.ref b174), .val (.int (1 : Int32)), .val (.ref b276), .val (.ref c320)] [(.ref c320)]) _
    obtain ⟨cq373, kq373, q373a, q373b, q373c⟩ := isOf hZ346 rfl F369
    obtain ⟨_, _, ⟨T373, L373, k373, n373⟩, -, X373, ⟨Lc373, hQ373, l373, y373, z373⟩, st373⟩ := X346.virtualBack hx (y := (⟨"com/example/attestry/attestry/DerReader", "hasNext", "()Z"⟩ : MethodName)) (z := (⟨"com/example/attestry/attestry/DerReader", "hasNext", "()Z"⟩ : MethodName)) hown346 (mvT hZ346 (hw _ (List.mem_of_getElem? (i := 34) rfl))) (mvT hZ346 (hw _ (List.mem_of_getElem? (i := 35) rfl))) (notFace_of_selects (args := #[]) (mvT hZ346 (hw _ (List.mem_of_getElem? (i := 37) rfl)))) (mvT hZ346 (hw _ (List.mem_of_getElem? (i := 37) rfl))) (mvT hZ346 (hw _ (List.mem_of_getElem? (i := 36) rfl))) (by decide) (backOf (W := 0) (rm5 l Z a0 hw [] c320 (4 : Int32) (4 : Int32) T346.heap n0 Zs371 Fposition_346 Fend_346) hZ346 (hw _ (List.mem_of_getElem? (i := 38) rfl)) (hw _ (List.mem_of_getElem? (i := 8) rfl)) (by decide) (by decide)) q373a q373c (g := (mkF m 259 #[.val (.int p0), .val (.int p1), .val (.int (1 : Int32)), .val (.ref b174), .val (.int (1 : Int32)), .val (.ref b276), .val (.ref c320)] [(.ref c320)])) rfl (by rw [hml]; rfl) (Steps.refl _) (argsL := []) (rest := []) (lenOf pd_1 rfl) rfl (by show 2 * 0 + _ ≤ _; exact Nat.le_of_eq rfl) (hb hby at_259) (fun _ _ => ⟨rfl, rfl, (show 12 + 0 ≤ 32 from by decide), (show 92 + 0 ≤ 2240 from by decide)⟩)
    dsimp only [Pt.U, Pt.locs, Pt.cells, Pt.slots] at X373 l373 y373 z373 st373 hQ373
    have X373 := own_stand X373 l373 y373 z373
    obtain ⟨hv373, N373q, e373⟩ := hQ373
    rw [if_neg (show ¬ ((4 : Int32) < (4 : Int32)) by decide)] at hv373
    subst hv373
    have N373 := Fr.app N346 N373q
    refine Go.of (fun tg_ kk_ => st373.trans kk_) ?_
    show Go p e below T373 (mkF m 262 #[.val (.int p0), .val (.int p1), .val (.int (1 : Int32)), .val (.ref b174), .val (.int (1 : Int32)), .val (.ref b276), .val (.ref c320)] [(.int (0 : Int32))]) _
    refine Go.of (fun tg_ kk_ => XS.iloadN X373.here hx rfl (hb hby at_262) rfl kk_) ?_
    show Go p e below T373 (mkF m 263 #[.val (.int p0), .val (.int p1), .val (.int (1 : Int32)), .val (.ref b174), .val (.int (1 : Int32)), .val (.ref b276), .val (.ref c320)] [(.int (1 : Int32)), (.int (0 : Int32))]) _
    refine Go.of (fun tg_ kk_ => XS.iconst X373.here hx rfl (hb hby at_263) kk_) ?_
    show Go p e below T373 (mkF m 264 #[.val (.int p0), .val (.int p1), .val (.int (1 : Int32)), .val (.ref b174), .val (.int (1 : Int32)), .val (.ref b276), .val (.ref c320)] [(.int (1 : Int32)), (.int (1 : Int32)), (.int (0 : Int32))]) _
    refine Go.of (fun tg_ kk_ => XS.icmpYes X373.here hx rfl (pc0 := 264) (pc' := 271) rfl (hb hby at_264) rfl (flt (show ¬ ((1 : Int32) < (1 : Int32)) by decide)).2.2.2 (by decide) (by decide) kk_) ?_
    show Go p e below T373 (mkF m 271 #[.val (.int p0), .val (.int p1), .val (.int (1 : Int32)), .val (.ref b174), .val (.int (1 : Int32)), .val (.ref b276), .val (.ref c320)] [(.int (0 : Int32))]) _
    refine Go.of (fun tg_ kk_ => XS.iconst X373.here hx rfl (hb hby at_271) kk_) ?_
    show Go p e below T373 (mkF m 272 #[.val (.int p0), .val (.int p1), .val (.int (1 : Int32)), .val (.ref b174), .val (.int (1 : Int32)), .val (.ref b276), .val (.ref c320)] [(.int (0 : Int32)), (.int (0 : Int32))]) _
    refine Go.of (fun tg_ kk_ => XS.icmpNo X373.here hx rfl (hb hby at_272) rfl (teq (show (0 : Int32) = (0 : Int32) by decide)).2 kk_) ?_
    show Go p e below T373 (mkF m 275 #[.val (.int p0), .val (.int p1), .val (.int (1 : Int32)), .val (.ref b174), .val (.int (1 : Int32)), .val (.ref b276), .val (.ref c320)] []) _
    refine Go.of (fun tg_ kk_ => XS.iconst X373.here hx rfl (hb hby at_275) kk_) ?_
    show Go p e below T373 (mkF m 276 #[.val (.int p0), .val (.int p1), .val (.int (1 : Int32)), .val (.ref b174), .val (.int (1 : Int32)), .val (.ref b276), .val (.ref c320)] [(.int (1 : Int32))]) _
    refine Go.of (fun tg_ kk_ => XS.goto X373.here hx rfl (pc0 := 276) (pc' := 280) rfl (hb hby at_276) (by decide) (by decide) kk_) ?_
    show Go p e below T373 (mkF m 280 #[.val (.int p0), .val (.int p1), .val (.int (1 : Int32)), .val (.ref b174), .val (.int (1 : Int32)), .val (.ref b276), .val (.ref c320)] [(.int (1 : Int32))]) _
    refine Go.of (fun tg_ kk_ => XS.istore X373.here hx rfl (hb hby at_280) rfl (l' := #[.val (.int p0), .val (.int p1), .val (.int (1 : Int32)), .val (.ref b174), .val (.int (1 : Int32)), .val (.ref b276), .val (.ref c320)]) rfl kk_) ?_
    show Go p e below T373 (mkF m 282 #[.val (.int p0), .val (.int p1), .val (.int (1 : Int32)), .val (.ref b174), .val (.int (1 : Int32)), .val (.ref b276), .val (.ref c320)] []) _
    refine Go.of (fun tg_ kk_ => XS.iload X373.here hx rfl (hb hby at_282) rfl kk_) ?_
    show Go p e below T373 (mkF m 284 #[.val (.int p0), .val (.int p1), .val (.int (1 : Int32)), .val (.ref b174), .val (.int (1 : Int32)), .val (.ref b276), .val (.ref c320)] [(.int (1 : Int32))]) _
    obtain ⟨fs, hr, hrun, hended, hend⟩ := X373.leaveW hS346 (by rw [e373]; exact (Nat.le_refl T346.heap.size)) (v := some (.int (1 : Int32))) (fun h => by rw [Bd.returns] at h; cases h)
    refine ⟨_, _, ?_, hrun, hended, _, _, rfl, ?_, hend.1, hend.2.1, hend.2.2.1, hend.2.2.2.mono (by decide) (by decide)⟩
    · exact retN X373 hx (t := .boolean) Bd.returns (by simp) (hb hby at_284) hr
    · show Q0 Z p0 p1 h0 n0 _ T373.heap _
      rw [e373]
      exact ⟨rfl, N373⟩
  · subst hs1
    show Go p e below s₁ (mkF m 6 #[.val (.int p0), .val (.int p1), .unset, .unset, .unset, .unset, .unset] [(.int (2 : Int32))]) _
    refine Go.of (fun tg_ kk_ => XS.istoreN X0.here hx rfl (hb hby at_6) rfl (l' := #[.val (.int p0), .val (.int p1), .val (.int (2 : Int32)), .unset, .unset, .unset, .unset]) rfl kk_) ?_
    show Go p e below s₁ (mkF m 7 #[.val (.int p0), .val (.int p1), .val (.int (2 : Int32)), .unset, .unset, .unset, .unset] []) _
    refine Go.of (fun tg_ kk_ => XS.bipush X0.here hx rfl (hb hby at_7) kk_) ?_
    show Go p e below s₁ (mkF m 9 #[.val (.int p0), .val (.int p1), .val (.int (2 : Int32)), .unset, .unset, .unset, .unset] [(.int (10 : Int32))]) _
    obtain ⟨T374, h374, k374, X374, e374, E374, A374, st374⟩ := newP X0 hx hZ (hw _ (List.mem_of_getElem? (i := 1) rfl)) e0 (g := (mkF m 9 #[.val (.int p0), .val (.int p1), .val (.int (2 : Int32)), .unset, .unset, .unset, .unset] [(.int (10 : Int32))])) rfl (hb hby at_9) rfl (by decide) (cap := 10) (by decide) (by decide) (by decide) (by decide)
    obtain ⟨b374, g374⟩ : ∃ zz_, zz_ = h0.size := ⟨_, rfl⟩
    rw [← g374] at A374 st374
    have gx374 : n0 ≤ b374 := Nat.le_trans Z0 (Nat.le_of_eq g374.symm)
    have sz374 : h0.size ≤ b374 := Nat.le_trans K0.1 (Nat.le_of_eq g374.symm)
    have K375 := K0.ext E374
    have Zs376 : n0 ≤ h374.size := Nat.le_trans Z0 E374.1
    have hk377 := Nat.le_trans hk0 E374.1
    have V374 : Af Z h374 b374 .byte 10 (fun _ => 0) := Af.new rfl A374 (by decide)
    refine Go.of (st374) ?_
    show Go p e below T374 (mkF m 11 #[.val (.int p0), .val (.int p1), .val (.int (2 : Int32)), .unset, .unset, .unset, .unset] [(.ref b374)]) _
    refine Go.of (fun tg_ kk_ => XS.astoreN X374.here hx rfl (hb hby at_11) rfl rfl (l' := #[.val (.int p0), .val (.int p1), .val (.int (2 : Int32)), .val (.ref b374), .unset, .unset, .unset]) rfl kk_) ?_
    show Go p e below T374 (mkF m 12 #[.val (.int p0), .val (.int p1), .val (.int (2 : Int32)), .val (.ref b374), .unset, .unset, .unset] []) _
    refine Go.of (fun tg_ kk_ => XS.aloadN X374.here hx rfl (hb hby at_12) rfl rfl kk_) ?_
    show Go p e below T374 (mkF m 13 #[.val (.int p0), .val (.int p1), .val (.int (2 : Int32)), .val (.ref b374), .unset, .unset, .unset] [(.ref b374)]) _
    refine Go.of (fun tg_ kk_ => XS.iconst X374.here hx rfl (hb hby at_13) kk_) ?_
    show Go p e below T374 (mkF m 14 #[.val (.int p0), .val (.int p1), .val (.int (2 : Int32)), .val (.ref b374), .unset, .unset, .unset] [(.int (0 : Int32)), (.ref b374)]) _
    refine Go.of (fun tg_ kk_ => XS.bipush X374.here hx rfl (hb hby at_14) kk_) ?_
    show Go p e below T374 (mkF m 16 #[.val (.int p0), .val (.int p1), .val (.int (2 : Int32)), .val (.ref b374), .unset, .unset, .unset] [(.int (48 : Int32)), (.int (0 : Int32)), (.ref b374)]) _
    have ib378 := (show ¬ ((0 : Int32) < 0) ∧ ((0 : Int32)).toNatClampNeg < 10 from ⟨by decide, by decide⟩)
    obtain ⟨cl378, Ar378, S378, H378⟩ := id V374
    obtain ⟨T378, h378, X378, e378, W378, st378⟩ := stB X374 hx hZ e374 Ar378 (j := (0 : Int32)) (Af.inb S378 ib378) (g := (mkF m 16 #[.val (.int p0), .val (.int p1), .val (.int (2 : Int32)), .val (.ref b374), .unset, .unset, .unset] [(.int (48 : Int32)), (.int (0 : Int32)), (.ref b374)])) rfl rfl (hb hby at_16)
    obtain ⟨f378, qf378⟩ : ∃ qq_ : Nat → Int32, qq_ = upd (fun _ => 0) 0 (48 : Int32) := ⟨_, rfl⟩
    have V378 : Af Z h378 b374 .byte 10 f378 := by rw [qf378]; exact Af.set Ar378 S378 H378 W378 (by decide)
    have K380 := K375.wr W378 (Or.inr sz374)
    have Zs381 : n0 ≤ h378.size := Nat.le_trans Zs376 (Keep.of_wr W378).1
    have hk382 := Nat.le_trans hk377 (Keep.of_wr W378).1
    have N378 := Fr.snoc X378 N0 gx374
    refine Go.of (st378) ?_
    show Go p e below T378 (mkF m 17 #[.val (.int p0), .val (.int p1), .val (.int (2 : Int32)), .val (.ref b374), .unset, .unset, .unset] []) _
    refine Go.of (fun tg_ kk_ => XS.aloadN X378.here hx rfl (hb hby at_17) rfl rfl kk_) ?_
    show Go p e below T378 (mkF m 18 #[.val (.int p0), .val (.int p1), .val (.int (2 : Int32)), .val (.ref b374), .unset, .unset, .unset] [(.ref b374)]) _
    refine Go.of (fun tg_ kk_ => XS.iconst X378.here hx rfl (hb hby at_18) kk_) ?_
    show Go p e below T378 (mkF m 19 #[.val (.int p0), .val (.int p1), .val (.int (2 : Int32)), .val (.ref b374), .unset, .unset, .unset] [(.int (1 : Int32)), (.ref b374)]) _
    refine Go.of (fun tg_ kk_ => XS.iconst X378.here hx rfl (hb hby at_19) kk_) ?_
    show Go p e below T378 (mkF m 20 #[.val (.int p0), .val (.int p1), .val (.int (2 : Int32)), .val (.ref b374), .unset, .unset, .unset] [(.int (2 : Int32)), (.int (1 : Int32)), (.ref b374)]) _
    refine Go.of (fun tg_ kk_ => XS.iloadN X378.here hx rfl (hb hby at_20) rfl kk_) ?_
    show Go p e below T378 (mkF m 21 #[.val (.int p0), .val (.int p1), .val (.int (2 : Int32)), .val (.ref b374), .unset, .unset, .unset] [(.int (2 : Int32)), (.int (2 : Int32)), (.int (1 : Int32)), (.ref b374)]) _
    refine Go.of (fun tg_ kk_ => XS.imul X378.here hx rfl (hb hby at_21) rfl kk_) ?_
    show Go p e below T378 (mkF m 22 #[.val (.int p0), .val (.int p1), .val (.int (2 : Int32)), .val (.ref b374), .unset, .unset, .unset] [(.int ((2 : Int32) * (2 : Int32))), (.int (1 : Int32)), (.ref b374)]) _
    rw [show ((2 : Int32) * (2 : Int32)) = (4 : Int32) from by decide]
    show Go p e below T378 (mkF m 22 #[.val (.int p0), .val (.int p1), .val (.int (2 : Int32)), .val (.ref b374), .unset, .unset, .unset] [(.int (4 : Int32)), (.int (1 : Int32)), (.ref b374)]) _
    refine Go.of (fun tg_ kk_ => XS.i2b X378.here hx rfl (hb hby at_22) rfl kk_) ?_
    show Go p e below T378 (mkF m 23 #[.val (.int p0), .val (.int p1), .val (.int (2 : Int32)), .val (.ref b374), .unset, .unset, .unset] [(.int ((4 : Int32).toInt8.toInt32)), (.int (1 : Int32)), (.ref b374)]) _
    rw [show ((4 : Int32).toInt8.toInt32) = (4 : Int32) from by decide]
    show Go p e below T378 (mkF m 23 #[.val (.int p0), .val (.int p1), .val (.int (2 : Int32)), .val (.ref b374), .unset, .unset, .unset] [(.int (4 : Int32)), (.int (1 : Int32)), (.ref b374)]) _
    have ib383 := (show ¬ ((1 : Int32) < 0) ∧ ((1 : Int32)).toNatClampNeg < 10 from ⟨by decide, by decide⟩)
    obtain ⟨cl383, Ar383, S383, H383⟩ := id V378
    obtain ⟨T383, h383, X383, e383, W383, st383⟩ := stB X378 hx hZ e378 Ar383 (j := (1 : Int32)) (Af.inb S383 ib383) (g := (mkF m 23 #[.val (.int p0), .val (.int p1), .val (.int (2 : Int32)), .val (.ref b374), .unset, .unset, .unset] [(.int (4 : Int32)), (.int (1 : Int32)), (.ref b374)])) rfl rfl (hb hby at_23)
    obtain ⟨f383, qf383⟩ : ∃ qq_ : Nat → Int32, qq_ = upd f378 1 (4 : Int32) := ⟨_, rfl⟩
    have V383 : Af Z h383 b374 .byte 10 f383 := by rw [qf383]; exact Af.set Ar383 S383 H383 W383 (by decide)
    have K385 := K380.wr W383 (Or.inr sz374)
    have Zs386 : n0 ≤ h383.size := Nat.le_trans Zs381 (Keep.of_wr W383).1
    have hk387 := Nat.le_trans hk382 (Keep.of_wr W383).1
    have N383 := Fr.snoc X383 N378 gx374
    refine Go.of (st383) ?_
    show Go p e below T383 (mkF m 24 #[.val (.int p0), .val (.int p1), .val (.int (2 : Int32)), .val (.ref b374), .unset, .unset, .unset] []) _
    refine Go.of (fun tg_ kk_ => XS.aloadN X383.here hx rfl (hb hby at_24) rfl rfl kk_) ?_
    show Go p e below T383 (mkF m 25 #[.val (.int p0), .val (.int p1), .val (.int (2 : Int32)), .val (.ref b374), .unset, .unset, .unset] [(.ref b374)]) _
    refine Go.of (fun tg_ kk_ => XS.iconst X383.here hx rfl (hb hby at_25) kk_) ?_
    show Go p e below T383 (mkF m 26 #[.val (.int p0), .val (.int p1), .val (.int (2 : Int32)), .val (.ref b374), .unset, .unset, .unset] [(.int (2 : Int32)), (.ref b374)]) _
    refine Go.of (fun tg_ kk_ => XS.iconst X383.here hx rfl (hb hby at_26) kk_) ?_
    show Go p e below T383 (mkF m 27 #[.val (.int p0), .val (.int p1), .val (.int (2 : Int32)), .val (.ref b374), .unset, .unset, .unset] [(.int (2 : Int32)), (.int (2 : Int32)), (.ref b374)]) _
    refine Go.of (fun tg_ kk_ => XS.iloadN X383.here hx rfl (hb hby at_27) rfl kk_) ?_
    show Go p e below T383 (mkF m 28 #[.val (.int p0), .val (.int p1), .val (.int (2 : Int32)), .val (.ref b374), .unset, .unset, .unset] [(.int (2 : Int32)), (.int (2 : Int32)), (.int (2 : Int32)), (.ref b374)]) _
    refine Go.of (fun tg_ kk_ => XS.iloadN X383.here hx rfl (hb hby at_28) rfl kk_) ?_
    show Go p e below T383 (mkF m 29 #[.val (.int p0), .val (.int p1), .val (.int (2 : Int32)), .val (.ref b374), .unset, .unset, .unset] [(.int p1), (.int (2 : Int32)), (.int (2 : Int32)), (.int (2 : Int32)), (.ref b374)]) _
    obtain ⟨_, _, ⟨T388, L388, k388, n388⟩, -, X388, ⟨Lc388, hQ388, l388, y388, z388⟩, st388⟩ := Jvm.LawKit.callS X383 hx (y := (⟨"com/example/attestry/attestry/DerReaderHasNextPinLaw", "slot", "(III)B"⟩ : MethodName)) hown (mvT hZ (hw _ (List.mem_of_getElem? (i := 2) rfl))) (mvT hZ (hw _ (List.mem_of_getElem? (i := 3) rfl))) (mvT hZ (hw _ (List.mem_of_getElem? (i := 4) rfl))) (mvT hZ (hw _ (List.mem_of_getElem? (i := 5) rfl))) (by decide) (backOf (W := 2) (rm1 l Z a0 hw [] (2 : Int32) (2 : Int32) p1 h383 n0 Zs386) hZ (hw _ (List.mem_of_getElem? (i := 5) rfl)) (hw _ (List.mem_of_getElem? (i := 4) rfl)) (by decide) (by decide)) (g := (mkF m 29 #[.val (.int p0), .val (.int p1), .val (.int (2 : Int32)), .val (.ref b374), .unset, .unset, .unset] [(.int p1), (.int (2 : Int32)), (.int (2 : Int32)), (.int (2 : Int32)), (.ref b374)])) rfl (by rw [hml]; rfl) (argsL := [(.int (2 : Int32)), (.int (2 : Int32)), (.int p1)]) (rest := [(.int (2 : Int32)), (.ref b374)]) (lenOf pd_8 rfl) rfl (by show 2 * 0 + _ ≤ _; exact Nat.le_of_eq rfl) (hb hby at_29) (fun _ _ => ⟨rfl, e383, (show 1 + 0 ≤ 32 from by decide), (show 10 + 0 ≤ 2240 from by decide)⟩)
    dsimp only [Pt.U, Pt.locs, Pt.cells, Pt.slots] at X388 l388 y388 z388 st388 hQ388
    have X388 := own_stand X388 l388 y388 z388
    obtain ⟨hv388, N388q, e388⟩ := hQ388
    rw [show slotF (2 : Int32) (2 : Int32) p1 = (5 : Int32) from by rw [slotF, if_pos (by decide), if_pos (by decide)]] at hv388
    subst hv388
    have N388 := Fr.app N383 N388q
    refine Go.of (st388) ?_
    show Go p e below T388 (mkF m 32 #[.val (.int p0), .val (.int p1), .val (.int (2 : Int32)), .val (.ref b374), .unset, .unset, .unset] [(.int (5 : Int32)), (.int (2 : Int32)), (.ref b374)]) _
    have ib389 := (show ¬ ((2 : Int32) < 0) ∧ ((2 : Int32)).toNatClampNeg < 10 from ⟨by decide, by decide⟩)
    obtain ⟨cl389, Ar389, S389, H389⟩ := id V383
    obtain ⟨T389, h389, X389, e389, W389, st389⟩ := stB X388 hx hZ e388 Ar389 (j := (2 : Int32)) (Af.inb S389 ib389) (g := (mkF m 32 #[.val (.int p0), .val (.int p1), .val (.int (2 : Int32)), .val (.ref b374), .unset, .unset, .unset] [(.int (5 : Int32)), (.int (2 : Int32)), (.ref b374)])) rfl rfl (hb hby at_32)
    obtain ⟨f389, qf389⟩ : ∃ qq_ : Nat → Int32, qq_ = upd f383 2 (5 : Int32) := ⟨_, rfl⟩
    have V389 : Af Z h389 b374 .byte 10 f389 := by rw [qf389]; exact Af.set Ar389 S389 H389 W389 (by decide)
    have K391 := K385.wr W389 (Or.inr sz374)
    have Zs392 : n0 ≤ h389.size := Nat.le_trans Zs386 (Keep.of_wr W389).1
    have hk393 := Nat.le_trans hk387 (Keep.of_wr W389).1
    have N389 := Fr.snoc X389 N388 gx374
    refine Go.of (st389) ?_
    show Go p e below T389 (mkF m 33 #[.val (.int p0), .val (.int p1), .val (.int (2 : Int32)), .val (.ref b374), .unset, .unset, .unset] []) _
    refine Go.of (fun tg_ kk_ => XS.aloadN X389.here hx rfl (hb hby at_33) rfl rfl kk_) ?_
    show Go p e below T389 (mkF m 34 #[.val (.int p0), .val (.int p1), .val (.int (2 : Int32)), .val (.ref b374), .unset, .unset, .unset] [(.ref b374)]) _
    refine Go.of (fun tg_ kk_ => XS.iconst X389.here hx rfl (hb hby at_34) kk_) ?_
    show Go p e below T389 (mkF m 35 #[.val (.int p0), .val (.int p1), .val (.int (2 : Int32)), .val (.ref b374), .unset, .unset, .unset] [(.int (3 : Int32)), (.ref b374)]) _
    refine Go.of (fun tg_ kk_ => XS.iconst X389.here hx rfl (hb hby at_35) kk_) ?_
    show Go p e below T389 (mkF m 36 #[.val (.int p0), .val (.int p1), .val (.int (2 : Int32)), .val (.ref b374), .unset, .unset, .unset] [(.int (3 : Int32)), (.int (3 : Int32)), (.ref b374)]) _
    refine Go.of (fun tg_ kk_ => XS.iloadN X389.here hx rfl (hb hby at_36) rfl kk_) ?_
    show Go p e below T389 (mkF m 37 #[.val (.int p0), .val (.int p1), .val (.int (2 : Int32)), .val (.ref b374), .unset, .unset, .unset] [(.int (2 : Int32)), (.int (3 : Int32)), (.int (3 : Int32)), (.ref b374)]) _
    refine Go.of (fun tg_ kk_ => XS.iloadN X389.here hx rfl (hb hby at_37) rfl kk_) ?_
    show Go p e below T389 (mkF m 38 #[.val (.int p0), .val (.int p1), .val (.int (2 : Int32)), .val (.ref b374), .unset, .unset, .unset] [(.int p1), (.int (2 : Int32)), (.int (3 : Int32)), (.int (3 : Int32)), (.ref b374)]) _
    obtain ⟨_, _, ⟨T394, L394, k394, n394⟩, -, X394, ⟨Lc394, hQ394, l394, y394, z394⟩, st394⟩ := Jvm.LawKit.callS X389 hx (y := (⟨"com/example/attestry/attestry/DerReaderHasNextPinLaw", "slot", "(III)B"⟩ : MethodName)) hown (mvT hZ (hw _ (List.mem_of_getElem? (i := 2) rfl))) (mvT hZ (hw _ (List.mem_of_getElem? (i := 3) rfl))) (mvT hZ (hw _ (List.mem_of_getElem? (i := 4) rfl))) (mvT hZ (hw _ (List.mem_of_getElem? (i := 5) rfl))) (by decide) (backOf (W := 2) (rm1 l Z a0 hw [] (3 : Int32) (2 : Int32) p1 h389 n0 Zs392) hZ (hw _ (List.mem_of_getElem? (i := 5) rfl)) (hw _ (List.mem_of_getElem? (i := 4) rfl)) (by decide) (by decide)) (g := (mkF m 38 #[.val (.int p0), .val (.int p1), .val (.int (2 : Int32)), .val (.ref b374), .unset, .unset, .unset] [(.int p1), (.int (2 : Int32)), (.int (3 : Int32)), (.int (3 : Int32)), (.ref b374)])) rfl (by rw [hml]; rfl) (argsL := [(.int (3 : Int32)), (.int (2 : Int32)), (.int p1)]) (rest := [(.int (3 : Int32)), (.ref b374)]) (lenOf pd_8 rfl) rfl (by show 2 * 0 + _ ≤ _; exact Nat.le_of_eq rfl) (hb hby at_38) (fun _ _ => ⟨rfl, e389, (show 1 + 0 ≤ 32 from by decide), (show 10 + 0 ≤ 2240 from by decide)⟩)
    dsimp only [Pt.U, Pt.locs, Pt.cells, Pt.slots] at X394 l394 y394 z394 st394 hQ394
    have X394 := own_stand X394 l394 y394 z394
    obtain ⟨hv394, N394q, e394⟩ := hQ394
    rw [show slotF (3 : Int32) (2 : Int32) p1 = (0 : Int32) from by rw [slotF, if_pos (by decide), if_neg (by decide)]] at hv394
    subst hv394
    have N394 := Fr.app N389 N394q
    refine Go.of (st394) ?_
    show Go p e below T394 (mkF m 41 #[.val (.int p0), .val (.int p1), .val (.int (2 : Int32)), .val (.ref b374), .unset, .unset, .unset] [(.int (0 : Int32)), (.int (3 : Int32)), (.ref b374)]) _
    have ib395 := (show ¬ ((3 : Int32) < 0) ∧ ((3 : Int32)).toNatClampNeg < 10 from ⟨by decide, by decide⟩)
    obtain ⟨cl395, Ar395, S395, H395⟩ := id V389
    obtain ⟨T395, h395, X395, e395, W395, st395⟩ := stB X394 hx hZ e394 Ar395 (j := (3 : Int32)) (Af.inb S395 ib395) (g := (mkF m 41 #[.val (.int p0), .val (.int p1), .val (.int (2 : Int32)), .val (.ref b374), .unset, .unset, .unset] [(.int (0 : Int32)), (.int (3 : Int32)), (.ref b374)])) rfl rfl (hb hby at_41)
    obtain ⟨f395, qf395⟩ : ∃ qq_ : Nat → Int32, qq_ = upd f389 3 (0 : Int32) := ⟨_, rfl⟩
    have V395 : Af Z h395 b374 .byte 10 f395 := by rw [qf395]; exact Af.set Ar395 S395 H395 W395 (by decide)
    have K397 := K391.wr W395 (Or.inr sz374)
    have Zs398 : n0 ≤ h395.size := Nat.le_trans Zs392 (Keep.of_wr W395).1
    have hk399 := Nat.le_trans hk393 (Keep.of_wr W395).1
    have N395 := Fr.snoc X395 N394 gx374
    refine Go.of (st395) ?_
    show Go p e below T395 (mkF m 42 #[.val (.int p0), .val (.int p1), .val (.int (2 : Int32)), .val (.ref b374), .unset, .unset, .unset] []) _
    refine Go.of (fun tg_ kk_ => XS.aloadN X395.here hx rfl (hb hby at_42) rfl rfl kk_) ?_
    show Go p e below T395 (mkF m 43 #[.val (.int p0), .val (.int p1), .val (.int (2 : Int32)), .val (.ref b374), .unset, .unset, .unset] [(.ref b374)]) _
    refine Go.of (fun tg_ kk_ => XS.iconst X395.here hx rfl (hb hby at_43) kk_) ?_
    show Go p e below T395 (mkF m 44 #[.val (.int p0), .val (.int p1), .val (.int (2 : Int32)), .val (.ref b374), .unset, .unset, .unset] [(.int (4 : Int32)), (.ref b374)]) _
    refine Go.of (fun tg_ kk_ => XS.iconst X395.here hx rfl (hb hby at_44) kk_) ?_
    show Go p e below T395 (mkF m 45 #[.val (.int p0), .val (.int p1), .val (.int (2 : Int32)), .val (.ref b374), .unset, .unset, .unset] [(.int (4 : Int32)), (.int (4 : Int32)), (.ref b374)]) _
    refine Go.of (fun tg_ kk_ => XS.iloadN X395.here hx rfl (hb hby at_45) rfl kk_) ?_
    show Go p e below T395 (mkF m 46 #[.val (.int p0), .val (.int p1), .val (.int (2 : Int32)), .val (.ref b374), .unset, .unset, .unset] [(.int (2 : Int32)), (.int (4 : Int32)), (.int (4 : Int32)), (.ref b374)]) _
    refine Go.of (fun tg_ kk_ => XS.iloadN X395.here hx rfl (hb hby at_46) rfl kk_) ?_
    show Go p e below T395 (mkF m 47 #[.val (.int p0), .val (.int p1), .val (.int (2 : Int32)), .val (.ref b374), .unset, .unset, .unset] [(.int p1), (.int (2 : Int32)), (.int (4 : Int32)), (.int (4 : Int32)), (.ref b374)]) _
    obtain ⟨_, _, ⟨T400, L400, k400, n400⟩, -, X400, ⟨Lc400, hQ400, l400, y400, z400⟩, st400⟩ := Jvm.LawKit.callS X395 hx (y := (⟨"com/example/attestry/attestry/DerReaderHasNextPinLaw", "slot", "(III)B"⟩ : MethodName)) hown (mvT hZ (hw _ (List.mem_of_getElem? (i := 2) rfl))) (mvT hZ (hw _ (List.mem_of_getElem? (i := 3) rfl))) (mvT hZ (hw _ (List.mem_of_getElem? (i := 4) rfl))) (mvT hZ (hw _ (List.mem_of_getElem? (i := 5) rfl))) (by decide) (backOf (W := 2) (rm1 l Z a0 hw [] (4 : Int32) (2 : Int32) p1 h395 n0 Zs398) hZ (hw _ (List.mem_of_getElem? (i := 5) rfl)) (hw _ (List.mem_of_getElem? (i := 4) rfl)) (by decide) (by decide)) (g := (mkF m 47 #[.val (.int p0), .val (.int p1), .val (.int (2 : Int32)), .val (.ref b374), .unset, .unset, .unset] [(.int p1), (.int (2 : Int32)), (.int (4 : Int32)), (.int (4 : Int32)), (.ref b374)])) rfl (by rw [hml]; rfl) (argsL := [(.int (4 : Int32)), (.int (2 : Int32)), (.int p1)]) (rest := [(.int (4 : Int32)), (.ref b374)]) (lenOf pd_8 rfl) rfl (by show 2 * 0 + _ ≤ _; exact Nat.le_of_eq rfl) (hb hby at_47) (fun _ _ => ⟨rfl, e395, (show 1 + 0 ≤ 32 from by decide), (show 10 + 0 ≤ 2240 from by decide)⟩)
    dsimp only [Pt.U, Pt.locs, Pt.cells, Pt.slots] at X400 l400 y400 z400 st400 hQ400
    have X400 := own_stand X400 l400 y400 z400
    obtain ⟨hv400, N400q, e400⟩ := hQ400
    rw [show slotF (4 : Int32) (2 : Int32) p1 = (5 : Int32) from by rw [slotF, if_pos (by decide), if_pos (by decide)]] at hv400
    subst hv400
    have N400 := Fr.app N395 N400q
    refine Go.of (st400) ?_
    show Go p e below T400 (mkF m 50 #[.val (.int p0), .val (.int p1), .val (.int (2 : Int32)), .val (.ref b374), .unset, .unset, .unset] [(.int (5 : Int32)), (.int (4 : Int32)), (.ref b374)]) _
    have ib401 := (show ¬ ((4 : Int32) < 0) ∧ ((4 : Int32)).toNatClampNeg < 10 from ⟨by decide, by decide⟩)
    obtain ⟨cl401, Ar401, S401, H401⟩ := id V395
    obtain ⟨T401, h401, X401, e401, W401, st401⟩ := stB X400 hx hZ e400 Ar401 (j := (4 : Int32)) (Af.inb S401 ib401) (g := (mkF m 50 #[.val (.int p0), .val (.int p1), .val (.int (2 : Int32)), .val (.ref b374), .unset, .unset, .unset] [(.int (5 : Int32)), (.int (4 : Int32)), (.ref b374)])) rfl rfl (hb hby at_50)
    obtain ⟨f401, qf401⟩ : ∃ qq_ : Nat → Int32, qq_ = upd f395 4 (5 : Int32) := ⟨_, rfl⟩
    have V401 : Af Z h401 b374 .byte 10 f401 := by rw [qf401]; exact Af.set Ar401 S401 H401 W401 (by decide)
    have K403 := K397.wr W401 (Or.inr sz374)
    have Zs404 : n0 ≤ h401.size := Nat.le_trans Zs398 (Keep.of_wr W401).1
    have hk405 := Nat.le_trans hk399 (Keep.of_wr W401).1
    have N401 := Fr.snoc X401 N400 gx374
    refine Go.of (st401) ?_
    show Go p e below T401 (mkF m 51 #[.val (.int p0), .val (.int p1), .val (.int (2 : Int32)), .val (.ref b374), .unset, .unset, .unset] []) _
    refine Go.of (fun tg_ kk_ => XS.aloadN X401.here hx rfl (hb hby at_51) rfl rfl kk_) ?_
    show Go p e below T401 (mkF m 52 #[.val (.int p0), .val (.int p1), .val (.int (2 : Int32)), .val (.ref b374), .unset, .unset, .unset] [(.ref b374)]) _
    refine Go.of (fun tg_ kk_ => XS.iconst X401.here hx rfl (hb hby at_52) kk_) ?_
    show Go p e below T401 (mkF m 53 #[.val (.int p0), .val (.int p1), .val (.int (2 : Int32)), .val (.ref b374), .unset, .unset, .unset] [(.int (5 : Int32)), (.ref b374)]) _
    refine Go.of (fun tg_ kk_ => XS.iconst X401.here hx rfl (hb hby at_53) kk_) ?_
    show Go p e below T401 (mkF m 54 #[.val (.int p0), .val (.int p1), .val (.int (2 : Int32)), .val (.ref b374), .unset, .unset, .unset] [(.int (5 : Int32)), (.int (5 : Int32)), (.ref b374)]) _
    refine Go.of (fun tg_ kk_ => XS.iloadN X401.here hx rfl (hb hby at_54) rfl kk_) ?_
    show Go p e below T401 (mkF m 55 #[.val (.int p0), .val (.int p1), .val (.int (2 : Int32)), .val (.ref b374), .unset, .unset, .unset] [(.int (2 : Int32)), (.int (5 : Int32)), (.int (5 : Int32)), (.ref b374)]) _
    refine Go.of (fun tg_ kk_ => XS.iloadN X401.here hx rfl (hb hby at_55) rfl kk_) ?_
    show Go p e below T401 (mkF m 56 #[.val (.int p0), .val (.int p1), .val (.int (2 : Int32)), .val (.ref b374), .unset, .unset, .unset] [(.int p1), (.int (2 : Int32)), (.int (5 : Int32)), (.int (5 : Int32)), (.ref b374)]) _
    obtain ⟨_, _, ⟨T406, L406, k406, n406⟩, -, X406, ⟨Lc406, hQ406, l406, y406, z406⟩, st406⟩ := Jvm.LawKit.callS X401 hx (y := (⟨"com/example/attestry/attestry/DerReaderHasNextPinLaw", "slot", "(III)B"⟩ : MethodName)) hown (mvT hZ (hw _ (List.mem_of_getElem? (i := 2) rfl))) (mvT hZ (hw _ (List.mem_of_getElem? (i := 3) rfl))) (mvT hZ (hw _ (List.mem_of_getElem? (i := 4) rfl))) (mvT hZ (hw _ (List.mem_of_getElem? (i := 5) rfl))) (by decide) (backOf (W := 2) (rm1 l Z a0 hw [] (5 : Int32) (2 : Int32) p1 h401 n0 Zs404) hZ (hw _ (List.mem_of_getElem? (i := 5) rfl)) (hw _ (List.mem_of_getElem? (i := 4) rfl)) (by decide) (by decide)) (g := (mkF m 56 #[.val (.int p0), .val (.int p1), .val (.int (2 : Int32)), .val (.ref b374), .unset, .unset, .unset] [(.int p1), (.int (2 : Int32)), (.int (5 : Int32)), (.int (5 : Int32)), (.ref b374)])) rfl (by rw [hml]; rfl) (argsL := [(.int (5 : Int32)), (.int (2 : Int32)), (.int p1)]) (rest := [(.int (5 : Int32)), (.ref b374)]) (lenOf pd_8 rfl) rfl (by show 2 * 0 + _ ≤ _; exact Nat.le_of_eq rfl) (hb hby at_56) (fun _ _ => ⟨rfl, e401, (show 1 + 0 ≤ 32 from by decide), (show 10 + 0 ≤ 2240 from by decide)⟩)
    dsimp only [Pt.U, Pt.locs, Pt.cells, Pt.slots] at X406 l406 y406 z406 st406 hQ406
    have X406 := own_stand X406 l406 y406 z406
    obtain ⟨hv406, N406q, e406⟩ := hQ406
    rw [show slotF (5 : Int32) (2 : Int32) p1 = (0 : Int32) from by rw [slotF, if_pos (by decide), if_neg (by decide)]] at hv406
    subst hv406
    have N406 := Fr.app N401 N406q
    refine Go.of (st406) ?_
    show Go p e below T406 (mkF m 59 #[.val (.int p0), .val (.int p1), .val (.int (2 : Int32)), .val (.ref b374), .unset, .unset, .unset] [(.int (0 : Int32)), (.int (5 : Int32)), (.ref b374)]) _
    have ib407 := (show ¬ ((5 : Int32) < 0) ∧ ((5 : Int32)).toNatClampNeg < 10 from ⟨by decide, by decide⟩)
    obtain ⟨cl407, Ar407, S407, H407⟩ := id V401
    obtain ⟨T407, h407, X407, e407, W407, st407⟩ := stB X406 hx hZ e406 Ar407 (j := (5 : Int32)) (Af.inb S407 ib407) (g := (mkF m 59 #[.val (.int p0), .val (.int p1), .val (.int (2 : Int32)), .val (.ref b374), .unset, .unset, .unset] [(.int (0 : Int32)), (.int (5 : Int32)), (.ref b374)])) rfl rfl (hb hby at_59)
    obtain ⟨f407, qf407⟩ : ∃ qq_ : Nat → Int32, qq_ = upd f401 5 (0 : Int32) := ⟨_, rfl⟩
    have V407 : Af Z h407 b374 .byte 10 f407 := by rw [qf407]; exact Af.set Ar407 S407 H407 W407 (by decide)
    have K409 := K403.wr W407 (Or.inr sz374)
    have Zs410 : n0 ≤ h407.size := Nat.le_trans Zs404 (Keep.of_wr W407).1
    have hk411 := Nat.le_trans hk405 (Keep.of_wr W407).1
    have N407 := Fr.snoc X407 N406 gx374
    refine Go.of (st407) ?_
    show Go p e below T407 (mkF m 60 #[.val (.int p0), .val (.int p1), .val (.int (2 : Int32)), .val (.ref b374), .unset, .unset, .unset] []) _
    refine Go.of (fun tg_ kk_ => XS.aloadN X407.here hx rfl (hb hby at_60) rfl rfl kk_) ?_
    show Go p e below T407 (mkF m 61 #[.val (.int p0), .val (.int p1), .val (.int (2 : Int32)), .val (.ref b374), .unset, .unset, .unset] [(.ref b374)]) _
    refine Go.of (fun tg_ kk_ => XS.bipush X407.here hx rfl (hb hby at_61) kk_) ?_
    show Go p e below T407 (mkF m 63 #[.val (.int p0), .val (.int p1), .val (.int (2 : Int32)), .val (.ref b374), .unset, .unset, .unset] [(.int (6 : Int32)), (.ref b374)]) _
    refine Go.of (fun tg_ kk_ => XS.bipush X407.here hx rfl (hb hby at_63) kk_) ?_
    show Go p e below T407 (mkF m 65 #[.val (.int p0), .val (.int p1), .val (.int (2 : Int32)), .val (.ref b374), .unset, .unset, .unset] [(.int (6 : Int32)), (.int (6 : Int32)), (.ref b374)]) _
    refine Go.of (fun tg_ kk_ => XS.iloadN X407.here hx rfl (hb hby at_65) rfl kk_) ?_
    show Go p e below T407 (mkF m 66 #[.val (.int p0), .val (.int p1), .val (.int (2 : Int32)), .val (.ref b374), .unset, .unset, .unset] [(.int (2 : Int32)), (.int (6 : Int32)), (.int (6 : Int32)), (.ref b374)]) _
    refine Go.of (fun tg_ kk_ => XS.iloadN X407.here hx rfl (hb hby at_66) rfl kk_) ?_
    show Go p e below T407 (mkF m 67 #[.val (.int p0), .val (.int p1), .val (.int (2 : Int32)), .val (.ref b374), .unset, .unset, .unset] [(.int p1), (.int (2 : Int32)), (.int (6 : Int32)), (.int (6 : Int32)), (.ref b374)]) _
    obtain ⟨_, _, ⟨T412, L412, k412, n412⟩, -, X412, ⟨Lc412, hQ412, l412, y412, z412⟩, st412⟩ := Jvm.LawKit.callS X407 hx (y := (⟨"com/example/attestry/attestry/DerReaderHasNextPinLaw", "slot", "(III)B"⟩ : MethodName)) hown (mvT hZ (hw _ (List.mem_of_getElem? (i := 2) rfl))) (mvT hZ (hw _ (List.mem_of_getElem? (i := 3) rfl))) (mvT hZ (hw _ (List.mem_of_getElem? (i := 4) rfl))) (mvT hZ (hw _ (List.mem_of_getElem? (i := 5) rfl))) (by decide) (backOf (W := 2) (rm1 l Z a0 hw [] (6 : Int32) (2 : Int32) p1 h407 n0 Zs410) hZ (hw _ (List.mem_of_getElem? (i := 5) rfl)) (hw _ (List.mem_of_getElem? (i := 4) rfl)) (by decide) (by decide)) (g := (mkF m 67 #[.val (.int p0), .val (.int p1), .val (.int (2 : Int32)), .val (.ref b374), .unset, .unset, .unset] [(.int p1), (.int (2 : Int32)), (.int (6 : Int32)), (.int (6 : Int32)), (.ref b374)])) rfl (by rw [hml]; rfl) (argsL := [(.int (6 : Int32)), (.int (2 : Int32)), (.int p1)]) (rest := [(.int (6 : Int32)), (.ref b374)]) (lenOf pd_8 rfl) rfl (by show 2 * 0 + _ ≤ _; exact Nat.le_of_eq rfl) (hb hby at_67) (fun _ _ => ⟨rfl, e407, (show 1 + 0 ≤ 32 from by decide), (show 10 + 0 ≤ 2240 from by decide)⟩)
    dsimp only [Pt.U, Pt.locs, Pt.cells, Pt.slots] at X412 l412 y412 z412 st412 hQ412
    have X412 := own_stand X412 l412 y412 z412
    obtain ⟨rfl, N412q, e412⟩ := hQ412
    have N412 := Fr.app N407 N412q
    refine Go.of (st412) ?_
    show Go p e below T412 (mkF m 70 #[.val (.int p0), .val (.int p1), .val (.int (2 : Int32)), .val (.ref b374), .unset, .unset, .unset] [(.int (slotF (6 : Int32) (2 : Int32) p1)), (.int (6 : Int32)), (.ref b374)]) _
    have ib413 := (show ¬ ((6 : Int32) < 0) ∧ ((6 : Int32)).toNatClampNeg < 10 from ⟨by decide, by decide⟩)
    obtain ⟨cl413, Ar413, S413, H413⟩ := id V407
    obtain ⟨T413, h413, X413, e413, W413, st413⟩ := stB X412 hx hZ e412 Ar413 (j := (6 : Int32)) (Af.inb S413 ib413) (g := (mkF m 70 #[.val (.int p0), .val (.int p1), .val (.int (2 : Int32)), .val (.ref b374), .unset, .unset, .unset] [(.int (slotF (6 : Int32) (2 : Int32) p1)), (.int (6 : Int32)), (.ref b374)])) rfl rfl (hb hby at_70)
    obtain ⟨f413, qf413⟩ : ∃ qq_ : Nat → Int32, qq_ = upd f407 6 (nar .byte (slotF (6 : Int32) (2 : Int32) p1)) := ⟨_, rfl⟩
    have V413 : Af Z h413 b374 .byte 10 f413 := by rw [qf413]; exact Af.set Ar413 S413 H413 W413 (by decide)
    have K415 := K409.wr W413 (Or.inr sz374)
    have Zs416 : n0 ≤ h413.size := Nat.le_trans Zs410 (Keep.of_wr W413).1
    have hk417 := Nat.le_trans hk411 (Keep.of_wr W413).1
    have N413 := Fr.snoc X413 N412 gx374
    refine Go.of (st413) ?_
    show Go p e below T413 (mkF m 71 #[.val (.int p0), .val (.int p1), .val (.int (2 : Int32)), .val (.ref b374), .unset, .unset, .unset] []) _
    refine Go.of (fun tg_ kk_ => XS.aloadN X413.here hx rfl (hb hby at_71) rfl rfl kk_) ?_
    show Go p e below T413 (mkF m 72 #[.val (.int p0), .val (.int p1), .val (.int (2 : Int32)), .val (.ref b374), .unset, .unset, .unset] [(.ref b374)]) _
    refine Go.of (fun tg_ kk_ => XS.bipush X413.here hx rfl (hb hby at_72) kk_) ?_
    show Go p e below T413 (mkF m 74 #[.val (.int p0), .val (.int p1), .val (.int (2 : Int32)), .val (.ref b374), .unset, .unset, .unset] [(.int (7 : Int32)), (.ref b374)]) _
    refine Go.of (fun tg_ kk_ => XS.bipush X413.here hx rfl (hb hby at_74) kk_) ?_
    show Go p e below T413 (mkF m 76 #[.val (.int p0), .val (.int p1), .val (.int (2 : Int32)), .val (.ref b374), .unset, .unset, .unset] [(.int (7 : Int32)), (.int (7 : Int32)), (.ref b374)]) _
    refine Go.of (fun tg_ kk_ => XS.iloadN X413.here hx rfl (hb hby at_76) rfl kk_) ?_
    show Go p e below T413 (mkF m 77 #[.val (.int p0), .val (.int p1), .val (.int (2 : Int32)), .val (.ref b374), .unset, .unset, .unset] [(.int (2 : Int32)), (.int (7 : Int32)), (.int (7 : Int32)), (.ref b374)]) _
    refine Go.of (fun tg_ kk_ => XS.iloadN X413.here hx rfl (hb hby at_77) rfl kk_) ?_
    show Go p e below T413 (mkF m 78 #[.val (.int p0), .val (.int p1), .val (.int (2 : Int32)), .val (.ref b374), .unset, .unset, .unset] [(.int p1), (.int (2 : Int32)), (.int (7 : Int32)), (.int (7 : Int32)), (.ref b374)]) _
    obtain ⟨_, _, ⟨T418, L418, k418, n418⟩, -, X418, ⟨Lc418, hQ418, l418, y418, z418⟩, st418⟩ := Jvm.LawKit.callS X413 hx (y := (⟨"com/example/attestry/attestry/DerReaderHasNextPinLaw", "slot", "(III)B"⟩ : MethodName)) hown (mvT hZ (hw _ (List.mem_of_getElem? (i := 2) rfl))) (mvT hZ (hw _ (List.mem_of_getElem? (i := 3) rfl))) (mvT hZ (hw _ (List.mem_of_getElem? (i := 4) rfl))) (mvT hZ (hw _ (List.mem_of_getElem? (i := 5) rfl))) (by decide) (backOf (W := 2) (rm1 l Z a0 hw [] (7 : Int32) (2 : Int32) p1 h413 n0 Zs416) hZ (hw _ (List.mem_of_getElem? (i := 5) rfl)) (hw _ (List.mem_of_getElem? (i := 4) rfl)) (by decide) (by decide)) (g := (mkF m 78 #[.val (.int p0), .val (.int p1), .val (.int (2 : Int32)), .val (.ref b374), .unset, .unset, .unset] [(.int p1), (.int (2 : Int32)), (.int (7 : Int32)), (.int (7 : Int32)), (.ref b374)])) rfl (by rw [hml]; rfl) (argsL := [(.int (7 : Int32)), (.int (2 : Int32)), (.int p1)]) (rest := [(.int (7 : Int32)), (.ref b374)]) (lenOf pd_8 rfl) rfl (by show 2 * 0 + _ ≤ _; exact Nat.le_of_eq rfl) (hb hby at_78) (fun _ _ => ⟨rfl, e413, (show 1 + 0 ≤ 32 from by decide), (show 10 + 0 ≤ 2240 from by decide)⟩)
    dsimp only [Pt.U, Pt.locs, Pt.cells, Pt.slots] at X418 l418 y418 z418 st418 hQ418
    have X418 := own_stand X418 l418 y418 z418
    obtain ⟨rfl, N418q, e418⟩ := hQ418
    have N418 := Fr.app N413 N418q
    refine Go.of (st418) ?_
    show Go p e below T418 (mkF m 81 #[.val (.int p0), .val (.int p1), .val (.int (2 : Int32)), .val (.ref b374), .unset, .unset, .unset] [(.int (slotF (7 : Int32) (2 : Int32) p1)), (.int (7 : Int32)), (.ref b374)]) _
    have ib419 := (show ¬ ((7 : Int32) < 0) ∧ ((7 : Int32)).toNatClampNeg < 10 from ⟨by decide, by decide⟩)
    obtain ⟨cl419, Ar419, S419, H419⟩ := id V413
    obtain ⟨T419, h419, X419, e419, W419, st419⟩ := stB X418 hx hZ e418 Ar419 (j := (7 : Int32)) (Af.inb S419 ib419) (g := (mkF m 81 #[.val (.int p0), .val (.int p1), .val (.int (2 : Int32)), .val (.ref b374), .unset, .unset, .unset] [(.int (slotF (7 : Int32) (2 : Int32) p1)), (.int (7 : Int32)), (.ref b374)])) rfl rfl (hb hby at_81)
    obtain ⟨f419, qf419⟩ : ∃ qq_ : Nat → Int32, qq_ = upd f413 7 (nar .byte (slotF (7 : Int32) (2 : Int32) p1)) := ⟨_, rfl⟩
    have V419 : Af Z h419 b374 .byte 10 f419 := by rw [qf419]; exact Af.set Ar419 S419 H419 W419 (by decide)
    have K421 := K415.wr W419 (Or.inr sz374)
    have Zs422 : n0 ≤ h419.size := Nat.le_trans Zs416 (Keep.of_wr W419).1
    have hk423 := Nat.le_trans hk417 (Keep.of_wr W419).1
    have N419 := Fr.snoc X419 N418 gx374
    refine Go.of (st419) ?_
    show Go p e below T419 (mkF m 82 #[.val (.int p0), .val (.int p1), .val (.int (2 : Int32)), .val (.ref b374), .unset, .unset, .unset] []) _
    refine Go.of (fun tg_ kk_ => XS.aloadN X419.here hx rfl (hb hby at_82) rfl rfl kk_) ?_
    show Go p e below T419 (mkF m 83 #[.val (.int p0), .val (.int p1), .val (.int (2 : Int32)), .val (.ref b374), .unset, .unset, .unset] [(.ref b374)]) _
    refine Go.of (fun tg_ kk_ => XS.bipush X419.here hx rfl (hb hby at_83) kk_) ?_
    show Go p e below T419 (mkF m 85 #[.val (.int p0), .val (.int p1), .val (.int (2 : Int32)), .val (.ref b374), .unset, .unset, .unset] [(.int (8 : Int32)), (.ref b374)]) _
    refine Go.of (fun tg_ kk_ => XS.bipush X419.here hx rfl (hb hby at_85) kk_) ?_
    show Go p e below T419 (mkF m 87 #[.val (.int p0), .val (.int p1), .val (.int (2 : Int32)), .val (.ref b374), .unset, .unset, .unset] [(.int (8 : Int32)), (.int (8 : Int32)), (.ref b374)]) _
    refine Go.of (fun tg_ kk_ => XS.iloadN X419.here hx rfl (hb hby at_87) rfl kk_) ?_
    show Go p e below T419 (mkF m 88 #[.val (.int p0), .val (.int p1), .val (.int (2 : Int32)), .val (.ref b374), .unset, .unset, .unset] [(.int (2 : Int32)), (.int (8 : Int32)), (.int (8 : Int32)), (.ref b374)]) _
    refine Go.of (fun tg_ kk_ => XS.iloadN X419.here hx rfl (hb hby at_88) rfl kk_) ?_
    show Go p e below T419 (mkF m 89 #[.val (.int p0), .val (.int p1), .val (.int (2 : Int32)), .val (.ref b374), .unset, .unset, .unset] [(.int p1), (.int (2 : Int32)), (.int (8 : Int32)), (.int (8 : Int32)), (.ref b374)]) _
    obtain ⟨_, _, ⟨T424, L424, k424, n424⟩, -, X424, ⟨Lc424, hQ424, l424, y424, z424⟩, st424⟩ := Jvm.LawKit.callS X419 hx (y := (⟨"com/example/attestry/attestry/DerReaderHasNextPinLaw", "slot", "(III)B"⟩ : MethodName)) hown (mvT hZ (hw _ (List.mem_of_getElem? (i := 2) rfl))) (mvT hZ (hw _ (List.mem_of_getElem? (i := 3) rfl))) (mvT hZ (hw _ (List.mem_of_getElem? (i := 4) rfl))) (mvT hZ (hw _ (List.mem_of_getElem? (i := 5) rfl))) (by decide) (backOf (W := 2) (rm1 l Z a0 hw [] (8 : Int32) (2 : Int32) p1 h419 n0 Zs422) hZ (hw _ (List.mem_of_getElem? (i := 5) rfl)) (hw _ (List.mem_of_getElem? (i := 4) rfl)) (by decide) (by decide)) (g := (mkF m 89 #[.val (.int p0), .val (.int p1), .val (.int (2 : Int32)), .val (.ref b374), .unset, .unset, .unset] [(.int p1), (.int (2 : Int32)), (.int (8 : Int32)), (.int (8 : Int32)), (.ref b374)])) rfl (by rw [hml]; rfl) (argsL := [(.int (8 : Int32)), (.int (2 : Int32)), (.int p1)]) (rest := [(.int (8 : Int32)), (.ref b374)]) (lenOf pd_8 rfl) rfl (by show 2 * 0 + _ ≤ _; exact Nat.le_of_eq rfl) (hb hby at_89) (fun _ _ => ⟨rfl, e419, (show 1 + 0 ≤ 32 from by decide), (show 10 + 0 ≤ 2240 from by decide)⟩)
    dsimp only [Pt.U, Pt.locs, Pt.cells, Pt.slots] at X424 l424 y424 z424 st424 hQ424
    have X424 := own_stand X424 l424 y424 z424
    obtain ⟨rfl, N424q, e424⟩ := hQ424
    have N424 := Fr.app N419 N424q
    refine Go.of (st424) ?_
    show Go p e below T424 (mkF m 92 #[.val (.int p0), .val (.int p1), .val (.int (2 : Int32)), .val (.ref b374), .unset, .unset, .unset] [(.int (slotF (8 : Int32) (2 : Int32) p1)), (.int (8 : Int32)), (.ref b374)]) _
    have ib425 := (show ¬ ((8 : Int32) < 0) ∧ ((8 : Int32)).toNatClampNeg < 10 from ⟨by decide, by decide⟩)
    obtain ⟨cl425, Ar425, S425, H425⟩ := id V419
    obtain ⟨T425, h425, X425, e425, W425, st425⟩ := stB X424 hx hZ e424 Ar425 (j := (8 : Int32)) (Af.inb S425 ib425) (g := (mkF m 92 #[.val (.int p0), .val (.int p1), .val (.int (2 : Int32)), .val (.ref b374), .unset, .unset, .unset] [(.int (slotF (8 : Int32) (2 : Int32) p1)), (.int (8 : Int32)), (.ref b374)])) rfl rfl (hb hby at_92)
    obtain ⟨f425, qf425⟩ : ∃ qq_ : Nat → Int32, qq_ = upd f419 8 (nar .byte (slotF (8 : Int32) (2 : Int32) p1)) := ⟨_, rfl⟩
    have V425 : Af Z h425 b374 .byte 10 f425 := by rw [qf425]; exact Af.set Ar425 S425 H425 W425 (by decide)
    have K427 := K421.wr W425 (Or.inr sz374)
    have Zs428 : n0 ≤ h425.size := Nat.le_trans Zs422 (Keep.of_wr W425).1
    have hk429 := Nat.le_trans hk423 (Keep.of_wr W425).1
    have N425 := Fr.snoc X425 N424 gx374
    refine Go.of (st425) ?_
    show Go p e below T425 (mkF m 93 #[.val (.int p0), .val (.int p1), .val (.int (2 : Int32)), .val (.ref b374), .unset, .unset, .unset] []) _
    refine Go.of (fun tg_ kk_ => XS.aloadN X425.here hx rfl (hb hby at_93) rfl rfl kk_) ?_
    show Go p e below T425 (mkF m 94 #[.val (.int p0), .val (.int p1), .val (.int (2 : Int32)), .val (.ref b374), .unset, .unset, .unset] [(.ref b374)]) _
    refine Go.of (fun tg_ kk_ => XS.bipush X425.here hx rfl (hb hby at_94) kk_) ?_
    show Go p e below T425 (mkF m 96 #[.val (.int p0), .val (.int p1), .val (.int (2 : Int32)), .val (.ref b374), .unset, .unset, .unset] [(.int (9 : Int32)), (.ref b374)]) _
    refine Go.of (fun tg_ kk_ => XS.bipush X425.here hx rfl (hb hby at_96) kk_) ?_
    show Go p e below T425 (mkF m 98 #[.val (.int p0), .val (.int p1), .val (.int (2 : Int32)), .val (.ref b374), .unset, .unset, .unset] [(.int (9 : Int32)), (.int (9 : Int32)), (.ref b374)]) _
    refine Go.of (fun tg_ kk_ => XS.iloadN X425.here hx rfl (hb hby at_98) rfl kk_) ?_
    show Go p e below T425 (mkF m 99 #[.val (.int p0), .val (.int p1), .val (.int (2 : Int32)), .val (.ref b374), .unset, .unset, .unset] [(.int (2 : Int32)), (.int (9 : Int32)), (.int (9 : Int32)), (.ref b374)]) _
    refine Go.of (fun tg_ kk_ => XS.iloadN X425.here hx rfl (hb hby at_99) rfl kk_) ?_
    show Go p e below T425 (mkF m 100 #[.val (.int p0), .val (.int p1), .val (.int (2 : Int32)), .val (.ref b374), .unset, .unset, .unset] [(.int p1), (.int (2 : Int32)), (.int (9 : Int32)), (.int (9 : Int32)), (.ref b374)]) _
    obtain ⟨_, _, ⟨T430, L430, k430, n430⟩, -, X430, ⟨Lc430, hQ430, l430, y430, z430⟩, st430⟩ := Jvm.LawKit.callS X425 hx (y := (⟨"com/example/attestry/attestry/DerReaderHasNextPinLaw", "slot", "(III)B"⟩ : MethodName)) hown (mvT hZ (hw _ (List.mem_of_getElem? (i := 2) rfl))) (mvT hZ (hw _ (List.mem_of_getElem? (i := 3) rfl))) (mvT hZ (hw _ (List.mem_of_getElem? (i := 4) rfl))) (mvT hZ (hw _ (List.mem_of_getElem? (i := 5) rfl))) (by decide) (backOf (W := 2) (rm1 l Z a0 hw [] (9 : Int32) (2 : Int32) p1 h425 n0 Zs428) hZ (hw _ (List.mem_of_getElem? (i := 5) rfl)) (hw _ (List.mem_of_getElem? (i := 4) rfl)) (by decide) (by decide)) (g := (mkF m 100 #[.val (.int p0), .val (.int p1), .val (.int (2 : Int32)), .val (.ref b374), .unset, .unset, .unset] [(.int p1), (.int (2 : Int32)), (.int (9 : Int32)), (.int (9 : Int32)), (.ref b374)])) rfl (by rw [hml]; rfl) (argsL := [(.int (9 : Int32)), (.int (2 : Int32)), (.int p1)]) (rest := [(.int (9 : Int32)), (.ref b374)]) (lenOf pd_8 rfl) rfl (by show 2 * 0 + _ ≤ _; exact Nat.le_of_eq rfl) (hb hby at_100) (fun _ _ => ⟨rfl, e425, (show 1 + 0 ≤ 32 from by decide), (show 10 + 0 ≤ 2240 from by decide)⟩)
    dsimp only [Pt.U, Pt.locs, Pt.cells, Pt.slots] at X430 l430 y430 z430 st430 hQ430
    have X430 := own_stand X430 l430 y430 z430
    obtain ⟨rfl, N430q, e430⟩ := hQ430
    have N430 := Fr.app N425 N430q
    refine Go.of (st430) ?_
    show Go p e below T430 (mkF m 103 #[.val (.int p0), .val (.int p1), .val (.int (2 : Int32)), .val (.ref b374), .unset, .unset, .unset] [(.int (slotF (9 : Int32) (2 : Int32) p1)), (.int (9 : Int32)), (.ref b374)]) _
    have ib431 := (show ¬ ((9 : Int32) < 0) ∧ ((9 : Int32)).toNatClampNeg < 10 from ⟨by decide, by decide⟩)
    obtain ⟨cl431, Ar431, S431, H431⟩ := id V425
    obtain ⟨T431, h431, X431, e431, W431, st431⟩ := stB X430 hx hZ e430 Ar431 (j := (9 : Int32)) (Af.inb S431 ib431) (g := (mkF m 103 #[.val (.int p0), .val (.int p1), .val (.int (2 : Int32)), .val (.ref b374), .unset, .unset, .unset] [(.int (slotF (9 : Int32) (2 : Int32) p1)), (.int (9 : Int32)), (.ref b374)])) rfl rfl (hb hby at_103)
    obtain ⟨f431, qf431⟩ : ∃ qq_ : Nat → Int32, qq_ = upd f425 9 (nar .byte (slotF (9 : Int32) (2 : Int32) p1)) := ⟨_, rfl⟩
    have V431 : Af Z h431 b374 .byte 10 f431 := by rw [qf431]; exact Af.set Ar431 S431 H431 W431 (by decide)
    have K433 := K427.wr W431 (Or.inr sz374)
    have Zs434 : n0 ≤ h431.size := Nat.le_trans Zs428 (Keep.of_wr W431).1
    have hk435 := Nat.le_trans hk429 (Keep.of_wr W431).1
    have N431 := Fr.snoc X431 N430 gx374
    refine Go.of (st431) ?_
    show Go p e below T431 (mkF m 104 #[.val (.int p0), .val (.int p1), .val (.int (2 : Int32)), .val (.ref b374), .unset, .unset, .unset] []) _
    have by0_ : f431 0 = (48 : Int32) := by rw [qf431, own_updN (by decide), qf425, own_updN (by decide), qf419, own_updN (by decide), qf413, own_updN (by decide), qf407, own_updN (by decide), qf401, own_updN (by decide), qf395, own_updN (by decide), qf389, own_updN (by decide), qf383, own_updN (by decide), qf378, own_updS]
    have by1_ : f431 1 = (4 : Int32) := by rw [qf431, own_updN (by decide), qf425, own_updN (by decide), qf419, own_updN (by decide), qf413, own_updN (by decide), qf407, own_updN (by decide), qf401, own_updN (by decide), qf395, own_updN (by decide), qf389, own_updN (by decide), qf383, own_updS]
    have by2_ : f431 2 = (5 : Int32) := by rw [qf431, own_updN (by decide), qf425, own_updN (by decide), qf419, own_updN (by decide), qf413, own_updN (by decide), qf407, own_updN (by decide), qf401, own_updN (by decide), qf395, own_updN (by decide), qf389, own_updS]
    have by3_ : f431 3 = (0 : Int32) := by rw [qf431, own_updN (by decide), qf425, own_updN (by decide), qf419, own_updN (by decide), qf413, own_updN (by decide), qf407, own_updN (by decide), qf401, own_updN (by decide), qf395, own_updS]
    obtain ⟨T436, h436, X436, e436, E436, A436, D436, -, st436⟩ := newO X431 hx hZ hown (hw _ (List.mem_of_getElem? (i := 6) rfl)) (hw _ (List.mem_of_getElem? (i := 7) rfl)) (hw _ (List.mem_of_getElem? (i := 8) rfl)) e431 (g := (mkF m 104 #[.val (.int p0), .val (.int p1), .val (.int (2 : Int32)), .val (.ref b374), .unset, .unset, .unset] [])) rfl (hb hby at_104) (by decide) (by decide)
    obtain ⟨b436, g436⟩ : ∃ zz_, zz_ = h431.size := ⟨_, rfl⟩
    rw [← g436] at A436 D436 st436
    have gx436 : n0 ≤ b436 := Nat.le_trans Zs434 (Nat.le_of_eq g436.symm)
    have sz436 : h0.size ≤ b436 := Nat.le_trans K433.1 (Nat.le_of_eq g436.symm)
    have ne437 : b374 ≠ b436 := Nat.ne_of_lt (Nat.lt_of_lt_of_le V431.lt (Nat.le_of_eq g436.symm))
    have F438 := V431.ext E436
    have K439 := K433.ext E436
    have Zs440 : n0 ≤ h436.size := Nat.le_trans Zs434 E436.1
    have hk441 := Nat.le_trans hk435 E436.1
    have F442 : Fld Z h436 b436 "com/example/attestry/attestry/DerReader" "bytes" "[B" .null := D436 (Or.inr (hw _ (List.mem_of_getElem? (i := 16) rfl))) (ty := (.array .byte)) (by decide)
    have F443 : Fld Z h436 b436 "com/example/attestry/attestry/DerReader" "berNote" "Lcom/example/attestry/attestry/DerReader$BerNote;" .null := D436 (Or.inr (hw _ (List.mem_of_getElem? (i := 25) rfl))) (ty := (.object "com/example/attestry/attestry/DerReader$BerNote")) (by decide)
    have F444 : Fld Z h436 b436 "com/example/attestry/attestry/DerReader" "start" "I" (.int (0 : Int32)) := D436 (Or.inr (hw _ (List.mem_of_getElem? (i := 27) rfl))) (ty := .int) (by decide)
    have F445 : Fld Z h436 b436 "com/example/attestry/attestry/DerReader" "position" "I" (.int (0 : Int32)) := D436 (Or.inl (hw _ (List.mem_of_getElem? (i := 29) rfl))) (ty := .int) (by decide)
    have F446 : Fld Z h436 b436 "com/example/attestry/attestry/DerReader" "end" "I" (.int (0 : Int32)) := D436 (Or.inr (hw _ (List.mem_of_getElem? (i := 31) rfl))) (ty := .int) (by decide)
    have F447 : Fld Z h436 b436 "com/example/attestry/attestry/DerReader" "depth" "I" (.int (0 : Int32)) := D436 (Or.inr (hw _ (List.mem_of_getElem? (i := 33) rfl))) (ty := .int) (by decide)
    refine Go.of (st436) ?_
    show Go p e below T436 (mkF m 107 #[.val (.int p0), .val (.int p1), .val (.int (2 : Int32)), .val (.ref b374), .unset, .unset, .unset] [(.ref b436)]) _
    refine Go.of (fun tg_ kk_ => XS.dup X436.here hx rfl (hb hby at_107) rfl rfl kk_) ?_
    show Go p e below T436 (mkF m 108 #[.val (.int p0), .val (.int p1), .val (.int (2 : Int32)), .val (.ref b374), .unset, .unset, .unset] [(.ref b436), (.ref b436)]) _
    refine Go.of (fun tg_ kk_ => XS.iconst X436.here hx rfl (hb hby at_108) kk_) ?_
    show Go p e below T436 (mkF m 109 #[.val (.int p0), .val (.int p1), .val (.int (2 : Int32)), .val (.ref b374), .unset, .unset, .unset] [(.int (0 : Int32)), (.ref b436), (.ref b436)]) _
    obtain ⟨T448, h448, k448, X448, e448, E448, A448, st448⟩ := newP X436 hx hZ (hw _ (List.mem_of_getElem? (i := 1) rfl)) e436 (g := (mkF m 109 #[.val (.int p0), .val (.int p1), .val (.int (2 : Int32)), .val (.ref b374), .unset, .unset, .unset] [(.int (0 : Int32)), (.ref b436), (.ref b436)])) rfl (hb hby at_109) rfl (by decide) (cap := 0) (by decide) (by decide) (by decide) (by decide)
    obtain ⟨b448, g448⟩ : ∃ zz_, zz_ = h436.size := ⟨_, rfl⟩
    rw [← g448] at A448 st448
    have gx448 : n0 ≤ b448 := Nat.le_trans Zs440 (Nat.le_of_eq g448.symm)
    have sz448 : h0.size ≤ b448 := Nat.le_trans K439.1 (Nat.le_of_eq g448.symm)
    have ne449 : b374 ≠ b448 := Nat.ne_of_lt (Nat.lt_of_lt_of_le F438.lt (Nat.le_of_eq g448.symm))
    have ne450 : b436 ≠ b448 := Nat.ne_of_lt (Nat.lt_of_lt_of_le A436.lt (Nat.le_of_eq g448.symm))
    have F451 := F438.ext E448
    have F452 := A436.ext E448
    have F453 := F442.ext E448
    have F454 := F443.ext E448
    have F455 := F444.ext E448
    have F456 := F445.ext E448
    have F457 := F446.ext E448
    have F458 := F447.ext E448
    have K459 := K439.ext E448
    have Zs460 : n0 ≤ h448.size := Nat.le_trans Zs440 E448.1
    have hk461 := Nat.le_trans hk441 E448.1
    have V448 : Af Z h448 b448 .byte 0 (fun _ => 0) := Af.new rfl A448 (by decide)
    refine Go.of (st448) ?_
    show Go p e below T448 (mkF m 111 #[.val (.int p0), .val (.int p1), .val (.int (2 : Int32)), .val (.ref b374), .unset, .unset, .unset] [(.ref b448), (.ref b436), (.ref b436)]) _
    obtain ⟨_, _, ⟨T462, L462, k462, n462⟩, -, X462, ⟨Lc462, hQ462, l462, y462, z462⟩, st462⟩ := X448.specialBack hx (y := (⟨"com/example/attestry/attestry/DerReader", "<init>", "([B)V"⟩ : MethodName)) rfl hown (mvT hZ (hw _ (List.mem_of_getElem? (i := 9) rfl))) (mvT hZ (hw _ (List.mem_of_getElem? (i := 10) rfl))) (mvT hZ (hw _ (List.mem_of_getElem? (i := 11) rfl))) (by decide) (backOf (W := 1) (rm2_0 l Z a0 hw [] b436 b448 (fun _ => 0) h448 n0 Zs460 gx436 F452 F453 F454 F455 F456 F457 F458 V448 ne450) hZ (hw _ (List.mem_of_getElem? (i := 11) rfl)) (hw _ (List.mem_of_getElem? (i := 8) rfl)) (by decide) (by decide)) (g := (mkF m 111 #[.val (.int p0), .val (.int p1), .val (.int (2 : Int32)), .val (.ref b374), .unset, .unset, .unset] [(.ref b448), (.ref b436), (.ref b436)])) rfl (by rw [hml]; rfl) (Steps.refl _) (a := b436) (argsL := [(.ref b448)]) (rest := [(.ref b436)]) (lenOf pd_9 rfl) rfl (by show 2 * 0 + _ ≤ _; exact Nat.le_of_eq rfl) (hb hby at_111) (fun _ _ => ⟨rfl, e448, (show 3 + 1 ≤ 32 from by decide), (show 16 + 1 ≤ 2240 from by decide)⟩)
    dsimp only [Pt.U, Pt.locs, Pt.cells, Pt.slots] at X462 l462 y462 z462 st462 hQ462
    have X462 := own_stand X462 l462 y462 z462
    obtain ⟨q462, rfl, N462q, K462q, Fbytes_462, FberNote_462, Fstart_462, Fposition_462, Fend_462, Fdepth_462⟩ := hQ462
    have N462 := Fr.app N431 N462q
    have F463 := F451.keep K462q (ninS ne437 nin0)
    have F464 := F452.keep K462q
    have F471 := V448.keep K462q (ninS (Ne.symm ne450) nin0)
    have K472 := K459.trans K462q (allS (Or.inr sz436) all0)
    have Zs473 : n0 ≤ T462.heap.size := Nat.le_trans Zs460 K462q.1
    have hk474 := Nat.le_trans hk461 K462q.1
    refine Go.of (fun tg_ kk_ => st462.trans kk_) ?_
    show Go p e below T462 (mkF m 114 #[.val (.int p0), .val (.int p1), .val (.int (2 : Int32)), .val (.ref b374), .unset, .unset, .unset] [(.ref b436)]) _
    obtain ⟨cq475, kq475, q475a, q475b, q475c⟩ := isOf hZ rfl F464
    obtain ⟨_, _, ⟨T475, L475, k475, n475⟩, -, X475, ⟨Lc475, hQ475, l475, y475, z475⟩, st475⟩ := X462.virtualBack hx (y := (⟨"com/example/attestry/attestry/DerReader", "hasNext", "()Z"⟩ : MethodName)) (z := (⟨"com/example/attestry/attestry/DerReader", "hasNext", "()Z"⟩ : MethodName)) hown (mvT hZ (hw _ (List.mem_of_getElem? (i := 34) rfl))) (mvT hZ (hw _ (List.mem_of_getElem? (i := 35) rfl))) (notFace_of_selects (args := #[]) (mvT hZ (hw _ (List.mem_of_getElem? (i := 37) rfl)))) (mvT hZ (hw _ (List.mem_of_getElem? (i := 37) rfl))) (mvT hZ (hw _ (List.mem_of_getElem? (i := 36) rfl))) (by decide) (backOf (W := 0) (rm5 l Z a0 hw [] b436 (0 : Int32) (0 : Int32) T462.heap n0 Zs473 Fposition_462 Fend_462) hZ (hw _ (List.mem_of_getElem? (i := 38) rfl)) (hw _ (List.mem_of_getElem? (i := 8) rfl)) (by decide) (by decide)) q475a q475c (g := (mkF m 114 #[.val (.int p0), .val (.int p1), .val (.int (2 : Int32)), .val (.ref b374), .unset, .unset, .unset] [(.ref b436)])) rfl (by rw [hml]; rfl) (Steps.refl _) (argsL := []) (rest := []) (lenOf pd_1 rfl) rfl (by show 2 * 0 + _ ≤ _; exact Nat.le_of_eq rfl) (hb hby at_114) (fun _ _ => ⟨rfl, rfl, (show 4 + 0 ≤ 32 from by decide), (show 17 + 0 ≤ 2240 from by decide)⟩)
    dsimp only [Pt.U, Pt.locs, Pt.cells, Pt.slots] at X475 l475 y475 z475 st475 hQ475
    have X475 := own_stand X475 l475 y475 z475
    obtain ⟨hv475, N475q, e475⟩ := hQ475
    rw [if_neg (show ¬ ((0 : Int32) < (0 : Int32)) by decide)] at hv475
    subst hv475
    have N475 := Fr.app N462 N475q
    refine Go.of (fun tg_ kk_ => st475.trans kk_) ?_
    show Go p e below T475 (mkF m 117 #[.val (.int p0), .val (.int p1), .val (.int (2 : Int32)), .val (.ref b374), .unset, .unset, .unset] [(.int (0 : Int32))]) _
    refine Go.of (fun tg_ kk_ => XS.ifNo X475.here hx rfl (hb hby at_117) rfl ((if0 _ _).trans (teq (show (0 : Int32) = (0 : Int32) by decide)).2) kk_) ?_
    show Go p e below T475 (mkF m 120 #[.val (.int p0), .val (.int p1), .val (.int (2 : Int32)), .val (.ref b374), .unset, .unset, .unset] []) _
    refine Go.of (fun tg_ kk_ => XS.iconst X475.here hx rfl (hb hby at_120) kk_) ?_
    show Go p e below T475 (mkF m 121 #[.val (.int p0), .val (.int p1), .val (.int (2 : Int32)), .val (.ref b374), .unset, .unset, .unset] [(.int (1 : Int32))]) _
    refine Go.of (fun tg_ kk_ => XS.goto X475.here hx rfl (pc0 := 121) (pc' := 125) rfl (hb hby at_121) (by decide) (by decide) kk_) ?_
    show Go p e below T475 (mkF m 125 #[.val (.int p0), .val (.int p1), .val (.int (2 : Int32)), .val (.ref b374), .unset, .unset, .unset] [(.int (1 : Int32))]) _
    refine Go.of (fun tg_ kk_ => XS.istore X475.here hx rfl (hb hby at_125) rfl (l' := #[.val (.int p0), .val (.int p1), .val (.int (2 : Int32)), .val (.ref b374), .val (.int (1 : Int32)), .unset, .unset]) rfl kk_) ?_
    show Go p e below T475 (mkF m 127 #[.val (.int p0), .val (.int p1), .val (.int (2 : Int32)), .val (.ref b374), .val (.int (1 : Int32)), .unset, .unset] []) _
    obtain ⟨T476, h476, X476, e476, E476, A476, D476, -, st476⟩ := newO X475 hx hZ hown (hw _ (List.mem_of_getElem? (i := 6) rfl)) (hw _ (List.mem_of_getElem? (i := 7) rfl)) (hw _ (List.mem_of_getElem? (i := 8) rfl)) e475 (g := (mkF m 127 #[.val (.int p0), .val (.int p1), .val (.int (2 : Int32)), .val (.ref b374), .val (.int (1 : Int32)), .unset, .unset] [])) rfl (hb hby at_127) (by decide) (by decide)
    obtain ⟨b476, g476⟩ : ∃ zz_, zz_ = T462.heap.size := ⟨_, rfl⟩
    rw [← g476] at A476 D476 st476
    have gx476 : n0 ≤ b476 := Nat.le_trans Zs473 (Nat.le_of_eq g476.symm)
    have sz476 : h0.size ≤ b476 := Nat.le_trans K472.1 (Nat.le_of_eq g476.symm)
    have ne477 : b374 ≠ b476 := Nat.ne_of_lt (Nat.lt_of_lt_of_le F463.lt (Nat.le_of_eq g476.symm))
    have ne478 : b436 ≠ b476 := Nat.ne_of_lt (Nat.lt_of_lt_of_le F464.lt (Nat.le_of_eq g476.symm))
    have ne479 : b448 ≠ b476 := Nat.ne_of_lt (Nat.lt_of_lt_of_le F471.lt (Nat.le_of_eq g476.symm))
    have F480 := F463.ext E476
    have F481 := F464.ext E476
    have F482 := F471.ext E476
    have F483 := Fbytes_462.ext E476
    have F484 := FberNote_462.ext E476
    have F485 := Fstart_462.ext E476
    have F486 := Fposition_462.ext E476
    have F487 := Fend_462.ext E476
    have F488 := Fdepth_462.ext E476
    have K489 := K472.ext E476
    have Zs490 : n0 ≤ h476.size := Nat.le_trans Zs473 E476.1
    have hk491 := Nat.le_trans hk474 E476.1
    have F492 : Fld Z h476 b476 "com/example/attestry/attestry/DerReader" "bytes" "[B" .null := D476 (Or.inr (hw _ (List.mem_of_getElem? (i := 16) rfl))) (ty := (.array .byte)) (by decide)
    have F493 : Fld Z h476 b476 "com/example/attestry/attestry/DerReader" "berNote" "Lcom/example/attestry/attestry/DerReader$BerNote;" .null := D476 (Or.inr (hw _ (List.mem_of_getElem? (i := 25) rfl))) (ty := (.object "com/example/attestry/attestry/DerReader$BerNote")) (by decide)
    have F494 : Fld Z h476 b476 "com/example/attestry/attestry/DerReader" "start" "I" (.int (0 : Int32)) := D476 (Or.inr (hw _ (List.mem_of_getElem? (i := 27) rfl))) (ty := .int) (by decide)
    have F495 : Fld Z h476 b476 "com/example/attestry/attestry/DerReader" "position" "I" (.int (0 : Int32)) := D476 (Or.inl (hw _ (List.mem_of_getElem? (i := 29) rfl))) (ty := .int) (by decide)
    have F496 : Fld Z h476 b476 "com/example/attestry/attestry/DerReader" "end" "I" (.int (0 : Int32)) := D476 (Or.inr (hw _ (List.mem_of_getElem? (i := 31) rfl))) (ty := .int) (by decide)
    have F497 : Fld Z h476 b476 "com/example/attestry/attestry/DerReader" "depth" "I" (.int (0 : Int32)) := D476 (Or.inr (hw _ (List.mem_of_getElem? (i := 33) rfl))) (ty := .int) (by decide)
    refine Go.of (st476) ?_
    show Go p e below T476 (mkF m 130 #[.val (.int p0), .val (.int p1), .val (.int (2 : Int32)), .val (.ref b374), .val (.int (1 : Int32)), .unset, .unset] [(.ref b476)]) _
    refine Go.of (fun tg_ kk_ => XS.dup X476.here hx rfl (hb hby at_130) rfl rfl kk_) ?_
    show Go p e below T476 (mkF m 131 #[.val (.int p0), .val (.int p1), .val (.int (2 : Int32)), .val (.ref b374), .val (.int (1 : Int32)), .unset, .unset] [(.ref b476), (.ref b476)]) _
    refine Go.of (fun tg_ kk_ => XS.aloadN X476.here hx rfl (hb hby at_131) rfl rfl kk_) ?_
    show Go p e below T476 (mkF m 132 #[.val (.int p0), .val (.int p1), .val (.int (2 : Int32)), .val (.ref b374), .val (.int (1 : Int32)), .unset, .unset] [(.ref b374), (.ref b476), (.ref b476)]) _
    obtain ⟨_, _, ⟨T498, L498, k498, n498⟩, -, X498, ⟨Lc498, hQ498, l498, y498, z498⟩, st498⟩ := X476.specialBack hx (y := (⟨"com/example/attestry/attestry/DerReader", "<init>", "([B)V"⟩ : MethodName)) rfl hown (mvT hZ (hw _ (List.mem_of_getElem? (i := 9) rfl))) (mvT hZ (hw _ (List.mem_of_getElem? (i := 10) rfl))) (mvT hZ (hw _ (List.mem_of_getElem? (i := 11) rfl))) (by decide) (backOf (W := 1) (rm2_10 l Z a0 hw [] b476 b374 f431 h476 n0 Zs490 gx476 A476 F492 F493 F494 F495 F496 F497 F480 (Ne.symm ne477)) hZ (hw _ (List.mem_of_getElem? (i := 11) rfl)) (hw _ (List.mem_of_getElem? (i := 8) rfl)) (by decide) (by decide)) (g := (mkF m 132 #[.val (.int p0), .val (.int p1), .val (.int (2 : Int32)), .val (.ref b374), .val (.int (1 : Int32)), .unset, .unset] [(.ref b374), (.ref b476), (.ref b476)])) rfl (by rw [hml]; rfl) (Steps.refl _) (a := b476) (argsL := [(.ref b374)]) (rest := [(.ref b476)]) (lenOf pd_9 rfl) rfl (by show 2 * 0 + _ ≤ _; exact Nat.le_of_eq rfl) (hb hby at_132) (fun _ _ => ⟨rfl, e476, (show 5 + 1 ≤ 32 from by decide), (show 23 + 1 ≤ 2240 from by decide)⟩)
    dsimp only [Pt.U, Pt.locs, Pt.cells, Pt.slots] at X498 l498 y498 z498 st498 hQ498
    have X498 := own_stand X498 l498 y498 z498
    obtain ⟨q498, rfl, N498q, K498q, Fbytes_498, FberNote_498, Fstart_498, Fposition_498, Fend_498, Fdepth_498⟩ := hQ498
    have N498 := Fr.app N475 N498q
    have F499 := F480.keep K498q (ninS ne477 nin0)
    have F500 := F481.keep K498q
    have F501 := F482.keep K498q (ninS ne479 nin0)
    have F502 := F483.keep K498q (ninS ne478 nin0)
    have F503 := F484.keep K498q (ninS ne478 nin0)
    have F504 := F485.keep K498q (ninS ne478 nin0)
    have F505 := F486.keep K498q (ninS ne478 nin0)
    have F506 := F487.keep K498q (ninS ne478 nin0)
    have F507 := F488.keep K498q (ninS ne478 nin0)
    have F508 := A476.keep K498q
    have K515 := K489.trans K498q (allS (Or.inr sz476) all0)
    have Zs516 : n0 ≤ T498.heap.size := Nat.le_trans Zs490 K498q.1
    have hk517 := Nat.le_trans hk491 K498q.1
    refine Go.of (fun tg_ kk_ => st498.trans kk_) ?_
    show Go p e below T498 (mkF m 135 #[.val (.int p0), .val (.int p1), .val (.int (2 : Int32)), .val (.ref b374), .val (.int (1 : Int32)), .unset, .unset] [(.ref b476)]) _
    refine Go.of (fun tg_ kk_ => XS.astore X498.here hx rfl (hb hby at_135) rfl rfl (l' := #[.val (.int p0), .val (.int p1), .val (.int (2 : Int32)), .val (.ref b374), .val (.int (1 : Int32)), .val (.ref b476), .unset]) rfl kk_) ?_
    show Go p e below T498 (mkF m 137 #[.val (.int p0), .val (.int p1), .val (.int (2 : Int32)), .val (.ref b374), .val (.int (1 : Int32)), .val (.ref b476), .unset] []) _
    refine Go.of (fun tg_ kk_ => XS.iload X498.here hx rfl (hb hby at_137) rfl kk_) ?_
    show Go p e below T498 (mkF m 139 #[.val (.int p0), .val (.int p1), .val (.int (2 : Int32)), .val (.ref b374), .val (.int (1 : Int32)), .val (.ref b476), .unset] [(.int (1 : Int32))]) _
    refine Go.of (fun tg_ kk_ => XS.ifNo X498.here hx rfl (hb hby at_139) rfl ((if0 _ _).trans (feq (show ¬ ((1 : Int32) = (0 : Int32)) by decide)).1) kk_) ?_
    show Go p e below T498 (mkF m 142 #[.val (.int p0), .val (.int p1), .val (.int (2 : Int32)), .val (.ref b374), .val (.int (1 : Int32)), .val (.ref b476), .unset] []) _
    refine Go.of (fun tg_ kk_ => XS.aload X498.here hx rfl (hb hby at_142) rfl rfl kk_) ?_
    show Go p e below T498 (mkF m 144 #[.val (.int p0), .val (.int p1), .val (.int (2 : Int32)), .val (.ref b374), .val (.int (1 : Int32)), .val (.ref b476), .unset] [(.ref b476)]) _
    obtain ⟨cq518, kq518, q518a, q518b, q518c⟩ := isOf hZ rfl F508
    obtain ⟨_, _, ⟨T518, L518, k518, n518⟩, -, X518, ⟨Lc518, hQ518, l518, y518, z518⟩, st518⟩ := X498.virtualBack hx (y := (⟨"com/example/attestry/attestry/DerReader", "hasNext", "()Z"⟩ : MethodName)) (z := (⟨"com/example/attestry/attestry/DerReader", "hasNext", "()Z"⟩ : MethodName)) hown (mvT hZ (hw _ (List.mem_of_getElem? (i := 34) rfl))) (mvT hZ (hw _ (List.mem_of_getElem? (i := 35) rfl))) (notFace_of_selects (args := #[]) (mvT hZ (hw _ (List.mem_of_getElem? (i := 37) rfl)))) (mvT hZ (hw _ (List.mem_of_getElem? (i := 37) rfl))) (mvT hZ (hw _ (List.mem_of_getElem? (i := 36) rfl))) (by decide) (backOf (W := 0) (rm5 l Z a0 hw [] b476 (0 : Int32) (10 : Int32) T498.heap n0 Zs516 Fposition_498 Fend_498) hZ (hw _ (List.mem_of_getElem? (i := 38) rfl)) (hw _ (List.mem_of_getElem? (i := 8) rfl)) (by decide) (by decide)) q518a q518c (g := (mkF m 144 #[.val (.int p0), .val (.int p1), .val (.int (2 : Int32)), .val (.ref b374), .val (.int (1 : Int32)), .val (.ref b476), .unset] [(.ref b476)])) rfl (by rw [hml]; rfl) (Steps.refl _) (argsL := []) (rest := []) (lenOf pd_1 rfl) rfl (by show 2 * 0 + _ ≤ _; exact Nat.le_of_eq rfl) (hb hby at_144) (fun _ _ => ⟨rfl, rfl, (show 6 + 0 ≤ 32 from by decide), (show 24 + 0 ≤ 2240 from by decide)⟩)
    dsimp only [Pt.U, Pt.locs, Pt.cells, Pt.slots] at X518 l518 y518 z518 st518 hQ518
    have X518 := own_stand X518 l518 y518 z518
    obtain ⟨hv518, N518q, e518⟩ := hQ518
    rw [if_pos (show ((0 : Int32) < (10 : Int32)) by decide)] at hv518
    subst hv518
    have N518 := Fr.app N498 N518q
    refine Go.of (fun tg_ kk_ => st518.trans kk_) ?_
    show Go p e below T518 (mkF m 147 #[.val (.int p0), .val (.int p1), .val (.int (2 : Int32)), .val (.ref b374), .val (.int (1 : Int32)), .val (.ref b476), .unset] [(.int (1 : Int32))]) _
    refine Go.of (fun tg_ kk_ => XS.ifNo X518.here hx rfl (hb hby at_147) rfl ((if0 _ _).trans (feq (show ¬ ((1 : Int32) = (0 : Int32)) by decide)).1) kk_) ?_
    show Go p e below T518 (mkF m 150 #[.val (.int p0), .val (.int p1), .val (.int (2 : Int32)), .val (.ref b374), .val (.int (1 : Int32)), .val (.ref b476), .unset] []) _
    refine Go.of (fun tg_ kk_ => XS.iconst X518.here hx rfl (hb hby at_150) kk_) ?_
    show Go p e below T518 (mkF m 151 #[.val (.int p0), .val (.int p1), .val (.int (2 : Int32)), .val (.ref b374), .val (.int (1 : Int32)), .val (.ref b476), .unset] [(.int (1 : Int32))]) _
    refine Go.of (fun tg_ kk_ => XS.goto X518.here hx rfl (pc0 := 151) (pc' := 155) rfl (hb hby at_151) (by decide) (by decide) kk_) ?_
    show Go p e below T518 (mkF m 155 #[.val (.int p0), .val (.int p1), .val (.int (2 : Int32)), .val (.ref b374), .val (.int (1 : Int32)), .val (.ref b476), .unset] [(.int (1 : Int32))]) _
    refine Go.of (fun tg_ kk_ => XS.istore X518.here hx rfl (hb hby at_155) rfl (l' := #[.val (.int p0), .val (.int p1), .val (.int (2 : Int32)), .val (.ref b374), .val (.int (1 : Int32)), .val (.ref b476), .unset]) rfl kk_) ?_
    show Go p e below T518 (mkF m 157 #[.val (.int p0), .val (.int p1), .val (.int (2 : Int32)), .val (.ref b374), .val (.int (1 : Int32)), .val (.ref b476), .unset] []) _
    refine Go.of (fun tg_ kk_ => XS.iload X518.here hx rfl (hb hby at_157) rfl kk_) ?_
    show Go p e below T518 (mkF m 159 #[.val (.int p0), .val (.int p1), .val (.int (2 : Int32)), .val (.ref b374), .val (.int (1 : Int32)), .val (.ref b476), .unset] [(.int (1 : Int32))]) _
    refine Go.of (fun tg_ kk_ => XS.ifNo X518.here hx rfl (hb hby at_159) rfl ((if0 _ _).trans (feq (show ¬ ((1 : Int32) = (0 : Int32)) by decide)).1) kk_) ?_
    show Go p e below T518 (mkF m 162 #[.val (.int p0), .val (.int p1), .val (.int (2 : Int32)), .val (.ref b374), .val (.int (1 : Int32)), .val (.ref b476), .unset] []) _
    refine Go.of (fun tg_ kk_ => XS.aload X518.here hx rfl (hb hby at_162) rfl rfl kk_) ?_
    show Go p e below T518 (mkF m 164 #[.val (.int p0), .val (.int p1), .val (.int (2 : Int32)), .val (.ref b374), .val (.int (1 : Int32)), .val (.ref b476), .unset] [(.ref b476)]) _
    obtain ⟨cq519, kq519, q519a, q519b, q519c⟩ := isOf hZ e518 F508
    obtain ⟨_, _, ⟨T519, L519, k519, n519⟩, -, X519, ⟨Lc519, hQ519, l519, y519, z519⟩, st519⟩ := X518.virtualBack hx (y := (⟨"com/example/attestry/attestry/DerReader", "hasNext", "()Z"⟩ : MethodName)) (z := (⟨"com/example/attestry/attestry/DerReader", "hasNext", "()Z"⟩ : MethodName)) hown (mvT hZ (hw _ (List.mem_of_getElem? (i := 34) rfl))) (mvT hZ (hw _ (List.mem_of_getElem? (i := 35) rfl))) (notFace_of_selects (args := #[]) (mvT hZ (hw _ (List.mem_of_getElem? (i := 37) rfl)))) (mvT hZ (hw _ (List.mem_of_getElem? (i := 37) rfl))) (mvT hZ (hw _ (List.mem_of_getElem? (i := 36) rfl))) (by decide) (backOf (W := 0) (rm5 l Z a0 hw [] b476 (0 : Int32) (10 : Int32) T498.heap n0 Zs516 Fposition_498 Fend_498) hZ (hw _ (List.mem_of_getElem? (i := 38) rfl)) (hw _ (List.mem_of_getElem? (i := 8) rfl)) (by decide) (by decide)) q519a q519c (g := (mkF m 164 #[.val (.int p0), .val (.int p1), .val (.int (2 : Int32)), .val (.ref b374), .val (.int (1 : Int32)), .val (.ref b476), .unset] [(.ref b476)])) rfl (by rw [hml]; rfl) (Steps.refl _) (argsL := []) (rest := []) (lenOf pd_1 rfl) rfl (by show 2 * 0 + _ ≤ _; exact Nat.le_of_eq rfl) (hb hby at_164) (fun _ _ => ⟨rfl, e518, (show 6 + 0 ≤ 32 from by decide), (show 24 + 0 ≤ 2240 from by decide)⟩)
    dsimp only [Pt.U, Pt.locs, Pt.cells, Pt.slots] at X519 l519 y519 z519 st519 hQ519
    have X519 := own_stand X519 l519 y519 z519
    obtain ⟨hv519, N519q, e519⟩ := hQ519
    rw [if_pos (show ((0 : Int32) < (10 : Int32)) by decide)] at hv519
    subst hv519
    have N519 := Fr.app N518 N519q
    refine Go.of (fun tg_ kk_ => st519.trans kk_) ?_
    show Go p e below T519 (mkF m 167 #[.val (.int p0), .val (.int p1), .val (.int (2 : Int32)), .val (.ref b374), .val (.int (1 : Int32)), .val (.ref b476), .unset] [(.int (1 : Int32))]) _
    refine Go.of (fun tg_ kk_ => XS.ifNo X519.here hx rfl (hb hby at_167) rfl ((if0 _ _).trans (feq (show ¬ ((1 : Int32) = (0 : Int32)) by decide)).1) kk_) ?_
    show Go p e below T519 (mkF m 170 #[.val (.int p0), .val (.int p1), .val (.int (2 : Int32)), .val (.ref b374), .val (.int (1 : Int32)), .val (.ref b476), .unset] []) _
    refine Go.of (fun tg_ kk_ => XS.iconst X519.here hx rfl (hb hby at_170) kk_) ?_
    show Go p e below T519 (mkF m 171 #[.val (.int p0), .val (.int p1), .val (.int (2 : Int32)), .val (.ref b374), .val (.int (1 : Int32)), .val (.ref b476), .unset] [(.int (1 : Int32))]) _
    refine Go.of (fun tg_ kk_ => XS.goto X519.here hx rfl (pc0 := 171) (pc' := 175) rfl (hb hby at_171) (by decide) (by decide) kk_) ?_
    show Go p e below T519 (mkF m 175 #[.val (.int p0), .val (.int p1), .val (.int (2 : Int32)), .val (.ref b374), .val (.int (1 : Int32)), .val (.ref b476), .unset] [(.int (1 : Int32))]) _
    refine Go.of (fun tg_ kk_ => XS.istore X519.here hx rfl (hb hby at_175) rfl (l' := #[.val (.int p0), .val (.int p1), .val (.int (2 : Int32)), .val (.ref b374), .val (.int (1 : Int32)), .val (.ref b476), .unset]) rfl kk_) ?_
    show Go p e below T519 (mkF m 177 #[.val (.int p0), .val (.int p1), .val (.int (2 : Int32)), .val (.ref b374), .val (.int (1 : Int32)), .val (.ref b476), .unset] []) _
    refine Go.of (fun tg_ kk_ => XS.aload X519.here hx rfl (hb hby at_177) rfl rfl kk_) ?_
    show Go p e below T519 (mkF m 179 #[.val (.int p0), .val (.int p1), .val (.int (2 : Int32)), .val (.ref b374), .val (.int (1 : Int32)), .val (.ref b476), .unset] [(.ref b476)]) _
    obtain ⟨cq520, kq520, q520a, q520b, q520c⟩ := isOf hZ e519 F508
    obtain ⟨_, _, ⟨T520, L520, k520, n520⟩, -, Xq520, hSq520, hgr520, ⟨Lc520, hQ520, l520, y520, z520⟩, st520⟩ := X519.virtualBackS hx (y := (⟨"com/example/attestry/attestry/DerReader", "sequence", "()Lcom/example/attestry/attestry/DerReader;"⟩ : MethodName)) (z := (⟨"com/example/attestry/attestry/DerReader", "sequence", "()Lcom/example/attestry/attestry/DerReader;"⟩ : MethodName)) hown (mvT hZ (hw _ (List.mem_of_getElem? (i := 39) rfl))) (mvT hZ (hw _ (List.mem_of_getElem? (i := 40) rfl))) (notFace_of_selects (args := #[]) (mvT hZ (hw _ (List.mem_of_getElem? (i := 42) rfl)))) (mvT hZ (hw _ (List.mem_of_getElem? (i := 42) rfl))) (mvT hZ (hw _ (List.mem_of_getElem? (i := 41) rfl))) (by decide) (backOfS (W := 0) (rm6 l Z a0 hw [] b476 b374 q498 (0 : Int32) (0 : Int32) (10 : Int32) (1 : Int32) f431 (4 : Int32) T498.heap n0 Zs516 gx476 F508 Fbytes_498 FberNote_498 Fstart_498 Fposition_498 Fend_498 Fdepth_498 F499 (Ne.symm ne477) (by decide +kernel) ⟨by decide +kernel, by decide +kernel⟩ (by rw [show ((0 : Int32)).toNatClampNeg = 0 from by decide +kernel, by0_]; decide +kernel) (by decide +kernel) ⟨by decide +kernel, by decide +kernel⟩ (by rw [show (((0 : Int32) + (1 : Int32))).toNatClampNeg = 1 from by decide +kernel, by1_]; decide +kernel) (by decide +kernel) (by decide +kernel) (by decide +kernel) (by decide +kernel)) hZ (hw _ (List.mem_of_getElem? (i := 43) rfl)) (hw _ (List.mem_of_getElem? (i := 8) rfl)) (by decide) (by decide)) q520a q520c (g := (mkF m 179 #[.val (.int p0), .val (.int p1), .val (.int (2 : Int32)), .val (.ref b374), .val (.int (1 : Int32)), .val (.ref b476), .unset] [(.ref b476)])) rfl (by rw [hml]; rfl) (Steps.refl _) (argsL := []) (rest := []) (lenOf pd_10 rfl) rfl (by show 2 * 0 + _ ≤ _; exact Nat.le_of_eq rfl) (hb hby at_179) (fun _ _ => ⟨rfl, e519, (show 6 + 3 ≤ 32 from by decide), (show 24 + 42 ≤ 2240 from by decide)⟩)
    dsimp only [Pt.U, Pt.locs, Pt.cells, Pt.slots] at Xq520 l520 y520 z520 st520 hQ520 hSq520 hgr520
    have Xq520 := own_stand Xq520 l520 y520 z520
    obtain ⟨X520, hS520, hZ520, hown520⟩ := rebS hS0 (by rw [e519]; exact hk517) Xq520 hSq520 hgr520 hZ hown
    obtain ⟨c520, rfl, N520q, K520q, gx520, sz520, E520, Fbytes_520, FberNote_520, Fstart_520, Fposition_520, Fend_520, Fdepth_520, Gbytes_520, GberNote_520, Gstart_520, Gposition_520, Gend_520, Gdepth_520⟩ := hQ520
    have N520 := Fr.app N519 N520q
    have sy520 : h0.size ≤ c520 := Nat.le_trans K515.1 sz520
    have ne521 : b374 ≠ c520 := Nat.ne_of_lt (Nat.lt_of_lt_of_le F499.lt sz520)
    have ne522 : b436 ≠ c520 := Nat.ne_of_lt (Nat.lt_of_lt_of_le F500.lt sz520)
    have ne523 : b448 ≠ c520 := Nat.ne_of_lt (Nat.lt_of_lt_of_le F501.lt sz520)
    have ne524 : b476 ≠ c520 := Nat.ne_of_lt (Nat.lt_of_lt_of_le F508.lt sz520)
    have F525 := F499.keep K520q (ninS ne477 nin0)
    have F526 := F500.keep K520q
    have F527 := F501.keep K520q (ninS ne479 nin0)
    have F528 := F502.keep K520q (ninS ne478 nin0)
    have F529 := F503.keep K520q (ninS ne478 nin0)
    have F530 := F504.keep K520q (ninS ne478 nin0)
    have F531 := F505.keep K520q (ninS ne478 nin0)
    have F532 := F506.keep K520q (ninS ne478 nin0)
    have F533 := F507.keep K520q (ninS ne478 nin0)
    have F534 := F508.keep K520q
    have K541 := K515.trans K520q (allS (Or.inr sz476) all0)
    have Zs542 : n0 ≤ T520.heap.size := Nat.le_trans Zs516 K520q.1
    have hk543 := Nat.le_trans hk517 K520q.1
    rw [show ((((0 : Int32) + (1 : Int32)) + (1 : Int32)) + (4 : Int32).toInt64.toInt32) = (6 : Int32) from by decide +kernel] at Fposition_520
    rw [show (((0 : Int32) + (1 : Int32)) + (1 : Int32)) = (2 : Int32) from by decide +kernel] at Gposition_520
    rw [show ((((0 : Int32) + (1 : Int32)) + (1 : Int32)) + (4 : Int32).toInt64.toInt32) = (6 : Int32) from by decide +kernel] at Gend_520
    rw [show ((1 : Int32) + (1 : Int32)) = (2 : Int32) from by decide +kernel] at Gdepth_520
    refine Go.of (fun tg_ kk_ => st520.trans kk_) ?_
    show Go p e below T520 (mkF m 182 #[.val (.int p0), .val (.int p1), .val (.int (2 : Int32)), .val (.ref b374), .val (.int (1 : Int32)), .val (.ref b476), .unset] [(.ref c520)]) _
    refine Go.of (fun tg_ kk_ => XS.astore X520.here hx rfl (hb hby at_182) rfl rfl (l' := #[.val (.int p0), .val (.int p1), .val (.int (2 : Int32)), .val (.ref b374), .val (.int (1 : Int32)), .val (.ref b476), .val (.ref c520)]) rfl kk_) ?_
    show Go p e below T520 (mkF m 184 #[.val (.int p0), .val (.int p1), .val (.int (2 : Int32)), .val (.ref b374), .val (.int (1 : Int32)), .val (.ref b476), .val (.ref c520)] []) _
    refine Go.of (fun tg_ kk_ => XS.iload X520.here hx rfl (hb hby at_184) rfl kk_) ?_
    show Go p e below T520 (mkF m 186 #[.val (.int p0), .val (.int p1), .val (.int (2 : Int32)), .val (.ref b374), .val (.int (1 : Int32)), .val (.ref b476), .val (.ref c520)] [(.int (1 : Int32))]) _
    refine Go.of (fun tg_ kk_ => XS.ifNo X520.here hx rfl (hb hby at_186) rfl ((if0 _ _).trans (feq (show ¬ ((1 : Int32) = (0 : Int32)) by decide)).1) kk_) ?_
    show Go p e below T520 (mkF m 189 #[.val (.int p0), .val (.int p1), .val (.int (2 : Int32)), .val (.ref b374), .val (.int (1 : Int32)), .val (.ref b476), .val (.ref c520)] []) _
    refine Go.of (fun tg_ kk_ => XS.aload X520.here hx rfl (hb hby at_189) rfl rfl kk_) ?_
    show Go p e below T520 (mkF m 191 #[.val (.int p0), .val (.int p1), .val (.int (2 : Int32)), .val (.ref b374), .val (.int (1 : Int32)), .val (.ref b476), .val (.ref c520)] [(.ref b476)]) _
    obtain ⟨cq544, kq544, q544a, q544b, q544c⟩ := isOf hZ520 rfl F534
    obtain ⟨_, _, ⟨T544, L544, k544, n544⟩, -, X544, ⟨Lc544, hQ544, l544, y544, z544⟩, st544⟩ := X520.virtualBack hx (y := (⟨"com/example/attestry/attestry/DerReader", "hasNext", "()Z"⟩ : MethodName)) (z := (⟨"com/example/attestry/attestry/DerReader", "hasNext", "()Z"⟩ : MethodName)) hown520 (mvT hZ520 (hw _ (List.mem_of_getElem? (i := 34) rfl))) (mvT hZ520 (hw _ (List.mem_of_getElem? (i := 35) rfl))) (notFace_of_selects (args := #[]) (mvT hZ520 (hw _ (List.mem_of_getElem? (i := 37) rfl)))) (mvT hZ520 (hw _ (List.mem_of_getElem? (i := 37) rfl))) (mvT hZ520 (hw _ (List.mem_of_getElem? (i := 36) rfl))) (by decide) (backOf (W := 0) (rm5 l Z a0 hw [] b476 (6 : Int32) (10 : Int32) T520.heap n0 Zs542 Fposition_520 Fend_520) hZ520 (hw _ (List.mem_of_getElem? (i := 38) rfl)) (hw _ (List.mem_of_getElem? (i := 8) rfl)) (by decide) (by decide)) q544a q544c (g := (mkF m 191 #[.val (.int p0), .val (.int p1), .val (.int (2 : Int32)), .val (.ref b374), .val (.int (1 : Int32)), .val (.ref b476), .val (.ref c520)] [(.ref b476)])) rfl (by rw [hml]; rfl) (Steps.refl _) (argsL := []) (rest := []) (lenOf pd_1 rfl) rfl (by show 2 * 0 + _ ≤ _; exact Nat.le_of_eq rfl) (hb hby at_191) (fun _ _ => ⟨rfl, rfl, (show 9 + 0 ≤ 32 from by decide), (show 66 + 0 ≤ 2240 from by decide)⟩)
    dsimp only [Pt.U, Pt.locs, Pt.cells, Pt.slots] at X544 l544 y544 z544 st544 hQ544
    have X544 := own_stand X544 l544 y544 z544
    obtain ⟨hv544, N544q, e544⟩ := hQ544
    rw [if_pos (show ((6 : Int32) < (10 : Int32)) by decide)] at hv544
    subst hv544
    have N544 := Fr.app N520 N544q
    refine Go.of (fun tg_ kk_ => st544.trans kk_) ?_
    show Go p e below T544 (mkF m 194 #[.val (.int p0), .val (.int p1), .val (.int (2 : Int32)), .val (.ref b374), .val (.int (1 : Int32)), .val (.ref b476), .val (.ref c520)] [(.int (1 : Int32))]) _
    refine Go.of (fun tg_ kk_ => XS.iloadN X544.here hx rfl (hb hby at_194) rfl kk_) ?_
    show Go p e below T544 (mkF m 195 #[.val (.int p0), .val (.int p1), .val (.int (2 : Int32)), .val (.ref b374), .val (.int (1 : Int32)), .val (.ref b476), .val (.ref c520)] [(.int (2 : Int32)), (.int (1 : Int32))]) _
    refine Go.of (fun tg_ kk_ => XS.iconst X544.here hx rfl (hb hby at_195) kk_) ?_
    show Go p e below T544 (mkF m 196 #[.val (.int p0), .val (.int p1), .val (.int (2 : Int32)), .val (.ref b374), .val (.int (1 : Int32)), .val (.ref b476), .val (.ref c520)] [(.int (4 : Int32)), (.int (2 : Int32)), (.int (1 : Int32))]) _
    refine Go.of (fun tg_ kk_ => XS.icmpNo X544.here hx rfl (hb hby at_196) rfl (tlt (show (2 : Int32) < (4 : Int32) by decide)).2.1 kk_) ?_
    show Go p e below T544 (mkF m 199 #[.val (.int p0), .val (.int p1), .val (.int (2 : Int32)), .val (.ref b374), .val (.int (1 : Int32)), .val (.ref b476), .val (.ref c520)] [(.int (1 : Int32))]) _
    refine Go.of (fun tg_ kk_ => XS.iconst X544.here hx rfl (hb hby at_199) kk_) ?_
    show Go p e below T544 (mkF m 200 #[.val (.int p0), .val (.int p1), .val (.int (2 : Int32)), .val (.ref b374), .val (.int (1 : Int32)), .val (.ref b476), .val (.ref c520)] [(.int (1 : Int32)), (.int (1 : Int32))]) _
    refine Go.of (fun tg_ kk_ => XS.goto X544.here hx rfl (pc0 := 200) (pc' := 204) rfl (hb hby at_200) (by decide) (by decide) kk_) ?_
    show Go p e below T544 (mkF m 204 #[.val (.int p0), .val (.int p1), .val (.int (2 : Int32)), .val (.ref b374), .val (.int (1 : Int32)), .val (.ref b476), .val (.ref c520)] [(.int (1 : Int32)), (.int (1 : Int32))]) _
    refine Go.of (fun tg_ kk_ => XS.icmpNo X544.here hx rfl (hb hby at_204) rfl (teq (show (1 : Int32) = (1 : Int32) by decide)).2 kk_) ?_
    show Go p e below T544 (mkF m 207 #[.val (.int p0), .val (.int p1), .val (.int (2 : Int32)), .val (.ref b374), .val (.int (1 : Int32)), .val (.ref b476), .val (.ref c520)] []) _
    refine Go.of (fun tg_ kk_ => XS.iconst X544.here hx rfl (hb hby at_207) kk_) ?_
    show Go p e below T544 (mkF m 208 #[.val (.int p0), .val (.int p1), .val (.int (2 : Int32)), .val (.ref b374), .val (.int (1 : Int32)), .val (.ref b476), .val (.ref c520)] [(.int (1 : Int32))]) _
    refine Go.of (fun tg_ kk_ => XS.goto X544.here hx rfl (pc0 := 208) (pc' := 212) rfl (hb hby at_208) (by decide) (by decide) kk_) ?_
    show Go p e below T544 (mkF m 212 #[.val (.int p0), .val (.int p1), .val (.int (2 : Int32)), .val (.ref b374), .val (.int (1 : Int32)), .val (.ref b476), .val (.ref c520)] [(.int (1 : Int32))]) _
    refine Go.of (fun tg_ kk_ => XS.istore X544.here hx rfl (hb hby at_212) rfl (l' := #[.val (.int p0), .val (.int p1), .val (.int (2 : Int32)), .val (.ref b374), .val (.int (1 : Int32)), .val (.ref b476), .val (.ref c520)]) rfl kk_) ?_
    show Go p e below T544 (mkF m 214 #[.val (.int p0), .val (.int p1), .val (.int (2 : Int32)), .val (.ref b374), .val (.int (1 : Int32)), .val (.ref b476), .val (.ref c520)] []) _
    refine Go.of (fun tg_ kk_ => XS.iload X544.here hx rfl (hb hby at_214) rfl kk_) ?_
    show Go p e below T544 (mkF m 216 #[.val (.int p0), .val (.int p1), .val (.int (2 : Int32)), .val (.ref b374), .val (.int (1 : Int32)), .val (.ref b476), .val (.ref c520)] [(.int (1 : Int32))]) _
    refine Go.of (fun tg_ kk_ => XS.ifNo X544.here hx rfl (hb hby at_216) rfl ((if0 _ _).trans (feq (show ¬ ((1 : Int32) = (0 : Int32)) by decide)).1) kk_) ?_
    show Go p e below T544 (mkF m 219 #[.val (.int p0), .val (.int p1), .val (.int (2 : Int32)), .val (.ref b374), .val (.int (1 : Int32)), .val (.ref b476), .val (.ref c520)] []) _
    refine Go.of (fun tg_ kk_ => XS.aload X544.here hx rfl (hb hby at_219) rfl rfl kk_) ?_
    show Go p e below T544 (mkF m 221 #[.val (.int p0), .val (.int p1), .val (.int (2 : Int32)), .val (.ref b374), .val (.int (1 : Int32)), .val (.ref b476), .val (.ref c520)] [(.ref c520)]) _
    obtain ⟨cq545, kq545, q545a, q545b, q545c⟩ := isOf hZ520 e544 E520
    obtain ⟨_, _, ⟨T545, L545, k545, n545⟩, -, X545, ⟨Lc545, hQ545, l545, y545, z545⟩, st545⟩ := X544.virtualBack hx (y := (⟨"com/example/attestry/attestry/DerReader", "hasNext", "()Z"⟩ : MethodName)) (z := (⟨"com/example/attestry/attestry/DerReader", "hasNext", "()Z"⟩ : MethodName)) hown520 (mvT hZ520 (hw _ (List.mem_of_getElem? (i := 34) rfl))) (mvT hZ520 (hw _ (List.mem_of_getElem? (i := 35) rfl))) (notFace_of_selects (args := #[]) (mvT hZ520 (hw _ (List.mem_of_getElem? (i := 37) rfl)))) (mvT hZ520 (hw _ (List.mem_of_getElem? (i := 37) rfl))) (mvT hZ520 (hw _ (List.mem_of_getElem? (i := 36) rfl))) (by decide) (backOf (W := 0) (rm5 l Z a0 hw [] c520 (2 : Int32) (6 : Int32) T520.heap n0 Zs542 Gposition_520 Gend_520) hZ520 (hw _ (List.mem_of_getElem? (i := 38) rfl)) (hw _ (List.mem_of_getElem? (i := 8) rfl)) (by decide) (by decide)) q545a q545c (g := (mkF m 221 #[.val (.int p0), .val (.int p1), .val (.int (2 : Int32)), .val (.ref b374), .val (.int (1 : Int32)), .val (.ref b476), .val (.ref c520)] [(.ref c520)])) rfl (by rw [hml]; rfl) (Steps.refl _) (argsL := []) (rest := []) (lenOf pd_1 rfl) rfl (by show 2 * 0 + _ ≤ _; exact Nat.le_of_eq rfl) (hb hby at_221) (fun _ _ => ⟨rfl, e544, (show 9 + 0 ≤ 32 from by decide), (show 66 + 0 ≤ 2240 from by decide)⟩)
    dsimp only [Pt.U, Pt.locs, Pt.cells, Pt.slots] at X545 l545 y545 z545 st545 hQ545
    have X545 := own_stand X545 l545 y545 z545
    obtain ⟨hv545, N545q, e545⟩ := hQ545
    rw [if_pos (show ((2 : Int32) < (6 : Int32)) by decide)] at hv545
    subst hv545
    have N545 := Fr.app N544 N545q
    refine Go.of (fun tg_ kk_ => st545.trans kk_) ?_
    show Go p e below T545 (mkF m 224 #[.val (.int p0), .val (.int p1), .val (.int (2 : Int32)), .val (.ref b374), .val (.int (1 : Int32)), .val (.ref b476), .val (.ref c520)] [(.int (1 : Int32))]) _
    refine Go.of (fun tg_ kk_ => XS.iloadN X545.here hx rfl (hb hby at_224) rfl kk_) ?_
    show Go p e below T545 (mkF m 225 #[.val (.int p0), .val (.int p1), .val (.int (2 : Int32)), .val (.ref b374), .val (.int (1 : Int32)), .val (.ref b476), .val (.ref c520)] [(.int (2 : Int32)), (.int (1 : Int32))]) _
    refine Go.of (fun tg_ kk_ => XS.ifNo X545.here hx rfl (hb hby at_225) rfl ((if0 _ _).trans (tlt (show (0 : Int32) < (2 : Int32) by decide)).2.2.2) kk_) ?_
    show Go p e below T545 (mkF m 228 #[.val (.int p0), .val (.int p1), .val (.int (2 : Int32)), .val (.ref b374), .val (.int (1 : Int32)), .val (.ref b476), .val (.ref c520)] [(.int (1 : Int32))]) _
    refine Go.of (fun tg_ kk_ => XS.iconst X545.here hx rfl (hb hby at_228) kk_) ?_
    show Go p e below T545 (mkF m 229 #[.val (.int p0), .val (.int p1), .val (.int (2 : Int32)), .val (.ref b374), .val (.int (1 : Int32)), .val (.ref b476), .val (.ref c520)] [(.int (1 : Int32)), (.int (1 : Int32))]) _
    refine Go.of (fun tg_ kk_ => XS.goto X545.here hx rfl (pc0 := 229) (pc' := 233) rfl (hb hby at_229) (by decide) (by decide) kk_) ?_
    show Go p e below T545 (mkF m 233 #[.val (.int p0), .val (.int p1), .val (.int (2 : Int32)), .val (.ref b374), .val (.int (1 : Int32)), .val (.ref b476), .val (.ref c520)] [(.int (1 : Int32)), (.int (1 : Int32))]) _
    refine Go.of (fun tg_ kk_ => XS.icmpNo X545.here hx rfl (hb hby at_233) rfl (teq (show (1 : Int32) = (1 : Int32) by decide)).2 kk_) ?_
    show Go p e below T545 (mkF m 236 #[.val (.int p0), .val (.int p1), .val (.int (2 : Int32)), .val (.ref b374), .val (.int (1 : Int32)), .val (.ref b476), .val (.ref c520)] []) _
    refine Go.of (fun tg_ kk_ => XS.iconst X545.here hx rfl (hb hby at_236) kk_) ?_
    show Go p e below T545 (mkF m 237 #[.val (.int p0), .val (.int p1), .val (.int (2 : Int32)), .val (.ref b374), .val (.int (1 : Int32)), .val (.ref b476), .val (.ref c520)] [(.int (1 : Int32))]) _
    refine Go.of (fun tg_ kk_ => XS.goto X545.here hx rfl (pc0 := 237) (pc' := 241) rfl (hb hby at_237) (by decide) (by decide) kk_) ?_
    show Go p e below T545 (mkF m 241 #[.val (.int p0), .val (.int p1), .val (.int (2 : Int32)), .val (.ref b374), .val (.int (1 : Int32)), .val (.ref b476), .val (.ref c520)] [(.int (1 : Int32))]) _
    refine Go.of (fun tg_ kk_ => XS.istore X545.here hx rfl (hb hby at_241) rfl (l' := #[.val (.int p0), .val (.int p1), .val (.int (2 : Int32)), .val (.ref b374), .val (.int (1 : Int32)), .val (.ref b476), .val (.ref c520)]) rfl kk_) ?_
    show Go p e below T545 (mkF m 243 #[.val (.int p0), .val (.int p1), .val (.int (2 : Int32)), .val (.ref b374), .val (.int (1 : Int32)), .val (.ref b476), .val (.ref c520)] []) _
    refine Go.of (fun tg_ kk_ => XS.iloadN X545.here hx rfl (hb hby at_243) rfl kk_) ?_
    show Go p e below T545 (mkF m 244 #[.val (.int p0), .val (.int p1), .val (.int (2 : Int32)), .val (.ref b374), .val (.int (1 : Int32)), .val (.ref b476), .val (.ref c520)] [(.int (2 : Int32))]) _
    refine Go.of (fun tg_ kk_ => XS.ifNo X545.here hx rfl (hb hby at_244) rfl ((if0 _ _).trans (tlt (show (0 : Int32) < (2 : Int32) by decide)).2.2.2) kk_) ?_
    show Go p e below T545 (mkF m 247 #[.val (.int p0), .val (.int p1), .val (.int (2 : Int32)), .val (.ref b374), .val (.int (1 : Int32)), .val (.ref b476), .val (.ref c520)] []) _
    refine Go.of (fun tg_ kk_ => XS.aload X545.here hx rfl (hb hby at_247) rfl rfl kk_) ?_
    show Go p e below T545 (mkF m 249 #[.val (.int p0), .val (.int p1), .val (.int (2 : Int32)), .val (.ref b374), .val (.int (1 : Int32)), .val (.ref b476), .val (.ref c520)] [(.ref c520)]) _
    obtain ⟨cq546, kq546, q546a, q546b, q546c⟩ := isOf hZ520 e545 E520
    obtain ⟨_, _, ⟨T546, L546, k546, n546⟩, -, Xq546, hSq546, hgr546, ⟨Lc546, hQ546, l546, y546, z546⟩, st546⟩ := X545.virtualBackS hx (y := (⟨"com/example/attestry/attestry/DerReader", "nullValue", "()V"⟩ : MethodName)) (z := (⟨"com/example/attestry/attestry/DerReader", "nullValue", "()V"⟩ : MethodName)) hown520 (mvT hZ520 (hw _ (List.mem_of_getElem? (i := 81) rfl))) (mvT hZ520 (hw _ (List.mem_of_getElem? (i := 82) rfl))) (notFace_of_selects (args := #[]) (mvT hZ520 (hw _ (List.mem_of_getElem? (i := 84) rfl)))) (mvT hZ520 (hw _ (List.mem_of_getElem? (i := 84) rfl))) (mvT hZ520 (hw _ (List.mem_of_getElem? (i := 83) rfl))) (by decide) (backOfS (W := 0) (rm14 l Z a0 hw [] c520 b374 q498 (0 : Int32) (2 : Int32) (6 : Int32) (2 : Int32) f431 T520.heap n0 Zs542 gx520 E520 Gbytes_520 GberNote_520 Gstart_520 Gposition_520 Gend_520 Gdepth_520 F525 (Ne.symm ne521) (by decide +kernel) ⟨by decide +kernel, by decide +kernel⟩ (by rw [show ((2 : Int32)).toNatClampNeg = 2 from by decide +kernel, by2_]; decide +kernel) (by decide +kernel) ⟨by decide +kernel, by decide +kernel⟩ (by rw [show (((2 : Int32) + (1 : Int32))).toNatClampNeg = 3 from by decide +kernel, by3_]; decide +kernel) (by decide +kernel) (by decide +kernel) (by decide +kernel) (by decide +kernel)) hZ520 (hw _ (List.mem_of_getElem? (i := 85) rfl)) (hw _ (List.mem_of_getElem? (i := 8) rfl)) (by decide) (by decide)) q546a q546c (g := (mkF m 249 #[.val (.int p0), .val (.int p1), .val (.int (2 : Int32)), .val (.ref b374), .val (.int (1 : Int32)), .val (.ref b476), .val (.ref c520)] [(.ref c520)])) rfl (by rw [hml]; rfl) (Steps.refl _) (argsL := []) (rest := []) (lenOf pd_0 rfl) rfl (by show 2 * 0 + _ ≤ _; exact Nat.le_of_eq rfl) (hb hby at_249) (fun _ _ => ⟨rfl, e545, (show 9 + 3 ≤ 32 from by decide), (show 66 + 26 ≤ 2240 from by decide)⟩)
    dsimp only [Pt.U, Pt.locs, Pt.cells, Pt.slots] at Xq546 l546 y546 z546 st546 hQ546 hSq546 hgr546
    have Xq546 := own_stand Xq546 l546 y546 z546
    obtain ⟨X546, hS546, hZ546, hown546⟩ := rebS hS520 (by rw [e545]; exact (Nat.le_refl T520.heap.size)) Xq546 hSq546 hgr546 hZ520 hown520
    obtain ⟨rfl, N546q, K546q, Fbytes_546, FberNote_546, Fstart_546, Fposition_546, Fend_546, Fdepth_546⟩ := hQ546
    have N546 := Fr.app N545 N546q
    have F547 := F525.keep K546q (ninS ne521 nin0)
    have F548 := F526.keep K546q
    have F549 := F527.keep K546q (ninS ne523 nin0)
    have F550 := F528.keep K546q (ninS ne522 nin0)
    have F551 := F529.keep K546q (ninS ne522 nin0)
    have F552 := F530.keep K546q (ninS ne522 nin0)
    have F553 := F531.keep K546q (ninS ne522 nin0)
    have F554 := F532.keep K546q (ninS ne522 nin0)
    have F555 := F533.keep K546q (ninS ne522 nin0)
    have F556 := F534.keep K546q
    have F557 := Fbytes_520.keep K546q (ninS ne524 nin0)
    have F558 := FberNote_520.keep K546q (ninS ne524 nin0)
    have F559 := Fstart_520.keep K546q (ninS ne524 nin0)
    have F560 := Fposition_520.keep K546q (ninS ne524 nin0)
    have F561 := Fend_520.keep K546q (ninS ne524 nin0)
    have F562 := Fdepth_520.keep K546q (ninS ne524 nin0)
    have F569 := E520.keep K546q
    have K570 := K541.trans K546q (allS (Or.inr sy520) all0)
    have Zs571 : n0 ≤ T546.heap.size := Nat.le_trans Zs542 K546q.1
    have hk572 := Nat.le_trans (Nat.le_refl T520.heap.size) K546q.1
    rw [show ((((2 : Int32) + (1 : Int32)) + (1 : Int32)) + (0 : Int32).toInt64.toInt32) = (4 : Int32) from by decide +kernel] at Fposition_546
    refine Go.of (fun tg_ kk_ => st546.trans kk_) ?_
    show Go p e below T546 (mkF m 252 #[.val (.int p0), .val (.int p1), .val (.int (2 : Int32)), .val (.ref b374), .val (.int (1 : Int32)), .val (.ref b476), .val (.ref c520)] []) _
    refine Go.of (fun tg_ kk_ => XS.iload X546.here hx rfl (hb hby at_252) rfl kk_) ?_
    show Go p e below T546 (mkF m 254 #[.val (.int p0), .val (.int p1), .val (.int (2 : Int32)), .val (.ref b374), .val (.int (1 : Int32)), .val (.ref b476), .val (.ref c520)] [(.int (1 : Int32))]) _
    refine Go.of (fun tg_ kk_ => XS.ifNo X546.here hx rfl (hb hby at_254) rfl ((if0 _ _).trans (feq (show ¬ ((1 : Int32) = (0 : Int32)) by decide)).1) kk_) ?_
    show Go p e below T546 (mkF m 257 #[.val (.int p0), .val (.int p1), .val (.int (2 : Int32)), .val (.ref b374), .val (.int (1 : Int32)), .val (.ref b476), .val (.ref c520)] []) _
    refine Go.of (fun tg_ kk_ => XS.aload X546.here hx rfl (hb hby at_257) rfl rfl kk_) ?_
    show Go p e below T546 (mkF m 259 #[.val (.int p0), .val (.int p1), .val (.int (2 : Int32)), .val (.ref b374), .val (.int (1 : Int32)), .val (.ref b476), .val (.ref c520)] [(.ref c520)]) _
    obtain ⟨cq573, kq573, q573a, q573b, q573c⟩ := isOf hZ546 rfl F569
    obtain ⟨_, _, ⟨T573, L573, k573, n573⟩, -, X573, ⟨Lc573, hQ573, l573, y573, z573⟩, st573⟩ := X546.virtualBack hx (y := (⟨"com/example/attestry/attestry/DerReader", "hasNext", "()Z"⟩ : MethodName)) (z := (⟨"com/example/attestry/attestry/DerReader", "hasNext", "()Z"⟩ : MethodName)) hown546 (mvT hZ546 (hw _ (List.mem_of_getElem? (i := 34) rfl))) (mvT hZ546 (hw _ (List.mem_of_getElem? (i := 35) rfl))) (notFace_of_selects (args := #[]) (mvT hZ546 (hw _ (List.mem_of_getElem? (i := 37) rfl)))) (mvT hZ546 (hw _ (List.mem_of_getElem? (i := 37) rfl))) (mvT hZ546 (hw _ (List.mem_of_getElem? (i := 36) rfl))) (by decide) (backOf (W := 0) (rm5 l Z a0 hw [] c520 (4 : Int32) (6 : Int32) T546.heap n0 Zs571 Fposition_546 Fend_546) hZ546 (hw _ (List.mem_of_getElem? (i := 38) rfl)) (hw _ (List.mem_of_getElem? (i := 8) rfl)) (by decide) (by decide)) q573a q573c (g := (mkF m 259 #[.val (.int p0), .val (.int p1), .val (.int (2 : Int32)), .val (.ref b374), .val (.int (1 : Int32)), .val (.ref b476), .val (.ref c520)] [(.ref c520)])) rfl (by rw [hml]; rfl) (Steps.refl _) (argsL := []) (rest := []) (lenOf pd_1 rfl) rfl (by show 2 * 0 + _ ≤ _; exact Nat.le_of_eq rfl) (hb hby at_259) (fun _ _ => ⟨rfl, rfl, (show 12 + 0 ≤ 32 from by decide), (show 92 + 0 ≤ 2240 from by decide)⟩)
    dsimp only [Pt.U, Pt.locs, Pt.cells, Pt.slots] at X573 l573 y573 z573 st573 hQ573
    have X573 := own_stand X573 l573 y573 z573
    obtain ⟨hv573, N573q, e573⟩ := hQ573
    rw [if_pos (show ((4 : Int32) < (6 : Int32)) by decide)] at hv573
    subst hv573
    have N573 := Fr.app N546 N573q
    refine Go.of (fun tg_ kk_ => st573.trans kk_) ?_
    show Go p e below T573 (mkF m 262 #[.val (.int p0), .val (.int p1), .val (.int (2 : Int32)), .val (.ref b374), .val (.int (1 : Int32)), .val (.ref b476), .val (.ref c520)] [(.int (1 : Int32))]) _
    refine Go.of (fun tg_ kk_ => XS.iloadN X573.here hx rfl (hb hby at_262) rfl kk_) ?_
    show Go p e below T573 (mkF m 263 #[.val (.int p0), .val (.int p1), .val (.int (2 : Int32)), .val (.ref b374), .val (.int (1 : Int32)), .val (.ref b476), .val (.ref c520)] [(.int (2 : Int32)), (.int (1 : Int32))]) _
    refine Go.of (fun tg_ kk_ => XS.iconst X573.here hx rfl (hb hby at_263) kk_) ?_
    show Go p e below T573 (mkF m 264 #[.val (.int p0), .val (.int p1), .val (.int (2 : Int32)), .val (.ref b374), .val (.int (1 : Int32)), .val (.ref b476), .val (.ref c520)] [(.int (1 : Int32)), (.int (2 : Int32)), (.int (1 : Int32))]) _
    refine Go.of (fun tg_ kk_ => XS.icmpNo X573.here hx rfl (hb hby at_264) rfl (tlt (show (1 : Int32) < (2 : Int32) by decide)).2.2.2 kk_) ?_
    show Go p e below T573 (mkF m 267 #[.val (.int p0), .val (.int p1), .val (.int (2 : Int32)), .val (.ref b374), .val (.int (1 : Int32)), .val (.ref b476), .val (.ref c520)] [(.int (1 : Int32))]) _
    refine Go.of (fun tg_ kk_ => XS.iconst X573.here hx rfl (hb hby at_267) kk_) ?_
    show Go p e below T573 (mkF m 268 #[.val (.int p0), .val (.int p1), .val (.int (2 : Int32)), .val (.ref b374), .val (.int (1 : Int32)), .val (.ref b476), .val (.ref c520)] [(.int (1 : Int32)), (.int (1 : Int32))]) _
    refine Go.of (fun tg_ kk_ => XS.goto X573.here hx rfl (pc0 := 268) (pc' := 272) rfl (hb hby at_268) (by decide) (by decide) kk_) ?_
    show Go p e below T573 (mkF m 272 #[.val (.int p0), .val (.int p1), .val (.int (2 : Int32)), .val (.ref b374), .val (.int (1 : Int32)), .val (.ref b476), .val (.ref c520)] [(.int (1 : Int32)), (.int (1 : Int32))]) _
    refine Go.of (fun tg_ kk_ => XS.icmpNo X573.here hx rfl (hb hby at_272) rfl (teq (show (1 : Int32) = (1 : Int32) by decide)).2 kk_) ?_
    show Go p e below T573 (mkF m 275 #[.val (.int p0), .val (.int p1), .val (.int (2 : Int32)), .val (.ref b374), .val (.int (1 : Int32)), .val (.ref b476), .val (.ref c520)] []) _
    refine Go.of (fun tg_ kk_ => XS.iconst X573.here hx rfl (hb hby at_275) kk_) ?_
    show Go p e below T573 (mkF m 276 #[.val (.int p0), .val (.int p1), .val (.int (2 : Int32)), .val (.ref b374), .val (.int (1 : Int32)), .val (.ref b476), .val (.ref c520)] [(.int (1 : Int32))]) _
    refine Go.of (fun tg_ kk_ => XS.goto X573.here hx rfl (pc0 := 276) (pc' := 280) rfl (hb hby at_276) (by decide) (by decide) kk_) ?_
    show Go p e below T573 (mkF m 280 #[.val (.int p0), .val (.int p1), .val (.int (2 : Int32)), .val (.ref b374), .val (.int (1 : Int32)), .val (.ref b476), .val (.ref c520)] [(.int (1 : Int32))]) _
    refine Go.of (fun tg_ kk_ => XS.istore X573.here hx rfl (hb hby at_280) rfl (l' := #[.val (.int p0), .val (.int p1), .val (.int (2 : Int32)), .val (.ref b374), .val (.int (1 : Int32)), .val (.ref b476), .val (.ref c520)]) rfl kk_) ?_
    show Go p e below T573 (mkF m 282 #[.val (.int p0), .val (.int p1), .val (.int (2 : Int32)), .val (.ref b374), .val (.int (1 : Int32)), .val (.ref b476), .val (.ref c520)] []) _
    refine Go.of (fun tg_ kk_ => XS.iload X573.here hx rfl (hb hby at_282) rfl kk_) ?_
    show Go p e below T573 (mkF m 284 #[.val (.int p0), .val (.int p1), .val (.int (2 : Int32)), .val (.ref b374), .val (.int (1 : Int32)), .val (.ref b476), .val (.ref c520)] [(.int (1 : Int32))]) _
    obtain ⟨fs, hr, hrun, hended, hend⟩ := X573.leaveW hS546 (by rw [e573]; exact (Nat.le_refl T546.heap.size)) (v := some (.int (1 : Int32))) (fun h => by rw [Bd.returns] at h; cases h)
    refine ⟨_, _, ?_, hrun, hended, _, _, rfl, ?_, hend.1, hend.2.1, hend.2.2.1, hend.2.2.2.mono (by decide) (by decide)⟩
    · exact retN X573 hx (t := .boolean) Bd.returns (by simp) (hb hby at_284) hr
    · show Q0 Z p0 p1 h0 n0 _ T573.heap _
      rw [e573]
      exact ⟨rfl, N573⟩
  · subst hs1
    show Go p e below s₁ (mkF m 6 #[.val (.int p0), .val (.int p1), .unset, .unset, .unset, .unset, .unset] [(.int (3 : Int32))]) _
    refine Go.of (fun tg_ kk_ => XS.istoreN X0.here hx rfl (hb hby at_6) rfl (l' := #[.val (.int p0), .val (.int p1), .val (.int (3 : Int32)), .unset, .unset, .unset, .unset]) rfl kk_) ?_
    show Go p e below s₁ (mkF m 7 #[.val (.int p0), .val (.int p1), .val (.int (3 : Int32)), .unset, .unset, .unset, .unset] []) _
    refine Go.of (fun tg_ kk_ => XS.bipush X0.here hx rfl (hb hby at_7) kk_) ?_
    show Go p e below s₁ (mkF m 9 #[.val (.int p0), .val (.int p1), .val (.int (3 : Int32)), .unset, .unset, .unset, .unset] [(.int (10 : Int32))]) _
    obtain ⟨T574, h574, k574, X574, e574, E574, A574, st574⟩ := newP X0 hx hZ (hw _ (List.mem_of_getElem? (i := 1) rfl)) e0 (g := (mkF m 9 #[.val (.int p0), .val (.int p1), .val (.int (3 : Int32)), .unset, .unset, .unset, .unset] [(.int (10 : Int32))])) rfl (hb hby at_9) rfl (by decide) (cap := 10) (by decide) (by decide) (by decide) (by decide)
    obtain ⟨b574, g574⟩ : ∃ zz_, zz_ = h0.size := ⟨_, rfl⟩
    rw [← g574] at A574 st574
    have gx574 : n0 ≤ b574 := Nat.le_trans Z0 (Nat.le_of_eq g574.symm)
    have sz574 : h0.size ≤ b574 := Nat.le_trans K0.1 (Nat.le_of_eq g574.symm)
    have K575 := K0.ext E574
    have Zs576 : n0 ≤ h574.size := Nat.le_trans Z0 E574.1
    have hk577 := Nat.le_trans hk0 E574.1
    have V574 : Af Z h574 b574 .byte 10 (fun _ => 0) := Af.new rfl A574 (by decide)
    refine Go.of (st574) ?_
    show Go p e below T574 (mkF m 11 #[.val (.int p0), .val (.int p1), .val (.int (3 : Int32)), .unset, .unset, .unset, .unset] [(.ref b574)]) _
    refine Go.of (fun tg_ kk_ => XS.astoreN X574.here hx rfl (hb hby at_11) rfl rfl (l' := #[.val (.int p0), .val (.int p1), .val (.int (3 : Int32)), .val (.ref b574), .unset, .unset, .unset]) rfl kk_) ?_
    show Go p e below T574 (mkF m 12 #[.val (.int p0), .val (.int p1), .val (.int (3 : Int32)), .val (.ref b574), .unset, .unset, .unset] []) _
    refine Go.of (fun tg_ kk_ => XS.aloadN X574.here hx rfl (hb hby at_12) rfl rfl kk_) ?_
    show Go p e below T574 (mkF m 13 #[.val (.int p0), .val (.int p1), .val (.int (3 : Int32)), .val (.ref b574), .unset, .unset, .unset] [(.ref b574)]) _
    refine Go.of (fun tg_ kk_ => XS.iconst X574.here hx rfl (hb hby at_13) kk_) ?_
    show Go p e below T574 (mkF m 14 #[.val (.int p0), .val (.int p1), .val (.int (3 : Int32)), .val (.ref b574), .unset, .unset, .unset] [(.int (0 : Int32)), (.ref b574)]) _
    refine Go.of (fun tg_ kk_ => XS.bipush X574.here hx rfl (hb hby at_14) kk_) ?_
    show Go p e below T574 (mkF m 16 #[.val (.int p0), .val (.int p1), .val (.int (3 : Int32)), .val (.ref b574), .unset, .unset, .unset] [(.int (48 : Int32)), (.int (0 : Int32)), (.ref b574)]) _
    have ib578 := (show ¬ ((0 : Int32) < 0) ∧ ((0 : Int32)).toNatClampNeg < 10 from ⟨by decide, by decide⟩)
    obtain ⟨cl578, Ar578, S578, H578⟩ := id V574
    obtain ⟨T578, h578, X578, e578, W578, st578⟩ := stB X574 hx hZ e574 Ar578 (j := (0 : Int32)) (Af.inb S578 ib578) (g := (mkF m 16 #[.val (.int p0), .val (.int p1), .val (.int (3 : Int32)), .val (.ref b574), .unset, .unset, .unset] [(.int (48 : Int32)), (.int (0 : Int32)), (.ref b574)])) rfl rfl (hb hby at_16)
    obtain ⟨f578, qf578⟩ : ∃ qq_ : Nat → Int32, qq_ = upd (fun _ => 0) 0 (48 : Int32) := ⟨_, rfl⟩
    have V578 : Af Z h578 b574 .byte 10 f578 := by rw [qf578]; exact Af.set Ar578 S578 H578 W578 (by decide)
    have K580 := K575.wr W578 (Or.inr sz574)
    have Zs581 : n0 ≤ h578.size := Nat.le_trans Zs576 (Keep.of_wr W578).1
    have hk582 := Nat.le_trans hk577 (Keep.of_wr W578).1
    have N578 := Fr.snoc X578 N0 gx574
    refine Go.of (st578) ?_
    show Go p e below T578 (mkF m 17 #[.val (.int p0), .val (.int p1), .val (.int (3 : Int32)), .val (.ref b574), .unset, .unset, .unset] []) _
    refine Go.of (fun tg_ kk_ => XS.aloadN X578.here hx rfl (hb hby at_17) rfl rfl kk_) ?_
    show Go p e below T578 (mkF m 18 #[.val (.int p0), .val (.int p1), .val (.int (3 : Int32)), .val (.ref b574), .unset, .unset, .unset] [(.ref b574)]) _
    refine Go.of (fun tg_ kk_ => XS.iconst X578.here hx rfl (hb hby at_18) kk_) ?_
    show Go p e below T578 (mkF m 19 #[.val (.int p0), .val (.int p1), .val (.int (3 : Int32)), .val (.ref b574), .unset, .unset, .unset] [(.int (1 : Int32)), (.ref b574)]) _
    refine Go.of (fun tg_ kk_ => XS.iconst X578.here hx rfl (hb hby at_19) kk_) ?_
    show Go p e below T578 (mkF m 20 #[.val (.int p0), .val (.int p1), .val (.int (3 : Int32)), .val (.ref b574), .unset, .unset, .unset] [(.int (2 : Int32)), (.int (1 : Int32)), (.ref b574)]) _
    refine Go.of (fun tg_ kk_ => XS.iloadN X578.here hx rfl (hb hby at_20) rfl kk_) ?_
    show Go p e below T578 (mkF m 21 #[.val (.int p0), .val (.int p1), .val (.int (3 : Int32)), .val (.ref b574), .unset, .unset, .unset] [(.int (3 : Int32)), (.int (2 : Int32)), (.int (1 : Int32)), (.ref b574)]) _
    refine Go.of (fun tg_ kk_ => XS.imul X578.here hx rfl (hb hby at_21) rfl kk_) ?_
    show Go p e below T578 (mkF m 22 #[.val (.int p0), .val (.int p1), .val (.int (3 : Int32)), .val (.ref b574), .unset, .unset, .unset] [(.int ((2 : Int32) * (3 : Int32))), (.int (1 : Int32)), (.ref b574)]) _
    rw [show ((2 : Int32) * (3 : Int32)) = (6 : Int32) from by decide]
    show Go p e below T578 (mkF m 22 #[.val (.int p0), .val (.int p1), .val (.int (3 : Int32)), .val (.ref b574), .unset, .unset, .unset] [(.int (6 : Int32)), (.int (1 : Int32)), (.ref b574)]) _
    refine Go.of (fun tg_ kk_ => XS.i2b X578.here hx rfl (hb hby at_22) rfl kk_) ?_
    show Go p e below T578 (mkF m 23 #[.val (.int p0), .val (.int p1), .val (.int (3 : Int32)), .val (.ref b574), .unset, .unset, .unset] [(.int ((6 : Int32).toInt8.toInt32)), (.int (1 : Int32)), (.ref b574)]) _
    rw [show ((6 : Int32).toInt8.toInt32) = (6 : Int32) from by decide]
    show Go p e below T578 (mkF m 23 #[.val (.int p0), .val (.int p1), .val (.int (3 : Int32)), .val (.ref b574), .unset, .unset, .unset] [(.int (6 : Int32)), (.int (1 : Int32)), (.ref b574)]) _
    have ib583 := (show ¬ ((1 : Int32) < 0) ∧ ((1 : Int32)).toNatClampNeg < 10 from ⟨by decide, by decide⟩)
    obtain ⟨cl583, Ar583, S583, H583⟩ := id V578
    obtain ⟨T583, h583, X583, e583, W583, st583⟩ := stB X578 hx hZ e578 Ar583 (j := (1 : Int32)) (Af.inb S583 ib583) (g := (mkF m 23 #[.val (.int p0), .val (.int p1), .val (.int (3 : Int32)), .val (.ref b574), .unset, .unset, .unset] [(.int (6 : Int32)), (.int (1 : Int32)), (.ref b574)])) rfl rfl (hb hby at_23)
    obtain ⟨f583, qf583⟩ : ∃ qq_ : Nat → Int32, qq_ = upd f578 1 (6 : Int32) := ⟨_, rfl⟩
    have V583 : Af Z h583 b574 .byte 10 f583 := by rw [qf583]; exact Af.set Ar583 S583 H583 W583 (by decide)
    have K585 := K580.wr W583 (Or.inr sz574)
    have Zs586 : n0 ≤ h583.size := Nat.le_trans Zs581 (Keep.of_wr W583).1
    have hk587 := Nat.le_trans hk582 (Keep.of_wr W583).1
    have N583 := Fr.snoc X583 N578 gx574
    refine Go.of (st583) ?_
    show Go p e below T583 (mkF m 24 #[.val (.int p0), .val (.int p1), .val (.int (3 : Int32)), .val (.ref b574), .unset, .unset, .unset] []) _
    refine Go.of (fun tg_ kk_ => XS.aloadN X583.here hx rfl (hb hby at_24) rfl rfl kk_) ?_
    show Go p e below T583 (mkF m 25 #[.val (.int p0), .val (.int p1), .val (.int (3 : Int32)), .val (.ref b574), .unset, .unset, .unset] [(.ref b574)]) _
    refine Go.of (fun tg_ kk_ => XS.iconst X583.here hx rfl (hb hby at_25) kk_) ?_
    show Go p e below T583 (mkF m 26 #[.val (.int p0), .val (.int p1), .val (.int (3 : Int32)), .val (.ref b574), .unset, .unset, .unset] [(.int (2 : Int32)), (.ref b574)]) _
    refine Go.of (fun tg_ kk_ => XS.iconst X583.here hx rfl (hb hby at_26) kk_) ?_
    show Go p e below T583 (mkF m 27 #[.val (.int p0), .val (.int p1), .val (.int (3 : Int32)), .val (.ref b574), .unset, .unset, .unset] [(.int (2 : Int32)), (.int (2 : Int32)), (.ref b574)]) _
    refine Go.of (fun tg_ kk_ => XS.iloadN X583.here hx rfl (hb hby at_27) rfl kk_) ?_
    show Go p e below T583 (mkF m 28 #[.val (.int p0), .val (.int p1), .val (.int (3 : Int32)), .val (.ref b574), .unset, .unset, .unset] [(.int (3 : Int32)), (.int (2 : Int32)), (.int (2 : Int32)), (.ref b574)]) _
    refine Go.of (fun tg_ kk_ => XS.iloadN X583.here hx rfl (hb hby at_28) rfl kk_) ?_
    show Go p e below T583 (mkF m 29 #[.val (.int p0), .val (.int p1), .val (.int (3 : Int32)), .val (.ref b574), .unset, .unset, .unset] [(.int p1), (.int (3 : Int32)), (.int (2 : Int32)), (.int (2 : Int32)), (.ref b574)]) _
    obtain ⟨_, _, ⟨T588, L588, k588, n588⟩, -, X588, ⟨Lc588, hQ588, l588, y588, z588⟩, st588⟩ := Jvm.LawKit.callS X583 hx (y := (⟨"com/example/attestry/attestry/DerReaderHasNextPinLaw", "slot", "(III)B"⟩ : MethodName)) hown (mvT hZ (hw _ (List.mem_of_getElem? (i := 2) rfl))) (mvT hZ (hw _ (List.mem_of_getElem? (i := 3) rfl))) (mvT hZ (hw _ (List.mem_of_getElem? (i := 4) rfl))) (mvT hZ (hw _ (List.mem_of_getElem? (i := 5) rfl))) (by decide) (backOf (W := 2) (rm1 l Z a0 hw [] (2 : Int32) (3 : Int32) p1 h583 n0 Zs586) hZ (hw _ (List.mem_of_getElem? (i := 5) rfl)) (hw _ (List.mem_of_getElem? (i := 4) rfl)) (by decide) (by decide)) (g := (mkF m 29 #[.val (.int p0), .val (.int p1), .val (.int (3 : Int32)), .val (.ref b574), .unset, .unset, .unset] [(.int p1), (.int (3 : Int32)), (.int (2 : Int32)), (.int (2 : Int32)), (.ref b574)])) rfl (by rw [hml]; rfl) (argsL := [(.int (2 : Int32)), (.int (3 : Int32)), (.int p1)]) (rest := [(.int (2 : Int32)), (.ref b574)]) (lenOf pd_8 rfl) rfl (by show 2 * 0 + _ ≤ _; exact Nat.le_of_eq rfl) (hb hby at_29) (fun _ _ => ⟨rfl, e583, (show 1 + 0 ≤ 32 from by decide), (show 10 + 0 ≤ 2240 from by decide)⟩)
    dsimp only [Pt.U, Pt.locs, Pt.cells, Pt.slots] at X588 l588 y588 z588 st588 hQ588
    have X588 := own_stand X588 l588 y588 z588
    obtain ⟨hv588, N588q, e588⟩ := hQ588
    rw [show slotF (2 : Int32) (3 : Int32) p1 = (5 : Int32) from by rw [slotF, if_pos (by decide), if_pos (by decide)]] at hv588
    subst hv588
    have N588 := Fr.app N583 N588q
    refine Go.of (st588) ?_
    show Go p e below T588 (mkF m 32 #[.val (.int p0), .val (.int p1), .val (.int (3 : Int32)), .val (.ref b574), .unset, .unset, .unset] [(.int (5 : Int32)), (.int (2 : Int32)), (.ref b574)]) _
    have ib589 := (show ¬ ((2 : Int32) < 0) ∧ ((2 : Int32)).toNatClampNeg < 10 from ⟨by decide, by decide⟩)
    obtain ⟨cl589, Ar589, S589, H589⟩ := id V583
    obtain ⟨T589, h589, X589, e589, W589, st589⟩ := stB X588 hx hZ e588 Ar589 (j := (2 : Int32)) (Af.inb S589 ib589) (g := (mkF m 32 #[.val (.int p0), .val (.int p1), .val (.int (3 : Int32)), .val (.ref b574), .unset, .unset, .unset] [(.int (5 : Int32)), (.int (2 : Int32)), (.ref b574)])) rfl rfl (hb hby at_32)
    obtain ⟨f589, qf589⟩ : ∃ qq_ : Nat → Int32, qq_ = upd f583 2 (5 : Int32) := ⟨_, rfl⟩
    have V589 : Af Z h589 b574 .byte 10 f589 := by rw [qf589]; exact Af.set Ar589 S589 H589 W589 (by decide)
    have K591 := K585.wr W589 (Or.inr sz574)
    have Zs592 : n0 ≤ h589.size := Nat.le_trans Zs586 (Keep.of_wr W589).1
    have hk593 := Nat.le_trans hk587 (Keep.of_wr W589).1
    have N589 := Fr.snoc X589 N588 gx574
    refine Go.of (st589) ?_
    show Go p e below T589 (mkF m 33 #[.val (.int p0), .val (.int p1), .val (.int (3 : Int32)), .val (.ref b574), .unset, .unset, .unset] []) _
    refine Go.of (fun tg_ kk_ => XS.aloadN X589.here hx rfl (hb hby at_33) rfl rfl kk_) ?_
    show Go p e below T589 (mkF m 34 #[.val (.int p0), .val (.int p1), .val (.int (3 : Int32)), .val (.ref b574), .unset, .unset, .unset] [(.ref b574)]) _
    refine Go.of (fun tg_ kk_ => XS.iconst X589.here hx rfl (hb hby at_34) kk_) ?_
    show Go p e below T589 (mkF m 35 #[.val (.int p0), .val (.int p1), .val (.int (3 : Int32)), .val (.ref b574), .unset, .unset, .unset] [(.int (3 : Int32)), (.ref b574)]) _
    refine Go.of (fun tg_ kk_ => XS.iconst X589.here hx rfl (hb hby at_35) kk_) ?_
    show Go p e below T589 (mkF m 36 #[.val (.int p0), .val (.int p1), .val (.int (3 : Int32)), .val (.ref b574), .unset, .unset, .unset] [(.int (3 : Int32)), (.int (3 : Int32)), (.ref b574)]) _
    refine Go.of (fun tg_ kk_ => XS.iloadN X589.here hx rfl (hb hby at_36) rfl kk_) ?_
    show Go p e below T589 (mkF m 37 #[.val (.int p0), .val (.int p1), .val (.int (3 : Int32)), .val (.ref b574), .unset, .unset, .unset] [(.int (3 : Int32)), (.int (3 : Int32)), (.int (3 : Int32)), (.ref b574)]) _
    refine Go.of (fun tg_ kk_ => XS.iloadN X589.here hx rfl (hb hby at_37) rfl kk_) ?_
    show Go p e below T589 (mkF m 38 #[.val (.int p0), .val (.int p1), .val (.int (3 : Int32)), .val (.ref b574), .unset, .unset, .unset] [(.int p1), (.int (3 : Int32)), (.int (3 : Int32)), (.int (3 : Int32)), (.ref b574)]) _
    obtain ⟨_, _, ⟨T594, L594, k594, n594⟩, -, X594, ⟨Lc594, hQ594, l594, y594, z594⟩, st594⟩ := Jvm.LawKit.callS X589 hx (y := (⟨"com/example/attestry/attestry/DerReaderHasNextPinLaw", "slot", "(III)B"⟩ : MethodName)) hown (mvT hZ (hw _ (List.mem_of_getElem? (i := 2) rfl))) (mvT hZ (hw _ (List.mem_of_getElem? (i := 3) rfl))) (mvT hZ (hw _ (List.mem_of_getElem? (i := 4) rfl))) (mvT hZ (hw _ (List.mem_of_getElem? (i := 5) rfl))) (by decide) (backOf (W := 2) (rm1 l Z a0 hw [] (3 : Int32) (3 : Int32) p1 h589 n0 Zs592) hZ (hw _ (List.mem_of_getElem? (i := 5) rfl)) (hw _ (List.mem_of_getElem? (i := 4) rfl)) (by decide) (by decide)) (g := (mkF m 38 #[.val (.int p0), .val (.int p1), .val (.int (3 : Int32)), .val (.ref b574), .unset, .unset, .unset] [(.int p1), (.int (3 : Int32)), (.int (3 : Int32)), (.int (3 : Int32)), (.ref b574)])) rfl (by rw [hml]; rfl) (argsL := [(.int (3 : Int32)), (.int (3 : Int32)), (.int p1)]) (rest := [(.int (3 : Int32)), (.ref b574)]) (lenOf pd_8 rfl) rfl (by show 2 * 0 + _ ≤ _; exact Nat.le_of_eq rfl) (hb hby at_38) (fun _ _ => ⟨rfl, e589, (show 1 + 0 ≤ 32 from by decide), (show 10 + 0 ≤ 2240 from by decide)⟩)
    dsimp only [Pt.U, Pt.locs, Pt.cells, Pt.slots] at X594 l594 y594 z594 st594 hQ594
    have X594 := own_stand X594 l594 y594 z594
    obtain ⟨hv594, N594q, e594⟩ := hQ594
    rw [show slotF (3 : Int32) (3 : Int32) p1 = (0 : Int32) from by rw [slotF, if_pos (by decide), if_neg (by decide)]] at hv594
    subst hv594
    have N594 := Fr.app N589 N594q
    refine Go.of (st594) ?_
    show Go p e below T594 (mkF m 41 #[.val (.int p0), .val (.int p1), .val (.int (3 : Int32)), .val (.ref b574), .unset, .unset, .unset] [(.int (0 : Int32)), (.int (3 : Int32)), (.ref b574)]) _
    have ib595 := (show ¬ ((3 : Int32) < 0) ∧ ((3 : Int32)).toNatClampNeg < 10 from ⟨by decide, by decide⟩)
    obtain ⟨cl595, Ar595, S595, H595⟩ := id V589
    obtain ⟨T595, h595, X595, e595, W595, st595⟩ := stB X594 hx hZ e594 Ar595 (j := (3 : Int32)) (Af.inb S595 ib595) (g := (mkF m 41 #[.val (.int p0), .val (.int p1), .val (.int (3 : Int32)), .val (.ref b574), .unset, .unset, .unset] [(.int (0 : Int32)), (.int (3 : Int32)), (.ref b574)])) rfl rfl (hb hby at_41)
    obtain ⟨f595, qf595⟩ : ∃ qq_ : Nat → Int32, qq_ = upd f589 3 (0 : Int32) := ⟨_, rfl⟩
    have V595 : Af Z h595 b574 .byte 10 f595 := by rw [qf595]; exact Af.set Ar595 S595 H595 W595 (by decide)
    have K597 := K591.wr W595 (Or.inr sz574)
    have Zs598 : n0 ≤ h595.size := Nat.le_trans Zs592 (Keep.of_wr W595).1
    have hk599 := Nat.le_trans hk593 (Keep.of_wr W595).1
    have N595 := Fr.snoc X595 N594 gx574
    refine Go.of (st595) ?_
    show Go p e below T595 (mkF m 42 #[.val (.int p0), .val (.int p1), .val (.int (3 : Int32)), .val (.ref b574), .unset, .unset, .unset] []) _
    refine Go.of (fun tg_ kk_ => XS.aloadN X595.here hx rfl (hb hby at_42) rfl rfl kk_) ?_
    show Go p e below T595 (mkF m 43 #[.val (.int p0), .val (.int p1), .val (.int (3 : Int32)), .val (.ref b574), .unset, .unset, .unset] [(.ref b574)]) _
    refine Go.of (fun tg_ kk_ => XS.iconst X595.here hx rfl (hb hby at_43) kk_) ?_
    show Go p e below T595 (mkF m 44 #[.val (.int p0), .val (.int p1), .val (.int (3 : Int32)), .val (.ref b574), .unset, .unset, .unset] [(.int (4 : Int32)), (.ref b574)]) _
    refine Go.of (fun tg_ kk_ => XS.iconst X595.here hx rfl (hb hby at_44) kk_) ?_
    show Go p e below T595 (mkF m 45 #[.val (.int p0), .val (.int p1), .val (.int (3 : Int32)), .val (.ref b574), .unset, .unset, .unset] [(.int (4 : Int32)), (.int (4 : Int32)), (.ref b574)]) _
    refine Go.of (fun tg_ kk_ => XS.iloadN X595.here hx rfl (hb hby at_45) rfl kk_) ?_
    show Go p e below T595 (mkF m 46 #[.val (.int p0), .val (.int p1), .val (.int (3 : Int32)), .val (.ref b574), .unset, .unset, .unset] [(.int (3 : Int32)), (.int (4 : Int32)), (.int (4 : Int32)), (.ref b574)]) _
    refine Go.of (fun tg_ kk_ => XS.iloadN X595.here hx rfl (hb hby at_46) rfl kk_) ?_
    show Go p e below T595 (mkF m 47 #[.val (.int p0), .val (.int p1), .val (.int (3 : Int32)), .val (.ref b574), .unset, .unset, .unset] [(.int p1), (.int (3 : Int32)), (.int (4 : Int32)), (.int (4 : Int32)), (.ref b574)]) _
    obtain ⟨_, _, ⟨T600, L600, k600, n600⟩, -, X600, ⟨Lc600, hQ600, l600, y600, z600⟩, st600⟩ := Jvm.LawKit.callS X595 hx (y := (⟨"com/example/attestry/attestry/DerReaderHasNextPinLaw", "slot", "(III)B"⟩ : MethodName)) hown (mvT hZ (hw _ (List.mem_of_getElem? (i := 2) rfl))) (mvT hZ (hw _ (List.mem_of_getElem? (i := 3) rfl))) (mvT hZ (hw _ (List.mem_of_getElem? (i := 4) rfl))) (mvT hZ (hw _ (List.mem_of_getElem? (i := 5) rfl))) (by decide) (backOf (W := 2) (rm1 l Z a0 hw [] (4 : Int32) (3 : Int32) p1 h595 n0 Zs598) hZ (hw _ (List.mem_of_getElem? (i := 5) rfl)) (hw _ (List.mem_of_getElem? (i := 4) rfl)) (by decide) (by decide)) (g := (mkF m 47 #[.val (.int p0), .val (.int p1), .val (.int (3 : Int32)), .val (.ref b574), .unset, .unset, .unset] [(.int p1), (.int (3 : Int32)), (.int (4 : Int32)), (.int (4 : Int32)), (.ref b574)])) rfl (by rw [hml]; rfl) (argsL := [(.int (4 : Int32)), (.int (3 : Int32)), (.int p1)]) (rest := [(.int (4 : Int32)), (.ref b574)]) (lenOf pd_8 rfl) rfl (by show 2 * 0 + _ ≤ _; exact Nat.le_of_eq rfl) (hb hby at_47) (fun _ _ => ⟨rfl, e595, (show 1 + 0 ≤ 32 from by decide), (show 10 + 0 ≤ 2240 from by decide)⟩)
    dsimp only [Pt.U, Pt.locs, Pt.cells, Pt.slots] at X600 l600 y600 z600 st600 hQ600
    have X600 := own_stand X600 l600 y600 z600
    obtain ⟨hv600, N600q, e600⟩ := hQ600
    rw [show slotF (4 : Int32) (3 : Int32) p1 = (5 : Int32) from by rw [slotF, if_pos (by decide), if_pos (by decide)]] at hv600
    subst hv600
    have N600 := Fr.app N595 N600q
    refine Go.of (st600) ?_
    show Go p e below T600 (mkF m 50 #[.val (.int p0), .val (.int p1), .val (.int (3 : Int32)), .val (.ref b574), .unset, .unset, .unset] [(.int (5 : Int32)), (.int (4 : Int32)), (.ref b574)]) _
    have ib601 := (show ¬ ((4 : Int32) < 0) ∧ ((4 : Int32)).toNatClampNeg < 10 from ⟨by decide, by decide⟩)
    obtain ⟨cl601, Ar601, S601, H601⟩ := id V595
    obtain ⟨T601, h601, X601, e601, W601, st601⟩ := stB X600 hx hZ e600 Ar601 (j := (4 : Int32)) (Af.inb S601 ib601) (g := (mkF m 50 #[.val (.int p0), .val (.int p1), .val (.int (3 : Int32)), .val (.ref b574), .unset, .unset, .unset] [(.int (5 : Int32)), (.int (4 : Int32)), (.ref b574)])) rfl rfl (hb hby at_50)
    obtain ⟨f601, qf601⟩ : ∃ qq_ : Nat → Int32, qq_ = upd f595 4 (5 : Int32) := ⟨_, rfl⟩
    have V601 : Af Z h601 b574 .byte 10 f601 := by rw [qf601]; exact Af.set Ar601 S601 H601 W601 (by decide)
    have K603 := K597.wr W601 (Or.inr sz574)
    have Zs604 : n0 ≤ h601.size := Nat.le_trans Zs598 (Keep.of_wr W601).1
    have hk605 := Nat.le_trans hk599 (Keep.of_wr W601).1
    have N601 := Fr.snoc X601 N600 gx574
    refine Go.of (st601) ?_
    show Go p e below T601 (mkF m 51 #[.val (.int p0), .val (.int p1), .val (.int (3 : Int32)), .val (.ref b574), .unset, .unset, .unset] []) _
    refine Go.of (fun tg_ kk_ => XS.aloadN X601.here hx rfl (hb hby at_51) rfl rfl kk_) ?_
    show Go p e below T601 (mkF m 52 #[.val (.int p0), .val (.int p1), .val (.int (3 : Int32)), .val (.ref b574), .unset, .unset, .unset] [(.ref b574)]) _
    refine Go.of (fun tg_ kk_ => XS.iconst X601.here hx rfl (hb hby at_52) kk_) ?_
    show Go p e below T601 (mkF m 53 #[.val (.int p0), .val (.int p1), .val (.int (3 : Int32)), .val (.ref b574), .unset, .unset, .unset] [(.int (5 : Int32)), (.ref b574)]) _
    refine Go.of (fun tg_ kk_ => XS.iconst X601.here hx rfl (hb hby at_53) kk_) ?_
    show Go p e below T601 (mkF m 54 #[.val (.int p0), .val (.int p1), .val (.int (3 : Int32)), .val (.ref b574), .unset, .unset, .unset] [(.int (5 : Int32)), (.int (5 : Int32)), (.ref b574)]) _
    refine Go.of (fun tg_ kk_ => XS.iloadN X601.here hx rfl (hb hby at_54) rfl kk_) ?_
    show Go p e below T601 (mkF m 55 #[.val (.int p0), .val (.int p1), .val (.int (3 : Int32)), .val (.ref b574), .unset, .unset, .unset] [(.int (3 : Int32)), (.int (5 : Int32)), (.int (5 : Int32)), (.ref b574)]) _
    refine Go.of (fun tg_ kk_ => XS.iloadN X601.here hx rfl (hb hby at_55) rfl kk_) ?_
    show Go p e below T601 (mkF m 56 #[.val (.int p0), .val (.int p1), .val (.int (3 : Int32)), .val (.ref b574), .unset, .unset, .unset] [(.int p1), (.int (3 : Int32)), (.int (5 : Int32)), (.int (5 : Int32)), (.ref b574)]) _
    obtain ⟨_, _, ⟨T606, L606, k606, n606⟩, -, X606, ⟨Lc606, hQ606, l606, y606, z606⟩, st606⟩ := Jvm.LawKit.callS X601 hx (y := (⟨"com/example/attestry/attestry/DerReaderHasNextPinLaw", "slot", "(III)B"⟩ : MethodName)) hown (mvT hZ (hw _ (List.mem_of_getElem? (i := 2) rfl))) (mvT hZ (hw _ (List.mem_of_getElem? (i := 3) rfl))) (mvT hZ (hw _ (List.mem_of_getElem? (i := 4) rfl))) (mvT hZ (hw _ (List.mem_of_getElem? (i := 5) rfl))) (by decide) (backOf (W := 2) (rm1 l Z a0 hw [] (5 : Int32) (3 : Int32) p1 h601 n0 Zs604) hZ (hw _ (List.mem_of_getElem? (i := 5) rfl)) (hw _ (List.mem_of_getElem? (i := 4) rfl)) (by decide) (by decide)) (g := (mkF m 56 #[.val (.int p0), .val (.int p1), .val (.int (3 : Int32)), .val (.ref b574), .unset, .unset, .unset] [(.int p1), (.int (3 : Int32)), (.int (5 : Int32)), (.int (5 : Int32)), (.ref b574)])) rfl (by rw [hml]; rfl) (argsL := [(.int (5 : Int32)), (.int (3 : Int32)), (.int p1)]) (rest := [(.int (5 : Int32)), (.ref b574)]) (lenOf pd_8 rfl) rfl (by show 2 * 0 + _ ≤ _; exact Nat.le_of_eq rfl) (hb hby at_56) (fun _ _ => ⟨rfl, e601, (show 1 + 0 ≤ 32 from by decide), (show 10 + 0 ≤ 2240 from by decide)⟩)
    dsimp only [Pt.U, Pt.locs, Pt.cells, Pt.slots] at X606 l606 y606 z606 st606 hQ606
    have X606 := own_stand X606 l606 y606 z606
    obtain ⟨hv606, N606q, e606⟩ := hQ606
    rw [show slotF (5 : Int32) (3 : Int32) p1 = (0 : Int32) from by rw [slotF, if_pos (by decide), if_neg (by decide)]] at hv606
    subst hv606
    have N606 := Fr.app N601 N606q
    refine Go.of (st606) ?_
    show Go p e below T606 (mkF m 59 #[.val (.int p0), .val (.int p1), .val (.int (3 : Int32)), .val (.ref b574), .unset, .unset, .unset] [(.int (0 : Int32)), (.int (5 : Int32)), (.ref b574)]) _
    have ib607 := (show ¬ ((5 : Int32) < 0) ∧ ((5 : Int32)).toNatClampNeg < 10 from ⟨by decide, by decide⟩)
    obtain ⟨cl607, Ar607, S607, H607⟩ := id V601
    obtain ⟨T607, h607, X607, e607, W607, st607⟩ := stB X606 hx hZ e606 Ar607 (j := (5 : Int32)) (Af.inb S607 ib607) (g := (mkF m 59 #[.val (.int p0), .val (.int p1), .val (.int (3 : Int32)), .val (.ref b574), .unset, .unset, .unset] [(.int (0 : Int32)), (.int (5 : Int32)), (.ref b574)])) rfl rfl (hb hby at_59)
    obtain ⟨f607, qf607⟩ : ∃ qq_ : Nat → Int32, qq_ = upd f601 5 (0 : Int32) := ⟨_, rfl⟩
    have V607 : Af Z h607 b574 .byte 10 f607 := by rw [qf607]; exact Af.set Ar607 S607 H607 W607 (by decide)
    have K609 := K603.wr W607 (Or.inr sz574)
    have Zs610 : n0 ≤ h607.size := Nat.le_trans Zs604 (Keep.of_wr W607).1
    have hk611 := Nat.le_trans hk605 (Keep.of_wr W607).1
    have N607 := Fr.snoc X607 N606 gx574
    refine Go.of (st607) ?_
    show Go p e below T607 (mkF m 60 #[.val (.int p0), .val (.int p1), .val (.int (3 : Int32)), .val (.ref b574), .unset, .unset, .unset] []) _
    refine Go.of (fun tg_ kk_ => XS.aloadN X607.here hx rfl (hb hby at_60) rfl rfl kk_) ?_
    show Go p e below T607 (mkF m 61 #[.val (.int p0), .val (.int p1), .val (.int (3 : Int32)), .val (.ref b574), .unset, .unset, .unset] [(.ref b574)]) _
    refine Go.of (fun tg_ kk_ => XS.bipush X607.here hx rfl (hb hby at_61) kk_) ?_
    show Go p e below T607 (mkF m 63 #[.val (.int p0), .val (.int p1), .val (.int (3 : Int32)), .val (.ref b574), .unset, .unset, .unset] [(.int (6 : Int32)), (.ref b574)]) _
    refine Go.of (fun tg_ kk_ => XS.bipush X607.here hx rfl (hb hby at_63) kk_) ?_
    show Go p e below T607 (mkF m 65 #[.val (.int p0), .val (.int p1), .val (.int (3 : Int32)), .val (.ref b574), .unset, .unset, .unset] [(.int (6 : Int32)), (.int (6 : Int32)), (.ref b574)]) _
    refine Go.of (fun tg_ kk_ => XS.iloadN X607.here hx rfl (hb hby at_65) rfl kk_) ?_
    show Go p e below T607 (mkF m 66 #[.val (.int p0), .val (.int p1), .val (.int (3 : Int32)), .val (.ref b574), .unset, .unset, .unset] [(.int (3 : Int32)), (.int (6 : Int32)), (.int (6 : Int32)), (.ref b574)]) _
    refine Go.of (fun tg_ kk_ => XS.iloadN X607.here hx rfl (hb hby at_66) rfl kk_) ?_
    show Go p e below T607 (mkF m 67 #[.val (.int p0), .val (.int p1), .val (.int (3 : Int32)), .val (.ref b574), .unset, .unset, .unset] [(.int p1), (.int (3 : Int32)), (.int (6 : Int32)), (.int (6 : Int32)), (.ref b574)]) _
    obtain ⟨_, _, ⟨T612, L612, k612, n612⟩, -, X612, ⟨Lc612, hQ612, l612, y612, z612⟩, st612⟩ := Jvm.LawKit.callS X607 hx (y := (⟨"com/example/attestry/attestry/DerReaderHasNextPinLaw", "slot", "(III)B"⟩ : MethodName)) hown (mvT hZ (hw _ (List.mem_of_getElem? (i := 2) rfl))) (mvT hZ (hw _ (List.mem_of_getElem? (i := 3) rfl))) (mvT hZ (hw _ (List.mem_of_getElem? (i := 4) rfl))) (mvT hZ (hw _ (List.mem_of_getElem? (i := 5) rfl))) (by decide) (backOf (W := 2) (rm1 l Z a0 hw [] (6 : Int32) (3 : Int32) p1 h607 n0 Zs610) hZ (hw _ (List.mem_of_getElem? (i := 5) rfl)) (hw _ (List.mem_of_getElem? (i := 4) rfl)) (by decide) (by decide)) (g := (mkF m 67 #[.val (.int p0), .val (.int p1), .val (.int (3 : Int32)), .val (.ref b574), .unset, .unset, .unset] [(.int p1), (.int (3 : Int32)), (.int (6 : Int32)), (.int (6 : Int32)), (.ref b574)])) rfl (by rw [hml]; rfl) (argsL := [(.int (6 : Int32)), (.int (3 : Int32)), (.int p1)]) (rest := [(.int (6 : Int32)), (.ref b574)]) (lenOf pd_8 rfl) rfl (by show 2 * 0 + _ ≤ _; exact Nat.le_of_eq rfl) (hb hby at_67) (fun _ _ => ⟨rfl, e607, (show 1 + 0 ≤ 32 from by decide), (show 10 + 0 ≤ 2240 from by decide)⟩)
    dsimp only [Pt.U, Pt.locs, Pt.cells, Pt.slots] at X612 l612 y612 z612 st612 hQ612
    have X612 := own_stand X612 l612 y612 z612
    obtain ⟨hv612, N612q, e612⟩ := hQ612
    rw [show slotF (6 : Int32) (3 : Int32) p1 = (5 : Int32) from by rw [slotF, if_pos (by decide), if_pos (by decide)]] at hv612
    subst hv612
    have N612 := Fr.app N607 N612q
    refine Go.of (st612) ?_
    show Go p e below T612 (mkF m 70 #[.val (.int p0), .val (.int p1), .val (.int (3 : Int32)), .val (.ref b574), .unset, .unset, .unset] [(.int (5 : Int32)), (.int (6 : Int32)), (.ref b574)]) _
    have ib613 := (show ¬ ((6 : Int32) < 0) ∧ ((6 : Int32)).toNatClampNeg < 10 from ⟨by decide, by decide⟩)
    obtain ⟨cl613, Ar613, S613, H613⟩ := id V607
    obtain ⟨T613, h613, X613, e613, W613, st613⟩ := stB X612 hx hZ e612 Ar613 (j := (6 : Int32)) (Af.inb S613 ib613) (g := (mkF m 70 #[.val (.int p0), .val (.int p1), .val (.int (3 : Int32)), .val (.ref b574), .unset, .unset, .unset] [(.int (5 : Int32)), (.int (6 : Int32)), (.ref b574)])) rfl rfl (hb hby at_70)
    obtain ⟨f613, qf613⟩ : ∃ qq_ : Nat → Int32, qq_ = upd f607 6 (5 : Int32) := ⟨_, rfl⟩
    have V613 : Af Z h613 b574 .byte 10 f613 := by rw [qf613]; exact Af.set Ar613 S613 H613 W613 (by decide)
    have K615 := K609.wr W613 (Or.inr sz574)
    have Zs616 : n0 ≤ h613.size := Nat.le_trans Zs610 (Keep.of_wr W613).1
    have hk617 := Nat.le_trans hk611 (Keep.of_wr W613).1
    have N613 := Fr.snoc X613 N612 gx574
    refine Go.of (st613) ?_
    show Go p e below T613 (mkF m 71 #[.val (.int p0), .val (.int p1), .val (.int (3 : Int32)), .val (.ref b574), .unset, .unset, .unset] []) _
    refine Go.of (fun tg_ kk_ => XS.aloadN X613.here hx rfl (hb hby at_71) rfl rfl kk_) ?_
    show Go p e below T613 (mkF m 72 #[.val (.int p0), .val (.int p1), .val (.int (3 : Int32)), .val (.ref b574), .unset, .unset, .unset] [(.ref b574)]) _
    refine Go.of (fun tg_ kk_ => XS.bipush X613.here hx rfl (hb hby at_72) kk_) ?_
    show Go p e below T613 (mkF m 74 #[.val (.int p0), .val (.int p1), .val (.int (3 : Int32)), .val (.ref b574), .unset, .unset, .unset] [(.int (7 : Int32)), (.ref b574)]) _
    refine Go.of (fun tg_ kk_ => XS.bipush X613.here hx rfl (hb hby at_74) kk_) ?_
    show Go p e below T613 (mkF m 76 #[.val (.int p0), .val (.int p1), .val (.int (3 : Int32)), .val (.ref b574), .unset, .unset, .unset] [(.int (7 : Int32)), (.int (7 : Int32)), (.ref b574)]) _
    refine Go.of (fun tg_ kk_ => XS.iloadN X613.here hx rfl (hb hby at_76) rfl kk_) ?_
    show Go p e below T613 (mkF m 77 #[.val (.int p0), .val (.int p1), .val (.int (3 : Int32)), .val (.ref b574), .unset, .unset, .unset] [(.int (3 : Int32)), (.int (7 : Int32)), (.int (7 : Int32)), (.ref b574)]) _
    refine Go.of (fun tg_ kk_ => XS.iloadN X613.here hx rfl (hb hby at_77) rfl kk_) ?_
    show Go p e below T613 (mkF m 78 #[.val (.int p0), .val (.int p1), .val (.int (3 : Int32)), .val (.ref b574), .unset, .unset, .unset] [(.int p1), (.int (3 : Int32)), (.int (7 : Int32)), (.int (7 : Int32)), (.ref b574)]) _
    obtain ⟨_, _, ⟨T618, L618, k618, n618⟩, -, X618, ⟨Lc618, hQ618, l618, y618, z618⟩, st618⟩ := Jvm.LawKit.callS X613 hx (y := (⟨"com/example/attestry/attestry/DerReaderHasNextPinLaw", "slot", "(III)B"⟩ : MethodName)) hown (mvT hZ (hw _ (List.mem_of_getElem? (i := 2) rfl))) (mvT hZ (hw _ (List.mem_of_getElem? (i := 3) rfl))) (mvT hZ (hw _ (List.mem_of_getElem? (i := 4) rfl))) (mvT hZ (hw _ (List.mem_of_getElem? (i := 5) rfl))) (by decide) (backOf (W := 2) (rm1 l Z a0 hw [] (7 : Int32) (3 : Int32) p1 h613 n0 Zs616) hZ (hw _ (List.mem_of_getElem? (i := 5) rfl)) (hw _ (List.mem_of_getElem? (i := 4) rfl)) (by decide) (by decide)) (g := (mkF m 78 #[.val (.int p0), .val (.int p1), .val (.int (3 : Int32)), .val (.ref b574), .unset, .unset, .unset] [(.int p1), (.int (3 : Int32)), (.int (7 : Int32)), (.int (7 : Int32)), (.ref b574)])) rfl (by rw [hml]; rfl) (argsL := [(.int (7 : Int32)), (.int (3 : Int32)), (.int p1)]) (rest := [(.int (7 : Int32)), (.ref b574)]) (lenOf pd_8 rfl) rfl (by show 2 * 0 + _ ≤ _; exact Nat.le_of_eq rfl) (hb hby at_78) (fun _ _ => ⟨rfl, e613, (show 1 + 0 ≤ 32 from by decide), (show 10 + 0 ≤ 2240 from by decide)⟩)
    dsimp only [Pt.U, Pt.locs, Pt.cells, Pt.slots] at X618 l618 y618 z618 st618 hQ618
    have X618 := own_stand X618 l618 y618 z618
    obtain ⟨hv618, N618q, e618⟩ := hQ618
    rw [show slotF (7 : Int32) (3 : Int32) p1 = (0 : Int32) from by rw [slotF, if_pos (by decide), if_neg (by decide)]] at hv618
    subst hv618
    have N618 := Fr.app N613 N618q
    refine Go.of (st618) ?_
    show Go p e below T618 (mkF m 81 #[.val (.int p0), .val (.int p1), .val (.int (3 : Int32)), .val (.ref b574), .unset, .unset, .unset] [(.int (0 : Int32)), (.int (7 : Int32)), (.ref b574)]) _
    have ib619 := (show ¬ ((7 : Int32) < 0) ∧ ((7 : Int32)).toNatClampNeg < 10 from ⟨by decide, by decide⟩)
    obtain ⟨cl619, Ar619, S619, H619⟩ := id V613
    obtain ⟨T619, h619, X619, e619, W619, st619⟩ := stB X618 hx hZ e618 Ar619 (j := (7 : Int32)) (Af.inb S619 ib619) (g := (mkF m 81 #[.val (.int p0), .val (.int p1), .val (.int (3 : Int32)), .val (.ref b574), .unset, .unset, .unset] [(.int (0 : Int32)), (.int (7 : Int32)), (.ref b574)])) rfl rfl (hb hby at_81)
    obtain ⟨f619, qf619⟩ : ∃ qq_ : Nat → Int32, qq_ = upd f613 7 (0 : Int32) := ⟨_, rfl⟩
    have V619 : Af Z h619 b574 .byte 10 f619 := by rw [qf619]; exact Af.set Ar619 S619 H619 W619 (by decide)
    have K621 := K615.wr W619 (Or.inr sz574)
    have Zs622 : n0 ≤ h619.size := Nat.le_trans Zs616 (Keep.of_wr W619).1
    have hk623 := Nat.le_trans hk617 (Keep.of_wr W619).1
    have N619 := Fr.snoc X619 N618 gx574
    refine Go.of (st619) ?_
    show Go p e below T619 (mkF m 82 #[.val (.int p0), .val (.int p1), .val (.int (3 : Int32)), .val (.ref b574), .unset, .unset, .unset] []) _
    refine Go.of (fun tg_ kk_ => XS.aloadN X619.here hx rfl (hb hby at_82) rfl rfl kk_) ?_
    show Go p e below T619 (mkF m 83 #[.val (.int p0), .val (.int p1), .val (.int (3 : Int32)), .val (.ref b574), .unset, .unset, .unset] [(.ref b574)]) _
    refine Go.of (fun tg_ kk_ => XS.bipush X619.here hx rfl (hb hby at_83) kk_) ?_
    show Go p e below T619 (mkF m 85 #[.val (.int p0), .val (.int p1), .val (.int (3 : Int32)), .val (.ref b574), .unset, .unset, .unset] [(.int (8 : Int32)), (.ref b574)]) _
    refine Go.of (fun tg_ kk_ => XS.bipush X619.here hx rfl (hb hby at_85) kk_) ?_
    show Go p e below T619 (mkF m 87 #[.val (.int p0), .val (.int p1), .val (.int (3 : Int32)), .val (.ref b574), .unset, .unset, .unset] [(.int (8 : Int32)), (.int (8 : Int32)), (.ref b574)]) _
    refine Go.of (fun tg_ kk_ => XS.iloadN X619.here hx rfl (hb hby at_87) rfl kk_) ?_
    show Go p e below T619 (mkF m 88 #[.val (.int p0), .val (.int p1), .val (.int (3 : Int32)), .val (.ref b574), .unset, .unset, .unset] [(.int (3 : Int32)), (.int (8 : Int32)), (.int (8 : Int32)), (.ref b574)]) _
    refine Go.of (fun tg_ kk_ => XS.iloadN X619.here hx rfl (hb hby at_88) rfl kk_) ?_
    show Go p e below T619 (mkF m 89 #[.val (.int p0), .val (.int p1), .val (.int (3 : Int32)), .val (.ref b574), .unset, .unset, .unset] [(.int p1), (.int (3 : Int32)), (.int (8 : Int32)), (.int (8 : Int32)), (.ref b574)]) _
    obtain ⟨_, _, ⟨T624, L624, k624, n624⟩, -, X624, ⟨Lc624, hQ624, l624, y624, z624⟩, st624⟩ := Jvm.LawKit.callS X619 hx (y := (⟨"com/example/attestry/attestry/DerReaderHasNextPinLaw", "slot", "(III)B"⟩ : MethodName)) hown (mvT hZ (hw _ (List.mem_of_getElem? (i := 2) rfl))) (mvT hZ (hw _ (List.mem_of_getElem? (i := 3) rfl))) (mvT hZ (hw _ (List.mem_of_getElem? (i := 4) rfl))) (mvT hZ (hw _ (List.mem_of_getElem? (i := 5) rfl))) (by decide) (backOf (W := 2) (rm1 l Z a0 hw [] (8 : Int32) (3 : Int32) p1 h619 n0 Zs622) hZ (hw _ (List.mem_of_getElem? (i := 5) rfl)) (hw _ (List.mem_of_getElem? (i := 4) rfl)) (by decide) (by decide)) (g := (mkF m 89 #[.val (.int p0), .val (.int p1), .val (.int (3 : Int32)), .val (.ref b574), .unset, .unset, .unset] [(.int p1), (.int (3 : Int32)), (.int (8 : Int32)), (.int (8 : Int32)), (.ref b574)])) rfl (by rw [hml]; rfl) (argsL := [(.int (8 : Int32)), (.int (3 : Int32)), (.int p1)]) (rest := [(.int (8 : Int32)), (.ref b574)]) (lenOf pd_8 rfl) rfl (by show 2 * 0 + _ ≤ _; exact Nat.le_of_eq rfl) (hb hby at_89) (fun _ _ => ⟨rfl, e619, (show 1 + 0 ≤ 32 from by decide), (show 10 + 0 ≤ 2240 from by decide)⟩)
    dsimp only [Pt.U, Pt.locs, Pt.cells, Pt.slots] at X624 l624 y624 z624 st624 hQ624
    have X624 := own_stand X624 l624 y624 z624
    obtain ⟨rfl, N624q, e624⟩ := hQ624
    have N624 := Fr.app N619 N624q
    refine Go.of (st624) ?_
    show Go p e below T624 (mkF m 92 #[.val (.int p0), .val (.int p1), .val (.int (3 : Int32)), .val (.ref b574), .unset, .unset, .unset] [(.int (slotF (8 : Int32) (3 : Int32) p1)), (.int (8 : Int32)), (.ref b574)]) _
    have ib625 := (show ¬ ((8 : Int32) < 0) ∧ ((8 : Int32)).toNatClampNeg < 10 from ⟨by decide, by decide⟩)
    obtain ⟨cl625, Ar625, S625, H625⟩ := id V619
    obtain ⟨T625, h625, X625, e625, W625, st625⟩ := stB X624 hx hZ e624 Ar625 (j := (8 : Int32)) (Af.inb S625 ib625) (g := (mkF m 92 #[.val (.int p0), .val (.int p1), .val (.int (3 : Int32)), .val (.ref b574), .unset, .unset, .unset] [(.int (slotF (8 : Int32) (3 : Int32) p1)), (.int (8 : Int32)), (.ref b574)])) rfl rfl (hb hby at_92)
    obtain ⟨f625, qf625⟩ : ∃ qq_ : Nat → Int32, qq_ = upd f619 8 (nar .byte (slotF (8 : Int32) (3 : Int32) p1)) := ⟨_, rfl⟩
    have V625 : Af Z h625 b574 .byte 10 f625 := by rw [qf625]; exact Af.set Ar625 S625 H625 W625 (by decide)
    have K627 := K621.wr W625 (Or.inr sz574)
    have Zs628 : n0 ≤ h625.size := Nat.le_trans Zs622 (Keep.of_wr W625).1
    have hk629 := Nat.le_trans hk623 (Keep.of_wr W625).1
    have N625 := Fr.snoc X625 N624 gx574
    refine Go.of (st625) ?_
    show Go p e below T625 (mkF m 93 #[.val (.int p0), .val (.int p1), .val (.int (3 : Int32)), .val (.ref b574), .unset, .unset, .unset] []) _
    refine Go.of (fun tg_ kk_ => XS.aloadN X625.here hx rfl (hb hby at_93) rfl rfl kk_) ?_
    show Go p e below T625 (mkF m 94 #[.val (.int p0), .val (.int p1), .val (.int (3 : Int32)), .val (.ref b574), .unset, .unset, .unset] [(.ref b574)]) _
    refine Go.of (fun tg_ kk_ => XS.bipush X625.here hx rfl (hb hby at_94) kk_) ?_
    show Go p e below T625 (mkF m 96 #[.val (.int p0), .val (.int p1), .val (.int (3 : Int32)), .val (.ref b574), .unset, .unset, .unset] [(.int (9 : Int32)), (.ref b574)]) _
    refine Go.of (fun tg_ kk_ => XS.bipush X625.here hx rfl (hb hby at_96) kk_) ?_
    show Go p e below T625 (mkF m 98 #[.val (.int p0), .val (.int p1), .val (.int (3 : Int32)), .val (.ref b574), .unset, .unset, .unset] [(.int (9 : Int32)), (.int (9 : Int32)), (.ref b574)]) _
    refine Go.of (fun tg_ kk_ => XS.iloadN X625.here hx rfl (hb hby at_98) rfl kk_) ?_
    show Go p e below T625 (mkF m 99 #[.val (.int p0), .val (.int p1), .val (.int (3 : Int32)), .val (.ref b574), .unset, .unset, .unset] [(.int (3 : Int32)), (.int (9 : Int32)), (.int (9 : Int32)), (.ref b574)]) _
    refine Go.of (fun tg_ kk_ => XS.iloadN X625.here hx rfl (hb hby at_99) rfl kk_) ?_
    show Go p e below T625 (mkF m 100 #[.val (.int p0), .val (.int p1), .val (.int (3 : Int32)), .val (.ref b574), .unset, .unset, .unset] [(.int p1), (.int (3 : Int32)), (.int (9 : Int32)), (.int (9 : Int32)), (.ref b574)]) _
    obtain ⟨_, _, ⟨T630, L630, k630, n630⟩, -, X630, ⟨Lc630, hQ630, l630, y630, z630⟩, st630⟩ := Jvm.LawKit.callS X625 hx (y := (⟨"com/example/attestry/attestry/DerReaderHasNextPinLaw", "slot", "(III)B"⟩ : MethodName)) hown (mvT hZ (hw _ (List.mem_of_getElem? (i := 2) rfl))) (mvT hZ (hw _ (List.mem_of_getElem? (i := 3) rfl))) (mvT hZ (hw _ (List.mem_of_getElem? (i := 4) rfl))) (mvT hZ (hw _ (List.mem_of_getElem? (i := 5) rfl))) (by decide) (backOf (W := 2) (rm1 l Z a0 hw [] (9 : Int32) (3 : Int32) p1 h625 n0 Zs628) hZ (hw _ (List.mem_of_getElem? (i := 5) rfl)) (hw _ (List.mem_of_getElem? (i := 4) rfl)) (by decide) (by decide)) (g := (mkF m 100 #[.val (.int p0), .val (.int p1), .val (.int (3 : Int32)), .val (.ref b574), .unset, .unset, .unset] [(.int p1), (.int (3 : Int32)), (.int (9 : Int32)), (.int (9 : Int32)), (.ref b574)])) rfl (by rw [hml]; rfl) (argsL := [(.int (9 : Int32)), (.int (3 : Int32)), (.int p1)]) (rest := [(.int (9 : Int32)), (.ref b574)]) (lenOf pd_8 rfl) rfl (by show 2 * 0 + _ ≤ _; exact Nat.le_of_eq rfl) (hb hby at_100) (fun _ _ => ⟨rfl, e625, (show 1 + 0 ≤ 32 from by decide), (show 10 + 0 ≤ 2240 from by decide)⟩)
    dsimp only [Pt.U, Pt.locs, Pt.cells, Pt.slots] at X630 l630 y630 z630 st630 hQ630
    have X630 := own_stand X630 l630 y630 z630
    obtain ⟨rfl, N630q, e630⟩ := hQ630
    have N630 := Fr.app N625 N630q
    refine Go.of (st630) ?_
    show Go p e below T630 (mkF m 103 #[.val (.int p0), .val (.int p1), .val (.int (3 : Int32)), .val (.ref b574), .unset, .unset, .unset] [(.int (slotF (9 : Int32) (3 : Int32) p1)), (.int (9 : Int32)), (.ref b574)]) _
    have ib631 := (show ¬ ((9 : Int32) < 0) ∧ ((9 : Int32)).toNatClampNeg < 10 from ⟨by decide, by decide⟩)
    obtain ⟨cl631, Ar631, S631, H631⟩ := id V625
    obtain ⟨T631, h631, X631, e631, W631, st631⟩ := stB X630 hx hZ e630 Ar631 (j := (9 : Int32)) (Af.inb S631 ib631) (g := (mkF m 103 #[.val (.int p0), .val (.int p1), .val (.int (3 : Int32)), .val (.ref b574), .unset, .unset, .unset] [(.int (slotF (9 : Int32) (3 : Int32) p1)), (.int (9 : Int32)), (.ref b574)])) rfl rfl (hb hby at_103)
    obtain ⟨f631, qf631⟩ : ∃ qq_ : Nat → Int32, qq_ = upd f625 9 (nar .byte (slotF (9 : Int32) (3 : Int32) p1)) := ⟨_, rfl⟩
    have V631 : Af Z h631 b574 .byte 10 f631 := by rw [qf631]; exact Af.set Ar631 S631 H631 W631 (by decide)
    have K633 := K627.wr W631 (Or.inr sz574)
    have Zs634 : n0 ≤ h631.size := Nat.le_trans Zs628 (Keep.of_wr W631).1
    have hk635 := Nat.le_trans hk629 (Keep.of_wr W631).1
    have N631 := Fr.snoc X631 N630 gx574
    refine Go.of (st631) ?_
    show Go p e below T631 (mkF m 104 #[.val (.int p0), .val (.int p1), .val (.int (3 : Int32)), .val (.ref b574), .unset, .unset, .unset] []) _
    have by0_ : f631 0 = (48 : Int32) := by rw [qf631, own_updN (by decide), qf625, own_updN (by decide), qf619, own_updN (by decide), qf613, own_updN (by decide), qf607, own_updN (by decide), qf601, own_updN (by decide), qf595, own_updN (by decide), qf589, own_updN (by decide), qf583, own_updN (by decide), qf578, own_updS]
    have by1_ : f631 1 = (6 : Int32) := by rw [qf631, own_updN (by decide), qf625, own_updN (by decide), qf619, own_updN (by decide), qf613, own_updN (by decide), qf607, own_updN (by decide), qf601, own_updN (by decide), qf595, own_updN (by decide), qf589, own_updN (by decide), qf583, own_updS]
    have by2_ : f631 2 = (5 : Int32) := by rw [qf631, own_updN (by decide), qf625, own_updN (by decide), qf619, own_updN (by decide), qf613, own_updN (by decide), qf607, own_updN (by decide), qf601, own_updN (by decide), qf595, own_updN (by decide), qf589, own_updS]
    have by3_ : f631 3 = (0 : Int32) := by rw [qf631, own_updN (by decide), qf625, own_updN (by decide), qf619, own_updN (by decide), qf613, own_updN (by decide), qf607, own_updN (by decide), qf601, own_updN (by decide), qf595, own_updS]
    obtain ⟨T636, h636, X636, e636, E636, A636, D636, -, st636⟩ := newO X631 hx hZ hown (hw _ (List.mem_of_getElem? (i := 6) rfl)) (hw _ (List.mem_of_getElem? (i := 7) rfl)) (hw _ (List.mem_of_getElem? (i := 8) rfl)) e631 (g := (mkF m 104 #[.val (.int p0), .val (.int p1), .val (.int (3 : Int32)), .val (.ref b574), .unset, .unset, .unset] [])) rfl (hb hby at_104) (by decide) (by decide)
    obtain ⟨b636, g636⟩ : ∃ zz_, zz_ = h631.size := ⟨_, rfl⟩
    rw [← g636] at A636 D636 st636
    have gx636 : n0 ≤ b636 := Nat.le_trans Zs634 (Nat.le_of_eq g636.symm)
    have sz636 : h0.size ≤ b636 := Nat.le_trans K633.1 (Nat.le_of_eq g636.symm)
    have ne637 : b574 ≠ b636 := Nat.ne_of_lt (Nat.lt_of_lt_of_le V631.lt (Nat.le_of_eq g636.symm))
    have F638 := V631.ext E636
    have K639 := K633.ext E636
    have Zs640 : n0 ≤ h636.size := Nat.le_trans Zs634 E636.1
    have hk641 := Nat.le_trans hk635 E636.1
    have F642 : Fld Z h636 b636 "com/example/attestry/attestry/DerReader" "bytes" "[B" .null := D636 (Or.inr (hw _ (List.mem_of_getElem? (i := 16) rfl))) (ty := (.array .byte)) (by decide)
    have F643 : Fld Z h636 b636 "com/example/attestry/attestry/DerReader" "berNote" "Lcom/example/attestry/attestry/DerReader$BerNote;" .null := D636 (Or.inr (hw _ (List.mem_of_getElem? (i := 25) rfl))) (ty := (.object "com/example/attestry/attestry/DerReader$BerNote")) (by decide)
    have F644 : Fld Z h636 b636 "com/example/attestry/attestry/DerReader" "start" "I" (.int (0 : Int32)) := D636 (Or.inr (hw _ (List.mem_of_getElem? (i := 27) rfl))) (ty := .int) (by decide)
    have F645 : Fld Z h636 b636 "com/example/attestry/attestry/DerReader" "position" "I" (.int (0 : Int32)) := D636 (Or.inl (hw _ (List.mem_of_getElem? (i := 29) rfl))) (ty := .int) (by decide)
    have F646 : Fld Z h636 b636 "com/example/attestry/attestry/DerReader" "end" "I" (.int (0 : Int32)) := D636 (Or.inr (hw _ (List.mem_of_getElem? (i := 31) rfl))) (ty := .int) (by decide)
    have F647 : Fld Z h636 b636 "com/example/attestry/attestry/DerReader" "depth" "I" (.int (0 : Int32)) := D636 (Or.inr (hw _ (List.mem_of_getElem? (i := 33) rfl))) (ty := .int) (by decide)
    refine Go.of (st636) ?_
    show Go p e below T636 (mkF m 107 #[.val (.int p0), .val (.int p1), .val (.int (3 : Int32)), .val (.ref b574), .unset, .unset, .unset] [(.ref b636)]) _
    refine Go.of (fun tg_ kk_ => XS.dup X636.here hx rfl (hb hby at_107) rfl rfl kk_) ?_
    show Go p e below T636 (mkF m 108 #[.val (.int p0), .val (.int p1), .val (.int (3 : Int32)), .val (.ref b574), .unset, .unset, .unset] [(.ref b636), (.ref b636)]) _
    refine Go.of (fun tg_ kk_ => XS.iconst X636.here hx rfl (hb hby at_108) kk_) ?_
    show Go p e below T636 (mkF m 109 #[.val (.int p0), .val (.int p1), .val (.int (3 : Int32)), .val (.ref b574), .unset, .unset, .unset] [(.int (0 : Int32)), (.ref b636), (.ref b636)]) _
    obtain ⟨T648, h648, k648, X648, e648, E648, A648, st648⟩ := newP X636 hx hZ (hw _ (List.mem_of_getElem? (i := 1) rfl)) e636 (g := (mkF m 109 #[.val (.int p0), .val (.int p1), .val (.int (3 : Int32)), .val (.ref b574), .unset, .unset, .unset] [(.int (0 : Int32)), (.ref b636), (.ref b636)])) rfl (hb hby at_109) rfl (by decide) (cap := 0) (by decide) (by decide) (by decide) (by decide)
    obtain ⟨b648, g648⟩ : ∃ zz_, zz_ = h636.size := ⟨_, rfl⟩
    rw [← g648] at A648 st648
    have gx648 : n0 ≤ b648 := Nat.le_trans Zs640 (Nat.le_of_eq g648.symm)
    have sz648 : h0.size ≤ b648 := Nat.le_trans K639.1 (Nat.le_of_eq g648.symm)
    have ne649 : b574 ≠ b648 := Nat.ne_of_lt (Nat.lt_of_lt_of_le F638.lt (Nat.le_of_eq g648.symm))
    have ne650 : b636 ≠ b648 := Nat.ne_of_lt (Nat.lt_of_lt_of_le A636.lt (Nat.le_of_eq g648.symm))
    have F651 := F638.ext E648
    have F652 := A636.ext E648
    have F653 := F642.ext E648
    have F654 := F643.ext E648
    have F655 := F644.ext E648
    have F656 := F645.ext E648
    have F657 := F646.ext E648
    have F658 := F647.ext E648
    have K659 := K639.ext E648
    have Zs660 : n0 ≤ h648.size := Nat.le_trans Zs640 E648.1
    have hk661 := Nat.le_trans hk641 E648.1
    have V648 : Af Z h648 b648 .byte 0 (fun _ => 0) := Af.new rfl A648 (by decide)
    refine Go.of (st648) ?_
    show Go p e below T648 (mkF m 111 #[.val (.int p0), .val (.int p1), .val (.int (3 : Int32)), .val (.ref b574), .unset, .unset, .unset] [(.ref b648), (.ref b636), (.ref b636)]) _
    obtain ⟨_, _, ⟨T662, L662, k662, n662⟩, -, X662, ⟨Lc662, hQ662, l662, y662, z662⟩, st662⟩ := X648.specialBack hx (y := (⟨"com/example/attestry/attestry/DerReader", "<init>", "([B)V"⟩ : MethodName)) rfl hown (mvT hZ (hw _ (List.mem_of_getElem? (i := 9) rfl))) (mvT hZ (hw _ (List.mem_of_getElem? (i := 10) rfl))) (mvT hZ (hw _ (List.mem_of_getElem? (i := 11) rfl))) (by decide) (backOf (W := 1) (rm2_0 l Z a0 hw [] b636 b648 (fun _ => 0) h648 n0 Zs660 gx636 F652 F653 F654 F655 F656 F657 F658 V648 ne650) hZ (hw _ (List.mem_of_getElem? (i := 11) rfl)) (hw _ (List.mem_of_getElem? (i := 8) rfl)) (by decide) (by decide)) (g := (mkF m 111 #[.val (.int p0), .val (.int p1), .val (.int (3 : Int32)), .val (.ref b574), .unset, .unset, .unset] [(.ref b648), (.ref b636), (.ref b636)])) rfl (by rw [hml]; rfl) (Steps.refl _) (a := b636) (argsL := [(.ref b648)]) (rest := [(.ref b636)]) (lenOf pd_9 rfl) rfl (by show 2 * 0 + _ ≤ _; exact Nat.le_of_eq rfl) (hb hby at_111) (fun _ _ => ⟨rfl, e648, (show 3 + 1 ≤ 32 from by decide), (show 16 + 1 ≤ 2240 from by decide)⟩)
    dsimp only [Pt.U, Pt.locs, Pt.cells, Pt.slots] at X662 l662 y662 z662 st662 hQ662
    have X662 := own_stand X662 l662 y662 z662
    obtain ⟨q662, rfl, N662q, K662q, Fbytes_662, FberNote_662, Fstart_662, Fposition_662, Fend_662, Fdepth_662⟩ := hQ662
    have N662 := Fr.app N631 N662q
    have F663 := F651.keep K662q (ninS ne637 nin0)
    have F664 := F652.keep K662q
    have F671 := V648.keep K662q (ninS (Ne.symm ne650) nin0)
    have K672 := K659.trans K662q (allS (Or.inr sz636) all0)
    have Zs673 : n0 ≤ T662.heap.size := Nat.le_trans Zs660 K662q.1
    have hk674 := Nat.le_trans hk661 K662q.1
    refine Go.of (fun tg_ kk_ => st662.trans kk_) ?_
    show Go p e below T662 (mkF m 114 #[.val (.int p0), .val (.int p1), .val (.int (3 : Int32)), .val (.ref b574), .unset, .unset, .unset] [(.ref b636)]) _
    obtain ⟨cq675, kq675, q675a, q675b, q675c⟩ := isOf hZ rfl F664
    obtain ⟨_, _, ⟨T675, L675, k675, n675⟩, -, X675, ⟨Lc675, hQ675, l675, y675, z675⟩, st675⟩ := X662.virtualBack hx (y := (⟨"com/example/attestry/attestry/DerReader", "hasNext", "()Z"⟩ : MethodName)) (z := (⟨"com/example/attestry/attestry/DerReader", "hasNext", "()Z"⟩ : MethodName)) hown (mvT hZ (hw _ (List.mem_of_getElem? (i := 34) rfl))) (mvT hZ (hw _ (List.mem_of_getElem? (i := 35) rfl))) (notFace_of_selects (args := #[]) (mvT hZ (hw _ (List.mem_of_getElem? (i := 37) rfl)))) (mvT hZ (hw _ (List.mem_of_getElem? (i := 37) rfl))) (mvT hZ (hw _ (List.mem_of_getElem? (i := 36) rfl))) (by decide) (backOf (W := 0) (rm5 l Z a0 hw [] b636 (0 : Int32) (0 : Int32) T662.heap n0 Zs673 Fposition_662 Fend_662) hZ (hw _ (List.mem_of_getElem? (i := 38) rfl)) (hw _ (List.mem_of_getElem? (i := 8) rfl)) (by decide) (by decide)) q675a q675c (g := (mkF m 114 #[.val (.int p0), .val (.int p1), .val (.int (3 : Int32)), .val (.ref b574), .unset, .unset, .unset] [(.ref b636)])) rfl (by rw [hml]; rfl) (Steps.refl _) (argsL := []) (rest := []) (lenOf pd_1 rfl) rfl (by show 2 * 0 + _ ≤ _; exact Nat.le_of_eq rfl) (hb hby at_114) (fun _ _ => ⟨rfl, rfl, (show 4 + 0 ≤ 32 from by decide), (show 17 + 0 ≤ 2240 from by decide)⟩)
    dsimp only [Pt.U, Pt.locs, Pt.cells, Pt.slots] at X675 l675 y675 z675 st675 hQ675
    have X675 := own_stand X675 l675 y675 z675
    obtain ⟨hv675, N675q, e675⟩ := hQ675
    rw [if_neg (show ¬ ((0 : Int32) < (0 : Int32)) by decide)] at hv675
    subst hv675
    have N675 := Fr.app N662 N675q
    refine Go.of (fun tg_ kk_ => st675.trans kk_) ?_
    show Go p e below T675 (mkF m 117 #[.val (.int p0), .val (.int p1), .val (.int (3 : Int32)), .val (.ref b574), .unset, .unset, .unset] [(.int (0 : Int32))]) _
    refine Go.of (fun tg_ kk_ => XS.ifNo X675.here hx rfl (hb hby at_117) rfl ((if0 _ _).trans (teq (show (0 : Int32) = (0 : Int32) by decide)).2) kk_) ?_
    show Go p e below T675 (mkF m 120 #[.val (.int p0), .val (.int p1), .val (.int (3 : Int32)), .val (.ref b574), .unset, .unset, .unset] []) _
    refine Go.of (fun tg_ kk_ => XS.iconst X675.here hx rfl (hb hby at_120) kk_) ?_
    show Go p e below T675 (mkF m 121 #[.val (.int p0), .val (.int p1), .val (.int (3 : Int32)), .val (.ref b574), .unset, .unset, .unset] [(.int (1 : Int32))]) _
    refine Go.of (fun tg_ kk_ => XS.goto X675.here hx rfl (pc0 := 121) (pc' := 125) rfl (hb hby at_121) (by decide) (by decide) kk_) ?_
    show Go p e below T675 (mkF m 125 #[.val (.int p0), .val (.int p1), .val (.int (3 : Int32)), .val (.ref b574), .unset, .unset, .unset] [(.int (1 : Int32))]) _
    refine Go.of (fun tg_ kk_ => XS.istore X675.here hx rfl (hb hby at_125) rfl (l' := #[.val (.int p0), .val (.int p1), .val (.int (3 : Int32)), .val (.ref b574), .val (.int (1 : Int32)), .unset, .unset]) rfl kk_) ?_
    show Go p e below T675 (mkF m 127 #[.val (.int p0), .val (.int p1), .val (.int (3 : Int32)), .val (.ref b574), .val (.int (1 : Int32)), .unset, .unset] []) _
    obtain ⟨T676, h676, X676, e676, E676, A676, D676, -, st676⟩ := newO X675 hx hZ hown (hw _ (List.mem_of_getElem? (i := 6) rfl)) (hw _ (List.mem_of_getElem? (i := 7) rfl)) (hw _ (List.mem_of_getElem? (i := 8) rfl)) e675 (g := (mkF m 127 #[.val (.int p0), .val (.int p1), .val (.int (3 : Int32)), .val (.ref b574), .val (.int (1 : Int32)), .unset, .unset] [])) rfl (hb hby at_127) (by decide) (by decide)
    obtain ⟨b676, g676⟩ : ∃ zz_, zz_ = T662.heap.size := ⟨_, rfl⟩
    rw [← g676] at A676 D676 st676
    have gx676 : n0 ≤ b676 := Nat.le_trans Zs673 (Nat.le_of_eq g676.symm)
    have sz676 : h0.size ≤ b676 := Nat.le_trans K672.1 (Nat.le_of_eq g676.symm)
    have ne677 : b574 ≠ b676 := Nat.ne_of_lt (Nat.lt_of_lt_of_le F663.lt (Nat.le_of_eq g676.symm))
    have ne678 : b636 ≠ b676 := Nat.ne_of_lt (Nat.lt_of_lt_of_le F664.lt (Nat.le_of_eq g676.symm))
    have ne679 : b648 ≠ b676 := Nat.ne_of_lt (Nat.lt_of_lt_of_le F671.lt (Nat.le_of_eq g676.symm))
    have F680 := F663.ext E676
    have F681 := F664.ext E676
    have F682 := F671.ext E676
    have F683 := Fbytes_662.ext E676
    have F684 := FberNote_662.ext E676
    have F685 := Fstart_662.ext E676
    have F686 := Fposition_662.ext E676
    have F687 := Fend_662.ext E676
    have F688 := Fdepth_662.ext E676
    have K689 := K672.ext E676
    have Zs690 : n0 ≤ h676.size := Nat.le_trans Zs673 E676.1
    have hk691 := Nat.le_trans hk674 E676.1
    have F692 : Fld Z h676 b676 "com/example/attestry/attestry/DerReader" "bytes" "[B" .null := D676 (Or.inr (hw _ (List.mem_of_getElem? (i := 16) rfl))) (ty := (.array .byte)) (by decide)
    have F693 : Fld Z h676 b676 "com/example/attestry/attestry/DerReader" "berNote" "Lcom/example/attestry/attestry/DerReader$BerNote;" .null := D676 (Or.inr (hw _ (List.mem_of_getElem? (i := 25) rfl))) (ty := (.object "com/example/attestry/attestry/DerReader$BerNote")) (by decide)
    have F694 : Fld Z h676 b676 "com/example/attestry/attestry/DerReader" "start" "I" (.int (0 : Int32)) := D676 (Or.inr (hw _ (List.mem_of_getElem? (i := 27) rfl))) (ty := .int) (by decide)
    have F695 : Fld Z h676 b676 "com/example/attestry/attestry/DerReader" "position" "I" (.int (0 : Int32)) := D676 (Or.inl (hw _ (List.mem_of_getElem? (i := 29) rfl))) (ty := .int) (by decide)
    have F696 : Fld Z h676 b676 "com/example/attestry/attestry/DerReader" "end" "I" (.int (0 : Int32)) := D676 (Or.inr (hw _ (List.mem_of_getElem? (i := 31) rfl))) (ty := .int) (by decide)
    have F697 : Fld Z h676 b676 "com/example/attestry/attestry/DerReader" "depth" "I" (.int (0 : Int32)) := D676 (Or.inr (hw _ (List.mem_of_getElem? (i := 33) rfl))) (ty := .int) (by decide)
    refine Go.of (st676) ?_
    show Go p e below T676 (mkF m 130 #[.val (.int p0), .val (.int p1), .val (.int (3 : Int32)), .val (.ref b574), .val (.int (1 : Int32)), .unset, .unset] [(.ref b676)]) _
    refine Go.of (fun tg_ kk_ => XS.dup X676.here hx rfl (hb hby at_130) rfl rfl kk_) ?_
    show Go p e below T676 (mkF m 131 #[.val (.int p0), .val (.int p1), .val (.int (3 : Int32)), .val (.ref b574), .val (.int (1 : Int32)), .unset, .unset] [(.ref b676), (.ref b676)]) _
    refine Go.of (fun tg_ kk_ => XS.aloadN X676.here hx rfl (hb hby at_131) rfl rfl kk_) ?_
    show Go p e below T676 (mkF m 132 #[.val (.int p0), .val (.int p1), .val (.int (3 : Int32)), .val (.ref b574), .val (.int (1 : Int32)), .unset, .unset] [(.ref b574), (.ref b676), (.ref b676)]) _
    obtain ⟨_, _, ⟨T698, L698, k698, n698⟩, -, X698, ⟨Lc698, hQ698, l698, y698, z698⟩, st698⟩ := X676.specialBack hx (y := (⟨"com/example/attestry/attestry/DerReader", "<init>", "([B)V"⟩ : MethodName)) rfl hown (mvT hZ (hw _ (List.mem_of_getElem? (i := 9) rfl))) (mvT hZ (hw _ (List.mem_of_getElem? (i := 10) rfl))) (mvT hZ (hw _ (List.mem_of_getElem? (i := 11) rfl))) (by decide) (backOf (W := 1) (rm2_10 l Z a0 hw [] b676 b574 f631 h676 n0 Zs690 gx676 A676 F692 F693 F694 F695 F696 F697 F680 (Ne.symm ne677)) hZ (hw _ (List.mem_of_getElem? (i := 11) rfl)) (hw _ (List.mem_of_getElem? (i := 8) rfl)) (by decide) (by decide)) (g := (mkF m 132 #[.val (.int p0), .val (.int p1), .val (.int (3 : Int32)), .val (.ref b574), .val (.int (1 : Int32)), .unset, .unset] [(.ref b574), (.ref b676), (.ref b676)])) rfl (by rw [hml]; rfl) (Steps.refl _) (a := b676) (argsL := [(.ref b574)]) (rest := [(.ref b676)]) (lenOf pd_9 rfl) rfl (by show 2 * 0 + _ ≤ _; exact Nat.le_of_eq rfl) (hb hby at_132) (fun _ _ => ⟨rfl, e676, (show 5 + 1 ≤ 32 from by decide), (show 23 + 1 ≤ 2240 from by decide)⟩)
    dsimp only [Pt.U, Pt.locs, Pt.cells, Pt.slots] at X698 l698 y698 z698 st698 hQ698
    have X698 := own_stand X698 l698 y698 z698
    obtain ⟨q698, rfl, N698q, K698q, Fbytes_698, FberNote_698, Fstart_698, Fposition_698, Fend_698, Fdepth_698⟩ := hQ698
    have N698 := Fr.app N675 N698q
    have F699 := F680.keep K698q (ninS ne677 nin0)
    have F700 := F681.keep K698q
    have F701 := F682.keep K698q (ninS ne679 nin0)
    have F702 := F683.keep K698q (ninS ne678 nin0)
    have F703 := F684.keep K698q (ninS ne678 nin0)
    have F704 := F685.keep K698q (ninS ne678 nin0)
    have F705 := F686.keep K698q (ninS ne678 nin0)
    have F706 := F687.keep K698q (ninS ne678 nin0)
    have F707 := F688.keep K698q (ninS ne678 nin0)
    have F708 := A676.keep K698q
    have K715 := K689.trans K698q (allS (Or.inr sz676) all0)
    have Zs716 : n0 ≤ T698.heap.size := Nat.le_trans Zs690 K698q.1
    have hk717 := Nat.le_trans hk691 K698q.1
    refine Go.of (fun tg_ kk_ => st698.trans kk_) ?_
    show Go p e below T698 (mkF m 135 #[.val (.int p0), .val (.int p1), .val (.int (3 : Int32)), .val (.ref b574), .val (.int (1 : Int32)), .unset, .unset] [(.ref b676)]) _
    refine Go.of (fun tg_ kk_ => XS.astore X698.here hx rfl (hb hby at_135) rfl rfl (l' := #[.val (.int p0), .val (.int p1), .val (.int (3 : Int32)), .val (.ref b574), .val (.int (1 : Int32)), .val (.ref b676), .unset]) rfl kk_) ?_
    show Go p e below T698 (mkF m 137 #[.val (.int p0), .val (.int p1), .val (.int (3 : Int32)), .val (.ref b574), .val (.int (1 : Int32)), .val (.ref b676), .unset] []) _
    refine Go.of (fun tg_ kk_ => XS.iload X698.here hx rfl (hb hby at_137) rfl kk_) ?_
    show Go p e below T698 (mkF m 139 #[.val (.int p0), .val (.int p1), .val (.int (3 : Int32)), .val (.ref b574), .val (.int (1 : Int32)), .val (.ref b676), .unset] [(.int (1 : Int32))]) _
    refine Go.of (fun tg_ kk_ => XS.ifNo X698.here hx rfl (hb hby at_139) rfl ((if0 _ _).trans (feq (show ¬ ((1 : Int32) = (0 : Int32)) by decide)).1) kk_) ?_
    show Go p e below T698 (mkF m 142 #[.val (.int p0), .val (.int p1), .val (.int (3 : Int32)), .val (.ref b574), .val (.int (1 : Int32)), .val (.ref b676), .unset] []) _
    refine Go.of (fun tg_ kk_ => XS.aload X698.here hx rfl (hb hby at_142) rfl rfl kk_) ?_
    show Go p e below T698 (mkF m 144 #[.val (.int p0), .val (.int p1), .val (.int (3 : Int32)), .val (.ref b574), .val (.int (1 : Int32)), .val (.ref b676), .unset] [(.ref b676)]) _
    obtain ⟨cq718, kq718, q718a, q718b, q718c⟩ := isOf hZ rfl F708
    obtain ⟨_, _, ⟨T718, L718, k718, n718⟩, -, X718, ⟨Lc718, hQ718, l718, y718, z718⟩, st718⟩ := X698.virtualBack hx (y := (⟨"com/example/attestry/attestry/DerReader", "hasNext", "()Z"⟩ : MethodName)) (z := (⟨"com/example/attestry/attestry/DerReader", "hasNext", "()Z"⟩ : MethodName)) hown (mvT hZ (hw _ (List.mem_of_getElem? (i := 34) rfl))) (mvT hZ (hw _ (List.mem_of_getElem? (i := 35) rfl))) (notFace_of_selects (args := #[]) (mvT hZ (hw _ (List.mem_of_getElem? (i := 37) rfl)))) (mvT hZ (hw _ (List.mem_of_getElem? (i := 37) rfl))) (mvT hZ (hw _ (List.mem_of_getElem? (i := 36) rfl))) (by decide) (backOf (W := 0) (rm5 l Z a0 hw [] b676 (0 : Int32) (10 : Int32) T698.heap n0 Zs716 Fposition_698 Fend_698) hZ (hw _ (List.mem_of_getElem? (i := 38) rfl)) (hw _ (List.mem_of_getElem? (i := 8) rfl)) (by decide) (by decide)) q718a q718c (g := (mkF m 144 #[.val (.int p0), .val (.int p1), .val (.int (3 : Int32)), .val (.ref b574), .val (.int (1 : Int32)), .val (.ref b676), .unset] [(.ref b676)])) rfl (by rw [hml]; rfl) (Steps.refl _) (argsL := []) (rest := []) (lenOf pd_1 rfl) rfl (by show 2 * 0 + _ ≤ _; exact Nat.le_of_eq rfl) (hb hby at_144) (fun _ _ => ⟨rfl, rfl, (show 6 + 0 ≤ 32 from by decide), (show 24 + 0 ≤ 2240 from by decide)⟩)
    dsimp only [Pt.U, Pt.locs, Pt.cells, Pt.slots] at X718 l718 y718 z718 st718 hQ718
    have X718 := own_stand X718 l718 y718 z718
    obtain ⟨hv718, N718q, e718⟩ := hQ718
    rw [if_pos (show ((0 : Int32) < (10 : Int32)) by decide)] at hv718
    subst hv718
    have N718 := Fr.app N698 N718q
    refine Go.of (fun tg_ kk_ => st718.trans kk_) ?_
    show Go p e below T718 (mkF m 147 #[.val (.int p0), .val (.int p1), .val (.int (3 : Int32)), .val (.ref b574), .val (.int (1 : Int32)), .val (.ref b676), .unset] [(.int (1 : Int32))]) _
    refine Go.of (fun tg_ kk_ => XS.ifNo X718.here hx rfl (hb hby at_147) rfl ((if0 _ _).trans (feq (show ¬ ((1 : Int32) = (0 : Int32)) by decide)).1) kk_) ?_
    show Go p e below T718 (mkF m 150 #[.val (.int p0), .val (.int p1), .val (.int (3 : Int32)), .val (.ref b574), .val (.int (1 : Int32)), .val (.ref b676), .unset] []) _
    refine Go.of (fun tg_ kk_ => XS.iconst X718.here hx rfl (hb hby at_150) kk_) ?_
    show Go p e below T718 (mkF m 151 #[.val (.int p0), .val (.int p1), .val (.int (3 : Int32)), .val (.ref b574), .val (.int (1 : Int32)), .val (.ref b676), .unset] [(.int (1 : Int32))]) _
    refine Go.of (fun tg_ kk_ => XS.goto X718.here hx rfl (pc0 := 151) (pc' := 155) rfl (hb hby at_151) (by decide) (by decide) kk_) ?_
    show Go p e below T718 (mkF m 155 #[.val (.int p0), .val (.int p1), .val (.int (3 : Int32)), .val (.ref b574), .val (.int (1 : Int32)), .val (.ref b676), .unset] [(.int (1 : Int32))]) _
    refine Go.of (fun tg_ kk_ => XS.istore X718.here hx rfl (hb hby at_155) rfl (l' := #[.val (.int p0), .val (.int p1), .val (.int (3 : Int32)), .val (.ref b574), .val (.int (1 : Int32)), .val (.ref b676), .unset]) rfl kk_) ?_
    show Go p e below T718 (mkF m 157 #[.val (.int p0), .val (.int p1), .val (.int (3 : Int32)), .val (.ref b574), .val (.int (1 : Int32)), .val (.ref b676), .unset] []) _
    refine Go.of (fun tg_ kk_ => XS.iload X718.here hx rfl (hb hby at_157) rfl kk_) ?_
    show Go p e below T718 (mkF m 159 #[.val (.int p0), .val (.int p1), .val (.int (3 : Int32)), .val (.ref b574), .val (.int (1 : Int32)), .val (.ref b676), .unset] [(.int (1 : Int32))]) _
    refine Go.of (fun tg_ kk_ => XS.ifNo X718.here hx rfl (hb hby at_159) rfl ((if0 _ _).trans (feq (show ¬ ((1 : Int32) = (0 : Int32)) by decide)).1) kk_) ?_
    show Go p e below T718 (mkF m 162 #[.val (.int p0), .val (.int p1), .val (.int (3 : Int32)), .val (.ref b574), .val (.int (1 : Int32)), .val (.ref b676), .unset] []) _
    refine Go.of (fun tg_ kk_ => XS.aload X718.here hx rfl (hb hby at_162) rfl rfl kk_) ?_
    show Go p e below T718 (mkF m 164 #[.val (.int p0), .val (.int p1), .val (.int (3 : Int32)), .val (.ref b574), .val (.int (1 : Int32)), .val (.ref b676), .unset] [(.ref b676)]) _
    obtain ⟨cq719, kq719, q719a, q719b, q719c⟩ := isOf hZ e718 F708
    obtain ⟨_, _, ⟨T719, L719, k719, n719⟩, -, X719, ⟨Lc719, hQ719, l719, y719, z719⟩, st719⟩ := X718.virtualBack hx (y := (⟨"com/example/attestry/attestry/DerReader", "hasNext", "()Z"⟩ : MethodName)) (z := (⟨"com/example/attestry/attestry/DerReader", "hasNext", "()Z"⟩ : MethodName)) hown (mvT hZ (hw _ (List.mem_of_getElem? (i := 34) rfl))) (mvT hZ (hw _ (List.mem_of_getElem? (i := 35) rfl))) (notFace_of_selects (args := #[]) (mvT hZ (hw _ (List.mem_of_getElem? (i := 37) rfl)))) (mvT hZ (hw _ (List.mem_of_getElem? (i := 37) rfl))) (mvT hZ (hw _ (List.mem_of_getElem? (i := 36) rfl))) (by decide) (backOf (W := 0) (rm5 l Z a0 hw [] b676 (0 : Int32) (10 : Int32) T698.heap n0 Zs716 Fposition_698 Fend_698) hZ (hw _ (List.mem_of_getElem? (i := 38) rfl)) (hw _ (List.mem_of_getElem? (i := 8) rfl)) (by decide) (by decide)) q719a q719c (g := (mkF m 164 #[.val (.int p0), .val (.int p1), .val (.int (3 : Int32)), .val (.ref b574), .val (.int (1 : Int32)), .val (.ref b676), .unset] [(.ref b676)])) rfl (by rw [hml]; rfl) (Steps.refl _) (argsL := []) (rest := []) (lenOf pd_1 rfl) rfl (by show 2 * 0 + _ ≤ _; exact Nat.le_of_eq rfl) (hb hby at_164) (fun _ _ => ⟨rfl, e718, (show 6 + 0 ≤ 32 from by decide), (show 24 + 0 ≤ 2240 from by decide)⟩)
    dsimp only [Pt.U, Pt.locs, Pt.cells, Pt.slots] at X719 l719 y719 z719 st719 hQ719
    have X719 := own_stand X719 l719 y719 z719
    obtain ⟨hv719, N719q, e719⟩ := hQ719
    rw [if_pos (show ((0 : Int32) < (10 : Int32)) by decide)] at hv719
    subst hv719
    have N719 := Fr.app N718 N719q
    refine Go.of (fun tg_ kk_ => st719.trans kk_) ?_
    show Go p e below T719 (mkF m 167 #[.val (.int p0), .val (.int p1), .val (.int (3 : Int32)), .val (.ref b574), .val (.int (1 : Int32)), .val (.ref b676), .unset] [(.int (1 : Int32))]) _
    refine Go.of (fun tg_ kk_ => XS.ifNo X719.here hx rfl (hb hby at_167) rfl ((if0 _ _).trans (feq (show ¬ ((1 : Int32) = (0 : Int32)) by decide)).1) kk_) ?_
    show Go p e below T719 (mkF m 170 #[.val (.int p0), .val (.int p1), .val (.int (3 : Int32)), .val (.ref b574), .val (.int (1 : Int32)), .val (.ref b676), .unset] []) _
    refine Go.of (fun tg_ kk_ => XS.iconst X719.here hx rfl (hb hby at_170) kk_) ?_
    show Go p e below T719 (mkF m 171 #[.val (.int p0), .val (.int p1), .val (.int (3 : Int32)), .val (.ref b574), .val (.int (1 : Int32)), .val (.ref b676), .unset] [(.int (1 : Int32))]) _
    refine Go.of (fun tg_ kk_ => XS.goto X719.here hx rfl (pc0 := 171) (pc' := 175) rfl (hb hby at_171) (by decide) (by decide) kk_) ?_
    show Go p e below T719 (mkF m 175 #[.val (.int p0), .val (.int p1), .val (.int (3 : Int32)), .val (.ref b574), .val (.int (1 : Int32)), .val (.ref b676), .unset] [(.int (1 : Int32))]) _
    refine Go.of (fun tg_ kk_ => XS.istore X719.here hx rfl (hb hby at_175) rfl (l' := #[.val (.int p0), .val (.int p1), .val (.int (3 : Int32)), .val (.ref b574), .val (.int (1 : Int32)), .val (.ref b676), .unset]) rfl kk_) ?_
    show Go p e below T719 (mkF m 177 #[.val (.int p0), .val (.int p1), .val (.int (3 : Int32)), .val (.ref b574), .val (.int (1 : Int32)), .val (.ref b676), .unset] []) _
    refine Go.of (fun tg_ kk_ => XS.aload X719.here hx rfl (hb hby at_177) rfl rfl kk_) ?_
    show Go p e below T719 (mkF m 179 #[.val (.int p0), .val (.int p1), .val (.int (3 : Int32)), .val (.ref b574), .val (.int (1 : Int32)), .val (.ref b676), .unset] [(.ref b676)]) _
    obtain ⟨cq720, kq720, q720a, q720b, q720c⟩ := isOf hZ e719 F708
    obtain ⟨_, _, ⟨T720, L720, k720, n720⟩, -, Xq720, hSq720, hgr720, ⟨Lc720, hQ720, l720, y720, z720⟩, st720⟩ := X719.virtualBackS hx (y := (⟨"com/example/attestry/attestry/DerReader", "sequence", "()Lcom/example/attestry/attestry/DerReader;"⟩ : MethodName)) (z := (⟨"com/example/attestry/attestry/DerReader", "sequence", "()Lcom/example/attestry/attestry/DerReader;"⟩ : MethodName)) hown (mvT hZ (hw _ (List.mem_of_getElem? (i := 39) rfl))) (mvT hZ (hw _ (List.mem_of_getElem? (i := 40) rfl))) (notFace_of_selects (args := #[]) (mvT hZ (hw _ (List.mem_of_getElem? (i := 42) rfl)))) (mvT hZ (hw _ (List.mem_of_getElem? (i := 42) rfl))) (mvT hZ (hw _ (List.mem_of_getElem? (i := 41) rfl))) (by decide) (backOfS (W := 0) (rm6 l Z a0 hw [] b676 b574 q698 (0 : Int32) (0 : Int32) (10 : Int32) (1 : Int32) f631 (6 : Int32) T698.heap n0 Zs716 gx676 F708 Fbytes_698 FberNote_698 Fstart_698 Fposition_698 Fend_698 Fdepth_698 F699 (Ne.symm ne677) (by decide +kernel) ⟨by decide +kernel, by decide +kernel⟩ (by rw [show ((0 : Int32)).toNatClampNeg = 0 from by decide +kernel, by0_]; decide +kernel) (by decide +kernel) ⟨by decide +kernel, by decide +kernel⟩ (by rw [show (((0 : Int32) + (1 : Int32))).toNatClampNeg = 1 from by decide +kernel, by1_]; decide +kernel) (by decide +kernel) (by decide +kernel) (by decide +kernel) (by decide +kernel)) hZ (hw _ (List.mem_of_getElem? (i := 43) rfl)) (hw _ (List.mem_of_getElem? (i := 8) rfl)) (by decide) (by decide)) q720a q720c (g := (mkF m 179 #[.val (.int p0), .val (.int p1), .val (.int (3 : Int32)), .val (.ref b574), .val (.int (1 : Int32)), .val (.ref b676), .unset] [(.ref b676)])) rfl (by rw [hml]; rfl) (Steps.refl _) (argsL := []) (rest := []) (lenOf pd_10 rfl) rfl (by show 2 * 0 + _ ≤ _; exact Nat.le_of_eq rfl) (hb hby at_179) (fun _ _ => ⟨rfl, e719, (show 6 + 3 ≤ 32 from by decide), (show 24 + 42 ≤ 2240 from by decide)⟩)
    dsimp only [Pt.U, Pt.locs, Pt.cells, Pt.slots] at Xq720 l720 y720 z720 st720 hQ720 hSq720 hgr720
    have Xq720 := own_stand Xq720 l720 y720 z720
    obtain ⟨X720, hS720, hZ720, hown720⟩ := rebS hS0 (by rw [e719]; exact hk717) Xq720 hSq720 hgr720 hZ hown
    obtain ⟨c720, rfl, N720q, K720q, gx720, sz720, E720, Fbytes_720, FberNote_720, Fstart_720, Fposition_720, Fend_720, Fdepth_720, Gbytes_720, GberNote_720, Gstart_720, Gposition_720, Gend_720, Gdepth_720⟩ := hQ720
    have N720 := Fr.app N719 N720q
    have sy720 : h0.size ≤ c720 := Nat.le_trans K715.1 sz720
    have ne721 : b574 ≠ c720 := Nat.ne_of_lt (Nat.lt_of_lt_of_le F699.lt sz720)
    have ne722 : b636 ≠ c720 := Nat.ne_of_lt (Nat.lt_of_lt_of_le F700.lt sz720)
    have ne723 : b648 ≠ c720 := Nat.ne_of_lt (Nat.lt_of_lt_of_le F701.lt sz720)
    have ne724 : b676 ≠ c720 := Nat.ne_of_lt (Nat.lt_of_lt_of_le F708.lt sz720)
    have F725 := F699.keep K720q (ninS ne677 nin0)
    have F726 := F700.keep K720q
    have F727 := F701.keep K720q (ninS ne679 nin0)
    have F728 := F702.keep K720q (ninS ne678 nin0)
    have F729 := F703.keep K720q (ninS ne678 nin0)
    have F730 := F704.keep K720q (ninS ne678 nin0)
    have F731 := F705.keep K720q (ninS ne678 nin0)
    have F732 := F706.keep K720q (ninS ne678 nin0)
    have F733 := F707.keep K720q (ninS ne678 nin0)
    have F734 := F708.keep K720q
    have K741 := K715.trans K720q (allS (Or.inr sz676) all0)
    have Zs742 : n0 ≤ T720.heap.size := Nat.le_trans Zs716 K720q.1
    have hk743 := Nat.le_trans hk717 K720q.1
    rw [show ((((0 : Int32) + (1 : Int32)) + (1 : Int32)) + (6 : Int32).toInt64.toInt32) = (8 : Int32) from by decide +kernel] at Fposition_720
    rw [show (((0 : Int32) + (1 : Int32)) + (1 : Int32)) = (2 : Int32) from by decide +kernel] at Gposition_720
    rw [show ((((0 : Int32) + (1 : Int32)) + (1 : Int32)) + (6 : Int32).toInt64.toInt32) = (8 : Int32) from by decide +kernel] at Gend_720
    rw [show ((1 : Int32) + (1 : Int32)) = (2 : Int32) from by decide +kernel] at Gdepth_720
    refine Go.of (fun tg_ kk_ => st720.trans kk_) ?_
    show Go p e below T720 (mkF m 182 #[.val (.int p0), .val (.int p1), .val (.int (3 : Int32)), .val (.ref b574), .val (.int (1 : Int32)), .val (.ref b676), .unset] [(.ref c720)]) _
    refine Go.of (fun tg_ kk_ => XS.astore X720.here hx rfl (hb hby at_182) rfl rfl (l' := #[.val (.int p0), .val (.int p1), .val (.int (3 : Int32)), .val (.ref b574), .val (.int (1 : Int32)), .val (.ref b676), .val (.ref c720)]) rfl kk_) ?_
    show Go p e below T720 (mkF m 184 #[.val (.int p0), .val (.int p1), .val (.int (3 : Int32)), .val (.ref b574), .val (.int (1 : Int32)), .val (.ref b676), .val (.ref c720)] []) _
    refine Go.of (fun tg_ kk_ => XS.iload X720.here hx rfl (hb hby at_184) rfl kk_) ?_
    show Go p e below T720 (mkF m 186 #[.val (.int p0), .val (.int p1), .val (.int (3 : Int32)), .val (.ref b574), .val (.int (1 : Int32)), .val (.ref b676), .val (.ref c720)] [(.int (1 : Int32))]) _
    refine Go.of (fun tg_ kk_ => XS.ifNo X720.here hx rfl (hb hby at_186) rfl ((if0 _ _).trans (feq (show ¬ ((1 : Int32) = (0 : Int32)) by decide)).1) kk_) ?_
    show Go p e below T720 (mkF m 189 #[.val (.int p0), .val (.int p1), .val (.int (3 : Int32)), .val (.ref b574), .val (.int (1 : Int32)), .val (.ref b676), .val (.ref c720)] []) _
    refine Go.of (fun tg_ kk_ => XS.aload X720.here hx rfl (hb hby at_189) rfl rfl kk_) ?_
    show Go p e below T720 (mkF m 191 #[.val (.int p0), .val (.int p1), .val (.int (3 : Int32)), .val (.ref b574), .val (.int (1 : Int32)), .val (.ref b676), .val (.ref c720)] [(.ref b676)]) _
    obtain ⟨cq744, kq744, q744a, q744b, q744c⟩ := isOf hZ720 rfl F734
    obtain ⟨_, _, ⟨T744, L744, k744, n744⟩, -, X744, ⟨Lc744, hQ744, l744, y744, z744⟩, st744⟩ := X720.virtualBack hx (y := (⟨"com/example/attestry/attestry/DerReader", "hasNext", "()Z"⟩ : MethodName)) (z := (⟨"com/example/attestry/attestry/DerReader", "hasNext", "()Z"⟩ : MethodName)) hown720 (mvT hZ720 (hw _ (List.mem_of_getElem? (i := 34) rfl))) (mvT hZ720 (hw _ (List.mem_of_getElem? (i := 35) rfl))) (notFace_of_selects (args := #[]) (mvT hZ720 (hw _ (List.mem_of_getElem? (i := 37) rfl)))) (mvT hZ720 (hw _ (List.mem_of_getElem? (i := 37) rfl))) (mvT hZ720 (hw _ (List.mem_of_getElem? (i := 36) rfl))) (by decide) (backOf (W := 0) (rm5 l Z a0 hw [] b676 (8 : Int32) (10 : Int32) T720.heap n0 Zs742 Fposition_720 Fend_720) hZ720 (hw _ (List.mem_of_getElem? (i := 38) rfl)) (hw _ (List.mem_of_getElem? (i := 8) rfl)) (by decide) (by decide)) q744a q744c (g := (mkF m 191 #[.val (.int p0), .val (.int p1), .val (.int (3 : Int32)), .val (.ref b574), .val (.int (1 : Int32)), .val (.ref b676), .val (.ref c720)] [(.ref b676)])) rfl (by rw [hml]; rfl) (Steps.refl _) (argsL := []) (rest := []) (lenOf pd_1 rfl) rfl (by show 2 * 0 + _ ≤ _; exact Nat.le_of_eq rfl) (hb hby at_191) (fun _ _ => ⟨rfl, rfl, (show 9 + 0 ≤ 32 from by decide), (show 66 + 0 ≤ 2240 from by decide)⟩)
    dsimp only [Pt.U, Pt.locs, Pt.cells, Pt.slots] at X744 l744 y744 z744 st744 hQ744
    have X744 := own_stand X744 l744 y744 z744
    obtain ⟨hv744, N744q, e744⟩ := hQ744
    rw [if_pos (show ((8 : Int32) < (10 : Int32)) by decide)] at hv744
    subst hv744
    have N744 := Fr.app N720 N744q
    refine Go.of (fun tg_ kk_ => st744.trans kk_) ?_
    show Go p e below T744 (mkF m 194 #[.val (.int p0), .val (.int p1), .val (.int (3 : Int32)), .val (.ref b574), .val (.int (1 : Int32)), .val (.ref b676), .val (.ref c720)] [(.int (1 : Int32))]) _
    refine Go.of (fun tg_ kk_ => XS.iloadN X744.here hx rfl (hb hby at_194) rfl kk_) ?_
    show Go p e below T744 (mkF m 195 #[.val (.int p0), .val (.int p1), .val (.int (3 : Int32)), .val (.ref b574), .val (.int (1 : Int32)), .val (.ref b676), .val (.ref c720)] [(.int (3 : Int32)), (.int (1 : Int32))]) _
    refine Go.of (fun tg_ kk_ => XS.iconst X744.here hx rfl (hb hby at_195) kk_) ?_
    show Go p e below T744 (mkF m 196 #[.val (.int p0), .val (.int p1), .val (.int (3 : Int32)), .val (.ref b574), .val (.int (1 : Int32)), .val (.ref b676), .val (.ref c720)] [(.int (4 : Int32)), (.int (3 : Int32)), (.int (1 : Int32))]) _
    refine Go.of (fun tg_ kk_ => XS.icmpNo X744.here hx rfl (hb hby at_196) rfl (tlt (show (3 : Int32) < (4 : Int32) by decide)).2.1 kk_) ?_
    show Go p e below T744 (mkF m 199 #[.val (.int p0), .val (.int p1), .val (.int (3 : Int32)), .val (.ref b574), .val (.int (1 : Int32)), .val (.ref b676), .val (.ref c720)] [(.int (1 : Int32))]) _
    refine Go.of (fun tg_ kk_ => XS.iconst X744.here hx rfl (hb hby at_199) kk_) ?_
    show Go p e below T744 (mkF m 200 #[.val (.int p0), .val (.int p1), .val (.int (3 : Int32)), .val (.ref b574), .val (.int (1 : Int32)), .val (.ref b676), .val (.ref c720)] [(.int (1 : Int32)), (.int (1 : Int32))]) _
    refine Go.of (fun tg_ kk_ => XS.goto X744.here hx rfl (pc0 := 200) (pc' := 204) rfl (hb hby at_200) (by decide) (by decide) kk_) ?_
    show Go p e below T744 (mkF m 204 #[.val (.int p0), .val (.int p1), .val (.int (3 : Int32)), .val (.ref b574), .val (.int (1 : Int32)), .val (.ref b676), .val (.ref c720)] [(.int (1 : Int32)), (.int (1 : Int32))]) _
    refine Go.of (fun tg_ kk_ => XS.icmpNo X744.here hx rfl (hb hby at_204) rfl (teq (show (1 : Int32) = (1 : Int32) by decide)).2 kk_) ?_
    show Go p e below T744 (mkF m 207 #[.val (.int p0), .val (.int p1), .val (.int (3 : Int32)), .val (.ref b574), .val (.int (1 : Int32)), .val (.ref b676), .val (.ref c720)] []) _
    refine Go.of (fun tg_ kk_ => XS.iconst X744.here hx rfl (hb hby at_207) kk_) ?_
    show Go p e below T744 (mkF m 208 #[.val (.int p0), .val (.int p1), .val (.int (3 : Int32)), .val (.ref b574), .val (.int (1 : Int32)), .val (.ref b676), .val (.ref c720)] [(.int (1 : Int32))]) _
    refine Go.of (fun tg_ kk_ => XS.goto X744.here hx rfl (pc0 := 208) (pc' := 212) rfl (hb hby at_208) (by decide) (by decide) kk_) ?_
    show Go p e below T744 (mkF m 212 #[.val (.int p0), .val (.int p1), .val (.int (3 : Int32)), .val (.ref b574), .val (.int (1 : Int32)), .val (.ref b676), .val (.ref c720)] [(.int (1 : Int32))]) _
    refine Go.of (fun tg_ kk_ => XS.istore X744.here hx rfl (hb hby at_212) rfl (l' := #[.val (.int p0), .val (.int p1), .val (.int (3 : Int32)), .val (.ref b574), .val (.int (1 : Int32)), .val (.ref b676), .val (.ref c720)]) rfl kk_) ?_
    show Go p e below T744 (mkF m 214 #[.val (.int p0), .val (.int p1), .val (.int (3 : Int32)), .val (.ref b574), .val (.int (1 : Int32)), .val (.ref b676), .val (.ref c720)] []) _
    refine Go.of (fun tg_ kk_ => XS.iload X744.here hx rfl (hb hby at_214) rfl kk_) ?_
    show Go p e below T744 (mkF m 216 #[.val (.int p0), .val (.int p1), .val (.int (3 : Int32)), .val (.ref b574), .val (.int (1 : Int32)), .val (.ref b676), .val (.ref c720)] [(.int (1 : Int32))]) _
    refine Go.of (fun tg_ kk_ => XS.ifNo X744.here hx rfl (hb hby at_216) rfl ((if0 _ _).trans (feq (show ¬ ((1 : Int32) = (0 : Int32)) by decide)).1) kk_) ?_
    show Go p e below T744 (mkF m 219 #[.val (.int p0), .val (.int p1), .val (.int (3 : Int32)), .val (.ref b574), .val (.int (1 : Int32)), .val (.ref b676), .val (.ref c720)] []) _
    refine Go.of (fun tg_ kk_ => XS.aload X744.here hx rfl (hb hby at_219) rfl rfl kk_) ?_
    show Go p e below T744 (mkF m 221 #[.val (.int p0), .val (.int p1), .val (.int (3 : Int32)), .val (.ref b574), .val (.int (1 : Int32)), .val (.ref b676), .val (.ref c720)] [(.ref c720)]) _
    obtain ⟨cq745, kq745, q745a, q745b, q745c⟩ := isOf hZ720 e744 E720
    obtain ⟨_, _, ⟨T745, L745, k745, n745⟩, -, X745, ⟨Lc745, hQ745, l745, y745, z745⟩, st745⟩ := X744.virtualBack hx (y := (⟨"com/example/attestry/attestry/DerReader", "hasNext", "()Z"⟩ : MethodName)) (z := (⟨"com/example/attestry/attestry/DerReader", "hasNext", "()Z"⟩ : MethodName)) hown720 (mvT hZ720 (hw _ (List.mem_of_getElem? (i := 34) rfl))) (mvT hZ720 (hw _ (List.mem_of_getElem? (i := 35) rfl))) (notFace_of_selects (args := #[]) (mvT hZ720 (hw _ (List.mem_of_getElem? (i := 37) rfl)))) (mvT hZ720 (hw _ (List.mem_of_getElem? (i := 37) rfl))) (mvT hZ720 (hw _ (List.mem_of_getElem? (i := 36) rfl))) (by decide) (backOf (W := 0) (rm5 l Z a0 hw [] c720 (2 : Int32) (8 : Int32) T720.heap n0 Zs742 Gposition_720 Gend_720) hZ720 (hw _ (List.mem_of_getElem? (i := 38) rfl)) (hw _ (List.mem_of_getElem? (i := 8) rfl)) (by decide) (by decide)) q745a q745c (g := (mkF m 221 #[.val (.int p0), .val (.int p1), .val (.int (3 : Int32)), .val (.ref b574), .val (.int (1 : Int32)), .val (.ref b676), .val (.ref c720)] [(.ref c720)])) rfl (by rw [hml]; rfl) (Steps.refl _) (argsL := []) (rest := []) (lenOf pd_1 rfl) rfl (by show 2 * 0 + _ ≤ _; exact Nat.le_of_eq rfl) (hb hby at_221) (fun _ _ => ⟨rfl, e744, (show 9 + 0 ≤ 32 from by decide), (show 66 + 0 ≤ 2240 from by decide)⟩)
    dsimp only [Pt.U, Pt.locs, Pt.cells, Pt.slots] at X745 l745 y745 z745 st745 hQ745
    have X745 := own_stand X745 l745 y745 z745
    obtain ⟨hv745, N745q, e745⟩ := hQ745
    rw [if_pos (show ((2 : Int32) < (8 : Int32)) by decide)] at hv745
    subst hv745
    have N745 := Fr.app N744 N745q
    refine Go.of (fun tg_ kk_ => st745.trans kk_) ?_
    show Go p e below T745 (mkF m 224 #[.val (.int p0), .val (.int p1), .val (.int (3 : Int32)), .val (.ref b574), .val (.int (1 : Int32)), .val (.ref b676), .val (.ref c720)] [(.int (1 : Int32))]) _
    refine Go.of (fun tg_ kk_ => XS.iloadN X745.here hx rfl (hb hby at_224) rfl kk_) ?_
    show Go p e below T745 (mkF m 225 #[.val (.int p0), .val (.int p1), .val (.int (3 : Int32)), .val (.ref b574), .val (.int (1 : Int32)), .val (.ref b676), .val (.ref c720)] [(.int (3 : Int32)), (.int (1 : Int32))]) _
    refine Go.of (fun tg_ kk_ => XS.ifNo X745.here hx rfl (hb hby at_225) rfl ((if0 _ _).trans (tlt (show (0 : Int32) < (3 : Int32) by decide)).2.2.2) kk_) ?_
    show Go p e below T745 (mkF m 228 #[.val (.int p0), .val (.int p1), .val (.int (3 : Int32)), .val (.ref b574), .val (.int (1 : Int32)), .val (.ref b676), .val (.ref c720)] [(.int (1 : Int32))]) _
    refine Go.of (fun tg_ kk_ => XS.iconst X745.here hx rfl (hb hby at_228) kk_) ?_
    show Go p e below T745 (mkF m 229 #[.val (.int p0), .val (.int p1), .val (.int (3 : Int32)), .val (.ref b574), .val (.int (1 : Int32)), .val (.ref b676), .val (.ref c720)] [(.int (1 : Int32)), (.int (1 : Int32))]) _
    refine Go.of (fun tg_ kk_ => XS.goto X745.here hx rfl (pc0 := 229) (pc' := 233) rfl (hb hby at_229) (by decide) (by decide) kk_) ?_
    show Go p e below T745 (mkF m 233 #[.val (.int p0), .val (.int p1), .val (.int (3 : Int32)), .val (.ref b574), .val (.int (1 : Int32)), .val (.ref b676), .val (.ref c720)] [(.int (1 : Int32)), (.int (1 : Int32))]) _
    refine Go.of (fun tg_ kk_ => XS.icmpNo X745.here hx rfl (hb hby at_233) rfl (teq (show (1 : Int32) = (1 : Int32) by decide)).2 kk_) ?_
    show Go p e below T745 (mkF m 236 #[.val (.int p0), .val (.int p1), .val (.int (3 : Int32)), .val (.ref b574), .val (.int (1 : Int32)), .val (.ref b676), .val (.ref c720)] []) _
    refine Go.of (fun tg_ kk_ => XS.iconst X745.here hx rfl (hb hby at_236) kk_) ?_
    show Go p e below T745 (mkF m 237 #[.val (.int p0), .val (.int p1), .val (.int (3 : Int32)), .val (.ref b574), .val (.int (1 : Int32)), .val (.ref b676), .val (.ref c720)] [(.int (1 : Int32))]) _
    refine Go.of (fun tg_ kk_ => XS.goto X745.here hx rfl (pc0 := 237) (pc' := 241) rfl (hb hby at_237) (by decide) (by decide) kk_) ?_
    show Go p e below T745 (mkF m 241 #[.val (.int p0), .val (.int p1), .val (.int (3 : Int32)), .val (.ref b574), .val (.int (1 : Int32)), .val (.ref b676), .val (.ref c720)] [(.int (1 : Int32))]) _
    refine Go.of (fun tg_ kk_ => XS.istore X745.here hx rfl (hb hby at_241) rfl (l' := #[.val (.int p0), .val (.int p1), .val (.int (3 : Int32)), .val (.ref b574), .val (.int (1 : Int32)), .val (.ref b676), .val (.ref c720)]) rfl kk_) ?_
    show Go p e below T745 (mkF m 243 #[.val (.int p0), .val (.int p1), .val (.int (3 : Int32)), .val (.ref b574), .val (.int (1 : Int32)), .val (.ref b676), .val (.ref c720)] []) _
    refine Go.of (fun tg_ kk_ => XS.iloadN X745.here hx rfl (hb hby at_243) rfl kk_) ?_
    show Go p e below T745 (mkF m 244 #[.val (.int p0), .val (.int p1), .val (.int (3 : Int32)), .val (.ref b574), .val (.int (1 : Int32)), .val (.ref b676), .val (.ref c720)] [(.int (3 : Int32))]) _
    refine Go.of (fun tg_ kk_ => XS.ifNo X745.here hx rfl (hb hby at_244) rfl ((if0 _ _).trans (tlt (show (0 : Int32) < (3 : Int32) by decide)).2.2.2) kk_) ?_
    show Go p e below T745 (mkF m 247 #[.val (.int p0), .val (.int p1), .val (.int (3 : Int32)), .val (.ref b574), .val (.int (1 : Int32)), .val (.ref b676), .val (.ref c720)] []) _
    refine Go.of (fun tg_ kk_ => XS.aload X745.here hx rfl (hb hby at_247) rfl rfl kk_) ?_
    show Go p e below T745 (mkF m 249 #[.val (.int p0), .val (.int p1), .val (.int (3 : Int32)), .val (.ref b574), .val (.int (1 : Int32)), .val (.ref b676), .val (.ref c720)] [(.ref c720)]) _
    obtain ⟨cq746, kq746, q746a, q746b, q746c⟩ := isOf hZ720 e745 E720
    obtain ⟨_, _, ⟨T746, L746, k746, n746⟩, -, Xq746, hSq746, hgr746, ⟨Lc746, hQ746, l746, y746, z746⟩, st746⟩ := X745.virtualBackS hx (y := (⟨"com/example/attestry/attestry/DerReader", "nullValue", "()V"⟩ : MethodName)) (z := (⟨"com/example/attestry/attestry/DerReader", "nullValue", "()V"⟩ : MethodName)) hown720 (mvT hZ720 (hw _ (List.mem_of_getElem? (i := 81) rfl))) (mvT hZ720 (hw _ (List.mem_of_getElem? (i := 82) rfl))) (notFace_of_selects (args := #[]) (mvT hZ720 (hw _ (List.mem_of_getElem? (i := 84) rfl)))) (mvT hZ720 (hw _ (List.mem_of_getElem? (i := 84) rfl))) (mvT hZ720 (hw _ (List.mem_of_getElem? (i := 83) rfl))) (by decide) (backOfS (W := 0) (rm14 l Z a0 hw [] c720 b574 q698 (0 : Int32) (2 : Int32) (8 : Int32) (2 : Int32) f631 T720.heap n0 Zs742 gx720 E720 Gbytes_720 GberNote_720 Gstart_720 Gposition_720 Gend_720 Gdepth_720 F725 (Ne.symm ne721) (by decide +kernel) ⟨by decide +kernel, by decide +kernel⟩ (by rw [show ((2 : Int32)).toNatClampNeg = 2 from by decide +kernel, by2_]; decide +kernel) (by decide +kernel) ⟨by decide +kernel, by decide +kernel⟩ (by rw [show (((2 : Int32) + (1 : Int32))).toNatClampNeg = 3 from by decide +kernel, by3_]; decide +kernel) (by decide +kernel) (by decide +kernel) (by decide +kernel) (by decide +kernel)) hZ720 (hw _ (List.mem_of_getElem? (i := 85) rfl)) (hw _ (List.mem_of_getElem? (i := 8) rfl)) (by decide) (by decide)) q746a q746c (g := (mkF m 249 #[.val (.int p0), .val (.int p1), .val (.int (3 : Int32)), .val (.ref b574), .val (.int (1 : Int32)), .val (.ref b676), .val (.ref c720)] [(.ref c720)])) rfl (by rw [hml]; rfl) (Steps.refl _) (argsL := []) (rest := []) (lenOf pd_0 rfl) rfl (by show 2 * 0 + _ ≤ _; exact Nat.le_of_eq rfl) (hb hby at_249) (fun _ _ => ⟨rfl, e745, (show 9 + 3 ≤ 32 from by decide), (show 66 + 26 ≤ 2240 from by decide)⟩)
    dsimp only [Pt.U, Pt.locs, Pt.cells, Pt.slots] at Xq746 l746 y746 z746 st746 hQ746 hSq746 hgr746
    have Xq746 := own_stand Xq746 l746 y746 z746
    obtain ⟨X746, hS746, hZ746, hown746⟩ := rebS hS720 (by rw [e745]; exact (Nat.le_refl T720.heap.size)) Xq746 hSq746 hgr746 hZ720 hown720
    obtain ⟨rfl, N746q, K746q, Fbytes_746, FberNote_746, Fstart_746, Fposition_746, Fend_746, Fdepth_746⟩ := hQ746
    have N746 := Fr.app N745 N746q
    have F747 := F725.keep K746q (ninS ne721 nin0)
    have F748 := F726.keep K746q
    have F749 := F727.keep K746q (ninS ne723 nin0)
    have F750 := F728.keep K746q (ninS ne722 nin0)
    have F751 := F729.keep K746q (ninS ne722 nin0)
    have F752 := F730.keep K746q (ninS ne722 nin0)
    have F753 := F731.keep K746q (ninS ne722 nin0)
    have F754 := F732.keep K746q (ninS ne722 nin0)
    have F755 := F733.keep K746q (ninS ne722 nin0)
    have F756 := F734.keep K746q
    have F757 := Fbytes_720.keep K746q (ninS ne724 nin0)
    have F758 := FberNote_720.keep K746q (ninS ne724 nin0)
    have F759 := Fstart_720.keep K746q (ninS ne724 nin0)
    have F760 := Fposition_720.keep K746q (ninS ne724 nin0)
    have F761 := Fend_720.keep K746q (ninS ne724 nin0)
    have F762 := Fdepth_720.keep K746q (ninS ne724 nin0)
    have F769 := E720.keep K746q
    have K770 := K741.trans K746q (allS (Or.inr sy720) all0)
    have Zs771 : n0 ≤ T746.heap.size := Nat.le_trans Zs742 K746q.1
    have hk772 := Nat.le_trans (Nat.le_refl T720.heap.size) K746q.1
    rw [show ((((2 : Int32) + (1 : Int32)) + (1 : Int32)) + (0 : Int32).toInt64.toInt32) = (4 : Int32) from by decide +kernel] at Fposition_746
    refine Go.of (fun tg_ kk_ => st746.trans kk_) ?_
    show Go p e below T746 (mkF m 252 #[.val (.int p0), .val (.int p1), .val (.int (3 : Int32)), .val (.ref b574), .val (.int (1 : Int32)), .val (.ref b676), .val (.ref c720)] []) _
    refine Go.of (fun tg_ kk_ => XS.iload X746.here hx rfl (hb hby at_252) rfl kk_) ?_
    show Go p e below T746 (mkF m 254 #[.val (.int p0), .val (.int p1), .val (.int (3 : Int32)), .val (.ref b574), .val (.int (1 : Int32)), .val (.ref b676), .val (.ref c720)] [(.int (1 : Int32))]) _
    refine Go.of (fun tg_ kk_ => XS.ifNo X746.here hx rfl (hb hby at_254) rfl ((if0 _ _).trans (feq (show ¬ ((1 : Int32) = (0 : Int32)) by decide)).1) kk_) ?_
    show Go p e below T746 (mkF m 257 #[.val (.int p0), .val (.int p1), .val (.int (3 : Int32)), .val (.ref b574), .val (.int (1 : Int32)), .val (.ref b676), .val (.ref c720)] []) _
    refine Go.of (fun tg_ kk_ => XS.aload X746.here hx rfl (hb hby at_257) rfl rfl kk_) ?_
    show Go p e below T746 (mkF m 259 #[.val (.int p0), .val (.int p1), .val (.int (3 : Int32)), .val (.ref b574), .val (.int (1 : Int32)), .val (.ref b676), .val (.ref c720)] [(.ref c720)]) _
    obtain ⟨cq773, kq773, q773a, q773b, q773c⟩ := isOf hZ746 rfl F769
    obtain ⟨_, _, ⟨T773, L773, k773, n773⟩, -, X773, ⟨Lc773, hQ773, l773, y773, z773⟩, st773⟩ := X746.virtualBack hx (y := (⟨"com/example/attestry/attestry/DerReader", "hasNext", "()Z"⟩ : MethodName)) (z := (⟨"com/example/attestry/attestry/DerReader", "hasNext", "()Z"⟩ : MethodName)) hown746 (mvT hZ746 (hw _ (List.mem_of_getElem? (i := 34) rfl))) (mvT hZ746 (hw _ (List.mem_of_getElem? (i := 35) rfl))) (notFace_of_selects (args := #[]) (mvT hZ746 (hw _ (List.mem_of_getElem? (i := 37) rfl)))) (mvT hZ746 (hw _ (List.mem_of_getElem? (i := 37) rfl))) (mvT hZ746 (hw _ (List.mem_of_getElem? (i := 36) rfl))) (by decide) (backOf (W := 0) (rm5 l Z a0 hw [] c720 (4 : Int32) (8 : Int32) T746.heap n0 Zs771 Fposition_746 Fend_746) hZ746 (hw _ (List.mem_of_getElem? (i := 38) rfl)) (hw _ (List.mem_of_getElem? (i := 8) rfl)) (by decide) (by decide)) q773a q773c (g := (mkF m 259 #[.val (.int p0), .val (.int p1), .val (.int (3 : Int32)), .val (.ref b574), .val (.int (1 : Int32)), .val (.ref b676), .val (.ref c720)] [(.ref c720)])) rfl (by rw [hml]; rfl) (Steps.refl _) (argsL := []) (rest := []) (lenOf pd_1 rfl) rfl (by show 2 * 0 + _ ≤ _; exact Nat.le_of_eq rfl) (hb hby at_259) (fun _ _ => ⟨rfl, rfl, (show 12 + 0 ≤ 32 from by decide), (show 92 + 0 ≤ 2240 from by decide)⟩)
    dsimp only [Pt.U, Pt.locs, Pt.cells, Pt.slots] at X773 l773 y773 z773 st773 hQ773
    have X773 := own_stand X773 l773 y773 z773
    obtain ⟨hv773, N773q, e773⟩ := hQ773
    rw [if_pos (show ((4 : Int32) < (8 : Int32)) by decide)] at hv773
    subst hv773
    have N773 := Fr.app N746 N773q
    refine Go.of (fun tg_ kk_ => st773.trans kk_) ?_
    show Go p e below T773 (mkF m 262 #[.val (.int p0), .val (.int p1), .val (.int (3 : Int32)), .val (.ref b574), .val (.int (1 : Int32)), .val (.ref b676), .val (.ref c720)] [(.int (1 : Int32))]) _
    refine Go.of (fun tg_ kk_ => XS.iloadN X773.here hx rfl (hb hby at_262) rfl kk_) ?_
    show Go p e below T773 (mkF m 263 #[.val (.int p0), .val (.int p1), .val (.int (3 : Int32)), .val (.ref b574), .val (.int (1 : Int32)), .val (.ref b676), .val (.ref c720)] [(.int (3 : Int32)), (.int (1 : Int32))]) _
    refine Go.of (fun tg_ kk_ => XS.iconst X773.here hx rfl (hb hby at_263) kk_) ?_
    show Go p e below T773 (mkF m 264 #[.val (.int p0), .val (.int p1), .val (.int (3 : Int32)), .val (.ref b574), .val (.int (1 : Int32)), .val (.ref b676), .val (.ref c720)] [(.int (1 : Int32)), (.int (3 : Int32)), (.int (1 : Int32))]) _
    refine Go.of (fun tg_ kk_ => XS.icmpNo X773.here hx rfl (hb hby at_264) rfl (tlt (show (1 : Int32) < (3 : Int32) by decide)).2.2.2 kk_) ?_
    show Go p e below T773 (mkF m 267 #[.val (.int p0), .val (.int p1), .val (.int (3 : Int32)), .val (.ref b574), .val (.int (1 : Int32)), .val (.ref b676), .val (.ref c720)] [(.int (1 : Int32))]) _
    refine Go.of (fun tg_ kk_ => XS.iconst X773.here hx rfl (hb hby at_267) kk_) ?_
    show Go p e below T773 (mkF m 268 #[.val (.int p0), .val (.int p1), .val (.int (3 : Int32)), .val (.ref b574), .val (.int (1 : Int32)), .val (.ref b676), .val (.ref c720)] [(.int (1 : Int32)), (.int (1 : Int32))]) _
    refine Go.of (fun tg_ kk_ => XS.goto X773.here hx rfl (pc0 := 268) (pc' := 272) rfl (hb hby at_268) (by decide) (by decide) kk_) ?_
    show Go p e below T773 (mkF m 272 #[.val (.int p0), .val (.int p1), .val (.int (3 : Int32)), .val (.ref b574), .val (.int (1 : Int32)), .val (.ref b676), .val (.ref c720)] [(.int (1 : Int32)), (.int (1 : Int32))]) _
    refine Go.of (fun tg_ kk_ => XS.icmpNo X773.here hx rfl (hb hby at_272) rfl (teq (show (1 : Int32) = (1 : Int32) by decide)).2 kk_) ?_
    show Go p e below T773 (mkF m 275 #[.val (.int p0), .val (.int p1), .val (.int (3 : Int32)), .val (.ref b574), .val (.int (1 : Int32)), .val (.ref b676), .val (.ref c720)] []) _
    refine Go.of (fun tg_ kk_ => XS.iconst X773.here hx rfl (hb hby at_275) kk_) ?_
    show Go p e below T773 (mkF m 276 #[.val (.int p0), .val (.int p1), .val (.int (3 : Int32)), .val (.ref b574), .val (.int (1 : Int32)), .val (.ref b676), .val (.ref c720)] [(.int (1 : Int32))]) _
    refine Go.of (fun tg_ kk_ => XS.goto X773.here hx rfl (pc0 := 276) (pc' := 280) rfl (hb hby at_276) (by decide) (by decide) kk_) ?_
    show Go p e below T773 (mkF m 280 #[.val (.int p0), .val (.int p1), .val (.int (3 : Int32)), .val (.ref b574), .val (.int (1 : Int32)), .val (.ref b676), .val (.ref c720)] [(.int (1 : Int32))]) _
    refine Go.of (fun tg_ kk_ => XS.istore X773.here hx rfl (hb hby at_280) rfl (l' := #[.val (.int p0), .val (.int p1), .val (.int (3 : Int32)), .val (.ref b574), .val (.int (1 : Int32)), .val (.ref b676), .val (.ref c720)]) rfl kk_) ?_
    show Go p e below T773 (mkF m 282 #[.val (.int p0), .val (.int p1), .val (.int (3 : Int32)), .val (.ref b574), .val (.int (1 : Int32)), .val (.ref b676), .val (.ref c720)] []) _
    refine Go.of (fun tg_ kk_ => XS.iload X773.here hx rfl (hb hby at_282) rfl kk_) ?_
    show Go p e below T773 (mkF m 284 #[.val (.int p0), .val (.int p1), .val (.int (3 : Int32)), .val (.ref b574), .val (.int (1 : Int32)), .val (.ref b676), .val (.ref c720)] [(.int (1 : Int32))]) _
    obtain ⟨fs, hr, hrun, hended, hend⟩ := X773.leaveW hS746 (by rw [e773]; exact (Nat.le_refl T746.heap.size)) (v := some (.int (1 : Int32))) (fun h => by rw [Bd.returns] at h; cases h)
    refine ⟨_, _, ?_, hrun, hended, _, _, rfl, ?_, hend.1, hend.2.1, hend.2.2.1, hend.2.2.2.mono (by decide) (by decide)⟩
    · exact retN X773 hx (t := .boolean) Bd.returns (by simp) (hb hby at_284) hr
    · show Q0 Z p0 p1 h0 n0 _ T773.heap _
      rw [e773]
      exact ⟨rfl, N773⟩
  · subst hs1
    show Go p e below s₁ (mkF m 6 #[.val (.int p0), .val (.int p1), .unset, .unset, .unset, .unset, .unset] [(.int (4 : Int32))]) _
    refine Go.of (fun tg_ kk_ => XS.istoreN X0.here hx rfl (hb hby at_6) rfl (l' := #[.val (.int p0), .val (.int p1), .val (.int (4 : Int32)), .unset, .unset, .unset, .unset]) rfl kk_) ?_
    show Go p e below s₁ (mkF m 7 #[.val (.int p0), .val (.int p1), .val (.int (4 : Int32)), .unset, .unset, .unset, .unset] []) _
    refine Go.of (fun tg_ kk_ => XS.bipush X0.here hx rfl (hb hby at_7) kk_) ?_
    show Go p e below s₁ (mkF m 9 #[.val (.int p0), .val (.int p1), .val (.int (4 : Int32)), .unset, .unset, .unset, .unset] [(.int (10 : Int32))]) _
    obtain ⟨T774, h774, k774, X774, e774, E774, A774, st774⟩ := newP X0 hx hZ (hw _ (List.mem_of_getElem? (i := 1) rfl)) e0 (g := (mkF m 9 #[.val (.int p0), .val (.int p1), .val (.int (4 : Int32)), .unset, .unset, .unset, .unset] [(.int (10 : Int32))])) rfl (hb hby at_9) rfl (by decide) (cap := 10) (by decide) (by decide) (by decide) (by decide)
    obtain ⟨b774, g774⟩ : ∃ zz_, zz_ = h0.size := ⟨_, rfl⟩
    rw [← g774] at A774 st774
    have gx774 : n0 ≤ b774 := Nat.le_trans Z0 (Nat.le_of_eq g774.symm)
    have sz774 : h0.size ≤ b774 := Nat.le_trans K0.1 (Nat.le_of_eq g774.symm)
    have K775 := K0.ext E774
    have Zs776 : n0 ≤ h774.size := Nat.le_trans Z0 E774.1
    have hk777 := Nat.le_trans hk0 E774.1
    have V774 : Af Z h774 b774 .byte 10 (fun _ => 0) := Af.new rfl A774 (by decide)
    refine Go.of (st774) ?_
    show Go p e below T774 (mkF m 11 #[.val (.int p0), .val (.int p1), .val (.int (4 : Int32)), .unset, .unset, .unset, .unset] [(.ref b774)]) _
    refine Go.of (fun tg_ kk_ => XS.astoreN X774.here hx rfl (hb hby at_11) rfl rfl (l' := #[.val (.int p0), .val (.int p1), .val (.int (4 : Int32)), .val (.ref b774), .unset, .unset, .unset]) rfl kk_) ?_
    show Go p e below T774 (mkF m 12 #[.val (.int p0), .val (.int p1), .val (.int (4 : Int32)), .val (.ref b774), .unset, .unset, .unset] []) _
    refine Go.of (fun tg_ kk_ => XS.aloadN X774.here hx rfl (hb hby at_12) rfl rfl kk_) ?_
    show Go p e below T774 (mkF m 13 #[.val (.int p0), .val (.int p1), .val (.int (4 : Int32)), .val (.ref b774), .unset, .unset, .unset] [(.ref b774)]) _
    refine Go.of (fun tg_ kk_ => XS.iconst X774.here hx rfl (hb hby at_13) kk_) ?_
    show Go p e below T774 (mkF m 14 #[.val (.int p0), .val (.int p1), .val (.int (4 : Int32)), .val (.ref b774), .unset, .unset, .unset] [(.int (0 : Int32)), (.ref b774)]) _
    refine Go.of (fun tg_ kk_ => XS.bipush X774.here hx rfl (hb hby at_14) kk_) ?_
    show Go p e below T774 (mkF m 16 #[.val (.int p0), .val (.int p1), .val (.int (4 : Int32)), .val (.ref b774), .unset, .unset, .unset] [(.int (48 : Int32)), (.int (0 : Int32)), (.ref b774)]) _
    have ib778 := (show ¬ ((0 : Int32) < 0) ∧ ((0 : Int32)).toNatClampNeg < 10 from ⟨by decide, by decide⟩)
    obtain ⟨cl778, Ar778, S778, H778⟩ := id V774
    obtain ⟨T778, h778, X778, e778, W778, st778⟩ := stB X774 hx hZ e774 Ar778 (j := (0 : Int32)) (Af.inb S778 ib778) (g := (mkF m 16 #[.val (.int p0), .val (.int p1), .val (.int (4 : Int32)), .val (.ref b774), .unset, .unset, .unset] [(.int (48 : Int32)), (.int (0 : Int32)), (.ref b774)])) rfl rfl (hb hby at_16)
    obtain ⟨f778, qf778⟩ : ∃ qq_ : Nat → Int32, qq_ = upd (fun _ => 0) 0 (48 : Int32) := ⟨_, rfl⟩
    have V778 : Af Z h778 b774 .byte 10 f778 := by rw [qf778]; exact Af.set Ar778 S778 H778 W778 (by decide)
    have K780 := K775.wr W778 (Or.inr sz774)
    have Zs781 : n0 ≤ h778.size := Nat.le_trans Zs776 (Keep.of_wr W778).1
    have hk782 := Nat.le_trans hk777 (Keep.of_wr W778).1
    have N778 := Fr.snoc X778 N0 gx774
    refine Go.of (st778) ?_
    show Go p e below T778 (mkF m 17 #[.val (.int p0), .val (.int p1), .val (.int (4 : Int32)), .val (.ref b774), .unset, .unset, .unset] []) _
    refine Go.of (fun tg_ kk_ => XS.aloadN X778.here hx rfl (hb hby at_17) rfl rfl kk_) ?_
    show Go p e below T778 (mkF m 18 #[.val (.int p0), .val (.int p1), .val (.int (4 : Int32)), .val (.ref b774), .unset, .unset, .unset] [(.ref b774)]) _
    refine Go.of (fun tg_ kk_ => XS.iconst X778.here hx rfl (hb hby at_18) kk_) ?_
    show Go p e below T778 (mkF m 19 #[.val (.int p0), .val (.int p1), .val (.int (4 : Int32)), .val (.ref b774), .unset, .unset, .unset] [(.int (1 : Int32)), (.ref b774)]) _
    refine Go.of (fun tg_ kk_ => XS.iconst X778.here hx rfl (hb hby at_19) kk_) ?_
    show Go p e below T778 (mkF m 20 #[.val (.int p0), .val (.int p1), .val (.int (4 : Int32)), .val (.ref b774), .unset, .unset, .unset] [(.int (2 : Int32)), (.int (1 : Int32)), (.ref b774)]) _
    refine Go.of (fun tg_ kk_ => XS.iloadN X778.here hx rfl (hb hby at_20) rfl kk_) ?_
    show Go p e below T778 (mkF m 21 #[.val (.int p0), .val (.int p1), .val (.int (4 : Int32)), .val (.ref b774), .unset, .unset, .unset] [(.int (4 : Int32)), (.int (2 : Int32)), (.int (1 : Int32)), (.ref b774)]) _
    refine Go.of (fun tg_ kk_ => XS.imul X778.here hx rfl (hb hby at_21) rfl kk_) ?_
    show Go p e below T778 (mkF m 22 #[.val (.int p0), .val (.int p1), .val (.int (4 : Int32)), .val (.ref b774), .unset, .unset, .unset] [(.int ((2 : Int32) * (4 : Int32))), (.int (1 : Int32)), (.ref b774)]) _
    rw [show ((2 : Int32) * (4 : Int32)) = (8 : Int32) from by decide]
    show Go p e below T778 (mkF m 22 #[.val (.int p0), .val (.int p1), .val (.int (4 : Int32)), .val (.ref b774), .unset, .unset, .unset] [(.int (8 : Int32)), (.int (1 : Int32)), (.ref b774)]) _
    refine Go.of (fun tg_ kk_ => XS.i2b X778.here hx rfl (hb hby at_22) rfl kk_) ?_
    show Go p e below T778 (mkF m 23 #[.val (.int p0), .val (.int p1), .val (.int (4 : Int32)), .val (.ref b774), .unset, .unset, .unset] [(.int ((8 : Int32).toInt8.toInt32)), (.int (1 : Int32)), (.ref b774)]) _
    rw [show ((8 : Int32).toInt8.toInt32) = (8 : Int32) from by decide]
    show Go p e below T778 (mkF m 23 #[.val (.int p0), .val (.int p1), .val (.int (4 : Int32)), .val (.ref b774), .unset, .unset, .unset] [(.int (8 : Int32)), (.int (1 : Int32)), (.ref b774)]) _
    have ib783 := (show ¬ ((1 : Int32) < 0) ∧ ((1 : Int32)).toNatClampNeg < 10 from ⟨by decide, by decide⟩)
    obtain ⟨cl783, Ar783, S783, H783⟩ := id V778
    obtain ⟨T783, h783, X783, e783, W783, st783⟩ := stB X778 hx hZ e778 Ar783 (j := (1 : Int32)) (Af.inb S783 ib783) (g := (mkF m 23 #[.val (.int p0), .val (.int p1), .val (.int (4 : Int32)), .val (.ref b774), .unset, .unset, .unset] [(.int (8 : Int32)), (.int (1 : Int32)), (.ref b774)])) rfl rfl (hb hby at_23)
    obtain ⟨f783, qf783⟩ : ∃ qq_ : Nat → Int32, qq_ = upd f778 1 (8 : Int32) := ⟨_, rfl⟩
    have V783 : Af Z h783 b774 .byte 10 f783 := by rw [qf783]; exact Af.set Ar783 S783 H783 W783 (by decide)
    have K785 := K780.wr W783 (Or.inr sz774)
    have Zs786 : n0 ≤ h783.size := Nat.le_trans Zs781 (Keep.of_wr W783).1
    have hk787 := Nat.le_trans hk782 (Keep.of_wr W783).1
    have N783 := Fr.snoc X783 N778 gx774
    refine Go.of (st783) ?_
    show Go p e below T783 (mkF m 24 #[.val (.int p0), .val (.int p1), .val (.int (4 : Int32)), .val (.ref b774), .unset, .unset, .unset] []) _
    refine Go.of (fun tg_ kk_ => XS.aloadN X783.here hx rfl (hb hby at_24) rfl rfl kk_) ?_
    show Go p e below T783 (mkF m 25 #[.val (.int p0), .val (.int p1), .val (.int (4 : Int32)), .val (.ref b774), .unset, .unset, .unset] [(.ref b774)]) _
    refine Go.of (fun tg_ kk_ => XS.iconst X783.here hx rfl (hb hby at_25) kk_) ?_
    show Go p e below T783 (mkF m 26 #[.val (.int p0), .val (.int p1), .val (.int (4 : Int32)), .val (.ref b774), .unset, .unset, .unset] [(.int (2 : Int32)), (.ref b774)]) _
    refine Go.of (fun tg_ kk_ => XS.iconst X783.here hx rfl (hb hby at_26) kk_) ?_
    show Go p e below T783 (mkF m 27 #[.val (.int p0), .val (.int p1), .val (.int (4 : Int32)), .val (.ref b774), .unset, .unset, .unset] [(.int (2 : Int32)), (.int (2 : Int32)), (.ref b774)]) _
    refine Go.of (fun tg_ kk_ => XS.iloadN X783.here hx rfl (hb hby at_27) rfl kk_) ?_
    show Go p e below T783 (mkF m 28 #[.val (.int p0), .val (.int p1), .val (.int (4 : Int32)), .val (.ref b774), .unset, .unset, .unset] [(.int (4 : Int32)), (.int (2 : Int32)), (.int (2 : Int32)), (.ref b774)]) _
    refine Go.of (fun tg_ kk_ => XS.iloadN X783.here hx rfl (hb hby at_28) rfl kk_) ?_
    show Go p e below T783 (mkF m 29 #[.val (.int p0), .val (.int p1), .val (.int (4 : Int32)), .val (.ref b774), .unset, .unset, .unset] [(.int p1), (.int (4 : Int32)), (.int (2 : Int32)), (.int (2 : Int32)), (.ref b774)]) _
    obtain ⟨_, _, ⟨T788, L788, k788, n788⟩, -, X788, ⟨Lc788, hQ788, l788, y788, z788⟩, st788⟩ := Jvm.LawKit.callS X783 hx (y := (⟨"com/example/attestry/attestry/DerReaderHasNextPinLaw", "slot", "(III)B"⟩ : MethodName)) hown (mvT hZ (hw _ (List.mem_of_getElem? (i := 2) rfl))) (mvT hZ (hw _ (List.mem_of_getElem? (i := 3) rfl))) (mvT hZ (hw _ (List.mem_of_getElem? (i := 4) rfl))) (mvT hZ (hw _ (List.mem_of_getElem? (i := 5) rfl))) (by decide) (backOf (W := 2) (rm1 l Z a0 hw [] (2 : Int32) (4 : Int32) p1 h783 n0 Zs786) hZ (hw _ (List.mem_of_getElem? (i := 5) rfl)) (hw _ (List.mem_of_getElem? (i := 4) rfl)) (by decide) (by decide)) (g := (mkF m 29 #[.val (.int p0), .val (.int p1), .val (.int (4 : Int32)), .val (.ref b774), .unset, .unset, .unset] [(.int p1), (.int (4 : Int32)), (.int (2 : Int32)), (.int (2 : Int32)), (.ref b774)])) rfl (by rw [hml]; rfl) (argsL := [(.int (2 : Int32)), (.int (4 : Int32)), (.int p1)]) (rest := [(.int (2 : Int32)), (.ref b774)]) (lenOf pd_8 rfl) rfl (by show 2 * 0 + _ ≤ _; exact Nat.le_of_eq rfl) (hb hby at_29) (fun _ _ => ⟨rfl, e783, (show 1 + 0 ≤ 32 from by decide), (show 10 + 0 ≤ 2240 from by decide)⟩)
    dsimp only [Pt.U, Pt.locs, Pt.cells, Pt.slots] at X788 l788 y788 z788 st788 hQ788
    have X788 := own_stand X788 l788 y788 z788
    obtain ⟨hv788, N788q, e788⟩ := hQ788
    rw [show slotF (2 : Int32) (4 : Int32) p1 = (5 : Int32) from by rw [slotF, if_pos (by decide), if_pos (by decide)]] at hv788
    subst hv788
    have N788 := Fr.app N783 N788q
    refine Go.of (st788) ?_
    show Go p e below T788 (mkF m 32 #[.val (.int p0), .val (.int p1), .val (.int (4 : Int32)), .val (.ref b774), .unset, .unset, .unset] [(.int (5 : Int32)), (.int (2 : Int32)), (.ref b774)]) _
    have ib789 := (show ¬ ((2 : Int32) < 0) ∧ ((2 : Int32)).toNatClampNeg < 10 from ⟨by decide, by decide⟩)
    obtain ⟨cl789, Ar789, S789, H789⟩ := id V783
    obtain ⟨T789, h789, X789, e789, W789, st789⟩ := stB X788 hx hZ e788 Ar789 (j := (2 : Int32)) (Af.inb S789 ib789) (g := (mkF m 32 #[.val (.int p0), .val (.int p1), .val (.int (4 : Int32)), .val (.ref b774), .unset, .unset, .unset] [(.int (5 : Int32)), (.int (2 : Int32)), (.ref b774)])) rfl rfl (hb hby at_32)
    obtain ⟨f789, qf789⟩ : ∃ qq_ : Nat → Int32, qq_ = upd f783 2 (5 : Int32) := ⟨_, rfl⟩
    have V789 : Af Z h789 b774 .byte 10 f789 := by rw [qf789]; exact Af.set Ar789 S789 H789 W789 (by decide)
    have K791 := K785.wr W789 (Or.inr sz774)
    have Zs792 : n0 ≤ h789.size := Nat.le_trans Zs786 (Keep.of_wr W789).1
    have hk793 := Nat.le_trans hk787 (Keep.of_wr W789).1
    have N789 := Fr.snoc X789 N788 gx774
    refine Go.of (st789) ?_
    show Go p e below T789 (mkF m 33 #[.val (.int p0), .val (.int p1), .val (.int (4 : Int32)), .val (.ref b774), .unset, .unset, .unset] []) _
    refine Go.of (fun tg_ kk_ => XS.aloadN X789.here hx rfl (hb hby at_33) rfl rfl kk_) ?_
    show Go p e below T789 (mkF m 34 #[.val (.int p0), .val (.int p1), .val (.int (4 : Int32)), .val (.ref b774), .unset, .unset, .unset] [(.ref b774)]) _
    refine Go.of (fun tg_ kk_ => XS.iconst X789.here hx rfl (hb hby at_34) kk_) ?_
    show Go p e below T789 (mkF m 35 #[.val (.int p0), .val (.int p1), .val (.int (4 : Int32)), .val (.ref b774), .unset, .unset, .unset] [(.int (3 : Int32)), (.ref b774)]) _
    refine Go.of (fun tg_ kk_ => XS.iconst X789.here hx rfl (hb hby at_35) kk_) ?_
    show Go p e below T789 (mkF m 36 #[.val (.int p0), .val (.int p1), .val (.int (4 : Int32)), .val (.ref b774), .unset, .unset, .unset] [(.int (3 : Int32)), (.int (3 : Int32)), (.ref b774)]) _
    refine Go.of (fun tg_ kk_ => XS.iloadN X789.here hx rfl (hb hby at_36) rfl kk_) ?_
    show Go p e below T789 (mkF m 37 #[.val (.int p0), .val (.int p1), .val (.int (4 : Int32)), .val (.ref b774), .unset, .unset, .unset] [(.int (4 : Int32)), (.int (3 : Int32)), (.int (3 : Int32)), (.ref b774)]) _
    refine Go.of (fun tg_ kk_ => XS.iloadN X789.here hx rfl (hb hby at_37) rfl kk_) ?_
    show Go p e below T789 (mkF m 38 #[.val (.int p0), .val (.int p1), .val (.int (4 : Int32)), .val (.ref b774), .unset, .unset, .unset] [(.int p1), (.int (4 : Int32)), (.int (3 : Int32)), (.int (3 : Int32)), (.ref b774)]) _
    obtain ⟨_, _, ⟨T794, L794, k794, n794⟩, -, X794, ⟨Lc794, hQ794, l794, y794, z794⟩, st794⟩ := Jvm.LawKit.callS X789 hx (y := (⟨"com/example/attestry/attestry/DerReaderHasNextPinLaw", "slot", "(III)B"⟩ : MethodName)) hown (mvT hZ (hw _ (List.mem_of_getElem? (i := 2) rfl))) (mvT hZ (hw _ (List.mem_of_getElem? (i := 3) rfl))) (mvT hZ (hw _ (List.mem_of_getElem? (i := 4) rfl))) (mvT hZ (hw _ (List.mem_of_getElem? (i := 5) rfl))) (by decide) (backOf (W := 2) (rm1 l Z a0 hw [] (3 : Int32) (4 : Int32) p1 h789 n0 Zs792) hZ (hw _ (List.mem_of_getElem? (i := 5) rfl)) (hw _ (List.mem_of_getElem? (i := 4) rfl)) (by decide) (by decide)) (g := (mkF m 38 #[.val (.int p0), .val (.int p1), .val (.int (4 : Int32)), .val (.ref b774), .unset, .unset, .unset] [(.int p1), (.int (4 : Int32)), (.int (3 : Int32)), (.int (3 : Int32)), (.ref b774)])) rfl (by rw [hml]; rfl) (argsL := [(.int (3 : Int32)), (.int (4 : Int32)), (.int p1)]) (rest := [(.int (3 : Int32)), (.ref b774)]) (lenOf pd_8 rfl) rfl (by show 2 * 0 + _ ≤ _; exact Nat.le_of_eq rfl) (hb hby at_38) (fun _ _ => ⟨rfl, e789, (show 1 + 0 ≤ 32 from by decide), (show 10 + 0 ≤ 2240 from by decide)⟩)
    dsimp only [Pt.U, Pt.locs, Pt.cells, Pt.slots] at X794 l794 y794 z794 st794 hQ794
    have X794 := own_stand X794 l794 y794 z794
    obtain ⟨hv794, N794q, e794⟩ := hQ794
    rw [show slotF (3 : Int32) (4 : Int32) p1 = (0 : Int32) from by rw [slotF, if_pos (by decide), if_neg (by decide)]] at hv794
    subst hv794
    have N794 := Fr.app N789 N794q
    refine Go.of (st794) ?_
    show Go p e below T794 (mkF m 41 #[.val (.int p0), .val (.int p1), .val (.int (4 : Int32)), .val (.ref b774), .unset, .unset, .unset] [(.int (0 : Int32)), (.int (3 : Int32)), (.ref b774)]) _
    have ib795 := (show ¬ ((3 : Int32) < 0) ∧ ((3 : Int32)).toNatClampNeg < 10 from ⟨by decide, by decide⟩)
    obtain ⟨cl795, Ar795, S795, H795⟩ := id V789
    obtain ⟨T795, h795, X795, e795, W795, st795⟩ := stB X794 hx hZ e794 Ar795 (j := (3 : Int32)) (Af.inb S795 ib795) (g := (mkF m 41 #[.val (.int p0), .val (.int p1), .val (.int (4 : Int32)), .val (.ref b774), .unset, .unset, .unset] [(.int (0 : Int32)), (.int (3 : Int32)), (.ref b774)])) rfl rfl (hb hby at_41)
    obtain ⟨f795, qf795⟩ : ∃ qq_ : Nat → Int32, qq_ = upd f789 3 (0 : Int32) := ⟨_, rfl⟩
    have V795 : Af Z h795 b774 .byte 10 f795 := by rw [qf795]; exact Af.set Ar795 S795 H795 W795 (by decide)
    have K797 := K791.wr W795 (Or.inr sz774)
    have Zs798 : n0 ≤ h795.size := Nat.le_trans Zs792 (Keep.of_wr W795).1
    have hk799 := Nat.le_trans hk793 (Keep.of_wr W795).1
    have N795 := Fr.snoc X795 N794 gx774
    refine Go.of (st795) ?_
    show Go p e below T795 (mkF m 42 #[.val (.int p0), .val (.int p1), .val (.int (4 : Int32)), .val (.ref b774), .unset, .unset, .unset] []) _
    refine Go.of (fun tg_ kk_ => XS.aloadN X795.here hx rfl (hb hby at_42) rfl rfl kk_) ?_
    show Go p e below T795 (mkF m 43 #[.val (.int p0), .val (.int p1), .val (.int (4 : Int32)), .val (.ref b774), .unset, .unset, .unset] [(.ref b774)]) _
    refine Go.of (fun tg_ kk_ => XS.iconst X795.here hx rfl (hb hby at_43) kk_) ?_
    show Go p e below T795 (mkF m 44 #[.val (.int p0), .val (.int p1), .val (.int (4 : Int32)), .val (.ref b774), .unset, .unset, .unset] [(.int (4 : Int32)), (.ref b774)]) _
    refine Go.of (fun tg_ kk_ => XS.iconst X795.here hx rfl (hb hby at_44) kk_) ?_
    show Go p e below T795 (mkF m 45 #[.val (.int p0), .val (.int p1), .val (.int (4 : Int32)), .val (.ref b774), .unset, .unset, .unset] [(.int (4 : Int32)), (.int (4 : Int32)), (.ref b774)]) _
    refine Go.of (fun tg_ kk_ => XS.iloadN X795.here hx rfl (hb hby at_45) rfl kk_) ?_
    show Go p e below T795 (mkF m 46 #[.val (.int p0), .val (.int p1), .val (.int (4 : Int32)), .val (.ref b774), .unset, .unset, .unset] [(.int (4 : Int32)), (.int (4 : Int32)), (.int (4 : Int32)), (.ref b774)]) _
    refine Go.of (fun tg_ kk_ => XS.iloadN X795.here hx rfl (hb hby at_46) rfl kk_) ?_
    show Go p e below T795 (mkF m 47 #[.val (.int p0), .val (.int p1), .val (.int (4 : Int32)), .val (.ref b774), .unset, .unset, .unset] [(.int p1), (.int (4 : Int32)), (.int (4 : Int32)), (.int (4 : Int32)), (.ref b774)]) _
    obtain ⟨_, _, ⟨T800, L800, k800, n800⟩, -, X800, ⟨Lc800, hQ800, l800, y800, z800⟩, st800⟩ := Jvm.LawKit.callS X795 hx (y := (⟨"com/example/attestry/attestry/DerReaderHasNextPinLaw", "slot", "(III)B"⟩ : MethodName)) hown (mvT hZ (hw _ (List.mem_of_getElem? (i := 2) rfl))) (mvT hZ (hw _ (List.mem_of_getElem? (i := 3) rfl))) (mvT hZ (hw _ (List.mem_of_getElem? (i := 4) rfl))) (mvT hZ (hw _ (List.mem_of_getElem? (i := 5) rfl))) (by decide) (backOf (W := 2) (rm1 l Z a0 hw [] (4 : Int32) (4 : Int32) p1 h795 n0 Zs798) hZ (hw _ (List.mem_of_getElem? (i := 5) rfl)) (hw _ (List.mem_of_getElem? (i := 4) rfl)) (by decide) (by decide)) (g := (mkF m 47 #[.val (.int p0), .val (.int p1), .val (.int (4 : Int32)), .val (.ref b774), .unset, .unset, .unset] [(.int p1), (.int (4 : Int32)), (.int (4 : Int32)), (.int (4 : Int32)), (.ref b774)])) rfl (by rw [hml]; rfl) (argsL := [(.int (4 : Int32)), (.int (4 : Int32)), (.int p1)]) (rest := [(.int (4 : Int32)), (.ref b774)]) (lenOf pd_8 rfl) rfl (by show 2 * 0 + _ ≤ _; exact Nat.le_of_eq rfl) (hb hby at_47) (fun _ _ => ⟨rfl, e795, (show 1 + 0 ≤ 32 from by decide), (show 10 + 0 ≤ 2240 from by decide)⟩)
    dsimp only [Pt.U, Pt.locs, Pt.cells, Pt.slots] at X800 l800 y800 z800 st800 hQ800
    have X800 := own_stand X800 l800 y800 z800
    obtain ⟨hv800, N800q, e800⟩ := hQ800
    rw [show slotF (4 : Int32) (4 : Int32) p1 = (5 : Int32) from by rw [slotF, if_pos (by decide), if_pos (by decide)]] at hv800
    subst hv800
    have N800 := Fr.app N795 N800q
    refine Go.of (st800) ?_
    show Go p e below T800 (mkF m 50 #[.val (.int p0), .val (.int p1), .val (.int (4 : Int32)), .val (.ref b774), .unset, .unset, .unset] [(.int (5 : Int32)), (.int (4 : Int32)), (.ref b774)]) _
    have ib801 := (show ¬ ((4 : Int32) < 0) ∧ ((4 : Int32)).toNatClampNeg < 10 from ⟨by decide, by decide⟩)
    obtain ⟨cl801, Ar801, S801, H801⟩ := id V795
    obtain ⟨T801, h801, X801, e801, W801, st801⟩ := stB X800 hx hZ e800 Ar801 (j := (4 : Int32)) (Af.inb S801 ib801) (g := (mkF m 50 #[.val (.int p0), .val (.int p1), .val (.int (4 : Int32)), .val (.ref b774), .unset, .unset, .unset] [(.int (5 : Int32)), (.int (4 : Int32)), (.ref b774)])) rfl rfl (hb hby at_50)
    obtain ⟨f801, qf801⟩ : ∃ qq_ : Nat → Int32, qq_ = upd f795 4 (5 : Int32) := ⟨_, rfl⟩
    have V801 : Af Z h801 b774 .byte 10 f801 := by rw [qf801]; exact Af.set Ar801 S801 H801 W801 (by decide)
    have K803 := K797.wr W801 (Or.inr sz774)
    have Zs804 : n0 ≤ h801.size := Nat.le_trans Zs798 (Keep.of_wr W801).1
    have hk805 := Nat.le_trans hk799 (Keep.of_wr W801).1
    have N801 := Fr.snoc X801 N800 gx774
    refine Go.of (st801) ?_
    show Go p e below T801 (mkF m 51 #[.val (.int p0), .val (.int p1), .val (.int (4 : Int32)), .val (.ref b774), .unset, .unset, .unset] []) _
    refine Go.of (fun tg_ kk_ => XS.aloadN X801.here hx rfl (hb hby at_51) rfl rfl kk_) ?_
    show Go p e below T801 (mkF m 52 #[.val (.int p0), .val (.int p1), .val (.int (4 : Int32)), .val (.ref b774), .unset, .unset, .unset] [(.ref b774)]) _
    refine Go.of (fun tg_ kk_ => XS.iconst X801.here hx rfl (hb hby at_52) kk_) ?_
    show Go p e below T801 (mkF m 53 #[.val (.int p0), .val (.int p1), .val (.int (4 : Int32)), .val (.ref b774), .unset, .unset, .unset] [(.int (5 : Int32)), (.ref b774)]) _
    refine Go.of (fun tg_ kk_ => XS.iconst X801.here hx rfl (hb hby at_53) kk_) ?_
    show Go p e below T801 (mkF m 54 #[.val (.int p0), .val (.int p1), .val (.int (4 : Int32)), .val (.ref b774), .unset, .unset, .unset] [(.int (5 : Int32)), (.int (5 : Int32)), (.ref b774)]) _
    refine Go.of (fun tg_ kk_ => XS.iloadN X801.here hx rfl (hb hby at_54) rfl kk_) ?_
    show Go p e below T801 (mkF m 55 #[.val (.int p0), .val (.int p1), .val (.int (4 : Int32)), .val (.ref b774), .unset, .unset, .unset] [(.int (4 : Int32)), (.int (5 : Int32)), (.int (5 : Int32)), (.ref b774)]) _
    refine Go.of (fun tg_ kk_ => XS.iloadN X801.here hx rfl (hb hby at_55) rfl kk_) ?_
    show Go p e below T801 (mkF m 56 #[.val (.int p0), .val (.int p1), .val (.int (4 : Int32)), .val (.ref b774), .unset, .unset, .unset] [(.int p1), (.int (4 : Int32)), (.int (5 : Int32)), (.int (5 : Int32)), (.ref b774)]) _
    obtain ⟨_, _, ⟨T806, L806, k806, n806⟩, -, X806, ⟨Lc806, hQ806, l806, y806, z806⟩, st806⟩ := Jvm.LawKit.callS X801 hx (y := (⟨"com/example/attestry/attestry/DerReaderHasNextPinLaw", "slot", "(III)B"⟩ : MethodName)) hown (mvT hZ (hw _ (List.mem_of_getElem? (i := 2) rfl))) (mvT hZ (hw _ (List.mem_of_getElem? (i := 3) rfl))) (mvT hZ (hw _ (List.mem_of_getElem? (i := 4) rfl))) (mvT hZ (hw _ (List.mem_of_getElem? (i := 5) rfl))) (by decide) (backOf (W := 2) (rm1 l Z a0 hw [] (5 : Int32) (4 : Int32) p1 h801 n0 Zs804) hZ (hw _ (List.mem_of_getElem? (i := 5) rfl)) (hw _ (List.mem_of_getElem? (i := 4) rfl)) (by decide) (by decide)) (g := (mkF m 56 #[.val (.int p0), .val (.int p1), .val (.int (4 : Int32)), .val (.ref b774), .unset, .unset, .unset] [(.int p1), (.int (4 : Int32)), (.int (5 : Int32)), (.int (5 : Int32)), (.ref b774)])) rfl (by rw [hml]; rfl) (argsL := [(.int (5 : Int32)), (.int (4 : Int32)), (.int p1)]) (rest := [(.int (5 : Int32)), (.ref b774)]) (lenOf pd_8 rfl) rfl (by show 2 * 0 + _ ≤ _; exact Nat.le_of_eq rfl) (hb hby at_56) (fun _ _ => ⟨rfl, e801, (show 1 + 0 ≤ 32 from by decide), (show 10 + 0 ≤ 2240 from by decide)⟩)
    dsimp only [Pt.U, Pt.locs, Pt.cells, Pt.slots] at X806 l806 y806 z806 st806 hQ806
    have X806 := own_stand X806 l806 y806 z806
    obtain ⟨hv806, N806q, e806⟩ := hQ806
    rw [show slotF (5 : Int32) (4 : Int32) p1 = (0 : Int32) from by rw [slotF, if_pos (by decide), if_neg (by decide)]] at hv806
    subst hv806
    have N806 := Fr.app N801 N806q
    refine Go.of (st806) ?_
    show Go p e below T806 (mkF m 59 #[.val (.int p0), .val (.int p1), .val (.int (4 : Int32)), .val (.ref b774), .unset, .unset, .unset] [(.int (0 : Int32)), (.int (5 : Int32)), (.ref b774)]) _
    have ib807 := (show ¬ ((5 : Int32) < 0) ∧ ((5 : Int32)).toNatClampNeg < 10 from ⟨by decide, by decide⟩)
    obtain ⟨cl807, Ar807, S807, H807⟩ := id V801
    obtain ⟨T807, h807, X807, e807, W807, st807⟩ := stB X806 hx hZ e806 Ar807 (j := (5 : Int32)) (Af.inb S807 ib807) (g := (mkF m 59 #[.val (.int p0), .val (.int p1), .val (.int (4 : Int32)), .val (.ref b774), .unset, .unset, .unset] [(.int (0 : Int32)), (.int (5 : Int32)), (.ref b774)])) rfl rfl (hb hby at_59)
    obtain ⟨f807, qf807⟩ : ∃ qq_ : Nat → Int32, qq_ = upd f801 5 (0 : Int32) := ⟨_, rfl⟩
    have V807 : Af Z h807 b774 .byte 10 f807 := by rw [qf807]; exact Af.set Ar807 S807 H807 W807 (by decide)
    have K809 := K803.wr W807 (Or.inr sz774)
    have Zs810 : n0 ≤ h807.size := Nat.le_trans Zs804 (Keep.of_wr W807).1
    have hk811 := Nat.le_trans hk805 (Keep.of_wr W807).1
    have N807 := Fr.snoc X807 N806 gx774
    refine Go.of (st807) ?_
    show Go p e below T807 (mkF m 60 #[.val (.int p0), .val (.int p1), .val (.int (4 : Int32)), .val (.ref b774), .unset, .unset, .unset] []) _
    refine Go.of (fun tg_ kk_ => XS.aloadN X807.here hx rfl (hb hby at_60) rfl rfl kk_) ?_
    show Go p e below T807 (mkF m 61 #[.val (.int p0), .val (.int p1), .val (.int (4 : Int32)), .val (.ref b774), .unset, .unset, .unset] [(.ref b774)]) _
    refine Go.of (fun tg_ kk_ => XS.bipush X807.here hx rfl (hb hby at_61) kk_) ?_
    show Go p e below T807 (mkF m 63 #[.val (.int p0), .val (.int p1), .val (.int (4 : Int32)), .val (.ref b774), .unset, .unset, .unset] [(.int (6 : Int32)), (.ref b774)]) _
    refine Go.of (fun tg_ kk_ => XS.bipush X807.here hx rfl (hb hby at_63) kk_) ?_
    show Go p e below T807 (mkF m 65 #[.val (.int p0), .val (.int p1), .val (.int (4 : Int32)), .val (.ref b774), .unset, .unset, .unset] [(.int (6 : Int32)), (.int (6 : Int32)), (.ref b774)]) _
    refine Go.of (fun tg_ kk_ => XS.iloadN X807.here hx rfl (hb hby at_65) rfl kk_) ?_
    show Go p e below T807 (mkF m 66 #[.val (.int p0), .val (.int p1), .val (.int (4 : Int32)), .val (.ref b774), .unset, .unset, .unset] [(.int (4 : Int32)), (.int (6 : Int32)), (.int (6 : Int32)), (.ref b774)]) _
    refine Go.of (fun tg_ kk_ => XS.iloadN X807.here hx rfl (hb hby at_66) rfl kk_) ?_
    show Go p e below T807 (mkF m 67 #[.val (.int p0), .val (.int p1), .val (.int (4 : Int32)), .val (.ref b774), .unset, .unset, .unset] [(.int p1), (.int (4 : Int32)), (.int (6 : Int32)), (.int (6 : Int32)), (.ref b774)]) _
    obtain ⟨_, _, ⟨T812, L812, k812, n812⟩, -, X812, ⟨Lc812, hQ812, l812, y812, z812⟩, st812⟩ := Jvm.LawKit.callS X807 hx (y := (⟨"com/example/attestry/attestry/DerReaderHasNextPinLaw", "slot", "(III)B"⟩ : MethodName)) hown (mvT hZ (hw _ (List.mem_of_getElem? (i := 2) rfl))) (mvT hZ (hw _ (List.mem_of_getElem? (i := 3) rfl))) (mvT hZ (hw _ (List.mem_of_getElem? (i := 4) rfl))) (mvT hZ (hw _ (List.mem_of_getElem? (i := 5) rfl))) (by decide) (backOf (W := 2) (rm1 l Z a0 hw [] (6 : Int32) (4 : Int32) p1 h807 n0 Zs810) hZ (hw _ (List.mem_of_getElem? (i := 5) rfl)) (hw _ (List.mem_of_getElem? (i := 4) rfl)) (by decide) (by decide)) (g := (mkF m 67 #[.val (.int p0), .val (.int p1), .val (.int (4 : Int32)), .val (.ref b774), .unset, .unset, .unset] [(.int p1), (.int (4 : Int32)), (.int (6 : Int32)), (.int (6 : Int32)), (.ref b774)])) rfl (by rw [hml]; rfl) (argsL := [(.int (6 : Int32)), (.int (4 : Int32)), (.int p1)]) (rest := [(.int (6 : Int32)), (.ref b774)]) (lenOf pd_8 rfl) rfl (by show 2 * 0 + _ ≤ _; exact Nat.le_of_eq rfl) (hb hby at_67) (fun _ _ => ⟨rfl, e807, (show 1 + 0 ≤ 32 from by decide), (show 10 + 0 ≤ 2240 from by decide)⟩)
    dsimp only [Pt.U, Pt.locs, Pt.cells, Pt.slots] at X812 l812 y812 z812 st812 hQ812
    have X812 := own_stand X812 l812 y812 z812
    obtain ⟨hv812, N812q, e812⟩ := hQ812
    rw [show slotF (6 : Int32) (4 : Int32) p1 = (5 : Int32) from by rw [slotF, if_pos (by decide), if_pos (by decide)]] at hv812
    subst hv812
    have N812 := Fr.app N807 N812q
    refine Go.of (st812) ?_
    show Go p e below T812 (mkF m 70 #[.val (.int p0), .val (.int p1), .val (.int (4 : Int32)), .val (.ref b774), .unset, .unset, .unset] [(.int (5 : Int32)), (.int (6 : Int32)), (.ref b774)]) _
    have ib813 := (show ¬ ((6 : Int32) < 0) ∧ ((6 : Int32)).toNatClampNeg < 10 from ⟨by decide, by decide⟩)
    obtain ⟨cl813, Ar813, S813, H813⟩ := id V807
    obtain ⟨T813, h813, X813, e813, W813, st813⟩ := stB X812 hx hZ e812 Ar813 (j := (6 : Int32)) (Af.inb S813 ib813) (g := (mkF m 70 #[.val (.int p0), .val (.int p1), .val (.int (4 : Int32)), .val (.ref b774), .unset, .unset, .unset] [(.int (5 : Int32)), (.int (6 : Int32)), (.ref b774)])) rfl rfl (hb hby at_70)
    obtain ⟨f813, qf813⟩ : ∃ qq_ : Nat → Int32, qq_ = upd f807 6 (5 : Int32) := ⟨_, rfl⟩
    have V813 : Af Z h813 b774 .byte 10 f813 := by rw [qf813]; exact Af.set Ar813 S813 H813 W813 (by decide)
    have K815 := K809.wr W813 (Or.inr sz774)
    have Zs816 : n0 ≤ h813.size := Nat.le_trans Zs810 (Keep.of_wr W813).1
    have hk817 := Nat.le_trans hk811 (Keep.of_wr W813).1
    have N813 := Fr.snoc X813 N812 gx774
    refine Go.of (st813) ?_
    show Go p e below T813 (mkF m 71 #[.val (.int p0), .val (.int p1), .val (.int (4 : Int32)), .val (.ref b774), .unset, .unset, .unset] []) _
    refine Go.of (fun tg_ kk_ => XS.aloadN X813.here hx rfl (hb hby at_71) rfl rfl kk_) ?_
    show Go p e below T813 (mkF m 72 #[.val (.int p0), .val (.int p1), .val (.int (4 : Int32)), .val (.ref b774), .unset, .unset, .unset] [(.ref b774)]) _
    refine Go.of (fun tg_ kk_ => XS.bipush X813.here hx rfl (hb hby at_72) kk_) ?_
    show Go p e below T813 (mkF m 74 #[.val (.int p0), .val (.int p1), .val (.int (4 : Int32)), .val (.ref b774), .unset, .unset, .unset] [(.int (7 : Int32)), (.ref b774)]) _
    refine Go.of (fun tg_ kk_ => XS.bipush X813.here hx rfl (hb hby at_74) kk_) ?_
    show Go p e below T813 (mkF m 76 #[.val (.int p0), .val (.int p1), .val (.int (4 : Int32)), .val (.ref b774), .unset, .unset, .unset] [(.int (7 : Int32)), (.int (7 : Int32)), (.ref b774)]) _
    refine Go.of (fun tg_ kk_ => XS.iloadN X813.here hx rfl (hb hby at_76) rfl kk_) ?_
    show Go p e below T813 (mkF m 77 #[.val (.int p0), .val (.int p1), .val (.int (4 : Int32)), .val (.ref b774), .unset, .unset, .unset] [(.int (4 : Int32)), (.int (7 : Int32)), (.int (7 : Int32)), (.ref b774)]) _
    refine Go.of (fun tg_ kk_ => XS.iloadN X813.here hx rfl (hb hby at_77) rfl kk_) ?_
    show Go p e below T813 (mkF m 78 #[.val (.int p0), .val (.int p1), .val (.int (4 : Int32)), .val (.ref b774), .unset, .unset, .unset] [(.int p1), (.int (4 : Int32)), (.int (7 : Int32)), (.int (7 : Int32)), (.ref b774)]) _
    obtain ⟨_, _, ⟨T818, L818, k818, n818⟩, -, X818, ⟨Lc818, hQ818, l818, y818, z818⟩, st818⟩ := Jvm.LawKit.callS X813 hx (y := (⟨"com/example/attestry/attestry/DerReaderHasNextPinLaw", "slot", "(III)B"⟩ : MethodName)) hown (mvT hZ (hw _ (List.mem_of_getElem? (i := 2) rfl))) (mvT hZ (hw _ (List.mem_of_getElem? (i := 3) rfl))) (mvT hZ (hw _ (List.mem_of_getElem? (i := 4) rfl))) (mvT hZ (hw _ (List.mem_of_getElem? (i := 5) rfl))) (by decide) (backOf (W := 2) (rm1 l Z a0 hw [] (7 : Int32) (4 : Int32) p1 h813 n0 Zs816) hZ (hw _ (List.mem_of_getElem? (i := 5) rfl)) (hw _ (List.mem_of_getElem? (i := 4) rfl)) (by decide) (by decide)) (g := (mkF m 78 #[.val (.int p0), .val (.int p1), .val (.int (4 : Int32)), .val (.ref b774), .unset, .unset, .unset] [(.int p1), (.int (4 : Int32)), (.int (7 : Int32)), (.int (7 : Int32)), (.ref b774)])) rfl (by rw [hml]; rfl) (argsL := [(.int (7 : Int32)), (.int (4 : Int32)), (.int p1)]) (rest := [(.int (7 : Int32)), (.ref b774)]) (lenOf pd_8 rfl) rfl (by show 2 * 0 + _ ≤ _; exact Nat.le_of_eq rfl) (hb hby at_78) (fun _ _ => ⟨rfl, e813, (show 1 + 0 ≤ 32 from by decide), (show 10 + 0 ≤ 2240 from by decide)⟩)
    dsimp only [Pt.U, Pt.locs, Pt.cells, Pt.slots] at X818 l818 y818 z818 st818 hQ818
    have X818 := own_stand X818 l818 y818 z818
    obtain ⟨hv818, N818q, e818⟩ := hQ818
    rw [show slotF (7 : Int32) (4 : Int32) p1 = (0 : Int32) from by rw [slotF, if_pos (by decide), if_neg (by decide)]] at hv818
    subst hv818
    have N818 := Fr.app N813 N818q
    refine Go.of (st818) ?_
    show Go p e below T818 (mkF m 81 #[.val (.int p0), .val (.int p1), .val (.int (4 : Int32)), .val (.ref b774), .unset, .unset, .unset] [(.int (0 : Int32)), (.int (7 : Int32)), (.ref b774)]) _
    have ib819 := (show ¬ ((7 : Int32) < 0) ∧ ((7 : Int32)).toNatClampNeg < 10 from ⟨by decide, by decide⟩)
    obtain ⟨cl819, Ar819, S819, H819⟩ := id V813
    obtain ⟨T819, h819, X819, e819, W819, st819⟩ := stB X818 hx hZ e818 Ar819 (j := (7 : Int32)) (Af.inb S819 ib819) (g := (mkF m 81 #[.val (.int p0), .val (.int p1), .val (.int (4 : Int32)), .val (.ref b774), .unset, .unset, .unset] [(.int (0 : Int32)), (.int (7 : Int32)), (.ref b774)])) rfl rfl (hb hby at_81)
    obtain ⟨f819, qf819⟩ : ∃ qq_ : Nat → Int32, qq_ = upd f813 7 (0 : Int32) := ⟨_, rfl⟩
    have V819 : Af Z h819 b774 .byte 10 f819 := by rw [qf819]; exact Af.set Ar819 S819 H819 W819 (by decide)
    have K821 := K815.wr W819 (Or.inr sz774)
    have Zs822 : n0 ≤ h819.size := Nat.le_trans Zs816 (Keep.of_wr W819).1
    have hk823 := Nat.le_trans hk817 (Keep.of_wr W819).1
    have N819 := Fr.snoc X819 N818 gx774
    refine Go.of (st819) ?_
    show Go p e below T819 (mkF m 82 #[.val (.int p0), .val (.int p1), .val (.int (4 : Int32)), .val (.ref b774), .unset, .unset, .unset] []) _
    refine Go.of (fun tg_ kk_ => XS.aloadN X819.here hx rfl (hb hby at_82) rfl rfl kk_) ?_
    show Go p e below T819 (mkF m 83 #[.val (.int p0), .val (.int p1), .val (.int (4 : Int32)), .val (.ref b774), .unset, .unset, .unset] [(.ref b774)]) _
    refine Go.of (fun tg_ kk_ => XS.bipush X819.here hx rfl (hb hby at_83) kk_) ?_
    show Go p e below T819 (mkF m 85 #[.val (.int p0), .val (.int p1), .val (.int (4 : Int32)), .val (.ref b774), .unset, .unset, .unset] [(.int (8 : Int32)), (.ref b774)]) _
    refine Go.of (fun tg_ kk_ => XS.bipush X819.here hx rfl (hb hby at_85) kk_) ?_
    show Go p e below T819 (mkF m 87 #[.val (.int p0), .val (.int p1), .val (.int (4 : Int32)), .val (.ref b774), .unset, .unset, .unset] [(.int (8 : Int32)), (.int (8 : Int32)), (.ref b774)]) _
    refine Go.of (fun tg_ kk_ => XS.iloadN X819.here hx rfl (hb hby at_87) rfl kk_) ?_
    show Go p e below T819 (mkF m 88 #[.val (.int p0), .val (.int p1), .val (.int (4 : Int32)), .val (.ref b774), .unset, .unset, .unset] [(.int (4 : Int32)), (.int (8 : Int32)), (.int (8 : Int32)), (.ref b774)]) _
    refine Go.of (fun tg_ kk_ => XS.iloadN X819.here hx rfl (hb hby at_88) rfl kk_) ?_
    show Go p e below T819 (mkF m 89 #[.val (.int p0), .val (.int p1), .val (.int (4 : Int32)), .val (.ref b774), .unset, .unset, .unset] [(.int p1), (.int (4 : Int32)), (.int (8 : Int32)), (.int (8 : Int32)), (.ref b774)]) _
    obtain ⟨_, _, ⟨T824, L824, k824, n824⟩, -, X824, ⟨Lc824, hQ824, l824, y824, z824⟩, st824⟩ := Jvm.LawKit.callS X819 hx (y := (⟨"com/example/attestry/attestry/DerReaderHasNextPinLaw", "slot", "(III)B"⟩ : MethodName)) hown (mvT hZ (hw _ (List.mem_of_getElem? (i := 2) rfl))) (mvT hZ (hw _ (List.mem_of_getElem? (i := 3) rfl))) (mvT hZ (hw _ (List.mem_of_getElem? (i := 4) rfl))) (mvT hZ (hw _ (List.mem_of_getElem? (i := 5) rfl))) (by decide) (backOf (W := 2) (rm1 l Z a0 hw [] (8 : Int32) (4 : Int32) p1 h819 n0 Zs822) hZ (hw _ (List.mem_of_getElem? (i := 5) rfl)) (hw _ (List.mem_of_getElem? (i := 4) rfl)) (by decide) (by decide)) (g := (mkF m 89 #[.val (.int p0), .val (.int p1), .val (.int (4 : Int32)), .val (.ref b774), .unset, .unset, .unset] [(.int p1), (.int (4 : Int32)), (.int (8 : Int32)), (.int (8 : Int32)), (.ref b774)])) rfl (by rw [hml]; rfl) (argsL := [(.int (8 : Int32)), (.int (4 : Int32)), (.int p1)]) (rest := [(.int (8 : Int32)), (.ref b774)]) (lenOf pd_8 rfl) rfl (by show 2 * 0 + _ ≤ _; exact Nat.le_of_eq rfl) (hb hby at_89) (fun _ _ => ⟨rfl, e819, (show 1 + 0 ≤ 32 from by decide), (show 10 + 0 ≤ 2240 from by decide)⟩)
    dsimp only [Pt.U, Pt.locs, Pt.cells, Pt.slots] at X824 l824 y824 z824 st824 hQ824
    have X824 := own_stand X824 l824 y824 z824
    obtain ⟨hv824, N824q, e824⟩ := hQ824
    rw [show slotF (8 : Int32) (4 : Int32) p1 = (5 : Int32) from by rw [slotF, if_pos (by decide), if_pos (by decide)]] at hv824
    subst hv824
    have N824 := Fr.app N819 N824q
    refine Go.of (st824) ?_
    show Go p e below T824 (mkF m 92 #[.val (.int p0), .val (.int p1), .val (.int (4 : Int32)), .val (.ref b774), .unset, .unset, .unset] [(.int (5 : Int32)), (.int (8 : Int32)), (.ref b774)]) _
    have ib825 := (show ¬ ((8 : Int32) < 0) ∧ ((8 : Int32)).toNatClampNeg < 10 from ⟨by decide, by decide⟩)
    obtain ⟨cl825, Ar825, S825, H825⟩ := id V819
    obtain ⟨T825, h825, X825, e825, W825, st825⟩ := stB X824 hx hZ e824 Ar825 (j := (8 : Int32)) (Af.inb S825 ib825) (g := (mkF m 92 #[.val (.int p0), .val (.int p1), .val (.int (4 : Int32)), .val (.ref b774), .unset, .unset, .unset] [(.int (5 : Int32)), (.int (8 : Int32)), (.ref b774)])) rfl rfl (hb hby at_92)
    obtain ⟨f825, qf825⟩ : ∃ qq_ : Nat → Int32, qq_ = upd f819 8 (5 : Int32) := ⟨_, rfl⟩
    have V825 : Af Z h825 b774 .byte 10 f825 := by rw [qf825]; exact Af.set Ar825 S825 H825 W825 (by decide)
    have K827 := K821.wr W825 (Or.inr sz774)
    have Zs828 : n0 ≤ h825.size := Nat.le_trans Zs822 (Keep.of_wr W825).1
    have hk829 := Nat.le_trans hk823 (Keep.of_wr W825).1
    have N825 := Fr.snoc X825 N824 gx774
    refine Go.of (st825) ?_
    show Go p e below T825 (mkF m 93 #[.val (.int p0), .val (.int p1), .val (.int (4 : Int32)), .val (.ref b774), .unset, .unset, .unset] []) _
    refine Go.of (fun tg_ kk_ => XS.aloadN X825.here hx rfl (hb hby at_93) rfl rfl kk_) ?_
    show Go p e below T825 (mkF m 94 #[.val (.int p0), .val (.int p1), .val (.int (4 : Int32)), .val (.ref b774), .unset, .unset, .unset] [(.ref b774)]) _
    refine Go.of (fun tg_ kk_ => XS.bipush X825.here hx rfl (hb hby at_94) kk_) ?_
    show Go p e below T825 (mkF m 96 #[.val (.int p0), .val (.int p1), .val (.int (4 : Int32)), .val (.ref b774), .unset, .unset, .unset] [(.int (9 : Int32)), (.ref b774)]) _
    refine Go.of (fun tg_ kk_ => XS.bipush X825.here hx rfl (hb hby at_96) kk_) ?_
    show Go p e below T825 (mkF m 98 #[.val (.int p0), .val (.int p1), .val (.int (4 : Int32)), .val (.ref b774), .unset, .unset, .unset] [(.int (9 : Int32)), (.int (9 : Int32)), (.ref b774)]) _
    refine Go.of (fun tg_ kk_ => XS.iloadN X825.here hx rfl (hb hby at_98) rfl kk_) ?_
    show Go p e below T825 (mkF m 99 #[.val (.int p0), .val (.int p1), .val (.int (4 : Int32)), .val (.ref b774), .unset, .unset, .unset] [(.int (4 : Int32)), (.int (9 : Int32)), (.int (9 : Int32)), (.ref b774)]) _
    refine Go.of (fun tg_ kk_ => XS.iloadN X825.here hx rfl (hb hby at_99) rfl kk_) ?_
    show Go p e below T825 (mkF m 100 #[.val (.int p0), .val (.int p1), .val (.int (4 : Int32)), .val (.ref b774), .unset, .unset, .unset] [(.int p1), (.int (4 : Int32)), (.int (9 : Int32)), (.int (9 : Int32)), (.ref b774)]) _
    obtain ⟨_, _, ⟨T830, L830, k830, n830⟩, -, X830, ⟨Lc830, hQ830, l830, y830, z830⟩, st830⟩ := Jvm.LawKit.callS X825 hx (y := (⟨"com/example/attestry/attestry/DerReaderHasNextPinLaw", "slot", "(III)B"⟩ : MethodName)) hown (mvT hZ (hw _ (List.mem_of_getElem? (i := 2) rfl))) (mvT hZ (hw _ (List.mem_of_getElem? (i := 3) rfl))) (mvT hZ (hw _ (List.mem_of_getElem? (i := 4) rfl))) (mvT hZ (hw _ (List.mem_of_getElem? (i := 5) rfl))) (by decide) (backOf (W := 2) (rm1 l Z a0 hw [] (9 : Int32) (4 : Int32) p1 h825 n0 Zs828) hZ (hw _ (List.mem_of_getElem? (i := 5) rfl)) (hw _ (List.mem_of_getElem? (i := 4) rfl)) (by decide) (by decide)) (g := (mkF m 100 #[.val (.int p0), .val (.int p1), .val (.int (4 : Int32)), .val (.ref b774), .unset, .unset, .unset] [(.int p1), (.int (4 : Int32)), (.int (9 : Int32)), (.int (9 : Int32)), (.ref b774)])) rfl (by rw [hml]; rfl) (argsL := [(.int (9 : Int32)), (.int (4 : Int32)), (.int p1)]) (rest := [(.int (9 : Int32)), (.ref b774)]) (lenOf pd_8 rfl) rfl (by show 2 * 0 + _ ≤ _; exact Nat.le_of_eq rfl) (hb hby at_100) (fun _ _ => ⟨rfl, e825, (show 1 + 0 ≤ 32 from by decide), (show 10 + 0 ≤ 2240 from by decide)⟩)
    dsimp only [Pt.U, Pt.locs, Pt.cells, Pt.slots] at X830 l830 y830 z830 st830 hQ830
    have X830 := own_stand X830 l830 y830 z830
    obtain ⟨hv830, N830q, e830⟩ := hQ830
    rw [show slotF (9 : Int32) (4 : Int32) p1 = (0 : Int32) from by rw [slotF, if_pos (by decide), if_neg (by decide)]] at hv830
    subst hv830
    have N830 := Fr.app N825 N830q
    refine Go.of (st830) ?_
    show Go p e below T830 (mkF m 103 #[.val (.int p0), .val (.int p1), .val (.int (4 : Int32)), .val (.ref b774), .unset, .unset, .unset] [(.int (0 : Int32)), (.int (9 : Int32)), (.ref b774)]) _
    have ib831 := (show ¬ ((9 : Int32) < 0) ∧ ((9 : Int32)).toNatClampNeg < 10 from ⟨by decide, by decide⟩)
    obtain ⟨cl831, Ar831, S831, H831⟩ := id V825
    obtain ⟨T831, h831, X831, e831, W831, st831⟩ := stB X830 hx hZ e830 Ar831 (j := (9 : Int32)) (Af.inb S831 ib831) (g := (mkF m 103 #[.val (.int p0), .val (.int p1), .val (.int (4 : Int32)), .val (.ref b774), .unset, .unset, .unset] [(.int (0 : Int32)), (.int (9 : Int32)), (.ref b774)])) rfl rfl (hb hby at_103)
    obtain ⟨f831, qf831⟩ : ∃ qq_ : Nat → Int32, qq_ = upd f825 9 (0 : Int32) := ⟨_, rfl⟩
    have V831 : Af Z h831 b774 .byte 10 f831 := by rw [qf831]; exact Af.set Ar831 S831 H831 W831 (by decide)
    have K833 := K827.wr W831 (Or.inr sz774)
    have Zs834 : n0 ≤ h831.size := Nat.le_trans Zs828 (Keep.of_wr W831).1
    have hk835 := Nat.le_trans hk829 (Keep.of_wr W831).1
    have N831 := Fr.snoc X831 N830 gx774
    refine Go.of (st831) ?_
    show Go p e below T831 (mkF m 104 #[.val (.int p0), .val (.int p1), .val (.int (4 : Int32)), .val (.ref b774), .unset, .unset, .unset] []) _
    have by0_ : f831 0 = (48 : Int32) := by rw [qf831, own_updN (by decide), qf825, own_updN (by decide), qf819, own_updN (by decide), qf813, own_updN (by decide), qf807, own_updN (by decide), qf801, own_updN (by decide), qf795, own_updN (by decide), qf789, own_updN (by decide), qf783, own_updN (by decide), qf778, own_updS]
    have by1_ : f831 1 = (8 : Int32) := by rw [qf831, own_updN (by decide), qf825, own_updN (by decide), qf819, own_updN (by decide), qf813, own_updN (by decide), qf807, own_updN (by decide), qf801, own_updN (by decide), qf795, own_updN (by decide), qf789, own_updN (by decide), qf783, own_updS]
    have by2_ : f831 2 = (5 : Int32) := by rw [qf831, own_updN (by decide), qf825, own_updN (by decide), qf819, own_updN (by decide), qf813, own_updN (by decide), qf807, own_updN (by decide), qf801, own_updN (by decide), qf795, own_updN (by decide), qf789, own_updS]
    have by3_ : f831 3 = (0 : Int32) := by rw [qf831, own_updN (by decide), qf825, own_updN (by decide), qf819, own_updN (by decide), qf813, own_updN (by decide), qf807, own_updN (by decide), qf801, own_updN (by decide), qf795, own_updS]
    obtain ⟨T836, h836, X836, e836, E836, A836, D836, -, st836⟩ := newO X831 hx hZ hown (hw _ (List.mem_of_getElem? (i := 6) rfl)) (hw _ (List.mem_of_getElem? (i := 7) rfl)) (hw _ (List.mem_of_getElem? (i := 8) rfl)) e831 (g := (mkF m 104 #[.val (.int p0), .val (.int p1), .val (.int (4 : Int32)), .val (.ref b774), .unset, .unset, .unset] [])) rfl (hb hby at_104) (by decide) (by decide)
    obtain ⟨b836, g836⟩ : ∃ zz_, zz_ = h831.size := ⟨_, rfl⟩
    rw [← g836] at A836 D836 st836
    have gx836 : n0 ≤ b836 := Nat.le_trans Zs834 (Nat.le_of_eq g836.symm)
    have sz836 : h0.size ≤ b836 := Nat.le_trans K833.1 (Nat.le_of_eq g836.symm)
    have ne837 : b774 ≠ b836 := Nat.ne_of_lt (Nat.lt_of_lt_of_le V831.lt (Nat.le_of_eq g836.symm))
    have F838 := V831.ext E836
    have K839 := K833.ext E836
    have Zs840 : n0 ≤ h836.size := Nat.le_trans Zs834 E836.1
    have hk841 := Nat.le_trans hk835 E836.1
    have F842 : Fld Z h836 b836 "com/example/attestry/attestry/DerReader" "bytes" "[B" .null := D836 (Or.inr (hw _ (List.mem_of_getElem? (i := 16) rfl))) (ty := (.array .byte)) (by decide)
    have F843 : Fld Z h836 b836 "com/example/attestry/attestry/DerReader" "berNote" "Lcom/example/attestry/attestry/DerReader$BerNote;" .null := D836 (Or.inr (hw _ (List.mem_of_getElem? (i := 25) rfl))) (ty := (.object "com/example/attestry/attestry/DerReader$BerNote")) (by decide)
    have F844 : Fld Z h836 b836 "com/example/attestry/attestry/DerReader" "start" "I" (.int (0 : Int32)) := D836 (Or.inr (hw _ (List.mem_of_getElem? (i := 27) rfl))) (ty := .int) (by decide)
    have F845 : Fld Z h836 b836 "com/example/attestry/attestry/DerReader" "position" "I" (.int (0 : Int32)) := D836 (Or.inl (hw _ (List.mem_of_getElem? (i := 29) rfl))) (ty := .int) (by decide)
    have F846 : Fld Z h836 b836 "com/example/attestry/attestry/DerReader" "end" "I" (.int (0 : Int32)) := D836 (Or.inr (hw _ (List.mem_of_getElem? (i := 31) rfl))) (ty := .int) (by decide)
    have F847 : Fld Z h836 b836 "com/example/attestry/attestry/DerReader" "depth" "I" (.int (0 : Int32)) := D836 (Or.inr (hw _ (List.mem_of_getElem? (i := 33) rfl))) (ty := .int) (by decide)
    refine Go.of (st836) ?_
    show Go p e below T836 (mkF m 107 #[.val (.int p0), .val (.int p1), .val (.int (4 : Int32)), .val (.ref b774), .unset, .unset, .unset] [(.ref b836)]) _
    refine Go.of (fun tg_ kk_ => XS.dup X836.here hx rfl (hb hby at_107) rfl rfl kk_) ?_
    show Go p e below T836 (mkF m 108 #[.val (.int p0), .val (.int p1), .val (.int (4 : Int32)), .val (.ref b774), .unset, .unset, .unset] [(.ref b836), (.ref b836)]) _
    refine Go.of (fun tg_ kk_ => XS.iconst X836.here hx rfl (hb hby at_108) kk_) ?_
    show Go p e below T836 (mkF m 109 #[.val (.int p0), .val (.int p1), .val (.int (4 : Int32)), .val (.ref b774), .unset, .unset, .unset] [(.int (0 : Int32)), (.ref b836), (.ref b836)]) _
    obtain ⟨T848, h848, k848, X848, e848, E848, A848, st848⟩ := newP X836 hx hZ (hw _ (List.mem_of_getElem? (i := 1) rfl)) e836 (g := (mkF m 109 #[.val (.int p0), .val (.int p1), .val (.int (4 : Int32)), .val (.ref b774), .unset, .unset, .unset] [(.int (0 : Int32)), (.ref b836), (.ref b836)])) rfl (hb hby at_109) rfl (by decide) (cap := 0) (by decide) (by decide) (by decide) (by decide)
    obtain ⟨b848, g848⟩ : ∃ zz_, zz_ = h836.size := ⟨_, rfl⟩
    rw [← g848] at A848 st848
    have gx848 : n0 ≤ b848 := Nat.le_trans Zs840 (Nat.le_of_eq g848.symm)
    have sz848 : h0.size ≤ b848 := Nat.le_trans K839.1 (Nat.le_of_eq g848.symm)
    have ne849 : b774 ≠ b848 := Nat.ne_of_lt (Nat.lt_of_lt_of_le F838.lt (Nat.le_of_eq g848.symm))
    have ne850 : b836 ≠ b848 := Nat.ne_of_lt (Nat.lt_of_lt_of_le A836.lt (Nat.le_of_eq g848.symm))
    have F851 := F838.ext E848
    have F852 := A836.ext E848
    have F853 := F842.ext E848
    have F854 := F843.ext E848
    have F855 := F844.ext E848
    have F856 := F845.ext E848
    have F857 := F846.ext E848
    have F858 := F847.ext E848
    have K859 := K839.ext E848
    have Zs860 : n0 ≤ h848.size := Nat.le_trans Zs840 E848.1
    have hk861 := Nat.le_trans hk841 E848.1
    have V848 : Af Z h848 b848 .byte 0 (fun _ => 0) := Af.new rfl A848 (by decide)
    refine Go.of (st848) ?_
    show Go p e below T848 (mkF m 111 #[.val (.int p0), .val (.int p1), .val (.int (4 : Int32)), .val (.ref b774), .unset, .unset, .unset] [(.ref b848), (.ref b836), (.ref b836)]) _
    obtain ⟨_, _, ⟨T862, L862, k862, n862⟩, -, X862, ⟨Lc862, hQ862, l862, y862, z862⟩, st862⟩ := X848.specialBack hx (y := (⟨"com/example/attestry/attestry/DerReader", "<init>", "([B)V"⟩ : MethodName)) rfl hown (mvT hZ (hw _ (List.mem_of_getElem? (i := 9) rfl))) (mvT hZ (hw _ (List.mem_of_getElem? (i := 10) rfl))) (mvT hZ (hw _ (List.mem_of_getElem? (i := 11) rfl))) (by decide) (backOf (W := 1) (rm2_0 l Z a0 hw [] b836 b848 (fun _ => 0) h848 n0 Zs860 gx836 F852 F853 F854 F855 F856 F857 F858 V848 ne850) hZ (hw _ (List.mem_of_getElem? (i := 11) rfl)) (hw _ (List.mem_of_getElem? (i := 8) rfl)) (by decide) (by decide)) (g := (mkF m 111 #[.val (.int p0), .val (.int p1), .val (.int (4 : Int32)), .val (.ref b774), .unset, .unset, .unset] [(.ref b848), (.ref b836), (.ref b836)])) rfl (by rw [hml]; rfl) (Steps.refl _) (a := b836) (argsL := [(.ref b848)]) (rest := [(.ref b836)]) (lenOf pd_9 rfl) rfl (by show 2 * 0 + _ ≤ _; exact Nat.le_of_eq rfl) (hb hby at_111) (fun _ _ => ⟨rfl, e848, (show 3 + 1 ≤ 32 from by decide), (show 16 + 1 ≤ 2240 from by decide)⟩)
    dsimp only [Pt.U, Pt.locs, Pt.cells, Pt.slots] at X862 l862 y862 z862 st862 hQ862
    have X862 := own_stand X862 l862 y862 z862
    obtain ⟨q862, rfl, N862q, K862q, Fbytes_862, FberNote_862, Fstart_862, Fposition_862, Fend_862, Fdepth_862⟩ := hQ862
    have N862 := Fr.app N831 N862q
    have F863 := F851.keep K862q (ninS ne837 nin0)
    have F864 := F852.keep K862q
    have F871 := V848.keep K862q (ninS (Ne.symm ne850) nin0)
    have K872 := K859.trans K862q (allS (Or.inr sz836) all0)
    have Zs873 : n0 ≤ T862.heap.size := Nat.le_trans Zs860 K862q.1
    have hk874 := Nat.le_trans hk861 K862q.1
    refine Go.of (fun tg_ kk_ => st862.trans kk_) ?_
    show Go p e below T862 (mkF m 114 #[.val (.int p0), .val (.int p1), .val (.int (4 : Int32)), .val (.ref b774), .unset, .unset, .unset] [(.ref b836)]) _
    obtain ⟨cq875, kq875, q875a, q875b, q875c⟩ := isOf hZ rfl F864
    obtain ⟨_, _, ⟨T875, L875, k875, n875⟩, -, X875, ⟨Lc875, hQ875, l875, y875, z875⟩, st875⟩ := X862.virtualBack hx (y := (⟨"com/example/attestry/attestry/DerReader", "hasNext", "()Z"⟩ : MethodName)) (z := (⟨"com/example/attestry/attestry/DerReader", "hasNext", "()Z"⟩ : MethodName)) hown (mvT hZ (hw _ (List.mem_of_getElem? (i := 34) rfl))) (mvT hZ (hw _ (List.mem_of_getElem? (i := 35) rfl))) (notFace_of_selects (args := #[]) (mvT hZ (hw _ (List.mem_of_getElem? (i := 37) rfl)))) (mvT hZ (hw _ (List.mem_of_getElem? (i := 37) rfl))) (mvT hZ (hw _ (List.mem_of_getElem? (i := 36) rfl))) (by decide) (backOf (W := 0) (rm5 l Z a0 hw [] b836 (0 : Int32) (0 : Int32) T862.heap n0 Zs873 Fposition_862 Fend_862) hZ (hw _ (List.mem_of_getElem? (i := 38) rfl)) (hw _ (List.mem_of_getElem? (i := 8) rfl)) (by decide) (by decide)) q875a q875c (g := (mkF m 114 #[.val (.int p0), .val (.int p1), .val (.int (4 : Int32)), .val (.ref b774), .unset, .unset, .unset] [(.ref b836)])) rfl (by rw [hml]; rfl) (Steps.refl _) (argsL := []) (rest := []) (lenOf pd_1 rfl) rfl (by show 2 * 0 + _ ≤ _; exact Nat.le_of_eq rfl) (hb hby at_114) (fun _ _ => ⟨rfl, rfl, (show 4 + 0 ≤ 32 from by decide), (show 17 + 0 ≤ 2240 from by decide)⟩)
    dsimp only [Pt.U, Pt.locs, Pt.cells, Pt.slots] at X875 l875 y875 z875 st875 hQ875
    have X875 := own_stand X875 l875 y875 z875
    obtain ⟨hv875, N875q, e875⟩ := hQ875
    rw [if_neg (show ¬ ((0 : Int32) < (0 : Int32)) by decide)] at hv875
    subst hv875
    have N875 := Fr.app N862 N875q
    refine Go.of (fun tg_ kk_ => st875.trans kk_) ?_
    show Go p e below T875 (mkF m 117 #[.val (.int p0), .val (.int p1), .val (.int (4 : Int32)), .val (.ref b774), .unset, .unset, .unset] [(.int (0 : Int32))]) _
    refine Go.of (fun tg_ kk_ => XS.ifNo X875.here hx rfl (hb hby at_117) rfl ((if0 _ _).trans (teq (show (0 : Int32) = (0 : Int32) by decide)).2) kk_) ?_
    show Go p e below T875 (mkF m 120 #[.val (.int p0), .val (.int p1), .val (.int (4 : Int32)), .val (.ref b774), .unset, .unset, .unset] []) _
    refine Go.of (fun tg_ kk_ => XS.iconst X875.here hx rfl (hb hby at_120) kk_) ?_
    show Go p e below T875 (mkF m 121 #[.val (.int p0), .val (.int p1), .val (.int (4 : Int32)), .val (.ref b774), .unset, .unset, .unset] [(.int (1 : Int32))]) _
    refine Go.of (fun tg_ kk_ => XS.goto X875.here hx rfl (pc0 := 121) (pc' := 125) rfl (hb hby at_121) (by decide) (by decide) kk_) ?_
    show Go p e below T875 (mkF m 125 #[.val (.int p0), .val (.int p1), .val (.int (4 : Int32)), .val (.ref b774), .unset, .unset, .unset] [(.int (1 : Int32))]) _
    refine Go.of (fun tg_ kk_ => XS.istore X875.here hx rfl (hb hby at_125) rfl (l' := #[.val (.int p0), .val (.int p1), .val (.int (4 : Int32)), .val (.ref b774), .val (.int (1 : Int32)), .unset, .unset]) rfl kk_) ?_
    show Go p e below T875 (mkF m 127 #[.val (.int p0), .val (.int p1), .val (.int (4 : Int32)), .val (.ref b774), .val (.int (1 : Int32)), .unset, .unset] []) _
    obtain ⟨T876, h876, X876, e876, E876, A876, D876, -, st876⟩ := newO X875 hx hZ hown (hw _ (List.mem_of_getElem? (i := 6) rfl)) (hw _ (List.mem_of_getElem? (i := 7) rfl)) (hw _ (List.mem_of_getElem? (i := 8) rfl)) e875 (g := (mkF m 127 #[.val (.int p0), .val (.int p1), .val (.int (4 : Int32)), .val (.ref b774), .val (.int (1 : Int32)), .unset, .unset] [])) rfl (hb hby at_127) (by decide) (by decide)
    obtain ⟨b876, g876⟩ : ∃ zz_, zz_ = T862.heap.size := ⟨_, rfl⟩
    rw [← g876] at A876 D876 st876
    have gx876 : n0 ≤ b876 := Nat.le_trans Zs873 (Nat.le_of_eq g876.symm)
    have sz876 : h0.size ≤ b876 := Nat.le_trans K872.1 (Nat.le_of_eq g876.symm)
    have ne877 : b774 ≠ b876 := Nat.ne_of_lt (Nat.lt_of_lt_of_le F863.lt (Nat.le_of_eq g876.symm))
    have ne878 : b836 ≠ b876 := Nat.ne_of_lt (Nat.lt_of_lt_of_le F864.lt (Nat.le_of_eq g876.symm))
    have ne879 : b848 ≠ b876 := Nat.ne_of_lt (Nat.lt_of_lt_of_le F871.lt (Nat.le_of_eq g876.symm))
    have F880 := F863.ext E876
    have F881 := F864.ext E876
    have F882 := F871.ext E876
    have F883 := Fbytes_862.ext E876
    have F884 := FberNote_862.ext E876
    have F885 := Fstart_862.ext E876
    have F886 := Fposition_862.ext E876
    have F887 := Fend_862.ext E876
    have F888 := Fdepth_862.ext E876
    have K889 := K872.ext E876
    have Zs890 : n0 ≤ h876.size := Nat.le_trans Zs873 E876.1
    have hk891 := Nat.le_trans hk874 E876.1
    have F892 : Fld Z h876 b876 "com/example/attestry/attestry/DerReader" "bytes" "[B" .null := D876 (Or.inr (hw _ (List.mem_of_getElem? (i := 16) rfl))) (ty := (.array .byte)) (by decide)
    have F893 : Fld Z h876 b876 "com/example/attestry/attestry/DerReader" "berNote" "Lcom/example/attestry/attestry/DerReader$BerNote;" .null := D876 (Or.inr (hw _ (List.mem_of_getElem? (i := 25) rfl))) (ty := (.object "com/example/attestry/attestry/DerReader$BerNote")) (by decide)
    have F894 : Fld Z h876 b876 "com/example/attestry/attestry/DerReader" "start" "I" (.int (0 : Int32)) := D876 (Or.inr (hw _ (List.mem_of_getElem? (i := 27) rfl))) (ty := .int) (by decide)
    have F895 : Fld Z h876 b876 "com/example/attestry/attestry/DerReader" "position" "I" (.int (0 : Int32)) := D876 (Or.inl (hw _ (List.mem_of_getElem? (i := 29) rfl))) (ty := .int) (by decide)
    have F896 : Fld Z h876 b876 "com/example/attestry/attestry/DerReader" "end" "I" (.int (0 : Int32)) := D876 (Or.inr (hw _ (List.mem_of_getElem? (i := 31) rfl))) (ty := .int) (by decide)
    have F897 : Fld Z h876 b876 "com/example/attestry/attestry/DerReader" "depth" "I" (.int (0 : Int32)) := D876 (Or.inr (hw _ (List.mem_of_getElem? (i := 33) rfl))) (ty := .int) (by decide)
    refine Go.of (st876) ?_
    show Go p e below T876 (mkF m 130 #[.val (.int p0), .val (.int p1), .val (.int (4 : Int32)), .val (.ref b774), .val (.int (1 : Int32)), .unset, .unset] [(.ref b876)]) _
    refine Go.of (fun tg_ kk_ => XS.dup X876.here hx rfl (hb hby at_130) rfl rfl kk_) ?_
    show Go p e below T876 (mkF m 131 #[.val (.int p0), .val (.int p1), .val (.int (4 : Int32)), .val (.ref b774), .val (.int (1 : Int32)), .unset, .unset] [(.ref b876), (.ref b876)]) _
    refine Go.of (fun tg_ kk_ => XS.aloadN X876.here hx rfl (hb hby at_131) rfl rfl kk_) ?_
    show Go p e below T876 (mkF m 132 #[.val (.int p0), .val (.int p1), .val (.int (4 : Int32)), .val (.ref b774), .val (.int (1 : Int32)), .unset, .unset] [(.ref b774), (.ref b876), (.ref b876)]) _
    obtain ⟨_, _, ⟨T898, L898, k898, n898⟩, -, X898, ⟨Lc898, hQ898, l898, y898, z898⟩, st898⟩ := X876.specialBack hx (y := (⟨"com/example/attestry/attestry/DerReader", "<init>", "([B)V"⟩ : MethodName)) rfl hown (mvT hZ (hw _ (List.mem_of_getElem? (i := 9) rfl))) (mvT hZ (hw _ (List.mem_of_getElem? (i := 10) rfl))) (mvT hZ (hw _ (List.mem_of_getElem? (i := 11) rfl))) (by decide) (backOf (W := 1) (rm2_10 l Z a0 hw [] b876 b774 f831 h876 n0 Zs890 gx876 A876 F892 F893 F894 F895 F896 F897 F880 (Ne.symm ne877)) hZ (hw _ (List.mem_of_getElem? (i := 11) rfl)) (hw _ (List.mem_of_getElem? (i := 8) rfl)) (by decide) (by decide)) (g := (mkF m 132 #[.val (.int p0), .val (.int p1), .val (.int (4 : Int32)), .val (.ref b774), .val (.int (1 : Int32)), .unset, .unset] [(.ref b774), (.ref b876), (.ref b876)])) rfl (by rw [hml]; rfl) (Steps.refl _) (a := b876) (argsL := [(.ref b774)]) (rest := [(.ref b876)]) (lenOf pd_9 rfl) rfl (by show 2 * 0 + _ ≤ _; exact Nat.le_of_eq rfl) (hb hby at_132) (fun _ _ => ⟨rfl, e876, (show 5 + 1 ≤ 32 from by decide), (show 23 + 1 ≤ 2240 from by decide)⟩)
    dsimp only [Pt.U, Pt.locs, Pt.cells, Pt.slots] at X898 l898 y898 z898 st898 hQ898
    have X898 := own_stand X898 l898 y898 z898
    obtain ⟨q898, rfl, N898q, K898q, Fbytes_898, FberNote_898, Fstart_898, Fposition_898, Fend_898, Fdepth_898⟩ := hQ898
    have N898 := Fr.app N875 N898q
    have F899 := F880.keep K898q (ninS ne877 nin0)
    have F900 := F881.keep K898q
    have F901 := F882.keep K898q (ninS ne879 nin0)
    have F902 := F883.keep K898q (ninS ne878 nin0)
    have F903 := F884.keep K898q (ninS ne878 nin0)
    have F904 := F885.keep K898q (ninS ne878 nin0)
    have F905 := F886.keep K898q (ninS ne878 nin0)
    have F906 := F887.keep K898q (ninS ne878 nin0)
    have F907 := F888.keep K898q (ninS ne878 nin0)
    have F908 := A876.keep K898q
    have K915 := K889.trans K898q (allS (Or.inr sz876) all0)
    have Zs916 : n0 ≤ T898.heap.size := Nat.le_trans Zs890 K898q.1
    have hk917 := Nat.le_trans hk891 K898q.1
    refine Go.of (fun tg_ kk_ => st898.trans kk_) ?_
    show Go p e below T898 (mkF m 135 #[.val (.int p0), .val (.int p1), .val (.int (4 : Int32)), .val (.ref b774), .val (.int (1 : Int32)), .unset, .unset] [(.ref b876)]) _
    refine Go.of (fun tg_ kk_ => XS.astore X898.here hx rfl (hb hby at_135) rfl rfl (l' := #[.val (.int p0), .val (.int p1), .val (.int (4 : Int32)), .val (.ref b774), .val (.int (1 : Int32)), .val (.ref b876), .unset]) rfl kk_) ?_
    show Go p e below T898 (mkF m 137 #[.val (.int p0), .val (.int p1), .val (.int (4 : Int32)), .val (.ref b774), .val (.int (1 : Int32)), .val (.ref b876), .unset] []) _
    refine Go.of (fun tg_ kk_ => XS.iload X898.here hx rfl (hb hby at_137) rfl kk_) ?_
    show Go p e below T898 (mkF m 139 #[.val (.int p0), .val (.int p1), .val (.int (4 : Int32)), .val (.ref b774), .val (.int (1 : Int32)), .val (.ref b876), .unset] [(.int (1 : Int32))]) _
    refine Go.of (fun tg_ kk_ => XS.ifNo X898.here hx rfl (hb hby at_139) rfl ((if0 _ _).trans (feq (show ¬ ((1 : Int32) = (0 : Int32)) by decide)).1) kk_) ?_
    show Go p e below T898 (mkF m 142 #[.val (.int p0), .val (.int p1), .val (.int (4 : Int32)), .val (.ref b774), .val (.int (1 : Int32)), .val (.ref b876), .unset] []) _
    refine Go.of (fun tg_ kk_ => XS.aload X898.here hx rfl (hb hby at_142) rfl rfl kk_) ?_
    show Go p e below T898 (mkF m 144 #[.val (.int p0), .val (.int p1), .val (.int (4 : Int32)), .val (.ref b774), .val (.int (1 : Int32)), .val (.ref b876), .unset] [(.ref b876)]) _
    obtain ⟨cq918, kq918, q918a, q918b, q918c⟩ := isOf hZ rfl F908
    obtain ⟨_, _, ⟨T918, L918, k918, n918⟩, -, X918, ⟨Lc918, hQ918, l918, y918, z918⟩, st918⟩ := X898.virtualBack hx (y := (⟨"com/example/attestry/attestry/DerReader", "hasNext", "()Z"⟩ : MethodName)) (z := (⟨"com/example/attestry/attestry/DerReader", "hasNext", "()Z"⟩ : MethodName)) hown (mvT hZ (hw _ (List.mem_of_getElem? (i := 34) rfl))) (mvT hZ (hw _ (List.mem_of_getElem? (i := 35) rfl))) (notFace_of_selects (args := #[]) (mvT hZ (hw _ (List.mem_of_getElem? (i := 37) rfl)))) (mvT hZ (hw _ (List.mem_of_getElem? (i := 37) rfl))) (mvT hZ (hw _ (List.mem_of_getElem? (i := 36) rfl))) (by decide) (backOf (W := 0) (rm5 l Z a0 hw [] b876 (0 : Int32) (10 : Int32) T898.heap n0 Zs916 Fposition_898 Fend_898) hZ (hw _ (List.mem_of_getElem? (i := 38) rfl)) (hw _ (List.mem_of_getElem? (i := 8) rfl)) (by decide) (by decide)) q918a q918c (g := (mkF m 144 #[.val (.int p0), .val (.int p1), .val (.int (4 : Int32)), .val (.ref b774), .val (.int (1 : Int32)), .val (.ref b876), .unset] [(.ref b876)])) rfl (by rw [hml]; rfl) (Steps.refl _) (argsL := []) (rest := []) (lenOf pd_1 rfl) rfl (by show 2 * 0 + _ ≤ _; exact Nat.le_of_eq rfl) (hb hby at_144) (fun _ _ => ⟨rfl, rfl, (show 6 + 0 ≤ 32 from by decide), (show 24 + 0 ≤ 2240 from by decide)⟩)
    dsimp only [Pt.U, Pt.locs, Pt.cells, Pt.slots] at X918 l918 y918 z918 st918 hQ918
    have X918 := own_stand X918 l918 y918 z918
    obtain ⟨hv918, N918q, e918⟩ := hQ918
    rw [if_pos (show ((0 : Int32) < (10 : Int32)) by decide)] at hv918
    subst hv918
    have N918 := Fr.app N898 N918q
    refine Go.of (fun tg_ kk_ => st918.trans kk_) ?_
    show Go p e below T918 (mkF m 147 #[.val (.int p0), .val (.int p1), .val (.int (4 : Int32)), .val (.ref b774), .val (.int (1 : Int32)), .val (.ref b876), .unset] [(.int (1 : Int32))]) _
    refine Go.of (fun tg_ kk_ => XS.ifNo X918.here hx rfl (hb hby at_147) rfl ((if0 _ _).trans (feq (show ¬ ((1 : Int32) = (0 : Int32)) by decide)).1) kk_) ?_
    show Go p e below T918 (mkF m 150 #[.val (.int p0), .val (.int p1), .val (.int (4 : Int32)), .val (.ref b774), .val (.int (1 : Int32)), .val (.ref b876), .unset] []) _
    refine Go.of (fun tg_ kk_ => XS.iconst X918.here hx rfl (hb hby at_150) kk_) ?_
    show Go p e below T918 (mkF m 151 #[.val (.int p0), .val (.int p1), .val (.int (4 : Int32)), .val (.ref b774), .val (.int (1 : Int32)), .val (.ref b876), .unset] [(.int (1 : Int32))]) _
    refine Go.of (fun tg_ kk_ => XS.goto X918.here hx rfl (pc0 := 151) (pc' := 155) rfl (hb hby at_151) (by decide) (by decide) kk_) ?_
    show Go p e below T918 (mkF m 155 #[.val (.int p0), .val (.int p1), .val (.int (4 : Int32)), .val (.ref b774), .val (.int (1 : Int32)), .val (.ref b876), .unset] [(.int (1 : Int32))]) _
    refine Go.of (fun tg_ kk_ => XS.istore X918.here hx rfl (hb hby at_155) rfl (l' := #[.val (.int p0), .val (.int p1), .val (.int (4 : Int32)), .val (.ref b774), .val (.int (1 : Int32)), .val (.ref b876), .unset]) rfl kk_) ?_
    show Go p e below T918 (mkF m 157 #[.val (.int p0), .val (.int p1), .val (.int (4 : Int32)), .val (.ref b774), .val (.int (1 : Int32)), .val (.ref b876), .unset] []) _
    refine Go.of (fun tg_ kk_ => XS.iload X918.here hx rfl (hb hby at_157) rfl kk_) ?_
    show Go p e below T918 (mkF m 159 #[.val (.int p0), .val (.int p1), .val (.int (4 : Int32)), .val (.ref b774), .val (.int (1 : Int32)), .val (.ref b876), .unset] [(.int (1 : Int32))]) _
    refine Go.of (fun tg_ kk_ => XS.ifNo X918.here hx rfl (hb hby at_159) rfl ((if0 _ _).trans (feq (show ¬ ((1 : Int32) = (0 : Int32)) by decide)).1) kk_) ?_
    show Go p e below T918 (mkF m 162 #[.val (.int p0), .val (.int p1), .val (.int (4 : Int32)), .val (.ref b774), .val (.int (1 : Int32)), .val (.ref b876), .unset] []) _
    refine Go.of (fun tg_ kk_ => XS.aload X918.here hx rfl (hb hby at_162) rfl rfl kk_) ?_
    show Go p e below T918 (mkF m 164 #[.val (.int p0), .val (.int p1), .val (.int (4 : Int32)), .val (.ref b774), .val (.int (1 : Int32)), .val (.ref b876), .unset] [(.ref b876)]) _
    obtain ⟨cq919, kq919, q919a, q919b, q919c⟩ := isOf hZ e918 F908
    obtain ⟨_, _, ⟨T919, L919, k919, n919⟩, -, X919, ⟨Lc919, hQ919, l919, y919, z919⟩, st919⟩ := X918.virtualBack hx (y := (⟨"com/example/attestry/attestry/DerReader", "hasNext", "()Z"⟩ : MethodName)) (z := (⟨"com/example/attestry/attestry/DerReader", "hasNext", "()Z"⟩ : MethodName)) hown (mvT hZ (hw _ (List.mem_of_getElem? (i := 34) rfl))) (mvT hZ (hw _ (List.mem_of_getElem? (i := 35) rfl))) (notFace_of_selects (args := #[]) (mvT hZ (hw _ (List.mem_of_getElem? (i := 37) rfl)))) (mvT hZ (hw _ (List.mem_of_getElem? (i := 37) rfl))) (mvT hZ (hw _ (List.mem_of_getElem? (i := 36) rfl))) (by decide) (backOf (W := 0) (rm5 l Z a0 hw [] b876 (0 : Int32) (10 : Int32) T898.heap n0 Zs916 Fposition_898 Fend_898) hZ (hw _ (List.mem_of_getElem? (i := 38) rfl)) (hw _ (List.mem_of_getElem? (i := 8) rfl)) (by decide) (by decide)) q919a q919c (g := (mkF m 164 #[.val (.int p0), .val (.int p1), .val (.int (4 : Int32)), .val (.ref b774), .val (.int (1 : Int32)), .val (.ref b876), .unset] [(.ref b876)])) rfl (by rw [hml]; rfl) (Steps.refl _) (argsL := []) (rest := []) (lenOf pd_1 rfl) rfl (by show 2 * 0 + _ ≤ _; exact Nat.le_of_eq rfl) (hb hby at_164) (fun _ _ => ⟨rfl, e918, (show 6 + 0 ≤ 32 from by decide), (show 24 + 0 ≤ 2240 from by decide)⟩)
    dsimp only [Pt.U, Pt.locs, Pt.cells, Pt.slots] at X919 l919 y919 z919 st919 hQ919
    have X919 := own_stand X919 l919 y919 z919
    obtain ⟨hv919, N919q, e919⟩ := hQ919
    rw [if_pos (show ((0 : Int32) < (10 : Int32)) by decide)] at hv919
    subst hv919
    have N919 := Fr.app N918 N919q
    refine Go.of (fun tg_ kk_ => st919.trans kk_) ?_
    show Go p e below T919 (mkF m 167 #[.val (.int p0), .val (.int p1), .val (.int (4 : Int32)), .val (.ref b774), .val (.int (1 : Int32)), .val (.ref b876), .unset] [(.int (1 : Int32))]) _
    refine Go.of (fun tg_ kk_ => XS.ifNo X919.here hx rfl (hb hby at_167) rfl ((if0 _ _).trans (feq (show ¬ ((1 : Int32) = (0 : Int32)) by decide)).1) kk_) ?_
    show Go p e below T919 (mkF m 170 #[.val (.int p0), .val (.int p1), .val (.int (4 : Int32)), .val (.ref b774), .val (.int (1 : Int32)), .val (.ref b876), .unset] []) _
    refine Go.of (fun tg_ kk_ => XS.iconst X919.here hx rfl (hb hby at_170) kk_) ?_
    show Go p e below T919 (mkF m 171 #[.val (.int p0), .val (.int p1), .val (.int (4 : Int32)), .val (.ref b774), .val (.int (1 : Int32)), .val (.ref b876), .unset] [(.int (1 : Int32))]) _
    refine Go.of (fun tg_ kk_ => XS.goto X919.here hx rfl (pc0 := 171) (pc' := 175) rfl (hb hby at_171) (by decide) (by decide) kk_) ?_
    show Go p e below T919 (mkF m 175 #[.val (.int p0), .val (.int p1), .val (.int (4 : Int32)), .val (.ref b774), .val (.int (1 : Int32)), .val (.ref b876), .unset] [(.int (1 : Int32))]) _
    refine Go.of (fun tg_ kk_ => XS.istore X919.here hx rfl (hb hby at_175) rfl (l' := #[.val (.int p0), .val (.int p1), .val (.int (4 : Int32)), .val (.ref b774), .val (.int (1 : Int32)), .val (.ref b876), .unset]) rfl kk_) ?_
    show Go p e below T919 (mkF m 177 #[.val (.int p0), .val (.int p1), .val (.int (4 : Int32)), .val (.ref b774), .val (.int (1 : Int32)), .val (.ref b876), .unset] []) _
    refine Go.of (fun tg_ kk_ => XS.aload X919.here hx rfl (hb hby at_177) rfl rfl kk_) ?_
    show Go p e below T919 (mkF m 179 #[.val (.int p0), .val (.int p1), .val (.int (4 : Int32)), .val (.ref b774), .val (.int (1 : Int32)), .val (.ref b876), .unset] [(.ref b876)]) _
    obtain ⟨cq920, kq920, q920a, q920b, q920c⟩ := isOf hZ e919 F908
    obtain ⟨_, _, ⟨T920, L920, k920, n920⟩, -, Xq920, hSq920, hgr920, ⟨Lc920, hQ920, l920, y920, z920⟩, st920⟩ := X919.virtualBackS hx (y := (⟨"com/example/attestry/attestry/DerReader", "sequence", "()Lcom/example/attestry/attestry/DerReader;"⟩ : MethodName)) (z := (⟨"com/example/attestry/attestry/DerReader", "sequence", "()Lcom/example/attestry/attestry/DerReader;"⟩ : MethodName)) hown (mvT hZ (hw _ (List.mem_of_getElem? (i := 39) rfl))) (mvT hZ (hw _ (List.mem_of_getElem? (i := 40) rfl))) (notFace_of_selects (args := #[]) (mvT hZ (hw _ (List.mem_of_getElem? (i := 42) rfl)))) (mvT hZ (hw _ (List.mem_of_getElem? (i := 42) rfl))) (mvT hZ (hw _ (List.mem_of_getElem? (i := 41) rfl))) (by decide) (backOfS (W := 0) (rm6 l Z a0 hw [] b876 b774 q898 (0 : Int32) (0 : Int32) (10 : Int32) (1 : Int32) f831 (8 : Int32) T898.heap n0 Zs916 gx876 F908 Fbytes_898 FberNote_898 Fstart_898 Fposition_898 Fend_898 Fdepth_898 F899 (Ne.symm ne877) (by decide +kernel) ⟨by decide +kernel, by decide +kernel⟩ (by rw [show ((0 : Int32)).toNatClampNeg = 0 from by decide +kernel, by0_]; decide +kernel) (by decide +kernel) ⟨by decide +kernel, by decide +kernel⟩ (by rw [show (((0 : Int32) + (1 : Int32))).toNatClampNeg = 1 from by decide +kernel, by1_]; decide +kernel) (by decide +kernel) (by decide +kernel) (by decide +kernel) (by decide +kernel)) hZ (hw _ (List.mem_of_getElem? (i := 43) rfl)) (hw _ (List.mem_of_getElem? (i := 8) rfl)) (by decide) (by decide)) q920a q920c (g := (mkF m 179 #[.val (.int p0), .val (.int p1), .val (.int (4 : Int32)), .val (.ref b774), .val (.int (1 : Int32)), .val (.ref b876), .unset] [(.ref b876)])) rfl (by rw [hml]; rfl) (Steps.refl _) (argsL := []) (rest := []) (lenOf pd_10 rfl) rfl (by show 2 * 0 + _ ≤ _; exact Nat.le_of_eq rfl) (hb hby at_179) (fun _ _ => ⟨rfl, e919, (show 6 + 3 ≤ 32 from by decide), (show 24 + 42 ≤ 2240 from by decide)⟩)
    dsimp only [Pt.U, Pt.locs, Pt.cells, Pt.slots] at Xq920 l920 y920 z920 st920 hQ920 hSq920 hgr920
    have Xq920 := own_stand Xq920 l920 y920 z920
    obtain ⟨X920, hS920, hZ920, hown920⟩ := rebS hS0 (by rw [e919]; exact hk917) Xq920 hSq920 hgr920 hZ hown
    obtain ⟨c920, rfl, N920q, K920q, gx920, sz920, E920, Fbytes_920, FberNote_920, Fstart_920, Fposition_920, Fend_920, Fdepth_920, Gbytes_920, GberNote_920, Gstart_920, Gposition_920, Gend_920, Gdepth_920⟩ := hQ920
    have N920 := Fr.app N919 N920q
    have sy920 : h0.size ≤ c920 := Nat.le_trans K915.1 sz920
    have ne921 : b774 ≠ c920 := Nat.ne_of_lt (Nat.lt_of_lt_of_le F899.lt sz920)
    have ne922 : b836 ≠ c920 := Nat.ne_of_lt (Nat.lt_of_lt_of_le F900.lt sz920)
    have ne923 : b848 ≠ c920 := Nat.ne_of_lt (Nat.lt_of_lt_of_le F901.lt sz920)
    have ne924 : b876 ≠ c920 := Nat.ne_of_lt (Nat.lt_of_lt_of_le F908.lt sz920)
    have F925 := F899.keep K920q (ninS ne877 nin0)
    have F926 := F900.keep K920q
    have F927 := F901.keep K920q (ninS ne879 nin0)
    have F928 := F902.keep K920q (ninS ne878 nin0)
    have F929 := F903.keep K920q (ninS ne878 nin0)
    have F930 := F904.keep K920q (ninS ne878 nin0)
    have F931 := F905.keep K920q (ninS ne878 nin0)
    have F932 := F906.keep K920q (ninS ne878 nin0)
    have F933 := F907.keep K920q (ninS ne878 nin0)
    have F934 := F908.keep K920q
    have K941 := K915.trans K920q (allS (Or.inr sz876) all0)
    have Zs942 : n0 ≤ T920.heap.size := Nat.le_trans Zs916 K920q.1
    have hk943 := Nat.le_trans hk917 K920q.1
    rw [show ((((0 : Int32) + (1 : Int32)) + (1 : Int32)) + (8 : Int32).toInt64.toInt32) = (10 : Int32) from by decide +kernel] at Fposition_920
    rw [show (((0 : Int32) + (1 : Int32)) + (1 : Int32)) = (2 : Int32) from by decide +kernel] at Gposition_920
    rw [show ((((0 : Int32) + (1 : Int32)) + (1 : Int32)) + (8 : Int32).toInt64.toInt32) = (10 : Int32) from by decide +kernel] at Gend_920
    rw [show ((1 : Int32) + (1 : Int32)) = (2 : Int32) from by decide +kernel] at Gdepth_920
    refine Go.of (fun tg_ kk_ => st920.trans kk_) ?_
    show Go p e below T920 (mkF m 182 #[.val (.int p0), .val (.int p1), .val (.int (4 : Int32)), .val (.ref b774), .val (.int (1 : Int32)), .val (.ref b876), .unset] [(.ref c920)]) _
    refine Go.of (fun tg_ kk_ => XS.astore X920.here hx rfl (hb hby at_182) rfl rfl (l' := #[.val (.int p0), .val (.int p1), .val (.int (4 : Int32)), .val (.ref b774), .val (.int (1 : Int32)), .val (.ref b876), .val (.ref c920)]) rfl kk_) ?_
    show Go p e below T920 (mkF m 184 #[.val (.int p0), .val (.int p1), .val (.int (4 : Int32)), .val (.ref b774), .val (.int (1 : Int32)), .val (.ref b876), .val (.ref c920)] []) _
    refine Go.of (fun tg_ kk_ => XS.iload X920.here hx rfl (hb hby at_184) rfl kk_) ?_
    show Go p e below T920 (mkF m 186 #[.val (.int p0), .val (.int p1), .val (.int (4 : Int32)), .val (.ref b774), .val (.int (1 : Int32)), .val (.ref b876), .val (.ref c920)] [(.int (1 : Int32))]) _
    refine Go.of (fun tg_ kk_ => XS.ifNo X920.here hx rfl (hb hby at_186) rfl ((if0 _ _).trans (feq (show ¬ ((1 : Int32) = (0 : Int32)) by decide)).1) kk_) ?_
    show Go p e below T920 (mkF m 189 #[.val (.int p0), .val (.int p1), .val (.int (4 : Int32)), .val (.ref b774), .val (.int (1 : Int32)), .val (.ref b876), .val (.ref c920)] []) _
    refine Go.of (fun tg_ kk_ => XS.aload X920.here hx rfl (hb hby at_189) rfl rfl kk_) ?_
    show Go p e below T920 (mkF m 191 #[.val (.int p0), .val (.int p1), .val (.int (4 : Int32)), .val (.ref b774), .val (.int (1 : Int32)), .val (.ref b876), .val (.ref c920)] [(.ref b876)]) _
    obtain ⟨cq944, kq944, q944a, q944b, q944c⟩ := isOf hZ920 rfl F934
    obtain ⟨_, _, ⟨T944, L944, k944, n944⟩, -, X944, ⟨Lc944, hQ944, l944, y944, z944⟩, st944⟩ := X920.virtualBack hx (y := (⟨"com/example/attestry/attestry/DerReader", "hasNext", "()Z"⟩ : MethodName)) (z := (⟨"com/example/attestry/attestry/DerReader", "hasNext", "()Z"⟩ : MethodName)) hown920 (mvT hZ920 (hw _ (List.mem_of_getElem? (i := 34) rfl))) (mvT hZ920 (hw _ (List.mem_of_getElem? (i := 35) rfl))) (notFace_of_selects (args := #[]) (mvT hZ920 (hw _ (List.mem_of_getElem? (i := 37) rfl)))) (mvT hZ920 (hw _ (List.mem_of_getElem? (i := 37) rfl))) (mvT hZ920 (hw _ (List.mem_of_getElem? (i := 36) rfl))) (by decide) (backOf (W := 0) (rm5 l Z a0 hw [] b876 (10 : Int32) (10 : Int32) T920.heap n0 Zs942 Fposition_920 Fend_920) hZ920 (hw _ (List.mem_of_getElem? (i := 38) rfl)) (hw _ (List.mem_of_getElem? (i := 8) rfl)) (by decide) (by decide)) q944a q944c (g := (mkF m 191 #[.val (.int p0), .val (.int p1), .val (.int (4 : Int32)), .val (.ref b774), .val (.int (1 : Int32)), .val (.ref b876), .val (.ref c920)] [(.ref b876)])) rfl (by rw [hml]; rfl) (Steps.refl _) (argsL := []) (rest := []) (lenOf pd_1 rfl) rfl (by show 2 * 0 + _ ≤ _; exact Nat.le_of_eq rfl) (hb hby at_191) (fun _ _ => ⟨rfl, rfl, (show 9 + 0 ≤ 32 from by decide), (show 66 + 0 ≤ 2240 from by decide)⟩)
    dsimp only [Pt.U, Pt.locs, Pt.cells, Pt.slots] at X944 l944 y944 z944 st944 hQ944
    have X944 := own_stand X944 l944 y944 z944
    obtain ⟨hv944, N944q, e944⟩ := hQ944
    rw [if_neg (show ¬ ((10 : Int32) < (10 : Int32)) by decide)] at hv944
    subst hv944
    have N944 := Fr.app N920 N944q
    refine Go.of (fun tg_ kk_ => st944.trans kk_) ?_
    show Go p e below T944 (mkF m 194 #[.val (.int p0), .val (.int p1), .val (.int (4 : Int32)), .val (.ref b774), .val (.int (1 : Int32)), .val (.ref b876), .val (.ref c920)] [(.int (0 : Int32))]) _
    refine Go.of (fun tg_ kk_ => XS.iloadN X944.here hx rfl (hb hby at_194) rfl kk_) ?_
    show Go p e below T944 (mkF m 195 #[.val (.int p0), .val (.int p1), .val (.int (4 : Int32)), .val (.ref b774), .val (.int (1 : Int32)), .val (.ref b876), .val (.ref c920)] [(.int (4 : Int32)), (.int (0 : Int32))]) _
    refine Go.of (fun tg_ kk_ => XS.iconst X944.here hx rfl (hb hby at_195) kk_) ?_
    show Go p e below T944 (mkF m 196 #[.val (.int p0), .val (.int p1), .val (.int (4 : Int32)), .val (.ref b774), .val (.int (1 : Int32)), .val (.ref b876), .val (.ref c920)] [(.int (4 : Int32)), (.int (4 : Int32)), (.int (0 : Int32))]) _
    refine Go.of (fun tg_ kk_ => XS.icmpYes X944.here hx rfl (pc0 := 196) (pc' := 203) rfl (hb hby at_196) rfl (flt (show ¬ ((4 : Int32) < (4 : Int32)) by decide)).2.1 (by decide) (by decide) kk_) ?_
    show Go p e below T944 (mkF m 203 #[.val (.int p0), .val (.int p1), .val (.int (4 : Int32)), .val (.ref b774), .val (.int (1 : Int32)), .val (.ref b876), .val (.ref c920)] [(.int (0 : Int32))]) _
    refine Go.of (fun tg_ kk_ => XS.iconst X944.here hx rfl (hb hby at_203) kk_) ?_
    show Go p e below T944 (mkF m 204 #[.val (.int p0), .val (.int p1), .val (.int (4 : Int32)), .val (.ref b774), .val (.int (1 : Int32)), .val (.ref b876), .val (.ref c920)] [(.int (0 : Int32)), (.int (0 : Int32))]) _
    refine Go.of (fun tg_ kk_ => XS.icmpNo X944.here hx rfl (hb hby at_204) rfl (teq (show (0 : Int32) = (0 : Int32) by decide)).2 kk_) ?_
    show Go p e below T944 (mkF m 207 #[.val (.int p0), .val (.int p1), .val (.int (4 : Int32)), .val (.ref b774), .val (.int (1 : Int32)), .val (.ref b876), .val (.ref c920)] []) _
    refine Go.of (fun tg_ kk_ => XS.iconst X944.here hx rfl (hb hby at_207) kk_) ?_
    show Go p e below T944 (mkF m 208 #[.val (.int p0), .val (.int p1), .val (.int (4 : Int32)), .val (.ref b774), .val (.int (1 : Int32)), .val (.ref b876), .val (.ref c920)] [(.int (1 : Int32))]) _
    refine Go.of (fun tg_ kk_ => XS.goto X944.here hx rfl (pc0 := 208) (pc' := 212) rfl (hb hby at_208) (by decide) (by decide) kk_) ?_
    show Go p e below T944 (mkF m 212 #[.val (.int p0), .val (.int p1), .val (.int (4 : Int32)), .val (.ref b774), .val (.int (1 : Int32)), .val (.ref b876), .val (.ref c920)] [(.int (1 : Int32))]) _
    refine Go.of (fun tg_ kk_ => XS.istore X944.here hx rfl (hb hby at_212) rfl (l' := #[.val (.int p0), .val (.int p1), .val (.int (4 : Int32)), .val (.ref b774), .val (.int (1 : Int32)), .val (.ref b876), .val (.ref c920)]) rfl kk_) ?_
    show Go p e below T944 (mkF m 214 #[.val (.int p0), .val (.int p1), .val (.int (4 : Int32)), .val (.ref b774), .val (.int (1 : Int32)), .val (.ref b876), .val (.ref c920)] []) _
    refine Go.of (fun tg_ kk_ => XS.iload X944.here hx rfl (hb hby at_214) rfl kk_) ?_
    show Go p e below T944 (mkF m 216 #[.val (.int p0), .val (.int p1), .val (.int (4 : Int32)), .val (.ref b774), .val (.int (1 : Int32)), .val (.ref b876), .val (.ref c920)] [(.int (1 : Int32))]) _
    refine Go.of (fun tg_ kk_ => XS.ifNo X944.here hx rfl (hb hby at_216) rfl ((if0 _ _).trans (feq (show ¬ ((1 : Int32) = (0 : Int32)) by decide)).1) kk_) ?_
    show Go p e below T944 (mkF m 219 #[.val (.int p0), .val (.int p1), .val (.int (4 : Int32)), .val (.ref b774), .val (.int (1 : Int32)), .val (.ref b876), .val (.ref c920)] []) _
    refine Go.of (fun tg_ kk_ => XS.aload X944.here hx rfl (hb hby at_219) rfl rfl kk_) ?_
    show Go p e below T944 (mkF m 221 #[.val (.int p0), .val (.int p1), .val (.int (4 : Int32)), .val (.ref b774), .val (.int (1 : Int32)), .val (.ref b876), .val (.ref c920)] [(.ref c920)]) _
    obtain ⟨cq945, kq945, q945a, q945b, q945c⟩ := isOf hZ920 e944 E920
    obtain ⟨_, _, ⟨T945, L945, k945, n945⟩, -, X945, ⟨Lc945, hQ945, l945, y945, z945⟩, st945⟩ := X944.virtualBack hx (y := (⟨"com/example/attestry/attestry/DerReader", "hasNext", "()Z"⟩ : MethodName)) (z := (⟨"com/example/attestry/attestry/DerReader", "hasNext", "()Z"⟩ : MethodName)) hown920 (mvT hZ920 (hw _ (List.mem_of_getElem? (i := 34) rfl))) (mvT hZ920 (hw _ (List.mem_of_getElem? (i := 35) rfl))) (notFace_of_selects (args := #[]) (mvT hZ920 (hw _ (List.mem_of_getElem? (i := 37) rfl)))) (mvT hZ920 (hw _ (List.mem_of_getElem? (i := 37) rfl))) (mvT hZ920 (hw _ (List.mem_of_getElem? (i := 36) rfl))) (by decide) (backOf (W := 0) (rm5 l Z a0 hw [] c920 (2 : Int32) (10 : Int32) T920.heap n0 Zs942 Gposition_920 Gend_920) hZ920 (hw _ (List.mem_of_getElem? (i := 38) rfl)) (hw _ (List.mem_of_getElem? (i := 8) rfl)) (by decide) (by decide)) q945a q945c (g := (mkF m 221 #[.val (.int p0), .val (.int p1), .val (.int (4 : Int32)), .val (.ref b774), .val (.int (1 : Int32)), .val (.ref b876), .val (.ref c920)] [(.ref c920)])) rfl (by rw [hml]; rfl) (Steps.refl _) (argsL := []) (rest := []) (lenOf pd_1 rfl) rfl (by show 2 * 0 + _ ≤ _; exact Nat.le_of_eq rfl) (hb hby at_221) (fun _ _ => ⟨rfl, e944, (show 9 + 0 ≤ 32 from by decide), (show 66 + 0 ≤ 2240 from by decide)⟩)
    dsimp only [Pt.U, Pt.locs, Pt.cells, Pt.slots] at X945 l945 y945 z945 st945 hQ945
    have X945 := own_stand X945 l945 y945 z945
    obtain ⟨hv945, N945q, e945⟩ := hQ945
    rw [if_pos (show ((2 : Int32) < (10 : Int32)) by decide)] at hv945
    subst hv945
    have N945 := Fr.app N944 N945q
    refine Go.of (fun tg_ kk_ => st945.trans kk_) ?_
    show Go p e below T945 (mkF m 224 #[.val (.int p0), .val (.int p1), .val (.int (4 : Int32)), .val (.ref b774), .val (.int (1 : Int32)), .val (.ref b876), .val (.ref c920)] [(.int (1 : Int32))]) _
    refine Go.of (fun tg_ kk_ => XS.iloadN X945.here hx rfl (hb hby at_224) rfl kk_) ?_
    show Go p e below T945 (mkF m 225 #[.val (.int p0), .val (.int p1), .val (.int (4 : Int32)), .val (.ref b774), .val (.int (1 : Int32)), .val (.ref b876), .val (.ref c920)] [(.int (4 : Int32)), (.int (1 : Int32))]) _
    refine Go.of (fun tg_ kk_ => XS.ifNo X945.here hx rfl (hb hby at_225) rfl ((if0 _ _).trans (tlt (show (0 : Int32) < (4 : Int32) by decide)).2.2.2) kk_) ?_
    show Go p e below T945 (mkF m 228 #[.val (.int p0), .val (.int p1), .val (.int (4 : Int32)), .val (.ref b774), .val (.int (1 : Int32)), .val (.ref b876), .val (.ref c920)] [(.int (1 : Int32))]) _
    refine Go.of (fun tg_ kk_ => XS.iconst X945.here hx rfl (hb hby at_228) kk_) ?_
    show Go p e below T945 (mkF m 229 #[.val (.int p0), .val (.int p1), .val (.int (4 : Int32)), .val (.ref b774), .val (.int (1 : Int32)), .val (.ref b876), .val (.ref c920)] [(.int (1 : Int32)), (.int (1 : Int32))]) _
    refine Go.of (fun tg_ kk_ => XS.goto X945.here hx rfl (pc0 := 229) (pc' := 233) rfl (hb hby at_229) (by decide) (by decide) kk_) ?_
    show Go p e below T945 (mkF m 233 #[.val (.int p0), .val (.int p1), .val (.int (4 : Int32)), .val (.ref b774), .val (.int (1 : Int32)), .val (.ref b876), .val (.ref c920)] [(.int (1 : Int32)), (.int (1 : Int32))]) _
    refine Go.of (fun tg_ kk_ => XS.icmpNo X945.here hx rfl (hb hby at_233) rfl (teq (show (1 : Int32) = (1 : Int32) by decide)).2 kk_) ?_
    show Go p e below T945 (mkF m 236 #[.val (.int p0), .val (.int p1), .val (.int (4 : Int32)), .val (.ref b774), .val (.int (1 : Int32)), .val (.ref b876), .val (.ref c920)] []) _
    refine Go.of (fun tg_ kk_ => XS.iconst X945.here hx rfl (hb hby at_236) kk_) ?_
    show Go p e below T945 (mkF m 237 #[.val (.int p0), .val (.int p1), .val (.int (4 : Int32)), .val (.ref b774), .val (.int (1 : Int32)), .val (.ref b876), .val (.ref c920)] [(.int (1 : Int32))]) _
    refine Go.of (fun tg_ kk_ => XS.goto X945.here hx rfl (pc0 := 237) (pc' := 241) rfl (hb hby at_237) (by decide) (by decide) kk_) ?_
    show Go p e below T945 (mkF m 241 #[.val (.int p0), .val (.int p1), .val (.int (4 : Int32)), .val (.ref b774), .val (.int (1 : Int32)), .val (.ref b876), .val (.ref c920)] [(.int (1 : Int32))]) _
    refine Go.of (fun tg_ kk_ => XS.istore X945.here hx rfl (hb hby at_241) rfl (l' := #[.val (.int p0), .val (.int p1), .val (.int (4 : Int32)), .val (.ref b774), .val (.int (1 : Int32)), .val (.ref b876), .val (.ref c920)]) rfl kk_) ?_
    show Go p e below T945 (mkF m 243 #[.val (.int p0), .val (.int p1), .val (.int (4 : Int32)), .val (.ref b774), .val (.int (1 : Int32)), .val (.ref b876), .val (.ref c920)] []) _
    refine Go.of (fun tg_ kk_ => XS.iloadN X945.here hx rfl (hb hby at_243) rfl kk_) ?_
    show Go p e below T945 (mkF m 244 #[.val (.int p0), .val (.int p1), .val (.int (4 : Int32)), .val (.ref b774), .val (.int (1 : Int32)), .val (.ref b876), .val (.ref c920)] [(.int (4 : Int32))]) _
    refine Go.of (fun tg_ kk_ => XS.ifNo X945.here hx rfl (hb hby at_244) rfl ((if0 _ _).trans (tlt (show (0 : Int32) < (4 : Int32) by decide)).2.2.2) kk_) ?_
    show Go p e below T945 (mkF m 247 #[.val (.int p0), .val (.int p1), .val (.int (4 : Int32)), .val (.ref b774), .val (.int (1 : Int32)), .val (.ref b876), .val (.ref c920)] []) _
    refine Go.of (fun tg_ kk_ => XS.aload X945.here hx rfl (hb hby at_247) rfl rfl kk_) ?_
    show Go p e below T945 (mkF m 249 #[.val (.int p0), .val (.int p1), .val (.int (4 : Int32)), .val (.ref b774), .val (.int (1 : Int32)), .val (.ref b876), .val (.ref c920)] [(.ref c920)]) _
    obtain ⟨cq946, kq946, q946a, q946b, q946c⟩ := isOf hZ920 e945 E920
    obtain ⟨_, _, ⟨T946, L946, k946, n946⟩, -, Xq946, hSq946, hgr946, ⟨Lc946, hQ946, l946, y946, z946⟩, st946⟩ := X945.virtualBackS hx (y := (⟨"com/example/attestry/attestry/DerReader", "nullValue", "()V"⟩ : MethodName)) (z := (⟨"com/example/attestry/attestry/DerReader", "nullValue", "()V"⟩ : MethodName)) hown920 (mvT hZ920 (hw _ (List.mem_of_getElem? (i := 81) rfl))) (mvT hZ920 (hw _ (List.mem_of_getElem? (i := 82) rfl))) (notFace_of_selects (args := #[]) (mvT hZ920 (hw _ (List.mem_of_getElem? (i := 84) rfl)))) (mvT hZ920 (hw _ (List.mem_of_getElem? (i := 84) rfl))) (mvT hZ920 (hw _ (List.mem_of_getElem? (i := 83) rfl))) (by decide) (backOfS (W := 0) (rm14 l Z a0 hw [] c920 b774 q898 (0 : Int32) (2 : Int32) (10 : Int32) (2 : Int32) f831 T920.heap n0 Zs942 gx920 E920 Gbytes_920 GberNote_920 Gstart_920 Gposition_920 Gend_920 Gdepth_920 F925 (Ne.symm ne921) (by decide +kernel) ⟨by decide +kernel, by decide +kernel⟩ (by rw [show ((2 : Int32)).toNatClampNeg = 2 from by decide +kernel, by2_]; decide +kernel) (by decide +kernel) ⟨by decide +kernel, by decide +kernel⟩ (by rw [show (((2 : Int32) + (1 : Int32))).toNatClampNeg = 3 from by decide +kernel, by3_]; decide +kernel) (by decide +kernel) (by decide +kernel) (by decide +kernel) (by decide +kernel)) hZ920 (hw _ (List.mem_of_getElem? (i := 85) rfl)) (hw _ (List.mem_of_getElem? (i := 8) rfl)) (by decide) (by decide)) q946a q946c (g := (mkF m 249 #[.val (.int p0), .val (.int p1), .val (.int (4 : Int32)), .val (.ref b774), .val (.int (1 : Int32)), .val (.ref b876), .val (.ref c920)] [(.ref c920)])) rfl (by rw [hml]; rfl) (Steps.refl _) (argsL := []) (rest := []) (lenOf pd_0 rfl) rfl (by show 2 * 0 + _ ≤ _; exact Nat.le_of_eq rfl) (hb hby at_249) (fun _ _ => ⟨rfl, e945, (show 9 + 3 ≤ 32 from by decide), (show 66 + 26 ≤ 2240 from by decide)⟩)
    dsimp only [Pt.U, Pt.locs, Pt.cells, Pt.slots] at Xq946 l946 y946 z946 st946 hQ946 hSq946 hgr946
    have Xq946 := own_stand Xq946 l946 y946 z946
    obtain ⟨X946, hS946, hZ946, hown946⟩ := rebS hS920 (by rw [e945]; exact (Nat.le_refl T920.heap.size)) Xq946 hSq946 hgr946 hZ920 hown920
    obtain ⟨rfl, N946q, K946q, Fbytes_946, FberNote_946, Fstart_946, Fposition_946, Fend_946, Fdepth_946⟩ := hQ946
    have N946 := Fr.app N945 N946q
    have F947 := F925.keep K946q (ninS ne921 nin0)
    have F948 := F926.keep K946q
    have F949 := F927.keep K946q (ninS ne923 nin0)
    have F950 := F928.keep K946q (ninS ne922 nin0)
    have F951 := F929.keep K946q (ninS ne922 nin0)
    have F952 := F930.keep K946q (ninS ne922 nin0)
    have F953 := F931.keep K946q (ninS ne922 nin0)
    have F954 := F932.keep K946q (ninS ne922 nin0)
    have F955 := F933.keep K946q (ninS ne922 nin0)
    have F956 := F934.keep K946q
    have F957 := Fbytes_920.keep K946q (ninS ne924 nin0)
    have F958 := FberNote_920.keep K946q (ninS ne924 nin0)
    have F959 := Fstart_920.keep K946q (ninS ne924 nin0)
    have F960 := Fposition_920.keep K946q (ninS ne924 nin0)
    have F961 := Fend_920.keep K946q (ninS ne924 nin0)
    have F962 := Fdepth_920.keep K946q (ninS ne924 nin0)
    have F969 := E920.keep K946q
    have K970 := K941.trans K946q (allS (Or.inr sy920) all0)
    have Zs971 : n0 ≤ T946.heap.size := Nat.le_trans Zs942 K946q.1
    have hk972 := Nat.le_trans (Nat.le_refl T920.heap.size) K946q.1
    rw [show ((((2 : Int32) + (1 : Int32)) + (1 : Int32)) + (0 : Int32).toInt64.toInt32) = (4 : Int32) from by decide +kernel] at Fposition_946
    refine Go.of (fun tg_ kk_ => st946.trans kk_) ?_
    show Go p e below T946 (mkF m 252 #[.val (.int p0), .val (.int p1), .val (.int (4 : Int32)), .val (.ref b774), .val (.int (1 : Int32)), .val (.ref b876), .val (.ref c920)] []) _
    refine Go.of (fun tg_ kk_ => XS.iload X946.here hx rfl (hb hby at_252) rfl kk_) ?_
    show Go p e below T946 (mkF m 254 #[.val (.int p0), .val (.int p1), .val (.int (4 : Int32)), .val (.ref b774), .val (.int (1 : Int32)), .val (.ref b876), .val (.ref c920)] [(.int (1 : Int32))]) _
    refine Go.of (fun tg_ kk_ => XS.ifNo X946.here hx rfl (hb hby at_254) rfl ((if0 _ _).trans (feq (show ¬ ((1 : Int32) = (0 : Int32)) by decide)).1) kk_) ?_
    show Go p e below T946 (mkF m 257 #[.val (.int p0), .val (.int p1), .val (.int (4 : Int32)), .val (.ref b774), .val (.int (1 : Int32)), .val (.ref b876), .val (.ref c920)] []) _
    refine Go.of (fun tg_ kk_ => XS.aload X946.here hx rfl (hb hby at_257) rfl rfl kk_) ?_
    show Go p e below T946 (mkF m 259 #[.val (.int p0), .val (.int p1), .val (.int (4 : Int32)), .val (.ref b774), .val (.int (1 : Int32)), .val (.ref b876), .val (.ref c920)] [(.ref c920)]) _
    obtain ⟨cq973, kq973, q973a, q973b, q973c⟩ := isOf hZ946 rfl F969
    obtain ⟨_, _, ⟨T973, L973, k973, n973⟩, -, X973, ⟨Lc973, hQ973, l973, y973, z973⟩, st973⟩ := X946.virtualBack hx (y := (⟨"com/example/attestry/attestry/DerReader", "hasNext", "()Z"⟩ : MethodName)) (z := (⟨"com/example/attestry/attestry/DerReader", "hasNext", "()Z"⟩ : MethodName)) hown946 (mvT hZ946 (hw _ (List.mem_of_getElem? (i := 34) rfl))) (mvT hZ946 (hw _ (List.mem_of_getElem? (i := 35) rfl))) (notFace_of_selects (args := #[]) (mvT hZ946 (hw _ (List.mem_of_getElem? (i := 37) rfl)))) (mvT hZ946 (hw _ (List.mem_of_getElem? (i := 37) rfl))) (mvT hZ946 (hw _ (List.mem_of_getElem? (i := 36) rfl))) (by decide) (backOf (W := 0) (rm5 l Z a0 hw [] c920 (4 : Int32) (10 : Int32) T946.heap n0 Zs971 Fposition_946 Fend_946) hZ946 (hw _ (List.mem_of_getElem? (i := 38) rfl)) (hw _ (List.mem_of_getElem? (i := 8) rfl)) (by decide) (by decide)) q973a q973c (g := (mkF m 259 #[.val (.int p0), .val (.int p1), .val (.int (4 : Int32)), .val (.ref b774), .val (.int (1 : Int32)), .val (.ref b876), .val (.ref c920)] [(.ref c920)])) rfl (by rw [hml]; rfl) (Steps.refl _) (argsL := []) (rest := []) (lenOf pd_1 rfl) rfl (by show 2 * 0 + _ ≤ _; exact Nat.le_of_eq rfl) (hb hby at_259) (fun _ _ => ⟨rfl, rfl, (show 12 + 0 ≤ 32 from by decide), (show 92 + 0 ≤ 2240 from by decide)⟩)
    dsimp only [Pt.U, Pt.locs, Pt.cells, Pt.slots] at X973 l973 y973 z973 st973 hQ973
    have X973 := own_stand X973 l973 y973 z973
    obtain ⟨hv973, N973q, e973⟩ := hQ973
    rw [if_pos (show ((4 : Int32) < (10 : Int32)) by decide)] at hv973
    subst hv973
    have N973 := Fr.app N946 N973q
    refine Go.of (fun tg_ kk_ => st973.trans kk_) ?_
    show Go p e below T973 (mkF m 262 #[.val (.int p0), .val (.int p1), .val (.int (4 : Int32)), .val (.ref b774), .val (.int (1 : Int32)), .val (.ref b876), .val (.ref c920)] [(.int (1 : Int32))]) _
    refine Go.of (fun tg_ kk_ => XS.iloadN X973.here hx rfl (hb hby at_262) rfl kk_) ?_
    show Go p e below T973 (mkF m 263 #[.val (.int p0), .val (.int p1), .val (.int (4 : Int32)), .val (.ref b774), .val (.int (1 : Int32)), .val (.ref b876), .val (.ref c920)] [(.int (4 : Int32)), (.int (1 : Int32))]) _
    refine Go.of (fun tg_ kk_ => XS.iconst X973.here hx rfl (hb hby at_263) kk_) ?_
    show Go p e below T973 (mkF m 264 #[.val (.int p0), .val (.int p1), .val (.int (4 : Int32)), .val (.ref b774), .val (.int (1 : Int32)), .val (.ref b876), .val (.ref c920)] [(.int (1 : Int32)), (.int (4 : Int32)), (.int (1 : Int32))]) _
    refine Go.of (fun tg_ kk_ => XS.icmpNo X973.here hx rfl (hb hby at_264) rfl (tlt (show (1 : Int32) < (4 : Int32) by decide)).2.2.2 kk_) ?_
    show Go p e below T973 (mkF m 267 #[.val (.int p0), .val (.int p1), .val (.int (4 : Int32)), .val (.ref b774), .val (.int (1 : Int32)), .val (.ref b876), .val (.ref c920)] [(.int (1 : Int32))]) _
    refine Go.of (fun tg_ kk_ => XS.iconst X973.here hx rfl (hb hby at_267) kk_) ?_
    show Go p e below T973 (mkF m 268 #[.val (.int p0), .val (.int p1), .val (.int (4 : Int32)), .val (.ref b774), .val (.int (1 : Int32)), .val (.ref b876), .val (.ref c920)] [(.int (1 : Int32)), (.int (1 : Int32))]) _
    refine Go.of (fun tg_ kk_ => XS.goto X973.here hx rfl (pc0 := 268) (pc' := 272) rfl (hb hby at_268) (by decide) (by decide) kk_) ?_
    show Go p e below T973 (mkF m 272 #[.val (.int p0), .val (.int p1), .val (.int (4 : Int32)), .val (.ref b774), .val (.int (1 : Int32)), .val (.ref b876), .val (.ref c920)] [(.int (1 : Int32)), (.int (1 : Int32))]) _
    refine Go.of (fun tg_ kk_ => XS.icmpNo X973.here hx rfl (hb hby at_272) rfl (teq (show (1 : Int32) = (1 : Int32) by decide)).2 kk_) ?_
    show Go p e below T973 (mkF m 275 #[.val (.int p0), .val (.int p1), .val (.int (4 : Int32)), .val (.ref b774), .val (.int (1 : Int32)), .val (.ref b876), .val (.ref c920)] []) _
    refine Go.of (fun tg_ kk_ => XS.iconst X973.here hx rfl (hb hby at_275) kk_) ?_
    show Go p e below T973 (mkF m 276 #[.val (.int p0), .val (.int p1), .val (.int (4 : Int32)), .val (.ref b774), .val (.int (1 : Int32)), .val (.ref b876), .val (.ref c920)] [(.int (1 : Int32))]) _
    refine Go.of (fun tg_ kk_ => XS.goto X973.here hx rfl (pc0 := 276) (pc' := 280) rfl (hb hby at_276) (by decide) (by decide) kk_) ?_
    show Go p e below T973 (mkF m 280 #[.val (.int p0), .val (.int p1), .val (.int (4 : Int32)), .val (.ref b774), .val (.int (1 : Int32)), .val (.ref b876), .val (.ref c920)] [(.int (1 : Int32))]) _
    refine Go.of (fun tg_ kk_ => XS.istore X973.here hx rfl (hb hby at_280) rfl (l' := #[.val (.int p0), .val (.int p1), .val (.int (4 : Int32)), .val (.ref b774), .val (.int (1 : Int32)), .val (.ref b876), .val (.ref c920)]) rfl kk_) ?_
    show Go p e below T973 (mkF m 282 #[.val (.int p0), .val (.int p1), .val (.int (4 : Int32)), .val (.ref b774), .val (.int (1 : Int32)), .val (.ref b876), .val (.ref c920)] []) _
    refine Go.of (fun tg_ kk_ => XS.iload X973.here hx rfl (hb hby at_282) rfl kk_) ?_
    show Go p e below T973 (mkF m 284 #[.val (.int p0), .val (.int p1), .val (.int (4 : Int32)), .val (.ref b774), .val (.int (1 : Int32)), .val (.ref b876), .val (.ref c920)] [(.int (1 : Int32))]) _
    obtain ⟨fs, hr, hrun, hended, hend⟩ := X973.leaveW hS946 (by rw [e973]; exact (Nat.le_refl T946.heap.size)) (v := some (.int (1 : Int32))) (fun h => by rw [Bd.returns] at h; cases h)
    refine ⟨_, _, ?_, hrun, hended, _, _, rfl, ?_, hend.1, hend.2.1, hend.2.2.1, hend.2.2.2.mono (by decide) (by decide)⟩
    · exact retN X973 hx (t := .boolean) Bd.returns (by simp) (hb hby at_284) hr
    · show Q0 Z p0 p1 h0 n0 _ T973.heap _
      rw [e973]
      exact ⟨rfl, N973⟩
set_option maxRecDepth 65536 in
set_option maxHeartbeats 40000000 in
theorem comes_1 {Post : Tables → Env → Array Value → State → Outcome → State → Prop} (hpost : ∀ tb e args s v u, (limb_1_1.after args s (.returned v) u = true ∧ limb_1_2.after args s (.returned v) u = true ∧ True) → ReturnedEndW s (.returned v) u (Jvm.fieldLocs frame_1_writes args s ++ Jvm.arrayLocs frame_1_arrays args s ++ Jvm.staticLocs frame_1_statics s) 32 2240 → Post tb e args s (.returned v) u) :
    ArmFor flags0 classFile x code maxLocals ret World_1 tables_1 room_1 Calls_1 rest_1 Pre_1 Post := by
  intro l hfl _ _ p e ha hc hk s m args below hf hA hF happ hP
  obtain ⟨hcalls, hrest, hpre⟩ := hP
  obtain ⟨-, -, -, hnamed, -, -, -, hat⟩ := (Spec.applies_iff hf).mp happ
  obtain ⟨hg, hn⟩ := and_e (Cond.before_iff.mp (show (Jvm.Cond.and given_1 narrow_1).before args s = true from hpre))
  obtain ⟨gc, gr0⟩ := and_e hg
  obtain ⟨ga0, gr1⟩ := and_e gr0
  obtain ⟨w0, w1, rfl⟩ : ∃ w0 w1 : Value, args = #[w0, w1] := by
    have hs : args.size = 2 := by simpa [Cond.value, given_1] using gc
    obtain ⟨L⟩ := args
    match L, hs with
    | [w0, w1], _ => exact ⟨w0, w1, rfl⟩
  have hw := fun d (hd : d ∈ tables_1) => atoms_spec (ws := Jvm.Cond.code x code maxLocals ret :: tables_1) hat d (List.mem_cons_of_mem _ hd)
  obtain ⟨i0, ei0⟩ := is_v ga0
  obtain rfl : w0 = (.int i0) := Option.some.inj ei0
  obtain ⟨i1, ei1⟩ := is_v gr1
  obtain rfl : w1 = (.int i1) := Option.some.inj ei1
  obtain ⟨n, o, h1, h2, h3, _, L, rfl, ⟨rfl, N⟩, hq⟩ := rm0 l s _ hw tables_1 i0 i1 s.heap s.heap.size (Nat.le_refl _) p e ha hc hk s m _ below hf ((Spec.applies_iff_loose hf).mp happ).1 ⟨rfl, State.Warmed39.refl s, rfl⟩ trivial
  refine ⟨n, _, h1, h2, h3, hpost _ _ _ _ _ _ ⟨Cond.after_iff.mpr rfl, Cond.after_iff.mpr (eq_i res_at (Term.int_eval (1)) rfl), trivial⟩ ⟨hq.1, hq.2.1, hq.2.2.1, (hq.2.2.2.sift fun y hy => Or.inr (N y hy)).mono (by decide) (by decide)⟩⟩
theorem main_1_1 : Claimed_1_1 := comes_1 fun _ _ _ _ _ _ h hF => ⟨h.1, hF⟩
theorem main_1_2 : Claimed_1_2 := comes_1 fun _ _ _ _ _ _ h hF => ⟨h.2.1, hF⟩
end Jvm.Pilot.@@N@@
namespace Jvm.Pilot.@@N@@
open Jvm Jvm.ClassFile Sem Op Lib Jvm.Free Jvm.Stand Jvm.Pilot.@@N@@.Jvm.D
/-! MADE BY PROGRAM (witnessworld.py) out of the Statement's table words and the real class files: 15 classes; the members and pool entries that the words name. The judged class is class 1, her method 2. -/
namespace start1
open Jvm.ClassFile
def u (s : String) : CpInfo := .utf8 (stringToUtf16 s)
/-- a pool by its gaps: so many unusable entries, then the entry; so many at the end -/
def gap : Nat → List CpInfo → List CpInfo
  | 0, r => r
  | n + 1, r => .unusable :: gap n r
def poolList (es : List (Nat × CpInfo)) (last : Nat) : List CpInfo := es.foldr (fun e r => gap e.1 (e.2 :: r)) (gap last [])
def pool (es : List (Nat × CpInfo)) (last : Nat) : Array CpInfo := ⟨poolList es last⟩
def fileOf (pool : Array CpInfo) (this : Nat) (attrs : Array Attribute := #[]) (ms : Array MethodInfo := #[]) (fl : Nat := 33) (sup : Nat := 0) (ifs : Array Nat := #[]) (fds : Array FieldInfo := #[]) : ClassFile where
  minorVersion := 0
  majorVersion := 65
  constantPool := pool
  accessFlags := fl
  thisClass := this
  superClass := sup
  interfaces := ifs
  fields := fds
  methods := ms
  attributes := attrs
def plain (name : String) (sup : Option ClassId) : Class where
  name := name
  kind := .ordinary
  loader := none
  accessFlags := 33
  super := sup
  interfaces := #[]
  cf := none
  fields := #[]
  methods := #[]
  instanceTypes := #[]
  staticTypes := #[]
  resolved := #[]
  callSites := []
  init := .initialized
  statics := none
  mirror := none

def pool0 : Array CpInfo := pool [(5, u "<init>"), (0, u "()V"), (1, .class_ 10), (1, u "java/lang/Object")] 113

def k0c0 : Code := { maxStack := 0, maxLocals := 1, code := object_method_1_code, exceptionTable := #[], attributes := #[] }
def k0m0 : Method := { name := "<init>", desc := "()V", sig := { parameters := [], returnType := none }, accessFlags := 1, code := some k0c0 }
/-- java/lang/Object -/
def k0 : Class := { plain "java/lang/Object" none with
  accessFlags := 33
  interfaces := #[]
  cf := some (fileOf pool0 8 #[] #[{ accessFlags := 1, nameIndex := 5, descriptorIndex := 6, attributes := #[] }] 33 0 #[] #[])
  fields := #[]
  methods := #[k0m0]
  instanceTypes := #[]
  staticTypes := #[]
  resolved := Array.replicate 124 none
  statics := none }

def pool1 : Array CpInfo := pool [(2, .class_ 4), (1, u "java/lang/Object"), (0, u "<init>"), (0, u "()V"), (0, .integer 2147483647), (0, .methodref 9 10), (0, .class_ 11), (0, .nameAndType 12 13), (0, u "com/example/attestry/attestry/DerReaderHasNextPinLaw"), (0, u "slot"), (0, u "(III)B"), (0, .class_ 15), (0, u "com/example/attestry/attestry/DerReader"), (0, .methodref 14 17), (0, .nameAndType 5 18), (0, u "([B)V"), (0, .methodref 14 20), (0, .nameAndType 21 22), (0, u "hasNext"), (0, u "()Z"), (0, .methodref 14 24), (0, .nameAndType 25 26), (0, u "sequence"), (0, u "()Lcom/example/attestry/attestry/DerReader;"), (0, .methodref 14 28), (0, .nameAndType 29 6), (0, u "nullValue"), (3, u "law"), (0, u "(II)Z")] 7

def k1m0 : Method := { name := "<init>", desc := "()V", sig := { parameters := [], returnType := none }, accessFlags := 1, code := none }
def k1c1 : Code := { maxStack := 3, maxLocals := 4, code := method_2_code, exceptionTable := #[], attributes := #[] }
def k1m1 : Method := { name := "slot", desc := "(III)B", sig := { parameters := [.int, .int, .int], returnType := some .byte }, accessFlags := 10, code := some k1c1 }
def k1c2 : Code := { maxStack := 5, maxLocals := 7, code := code, exceptionTable := #[], attributes := #[] }
def k1m2 : Method := { name := "law", desc := "(II)Z", sig := { parameters := [.int, .int], returnType := some .boolean }, accessFlags := 9, code := some k1c2 }
/-- com/example/attestry/attestry/DerReaderHasNextPinLaw -/
def k1 : Class := { plain "com/example/attestry/attestry/DerReaderHasNextPinLaw" (some 0) with
  accessFlags := 49
  interfaces := #[]
  cf := some (fileOf pool1 9 #[] #[{ accessFlags := 1, nameIndex := 5, descriptorIndex := 6, attributes := #[] }, { accessFlags := 10, nameIndex := 12, descriptorIndex := 13, attributes := #[] }, { accessFlags := 9, nameIndex := 33, descriptorIndex := 34, attributes := #[] }] 49 2 #[] #[])
  fields := #[]
  methods := #[k1m0, k1m1, k1m2]
  instanceTypes := #[]
  staticTypes := #[]
  resolved := Array.replicate 42 none
  statics := none }

def pool2 : Array CpInfo := pool [(1, .methodref 2 3), (0, .class_ 4), (0, .nameAndType 5 6), (0, u "java/lang/Object"), (0, u "<init>"), (0, u "()V"), (0, .fieldref 8 9), (0, .class_ 10), (0, .nameAndType 11 12), (0, u "com/example/attestry/attestry/DerReader"), (0, u "bytes"), (0, u "[B"), (0, .class_ 14), (0, u "com/example/attestry/attestry/DerReader$BerNote"), (0, .methodref 13 3), (0, .fieldref 8 17), (0, .nameAndType 18 19), (0, u "berNote"), (0, u "Lcom/example/attestry/attestry/DerReader$BerNote;"), (0, .fieldref 8 21), (0, .nameAndType 22 23), (0, u "start"), (0, u "I"), (0, .fieldref 8 25), (0, .nameAndType 26 23), (0, u "position"), (0, .fieldref 8 28), (0, .nameAndType 29 23), (0, u "end"), (0, .fieldref 8 31), (0, .nameAndType 32 23), (0, u "depth"), (4, .string 38), (0, u "SEQUENCE"), (0, .methodref 8 40), (0, .nameAndType 41 42), (0, u "contents"), (0, u "(ILjava/lang/String;)Lcom/example/attestry/attestry/DerReader;"), (1, u "SET"), (7, .methodref 8 53), (0, .nameAndType 41 54), (0, u "(ILjava/lang/String;Z)Lcom/example/attestry/attestry/DerReader;"), (5, u "()Z"), (5, u "ENUMERATED"), (5, u "nullValue"), (16, u "INTEGER"), (6, .string 97), (0, u "NULL"), (0, .methodref 8 99), (0, .nameAndType 100 60), (0, u "hasNext"), (5, u "()Lcom/example/attestry/attestry/DerReader;"), (20, u "([B)V"), (14, .class_ 143), (0, u "com/example/attestry/attestry/DerReader$BitString"), (7, u "length"), (17, u "sequence"), (68, u "Ljava/lang/String;"), (9, u "BOOLEAN"), (51, .methodref 8 301), (0, .nameAndType 302 303), (0, u "nextOctet"), (0, u "(ILjava/lang/String;)I"), (2, .methodref 8 307), (0, .nameAndType 308 54), (0, u "body"), (4, .methodref 8 314), (0, .nameAndType 151 315), (0, u "(ILjava/lang/String;)J"), (0, .long 18446744073709551615), (1, .methodref 8 319), (0, .nameAndType 320 321), (0, u "lengthOctets"), (0, u "(J)I"), (16, .methodref 8 339), (0, .nameAndType 5 340), (0, u "(Lcom/example/attestry/attestry/DerReader;III)V"), (22, u "STRUCTURED_TYPES"), (0, u "Ljava/util/Set;"), (27, .long 128), (18, u "ENCODING"), (3, u "BIT_STRING"), (1, u "OCTET_STRING"), (2, u "OBJECT_IDENTIFIER"), (2, u "UTC_TIME"), (1, u "GENERALIZED_TIME"), (3, u "CONTEXT_PRIMITIVE"), (1, u "CONTEXT_CONSTRUCTED"), (1, u "CONSTRUCTED"), (1, u "CLASS"), (1, u "UNIVERSAL"), (3, u "END_OF_CONTENTS"), (0, u "INDEFINITE_LENGTH"), (0, u "INDEFINITE"), (0, u "J"), (0, u "HIGH_TAG_NUMBER"), (1, u "MAX_LENGTH_OCTETS"), (0, u "MAX_DEPTH")] 88

def k2c0 : Code := { maxStack := 3, maxLocals := 2, code := prog_3_method_1_code, exceptionTable := #[], attributes := #[] }
def k2m0 : Method := { name := "<init>", desc := "([B)V", sig := { parameters := [(.array .byte)], returnType := none }, accessFlags := 0, code := some k2c0 }
def k2c1 : Code := { maxStack := 3, maxLocals := 5, code := prog_3_method_2_code, exceptionTable := #[], attributes := #[] }
def k2m1 : Method := { name := "<init>", desc := "(Lcom/example/attestry/attestry/DerReader;III)V", sig := { parameters := [(.object "com/example/attestry/attestry/DerReader"), .int, .int, .int], returnType := none }, accessFlags := 2, code := some k2c1 }
def k2c2 : Code := { maxStack := 2, maxLocals := 1, code := prog_3_method_3_code, exceptionTable := #[], attributes := #[] }
def k2m2 : Method := { name := "hasNext", desc := "()Z", sig := { parameters := [], returnType := some .boolean }, accessFlags := 0, code := some k2c2 }
def k2c3 : Code := { maxStack := 3, maxLocals := 1, code := prog_3_method_8_code, exceptionTable := #[], attributes := #[] }
def k2m3 : Method := { name := "sequence", desc := "()Lcom/example/attestry/attestry/DerReader;", sig := { parameters := [], returnType := some (.object "com/example/attestry/attestry/DerReader") }, accessFlags := 0, code := some k2c3 }
def k2c4 : Code := { maxStack := 3, maxLocals := 3, code := prog_3_method_18_code, exceptionTable := #[], attributes := #[] }
def k2m4 : Method := { name := "nullValue", desc := "()V", sig := { parameters := [], returnType := none }, accessFlags := 0, code := some k2c4 }
def k2c5 : Code := { maxStack := 4, maxLocals := 3, code := prog_3_method_40_code, exceptionTable := #[], attributes := #[] }
def k2m5 : Method := { name := "contents", desc := "(ILjava/lang/String;)Lcom/example/attestry/attestry/DerReader;", sig := { parameters := [.int, (.object "java/lang/String")], returnType := some (.object "com/example/attestry/attestry/DerReader") }, accessFlags := 2, code := some k2c5 }
def k2c6 : Code := { maxStack := 6, maxLocals := 6, code := prog_3_method_41_code, exceptionTable := #[], attributes := #[] }
def k2m6 : Method := { name := "contents", desc := "(ILjava/lang/String;Z)Lcom/example/attestry/attestry/DerReader;", sig := { parameters := [.int, (.object "java/lang/String"), .boolean], returnType := some (.object "com/example/attestry/attestry/DerReader") }, accessFlags := 2, code := some k2c6 }
def k2c7 : Code := { maxStack := 7, maxLocals := 11, code := prog_3_method_42_code, exceptionTable := #[], attributes := #[] }
def k2m7 : Method := { name := "body", desc := "(ILjava/lang/String;Z)Lcom/example/attestry/attestry/DerReader;", sig := { parameters := [.int, (.object "java/lang/String"), .boolean], returnType := some (.object "com/example/attestry/attestry/DerReader") }, accessFlags := 2, code := some k2c7 }
def k2c8 : Code := { maxStack := 5, maxLocals := 8, code := prog_3_method_49_code, exceptionTable := #[], attributes := #[] }
def k2m8 : Method := { name := "length", desc := "(ILjava/lang/String;)J", sig := { parameters := [.int, (.object "java/lang/String")], returnType := some .long }, accessFlags := 2, code := some k2c8 }
def k2c9 : Code := { maxStack := 4, maxLocals := 2, code := prog_3_method_50_code, exceptionTable := #[], attributes := #[] }
def k2m9 : Method := { name := "lengthOctets", desc := "(J)I", sig := { parameters := [.long], returnType := some .int }, accessFlags := 10, code := some k2c9 }
def k2c10 : Code := { maxStack := 5, maxLocals := 3, code := prog_3_method_52_code, exceptionTable := #[], attributes := #[] }
def k2m10 : Method := { name := "nextOctet", desc := "(ILjava/lang/String;)I", sig := { parameters := [.int, (.object "java/lang/String")], returnType := some .int }, accessFlags := 2, code := some k2c10 }
/-- com/example/attestry/attestry/DerReader -/
def k2 : Class := { plain "com/example/attestry/attestry/DerReader" (some 0) with
  accessFlags := 48
  interfaces := #[]
  cf := some (fileOf pool2 8 #[.nestMembers #[13, 142]] #[{ accessFlags := 0, nameIndex := 5, descriptorIndex := 127, attributes := #[] }, { accessFlags := 2, nameIndex := 5, descriptorIndex := 340, attributes := #[] }, { accessFlags := 0, nameIndex := 100, descriptorIndex := 60, attributes := #[] }, { accessFlags := 0, nameIndex := 169, descriptorIndex := 106, attributes := #[] }, { accessFlags := 0, nameIndex := 72, descriptorIndex := 6, attributes := #[] }, { accessFlags := 2, nameIndex := 41, descriptorIndex := 42, attributes := #[] }, { accessFlags := 2, nameIndex := 41, descriptorIndex := 54, attributes := #[] }, { accessFlags := 2, nameIndex := 308, descriptorIndex := 54, attributes := #[] }, { accessFlags := 2, nameIndex := 151, descriptorIndex := 315, attributes := #[] }, { accessFlags := 10, nameIndex := 320, descriptorIndex := 321, attributes := #[] }, { accessFlags := 2, nameIndex := 302, descriptorIndex := 303, attributes := #[] }] 48 2 #[] #[{ accessFlags := 24, nameIndex := 411, descriptorIndex := 238, attributes := #[] }, { accessFlags := 26, nameIndex := 248, descriptorIndex := 23, attributes := #[] }, { accessFlags := 26, nameIndex := 89, descriptorIndex := 23, attributes := #[] }, { accessFlags := 26, nameIndex := 415, descriptorIndex := 23, attributes := #[] }, { accessFlags := 26, nameIndex := 417, descriptorIndex := 23, attributes := #[] }, { accessFlags := 26, nameIndex := 97, descriptorIndex := 23, attributes := #[] }, { accessFlags := 26, nameIndex := 420, descriptorIndex := 23, attributes := #[] }, { accessFlags := 26, nameIndex := 66, descriptorIndex := 23, attributes := #[] }, { accessFlags := 26, nameIndex := 423, descriptorIndex := 23, attributes := #[] }, { accessFlags := 26, nameIndex := 425, descriptorIndex := 23, attributes := #[] }, { accessFlags := 26, nameIndex := 38, descriptorIndex := 23, attributes := #[] }, { accessFlags := 26, nameIndex := 44, descriptorIndex := 23, attributes := #[] }, { accessFlags := 26, nameIndex := 429, descriptorIndex := 23, attributes := #[] }, { accessFlags := 26, nameIndex := 431, descriptorIndex := 23, attributes := #[] }, { accessFlags := 26, nameIndex := 433, descriptorIndex := 23, attributes := #[] }, { accessFlags := 26, nameIndex := 435, descriptorIndex := 23, attributes := #[] }, { accessFlags := 26, nameIndex := 437, descriptorIndex := 23, attributes := #[] }, { accessFlags := 26, nameIndex := 363, descriptorIndex := 364, attributes := #[] }, { accessFlags := 26, nameIndex := 441, descriptorIndex := 23, attributes := #[] }, { accessFlags := 26, nameIndex := 442, descriptorIndex := 23, attributes := #[] }, { accessFlags := 26, nameIndex := 443, descriptorIndex := 444, attributes := #[] }, { accessFlags := 26, nameIndex := 445, descriptorIndex := 23, attributes := #[] }, { accessFlags := 26, nameIndex := 447, descriptorIndex := 23, attributes := #[] }, { accessFlags := 26, nameIndex := 448, descriptorIndex := 23, attributes := #[] }, { accessFlags := 18, nameIndex := 11, descriptorIndex := 12, attributes := #[] }, { accessFlags := 18, nameIndex := 18, descriptorIndex := 19, attributes := #[] }, { accessFlags := 18, nameIndex := 22, descriptorIndex := 23, attributes := #[] }, { accessFlags := 18, nameIndex := 29, descriptorIndex := 23, attributes := #[] }, { accessFlags := 2, nameIndex := 26, descriptorIndex := 23, attributes := #[] }, { accessFlags := 18, nameIndex := 32, descriptorIndex := 23, attributes := #[] }])
  fields := #[{ name := "ENCODING", type := (.object "java/lang/String"), accessFlags := 24, slot := 0, constantValue := 0 }, { name := "BOOLEAN", type := .int, accessFlags := 26, slot := 1, constantValue := 0 }, { name := "INTEGER", type := .int, accessFlags := 26, slot := 2, constantValue := 0 }, { name := "BIT_STRING", type := .int, accessFlags := 26, slot := 3, constantValue := 0 }, { name := "OCTET_STRING", type := .int, accessFlags := 26, slot := 4, constantValue := 0 }, { name := "NULL", type := .int, accessFlags := 26, slot := 5, constantValue := 0 }, { name := "OBJECT_IDENTIFIER", type := .int, accessFlags := 26, slot := 6, constantValue := 0 }, { name := "ENUMERATED", type := .int, accessFlags := 26, slot := 7, constantValue := 0 }, { name := "UTC_TIME", type := .int, accessFlags := 26, slot := 8, constantValue := 0 }, { name := "GENERALIZED_TIME", type := .int, accessFlags := 26, slot := 9, constantValue := 0 }, { name := "SEQUENCE", type := .int, accessFlags := 26, slot := 10, constantValue := 0 }, { name := "SET", type := .int, accessFlags := 26, slot := 11, constantValue := 0 }, { name := "CONTEXT_PRIMITIVE", type := .int, accessFlags := 26, slot := 12, constantValue := 0 }, { name := "CONTEXT_CONSTRUCTED", type := .int, accessFlags := 26, slot := 13, constantValue := 0 }, { name := "CONSTRUCTED", type := .int, accessFlags := 26, slot := 14, constantValue := 0 }, { name := "CLASS", type := .int, accessFlags := 26, slot := 15, constantValue := 0 }, { name := "UNIVERSAL", type := .int, accessFlags := 26, slot := 16, constantValue := 0 }, { name := "STRUCTURED_TYPES", type := (.object "java/util/Set"), accessFlags := 26, slot := 17, constantValue := 0 }, { name := "END_OF_CONTENTS", type := .int, accessFlags := 26, slot := 18, constantValue := 0 }, { name := "INDEFINITE_LENGTH", type := .int, accessFlags := 26, slot := 19, constantValue := 0 }, { name := "INDEFINITE", type := .long, accessFlags := 26, slot := 20, constantValue := 0 }, { name := "HIGH_TAG_NUMBER", type := .int, accessFlags := 26, slot := 21, constantValue := 0 }, { name := "MAX_LENGTH_OCTETS", type := .int, accessFlags := 26, slot := 22, constantValue := 0 }, { name := "MAX_DEPTH", type := .int, accessFlags := 26, slot := 23, constantValue := 0 }, { name := "bytes", type := (.array .byte), accessFlags := 18, slot := 0, constantValue := 0 }, { name := "berNote", type := (.object "com/example/attestry/attestry/DerReader$BerNote"), accessFlags := 18, slot := 1, constantValue := 0 }, { name := "start", type := .int, accessFlags := 18, slot := 2, constantValue := 0 }, { name := "end", type := .int, accessFlags := 18, slot := 3, constantValue := 0 }, { name := "position", type := .int, accessFlags := 2, slot := 4, constantValue := 0 }, { name := "depth", type := .int, accessFlags := 18, slot := 5, constantValue := 0 }]
  methods := #[k2m0, k2m1, k2m2, k2m3, k2m4, k2m5, k2m6, k2m7, k2m8, k2m9, k2m10]
  instanceTypes := #[(.array .byte), (.object "com/example/attestry/attestry/DerReader$BerNote"), .int, .int, .int, .int]
  staticTypes := #[(.object "java/lang/String"), .int, .int, .int, .int, .int, .int, .int, .int, .int, .int, .int, .int, .int, .int, .int, .int, (.object "java/util/Set"), .int, .int, .long, .int, .int, .int]
  resolved := ((Array.replicate 537 none).setIfInBounds 13 (some (.cls 3))).setIfInBounds 15 (some (.method ⟨3, 0⟩))
  statics := none }

def pool3 : Array CpInfo := pool [(1, .methodref 2 3), (0, .class_ 4), (0, .nameAndType 5 6), (0, u "java/lang/Object"), (0, u "<init>"), (0, u "()V"), (0, .class_ 8), (0, u "com/example/attestry/attestry/DerReader$BerNote"), (0, u "first"), (0, u "Ljava/lang/String;"), (5, .class_ 17), (0, u "com/example/attestry/attestry/DerReader")] 2

def k3c0 : Code := { maxStack := 1, maxLocals := 1, code := prog_4_method_1_code, exceptionTable := #[], attributes := #[] }
def k3m0 : Method := { name := "<init>", desc := "()V", sig := { parameters := [], returnType := none }, accessFlags := 2, code := some k3c0 }
/-- com/example/attestry/attestry/DerReader$BerNote -/
def k3 : Class := { plain "com/example/attestry/attestry/DerReader$BerNote" (some 0) with
  accessFlags := 48
  interfaces := #[]
  cf := some (fileOf pool3 7 #[.nestHost 16] #[{ accessFlags := 2, nameIndex := 5, descriptorIndex := 6, attributes := #[] }] 48 2 #[] #[{ accessFlags := 2, nameIndex := 9, descriptorIndex := 10, attributes := #[] }])
  fields := #[{ name := "first", type := (.object "java/lang/String"), accessFlags := 2, slot := 0, constantValue := 0 }]
  methods := #[k3m0]
  instanceTypes := #[(.object "java/lang/String")]
  staticTypes := #[]
  resolved := Array.replicate 20 none
  statics := none }

def pool4 : Array CpInfo := pool [(1, .class_ 2), (0, u "java/io/Serializable"), (0, .class_ 4), (0, u "java/lang/Object")] 2

/-- java/io/Serializable -/
def k4 : Class := { plain "java/io/Serializable" (some 0) with
  accessFlags := 1537
  interfaces := #[]
  cf := some (fileOf pool4 1 #[] #[] 1537 3 #[] #[])
  fields := #[]
  methods := #[]
  instanceTypes := #[]
  staticTypes := #[]
  resolved := Array.replicate 7 none
  statics := none }

def pool5 : Array CpInfo := pool [(1, .class_ 2), (0, u "java/lang/Comparable"), (0, .class_ 4), (0, u "java/lang/Object")] 7

/-- java/lang/Comparable -/
def k5 : Class := { plain "java/lang/Comparable" (some 0) with
  accessFlags := 1537
  interfaces := #[]
  cf := some (fileOf pool5 1 #[] #[] 1537 3 #[] #[])
  fields := #[]
  methods := #[]
  instanceTypes := #[]
  staticTypes := #[]
  resolved := Array.replicate 12 none
  statics := none }

def pool6 : Array CpInfo := pool [(2, .class_ 4), (1, u "java/lang/CharSequence"), (42, .class_ 48), (0, u "java/lang/CharSequence$1CodePointIterator"), (10, .class_ 60), (0, u "java/lang/CharSequence$1CharIterator"), (5, .class_ 67), (0, u "java/lang/Object")] 63

/-- java/lang/CharSequence -/
def k6 : Class := { plain "java/lang/CharSequence" (some 0) with
  accessFlags := 1537
  interfaces := #[]
  cf := some (fileOf pool6 2 #[.nestMembers #[47, 59]] #[] 1537 66 #[] #[])
  fields := #[]
  methods := #[]
  instanceTypes := #[]
  staticTypes := #[]
  resolved := Array.replicate 131 none
  statics := none }

def pool7 : Array CpInfo := pool [(1, .class_ 2), (0, u "java/lang/constant/Constable"), (0, .class_ 4), (0, u "java/lang/Object")] 6

/-- java/lang/constant/Constable -/
def k7 : Class := { plain "java/lang/constant/Constable" (some 0) with
  accessFlags := 1537
  interfaces := #[]
  cf := some (fileOf pool7 1 #[] #[] 1537 3 #[] #[])
  fields := #[]
  methods := #[]
  instanceTypes := #[]
  staticTypes := #[]
  resolved := Array.replicate 11 none
  statics := none }

def pool8 : Array CpInfo := pool [(1, .class_ 2), (0, u "java/lang/constant/ConstantDesc"), (0, .class_ 4), (0, u "java/lang/Object")] 32

/-- java/lang/constant/ConstantDesc -/
def k8 : Class := { plain "java/lang/constant/ConstantDesc" (some 0) with
  accessFlags := 1537
  interfaces := #[]
  cf := some (fileOf pool8 1 #[] #[] 1537 3 #[] #[])
  fields := #[]
  methods := #[]
  instanceTypes := #[]
  staticTypes := #[]
  resolved := Array.replicate 37 none
  statics := none }

def pool9 : Array CpInfo := pool [(2, .class_ 4), (1, u "java/lang/Object"), (0, u "<init>"), (0, u "()V"), (3, .class_ 12), (1, u "java/lang/String"), (0, u "value"), (0, u "[B"), (2, u "coder"), (0, u "B"), (2, u "hash"), (0, u "I"), (2, u "hashIsZero"), (0, u "Z"), (13, u "COMPACT_STRINGS"), (534, .class_ 576), (0, u "java/lang/CharSequence"), (22, u "CASE_INSENSITIVE_ORDER"), (0, u "Ljava/util/Comparator;"), (500, u "serialPersistentFields"), (0, u "[Ljava/io/ObjectStreamField;"), (0, .class_ 1104), (0, u "java/lang/String$CaseInsensitiveComparator"), (1, .class_ 1107), (0, u "java/io/Serializable"), (0, .class_ 1109), (0, u "java/lang/Comparable"), (0, .class_ 1111), (0, u "java/lang/constant/Constable"), (0, .class_ 1113), (0, u "java/lang/constant/ConstantDesc"), (2, u "serialVersionUID"), (0, u "J"), (3, u "REPL"), (0, u "C"), (2, u "LATIN1"), (1, u "UTF16")] 323

def k9m0 : Method := { name := "<init>", desc := "()V", sig := { parameters := [], returnType := none }, accessFlags := 1, code := none }
/-- java/lang/String -/
def k9 : Class := { plain "java/lang/String" (some 0) with
  accessFlags := 49
  interfaces := #[4, 5, 6, 7, 8]
  cf := some (fileOf pool9 10 #[.nestMembers #[1103]] #[{ accessFlags := 1, nameIndex := 5, descriptorIndex := 6, attributes := #[] }] 49 2 #[1106, 1108, 575, 1110, 1112] #[{ accessFlags := 18, nameIndex := 13, descriptorIndex := 14, attributes := #[] }, { accessFlags := 18, nameIndex := 17, descriptorIndex := 18, attributes := #[] }, { accessFlags := 2, nameIndex := 21, descriptorIndex := 22, attributes := #[] }, { accessFlags := 2, nameIndex := 25, descriptorIndex := 26, attributes := #[] }, { accessFlags := 26, nameIndex := 1116, descriptorIndex := 1117, attributes := #[] }, { accessFlags := 24, nameIndex := 40, descriptorIndex := 26, attributes := #[] }, { accessFlags := 26, nameIndex := 1101, descriptorIndex := 1102, attributes := #[] }, { accessFlags := 26, nameIndex := 1121, descriptorIndex := 1122, attributes := #[] }, { accessFlags := 25, nameIndex := 599, descriptorIndex := 600, attributes := #[] }, { accessFlags := 24, nameIndex := 1125, descriptorIndex := 18, attributes := #[] }, { accessFlags := 24, nameIndex := 1127, descriptorIndex := 18, attributes := #[] }])
  fields := #[{ name := "value", type := (.array .byte), accessFlags := 18, slot := 0, constantValue := 0 }, { name := "coder", type := .byte, accessFlags := 18, slot := 1, constantValue := 0 }, { name := "hash", type := .int, accessFlags := 2, slot := 2, constantValue := 0 }, { name := "hashIsZero", type := .boolean, accessFlags := 2, slot := 3, constantValue := 0 }, { name := "serialVersionUID", type := .long, accessFlags := 26, slot := 0, constantValue := 0 }, { name := "COMPACT_STRINGS", type := .boolean, accessFlags := 24, slot := 1, constantValue := 0 }, { name := "serialPersistentFields", type := (.array (.object "java/io/ObjectStreamField")), accessFlags := 26, slot := 2, constantValue := 0 }, { name := "REPL", type := .char, accessFlags := 26, slot := 3, constantValue := 0 }, { name := "CASE_INSENSITIVE_ORDER", type := (.object "java/util/Comparator"), accessFlags := 25, slot := 4, constantValue := 0 }, { name := "LATIN1", type := .byte, accessFlags := 24, slot := 5, constantValue := 0 }, { name := "UTF16", type := .byte, accessFlags := 24, slot := 6, constantValue := 0 }]
  methods := #[k9m0]
  instanceTypes := #[(.array .byte), .byte, .int, .boolean]
  staticTypes := #[.long, .boolean, (.array (.object "java/io/ObjectStreamField")), .char, (.object "java/util/Comparator"), .byte, .byte]
  resolved := Array.replicate 1451 none
  statics := none }

def pool10 : Array CpInfo := pool [(1, u "java/lang/Cloneable"), (0, .class_ 1), (0, u "java/lang/Object"), (0, .class_ 3)] 3

/-- java/lang/Cloneable -/
def k10 : Class := { plain "java/lang/Cloneable" (some 0) with
  accessFlags := 1537
  interfaces := #[]
  cf := some (fileOf pool10 2 #[] #[] 1537 4 #[] #[])
  fields := #[]
  methods := #[]
  instanceTypes := #[]
  staticTypes := #[]
  resolved := Array.replicate 8 none
  statics := none }

/-- the primitive byte -/
def k11 : Class := { plain "byte" none with kind := .primitive 'B', accessFlags := 0x411 }
/-- [B -/
def k12 : Class := { plain "[B" (some 0) with kind := .array 11 .byte, interfaces := #[10, 4], accessFlags := 1041 }

/-- the primitive int -/
def k13 : Class := { plain "int" none with kind := .primitive 'I', accessFlags := 0x411 }
/-- [I -/
def k14 : Class := { plain "[I" (some 0) with kind := .array 13 .int, interfaces := #[10, 4], accessFlags := 1041 }

def heap : Heap := #[]
def classes : Array Class := #[k0, k1, k2, k3, k4, k5, k6, k7, k8, k9, k10, k11, k12, k13, k14]
def interned : List (Array UInt16 × Addr) := []
def slotsUsed : Nat := 0
def theMethod : MethodId := ⟨1, 2⟩
def args0 : Array Value := #[.int 7, .int 8]
def aboutOver (below : List Frame) : State where
  vm := { classes := classes, interned := interned.toArray }
  heap := heap
  slotsUsed := slotsUsed
  threads := #[{ frames := .invoking theMethod args0 :: below }]
def below0 : List Frame := [.native { method := ⟨0, 0⟩, args := #[] }]
def about1 : State := aboutOver below0
def p0 : Program := .bare "" "" ""
def e0 : Env := launch0.env 0 0 0
theorem w_frames : about1.frames = Frame.invoking theMethod args0 :: below0 := rfl
set_option maxRecDepth 65536 in
theorem w_args : argsFit about1.vm theMethod args0 = true := by decide +kernel
set_option maxRecDepth 65536 in
theorem w_heap : heapFits about1 = true := by decide +kernel
set_option maxRecDepth 65536 in
theorem w_runnable : about1.curStatus? = some .runnable := by decide +kernel
set_option maxRecDepth 65536 in
theorem w_alone : about1.alone = true := by decide +kernel
set_option maxRecDepth 65536 in
theorem w_named : about1.methodNamed? x = some theMethod := by decide +kernel
set_option maxRecDepth 65536 in
theorem w_hears : about1.hears theMethod below0 = true := by decide +kernel
set_option maxRecDepth 65536 in
theorem w_ripe : about1.ripe theMethod args0 below0 = true := by decide +kernel
theorem w_running : about1.status = .running := rfl
set_option maxRecDepth 65536 in
theorem w_room : about1.hasRoom e0.platform room_1 = true :=
  launch0.hasRoom_least _ room_1 (by decide +kernel) (by decide +kernel) (by decide +kernel) (by decide +kernel) (by decide +kernel) (by decide +kernel)
theorem allAtoms_all (ts : List Jvm.Cond) (a : Array Jvm.Value) (st : Jvm.State) : (allAtoms ts).before a st = ts.all (fun c => c.before a st) := by
  induction ts with
  | nil => rfl
  | cons c t ih =>
    show (Jvm.Cond.and c (allAtoms t)).before a st = _
    rw [Jvm.Cond.before_and, ih, List.all_cons]
def words1 : List Jvm.Cond := Jvm.Cond.code x code maxLocals ret :: tables_1
/-- a 'code' word, met by the world's own term for the bytes: nothing is compared byte by byte -/
theorem code_word {y : MethodName} {bytes : ByteArray} {mx : Nat} {rt : Option FieldType} {a : Array Value} {s : State} {m : MethodId} {meth : Method} {c : Code} (h1 : s.methodNamed? y = some m) (h2 : s.vm.method? m = some meth) (h3 : meth.code = some c) (h4 : c.code = bytes)
    (h5 : (c.maxLocals == mx && c.exceptionTable.isEmpty && decide (c.maxStack ≤ mostOperands) && decide (meth.sig.returnType = rt) && !meth.locks && decide (parseMethodDescriptor y.desc = some meth.sig)) = true) : (Jvm.Cond.code y bytes mx rt).before a s = true := by
  simp only [Bool.and_eq_true, beq_iff_eq, Bool.not_eq_true', decide_eq_true_eq] at h5
  obtain ⟨⟨⟨⟨⟨g1, g2⟩, g3⟩, g4⟩, g5⟩, g6⟩ := h5
  simp [Cond.before, Cond.holds, Cond.value, h1, h2, h3, h4, g1, g2, g3, g4, g5, g6]
def isCode : Jvm.Cond → Bool
  | .code _ _ _ _ => true
  | _ => false
theorem all_split {L : List Jvm.Cond} {P : Jvm.Cond → Bool} (h1 : L.all (fun c => isCode c || P c) = true) (h2 : ∀ c ∈ L.filter isCode, P c = true) : L.all P = true := by
  refine List.all_eq_true.mpr fun c hc => ?_
  have h := List.all_eq_true.mp h1 c hc
  rcases Bool.eq_false_or_eq_true (isCode c) with hi | hi
  · exact h2 c (List.mem_filter.mpr ⟨hc, hi⟩)
  · simpa [hi] using h
set_option maxRecDepth 65536 in
theorem w_c0 : (Jvm.Cond.code x code maxLocals ret).before args0 about1 = true := code_word (m := ⟨1, 2⟩) (meth := k1m2) (c := k1c2) (by decide +kernel) rfl rfl rfl (by decide +kernel)
set_option maxRecDepth 65536 in
theorem w_c1 : (Jvm.Cond.code ({ cls := "com/example/attestry/attestry/DerReaderHasNextPinLaw", name := "slot", desc := "(III)B" } : Jvm.MethodName) method_2_code (4 : Nat) (Option.some Jvm.ClassFile.FieldType.byte)).before args0 about1 = true := code_word (m := ⟨1, 1⟩) (meth := k1m1) (c := k1c1) (by decide +kernel) rfl rfl rfl (by decide +kernel)
set_option maxRecDepth 65536 in
theorem w_c2 : (Jvm.Cond.code ({ cls := "com/example/attestry/attestry/DerReader", name := "<init>", desc := "([B)V" } : Jvm.MethodName) prog_3_method_1_code (2 : Nat) (Option.none : Option Jvm.ClassFile.FieldType)).before args0 about1 = true := code_word (m := ⟨2, 0⟩) (meth := k2m0) (c := k2c0) (by decide +kernel) rfl rfl rfl (by decide +kernel)
set_option maxRecDepth 65536 in
theorem w_c3 : (Jvm.Cond.code ({ cls := "java/lang/Object", name := "<init>", desc := "()V" } : Jvm.MethodName) object_method_1_code (1 : Nat) (Option.none : Option Jvm.ClassFile.FieldType)).before args0 about1 = true := code_word (m := ⟨0, 0⟩) (meth := k0m0) (c := k0c0) (by decide +kernel) rfl rfl rfl (by decide +kernel)
set_option maxRecDepth 65536 in
theorem w_c4 : (Jvm.Cond.code ({ cls := "com/example/attestry/attestry/DerReader$BerNote", name := "<init>", desc := "()V" } : Jvm.MethodName) prog_4_method_1_code (1 : Nat) (Option.none : Option Jvm.ClassFile.FieldType)).before args0 about1 = true := code_word (m := ⟨3, 0⟩) (meth := k3m0) (c := k3c0) (by decide +kernel) rfl rfl rfl (by decide +kernel)
set_option maxRecDepth 65536 in
theorem w_c5 : (Jvm.Cond.code ({ cls := "com/example/attestry/attestry/DerReader", name := "hasNext", desc := "()Z" } : Jvm.MethodName) prog_3_method_3_code (1 : Nat) (Option.some Jvm.ClassFile.FieldType.boolean)).before args0 about1 = true := code_word (m := ⟨2, 2⟩) (meth := k2m2) (c := k2c2) (by decide +kernel) rfl rfl rfl (by decide +kernel)
set_option maxRecDepth 65536 in
theorem w_c6 : (Jvm.Cond.code ({ cls := "com/example/attestry/attestry/DerReader", name := "sequence", desc := "()Lcom/example/attestry/attestry/DerReader;" } : Jvm.MethodName) prog_3_method_8_code (1 : Nat) (Option.some (Jvm.ClassFile.FieldType.object "com/example/attestry/attestry/DerReader"))).before args0 about1 = true := code_word (m := ⟨2, 3⟩) (meth := k2m3) (c := k2c3) (by decide +kernel) rfl rfl rfl (by decide +kernel)
set_option maxRecDepth 65536 in
theorem w_c7 : (Jvm.Cond.code ({ cls := "com/example/attestry/attestry/DerReader", name := "contents", desc := "(ILjava/lang/String;)Lcom/example/attestry/attestry/DerReader;" } : Jvm.MethodName) prog_3_method_40_code (3 : Nat) (Option.some (Jvm.ClassFile.FieldType.object "com/example/attestry/attestry/DerReader"))).before args0 about1 = true := code_word (m := ⟨2, 5⟩) (meth := k2m5) (c := k2c5) (by decide +kernel) rfl rfl rfl (by decide +kernel)
set_option maxRecDepth 65536 in
theorem w_c8 : (Jvm.Cond.code ({ cls := "com/example/attestry/attestry/DerReader", name := "contents", desc := "(ILjava/lang/String;Z)Lcom/example/attestry/attestry/DerReader;" } : Jvm.MethodName) prog_3_method_41_code (6 : Nat) (Option.some (Jvm.ClassFile.FieldType.object "com/example/attestry/attestry/DerReader"))).before args0 about1 = true := code_word (m := ⟨2, 6⟩) (meth := k2m6) (c := k2c6) (by decide +kernel) rfl rfl rfl (by decide +kernel)
set_option maxRecDepth 65536 in
theorem w_c9 : (Jvm.Cond.code ({ cls := "com/example/attestry/attestry/DerReader", name := "nextOctet", desc := "(ILjava/lang/String;)I" } : Jvm.MethodName) prog_3_method_52_code (3 : Nat) (Option.some Jvm.ClassFile.FieldType.int)).before args0 about1 = true := code_word (m := ⟨2, 10⟩) (meth := k2m10) (c := k2c10) (by decide +kernel) rfl rfl rfl (by decide +kernel)
set_option maxRecDepth 65536 in
theorem w_c10 : (Jvm.Cond.code ({ cls := "com/example/attestry/attestry/DerReader", name := "body", desc := "(ILjava/lang/String;Z)Lcom/example/attestry/attestry/DerReader;" } : Jvm.MethodName) prog_3_method_42_code (11 : Nat) (Option.some (Jvm.ClassFile.FieldType.object "com/example/attestry/attestry/DerReader"))).before args0 about1 = true := code_word (m := ⟨2, 7⟩) (meth := k2m7) (c := k2c7) (by decide +kernel) rfl rfl rfl (by decide +kernel)
set_option maxRecDepth 65536 in
theorem w_c11 : (Jvm.Cond.code ({ cls := "com/example/attestry/attestry/DerReader", name := "length", desc := "(ILjava/lang/String;)J" } : Jvm.MethodName) prog_3_method_49_code (8 : Nat) (Option.some Jvm.ClassFile.FieldType.long)).before args0 about1 = true := code_word (m := ⟨2, 8⟩) (meth := k2m8) (c := k2c8) (by decide +kernel) rfl rfl rfl (by decide +kernel)
set_option maxRecDepth 65536 in
theorem w_c12 : (Jvm.Cond.code ({ cls := "com/example/attestry/attestry/DerReader", name := "lengthOctets", desc := "(J)I" } : Jvm.MethodName) prog_3_method_50_code (2 : Nat) (Option.some Jvm.ClassFile.FieldType.int)).before args0 about1 = true := code_word (m := ⟨2, 9⟩) (meth := k2m9) (c := k2c9) (by decide +kernel) rfl rfl rfl (by decide +kernel)
set_option maxRecDepth 65536 in
theorem w_c13 : (Jvm.Cond.code ({ cls := "com/example/attestry/attestry/DerReader", name := "<init>", desc := "(Lcom/example/attestry/attestry/DerReader;III)V" } : Jvm.MethodName) prog_3_method_2_code (5 : Nat) (Option.none : Option Jvm.ClassFile.FieldType)).before args0 about1 = true := code_word (m := ⟨2, 1⟩) (meth := k2m1) (c := k2c1) (by decide +kernel) rfl rfl rfl (by decide +kernel)
set_option maxRecDepth 65536 in
theorem w_c14 : (Jvm.Cond.code ({ cls := "com/example/attestry/attestry/DerReader", name := "nullValue", desc := "()V" } : Jvm.MethodName) prog_3_method_18_code (3 : Nat) (Option.none : Option Jvm.ClassFile.FieldType)).before args0 about1 = true := code_word (m := ⟨2, 4⟩) (meth := k2m4) (c := k2c4) (by decide +kernel) rfl rfl rfl (by decide +kernel)
def codes1 : List Jvm.Cond := [Jvm.Cond.code x code maxLocals ret, Jvm.Cond.code ({ cls := "com/example/attestry/attestry/DerReaderHasNextPinLaw", name := "slot", desc := "(III)B" } : Jvm.MethodName) method_2_code (4 : Nat) (Option.some Jvm.ClassFile.FieldType.byte), Jvm.Cond.code ({ cls := "com/example/attestry/attestry/DerReader", name := "<init>", desc := "([B)V" } : Jvm.MethodName) prog_3_method_1_code (2 : Nat) (Option.none : Option Jvm.ClassFile.FieldType), Jvm.Cond.code ({ cls := "java/lang/Object", name := "<init>", desc := "()V" } : Jvm.MethodName) object_method_1_code (1 : Nat) (Option.none : Option Jvm.ClassFile.FieldType), Jvm.Cond.code ({ cls := "com/example/attestry/attestry/DerReader$BerNote", name := "<init>", desc := "()V" } : Jvm.MethodName) prog_4_method_1_code (1 : Nat) (Option.none : Option Jvm.ClassFile.FieldType), Jvm.Cond.code ({ cls := "com/example/attestry/attestry/DerReader", name := "hasNext", desc := "()Z" } : Jvm.MethodName) prog_3_method_3_code (1 : Nat) (Option.some Jvm.ClassFile.FieldType.boolean), Jvm.Cond.code ({ cls := "com/example/attestry/attestry/DerReader", name := "sequence", desc := "()Lcom/example/attestry/attestry/DerReader;" } : Jvm.MethodName) prog_3_method_8_code (1 : Nat) (Option.some (Jvm.ClassFile.FieldType.object "com/example/attestry/attestry/DerReader")), Jvm.Cond.code ({ cls := "com/example/attestry/attestry/DerReader", name := "contents", desc := "(ILjava/lang/String;)Lcom/example/attestry/attestry/DerReader;" } : Jvm.MethodName) prog_3_method_40_code (3 : Nat) (Option.some (Jvm.ClassFile.FieldType.object "com/example/attestry/attestry/DerReader")), Jvm.Cond.code ({ cls := "com/example/attestry/attestry/DerReader", name := "contents", desc := "(ILjava/lang/String;Z)Lcom/example/attestry/attestry/DerReader;" } : Jvm.MethodName) prog_3_method_41_code (6 : Nat) (Option.some (Jvm.ClassFile.FieldType.object "com/example/attestry/attestry/DerReader")), Jvm.Cond.code ({ cls := "com/example/attestry/attestry/DerReader", name := "nextOctet", desc := "(ILjava/lang/String;)I" } : Jvm.MethodName) prog_3_method_52_code (3 : Nat) (Option.some Jvm.ClassFile.FieldType.int), Jvm.Cond.code ({ cls := "com/example/attestry/attestry/DerReader", name := "body", desc := "(ILjava/lang/String;Z)Lcom/example/attestry/attestry/DerReader;" } : Jvm.MethodName) prog_3_method_42_code (11 : Nat) (Option.some (Jvm.ClassFile.FieldType.object "com/example/attestry/attestry/DerReader")), Jvm.Cond.code ({ cls := "com/example/attestry/attestry/DerReader", name := "length", desc := "(ILjava/lang/String;)J" } : Jvm.MethodName) prog_3_method_49_code (8 : Nat) (Option.some Jvm.ClassFile.FieldType.long), Jvm.Cond.code ({ cls := "com/example/attestry/attestry/DerReader", name := "lengthOctets", desc := "(J)I" } : Jvm.MethodName) prog_3_method_50_code (2 : Nat) (Option.some Jvm.ClassFile.FieldType.int), Jvm.Cond.code ({ cls := "com/example/attestry/attestry/DerReader", name := "<init>", desc := "(Lcom/example/attestry/attestry/DerReader;III)V" } : Jvm.MethodName) prog_3_method_2_code (5 : Nat) (Option.none : Option Jvm.ClassFile.FieldType), Jvm.Cond.code ({ cls := "com/example/attestry/attestry/DerReader", name := "nullValue", desc := "()V" } : Jvm.MethodName) prog_3_method_18_code (3 : Nat) (Option.none : Option Jvm.ClassFile.FieldType)]
set_option maxRecDepth 65536 in
theorem codes_eq : words1.filter isCode = codes1 := rfl
theorem w_codes : ∀ c ∈ words1.filter isCode, c.before args0 about1 = true := by
  rw [codes_eq]
  intro c hc
  simp only [codes1, List.mem_cons, List.not_mem_nil, or_false] at hc
  rcases hc with rfl | rfl | rfl | rfl | rfl | rfl | rfl | rfl | rfl | rfl | rfl | rfl | rfl | rfl | rfl
  · exact w_c0
  · exact w_c1
  · exact w_c2
  · exact w_c3
  · exact w_c4
  · exact w_c5
  · exact w_c6
  · exact w_c7
  · exact w_c8
  · exact w_c9
  · exact w_c10
  · exact w_c11
  · exact w_c12
  · exact w_c13
  · exact w_c14
set_option maxRecDepth 65536 in
theorem w_t1 : (words1.take 24).all (fun c => isCode c || c.before args0 about1) = true := by decide +kernel
set_option maxRecDepth 65536 in
theorem w_t2 : ((words1.drop 24).take 24).all (fun c => isCode c || c.before args0 about1) = true := by decide +kernel
set_option maxRecDepth 65536 in
theorem w_t3 : (((words1.drop 24).drop 24).take 24).all (fun c => isCode c || c.before args0 about1) = true := by decide +kernel
set_option maxRecDepth 65536 in
theorem w_t4 : (((words1.drop 24).drop 24).drop 24).all (fun c => isCode c || c.before args0 about1) = true := by decide +kernel
theorem w_tables : (allAtoms (Jvm.Cond.code x code maxLocals ret :: tables_1)).before args0 about1 = true := by
  rw [allAtoms_all]
  show words1.all (fun c => c.before args0 about1) = true
  refine all_split ?_ w_codes
  rw [← List.take_append_drop 24 words1, List.all_append, w_t1, ← List.take_append_drop 24 (words1.drop 24), List.all_append, w_t2, ← List.take_append_drop 24 ((words1.drop 24).drop 24), List.all_append, w_t3, w_t4]
  rfl
set_option maxRecDepth 65536 in
theorem w_case : (Jvm.Cond.and given_1 narrow_1).before args0 about1 = true := by decide +kernel
theorem w_applies : (headSpec (Jvm.Cond.code x code maxLocals ret :: tables_1) room_1).applies x e0.platform about1 = true :=
  (Spec.applies_iff w_frames).mpr ⟨w_running, w_runnable, w_alone, w_named, w_hears, w_ripe, w_room, w_tables⟩
theorem atStart : AtStart classFile x code maxLocals ret World_1 tables_1 room_1 Calls_1 rest_1 Pre_1 launch0 p0 e0 about1 theMethod args0 below0 :=
  ⟨lists_1, trivial, launch0.admits_env _ _ _, launch0.least_env, fairChoices_fair.cas, fairChoices_fair.clock, w_frames, w_args, w_heap, w_applies, trivial, trivial, w_case⟩
end start1
theorem witness_1 : WitnessClaimed_1 := ⟨start1.p0, start1.e0, start1.about1, start1.theMethod, start1.args0, start1.below0, start1.atStart⟩
end Jvm.Pilot.@@N@@
