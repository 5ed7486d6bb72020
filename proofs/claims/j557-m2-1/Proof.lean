import JvmDerived
import JvmDerived.Pilot.@@N@@Statement
import JvmDerived.Pilot.@@N@@Code
set_option linter.unusedVariables false
set_option linter.unusedSimpArgs false
namespace Jvm.RoadKit
open Sem ClassFile Op Lib Jvm.Stand Jvm.Free Jvm.LawKit
section New
variable {p : Program} {l : Launch} {e : Env} {R : Room} {s : State} {m : MethodId} {args : Array Value} {below : List Frame} {meth : Method} {c : Code} {T : State} {locs : List Loc} {cells slots : Nat}
theorem retI (X : Stand p l e R s m args below meth c T locs cells slots) (hx : p.tables.exec = Jvm.exec) {pc : Nat} {Ls : Array Slot} {z : Int32} {rest : List Value} (hret : meth.sig.returnType = some .int) (hd : decode c.code pc = .ok (.ireturn, 1)) {fs : List Frame}
    (hl : ∀ (f : JFrame) (acts : List Action), f.method = m → f.locked = none → f.entered = [] → (doReturn e (T.setTop f) acts (some (.int z))).1 = T.setFrames fs) : Steps p.tables e below (T.setTop (mkF m pc Ls (.int z :: rest))) (T.setFrames fs) := by
  have hm' : T.vm.method? m = some meth := X.method'
  have hn : narrow .int (.int z) = .int z := rfl
  show Steps p.tables e below (T.setTop { method := m, pc := pc, locals := Ls, stack := _ :: rest, locked := none }) _
  jvm_step X.here [X.here.top, hx, hd, hm', hret, hn]
  first | (intro acts; rw [hl _ acts rfl rfl rfl]) | rw [hl _ _ rfl rfl rfl]
  exact Steps.refl _
end New
theorem own_lc_tlt {a b : Int64} (h : a < b) : lcmpW a b < 0 := by rw [lcW]; exact (lc_lt _ _).2 h
theorem own_lc_flt {a b : Int64} (h : ¬ a < b) : ¬ lcmpW a b < 0 := by rw [lcW]; exact fun q => h ((lc_lt _ _).1 q)
theorem own_lc_tgt {a b : Int64} (h : b < a) : 0 < lcmpW a b := by rw [lcW]; exact (lc_gt _ _).2 h
theorem own_lc_fgt {a b : Int64} (h : ¬ b < a) : ¬ 0 < lcmpW a b := by rw [lcW]; exact fun q => h ((lc_gt _ _).1 q)
theorem own_lc_teq {a b : Int64} (h : a = b) : lcmpW a b = 0 := by rw [lcW]; exact (lc_eq _ _).2 h
theorem own_one {c : Prop} [Decidable c] {A B : Slot} (ha : One A) (hb : One B) : One (if c then A else B) := by
  by_cases h : c
  · rw [if_pos h]; exact ha
  · rw [if_neg h]; exact hb
theorem own_lc_feq {a b : Int64} (h : ¬ a = b) : ¬ lcmpW a b = 0 := by rw [lcW]; exact fun q => h ((lc_eq _ _).1 q)
end Jvm.RoadKit
namespace Jvm.Pilot.@@N@@
open Jvm Jvm.ClassFile Sem Op Lib Jvm.Free Jvm.Stand Jvm.LawKit Jvm.RoadKit Bundle Jvm.Pilot.@@N@@.Jvm.D

def own_A (Z : State) (h : Heap) (a : Addr) (ty : FieldType) (n : Int32) (y : Int32 → Value) : Prop := ∃ c : Cell, Arr Z h a c ty ∧ c.slots.size = n.toNatClampNeg ∧ ¬ n < 0 ∧ ∀ j : Int32, ¬ (j < 0 ∨ c.slots.size ≤ j.toNatClampNeg) → c.slots[j.toNatClampNeg]? = some (y j)
theorem own_A_lt {Z : State} {h : Heap} {a : Addr} {ty : FieldType} {n : Int32} {y : Int32 → Value} (F : own_A Z h a ty n y) : a < h.size := by obtain ⟨c, A, -⟩ := F; exact A.lt
theorem own_A_ext {Z : State} {h h' : Heap} {a : Addr} {ty : FieldType} {n : Int32} {y : Int32 → Value} (F : own_A Z h a ty n y) (E : Ext h h') : own_A Z h' a ty n y := by obtain ⟨c, A, r⟩ := F; exact ⟨c, A.ext E, r⟩
theorem own_A_other {Z : State} {h h' : Heap} {a b : Addr} {ty : FieldType} {n : Int32} {y : Int32 → Value} {sl : Nat} {v : Value} (F : own_A Z h b ty n y) (W : Wr h h' a sl v) (q : b ≠ a) : own_A Z h' b ty n y := by obtain ⟨c, A, r⟩ := F; exact ⟨c, A.other W q, r⟩
theorem own_A_keep {Z : State} {h h' : Heap} {a : Addr} {ty : FieldType} {n : Int32} {y : Int32 → Value} {ws : List Addr} (F : own_A Z h a ty n y) (K : Keep h h' ws) (q : a ∉ ws) : own_A Z h' a ty n y := by obtain ⟨c, A, r⟩ := F; exact ⟨c, ⟨K.2.1 a c A.1 q, A.2⟩, r⟩
theorem own_A_new {Z : State} {h : Heap} {a : Addr} {k : ClassId} {ty : FieldType} {n : Int32} (A : Arr Z h a (newA k ty n) ty) (q : ¬ n < 0) : own_A Z h a ty n (fun _ => defaultValue ty) := by
  obtain ⟨c, A', -, S, M, H, -⟩ := Arv.new A q
  exact ⟨c, A', S, M, fun j hj => (H _ (Nat.lt_of_not_le fun y => hj (Or.inr y))).trans (by simp)⟩
theorem own_A_set {Z : State} {h h' : Heap} {a : Addr} {ty : FieldType} {n j : Int32} {y z : Int32 → Value} {v : Value} {c : Cell} (A : Arr Z h a c ty) (S : c.slots.size = n.toNatClampNeg) (M : ¬ n < 0) (H : ∀ j : Int32, ¬ (j < 0 ∨ c.slots.size ≤ j.toNatClampNeg) → c.slots[j.toNatClampNeg]? = some (y j)) (hj : ¬ (j < 0 ∨ c.slots.size ≤ j.toNatClampNeg)) (W : Wr h h' a j.toNatClampNeg v) (hz : z j = v) (hz' : ∀ i, ¬ i = j → z i = y i) : own_A Z h' a ty n z := by
  refine ⟨_, A.same W, by rw [sz_set]; exact S, M, fun i hi => ?_⟩
  rw [sz_set] at hi
  have hs : (c.setSlot j.toNatClampNeg v).slots = c.slots.setIfInBounds j.toNatClampNeg v := rfl
  rw [hs, Array.getElem?_setIfInBounds]
  by_cases e : i = j
  · subst e
    rw [if_pos rfl, if_pos (Nat.lt_of_not_le fun q => hj (Or.inr q)), hz]
  · have e' : ¬ j.toNatClampNeg = i.toNatClampNeg := fun q => e (Int32.toInt_inj.mp (by rw [nat_of (fun z => hi (Or.inl z)), nat_of (fun z => hj (Or.inl z)), q]))
    rw [if_neg e', hz' i e]
    exact H i hi
theorem own_setI {y : Int32 → Int32} {j x : Int32} : Value.int ((fun i => if i = j then x else y i) j) = .int x := congrArg Value.int (if_pos rfl)
theorem own_setI' {y : Int32 → Int32} {j x : Int32} : ∀ i, ¬ i = j → Value.int ((fun i => if i = j then x else y i) i) = .int (y i) := fun i h => congrArg Value.int (if_neg h)
theorem own_setJ {y : Int32 → Int64} {j : Int32} {x : Int64} : Value.long ((fun i => if i = j then x else y i) j) = .long x := congrArg Value.long (if_pos rfl)
theorem own_setJ' {y : Int32 → Int64} {j : Int32} {x : Int64} : ∀ i, ¬ i = j → Value.long ((fun i => if i = j then x else y i) i) = .long (y i) := fun i h => congrArg Value.long (if_neg h)

theorem own_A_congr {Z : State} {h : Heap} {a : Addr} {ty : FieldType} {n : Int32} {y y' : Int32 → Value} (F : own_A Z h a ty n y) (e : ∀ i, y i = y' i) : own_A Z h a ty n y' := by
  have : y = y' := funext e
  subst this; exact F

theorem own_nat {c : Int32} (n : Nat) (h0 : 0 ≤ c.toInt) (h1 : c.toInt < n) : ∃ k : Nat, k < n ∧ c = Int32.ofInt k :=
  ⟨c.toInt.toNat, by omega, by rw [Int.toNat_of_nonneg h0, Int32.ofInt_toInt]⟩
theorem own_i2c (x : Int32) : 0 ≤ (x.toUInt32.toUInt16.toUInt32.toInt32).toInt ∧ (x.toUInt32.toUInt16.toUInt32.toInt32).toInt < 65536 := by
  have h : (decide ((0 : Int32) ≤ x.toUInt32.toUInt16.toUInt32.toInt32) && decide (x.toUInt32.toUInt16.toUInt32.toInt32 ≤ (65535 : Int32))) = true := fits_nar_char x
  rw [Bool.and_eq_true, decide_eq_true_eq, decide_eq_true_eq, Int32.le_iff_toInt_le, Int32.le_iff_toInt_le] at h
  have e1 : (0 : Int32).toInt = 0 := by decide
  have e2 : (65535 : Int32).toInt = 65535 := by decide
  omega
theorem own_nb (c : Prop) [Decidable c] : nar .boolean (if c then (1 : Int32) else 0) = if c then 1 else 0 := by
  by_cases h : c
  · rw [if_pos h]; decide
  · rw [if_neg h]; decide

theorem own_privAt {Z s : State} {a0 : Array Value} {y : MethodName} (hZ : Z.Warmed39 s.vm) (wp : (Jvm.Cond.privateMethod y).before a0 Z = true) : s.PrivateAt y := by
  refine Cond.privateMethod_at (args := a0) ?_
  have e1 : s.methodNamed? y = Z.methodNamed? y := by rw [State.methodNamed?_of_vm (show s.vm = (Z.setVm s.vm).vm from rfl), State.methodNamed?_setVm hZ.alike]
  have e2 : s.vm.method? = Z.vm.method? := funext hZ.alike.method?
  simp only [Cond.before, Cond.holds, Cond.value] at wp ⊢
  rw [e1, e2]; exact wp
theorem own_privSel {Z s : State} {a0 args : Array Value} {y : MethodName} {k : Nat} (hZ : Z.Warmed39 s.vm) (wi : (Jvm.Cond.instantiable y.cls k).before a0 Z = true) (wm : (Jvm.Cond.instanceMethod y).before a0 Z = true) (wp : (Jvm.Cond.privateMethod y).before a0 Z = true) (hy : y.cls ≠ "java/lang/invoke/MethodHandle" ∧ y.cls ≠ "java/lang/invoke/VarHandle") : (Jvm.Cond.selects y.cls y y).before args s = true := by
  have wi' : (Jvm.Cond.instantiable y.cls k).before args s = true := mvT hZ wi
  obtain ⟨c, kk, h1, h2, -, h4, -⟩ := Cond.instantiable_spec wi'
  exact Jvm.Stand.selects_self_of_private h1 h2 (by simp at h4; exact h4.1) (own_privAt hZ wp) (mvT hZ wm) hy
theorem own_notSta {c : Cell} (h : c.vm.isStatics = false) : ∀ q, c.vm ≠ .statics q := fun q z => by rw [z] at h; cases h
theorem own_noLong {Z : State} {a0 : Array Value} {K : String} {n : Nat} (w1 : (Jvm.Cond.superclass "java/lang/Long" "java/lang/Number").before a0 Z = true) (w2 : (Jvm.Cond.superclass "java/lang/Number" "java/lang/Object").before a0 Z = true) (w3 : (Jvm.Cond.noSuperclass "java/lang/Object").before a0 Z = true) (wi : (Jvm.Cond.instantiable K n).before a0 Z = true) (n1 : "java/lang/Long" ≠ K) (n2 : "java/lang/Number" ≠ K) (n3 : "java/lang/Object" ≠ K) : ∃ c t, Z.vm.findClass "java/lang/Long" = some c ∧ Z.vm.findClass K = some t ∧ Z.vm.assignable c t = false := by
  obtain ⟨t, kt, g1, g2, g3, g4, -⟩ := Cond.instantiable_spec wi
  obtain ⟨o, ko, h1, h2, h3, -, -⟩ := Cond.noSuperclass_spec w3
  obtain ⟨cL, hL⟩ := found_sup w1
  obtain ⟨cN, hN⟩ := found_sup w2
  obtain ⟨p1, kL, -, a1, a2, -, a4, a5, -, -⟩ := Cond.superclass_spec hL w1
  obtain ⟨p2, kN, -, b1, b2, -, b4, b5, -, -⟩ := Cond.superclass_spec hN w2
  cases a1.symm.trans hN
  cases b1.symm.trans h1
  have e1 := ids_ne hL g1 n1
  have e2 := ids_ne hN g1 n2
  have e3 := ids_ne h1 g1 n3
  have s0 : ∀ fuel, Z.vm.isSubclassAux fuel o t = false := fun fuel => by
    cases fuel with
    | zero => rfl
    | succ f => simp [Vm.isSubclassAux, e3, h2, h3]
  have s1 : ∀ fuel, Z.vm.isSubclassAux fuel cN t = false := fun fuel => by
    cases fuel with
    | zero => rfl
    | succ f => simp [Vm.isSubclassAux, e2, b2, b4, s0]
  have s2 : ∀ fuel, Z.vm.isSubclassAux fuel cL t = false := fun fuel => by
    cases fuel with
    | zero => rfl
    | succ f => simp [Vm.isSubclassAux, e1, a2, a4, s1]
  have gi : kt.isInterface = false := by simp at g4; exact g4.1
  refine ⟨cL, t, hL, g1, ?_⟩
  show Z.vm.assignableAux (255 + 1) cL t = false
  simp [Vm.assignableAux, e1, a2, g2, a5, g3, gi, Vm.isSubclass, s2]
theorem own_inc {q : Int64} (h1 : ¬ q < (-128 : Int64)) (h2 : ¬ (127 : Int64) < q) : ¬ (q.toInt32) + (128 : Int32) < 0 ∧ (q.toInt32) + (128 : Int32) < (256 : Int32) := by
  have e1 : (-128 : Int64).toInt = -128 := by decide
  have e2 : (127 : Int64).toInt = 127 := by decide
  have e3 : (128 : Int32).toInt = 128 := by decide
  have e4 : (256 : Int32).toInt = 256 := by decide
  have e5 : (0 : Int32).toInt = 0 := by decide
  have c1 := c_l2i q
  have c2 := c_iadd (q.toInt32) 128
  have r1 := rng32 (q.toInt32)
  have r2 := rng32 (q.toInt32 + 128)
  rw [Int64.lt_iff_toInt_lt] at h1 h2
  rw [Int32.lt_iff_toInt_lt, Int32.lt_iff_toInt_lt]
  omega
def own_Box (Z : State) (h : Heap) : Prop := ∃ (ca : Addr) (cl : Cell), Sta Z h "java/lang/Long$LongCache" "cache" "[Ljava/lang/Long;" (.ref ca) ∧ Arr Z h ca cl (.object "java/lang/Long") ∧ cl.slots.size = (256 : Int32).toNatClampNeg ∧ ∀ j : Int32, ¬ (j < 0 ∨ cl.slots.size ≤ j.toNatClampNeg) → ∃ b : Addr, cl.slots[j.toNatClampNeg]? = some (.ref b) ∧ Exa Z h b "java/lang/Long"
theorem own_Box_ext {Z : State} {h h' : Heap} (B : own_Box Z h) (E : Ext h h') : own_Box Z h' := by
  obtain ⟨ca, cl, b1, b2, b3, b4⟩ := B
  exact ⟨ca, cl, b1.ext E, b2.ext E, b3, fun j hj => by obtain ⟨b, q1, q2⟩ := b4 j hj; exact ⟨b, q1, q2.ext E⟩⟩
theorem d2_0 : decode method_4_code 0 = .ok (.iload_n 0, 1) := by decide +kernel
theorem d2_1 : decode method_4_code 1 = .ok (.iconst 3, 1) := by decide +kernel
theorem d2_2 : decode method_4_code 2 = .ok (.if_icmp .ne 7, 3) := by decide +kernel
theorem d2_5 : decode method_4_code 5 = .ok (.ldc2_w 25, 3) := by decide +kernel
theorem d2_8 : decode method_4_code 8 = .ok (.lreturn, 1) := by decide +kernel
theorem d2_9 : decode method_4_code 9 = .ok (.iload_n 0, 1) := by decide +kernel
theorem d2_10 : decode method_4_code 10 = .ok (.iconst 4, 1) := by decide +kernel
theorem d2_11 : decode method_4_code 11 = .ok (.if_icmp .ne 7, 3) := by decide +kernel
theorem d2_14 : decode method_4_code 14 = .ok (.ldc2_w 29, 3) := by decide +kernel
theorem d2_17 : decode method_4_code 17 = .ok (.lreturn, 1) := by decide +kernel
theorem d2_18 : decode method_4_code 18 = .ok (.lconst 0, 1) := by decide +kernel
theorem d2_19 : decode method_4_code 19 = .ok (.lreturn, 1) := by decide +kernel
theorem pn_2 : plainName "com/example/tagwire/tagwire/core/FloatValueEqualsPinLaw" = true := by first | (simp [plainName, overriddenIn]; done) | decide +kernel
theorem ef_2 (m : MethodId) (p1 : Int32) : entryFrame m #[(.int p1)] 1 = mkF m 0 #[.val (.int p1)] [] := by first | (simp [entryFrame, mkF, argsToLocals, Value.category]; done) | rfl
def f2 (p1 : Int32) : Int64 :=
  (if p1 = (3 : Int32) then (65535 : Int64) else (if p1 = (4 : Int32) then (-1 : Int64) else (0 : Int64)))
def Q2 (Z : State) (p1 : Int32)  (h0 : Heap) (n0 : Nat) (v : Option Value) (h : Heap) (L : List Loc) : Prop := v = some (.long (f2 p1)) ∧ Fr n0 L ∧ h = h0
set_option maxRecDepth 65536 in
set_option maxHeartbeats 40000000 in
theorem rm2 (l : Launch) (Z : State) (a0 : Array Value) (hw : ∀ d ∈ tables_1, d.before a0 Z = true) (ws : List Jvm.Cond) (p1 : Int32)  (h0 : Heap) (n0 : Nat) (Z0 : n0 ≤ h0.size) :
    MetFree l (⟨"com/example/tagwire/tagwire/core/FloatValueEqualsPinLaw", "highWidth", "(I)J"⟩ : MethodName) (head1 (Jvm.Cond.code (⟨"com/example/tagwire/tagwire/core/FloatValueEqualsPinLaw", "highWidth", "(I)J"⟩ : MethodName) method_4_code 1 (some .long) :: ws) ({ frames := 0, cells := 0, slots := 0, locals := 0 } : Room)) (fun a U => a = #[(.int p1)] ∧ Z.Warmed39 U.vm ∧ U.heap = h0) (fun _ _ _ _ _ => True) (fun _ U o U' => ∃ v L, o = .returned v ∧ Q2 Z p1 h0 n0 v U'.heap L ∧ FrameEnd U o U' L ({ frames := 0, cells := 0, slots := 0, locals := 0 } : Room).cells ({ frames := 0, cells := 0, slots := 0, locals := 0 } : Room).slots) := by
  refine MetFree.of_bodySF (plainFor_of_name pn_2) hisR ?_
  intro p e s m args below meth c s₁ Bd hml0 hP hK
  obtain ⟨rfl, hZ, hh⟩ := hP
  have hx := Bd.exec
  have hby := Bd.bytes
  have hml : c.maxLocals = 1 := hml0
  have hown : s.vm.findClass "com/example/tagwire/tagwire/core/FloatValueEqualsPinLaw" = some m.cls := findClass_of_methodNamed Bd.named
  have hnm := (name_of_methodNamed Bd.named Bd.method).1
  have X0 : Stand p l e ({ frames := 0, cells := 0, slots := 0, locals := 0 } : Room) s m #[(.int p1)] below meth c s₁ [] 0 0 := Stand.of_body Bd
  have e0 : s₁.heap = h0 := by rw [← hh, Bd.state]; rfl
  have N0 := Fr.nil n0
  have pre0 : ∀ t, Steps p.tables e below (s₁.setTop (mkF m 0 #[.val (.int p1)] [])) t → Steps p.tables e below (s₁.setTop (entryFrame m #[(.int p1)] 1)) t := fun t k => castTop (ef_2 m p1) k
  have pre1 : ∀ t, Steps p.tables e below (s₁.setTop (mkF m 2 #[.val (.int p1)] [(.int (3 : Int32)), (.int p1)])) t → Steps p.tables e below (s₁.setTop (entryFrame m #[(.int p1)] 1)) t := fun t k => pre0 t (by
    show Steps p.tables e below (s₁.setTop (mkF m 0 #[.val (.int p1)] [])) _
    refine XS.iloadN X0.here hx rfl (hb hby d2_0) rfl ?_
    show Steps p.tables e below (s₁.setTop (mkF m 1 #[.val (.int p1)] [(.int p1)])) _
    refine XS.iconst X0.here hx rfl (hb hby d2_1) ?_
    exact k)
  by_cases hc2 : p1 = (3 : Int32)
  · have er : (f2 p1) = (65535 : Int64) := by exact (if_pos hc2)
    obtain ⟨fs, hr, hrun, hended, hW, hsame⟩ := X0.leave (v := some (.long (65535 : Int64))) (fun h => by rw [Bd.returns] at h; cases h)
    refine ⟨_, _, pre1 _ ?_, hrun, hended, _, _, rfl, ?_, ⟨_, rfl⟩, hW, hsame.mono (by decide) (by decide)⟩
    · show Steps p.tables e below (s₁.setTop (mkF m 2 #[.val (.int p1)] [(.int (3 : Int32)), (.int p1)])) _
      refine XS.icmpNo X0.here hx rfl (hb hby d2_2) rfl (teq hc2).2 ?_
      show Steps p.tables e below (s₁.setTop (mkF m 5 #[.val (.int p1)] [])) _
      refine X0.ldc2Long hx hown (mvT hZ (hw _ (List.mem_of_getElem? (i := 17) rfl))) (g := (mkF m 5 #[.val (.int p1)] [])) rfl (hb hby d2_5) _ ?_
      show Steps p.tables e below (s₁.setTop (mkF m 8 #[.val (.int p1)] [(.long (65535 : Int64))])) _
      exact X0.lreturnOut hx Bd.returns (hb hby d2_8) hr
    · show Q2 Z p1 h0 n0 _ s₁.heap _
      rw [e0]
      exact ⟨congrArg (fun z => some (Value.long z)) er.symm, N0, rfl⟩
  · have pre3 : ∀ t, Steps p.tables e below (s₁.setTop (mkF m 11 #[.val (.int p1)] [(.int (4 : Int32)), (.int p1)])) t → Steps p.tables e below (s₁.setTop (entryFrame m #[(.int p1)] 1)) t := fun t k => pre1 t (by
      show Steps p.tables e below (s₁.setTop (mkF m 2 #[.val (.int p1)] [(.int (3 : Int32)), (.int p1)])) _
      refine XS.icmpYes X0.here hx rfl (pc0 := 2) (pc' := 9) rfl (hb hby d2_2) rfl (feq hc2).2 (by decide) (by decide) ?_
      show Steps p.tables e below (s₁.setTop (mkF m 9 #[.val (.int p1)] [])) _
      refine XS.iloadN X0.here hx rfl (hb hby d2_9) rfl ?_
      show Steps p.tables e below (s₁.setTop (mkF m 10 #[.val (.int p1)] [(.int p1)])) _
      refine XS.iconst X0.here hx rfl (hb hby d2_10) ?_
      exact k)
    by_cases hc4 : p1 = (4 : Int32)
    · have er : (f2 p1) = (-1 : Int64) := by exact ((if_neg hc2).trans (if_pos hc4))
      obtain ⟨fs, hr, hrun, hended, hW, hsame⟩ := X0.leave (v := some (.long (-1 : Int64))) (fun h => by rw [Bd.returns] at h; cases h)
      refine ⟨_, _, pre3 _ ?_, hrun, hended, _, _, rfl, ?_, ⟨_, rfl⟩, hW, hsame.mono (by decide) (by decide)⟩
      · show Steps p.tables e below (s₁.setTop (mkF m 11 #[.val (.int p1)] [(.int (4 : Int32)), (.int p1)])) _
        refine XS.icmpNo X0.here hx rfl (hb hby d2_11) rfl (teq hc4).2 ?_
        show Steps p.tables e below (s₁.setTop (mkF m 14 #[.val (.int p1)] [])) _
        refine X0.ldc2Long hx hown (mvT hZ (hw _ (List.mem_of_getElem? (i := 23) rfl))) (g := (mkF m 14 #[.val (.int p1)] [])) rfl (hb hby d2_14) _ ?_
        show Steps p.tables e below (s₁.setTop (mkF m 17 #[.val (.int p1)] [(.long (-1 : Int64))])) _
        exact X0.lreturnOut hx Bd.returns (hb hby d2_17) hr
      · show Q2 Z p1 h0 n0 _ s₁.heap _
        rw [e0]
        exact ⟨congrArg (fun z => some (Value.long z)) er.symm, N0, rfl⟩
    · have er : (f2 p1) = (0 : Int64) := by exact ((if_neg hc2).trans (if_neg hc4))
      obtain ⟨fs, hr, hrun, hended, hW, hsame⟩ := X0.leave (v := some (.long (0 : Int64))) (fun h => by rw [Bd.returns] at h; cases h)
      refine ⟨_, _, pre3 _ ?_, hrun, hended, _, _, rfl, ?_, ⟨_, rfl⟩, hW, hsame.mono (by decide) (by decide)⟩
      · show Steps p.tables e below (s₁.setTop (mkF m 11 #[.val (.int p1)] [(.int (4 : Int32)), (.int p1)])) _
        refine XS.icmpYes X0.here hx rfl (pc0 := 11) (pc' := 18) rfl (hb hby d2_11) rfl (feq hc4).2 (by decide) (by decide) ?_
        show Steps p.tables e below (s₁.setTop (mkF m 18 #[.val (.int p1)] [])) _
        refine XS.lconst X0.here hx rfl (hb hby d2_18) ?_
        show Steps p.tables e below (s₁.setTop (mkF m 19 #[.val (.int p1)] [(.long (0 : Int64))])) _
        exact X0.lreturnOut hx Bd.returns (hb hby d2_19) hr
      · show Q2 Z p1 h0 n0 _ s₁.heap _
        rw [e0]
        exact ⟨congrArg (fun z => some (Value.long z)) er.symm, N0, rfl⟩
theorem d3_0 : decode method_6_code 0 = .ok (.iload_n 0, 1) := by decide +kernel
theorem d3_1 : decode method_6_code 1 = .ok (.iconst 3, 1) := by decide +kernel
theorem d3_2 : decode method_6_code 2 = .ok (.if_icmp .ne 7, 3) := by decide +kernel
theorem d3_5 : decode method_6_code 5 = .ok (.ldc2_w 37, 3) := by decide +kernel
theorem d3_8 : decode method_6_code 8 = .ok (.lreturn, 1) := by decide +kernel
theorem d3_9 : decode method_6_code 9 = .ok (.iload_n 0, 1) := by decide +kernel
theorem d3_10 : decode method_6_code 10 = .ok (.iconst 4, 1) := by decide +kernel
theorem d3_11 : decode method_6_code 11 = .ok (.if_icmp .ne 7, 3) := by decide +kernel
theorem d3_14 : decode method_6_code 14 = .ok (.ldc2_w 39, 3) := by decide +kernel
theorem d3_17 : decode method_6_code 17 = .ok (.lreturn, 1) := by decide +kernel
theorem d3_18 : decode method_6_code 18 = .ok (.lconst 0, 1) := by decide +kernel
theorem d3_19 : decode method_6_code 19 = .ok (.lreturn, 1) := by decide +kernel
theorem pn_3 : plainName "com/example/tagwire/tagwire/core/FloatValueEqualsPinLaw" = true := by first | (simp [plainName, overriddenIn]; done) | decide +kernel
theorem ef_3 (m : MethodId) (p1 : Int32) : entryFrame m #[(.int p1)] 1 = mkF m 0 #[.val (.int p1)] [] := by first | (simp [entryFrame, mkF, argsToLocals, Value.category]; done) | rfl
def f3 (p1 : Int32) : Int64 :=
  (if p1 = (3 : Int32) then (32767 : Int64) else (if p1 = (4 : Int32) then (9223090561878065152 : Int64) else (0 : Int64)))
def Q3 (Z : State) (p1 : Int32)  (h0 : Heap) (n0 : Nat) (v : Option Value) (h : Heap) (L : List Loc) : Prop := v = some (.long (f3 p1)) ∧ Fr n0 L ∧ h = h0
set_option maxRecDepth 65536 in
set_option maxHeartbeats 40000000 in
theorem rm3 (l : Launch) (Z : State) (a0 : Array Value) (hw : ∀ d ∈ tables_1, d.before a0 Z = true) (ws : List Jvm.Cond) (p1 : Int32)  (h0 : Heap) (n0 : Nat) (Z0 : n0 ≤ h0.size) :
    MetFree l (⟨"com/example/tagwire/tagwire/core/FloatValueEqualsPinLaw", "highExp", "(I)J"⟩ : MethodName) (head1 (Jvm.Cond.code (⟨"com/example/tagwire/tagwire/core/FloatValueEqualsPinLaw", "highExp", "(I)J"⟩ : MethodName) method_6_code 1 (some .long) :: ws) ({ frames := 0, cells := 0, slots := 0, locals := 0 } : Room)) (fun a U => a = #[(.int p1)] ∧ Z.Warmed39 U.vm ∧ U.heap = h0) (fun _ _ _ _ _ => True) (fun _ U o U' => ∃ v L, o = .returned v ∧ Q3 Z p1 h0 n0 v U'.heap L ∧ FrameEnd U o U' L ({ frames := 0, cells := 0, slots := 0, locals := 0 } : Room).cells ({ frames := 0, cells := 0, slots := 0, locals := 0 } : Room).slots) := by
  refine MetFree.of_bodySF (plainFor_of_name pn_3) hisR ?_
  intro p e s m args below meth c s₁ Bd hml0 hP hK
  obtain ⟨rfl, hZ, hh⟩ := hP
  have hx := Bd.exec
  have hby := Bd.bytes
  have hml : c.maxLocals = 1 := hml0
  have hown : s.vm.findClass "com/example/tagwire/tagwire/core/FloatValueEqualsPinLaw" = some m.cls := findClass_of_methodNamed Bd.named
  have hnm := (name_of_methodNamed Bd.named Bd.method).1
  have X0 : Stand p l e ({ frames := 0, cells := 0, slots := 0, locals := 0 } : Room) s m #[(.int p1)] below meth c s₁ [] 0 0 := Stand.of_body Bd
  have e0 : s₁.heap = h0 := by rw [← hh, Bd.state]; rfl
  have N0 := Fr.nil n0
  have pre0 : ∀ t, Steps p.tables e below (s₁.setTop (mkF m 0 #[.val (.int p1)] [])) t → Steps p.tables e below (s₁.setTop (entryFrame m #[(.int p1)] 1)) t := fun t k => castTop (ef_3 m p1) k
  have pre1 : ∀ t, Steps p.tables e below (s₁.setTop (mkF m 2 #[.val (.int p1)] [(.int (3 : Int32)), (.int p1)])) t → Steps p.tables e below (s₁.setTop (entryFrame m #[(.int p1)] 1)) t := fun t k => pre0 t (by
    show Steps p.tables e below (s₁.setTop (mkF m 0 #[.val (.int p1)] [])) _
    refine XS.iloadN X0.here hx rfl (hb hby d3_0) rfl ?_
    show Steps p.tables e below (s₁.setTop (mkF m 1 #[.val (.int p1)] [(.int p1)])) _
    refine XS.iconst X0.here hx rfl (hb hby d3_1) ?_
    exact k)
  by_cases hc2 : p1 = (3 : Int32)
  · have er : (f3 p1) = (32767 : Int64) := by exact (if_pos hc2)
    obtain ⟨fs, hr, hrun, hended, hW, hsame⟩ := X0.leave (v := some (.long (32767 : Int64))) (fun h => by rw [Bd.returns] at h; cases h)
    refine ⟨_, _, pre1 _ ?_, hrun, hended, _, _, rfl, ?_, ⟨_, rfl⟩, hW, hsame.mono (by decide) (by decide)⟩
    · show Steps p.tables e below (s₁.setTop (mkF m 2 #[.val (.int p1)] [(.int (3 : Int32)), (.int p1)])) _
      refine XS.icmpNo X0.here hx rfl (hb hby d3_2) rfl (teq hc2).2 ?_
      show Steps p.tables e below (s₁.setTop (mkF m 5 #[.val (.int p1)] [])) _
      refine X0.ldc2Long hx hown (mvT hZ (hw _ (List.mem_of_getElem? (i := 22) rfl))) (g := (mkF m 5 #[.val (.int p1)] [])) rfl (hb hby d3_5) _ ?_
      show Steps p.tables e below (s₁.setTop (mkF m 8 #[.val (.int p1)] [(.long (32767 : Int64))])) _
      exact X0.lreturnOut hx Bd.returns (hb hby d3_8) hr
    · show Q3 Z p1 h0 n0 _ s₁.heap _
      rw [e0]
      exact ⟨congrArg (fun z => some (Value.long z)) er.symm, N0, rfl⟩
  · have pre3 : ∀ t, Steps p.tables e below (s₁.setTop (mkF m 11 #[.val (.int p1)] [(.int (4 : Int32)), (.int p1)])) t → Steps p.tables e below (s₁.setTop (entryFrame m #[(.int p1)] 1)) t := fun t k => pre1 t (by
      show Steps p.tables e below (s₁.setTop (mkF m 2 #[.val (.int p1)] [(.int (3 : Int32)), (.int p1)])) _
      refine XS.icmpYes X0.here hx rfl (pc0 := 2) (pc' := 9) rfl (hb hby d3_2) rfl (feq hc2).2 (by decide) (by decide) ?_
      show Steps p.tables e below (s₁.setTop (mkF m 9 #[.val (.int p1)] [])) _
      refine XS.iloadN X0.here hx rfl (hb hby d3_9) rfl ?_
      show Steps p.tables e below (s₁.setTop (mkF m 10 #[.val (.int p1)] [(.int p1)])) _
      refine XS.iconst X0.here hx rfl (hb hby d3_10) ?_
      exact k)
    by_cases hc4 : p1 = (4 : Int32)
    · have er : (f3 p1) = (9223090561878065152 : Int64) := by exact ((if_neg hc2).trans (if_pos hc4))
      obtain ⟨fs, hr, hrun, hended, hW, hsame⟩ := X0.leave (v := some (.long (9223090561878065152 : Int64))) (fun h => by rw [Bd.returns] at h; cases h)
      refine ⟨_, _, pre3 _ ?_, hrun, hended, _, _, rfl, ?_, ⟨_, rfl⟩, hW, hsame.mono (by decide) (by decide)⟩
      · show Steps p.tables e below (s₁.setTop (mkF m 11 #[.val (.int p1)] [(.int (4 : Int32)), (.int p1)])) _
        refine XS.icmpNo X0.here hx rfl (hb hby d3_11) rfl (teq hc4).2 ?_
        show Steps p.tables e below (s₁.setTop (mkF m 14 #[.val (.int p1)] [])) _
        refine X0.ldc2Long hx hown (mvT hZ (hw _ (List.mem_of_getElem? (i := 166) rfl))) (g := (mkF m 14 #[.val (.int p1)] [])) rfl (hb hby d3_14) _ ?_
        show Steps p.tables e below (s₁.setTop (mkF m 17 #[.val (.int p1)] [(.long (9223090561878065152 : Int64))])) _
        exact X0.lreturnOut hx Bd.returns (hb hby d3_17) hr
      · show Q3 Z p1 h0 n0 _ s₁.heap _
        rw [e0]
        exact ⟨congrArg (fun z => some (Value.long z)) er.symm, N0, rfl⟩
    · have er : (f3 p1) = (0 : Int64) := by exact ((if_neg hc2).trans (if_neg hc4))
      obtain ⟨fs, hr, hrun, hended, hW, hsame⟩ := X0.leave (v := some (.long (0 : Int64))) (fun h => by rw [Bd.returns] at h; cases h)
      refine ⟨_, _, pre3 _ ?_, hrun, hended, _, _, rfl, ?_, ⟨_, rfl⟩, hW, hsame.mono (by decide) (by decide)⟩
      · show Steps p.tables e below (s₁.setTop (mkF m 11 #[.val (.int p1)] [(.int (4 : Int32)), (.int p1)])) _
        refine XS.icmpYes X0.here hx rfl (pc0 := 11) (pc' := 18) rfl (hb hby d3_11) rfl (feq hc4).2 (by decide) (by decide) ?_
        show Steps p.tables e below (s₁.setTop (mkF m 18 #[.val (.int p1)] [])) _
        refine XS.lconst X0.here hx rfl (hb hby d3_18) ?_
        show Steps p.tables e below (s₁.setTop (mkF m 19 #[.val (.int p1)] [(.long (0 : Int64))])) _
        exact X0.lreturnOut hx Bd.returns (hb hby d3_19) hr
      · show Q3 Z p1 h0 n0 _ s₁.heap _
        rw [e0]
        exact ⟨congrArg (fun z => some (Value.long z)) er.symm, N0, rfl⟩
theorem d26_0 : decode method_8_code 0 = .ok (.iload_n 0, 1) := by decide +kernel
theorem d26_1 : decode method_8_code 1 = .ok (.iconst 3, 1) := by decide +kernel
theorem d26_2 : decode method_8_code 2 = .ok (.if_icmp .ne 7, 3) := by decide +kernel
theorem d26_5 : decode method_8_code 5 = .ok (.ldc2_w 41, 3) := by decide +kernel
theorem d26_8 : decode method_8_code 8 = .ok (.lreturn, 1) := by decide +kernel
theorem d26_9 : decode method_8_code 9 = .ok (.iload_n 0, 1) := by decide +kernel
theorem d26_10 : decode method_8_code 10 = .ok (.iconst 4, 1) := by decide +kernel
theorem d26_11 : decode method_8_code 11 = .ok (.if_icmp .ne 7, 3) := by decide +kernel
theorem d26_14 : decode method_8_code 14 = .ok (.ldc2_w 45, 3) := by decide +kernel
theorem d26_17 : decode method_8_code 17 = .ok (.lreturn, 1) := by decide +kernel
theorem d26_18 : decode method_8_code 18 = .ok (.lconst 0, 1) := by decide +kernel
theorem d26_19 : decode method_8_code 19 = .ok (.lreturn, 1) := by decide +kernel
theorem pn_26 : plainName "com/example/tagwire/tagwire/core/FloatValueEqualsPinLaw" = true := by first | (simp [plainName, overriddenIn]; done) | decide +kernel
theorem ef_26 (m : MethodId) (p1 : Int32) : entryFrame m #[(.int p1)] 1 = mkF m 0 #[.val (.int p1)] [] := by first | (simp [entryFrame, mkF, argsToLocals, Value.category]; done) | rfl
def f26 (p1 : Int32) : Int64 :=
  (if p1 = (3 : Int32) then (16384 : Int64) else (if p1 = (4 : Int32) then (4611686018427387904 : Int64) else (0 : Int64)))
def Q26 (Z : State) (p1 : Int32)  (h0 : Heap) (n0 : Nat) (v : Option Value) (h : Heap) (L : List Loc) : Prop := v = some (.long (f26 p1)) ∧ Fr n0 L ∧ h = h0
set_option maxRecDepth 65536 in
set_option maxHeartbeats 40000000 in
theorem rm26 (l : Launch) (Z : State) (a0 : Array Value) (hw : ∀ d ∈ tables_1, d.before a0 Z = true) (ws : List Jvm.Cond) (p1 : Int32)  (h0 : Heap) (n0 : Nat) (Z0 : n0 ≤ h0.size) :
    MetFree l (⟨"com/example/tagwire/tagwire/core/FloatValueEqualsPinLaw", "highTop", "(I)J"⟩ : MethodName) (head1 (Jvm.Cond.code (⟨"com/example/tagwire/tagwire/core/FloatValueEqualsPinLaw", "highTop", "(I)J"⟩ : MethodName) method_8_code 1 (some .long) :: ws) ({ frames := 0, cells := 0, slots := 0, locals := 0 } : Room)) (fun a U => a = #[(.int p1)] ∧ Z.Warmed39 U.vm ∧ U.heap = h0) (fun _ _ _ _ _ => True) (fun _ U o U' => ∃ v L, o = .returned v ∧ Q26 Z p1 h0 n0 v U'.heap L ∧ FrameEnd U o U' L ({ frames := 0, cells := 0, slots := 0, locals := 0 } : Room).cells ({ frames := 0, cells := 0, slots := 0, locals := 0 } : Room).slots) := by
  refine MetFree.of_bodySF (plainFor_of_name pn_26) hisR ?_
  intro p e s m args below meth c s₁ Bd hml0 hP hK
  obtain ⟨rfl, hZ, hh⟩ := hP
  have hx := Bd.exec
  have hby := Bd.bytes
  have hml : c.maxLocals = 1 := hml0
  have hown : s.vm.findClass "com/example/tagwire/tagwire/core/FloatValueEqualsPinLaw" = some m.cls := findClass_of_methodNamed Bd.named
  have hnm := (name_of_methodNamed Bd.named Bd.method).1
  have X0 : Stand p l e ({ frames := 0, cells := 0, slots := 0, locals := 0 } : Room) s m #[(.int p1)] below meth c s₁ [] 0 0 := Stand.of_body Bd
  have e0 : s₁.heap = h0 := by rw [← hh, Bd.state]; rfl
  have N0 := Fr.nil n0
  have pre0 : ∀ t, Steps p.tables e below (s₁.setTop (mkF m 0 #[.val (.int p1)] [])) t → Steps p.tables e below (s₁.setTop (entryFrame m #[(.int p1)] 1)) t := fun t k => castTop (ef_26 m p1) k
  have pre1 : ∀ t, Steps p.tables e below (s₁.setTop (mkF m 2 #[.val (.int p1)] [(.int (3 : Int32)), (.int p1)])) t → Steps p.tables e below (s₁.setTop (entryFrame m #[(.int p1)] 1)) t := fun t k => pre0 t (by
    show Steps p.tables e below (s₁.setTop (mkF m 0 #[.val (.int p1)] [])) _
    refine XS.iloadN X0.here hx rfl (hb hby d26_0) rfl ?_
    show Steps p.tables e below (s₁.setTop (mkF m 1 #[.val (.int p1)] [(.int p1)])) _
    refine XS.iconst X0.here hx rfl (hb hby d26_1) ?_
    exact k)
  by_cases hc2 : p1 = (3 : Int32)
  · have er : (f26 p1) = (16384 : Int64) := by exact (if_pos hc2)
    obtain ⟨fs, hr, hrun, hended, hW, hsame⟩ := X0.leave (v := some (.long (16384 : Int64))) (fun h => by rw [Bd.returns] at h; cases h)
    refine ⟨_, _, pre1 _ ?_, hrun, hended, _, _, rfl, ?_, ⟨_, rfl⟩, hW, hsame.mono (by decide) (by decide)⟩
    · show Steps p.tables e below (s₁.setTop (mkF m 2 #[.val (.int p1)] [(.int (3 : Int32)), (.int p1)])) _
      refine XS.icmpNo X0.here hx rfl (hb hby d26_2) rfl (teq hc2).2 ?_
      show Steps p.tables e below (s₁.setTop (mkF m 5 #[.val (.int p1)] [])) _
      refine X0.ldc2Long hx hown (mvT hZ (hw _ (List.mem_of_getElem? (i := 169) rfl))) (g := (mkF m 5 #[.val (.int p1)] [])) rfl (hb hby d26_5) _ ?_
      show Steps p.tables e below (s₁.setTop (mkF m 8 #[.val (.int p1)] [(.long (16384 : Int64))])) _
      exact X0.lreturnOut hx Bd.returns (hb hby d26_8) hr
    · show Q26 Z p1 h0 n0 _ s₁.heap _
      rw [e0]
      exact ⟨congrArg (fun z => some (Value.long z)) er.symm, N0, rfl⟩
  · have pre3 : ∀ t, Steps p.tables e below (s₁.setTop (mkF m 11 #[.val (.int p1)] [(.int (4 : Int32)), (.int p1)])) t → Steps p.tables e below (s₁.setTop (entryFrame m #[(.int p1)] 1)) t := fun t k => pre1 t (by
      show Steps p.tables e below (s₁.setTop (mkF m 2 #[.val (.int p1)] [(.int (3 : Int32)), (.int p1)])) _
      refine XS.icmpYes X0.here hx rfl (pc0 := 2) (pc' := 9) rfl (hb hby d26_2) rfl (feq hc2).2 (by decide) (by decide) ?_
      show Steps p.tables e below (s₁.setTop (mkF m 9 #[.val (.int p1)] [])) _
      refine XS.iloadN X0.here hx rfl (hb hby d26_9) rfl ?_
      show Steps p.tables e below (s₁.setTop (mkF m 10 #[.val (.int p1)] [(.int p1)])) _
      refine XS.iconst X0.here hx rfl (hb hby d26_10) ?_
      exact k)
    by_cases hc4 : p1 = (4 : Int32)
    · have er : (f26 p1) = (4611686018427387904 : Int64) := by exact ((if_neg hc2).trans (if_pos hc4))
      obtain ⟨fs, hr, hrun, hended, hW, hsame⟩ := X0.leave (v := some (.long (4611686018427387904 : Int64))) (fun h => by rw [Bd.returns] at h; cases h)
      refine ⟨_, _, pre3 _ ?_, hrun, hended, _, _, rfl, ?_, ⟨_, rfl⟩, hW, hsame.mono (by decide) (by decide)⟩
      · show Steps p.tables e below (s₁.setTop (mkF m 11 #[.val (.int p1)] [(.int (4 : Int32)), (.int p1)])) _
        refine XS.icmpNo X0.here hx rfl (hb hby d26_11) rfl (teq hc4).2 ?_
        show Steps p.tables e below (s₁.setTop (mkF m 14 #[.val (.int p1)] [])) _
        refine X0.ldc2Long hx hown (mvT hZ (hw _ (List.mem_of_getElem? (i := 133) rfl))) (g := (mkF m 14 #[.val (.int p1)] [])) rfl (hb hby d26_14) _ ?_
        show Steps p.tables e below (s₁.setTop (mkF m 17 #[.val (.int p1)] [(.long (4611686018427387904 : Int64))])) _
        exact X0.lreturnOut hx Bd.returns (hb hby d26_17) hr
      · show Q26 Z p1 h0 n0 _ s₁.heap _
        rw [e0]
        exact ⟨congrArg (fun z => some (Value.long z)) er.symm, N0, rfl⟩
    · have er : (f26 p1) = (0 : Int64) := by exact ((if_neg hc2).trans (if_neg hc4))
      obtain ⟨fs, hr, hrun, hended, hW, hsame⟩ := X0.leave (v := some (.long (0 : Int64))) (fun h => by rw [Bd.returns] at h; cases h)
      refine ⟨_, _, pre3 _ ?_, hrun, hended, _, _, rfl, ?_, ⟨_, rfl⟩, hW, hsame.mono (by decide) (by decide)⟩
      · show Steps p.tables e below (s₁.setTop (mkF m 11 #[.val (.int p1)] [(.int (4 : Int32)), (.int p1)])) _
        refine XS.icmpYes X0.here hx rfl (pc0 := 11) (pc' := 18) rfl (hb hby d26_11) rfl (feq hc4).2 (by decide) (by decide) ?_
        show Steps p.tables e below (s₁.setTop (mkF m 18 #[.val (.int p1)] [])) _
        refine XS.lconst X0.here hx rfl (hb hby d26_18) ?_
        show Steps p.tables e below (s₁.setTop (mkF m 19 #[.val (.int p1)] [(.long (0 : Int64))])) _
        exact X0.lreturnOut hx Bd.returns (hb hby d26_19) hr
      · show Q26 Z p1 h0 n0 _ s₁.heap _
        rw [e0]
        exact ⟨congrArg (fun z => some (Value.long z)) er.symm, N0, rfl⟩
theorem d5_0 : decode method_3_code 0 = .ok (.iload_n 0, 1) := by decide +kernel
theorem d5_1 : decode method_3_code 1 = .ok (.ifCond .ne 7, 3) := by decide +kernel
theorem d5_4 : decode method_3_code 4 = .ok (.ldc2_w 25, 3) := by decide +kernel
theorem d5_7 : decode method_3_code 7 = .ok (.lreturn, 1) := by decide +kernel
theorem d5_8 : decode method_3_code 8 = .ok (.iload_n 0, 1) := by decide +kernel
theorem d5_9 : decode method_3_code 9 = .ok (.iconst 1, 1) := by decide +kernel
theorem d5_10 : decode method_3_code 10 = .ok (.if_icmp .ne 7, 3) := by decide +kernel
theorem d5_13 : decode method_3_code 13 = .ok (.ldc2_w 27, 3) := by decide +kernel
theorem d5_16 : decode method_3_code 16 = .ok (.lreturn, 1) := by decide +kernel
theorem d5_17 : decode method_3_code 17 = .ok (.ldc2_w 29, 3) := by decide +kernel
theorem d5_20 : decode method_3_code 20 = .ok (.lreturn, 1) := by decide +kernel
theorem pn_5 : plainName "com/example/tagwire/tagwire/core/FloatValueEqualsPinLaw" = true := by first | (simp [plainName, overriddenIn]; done) | decide +kernel
theorem ef_5 (m : MethodId) (p1 : Int32) : entryFrame m #[(.int p1)] 1 = mkF m 0 #[.val (.int p1)] [] := by first | (simp [entryFrame, mkF, argsToLocals, Value.category]; done) | rfl
def f5 (p1 : Int32) : Int64 :=
  (if p1 = (0 : Int32) then (65535 : Int64) else (if p1 = (1 : Int32) then (4294967295 : Int64) else (-1 : Int64)))
def Q5 (Z : State) (p1 : Int32)  (h0 : Heap) (n0 : Nat) (v : Option Value) (h : Heap) (L : List Loc) : Prop := v = some (.long (f5 p1)) ∧ Fr n0 L ∧ h = h0
set_option maxRecDepth 65536 in
set_option maxHeartbeats 40000000 in
theorem rm5 (l : Launch) (Z : State) (a0 : Array Value) (hw : ∀ d ∈ tables_1, d.before a0 Z = true) (ws : List Jvm.Cond) (p1 : Int32)  (h0 : Heap) (n0 : Nat) (Z0 : n0 ≤ h0.size) :
    MetFree l (⟨"com/example/tagwire/tagwire/core/FloatValueEqualsPinLaw", "lowWidth", "(I)J"⟩ : MethodName) (head1 (Jvm.Cond.code (⟨"com/example/tagwire/tagwire/core/FloatValueEqualsPinLaw", "lowWidth", "(I)J"⟩ : MethodName) method_3_code 1 (some .long) :: ws) ({ frames := 0, cells := 0, slots := 0, locals := 0 } : Room)) (fun a U => a = #[(.int p1)] ∧ Z.Warmed39 U.vm ∧ U.heap = h0) (fun _ _ _ _ _ => True) (fun _ U o U' => ∃ v L, o = .returned v ∧ Q5 Z p1 h0 n0 v U'.heap L ∧ FrameEnd U o U' L ({ frames := 0, cells := 0, slots := 0, locals := 0 } : Room).cells ({ frames := 0, cells := 0, slots := 0, locals := 0 } : Room).slots) := by
  refine MetFree.of_bodySF (plainFor_of_name pn_5) hisR ?_
  intro p e s m args below meth c s₁ Bd hml0 hP hK
  obtain ⟨rfl, hZ, hh⟩ := hP
  have hx := Bd.exec
  have hby := Bd.bytes
  have hml : c.maxLocals = 1 := hml0
  have hown : s.vm.findClass "com/example/tagwire/tagwire/core/FloatValueEqualsPinLaw" = some m.cls := findClass_of_methodNamed Bd.named
  have hnm := (name_of_methodNamed Bd.named Bd.method).1
  have X0 : Stand p l e ({ frames := 0, cells := 0, slots := 0, locals := 0 } : Room) s m #[(.int p1)] below meth c s₁ [] 0 0 := Stand.of_body Bd
  have e0 : s₁.heap = h0 := by rw [← hh, Bd.state]; rfl
  have N0 := Fr.nil n0
  have pre0 : ∀ t, Steps p.tables e below (s₁.setTop (mkF m 0 #[.val (.int p1)] [])) t → Steps p.tables e below (s₁.setTop (entryFrame m #[(.int p1)] 1)) t := fun t k => castTop (ef_5 m p1) k
  have pre1 : ∀ t, Steps p.tables e below (s₁.setTop (mkF m 1 #[.val (.int p1)] [(.int p1)])) t → Steps p.tables e below (s₁.setTop (entryFrame m #[(.int p1)] 1)) t := fun t k => pre0 t (by
    show Steps p.tables e below (s₁.setTop (mkF m 0 #[.val (.int p1)] [])) _
    refine XS.iloadN X0.here hx rfl (hb hby d5_0) rfl ?_
    exact k)
  by_cases hc2 : p1 = (0 : Int32)
  · have er : (f5 p1) = (65535 : Int64) := by exact (if_pos hc2)
    obtain ⟨fs, hr, hrun, hended, hW, hsame⟩ := X0.leave (v := some (.long (65535 : Int64))) (fun h => by rw [Bd.returns] at h; cases h)
    refine ⟨_, _, pre1 _ ?_, hrun, hended, _, _, rfl, ?_, ⟨_, rfl⟩, hW, hsame.mono (by decide) (by decide)⟩
    · show Steps p.tables e below (s₁.setTop (mkF m 1 #[.val (.int p1)] [(.int p1)])) _
      refine XS.ifNo X0.here hx rfl (hb hby d5_1) rfl ((if0 _ _).trans (teq hc2).2) ?_
      show Steps p.tables e below (s₁.setTop (mkF m 4 #[.val (.int p1)] [])) _
      refine X0.ldc2Long hx hown (mvT hZ (hw _ (List.mem_of_getElem? (i := 17) rfl))) (g := (mkF m 4 #[.val (.int p1)] [])) rfl (hb hby d5_4) _ ?_
      show Steps p.tables e below (s₁.setTop (mkF m 7 #[.val (.int p1)] [(.long (65535 : Int64))])) _
      exact X0.lreturnOut hx Bd.returns (hb hby d5_7) hr
    · show Q5 Z p1 h0 n0 _ s₁.heap _
      rw [e0]
      exact ⟨congrArg (fun z => some (Value.long z)) er.symm, N0, rfl⟩
  · have pre3 : ∀ t, Steps p.tables e below (s₁.setTop (mkF m 10 #[.val (.int p1)] [(.int (1 : Int32)), (.int p1)])) t → Steps p.tables e below (s₁.setTop (entryFrame m #[(.int p1)] 1)) t := fun t k => pre1 t (by
      show Steps p.tables e below (s₁.setTop (mkF m 1 #[.val (.int p1)] [(.int p1)])) _
      refine XS.ifYes X0.here hx rfl (pc0 := 1) (pc' := 8) rfl (hb hby d5_1) rfl ((if0 _ _).trans (feq hc2).2) (by decide) (by decide) ?_
      show Steps p.tables e below (s₁.setTop (mkF m 8 #[.val (.int p1)] [])) _
      refine XS.iloadN X0.here hx rfl (hb hby d5_8) rfl ?_
      show Steps p.tables e below (s₁.setTop (mkF m 9 #[.val (.int p1)] [(.int p1)])) _
      refine XS.iconst X0.here hx rfl (hb hby d5_9) ?_
      exact k)
    by_cases hc4 : p1 = (1 : Int32)
    · have er : (f5 p1) = (4294967295 : Int64) := by exact ((if_neg hc2).trans (if_pos hc4))
      obtain ⟨fs, hr, hrun, hended, hW, hsame⟩ := X0.leave (v := some (.long (4294967295 : Int64))) (fun h => by rw [Bd.returns] at h; cases h)
      refine ⟨_, _, pre3 _ ?_, hrun, hended, _, _, rfl, ?_, ⟨_, rfl⟩, hW, hsame.mono (by decide) (by decide)⟩
      · show Steps p.tables e below (s₁.setTop (mkF m 10 #[.val (.int p1)] [(.int (1 : Int32)), (.int p1)])) _
        refine XS.icmpNo X0.here hx rfl (hb hby d5_10) rfl (teq hc4).2 ?_
        show Steps p.tables e below (s₁.setTop (mkF m 13 #[.val (.int p1)] [])) _
        refine X0.ldc2Long hx hown (mvT hZ (hw _ (List.mem_of_getElem? (i := 136) rfl))) (g := (mkF m 13 #[.val (.int p1)] [])) rfl (hb hby d5_13) _ ?_
        show Steps p.tables e below (s₁.setTop (mkF m 16 #[.val (.int p1)] [(.long (4294967295 : Int64))])) _
        exact X0.lreturnOut hx Bd.returns (hb hby d5_16) hr
      · show Q5 Z p1 h0 n0 _ s₁.heap _
        rw [e0]
        exact ⟨congrArg (fun z => some (Value.long z)) er.symm, N0, rfl⟩
    · have er : (f5 p1) = (-1 : Int64) := by exact ((if_neg hc2).trans (if_neg hc4))
      obtain ⟨fs, hr, hrun, hended, hW, hsame⟩ := X0.leave (v := some (.long (-1 : Int64))) (fun h => by rw [Bd.returns] at h; cases h)
      refine ⟨_, _, pre3 _ ?_, hrun, hended, _, _, rfl, ?_, ⟨_, rfl⟩, hW, hsame.mono (by decide) (by decide)⟩
      · show Steps p.tables e below (s₁.setTop (mkF m 10 #[.val (.int p1)] [(.int (1 : Int32)), (.int p1)])) _
        refine XS.icmpYes X0.here hx rfl (pc0 := 10) (pc' := 17) rfl (hb hby d5_10) rfl (feq hc4).2 (by decide) (by decide) ?_
        show Steps p.tables e below (s₁.setTop (mkF m 17 #[.val (.int p1)] [])) _
        refine X0.ldc2Long hx hown (mvT hZ (hw _ (List.mem_of_getElem? (i := 23) rfl))) (g := (mkF m 17 #[.val (.int p1)] [])) rfl (hb hby d5_17) _ ?_
        show Steps p.tables e below (s₁.setTop (mkF m 20 #[.val (.int p1)] [(.long (-1 : Int64))])) _
        exact X0.lreturnOut hx Bd.returns (hb hby d5_20) hr
      · show Q5 Z p1 h0 n0 _ s₁.heap _
        rw [e0]
        exact ⟨congrArg (fun z => some (Value.long z)) er.symm, N0, rfl⟩
theorem d6_0 : decode method_5_code 0 = .ok (.iload_n 0, 1) := by decide +kernel
theorem d6_1 : decode method_5_code 1 = .ok (.ifCond .ne 7, 3) := by decide +kernel
theorem d6_4 : decode method_5_code 4 = .ok (.ldc2_w 31, 3) := by decide +kernel
theorem d6_7 : decode method_5_code 7 = .ok (.lreturn, 1) := by decide +kernel
theorem d6_8 : decode method_5_code 8 = .ok (.iload_n 0, 1) := by decide +kernel
theorem d6_9 : decode method_5_code 9 = .ok (.iconst 1, 1) := by decide +kernel
theorem d6_10 : decode method_5_code 10 = .ok (.if_icmp .ne 7, 3) := by decide +kernel
theorem d6_13 : decode method_5_code 13 = .ok (.ldc2_w 33, 3) := by decide +kernel
theorem d6_16 : decode method_5_code 16 = .ok (.lreturn, 1) := by decide +kernel
theorem d6_17 : decode method_5_code 17 = .ok (.iload_n 0, 1) := by decide +kernel
theorem d6_18 : decode method_5_code 18 = .ok (.iconst 2, 1) := by decide +kernel
theorem d6_19 : decode method_5_code 19 = .ok (.if_icmp .ne 7, 3) := by decide +kernel
theorem d6_22 : decode method_5_code 22 = .ok (.ldc2_w 35, 3) := by decide +kernel
theorem d6_25 : decode method_5_code 25 = .ok (.lreturn, 1) := by decide +kernel
theorem d6_26 : decode method_5_code 26 = .ok (.lconst 0, 1) := by decide +kernel
theorem d6_27 : decode method_5_code 27 = .ok (.lreturn, 1) := by decide +kernel
theorem pn_6 : plainName "com/example/tagwire/tagwire/core/FloatValueEqualsPinLaw" = true := by first | (simp [plainName, overriddenIn]; done) | decide +kernel
theorem ef_6 (m : MethodId) (p1 : Int32) : entryFrame m #[(.int p1)] 1 = mkF m 0 #[.val (.int p1)] [] := by first | (simp [entryFrame, mkF, argsToLocals, Value.category]; done) | rfl
def f6 (p1 : Int32) : Int64 :=
  (if p1 = (0 : Int32) then (31744 : Int64) else (if p1 = (1 : Int32) then (2139095040 : Int64) else (if p1 = (2 : Int32) then (9218868437227405312 : Int64) else (0 : Int64))))
def Q6 (Z : State) (p1 : Int32)  (h0 : Heap) (n0 : Nat) (v : Option Value) (h : Heap) (L : List Loc) : Prop := v = some (.long (f6 p1)) ∧ Fr n0 L ∧ h = h0
set_option maxRecDepth 65536 in
set_option maxHeartbeats 40000000 in
theorem rm6 (l : Launch) (Z : State) (a0 : Array Value) (hw : ∀ d ∈ tables_1, d.before a0 Z = true) (ws : List Jvm.Cond) (p1 : Int32)  (h0 : Heap) (n0 : Nat) (Z0 : n0 ≤ h0.size) :
    MetFree l (⟨"com/example/tagwire/tagwire/core/FloatValueEqualsPinLaw", "lowExp", "(I)J"⟩ : MethodName) (head1 (Jvm.Cond.code (⟨"com/example/tagwire/tagwire/core/FloatValueEqualsPinLaw", "lowExp", "(I)J"⟩ : MethodName) method_5_code 1 (some .long) :: ws) ({ frames := 0, cells := 0, slots := 0, locals := 0 } : Room)) (fun a U => a = #[(.int p1)] ∧ Z.Warmed39 U.vm ∧ U.heap = h0) (fun _ _ _ _ _ => True) (fun _ U o U' => ∃ v L, o = .returned v ∧ Q6 Z p1 h0 n0 v U'.heap L ∧ FrameEnd U o U' L ({ frames := 0, cells := 0, slots := 0, locals := 0 } : Room).cells ({ frames := 0, cells := 0, slots := 0, locals := 0 } : Room).slots) := by
  refine MetFree.of_bodySF (plainFor_of_name pn_6) hisR ?_
  intro p e s m args below meth c s₁ Bd hml0 hP hK
  obtain ⟨rfl, hZ, hh⟩ := hP
  have hx := Bd.exec
  have hby := Bd.bytes
  have hml : c.maxLocals = 1 := hml0
  have hown : s.vm.findClass "com/example/tagwire/tagwire/core/FloatValueEqualsPinLaw" = some m.cls := findClass_of_methodNamed Bd.named
  have hnm := (name_of_methodNamed Bd.named Bd.method).1
  have X0 : Stand p l e ({ frames := 0, cells := 0, slots := 0, locals := 0 } : Room) s m #[(.int p1)] below meth c s₁ [] 0 0 := Stand.of_body Bd
  have e0 : s₁.heap = h0 := by rw [← hh, Bd.state]; rfl
  have N0 := Fr.nil n0
  have pre0 : ∀ t, Steps p.tables e below (s₁.setTop (mkF m 0 #[.val (.int p1)] [])) t → Steps p.tables e below (s₁.setTop (entryFrame m #[(.int p1)] 1)) t := fun t k => castTop (ef_6 m p1) k
  have pre1 : ∀ t, Steps p.tables e below (s₁.setTop (mkF m 1 #[.val (.int p1)] [(.int p1)])) t → Steps p.tables e below (s₁.setTop (entryFrame m #[(.int p1)] 1)) t := fun t k => pre0 t (by
    show Steps p.tables e below (s₁.setTop (mkF m 0 #[.val (.int p1)] [])) _
    refine XS.iloadN X0.here hx rfl (hb hby d6_0) rfl ?_
    exact k)
  by_cases hc2 : p1 = (0 : Int32)
  · have er : (f6 p1) = (31744 : Int64) := by exact (if_pos hc2)
    obtain ⟨fs, hr, hrun, hended, hW, hsame⟩ := X0.leave (v := some (.long (31744 : Int64))) (fun h => by rw [Bd.returns] at h; cases h)
    refine ⟨_, _, pre1 _ ?_, hrun, hended, _, _, rfl, ?_, ⟨_, rfl⟩, hW, hsame.mono (by decide) (by decide)⟩
    · show Steps p.tables e below (s₁.setTop (mkF m 1 #[.val (.int p1)] [(.int p1)])) _
      refine XS.ifNo X0.here hx rfl (hb hby d6_1) rfl ((if0 _ _).trans (teq hc2).2) ?_
      show Steps p.tables e below (s₁.setTop (mkF m 4 #[.val (.int p1)] [])) _
      refine X0.ldc2Long hx hown (mvT hZ (hw _ (List.mem_of_getElem? (i := 21) rfl))) (g := (mkF m 4 #[.val (.int p1)] [])) rfl (hb hby d6_4) _ ?_
      show Steps p.tables e below (s₁.setTop (mkF m 7 #[.val (.int p1)] [(.long (31744 : Int64))])) _
      exact X0.lreturnOut hx Bd.returns (hb hby d6_7) hr
    · show Q6 Z p1 h0 n0 _ s₁.heap _
      rw [e0]
      exact ⟨congrArg (fun z => some (Value.long z)) er.symm, N0, rfl⟩
  · have pre3 : ∀ t, Steps p.tables e below (s₁.setTop (mkF m 10 #[.val (.int p1)] [(.int (1 : Int32)), (.int p1)])) t → Steps p.tables e below (s₁.setTop (entryFrame m #[(.int p1)] 1)) t := fun t k => pre1 t (by
      show Steps p.tables e below (s₁.setTop (mkF m 1 #[.val (.int p1)] [(.int p1)])) _
      refine XS.ifYes X0.here hx rfl (pc0 := 1) (pc' := 8) rfl (hb hby d6_1) rfl ((if0 _ _).trans (feq hc2).2) (by decide) (by decide) ?_
      show Steps p.tables e below (s₁.setTop (mkF m 8 #[.val (.int p1)] [])) _
      refine XS.iloadN X0.here hx rfl (hb hby d6_8) rfl ?_
      show Steps p.tables e below (s₁.setTop (mkF m 9 #[.val (.int p1)] [(.int p1)])) _
      refine XS.iconst X0.here hx rfl (hb hby d6_9) ?_
      exact k)
    by_cases hc4 : p1 = (1 : Int32)
    · have er : (f6 p1) = (2139095040 : Int64) := by exact ((if_neg hc2).trans (if_pos hc4))
      obtain ⟨fs, hr, hrun, hended, hW, hsame⟩ := X0.leave (v := some (.long (2139095040 : Int64))) (fun h => by rw [Bd.returns] at h; cases h)
      refine ⟨_, _, pre3 _ ?_, hrun, hended, _, _, rfl, ?_, ⟨_, rfl⟩, hW, hsame.mono (by decide) (by decide)⟩
      · show Steps p.tables e below (s₁.setTop (mkF m 10 #[.val (.int p1)] [(.int (1 : Int32)), (.int p1)])) _
        refine XS.icmpNo X0.here hx rfl (hb hby d6_10) rfl (teq hc4).2 ?_
        show Steps p.tables e below (s₁.setTop (mkF m 13 #[.val (.int p1)] [])) _
        refine X0.ldc2Long hx hown (mvT hZ (hw _ (List.mem_of_getElem? (i := 137) rfl))) (g := (mkF m 13 #[.val (.int p1)] [])) rfl (hb hby d6_13) _ ?_
        show Steps p.tables e below (s₁.setTop (mkF m 16 #[.val (.int p1)] [(.long (2139095040 : Int64))])) _
        exact X0.lreturnOut hx Bd.returns (hb hby d6_16) hr
      · show Q6 Z p1 h0 n0 _ s₁.heap _
        rw [e0]
        exact ⟨congrArg (fun z => some (Value.long z)) er.symm, N0, rfl⟩
    · have pre5 : ∀ t, Steps p.tables e below (s₁.setTop (mkF m 19 #[.val (.int p1)] [(.int (2 : Int32)), (.int p1)])) t → Steps p.tables e below (s₁.setTop (entryFrame m #[(.int p1)] 1)) t := fun t k => pre3 t (by
        show Steps p.tables e below (s₁.setTop (mkF m 10 #[.val (.int p1)] [(.int (1 : Int32)), (.int p1)])) _
        refine XS.icmpYes X0.here hx rfl (pc0 := 10) (pc' := 17) rfl (hb hby d6_10) rfl (feq hc4).2 (by decide) (by decide) ?_
        show Steps p.tables e below (s₁.setTop (mkF m 17 #[.val (.int p1)] [])) _
        refine XS.iloadN X0.here hx rfl (hb hby d6_17) rfl ?_
        show Steps p.tables e below (s₁.setTop (mkF m 18 #[.val (.int p1)] [(.int p1)])) _
        refine XS.iconst X0.here hx rfl (hb hby d6_18) ?_
        exact k)
      by_cases hc6 : p1 = (2 : Int32)
      · have er : (f6 p1) = (9218868437227405312 : Int64) := by exact ((if_neg hc2).trans ((if_neg hc4).trans (if_pos hc6)))
        obtain ⟨fs, hr, hrun, hended, hW, hsame⟩ := X0.leave (v := some (.long (9218868437227405312 : Int64))) (fun h => by rw [Bd.returns] at h; cases h)
        refine ⟨_, _, pre5 _ ?_, hrun, hended, _, _, rfl, ?_, ⟨_, rfl⟩, hW, hsame.mono (by decide) (by decide)⟩
        · show Steps p.tables e below (s₁.setTop (mkF m 19 #[.val (.int p1)] [(.int (2 : Int32)), (.int p1)])) _
          refine XS.icmpNo X0.here hx rfl (hb hby d6_19) rfl (teq hc6).2 ?_
          show Steps p.tables e below (s₁.setTop (mkF m 22 #[.val (.int p1)] [])) _
          refine X0.ldc2Long hx hown (mvT hZ (hw _ (List.mem_of_getElem? (i := 165) rfl))) (g := (mkF m 22 #[.val (.int p1)] [])) rfl (hb hby d6_22) _ ?_
          show Steps p.tables e below (s₁.setTop (mkF m 25 #[.val (.int p1)] [(.long (9218868437227405312 : Int64))])) _
          exact X0.lreturnOut hx Bd.returns (hb hby d6_25) hr
        · show Q6 Z p1 h0 n0 _ s₁.heap _
          rw [e0]
          exact ⟨congrArg (fun z => some (Value.long z)) er.symm, N0, rfl⟩
      · have er : (f6 p1) = (0 : Int64) := by exact ((if_neg hc2).trans ((if_neg hc4).trans (if_neg hc6)))
        obtain ⟨fs, hr, hrun, hended, hW, hsame⟩ := X0.leave (v := some (.long (0 : Int64))) (fun h => by rw [Bd.returns] at h; cases h)
        refine ⟨_, _, pre5 _ ?_, hrun, hended, _, _, rfl, ?_, ⟨_, rfl⟩, hW, hsame.mono (by decide) (by decide)⟩
        · show Steps p.tables e below (s₁.setTop (mkF m 19 #[.val (.int p1)] [(.int (2 : Int32)), (.int p1)])) _
          refine XS.icmpYes X0.here hx rfl (pc0 := 19) (pc' := 26) rfl (hb hby d6_19) rfl (feq hc6).2 (by decide) (by decide) ?_
          show Steps p.tables e below (s₁.setTop (mkF m 26 #[.val (.int p1)] [])) _
          refine XS.lconst X0.here hx rfl (hb hby d6_26) ?_
          show Steps p.tables e below (s₁.setTop (mkF m 27 #[.val (.int p1)] [(.long (0 : Int64))])) _
          exact X0.lreturnOut hx Bd.returns (hb hby d6_27) hr
        · show Q6 Z p1 h0 n0 _ s₁.heap _
          rw [e0]
          exact ⟨congrArg (fun z => some (Value.long z)) er.symm, N0, rfl⟩
theorem d27_0 : decode method_7_code 0 = .ok (.iload_n 0, 1) := by decide +kernel
theorem d27_1 : decode method_7_code 1 = .ok (.ifCond .ne 7, 3) := by decide +kernel
theorem d27_4 : decode method_7_code 4 = .ok (.ldc2_w 41, 3) := by decide +kernel
theorem d27_7 : decode method_7_code 7 = .ok (.lreturn, 1) := by decide +kernel
theorem d27_8 : decode method_7_code 8 = .ok (.iload_n 0, 1) := by decide +kernel
theorem d27_9 : decode method_7_code 9 = .ok (.iconst 1, 1) := by decide +kernel
theorem d27_10 : decode method_7_code 10 = .ok (.if_icmp .ne 7, 3) := by decide +kernel
theorem d27_13 : decode method_7_code 13 = .ok (.ldc2_w 43, 3) := by decide +kernel
theorem d27_16 : decode method_7_code 16 = .ok (.lreturn, 1) := by decide +kernel
theorem d27_17 : decode method_7_code 17 = .ok (.iload_n 0, 1) := by decide +kernel
theorem d27_18 : decode method_7_code 18 = .ok (.iconst 2, 1) := by decide +kernel
theorem d27_19 : decode method_7_code 19 = .ok (.if_icmp .ne 7, 3) := by decide +kernel
theorem d27_22 : decode method_7_code 22 = .ok (.ldc2_w 45, 3) := by decide +kernel
theorem d27_25 : decode method_7_code 25 = .ok (.lreturn, 1) := by decide +kernel
theorem d27_26 : decode method_7_code 26 = .ok (.lconst 0, 1) := by decide +kernel
theorem d27_27 : decode method_7_code 27 = .ok (.lreturn, 1) := by decide +kernel
theorem pn_27 : plainName "com/example/tagwire/tagwire/core/FloatValueEqualsPinLaw" = true := by first | (simp [plainName, overriddenIn]; done) | decide +kernel
theorem ef_27 (m : MethodId) (p1 : Int32) : entryFrame m #[(.int p1)] 1 = mkF m 0 #[.val (.int p1)] [] := by first | (simp [entryFrame, mkF, argsToLocals, Value.category]; done) | rfl
def f27 (p1 : Int32) : Int64 :=
  (if p1 = (0 : Int32) then (16384 : Int64) else (if p1 = (1 : Int32) then (1073741824 : Int64) else (if p1 = (2 : Int32) then (4611686018427387904 : Int64) else (0 : Int64))))
def Q27 (Z : State) (p1 : Int32)  (h0 : Heap) (n0 : Nat) (v : Option Value) (h : Heap) (L : List Loc) : Prop := v = some (.long (f27 p1)) ∧ Fr n0 L ∧ h = h0
set_option maxRecDepth 65536 in
set_option maxHeartbeats 40000000 in
theorem rm27 (l : Launch) (Z : State) (a0 : Array Value) (hw : ∀ d ∈ tables_1, d.before a0 Z = true) (ws : List Jvm.Cond) (p1 : Int32)  (h0 : Heap) (n0 : Nat) (Z0 : n0 ≤ h0.size) :
    MetFree l (⟨"com/example/tagwire/tagwire/core/FloatValueEqualsPinLaw", "lowTop", "(I)J"⟩ : MethodName) (head1 (Jvm.Cond.code (⟨"com/example/tagwire/tagwire/core/FloatValueEqualsPinLaw", "lowTop", "(I)J"⟩ : MethodName) method_7_code 1 (some .long) :: ws) ({ frames := 0, cells := 0, slots := 0, locals := 0 } : Room)) (fun a U => a = #[(.int p1)] ∧ Z.Warmed39 U.vm ∧ U.heap = h0) (fun _ _ _ _ _ => True) (fun _ U o U' => ∃ v L, o = .returned v ∧ Q27 Z p1 h0 n0 v U'.heap L ∧ FrameEnd U o U' L ({ frames := 0, cells := 0, slots := 0, locals := 0 } : Room).cells ({ frames := 0, cells := 0, slots := 0, locals := 0 } : Room).slots) := by
  refine MetFree.of_bodySF (plainFor_of_name pn_27) hisR ?_
  intro p e s m args below meth c s₁ Bd hml0 hP hK
  obtain ⟨rfl, hZ, hh⟩ := hP
  have hx := Bd.exec
  have hby := Bd.bytes
  have hml : c.maxLocals = 1 := hml0
  have hown : s.vm.findClass "com/example/tagwire/tagwire/core/FloatValueEqualsPinLaw" = some m.cls := findClass_of_methodNamed Bd.named
  have hnm := (name_of_methodNamed Bd.named Bd.method).1
  have X0 : Stand p l e ({ frames := 0, cells := 0, slots := 0, locals := 0 } : Room) s m #[(.int p1)] below meth c s₁ [] 0 0 := Stand.of_body Bd
  have e0 : s₁.heap = h0 := by rw [← hh, Bd.state]; rfl
  have N0 := Fr.nil n0
  have pre0 : ∀ t, Steps p.tables e below (s₁.setTop (mkF m 0 #[.val (.int p1)] [])) t → Steps p.tables e below (s₁.setTop (entryFrame m #[(.int p1)] 1)) t := fun t k => castTop (ef_27 m p1) k
  have pre1 : ∀ t, Steps p.tables e below (s₁.setTop (mkF m 1 #[.val (.int p1)] [(.int p1)])) t → Steps p.tables e below (s₁.setTop (entryFrame m #[(.int p1)] 1)) t := fun t k => pre0 t (by
    show Steps p.tables e below (s₁.setTop (mkF m 0 #[.val (.int p1)] [])) _
    refine XS.iloadN X0.here hx rfl (hb hby d27_0) rfl ?_
    exact k)
  by_cases hc2 : p1 = (0 : Int32)
  · have er : (f27 p1) = (16384 : Int64) := by exact (if_pos hc2)
    obtain ⟨fs, hr, hrun, hended, hW, hsame⟩ := X0.leave (v := some (.long (16384 : Int64))) (fun h => by rw [Bd.returns] at h; cases h)
    refine ⟨_, _, pre1 _ ?_, hrun, hended, _, _, rfl, ?_, ⟨_, rfl⟩, hW, hsame.mono (by decide) (by decide)⟩
    · show Steps p.tables e below (s₁.setTop (mkF m 1 #[.val (.int p1)] [(.int p1)])) _
      refine XS.ifNo X0.here hx rfl (hb hby d27_1) rfl ((if0 _ _).trans (teq hc2).2) ?_
      show Steps p.tables e below (s₁.setTop (mkF m 4 #[.val (.int p1)] [])) _
      refine X0.ldc2Long hx hown (mvT hZ (hw _ (List.mem_of_getElem? (i := 169) rfl))) (g := (mkF m 4 #[.val (.int p1)] [])) rfl (hb hby d27_4) _ ?_
      show Steps p.tables e below (s₁.setTop (mkF m 7 #[.val (.int p1)] [(.long (16384 : Int64))])) _
      exact X0.lreturnOut hx Bd.returns (hb hby d27_7) hr
    · show Q27 Z p1 h0 n0 _ s₁.heap _
      rw [e0]
      exact ⟨congrArg (fun z => some (Value.long z)) er.symm, N0, rfl⟩
  · have pre3 : ∀ t, Steps p.tables e below (s₁.setTop (mkF m 10 #[.val (.int p1)] [(.int (1 : Int32)), (.int p1)])) t → Steps p.tables e below (s₁.setTop (entryFrame m #[(.int p1)] 1)) t := fun t k => pre1 t (by
      show Steps p.tables e below (s₁.setTop (mkF m 1 #[.val (.int p1)] [(.int p1)])) _
      refine XS.ifYes X0.here hx rfl (pc0 := 1) (pc' := 8) rfl (hb hby d27_1) rfl ((if0 _ _).trans (feq hc2).2) (by decide) (by decide) ?_
      show Steps p.tables e below (s₁.setTop (mkF m 8 #[.val (.int p1)] [])) _
      refine XS.iloadN X0.here hx rfl (hb hby d27_8) rfl ?_
      show Steps p.tables e below (s₁.setTop (mkF m 9 #[.val (.int p1)] [(.int p1)])) _
      refine XS.iconst X0.here hx rfl (hb hby d27_9) ?_
      exact k)
    by_cases hc4 : p1 = (1 : Int32)
    · have er : (f27 p1) = (1073741824 : Int64) := by exact ((if_neg hc2).trans (if_pos hc4))
      obtain ⟨fs, hr, hrun, hended, hW, hsame⟩ := X0.leave (v := some (.long (1073741824 : Int64))) (fun h => by rw [Bd.returns] at h; cases h)
      refine ⟨_, _, pre3 _ ?_, hrun, hended, _, _, rfl, ?_, ⟨_, rfl⟩, hW, hsame.mono (by decide) (by decide)⟩
      · show Steps p.tables e below (s₁.setTop (mkF m 10 #[.val (.int p1)] [(.int (1 : Int32)), (.int p1)])) _
        refine XS.icmpNo X0.here hx rfl (hb hby d27_10) rfl (teq hc4).2 ?_
        show Steps p.tables e below (s₁.setTop (mkF m 13 #[.val (.int p1)] [])) _
        refine X0.ldc2Long hx hown (mvT hZ (hw _ (List.mem_of_getElem? (i := 138) rfl))) (g := (mkF m 13 #[.val (.int p1)] [])) rfl (hb hby d27_13) _ ?_
        show Steps p.tables e below (s₁.setTop (mkF m 16 #[.val (.int p1)] [(.long (1073741824 : Int64))])) _
        exact X0.lreturnOut hx Bd.returns (hb hby d27_16) hr
      · show Q27 Z p1 h0 n0 _ s₁.heap _
        rw [e0]
        exact ⟨congrArg (fun z => some (Value.long z)) er.symm, N0, rfl⟩
    · have pre5 : ∀ t, Steps p.tables e below (s₁.setTop (mkF m 19 #[.val (.int p1)] [(.int (2 : Int32)), (.int p1)])) t → Steps p.tables e below (s₁.setTop (entryFrame m #[(.int p1)] 1)) t := fun t k => pre3 t (by
        show Steps p.tables e below (s₁.setTop (mkF m 10 #[.val (.int p1)] [(.int (1 : Int32)), (.int p1)])) _
        refine XS.icmpYes X0.here hx rfl (pc0 := 10) (pc' := 17) rfl (hb hby d27_10) rfl (feq hc4).2 (by decide) (by decide) ?_
        show Steps p.tables e below (s₁.setTop (mkF m 17 #[.val (.int p1)] [])) _
        refine XS.iloadN X0.here hx rfl (hb hby d27_17) rfl ?_
        show Steps p.tables e below (s₁.setTop (mkF m 18 #[.val (.int p1)] [(.int p1)])) _
        refine XS.iconst X0.here hx rfl (hb hby d27_18) ?_
        exact k)
      by_cases hc6 : p1 = (2 : Int32)
      · have er : (f27 p1) = (4611686018427387904 : Int64) := by exact ((if_neg hc2).trans ((if_neg hc4).trans (if_pos hc6)))
        obtain ⟨fs, hr, hrun, hended, hW, hsame⟩ := X0.leave (v := some (.long (4611686018427387904 : Int64))) (fun h => by rw [Bd.returns] at h; cases h)
        refine ⟨_, _, pre5 _ ?_, hrun, hended, _, _, rfl, ?_, ⟨_, rfl⟩, hW, hsame.mono (by decide) (by decide)⟩
        · show Steps p.tables e below (s₁.setTop (mkF m 19 #[.val (.int p1)] [(.int (2 : Int32)), (.int p1)])) _
          refine XS.icmpNo X0.here hx rfl (hb hby d27_19) rfl (teq hc6).2 ?_
          show Steps p.tables e below (s₁.setTop (mkF m 22 #[.val (.int p1)] [])) _
          refine X0.ldc2Long hx hown (mvT hZ (hw _ (List.mem_of_getElem? (i := 133) rfl))) (g := (mkF m 22 #[.val (.int p1)] [])) rfl (hb hby d27_22) _ ?_
          show Steps p.tables e below (s₁.setTop (mkF m 25 #[.val (.int p1)] [(.long (4611686018427387904 : Int64))])) _
          exact X0.lreturnOut hx Bd.returns (hb hby d27_25) hr
        · show Q27 Z p1 h0 n0 _ s₁.heap _
          rw [e0]
          exact ⟨congrArg (fun z => some (Value.long z)) er.symm, N0, rfl⟩
      · have er : (f27 p1) = (0 : Int64) := by exact ((if_neg hc2).trans ((if_neg hc4).trans (if_neg hc6)))
        obtain ⟨fs, hr, hrun, hended, hW, hsame⟩ := X0.leave (v := some (.long (0 : Int64))) (fun h => by rw [Bd.returns] at h; cases h)
        refine ⟨_, _, pre5 _ ?_, hrun, hended, _, _, rfl, ?_, ⟨_, rfl⟩, hW, hsame.mono (by decide) (by decide)⟩
        · show Steps p.tables e below (s₁.setTop (mkF m 19 #[.val (.int p1)] [(.int (2 : Int32)), (.int p1)])) _
          refine XS.icmpYes X0.here hx rfl (pc0 := 19) (pc' := 26) rfl (hb hby d27_19) rfl (feq hc6).2 (by decide) (by decide) ?_
          show Steps p.tables e below (s₁.setTop (mkF m 26 #[.val (.int p1)] [])) _
          refine XS.lconst X0.here hx rfl (hb hby d27_26) ?_
          show Steps p.tables e below (s₁.setTop (mkF m 27 #[.val (.int p1)] [(.long (0 : Int64))])) _
          exact X0.lreturnOut hx Bd.returns (hb hby d27_27) hr
        · show Q27 Z p1 h0 n0 _ s₁.heap _
          rw [e0]
          exact ⟨congrArg (fun z => some (Value.long z)) er.symm, N0, rfl⟩
theorem pd_0 : parseMethodDescriptor "(I)J" = some ⟨[.int], some .long⟩ := by decide +kernel
theorem d1_0 : decode method_10_code 0 = .ok (.lload_n 1, 1) := by decide +kernel
theorem d1_1 : decode method_10_code 1 = .ok (.iload_n 0, 1) := by decide +kernel
theorem d1_2 : decode method_10_code 2 = .ok (.invokestatic 59, 3) := by decide +kernel
theorem d1_5 : decode method_10_code 5 = .ok (.land, 1) := by decide +kernel
theorem d1_6 : decode method_10_code 6 = .ok (.lstore 4, 2) := by decide +kernel
theorem d1_8 : decode method_10_code 8 = .ok (.iload_n 3, 1) := by decide +kernel
theorem d1_9 : decode method_10_code 9 = .ok (.ifCond .eq 13, 3) := by decide +kernel
theorem d1_12 : decode method_10_code 12 = .ok (.lload 4, 2) := by decide +kernel
theorem d1_14 : decode method_10_code 14 = .ok (.iload_n 0, 1) := by decide +kernel
theorem d1_15 : decode method_10_code 15 = .ok (.invokestatic 62, 3) := by decide +kernel
theorem d1_18 : decode method_10_code 18 = .ok (.lor, 1) := by decide +kernel
theorem d1_19 : decode method_10_code 19 = .ok (.goto 14, 3) := by decide +kernel
theorem d1_22 : decode method_10_code 22 = .ok (.lload 4, 2) := by decide +kernel
theorem d1_24 : decode method_10_code 24 = .ok (.iload_n 0, 1) := by decide +kernel
theorem d1_25 : decode method_10_code 25 = .ok (.invokestatic 65, 3) := by decide +kernel
theorem d1_28 : decode method_10_code 28 = .ok (.ldc2_w 29, 3) := by decide +kernel
theorem d1_31 : decode method_10_code 31 = .ok (.lxor, 1) := by decide +kernel
theorem d1_32 : decode method_10_code 32 = .ok (.land, 1) := by decide +kernel
theorem d1_33 : decode method_10_code 33 = .ok (.lreturn, 1) := by decide +kernel
theorem pn_1 : plainName "com/example/tagwire/tagwire/core/FloatValueEqualsPinLaw" = true := by first | (simp [plainName, overriddenIn]; done) | decide +kernel
theorem ef_1 (m : MethodId) (p1 : Int32) (q2 : Int64) (p3 : Int32) : entryFrame m #[(.int p1), (.long q2), (.int p3)] 6 = mkF m 0 #[.val (.int p1), .val (.long q2), .second, .val (.int p3), .unset, .unset] [] := by first | (simp [entryFrame, mkF, argsToLocals, Value.category]; done) | rfl
def f1 (p1 : Int32) (q2 : Int64) (p3 : Int32) : Int64 :=
  (if p3 = (0 : Int32) then ((q2 &&& (f2 p1)) &&& ((f26 p1) ^^^ (-1 : Int64))) else ((q2 &&& (f2 p1)) ||| (f3 p1)))
def Q1 (Z : State) (p1 : Int32) (q2 : Int64) (p3 : Int32)  (h0 : Heap) (n0 : Nat) (v : Option Value) (h : Heap) (L : List Loc) : Prop := v = some (.long (f1 p1 q2 p3)) ∧ Fr n0 L ∧ h = h0
set_option maxRecDepth 65536 in
set_option maxHeartbeats 40000000 in
theorem rm1 (l : Launch) (Z : State) (a0 : Array Value) (hw : ∀ d ∈ tables_1, d.before a0 Z = true) (ws : List Jvm.Cond) (p1 : Int32) (q2 : Int64) (p3 : Int32)  (h0 : Heap) (n0 : Nat) (Z0 : n0 ≤ h0.size) :
    MetFree l (⟨"com/example/tagwire/tagwire/core/FloatValueEqualsPinLaw", "encHigh", "(IJZ)J"⟩ : MethodName) (head1 (Jvm.Cond.code (⟨"com/example/tagwire/tagwire/core/FloatValueEqualsPinLaw", "encHigh", "(IJZ)J"⟩ : MethodName) method_10_code 6 (some .long) :: ws) ({ frames := 1, cells := 0, slots := 0, locals := 14 } : Room)) (fun a U => a = #[(.int p1), (.long q2), (.int p3)] ∧ Z.Warmed39 U.vm ∧ U.heap = h0) (fun _ _ _ _ _ => True) (fun _ U o U' => ∃ v L, o = .returned v ∧ Q1 Z p1 q2 p3 h0 n0 v U'.heap L ∧ FrameEnd U o U' L ({ frames := 1, cells := 0, slots := 0, locals := 14 } : Room).cells ({ frames := 1, cells := 0, slots := 0, locals := 14 } : Room).slots) := by
  refine MetFree.of_bodySF (plainFor_of_name pn_1) hisR ?_
  intro p e s m args below meth c s₁ Bd hml0 hP hK
  obtain ⟨rfl, hZ, hh⟩ := hP
  have hx := Bd.exec
  have hby := Bd.bytes
  have hml : c.maxLocals = 6 := hml0
  have hown : s.vm.findClass "com/example/tagwire/tagwire/core/FloatValueEqualsPinLaw" = some m.cls := findClass_of_methodNamed Bd.named
  have hnm := (name_of_methodNamed Bd.named Bd.method).1
  have X0 : Stand p l e ({ frames := 1, cells := 0, slots := 0, locals := 14 } : Room) s m #[(.int p1), (.long q2), (.int p3)] below meth c s₁ [] 0 0 := Stand.of_body Bd
  have e0 : s₁.heap = h0 := by rw [← hh, Bd.state]; rfl
  have N0 := Fr.nil n0
  have pre0 : ∀ t, Steps p.tables e below (s₁.setTop (mkF m 0 #[.val (.int p1), .val (.long q2), .second, .val (.int p3), .unset, .unset] [])) t → Steps p.tables e below (s₁.setTop (entryFrame m #[(.int p1), (.long q2), (.int p3)] 6)) t := fun t k => castTop (ef_1 m p1 q2 p3) k
  obtain ⟨_, _, ⟨T1, L1, k1, n1⟩, -, X1, ⟨Lc1, hQ1, l1, y1, z1⟩, st1⟩ := Jvm.LawKit.callS X0 hx (y := (⟨"com/example/tagwire/tagwire/core/FloatValueEqualsPinLaw", "highWidth", "(I)J"⟩ : MethodName)) hown (mvT hZ (hw _ (List.mem_of_getElem? (i := 5) rfl))) (mvT hZ (hw _ (List.mem_of_getElem? (i := 6) rfl))) (mvT hZ (hw _ (List.mem_of_getElem? (i := 3) rfl))) (mvT hZ (hw _ (List.mem_of_getElem? (i := 7) rfl))) (by decide) (backOf (W := 2) (rm2 l Z a0 hw [] p1 h0 n0 Z0) hZ (hw _ (List.mem_of_getElem? (i := 7) rfl)) (hw _ (List.mem_of_getElem? (i := 3) rfl)) (by decide) (by decide)) (g := (mkF m 2 #[.val (.int p1), .val (.long q2), .second, .val (.int p3), .unset, .unset] [(.int p1), (.long q2)])) rfl (by rw [hml]; rfl) (argsL := [(.int p1)]) (rest := [(.long q2)]) (lenOf pd_0 rfl) rfl (by show 2 * 0 + _ ≤ _; exact Nat.le_of_eq rfl) (hb hby d1_2) (fun _ _ => ⟨rfl, e0, (by decide : 0 + 0 ≤ _), (by decide : 0 + 0 ≤ _)⟩)
  dsimp only [Pt.U, Pt.locs, Pt.cells, Pt.slots] at X1 l1 y1 z1 st1 hQ1
  subst l1 y1 z1
  obtain ⟨rfl, N1q, e1⟩ := hQ1
  have N1 := Fr.app N0 N1q
  have pre2 : ∀ t, Steps p.tables e below (T1.setTop (mkF m 9 #[.val (.int p1), .val (.long q2), .second, .val (.int p3), .val (.long (q2 &&& (f2 p1))), .second] [(.int p3)])) t → Steps p.tables e below (s₁.setTop (entryFrame m #[(.int p1), (.long q2), (.int p3)] 6)) t := fun t k => pre0 t (by
    show Steps p.tables e below (s₁.setTop (mkF m 0 #[.val (.int p1), .val (.long q2), .second, .val (.int p3), .unset, .unset] [])) _
    refine XS.lloadN X0.here hx rfl (hb hby d1_0) rfl ?_
    show Steps p.tables e below (s₁.setTop (mkF m 1 #[.val (.int p1), .val (.long q2), .second, .val (.int p3), .unset, .unset] [(.long q2)])) _
    refine XS.iloadN X0.here hx rfl (hb hby d1_1) rfl ?_
    show Steps p.tables e below (s₁.setTop (mkF m 2 #[.val (.int p1), .val (.long q2), .second, .val (.int p3), .unset, .unset] [(.int p1), (.long q2)])) _
    refine st1 _ ?_
    show Steps p.tables e below (T1.setTop (mkF m 5 #[.val (.int p1), .val (.long q2), .second, .val (.int p3), .unset, .unset] [(.long (f2 p1)), (.long q2)])) _
    refine XS.land X1.here hx rfl (hb hby d1_5) rfl ?_
    show Steps p.tables e below (T1.setTop (mkF m 6 #[.val (.int p1), .val (.long q2), .second, .val (.int p3), .unset, .unset] [(.long (q2 &&& (f2 p1)))])) _
    refine XS.lstore X1.here hx rfl (hb hby d1_6) rfl (l' := #[.val (.int p1), .val (.long q2), .second, .val (.int p3), .val (.long (q2 &&& (f2 p1))), .second]) rfl ?_
    show Steps p.tables e below (T1.setTop (mkF m 8 #[.val (.int p1), .val (.long q2), .second, .val (.int p3), .val (.long (q2 &&& (f2 p1))), .second] [])) _
    refine XS.iloadN X1.here hx rfl (hb hby d1_8) rfl ?_
    exact k)
  by_cases hc3 : p3 = (0 : Int32)
  · obtain ⟨_, _, ⟨T4, L4, k4, n4⟩, -, X4, ⟨Lc4, hQ4, l4, y4, z4⟩, st4⟩ := Jvm.LawKit.callS X1 hx (y := (⟨"com/example/tagwire/tagwire/core/FloatValueEqualsPinLaw", "highTop", "(I)J"⟩ : MethodName)) hown (mvT hZ (hw _ (List.mem_of_getElem? (i := 127) rfl))) (mvT hZ (hw _ (List.mem_of_getElem? (i := 128) rfl))) (mvT hZ (hw _ (List.mem_of_getElem? (i := 3) rfl))) (mvT hZ (hw _ (List.mem_of_getElem? (i := 129) rfl))) (by decide) (backOf (W := 2) (rm26 l Z a0 hw [] p1 h0 n0 Z0) hZ (hw _ (List.mem_of_getElem? (i := 129) rfl)) (hw _ (List.mem_of_getElem? (i := 3) rfl)) (by decide) (by decide)) (g := (mkF m 25 #[.val (.int p1), .val (.long q2), .second, .val (.int p3), .val (.long (q2 &&& (f2 p1))), .second] [(.int p1), (.long (q2 &&& (f2 p1)))])) rfl (by rw [hml]; rfl) (argsL := [(.int p1)]) (rest := [(.long (q2 &&& (f2 p1)))]) (lenOf pd_0 rfl) rfl (by show 2 * 0 + _ ≤ _; exact Nat.le_of_eq rfl) (hb hby d1_25) (fun _ _ => ⟨rfl, e1, (by decide : 0 + 0 ≤ _), (by decide : 0 + 0 ≤ _)⟩)
    dsimp only [Pt.U, Pt.locs, Pt.cells, Pt.slots] at X4 l4 y4 z4 st4 hQ4
    subst l4 y4 z4
    obtain ⟨rfl, N4q, e4⟩ := hQ4
    have N4 := Fr.app N1 N4q
    have er : (f1 p1 q2 p3) = ((q2 &&& (f2 p1)) &&& ((f26 p1) ^^^ (-1 : Int64))) := by exact (if_pos hc3)
    obtain ⟨fs, hr, hrun, hended, hW, hsame⟩ := X4.leave (v := some (.long ((q2 &&& (f2 p1)) &&& ((f26 p1) ^^^ (-1 : Int64))))) (fun h => by rw [Bd.returns] at h; cases h)
    refine ⟨_, _, pre2 _ ?_, hrun, hended, _, _, rfl, ?_, ⟨_, rfl⟩, hW, hsame.mono (by decide) (by decide)⟩
    · show Steps p.tables e below (T1.setTop (mkF m 9 #[.val (.int p1), .val (.long q2), .second, .val (.int p3), .val (.long (q2 &&& (f2 p1))), .second] [(.int p3)])) _
      refine XS.ifYes X1.here hx rfl (pc0 := 9) (pc' := 22) rfl (hb hby d1_9) rfl ((if0 _ _).trans (teq hc3).1) (by decide) (by decide) ?_
      show Steps p.tables e below (T1.setTop (mkF m 22 #[.val (.int p1), .val (.long q2), .second, .val (.int p3), .val (.long (q2 &&& (f2 p1))), .second] [])) _
      refine XS.lload X1.here hx rfl (hb hby d1_22) rfl ?_
      show Steps p.tables e below (T1.setTop (mkF m 24 #[.val (.int p1), .val (.long q2), .second, .val (.int p3), .val (.long (q2 &&& (f2 p1))), .second] [(.long (q2 &&& (f2 p1)))])) _
      refine XS.iloadN X1.here hx rfl (hb hby d1_24) rfl ?_
      show Steps p.tables e below (T1.setTop (mkF m 25 #[.val (.int p1), .val (.long q2), .second, .val (.int p3), .val (.long (q2 &&& (f2 p1))), .second] [(.int p1), (.long (q2 &&& (f2 p1)))])) _
      refine st4 _ ?_
      show Steps p.tables e below (T4.setTop (mkF m 28 #[.val (.int p1), .val (.long q2), .second, .val (.int p3), .val (.long (q2 &&& (f2 p1))), .second] [(.long (f26 p1)), (.long (q2 &&& (f2 p1)))])) _
      refine X4.ldc2Long hx hown (mvT hZ (hw _ (List.mem_of_getElem? (i := 23) rfl))) (g := (mkF m 28 #[.val (.int p1), .val (.long q2), .second, .val (.int p3), .val (.long (q2 &&& (f2 p1))), .second] [(.long (f26 p1)), (.long (q2 &&& (f2 p1)))])) rfl (hb hby d1_28) _ ?_
      show Steps p.tables e below (T4.setTop (mkF m 31 #[.val (.int p1), .val (.long q2), .second, .val (.int p3), .val (.long (q2 &&& (f2 p1))), .second] [(.long (-1 : Int64)), (.long (f26 p1)), (.long (q2 &&& (f2 p1)))])) _
      refine XS.lxor X4.here hx rfl (hb hby d1_31) rfl ?_
      show Steps p.tables e below (T4.setTop (mkF m 32 #[.val (.int p1), .val (.long q2), .second, .val (.int p3), .val (.long (q2 &&& (f2 p1))), .second] [(.long ((f26 p1) ^^^ (-1 : Int64))), (.long (q2 &&& (f2 p1)))])) _
      refine XS.land X4.here hx rfl (hb hby d1_32) rfl ?_
      show Steps p.tables e below (T4.setTop (mkF m 33 #[.val (.int p1), .val (.long q2), .second, .val (.int p3), .val (.long (q2 &&& (f2 p1))), .second] [(.long ((q2 &&& (f2 p1)) &&& ((f26 p1) ^^^ (-1 : Int64))))])) _
      exact X4.lreturnOut hx Bd.returns (hb hby d1_33) hr
    · show Q1 Z p1 q2 p3 h0 n0 _ T4.heap _
      rw [e4]
      exact ⟨congrArg (fun z => some (Value.long z)) er.symm, N4, rfl⟩
  · obtain ⟨_, _, ⟨T5, L5, k5, n5⟩, -, X5, ⟨Lc5, hQ5, l5, y5, z5⟩, st5⟩ := Jvm.LawKit.callS X1 hx (y := (⟨"com/example/tagwire/tagwire/core/FloatValueEqualsPinLaw", "highExp", "(I)J"⟩ : MethodName)) hown (mvT hZ (hw _ (List.mem_of_getElem? (i := 8) rfl))) (mvT hZ (hw _ (List.mem_of_getElem? (i := 9) rfl))) (mvT hZ (hw _ (List.mem_of_getElem? (i := 3) rfl))) (mvT hZ (hw _ (List.mem_of_getElem? (i := 10) rfl))) (by decide) (backOf (W := 2) (rm3 l Z a0 hw [] p1 h0 n0 Z0) hZ (hw _ (List.mem_of_getElem? (i := 10) rfl)) (hw _ (List.mem_of_getElem? (i := 3) rfl)) (by decide) (by decide)) (g := (mkF m 15 #[.val (.int p1), .val (.long q2), .second, .val (.int p3), .val (.long (q2 &&& (f2 p1))), .second] [(.int p1), (.long (q2 &&& (f2 p1)))])) rfl (by rw [hml]; rfl) (argsL := [(.int p1)]) (rest := [(.long (q2 &&& (f2 p1)))]) (lenOf pd_0 rfl) rfl (by show 2 * 0 + _ ≤ _; exact Nat.le_of_eq rfl) (hb hby d1_15) (fun _ _ => ⟨rfl, e1, (by decide : 0 + 0 ≤ _), (by decide : 0 + 0 ≤ _)⟩)
    dsimp only [Pt.U, Pt.locs, Pt.cells, Pt.slots] at X5 l5 y5 z5 st5 hQ5
    subst l5 y5 z5
    obtain ⟨rfl, N5q, e5⟩ := hQ5
    have N5 := Fr.app N1 N5q
    have er : (f1 p1 q2 p3) = ((q2 &&& (f2 p1)) ||| (f3 p1)) := by exact (if_neg hc3)
    obtain ⟨fs, hr, hrun, hended, hW, hsame⟩ := X5.leave (v := some (.long ((q2 &&& (f2 p1)) ||| (f3 p1)))) (fun h => by rw [Bd.returns] at h; cases h)
    refine ⟨_, _, pre2 _ ?_, hrun, hended, _, _, rfl, ?_, ⟨_, rfl⟩, hW, hsame.mono (by decide) (by decide)⟩
    · show Steps p.tables e below (T1.setTop (mkF m 9 #[.val (.int p1), .val (.long q2), .second, .val (.int p3), .val (.long (q2 &&& (f2 p1))), .second] [(.int p3)])) _
      refine XS.ifNo X1.here hx rfl (hb hby d1_9) rfl ((if0 _ _).trans (feq hc3).1) ?_
      show Steps p.tables e below (T1.setTop (mkF m 12 #[.val (.int p1), .val (.long q2), .second, .val (.int p3), .val (.long (q2 &&& (f2 p1))), .second] [])) _
      refine XS.lload X1.here hx rfl (hb hby d1_12) rfl ?_
      show Steps p.tables e below (T1.setTop (mkF m 14 #[.val (.int p1), .val (.long q2), .second, .val (.int p3), .val (.long (q2 &&& (f2 p1))), .second] [(.long (q2 &&& (f2 p1)))])) _
      refine XS.iloadN X1.here hx rfl (hb hby d1_14) rfl ?_
      show Steps p.tables e below (T1.setTop (mkF m 15 #[.val (.int p1), .val (.long q2), .second, .val (.int p3), .val (.long (q2 &&& (f2 p1))), .second] [(.int p1), (.long (q2 &&& (f2 p1)))])) _
      refine st5 _ ?_
      show Steps p.tables e below (T5.setTop (mkF m 18 #[.val (.int p1), .val (.long q2), .second, .val (.int p3), .val (.long (q2 &&& (f2 p1))), .second] [(.long (f3 p1)), (.long (q2 &&& (f2 p1)))])) _
      refine XS.lor X5.here hx rfl (hb hby d1_18) rfl ?_
      show Steps p.tables e below (T5.setTop (mkF m 19 #[.val (.int p1), .val (.long q2), .second, .val (.int p3), .val (.long (q2 &&& (f2 p1))), .second] [(.long ((q2 &&& (f2 p1)) ||| (f3 p1)))])) _
      refine XS.goto X5.here hx rfl (pc0 := 19) (pc' := 33) rfl (hb hby d1_19) (by decide) (by decide) ?_
      show Steps p.tables e below (T5.setTop (mkF m 33 #[.val (.int p1), .val (.long q2), .second, .val (.int p3), .val (.long (q2 &&& (f2 p1))), .second] [(.long ((q2 &&& (f2 p1)) ||| (f3 p1)))])) _
      exact X5.lreturnOut hx Bd.returns (hb hby d1_33) hr
    · show Q1 Z p1 q2 p3 h0 n0 _ T5.heap _
      rw [e5]
      exact ⟨congrArg (fun z => some (Value.long z)) er.symm, N5, rfl⟩
theorem d4_0 : decode method_9_code 0 = .ok (.lload_n 1, 1) := by decide +kernel
theorem d4_1 : decode method_9_code 1 = .ok (.iload_n 0, 1) := by decide +kernel
theorem d4_2 : decode method_9_code 2 = .ok (.invokestatic 47, 3) := by decide +kernel
theorem d4_5 : decode method_9_code 5 = .ok (.land, 1) := by decide +kernel
theorem d4_6 : decode method_9_code 6 = .ok (.lstore 4, 2) := by decide +kernel
theorem d4_8 : decode method_9_code 8 = .ok (.iload_n 3, 1) := by decide +kernel
theorem d4_9 : decode method_9_code 9 = .ok (.ifCond .eq 15, 3) := by decide +kernel
theorem d4_12 : decode method_9_code 12 = .ok (.lload 4, 2) := by decide +kernel
theorem d4_14 : decode method_9_code 14 = .ok (.iload_n 0, 1) := by decide +kernel
theorem d4_15 : decode method_9_code 15 = .ok (.invokestatic 53, 3) := by decide +kernel
theorem d4_18 : decode method_9_code 18 = .ok (.lor, 1) := by decide +kernel
theorem d4_19 : decode method_9_code 19 = .ok (.lconst 1, 1) := by decide +kernel
theorem d4_20 : decode method_9_code 20 = .ok (.lor, 1) := by decide +kernel
theorem d4_21 : decode method_9_code 21 = .ok (.goto 14, 3) := by decide +kernel
theorem d4_24 : decode method_9_code 24 = .ok (.lload 4, 2) := by decide +kernel
theorem d4_26 : decode method_9_code 26 = .ok (.iload_n 0, 1) := by decide +kernel
theorem d4_27 : decode method_9_code 27 = .ok (.invokestatic 56, 3) := by decide +kernel
theorem d4_30 : decode method_9_code 30 = .ok (.ldc2_w 29, 3) := by decide +kernel
theorem d4_33 : decode method_9_code 33 = .ok (.lxor, 1) := by decide +kernel
theorem d4_34 : decode method_9_code 34 = .ok (.land, 1) := by decide +kernel
theorem d4_35 : decode method_9_code 35 = .ok (.lreturn, 1) := by decide +kernel
theorem pn_4 : plainName "com/example/tagwire/tagwire/core/FloatValueEqualsPinLaw" = true := by first | (simp [plainName, overriddenIn]; done) | decide +kernel
theorem ef_4 (m : MethodId) (p1 : Int32) (q2 : Int64) (p3 : Int32) : entryFrame m #[(.int p1), (.long q2), (.int p3)] 6 = mkF m 0 #[.val (.int p1), .val (.long q2), .second, .val (.int p3), .unset, .unset] [] := by first | (simp [entryFrame, mkF, argsToLocals, Value.category]; done) | rfl
def f4 (p1 : Int32) (q2 : Int64) (p3 : Int32) : Int64 :=
  (if p3 = (0 : Int32) then ((q2 &&& (f5 p1)) &&& ((f27 p1) ^^^ (-1 : Int64))) else (((q2 &&& (f5 p1)) ||| (f6 p1)) ||| (1 : Int64)))
def Q4 (Z : State) (p1 : Int32) (q2 : Int64) (p3 : Int32)  (h0 : Heap) (n0 : Nat) (v : Option Value) (h : Heap) (L : List Loc) : Prop := v = some (.long (f4 p1 q2 p3)) ∧ Fr n0 L ∧ h = h0
set_option maxRecDepth 65536 in
set_option maxHeartbeats 40000000 in
theorem rm4 (l : Launch) (Z : State) (a0 : Array Value) (hw : ∀ d ∈ tables_1, d.before a0 Z = true) (ws : List Jvm.Cond) (p1 : Int32) (q2 : Int64) (p3 : Int32)  (h0 : Heap) (n0 : Nat) (Z0 : n0 ≤ h0.size) :
    MetFree l (⟨"com/example/tagwire/tagwire/core/FloatValueEqualsPinLaw", "encLow", "(IJZ)J"⟩ : MethodName) (head1 (Jvm.Cond.code (⟨"com/example/tagwire/tagwire/core/FloatValueEqualsPinLaw", "encLow", "(IJZ)J"⟩ : MethodName) method_9_code 6 (some .long) :: ws) ({ frames := 1, cells := 0, slots := 0, locals := 14 } : Room)) (fun a U => a = #[(.int p1), (.long q2), (.int p3)] ∧ Z.Warmed39 U.vm ∧ U.heap = h0) (fun _ _ _ _ _ => True) (fun _ U o U' => ∃ v L, o = .returned v ∧ Q4 Z p1 q2 p3 h0 n0 v U'.heap L ∧ FrameEnd U o U' L ({ frames := 1, cells := 0, slots := 0, locals := 14 } : Room).cells ({ frames := 1, cells := 0, slots := 0, locals := 14 } : Room).slots) := by
  refine MetFree.of_bodySF (plainFor_of_name pn_4) hisR ?_
  intro p e s m args below meth c s₁ Bd hml0 hP hK
  obtain ⟨rfl, hZ, hh⟩ := hP
  have hx := Bd.exec
  have hby := Bd.bytes
  have hml : c.maxLocals = 6 := hml0
  have hown : s.vm.findClass "com/example/tagwire/tagwire/core/FloatValueEqualsPinLaw" = some m.cls := findClass_of_methodNamed Bd.named
  have hnm := (name_of_methodNamed Bd.named Bd.method).1
  have X0 : Stand p l e ({ frames := 1, cells := 0, slots := 0, locals := 14 } : Room) s m #[(.int p1), (.long q2), (.int p3)] below meth c s₁ [] 0 0 := Stand.of_body Bd
  have e0 : s₁.heap = h0 := by rw [← hh, Bd.state]; rfl
  have N0 := Fr.nil n0
  have pre0 : ∀ t, Steps p.tables e below (s₁.setTop (mkF m 0 #[.val (.int p1), .val (.long q2), .second, .val (.int p3), .unset, .unset] [])) t → Steps p.tables e below (s₁.setTop (entryFrame m #[(.int p1), (.long q2), (.int p3)] 6)) t := fun t k => castTop (ef_4 m p1 q2 p3) k
  obtain ⟨_, _, ⟨T1, L1, k1, n1⟩, -, X1, ⟨Lc1, hQ1, l1, y1, z1⟩, st1⟩ := Jvm.LawKit.callS X0 hx (y := (⟨"com/example/tagwire/tagwire/core/FloatValueEqualsPinLaw", "lowWidth", "(I)J"⟩ : MethodName)) hown (mvT hZ (hw _ (List.mem_of_getElem? (i := 14) rfl))) (mvT hZ (hw _ (List.mem_of_getElem? (i := 15) rfl))) (mvT hZ (hw _ (List.mem_of_getElem? (i := 3) rfl))) (mvT hZ (hw _ (List.mem_of_getElem? (i := 16) rfl))) (by decide) (backOf (W := 2) (rm5 l Z a0 hw [] p1 h0 n0 Z0) hZ (hw _ (List.mem_of_getElem? (i := 16) rfl)) (hw _ (List.mem_of_getElem? (i := 3) rfl)) (by decide) (by decide)) (g := (mkF m 2 #[.val (.int p1), .val (.long q2), .second, .val (.int p3), .unset, .unset] [(.int p1), (.long q2)])) rfl (by rw [hml]; rfl) (argsL := [(.int p1)]) (rest := [(.long q2)]) (lenOf pd_0 rfl) rfl (by show 2 * 0 + _ ≤ _; exact Nat.le_of_eq rfl) (hb hby d4_2) (fun _ _ => ⟨rfl, e0, (by decide : 0 + 0 ≤ _), (by decide : 0 + 0 ≤ _)⟩)
  dsimp only [Pt.U, Pt.locs, Pt.cells, Pt.slots] at X1 l1 y1 z1 st1 hQ1
  subst l1 y1 z1
  obtain ⟨rfl, N1q, e1⟩ := hQ1
  have N1 := Fr.app N0 N1q
  have pre2 : ∀ t, Steps p.tables e below (T1.setTop (mkF m 9 #[.val (.int p1), .val (.long q2), .second, .val (.int p3), .val (.long (q2 &&& (f5 p1))), .second] [(.int p3)])) t → Steps p.tables e below (s₁.setTop (entryFrame m #[(.int p1), (.long q2), (.int p3)] 6)) t := fun t k => pre0 t (by
    show Steps p.tables e below (s₁.setTop (mkF m 0 #[.val (.int p1), .val (.long q2), .second, .val (.int p3), .unset, .unset] [])) _
    refine XS.lloadN X0.here hx rfl (hb hby d4_0) rfl ?_
    show Steps p.tables e below (s₁.setTop (mkF m 1 #[.val (.int p1), .val (.long q2), .second, .val (.int p3), .unset, .unset] [(.long q2)])) _
    refine XS.iloadN X0.here hx rfl (hb hby d4_1) rfl ?_
    show Steps p.tables e below (s₁.setTop (mkF m 2 #[.val (.int p1), .val (.long q2), .second, .val (.int p3), .unset, .unset] [(.int p1), (.long q2)])) _
    refine st1 _ ?_
    show Steps p.tables e below (T1.setTop (mkF m 5 #[.val (.int p1), .val (.long q2), .second, .val (.int p3), .unset, .unset] [(.long (f5 p1)), (.long q2)])) _
    refine XS.land X1.here hx rfl (hb hby d4_5) rfl ?_
    show Steps p.tables e below (T1.setTop (mkF m 6 #[.val (.int p1), .val (.long q2), .second, .val (.int p3), .unset, .unset] [(.long (q2 &&& (f5 p1)))])) _
    refine XS.lstore X1.here hx rfl (hb hby d4_6) rfl (l' := #[.val (.int p1), .val (.long q2), .second, .val (.int p3), .val (.long (q2 &&& (f5 p1))), .second]) rfl ?_
    show Steps p.tables e below (T1.setTop (mkF m 8 #[.val (.int p1), .val (.long q2), .second, .val (.int p3), .val (.long (q2 &&& (f5 p1))), .second] [])) _
    refine XS.iloadN X1.here hx rfl (hb hby d4_8) rfl ?_
    exact k)
  by_cases hc3 : p3 = (0 : Int32)
  · obtain ⟨_, _, ⟨T4, L4, k4, n4⟩, -, X4, ⟨Lc4, hQ4, l4, y4, z4⟩, st4⟩ := Jvm.LawKit.callS X1 hx (y := (⟨"com/example/tagwire/tagwire/core/FloatValueEqualsPinLaw", "lowTop", "(I)J"⟩ : MethodName)) hown (mvT hZ (hw _ (List.mem_of_getElem? (i := 130) rfl))) (mvT hZ (hw _ (List.mem_of_getElem? (i := 131) rfl))) (mvT hZ (hw _ (List.mem_of_getElem? (i := 3) rfl))) (mvT hZ (hw _ (List.mem_of_getElem? (i := 132) rfl))) (by decide) (backOf (W := 2) (rm27 l Z a0 hw [] p1 h0 n0 Z0) hZ (hw _ (List.mem_of_getElem? (i := 132) rfl)) (hw _ (List.mem_of_getElem? (i := 3) rfl)) (by decide) (by decide)) (g := (mkF m 27 #[.val (.int p1), .val (.long q2), .second, .val (.int p3), .val (.long (q2 &&& (f5 p1))), .second] [(.int p1), (.long (q2 &&& (f5 p1)))])) rfl (by rw [hml]; rfl) (argsL := [(.int p1)]) (rest := [(.long (q2 &&& (f5 p1)))]) (lenOf pd_0 rfl) rfl (by show 2 * 0 + _ ≤ _; exact Nat.le_of_eq rfl) (hb hby d4_27) (fun _ _ => ⟨rfl, e1, (by decide : 0 + 0 ≤ _), (by decide : 0 + 0 ≤ _)⟩)
    dsimp only [Pt.U, Pt.locs, Pt.cells, Pt.slots] at X4 l4 y4 z4 st4 hQ4
    subst l4 y4 z4
    obtain ⟨rfl, N4q, e4⟩ := hQ4
    have N4 := Fr.app N1 N4q
    have er : (f4 p1 q2 p3) = ((q2 &&& (f5 p1)) &&& ((f27 p1) ^^^ (-1 : Int64))) := by exact (if_pos hc3)
    obtain ⟨fs, hr, hrun, hended, hW, hsame⟩ := X4.leave (v := some (.long ((q2 &&& (f5 p1)) &&& ((f27 p1) ^^^ (-1 : Int64))))) (fun h => by rw [Bd.returns] at h; cases h)
    refine ⟨_, _, pre2 _ ?_, hrun, hended, _, _, rfl, ?_, ⟨_, rfl⟩, hW, hsame.mono (by decide) (by decide)⟩
    · show Steps p.tables e below (T1.setTop (mkF m 9 #[.val (.int p1), .val (.long q2), .second, .val (.int p3), .val (.long (q2 &&& (f5 p1))), .second] [(.int p3)])) _
      refine XS.ifYes X1.here hx rfl (pc0 := 9) (pc' := 24) rfl (hb hby d4_9) rfl ((if0 _ _).trans (teq hc3).1) (by decide) (by decide) ?_
      show Steps p.tables e below (T1.setTop (mkF m 24 #[.val (.int p1), .val (.long q2), .second, .val (.int p3), .val (.long (q2 &&& (f5 p1))), .second] [])) _
      refine XS.lload X1.here hx rfl (hb hby d4_24) rfl ?_
      show Steps p.tables e below (T1.setTop (mkF m 26 #[.val (.int p1), .val (.long q2), .second, .val (.int p3), .val (.long (q2 &&& (f5 p1))), .second] [(.long (q2 &&& (f5 p1)))])) _
      refine XS.iloadN X1.here hx rfl (hb hby d4_26) rfl ?_
      show Steps p.tables e below (T1.setTop (mkF m 27 #[.val (.int p1), .val (.long q2), .second, .val (.int p3), .val (.long (q2 &&& (f5 p1))), .second] [(.int p1), (.long (q2 &&& (f5 p1)))])) _
      refine st4 _ ?_
      show Steps p.tables e below (T4.setTop (mkF m 30 #[.val (.int p1), .val (.long q2), .second, .val (.int p3), .val (.long (q2 &&& (f5 p1))), .second] [(.long (f27 p1)), (.long (q2 &&& (f5 p1)))])) _
      refine X4.ldc2Long hx hown (mvT hZ (hw _ (List.mem_of_getElem? (i := 23) rfl))) (g := (mkF m 30 #[.val (.int p1), .val (.long q2), .second, .val (.int p3), .val (.long (q2 &&& (f5 p1))), .second] [(.long (f27 p1)), (.long (q2 &&& (f5 p1)))])) rfl (hb hby d4_30) _ ?_
      show Steps p.tables e below (T4.setTop (mkF m 33 #[.val (.int p1), .val (.long q2), .second, .val (.int p3), .val (.long (q2 &&& (f5 p1))), .second] [(.long (-1 : Int64)), (.long (f27 p1)), (.long (q2 &&& (f5 p1)))])) _
      refine XS.lxor X4.here hx rfl (hb hby d4_33) rfl ?_
      show Steps p.tables e below (T4.setTop (mkF m 34 #[.val (.int p1), .val (.long q2), .second, .val (.int p3), .val (.long (q2 &&& (f5 p1))), .second] [(.long ((f27 p1) ^^^ (-1 : Int64))), (.long (q2 &&& (f5 p1)))])) _
      refine XS.land X4.here hx rfl (hb hby d4_34) rfl ?_
      show Steps p.tables e below (T4.setTop (mkF m 35 #[.val (.int p1), .val (.long q2), .second, .val (.int p3), .val (.long (q2 &&& (f5 p1))), .second] [(.long ((q2 &&& (f5 p1)) &&& ((f27 p1) ^^^ (-1 : Int64))))])) _
      exact X4.lreturnOut hx Bd.returns (hb hby d4_35) hr
    · show Q4 Z p1 q2 p3 h0 n0 _ T4.heap _
      rw [e4]
      exact ⟨congrArg (fun z => some (Value.long z)) er.symm, N4, rfl⟩
  · obtain ⟨_, _, ⟨T5, L5, k5, n5⟩, -, X5, ⟨Lc5, hQ5, l5, y5, z5⟩, st5⟩ := Jvm.LawKit.callS X1 hx (y := (⟨"com/example/tagwire/tagwire/core/FloatValueEqualsPinLaw", "lowExp", "(I)J"⟩ : MethodName)) hown (mvT hZ (hw _ (List.mem_of_getElem? (i := 18) rfl))) (mvT hZ (hw _ (List.mem_of_getElem? (i := 19) rfl))) (mvT hZ (hw _ (List.mem_of_getElem? (i := 3) rfl))) (mvT hZ (hw _ (List.mem_of_getElem? (i := 20) rfl))) (by decide) (backOf (W := 2) (rm6 l Z a0 hw [] p1 h0 n0 Z0) hZ (hw _ (List.mem_of_getElem? (i := 20) rfl)) (hw _ (List.mem_of_getElem? (i := 3) rfl)) (by decide) (by decide)) (g := (mkF m 15 #[.val (.int p1), .val (.long q2), .second, .val (.int p3), .val (.long (q2 &&& (f5 p1))), .second] [(.int p1), (.long (q2 &&& (f5 p1)))])) rfl (by rw [hml]; rfl) (argsL := [(.int p1)]) (rest := [(.long (q2 &&& (f5 p1)))]) (lenOf pd_0 rfl) rfl (by show 2 * 0 + _ ≤ _; exact Nat.le_of_eq rfl) (hb hby d4_15) (fun _ _ => ⟨rfl, e1, (by decide : 0 + 0 ≤ _), (by decide : 0 + 0 ≤ _)⟩)
    dsimp only [Pt.U, Pt.locs, Pt.cells, Pt.slots] at X5 l5 y5 z5 st5 hQ5
    subst l5 y5 z5
    obtain ⟨rfl, N5q, e5⟩ := hQ5
    have N5 := Fr.app N1 N5q
    have er : (f4 p1 q2 p3) = (((q2 &&& (f5 p1)) ||| (f6 p1)) ||| (1 : Int64)) := by exact (if_neg hc3)
    obtain ⟨fs, hr, hrun, hended, hW, hsame⟩ := X5.leave (v := some (.long (((q2 &&& (f5 p1)) ||| (f6 p1)) ||| (1 : Int64)))) (fun h => by rw [Bd.returns] at h; cases h)
    refine ⟨_, _, pre2 _ ?_, hrun, hended, _, _, rfl, ?_, ⟨_, rfl⟩, hW, hsame.mono (by decide) (by decide)⟩
    · show Steps p.tables e below (T1.setTop (mkF m 9 #[.val (.int p1), .val (.long q2), .second, .val (.int p3), .val (.long (q2 &&& (f5 p1))), .second] [(.int p3)])) _
      refine XS.ifNo X1.here hx rfl (hb hby d4_9) rfl ((if0 _ _).trans (feq hc3).1) ?_
      show Steps p.tables e below (T1.setTop (mkF m 12 #[.val (.int p1), .val (.long q2), .second, .val (.int p3), .val (.long (q2 &&& (f5 p1))), .second] [])) _
      refine XS.lload X1.here hx rfl (hb hby d4_12) rfl ?_
      show Steps p.tables e below (T1.setTop (mkF m 14 #[.val (.int p1), .val (.long q2), .second, .val (.int p3), .val (.long (q2 &&& (f5 p1))), .second] [(.long (q2 &&& (f5 p1)))])) _
      refine XS.iloadN X1.here hx rfl (hb hby d4_14) rfl ?_
      show Steps p.tables e below (T1.setTop (mkF m 15 #[.val (.int p1), .val (.long q2), .second, .val (.int p3), .val (.long (q2 &&& (f5 p1))), .second] [(.int p1), (.long (q2 &&& (f5 p1)))])) _
      refine st5 _ ?_
      show Steps p.tables e below (T5.setTop (mkF m 18 #[.val (.int p1), .val (.long q2), .second, .val (.int p3), .val (.long (q2 &&& (f5 p1))), .second] [(.long (f6 p1)), (.long (q2 &&& (f5 p1)))])) _
      refine XS.lor X5.here hx rfl (hb hby d4_18) rfl ?_
      show Steps p.tables e below (T5.setTop (mkF m 19 #[.val (.int p1), .val (.long q2), .second, .val (.int p3), .val (.long (q2 &&& (f5 p1))), .second] [(.long ((q2 &&& (f5 p1)) ||| (f6 p1)))])) _
      refine XS.lconst X5.here hx rfl (hb hby d4_19) ?_
      show Steps p.tables e below (T5.setTop (mkF m 20 #[.val (.int p1), .val (.long q2), .second, .val (.int p3), .val (.long (q2 &&& (f5 p1))), .second] [(.long (1 : Int64)), (.long ((q2 &&& (f5 p1)) ||| (f6 p1)))])) _
      refine XS.lor X5.here hx rfl (hb hby d4_20) rfl ?_
      show Steps p.tables e below (T5.setTop (mkF m 21 #[.val (.int p1), .val (.long q2), .second, .val (.int p3), .val (.long (q2 &&& (f5 p1))), .second] [(.long (((q2 &&& (f5 p1)) ||| (f6 p1)) ||| (1 : Int64)))])) _
      refine XS.goto X5.here hx rfl (pc0 := 21) (pc' := 35) rfl (hb hby d4_21) (by decide) (by decide) ?_
      show Steps p.tables e below (T5.setTop (mkF m 35 #[.val (.int p1), .val (.long q2), .second, .val (.int p3), .val (.long (q2 &&& (f5 p1))), .second] [(.long (((q2 &&& (f5 p1)) ||| (f6 p1)) ||| (1 : Int64)))])) _
      exact X5.lreturnOut hx Bd.returns (hb hby d4_35) hr
    · show Q4 Z p1 q2 p3 h0 n0 _ T5.heap _
      rw [e5]
      exact ⟨congrArg (fun z => some (Value.long z)) er.symm, N5, rfl⟩
theorem d7_0 : decode method_2_code 0 = .ok (.iload_n 0, 1) := by decide +kernel
theorem d7_1 : decode method_2_code 1 = .ok (.ifCond .ne 7, 3) := by decide +kernel
theorem d7_4 : decode method_2_code 4 = .ok (.getstatic 7, 3) := by decide +kernel
theorem d7_7 : decode method_2_code 7 = .ok (.areturn, 1) := by decide +kernel
theorem d7_8 : decode method_2_code 8 = .ok (.iload_n 0, 1) := by decide +kernel
theorem d7_9 : decode method_2_code 9 = .ok (.iconst 1, 1) := by decide +kernel
theorem d7_10 : decode method_2_code 10 = .ok (.if_icmp .ne 7, 3) := by decide +kernel
theorem d7_13 : decode method_2_code 13 = .ok (.getstatic 13, 3) := by decide +kernel
theorem d7_16 : decode method_2_code 16 = .ok (.areturn, 1) := by decide +kernel
theorem d7_17 : decode method_2_code 17 = .ok (.iload_n 0, 1) := by decide +kernel
theorem d7_18 : decode method_2_code 18 = .ok (.iconst 2, 1) := by decide +kernel
theorem d7_19 : decode method_2_code 19 = .ok (.if_icmp .ne 7, 3) := by decide +kernel
theorem d7_22 : decode method_2_code 22 = .ok (.getstatic 16, 3) := by decide +kernel
theorem d7_25 : decode method_2_code 25 = .ok (.areturn, 1) := by decide +kernel
theorem d7_26 : decode method_2_code 26 = .ok (.iload_n 0, 1) := by decide +kernel
theorem d7_27 : decode method_2_code 27 = .ok (.iconst 3, 1) := by decide +kernel
theorem d7_28 : decode method_2_code 28 = .ok (.if_icmp .ne 7, 3) := by decide +kernel
theorem d7_31 : decode method_2_code 31 = .ok (.getstatic 19, 3) := by decide +kernel
theorem d7_34 : decode method_2_code 34 = .ok (.areturn, 1) := by decide +kernel
theorem d7_35 : decode method_2_code 35 = .ok (.getstatic 22, 3) := by decide +kernel
theorem d7_38 : decode method_2_code 38 = .ok (.areturn, 1) := by decide +kernel
theorem pn_7 : plainName "com/example/tagwire/tagwire/core/FloatValueEqualsPinLaw" = true := by first | (simp [plainName, overriddenIn]; done) | decide +kernel
theorem ef_7 (m : MethodId) (p1 : Int32) : entryFrame m #[(.int p1)] 1 = mkF m 0 #[.val (.int p1)] [] := by first | (simp [entryFrame, mkF, argsToLocals, Value.category]; done) | rfl
def f7 (p1 : Int32) (s_BINARY16 : Addr) (s_BINARY32 : Addr) (s_BINARY64 : Addr) (s_EXTENDED80 : Addr) (s_BINARY128 : Addr) : Addr :=
  (if p1 = (0 : Int32) then s_BINARY16 else (if p1 = (1 : Int32) then s_BINARY32 else (if p1 = (2 : Int32) then s_BINARY64 else (if p1 = (3 : Int32) then s_EXTENDED80 else s_BINARY128))))
def Q7 (Z : State) (p1 : Int32) (s_BINARY16 : Addr) (s_BINARY32 : Addr) (s_BINARY64 : Addr) (s_EXTENDED80 : Addr) (s_BINARY128 : Addr) (h0 : Heap) (n0 : Nat) (v : Option Value) (h : Heap) (L : List Loc) : Prop := v = some (.ref (f7 p1 s_BINARY16 s_BINARY32 s_BINARY64 s_EXTENDED80 s_BINARY128)) ∧ Fr n0 L ∧ h = h0
set_option maxRecDepth 65536 in
set_option maxHeartbeats 40000000 in
theorem rm7 (l : Launch) (Z : State) (a0 : Array Value) (hw : ∀ d ∈ tables_1, d.before a0 Z = true) (ws : List Jvm.Cond) (p1 : Int32) (s_BINARY16 : Addr) (s_BINARY32 : Addr) (s_BINARY64 : Addr) (s_EXTENDED80 : Addr) (s_BINARY128 : Addr) (h0 : Heap) (n0 : Nat) (Z0 : n0 ≤ h0.size) (S_BINARY16 : Sta Z h0 "com/example/tagwire/tagwire/core/FloatFormat" "BINARY16" "Lcom/example/tagwire/tagwire/core/FloatFormat;" (.ref s_BINARY16)) (S_BINARY32 : Sta Z h0 "com/example/tagwire/tagwire/core/FloatFormat" "BINARY32" "Lcom/example/tagwire/tagwire/core/FloatFormat;" (.ref s_BINARY32)) (S_BINARY64 : Sta Z h0 "com/example/tagwire/tagwire/core/FloatFormat" "BINARY64" "Lcom/example/tagwire/tagwire/core/FloatFormat;" (.ref s_BINARY64)) (S_EXTENDED80 : Sta Z h0 "com/example/tagwire/tagwire/core/FloatFormat" "EXTENDED80" "Lcom/example/tagwire/tagwire/core/FloatFormat;" (.ref s_EXTENDED80)) (S_BINARY128 : Sta Z h0 "com/example/tagwire/tagwire/core/FloatFormat" "BINARY128" "Lcom/example/tagwire/tagwire/core/FloatFormat;" (.ref s_BINARY128)) :
    MetFree l (⟨"com/example/tagwire/tagwire/core/FloatValueEqualsPinLaw", "fmt", "(I)Lcom/example/tagwire/tagwire/core/FloatFormat;"⟩ : MethodName) (head1 (Jvm.Cond.code (⟨"com/example/tagwire/tagwire/core/FloatValueEqualsPinLaw", "fmt", "(I)Lcom/example/tagwire/tagwire/core/FloatFormat;"⟩ : MethodName) method_2_code 1 (some (.object "com/example/tagwire/tagwire/core/FloatFormat")) :: ws) ({ frames := 0, cells := 0, slots := 0, locals := 0 } : Room)) (fun a U => a = #[(.int p1)] ∧ Z.Warmed39 U.vm ∧ U.heap = h0) (fun _ _ _ _ _ => True) (fun _ U o U' => ∃ v L, o = .returned v ∧ Q7 Z p1 s_BINARY16 s_BINARY32 s_BINARY64 s_EXTENDED80 s_BINARY128 h0 n0 v U'.heap L ∧ FrameEnd U o U' L ({ frames := 0, cells := 0, slots := 0, locals := 0 } : Room).cells ({ frames := 0, cells := 0, slots := 0, locals := 0 } : Room).slots) := by
  refine MetFree.of_bodySF (plainFor_of_name pn_7) hisR ?_
  intro p e s m args below meth c s₁ Bd hml0 hP hK
  obtain ⟨rfl, hZ, hh⟩ := hP
  have hx := Bd.exec
  have hby := Bd.bytes
  have hml : c.maxLocals = 1 := hml0
  have hown : s.vm.findClass "com/example/tagwire/tagwire/core/FloatValueEqualsPinLaw" = some m.cls := findClass_of_methodNamed Bd.named
  have hnm := (name_of_methodNamed Bd.named Bd.method).1
  have X0 : Stand p l e ({ frames := 0, cells := 0, slots := 0, locals := 0 } : Room) s m #[(.int p1)] below meth c s₁ [] 0 0 := Stand.of_body Bd
  have e0 : s₁.heap = h0 := by rw [← hh, Bd.state]; rfl
  have N0 := Fr.nil n0
  have pre0 : ∀ t, Steps p.tables e below (s₁.setTop (mkF m 0 #[.val (.int p1)] [])) t → Steps p.tables e below (s₁.setTop (entryFrame m #[(.int p1)] 1)) t := fun t k => castTop (ef_7 m p1) k
  have pre1 : ∀ t, Steps p.tables e below (s₁.setTop (mkF m 1 #[.val (.int p1)] [(.int p1)])) t → Steps p.tables e below (s₁.setTop (entryFrame m #[(.int p1)] 1)) t := fun t k => pre0 t (by
    show Steps p.tables e below (s₁.setTop (mkF m 0 #[.val (.int p1)] [])) _
    refine XS.iloadN X0.here hx rfl (hb hby d7_0) rfl ?_
    exact k)
  by_cases hc2 : p1 = (0 : Int32)
  · obtain ⟨T3, X3, e3, st3⟩ := getS2 X0 hx hZ hown (host := "") (Or.inl (hw _ (List.mem_of_getElem? (i := 27) rfl))) Via.refl e0 S_BINARY16 (g := (mkF m 4 #[.val (.int p1)] [])) rfl (hb hby d7_4)
    have er : (f7 p1 s_BINARY16 s_BINARY32 s_BINARY64 s_EXTENDED80 s_BINARY128) = s_BINARY16 := by exact (if_pos hc2)
    obtain ⟨fs, hr, hrun, hended, hW, hsame⟩ := X3.leave (v := some (.ref s_BINARY16)) (fun h => by rw [Bd.returns] at h; cases h)
    refine ⟨_, _, pre1 _ ?_, hrun, hended, _, _, rfl, ?_, ⟨_, rfl⟩, hW, hsame.mono (by decide) (by decide)⟩
    · show Steps p.tables e below (s₁.setTop (mkF m 1 #[.val (.int p1)] [(.int p1)])) _
      refine XS.ifNo X0.here hx rfl (hb hby d7_1) rfl ((if0 _ _).trans (teq hc2).2) ?_
      show Steps p.tables e below (s₁.setTop (mkF m 4 #[.val (.int p1)] [])) _
      refine st3 _ ?_
      show Steps p.tables e below (T3.setTop (mkF m 7 #[.val (.int p1)] [(.ref s_BINARY16)])) _
      jvm_step X3.here [X3.here.top, hx, (hb hby d7_7), X3.method', Bd.returns, Value.isRef, FieldType.isReference]
      first | (intro acts; rw [hr _ acts rfl rfl rfl]) | rw [hr _ _ rfl rfl rfl]
      exact Steps.refl _
    · show Q7 Z p1 s_BINARY16 s_BINARY32 s_BINARY64 s_EXTENDED80 s_BINARY128 h0 n0 _ T3.heap _
      rw [e3]
      exact ⟨congrArg (fun z => some (Value.ref z)) er.symm, N0, rfl⟩
  · have pre4 : ∀ t, Steps p.tables e below (s₁.setTop (mkF m 10 #[.val (.int p1)] [(.int (1 : Int32)), (.int p1)])) t → Steps p.tables e below (s₁.setTop (entryFrame m #[(.int p1)] 1)) t := fun t k => pre1 t (by
      show Steps p.tables e below (s₁.setTop (mkF m 1 #[.val (.int p1)] [(.int p1)])) _
      refine XS.ifYes X0.here hx rfl (pc0 := 1) (pc' := 8) rfl (hb hby d7_1) rfl ((if0 _ _).trans (feq hc2).2) (by decide) (by decide) ?_
      show Steps p.tables e below (s₁.setTop (mkF m 8 #[.val (.int p1)] [])) _
      refine XS.iloadN X0.here hx rfl (hb hby d7_8) rfl ?_
      show Steps p.tables e below (s₁.setTop (mkF m 9 #[.val (.int p1)] [(.int p1)])) _
      refine XS.iconst X0.here hx rfl (hb hby d7_9) ?_
      exact k)
    by_cases hc5 : p1 = (1 : Int32)
    · obtain ⟨T6, X6, e6, st6⟩ := getS2 X0 hx hZ hown (host := "") (Or.inl (hw _ (List.mem_of_getElem? (i := 139) rfl))) Via.refl e0 S_BINARY32 (g := (mkF m 13 #[.val (.int p1)] [])) rfl (hb hby d7_13)
      have er : (f7 p1 s_BINARY16 s_BINARY32 s_BINARY64 s_EXTENDED80 s_BINARY128) = s_BINARY32 := by exact ((if_neg hc2).trans (if_pos hc5))
      obtain ⟨fs, hr, hrun, hended, hW, hsame⟩ := X6.leave (v := some (.ref s_BINARY32)) (fun h => by rw [Bd.returns] at h; cases h)
      refine ⟨_, _, pre4 _ ?_, hrun, hended, _, _, rfl, ?_, ⟨_, rfl⟩, hW, hsame.mono (by decide) (by decide)⟩
      · show Steps p.tables e below (s₁.setTop (mkF m 10 #[.val (.int p1)] [(.int (1 : Int32)), (.int p1)])) _
        refine XS.icmpNo X0.here hx rfl (hb hby d7_10) rfl (teq hc5).2 ?_
        show Steps p.tables e below (s₁.setTop (mkF m 13 #[.val (.int p1)] [])) _
        refine st6 _ ?_
        show Steps p.tables e below (T6.setTop (mkF m 16 #[.val (.int p1)] [(.ref s_BINARY32)])) _
        jvm_step X6.here [X6.here.top, hx, (hb hby d7_16), X6.method', Bd.returns, Value.isRef, FieldType.isReference]
        first | (intro acts; rw [hr _ acts rfl rfl rfl]) | rw [hr _ _ rfl rfl rfl]
        exact Steps.refl _
      · show Q7 Z p1 s_BINARY16 s_BINARY32 s_BINARY64 s_EXTENDED80 s_BINARY128 h0 n0 _ T6.heap _
        rw [e6]
        exact ⟨congrArg (fun z => some (Value.ref z)) er.symm, N0, rfl⟩
    · have pre7 : ∀ t, Steps p.tables e below (s₁.setTop (mkF m 19 #[.val (.int p1)] [(.int (2 : Int32)), (.int p1)])) t → Steps p.tables e below (s₁.setTop (entryFrame m #[(.int p1)] 1)) t := fun t k => pre4 t (by
        show Steps p.tables e below (s₁.setTop (mkF m 10 #[.val (.int p1)] [(.int (1 : Int32)), (.int p1)])) _
        refine XS.icmpYes X0.here hx rfl (pc0 := 10) (pc' := 17) rfl (hb hby d7_10) rfl (feq hc5).2 (by decide) (by decide) ?_
        show Steps p.tables e below (s₁.setTop (mkF m 17 #[.val (.int p1)] [])) _
        refine XS.iloadN X0.here hx rfl (hb hby d7_17) rfl ?_
        show Steps p.tables e below (s₁.setTop (mkF m 18 #[.val (.int p1)] [(.int p1)])) _
        refine XS.iconst X0.here hx rfl (hb hby d7_18) ?_
        exact k)
      by_cases hc8 : p1 = (2 : Int32)
      · obtain ⟨T9, X9, e9, st9⟩ := getS2 X0 hx hZ hown (host := "") (Or.inl (hw _ (List.mem_of_getElem? (i := 134) rfl))) Via.refl e0 S_BINARY64 (g := (mkF m 22 #[.val (.int p1)] [])) rfl (hb hby d7_22)
        have er : (f7 p1 s_BINARY16 s_BINARY32 s_BINARY64 s_EXTENDED80 s_BINARY128) = s_BINARY64 := by exact ((if_neg hc2).trans ((if_neg hc5).trans (if_pos hc8)))
        obtain ⟨fs, hr, hrun, hended, hW, hsame⟩ := X9.leave (v := some (.ref s_BINARY64)) (fun h => by rw [Bd.returns] at h; cases h)
        refine ⟨_, _, pre7 _ ?_, hrun, hended, _, _, rfl, ?_, ⟨_, rfl⟩, hW, hsame.mono (by decide) (by decide)⟩
        · show Steps p.tables e below (s₁.setTop (mkF m 19 #[.val (.int p1)] [(.int (2 : Int32)), (.int p1)])) _
          refine XS.icmpNo X0.here hx rfl (hb hby d7_19) rfl (teq hc8).2 ?_
          show Steps p.tables e below (s₁.setTop (mkF m 22 #[.val (.int p1)] [])) _
          refine st9 _ ?_
          show Steps p.tables e below (T9.setTop (mkF m 25 #[.val (.int p1)] [(.ref s_BINARY64)])) _
          jvm_step X9.here [X9.here.top, hx, (hb hby d7_25), X9.method', Bd.returns, Value.isRef, FieldType.isReference]
          first | (intro acts; rw [hr _ acts rfl rfl rfl]) | rw [hr _ _ rfl rfl rfl]
          exact Steps.refl _
        · show Q7 Z p1 s_BINARY16 s_BINARY32 s_BINARY64 s_EXTENDED80 s_BINARY128 h0 n0 _ T9.heap _
          rw [e9]
          exact ⟨congrArg (fun z => some (Value.ref z)) er.symm, N0, rfl⟩
      · have pre10 : ∀ t, Steps p.tables e below (s₁.setTop (mkF m 28 #[.val (.int p1)] [(.int (3 : Int32)), (.int p1)])) t → Steps p.tables e below (s₁.setTop (entryFrame m #[(.int p1)] 1)) t := fun t k => pre7 t (by
          show Steps p.tables e below (s₁.setTop (mkF m 19 #[.val (.int p1)] [(.int (2 : Int32)), (.int p1)])) _
          refine XS.icmpYes X0.here hx rfl (pc0 := 19) (pc' := 26) rfl (hb hby d7_19) rfl (feq hc8).2 (by decide) (by decide) ?_
          show Steps p.tables e below (s₁.setTop (mkF m 26 #[.val (.int p1)] [])) _
          refine XS.iloadN X0.here hx rfl (hb hby d7_26) rfl ?_
          show Steps p.tables e below (s₁.setTop (mkF m 27 #[.val (.int p1)] [(.int p1)])) _
          refine XS.iconst X0.here hx rfl (hb hby d7_27) ?_
          exact k)
        by_cases hc11 : p1 = (3 : Int32)
        · obtain ⟨T12, X12, e12, st12⟩ := getS2 X0 hx hZ hown (host := "") (Or.inl (hw _ (List.mem_of_getElem? (i := 119) rfl))) Via.refl e0 S_EXTENDED80 (g := (mkF m 31 #[.val (.int p1)] [])) rfl (hb hby d7_31)
          have er : (f7 p1 s_BINARY16 s_BINARY32 s_BINARY64 s_EXTENDED80 s_BINARY128) = s_EXTENDED80 := by exact ((if_neg hc2).trans ((if_neg hc5).trans ((if_neg hc8).trans (if_pos hc11))))
          obtain ⟨fs, hr, hrun, hended, hW, hsame⟩ := X12.leave (v := some (.ref s_EXTENDED80)) (fun h => by rw [Bd.returns] at h; cases h)
          refine ⟨_, _, pre10 _ ?_, hrun, hended, _, _, rfl, ?_, ⟨_, rfl⟩, hW, hsame.mono (by decide) (by decide)⟩
          · show Steps p.tables e below (s₁.setTop (mkF m 28 #[.val (.int p1)] [(.int (3 : Int32)), (.int p1)])) _
            refine XS.icmpNo X0.here hx rfl (hb hby d7_28) rfl (teq hc11).2 ?_
            show Steps p.tables e below (s₁.setTop (mkF m 31 #[.val (.int p1)] [])) _
            refine st12 _ ?_
            show Steps p.tables e below (T12.setTop (mkF m 34 #[.val (.int p1)] [(.ref s_EXTENDED80)])) _
            jvm_step X12.here [X12.here.top, hx, (hb hby d7_34), X12.method', Bd.returns, Value.isRef, FieldType.isReference]
            first | (intro acts; rw [hr _ acts rfl rfl rfl]) | rw [hr _ _ rfl rfl rfl]
            exact Steps.refl _
          · show Q7 Z p1 s_BINARY16 s_BINARY32 s_BINARY64 s_EXTENDED80 s_BINARY128 h0 n0 _ T12.heap _
            rw [e12]
            exact ⟨congrArg (fun z => some (Value.ref z)) er.symm, N0, rfl⟩
        · obtain ⟨T13, X13, e13, st13⟩ := getS2 X0 hx hZ hown (host := "") (Or.inl (hw _ (List.mem_of_getElem? (i := 167) rfl))) Via.refl e0 S_BINARY128 (g := (mkF m 35 #[.val (.int p1)] [])) rfl (hb hby d7_35)
          have er : (f7 p1 s_BINARY16 s_BINARY32 s_BINARY64 s_EXTENDED80 s_BINARY128) = s_BINARY128 := by exact ((if_neg hc2).trans ((if_neg hc5).trans ((if_neg hc8).trans (if_neg hc11))))
          obtain ⟨fs, hr, hrun, hended, hW, hsame⟩ := X13.leave (v := some (.ref s_BINARY128)) (fun h => by rw [Bd.returns] at h; cases h)
          refine ⟨_, _, pre10 _ ?_, hrun, hended, _, _, rfl, ?_, ⟨_, rfl⟩, hW, hsame.mono (by decide) (by decide)⟩
          · show Steps p.tables e below (s₁.setTop (mkF m 28 #[.val (.int p1)] [(.int (3 : Int32)), (.int p1)])) _
            refine XS.icmpYes X0.here hx rfl (pc0 := 28) (pc' := 35) rfl (hb hby d7_28) rfl (feq hc11).2 (by decide) (by decide) ?_
            show Steps p.tables e below (s₁.setTop (mkF m 35 #[.val (.int p1)] [])) _
            refine st13 _ ?_
            show Steps p.tables e below (T13.setTop (mkF m 38 #[.val (.int p1)] [(.ref s_BINARY128)])) _
            jvm_step X13.here [X13.here.top, hx, (hb hby d7_38), X13.method', Bd.returns, Value.isRef, FieldType.isReference]
            first | (intro acts; rw [hr _ acts rfl rfl rfl]) | rw [hr _ _ rfl rfl rfl]
            exact Steps.refl _
          · show Q7 Z p1 s_BINARY16 s_BINARY32 s_BINARY64 s_EXTENDED80 s_BINARY128 h0 n0 _ T13.heap _
            rw [e13]
            exact ⟨congrArg (fun z => some (Value.ref z)) er.symm, N0, rfl⟩
theorem d9_0 : decode prog_11_method_4_code 0 = .ok (.aload_n 0, 1) := by decide +kernel
theorem d9_1 : decode prog_11_method_4_code 1 = .ok (.getfield 38, 3) := by decide +kernel
theorem d9_4 : decode prog_11_method_4_code 4 = .ok (.ireturn, 1) := by decide +kernel
theorem pn_9 : plainName "com/example/tagwire/tagwire/core/FloatFormat" = true := by first | (simp [plainName, overriddenIn]; done) | decide +kernel
theorem ef_9 (m : MethodId) (a1 : Addr) : entryFrame m #[(.ref a1)] 1 = mkF m 0 #[.val (.ref a1)] [] := by first | (simp [entryFrame, mkF, argsToLocals, Value.category]; done) | rfl
def f9 (f_bytes_a1 : Int32) : Int32 :=
  f_bytes_a1
def Q9 (Z : State) (a1 : Addr) (f_bytes_a1 : Int32) (h0 : Heap) (n0 : Nat) (v : Option Value) (h : Heap) (L : List Loc) : Prop := v = some (.int (f9 f_bytes_a1)) ∧ Fr n0 L ∧ h = h0
set_option maxRecDepth 65536 in
set_option maxHeartbeats 40000000 in
theorem rm9 (l : Launch) (Z : State) (a0 : Array Value) (hw : ∀ d ∈ tables_1, d.before a0 Z = true) (ws : List Jvm.Cond) (a1 : Addr) (f_bytes_a1 : Int32) (h0 : Heap) (n0 : Nat) (Z0 : n0 ≤ h0.size) (F_bytes_a1 : Fld Z h0 a1 "com/example/tagwire/tagwire/core/FloatFormat" "bytes" "I" (.int f_bytes_a1)) :
    MetFree l (⟨"com/example/tagwire/tagwire/core/FloatFormat", "bytes", "()I"⟩ : MethodName) (head1 (Jvm.Cond.code (⟨"com/example/tagwire/tagwire/core/FloatFormat", "bytes", "()I"⟩ : MethodName) prog_11_method_4_code 1 (some .int) :: ws) ({ frames := 0, cells := 0, slots := 0, locals := 0 } : Room)) (fun a U => a = #[(.ref a1)] ∧ Z.Warmed39 U.vm ∧ U.heap = h0) (fun _ _ _ _ _ => True) (fun _ U o U' => ∃ v L, o = .returned v ∧ Q9 Z a1 f_bytes_a1 h0 n0 v U'.heap L ∧ FrameEnd U o U' L ({ frames := 0, cells := 0, slots := 0, locals := 0 } : Room).cells ({ frames := 0, cells := 0, slots := 0, locals := 0 } : Room).slots) := by
  refine MetFree.of_bodySF (plainFor_of_name pn_9) hisR ?_
  intro p e s m args below meth c s₁ Bd hml0 hP hK
  obtain ⟨rfl, hZ, hh⟩ := hP
  have hx := Bd.exec
  have hby := Bd.bytes
  have hml : c.maxLocals = 1 := hml0
  have hown : s.vm.findClass "com/example/tagwire/tagwire/core/FloatFormat" = some m.cls := findClass_of_methodNamed Bd.named
  have hnm := (name_of_methodNamed Bd.named Bd.method).1
  have X0 : Stand p l e ({ frames := 0, cells := 0, slots := 0, locals := 0 } : Room) s m #[(.ref a1)] below meth c s₁ [] 0 0 := Stand.of_body Bd
  have e0 : s₁.heap = h0 := by rw [← hh, Bd.state]; rfl
  have N0 := Fr.nil n0
  have pre0 : ∀ t, Steps p.tables e below (s₁.setTop (mkF m 0 #[.val (.ref a1)] [])) t → Steps p.tables e below (s₁.setTop (entryFrame m #[(.ref a1)] 1)) t := fun t k => castTop (ef_9 m a1) k
  obtain ⟨T1, X1, e1, st1⟩ := getF X0 hx hZ hown (host := "") (Or.inl (hw _ (List.mem_of_getElem? (i := 39) rfl))) Via.refl e0 F_bytes_a1 (g := (mkF m 1 #[.val (.ref a1)] [(.ref a1)])) rfl rfl (hb hby d9_1)
  have er : (f9 f_bytes_a1) = f_bytes_a1 := by exact rfl
  obtain ⟨fs, hr, hrun, hended, hW, hsame⟩ := X1.leave (v := some (.int f_bytes_a1)) (fun h => by rw [Bd.returns] at h; cases h)
  refine ⟨_, _, pre0 _ ?_, hrun, hended, _, _, rfl, ?_, ⟨_, rfl⟩, hW, hsame.mono (by decide) (by decide)⟩
  · show Steps p.tables e below (s₁.setTop (mkF m 0 #[.val (.ref a1)] [])) _
    refine XS.aloadN X0.here hx rfl (hb hby d9_0) rfl rfl ?_
    show Steps p.tables e below (s₁.setTop (mkF m 1 #[.val (.ref a1)] [(.ref a1)])) _
    refine st1 _ ?_
    show Steps p.tables e below (T1.setTop (mkF m 4 #[.val (.ref a1)] [(.int f_bytes_a1)])) _
    exact retI X1 hx Bd.returns (hb hby d9_4) hr
  · show Q9 Z a1 f_bytes_a1 h0 n0 _ T1.heap _
    rw [e1]
    exact ⟨congrArg (fun z => some (Value.int z)) er.symm, N0, rfl⟩
theorem d10_0 : decode prog_14_method_25_code 0 = .ok (.iload_n 0, 1) := by decide +kernel
theorem d10_1 : decode prog_14_method_25_code 1 = .ok (.ifCond .gt 5, 3) := by decide +kernel
theorem d10_4 : decode prog_14_method_25_code 4 = .ok (.lconst 0, 1) := by decide +kernel
theorem d10_5 : decode prog_14_method_25_code 5 = .ok (.lreturn, 1) := by decide +kernel
theorem d10_6 : decode prog_14_method_25_code 6 = .ok (.iload_n 0, 1) := by decide +kernel
theorem d10_7 : decode prog_14_method_25_code 7 = .ok (.bipush 64, 2) := by decide +kernel
theorem d10_9 : decode prog_14_method_25_code 9 = .ok (.if_icmp .lt 9, 3) := by decide +kernel
theorem d10_12 : decode prog_14_method_25_code 12 = .ok (.ldc2_w 46, 3) := by decide +kernel
theorem d10_15 : decode prog_14_method_25_code 15 = .ok (.goto 8, 3) := by decide +kernel
theorem d10_18 : decode prog_14_method_25_code 18 = .ok (.lconst 1, 1) := by decide +kernel
theorem d10_19 : decode prog_14_method_25_code 19 = .ok (.iload_n 0, 1) := by decide +kernel
theorem d10_20 : decode prog_14_method_25_code 20 = .ok (.lshl, 1) := by decide +kernel
theorem d10_21 : decode prog_14_method_25_code 21 = .ok (.lconst 1, 1) := by decide +kernel
theorem d10_22 : decode prog_14_method_25_code 22 = .ok (.lsub, 1) := by decide +kernel
theorem d10_23 : decode prog_14_method_25_code 23 = .ok (.lreturn, 1) := by decide +kernel
theorem pn_10 : plainName "com/example/tagwire/tagwire/core/FloatValue" = true := by first | (simp [plainName, overriddenIn]; done) | decide +kernel
theorem ef_10 (m : MethodId) (p1 : Int32) : entryFrame m #[(.int p1)] 1 = mkF m 0 #[.val (.int p1)] [] := by first | (simp [entryFrame, mkF, argsToLocals, Value.category]; done) | rfl
def f10 (p1 : Int32) : Int64 :=
  (if (0 : Int32) < p1 then (if p1 < (64 : Int32) then (((1 : Int64) <<< (p1 &&& 0x3f).toInt64) - (1 : Int64)) else (-1 : Int64)) else (0 : Int64))
def Q10 (Z : State) (p1 : Int32)  (h0 : Heap) (n0 : Nat) (v : Option Value) (h : Heap) (L : List Loc) : Prop := v = some (.long (f10 p1)) ∧ Fr n0 L ∧ h = h0
set_option maxRecDepth 65536 in
set_option maxHeartbeats 40000000 in
theorem rm10 (l : Launch) (Z : State) (a0 : Array Value) (hw : ∀ d ∈ tables_1, d.before a0 Z = true) (ws : List Jvm.Cond) (p1 : Int32)  (h0 : Heap) (n0 : Nat) (Z0 : n0 ≤ h0.size) :
    MetFree l (⟨"com/example/tagwire/tagwire/core/FloatValue", "mask", "(I)J"⟩ : MethodName) (head1 (Jvm.Cond.code (⟨"com/example/tagwire/tagwire/core/FloatValue", "mask", "(I)J"⟩ : MethodName) prog_14_method_25_code 1 (some .long) :: ws) ({ frames := 0, cells := 0, slots := 0, locals := 0 } : Room)) (fun a U => a = #[(.int p1)] ∧ Z.Warmed39 U.vm ∧ U.heap = h0) (fun _ _ _ _ _ => True) (fun _ U o U' => ∃ v L, o = .returned v ∧ Q10 Z p1 h0 n0 v U'.heap L ∧ FrameEnd U o U' L ({ frames := 0, cells := 0, slots := 0, locals := 0 } : Room).cells ({ frames := 0, cells := 0, slots := 0, locals := 0 } : Room).slots) := by
  refine MetFree.of_bodySF (plainFor_of_name pn_10) hisR ?_
  intro p e s m args below meth c s₁ Bd hml0 hP hK
  obtain ⟨rfl, hZ, hh⟩ := hP
  have hx := Bd.exec
  have hby := Bd.bytes
  have hml : c.maxLocals = 1 := hml0
  have hown : s.vm.findClass "com/example/tagwire/tagwire/core/FloatValue" = some m.cls := findClass_of_methodNamed Bd.named
  have hnm := (name_of_methodNamed Bd.named Bd.method).1
  have X0 : Stand p l e ({ frames := 0, cells := 0, slots := 0, locals := 0 } : Room) s m #[(.int p1)] below meth c s₁ [] 0 0 := Stand.of_body Bd
  have e0 : s₁.heap = h0 := by rw [← hh, Bd.state]; rfl
  have N0 := Fr.nil n0
  have pre0 : ∀ t, Steps p.tables e below (s₁.setTop (mkF m 0 #[.val (.int p1)] [])) t → Steps p.tables e below (s₁.setTop (entryFrame m #[(.int p1)] 1)) t := fun t k => castTop (ef_10 m p1) k
  have pre1 : ∀ t, Steps p.tables e below (s₁.setTop (mkF m 1 #[.val (.int p1)] [(.int p1)])) t → Steps p.tables e below (s₁.setTop (entryFrame m #[(.int p1)] 1)) t := fun t k => pre0 t (by
    show Steps p.tables e below (s₁.setTop (mkF m 0 #[.val (.int p1)] [])) _
    refine XS.iloadN X0.here hx rfl (hb hby d10_0) rfl ?_
    exact k)
  by_cases hc2 : (0 : Int32) < p1
  · obtain ⟨v4, hv4⟩ : ∃ z : Int64, z = (if p1 < (64 : Int32) then (((1 : Int64) <<< (p1 &&& 0x3f).toInt64) - (1 : Int64)) else (-1 : Int64)) := ⟨_, rfl⟩
    have pre5 : ∀ t, Steps p.tables e below (s₁.setTop (mkF m 23 #[.val (.int p1)] [(.long v4)])) t → Steps p.tables e below (s₁.setTop (entryFrame m #[(.int p1)] 1)) t := fun t k => pre1 t (by
      show Steps p.tables e below (s₁.setTop (mkF m 1 #[.val (.int p1)] [(.int p1)])) _
      refine XS.ifYes X0.here hx rfl (pc0 := 1) (pc' := 6) rfl (hb hby d10_1) rfl ((if0 _ _).trans (tlt hc2).2.2.1) (by decide) (by decide) ?_
      show Steps p.tables e below (s₁.setTop (mkF m 6 #[.val (.int p1)] [])) _
      refine XS.iloadN X0.here hx rfl (hb hby d10_6) rfl ?_
      show Steps p.tables e below (s₁.setTop (mkF m 7 #[.val (.int p1)] [(.int p1)])) _
      refine XS.bipush X0.here hx rfl (hb hby d10_7) ?_
      show Steps p.tables e below (s₁.setTop (mkF m 9 #[.val (.int p1)] [(.int (64 : Int32)), (.int p1)])) _
      by_cases hc3 : p1 < (64 : Int32)
      · refine XS.icmpYes X0.here hx rfl (pc0 := 9) (pc' := 18) rfl (hb hby d10_9) rfl (tlt hc3).1 (by decide) (by decide) ?_
        show Steps p.tables e below (s₁.setTop (mkF m 18 #[.val (.int p1)] [])) _
        refine XS.lconst X0.here hx rfl (hb hby d10_18) ?_
        show Steps p.tables e below (s₁.setTop (mkF m 19 #[.val (.int p1)] [(.long (1 : Int64))])) _
        refine XS.iloadN X0.here hx rfl (hb hby d10_19) rfl ?_
        show Steps p.tables e below (s₁.setTop (mkF m 20 #[.val (.int p1)] [(.int p1), (.long (1 : Int64))])) _
        refine XS.lshl X0.here hx rfl (hb hby d10_20) rfl ?_
        show Steps p.tables e below (s₁.setTop (mkF m 21 #[.val (.int p1)] [(.long ((1 : Int64) <<< (p1 &&& 0x3f).toInt64))])) _
        refine XS.lconst X0.here hx rfl (hb hby d10_21) ?_
        show Steps p.tables e below (s₁.setTop (mkF m 22 #[.val (.int p1)] [(.long (1 : Int64)), (.long ((1 : Int64) <<< (p1 &&& 0x3f).toInt64))])) _
        refine XS.lsub X0.here hx rfl (hb hby d10_22) rfl ?_
        rw [show v4 = (((1 : Int64) <<< (p1 &&& 0x3f).toInt64) - (1 : Int64)) from hv4.trans (if_pos hc3)] at k
        exact k
      · refine XS.icmpNo X0.here hx rfl (hb hby d10_9) rfl (flt hc3).1 ?_
        show Steps p.tables e below (s₁.setTop (mkF m 12 #[.val (.int p1)] [])) _
        refine X0.ldc2Long hx hown (mvT hZ (hw _ (List.mem_of_getElem? (i := 44) rfl))) (g := (mkF m 12 #[.val (.int p1)] [])) rfl (hb hby d10_12) _ ?_
        show Steps p.tables e below (s₁.setTop (mkF m 15 #[.val (.int p1)] [(.long (-1 : Int64))])) _
        refine XS.goto X0.here hx rfl (pc0 := 15) (pc' := 23) rfl (hb hby d10_15) (by decide) (by decide) ?_
        rw [show v4 = (-1 : Int64) from hv4.trans (if_neg hc3)] at k
        exact k)
    have er : (f10 p1) = v4 := by subst hv4; exact (if_pos hc2)
    obtain ⟨fs, hr, hrun, hended, hW, hsame⟩ := X0.leave (v := some (.long v4)) (fun h => by rw [Bd.returns] at h; cases h)
    refine ⟨_, _, pre5 _ ?_, hrun, hended, _, _, rfl, ?_, ⟨_, rfl⟩, hW, hsame.mono (by decide) (by decide)⟩
    · show Steps p.tables e below (s₁.setTop (mkF m 23 #[.val (.int p1)] [(.long v4)])) _
      exact X0.lreturnOut hx Bd.returns (hb hby d10_23) hr
    · show Q10 Z p1 h0 n0 _ s₁.heap _
      rw [e0]
      exact ⟨congrArg (fun z => some (Value.long z)) er.symm, N0, rfl⟩
  · have er : (f10 p1) = (0 : Int64) := by exact (if_neg hc2)
    obtain ⟨fs, hr, hrun, hended, hW, hsame⟩ := X0.leave (v := some (.long (0 : Int64))) (fun h => by rw [Bd.returns] at h; cases h)
    refine ⟨_, _, pre1 _ ?_, hrun, hended, _, _, rfl, ?_, ⟨_, rfl⟩, hW, hsame.mono (by decide) (by decide)⟩
    · show Steps p.tables e below (s₁.setTop (mkF m 1 #[.val (.int p1)] [(.int p1)])) _
      refine XS.ifNo X0.here hx rfl (hb hby d10_1) rfl ((if0 _ _).trans (flt hc2).2.2.1) ?_
      show Steps p.tables e below (s₁.setTop (mkF m 4 #[.val (.int p1)] [])) _
      refine XS.lconst X0.here hx rfl (hb hby d10_4) ?_
      show Steps p.tables e below (s₁.setTop (mkF m 5 #[.val (.int p1)] [(.long (0 : Int64))])) _
      exact X0.lreturnOut hx Bd.returns (hb hby d10_5) hr
    · show Q10 Z p1 h0 n0 _ s₁.heap _
      rw [e0]
      exact ⟨congrArg (fun z => some (Value.long z)) er.symm, N0, rfl⟩
theorem d15_0 : decode prog_11_method_6_code 0 = .ok (.aload_n 0, 1) := by decide +kernel
theorem d15_1 : decode prog_11_method_6_code 1 = .ok (.getfield 45, 3) := by decide +kernel
theorem d15_4 : decode prog_11_method_6_code 4 = .ok (.ireturn, 1) := by decide +kernel
theorem pn_15 : plainName "com/example/tagwire/tagwire/core/FloatFormat" = true := by first | (simp [plainName, overriddenIn]; done) | decide +kernel
theorem ef_15 (m : MethodId) (a1 : Addr) : entryFrame m #[(.ref a1)] 1 = mkF m 0 #[.val (.ref a1)] [] := by first | (simp [entryFrame, mkF, argsToLocals, Value.category]; done) | rfl
def f15 (f_significandBits_a1 : Int32) : Int32 :=
  f_significandBits_a1
def Q15 (Z : State) (a1 : Addr) (f_significandBits_a1 : Int32) (h0 : Heap) (n0 : Nat) (v : Option Value) (h : Heap) (L : List Loc) : Prop := v = some (.int (f15 f_significandBits_a1)) ∧ Fr n0 L ∧ h = h0
set_option maxRecDepth 65536 in
set_option maxHeartbeats 40000000 in
theorem rm15 (l : Launch) (Z : State) (a0 : Array Value) (hw : ∀ d ∈ tables_1, d.before a0 Z = true) (ws : List Jvm.Cond) (a1 : Addr) (f_significandBits_a1 : Int32) (h0 : Heap) (n0 : Nat) (Z0 : n0 ≤ h0.size) (F_significandBits_a1 : Fld Z h0 a1 "com/example/tagwire/tagwire/core/FloatFormat" "significandBits" "I" (.int f_significandBits_a1)) :
    MetFree l (⟨"com/example/tagwire/tagwire/core/FloatFormat", "significandBits", "()I"⟩ : MethodName) (head1 (Jvm.Cond.code (⟨"com/example/tagwire/tagwire/core/FloatFormat", "significandBits", "()I"⟩ : MethodName) prog_11_method_6_code 1 (some .int) :: ws) ({ frames := 0, cells := 0, slots := 0, locals := 0 } : Room)) (fun a U => a = #[(.ref a1)] ∧ Z.Warmed39 U.vm ∧ U.heap = h0) (fun _ _ _ _ _ => True) (fun _ U o U' => ∃ v L, o = .returned v ∧ Q15 Z a1 f_significandBits_a1 h0 n0 v U'.heap L ∧ FrameEnd U o U' L ({ frames := 0, cells := 0, slots := 0, locals := 0 } : Room).cells ({ frames := 0, cells := 0, slots := 0, locals := 0 } : Room).slots) := by
  refine MetFree.of_bodySF (plainFor_of_name pn_15) hisR ?_
  intro p e s m args below meth c s₁ Bd hml0 hP hK
  obtain ⟨rfl, hZ, hh⟩ := hP
  have hx := Bd.exec
  have hby := Bd.bytes
  have hml : c.maxLocals = 1 := hml0
  have hown : s.vm.findClass "com/example/tagwire/tagwire/core/FloatFormat" = some m.cls := findClass_of_methodNamed Bd.named
  have hnm := (name_of_methodNamed Bd.named Bd.method).1
  have X0 : Stand p l e ({ frames := 0, cells := 0, slots := 0, locals := 0 } : Room) s m #[(.ref a1)] below meth c s₁ [] 0 0 := Stand.of_body Bd
  have e0 : s₁.heap = h0 := by rw [← hh, Bd.state]; rfl
  have N0 := Fr.nil n0
  have pre0 : ∀ t, Steps p.tables e below (s₁.setTop (mkF m 0 #[.val (.ref a1)] [])) t → Steps p.tables e below (s₁.setTop (entryFrame m #[(.ref a1)] 1)) t := fun t k => castTop (ef_15 m a1) k
  obtain ⟨T1, X1, e1, st1⟩ := getF X0 hx hZ hown (host := "") (Or.inl (hw _ (List.mem_of_getElem? (i := 74) rfl))) Via.refl e0 F_significandBits_a1 (g := (mkF m 1 #[.val (.ref a1)] [(.ref a1)])) rfl rfl (hb hby d15_1)
  have er : (f15 f_significandBits_a1) = f_significandBits_a1 := by exact rfl
  obtain ⟨fs, hr, hrun, hended, hW, hsame⟩ := X1.leave (v := some (.int f_significandBits_a1)) (fun h => by rw [Bd.returns] at h; cases h)
  refine ⟨_, _, pre0 _ ?_, hrun, hended, _, _, rfl, ?_, ⟨_, rfl⟩, hW, hsame.mono (by decide) (by decide)⟩
  · show Steps p.tables e below (s₁.setTop (mkF m 0 #[.val (.ref a1)] [])) _
    refine XS.aloadN X0.here hx rfl (hb hby d15_0) rfl rfl ?_
    show Steps p.tables e below (s₁.setTop (mkF m 1 #[.val (.ref a1)] [(.ref a1)])) _
    refine st1 _ ?_
    show Steps p.tables e below (T1.setTop (mkF m 4 #[.val (.ref a1)] [(.int f_significandBits_a1)])) _
    exact retI X1 hx Bd.returns (hb hby d15_4) hr
  · show Q15 Z a1 f_significandBits_a1 h0 n0 _ T1.heap _
    rw [e1]
    exact ⟨congrArg (fun z => some (Value.int z)) er.symm, N0, rfl⟩
theorem d16_0 : decode prog_11_method_5_code 0 = .ok (.aload_n 0, 1) := by decide +kernel
theorem d16_1 : decode prog_11_method_5_code 1 = .ok (.getfield 42, 3) := by decide +kernel
theorem d16_4 : decode prog_11_method_5_code 4 = .ok (.ireturn, 1) := by decide +kernel
theorem pn_16 : plainName "com/example/tagwire/tagwire/core/FloatFormat" = true := by first | (simp [plainName, overriddenIn]; done) | decide +kernel
theorem ef_16 (m : MethodId) (a1 : Addr) : entryFrame m #[(.ref a1)] 1 = mkF m 0 #[.val (.ref a1)] [] := by first | (simp [entryFrame, mkF, argsToLocals, Value.category]; done) | rfl
def f16 (f_exponentBits_a1 : Int32) : Int32 :=
  f_exponentBits_a1
def Q16 (Z : State) (a1 : Addr) (f_exponentBits_a1 : Int32) (h0 : Heap) (n0 : Nat) (v : Option Value) (h : Heap) (L : List Loc) : Prop := v = some (.int (f16 f_exponentBits_a1)) ∧ Fr n0 L ∧ h = h0
set_option maxRecDepth 65536 in
set_option maxHeartbeats 40000000 in
theorem rm16 (l : Launch) (Z : State) (a0 : Array Value) (hw : ∀ d ∈ tables_1, d.before a0 Z = true) (ws : List Jvm.Cond) (a1 : Addr) (f_exponentBits_a1 : Int32) (h0 : Heap) (n0 : Nat) (Z0 : n0 ≤ h0.size) (F_exponentBits_a1 : Fld Z h0 a1 "com/example/tagwire/tagwire/core/FloatFormat" "exponentBits" "I" (.int f_exponentBits_a1)) :
    MetFree l (⟨"com/example/tagwire/tagwire/core/FloatFormat", "exponentBits", "()I"⟩ : MethodName) (head1 (Jvm.Cond.code (⟨"com/example/tagwire/tagwire/core/FloatFormat", "exponentBits", "()I"⟩ : MethodName) prog_11_method_5_code 1 (some .int) :: ws) ({ frames := 0, cells := 0, slots := 0, locals := 0 } : Room)) (fun a U => a = #[(.ref a1)] ∧ Z.Warmed39 U.vm ∧ U.heap = h0) (fun _ _ _ _ _ => True) (fun _ U o U' => ∃ v L, o = .returned v ∧ Q16 Z a1 f_exponentBits_a1 h0 n0 v U'.heap L ∧ FrameEnd U o U' L ({ frames := 0, cells := 0, slots := 0, locals := 0 } : Room).cells ({ frames := 0, cells := 0, slots := 0, locals := 0 } : Room).slots) := by
  refine MetFree.of_bodySF (plainFor_of_name pn_16) hisR ?_
  intro p e s m args below meth c s₁ Bd hml0 hP hK
  obtain ⟨rfl, hZ, hh⟩ := hP
  have hx := Bd.exec
  have hby := Bd.bytes
  have hml : c.maxLocals = 1 := hml0
  have hown : s.vm.findClass "com/example/tagwire/tagwire/core/FloatFormat" = some m.cls := findClass_of_methodNamed Bd.named
  have hnm := (name_of_methodNamed Bd.named Bd.method).1
  have X0 : Stand p l e ({ frames := 0, cells := 0, slots := 0, locals := 0 } : Room) s m #[(.ref a1)] below meth c s₁ [] 0 0 := Stand.of_body Bd
  have e0 : s₁.heap = h0 := by rw [← hh, Bd.state]; rfl
  have N0 := Fr.nil n0
  have pre0 : ∀ t, Steps p.tables e below (s₁.setTop (mkF m 0 #[.val (.ref a1)] [])) t → Steps p.tables e below (s₁.setTop (entryFrame m #[(.ref a1)] 1)) t := fun t k => castTop (ef_16 m a1) k
  obtain ⟨T1, X1, e1, st1⟩ := getF X0 hx hZ hown (host := "") (Or.inl (hw _ (List.mem_of_getElem? (i := 81) rfl))) Via.refl e0 F_exponentBits_a1 (g := (mkF m 1 #[.val (.ref a1)] [(.ref a1)])) rfl rfl (hb hby d16_1)
  have er : (f16 f_exponentBits_a1) = f_exponentBits_a1 := by exact rfl
  obtain ⟨fs, hr, hrun, hended, hW, hsame⟩ := X1.leave (v := some (.int f_exponentBits_a1)) (fun h => by rw [Bd.returns] at h; cases h)
  refine ⟨_, _, pre0 _ ?_, hrun, hended, _, _, rfl, ?_, ⟨_, rfl⟩, hW, hsame.mono (by decide) (by decide)⟩
  · show Steps p.tables e below (s₁.setTop (mkF m 0 #[.val (.ref a1)] [])) _
    refine XS.aloadN X0.here hx rfl (hb hby d16_0) rfl rfl ?_
    show Steps p.tables e below (s₁.setTop (mkF m 1 #[.val (.ref a1)] [(.ref a1)])) _
    refine st1 _ ?_
    show Steps p.tables e below (T1.setTop (mkF m 4 #[.val (.ref a1)] [(.int f_exponentBits_a1)])) _
    exact retI X1 hx Bd.returns (hb hby d16_4) hr
  · show Q16 Z a1 f_exponentBits_a1 h0 n0 _ T1.heap _
    rw [e1]
    exact ⟨congrArg (fun z => some (Value.int z)) er.symm, N0, rfl⟩
theorem d18_0 : decode prog_11_method_9_code 0 = .ok (.iconst 1, 1) := by decide +kernel
theorem d18_1 : decode prog_11_method_9_code 1 = .ok (.aload_n 0, 1) := by decide +kernel
theorem d18_2 : decode prog_11_method_9_code 2 = .ok (.getfield 42, 3) := by decide +kernel
theorem d18_5 : decode prog_11_method_9_code 5 = .ok (.ishl, 1) := by decide +kernel
theorem d18_6 : decode prog_11_method_9_code 6 = .ok (.iconst 1, 1) := by decide +kernel
theorem d18_7 : decode prog_11_method_9_code 7 = .ok (.isub, 1) := by decide +kernel
theorem d18_8 : decode prog_11_method_9_code 8 = .ok (.ireturn, 1) := by decide +kernel
theorem pn_18 : plainName "com/example/tagwire/tagwire/core/FloatFormat" = true := by first | (simp [plainName, overriddenIn]; done) | decide +kernel
theorem ef_18 (m : MethodId) (a1 : Addr) : entryFrame m #[(.ref a1)] 1 = mkF m 0 #[.val (.ref a1)] [] := by first | (simp [entryFrame, mkF, argsToLocals, Value.category]; done) | rfl
def f18 (f_exponentBits_a1 : Int32) : Int32 :=
  (((1 : Int32) <<< (f_exponentBits_a1 &&& 31)) - (1 : Int32))
def Q18 (Z : State) (a1 : Addr) (f_exponentBits_a1 : Int32) (h0 : Heap) (n0 : Nat) (v : Option Value) (h : Heap) (L : List Loc) : Prop := v = some (.int (f18 f_exponentBits_a1)) ∧ Fr n0 L ∧ h = h0
set_option maxRecDepth 65536 in
set_option maxHeartbeats 40000000 in
theorem rm18 (l : Launch) (Z : State) (a0 : Array Value) (hw : ∀ d ∈ tables_1, d.before a0 Z = true) (ws : List Jvm.Cond) (a1 : Addr) (f_exponentBits_a1 : Int32) (h0 : Heap) (n0 : Nat) (Z0 : n0 ≤ h0.size) (F_exponentBits_a1 : Fld Z h0 a1 "com/example/tagwire/tagwire/core/FloatFormat" "exponentBits" "I" (.int f_exponentBits_a1)) :
    MetFree l (⟨"com/example/tagwire/tagwire/core/FloatFormat", "maxExponent", "()I"⟩ : MethodName) (head1 (Jvm.Cond.code (⟨"com/example/tagwire/tagwire/core/FloatFormat", "maxExponent", "()I"⟩ : MethodName) prog_11_method_9_code 1 (some .int) :: ws) ({ frames := 0, cells := 0, slots := 0, locals := 0 } : Room)) (fun a U => a = #[(.ref a1)] ∧ Z.Warmed39 U.vm ∧ U.heap = h0) (fun _ _ _ _ _ => True) (fun _ U o U' => ∃ v L, o = .returned v ∧ Q18 Z a1 f_exponentBits_a1 h0 n0 v U'.heap L ∧ FrameEnd U o U' L ({ frames := 0, cells := 0, slots := 0, locals := 0 } : Room).cells ({ frames := 0, cells := 0, slots := 0, locals := 0 } : Room).slots) := by
  refine MetFree.of_bodySF (plainFor_of_name pn_18) hisR ?_
  intro p e s m args below meth c s₁ Bd hml0 hP hK
  obtain ⟨rfl, hZ, hh⟩ := hP
  have hx := Bd.exec
  have hby := Bd.bytes
  have hml : c.maxLocals = 1 := hml0
  have hown : s.vm.findClass "com/example/tagwire/tagwire/core/FloatFormat" = some m.cls := findClass_of_methodNamed Bd.named
  have hnm := (name_of_methodNamed Bd.named Bd.method).1
  have X0 : Stand p l e ({ frames := 0, cells := 0, slots := 0, locals := 0 } : Room) s m #[(.ref a1)] below meth c s₁ [] 0 0 := Stand.of_body Bd
  have e0 : s₁.heap = h0 := by rw [← hh, Bd.state]; rfl
  have N0 := Fr.nil n0
  have pre0 : ∀ t, Steps p.tables e below (s₁.setTop (mkF m 0 #[.val (.ref a1)] [])) t → Steps p.tables e below (s₁.setTop (entryFrame m #[(.ref a1)] 1)) t := fun t k => castTop (ef_18 m a1) k
  obtain ⟨T1, X1, e1, st1⟩ := getF X0 hx hZ hown (host := "") (Or.inl (hw _ (List.mem_of_getElem? (i := 81) rfl))) Via.refl e0 F_exponentBits_a1 (g := (mkF m 2 #[.val (.ref a1)] [(.ref a1), (.int (1 : Int32))])) rfl rfl (hb hby d18_2)
  have er : (f18 f_exponentBits_a1) = (((1 : Int32) <<< (f_exponentBits_a1 &&& 31)) - (1 : Int32)) := by exact rfl
  obtain ⟨fs, hr, hrun, hended, hW, hsame⟩ := X1.leave (v := some (.int (((1 : Int32) <<< (f_exponentBits_a1 &&& 31)) - (1 : Int32)))) (fun h => by rw [Bd.returns] at h; cases h)
  refine ⟨_, _, pre0 _ ?_, hrun, hended, _, _, rfl, ?_, ⟨_, rfl⟩, hW, hsame.mono (by decide) (by decide)⟩
  · show Steps p.tables e below (s₁.setTop (mkF m 0 #[.val (.ref a1)] [])) _
    refine XS.iconst X0.here hx rfl (hb hby d18_0) ?_
    show Steps p.tables e below (s₁.setTop (mkF m 1 #[.val (.ref a1)] [(.int (1 : Int32))])) _
    refine XS.aloadN X0.here hx rfl (hb hby d18_1) rfl rfl ?_
    show Steps p.tables e below (s₁.setTop (mkF m 2 #[.val (.ref a1)] [(.ref a1), (.int (1 : Int32))])) _
    refine st1 _ ?_
    show Steps p.tables e below (T1.setTop (mkF m 5 #[.val (.ref a1)] [(.int f_exponentBits_a1), (.int (1 : Int32))])) _
    refine XS.ishl X1.here hx rfl (hb hby d18_5) rfl ?_
    show Steps p.tables e below (T1.setTop (mkF m 6 #[.val (.ref a1)] [(.int ((1 : Int32) <<< (f_exponentBits_a1 &&& 31)))])) _
    refine XS.iconst X1.here hx rfl (hb hby d18_6) ?_
    show Steps p.tables e below (T1.setTop (mkF m 7 #[.val (.ref a1)] [(.int (1 : Int32)), (.int ((1 : Int32) <<< (f_exponentBits_a1 &&& 31)))])) _
    refine XS.isub X1.here hx rfl (hb hby d18_7) rfl ?_
    show Steps p.tables e below (T1.setTop (mkF m 8 #[.val (.ref a1)] [(.int (((1 : Int32) <<< (f_exponentBits_a1 &&& 31)) - (1 : Int32)))])) _
    exact retI X1 hx Bd.returns (hb hby d18_8) hr
  · show Q18 Z a1 f_exponentBits_a1 h0 n0 _ T1.heap _
    rw [e1]
    exact ⟨congrArg (fun z => some (Value.int z)) er.symm, N0, rfl⟩
theorem d22_0 : decode prog_11_method_8_code 0 = .ok (.aload_n 0, 1) := by decide +kernel
theorem d22_1 : decode prog_11_method_8_code 1 = .ok (.getfield 48, 3) := by decide +kernel
theorem d22_4 : decode prog_11_method_8_code 4 = .ok (.ifCond .eq 12, 3) := by decide +kernel
theorem d22_7 : decode prog_11_method_8_code 7 = .ok (.aload_n 0, 1) := by decide +kernel
theorem d22_8 : decode prog_11_method_8_code 8 = .ok (.getfield 45, 3) := by decide +kernel
theorem d22_11 : decode prog_11_method_8_code 11 = .ok (.iconst 1, 1) := by decide +kernel
theorem d22_12 : decode prog_11_method_8_code 12 = .ok (.isub, 1) := by decide +kernel
theorem d22_13 : decode prog_11_method_8_code 13 = .ok (.goto 7, 3) := by decide +kernel
theorem d22_16 : decode prog_11_method_8_code 16 = .ok (.aload_n 0, 1) := by decide +kernel
theorem d22_17 : decode prog_11_method_8_code 17 = .ok (.getfield 45, 3) := by decide +kernel
theorem d22_20 : decode prog_11_method_8_code 20 = .ok (.ireturn, 1) := by decide +kernel
theorem pn_22 : plainName "com/example/tagwire/tagwire/core/FloatFormat" = true := by first | (simp [plainName, overriddenIn]; done) | decide +kernel
theorem ef_22 (m : MethodId) (a1 : Addr) : entryFrame m #[(.ref a1)] 1 = mkF m 0 #[.val (.ref a1)] [] := by first | (simp [entryFrame, mkF, argsToLocals, Value.category]; done) | rfl
def f22 (f_explicitIntegerBit_a1 : Int32) (f_significandBits_a1 : Int32) : Int32 :=
  (if f_explicitIntegerBit_a1 = (0 : Int32) then f_significandBits_a1 else (f_significandBits_a1 - (1 : Int32)))
def Q22 (Z : State) (a1 : Addr) (f_explicitIntegerBit_a1 : Int32) (f_significandBits_a1 : Int32) (h0 : Heap) (n0 : Nat) (v : Option Value) (h : Heap) (L : List Loc) : Prop := v = some (.int (f22 f_explicitIntegerBit_a1 f_significandBits_a1)) ∧ Fr n0 L ∧ h = h0
set_option maxRecDepth 65536 in
set_option maxHeartbeats 40000000 in
theorem rm22 (l : Launch) (Z : State) (a0 : Array Value) (hw : ∀ d ∈ tables_1, d.before a0 Z = true) (ws : List Jvm.Cond) (a1 : Addr) (f_explicitIntegerBit_a1 : Int32) (f_significandBits_a1 : Int32) (h0 : Heap) (n0 : Nat) (Z0 : n0 ≤ h0.size) (F_explicitIntegerBit_a1 : Fld Z h0 a1 "com/example/tagwire/tagwire/core/FloatFormat" "explicitIntegerBit" "Z" (.int f_explicitIntegerBit_a1)) (F_significandBits_a1 : Fld Z h0 a1 "com/example/tagwire/tagwire/core/FloatFormat" "significandBits" "I" (.int f_significandBits_a1)) :
    MetFree l (⟨"com/example/tagwire/tagwire/core/FloatFormat", "fractionBits", "()I"⟩ : MethodName) (head1 (Jvm.Cond.code (⟨"com/example/tagwire/tagwire/core/FloatFormat", "fractionBits", "()I"⟩ : MethodName) prog_11_method_8_code 1 (some .int) :: ws) ({ frames := 0, cells := 0, slots := 0, locals := 0 } : Room)) (fun a U => a = #[(.ref a1)] ∧ Z.Warmed39 U.vm ∧ U.heap = h0) (fun _ _ _ _ _ => True) (fun _ U o U' => ∃ v L, o = .returned v ∧ Q22 Z a1 f_explicitIntegerBit_a1 f_significandBits_a1 h0 n0 v U'.heap L ∧ FrameEnd U o U' L ({ frames := 0, cells := 0, slots := 0, locals := 0 } : Room).cells ({ frames := 0, cells := 0, slots := 0, locals := 0 } : Room).slots) := by
  refine MetFree.of_bodySF (plainFor_of_name pn_22) hisR ?_
  intro p e s m args below meth c s₁ Bd hml0 hP hK
  obtain ⟨rfl, hZ, hh⟩ := hP
  have hx := Bd.exec
  have hby := Bd.bytes
  have hml : c.maxLocals = 1 := hml0
  have hown : s.vm.findClass "com/example/tagwire/tagwire/core/FloatFormat" = some m.cls := findClass_of_methodNamed Bd.named
  have hnm := (name_of_methodNamed Bd.named Bd.method).1
  have X0 : Stand p l e ({ frames := 0, cells := 0, slots := 0, locals := 0 } : Room) s m #[(.ref a1)] below meth c s₁ [] 0 0 := Stand.of_body Bd
  have e0 : s₁.heap = h0 := by rw [← hh, Bd.state]; rfl
  have N0 := Fr.nil n0
  have pre0 : ∀ t, Steps p.tables e below (s₁.setTop (mkF m 0 #[.val (.ref a1)] [])) t → Steps p.tables e below (s₁.setTop (entryFrame m #[(.ref a1)] 1)) t := fun t k => castTop (ef_22 m a1) k
  obtain ⟨T1, X1, e1, st1⟩ := getF X0 hx hZ hown (host := "") (Or.inl (hw _ (List.mem_of_getElem? (i := 110) rfl))) Via.refl e0 F_explicitIntegerBit_a1 (g := (mkF m 1 #[.val (.ref a1)] [(.ref a1)])) rfl rfl (hb hby d22_1)
  have pre2 : ∀ t, Steps p.tables e below (T1.setTop (mkF m 4 #[.val (.ref a1)] [(.int f_explicitIntegerBit_a1)])) t → Steps p.tables e below (s₁.setTop (entryFrame m #[(.ref a1)] 1)) t := fun t k => pre0 t (by
    show Steps p.tables e below (s₁.setTop (mkF m 0 #[.val (.ref a1)] [])) _
    refine XS.aloadN X0.here hx rfl (hb hby d22_0) rfl rfl ?_
    show Steps p.tables e below (s₁.setTop (mkF m 1 #[.val (.ref a1)] [(.ref a1)])) _
    refine st1 _ ?_
    exact k)
  by_cases hc3 : f_explicitIntegerBit_a1 = (0 : Int32)
  · obtain ⟨T4, X4, e4, st4⟩ := getF X1 hx hZ hown (host := "") (Or.inl (hw _ (List.mem_of_getElem? (i := 74) rfl))) Via.refl e1 F_significandBits_a1 (g := (mkF m 17 #[.val (.ref a1)] [(.ref a1)])) rfl rfl (hb hby d22_17)
    have er : (f22 f_explicitIntegerBit_a1 f_significandBits_a1) = f_significandBits_a1 := by exact (if_pos hc3)
    obtain ⟨fs, hr, hrun, hended, hW, hsame⟩ := X4.leave (v := some (.int f_significandBits_a1)) (fun h => by rw [Bd.returns] at h; cases h)
    refine ⟨_, _, pre2 _ ?_, hrun, hended, _, _, rfl, ?_, ⟨_, rfl⟩, hW, hsame.mono (by decide) (by decide)⟩
    · show Steps p.tables e below (T1.setTop (mkF m 4 #[.val (.ref a1)] [(.int f_explicitIntegerBit_a1)])) _
      refine XS.ifYes X1.here hx rfl (pc0 := 4) (pc' := 16) rfl (hb hby d22_4) rfl ((if0 _ _).trans (teq hc3).1) (by decide) (by decide) ?_
      show Steps p.tables e below (T1.setTop (mkF m 16 #[.val (.ref a1)] [])) _
      refine XS.aloadN X1.here hx rfl (hb hby d22_16) rfl rfl ?_
      show Steps p.tables e below (T1.setTop (mkF m 17 #[.val (.ref a1)] [(.ref a1)])) _
      refine st4 _ ?_
      show Steps p.tables e below (T4.setTop (mkF m 20 #[.val (.ref a1)] [(.int f_significandBits_a1)])) _
      exact retI X4 hx Bd.returns (hb hby d22_20) hr
    · show Q22 Z a1 f_explicitIntegerBit_a1 f_significandBits_a1 h0 n0 _ T4.heap _
      rw [e4]
      exact ⟨congrArg (fun z => some (Value.int z)) er.symm, N0, rfl⟩
  · obtain ⟨T5, X5, e5, st5⟩ := getF X1 hx hZ hown (host := "") (Or.inl (hw _ (List.mem_of_getElem? (i := 74) rfl))) Via.refl e1 F_significandBits_a1 (g := (mkF m 8 #[.val (.ref a1)] [(.ref a1)])) rfl rfl (hb hby d22_8)
    have er : (f22 f_explicitIntegerBit_a1 f_significandBits_a1) = (f_significandBits_a1 - (1 : Int32)) := by exact (if_neg hc3)
    obtain ⟨fs, hr, hrun, hended, hW, hsame⟩ := X5.leave (v := some (.int (f_significandBits_a1 - (1 : Int32)))) (fun h => by rw [Bd.returns] at h; cases h)
    refine ⟨_, _, pre2 _ ?_, hrun, hended, _, _, rfl, ?_, ⟨_, rfl⟩, hW, hsame.mono (by decide) (by decide)⟩
    · show Steps p.tables e below (T1.setTop (mkF m 4 #[.val (.ref a1)] [(.int f_explicitIntegerBit_a1)])) _
      refine XS.ifNo X1.here hx rfl (hb hby d22_4) rfl ((if0 _ _).trans (feq hc3).1) ?_
      show Steps p.tables e below (T1.setTop (mkF m 7 #[.val (.ref a1)] [])) _
      refine XS.aloadN X1.here hx rfl (hb hby d22_7) rfl rfl ?_
      show Steps p.tables e below (T1.setTop (mkF m 8 #[.val (.ref a1)] [(.ref a1)])) _
      refine st5 _ ?_
      show Steps p.tables e below (T5.setTop (mkF m 11 #[.val (.ref a1)] [(.int f_significandBits_a1)])) _
      refine XS.iconst X5.here hx rfl (hb hby d22_11) ?_
      show Steps p.tables e below (T5.setTop (mkF m 12 #[.val (.ref a1)] [(.int (1 : Int32)), (.int f_significandBits_a1)])) _
      refine XS.isub X5.here hx rfl (hb hby d22_12) rfl ?_
      show Steps p.tables e below (T5.setTop (mkF m 13 #[.val (.ref a1)] [(.int (f_significandBits_a1 - (1 : Int32)))])) _
      refine XS.goto X5.here hx rfl (pc0 := 13) (pc' := 20) rfl (hb hby d22_13) (by decide) (by decide) ?_
      show Steps p.tables e below (T5.setTop (mkF m 20 #[.val (.ref a1)] [(.int (f_significandBits_a1 - (1 : Int32)))])) _
      exact retI X5 hx Bd.returns (hb hby d22_20) hr
    · show Q22 Z a1 f_explicitIntegerBit_a1 f_significandBits_a1 h0 n0 _ T5.heap _
      rw [e5]
      exact ⟨congrArg (fun z => some (Value.int z)) er.symm, N0, rfl⟩
theorem d23_0 : decode jdk_29_method_69_code 0 = .ok (.iload_n 0, 1) := by decide +kernel
theorem d23_1 : decode jdk_29_method_69_code 1 = .ok (.iload_n 1, 1) := by decide +kernel
theorem d23_2 : decode jdk_29_method_69_code 2 = .ok (.if_icmp .gt 7, 3) := by decide +kernel
theorem d23_5 : decode jdk_29_method_69_code 5 = .ok (.iload_n 0, 1) := by decide +kernel
theorem d23_6 : decode jdk_29_method_69_code 6 = .ok (.goto 4, 3) := by decide +kernel
theorem d23_9 : decode jdk_29_method_69_code 9 = .ok (.iload_n 1, 1) := by decide +kernel
theorem d23_10 : decode jdk_29_method_69_code 10 = .ok (.ireturn, 1) := by decide +kernel
theorem ef_23 (m : MethodId) (p1 : Int32) (p2 : Int32) : entryFrame m #[(.int p1), (.int p2)] 2 = mkF m 0 #[.val (.int p1), .val (.int p2)] [] := by first | (simp [entryFrame, mkF, argsToLocals, Value.category]; done) | rfl
def f23 (p1 : Int32) (p2 : Int32) : Int32 :=
  (if p2 < p1 then p2 else p1)
def Q23 (Z : State) (p1 : Int32) (p2 : Int32)  (h0 : Heap) (n0 : Nat) (v : Option Value) (h : Heap) (L : List Loc) : Prop := v = some (.int (f23 p1 p2)) ∧ Fr n0 L ∧ h = h0
set_option maxRecDepth 65536 in
set_option maxHeartbeats 40000000 in
theorem rm23 (l : Launch) (Z : State) (a0 : Array Value) (hw : ∀ d ∈ tables_1, d.before a0 Z = true) (ws : List Jvm.Cond) (p1 : Int32) (p2 : Int32)  (h0 : Heap) (n0 : Nat) (Z0 : n0 ≤ h0.size) :
    MetFree l (⟨"java/lang/Math", "min", "(II)I"⟩ : MethodName) (head1 (Jvm.Cond.code (⟨"java/lang/Math", "min", "(II)I"⟩ : MethodName) jdk_29_method_69_code 2 (some .int) :: ws) ({ frames := 0, cells := 0, slots := 0, locals := 0 } : Room)) (fun a U => a = #[(.int p1), (.int p2)] ∧ Z.Warmed39 U.vm ∧ U.heap = h0) (fun _ _ _ _ _ => True) (fun _ U o U' => ∃ v L, o = .returned v ∧ Q23 Z p1 p2 h0 n0 v U'.heap L ∧ FrameEnd U o U' L ({ frames := 0, cells := 0, slots := 0, locals := 0 } : Room).cells ({ frames := 0, cells := 0, slots := 0, locals := 0 } : Room).slots) := by
  refine MetFree.of_bodySF (Jvm.Free.JP.mathPlain rfl (by decide +kernel)) hisR ?_
  intro p e s m args below meth c s₁ Bd hml0 hP hK
  obtain ⟨rfl, hZ, hh⟩ := hP
  have hx := Bd.exec
  have hby := Bd.bytes
  have hml : c.maxLocals = 2 := hml0
  have hown : s.vm.findClass "java/lang/Math" = some m.cls := findClass_of_methodNamed Bd.named
  have hnm := (name_of_methodNamed Bd.named Bd.method).1
  have X0 : Stand p l e ({ frames := 0, cells := 0, slots := 0, locals := 0 } : Room) s m #[(.int p1), (.int p2)] below meth c s₁ [] 0 0 := Stand.of_body Bd
  have e0 : s₁.heap = h0 := by rw [← hh, Bd.state]; rfl
  have N0 := Fr.nil n0
  have pre0 : ∀ t, Steps p.tables e below (s₁.setTop (mkF m 0 #[.val (.int p1), .val (.int p2)] [])) t → Steps p.tables e below (s₁.setTop (entryFrame m #[(.int p1), (.int p2)] 2)) t := fun t k => castTop (ef_23 m p1 p2) k
  obtain ⟨v2, hv2⟩ : ∃ z : Int32, z = (if p2 < p1 then p2 else p1) := ⟨_, rfl⟩
  have pre3 : ∀ t, Steps p.tables e below (s₁.setTop (mkF m 10 #[.val (.int p1), .val (.int p2)] [(.int v2)])) t → Steps p.tables e below (s₁.setTop (entryFrame m #[(.int p1), (.int p2)] 2)) t := fun t k => pre0 t (by
    show Steps p.tables e below (s₁.setTop (mkF m 0 #[.val (.int p1), .val (.int p2)] [])) _
    refine XS.iloadN X0.here hx rfl (hb hby d23_0) rfl ?_
    show Steps p.tables e below (s₁.setTop (mkF m 1 #[.val (.int p1), .val (.int p2)] [(.int p1)])) _
    refine XS.iloadN X0.here hx rfl (hb hby d23_1) rfl ?_
    show Steps p.tables e below (s₁.setTop (mkF m 2 #[.val (.int p1), .val (.int p2)] [(.int p2), (.int p1)])) _
    by_cases hc1 : p2 < p1
    · refine XS.icmpYes X0.here hx rfl (pc0 := 2) (pc' := 9) rfl (hb hby d23_2) rfl (tlt hc1).2.2.1 (by decide) (by decide) ?_
      show Steps p.tables e below (s₁.setTop (mkF m 9 #[.val (.int p1), .val (.int p2)] [])) _
      refine XS.iloadN X0.here hx rfl (hb hby d23_9) rfl ?_
      rw [show v2 = p2 from hv2.trans (if_pos hc1)] at k
      exact k
    · refine XS.icmpNo X0.here hx rfl (hb hby d23_2) rfl (flt hc1).2.2.1 ?_
      show Steps p.tables e below (s₁.setTop (mkF m 5 #[.val (.int p1), .val (.int p2)] [])) _
      refine XS.iloadN X0.here hx rfl (hb hby d23_5) rfl ?_
      show Steps p.tables e below (s₁.setTop (mkF m 6 #[.val (.int p1), .val (.int p2)] [(.int p1)])) _
      refine XS.goto X0.here hx rfl (pc0 := 6) (pc' := 10) rfl (hb hby d23_6) (by decide) (by decide) ?_
      rw [show v2 = p1 from hv2.trans (if_neg hc1)] at k
      exact k)
  have er : (f23 p1 p2) = v2 := by subst hv2; exact rfl
  obtain ⟨fs, hr, hrun, hended, hW, hsame⟩ := X0.leave (v := some (.int v2)) (fun h => by rw [Bd.returns] at h; cases h)
  refine ⟨_, _, pre3 _ ?_, hrun, hended, _, _, rfl, ?_, ⟨_, rfl⟩, hW, hsame.mono (by decide) (by decide)⟩
  · show Steps p.tables e below (s₁.setTop (mkF m 10 #[.val (.int p1), .val (.int p2)] [(.int v2)])) _
    exact retI X0 hx Bd.returns (hb hby d23_10) hr
  · show Q23 Z p1 p2 h0 n0 _ s₁.heap _
    rw [e0]
    exact ⟨congrArg (fun z => some (Value.int z)) er.symm, N0, rfl⟩
theorem d17_0 : decode prog_14_method_23_code 0 = .ok (.iload_n 1, 1) := by decide +kernel
theorem d17_1 : decode prog_14_method_23_code 1 = .ok (.bipush 64, 2) := by decide +kernel
theorem d17_3 : decode prog_14_method_23_code 3 = .ok (.if_icmp .lt 15, 3) := by decide +kernel
theorem d17_6 : decode prog_14_method_23_code 6 = .ok (.aload_n 0, 1) := by decide +kernel
theorem d17_7 : decode prog_14_method_23_code 7 = .ok (.getfield 27, 3) := by decide +kernel
theorem d17_10 : decode prog_14_method_23_code 10 = .ok (.iload_n 1, 1) := by decide +kernel
theorem d17_11 : decode prog_14_method_23_code 11 = .ok (.bipush 64, 2) := by decide +kernel
theorem d17_13 : decode prog_14_method_23_code 13 = .ok (.isub, 1) := by decide +kernel
theorem d17_14 : decode prog_14_method_23_code 14 = .ok (.lushr, 1) := by decide +kernel
theorem d17_15 : decode prog_14_method_23_code 15 = .ok (.goto 9, 3) := by decide +kernel
theorem d17_18 : decode prog_14_method_23_code 18 = .ok (.aload_n 0, 1) := by decide +kernel
theorem d17_19 : decode prog_14_method_23_code 19 = .ok (.getfield 31, 3) := by decide +kernel
theorem d17_22 : decode prog_14_method_23_code 22 = .ok (.iload_n 1, 1) := by decide +kernel
theorem d17_23 : decode prog_14_method_23_code 23 = .ok (.lushr, 1) := by decide +kernel
theorem d17_24 : decode prog_14_method_23_code 24 = .ok (.lstore_n 3, 1) := by decide +kernel
theorem d17_25 : decode prog_14_method_23_code 25 = .ok (.lload_n 3, 1) := by decide +kernel
theorem d17_26 : decode prog_14_method_23_code 26 = .ok (.iload_n 2, 1) := by decide +kernel
theorem d17_27 : decode prog_14_method_23_code 27 = .ok (.invokestatic 42, 3) := by decide +kernel
theorem d17_30 : decode prog_14_method_23_code 30 = .ok (.land, 1) := by decide +kernel
theorem d17_31 : decode prog_14_method_23_code 31 = .ok (.lreturn, 1) := by decide +kernel
theorem pn_17 : plainName "com/example/tagwire/tagwire/core/FloatValue" = true := by first | (simp [plainName, overriddenIn]; done) | decide +kernel
theorem ef_17 (m : MethodId) (a1 : Addr) (p2 : Int32) (p3 : Int32) : entryFrame m #[(.ref a1), (.int p2), (.int p3)] 5 = mkF m 0 #[.val (.ref a1), .val (.int p2), .val (.int p3), .unset, .unset] [] := by first | (simp [entryFrame, mkF, argsToLocals, Value.category]; done) | rfl
def f17 (p2 : Int32) (p3 : Int32) (f_low_a1 : Int64) (f_high_a1 : Int64) : Int64 :=
  (if p2 < (64 : Int32) then (((f_low_a1.toUInt64 >>> (p2 &&& 0x3f).toInt64.toUInt64).toInt64) &&& (f10 p3)) else (((f_high_a1.toUInt64 >>> ((p2 - (64 : Int32)) &&& 0x3f).toInt64.toUInt64).toInt64) &&& (f10 p3)))
def Q17 (Z : State) (a1 : Addr) (p2 : Int32) (p3 : Int32) (f_low_a1 : Int64) (f_high_a1 : Int64) (h0 : Heap) (n0 : Nat) (v : Option Value) (h : Heap) (L : List Loc) : Prop := v = some (.long (f17 p2 p3 f_low_a1 f_high_a1)) ∧ Fr n0 L ∧ h = h0
set_option maxRecDepth 65536 in
set_option maxHeartbeats 40000000 in
theorem rm17 (l : Launch) (Z : State) (a0 : Array Value) (hw : ∀ d ∈ tables_1, d.before a0 Z = true) (ws : List Jvm.Cond) (a1 : Addr) (p2 : Int32) (p3 : Int32) (f_low_a1 : Int64) (f_high_a1 : Int64) (h0 : Heap) (n0 : Nat) (Z0 : n0 ≤ h0.size) (F_low_a1 : Fld Z h0 a1 "com/example/tagwire/tagwire/core/FloatValue" "low" "J" (.long f_low_a1)) (F_high_a1 : Fld Z h0 a1 "com/example/tagwire/tagwire/core/FloatValue" "high" "J" (.long f_high_a1)) :
    MetFree l (⟨"com/example/tagwire/tagwire/core/FloatValue", "bits", "(II)J"⟩ : MethodName) (head1 (Jvm.Cond.code (⟨"com/example/tagwire/tagwire/core/FloatValue", "bits", "(II)J"⟩ : MethodName) prog_14_method_23_code 5 (some .long) :: ws) ({ frames := 1, cells := 0, slots := 0, locals := 14 } : Room)) (fun a U => a = #[(.ref a1), (.int p2), (.int p3)] ∧ Z.Warmed39 U.vm ∧ U.heap = h0) (fun _ _ _ _ _ => True) (fun _ U o U' => ∃ v L, o = .returned v ∧ Q17 Z a1 p2 p3 f_low_a1 f_high_a1 h0 n0 v U'.heap L ∧ FrameEnd U o U' L ({ frames := 1, cells := 0, slots := 0, locals := 14 } : Room).cells ({ frames := 1, cells := 0, slots := 0, locals := 14 } : Room).slots) := by
  refine MetFree.of_bodySF (plainFor_of_name pn_17) hisR ?_
  intro p e s m args below meth c s₁ Bd hml0 hP hK
  obtain ⟨rfl, hZ, hh⟩ := hP
  have hx := Bd.exec
  have hby := Bd.bytes
  have hml : c.maxLocals = 5 := hml0
  have hown : s.vm.findClass "com/example/tagwire/tagwire/core/FloatValue" = some m.cls := findClass_of_methodNamed Bd.named
  have hnm := (name_of_methodNamed Bd.named Bd.method).1
  have X0 : Stand p l e ({ frames := 1, cells := 0, slots := 0, locals := 14 } : Room) s m #[(.ref a1), (.int p2), (.int p3)] below meth c s₁ [] 0 0 := Stand.of_body Bd
  have e0 : s₁.heap = h0 := by rw [← hh, Bd.state]; rfl
  have N0 := Fr.nil n0
  have pre0 : ∀ t, Steps p.tables e below (s₁.setTop (mkF m 0 #[.val (.ref a1), .val (.int p2), .val (.int p3), .unset, .unset] [])) t → Steps p.tables e below (s₁.setTop (entryFrame m #[(.ref a1), (.int p2), (.int p3)] 5)) t := fun t k => castTop (ef_17 m a1 p2 p3) k
  have pre1 : ∀ t, Steps p.tables e below (s₁.setTop (mkF m 3 #[.val (.ref a1), .val (.int p2), .val (.int p3), .unset, .unset] [(.int (64 : Int32)), (.int p2)])) t → Steps p.tables e below (s₁.setTop (entryFrame m #[(.ref a1), (.int p2), (.int p3)] 5)) t := fun t k => pre0 t (by
    show Steps p.tables e below (s₁.setTop (mkF m 0 #[.val (.ref a1), .val (.int p2), .val (.int p3), .unset, .unset] [])) _
    refine XS.iloadN X0.here hx rfl (hb hby d17_0) rfl ?_
    show Steps p.tables e below (s₁.setTop (mkF m 1 #[.val (.ref a1), .val (.int p2), .val (.int p3), .unset, .unset] [(.int p2)])) _
    refine XS.bipush X0.here hx rfl (hb hby d17_1) ?_
    exact k)
  by_cases hc2 : p2 < (64 : Int32)
  · obtain ⟨T3, X3, e3, st3⟩ := getF X0 hx hZ hown (host := "") (Or.inl (hw _ (List.mem_of_getElem? (i := 57) rfl))) Via.refl e0 F_low_a1 (g := (mkF m 19 #[.val (.ref a1), .val (.int p2), .val (.int p3), .unset, .unset] [(.ref a1)])) rfl rfl (hb hby d17_19)
    obtain ⟨_, _, ⟨T4, L4, k4, n4⟩, -, X4, ⟨Lc4, hQ4, l4, y4, z4⟩, st4⟩ := Jvm.LawKit.callS X3 hx (y := (⟨"com/example/tagwire/tagwire/core/FloatValue", "mask", "(I)J"⟩ : MethodName)) hown (mvT hZ (hw _ (List.mem_of_getElem? (i := 41) rfl))) (mvT hZ (hw _ (List.mem_of_getElem? (i := 42) rfl))) (mvT hZ (hw _ (List.mem_of_getElem? (i := 32) rfl))) (mvT hZ (hw _ (List.mem_of_getElem? (i := 43) rfl))) (by decide) (backOf (W := 2) (rm10 l Z a0 hw [] p3 h0 n0 Z0) hZ (hw _ (List.mem_of_getElem? (i := 43) rfl)) (hw _ (List.mem_of_getElem? (i := 32) rfl)) (by decide) (by decide)) (g := (mkF m 27 #[.val (.ref a1), .val (.int p2), .val (.int p3), .val (.long ((f_low_a1.toUInt64 >>> (p2 &&& 0x3f).toInt64.toUInt64).toInt64)), .second] [(.int p3), (.long ((f_low_a1.toUInt64 >>> (p2 &&& 0x3f).toInt64.toUInt64).toInt64))])) rfl (by rw [hml]; rfl) (argsL := [(.int p3)]) (rest := [(.long ((f_low_a1.toUInt64 >>> (p2 &&& 0x3f).toInt64.toUInt64).toInt64))]) (lenOf pd_0 rfl) rfl (by show 2 * 0 + _ ≤ _; exact Nat.le_of_eq rfl) (hb hby d17_27) (fun _ _ => ⟨rfl, e3, (by decide : 0 + 0 ≤ _), (by decide : 0 + 0 ≤ _)⟩)
    dsimp only [Pt.U, Pt.locs, Pt.cells, Pt.slots] at X4 l4 y4 z4 st4 hQ4
    subst l4 y4 z4
    obtain ⟨rfl, N4q, e4⟩ := hQ4
    have N4 := Fr.app N0 N4q
    have er : (f17 p2 p3 f_low_a1 f_high_a1) = (((f_low_a1.toUInt64 >>> (p2 &&& 0x3f).toInt64.toUInt64).toInt64) &&& (f10 p3)) := by exact (if_pos hc2)
    obtain ⟨fs, hr, hrun, hended, hW, hsame⟩ := X4.leave (v := some (.long (((f_low_a1.toUInt64 >>> (p2 &&& 0x3f).toInt64.toUInt64).toInt64) &&& (f10 p3)))) (fun h => by rw [Bd.returns] at h; cases h)
    refine ⟨_, _, pre1 _ ?_, hrun, hended, _, _, rfl, ?_, ⟨_, rfl⟩, hW, hsame.mono (by decide) (by decide)⟩
    · show Steps p.tables e below (s₁.setTop (mkF m 3 #[.val (.ref a1), .val (.int p2), .val (.int p3), .unset, .unset] [(.int (64 : Int32)), (.int p2)])) _
      refine XS.icmpYes X0.here hx rfl (pc0 := 3) (pc' := 18) rfl (hb hby d17_3) rfl (tlt hc2).1 (by decide) (by decide) ?_
      show Steps p.tables e below (s₁.setTop (mkF m 18 #[.val (.ref a1), .val (.int p2), .val (.int p3), .unset, .unset] [])) _
      refine XS.aloadN X0.here hx rfl (hb hby d17_18) rfl rfl ?_
      show Steps p.tables e below (s₁.setTop (mkF m 19 #[.val (.ref a1), .val (.int p2), .val (.int p3), .unset, .unset] [(.ref a1)])) _
      refine st3 _ ?_
      show Steps p.tables e below (T3.setTop (mkF m 22 #[.val (.ref a1), .val (.int p2), .val (.int p3), .unset, .unset] [(.long f_low_a1)])) _
      refine XS.iloadN X3.here hx rfl (hb hby d17_22) rfl ?_
      show Steps p.tables e below (T3.setTop (mkF m 23 #[.val (.ref a1), .val (.int p2), .val (.int p3), .unset, .unset] [(.int p2), (.long f_low_a1)])) _
      refine XS.lushr X3.here hx rfl (hb hby d17_23) rfl ?_
      show Steps p.tables e below (T3.setTop (mkF m 24 #[.val (.ref a1), .val (.int p2), .val (.int p3), .unset, .unset] [(.long ((f_low_a1.toUInt64 >>> (p2 &&& 0x3f).toInt64.toUInt64).toInt64))])) _
      refine XS.lstoreN X3.here hx rfl (hb hby d17_24) rfl (l' := #[.val (.ref a1), .val (.int p2), .val (.int p3), .val (.long ((f_low_a1.toUInt64 >>> (p2 &&& 0x3f).toInt64.toUInt64).toInt64)), .second]) rfl ?_
      show Steps p.tables e below (T3.setTop (mkF m 25 #[.val (.ref a1), .val (.int p2), .val (.int p3), .val (.long ((f_low_a1.toUInt64 >>> (p2 &&& 0x3f).toInt64.toUInt64).toInt64)), .second] [])) _
      refine XS.lloadN X3.here hx rfl (hb hby d17_25) rfl ?_
      show Steps p.tables e below (T3.setTop (mkF m 26 #[.val (.ref a1), .val (.int p2), .val (.int p3), .val (.long ((f_low_a1.toUInt64 >>> (p2 &&& 0x3f).toInt64.toUInt64).toInt64)), .second] [(.long ((f_low_a1.toUInt64 >>> (p2 &&& 0x3f).toInt64.toUInt64).toInt64))])) _
      refine XS.iloadN X3.here hx rfl (hb hby d17_26) rfl ?_
      show Steps p.tables e below (T3.setTop (mkF m 27 #[.val (.ref a1), .val (.int p2), .val (.int p3), .val (.long ((f_low_a1.toUInt64 >>> (p2 &&& 0x3f).toInt64.toUInt64).toInt64)), .second] [(.int p3), (.long ((f_low_a1.toUInt64 >>> (p2 &&& 0x3f).toInt64.toUInt64).toInt64))])) _
      refine st4 _ ?_
      show Steps p.tables e below (T4.setTop (mkF m 30 #[.val (.ref a1), .val (.int p2), .val (.int p3), .val (.long ((f_low_a1.toUInt64 >>> (p2 &&& 0x3f).toInt64.toUInt64).toInt64)), .second] [(.long (f10 p3)), (.long ((f_low_a1.toUInt64 >>> (p2 &&& 0x3f).toInt64.toUInt64).toInt64))])) _
      refine XS.land X4.here hx rfl (hb hby d17_30) rfl ?_
      show Steps p.tables e below (T4.setTop (mkF m 31 #[.val (.ref a1), .val (.int p2), .val (.int p3), .val (.long ((f_low_a1.toUInt64 >>> (p2 &&& 0x3f).toInt64.toUInt64).toInt64)), .second] [(.long (((f_low_a1.toUInt64 >>> (p2 &&& 0x3f).toInt64.toUInt64).toInt64) &&& (f10 p3)))])) _
      exact X4.lreturnOut hx Bd.returns (hb hby d17_31) hr
    · show Q17 Z a1 p2 p3 f_low_a1 f_high_a1 h0 n0 _ T4.heap _
      rw [e4]
      exact ⟨congrArg (fun z => some (Value.long z)) er.symm, N4, rfl⟩
  · obtain ⟨T5, X5, e5, st5⟩ := getF X0 hx hZ hown (host := "") (Or.inl (hw _ (List.mem_of_getElem? (i := 55) rfl))) Via.refl e0 F_high_a1 (g := (mkF m 7 #[.val (.ref a1), .val (.int p2), .val (.int p3), .unset, .unset] [(.ref a1)])) rfl rfl (hb hby d17_7)
    obtain ⟨_, _, ⟨T6, L6, k6, n6⟩, -, X6, ⟨Lc6, hQ6, l6, y6, z6⟩, st6⟩ := Jvm.LawKit.callS X5 hx (y := (⟨"com/example/tagwire/tagwire/core/FloatValue", "mask", "(I)J"⟩ : MethodName)) hown (mvT hZ (hw _ (List.mem_of_getElem? (i := 41) rfl))) (mvT hZ (hw _ (List.mem_of_getElem? (i := 42) rfl))) (mvT hZ (hw _ (List.mem_of_getElem? (i := 32) rfl))) (mvT hZ (hw _ (List.mem_of_getElem? (i := 43) rfl))) (by decide) (backOf (W := 2) (rm10 l Z a0 hw [] p3 h0 n0 Z0) hZ (hw _ (List.mem_of_getElem? (i := 43) rfl)) (hw _ (List.mem_of_getElem? (i := 32) rfl)) (by decide) (by decide)) (g := (mkF m 27 #[.val (.ref a1), .val (.int p2), .val (.int p3), .val (.long ((f_high_a1.toUInt64 >>> ((p2 - (64 : Int32)) &&& 0x3f).toInt64.toUInt64).toInt64)), .second] [(.int p3), (.long ((f_high_a1.toUInt64 >>> ((p2 - (64 : Int32)) &&& 0x3f).toInt64.toUInt64).toInt64))])) rfl (by rw [hml]; rfl) (argsL := [(.int p3)]) (rest := [(.long ((f_high_a1.toUInt64 >>> ((p2 - (64 : Int32)) &&& 0x3f).toInt64.toUInt64).toInt64))]) (lenOf pd_0 rfl) rfl (by show 2 * 0 + _ ≤ _; exact Nat.le_of_eq rfl) (hb hby d17_27) (fun _ _ => ⟨rfl, e5, (by decide : 0 + 0 ≤ _), (by decide : 0 + 0 ≤ _)⟩)
    dsimp only [Pt.U, Pt.locs, Pt.cells, Pt.slots] at X6 l6 y6 z6 st6 hQ6
    subst l6 y6 z6
    obtain ⟨rfl, N6q, e6⟩ := hQ6
    have N6 := Fr.app N0 N6q
    have er : (f17 p2 p3 f_low_a1 f_high_a1) = (((f_high_a1.toUInt64 >>> ((p2 - (64 : Int32)) &&& 0x3f).toInt64.toUInt64).toInt64) &&& (f10 p3)) := by exact (if_neg hc2)
    obtain ⟨fs, hr, hrun, hended, hW, hsame⟩ := X6.leave (v := some (.long (((f_high_a1.toUInt64 >>> ((p2 - (64 : Int32)) &&& 0x3f).toInt64.toUInt64).toInt64) &&& (f10 p3)))) (fun h => by rw [Bd.returns] at h; cases h)
    refine ⟨_, _, pre1 _ ?_, hrun, hended, _, _, rfl, ?_, ⟨_, rfl⟩, hW, hsame.mono (by decide) (by decide)⟩
    · show Steps p.tables e below (s₁.setTop (mkF m 3 #[.val (.ref a1), .val (.int p2), .val (.int p3), .unset, .unset] [(.int (64 : Int32)), (.int p2)])) _
      refine XS.icmpNo X0.here hx rfl (hb hby d17_3) rfl (flt hc2).1 ?_
      show Steps p.tables e below (s₁.setTop (mkF m 6 #[.val (.ref a1), .val (.int p2), .val (.int p3), .unset, .unset] [])) _
      refine XS.aloadN X0.here hx rfl (hb hby d17_6) rfl rfl ?_
      show Steps p.tables e below (s₁.setTop (mkF m 7 #[.val (.ref a1), .val (.int p2), .val (.int p3), .unset, .unset] [(.ref a1)])) _
      refine st5 _ ?_
      show Steps p.tables e below (T5.setTop (mkF m 10 #[.val (.ref a1), .val (.int p2), .val (.int p3), .unset, .unset] [(.long f_high_a1)])) _
      refine XS.iloadN X5.here hx rfl (hb hby d17_10) rfl ?_
      show Steps p.tables e below (T5.setTop (mkF m 11 #[.val (.ref a1), .val (.int p2), .val (.int p3), .unset, .unset] [(.int p2), (.long f_high_a1)])) _
      refine XS.bipush X5.here hx rfl (hb hby d17_11) ?_
      show Steps p.tables e below (T5.setTop (mkF m 13 #[.val (.ref a1), .val (.int p2), .val (.int p3), .unset, .unset] [(.int (64 : Int32)), (.int p2), (.long f_high_a1)])) _
      refine XS.isub X5.here hx rfl (hb hby d17_13) rfl ?_
      show Steps p.tables e below (T5.setTop (mkF m 14 #[.val (.ref a1), .val (.int p2), .val (.int p3), .unset, .unset] [(.int (p2 - (64 : Int32))), (.long f_high_a1)])) _
      refine XS.lushr X5.here hx rfl (hb hby d17_14) rfl ?_
      show Steps p.tables e below (T5.setTop (mkF m 15 #[.val (.ref a1), .val (.int p2), .val (.int p3), .unset, .unset] [(.long ((f_high_a1.toUInt64 >>> ((p2 - (64 : Int32)) &&& 0x3f).toInt64.toUInt64).toInt64))])) _
      refine XS.goto X5.here hx rfl (pc0 := 15) (pc' := 24) rfl (hb hby d17_15) (by decide) (by decide) ?_
      show Steps p.tables e below (T5.setTop (mkF m 24 #[.val (.ref a1), .val (.int p2), .val (.int p3), .unset, .unset] [(.long ((f_high_a1.toUInt64 >>> ((p2 - (64 : Int32)) &&& 0x3f).toInt64.toUInt64).toInt64))])) _
      refine XS.lstoreN X5.here hx rfl (hb hby d17_24) rfl (l' := #[.val (.ref a1), .val (.int p2), .val (.int p3), .val (.long ((f_high_a1.toUInt64 >>> ((p2 - (64 : Int32)) &&& 0x3f).toInt64.toUInt64).toInt64)), .second]) rfl ?_
      show Steps p.tables e below (T5.setTop (mkF m 25 #[.val (.ref a1), .val (.int p2), .val (.int p3), .val (.long ((f_high_a1.toUInt64 >>> ((p2 - (64 : Int32)) &&& 0x3f).toInt64.toUInt64).toInt64)), .second] [])) _
      refine XS.lloadN X5.here hx rfl (hb hby d17_25) rfl ?_
      show Steps p.tables e below (T5.setTop (mkF m 26 #[.val (.ref a1), .val (.int p2), .val (.int p3), .val (.long ((f_high_a1.toUInt64 >>> ((p2 - (64 : Int32)) &&& 0x3f).toInt64.toUInt64).toInt64)), .second] [(.long ((f_high_a1.toUInt64 >>> ((p2 - (64 : Int32)) &&& 0x3f).toInt64.toUInt64).toInt64))])) _
      refine XS.iloadN X5.here hx rfl (hb hby d17_26) rfl ?_
      show Steps p.tables e below (T5.setTop (mkF m 27 #[.val (.ref a1), .val (.int p2), .val (.int p3), .val (.long ((f_high_a1.toUInt64 >>> ((p2 - (64 : Int32)) &&& 0x3f).toInt64.toUInt64).toInt64)), .second] [(.int p3), (.long ((f_high_a1.toUInt64 >>> ((p2 - (64 : Int32)) &&& 0x3f).toInt64.toUInt64).toInt64))])) _
      refine st6 _ ?_
      show Steps p.tables e below (T6.setTop (mkF m 30 #[.val (.ref a1), .val (.int p2), .val (.int p3), .val (.long ((f_high_a1.toUInt64 >>> ((p2 - (64 : Int32)) &&& 0x3f).toInt64.toUInt64).toInt64)), .second] [(.long (f10 p3)), (.long ((f_high_a1.toUInt64 >>> ((p2 - (64 : Int32)) &&& 0x3f).toInt64.toUInt64).toInt64))])) _
      refine XS.land X6.here hx rfl (hb hby d17_30) rfl ?_
      show Steps p.tables e below (T6.setTop (mkF m 31 #[.val (.ref a1), .val (.int p2), .val (.int p3), .val (.long ((f_high_a1.toUInt64 >>> ((p2 - (64 : Int32)) &&& 0x3f).toInt64.toUInt64).toInt64)), .second] [(.long (((f_high_a1.toUInt64 >>> ((p2 - (64 : Int32)) &&& 0x3f).toInt64.toUInt64).toInt64) &&& (f10 p3)))])) _
      exact X6.lreturnOut hx Bd.returns (hb hby d17_31) hr
    · show Q17 Z a1 p2 p3 f_low_a1 f_high_a1 h0 n0 _ T6.heap _
      rw [e6]
      exact ⟨congrArg (fun z => some (Value.long z)) er.symm, N6, rfl⟩
theorem pd_1 : parseMethodDescriptor "()I" = some ⟨[], some .int⟩ := by decide +kernel
theorem pd_2 : parseMethodDescriptor "(II)J" = some ⟨[.int, .int], some .long⟩ := by decide +kernel
theorem d14_0 : decode prog_14_method_17_code 0 = .ok (.aload_n 0, 1) := by decide +kernel
theorem d14_1 : decode prog_14_method_17_code 1 = .ok (.aload_n 0, 1) := by decide +kernel
theorem d14_2 : decode prog_14_method_17_code 2 = .ok (.getfield 24, 3) := by decide +kernel
theorem d14_5 : decode prog_14_method_17_code 5 = .ok (.invokevirtual 71, 3) := by decide +kernel
theorem d14_8 : decode prog_14_method_17_code 8 = .ok (.aload_n 0, 1) := by decide +kernel
theorem d14_9 : decode prog_14_method_17_code 9 = .ok (.getfield 24, 3) := by decide +kernel
theorem d14_12 : decode prog_14_method_17_code 12 = .ok (.invokevirtual 74, 3) := by decide +kernel
theorem d14_15 : decode prog_14_method_17_code 15 = .ok (.invokevirtual 77, 3) := by decide +kernel
theorem d14_18 : decode prog_14_method_17_code 18 = .ok (.l2i, 1) := by decide +kernel
theorem d14_19 : decode prog_14_method_17_code 19 = .ok (.ireturn, 1) := by decide +kernel
theorem pn_14 : plainName "com/example/tagwire/tagwire/core/FloatValue" = true := by first | (simp [plainName, overriddenIn]; done) | decide +kernel
theorem ef_14 (m : MethodId) (a1 : Addr) : entryFrame m #[(.ref a1)] 1 = mkF m 0 #[.val (.ref a1)] [] := by first | (simp [entryFrame, mkF, argsToLocals, Value.category]; done) | rfl
def f14 (f_significandBits_f_format_a1 : Int32) (f_exponentBits_f_format_a1 : Int32) (f_low_a1 : Int64) (f_high_a1 : Int64) : Int32 :=
  ((f17 (f15 f_significandBits_f_format_a1) (f16 f_exponentBits_f_format_a1) f_low_a1 f_high_a1).toInt32)
def Q14 (Z : State) (a1 : Addr) (f_format_a1 : Addr) (f_significandBits_f_format_a1 : Int32) (f_exponentBits_f_format_a1 : Int32) (f_low_a1 : Int64) (f_high_a1 : Int64) (h0 : Heap) (n0 : Nat) (v : Option Value) (h : Heap) (L : List Loc) : Prop := v = some (.int (f14 f_significandBits_f_format_a1 f_exponentBits_f_format_a1 f_low_a1 f_high_a1)) ∧ Fr n0 L ∧ h = h0
set_option maxRecDepth 65536 in
set_option maxHeartbeats 40000000 in
theorem rm14 (l : Launch) (Z : State) (a0 : Array Value) (hw : ∀ d ∈ tables_1, d.before a0 Z = true) (ws : List Jvm.Cond) (a1 : Addr) (f_format_a1 : Addr) (f_significandBits_f_format_a1 : Int32) (f_exponentBits_f_format_a1 : Int32) (f_low_a1 : Int64) (f_high_a1 : Int64) (h0 : Heap) (n0 : Nat) (Z0 : n0 ≤ h0.size) (F_format_a1 : Fld Z h0 a1 "com/example/tagwire/tagwire/core/FloatValue" "format" "Lcom/example/tagwire/tagwire/core/FloatFormat;" (.ref f_format_a1)) (F_significandBits_f_format_a1 : Fld Z h0 f_format_a1 "com/example/tagwire/tagwire/core/FloatFormat" "significandBits" "I" (.int f_significandBits_f_format_a1)) (E_f_format_a1 : Exa Z h0 f_format_a1 "com/example/tagwire/tagwire/core/FloatFormat") (F_exponentBits_f_format_a1 : Fld Z h0 f_format_a1 "com/example/tagwire/tagwire/core/FloatFormat" "exponentBits" "I" (.int f_exponentBits_f_format_a1)) (F_low_a1 : Fld Z h0 a1 "com/example/tagwire/tagwire/core/FloatValue" "low" "J" (.long f_low_a1)) (F_high_a1 : Fld Z h0 a1 "com/example/tagwire/tagwire/core/FloatValue" "high" "J" (.long f_high_a1)) (E_a1 : Exa Z h0 a1 "com/example/tagwire/tagwire/core/FloatValue") :
    MetFree l (⟨"com/example/tagwire/tagwire/core/FloatValue", "exponentField", "()I"⟩ : MethodName) (head1 (Jvm.Cond.code (⟨"com/example/tagwire/tagwire/core/FloatValue", "exponentField", "()I"⟩ : MethodName) prog_14_method_17_code 1 (some .int) :: ws) ({ frames := 2, cells := 0, slots := 0, locals := 30 } : Room)) (fun a U => a = #[(.ref a1)] ∧ Z.Warmed39 U.vm ∧ U.heap = h0) (fun _ _ _ _ _ => True) (fun _ U o U' => ∃ v L, o = .returned v ∧ Q14 Z a1 f_format_a1 f_significandBits_f_format_a1 f_exponentBits_f_format_a1 f_low_a1 f_high_a1 h0 n0 v U'.heap L ∧ FrameEnd U o U' L ({ frames := 2, cells := 0, slots := 0, locals := 30 } : Room).cells ({ frames := 2, cells := 0, slots := 0, locals := 30 } : Room).slots) := by
  refine MetFree.of_bodySF (plainFor_of_name pn_14) hisR ?_
  intro p e s m args below meth c s₁ Bd hml0 hP hK
  obtain ⟨rfl, hZ, hh⟩ := hP
  have hx := Bd.exec
  have hby := Bd.bytes
  have hml : c.maxLocals = 1 := hml0
  have hown : s.vm.findClass "com/example/tagwire/tagwire/core/FloatValue" = some m.cls := findClass_of_methodNamed Bd.named
  have hnm := (name_of_methodNamed Bd.named Bd.method).1
  have X0 : Stand p l e ({ frames := 2, cells := 0, slots := 0, locals := 30 } : Room) s m #[(.ref a1)] below meth c s₁ [] 0 0 := Stand.of_body Bd
  have e0 : s₁.heap = h0 := by rw [← hh, Bd.state]; rfl
  have N0 := Fr.nil n0
  have pre0 : ∀ t, Steps p.tables e below (s₁.setTop (mkF m 0 #[.val (.ref a1)] [])) t → Steps p.tables e below (s₁.setTop (entryFrame m #[(.ref a1)] 1)) t := fun t k => castTop (ef_14 m a1) k
  obtain ⟨T1, X1, e1, st1⟩ := getF X0 hx hZ hown (host := "") (Or.inl (hw _ (List.mem_of_getElem? (i := 53) rfl))) Via.refl e0 F_format_a1 (g := (mkF m 2 #[.val (.ref a1)] [(.ref a1), (.ref a1)])) rfl rfl (hb hby d14_2)
  obtain ⟨cq2, kq2, q2a, q2b, q2c⟩ := isOf hZ e1 E_f_format_a1
  obtain ⟨_, _, ⟨T2, L2, k2, n2⟩, -, X2, ⟨Lc2, hQ2, l2, y2, z2⟩, st2⟩ := X1.virtualBack hx (y := (⟨"com/example/tagwire/tagwire/core/FloatFormat", "significandBits", "()I"⟩ : MethodName)) (z := (⟨"com/example/tagwire/tagwire/core/FloatFormat", "significandBits", "()I"⟩ : MethodName)) hown (mvT hZ (hw _ (List.mem_of_getElem? (i := 69) rfl))) (mvT hZ (hw _ (List.mem_of_getElem? (i := 70) rfl))) (notFace_of_selects (args := #[]) (mvT hZ (hw _ (List.mem_of_getElem? (i := 72) rfl)))) (mvT hZ (hw _ (List.mem_of_getElem? (i := 72) rfl))) (mvT hZ (hw _ (List.mem_of_getElem? (i := 71) rfl))) (by decide) (backOf (W := 1) (rm15 l Z a0 hw [] f_format_a1 f_significandBits_f_format_a1 h0 n0 Z0 F_significandBits_f_format_a1) hZ (hw _ (List.mem_of_getElem? (i := 73) rfl)) (hw _ (List.mem_of_getElem? (i := 28) rfl)) (by decide) (by decide)) q2a q2c (g := (mkF m 5 #[.val (.ref a1)] [(.ref f_format_a1), (.ref a1)])) rfl (by rw [hml]; rfl) (Steps.refl _) (argsL := []) (rest := [(.ref a1)]) (lenOf pd_1 rfl) rfl (by show 2 * 0 + _ ≤ _; exact Nat.le_of_eq rfl) (hb hby d14_5) (fun _ _ => ⟨rfl, e1, (by decide : 0 + 0 ≤ _), (by decide : 0 + 0 ≤ _)⟩)
  dsimp only [Pt.U, Pt.locs, Pt.cells, Pt.slots] at X2 l2 y2 z2 st2 hQ2
  subst l2 y2 z2
  obtain ⟨rfl, N2q, e2⟩ := hQ2
  have N2 := Fr.app N0 N2q
  obtain ⟨T3, X3, e3, st3⟩ := getF X2 hx hZ hown (host := "") (Or.inl (hw _ (List.mem_of_getElem? (i := 53) rfl))) Via.refl e2 F_format_a1 (g := (mkF m 9 #[.val (.ref a1)] [(.ref a1), (.int (f15 f_significandBits_f_format_a1)), (.ref a1)])) rfl rfl (hb hby d14_9)
  obtain ⟨cq4, kq4, q4a, q4b, q4c⟩ := isOf hZ e3 E_f_format_a1
  obtain ⟨_, _, ⟨T4, L4, k4, n4⟩, -, X4, ⟨Lc4, hQ4, l4, y4, z4⟩, st4⟩ := X3.virtualBack hx (y := (⟨"com/example/tagwire/tagwire/core/FloatFormat", "exponentBits", "()I"⟩ : MethodName)) (z := (⟨"com/example/tagwire/tagwire/core/FloatFormat", "exponentBits", "()I"⟩ : MethodName)) hown (mvT hZ (hw _ (List.mem_of_getElem? (i := 76) rfl))) (mvT hZ (hw _ (List.mem_of_getElem? (i := 77) rfl))) (notFace_of_selects (args := #[]) (mvT hZ (hw _ (List.mem_of_getElem? (i := 79) rfl)))) (mvT hZ (hw _ (List.mem_of_getElem? (i := 79) rfl))) (mvT hZ (hw _ (List.mem_of_getElem? (i := 78) rfl))) (by decide) (backOf (W := 2) (rm16 l Z a0 hw [] f_format_a1 f_exponentBits_f_format_a1 h0 n0 Z0 F_exponentBits_f_format_a1) hZ (hw _ (List.mem_of_getElem? (i := 80) rfl)) (hw _ (List.mem_of_getElem? (i := 28) rfl)) (by decide) (by decide)) q4a q4c (g := (mkF m 12 #[.val (.ref a1)] [(.ref f_format_a1), (.int (f15 f_significandBits_f_format_a1)), (.ref a1)])) rfl (by rw [hml]; rfl) (Steps.refl _) (argsL := []) (rest := [(.int (f15 f_significandBits_f_format_a1)), (.ref a1)]) (lenOf pd_1 rfl) rfl (by show 2 * 0 + _ ≤ _; exact Nat.le_of_eq rfl) (hb hby d14_12) (fun _ _ => ⟨rfl, e3, (by decide : 0 + 0 ≤ _), (by decide : 0 + 0 ≤ _)⟩)
  dsimp only [Pt.U, Pt.locs, Pt.cells, Pt.slots] at X4 l4 y4 z4 st4 hQ4
  subst l4 y4 z4
  obtain ⟨rfl, N4q, e4⟩ := hQ4
  have N4 := Fr.app N2 N4q
  obtain ⟨cx5, kx5, xa5, xb5, xc5, xd5, -⟩ := id E_a1
  obtain ⟨_, _, ⟨T5, L5, k5, n5⟩, -, X5, ⟨Lc5, hQ5, l5, y5, z5⟩, st5⟩ := X4.privateBack hx (y := (⟨"com/example/tagwire/tagwire/core/FloatValue", "bits", "(II)J"⟩ : MethodName)) hown (mvT hZ (hw _ (List.mem_of_getElem? (i := 83) rfl))) (mvT hZ (hw _ (List.mem_of_getElem? (i := 84) rfl))) (own_privSel hZ (hw _ (List.mem_of_getElem? (i := 46) rfl)) (hw _ (List.mem_of_getElem? (i := 84) rfl)) (hw _ (List.mem_of_getElem? (i := 85) rfl)) (by decide)) (own_privAt hZ (hw _ (List.mem_of_getElem? (i := 85) rfl))) (mvT hZ (hw _ (List.mem_of_getElem? (i := 86) rfl))) (by decide) (backOf (W := 0) (rm17 l Z a0 hw [] a1 (f15 f_significandBits_f_format_a1) (f16 f_exponentBits_f_format_a1) f_low_a1 f_high_a1 h0 n0 Z0 F_low_a1 F_high_a1) hZ (hw _ (List.mem_of_getElem? (i := 86) rfl)) (hw _ (List.mem_of_getElem? (i := 32) rfl)) (by decide) (by decide)) (g := (mkF m 15 #[.val (.ref a1)] [(.int (f16 f_exponentBits_f_format_a1)), (.int (f15 f_significandBits_f_format_a1)), (.ref a1)])) rfl (by rw [hml]; rfl) (Steps.refl _) (a := a1) (by rw [e4]; exact xa5) (own_notSta xd5) (argsL := [(.int (f15 f_significandBits_f_format_a1)), (.int (f16 f_exponentBits_f_format_a1))]) (rest := []) (lenOf pd_2 rfl) rfl (by show 2 * 0 + _ ≤ _; exact Nat.le_of_eq rfl) (hb hby d14_15) (fun _ _ => ⟨rfl, e4, (by decide : 0 + 0 ≤ _), (by decide : 0 + 0 ≤ _)⟩)
  dsimp only [Pt.U, Pt.locs, Pt.cells, Pt.slots] at X5 l5 y5 z5 st5 hQ5
  subst l5 y5 z5
  obtain ⟨rfl, N5q, e5⟩ := hQ5
  have N5 := Fr.app N4 N5q
  have er : (f14 f_significandBits_f_format_a1 f_exponentBits_f_format_a1 f_low_a1 f_high_a1) = ((f17 (f15 f_significandBits_f_format_a1) (f16 f_exponentBits_f_format_a1) f_low_a1 f_high_a1).toInt32) := by exact rfl
  obtain ⟨fs, hr, hrun, hended, hW, hsame⟩ := X5.leave (v := some (.int ((f17 (f15 f_significandBits_f_format_a1) (f16 f_exponentBits_f_format_a1) f_low_a1 f_high_a1).toInt32))) (fun h => by rw [Bd.returns] at h; cases h)
  refine ⟨_, _, pre0 _ ?_, hrun, hended, _, _, rfl, ?_, ⟨_, rfl⟩, hW, hsame.mono (by decide) (by decide)⟩
  · show Steps p.tables e below (s₁.setTop (mkF m 0 #[.val (.ref a1)] [])) _
    refine XS.aloadN X0.here hx rfl (hb hby d14_0) rfl rfl ?_
    show Steps p.tables e below (s₁.setTop (mkF m 1 #[.val (.ref a1)] [(.ref a1)])) _
    refine XS.aloadN X0.here hx rfl (hb hby d14_1) rfl rfl ?_
    show Steps p.tables e below (s₁.setTop (mkF m 2 #[.val (.ref a1)] [(.ref a1), (.ref a1)])) _
    refine st1 _ ?_
    show Steps p.tables e below (T1.setTop (mkF m 5 #[.val (.ref a1)] [(.ref f_format_a1), (.ref a1)])) _
    refine st2.trans ?_
    show Steps p.tables e below (T2.setTop (mkF m 8 #[.val (.ref a1)] [(.int (f15 f_significandBits_f_format_a1)), (.ref a1)])) _
    refine XS.aloadN X2.here hx rfl (hb hby d14_8) rfl rfl ?_
    show Steps p.tables e below (T2.setTop (mkF m 9 #[.val (.ref a1)] [(.ref a1), (.int (f15 f_significandBits_f_format_a1)), (.ref a1)])) _
    refine st3 _ ?_
    show Steps p.tables e below (T3.setTop (mkF m 12 #[.val (.ref a1)] [(.ref f_format_a1), (.int (f15 f_significandBits_f_format_a1)), (.ref a1)])) _
    refine st4.trans ?_
    show Steps p.tables e below (T4.setTop (mkF m 15 #[.val (.ref a1)] [(.int (f16 f_exponentBits_f_format_a1)), (.int (f15 f_significandBits_f_format_a1)), (.ref a1)])) _
    refine st5.trans ?_
    show Steps p.tables e below (T5.setTop (mkF m 18 #[.val (.ref a1)] [(.long (f17 (f15 f_significandBits_f_format_a1) (f16 f_exponentBits_f_format_a1) f_low_a1 f_high_a1))])) _
    refine XS.l2i X5.here hx rfl (hb hby d14_18) rfl ?_
    show Steps p.tables e below (T5.setTop (mkF m 19 #[.val (.ref a1)] [(.int ((f17 (f15 f_significandBits_f_format_a1) (f16 f_exponentBits_f_format_a1) f_low_a1 f_high_a1).toInt32))])) _
    exact retI X5 hx Bd.returns (hb hby d14_19) hr
  · show Q14 Z a1 f_format_a1 f_significandBits_f_format_a1 f_exponentBits_f_format_a1 f_low_a1 f_high_a1 h0 n0 _ T5.heap _
    rw [e5]
    exact ⟨congrArg (fun z => some (Value.int z)) er.symm, N5, rfl⟩
theorem d13_0 : decode prog_14_method_10_code 0 = .ok (.aload_n 0, 1) := by decide +kernel
theorem d13_1 : decode prog_14_method_10_code 1 = .ok (.invokevirtual 84, 3) := by decide +kernel
theorem d13_4 : decode prog_14_method_10_code 4 = .ok (.aload_n 0, 1) := by decide +kernel
theorem d13_5 : decode prog_14_method_10_code 5 = .ok (.getfield 24, 3) := by decide +kernel
theorem d13_8 : decode prog_14_method_10_code 8 = .ok (.invokevirtual 87, 3) := by decide +kernel
theorem d13_11 : decode prog_14_method_10_code 11 = .ok (.if_icmp .eq 7, 3) := by decide +kernel
theorem d13_14 : decode prog_14_method_10_code 14 = .ok (.iconst 1, 1) := by decide +kernel
theorem d13_15 : decode prog_14_method_10_code 15 = .ok (.goto 4, 3) := by decide +kernel
theorem d13_18 : decode prog_14_method_10_code 18 = .ok (.iconst 0, 1) := by decide +kernel
theorem d13_19 : decode prog_14_method_10_code 19 = .ok (.ireturn, 1) := by decide +kernel
theorem pn_13 : plainName "com/example/tagwire/tagwire/core/FloatValue" = true := by first | (simp [plainName, overriddenIn]; done) | decide +kernel
theorem ef_13 (m : MethodId) (a1 : Addr) : entryFrame m #[(.ref a1)] 1 = mkF m 0 #[.val (.ref a1)] [] := by first | (simp [entryFrame, mkF, argsToLocals, Value.category]; done) | rfl
def f13 (f_significandBits_f_format_a1 : Int32) (f_exponentBits_f_format_a1 : Int32) (f_low_a1 : Int64) (f_high_a1 : Int64) : Int32 :=
  (nar .boolean (if (f14 f_significandBits_f_format_a1 f_exponentBits_f_format_a1 f_low_a1 f_high_a1) = (f18 f_exponentBits_f_format_a1) then (0 : Int32) else (1 : Int32)))
def Q13 (Z : State) (a1 : Addr) (f_format_a1 : Addr) (f_significandBits_f_format_a1 : Int32) (f_exponentBits_f_format_a1 : Int32) (f_low_a1 : Int64) (f_high_a1 : Int64) (h0 : Heap) (n0 : Nat) (v : Option Value) (h : Heap) (L : List Loc) : Prop := v = some (.int (f13 f_significandBits_f_format_a1 f_exponentBits_f_format_a1 f_low_a1 f_high_a1)) ∧ Fr n0 L ∧ h = h0
set_option maxRecDepth 65536 in
set_option maxHeartbeats 40000000 in
theorem rm13 (l : Launch) (Z : State) (a0 : Array Value) (hw : ∀ d ∈ tables_1, d.before a0 Z = true) (ws : List Jvm.Cond) (a1 : Addr) (f_format_a1 : Addr) (f_significandBits_f_format_a1 : Int32) (f_exponentBits_f_format_a1 : Int32) (f_low_a1 : Int64) (f_high_a1 : Int64) (h0 : Heap) (n0 : Nat) (Z0 : n0 ≤ h0.size) (F_format_a1 : Fld Z h0 a1 "com/example/tagwire/tagwire/core/FloatValue" "format" "Lcom/example/tagwire/tagwire/core/FloatFormat;" (.ref f_format_a1)) (F_significandBits_f_format_a1 : Fld Z h0 f_format_a1 "com/example/tagwire/tagwire/core/FloatFormat" "significandBits" "I" (.int f_significandBits_f_format_a1)) (E_f_format_a1 : Exa Z h0 f_format_a1 "com/example/tagwire/tagwire/core/FloatFormat") (F_exponentBits_f_format_a1 : Fld Z h0 f_format_a1 "com/example/tagwire/tagwire/core/FloatFormat" "exponentBits" "I" (.int f_exponentBits_f_format_a1)) (F_low_a1 : Fld Z h0 a1 "com/example/tagwire/tagwire/core/FloatValue" "low" "J" (.long f_low_a1)) (F_high_a1 : Fld Z h0 a1 "com/example/tagwire/tagwire/core/FloatValue" "high" "J" (.long f_high_a1)) (E_a1 : Exa Z h0 a1 "com/example/tagwire/tagwire/core/FloatValue") :
    MetFree l (⟨"com/example/tagwire/tagwire/core/FloatValue", "isFinite", "()Z"⟩ : MethodName) (head1 (Jvm.Cond.code (⟨"com/example/tagwire/tagwire/core/FloatValue", "isFinite", "()Z"⟩ : MethodName) prog_14_method_10_code 1 (some .boolean) :: ws) ({ frames := 3, cells := 0, slots := 0, locals := 42 } : Room)) (fun a U => a = #[(.ref a1)] ∧ Z.Warmed39 U.vm ∧ U.heap = h0) (fun _ _ _ _ _ => True) (fun _ U o U' => ∃ v L, o = .returned v ∧ Q13 Z a1 f_format_a1 f_significandBits_f_format_a1 f_exponentBits_f_format_a1 f_low_a1 f_high_a1 h0 n0 v U'.heap L ∧ FrameEnd U o U' L ({ frames := 3, cells := 0, slots := 0, locals := 42 } : Room).cells ({ frames := 3, cells := 0, slots := 0, locals := 42 } : Room).slots) := by
  refine MetFree.of_bodySF (plainFor_of_name pn_13) hisR ?_
  intro p e s m args below meth c s₁ Bd hml0 hP hK
  obtain ⟨rfl, hZ, hh⟩ := hP
  have hx := Bd.exec
  have hby := Bd.bytes
  have hml : c.maxLocals = 1 := hml0
  have hown : s.vm.findClass "com/example/tagwire/tagwire/core/FloatValue" = some m.cls := findClass_of_methodNamed Bd.named
  have hnm := (name_of_methodNamed Bd.named Bd.method).1
  have X0 : Stand p l e ({ frames := 3, cells := 0, slots := 0, locals := 42 } : Room) s m #[(.ref a1)] below meth c s₁ [] 0 0 := Stand.of_body Bd
  have e0 : s₁.heap = h0 := by rw [← hh, Bd.state]; rfl
  have N0 := Fr.nil n0
  have pre0 : ∀ t, Steps p.tables e below (s₁.setTop (mkF m 0 #[.val (.ref a1)] [])) t → Steps p.tables e below (s₁.setTop (entryFrame m #[(.ref a1)] 1)) t := fun t k => castTop (ef_13 m a1) k
  obtain ⟨cq1, kq1, q1a, q1b, q1c⟩ := isOf hZ e0 E_a1
  obtain ⟨_, _, ⟨T1, L1, k1, n1⟩, -, X1, ⟨Lc1, hQ1, l1, y1, z1⟩, st1⟩ := X0.virtualBack hx (y := (⟨"com/example/tagwire/tagwire/core/FloatValue", "exponentField", "()I"⟩ : MethodName)) (z := (⟨"com/example/tagwire/tagwire/core/FloatValue", "exponentField", "()I"⟩ : MethodName)) hown (mvT hZ (hw _ (List.mem_of_getElem? (i := 64) rfl))) (mvT hZ (hw _ (List.mem_of_getElem? (i := 65) rfl))) (notFace_of_selects (args := #[]) (mvT hZ (hw _ (List.mem_of_getElem? (i := 67) rfl)))) (mvT hZ (hw _ (List.mem_of_getElem? (i := 67) rfl))) (mvT hZ (hw _ (List.mem_of_getElem? (i := 66) rfl))) (by decide) (backOf (W := 0) (rm14 l Z a0 hw [] a1 f_format_a1 f_significandBits_f_format_a1 f_exponentBits_f_format_a1 f_low_a1 f_high_a1 h0 n0 Z0 F_format_a1 F_significandBits_f_format_a1 E_f_format_a1 F_exponentBits_f_format_a1 F_low_a1 F_high_a1 E_a1) hZ (hw _ (List.mem_of_getElem? (i := 68) rfl)) (hw _ (List.mem_of_getElem? (i := 32) rfl)) (by decide) (by decide)) q1a q1c (g := (mkF m 1 #[.val (.ref a1)] [(.ref a1)])) rfl (by rw [hml]; rfl) (Steps.refl _) (argsL := []) (rest := []) (lenOf pd_1 rfl) rfl (by show 2 * 0 + _ ≤ _; exact Nat.le_of_eq rfl) (hb hby d13_1) (fun _ _ => ⟨rfl, e0, (by decide : 0 + 0 ≤ _), (by decide : 0 + 0 ≤ _)⟩)
  dsimp only [Pt.U, Pt.locs, Pt.cells, Pt.slots] at X1 l1 y1 z1 st1 hQ1
  subst l1 y1 z1
  obtain ⟨rfl, N1q, e1⟩ := hQ1
  have N1 := Fr.app N0 N1q
  obtain ⟨T2, X2, e2, st2⟩ := getF X1 hx hZ hown (host := "") (Or.inl (hw _ (List.mem_of_getElem? (i := 53) rfl))) Via.refl e1 F_format_a1 (g := (mkF m 5 #[.val (.ref a1)] [(.ref a1), (.int (f14 f_significandBits_f_format_a1 f_exponentBits_f_format_a1 f_low_a1 f_high_a1))])) rfl rfl (hb hby d13_5)
  obtain ⟨cq3, kq3, q3a, q3b, q3c⟩ := isOf hZ e2 E_f_format_a1
  obtain ⟨_, _, ⟨T3, L3, k3, n3⟩, -, X3, ⟨Lc3, hQ3, l3, y3, z3⟩, st3⟩ := X2.virtualBack hx (y := (⟨"com/example/tagwire/tagwire/core/FloatFormat", "maxExponent", "()I"⟩ : MethodName)) (z := (⟨"com/example/tagwire/tagwire/core/FloatFormat", "maxExponent", "()I"⟩ : MethodName)) hown (mvT hZ (hw _ (List.mem_of_getElem? (i := 87) rfl))) (mvT hZ (hw _ (List.mem_of_getElem? (i := 88) rfl))) (notFace_of_selects (args := #[]) (mvT hZ (hw _ (List.mem_of_getElem? (i := 90) rfl)))) (mvT hZ (hw _ (List.mem_of_getElem? (i := 90) rfl))) (mvT hZ (hw _ (List.mem_of_getElem? (i := 89) rfl))) (by decide) (backOf (W := 1) (rm18 l Z a0 hw [] f_format_a1 f_exponentBits_f_format_a1 h0 n0 Z0 F_exponentBits_f_format_a1) hZ (hw _ (List.mem_of_getElem? (i := 91) rfl)) (hw _ (List.mem_of_getElem? (i := 28) rfl)) (by decide) (by decide)) q3a q3c (g := (mkF m 8 #[.val (.ref a1)] [(.ref f_format_a1), (.int (f14 f_significandBits_f_format_a1 f_exponentBits_f_format_a1 f_low_a1 f_high_a1))])) rfl (by rw [hml]; rfl) (Steps.refl _) (argsL := []) (rest := [(.int (f14 f_significandBits_f_format_a1 f_exponentBits_f_format_a1 f_low_a1 f_high_a1))]) (lenOf pd_1 rfl) rfl (by show 2 * 0 + _ ≤ _; exact Nat.le_of_eq rfl) (hb hby d13_8) (fun _ _ => ⟨rfl, e2, (by decide : 0 + 0 ≤ _), (by decide : 0 + 0 ≤ _)⟩)
  dsimp only [Pt.U, Pt.locs, Pt.cells, Pt.slots] at X3 l3 y3 z3 st3 hQ3
  subst l3 y3 z3
  obtain ⟨rfl, N3q, e3⟩ := hQ3
  have N3 := Fr.app N1 N3q
  obtain ⟨v5, hv5⟩ : ∃ z : Int32, z = (if (f14 f_significandBits_f_format_a1 f_exponentBits_f_format_a1 f_low_a1 f_high_a1) = (f18 f_exponentBits_f_format_a1) then (0 : Int32) else (1 : Int32)) := ⟨_, rfl⟩
  have pre6 : ∀ t, Steps p.tables e below (T3.setTop (mkF m 19 #[.val (.ref a1)] [(.int v5)])) t → Steps p.tables e below (s₁.setTop (entryFrame m #[(.ref a1)] 1)) t := fun t k => pre0 t (by
    show Steps p.tables e below (s₁.setTop (mkF m 0 #[.val (.ref a1)] [])) _
    refine XS.aloadN X0.here hx rfl (hb hby d13_0) rfl rfl ?_
    show Steps p.tables e below (s₁.setTop (mkF m 1 #[.val (.ref a1)] [(.ref a1)])) _
    refine st1.trans ?_
    show Steps p.tables e below (T1.setTop (mkF m 4 #[.val (.ref a1)] [(.int (f14 f_significandBits_f_format_a1 f_exponentBits_f_format_a1 f_low_a1 f_high_a1))])) _
    refine XS.aloadN X1.here hx rfl (hb hby d13_4) rfl rfl ?_
    show Steps p.tables e below (T1.setTop (mkF m 5 #[.val (.ref a1)] [(.ref a1), (.int (f14 f_significandBits_f_format_a1 f_exponentBits_f_format_a1 f_low_a1 f_high_a1))])) _
    refine st2 _ ?_
    show Steps p.tables e below (T2.setTop (mkF m 8 #[.val (.ref a1)] [(.ref f_format_a1), (.int (f14 f_significandBits_f_format_a1 f_exponentBits_f_format_a1 f_low_a1 f_high_a1))])) _
    refine st3.trans ?_
    show Steps p.tables e below (T3.setTop (mkF m 11 #[.val (.ref a1)] [(.int (f18 f_exponentBits_f_format_a1)), (.int (f14 f_significandBits_f_format_a1 f_exponentBits_f_format_a1 f_low_a1 f_high_a1))])) _
    by_cases hc4 : (f14 f_significandBits_f_format_a1 f_exponentBits_f_format_a1 f_low_a1 f_high_a1) = (f18 f_exponentBits_f_format_a1)
    · refine XS.icmpYes X3.here hx rfl (pc0 := 11) (pc' := 18) rfl (hb hby d13_11) rfl (teq hc4).1 (by decide) (by decide) ?_
      show Steps p.tables e below (T3.setTop (mkF m 18 #[.val (.ref a1)] [])) _
      refine XS.iconst X3.here hx rfl (hb hby d13_18) ?_
      rw [show v5 = (0 : Int32) from hv5.trans (if_pos hc4)] at k
      exact k
    · refine XS.icmpNo X3.here hx rfl (hb hby d13_11) rfl (feq hc4).1 ?_
      show Steps p.tables e below (T3.setTop (mkF m 14 #[.val (.ref a1)] [])) _
      refine XS.iconst X3.here hx rfl (hb hby d13_14) ?_
      show Steps p.tables e below (T3.setTop (mkF m 15 #[.val (.ref a1)] [(.int (1 : Int32))])) _
      refine XS.goto X3.here hx rfl (pc0 := 15) (pc' := 19) rfl (hb hby d13_15) (by decide) (by decide) ?_
      rw [show v5 = (1 : Int32) from hv5.trans (if_neg hc4)] at k
      exact k)
  have er : (f13 f_significandBits_f_format_a1 f_exponentBits_f_format_a1 f_low_a1 f_high_a1) = (nar .boolean v5) := by subst hv5; exact rfl
  obtain ⟨fs, hr, hrun, hended, hW, hsame⟩ := X3.leave (v := some (.int (nar .boolean v5))) (fun h => by rw [Bd.returns] at h; cases h)
  refine ⟨_, _, pre6 _ ?_, hrun, hended, _, _, rfl, ?_, ⟨_, rfl⟩, hW, hsame.mono (by decide) (by decide)⟩
  · show Steps p.tables e below (T3.setTop (mkF m 19 #[.val (.ref a1)] [(.int v5)])) _
    exact retN X3 hx (t := .boolean) Bd.returns (by simp) (hb hby d13_19) hr
  · show Q13 Z a1 f_format_a1 f_significandBits_f_format_a1 f_exponentBits_f_format_a1 f_low_a1 f_high_a1 h0 n0 _ T3.heap _
    rw [e3]
    exact ⟨congrArg (fun z => some (Value.int z)) er.symm, N3, rfl⟩
theorem pd_3 : parseMethodDescriptor "(II)I" = some ⟨[.int, .int], some .int⟩ := by decide +kernel
theorem d21_0 : decode prog_14_method_21_code 0 = .ok (.aload_n 0, 1) := by decide +kernel
theorem d21_1 : decode prog_14_method_21_code 1 = .ok (.getfield 24, 3) := by decide +kernel
theorem d21_4 : decode prog_14_method_21_code 4 = .ok (.invokevirtual 206, 3) := by decide +kernel
theorem d21_7 : decode prog_14_method_21_code 7 = .ok (.istore_n 1, 1) := by decide +kernel
theorem d21_8 : decode prog_14_method_21_code 8 = .ok (.aload_n 0, 1) := by decide +kernel
theorem d21_9 : decode prog_14_method_21_code 9 = .ok (.iconst 0, 1) := by decide +kernel
theorem d21_10 : decode prog_14_method_21_code 10 = .ok (.iload_n 1, 1) := by decide +kernel
theorem d21_11 : decode prog_14_method_21_code 11 = .ok (.bipush 64, 2) := by decide +kernel
theorem d21_13 : decode prog_14_method_21_code 13 = .ok (.invokestatic 184, 3) := by decide +kernel
theorem d21_16 : decode prog_14_method_21_code 16 = .ok (.invokevirtual 77, 3) := by decide +kernel
theorem d21_19 : decode prog_14_method_21_code 19 = .ok (.lconst 0, 1) := by decide +kernel
theorem d21_20 : decode prog_14_method_21_code 20 = .ok (.lcmp, 1) := by decide +kernel
theorem d21_21 : decode prog_14_method_21_code 21 = .ok (.ifCond .eq 5, 3) := by decide +kernel
theorem d21_24 : decode prog_14_method_21_code 24 = .ok (.iconst 0, 1) := by decide +kernel
theorem d21_25 : decode prog_14_method_21_code 25 = .ok (.ireturn, 1) := by decide +kernel
theorem d21_26 : decode prog_14_method_21_code 26 = .ok (.iload_n 1, 1) := by decide +kernel
theorem d21_27 : decode prog_14_method_21_code 27 = .ok (.bipush 64, 2) := by decide +kernel
theorem d21_29 : decode prog_14_method_21_code 29 = .ok (.if_icmp .le 18, 3) := by decide +kernel
theorem d21_32 : decode prog_14_method_21_code 32 = .ok (.aload_n 0, 1) := by decide +kernel
theorem d21_33 : decode prog_14_method_21_code 33 = .ok (.bipush 64, 2) := by decide +kernel
theorem d21_35 : decode prog_14_method_21_code 35 = .ok (.iload_n 1, 1) := by decide +kernel
theorem d21_36 : decode prog_14_method_21_code 36 = .ok (.bipush 64, 2) := by decide +kernel
theorem d21_38 : decode prog_14_method_21_code 38 = .ok (.isub, 1) := by decide +kernel
theorem d21_39 : decode prog_14_method_21_code 39 = .ok (.invokevirtual 77, 3) := by decide +kernel
theorem d21_42 : decode prog_14_method_21_code 42 = .ok (.lconst 0, 1) := by decide +kernel
theorem d21_43 : decode prog_14_method_21_code 43 = .ok (.lcmp, 1) := by decide +kernel
theorem d21_44 : decode prog_14_method_21_code 44 = .ok (.ifCond .ne 7, 3) := by decide +kernel
theorem d21_47 : decode prog_14_method_21_code 47 = .ok (.iconst 1, 1) := by decide +kernel
theorem d21_48 : decode prog_14_method_21_code 48 = .ok (.goto 4, 3) := by decide +kernel
theorem d21_51 : decode prog_14_method_21_code 51 = .ok (.iconst 0, 1) := by decide +kernel
theorem d21_52 : decode prog_14_method_21_code 52 = .ok (.ireturn, 1) := by decide +kernel
theorem pn_21 : plainName "com/example/tagwire/tagwire/core/FloatValue" = true := by first | (simp [plainName, overriddenIn]; done) | decide +kernel
theorem ef_21 (m : MethodId) (a1 : Addr) : entryFrame m #[(.ref a1)] 2 = mkF m 0 #[.val (.ref a1), .unset] [] := by first | (simp [entryFrame, mkF, argsToLocals, Value.category]; done) | rfl
def f21 (f_explicitIntegerBit_f_format_a1 : Int32) (f_significandBits_f_format_a1 : Int32) (f_low_a1 : Int64) (f_high_a1 : Int64) : Int32 :=
  (if (f17 (0 : Int32) (f23 (f22 f_explicitIntegerBit_f_format_a1 f_significandBits_f_format_a1) (64 : Int32)) f_low_a1 f_high_a1) = (0 : Int64) then (if (64 : Int32) < (f22 f_explicitIntegerBit_f_format_a1 f_significandBits_f_format_a1) then (nar .boolean (if (f17 (64 : Int32) ((f22 f_explicitIntegerBit_f_format_a1 f_significandBits_f_format_a1) - (64 : Int32)) f_low_a1 f_high_a1) = (0 : Int64) then (1 : Int32) else (0 : Int32))) else (1 : Int32)) else (0 : Int32))
def Q21 (Z : State) (a1 : Addr) (f_format_a1 : Addr) (f_explicitIntegerBit_f_format_a1 : Int32) (f_significandBits_f_format_a1 : Int32) (f_low_a1 : Int64) (f_high_a1 : Int64) (h0 : Heap) (n0 : Nat) (v : Option Value) (h : Heap) (L : List Loc) : Prop := v = some (.int (f21 f_explicitIntegerBit_f_format_a1 f_significandBits_f_format_a1 f_low_a1 f_high_a1)) ∧ Fr n0 L ∧ h = h0
set_option maxRecDepth 65536 in
set_option maxHeartbeats 40000000 in
theorem rm21 (l : Launch) (Z : State) (a0 : Array Value) (hw : ∀ d ∈ tables_1, d.before a0 Z = true) (ws : List Jvm.Cond) (a1 : Addr) (f_format_a1 : Addr) (f_explicitIntegerBit_f_format_a1 : Int32) (f_significandBits_f_format_a1 : Int32) (f_low_a1 : Int64) (f_high_a1 : Int64) (h0 : Heap) (n0 : Nat) (Z0 : n0 ≤ h0.size) (F_format_a1 : Fld Z h0 a1 "com/example/tagwire/tagwire/core/FloatValue" "format" "Lcom/example/tagwire/tagwire/core/FloatFormat;" (.ref f_format_a1)) (F_explicitIntegerBit_f_format_a1 : Fld Z h0 f_format_a1 "com/example/tagwire/tagwire/core/FloatFormat" "explicitIntegerBit" "Z" (.int f_explicitIntegerBit_f_format_a1)) (F_significandBits_f_format_a1 : Fld Z h0 f_format_a1 "com/example/tagwire/tagwire/core/FloatFormat" "significandBits" "I" (.int f_significandBits_f_format_a1)) (E_f_format_a1 : Exa Z h0 f_format_a1 "com/example/tagwire/tagwire/core/FloatFormat") (F_low_a1 : Fld Z h0 a1 "com/example/tagwire/tagwire/core/FloatValue" "low" "J" (.long f_low_a1)) (F_high_a1 : Fld Z h0 a1 "com/example/tagwire/tagwire/core/FloatValue" "high" "J" (.long f_high_a1)) (E_a1 : Exa Z h0 a1 "com/example/tagwire/tagwire/core/FloatValue") :
    MetFree l (⟨"com/example/tagwire/tagwire/core/FloatValue", "fractionIsZero", "()Z"⟩ : MethodName) (head1 (Jvm.Cond.code (⟨"com/example/tagwire/tagwire/core/FloatValue", "fractionIsZero", "()Z"⟩ : MethodName) prog_14_method_21_code 2 (some .boolean) :: ws) ({ frames := 2, cells := 0, slots := 0, locals := 30 } : Room)) (fun a U => a = #[(.ref a1)] ∧ Z.Warmed39 U.vm ∧ U.heap = h0) (fun _ _ _ _ _ => True) (fun _ U o U' => ∃ v L, o = .returned v ∧ Q21 Z a1 f_format_a1 f_explicitIntegerBit_f_format_a1 f_significandBits_f_format_a1 f_low_a1 f_high_a1 h0 n0 v U'.heap L ∧ FrameEnd U o U' L ({ frames := 2, cells := 0, slots := 0, locals := 30 } : Room).cells ({ frames := 2, cells := 0, slots := 0, locals := 30 } : Room).slots) := by
  refine MetFree.of_bodySF (plainFor_of_name pn_21) hisR ?_
  intro p e s m args below meth c s₁ Bd hml0 hP hK
  obtain ⟨rfl, hZ, hh⟩ := hP
  have hx := Bd.exec
  have hby := Bd.bytes
  have hml : c.maxLocals = 2 := hml0
  have hown : s.vm.findClass "com/example/tagwire/tagwire/core/FloatValue" = some m.cls := findClass_of_methodNamed Bd.named
  have hnm := (name_of_methodNamed Bd.named Bd.method).1
  have X0 : Stand p l e ({ frames := 2, cells := 0, slots := 0, locals := 30 } : Room) s m #[(.ref a1)] below meth c s₁ [] 0 0 := Stand.of_body Bd
  have e0 : s₁.heap = h0 := by rw [← hh, Bd.state]; rfl
  have N0 := Fr.nil n0
  have pre0 : ∀ t, Steps p.tables e below (s₁.setTop (mkF m 0 #[.val (.ref a1), .unset] [])) t → Steps p.tables e below (s₁.setTop (entryFrame m #[(.ref a1)] 2)) t := fun t k => castTop (ef_21 m a1) k
  obtain ⟨T1, X1, e1, st1⟩ := getF X0 hx hZ hown (host := "") (Or.inl (hw _ (List.mem_of_getElem? (i := 53) rfl))) Via.refl e0 F_format_a1 (g := (mkF m 1 #[.val (.ref a1), .unset] [(.ref a1)])) rfl rfl (hb hby d21_1)
  obtain ⟨cq2, kq2, q2a, q2b, q2c⟩ := isOf hZ e1 E_f_format_a1
  obtain ⟨_, _, ⟨T2, L2, k2, n2⟩, -, X2, ⟨Lc2, hQ2, l2, y2, z2⟩, st2⟩ := X1.virtualBack hx (y := (⟨"com/example/tagwire/tagwire/core/FloatFormat", "fractionBits", "()I"⟩ : MethodName)) (z := (⟨"com/example/tagwire/tagwire/core/FloatFormat", "fractionBits", "()I"⟩ : MethodName)) hown (mvT hZ (hw _ (List.mem_of_getElem? (i := 105) rfl))) (mvT hZ (hw _ (List.mem_of_getElem? (i := 106) rfl))) (notFace_of_selects (args := #[]) (mvT hZ (hw _ (List.mem_of_getElem? (i := 108) rfl)))) (mvT hZ (hw _ (List.mem_of_getElem? (i := 108) rfl))) (mvT hZ (hw _ (List.mem_of_getElem? (i := 107) rfl))) (by decide) (backOf (W := 0) (rm22 l Z a0 hw [] f_format_a1 f_explicitIntegerBit_f_format_a1 f_significandBits_f_format_a1 h0 n0 Z0 F_explicitIntegerBit_f_format_a1 F_significandBits_f_format_a1) hZ (hw _ (List.mem_of_getElem? (i := 109) rfl)) (hw _ (List.mem_of_getElem? (i := 28) rfl)) (by decide) (by decide)) q2a q2c (g := (mkF m 4 #[.val (.ref a1), .unset] [(.ref f_format_a1)])) rfl (by rw [hml]; rfl) (Steps.refl _) (argsL := []) (rest := []) (lenOf pd_1 rfl) rfl (by show 2 * 0 + _ ≤ _; exact Nat.le_of_eq rfl) (hb hby d21_4) (fun _ _ => ⟨rfl, e1, (by decide : 0 + 0 ≤ _), (by decide : 0 + 0 ≤ _)⟩)
  dsimp only [Pt.U, Pt.locs, Pt.cells, Pt.slots] at X2 l2 y2 z2 st2 hQ2
  subst l2 y2 z2
  obtain ⟨rfl, N2q, e2⟩ := hQ2
  have N2 := Fr.app N0 N2q
  obtain ⟨_, _, ⟨T3, L3, k3, n3⟩, -, X3, ⟨Lc3, hQ3, l3, y3, z3⟩, st3⟩ := Jvm.LawKit.callS X2 hx (y := (⟨"java/lang/Math", "min", "(II)I"⟩ : MethodName)) hown (mvT hZ (hw _ (List.mem_of_getElem? (i := 112) rfl))) (mvT hZ (hw _ (List.mem_of_getElem? (i := 113) rfl))) (mvT hZ (hw _ (List.mem_of_getElem? (i := 114) rfl))) (mvT hZ (hw _ (List.mem_of_getElem? (i := 115) rfl))) (by decide) (backOf (W := 2) (rm23 l Z a0 hw [] (f22 f_explicitIntegerBit_f_format_a1 f_significandBits_f_format_a1) (64 : Int32) h0 n0 Z0) hZ (hw _ (List.mem_of_getElem? (i := 115) rfl)) (hw _ (List.mem_of_getElem? (i := 114) rfl)) (by decide) (by decide)) (g := (mkF m 13 #[.val (.ref a1), .val (.int (f22 f_explicitIntegerBit_f_format_a1 f_significandBits_f_format_a1))] [(.int (64 : Int32)), (.int (f22 f_explicitIntegerBit_f_format_a1 f_significandBits_f_format_a1)), (.int (0 : Int32)), (.ref a1)])) rfl (by rw [hml]; rfl) (argsL := [(.int (f22 f_explicitIntegerBit_f_format_a1 f_significandBits_f_format_a1)), (.int (64 : Int32))]) (rest := [(.int (0 : Int32)), (.ref a1)]) (lenOf pd_3 rfl) rfl (by show 2 * 0 + _ ≤ _; exact Nat.le_of_eq rfl) (hb hby d21_13) (fun _ _ => ⟨rfl, e2, (by decide : 0 + 0 ≤ _), (by decide : 0 + 0 ≤ _)⟩)
  dsimp only [Pt.U, Pt.locs, Pt.cells, Pt.slots] at X3 l3 y3 z3 st3 hQ3
  subst l3 y3 z3
  obtain ⟨rfl, N3q, e3⟩ := hQ3
  have N3 := Fr.app N2 N3q
  obtain ⟨cx4, kx4, xa4, xb4, xc4, xd4, -⟩ := id E_a1
  obtain ⟨_, _, ⟨T4, L4, k4, n4⟩, -, X4, ⟨Lc4, hQ4, l4, y4, z4⟩, st4⟩ := X3.privateBack hx (y := (⟨"com/example/tagwire/tagwire/core/FloatValue", "bits", "(II)J"⟩ : MethodName)) hown (mvT hZ (hw _ (List.mem_of_getElem? (i := 83) rfl))) (mvT hZ (hw _ (List.mem_of_getElem? (i := 84) rfl))) (own_privSel hZ (hw _ (List.mem_of_getElem? (i := 46) rfl)) (hw _ (List.mem_of_getElem? (i := 84) rfl)) (hw _ (List.mem_of_getElem? (i := 85) rfl)) (by decide)) (own_privAt hZ (hw _ (List.mem_of_getElem? (i := 85) rfl))) (mvT hZ (hw _ (List.mem_of_getElem? (i := 86) rfl))) (by decide) (backOf (W := 0) (rm17 l Z a0 hw [] a1 (0 : Int32) (f23 (f22 f_explicitIntegerBit_f_format_a1 f_significandBits_f_format_a1) (64 : Int32)) f_low_a1 f_high_a1 h0 n0 Z0 F_low_a1 F_high_a1) hZ (hw _ (List.mem_of_getElem? (i := 86) rfl)) (hw _ (List.mem_of_getElem? (i := 32) rfl)) (by decide) (by decide)) (g := (mkF m 16 #[.val (.ref a1), .val (.int (f22 f_explicitIntegerBit_f_format_a1 f_significandBits_f_format_a1))] [(.int (f23 (f22 f_explicitIntegerBit_f_format_a1 f_significandBits_f_format_a1) (64 : Int32))), (.int (0 : Int32)), (.ref a1)])) rfl (by rw [hml]; rfl) (Steps.refl _) (a := a1) (by rw [e3]; exact xa4) (own_notSta xd4) (argsL := [(.int (0 : Int32)), (.int (f23 (f22 f_explicitIntegerBit_f_format_a1 f_significandBits_f_format_a1) (64 : Int32)))]) (rest := []) (lenOf pd_2 rfl) rfl (by show 2 * 0 + _ ≤ _; exact Nat.le_of_eq rfl) (hb hby d21_16) (fun _ _ => ⟨rfl, e3, (by decide : 0 + 0 ≤ _), (by decide : 0 + 0 ≤ _)⟩)
  dsimp only [Pt.U, Pt.locs, Pt.cells, Pt.slots] at X4 l4 y4 z4 st4 hQ4
  subst l4 y4 z4
  obtain ⟨rfl, N4q, e4⟩ := hQ4
  have N4 := Fr.app N3 N4q
  have pre5 : ∀ t, Steps p.tables e below (T4.setTop (mkF m 21 #[.val (.ref a1), .val (.int (f22 f_explicitIntegerBit_f_format_a1 f_significandBits_f_format_a1))] [(.int (lcmpW (f17 (0 : Int32) (f23 (f22 f_explicitIntegerBit_f_format_a1 f_significandBits_f_format_a1) (64 : Int32)) f_low_a1 f_high_a1) (0 : Int64)))])) t → Steps p.tables e below (s₁.setTop (entryFrame m #[(.ref a1)] 2)) t := fun t k => pre0 t (by
    show Steps p.tables e below (s₁.setTop (mkF m 0 #[.val (.ref a1), .unset] [])) _
    refine XS.aloadN X0.here hx rfl (hb hby d21_0) rfl rfl ?_
    show Steps p.tables e below (s₁.setTop (mkF m 1 #[.val (.ref a1), .unset] [(.ref a1)])) _
    refine st1 _ ?_
    show Steps p.tables e below (T1.setTop (mkF m 4 #[.val (.ref a1), .unset] [(.ref f_format_a1)])) _
    refine st2.trans ?_
    show Steps p.tables e below (T2.setTop (mkF m 7 #[.val (.ref a1), .unset] [(.int (f22 f_explicitIntegerBit_f_format_a1 f_significandBits_f_format_a1))])) _
    refine XS.istoreN X2.here hx rfl (hb hby d21_7) rfl (l' := #[.val (.ref a1), .val (.int (f22 f_explicitIntegerBit_f_format_a1 f_significandBits_f_format_a1))]) rfl ?_
    show Steps p.tables e below (T2.setTop (mkF m 8 #[.val (.ref a1), .val (.int (f22 f_explicitIntegerBit_f_format_a1 f_significandBits_f_format_a1))] [])) _
    refine XS.aloadN X2.here hx rfl (hb hby d21_8) rfl rfl ?_
    show Steps p.tables e below (T2.setTop (mkF m 9 #[.val (.ref a1), .val (.int (f22 f_explicitIntegerBit_f_format_a1 f_significandBits_f_format_a1))] [(.ref a1)])) _
    refine XS.iconst X2.here hx rfl (hb hby d21_9) ?_
    show Steps p.tables e below (T2.setTop (mkF m 10 #[.val (.ref a1), .val (.int (f22 f_explicitIntegerBit_f_format_a1 f_significandBits_f_format_a1))] [(.int (0 : Int32)), (.ref a1)])) _
    refine XS.iloadN X2.here hx rfl (hb hby d21_10) rfl ?_
    show Steps p.tables e below (T2.setTop (mkF m 11 #[.val (.ref a1), .val (.int (f22 f_explicitIntegerBit_f_format_a1 f_significandBits_f_format_a1))] [(.int (f22 f_explicitIntegerBit_f_format_a1 f_significandBits_f_format_a1)), (.int (0 : Int32)), (.ref a1)])) _
    refine XS.bipush X2.here hx rfl (hb hby d21_11) ?_
    show Steps p.tables e below (T2.setTop (mkF m 13 #[.val (.ref a1), .val (.int (f22 f_explicitIntegerBit_f_format_a1 f_significandBits_f_format_a1))] [(.int (64 : Int32)), (.int (f22 f_explicitIntegerBit_f_format_a1 f_significandBits_f_format_a1)), (.int (0 : Int32)), (.ref a1)])) _
    refine st3 _ ?_
    show Steps p.tables e below (T3.setTop (mkF m 16 #[.val (.ref a1), .val (.int (f22 f_explicitIntegerBit_f_format_a1 f_significandBits_f_format_a1))] [(.int (f23 (f22 f_explicitIntegerBit_f_format_a1 f_significandBits_f_format_a1) (64 : Int32))), (.int (0 : Int32)), (.ref a1)])) _
    refine st4.trans ?_
    show Steps p.tables e below (T4.setTop (mkF m 19 #[.val (.ref a1), .val (.int (f22 f_explicitIntegerBit_f_format_a1 f_significandBits_f_format_a1))] [(.long (f17 (0 : Int32) (f23 (f22 f_explicitIntegerBit_f_format_a1 f_significandBits_f_format_a1) (64 : Int32)) f_low_a1 f_high_a1))])) _
    refine XS.lconst X4.here hx rfl (hb hby d21_19) ?_
    show Steps p.tables e below (T4.setTop (mkF m 20 #[.val (.ref a1), .val (.int (f22 f_explicitIntegerBit_f_format_a1 f_significandBits_f_format_a1))] [(.long (0 : Int64)), (.long (f17 (0 : Int32) (f23 (f22 f_explicitIntegerBit_f_format_a1 f_significandBits_f_format_a1) (64 : Int32)) f_low_a1 f_high_a1))])) _
    refine XS.lcmp X4.here hx rfl (hb hby d21_20) rfl ?_
    exact k)
  by_cases hc6 : (f17 (0 : Int32) (f23 (f22 f_explicitIntegerBit_f_format_a1 f_significandBits_f_format_a1) (64 : Int32)) f_low_a1 f_high_a1) = (0 : Int64)
  · have pre7 : ∀ t, Steps p.tables e below (T4.setTop (mkF m 29 #[.val (.ref a1), .val (.int (f22 f_explicitIntegerBit_f_format_a1 f_significandBits_f_format_a1))] [(.int (64 : Int32)), (.int (f22 f_explicitIntegerBit_f_format_a1 f_significandBits_f_format_a1))])) t → Steps p.tables e below (s₁.setTop (entryFrame m #[(.ref a1)] 2)) t := fun t k => pre5 t (by
      show Steps p.tables e below (T4.setTop (mkF m 21 #[.val (.ref a1), .val (.int (f22 f_explicitIntegerBit_f_format_a1 f_significandBits_f_format_a1))] [(.int (lcmpW (f17 (0 : Int32) (f23 (f22 f_explicitIntegerBit_f_format_a1 f_significandBits_f_format_a1) (64 : Int32)) f_low_a1 f_high_a1) (0 : Int64)))])) _
      refine XS.ifYes X4.here hx rfl (pc0 := 21) (pc' := 26) rfl (hb hby d21_21) rfl ((if0 _ _).trans (teq (own_lc_teq hc6)).1) (by decide) (by decide) ?_
      show Steps p.tables e below (T4.setTop (mkF m 26 #[.val (.ref a1), .val (.int (f22 f_explicitIntegerBit_f_format_a1 f_significandBits_f_format_a1))] [])) _
      refine XS.iloadN X4.here hx rfl (hb hby d21_26) rfl ?_
      show Steps p.tables e below (T4.setTop (mkF m 27 #[.val (.ref a1), .val (.int (f22 f_explicitIntegerBit_f_format_a1 f_significandBits_f_format_a1))] [(.int (f22 f_explicitIntegerBit_f_format_a1 f_significandBits_f_format_a1))])) _
      refine XS.bipush X4.here hx rfl (hb hby d21_27) ?_
      exact k)
    by_cases hc8 : (64 : Int32) < (f22 f_explicitIntegerBit_f_format_a1 f_significandBits_f_format_a1)
    · obtain ⟨cx9, kx9, xa9, xb9, xc9, xd9, -⟩ := id E_a1
      obtain ⟨_, _, ⟨T9, L9, k9, n9⟩, -, X9, ⟨Lc9, hQ9, l9, y9, z9⟩, st9⟩ := X4.privateBack hx (y := (⟨"com/example/tagwire/tagwire/core/FloatValue", "bits", "(II)J"⟩ : MethodName)) hown (mvT hZ (hw _ (List.mem_of_getElem? (i := 83) rfl))) (mvT hZ (hw _ (List.mem_of_getElem? (i := 84) rfl))) (own_privSel hZ (hw _ (List.mem_of_getElem? (i := 46) rfl)) (hw _ (List.mem_of_getElem? (i := 84) rfl)) (hw _ (List.mem_of_getElem? (i := 85) rfl)) (by decide)) (own_privAt hZ (hw _ (List.mem_of_getElem? (i := 85) rfl))) (mvT hZ (hw _ (List.mem_of_getElem? (i := 86) rfl))) (by decide) (backOf (W := 0) (rm17 l Z a0 hw [] a1 (64 : Int32) ((f22 f_explicitIntegerBit_f_format_a1 f_significandBits_f_format_a1) - (64 : Int32)) f_low_a1 f_high_a1 h0 n0 Z0 F_low_a1 F_high_a1) hZ (hw _ (List.mem_of_getElem? (i := 86) rfl)) (hw _ (List.mem_of_getElem? (i := 32) rfl)) (by decide) (by decide)) (g := (mkF m 39 #[.val (.ref a1), .val (.int (f22 f_explicitIntegerBit_f_format_a1 f_significandBits_f_format_a1))] [(.int ((f22 f_explicitIntegerBit_f_format_a1 f_significandBits_f_format_a1) - (64 : Int32))), (.int (64 : Int32)), (.ref a1)])) rfl (by rw [hml]; rfl) (Steps.refl _) (a := a1) (by rw [e4]; exact xa9) (own_notSta xd9) (argsL := [(.int (64 : Int32)), (.int ((f22 f_explicitIntegerBit_f_format_a1 f_significandBits_f_format_a1) - (64 : Int32)))]) (rest := []) (lenOf pd_2 rfl) rfl (by show 2 * 0 + _ ≤ _; exact Nat.le_of_eq rfl) (hb hby d21_39) (fun _ _ => ⟨rfl, e4, (by decide : 0 + 0 ≤ _), (by decide : 0 + 0 ≤ _)⟩)
      dsimp only [Pt.U, Pt.locs, Pt.cells, Pt.slots] at X9 l9 y9 z9 st9 hQ9
      subst l9 y9 z9
      obtain ⟨rfl, N9q, e9⟩ := hQ9
      have N9 := Fr.app N4 N9q
      obtain ⟨v11, hv11⟩ : ∃ z : Int32, z = (if (f17 (64 : Int32) ((f22 f_explicitIntegerBit_f_format_a1 f_significandBits_f_format_a1) - (64 : Int32)) f_low_a1 f_high_a1) = (0 : Int64) then (1 : Int32) else (0 : Int32)) := ⟨_, rfl⟩
      have pre12 : ∀ t, Steps p.tables e below (T9.setTop (mkF m 52 #[.val (.ref a1), .val (.int (f22 f_explicitIntegerBit_f_format_a1 f_significandBits_f_format_a1))] [(.int v11)])) t → Steps p.tables e below (s₁.setTop (entryFrame m #[(.ref a1)] 2)) t := fun t k => pre7 t (by
        show Steps p.tables e below (T4.setTop (mkF m 29 #[.val (.ref a1), .val (.int (f22 f_explicitIntegerBit_f_format_a1 f_significandBits_f_format_a1))] [(.int (64 : Int32)), (.int (f22 f_explicitIntegerBit_f_format_a1 f_significandBits_f_format_a1))])) _
        refine XS.icmpNo X4.here hx rfl (hb hby d21_29) rfl (tlt hc8).2.2.2 ?_
        show Steps p.tables e below (T4.setTop (mkF m 32 #[.val (.ref a1), .val (.int (f22 f_explicitIntegerBit_f_format_a1 f_significandBits_f_format_a1))] [])) _
        refine XS.aloadN X4.here hx rfl (hb hby d21_32) rfl rfl ?_
        show Steps p.tables e below (T4.setTop (mkF m 33 #[.val (.ref a1), .val (.int (f22 f_explicitIntegerBit_f_format_a1 f_significandBits_f_format_a1))] [(.ref a1)])) _
        refine XS.bipush X4.here hx rfl (hb hby d21_33) ?_
        show Steps p.tables e below (T4.setTop (mkF m 35 #[.val (.ref a1), .val (.int (f22 f_explicitIntegerBit_f_format_a1 f_significandBits_f_format_a1))] [(.int (64 : Int32)), (.ref a1)])) _
        refine XS.iloadN X4.here hx rfl (hb hby d21_35) rfl ?_
        show Steps p.tables e below (T4.setTop (mkF m 36 #[.val (.ref a1), .val (.int (f22 f_explicitIntegerBit_f_format_a1 f_significandBits_f_format_a1))] [(.int (f22 f_explicitIntegerBit_f_format_a1 f_significandBits_f_format_a1)), (.int (64 : Int32)), (.ref a1)])) _
        refine XS.bipush X4.here hx rfl (hb hby d21_36) ?_
        show Steps p.tables e below (T4.setTop (mkF m 38 #[.val (.ref a1), .val (.int (f22 f_explicitIntegerBit_f_format_a1 f_significandBits_f_format_a1))] [(.int (64 : Int32)), (.int (f22 f_explicitIntegerBit_f_format_a1 f_significandBits_f_format_a1)), (.int (64 : Int32)), (.ref a1)])) _
        refine XS.isub X4.here hx rfl (hb hby d21_38) rfl ?_
        show Steps p.tables e below (T4.setTop (mkF m 39 #[.val (.ref a1), .val (.int (f22 f_explicitIntegerBit_f_format_a1 f_significandBits_f_format_a1))] [(.int ((f22 f_explicitIntegerBit_f_format_a1 f_significandBits_f_format_a1) - (64 : Int32))), (.int (64 : Int32)), (.ref a1)])) _
        refine st9.trans ?_
        show Steps p.tables e below (T9.setTop (mkF m 42 #[.val (.ref a1), .val (.int (f22 f_explicitIntegerBit_f_format_a1 f_significandBits_f_format_a1))] [(.long (f17 (64 : Int32) ((f22 f_explicitIntegerBit_f_format_a1 f_significandBits_f_format_a1) - (64 : Int32)) f_low_a1 f_high_a1))])) _
        refine XS.lconst X9.here hx rfl (hb hby d21_42) ?_
        show Steps p.tables e below (T9.setTop (mkF m 43 #[.val (.ref a1), .val (.int (f22 f_explicitIntegerBit_f_format_a1 f_significandBits_f_format_a1))] [(.long (0 : Int64)), (.long (f17 (64 : Int32) ((f22 f_explicitIntegerBit_f_format_a1 f_significandBits_f_format_a1) - (64 : Int32)) f_low_a1 f_high_a1))])) _
        refine XS.lcmp X9.here hx rfl (hb hby d21_43) rfl ?_
        show Steps p.tables e below (T9.setTop (mkF m 44 #[.val (.ref a1), .val (.int (f22 f_explicitIntegerBit_f_format_a1 f_significandBits_f_format_a1))] [(.int (lcmpW (f17 (64 : Int32) ((f22 f_explicitIntegerBit_f_format_a1 f_significandBits_f_format_a1) - (64 : Int32)) f_low_a1 f_high_a1) (0 : Int64)))])) _
        by_cases hc10 : (f17 (64 : Int32) ((f22 f_explicitIntegerBit_f_format_a1 f_significandBits_f_format_a1) - (64 : Int32)) f_low_a1 f_high_a1) = (0 : Int64)
        · refine XS.ifNo X9.here hx rfl (hb hby d21_44) rfl ((if0 _ _).trans (teq (own_lc_teq hc10)).2) ?_
          show Steps p.tables e below (T9.setTop (mkF m 47 #[.val (.ref a1), .val (.int (f22 f_explicitIntegerBit_f_format_a1 f_significandBits_f_format_a1))] [])) _
          refine XS.iconst X9.here hx rfl (hb hby d21_47) ?_
          show Steps p.tables e below (T9.setTop (mkF m 48 #[.val (.ref a1), .val (.int (f22 f_explicitIntegerBit_f_format_a1 f_significandBits_f_format_a1))] [(.int (1 : Int32))])) _
          refine XS.goto X9.here hx rfl (pc0 := 48) (pc' := 52) rfl (hb hby d21_48) (by decide) (by decide) ?_
          rw [show v11 = (1 : Int32) from hv11.trans (if_pos hc10)] at k
          exact k
        · refine XS.ifYes X9.here hx rfl (pc0 := 44) (pc' := 51) rfl (hb hby d21_44) rfl ((if0 _ _).trans (feq (own_lc_feq hc10)).2) (by decide) (by decide) ?_
          show Steps p.tables e below (T9.setTop (mkF m 51 #[.val (.ref a1), .val (.int (f22 f_explicitIntegerBit_f_format_a1 f_significandBits_f_format_a1))] [])) _
          refine XS.iconst X9.here hx rfl (hb hby d21_51) ?_
          rw [show v11 = (0 : Int32) from hv11.trans (if_neg hc10)] at k
          exact k)
      have er : (f21 f_explicitIntegerBit_f_format_a1 f_significandBits_f_format_a1 f_low_a1 f_high_a1) = (nar .boolean v11) := by subst hv11; exact ((if_pos hc6).trans (if_pos hc8))
      obtain ⟨fs, hr, hrun, hended, hW, hsame⟩ := X9.leave (v := some (.int (nar .boolean v11))) (fun h => by rw [Bd.returns] at h; cases h)
      refine ⟨_, _, pre12 _ ?_, hrun, hended, _, _, rfl, ?_, ⟨_, rfl⟩, hW, hsame.mono (by decide) (by decide)⟩
      · show Steps p.tables e below (T9.setTop (mkF m 52 #[.val (.ref a1), .val (.int (f22 f_explicitIntegerBit_f_format_a1 f_significandBits_f_format_a1))] [(.int v11)])) _
        exact retN X9 hx (t := .boolean) Bd.returns (by simp) (hb hby d21_52) hr
      · show Q21 Z a1 f_format_a1 f_explicitIntegerBit_f_format_a1 f_significandBits_f_format_a1 f_low_a1 f_high_a1 h0 n0 _ T9.heap _
        rw [e9]
        exact ⟨congrArg (fun z => some (Value.int z)) er.symm, N9, rfl⟩
    · have er : (f21 f_explicitIntegerBit_f_format_a1 f_significandBits_f_format_a1 f_low_a1 f_high_a1) = (1 : Int32) := by exact ((if_pos hc6).trans (if_neg hc8))
      obtain ⟨fs, hr, hrun, hended, hW, hsame⟩ := X4.leave (v := some (.int (1 : Int32))) (fun h => by rw [Bd.returns] at h; cases h)
      refine ⟨_, _, pre7 _ ?_, hrun, hended, _, _, rfl, ?_, ⟨_, rfl⟩, hW, hsame.mono (by decide) (by decide)⟩
      · show Steps p.tables e below (T4.setTop (mkF m 29 #[.val (.ref a1), .val (.int (f22 f_explicitIntegerBit_f_format_a1 f_significandBits_f_format_a1))] [(.int (64 : Int32)), (.int (f22 f_explicitIntegerBit_f_format_a1 f_significandBits_f_format_a1))])) _
        refine XS.icmpYes X4.here hx rfl (pc0 := 29) (pc' := 47) rfl (hb hby d21_29) rfl (flt hc8).2.2.2 (by decide) (by decide) ?_
        show Steps p.tables e below (T4.setTop (mkF m 47 #[.val (.ref a1), .val (.int (f22 f_explicitIntegerBit_f_format_a1 f_significandBits_f_format_a1))] [])) _
        refine XS.iconst X4.here hx rfl (hb hby d21_47) ?_
        show Steps p.tables e below (T4.setTop (mkF m 48 #[.val (.ref a1), .val (.int (f22 f_explicitIntegerBit_f_format_a1 f_significandBits_f_format_a1))] [(.int (1 : Int32))])) _
        refine XS.goto X4.here hx rfl (pc0 := 48) (pc' := 52) rfl (hb hby d21_48) (by decide) (by decide) ?_
        show Steps p.tables e below (T4.setTop (mkF m 52 #[.val (.ref a1), .val (.int (f22 f_explicitIntegerBit_f_format_a1 f_significandBits_f_format_a1))] [(.int (1 : Int32))])) _
        exact retN X4 hx (t := .boolean) Bd.returns (by simp) (hb hby d21_52) hr
      · show Q21 Z a1 f_format_a1 f_explicitIntegerBit_f_format_a1 f_significandBits_f_format_a1 f_low_a1 f_high_a1 h0 n0 _ T4.heap _
        rw [e4]
        exact ⟨congrArg (fun z => some (Value.int z)) er.symm, N4, rfl⟩
  · have er : (f21 f_explicitIntegerBit_f_format_a1 f_significandBits_f_format_a1 f_low_a1 f_high_a1) = (0 : Int32) := by exact (if_neg hc6)
    obtain ⟨fs, hr, hrun, hended, hW, hsame⟩ := X4.leave (v := some (.int (0 : Int32))) (fun h => by rw [Bd.returns] at h; cases h)
    refine ⟨_, _, pre5 _ ?_, hrun, hended, _, _, rfl, ?_, ⟨_, rfl⟩, hW, hsame.mono (by decide) (by decide)⟩
    · show Steps p.tables e below (T4.setTop (mkF m 21 #[.val (.ref a1), .val (.int (f22 f_explicitIntegerBit_f_format_a1 f_significandBits_f_format_a1))] [(.int (lcmpW (f17 (0 : Int32) (f23 (f22 f_explicitIntegerBit_f_format_a1 f_significandBits_f_format_a1) (64 : Int32)) f_low_a1 f_high_a1) (0 : Int64)))])) _
      refine XS.ifNo X4.here hx rfl (hb hby d21_21) rfl ((if0 _ _).trans (feq (own_lc_feq hc6)).1) ?_
      show Steps p.tables e below (T4.setTop (mkF m 24 #[.val (.ref a1), .val (.int (f22 f_explicitIntegerBit_f_format_a1 f_significandBits_f_format_a1))] [])) _
      refine XS.iconst X4.here hx rfl (hb hby d21_24) ?_
      show Steps p.tables e below (T4.setTop (mkF m 25 #[.val (.ref a1), .val (.int (f22 f_explicitIntegerBit_f_format_a1 f_significandBits_f_format_a1))] [(.int (0 : Int32))])) _
      exact retN X4 hx (t := .boolean) Bd.returns (by simp) (hb hby d21_25) hr
    · show Q21 Z a1 f_format_a1 f_explicitIntegerBit_f_format_a1 f_significandBits_f_format_a1 f_low_a1 f_high_a1 h0 n0 _ T4.heap _
      rw [e4]
      exact ⟨congrArg (fun z => some (Value.int z)) er.symm, N4, rfl⟩
theorem pd_4 : parseMethodDescriptor "()Z" = some ⟨[], some .boolean⟩ := by decide +kernel
theorem d20_0 : decode prog_14_method_8_code 0 = .ok (.aload_n 0, 1) := by decide +kernel
theorem d20_1 : decode prog_14_method_8_code 1 = .ok (.invokevirtual 63, 3) := by decide +kernel
theorem d20_4 : decode prog_14_method_8_code 4 = .ok (.ifCond .ne 14, 3) := by decide +kernel
theorem d20_7 : decode prog_14_method_8_code 7 = .ok (.aload_n 0, 1) := by decide +kernel
theorem d20_8 : decode prog_14_method_8_code 8 = .ok (.invokevirtual 81, 3) := by decide +kernel
theorem d20_11 : decode prog_14_method_8_code 11 = .ok (.ifCond .ne 7, 3) := by decide +kernel
theorem d20_14 : decode prog_14_method_8_code 14 = .ok (.iconst 1, 1) := by decide +kernel
theorem d20_15 : decode prog_14_method_8_code 15 = .ok (.goto 4, 3) := by decide +kernel
theorem d20_18 : decode prog_14_method_8_code 18 = .ok (.iconst 0, 1) := by decide +kernel
theorem d20_19 : decode prog_14_method_8_code 19 = .ok (.ireturn, 1) := by decide +kernel
theorem pn_20 : plainName "com/example/tagwire/tagwire/core/FloatValue" = true := by first | (simp [plainName, overriddenIn]; done) | decide +kernel
theorem ef_20 (m : MethodId) (a1 : Addr) : entryFrame m #[(.ref a1)] 1 = mkF m 0 #[.val (.ref a1)] [] := by first | (simp [entryFrame, mkF, argsToLocals, Value.category]; done) | rfl
def f20 (f_significandBits_f_format_a1 : Int32) (f_exponentBits_f_format_a1 : Int32) (f_low_a1 : Int64) (f_high_a1 : Int64) (f_explicitIntegerBit_f_format_a1 : Int32) : Int32 :=
  (if (f13 f_significandBits_f_format_a1 f_exponentBits_f_format_a1 f_low_a1 f_high_a1) = (0 : Int32) then (nar .boolean (if (f21 f_explicitIntegerBit_f_format_a1 f_significandBits_f_format_a1 f_low_a1 f_high_a1) = (0 : Int32) then (1 : Int32) else (0 : Int32))) else (0 : Int32))
def Q20 (Z : State) (a1 : Addr) (f_format_a1 : Addr) (f_significandBits_f_format_a1 : Int32) (f_exponentBits_f_format_a1 : Int32) (f_low_a1 : Int64) (f_high_a1 : Int64) (f_explicitIntegerBit_f_format_a1 : Int32) (h0 : Heap) (n0 : Nat) (v : Option Value) (h : Heap) (L : List Loc) : Prop := v = some (.int (f20 f_significandBits_f_format_a1 f_exponentBits_f_format_a1 f_low_a1 f_high_a1 f_explicitIntegerBit_f_format_a1)) ∧ Fr n0 L ∧ h = h0
set_option maxRecDepth 65536 in
set_option maxHeartbeats 40000000 in
theorem rm20 (l : Launch) (Z : State) (a0 : Array Value) (hw : ∀ d ∈ tables_1, d.before a0 Z = true) (ws : List Jvm.Cond) (a1 : Addr) (f_format_a1 : Addr) (f_significandBits_f_format_a1 : Int32) (f_exponentBits_f_format_a1 : Int32) (f_low_a1 : Int64) (f_high_a1 : Int64) (f_explicitIntegerBit_f_format_a1 : Int32) (h0 : Heap) (n0 : Nat) (Z0 : n0 ≤ h0.size) (F_format_a1 : Fld Z h0 a1 "com/example/tagwire/tagwire/core/FloatValue" "format" "Lcom/example/tagwire/tagwire/core/FloatFormat;" (.ref f_format_a1)) (F_significandBits_f_format_a1 : Fld Z h0 f_format_a1 "com/example/tagwire/tagwire/core/FloatFormat" "significandBits" "I" (.int f_significandBits_f_format_a1)) (E_f_format_a1 : Exa Z h0 f_format_a1 "com/example/tagwire/tagwire/core/FloatFormat") (F_exponentBits_f_format_a1 : Fld Z h0 f_format_a1 "com/example/tagwire/tagwire/core/FloatFormat" "exponentBits" "I" (.int f_exponentBits_f_format_a1)) (F_low_a1 : Fld Z h0 a1 "com/example/tagwire/tagwire/core/FloatValue" "low" "J" (.long f_low_a1)) (F_high_a1 : Fld Z h0 a1 "com/example/tagwire/tagwire/core/FloatValue" "high" "J" (.long f_high_a1)) (E_a1 : Exa Z h0 a1 "com/example/tagwire/tagwire/core/FloatValue") (F_explicitIntegerBit_f_format_a1 : Fld Z h0 f_format_a1 "com/example/tagwire/tagwire/core/FloatFormat" "explicitIntegerBit" "Z" (.int f_explicitIntegerBit_f_format_a1)) :
    MetFree l (⟨"com/example/tagwire/tagwire/core/FloatValue", "isNaN", "()Z"⟩ : MethodName) (head1 (Jvm.Cond.code (⟨"com/example/tagwire/tagwire/core/FloatValue", "isNaN", "()Z"⟩ : MethodName) prog_14_method_8_code 1 (some .boolean) :: ws) ({ frames := 4, cells := 0, slots := 0, locals := 54 } : Room)) (fun a U => a = #[(.ref a1)] ∧ Z.Warmed39 U.vm ∧ U.heap = h0) (fun _ _ _ _ _ => True) (fun _ U o U' => ∃ v L, o = .returned v ∧ Q20 Z a1 f_format_a1 f_significandBits_f_format_a1 f_exponentBits_f_format_a1 f_low_a1 f_high_a1 f_explicitIntegerBit_f_format_a1 h0 n0 v U'.heap L ∧ FrameEnd U o U' L ({ frames := 4, cells := 0, slots := 0, locals := 54 } : Room).cells ({ frames := 4, cells := 0, slots := 0, locals := 54 } : Room).slots) := by
  refine MetFree.of_bodySF (plainFor_of_name pn_20) hisR ?_
  intro p e s m args below meth c s₁ Bd hml0 hP hK
  obtain ⟨rfl, hZ, hh⟩ := hP
  have hx := Bd.exec
  have hby := Bd.bytes
  have hml : c.maxLocals = 1 := hml0
  have hown : s.vm.findClass "com/example/tagwire/tagwire/core/FloatValue" = some m.cls := findClass_of_methodNamed Bd.named
  have hnm := (name_of_methodNamed Bd.named Bd.method).1
  have X0 : Stand p l e ({ frames := 4, cells := 0, slots := 0, locals := 54 } : Room) s m #[(.ref a1)] below meth c s₁ [] 0 0 := Stand.of_body Bd
  have e0 : s₁.heap = h0 := by rw [← hh, Bd.state]; rfl
  have N0 := Fr.nil n0
  have pre0 : ∀ t, Steps p.tables e below (s₁.setTop (mkF m 0 #[.val (.ref a1)] [])) t → Steps p.tables e below (s₁.setTop (entryFrame m #[(.ref a1)] 1)) t := fun t k => castTop (ef_20 m a1) k
  obtain ⟨cq1, kq1, q1a, q1b, q1c⟩ := isOf hZ e0 E_a1
  obtain ⟨_, _, ⟨T1, L1, k1, n1⟩, -, X1, ⟨Lc1, hQ1, l1, y1, z1⟩, st1⟩ := X0.virtualBack hx (y := (⟨"com/example/tagwire/tagwire/core/FloatValue", "isFinite", "()Z"⟩ : MethodName)) (z := (⟨"com/example/tagwire/tagwire/core/FloatValue", "isFinite", "()Z"⟩ : MethodName)) hown (mvT hZ (hw _ (List.mem_of_getElem? (i := 59) rfl))) (mvT hZ (hw _ (List.mem_of_getElem? (i := 60) rfl))) (notFace_of_selects (args := #[]) (mvT hZ (hw _ (List.mem_of_getElem? (i := 62) rfl)))) (mvT hZ (hw _ (List.mem_of_getElem? (i := 62) rfl))) (mvT hZ (hw _ (List.mem_of_getElem? (i := 61) rfl))) (by decide) (backOf (W := 0) (rm13 l Z a0 hw [] a1 f_format_a1 f_significandBits_f_format_a1 f_exponentBits_f_format_a1 f_low_a1 f_high_a1 h0 n0 Z0 F_format_a1 F_significandBits_f_format_a1 E_f_format_a1 F_exponentBits_f_format_a1 F_low_a1 F_high_a1 E_a1) hZ (hw _ (List.mem_of_getElem? (i := 63) rfl)) (hw _ (List.mem_of_getElem? (i := 32) rfl)) (by decide) (by decide)) q1a q1c (g := (mkF m 1 #[.val (.ref a1)] [(.ref a1)])) rfl (by rw [hml]; rfl) (Steps.refl _) (argsL := []) (rest := []) (lenOf pd_4 rfl) rfl (by show 2 * 0 + _ ≤ _; exact Nat.le_of_eq rfl) (hb hby d20_1) (fun _ _ => ⟨rfl, e0, (by decide : 0 + 0 ≤ _), (by decide : 0 + 0 ≤ _)⟩)
  dsimp only [Pt.U, Pt.locs, Pt.cells, Pt.slots] at X1 l1 y1 z1 st1 hQ1
  subst l1 y1 z1
  obtain ⟨rfl, N1q, e1⟩ := hQ1
  have N1 := Fr.app N0 N1q
  have pre2 : ∀ t, Steps p.tables e below (T1.setTop (mkF m 4 #[.val (.ref a1)] [(.int (f13 f_significandBits_f_format_a1 f_exponentBits_f_format_a1 f_low_a1 f_high_a1))])) t → Steps p.tables e below (s₁.setTop (entryFrame m #[(.ref a1)] 1)) t := fun t k => pre0 t (by
    show Steps p.tables e below (s₁.setTop (mkF m 0 #[.val (.ref a1)] [])) _
    refine XS.aloadN X0.here hx rfl (hb hby d20_0) rfl rfl ?_
    show Steps p.tables e below (s₁.setTop (mkF m 1 #[.val (.ref a1)] [(.ref a1)])) _
    refine st1.trans ?_
    exact k)
  by_cases hc3 : (f13 f_significandBits_f_format_a1 f_exponentBits_f_format_a1 f_low_a1 f_high_a1) = (0 : Int32)
  · obtain ⟨cx4, kx4, xa4, xb4, xc4, xd4, -⟩ := id E_a1
    obtain ⟨_, _, ⟨T4, L4, k4, n4⟩, -, X4, ⟨Lc4, hQ4, l4, y4, z4⟩, st4⟩ := X1.privateBack hx (y := (⟨"com/example/tagwire/tagwire/core/FloatValue", "fractionIsZero", "()Z"⟩ : MethodName)) hown (mvT hZ (hw _ (List.mem_of_getElem? (i := 101) rfl))) (mvT hZ (hw _ (List.mem_of_getElem? (i := 102) rfl))) (own_privSel hZ (hw _ (List.mem_of_getElem? (i := 46) rfl)) (hw _ (List.mem_of_getElem? (i := 102) rfl)) (hw _ (List.mem_of_getElem? (i := 103) rfl)) (by decide)) (own_privAt hZ (hw _ (List.mem_of_getElem? (i := 103) rfl))) (mvT hZ (hw _ (List.mem_of_getElem? (i := 104) rfl))) (by decide) (backOf (W := 0) (rm21 l Z a0 hw [] a1 f_format_a1 f_explicitIntegerBit_f_format_a1 f_significandBits_f_format_a1 f_low_a1 f_high_a1 h0 n0 Z0 F_format_a1 F_explicitIntegerBit_f_format_a1 F_significandBits_f_format_a1 E_f_format_a1 F_low_a1 F_high_a1 E_a1) hZ (hw _ (List.mem_of_getElem? (i := 104) rfl)) (hw _ (List.mem_of_getElem? (i := 32) rfl)) (by decide) (by decide)) (g := (mkF m 8 #[.val (.ref a1)] [(.ref a1)])) rfl (by rw [hml]; rfl) (Steps.refl _) (a := a1) (by rw [e1]; exact xa4) (own_notSta xd4) (argsL := []) (rest := []) (lenOf pd_4 rfl) rfl (by show 2 * 0 + _ ≤ _; exact Nat.le_of_eq rfl) (hb hby d20_8) (fun _ _ => ⟨rfl, e1, (by decide : 0 + 0 ≤ _), (by decide : 0 + 0 ≤ _)⟩)
    dsimp only [Pt.U, Pt.locs, Pt.cells, Pt.slots] at X4 l4 y4 z4 st4 hQ4
    subst l4 y4 z4
    obtain ⟨rfl, N4q, e4⟩ := hQ4
    have N4 := Fr.app N1 N4q
    obtain ⟨v6, hv6⟩ : ∃ z : Int32, z = (if (f21 f_explicitIntegerBit_f_format_a1 f_significandBits_f_format_a1 f_low_a1 f_high_a1) = (0 : Int32) then (1 : Int32) else (0 : Int32)) := ⟨_, rfl⟩
    have pre7 : ∀ t, Steps p.tables e below (T4.setTop (mkF m 19 #[.val (.ref a1)] [(.int v6)])) t → Steps p.tables e below (s₁.setTop (entryFrame m #[(.ref a1)] 1)) t := fun t k => pre2 t (by
      show Steps p.tables e below (T1.setTop (mkF m 4 #[.val (.ref a1)] [(.int (f13 f_significandBits_f_format_a1 f_exponentBits_f_format_a1 f_low_a1 f_high_a1))])) _
      refine XS.ifNo X1.here hx rfl (hb hby d20_4) rfl ((if0 _ _).trans (teq hc3).2) ?_
      show Steps p.tables e below (T1.setTop (mkF m 7 #[.val (.ref a1)] [])) _
      refine XS.aloadN X1.here hx rfl (hb hby d20_7) rfl rfl ?_
      show Steps p.tables e below (T1.setTop (mkF m 8 #[.val (.ref a1)] [(.ref a1)])) _
      refine st4.trans ?_
      show Steps p.tables e below (T4.setTop (mkF m 11 #[.val (.ref a1)] [(.int (f21 f_explicitIntegerBit_f_format_a1 f_significandBits_f_format_a1 f_low_a1 f_high_a1))])) _
      by_cases hc5 : (f21 f_explicitIntegerBit_f_format_a1 f_significandBits_f_format_a1 f_low_a1 f_high_a1) = (0 : Int32)
      · refine XS.ifNo X4.here hx rfl (hb hby d20_11) rfl ((if0 _ _).trans (teq hc5).2) ?_
        show Steps p.tables e below (T4.setTop (mkF m 14 #[.val (.ref a1)] [])) _
        refine XS.iconst X4.here hx rfl (hb hby d20_14) ?_
        show Steps p.tables e below (T4.setTop (mkF m 15 #[.val (.ref a1)] [(.int (1 : Int32))])) _
        refine XS.goto X4.here hx rfl (pc0 := 15) (pc' := 19) rfl (hb hby d20_15) (by decide) (by decide) ?_
        rw [show v6 = (1 : Int32) from hv6.trans (if_pos hc5)] at k
        exact k
      · refine XS.ifYes X4.here hx rfl (pc0 := 11) (pc' := 18) rfl (hb hby d20_11) rfl ((if0 _ _).trans (feq hc5).2) (by decide) (by decide) ?_
        show Steps p.tables e below (T4.setTop (mkF m 18 #[.val (.ref a1)] [])) _
        refine XS.iconst X4.here hx rfl (hb hby d20_18) ?_
        rw [show v6 = (0 : Int32) from hv6.trans (if_neg hc5)] at k
        exact k)
    have er : (f20 f_significandBits_f_format_a1 f_exponentBits_f_format_a1 f_low_a1 f_high_a1 f_explicitIntegerBit_f_format_a1) = (nar .boolean v6) := by subst hv6; exact (if_pos hc3)
    obtain ⟨fs, hr, hrun, hended, hW, hsame⟩ := X4.leave (v := some (.int (nar .boolean v6))) (fun h => by rw [Bd.returns] at h; cases h)
    refine ⟨_, _, pre7 _ ?_, hrun, hended, _, _, rfl, ?_, ⟨_, rfl⟩, hW, hsame.mono (by decide) (by decide)⟩
    · show Steps p.tables e below (T4.setTop (mkF m 19 #[.val (.ref a1)] [(.int v6)])) _
      exact retN X4 hx (t := .boolean) Bd.returns (by simp) (hb hby d20_19) hr
    · show Q20 Z a1 f_format_a1 f_significandBits_f_format_a1 f_exponentBits_f_format_a1 f_low_a1 f_high_a1 f_explicitIntegerBit_f_format_a1 h0 n0 _ T4.heap _
      rw [e4]
      exact ⟨congrArg (fun z => some (Value.int z)) er.symm, N4, rfl⟩
  · have er : (f20 f_significandBits_f_format_a1 f_exponentBits_f_format_a1 f_low_a1 f_high_a1 f_explicitIntegerBit_f_format_a1) = (0 : Int32) := by exact (if_neg hc3)
    obtain ⟨fs, hr, hrun, hended, hW, hsame⟩ := X1.leave (v := some (.int (0 : Int32))) (fun h => by rw [Bd.returns] at h; cases h)
    refine ⟨_, _, pre2 _ ?_, hrun, hended, _, _, rfl, ?_, ⟨_, rfl⟩, hW, hsame.mono (by decide) (by decide)⟩
    · show Steps p.tables e below (T1.setTop (mkF m 4 #[.val (.ref a1)] [(.int (f13 f_significandBits_f_format_a1 f_exponentBits_f_format_a1 f_low_a1 f_high_a1))])) _
      refine XS.ifYes X1.here hx rfl (pc0 := 4) (pc' := 18) rfl (hb hby d20_4) rfl ((if0 _ _).trans (feq hc3).2) (by decide) (by decide) ?_
      show Steps p.tables e below (T1.setTop (mkF m 18 #[.val (.ref a1)] [])) _
      refine XS.iconst X1.here hx rfl (hb hby d20_18) ?_
      show Steps p.tables e below (T1.setTop (mkF m 19 #[.val (.ref a1)] [(.int (0 : Int32))])) _
      exact retN X1 hx (t := .boolean) Bd.returns (by simp) (hb hby d20_19) hr
    · show Q20 Z a1 f_format_a1 f_significandBits_f_format_a1 f_exponentBits_f_format_a1 f_low_a1 f_high_a1 f_explicitIntegerBit_f_format_a1 h0 n0 _ T1.heap _
      rw [e1]
      exact ⟨congrArg (fun z => some (Value.int z)) er.symm, N1, rfl⟩
theorem d24_0 : decode prog_14_method_24_code 0 = .ok (.iload_n 1, 1) := by decide +kernel
theorem d24_1 : decode prog_14_method_24_code 1 = .ok (.invokestatic 42, 3) := by decide +kernel
theorem d24_4 : decode prog_14_method_24_code 4 = .ok (.iload_n 0, 1) := by decide +kernel
theorem d24_5 : decode prog_14_method_24_code 5 = .ok (.invokestatic 42, 3) := by decide +kernel
theorem d24_8 : decode prog_14_method_24_code 8 = .ok (.ldc2_w 46, 3) := by decide +kernel
theorem d24_11 : decode prog_14_method_24_code 11 = .ok (.lxor, 1) := by decide +kernel
theorem d24_12 : decode prog_14_method_24_code 12 = .ok (.land, 1) := by decide +kernel
theorem d24_13 : decode prog_14_method_24_code 13 = .ok (.lreturn, 1) := by decide +kernel
theorem pn_24 : plainName "com/example/tagwire/tagwire/core/FloatValue" = true := by first | (simp [plainName, overriddenIn]; done) | decide +kernel
theorem ef_24 (m : MethodId) (p1 : Int32) (p2 : Int32) : entryFrame m #[(.int p1), (.int p2)] 2 = mkF m 0 #[.val (.int p1), .val (.int p2)] [] := by first | (simp [entryFrame, mkF, argsToLocals, Value.category]; done) | rfl
def f24 (p1 : Int32) (p2 : Int32) : Int64 :=
  ((f10 p2) &&& ((f10 p1) ^^^ (-1 : Int64)))
def Q24 (Z : State) (p1 : Int32) (p2 : Int32)  (h0 : Heap) (n0 : Nat) (v : Option Value) (h : Heap) (L : List Loc) : Prop := v = some (.long (f24 p1 p2)) ∧ Fr n0 L ∧ h = h0
set_option maxRecDepth 65536 in
set_option maxHeartbeats 40000000 in
theorem rm24 (l : Launch) (Z : State) (a0 : Array Value) (hw : ∀ d ∈ tables_1, d.before a0 Z = true) (ws : List Jvm.Cond) (p1 : Int32) (p2 : Int32)  (h0 : Heap) (n0 : Nat) (Z0 : n0 ≤ h0.size) :
    MetFree l (⟨"com/example/tagwire/tagwire/core/FloatValue", "ones", "(II)J"⟩ : MethodName) (head1 (Jvm.Cond.code (⟨"com/example/tagwire/tagwire/core/FloatValue", "ones", "(II)J"⟩ : MethodName) prog_14_method_24_code 2 (some .long) :: ws) ({ frames := 1, cells := 0, slots := 0, locals := 14 } : Room)) (fun a U => a = #[(.int p1), (.int p2)] ∧ Z.Warmed39 U.vm ∧ U.heap = h0) (fun _ _ _ _ _ => True) (fun _ U o U' => ∃ v L, o = .returned v ∧ Q24 Z p1 p2 h0 n0 v U'.heap L ∧ FrameEnd U o U' L ({ frames := 1, cells := 0, slots := 0, locals := 14 } : Room).cells ({ frames := 1, cells := 0, slots := 0, locals := 14 } : Room).slots) := by
  refine MetFree.of_bodySF (plainFor_of_name pn_24) hisR ?_
  intro p e s m args below meth c s₁ Bd hml0 hP hK
  obtain ⟨rfl, hZ, hh⟩ := hP
  have hx := Bd.exec
  have hby := Bd.bytes
  have hml : c.maxLocals = 2 := hml0
  have hown : s.vm.findClass "com/example/tagwire/tagwire/core/FloatValue" = some m.cls := findClass_of_methodNamed Bd.named
  have hnm := (name_of_methodNamed Bd.named Bd.method).1
  have X0 : Stand p l e ({ frames := 1, cells := 0, slots := 0, locals := 14 } : Room) s m #[(.int p1), (.int p2)] below meth c s₁ [] 0 0 := Stand.of_body Bd
  have e0 : s₁.heap = h0 := by rw [← hh, Bd.state]; rfl
  have N0 := Fr.nil n0
  have pre0 : ∀ t, Steps p.tables e below (s₁.setTop (mkF m 0 #[.val (.int p1), .val (.int p2)] [])) t → Steps p.tables e below (s₁.setTop (entryFrame m #[(.int p1), (.int p2)] 2)) t := fun t k => castTop (ef_24 m p1 p2) k
  obtain ⟨_, _, ⟨T1, L1, k1, n1⟩, -, X1, ⟨Lc1, hQ1, l1, y1, z1⟩, st1⟩ := Jvm.LawKit.callS X0 hx (y := (⟨"com/example/tagwire/tagwire/core/FloatValue", "mask", "(I)J"⟩ : MethodName)) hown (mvT hZ (hw _ (List.mem_of_getElem? (i := 41) rfl))) (mvT hZ (hw _ (List.mem_of_getElem? (i := 42) rfl))) (mvT hZ (hw _ (List.mem_of_getElem? (i := 32) rfl))) (mvT hZ (hw _ (List.mem_of_getElem? (i := 43) rfl))) (by decide) (backOf (W := 0) (rm10 l Z a0 hw [] p2 h0 n0 Z0) hZ (hw _ (List.mem_of_getElem? (i := 43) rfl)) (hw _ (List.mem_of_getElem? (i := 32) rfl)) (by decide) (by decide)) (g := (mkF m 1 #[.val (.int p1), .val (.int p2)] [(.int p2)])) rfl (by rw [hml]; rfl) (argsL := [(.int p2)]) (rest := []) (lenOf pd_0 rfl) rfl (by show 2 * 0 + _ ≤ _; exact Nat.le_of_eq rfl) (hb hby d24_1) (fun _ _ => ⟨rfl, e0, (by decide : 0 + 0 ≤ _), (by decide : 0 + 0 ≤ _)⟩)
  dsimp only [Pt.U, Pt.locs, Pt.cells, Pt.slots] at X1 l1 y1 z1 st1 hQ1
  subst l1 y1 z1
  obtain ⟨rfl, N1q, e1⟩ := hQ1
  have N1 := Fr.app N0 N1q
  obtain ⟨_, _, ⟨T2, L2, k2, n2⟩, -, X2, ⟨Lc2, hQ2, l2, y2, z2⟩, st2⟩ := Jvm.LawKit.callS X1 hx (y := (⟨"com/example/tagwire/tagwire/core/FloatValue", "mask", "(I)J"⟩ : MethodName)) hown (mvT hZ (hw _ (List.mem_of_getElem? (i := 41) rfl))) (mvT hZ (hw _ (List.mem_of_getElem? (i := 42) rfl))) (mvT hZ (hw _ (List.mem_of_getElem? (i := 32) rfl))) (mvT hZ (hw _ (List.mem_of_getElem? (i := 43) rfl))) (by decide) (backOf (W := 2) (rm10 l Z a0 hw [] p1 h0 n0 Z0) hZ (hw _ (List.mem_of_getElem? (i := 43) rfl)) (hw _ (List.mem_of_getElem? (i := 32) rfl)) (by decide) (by decide)) (g := (mkF m 5 #[.val (.int p1), .val (.int p2)] [(.int p1), (.long (f10 p2))])) rfl (by rw [hml]; rfl) (argsL := [(.int p1)]) (rest := [(.long (f10 p2))]) (lenOf pd_0 rfl) rfl (by show 2 * 0 + _ ≤ _; exact Nat.le_of_eq rfl) (hb hby d24_5) (fun _ _ => ⟨rfl, e1, (by decide : 0 + 0 ≤ _), (by decide : 0 + 0 ≤ _)⟩)
  dsimp only [Pt.U, Pt.locs, Pt.cells, Pt.slots] at X2 l2 y2 z2 st2 hQ2
  subst l2 y2 z2
  obtain ⟨rfl, N2q, e2⟩ := hQ2
  have N2 := Fr.app N1 N2q
  have er : (f24 p1 p2) = ((f10 p2) &&& ((f10 p1) ^^^ (-1 : Int64))) := by exact rfl
  obtain ⟨fs, hr, hrun, hended, hW, hsame⟩ := X2.leave (v := some (.long ((f10 p2) &&& ((f10 p1) ^^^ (-1 : Int64))))) (fun h => by rw [Bd.returns] at h; cases h)
  refine ⟨_, _, pre0 _ ?_, hrun, hended, _, _, rfl, ?_, ⟨_, rfl⟩, hW, hsame.mono (by decide) (by decide)⟩
  · show Steps p.tables e below (s₁.setTop (mkF m 0 #[.val (.int p1), .val (.int p2)] [])) _
    refine XS.iloadN X0.here hx rfl (hb hby d24_0) rfl ?_
    show Steps p.tables e below (s₁.setTop (mkF m 1 #[.val (.int p1), .val (.int p2)] [(.int p2)])) _
    refine st1 _ ?_
    show Steps p.tables e below (T1.setTop (mkF m 4 #[.val (.int p1), .val (.int p2)] [(.long (f10 p2))])) _
    refine XS.iloadN X1.here hx rfl (hb hby d24_4) rfl ?_
    show Steps p.tables e below (T1.setTop (mkF m 5 #[.val (.int p1), .val (.int p2)] [(.int p1), (.long (f10 p2))])) _
    refine st2 _ ?_
    show Steps p.tables e below (T2.setTop (mkF m 8 #[.val (.int p1), .val (.int p2)] [(.long (f10 p1)), (.long (f10 p2))])) _
    refine X2.ldc2Long hx hown (mvT hZ (hw _ (List.mem_of_getElem? (i := 44) rfl))) (g := (mkF m 8 #[.val (.int p1), .val (.int p2)] [(.long (f10 p1)), (.long (f10 p2))])) rfl (hb hby d24_8) _ ?_
    show Steps p.tables e below (T2.setTop (mkF m 11 #[.val (.int p1), .val (.int p2)] [(.long (-1 : Int64)), (.long (f10 p1)), (.long (f10 p2))])) _
    refine XS.lxor X2.here hx rfl (hb hby d24_11) rfl ?_
    show Steps p.tables e below (T2.setTop (mkF m 12 #[.val (.int p1), .val (.int p2)] [(.long ((f10 p1) ^^^ (-1 : Int64))), (.long (f10 p2))])) _
    refine XS.land X2.here hx rfl (hb hby d24_12) rfl ?_
    show Steps p.tables e below (T2.setTop (mkF m 13 #[.val (.int p1), .val (.int p2)] [(.long ((f10 p2) &&& ((f10 p1) ^^^ (-1 : Int64))))])) _
    exact X2.lreturnOut hx Bd.returns (hb hby d24_13) hr
  · show Q24 Z p1 p2 h0 n0 _ T2.heap _
    rw [e2]
    exact ⟨congrArg (fun z => some (Value.long z)) er.symm, N2, rfl⟩
theorem d11_0 : decode prog_14_method_2_code 0 = .ok (.aload_n 0, 1) := by decide +kernel
theorem d11_1 : decode prog_14_method_2_code 1 = .ok (.invokespecial 19, 3) := by decide +kernel
theorem d11_4 : decode prog_14_method_2_code 4 = .ok (.aload_n 0, 1) := by decide +kernel
theorem d11_5 : decode prog_14_method_2_code 5 = .ok (.aload_n 1, 1) := by decide +kernel
theorem d11_6 : decode prog_14_method_2_code 6 = .ok (.putfield 24, 3) := by decide +kernel
theorem d11_9 : decode prog_14_method_2_code 9 = .ok (.aload_n 0, 1) := by decide +kernel
theorem d11_10 : decode prog_14_method_2_code 10 = .ok (.lload_n 2, 1) := by decide +kernel
theorem d11_11 : decode prog_14_method_2_code 11 = .ok (.putfield 27, 3) := by decide +kernel
theorem d11_14 : decode prog_14_method_2_code 14 = .ok (.aload_n 0, 1) := by decide +kernel
theorem d11_15 : decode prog_14_method_2_code 15 = .ok (.lload 4, 2) := by decide +kernel
theorem d11_17 : decode prog_14_method_2_code 17 = .ok (.putfield 31, 3) := by decide +kernel
theorem d11_20 : decode prog_14_method_2_code 20 = .ok (.return_, 1) := by decide +kernel
theorem pn_11 : plainName "com/example/tagwire/tagwire/core/FloatValue" = true := by first | (simp [plainName, overriddenIn]; done) | decide +kernel
theorem ef_11 (m : MethodId) (a1 : Addr) (a2 : Addr) (q3 : Int64) (q4 : Int64) : entryFrame m #[(.ref a1), (.ref a2), (.long q3), (.long q4)] 6 = mkF m 0 #[.val (.ref a1), .val (.ref a2), .val (.long q3), .second, .val (.long q4), .second] [] := by first | (simp [entryFrame, mkF, argsToLocals, Value.category]; done) | rfl
def Q11 (Z : State) (a1 : Addr) (a2 : Addr) (q3 : Int64) (q4 : Int64)  (h0 : Heap) (n0 : Nat) (v : Option Value) (h : Heap) (L : List Loc) : Prop := v = none ∧ Fr n0 L ∧ Keep h0 h ([a1] : List Addr) ∧ Exa Z h a1 "com/example/tagwire/tagwire/core/FloatValue" ∧ Fld Z h a1 "com/example/tagwire/tagwire/core/FloatValue" "format" "Lcom/example/tagwire/tagwire/core/FloatFormat;" (.ref a2) ∧ Fld Z h a1 "com/example/tagwire/tagwire/core/FloatValue" "high" "J" (.long q3) ∧ Fld Z h a1 "com/example/tagwire/tagwire/core/FloatValue" "low" "J" (.long q4)
set_option maxRecDepth 65536 in
set_option maxHeartbeats 40000000 in
theorem rm11 (l : Launch) (Z : State) (a0 : Array Value) (hw : ∀ d ∈ tables_1, d.before a0 Z = true) (ws : List Jvm.Cond) (a1 : Addr) (a2 : Addr) (q3 : Int64) (q4 : Int64)  (h0 : Heap) (n0 : Nat) (Z0 : n0 ≤ h0.size) (E_a1 : Exa Z h0 a1 "com/example/tagwire/tagwire/core/FloatValue") (F_format_a1 : Fld Z h0 a1 "com/example/tagwire/tagwire/core/FloatValue" "format" "Lcom/example/tagwire/tagwire/core/FloatFormat;" .null) (F_high_a1 : Fld Z h0 a1 "com/example/tagwire/tagwire/core/FloatValue" "high" "J" (.long (0 : Int64))) (F_low_a1 : Fld Z h0 a1 "com/example/tagwire/tagwire/core/FloatValue" "low" "J" (.long (0 : Int64))) (g_a1 : n0 ≤ a1) :
    MetFree l (⟨"com/example/tagwire/tagwire/core/FloatValue", "<init>", "(Lcom/example/tagwire/tagwire/core/FloatFormat;JJ)V"⟩ : MethodName) (head1 (Jvm.Cond.code (⟨"com/example/tagwire/tagwire/core/FloatValue", "<init>", "(Lcom/example/tagwire/tagwire/core/FloatFormat;JJ)V"⟩ : MethodName) prog_14_method_2_code 6 none :: ws) ({ frames := 1, cells := 0, slots := 0, locals := 12 } : Room)) (fun a U => a = #[(.ref a1), (.ref a2), (.long q3), (.long q4)] ∧ Z.Warmed39 U.vm ∧ U.heap = h0) (fun _ _ _ _ _ => True) (fun _ U o U' => ∃ v L, o = .returned v ∧ Q11 Z a1 a2 q3 q4 h0 n0 v U'.heap L ∧ FrameEnd U o U' L ({ frames := 1, cells := 0, slots := 0, locals := 12 } : Room).cells ({ frames := 1, cells := 0, slots := 0, locals := 12 } : Room).slots) := by
  refine MetFree.of_bodySF (plainFor_of_name pn_11) hisR ?_
  intro p e s m args below meth c s₁ Bd hml0 hP hK
  obtain ⟨rfl, hZ, hh⟩ := hP
  have hx := Bd.exec
  have hby := Bd.bytes
  have hml : c.maxLocals = 6 := hml0
  have hown : s.vm.findClass "com/example/tagwire/tagwire/core/FloatValue" = some m.cls := findClass_of_methodNamed Bd.named
  have hnm := (name_of_methodNamed Bd.named Bd.method).1
  have X0 : Stand p l e ({ frames := 1, cells := 0, slots := 0, locals := 12 } : Room) s m #[(.ref a1), (.ref a2), (.long q3), (.long q4)] below meth c s₁ [] 0 0 := Stand.of_body Bd
  have e0 : s₁.heap = h0 := by rw [← hh, Bd.state]; rfl
  have N0 := Fr.nil n0
  have pre0 : ∀ t, Steps p.tables e below (s₁.setTop (mkF m 0 #[.val (.ref a1), .val (.ref a2), .val (.long q3), .second, .val (.long q4), .second] [])) t → Steps p.tables e below (s₁.setTop (entryFrame m #[(.ref a1), (.ref a2), (.long q3), (.long q4)] 6)) t := fun t k => castTop (ef_11 m a1 a2 q3 q4) k
  have K0 := Keep.refl h0 ([a1] : List Addr)
  obtain ⟨T1, X1, e1, st1⟩ := initO X0 hx hZ hown (hw _ (List.mem_of_getElem? (i := 50) rfl)) (hw _ (List.mem_of_getElem? (i := 51) rfl)) (hw _ (List.mem_of_getElem? (i := 52) rfl)) e0 (g := (mkF m 1 #[.val (.ref a1), .val (.ref a2), .val (.long q3), .second, .val (.long q4), .second] [(.ref a1)])) rfl (by rw [hml]; rfl) rfl (hb hby d11_1) (by decide) (W := 0) (by show 2 * 0 + _ ≤ _; exact Nat.le_of_eq rfl) (by decide)
  obtain ⟨T2, h2, X2, e2, W2, st2⟩ := putF X1 hx hZ hown (host := "") (Or.inl (hw _ (List.mem_of_getElem? (i := 53) rfl))) Via.refl e1 F_format_a1 E_a1 (Or.inr ⟨(hw _ (List.mem_of_getElem? (i := 54) rfl)), rfl, hnm⟩) (hw _ (List.mem_of_getElem? (i := 46) rfl)) (ty := (.object "com/example/tagwire/tagwire/core/FloatFormat")) (by decide) rfl rfl (g := (mkF m 6 #[.val (.ref a1), .val (.ref a2), .val (.long q3), .second, .val (.long q4), .second] [(.ref a2), (.ref a1)])) rfl rfl (hb hby d11_6)
  have E_a1_2 : Exa Z h2 a1 "com/example/tagwire/tagwire/core/FloatValue" := E_a1.wr W2
  have F_high_a1_2 : Fld Z h2 a1 "com/example/tagwire/tagwire/core/FloatValue" "high" "J" (.long (0 : Int64)) := F_high_a1.other W2 (Or.inr (slot_ne (Or.inr (hw _ (List.mem_of_getElem? (i := 56) rfl))) (Or.inr (hw _ (List.mem_of_getElem? (i := 54) rfl))) (by decide) (t := .long) (t' := (.object "com/example/tagwire/tagwire/core/FloatFormat")) (by decide) (by decide)))
  have F_low_a1_2 : Fld Z h2 a1 "com/example/tagwire/tagwire/core/FloatValue" "low" "J" (.long (0 : Int64)) := F_low_a1.other W2 (Or.inr (slot_ne (Or.inr (hw _ (List.mem_of_getElem? (i := 58) rfl))) (Or.inr (hw _ (List.mem_of_getElem? (i := 54) rfl))) (by decide) (t := .long) (t' := (.object "com/example/tagwire/tagwire/core/FloatFormat")) (by decide) (by decide)))
  have K2 := K0.wr W2 (Or.inl (List.mem_of_getElem? (i := 0) rfl))
  have Zs2 := Nat.le_trans Z0 (Keep.of_wr W2).1
  have N2 := Fr.snoc X2 N0 g_a1
  have F_format_a1_2 : Fld Z h2 a1 "com/example/tagwire/tagwire/core/FloatValue" "format" "Lcom/example/tagwire/tagwire/core/FloatFormat;" (.ref a2) := F_format_a1.same W2
  obtain ⟨T3, h3, X3, e3, W3, st3⟩ := putF X2 hx hZ hown (host := "") (Or.inl (hw _ (List.mem_of_getElem? (i := 55) rfl))) Via.refl e2 F_high_a1_2 E_a1_2 (Or.inr ⟨(hw _ (List.mem_of_getElem? (i := 56) rfl)), rfl, hnm⟩) (hw _ (List.mem_of_getElem? (i := 46) rfl)) (ty := .long) (by decide) rfl rfl (g := (mkF m 11 #[.val (.ref a1), .val (.ref a2), .val (.long q3), .second, .val (.long q4), .second] [(.long q3), (.ref a1)])) rfl rfl (hb hby d11_11)
  have E_a1_3 : Exa Z h3 a1 "com/example/tagwire/tagwire/core/FloatValue" := E_a1_2.wr W3
  have F_low_a1_3 : Fld Z h3 a1 "com/example/tagwire/tagwire/core/FloatValue" "low" "J" (.long (0 : Int64)) := F_low_a1_2.other W3 (Or.inr (slot_ne (Or.inr (hw _ (List.mem_of_getElem? (i := 58) rfl))) (Or.inr (hw _ (List.mem_of_getElem? (i := 56) rfl))) (by decide) (t := .long) (t' := .long) (by decide) (by decide)))
  have F_format_a1_3 : Fld Z h3 a1 "com/example/tagwire/tagwire/core/FloatValue" "format" "Lcom/example/tagwire/tagwire/core/FloatFormat;" (.ref a2) := F_format_a1_2.other W3 (Or.inr (slot_ne (Or.inr (hw _ (List.mem_of_getElem? (i := 54) rfl))) (Or.inr (hw _ (List.mem_of_getElem? (i := 56) rfl))) (by decide) (t := (.object "com/example/tagwire/tagwire/core/FloatFormat")) (t' := .long) (by decide) (by decide)))
  have K3 := K2.wr W3 (Or.inl (List.mem_of_getElem? (i := 0) rfl))
  have Zs3 := Nat.le_trans Zs2 (Keep.of_wr W3).1
  have N3 := Fr.snoc X3 N2 g_a1
  have F_high_a1_3 : Fld Z h3 a1 "com/example/tagwire/tagwire/core/FloatValue" "high" "J" (.long q3) := F_high_a1_2.same W3
  obtain ⟨T4, h4, X4, e4, W4, st4⟩ := putF X3 hx hZ hown (host := "") (Or.inl (hw _ (List.mem_of_getElem? (i := 57) rfl))) Via.refl e3 F_low_a1_3 E_a1_3 (Or.inr ⟨(hw _ (List.mem_of_getElem? (i := 58) rfl)), rfl, hnm⟩) (hw _ (List.mem_of_getElem? (i := 46) rfl)) (ty := .long) (by decide) rfl rfl (g := (mkF m 17 #[.val (.ref a1), .val (.ref a2), .val (.long q3), .second, .val (.long q4), .second] [(.long q4), (.ref a1)])) rfl rfl (hb hby d11_17)
  have E_a1_4 : Exa Z h4 a1 "com/example/tagwire/tagwire/core/FloatValue" := E_a1_3.wr W4
  have F_format_a1_4 : Fld Z h4 a1 "com/example/tagwire/tagwire/core/FloatValue" "format" "Lcom/example/tagwire/tagwire/core/FloatFormat;" (.ref a2) := F_format_a1_3.other W4 (Or.inr (slot_ne (Or.inr (hw _ (List.mem_of_getElem? (i := 54) rfl))) (Or.inr (hw _ (List.mem_of_getElem? (i := 58) rfl))) (by decide) (t := (.object "com/example/tagwire/tagwire/core/FloatFormat")) (t' := .long) (by decide) (by decide)))
  have F_high_a1_4 : Fld Z h4 a1 "com/example/tagwire/tagwire/core/FloatValue" "high" "J" (.long q3) := F_high_a1_3.other W4 (Or.inr (slot_ne (Or.inr (hw _ (List.mem_of_getElem? (i := 56) rfl))) (Or.inr (hw _ (List.mem_of_getElem? (i := 58) rfl))) (by decide) (t := .long) (t' := .long) (by decide) (by decide)))
  have K4 := K3.wr W4 (Or.inl (List.mem_of_getElem? (i := 0) rfl))
  have Zs4 := Nat.le_trans Zs3 (Keep.of_wr W4).1
  have N4 := Fr.snoc X4 N3 g_a1
  have F_low_a1_4 : Fld Z h4 a1 "com/example/tagwire/tagwire/core/FloatValue" "low" "J" (.long q4) := F_low_a1_3.same W4
  obtain ⟨fs, hr, hrun, hended, hW, hsame⟩ := X4.leave (v := none) (fun _ => rfl)
  refine ⟨_, _, pre0 _ ?_, hrun, hended, _, _, rfl, ?_, ⟨_, rfl⟩, hW, hsame.mono (by decide) (by decide)⟩
  · show Steps p.tables e below (s₁.setTop (mkF m 0 #[.val (.ref a1), .val (.ref a2), .val (.long q3), .second, .val (.long q4), .second] [])) _
    refine XS.aloadN X0.here hx rfl (hb hby d11_0) rfl rfl ?_
    show Steps p.tables e below (s₁.setTop (mkF m 1 #[.val (.ref a1), .val (.ref a2), .val (.long q3), .second, .val (.long q4), .second] [(.ref a1)])) _
    refine st1 _ ?_
    show Steps p.tables e below (T1.setTop (mkF m 4 #[.val (.ref a1), .val (.ref a2), .val (.long q3), .second, .val (.long q4), .second] [])) _
    refine XS.aloadN X1.here hx rfl (hb hby d11_4) rfl rfl ?_
    show Steps p.tables e below (T1.setTop (mkF m 5 #[.val (.ref a1), .val (.ref a2), .val (.long q3), .second, .val (.long q4), .second] [(.ref a1)])) _
    refine XS.aloadN X1.here hx rfl (hb hby d11_5) rfl rfl ?_
    show Steps p.tables e below (T1.setTop (mkF m 6 #[.val (.ref a1), .val (.ref a2), .val (.long q3), .second, .val (.long q4), .second] [(.ref a2), (.ref a1)])) _
    refine st2 _ ?_
    show Steps p.tables e below (T2.setTop (mkF m 9 #[.val (.ref a1), .val (.ref a2), .val (.long q3), .second, .val (.long q4), .second] [])) _
    refine XS.aloadN X2.here hx rfl (hb hby d11_9) rfl rfl ?_
    show Steps p.tables e below (T2.setTop (mkF m 10 #[.val (.ref a1), .val (.ref a2), .val (.long q3), .second, .val (.long q4), .second] [(.ref a1)])) _
    refine XS.lloadN X2.here hx rfl (hb hby d11_10) rfl ?_
    show Steps p.tables e below (T2.setTop (mkF m 11 #[.val (.ref a1), .val (.ref a2), .val (.long q3), .second, .val (.long q4), .second] [(.long q3), (.ref a1)])) _
    refine st3 _ ?_
    show Steps p.tables e below (T3.setTop (mkF m 14 #[.val (.ref a1), .val (.ref a2), .val (.long q3), .second, .val (.long q4), .second] [])) _
    refine XS.aloadN X3.here hx rfl (hb hby d11_14) rfl rfl ?_
    show Steps p.tables e below (T3.setTop (mkF m 15 #[.val (.ref a1), .val (.ref a2), .val (.long q3), .second, .val (.long q4), .second] [(.ref a1)])) _
    refine XS.lload X3.here hx rfl (hb hby d11_15) rfl ?_
    show Steps p.tables e below (T3.setTop (mkF m 17 #[.val (.ref a1), .val (.ref a2), .val (.long q3), .second, .val (.long q4), .second] [(.long q4), (.ref a1)])) _
    refine st4 _ ?_
    show Steps p.tables e below (T4.setTop (mkF m 20 #[.val (.ref a1), .val (.ref a2), .val (.long q3), .second, .val (.long q4), .second] [])) _
    exact X4.returnOut hx Bd.returns (hb hby d11_20) hr
  · show Q11 Z a1 a2 q3 q4 h0 n0 _ T4.heap _
    rw [e4]
    exact ⟨rfl, N4, K4, E_a1_4, F_format_a1_4, F_high_a1_4, F_low_a1_4⟩
theorem pd_5 : parseMethodDescriptor "(Lcom/example/tagwire/tagwire/core/FloatFormat;JJ)V" = some ⟨[(.object "com/example/tagwire/tagwire/core/FloatFormat"), .long, .long], none⟩ := by decide +kernel
theorem d19_0 : decode prog_14_method_22_code 0 = .ok (.aload_n 0, 1) := by decide +kernel
theorem d19_1 : decode prog_14_method_22_code 1 = .ok (.invokevirtual 104, 3) := by decide +kernel
theorem d19_4 : decode prog_14_method_22_code 4 = .ok (.istore_n 1, 1) := by decide +kernel
theorem d19_5 : decode prog_14_method_22_code 5 = .ok (.aload_n 0, 1) := by decide +kernel
theorem d19_6 : decode prog_14_method_22_code 6 = .ok (.getfield 24, 3) := by decide +kernel
theorem d19_9 : decode prog_14_method_22_code 9 = .ok (.invokevirtual 71, 3) := by decide +kernel
theorem d19_12 : decode prog_14_method_22_code 12 = .ok (.aload_n 0, 1) := by decide +kernel
theorem d19_13 : decode prog_14_method_22_code 13 = .ok (.getfield 24, 3) := by decide +kernel
theorem d19_16 : decode prog_14_method_22_code 16 = .ok (.invokevirtual 74, 3) := by decide +kernel
theorem d19_19 : decode prog_14_method_22_code 19 = .ok (.iadd, 1) := by decide +kernel
theorem d19_20 : decode prog_14_method_22_code 20 = .ok (.istore_n 2, 1) := by decide +kernel
theorem d19_21 : decode prog_14_method_22_code 21 = .ok (.aload_n 0, 1) := by decide +kernel
theorem d19_22 : decode prog_14_method_22_code 22 = .ok (.getfield 24, 3) := by decide +kernel
theorem d19_25 : decode prog_14_method_22_code 25 = .ok (.invokevirtual 206, 3) := by decide +kernel
theorem d19_28 : decode prog_14_method_22_code 28 = .ok (.iload_n 1, 1) := by decide +kernel
theorem d19_29 : decode prog_14_method_22_code 29 = .ok (.ifCond .eq 7, 3) := by decide +kernel
theorem d19_32 : decode prog_14_method_22_code 32 = .ok (.iconst 1, 1) := by decide +kernel
theorem d19_33 : decode prog_14_method_22_code 33 = .ok (.goto 4, 3) := by decide +kernel
theorem d19_37 : decode prog_14_method_22_code 37 = .ok (.isub, 1) := by decide +kernel
theorem d19_38 : decode prog_14_method_22_code 38 = .ok (.istore_n 3, 1) := by decide +kernel
theorem d19_39 : decode prog_14_method_22_code 39 = .ok (.iload_n 2, 1) := by decide +kernel
theorem d19_40 : decode prog_14_method_22_code 40 = .ok (.iload_n 1, 1) := by decide +kernel
theorem d19_41 : decode prog_14_method_22_code 41 = .ok (.ifCond .ne 14, 3) := by decide +kernel
theorem d19_55 : decode prog_14_method_22_code 55 = .ok (.iconst 0, 1) := by decide +kernel
theorem d19_56 : decode prog_14_method_22_code 56 = .ok (.iadd, 1) := by decide +kernel
theorem d19_57 : decode prog_14_method_22_code 57 = .ok (.istore 4, 2) := by decide +kernel
theorem d19_59 : decode prog_14_method_22_code 59 = .ok (.new 3, 3) := by decide +kernel
theorem d19_62 : decode prog_14_method_22_code 62 = .ok (.dup, 1) := by decide +kernel
theorem d19_63 : decode prog_14_method_22_code 63 = .ok (.aload_n 0, 1) := by decide +kernel
theorem d19_64 : decode prog_14_method_22_code 64 = .ok (.getfield 24, 3) := by decide +kernel
theorem d19_67 : decode prog_14_method_22_code 67 = .ok (.iload_n 3, 1) := by decide +kernel
theorem d19_68 : decode prog_14_method_22_code 68 = .ok (.bipush 64, 2) := by decide +kernel
theorem d19_70 : decode prog_14_method_22_code 70 = .ok (.isub, 1) := by decide +kernel
theorem d19_71 : decode prog_14_method_22_code 71 = .ok (.iload 4, 2) := by decide +kernel
theorem d19_73 : decode prog_14_method_22_code 73 = .ok (.bipush 64, 2) := by decide +kernel
theorem d19_75 : decode prog_14_method_22_code 75 = .ok (.isub, 1) := by decide +kernel
theorem d19_76 : decode prog_14_method_22_code 76 = .ok (.invokestatic 236, 3) := by decide +kernel
theorem d19_79 : decode prog_14_method_22_code 79 = .ok (.iload_n 3, 1) := by decide +kernel
theorem d19_80 : decode prog_14_method_22_code 80 = .ok (.iload 4, 2) := by decide +kernel
theorem d19_82 : decode prog_14_method_22_code 82 = .ok (.invokestatic 236, 3) := by decide +kernel
theorem d19_85 : decode prog_14_method_22_code 85 = .ok (.invokespecial 15, 3) := by decide +kernel
theorem d19_88 : decode prog_14_method_22_code 88 = .ok (.areturn, 1) := by decide +kernel
theorem pn_19 : plainName "com/example/tagwire/tagwire/core/FloatValue" = true := by first | (simp [plainName, overriddenIn]; done) | decide +kernel
theorem ef_19 (m : MethodId) (a1 : Addr) : entryFrame m #[(.ref a1)] 5 = mkF m 0 #[.val (.ref a1), .unset, .unset, .unset, .unset] [] := by first | (simp [entryFrame, mkF, argsToLocals, Value.category]; done) | rfl
def Q19 (Z : State) (a1 : Addr) (fo : Addr) (u1 : Int64) (u2 : Int64) (sb : Int32) (eb : Int32) (xb : Int32) (h0 : Heap) (n0 : Nat) (v : Option Value) (h : Heap) (L : List Loc) : Prop := ∃ (b : Addr), v = some (.ref b) ∧ Fr n0 L ∧ Keep h0 h ([] : List Addr) ∧ h0.size ≤ b ∧ Exa Z h b "com/example/tagwire/tagwire/core/FloatValue" ∧ Fld Z h b "com/example/tagwire/tagwire/core/FloatValue" "format" "Lcom/example/tagwire/tagwire/core/FloatFormat;" (.ref fo) ∧ Fld Z h b "com/example/tagwire/tagwire/core/FloatValue" "high" "J" (.long (f24 (((f22 xb sb) - (1 : Int32)) - (64 : Int32)) ((((f15 sb) + (f16 eb)) + (0 : Int32)) - (64 : Int32)))) ∧ Fld Z h b "com/example/tagwire/tagwire/core/FloatValue" "low" "J" (.long (f24 ((f22 xb sb) - (1 : Int32)) (((f15 sb) + (f16 eb)) + (0 : Int32))))
set_option maxRecDepth 65536 in
set_option maxHeartbeats 40000000 in
theorem rm19 (l : Launch) (Z : State) (a0 : Array Value) (hw : ∀ d ∈ tables_1, d.before a0 Z = true) (ws : List Jvm.Cond) (a1 : Addr) (fo : Addr) (u1 : Int64) (u2 : Int64) (sb : Int32) (eb : Int32) (xb : Int32) (h0 : Heap) (n0 : Nat) (Z0 : n0 ≤ h0.size) (E_a1 : Exa Z h0 a1 "com/example/tagwire/tagwire/core/FloatValue") (F_format_a1 : Fld Z h0 a1 "com/example/tagwire/tagwire/core/FloatValue" "format" "Lcom/example/tagwire/tagwire/core/FloatFormat;" (.ref fo)) (F_high_a1 : Fld Z h0 a1 "com/example/tagwire/tagwire/core/FloatValue" "high" "J" (.long u1)) (F_low_a1 : Fld Z h0 a1 "com/example/tagwire/tagwire/core/FloatValue" "low" "J" (.long u2)) (E_fo : Exa Z h0 fo "com/example/tagwire/tagwire/core/FloatFormat") (F_significandBits_fo : Fld Z h0 fo "com/example/tagwire/tagwire/core/FloatFormat" "significandBits" "I" (.int sb)) (F_exponentBits_fo : Fld Z h0 fo "com/example/tagwire/tagwire/core/FloatFormat" "exponentBits" "I" (.int eb)) (F_explicitIntegerBit_fo : Fld Z h0 fo "com/example/tagwire/tagwire/core/FloatFormat" "explicitIntegerBit" "Z" (.int xb)) (hnan : ¬ (f20 sb eb u2 u1 xb) = (0 : Int32)) :
    MetFree l (⟨"com/example/tagwire/tagwire/core/FloatValue", "canonicalSpecial", "()Lcom/example/tagwire/tagwire/core/FloatValue;"⟩ : MethodName) (head1 (Jvm.Cond.code (⟨"com/example/tagwire/tagwire/core/FloatValue", "canonicalSpecial", "()Lcom/example/tagwire/tagwire/core/FloatValue;"⟩ : MethodName) prog_14_method_22_code 5 (some (.object "com/example/tagwire/tagwire/core/FloatValue")) :: ws) ({ frames := 5, cells := 1, slots := 3, locals := 66 } : Room)) (fun a U => a = #[(.ref a1)] ∧ Z.Warmed39 U.vm ∧ U.heap = h0) (fun _ _ _ _ _ => True) (fun _ U o U' => ∃ v L, o = .returned v ∧ Q19 Z a1 fo u1 u2 sb eb xb h0 n0 v U'.heap L ∧ FrameEnd U o U' L ({ frames := 5, cells := 1, slots := 3, locals := 66 } : Room).cells ({ frames := 5, cells := 1, slots := 3, locals := 66 } : Room).slots) := by
  refine MetFree.of_bodySF (plainFor_of_name pn_19) hisR ?_
  intro p e s m args below meth c s₁ Bd hml0 hP hK
  obtain ⟨rfl, hZ, hh⟩ := hP
  have hx := Bd.exec
  have hby := Bd.bytes
  have hml : c.maxLocals = 5 := hml0
  have hown : s.vm.findClass "com/example/tagwire/tagwire/core/FloatValue" = some m.cls := findClass_of_methodNamed Bd.named
  have hnm := (name_of_methodNamed Bd.named Bd.method).1
  have X0 : Stand p l e ({ frames := 5, cells := 1, slots := 3, locals := 66 } : Room) s m #[(.ref a1)] below meth c s₁ [] 0 0 := Stand.of_body Bd
  have e0 : s₁.heap = h0 := by rw [← hh, Bd.state]; rfl
  have N0 := Fr.nil n0
  have pre0 : ∀ t, Steps p.tables e below (s₁.setTop (mkF m 0 #[.val (.ref a1), .unset, .unset, .unset, .unset] [])) t → Steps p.tables e below (s₁.setTop (entryFrame m #[(.ref a1)] 5)) t := fun t k => castTop (ef_19 m a1) k
  have K0 := Keep.refl h0 ([] : List Addr)
  obtain ⟨cq1, kq1, q1a, q1b, q1c⟩ := isOf hZ e0 E_a1
  obtain ⟨_, _, ⟨T1, L1, k1, n1⟩, -, X1, ⟨Lc1, hQ1, l1, y1, z1⟩, st1⟩ := X0.virtualBack hx (y := (⟨"com/example/tagwire/tagwire/core/FloatValue", "isNaN", "()Z"⟩ : MethodName)) (z := (⟨"com/example/tagwire/tagwire/core/FloatValue", "isNaN", "()Z"⟩ : MethodName)) hown (mvT hZ (hw _ (List.mem_of_getElem? (i := 96) rfl))) (mvT hZ (hw _ (List.mem_of_getElem? (i := 97) rfl))) (notFace_of_selects (args := #[]) (mvT hZ (hw _ (List.mem_of_getElem? (i := 99) rfl)))) (mvT hZ (hw _ (List.mem_of_getElem? (i := 99) rfl))) (mvT hZ (hw _ (List.mem_of_getElem? (i := 98) rfl))) (by decide) (backOf (W := 0) (rm20 l Z a0 hw [] a1 fo sb eb u2 u1 xb h0 n0 Z0 F_format_a1 F_significandBits_fo E_fo F_exponentBits_fo F_low_a1 F_high_a1 E_a1 F_explicitIntegerBit_fo) hZ (hw _ (List.mem_of_getElem? (i := 100) rfl)) (hw _ (List.mem_of_getElem? (i := 32) rfl)) (by decide) (by decide)) q1a q1c (g := (mkF m 1 #[.val (.ref a1), .unset, .unset, .unset, .unset] [(.ref a1)])) rfl (by rw [hml]; rfl) (Steps.refl _) (argsL := []) (rest := []) (lenOf pd_4 rfl) rfl (by show 2 * 0 + _ ≤ _; exact Nat.le_of_eq rfl) (hb hby d19_1) (fun _ _ => ⟨rfl, e0, (by decide : 0 + 0 ≤ _), (by decide : 0 + 0 ≤ _)⟩)
  dsimp only [Pt.U, Pt.locs, Pt.cells, Pt.slots] at X1 l1 y1 z1 st1 hQ1
  subst l1 y1 z1
  obtain ⟨rfl, N1q, e1⟩ := hQ1
  have N1 := Fr.app N0 N1q
  obtain ⟨T2, X2, e2, st2⟩ := getF X1 hx hZ hown (host := "") (Or.inl (hw _ (List.mem_of_getElem? (i := 53) rfl))) Via.refl e1 F_format_a1 (g := (mkF m 6 #[.val (.ref a1), .val (.int (f20 sb eb u2 u1 xb)), .unset, .unset, .unset] [(.ref a1)])) rfl rfl (hb hby d19_6)
  obtain ⟨cq3, kq3, q3a, q3b, q3c⟩ := isOf hZ e2 E_fo
  obtain ⟨_, _, ⟨T3, L3, k3, n3⟩, -, X3, ⟨Lc3, hQ3, l3, y3, z3⟩, st3⟩ := X2.virtualBack hx (y := (⟨"com/example/tagwire/tagwire/core/FloatFormat", "significandBits", "()I"⟩ : MethodName)) (z := (⟨"com/example/tagwire/tagwire/core/FloatFormat", "significandBits", "()I"⟩ : MethodName)) hown (mvT hZ (hw _ (List.mem_of_getElem? (i := 69) rfl))) (mvT hZ (hw _ (List.mem_of_getElem? (i := 70) rfl))) (notFace_of_selects (args := #[]) (mvT hZ (hw _ (List.mem_of_getElem? (i := 72) rfl)))) (mvT hZ (hw _ (List.mem_of_getElem? (i := 72) rfl))) (mvT hZ (hw _ (List.mem_of_getElem? (i := 71) rfl))) (by decide) (backOf (W := 0) (rm15 l Z a0 hw [] fo sb h0 n0 Z0 F_significandBits_fo) hZ (hw _ (List.mem_of_getElem? (i := 73) rfl)) (hw _ (List.mem_of_getElem? (i := 28) rfl)) (by decide) (by decide)) q3a q3c (g := (mkF m 9 #[.val (.ref a1), .val (.int (f20 sb eb u2 u1 xb)), .unset, .unset, .unset] [(.ref fo)])) rfl (by rw [hml]; rfl) (Steps.refl _) (argsL := []) (rest := []) (lenOf pd_1 rfl) rfl (by show 2 * 0 + _ ≤ _; exact Nat.le_of_eq rfl) (hb hby d19_9) (fun _ _ => ⟨rfl, e2, (by decide : 0 + 0 ≤ _), (by decide : 0 + 0 ≤ _)⟩)
  dsimp only [Pt.U, Pt.locs, Pt.cells, Pt.slots] at X3 l3 y3 z3 st3 hQ3
  subst l3 y3 z3
  obtain ⟨rfl, N3q, e3⟩ := hQ3
  have N3 := Fr.app N1 N3q
  obtain ⟨T4, X4, e4, st4⟩ := getF X3 hx hZ hown (host := "") (Or.inl (hw _ (List.mem_of_getElem? (i := 53) rfl))) Via.refl e3 F_format_a1 (g := (mkF m 13 #[.val (.ref a1), .val (.int (f20 sb eb u2 u1 xb)), .unset, .unset, .unset] [(.ref a1), (.int (f15 sb))])) rfl rfl (hb hby d19_13)
  obtain ⟨cq5, kq5, q5a, q5b, q5c⟩ := isOf hZ e4 E_fo
  obtain ⟨_, _, ⟨T5, L5, k5, n5⟩, -, X5, ⟨Lc5, hQ5, l5, y5, z5⟩, st5⟩ := X4.virtualBack hx (y := (⟨"com/example/tagwire/tagwire/core/FloatFormat", "exponentBits", "()I"⟩ : MethodName)) (z := (⟨"com/example/tagwire/tagwire/core/FloatFormat", "exponentBits", "()I"⟩ : MethodName)) hown (mvT hZ (hw _ (List.mem_of_getElem? (i := 76) rfl))) (mvT hZ (hw _ (List.mem_of_getElem? (i := 77) rfl))) (notFace_of_selects (args := #[]) (mvT hZ (hw _ (List.mem_of_getElem? (i := 79) rfl)))) (mvT hZ (hw _ (List.mem_of_getElem? (i := 79) rfl))) (mvT hZ (hw _ (List.mem_of_getElem? (i := 78) rfl))) (by decide) (backOf (W := 1) (rm16 l Z a0 hw [] fo eb h0 n0 Z0 F_exponentBits_fo) hZ (hw _ (List.mem_of_getElem? (i := 80) rfl)) (hw _ (List.mem_of_getElem? (i := 28) rfl)) (by decide) (by decide)) q5a q5c (g := (mkF m 16 #[.val (.ref a1), .val (.int (f20 sb eb u2 u1 xb)), .unset, .unset, .unset] [(.ref fo), (.int (f15 sb))])) rfl (by rw [hml]; rfl) (Steps.refl _) (argsL := []) (rest := [(.int (f15 sb))]) (lenOf pd_1 rfl) rfl (by show 2 * 0 + _ ≤ _; exact Nat.le_of_eq rfl) (hb hby d19_16) (fun _ _ => ⟨rfl, e4, (by decide : 0 + 0 ≤ _), (by decide : 0 + 0 ≤ _)⟩)
  dsimp only [Pt.U, Pt.locs, Pt.cells, Pt.slots] at X5 l5 y5 z5 st5 hQ5
  subst l5 y5 z5
  obtain ⟨rfl, N5q, e5⟩ := hQ5
  have N5 := Fr.app N3 N5q
  obtain ⟨T6, X6, e6, st6⟩ := getF X5 hx hZ hown (host := "") (Or.inl (hw _ (List.mem_of_getElem? (i := 53) rfl))) Via.refl e5 F_format_a1 (g := (mkF m 22 #[.val (.ref a1), .val (.int (f20 sb eb u2 u1 xb)), .val (.int ((f15 sb) + (f16 eb))), .unset, .unset] [(.ref a1)])) rfl rfl (hb hby d19_22)
  obtain ⟨cq7, kq7, q7a, q7b, q7c⟩ := isOf hZ e6 E_fo
  obtain ⟨_, _, ⟨T7, L7, k7, n7⟩, -, X7, ⟨Lc7, hQ7, l7, y7, z7⟩, st7⟩ := X6.virtualBack hx (y := (⟨"com/example/tagwire/tagwire/core/FloatFormat", "fractionBits", "()I"⟩ : MethodName)) (z := (⟨"com/example/tagwire/tagwire/core/FloatFormat", "fractionBits", "()I"⟩ : MethodName)) hown (mvT hZ (hw _ (List.mem_of_getElem? (i := 105) rfl))) (mvT hZ (hw _ (List.mem_of_getElem? (i := 106) rfl))) (notFace_of_selects (args := #[]) (mvT hZ (hw _ (List.mem_of_getElem? (i := 108) rfl)))) (mvT hZ (hw _ (List.mem_of_getElem? (i := 108) rfl))) (mvT hZ (hw _ (List.mem_of_getElem? (i := 107) rfl))) (by decide) (backOf (W := 0) (rm22 l Z a0 hw [] fo xb sb h0 n0 Z0 F_explicitIntegerBit_fo F_significandBits_fo) hZ (hw _ (List.mem_of_getElem? (i := 109) rfl)) (hw _ (List.mem_of_getElem? (i := 28) rfl)) (by decide) (by decide)) q7a q7c (g := (mkF m 25 #[.val (.ref a1), .val (.int (f20 sb eb u2 u1 xb)), .val (.int ((f15 sb) + (f16 eb))), .unset, .unset] [(.ref fo)])) rfl (by rw [hml]; rfl) (Steps.refl _) (argsL := []) (rest := []) (lenOf pd_1 rfl) rfl (by show 2 * 0 + _ ≤ _; exact Nat.le_of_eq rfl) (hb hby d19_25) (fun _ _ => ⟨rfl, e6, (by decide : 0 + 0 ≤ _), (by decide : 0 + 0 ≤ _)⟩)
  dsimp only [Pt.U, Pt.locs, Pt.cells, Pt.slots] at X7 l7 y7 z7 st7 hQ7
  subst l7 y7 z7
  obtain ⟨rfl, N7q, e7⟩ := hQ7
  have N7 := Fr.app N5 N7q
  obtain ⟨T8, h8, X8, e8, E8, Ax8, D8, -, st8⟩ := newO X7 hx hZ hown (hw _ (List.mem_of_getElem? (i := 45) rfl)) (hw _ (List.mem_of_getElem? (i := 46) rfl)) (hw _ (List.mem_of_getElem? (i := 32) rfl)) e7 (g := (mkF m 59 #[.val (.ref a1), .val (.int (f20 sb eb u2 u1 xb)), .val (.int ((f15 sb) + (f16 eb))), .val (.int ((f22 xb sb) - (1 : Int32))), .val (.int (((f15 sb) + (f16 eb)) + (0 : Int32)))] [])) rfl (hb hby d19_59) (by decide) (by decide)
  obtain ⟨b8, g8⟩ : ∃ z, z = h0.size := ⟨_, rfl⟩
  rw [← g8] at Ax8 D8 st8
  have ne_a1_b8 : a1 ≠ b8 := Nat.ne_of_lt (Nat.lt_of_lt_of_le E_a1.lt (Nat.le_of_eq g8.symm))
  have ne_fo_b8 : fo ≠ b8 := Nat.ne_of_lt (Nat.lt_of_lt_of_le E_fo.lt (Nat.le_of_eq g8.symm))
  have g_b8 : n0 ≤ b8 := Nat.le_trans Z0 (Nat.le_of_eq g8.symm)
  have sz_b8 : h0.size ≤ b8 := Nat.le_trans K0.1 (Nat.le_of_eq g8.symm)
  have E_a1_8 : Exa Z h8 a1 "com/example/tagwire/tagwire/core/FloatValue" := E_a1.ext E8
  have F_format_a1_8 : Fld Z h8 a1 "com/example/tagwire/tagwire/core/FloatValue" "format" "Lcom/example/tagwire/tagwire/core/FloatFormat;" (.ref fo) := F_format_a1.ext E8
  have F_high_a1_8 : Fld Z h8 a1 "com/example/tagwire/tagwire/core/FloatValue" "high" "J" (.long u1) := F_high_a1.ext E8
  have F_low_a1_8 : Fld Z h8 a1 "com/example/tagwire/tagwire/core/FloatValue" "low" "J" (.long u2) := F_low_a1.ext E8
  have E_fo_8 : Exa Z h8 fo "com/example/tagwire/tagwire/core/FloatFormat" := E_fo.ext E8
  have F_significandBits_fo_8 : Fld Z h8 fo "com/example/tagwire/tagwire/core/FloatFormat" "significandBits" "I" (.int sb) := F_significandBits_fo.ext E8
  have F_exponentBits_fo_8 : Fld Z h8 fo "com/example/tagwire/tagwire/core/FloatFormat" "exponentBits" "I" (.int eb) := F_exponentBits_fo.ext E8
  have F_explicitIntegerBit_fo_8 : Fld Z h8 fo "com/example/tagwire/tagwire/core/FloatFormat" "explicitIntegerBit" "Z" (.int xb) := F_explicitIntegerBit_fo.ext E8
  have K8 := K0.ext E8
  have Zs8 := Nat.le_trans Z0 E8.1
  have E_b8_8 : Exa Z h8 b8 "com/example/tagwire/tagwire/core/FloatValue" := Ax8
  have F_format_b8_8 : Fld Z h8 b8 "com/example/tagwire/tagwire/core/FloatValue" "format" "Lcom/example/tagwire/tagwire/core/FloatFormat;" .null := D8 (Or.inr (hw _ (List.mem_of_getElem? (i := 54) rfl))) (ty := (.object "com/example/tagwire/tagwire/core/FloatFormat")) (by decide)
  have F_high_b8_8 : Fld Z h8 b8 "com/example/tagwire/tagwire/core/FloatValue" "high" "J" (.long (0 : Int64)) := D8 (Or.inr (hw _ (List.mem_of_getElem? (i := 56) rfl))) (ty := .long) (by decide)
  have F_low_b8_8 : Fld Z h8 b8 "com/example/tagwire/tagwire/core/FloatValue" "low" "J" (.long (0 : Int64)) := D8 (Or.inr (hw _ (List.mem_of_getElem? (i := 58) rfl))) (ty := .long) (by decide)
  obtain ⟨T9, X9, e9, st9⟩ := getF X8 hx hZ hown (host := "") (Or.inl (hw _ (List.mem_of_getElem? (i := 53) rfl))) Via.refl e8 F_format_a1_8 (g := (mkF m 64 #[.val (.ref a1), .val (.int (f20 sb eb u2 u1 xb)), .val (.int ((f15 sb) + (f16 eb))), .val (.int ((f22 xb sb) - (1 : Int32))), .val (.int (((f15 sb) + (f16 eb)) + (0 : Int32)))] [(.ref a1), (.ref b8), (.ref b8)])) rfl rfl (hb hby d19_64)
  obtain ⟨_, _, ⟨T10, L10, k10, n10⟩, -, X10, ⟨Lc10, hQ10, l10, y10, z10⟩, st10⟩ := Jvm.LawKit.callS X9 hx (y := (⟨"com/example/tagwire/tagwire/core/FloatValue", "ones", "(II)J"⟩ : MethodName)) hown (mvT hZ (hw _ (List.mem_of_getElem? (i := 116) rfl))) (mvT hZ (hw _ (List.mem_of_getElem? (i := 117) rfl))) (mvT hZ (hw _ (List.mem_of_getElem? (i := 32) rfl))) (mvT hZ (hw _ (List.mem_of_getElem? (i := 118) rfl))) (by decide) (backOf (W := 3) (rm24 l Z a0 hw [] (((f22 xb sb) - (1 : Int32)) - (64 : Int32)) ((((f15 sb) + (f16 eb)) + (0 : Int32)) - (64 : Int32)) h8 n0 Zs8) hZ (hw _ (List.mem_of_getElem? (i := 118) rfl)) (hw _ (List.mem_of_getElem? (i := 32) rfl)) (by decide) (by decide)) (g := (mkF m 76 #[.val (.ref a1), .val (.int (f20 sb eb u2 u1 xb)), .val (.int ((f15 sb) + (f16 eb))), .val (.int ((f22 xb sb) - (1 : Int32))), .val (.int (((f15 sb) + (f16 eb)) + (0 : Int32)))] [(.int ((((f15 sb) + (f16 eb)) + (0 : Int32)) - (64 : Int32))), (.int (((f22 xb sb) - (1 : Int32)) - (64 : Int32))), (.ref fo), (.ref b8), (.ref b8)])) rfl (by rw [hml]; rfl) (argsL := [(.int (((f22 xb sb) - (1 : Int32)) - (64 : Int32))), (.int ((((f15 sb) + (f16 eb)) + (0 : Int32)) - (64 : Int32)))]) (rest := [(.ref fo), (.ref b8), (.ref b8)]) (lenOf pd_2 rfl) rfl (by show 2 * 0 + _ ≤ _; exact Nat.le_of_eq rfl) (hb hby d19_76) (fun _ _ => ⟨rfl, e9, (by decide : 1 + 0 ≤ _), (by decide : 3 + 0 ≤ _)⟩)
  dsimp only [Pt.U, Pt.locs, Pt.cells, Pt.slots] at X10 l10 y10 z10 st10 hQ10
  subst l10 y10 z10
  obtain ⟨rfl, N10q, e10⟩ := hQ10
  have N10 := Fr.app N7 N10q
  obtain ⟨_, _, ⟨T11, L11, k11, n11⟩, -, X11, ⟨Lc11, hQ11, l11, y11, z11⟩, st11⟩ := Jvm.LawKit.callS X10 hx (y := (⟨"com/example/tagwire/tagwire/core/FloatValue", "ones", "(II)J"⟩ : MethodName)) hown (mvT hZ (hw _ (List.mem_of_getElem? (i := 116) rfl))) (mvT hZ (hw _ (List.mem_of_getElem? (i := 117) rfl))) (mvT hZ (hw _ (List.mem_of_getElem? (i := 32) rfl))) (mvT hZ (hw _ (List.mem_of_getElem? (i := 118) rfl))) (by decide) (backOf (W := 5) (rm24 l Z a0 hw [] ((f22 xb sb) - (1 : Int32)) (((f15 sb) + (f16 eb)) + (0 : Int32)) h8 n0 Zs8) hZ (hw _ (List.mem_of_getElem? (i := 118) rfl)) (hw _ (List.mem_of_getElem? (i := 32) rfl)) (by decide) (by decide)) (g := (mkF m 82 #[.val (.ref a1), .val (.int (f20 sb eb u2 u1 xb)), .val (.int ((f15 sb) + (f16 eb))), .val (.int ((f22 xb sb) - (1 : Int32))), .val (.int (((f15 sb) + (f16 eb)) + (0 : Int32)))] [(.int (((f15 sb) + (f16 eb)) + (0 : Int32))), (.int ((f22 xb sb) - (1 : Int32))), (.long (f24 (((f22 xb sb) - (1 : Int32)) - (64 : Int32)) ((((f15 sb) + (f16 eb)) + (0 : Int32)) - (64 : Int32)))), (.ref fo), (.ref b8), (.ref b8)])) rfl (by rw [hml]; rfl) (argsL := [(.int ((f22 xb sb) - (1 : Int32))), (.int (((f15 sb) + (f16 eb)) + (0 : Int32)))]) (rest := [(.long (f24 (((f22 xb sb) - (1 : Int32)) - (64 : Int32)) ((((f15 sb) + (f16 eb)) + (0 : Int32)) - (64 : Int32)))), (.ref fo), (.ref b8), (.ref b8)]) (lenOf pd_2 rfl) rfl (by show 2 * 0 + _ ≤ _; exact Nat.le_of_eq rfl) (hb hby d19_82) (fun _ _ => ⟨rfl, e10, (by decide : 1 + 0 ≤ _), (by decide : 3 + 0 ≤ _)⟩)
  dsimp only [Pt.U, Pt.locs, Pt.cells, Pt.slots] at X11 l11 y11 z11 st11 hQ11
  subst l11 y11 z11
  obtain ⟨rfl, N11q, e11⟩ := hQ11
  have N11 := Fr.app N10 N11q
  obtain ⟨_, _, ⟨T12, L12, k12, n12⟩, -, X12, ⟨Lc12, hQ12, l12, y12, z12⟩, st12⟩ := X11.specialBack hx (y := (⟨"com/example/tagwire/tagwire/core/FloatValue", "<init>", "(Lcom/example/tagwire/tagwire/core/FloatFormat;JJ)V"⟩ : MethodName)) rfl hown (mvT hZ (hw _ (List.mem_of_getElem? (i := 47) rfl))) (mvT hZ (hw _ (List.mem_of_getElem? (i := 48) rfl))) (mvT hZ (hw _ (List.mem_of_getElem? (i := 49) rfl))) (by decide) (backOf (W := 1) (rm11 l Z a0 hw [] b8 fo (f24 (((f22 xb sb) - (1 : Int32)) - (64 : Int32)) ((((f15 sb) + (f16 eb)) + (0 : Int32)) - (64 : Int32))) (f24 ((f22 xb sb) - (1 : Int32)) (((f15 sb) + (f16 eb)) + (0 : Int32))) h8 n0 Zs8 E_b8_8 F_format_b8_8 F_high_b8_8 F_low_b8_8 g_b8) hZ (hw _ (List.mem_of_getElem? (i := 49) rfl)) (hw _ (List.mem_of_getElem? (i := 32) rfl)) (by decide) (by decide)) (g := (mkF m 85 #[.val (.ref a1), .val (.int (f20 sb eb u2 u1 xb)), .val (.int ((f15 sb) + (f16 eb))), .val (.int ((f22 xb sb) - (1 : Int32))), .val (.int (((f15 sb) + (f16 eb)) + (0 : Int32)))] [(.long (f24 ((f22 xb sb) - (1 : Int32)) (((f15 sb) + (f16 eb)) + (0 : Int32)))), (.long (f24 (((f22 xb sb) - (1 : Int32)) - (64 : Int32)) ((((f15 sb) + (f16 eb)) + (0 : Int32)) - (64 : Int32)))), (.ref fo), (.ref b8), (.ref b8)])) rfl (by rw [hml]; rfl) (Steps.refl _) (a := b8) (argsL := [(.ref fo), (.long (f24 (((f22 xb sb) - (1 : Int32)) - (64 : Int32)) ((((f15 sb) + (f16 eb)) + (0 : Int32)) - (64 : Int32)))), (.long (f24 ((f22 xb sb) - (1 : Int32)) (((f15 sb) + (f16 eb)) + (0 : Int32))))]) (rest := [(.ref b8)]) (lenOf pd_5 rfl) rfl (by show 2 * 0 + _ ≤ _; exact Nat.le_of_eq rfl) (hb hby d19_85) (fun _ _ => ⟨rfl, e11, (by decide : 1 + 0 ≤ _), (by decide : 3 + 0 ≤ _)⟩)
  dsimp only [Pt.U, Pt.locs, Pt.cells, Pt.slots] at X12 l12 y12 z12 st12 hQ12
  subst l12 y12 z12
  obtain ⟨h12, e12⟩ : ∃ z, T12.heap = z := ⟨_, rfl⟩
  rw [e12] at hQ12
  obtain ⟨rfl, N12q, Kc12, E_b8_12q, F_format_b8_12q, F_high_b8_12q, F_low_b8_12q⟩ := hQ12
  have E_a1_12 : Exa Z h12 a1 "com/example/tagwire/tagwire/core/FloatValue" := E_a1_8.keep Kc12
  have F_format_a1_12 : Fld Z h12 a1 "com/example/tagwire/tagwire/core/FloatValue" "format" "Lcom/example/tagwire/tagwire/core/FloatFormat;" (.ref fo) := F_format_a1_8.keep Kc12 (ninS ne_a1_b8 nin0)
  have F_high_a1_12 : Fld Z h12 a1 "com/example/tagwire/tagwire/core/FloatValue" "high" "J" (.long u1) := F_high_a1_8.keep Kc12 (ninS ne_a1_b8 nin0)
  have F_low_a1_12 : Fld Z h12 a1 "com/example/tagwire/tagwire/core/FloatValue" "low" "J" (.long u2) := F_low_a1_8.keep Kc12 (ninS ne_a1_b8 nin0)
  have E_fo_12 : Exa Z h12 fo "com/example/tagwire/tagwire/core/FloatFormat" := E_fo_8.keep Kc12
  have F_significandBits_fo_12 : Fld Z h12 fo "com/example/tagwire/tagwire/core/FloatFormat" "significandBits" "I" (.int sb) := F_significandBits_fo_8.keep Kc12 (ninS ne_fo_b8 nin0)
  have F_exponentBits_fo_12 : Fld Z h12 fo "com/example/tagwire/tagwire/core/FloatFormat" "exponentBits" "I" (.int eb) := F_exponentBits_fo_8.keep Kc12 (ninS ne_fo_b8 nin0)
  have F_explicitIntegerBit_fo_12 : Fld Z h12 fo "com/example/tagwire/tagwire/core/FloatFormat" "explicitIntegerBit" "Z" (.int xb) := F_explicitIntegerBit_fo_8.keep Kc12 (ninS ne_fo_b8 nin0)
  have K12 := K8.trans Kc12 (allS (Or.inr sz_b8) all0)
  have Zs12 := Nat.le_trans Zs8 Kc12.1
  have E_b8_12 : Exa Z h12 b8 "com/example/tagwire/tagwire/core/FloatValue" := E_b8_12q
  have F_format_b8_12 : Fld Z h12 b8 "com/example/tagwire/tagwire/core/FloatValue" "format" "Lcom/example/tagwire/tagwire/core/FloatFormat;" (.ref fo) := F_format_b8_12q
  have F_high_b8_12 : Fld Z h12 b8 "com/example/tagwire/tagwire/core/FloatValue" "high" "J" (.long (f24 (((f22 xb sb) - (1 : Int32)) - (64 : Int32)) ((((f15 sb) + (f16 eb)) + (0 : Int32)) - (64 : Int32)))) := F_high_b8_12q
  have F_low_b8_12 : Fld Z h12 b8 "com/example/tagwire/tagwire/core/FloatValue" "low" "J" (.long (f24 ((f22 xb sb) - (1 : Int32)) (((f15 sb) + (f16 eb)) + (0 : Int32)))) := F_low_b8_12q
  have N12 := Fr.app N11 N12q
  obtain ⟨fs, hr, hrun, hended, hW, hsame⟩ := X12.leave (v := some (.ref b8)) (fun h => by rw [Bd.returns] at h; cases h)
  refine ⟨_, _, pre0 _ ?_, hrun, hended, _, _, rfl, ?_, ⟨_, rfl⟩, hW, hsame.mono (by decide) (by decide)⟩
  · show Steps p.tables e below (s₁.setTop (mkF m 0 #[.val (.ref a1), .unset, .unset, .unset, .unset] [])) _
    refine XS.aloadN X0.here hx rfl (hb hby d19_0) rfl rfl ?_
    show Steps p.tables e below (s₁.setTop (mkF m 1 #[.val (.ref a1), .unset, .unset, .unset, .unset] [(.ref a1)])) _
    refine st1.trans ?_
    show Steps p.tables e below (T1.setTop (mkF m 4 #[.val (.ref a1), .unset, .unset, .unset, .unset] [(.int (f20 sb eb u2 u1 xb))])) _
    refine XS.istoreN X1.here hx rfl (hb hby d19_4) rfl (l' := #[.val (.ref a1), .val (.int (f20 sb eb u2 u1 xb)), .unset, .unset, .unset]) rfl ?_
    show Steps p.tables e below (T1.setTop (mkF m 5 #[.val (.ref a1), .val (.int (f20 sb eb u2 u1 xb)), .unset, .unset, .unset] [])) _
    refine XS.aloadN X1.here hx rfl (hb hby d19_5) rfl rfl ?_
    show Steps p.tables e below (T1.setTop (mkF m 6 #[.val (.ref a1), .val (.int (f20 sb eb u2 u1 xb)), .unset, .unset, .unset] [(.ref a1)])) _
    refine st2 _ ?_
    show Steps p.tables e below (T2.setTop (mkF m 9 #[.val (.ref a1), .val (.int (f20 sb eb u2 u1 xb)), .unset, .unset, .unset] [(.ref fo)])) _
    refine st3.trans ?_
    show Steps p.tables e below (T3.setTop (mkF m 12 #[.val (.ref a1), .val (.int (f20 sb eb u2 u1 xb)), .unset, .unset, .unset] [(.int (f15 sb))])) _
    refine XS.aloadN X3.here hx rfl (hb hby d19_12) rfl rfl ?_
    show Steps p.tables e below (T3.setTop (mkF m 13 #[.val (.ref a1), .val (.int (f20 sb eb u2 u1 xb)), .unset, .unset, .unset] [(.ref a1), (.int (f15 sb))])) _
    refine st4 _ ?_
    show Steps p.tables e below (T4.setTop (mkF m 16 #[.val (.ref a1), .val (.int (f20 sb eb u2 u1 xb)), .unset, .unset, .unset] [(.ref fo), (.int (f15 sb))])) _
    refine st5.trans ?_
    show Steps p.tables e below (T5.setTop (mkF m 19 #[.val (.ref a1), .val (.int (f20 sb eb u2 u1 xb)), .unset, .unset, .unset] [(.int (f16 eb)), (.int (f15 sb))])) _
    refine XS.iadd X5.here hx rfl (hb hby d19_19) rfl ?_
    show Steps p.tables e below (T5.setTop (mkF m 20 #[.val (.ref a1), .val (.int (f20 sb eb u2 u1 xb)), .unset, .unset, .unset] [(.int ((f15 sb) + (f16 eb)))])) _
    refine XS.istoreN X5.here hx rfl (hb hby d19_20) rfl (l' := #[.val (.ref a1), .val (.int (f20 sb eb u2 u1 xb)), .val (.int ((f15 sb) + (f16 eb))), .unset, .unset]) rfl ?_
    show Steps p.tables e below (T5.setTop (mkF m 21 #[.val (.ref a1), .val (.int (f20 sb eb u2 u1 xb)), .val (.int ((f15 sb) + (f16 eb))), .unset, .unset] [])) _
    refine XS.aloadN X5.here hx rfl (hb hby d19_21) rfl rfl ?_
    show Steps p.tables e below (T5.setTop (mkF m 22 #[.val (.ref a1), .val (.int (f20 sb eb u2 u1 xb)), .val (.int ((f15 sb) + (f16 eb))), .unset, .unset] [(.ref a1)])) _
    refine st6 _ ?_
    show Steps p.tables e below (T6.setTop (mkF m 25 #[.val (.ref a1), .val (.int (f20 sb eb u2 u1 xb)), .val (.int ((f15 sb) + (f16 eb))), .unset, .unset] [(.ref fo)])) _
    refine st7.trans ?_
    show Steps p.tables e below (T7.setTop (mkF m 28 #[.val (.ref a1), .val (.int (f20 sb eb u2 u1 xb)), .val (.int ((f15 sb) + (f16 eb))), .unset, .unset] [(.int (f22 xb sb))])) _
    refine XS.iloadN X7.here hx rfl (hb hby d19_28) rfl ?_
    show Steps p.tables e below (T7.setTop (mkF m 29 #[.val (.ref a1), .val (.int (f20 sb eb u2 u1 xb)), .val (.int ((f15 sb) + (f16 eb))), .unset, .unset] [(.int (f20 sb eb u2 u1 xb)), (.int (f22 xb sb))])) _
    refine XS.ifNo X7.here hx rfl (hb hby d19_29) rfl ((if0 _ _).trans (feq hnan).1) ?_
    show Steps p.tables e below (T7.setTop (mkF m 32 #[.val (.ref a1), .val (.int (f20 sb eb u2 u1 xb)), .val (.int ((f15 sb) + (f16 eb))), .unset, .unset] [(.int (f22 xb sb))])) _
    refine XS.iconst X7.here hx rfl (hb hby d19_32) ?_
    show Steps p.tables e below (T7.setTop (mkF m 33 #[.val (.ref a1), .val (.int (f20 sb eb u2 u1 xb)), .val (.int ((f15 sb) + (f16 eb))), .unset, .unset] [(.int (1 : Int32)), (.int (f22 xb sb))])) _
    refine XS.goto X7.here hx rfl (pc0 := 33) (pc' := 37) rfl (hb hby d19_33) (by decide) (by decide) ?_
    show Steps p.tables e below (T7.setTop (mkF m 37 #[.val (.ref a1), .val (.int (f20 sb eb u2 u1 xb)), .val (.int ((f15 sb) + (f16 eb))), .unset, .unset] [(.int (1 : Int32)), (.int (f22 xb sb))])) _
    refine XS.isub X7.here hx rfl (hb hby d19_37) rfl ?_
    show Steps p.tables e below (T7.setTop (mkF m 38 #[.val (.ref a1), .val (.int (f20 sb eb u2 u1 xb)), .val (.int ((f15 sb) + (f16 eb))), .unset, .unset] [(.int ((f22 xb sb) - (1 : Int32)))])) _
    refine XS.istoreN X7.here hx rfl (hb hby d19_38) rfl (l' := #[.val (.ref a1), .val (.int (f20 sb eb u2 u1 xb)), .val (.int ((f15 sb) + (f16 eb))), .val (.int ((f22 xb sb) - (1 : Int32))), .unset]) rfl ?_
    show Steps p.tables e below (T7.setTop (mkF m 39 #[.val (.ref a1), .val (.int (f20 sb eb u2 u1 xb)), .val (.int ((f15 sb) + (f16 eb))), .val (.int ((f22 xb sb) - (1 : Int32))), .unset] [])) _
    refine XS.iloadN X7.here hx rfl (hb hby d19_39) rfl ?_
    show Steps p.tables e below (T7.setTop (mkF m 40 #[.val (.ref a1), .val (.int (f20 sb eb u2 u1 xb)), .val (.int ((f15 sb) + (f16 eb))), .val (.int ((f22 xb sb) - (1 : Int32))), .unset] [(.int ((f15 sb) + (f16 eb)))])) _
    refine XS.iloadN X7.here hx rfl (hb hby d19_40) rfl ?_
    show Steps p.tables e below (T7.setTop (mkF m 41 #[.val (.ref a1), .val (.int (f20 sb eb u2 u1 xb)), .val (.int ((f15 sb) + (f16 eb))), .val (.int ((f22 xb sb) - (1 : Int32))), .unset] [(.int (f20 sb eb u2 u1 xb)), (.int ((f15 sb) + (f16 eb)))])) _
    refine XS.ifYes X7.here hx rfl (pc0 := 41) (pc' := 55) rfl (hb hby d19_41) rfl ((if0 _ _).trans (feq hnan).2) (by decide) (by decide) ?_
    show Steps p.tables e below (T7.setTop (mkF m 55 #[.val (.ref a1), .val (.int (f20 sb eb u2 u1 xb)), .val (.int ((f15 sb) + (f16 eb))), .val (.int ((f22 xb sb) - (1 : Int32))), .unset] [(.int ((f15 sb) + (f16 eb)))])) _
    refine XS.iconst X7.here hx rfl (hb hby d19_55) ?_
    show Steps p.tables e below (T7.setTop (mkF m 56 #[.val (.ref a1), .val (.int (f20 sb eb u2 u1 xb)), .val (.int ((f15 sb) + (f16 eb))), .val (.int ((f22 xb sb) - (1 : Int32))), .unset] [(.int (0 : Int32)), (.int ((f15 sb) + (f16 eb)))])) _
    refine XS.iadd X7.here hx rfl (hb hby d19_56) rfl ?_
    show Steps p.tables e below (T7.setTop (mkF m 57 #[.val (.ref a1), .val (.int (f20 sb eb u2 u1 xb)), .val (.int ((f15 sb) + (f16 eb))), .val (.int ((f22 xb sb) - (1 : Int32))), .unset] [(.int (((f15 sb) + (f16 eb)) + (0 : Int32)))])) _
    refine XS.istore X7.here hx rfl (hb hby d19_57) rfl (l' := #[.val (.ref a1), .val (.int (f20 sb eb u2 u1 xb)), .val (.int ((f15 sb) + (f16 eb))), .val (.int ((f22 xb sb) - (1 : Int32))), .val (.int (((f15 sb) + (f16 eb)) + (0 : Int32)))]) rfl ?_
    show Steps p.tables e below (T7.setTop (mkF m 59 #[.val (.ref a1), .val (.int (f20 sb eb u2 u1 xb)), .val (.int ((f15 sb) + (f16 eb))), .val (.int ((f22 xb sb) - (1 : Int32))), .val (.int (((f15 sb) + (f16 eb)) + (0 : Int32)))] [])) _
    refine st8 _ ?_
    show Steps p.tables e below (T8.setTop (mkF m 62 #[.val (.ref a1), .val (.int (f20 sb eb u2 u1 xb)), .val (.int ((f15 sb) + (f16 eb))), .val (.int ((f22 xb sb) - (1 : Int32))), .val (.int (((f15 sb) + (f16 eb)) + (0 : Int32)))] [(.ref b8)])) _
    refine XS.dup X8.here hx rfl (hb hby d19_62) rfl rfl ?_
    show Steps p.tables e below (T8.setTop (mkF m 63 #[.val (.ref a1), .val (.int (f20 sb eb u2 u1 xb)), .val (.int ((f15 sb) + (f16 eb))), .val (.int ((f22 xb sb) - (1 : Int32))), .val (.int (((f15 sb) + (f16 eb)) + (0 : Int32)))] [(.ref b8), (.ref b8)])) _
    refine XS.aloadN X8.here hx rfl (hb hby d19_63) rfl rfl ?_
    show Steps p.tables e below (T8.setTop (mkF m 64 #[.val (.ref a1), .val (.int (f20 sb eb u2 u1 xb)), .val (.int ((f15 sb) + (f16 eb))), .val (.int ((f22 xb sb) - (1 : Int32))), .val (.int (((f15 sb) + (f16 eb)) + (0 : Int32)))] [(.ref a1), (.ref b8), (.ref b8)])) _
    refine st9 _ ?_
    show Steps p.tables e below (T9.setTop (mkF m 67 #[.val (.ref a1), .val (.int (f20 sb eb u2 u1 xb)), .val (.int ((f15 sb) + (f16 eb))), .val (.int ((f22 xb sb) - (1 : Int32))), .val (.int (((f15 sb) + (f16 eb)) + (0 : Int32)))] [(.ref fo), (.ref b8), (.ref b8)])) _
    refine XS.iloadN X9.here hx rfl (hb hby d19_67) rfl ?_
    show Steps p.tables e below (T9.setTop (mkF m 68 #[.val (.ref a1), .val (.int (f20 sb eb u2 u1 xb)), .val (.int ((f15 sb) + (f16 eb))), .val (.int ((f22 xb sb) - (1 : Int32))), .val (.int (((f15 sb) + (f16 eb)) + (0 : Int32)))] [(.int ((f22 xb sb) - (1 : Int32))), (.ref fo), (.ref b8), (.ref b8)])) _
    refine XS.bipush X9.here hx rfl (hb hby d19_68) ?_
    show Steps p.tables e below (T9.setTop (mkF m 70 #[.val (.ref a1), .val (.int (f20 sb eb u2 u1 xb)), .val (.int ((f15 sb) + (f16 eb))), .val (.int ((f22 xb sb) - (1 : Int32))), .val (.int (((f15 sb) + (f16 eb)) + (0 : Int32)))] [(.int (64 : Int32)), (.int ((f22 xb sb) - (1 : Int32))), (.ref fo), (.ref b8), (.ref b8)])) _
    refine XS.isub X9.here hx rfl (hb hby d19_70) rfl ?_
    show Steps p.tables e below (T9.setTop (mkF m 71 #[.val (.ref a1), .val (.int (f20 sb eb u2 u1 xb)), .val (.int ((f15 sb) + (f16 eb))), .val (.int ((f22 xb sb) - (1 : Int32))), .val (.int (((f15 sb) + (f16 eb)) + (0 : Int32)))] [(.int (((f22 xb sb) - (1 : Int32)) - (64 : Int32))), (.ref fo), (.ref b8), (.ref b8)])) _
    refine XS.iload X9.here hx rfl (hb hby d19_71) rfl ?_
    show Steps p.tables e below (T9.setTop (mkF m 73 #[.val (.ref a1), .val (.int (f20 sb eb u2 u1 xb)), .val (.int ((f15 sb) + (f16 eb))), .val (.int ((f22 xb sb) - (1 : Int32))), .val (.int (((f15 sb) + (f16 eb)) + (0 : Int32)))] [(.int (((f15 sb) + (f16 eb)) + (0 : Int32))), (.int (((f22 xb sb) - (1 : Int32)) - (64 : Int32))), (.ref fo), (.ref b8), (.ref b8)])) _
    refine XS.bipush X9.here hx rfl (hb hby d19_73) ?_
    show Steps p.tables e below (T9.setTop (mkF m 75 #[.val (.ref a1), .val (.int (f20 sb eb u2 u1 xb)), .val (.int ((f15 sb) + (f16 eb))), .val (.int ((f22 xb sb) - (1 : Int32))), .val (.int (((f15 sb) + (f16 eb)) + (0 : Int32)))] [(.int (64 : Int32)), (.int (((f15 sb) + (f16 eb)) + (0 : Int32))), (.int (((f22 xb sb) - (1 : Int32)) - (64 : Int32))), (.ref fo), (.ref b8), (.ref b8)])) _
    refine XS.isub X9.here hx rfl (hb hby d19_75) rfl ?_
    show Steps p.tables e below (T9.setTop (mkF m 76 #[.val (.ref a1), .val (.int (f20 sb eb u2 u1 xb)), .val (.int ((f15 sb) + (f16 eb))), .val (.int ((f22 xb sb) - (1 : Int32))), .val (.int (((f15 sb) + (f16 eb)) + (0 : Int32)))] [(.int ((((f15 sb) + (f16 eb)) + (0 : Int32)) - (64 : Int32))), (.int (((f22 xb sb) - (1 : Int32)) - (64 : Int32))), (.ref fo), (.ref b8), (.ref b8)])) _
    refine st10 _ ?_
    show Steps p.tables e below (T10.setTop (mkF m 79 #[.val (.ref a1), .val (.int (f20 sb eb u2 u1 xb)), .val (.int ((f15 sb) + (f16 eb))), .val (.int ((f22 xb sb) - (1 : Int32))), .val (.int (((f15 sb) + (f16 eb)) + (0 : Int32)))] [(.long (f24 (((f22 xb sb) - (1 : Int32)) - (64 : Int32)) ((((f15 sb) + (f16 eb)) + (0 : Int32)) - (64 : Int32)))), (.ref fo), (.ref b8), (.ref b8)])) _
    refine XS.iloadN X10.here hx rfl (hb hby d19_79) rfl ?_
    show Steps p.tables e below (T10.setTop (mkF m 80 #[.val (.ref a1), .val (.int (f20 sb eb u2 u1 xb)), .val (.int ((f15 sb) + (f16 eb))), .val (.int ((f22 xb sb) - (1 : Int32))), .val (.int (((f15 sb) + (f16 eb)) + (0 : Int32)))] [(.int ((f22 xb sb) - (1 : Int32))), (.long (f24 (((f22 xb sb) - (1 : Int32)) - (64 : Int32)) ((((f15 sb) + (f16 eb)) + (0 : Int32)) - (64 : Int32)))), (.ref fo), (.ref b8), (.ref b8)])) _
    refine XS.iload X10.here hx rfl (hb hby d19_80) rfl ?_
    show Steps p.tables e below (T10.setTop (mkF m 82 #[.val (.ref a1), .val (.int (f20 sb eb u2 u1 xb)), .val (.int ((f15 sb) + (f16 eb))), .val (.int ((f22 xb sb) - (1 : Int32))), .val (.int (((f15 sb) + (f16 eb)) + (0 : Int32)))] [(.int (((f15 sb) + (f16 eb)) + (0 : Int32))), (.int ((f22 xb sb) - (1 : Int32))), (.long (f24 (((f22 xb sb) - (1 : Int32)) - (64 : Int32)) ((((f15 sb) + (f16 eb)) + (0 : Int32)) - (64 : Int32)))), (.ref fo), (.ref b8), (.ref b8)])) _
    refine st11 _ ?_
    show Steps p.tables e below (T11.setTop (mkF m 85 #[.val (.ref a1), .val (.int (f20 sb eb u2 u1 xb)), .val (.int ((f15 sb) + (f16 eb))), .val (.int ((f22 xb sb) - (1 : Int32))), .val (.int (((f15 sb) + (f16 eb)) + (0 : Int32)))] [(.long (f24 ((f22 xb sb) - (1 : Int32)) (((f15 sb) + (f16 eb)) + (0 : Int32)))), (.long (f24 (((f22 xb sb) - (1 : Int32)) - (64 : Int32)) ((((f15 sb) + (f16 eb)) + (0 : Int32)) - (64 : Int32)))), (.ref fo), (.ref b8), (.ref b8)])) _
    refine st12.trans ?_
    show Steps p.tables e below (T12.setTop (mkF m 88 #[.val (.ref a1), .val (.int (f20 sb eb u2 u1 xb)), .val (.int ((f15 sb) + (f16 eb))), .val (.int ((f22 xb sb) - (1 : Int32))), .val (.int (((f15 sb) + (f16 eb)) + (0 : Int32)))] [(.ref b8)])) _
    jvm_step X12.here [X12.here.top, hx, (hb hby d19_88), X12.method', Bd.returns, Value.isRef, FieldType.isReference]
    first | (intro acts; rw [hr _ acts rfl rfl rfl]) | rw [hr _ _ rfl rfl rfl]
    exact Steps.refl _
  · show Q19 Z a1 fo u1 u2 sb eb xb h0 n0 _ T12.heap _
    rw [e12]
    exact ⟨b8, rfl, N12, K12, sz_b8, E_b8_12, F_format_b8_12, F_high_b8_12, F_low_b8_12⟩
theorem pd_6 : parseMethodDescriptor "()Lcom/example/tagwire/tagwire/core/FloatValue;" = some ⟨[], some (.object "com/example/tagwire/tagwire/core/FloatValue")⟩ := by decide +kernel
theorem d8_0 : decode prog_14_method_3_code 0 = .ok (.aload_n 0, 1) := by decide +kernel
theorem d8_1 : decode prog_14_method_3_code 1 = .ok (.invokevirtual 34, 3) := by decide +kernel
theorem d8_4 : decode prog_14_method_3_code 4 = .ok (.bipush 8, 2) := by decide +kernel
theorem d8_6 : decode prog_14_method_3_code 6 = .ok (.imul, 1) := by decide +kernel
theorem d8_7 : decode prog_14_method_3_code 7 = .ok (.istore 5, 2) := by decide +kernel
theorem d8_9 : decode prog_14_method_3_code 9 = .ok (.lload_n 1, 1) := by decide +kernel
theorem d8_10 : decode prog_14_method_3_code 10 = .ok (.iload 5, 2) := by decide +kernel
theorem d8_12 : decode prog_14_method_3_code 12 = .ok (.bipush 64, 2) := by decide +kernel
theorem d8_14 : decode prog_14_method_3_code 14 = .ok (.isub, 1) := by decide +kernel
theorem d8_15 : decode prog_14_method_3_code 15 = .ok (.invokestatic 42, 3) := by decide +kernel
theorem d8_18 : decode prog_14_method_3_code 18 = .ok (.ldc2_w 46, 3) := by decide +kernel
theorem d8_21 : decode prog_14_method_3_code 21 = .ok (.lxor, 1) := by decide +kernel
theorem d8_22 : decode prog_14_method_3_code 22 = .ok (.land, 1) := by decide +kernel
theorem d8_23 : decode prog_14_method_3_code 23 = .ok (.lconst 0, 1) := by decide +kernel
theorem d8_24 : decode prog_14_method_3_code 24 = .ok (.lcmp, 1) := by decide +kernel
theorem d8_25 : decode prog_14_method_3_code 25 = .ok (.ifCond .ne 19, 3) := by decide +kernel
theorem d8_28 : decode prog_14_method_3_code 28 = .ok (.lload_n 3, 1) := by decide +kernel
theorem d8_29 : decode prog_14_method_3_code 29 = .ok (.iload 5, 2) := by decide +kernel
theorem d8_31 : decode prog_14_method_3_code 31 = .ok (.invokestatic 42, 3) := by decide +kernel
theorem d8_34 : decode prog_14_method_3_code 34 = .ok (.ldc2_w 46, 3) := by decide +kernel
theorem d8_37 : decode prog_14_method_3_code 37 = .ok (.lxor, 1) := by decide +kernel
theorem d8_38 : decode prog_14_method_3_code 38 = .ok (.land, 1) := by decide +kernel
theorem d8_39 : decode prog_14_method_3_code 39 = .ok (.lconst 0, 1) := by decide +kernel
theorem d8_40 : decode prog_14_method_3_code 40 = .ok (.lcmp, 1) := by decide +kernel
theorem d8_41 : decode prog_14_method_3_code 41 = .ok (.ifCond .eq 22, 3) := by decide +kernel
theorem d8_63 : decode prog_14_method_3_code 63 = .ok (.new 3, 3) := by decide +kernel
theorem d8_66 : decode prog_14_method_3_code 66 = .ok (.dup, 1) := by decide +kernel
theorem d8_67 : decode prog_14_method_3_code 67 = .ok (.aload_n 0, 1) := by decide +kernel
theorem d8_68 : decode prog_14_method_3_code 68 = .ok (.lload_n 1, 1) := by decide +kernel
theorem d8_69 : decode prog_14_method_3_code 69 = .ok (.lload_n 3, 1) := by decide +kernel
theorem d8_70 : decode prog_14_method_3_code 70 = .ok (.invokespecial 15, 3) := by decide +kernel
theorem d8_73 : decode prog_14_method_3_code 73 = .ok (.astore 6, 2) := by decide +kernel
theorem d8_75 : decode prog_14_method_3_code 75 = .ok (.aload 6, 2) := by decide +kernel
theorem d8_77 : decode prog_14_method_3_code 77 = .ok (.invokevirtual 63, 3) := by decide +kernel
theorem d8_80 : decode prog_14_method_3_code 80 = .ok (.ifCond .eq 6, 3) := by decide +kernel
theorem d8_83 : decode prog_14_method_3_code 83 = .ok (.aload 6, 2) := by decide +kernel
theorem d8_85 : decode prog_14_method_3_code 85 = .ok (.areturn, 1) := by decide +kernel
theorem d8_86 : decode prog_14_method_3_code 86 = .ok (.aload 6, 2) := by decide +kernel
theorem d8_88 : decode prog_14_method_3_code 88 = .ok (.invokevirtual 67, 3) := by decide +kernel
theorem d8_91 : decode prog_14_method_3_code 91 = .ok (.areturn, 1) := by decide +kernel
theorem pn_8 : plainName "com/example/tagwire/tagwire/core/FloatValue" = true := by first | (simp [plainName, overriddenIn]; done) | decide +kernel
theorem ef_8 (m : MethodId) (a1 : Addr) (q2 : Int64) (q3 : Int64) : entryFrame m #[(.ref a1), (.long q2), (.long q3)] 7 = mkF m 0 #[.val (.ref a1), .val (.long q2), .second, .val (.long q3), .second, .unset, .unset] [] := by first | (simp [entryFrame, mkF, argsToLocals, Value.category]; done) | rfl
def Q8 (Z : State) (a1 : Addr) (q2 : Int64) (q3 : Int64) (by_ : Int32) (sb : Int32) (eb : Int32) (xb : Int32) (h0 : Heap) (n0 : Nat) (v : Option Value) (h : Heap) (L : List Loc) : Prop := ∃ (b : Addr), v = some (.ref b) ∧ Fr n0 L ∧ Keep h0 h ([] : List Addr) ∧ h0.size ≤ b ∧ Exa Z h b "com/example/tagwire/tagwire/core/FloatValue" ∧ Fld Z h b "com/example/tagwire/tagwire/core/FloatValue" "format" "Lcom/example/tagwire/tagwire/core/FloatFormat;" (.ref a1) ∧ Fld Z h b "com/example/tagwire/tagwire/core/FloatValue" "high" "J" (.long (if (f13 sb eb q3 q2) = (0 : Int32) then (f24 (((f22 xb sb) - (1 : Int32)) - (64 : Int32)) ((((f15 sb) + (f16 eb)) + (0 : Int32)) - (64 : Int32))) else q2)) ∧ Fld Z h b "com/example/tagwire/tagwire/core/FloatValue" "low" "J" (.long (if (f13 sb eb q3 q2) = (0 : Int32) then (f24 ((f22 xb sb) - (1 : Int32)) (((f15 sb) + (f16 eb)) + (0 : Int32))) else q3))
set_option maxRecDepth 65536 in
set_option maxHeartbeats 40000000 in
theorem rm8 (l : Launch) (Z : State) (a0 : Array Value) (hw : ∀ d ∈ tables_1, d.before a0 Z = true) (ws : List Jvm.Cond) (a1 : Addr) (q2 : Int64) (q3 : Int64) (by_ : Int32) (sb : Int32) (eb : Int32) (xb : Int32) (h0 : Heap) (n0 : Nat) (Z0 : n0 ≤ h0.size) (E_a1 : Exa Z h0 a1 "com/example/tagwire/tagwire/core/FloatFormat") (F_bytes_a1 : Fld Z h0 a1 "com/example/tagwire/tagwire/core/FloatFormat" "bytes" "I" (.int by_)) (F_significandBits_a1 : Fld Z h0 a1 "com/example/tagwire/tagwire/core/FloatFormat" "significandBits" "I" (.int sb)) (F_exponentBits_a1 : Fld Z h0 a1 "com/example/tagwire/tagwire/core/FloatFormat" "exponentBits" "I" (.int eb)) (F_explicitIntegerBit_a1 : Fld Z h0 a1 "com/example/tagwire/tagwire/core/FloatFormat" "explicitIntegerBit" "Z" (.int xb)) (h25 : (q2 &&& ((f10 (((f9 by_) * (8 : Int32)) - (64 : Int32))) ^^^ (-1 : Int64))) = (0 : Int64)) (h41 : (q3 &&& ((f10 ((f9 by_) * (8 : Int32))) ^^^ (-1 : Int64))) = (0 : Int64)) (hnn : (f13 sb eb q3 q2) = (0 : Int32) → ¬ (f20 sb eb q3 q2 xb) = (0 : Int32)) :
    MetFree l (⟨"com/example/tagwire/tagwire/core/FloatValue", "ofBits", "(Lcom/example/tagwire/tagwire/core/FloatFormat;JJ)Lcom/example/tagwire/tagwire/core/FloatValue;"⟩ : MethodName) (head1 (Jvm.Cond.code (⟨"com/example/tagwire/tagwire/core/FloatValue", "ofBits", "(Lcom/example/tagwire/tagwire/core/FloatFormat;JJ)Lcom/example/tagwire/tagwire/core/FloatValue;"⟩ : MethodName) prog_14_method_3_code 7 (some (.object "com/example/tagwire/tagwire/core/FloatValue")) :: ws) ({ frames := 6, cells := 2, slots := 6, locals := 82 } : Room)) (fun a U => a = #[(.ref a1), (.long q2), (.long q3)] ∧ Z.Warmed39 U.vm ∧ U.heap = h0) (fun _ _ _ _ _ => True) (fun _ U o U' => ∃ v L, o = .returned v ∧ Q8 Z a1 q2 q3 by_ sb eb xb h0 n0 v U'.heap L ∧ FrameEnd U o U' L ({ frames := 6, cells := 2, slots := 6, locals := 82 } : Room).cells ({ frames := 6, cells := 2, slots := 6, locals := 82 } : Room).slots) := by
  refine MetFree.of_bodySF (plainFor_of_name pn_8) hisR ?_
  intro p e s m args below meth c s₁ Bd hml0 hP hK
  obtain ⟨rfl, hZ, hh⟩ := hP
  have hx := Bd.exec
  have hby := Bd.bytes
  have hml : c.maxLocals = 7 := hml0
  have hown : s.vm.findClass "com/example/tagwire/tagwire/core/FloatValue" = some m.cls := findClass_of_methodNamed Bd.named
  have hnm := (name_of_methodNamed Bd.named Bd.method).1
  have X0 : Stand p l e ({ frames := 6, cells := 2, slots := 6, locals := 82 } : Room) s m #[(.ref a1), (.long q2), (.long q3)] below meth c s₁ [] 0 0 := Stand.of_body Bd
  have e0 : s₁.heap = h0 := by rw [← hh, Bd.state]; rfl
  have N0 := Fr.nil n0
  have pre0 : ∀ t, Steps p.tables e below (s₁.setTop (mkF m 0 #[.val (.ref a1), .val (.long q2), .second, .val (.long q3), .second, .unset, .unset] [])) t → Steps p.tables e below (s₁.setTop (entryFrame m #[(.ref a1), (.long q2), (.long q3)] 7)) t := fun t k => castTop (ef_8 m a1 q2 q3) k
  have K0 := Keep.refl h0 ([] : List Addr)
  obtain ⟨cq1, kq1, q1a, q1b, q1c⟩ := isOf hZ e0 E_a1
  obtain ⟨_, _, ⟨T1, L1, k1, n1⟩, -, X1, ⟨Lc1, hQ1, l1, y1, z1⟩, st1⟩ := X0.virtualBack hx (y := (⟨"com/example/tagwire/tagwire/core/FloatFormat", "bytes", "()I"⟩ : MethodName)) (z := (⟨"com/example/tagwire/tagwire/core/FloatFormat", "bytes", "()I"⟩ : MethodName)) hown (mvT hZ (hw _ (List.mem_of_getElem? (i := 34) rfl))) (mvT hZ (hw _ (List.mem_of_getElem? (i := 35) rfl))) (notFace_of_selects (args := #[]) (mvT hZ (hw _ (List.mem_of_getElem? (i := 37) rfl)))) (mvT hZ (hw _ (List.mem_of_getElem? (i := 37) rfl))) (mvT hZ (hw _ (List.mem_of_getElem? (i := 36) rfl))) (by decide) (backOf (W := 0) (rm9 l Z a0 hw [] a1 by_ h0 n0 Z0 F_bytes_a1) hZ (hw _ (List.mem_of_getElem? (i := 38) rfl)) (hw _ (List.mem_of_getElem? (i := 28) rfl)) (by decide) (by decide)) q1a q1c (g := (mkF m 1 #[.val (.ref a1), .val (.long q2), .second, .val (.long q3), .second, .unset, .unset] [(.ref a1)])) rfl (by rw [hml]; rfl) (Steps.refl _) (argsL := []) (rest := []) (lenOf pd_1 rfl) rfl (by show 2 * 0 + _ ≤ _; exact Nat.le_of_eq rfl) (hb hby d8_1) (fun _ _ => ⟨rfl, e0, (by decide : 0 + 0 ≤ _), (by decide : 0 + 0 ≤ _)⟩)
  dsimp only [Pt.U, Pt.locs, Pt.cells, Pt.slots] at X1 l1 y1 z1 st1 hQ1
  subst l1 y1 z1
  obtain ⟨rfl, N1q, e1⟩ := hQ1
  have N1 := Fr.app N0 N1q
  obtain ⟨_, _, ⟨T2, L2, k2, n2⟩, -, X2, ⟨Lc2, hQ2, l2, y2, z2⟩, st2⟩ := Jvm.LawKit.callS X1 hx (y := (⟨"com/example/tagwire/tagwire/core/FloatValue", "mask", "(I)J"⟩ : MethodName)) hown (mvT hZ (hw _ (List.mem_of_getElem? (i := 41) rfl))) (mvT hZ (hw _ (List.mem_of_getElem? (i := 42) rfl))) (mvT hZ (hw _ (List.mem_of_getElem? (i := 32) rfl))) (mvT hZ (hw _ (List.mem_of_getElem? (i := 43) rfl))) (by decide) (backOf (W := 2) (rm10 l Z a0 hw [] (((f9 by_) * (8 : Int32)) - (64 : Int32)) h0 n0 Z0) hZ (hw _ (List.mem_of_getElem? (i := 43) rfl)) (hw _ (List.mem_of_getElem? (i := 32) rfl)) (by decide) (by decide)) (g := (mkF m 15 #[.val (.ref a1), .val (.long q2), .second, .val (.long q3), .second, .val (.int ((f9 by_) * (8 : Int32))), .unset] [(.int (((f9 by_) * (8 : Int32)) - (64 : Int32))), (.long q2)])) rfl (by rw [hml]; rfl) (argsL := [(.int (((f9 by_) * (8 : Int32)) - (64 : Int32)))]) (rest := [(.long q2)]) (lenOf pd_0 rfl) rfl (by show 2 * 0 + _ ≤ _; exact Nat.le_of_eq rfl) (hb hby d8_15) (fun _ _ => ⟨rfl, e1, (by decide : 0 + 0 ≤ _), (by decide : 0 + 0 ≤ _)⟩)
  dsimp only [Pt.U, Pt.locs, Pt.cells, Pt.slots] at X2 l2 y2 z2 st2 hQ2
  subst l2 y2 z2
  obtain ⟨rfl, N2q, e2⟩ := hQ2
  have N2 := Fr.app N1 N2q
  obtain ⟨_, _, ⟨T3, L3, k3, n3⟩, -, X3, ⟨Lc3, hQ3, l3, y3, z3⟩, st3⟩ := Jvm.LawKit.callS X2 hx (y := (⟨"com/example/tagwire/tagwire/core/FloatValue", "mask", "(I)J"⟩ : MethodName)) hown (mvT hZ (hw _ (List.mem_of_getElem? (i := 41) rfl))) (mvT hZ (hw _ (List.mem_of_getElem? (i := 42) rfl))) (mvT hZ (hw _ (List.mem_of_getElem? (i := 32) rfl))) (mvT hZ (hw _ (List.mem_of_getElem? (i := 43) rfl))) (by decide) (backOf (W := 2) (rm10 l Z a0 hw [] ((f9 by_) * (8 : Int32)) h0 n0 Z0) hZ (hw _ (List.mem_of_getElem? (i := 43) rfl)) (hw _ (List.mem_of_getElem? (i := 32) rfl)) (by decide) (by decide)) (g := (mkF m 31 #[.val (.ref a1), .val (.long q2), .second, .val (.long q3), .second, .val (.int ((f9 by_) * (8 : Int32))), .unset] [(.int ((f9 by_) * (8 : Int32))), (.long q3)])) rfl (by rw [hml]; rfl) (argsL := [(.int ((f9 by_) * (8 : Int32)))]) (rest := [(.long q3)]) (lenOf pd_0 rfl) rfl (by show 2 * 0 + _ ≤ _; exact Nat.le_of_eq rfl) (hb hby d8_31) (fun _ _ => ⟨rfl, e2, (by decide : 0 + 0 ≤ _), (by decide : 0 + 0 ≤ _)⟩)
  dsimp only [Pt.U, Pt.locs, Pt.cells, Pt.slots] at X3 l3 y3 z3 st3 hQ3
  subst l3 y3 z3
  obtain ⟨rfl, N3q, e3⟩ := hQ3
  have N3 := Fr.app N2 N3q
  obtain ⟨T4, h4, X4, e4, E4, Ax4, D4, -, st4⟩ := newO X3 hx hZ hown (hw _ (List.mem_of_getElem? (i := 45) rfl)) (hw _ (List.mem_of_getElem? (i := 46) rfl)) (hw _ (List.mem_of_getElem? (i := 32) rfl)) e3 (g := (mkF m 63 #[.val (.ref a1), .val (.long q2), .second, .val (.long q3), .second, .val (.int ((f9 by_) * (8 : Int32))), .unset] [])) rfl (hb hby d8_63) (by decide) (by decide)
  obtain ⟨b4, g4⟩ : ∃ z, z = h0.size := ⟨_, rfl⟩
  rw [← g4] at Ax4 D4 st4
  have ne_a1_b4 : a1 ≠ b4 := Nat.ne_of_lt (Nat.lt_of_lt_of_le E_a1.lt (Nat.le_of_eq g4.symm))
  have g_b4 : n0 ≤ b4 := Nat.le_trans Z0 (Nat.le_of_eq g4.symm)
  have sz_b4 : h0.size ≤ b4 := Nat.le_trans K0.1 (Nat.le_of_eq g4.symm)
  have E_a1_4 : Exa Z h4 a1 "com/example/tagwire/tagwire/core/FloatFormat" := E_a1.ext E4
  have F_bytes_a1_4 : Fld Z h4 a1 "com/example/tagwire/tagwire/core/FloatFormat" "bytes" "I" (.int by_) := F_bytes_a1.ext E4
  have F_significandBits_a1_4 : Fld Z h4 a1 "com/example/tagwire/tagwire/core/FloatFormat" "significandBits" "I" (.int sb) := F_significandBits_a1.ext E4
  have F_exponentBits_a1_4 : Fld Z h4 a1 "com/example/tagwire/tagwire/core/FloatFormat" "exponentBits" "I" (.int eb) := F_exponentBits_a1.ext E4
  have F_explicitIntegerBit_a1_4 : Fld Z h4 a1 "com/example/tagwire/tagwire/core/FloatFormat" "explicitIntegerBit" "Z" (.int xb) := F_explicitIntegerBit_a1.ext E4
  have K4 := K0.ext E4
  have Zs4 := Nat.le_trans Z0 E4.1
  have E_b4_4 : Exa Z h4 b4 "com/example/tagwire/tagwire/core/FloatValue" := Ax4
  have F_format_b4_4 : Fld Z h4 b4 "com/example/tagwire/tagwire/core/FloatValue" "format" "Lcom/example/tagwire/tagwire/core/FloatFormat;" .null := D4 (Or.inr (hw _ (List.mem_of_getElem? (i := 54) rfl))) (ty := (.object "com/example/tagwire/tagwire/core/FloatFormat")) (by decide)
  have F_high_b4_4 : Fld Z h4 b4 "com/example/tagwire/tagwire/core/FloatValue" "high" "J" (.long (0 : Int64)) := D4 (Or.inr (hw _ (List.mem_of_getElem? (i := 56) rfl))) (ty := .long) (by decide)
  have F_low_b4_4 : Fld Z h4 b4 "com/example/tagwire/tagwire/core/FloatValue" "low" "J" (.long (0 : Int64)) := D4 (Or.inr (hw _ (List.mem_of_getElem? (i := 58) rfl))) (ty := .long) (by decide)
  obtain ⟨_, _, ⟨T5, L5, k5, n5⟩, -, X5, ⟨Lc5, hQ5, l5, y5, z5⟩, st5⟩ := X4.specialBack hx (y := (⟨"com/example/tagwire/tagwire/core/FloatValue", "<init>", "(Lcom/example/tagwire/tagwire/core/FloatFormat;JJ)V"⟩ : MethodName)) rfl hown (mvT hZ (hw _ (List.mem_of_getElem? (i := 47) rfl))) (mvT hZ (hw _ (List.mem_of_getElem? (i := 48) rfl))) (mvT hZ (hw _ (List.mem_of_getElem? (i := 49) rfl))) (by decide) (backOf (W := 1) (rm11 l Z a0 hw [] b4 a1 q2 q3 h4 n0 Zs4 E_b4_4 F_format_b4_4 F_high_b4_4 F_low_b4_4 g_b4) hZ (hw _ (List.mem_of_getElem? (i := 49) rfl)) (hw _ (List.mem_of_getElem? (i := 32) rfl)) (by decide) (by decide)) (g := (mkF m 70 #[.val (.ref a1), .val (.long q2), .second, .val (.long q3), .second, .val (.int ((f9 by_) * (8 : Int32))), .unset] [(.long q3), (.long q2), (.ref a1), (.ref b4), (.ref b4)])) rfl (by rw [hml]; rfl) (Steps.refl _) (a := b4) (argsL := [(.ref a1), (.long q2), (.long q3)]) (rest := [(.ref b4)]) (lenOf pd_5 rfl) rfl (by show 2 * 0 + _ ≤ _; exact Nat.le_of_eq rfl) (hb hby d8_70) (fun _ _ => ⟨rfl, e4, (by decide : 1 + 0 ≤ _), (by decide : 3 + 0 ≤ _)⟩)
  dsimp only [Pt.U, Pt.locs, Pt.cells, Pt.slots] at X5 l5 y5 z5 st5 hQ5
  subst l5 y5 z5
  obtain ⟨h5, e5⟩ : ∃ z, T5.heap = z := ⟨_, rfl⟩
  rw [e5] at hQ5
  obtain ⟨rfl, N5q, Kc5, E_b4_5q, F_format_b4_5q, F_high_b4_5q, F_low_b4_5q⟩ := hQ5
  have E_a1_5 : Exa Z h5 a1 "com/example/tagwire/tagwire/core/FloatFormat" := E_a1_4.keep Kc5
  have F_bytes_a1_5 : Fld Z h5 a1 "com/example/tagwire/tagwire/core/FloatFormat" "bytes" "I" (.int by_) := F_bytes_a1_4.keep Kc5 (ninS ne_a1_b4 nin0)
  have F_significandBits_a1_5 : Fld Z h5 a1 "com/example/tagwire/tagwire/core/FloatFormat" "significandBits" "I" (.int sb) := F_significandBits_a1_4.keep Kc5 (ninS ne_a1_b4 nin0)
  have F_exponentBits_a1_5 : Fld Z h5 a1 "com/example/tagwire/tagwire/core/FloatFormat" "exponentBits" "I" (.int eb) := F_exponentBits_a1_4.keep Kc5 (ninS ne_a1_b4 nin0)
  have F_explicitIntegerBit_a1_5 : Fld Z h5 a1 "com/example/tagwire/tagwire/core/FloatFormat" "explicitIntegerBit" "Z" (.int xb) := F_explicitIntegerBit_a1_4.keep Kc5 (ninS ne_a1_b4 nin0)
  have K5 := K4.trans Kc5 (allS (Or.inr sz_b4) all0)
  have Zs5 := Nat.le_trans Zs4 Kc5.1
  have E_b4_5 : Exa Z h5 b4 "com/example/tagwire/tagwire/core/FloatValue" := E_b4_5q
  have F_format_b4_5 : Fld Z h5 b4 "com/example/tagwire/tagwire/core/FloatValue" "format" "Lcom/example/tagwire/tagwire/core/FloatFormat;" (.ref a1) := F_format_b4_5q
  have F_high_b4_5 : Fld Z h5 b4 "com/example/tagwire/tagwire/core/FloatValue" "high" "J" (.long q2) := F_high_b4_5q
  have F_low_b4_5 : Fld Z h5 b4 "com/example/tagwire/tagwire/core/FloatValue" "low" "J" (.long q3) := F_low_b4_5q
  have N5 := Fr.app N3 N5q
  obtain ⟨cq6, kq6, q6a, q6b, q6c⟩ := isOf hZ e5 E_b4_5
  obtain ⟨_, _, ⟨T6, L6, k6, n6⟩, -, X6, ⟨Lc6, hQ6, l6, y6, z6⟩, st6⟩ := X5.virtualBack hx (y := (⟨"com/example/tagwire/tagwire/core/FloatValue", "isFinite", "()Z"⟩ : MethodName)) (z := (⟨"com/example/tagwire/tagwire/core/FloatValue", "isFinite", "()Z"⟩ : MethodName)) hown (mvT hZ (hw _ (List.mem_of_getElem? (i := 59) rfl))) (mvT hZ (hw _ (List.mem_of_getElem? (i := 60) rfl))) (notFace_of_selects (args := #[]) (mvT hZ (hw _ (List.mem_of_getElem? (i := 62) rfl)))) (mvT hZ (hw _ (List.mem_of_getElem? (i := 62) rfl))) (mvT hZ (hw _ (List.mem_of_getElem? (i := 61) rfl))) (by decide) (backOf (W := 0) (rm13 l Z a0 hw [] b4 a1 sb eb q3 q2 h5 n0 Zs5 F_format_b4_5 F_significandBits_a1_5 E_a1_5 F_exponentBits_a1_5 F_low_b4_5 F_high_b4_5 E_b4_5) hZ (hw _ (List.mem_of_getElem? (i := 63) rfl)) (hw _ (List.mem_of_getElem? (i := 32) rfl)) (by decide) (by decide)) q6a q6c (g := (mkF m 77 #[.val (.ref a1), .val (.long q2), .second, .val (.long q3), .second, .val (.int ((f9 by_) * (8 : Int32))), .val (.ref b4)] [(.ref b4)])) rfl (by rw [hml]; rfl) (Steps.refl _) (argsL := []) (rest := []) (lenOf pd_4 rfl) rfl (by show 2 * 0 + _ ≤ _; exact Nat.le_of_eq rfl) (hb hby d8_77) (fun _ _ => ⟨rfl, e5, (by decide : 1 + 0 ≤ _), (by decide : 3 + 0 ≤ _)⟩)
  dsimp only [Pt.U, Pt.locs, Pt.cells, Pt.slots] at X6 l6 y6 z6 st6 hQ6
  subst l6 y6 z6
  obtain ⟨rfl, N6q, e6⟩ := hQ6
  have N6 := Fr.app N5 N6q
  have pre7 : ∀ t, Steps p.tables e below (T6.setTop (mkF m 80 #[.val (.ref a1), .val (.long q2), .second, .val (.long q3), .second, .val (.int ((f9 by_) * (8 : Int32))), .val (.ref b4)] [(.int (f13 sb eb q3 q2))])) t → Steps p.tables e below (s₁.setTop (entryFrame m #[(.ref a1), (.long q2), (.long q3)] 7)) t := fun t k => pre0 t (by
    show Steps p.tables e below (s₁.setTop (mkF m 0 #[.val (.ref a1), .val (.long q2), .second, .val (.long q3), .second, .unset, .unset] [])) _
    refine XS.aloadN X0.here hx rfl (hb hby d8_0) rfl rfl ?_
    show Steps p.tables e below (s₁.setTop (mkF m 1 #[.val (.ref a1), .val (.long q2), .second, .val (.long q3), .second, .unset, .unset] [(.ref a1)])) _
    refine st1.trans ?_
    show Steps p.tables e below (T1.setTop (mkF m 4 #[.val (.ref a1), .val (.long q2), .second, .val (.long q3), .second, .unset, .unset] [(.int (f9 by_))])) _
    refine XS.bipush X1.here hx rfl (hb hby d8_4) ?_
    show Steps p.tables e below (T1.setTop (mkF m 6 #[.val (.ref a1), .val (.long q2), .second, .val (.long q3), .second, .unset, .unset] [(.int (8 : Int32)), (.int (f9 by_))])) _
    refine XS.imul X1.here hx rfl (hb hby d8_6) rfl ?_
    show Steps p.tables e below (T1.setTop (mkF m 7 #[.val (.ref a1), .val (.long q2), .second, .val (.long q3), .second, .unset, .unset] [(.int ((f9 by_) * (8 : Int32)))])) _
    refine XS.istore X1.here hx rfl (hb hby d8_7) rfl (l' := #[.val (.ref a1), .val (.long q2), .second, .val (.long q3), .second, .val (.int ((f9 by_) * (8 : Int32))), .unset]) rfl ?_
    show Steps p.tables e below (T1.setTop (mkF m 9 #[.val (.ref a1), .val (.long q2), .second, .val (.long q3), .second, .val (.int ((f9 by_) * (8 : Int32))), .unset] [])) _
    refine XS.lloadN X1.here hx rfl (hb hby d8_9) rfl ?_
    show Steps p.tables e below (T1.setTop (mkF m 10 #[.val (.ref a1), .val (.long q2), .second, .val (.long q3), .second, .val (.int ((f9 by_) * (8 : Int32))), .unset] [(.long q2)])) _
    refine XS.iload X1.here hx rfl (hb hby d8_10) rfl ?_
    show Steps p.tables e below (T1.setTop (mkF m 12 #[.val (.ref a1), .val (.long q2), .second, .val (.long q3), .second, .val (.int ((f9 by_) * (8 : Int32))), .unset] [(.int ((f9 by_) * (8 : Int32))), (.long q2)])) _
    refine XS.bipush X1.here hx rfl (hb hby d8_12) ?_
    show Steps p.tables e below (T1.setTop (mkF m 14 #[.val (.ref a1), .val (.long q2), .second, .val (.long q3), .second, .val (.int ((f9 by_) * (8 : Int32))), .unset] [(.int (64 : Int32)), (.int ((f9 by_) * (8 : Int32))), (.long q2)])) _
    refine XS.isub X1.here hx rfl (hb hby d8_14) rfl ?_
    show Steps p.tables e below (T1.setTop (mkF m 15 #[.val (.ref a1), .val (.long q2), .second, .val (.long q3), .second, .val (.int ((f9 by_) * (8 : Int32))), .unset] [(.int (((f9 by_) * (8 : Int32)) - (64 : Int32))), (.long q2)])) _
    refine st2 _ ?_
    show Steps p.tables e below (T2.setTop (mkF m 18 #[.val (.ref a1), .val (.long q2), .second, .val (.long q3), .second, .val (.int ((f9 by_) * (8 : Int32))), .unset] [(.long (f10 (((f9 by_) * (8 : Int32)) - (64 : Int32)))), (.long q2)])) _
    refine X2.ldc2Long hx hown (mvT hZ (hw _ (List.mem_of_getElem? (i := 44) rfl))) (g := (mkF m 18 #[.val (.ref a1), .val (.long q2), .second, .val (.long q3), .second, .val (.int ((f9 by_) * (8 : Int32))), .unset] [(.long (f10 (((f9 by_) * (8 : Int32)) - (64 : Int32)))), (.long q2)])) rfl (hb hby d8_18) _ ?_
    show Steps p.tables e below (T2.setTop (mkF m 21 #[.val (.ref a1), .val (.long q2), .second, .val (.long q3), .second, .val (.int ((f9 by_) * (8 : Int32))), .unset] [(.long (-1 : Int64)), (.long (f10 (((f9 by_) * (8 : Int32)) - (64 : Int32)))), (.long q2)])) _
    refine XS.lxor X2.here hx rfl (hb hby d8_21) rfl ?_
    show Steps p.tables e below (T2.setTop (mkF m 22 #[.val (.ref a1), .val (.long q2), .second, .val (.long q3), .second, .val (.int ((f9 by_) * (8 : Int32))), .unset] [(.long ((f10 (((f9 by_) * (8 : Int32)) - (64 : Int32))) ^^^ (-1 : Int64))), (.long q2)])) _
    refine XS.land X2.here hx rfl (hb hby d8_22) rfl ?_
    show Steps p.tables e below (T2.setTop (mkF m 23 #[.val (.ref a1), .val (.long q2), .second, .val (.long q3), .second, .val (.int ((f9 by_) * (8 : Int32))), .unset] [(.long (q2 &&& ((f10 (((f9 by_) * (8 : Int32)) - (64 : Int32))) ^^^ (-1 : Int64))))])) _
    refine XS.lconst X2.here hx rfl (hb hby d8_23) ?_
    show Steps p.tables e below (T2.setTop (mkF m 24 #[.val (.ref a1), .val (.long q2), .second, .val (.long q3), .second, .val (.int ((f9 by_) * (8 : Int32))), .unset] [(.long (0 : Int64)), (.long (q2 &&& ((f10 (((f9 by_) * (8 : Int32)) - (64 : Int32))) ^^^ (-1 : Int64))))])) _
    refine XS.lcmp X2.here hx rfl (hb hby d8_24) rfl ?_
    show Steps p.tables e below (T2.setTop (mkF m 25 #[.val (.ref a1), .val (.long q2), .second, .val (.long q3), .second, .val (.int ((f9 by_) * (8 : Int32))), .unset] [(.int (lcmpW (q2 &&& ((f10 (((f9 by_) * (8 : Int32)) - (64 : Int32))) ^^^ (-1 : Int64))) (0 : Int64)))])) _
    refine XS.ifNo X2.here hx rfl (hb hby d8_25) rfl ((if0 _ _).trans (teq (own_lc_teq h25)).2) ?_
    show Steps p.tables e below (T2.setTop (mkF m 28 #[.val (.ref a1), .val (.long q2), .second, .val (.long q3), .second, .val (.int ((f9 by_) * (8 : Int32))), .unset] [])) _
    refine XS.lloadN X2.here hx rfl (hb hby d8_28) rfl ?_
    show Steps p.tables e below (T2.setTop (mkF m 29 #[.val (.ref a1), .val (.long q2), .second, .val (.long q3), .second, .val (.int ((f9 by_) * (8 : Int32))), .unset] [(.long q3)])) _
    refine XS.iload X2.here hx rfl (hb hby d8_29) rfl ?_
    show Steps p.tables e below (T2.setTop (mkF m 31 #[.val (.ref a1), .val (.long q2), .second, .val (.long q3), .second, .val (.int ((f9 by_) * (8 : Int32))), .unset] [(.int ((f9 by_) * (8 : Int32))), (.long q3)])) _
    refine st3 _ ?_
    show Steps p.tables e below (T3.setTop (mkF m 34 #[.val (.ref a1), .val (.long q2), .second, .val (.long q3), .second, .val (.int ((f9 by_) * (8 : Int32))), .unset] [(.long (f10 ((f9 by_) * (8 : Int32)))), (.long q3)])) _
    refine X3.ldc2Long hx hown (mvT hZ (hw _ (List.mem_of_getElem? (i := 44) rfl))) (g := (mkF m 34 #[.val (.ref a1), .val (.long q2), .second, .val (.long q3), .second, .val (.int ((f9 by_) * (8 : Int32))), .unset] [(.long (f10 ((f9 by_) * (8 : Int32)))), (.long q3)])) rfl (hb hby d8_34) _ ?_
    show Steps p.tables e below (T3.setTop (mkF m 37 #[.val (.ref a1), .val (.long q2), .second, .val (.long q3), .second, .val (.int ((f9 by_) * (8 : Int32))), .unset] [(.long (-1 : Int64)), (.long (f10 ((f9 by_) * (8 : Int32)))), (.long q3)])) _
    refine XS.lxor X3.here hx rfl (hb hby d8_37) rfl ?_
    show Steps p.tables e below (T3.setTop (mkF m 38 #[.val (.ref a1), .val (.long q2), .second, .val (.long q3), .second, .val (.int ((f9 by_) * (8 : Int32))), .unset] [(.long ((f10 ((f9 by_) * (8 : Int32))) ^^^ (-1 : Int64))), (.long q3)])) _
    refine XS.land X3.here hx rfl (hb hby d8_38) rfl ?_
    show Steps p.tables e below (T3.setTop (mkF m 39 #[.val (.ref a1), .val (.long q2), .second, .val (.long q3), .second, .val (.int ((f9 by_) * (8 : Int32))), .unset] [(.long (q3 &&& ((f10 ((f9 by_) * (8 : Int32))) ^^^ (-1 : Int64))))])) _
    refine XS.lconst X3.here hx rfl (hb hby d8_39) ?_
    show Steps p.tables e below (T3.setTop (mkF m 40 #[.val (.ref a1), .val (.long q2), .second, .val (.long q3), .second, .val (.int ((f9 by_) * (8 : Int32))), .unset] [(.long (0 : Int64)), (.long (q3 &&& ((f10 ((f9 by_) * (8 : Int32))) ^^^ (-1 : Int64))))])) _
    refine XS.lcmp X3.here hx rfl (hb hby d8_40) rfl ?_
    show Steps p.tables e below (T3.setTop (mkF m 41 #[.val (.ref a1), .val (.long q2), .second, .val (.long q3), .second, .val (.int ((f9 by_) * (8 : Int32))), .unset] [(.int (lcmpW (q3 &&& ((f10 ((f9 by_) * (8 : Int32))) ^^^ (-1 : Int64))) (0 : Int64)))])) _
    refine XS.ifYes X3.here hx rfl (pc0 := 41) (pc' := 63) rfl (hb hby d8_41) rfl ((if0 _ _).trans (teq (own_lc_teq h41)).1) (by decide) (by decide) ?_
    show Steps p.tables e below (T3.setTop (mkF m 63 #[.val (.ref a1), .val (.long q2), .second, .val (.long q3), .second, .val (.int ((f9 by_) * (8 : Int32))), .unset] [])) _
    refine st4 _ ?_
    show Steps p.tables e below (T4.setTop (mkF m 66 #[.val (.ref a1), .val (.long q2), .second, .val (.long q3), .second, .val (.int ((f9 by_) * (8 : Int32))), .unset] [(.ref b4)])) _
    refine XS.dup X4.here hx rfl (hb hby d8_66) rfl rfl ?_
    show Steps p.tables e below (T4.setTop (mkF m 67 #[.val (.ref a1), .val (.long q2), .second, .val (.long q3), .second, .val (.int ((f9 by_) * (8 : Int32))), .unset] [(.ref b4), (.ref b4)])) _
    refine XS.aloadN X4.here hx rfl (hb hby d8_67) rfl rfl ?_
    show Steps p.tables e below (T4.setTop (mkF m 68 #[.val (.ref a1), .val (.long q2), .second, .val (.long q3), .second, .val (.int ((f9 by_) * (8 : Int32))), .unset] [(.ref a1), (.ref b4), (.ref b4)])) _
    refine XS.lloadN X4.here hx rfl (hb hby d8_68) rfl ?_
    show Steps p.tables e below (T4.setTop (mkF m 69 #[.val (.ref a1), .val (.long q2), .second, .val (.long q3), .second, .val (.int ((f9 by_) * (8 : Int32))), .unset] [(.long q2), (.ref a1), (.ref b4), (.ref b4)])) _
    refine XS.lloadN X4.here hx rfl (hb hby d8_69) rfl ?_
    show Steps p.tables e below (T4.setTop (mkF m 70 #[.val (.ref a1), .val (.long q2), .second, .val (.long q3), .second, .val (.int ((f9 by_) * (8 : Int32))), .unset] [(.long q3), (.long q2), (.ref a1), (.ref b4), (.ref b4)])) _
    refine st5.trans ?_
    show Steps p.tables e below (T5.setTop (mkF m 73 #[.val (.ref a1), .val (.long q2), .second, .val (.long q3), .second, .val (.int ((f9 by_) * (8 : Int32))), .unset] [(.ref b4)])) _
    refine XS.astore X5.here hx rfl (hb hby d8_73) rfl rfl (l' := #[.val (.ref a1), .val (.long q2), .second, .val (.long q3), .second, .val (.int ((f9 by_) * (8 : Int32))), .val (.ref b4)]) rfl ?_
    show Steps p.tables e below (T5.setTop (mkF m 75 #[.val (.ref a1), .val (.long q2), .second, .val (.long q3), .second, .val (.int ((f9 by_) * (8 : Int32))), .val (.ref b4)] [])) _
    refine XS.aload X5.here hx rfl (hb hby d8_75) rfl rfl ?_
    show Steps p.tables e below (T5.setTop (mkF m 77 #[.val (.ref a1), .val (.long q2), .second, .val (.long q3), .second, .val (.int ((f9 by_) * (8 : Int32))), .val (.ref b4)] [(.ref b4)])) _
    refine st6.trans ?_
    exact k)
  by_cases hc8 : (f13 sb eb q3 q2) = (0 : Int32)
  · obtain ⟨cx9, kx9, xa9, xb9, xc9, xd9, -⟩ := id E_b4_5
    obtain ⟨_, _, ⟨T9, L9, k9, n9⟩, -, X9, ⟨Lc9, hQ9, l9, y9, z9⟩, st9⟩ := X6.privateBack hx (y := (⟨"com/example/tagwire/tagwire/core/FloatValue", "canonicalSpecial", "()Lcom/example/tagwire/tagwire/core/FloatValue;"⟩ : MethodName)) hown (mvT hZ (hw _ (List.mem_of_getElem? (i := 92) rfl))) (mvT hZ (hw _ (List.mem_of_getElem? (i := 93) rfl))) (own_privSel hZ (hw _ (List.mem_of_getElem? (i := 46) rfl)) (hw _ (List.mem_of_getElem? (i := 93) rfl)) (hw _ (List.mem_of_getElem? (i := 94) rfl)) (by decide)) (own_privAt hZ (hw _ (List.mem_of_getElem? (i := 94) rfl))) (mvT hZ (hw _ (List.mem_of_getElem? (i := 95) rfl))) (by decide) (backOf (W := 0) (rm19 l Z a0 hw [] b4 a1 q2 q3 sb eb xb h5 n0 Zs5 E_b4_5 F_format_b4_5 F_high_b4_5 F_low_b4_5 E_a1_5 F_significandBits_a1_5 F_exponentBits_a1_5 F_explicitIntegerBit_a1_5 (hnn hc8)) hZ (hw _ (List.mem_of_getElem? (i := 95) rfl)) (hw _ (List.mem_of_getElem? (i := 32) rfl)) (by decide) (by decide)) (g := (mkF m 88 #[.val (.ref a1), .val (.long q2), .second, .val (.long q3), .second, .val (.int ((f9 by_) * (8 : Int32))), .val (.ref b4)] [(.ref b4)])) rfl (by rw [hml]; rfl) (Steps.refl _) (a := b4) (by rw [e6]; exact xa9) (own_notSta xd9) (argsL := []) (rest := []) (lenOf pd_6 rfl) rfl (by show 2 * 0 + _ ≤ _; exact Nat.le_of_eq rfl) (hb hby d8_88) (fun _ _ => ⟨rfl, e6, (by decide : 1 + 1 ≤ _), (by decide : 3 + 3 ≤ _)⟩)
    dsimp only [Pt.U, Pt.locs, Pt.cells, Pt.slots] at X9 l9 y9 z9 st9 hQ9
    subst l9 y9 z9
    obtain ⟨h9, e9⟩ : ∃ z, T9.heap = z := ⟨_, rfl⟩
    rw [e9] at hQ9
    obtain ⟨b9, rfl, N9q, Kc9, szc_b9, E_b9_9q, F_format_b9_9q, F_high_b9_9q, F_low_b9_9q⟩ := hQ9
    have ne_a1_b9 : a1 ≠ b9 := Nat.ne_of_lt (Nat.lt_of_lt_of_le E_a1_5.lt szc_b9)
    have ne_b4_b9 : b4 ≠ b9 := Nat.ne_of_lt (Nat.lt_of_lt_of_le E_b4_5.lt szc_b9)
    have g_b9 : n0 ≤ b9 := Nat.le_trans Zs5 szc_b9
    have sz_b9 : h0.size ≤ b9 := Nat.le_trans K5.1 szc_b9
    have E_a1_9 : Exa Z h9 a1 "com/example/tagwire/tagwire/core/FloatFormat" := E_a1_5.keep Kc9
    have F_bytes_a1_9 : Fld Z h9 a1 "com/example/tagwire/tagwire/core/FloatFormat" "bytes" "I" (.int by_) := F_bytes_a1_5.keep Kc9 nin0
    have F_significandBits_a1_9 : Fld Z h9 a1 "com/example/tagwire/tagwire/core/FloatFormat" "significandBits" "I" (.int sb) := F_significandBits_a1_5.keep Kc9 nin0
    have F_exponentBits_a1_9 : Fld Z h9 a1 "com/example/tagwire/tagwire/core/FloatFormat" "exponentBits" "I" (.int eb) := F_exponentBits_a1_5.keep Kc9 nin0
    have F_explicitIntegerBit_a1_9 : Fld Z h9 a1 "com/example/tagwire/tagwire/core/FloatFormat" "explicitIntegerBit" "Z" (.int xb) := F_explicitIntegerBit_a1_5.keep Kc9 nin0
    have E_b4_9 : Exa Z h9 b4 "com/example/tagwire/tagwire/core/FloatValue" := E_b4_5.keep Kc9
    have F_format_b4_9 : Fld Z h9 b4 "com/example/tagwire/tagwire/core/FloatValue" "format" "Lcom/example/tagwire/tagwire/core/FloatFormat;" (.ref a1) := F_format_b4_5.keep Kc9 nin0
    have F_high_b4_9 : Fld Z h9 b4 "com/example/tagwire/tagwire/core/FloatValue" "high" "J" (.long q2) := F_high_b4_5.keep Kc9 nin0
    have F_low_b4_9 : Fld Z h9 b4 "com/example/tagwire/tagwire/core/FloatValue" "low" "J" (.long q3) := F_low_b4_5.keep Kc9 nin0
    have K9 := K5.trans Kc9 all0
    have Zs9 := Nat.le_trans Zs5 Kc9.1
    have E_b9_9 : Exa Z h9 b9 "com/example/tagwire/tagwire/core/FloatValue" := E_b9_9q
    have F_format_b9_9 : Fld Z h9 b9 "com/example/tagwire/tagwire/core/FloatValue" "format" "Lcom/example/tagwire/tagwire/core/FloatFormat;" (.ref a1) := F_format_b9_9q
    have F_high_b9_9 : Fld Z h9 b9 "com/example/tagwire/tagwire/core/FloatValue" "high" "J" (.long (f24 (((f22 xb sb) - (1 : Int32)) - (64 : Int32)) ((((f15 sb) + (f16 eb)) + (0 : Int32)) - (64 : Int32)))) := F_high_b9_9q
    have F_low_b9_9 : Fld Z h9 b9 "com/example/tagwire/tagwire/core/FloatValue" "low" "J" (.long (f24 ((f22 xb sb) - (1 : Int32)) (((f15 sb) + (f16 eb)) + (0 : Int32)))) := F_low_b9_9q
    have N9 := Fr.app N6 N9q
    obtain ⟨fs, hr, hrun, hended, hW, hsame⟩ := X9.leave (v := some (.ref b9)) (fun h => by rw [Bd.returns] at h; cases h)
    refine ⟨_, _, pre7 _ ?_, hrun, hended, _, _, rfl, ?_, ⟨_, rfl⟩, hW, hsame.mono (by decide) (by decide)⟩
    · show Steps p.tables e below (T6.setTop (mkF m 80 #[.val (.ref a1), .val (.long q2), .second, .val (.long q3), .second, .val (.int ((f9 by_) * (8 : Int32))), .val (.ref b4)] [(.int (f13 sb eb q3 q2))])) _
      refine XS.ifYes X6.here hx rfl (pc0 := 80) (pc' := 86) rfl (hb hby d8_80) rfl ((if0 _ _).trans (teq hc8).1) (by decide) (by decide) ?_
      show Steps p.tables e below (T6.setTop (mkF m 86 #[.val (.ref a1), .val (.long q2), .second, .val (.long q3), .second, .val (.int ((f9 by_) * (8 : Int32))), .val (.ref b4)] [])) _
      refine XS.aload X6.here hx rfl (hb hby d8_86) rfl rfl ?_
      show Steps p.tables e below (T6.setTop (mkF m 88 #[.val (.ref a1), .val (.long q2), .second, .val (.long q3), .second, .val (.int ((f9 by_) * (8 : Int32))), .val (.ref b4)] [(.ref b4)])) _
      refine st9.trans ?_
      show Steps p.tables e below (T9.setTop (mkF m 91 #[.val (.ref a1), .val (.long q2), .second, .val (.long q3), .second, .val (.int ((f9 by_) * (8 : Int32))), .val (.ref b4)] [(.ref b9)])) _
      jvm_step X9.here [X9.here.top, hx, (hb hby d8_91), X9.method', Bd.returns, Value.isRef, FieldType.isReference]
      first | (intro acts; rw [hr _ acts rfl rfl rfl]) | rw [hr _ _ rfl rfl rfl]
      exact Steps.refl _
    · show Q8 Z a1 q2 q3 by_ sb eb xb h0 n0 _ T9.heap _
      rw [e9]
      exact ⟨b9, rfl, N9, K9, sz_b9, E_b9_9, F_format_b9_9, (by rw [if_pos hc8]; exact F_high_b9_9), (by rw [if_pos hc8]; exact F_low_b9_9)⟩
  · obtain ⟨fs, hr, hrun, hended, hW, hsame⟩ := X6.leave (v := some (.ref b4)) (fun h => by rw [Bd.returns] at h; cases h)
    refine ⟨_, _, pre7 _ ?_, hrun, hended, _, _, rfl, ?_, ⟨_, rfl⟩, hW, hsame.mono (by decide) (by decide)⟩
    · show Steps p.tables e below (T6.setTop (mkF m 80 #[.val (.ref a1), .val (.long q2), .second, .val (.long q3), .second, .val (.int ((f9 by_) * (8 : Int32))), .val (.ref b4)] [(.int (f13 sb eb q3 q2))])) _
      refine XS.ifNo X6.here hx rfl (hb hby d8_80) rfl ((if0 _ _).trans (feq hc8).1) ?_
      show Steps p.tables e below (T6.setTop (mkF m 83 #[.val (.ref a1), .val (.long q2), .second, .val (.long q3), .second, .val (.int ((f9 by_) * (8 : Int32))), .val (.ref b4)] [])) _
      refine XS.aload X6.here hx rfl (hb hby d8_83) rfl rfl ?_
      show Steps p.tables e below (T6.setTop (mkF m 85 #[.val (.ref a1), .val (.long q2), .second, .val (.long q3), .second, .val (.int ((f9 by_) * (8 : Int32))), .val (.ref b4)] [(.ref b4)])) _
      jvm_step X6.here [X6.here.top, hx, (hb hby d8_85), X6.method', Bd.returns, Value.isRef, FieldType.isReference]
      first | (intro acts; rw [hr _ acts rfl rfl rfl]) | rw [hr _ _ rfl rfl rfl]
      exact Steps.refl _
    · show Q8 Z a1 q2 q3 by_ sb eb xb h0 n0 _ T6.heap _
      rw [e6]
      exact ⟨b4, rfl, N6, K5, sz_b4, E_b4_5, F_format_b4_5, (by rw [if_neg hc8]; exact F_high_b4_5), (by rw [if_neg hc8]; exact F_low_b4_5)⟩
theorem d25_0 : decode prog_14_method_18_code 0 = .ok (.aload_n 1, 1) := by decide +kernel
theorem d25_1 : decode prog_14_method_18_code 1 = .ok (.instanceof 3, 3) := by decide +kernel
theorem d25_4 : decode prog_14_method_18_code 4 = .ok (.ifCond .eq 47, 3) := by decide +kernel
theorem d25_51 : decode prog_14_method_18_code 51 = .ok (.iconst 0, 1) := by decide +kernel
theorem d25_52 : decode prog_14_method_18_code 52 = .ok (.ireturn, 1) := by decide +kernel
theorem pn_25 : plainName "com/example/tagwire/tagwire/core/FloatValue" = true := by first | (simp [plainName, overriddenIn]; done) | decide +kernel
theorem ef_25n (m : MethodId) (a1 : Addr) : entryFrame m #[(.ref a1), .null] 3 = mkF m 0 #[.val (.ref a1), .val .null, .unset] [] := by first | (simp [entryFrame, mkF, argsToLocals, Value.category]; done) | rfl
def f25n  : Int32 :=
  (0 : Int32)
def Q25n (Z : State) (a1 : Addr)  (h0 : Heap) (n0 : Nat) (v : Option Value) (h : Heap) (L : List Loc) : Prop := v = some (.int f25n) ∧ Fr n0 L ∧ h = h0
set_option maxRecDepth 65536 in
set_option maxHeartbeats 40000000 in
theorem rm25n (l : Launch) (Z : State) (a0 : Array Value) (hw : ∀ d ∈ tables_1, d.before a0 Z = true) (ws : List Jvm.Cond) (a1 : Addr)  (h0 : Heap) (n0 : Nat) (Z0 : n0 ≤ h0.size) :
    MetFree l (⟨"com/example/tagwire/tagwire/core/FloatValue", "equals", "(Ljava/lang/Object;)Z"⟩ : MethodName) (head1 (Jvm.Cond.code (⟨"com/example/tagwire/tagwire/core/FloatValue", "equals", "(Ljava/lang/Object;)Z"⟩ : MethodName) prog_14_method_18_code 3 (some .boolean) :: ws) ({ frames := 0, cells := 0, slots := 0, locals := 0 } : Room)) (fun a U => a = #[(.ref a1), .null] ∧ Z.Warmed39 U.vm ∧ U.heap = h0) (fun _ _ _ _ _ => True) (fun _ U o U' => ∃ v L, o = .returned v ∧ Q25n Z a1 h0 n0 v U'.heap L ∧ FrameEnd U o U' L ({ frames := 0, cells := 0, slots := 0, locals := 0 } : Room).cells ({ frames := 0, cells := 0, slots := 0, locals := 0 } : Room).slots) := by
  refine MetFree.of_bodySF (plainFor_of_name pn_25) hisR ?_
  intro p e s m args below meth c s₁ Bd hml0 hP hK
  obtain ⟨rfl, hZ, hh⟩ := hP
  have hx := Bd.exec
  have hby := Bd.bytes
  have hml : c.maxLocals = 3 := hml0
  have hown : s.vm.findClass "com/example/tagwire/tagwire/core/FloatValue" = some m.cls := findClass_of_methodNamed Bd.named
  have hnm := (name_of_methodNamed Bd.named Bd.method).1
  have X0 : Stand p l e ({ frames := 0, cells := 0, slots := 0, locals := 0 } : Room) s m #[(.ref a1), .null] below meth c s₁ [] 0 0 := Stand.of_body Bd
  have e0 : s₁.heap = h0 := by rw [← hh, Bd.state]; rfl
  have N0 := Fr.nil n0
  have pre0 : ∀ t, Steps p.tables e below (s₁.setTop (mkF m 0 #[.val (.ref a1), .val .null, .unset] [])) t → Steps p.tables e below (s₁.setTop (entryFrame m #[(.ref a1), .null] 3)) t := fun t k => castTop (ef_25n m a1) k
  have er : f25n = (0 : Int32) := by exact rfl
  obtain ⟨fs, hr, hrun, hended, hW, hsame⟩ := X0.leave (v := some (.int (0 : Int32))) (fun h => by rw [Bd.returns] at h; cases h)
  refine ⟨_, _, pre0 _ ?_, hrun, hended, _, _, rfl, ?_, ⟨_, rfl⟩, hW, hsame.mono (by decide) (by decide)⟩
  · show Steps p.tables e below (s₁.setTop (mkF m 0 #[.val (.ref a1), .val .null, .unset] [])) _
    refine XS.aloadN X0.here hx rfl (hb hby d25_0) rfl rfl ?_
    show Steps p.tables e below (s₁.setTop (mkF m 1 #[.val (.ref a1), .val .null, .unset] [.null])) _
    refine Stand.instanceofNull X0 hx (g := (mkF m 1 #[.val (.ref a1), .val .null, .unset] [.null])) rfl rfl (hb hby d25_1) _ ?_
    show Steps p.tables e below (s₁.setTop (mkF m 4 #[.val (.ref a1), .val .null, .unset] [(.int (0 : Int32))])) _
    refine XS.ifYes X0.here hx rfl (pc0 := 4) (pc' := 51) rfl (hb hby d25_4) rfl ((if0 _ _).trans (teq (rfl : (0 : Int32) = (0 : Int32))).1) (by decide) (by decide) ?_
    show Steps p.tables e below (s₁.setTop (mkF m 51 #[.val (.ref a1), .val .null, .unset] [])) _
    refine XS.iconst X0.here hx rfl (hb hby d25_51) ?_
    show Steps p.tables e below (s₁.setTop (mkF m 52 #[.val (.ref a1), .val .null, .unset] [(.int (0 : Int32))])) _
    exact retN X0 hx (t := .boolean) Bd.returns (by simp) (hb hby d25_52) hr
  · show Q25n Z a1 h0 n0 _ s₁.heap _
    rw [e0]
    exact ⟨congrArg (fun z => some (Value.int z)) er.symm, N0, rfl⟩
theorem ef_25l (m : MethodId) (a1 : Addr) (a2 : Addr) : entryFrame m #[(.ref a1), (.ref a2)] 3 = mkF m 0 #[.val (.ref a1), .val (.ref a2), .unset] [] := by first | (simp [entryFrame, mkF, argsToLocals, Value.category]; done) | rfl
def f25l  : Int32 :=
  (0 : Int32)
def Q25l (Z : State) (a1 : Addr) (a2 : Addr)  (h0 : Heap) (n0 : Nat) (v : Option Value) (h : Heap) (L : List Loc) : Prop := v = some (.int f25l) ∧ Fr n0 L ∧ h = h0
set_option maxRecDepth 65536 in
set_option maxHeartbeats 40000000 in
theorem rm25l (l : Launch) (Z : State) (a0 : Array Value) (hw : ∀ d ∈ tables_1, d.before a0 Z = true) (ws : List Jvm.Cond) (a1 : Addr) (a2 : Addr)  (h0 : Heap) (n0 : Nat) (Z0 : n0 ≤ h0.size) (E_a2 : Exa Z h0 a2 "java/lang/Long") :
    MetFree l (⟨"com/example/tagwire/tagwire/core/FloatValue", "equals", "(Ljava/lang/Object;)Z"⟩ : MethodName) (head1 (Jvm.Cond.code (⟨"com/example/tagwire/tagwire/core/FloatValue", "equals", "(Ljava/lang/Object;)Z"⟩ : MethodName) prog_14_method_18_code 3 (some .boolean) :: ws) ({ frames := 0, cells := 0, slots := 0, locals := 0 } : Room)) (fun a U => a = #[(.ref a1), (.ref a2)] ∧ Z.Warmed39 U.vm ∧ U.heap = h0) (fun _ _ _ _ _ => True) (fun _ U o U' => ∃ v L, o = .returned v ∧ Q25l Z a1 a2 h0 n0 v U'.heap L ∧ FrameEnd U o U' L ({ frames := 0, cells := 0, slots := 0, locals := 0 } : Room).cells ({ frames := 0, cells := 0, slots := 0, locals := 0 } : Room).slots) := by
  refine MetFree.of_bodySF (plainFor_of_name pn_25) hisR ?_
  intro p e s m args below meth c s₁ Bd hml0 hP hK
  obtain ⟨rfl, hZ, hh⟩ := hP
  have hx := Bd.exec
  have hby := Bd.bytes
  have hml : c.maxLocals = 3 := hml0
  have hown : s.vm.findClass "com/example/tagwire/tagwire/core/FloatValue" = some m.cls := findClass_of_methodNamed Bd.named
  have hnm := (name_of_methodNamed Bd.named Bd.method).1
  have X0 : Stand p l e ({ frames := 0, cells := 0, slots := 0, locals := 0 } : Room) s m #[(.ref a1), (.ref a2)] below meth c s₁ [] 0 0 := Stand.of_body Bd
  have e0 : s₁.heap = h0 := by rw [← hh, Bd.state]; rfl
  have N0 := Fr.nil n0
  have pre0 : ∀ t, Steps p.tables e below (s₁.setTop (mkF m 0 #[.val (.ref a1), .val (.ref a2), .unset] [])) t → Steps p.tables e below (s₁.setTop (entryFrame m #[(.ref a1), (.ref a2)] 3)) t := fun t k => castTop (ef_25l m a1 a2) k
  obtain ⟨T1, X1, e1, st1⟩ := instNo X0 hx hZ hown (hw _ (List.mem_of_getElem? (i := 45) rfl)) e0 E_a2 (own_noLong (hw _ (List.mem_of_getElem? (i := 162) rfl)) (hw _ (List.mem_of_getElem? (i := 163) rfl)) (hw _ (List.mem_of_getElem? (i := 164) rfl)) (hw _ (List.mem_of_getElem? (i := 46) rfl)) (by decide) (by decide) (by decide)) (g := (mkF m 1 #[.val (.ref a1), .val (.ref a2), .unset] [(.ref a2)])) rfl rfl (hb hby d25_1)
  have er : f25l = (0 : Int32) := by exact rfl
  obtain ⟨fs, hr, hrun, hended, hW, hsame⟩ := X1.leave (v := some (.int (0 : Int32))) (fun h => by rw [Bd.returns] at h; cases h)
  refine ⟨_, _, pre0 _ ?_, hrun, hended, _, _, rfl, ?_, ⟨_, rfl⟩, hW, hsame.mono (by decide) (by decide)⟩
  · show Steps p.tables e below (s₁.setTop (mkF m 0 #[.val (.ref a1), .val (.ref a2), .unset] [])) _
    refine XS.aloadN X0.here hx rfl (hb hby d25_0) rfl rfl ?_
    show Steps p.tables e below (s₁.setTop (mkF m 1 #[.val (.ref a1), .val (.ref a2), .unset] [(.ref a2)])) _
    refine st1 _ ?_
    show Steps p.tables e below (T1.setTop (mkF m 4 #[.val (.ref a1), .val (.ref a2), .unset] [(.int (0 : Int32))])) _
    refine XS.ifYes X1.here hx rfl (pc0 := 4) (pc' := 51) rfl (hb hby d25_4) rfl ((if0 _ _).trans (teq (rfl : (0 : Int32) = (0 : Int32))).1) (by decide) (by decide) ?_
    show Steps p.tables e below (T1.setTop (mkF m 51 #[.val (.ref a1), .val (.ref a2), .unset] [])) _
    refine XS.iconst X1.here hx rfl (hb hby d25_51) ?_
    show Steps p.tables e below (T1.setTop (mkF m 52 #[.val (.ref a1), .val (.ref a2), .unset] [(.int (0 : Int32))])) _
    exact retN X1 hx (t := .boolean) Bd.returns (by simp) (hb hby d25_52) hr
  · show Q25l Z a1 a2 h0 n0 _ T1.heap _
    rw [e1]
    exact ⟨congrArg (fun z => some (Value.int z)) er.symm, N0, rfl⟩
theorem d25_7 : decode prog_14_method_18_code 7 = .ok (.aload_n 1, 1) := by decide +kernel
theorem d25_8 : decode prog_14_method_18_code 8 = .ok (.checkcast 3, 3) := by decide +kernel
theorem d25_11 : decode prog_14_method_18_code 11 = .ok (.astore_n 2, 1) := by decide +kernel
theorem d25_12 : decode prog_14_method_18_code 12 = .ok (.aload_n 0, 1) := by decide +kernel
theorem d25_13 : decode prog_14_method_18_code 13 = .ok (.getfield 24, 3) := by decide +kernel
theorem d25_16 : decode prog_14_method_18_code 16 = .ok (.aload_n 2, 1) := by decide +kernel
theorem d25_17 : decode prog_14_method_18_code 17 = .ok (.getfield 24, 3) := by decide +kernel
theorem d25_20 : decode prog_14_method_18_code 20 = .ok (.if_acmp .ne 31, 3) := by decide +kernel
theorem d25_23 : decode prog_14_method_18_code 23 = .ok (.aload_n 0, 1) := by decide +kernel
theorem d25_24 : decode prog_14_method_18_code 24 = .ok (.getfield 27, 3) := by decide +kernel
theorem d25_27 : decode prog_14_method_18_code 27 = .ok (.aload_n 2, 1) := by decide +kernel
theorem d25_28 : decode prog_14_method_18_code 28 = .ok (.getfield 27, 3) := by decide +kernel
theorem d25_31 : decode prog_14_method_18_code 31 = .ok (.lcmp, 1) := by decide +kernel
theorem d25_32 : decode prog_14_method_18_code 32 = .ok (.ifCond .ne 19, 3) := by decide +kernel
theorem d25_35 : decode prog_14_method_18_code 35 = .ok (.aload_n 0, 1) := by decide +kernel
theorem d25_36 : decode prog_14_method_18_code 36 = .ok (.getfield 31, 3) := by decide +kernel
theorem d25_39 : decode prog_14_method_18_code 39 = .ok (.aload_n 2, 1) := by decide +kernel
theorem d25_40 : decode prog_14_method_18_code 40 = .ok (.getfield 31, 3) := by decide +kernel
theorem d25_43 : decode prog_14_method_18_code 43 = .ok (.lcmp, 1) := by decide +kernel
theorem d25_44 : decode prog_14_method_18_code 44 = .ok (.ifCond .ne 7, 3) := by decide +kernel
theorem d25_47 : decode prog_14_method_18_code 47 = .ok (.iconst 1, 1) := by decide +kernel
theorem d25_48 : decode prog_14_method_18_code 48 = .ok (.goto 4, 3) := by decide +kernel
theorem ef_25v (m : MethodId) (a1 : Addr) (a2 : Addr) : entryFrame m #[(.ref a1), (.ref a2)] 3 = mkF m 0 #[.val (.ref a1), .val (.ref a2), .unset] [] := by first | (simp [entryFrame, mkF, argsToLocals, Value.category]; done) | rfl
def f25v (f_format_a1 : Addr) (f_format_a2 : Addr) (f_high_a1 : Int64) (f_high_a2 : Int64) (f_low_a1 : Int64) (f_low_a2 : Int64) : Int32 :=
  (if f_format_a1 = f_format_a2 then (if f_high_a1 = f_high_a2 then (nar .boolean (if f_low_a1 = f_low_a2 then (1 : Int32) else (0 : Int32))) else (0 : Int32)) else (0 : Int32))
def Q25v (Z : State) (a1 : Addr) (a2 : Addr) (f_format_a1 : Addr) (f_format_a2 : Addr) (f_high_a1 : Int64) (f_high_a2 : Int64) (f_low_a1 : Int64) (f_low_a2 : Int64) (h0 : Heap) (n0 : Nat) (v : Option Value) (h : Heap) (L : List Loc) : Prop := v = some (.int (f25v f_format_a1 f_format_a2 f_high_a1 f_high_a2 f_low_a1 f_low_a2)) ∧ Fr n0 L ∧ h = h0
set_option maxRecDepth 65536 in
set_option maxHeartbeats 40000000 in
theorem rm25v (l : Launch) (Z : State) (a0 : Array Value) (hw : ∀ d ∈ tables_1, d.before a0 Z = true) (ws : List Jvm.Cond) (a1 : Addr) (a2 : Addr) (f_format_a1 : Addr) (f_format_a2 : Addr) (f_high_a1 : Int64) (f_high_a2 : Int64) (f_low_a1 : Int64) (f_low_a2 : Int64) (h0 : Heap) (n0 : Nat) (Z0 : n0 ≤ h0.size) (E_a2 : Exa Z h0 a2 "com/example/tagwire/tagwire/core/FloatValue") (F_format_a1 : Fld Z h0 a1 "com/example/tagwire/tagwire/core/FloatValue" "format" "Lcom/example/tagwire/tagwire/core/FloatFormat;" (.ref f_format_a1)) (F_format_a2 : Fld Z h0 a2 "com/example/tagwire/tagwire/core/FloatValue" "format" "Lcom/example/tagwire/tagwire/core/FloatFormat;" (.ref f_format_a2)) (F_high_a1 : Fld Z h0 a1 "com/example/tagwire/tagwire/core/FloatValue" "high" "J" (.long f_high_a1)) (F_high_a2 : Fld Z h0 a2 "com/example/tagwire/tagwire/core/FloatValue" "high" "J" (.long f_high_a2)) (F_low_a1 : Fld Z h0 a1 "com/example/tagwire/tagwire/core/FloatValue" "low" "J" (.long f_low_a1)) (F_low_a2 : Fld Z h0 a2 "com/example/tagwire/tagwire/core/FloatValue" "low" "J" (.long f_low_a2)) :
    MetFree l (⟨"com/example/tagwire/tagwire/core/FloatValue", "equals", "(Ljava/lang/Object;)Z"⟩ : MethodName) (head1 (Jvm.Cond.code (⟨"com/example/tagwire/tagwire/core/FloatValue", "equals", "(Ljava/lang/Object;)Z"⟩ : MethodName) prog_14_method_18_code 3 (some .boolean) :: ws) ({ frames := 0, cells := 0, slots := 0, locals := 0 } : Room)) (fun a U => a = #[(.ref a1), (.ref a2)] ∧ Z.Warmed39 U.vm ∧ U.heap = h0) (fun _ _ _ _ _ => True) (fun _ U o U' => ∃ v L, o = .returned v ∧ Q25v Z a1 a2 f_format_a1 f_format_a2 f_high_a1 f_high_a2 f_low_a1 f_low_a2 h0 n0 v U'.heap L ∧ FrameEnd U o U' L ({ frames := 0, cells := 0, slots := 0, locals := 0 } : Room).cells ({ frames := 0, cells := 0, slots := 0, locals := 0 } : Room).slots) := by
  refine MetFree.of_bodySF (plainFor_of_name pn_25) hisR ?_
  intro p e s m args below meth c s₁ Bd hml0 hP hK
  obtain ⟨rfl, hZ, hh⟩ := hP
  have hx := Bd.exec
  have hby := Bd.bytes
  have hml : c.maxLocals = 3 := hml0
  have hown : s.vm.findClass "com/example/tagwire/tagwire/core/FloatValue" = some m.cls := findClass_of_methodNamed Bd.named
  have hnm := (name_of_methodNamed Bd.named Bd.method).1
  have X0 : Stand p l e ({ frames := 0, cells := 0, slots := 0, locals := 0 } : Room) s m #[(.ref a1), (.ref a2)] below meth c s₁ [] 0 0 := Stand.of_body Bd
  have e0 : s₁.heap = h0 := by rw [← hh, Bd.state]; rfl
  have N0 := Fr.nil n0
  have pre0 : ∀ t, Steps p.tables e below (s₁.setTop (mkF m 0 #[.val (.ref a1), .val (.ref a2), .unset] [])) t → Steps p.tables e below (s₁.setTop (entryFrame m #[(.ref a1), (.ref a2)] 3)) t := fun t k => castTop (ef_25v m a1 a2) k
  obtain ⟨T1, X1, e1, st1⟩ := instY X0 hx hZ hown (hw _ (List.mem_of_getElem? (i := 45) rfl)) e0 (Ins.self E_a2) (g := (mkF m 1 #[.val (.ref a1), .val (.ref a2), .unset] [(.ref a2)])) rfl rfl (hb hby d25_1)
  obtain ⟨T2, X2, e2, st2⟩ := castY X1 hx hZ hown (hw _ (List.mem_of_getElem? (i := 45) rfl)) e1 (Ins.self E_a2) (g := (mkF m 8 #[.val (.ref a1), .val (.ref a2), .unset] [(.ref a2)])) rfl rfl (hb hby d25_8)
  obtain ⟨T3, X3, e3, st3⟩ := getF X2 hx hZ hown (host := "") (Or.inl (hw _ (List.mem_of_getElem? (i := 53) rfl))) Via.refl e2 F_format_a1 (g := (mkF m 13 #[.val (.ref a1), .val (.ref a2), .val (.ref a2)] [(.ref a1)])) rfl rfl (hb hby d25_13)
  obtain ⟨T4, X4, e4, st4⟩ := getF X3 hx hZ hown (host := "") (Or.inl (hw _ (List.mem_of_getElem? (i := 53) rfl))) Via.refl e3 F_format_a2 (g := (mkF m 17 #[.val (.ref a1), .val (.ref a2), .val (.ref a2)] [(.ref a2), (.ref f_format_a1)])) rfl rfl (hb hby d25_17)
  have pre5 : ∀ t, Steps p.tables e below (T4.setTop (mkF m 20 #[.val (.ref a1), .val (.ref a2), .val (.ref a2)] [(.ref f_format_a2), (.ref f_format_a1)])) t → Steps p.tables e below (s₁.setTop (entryFrame m #[(.ref a1), (.ref a2)] 3)) t := fun t k => pre0 t (by
    show Steps p.tables e below (s₁.setTop (mkF m 0 #[.val (.ref a1), .val (.ref a2), .unset] [])) _
    refine XS.aloadN X0.here hx rfl (hb hby d25_0) rfl rfl ?_
    show Steps p.tables e below (s₁.setTop (mkF m 1 #[.val (.ref a1), .val (.ref a2), .unset] [(.ref a2)])) _
    refine st1 _ ?_
    show Steps p.tables e below (T1.setTop (mkF m 4 #[.val (.ref a1), .val (.ref a2), .unset] [(.int (1 : Int32))])) _
    refine XS.ifNo X1.here hx rfl (hb hby d25_4) rfl ((if0 _ _).trans (feq (show ¬ ((1 : Int32) = (0 : Int32)) by decide)).1) ?_
    show Steps p.tables e below (T1.setTop (mkF m 7 #[.val (.ref a1), .val (.ref a2), .unset] [])) _
    refine XS.aloadN X1.here hx rfl (hb hby d25_7) rfl rfl ?_
    show Steps p.tables e below (T1.setTop (mkF m 8 #[.val (.ref a1), .val (.ref a2), .unset] [(.ref a2)])) _
    refine st2 _ ?_
    show Steps p.tables e below (T2.setTop (mkF m 11 #[.val (.ref a1), .val (.ref a2), .unset] [(.ref a2)])) _
    refine XS.astoreN X2.here hx rfl (hb hby d25_11) rfl rfl (l' := #[.val (.ref a1), .val (.ref a2), .val (.ref a2)]) rfl ?_
    show Steps p.tables e below (T2.setTop (mkF m 12 #[.val (.ref a1), .val (.ref a2), .val (.ref a2)] [])) _
    refine XS.aloadN X2.here hx rfl (hb hby d25_12) rfl rfl ?_
    show Steps p.tables e below (T2.setTop (mkF m 13 #[.val (.ref a1), .val (.ref a2), .val (.ref a2)] [(.ref a1)])) _
    refine st3 _ ?_
    show Steps p.tables e below (T3.setTop (mkF m 16 #[.val (.ref a1), .val (.ref a2), .val (.ref a2)] [(.ref f_format_a1)])) _
    refine XS.aloadN X3.here hx rfl (hb hby d25_16) rfl rfl ?_
    show Steps p.tables e below (T3.setTop (mkF m 17 #[.val (.ref a1), .val (.ref a2), .val (.ref a2)] [(.ref a2), (.ref f_format_a1)])) _
    refine st4 _ ?_
    exact k)
  by_cases hc6 : f_format_a1 = f_format_a2
  · obtain ⟨T7, X7, e7, st7⟩ := getF X4 hx hZ hown (host := "") (Or.inl (hw _ (List.mem_of_getElem? (i := 55) rfl))) Via.refl e4 F_high_a1 (g := (mkF m 24 #[.val (.ref a1), .val (.ref a2), .val (.ref a2)] [(.ref a1)])) rfl rfl (hb hby d25_24)
    obtain ⟨T8, X8, e8, st8⟩ := getF X7 hx hZ hown (host := "") (Or.inl (hw _ (List.mem_of_getElem? (i := 55) rfl))) Via.refl e7 F_high_a2 (g := (mkF m 28 #[.val (.ref a1), .val (.ref a2), .val (.ref a2)] [(.ref a2), (.long f_high_a1)])) rfl rfl (hb hby d25_28)
    have pre9 : ∀ t, Steps p.tables e below (T8.setTop (mkF m 32 #[.val (.ref a1), .val (.ref a2), .val (.ref a2)] [(.int (lcmpW f_high_a1 f_high_a2))])) t → Steps p.tables e below (s₁.setTop (entryFrame m #[(.ref a1), (.ref a2)] 3)) t := fun t k => pre5 t (by
      show Steps p.tables e below (T4.setTop (mkF m 20 #[.val (.ref a1), .val (.ref a2), .val (.ref a2)] [(.ref f_format_a2), (.ref f_format_a1)])) _
      refine Jvm.RoadKit.acmp (g := (mkF m 20 #[.val (.ref a1), .val (.ref a2), .val (.ref a2)] [(.ref f_format_a2), (.ref f_format_a1)])) X4 hx rfl rfl rfl (pc0 := 20) (pc' := 23) (same := true) rfl (hb hby d25_20) rfl (decide_eq_true (congrArg Value.ref hc6)) (by decide) (by decide) ?_
      show Steps p.tables e below (T4.setTop (mkF m 23 #[.val (.ref a1), .val (.ref a2), .val (.ref a2)] [])) _
      refine XS.aloadN X4.here hx rfl (hb hby d25_23) rfl rfl ?_
      show Steps p.tables e below (T4.setTop (mkF m 24 #[.val (.ref a1), .val (.ref a2), .val (.ref a2)] [(.ref a1)])) _
      refine st7 _ ?_
      show Steps p.tables e below (T7.setTop (mkF m 27 #[.val (.ref a1), .val (.ref a2), .val (.ref a2)] [(.long f_high_a1)])) _
      refine XS.aloadN X7.here hx rfl (hb hby d25_27) rfl rfl ?_
      show Steps p.tables e below (T7.setTop (mkF m 28 #[.val (.ref a1), .val (.ref a2), .val (.ref a2)] [(.ref a2), (.long f_high_a1)])) _
      refine st8 _ ?_
      show Steps p.tables e below (T8.setTop (mkF m 31 #[.val (.ref a1), .val (.ref a2), .val (.ref a2)] [(.long f_high_a2), (.long f_high_a1)])) _
      refine XS.lcmp X8.here hx rfl (hb hby d25_31) rfl ?_
      exact k)
    by_cases hc10 : f_high_a1 = f_high_a2
    · obtain ⟨T11, X11, e11, st11⟩ := getF X8 hx hZ hown (host := "") (Or.inl (hw _ (List.mem_of_getElem? (i := 57) rfl))) Via.refl e8 F_low_a1 (g := (mkF m 36 #[.val (.ref a1), .val (.ref a2), .val (.ref a2)] [(.ref a1)])) rfl rfl (hb hby d25_36)
      obtain ⟨T12, X12, e12, st12⟩ := getF X11 hx hZ hown (host := "") (Or.inl (hw _ (List.mem_of_getElem? (i := 57) rfl))) Via.refl e11 F_low_a2 (g := (mkF m 40 #[.val (.ref a1), .val (.ref a2), .val (.ref a2)] [(.ref a2), (.long f_low_a1)])) rfl rfl (hb hby d25_40)
      obtain ⟨v14, hv14⟩ : ∃ z : Int32, z = (if f_low_a1 = f_low_a2 then (1 : Int32) else (0 : Int32)) := ⟨_, rfl⟩
      have pre15 : ∀ t, Steps p.tables e below (T12.setTop (mkF m 52 #[.val (.ref a1), .val (.ref a2), .val (.ref a2)] [(.int v14)])) t → Steps p.tables e below (s₁.setTop (entryFrame m #[(.ref a1), (.ref a2)] 3)) t := fun t k => pre9 t (by
        show Steps p.tables e below (T8.setTop (mkF m 32 #[.val (.ref a1), .val (.ref a2), .val (.ref a2)] [(.int (lcmpW f_high_a1 f_high_a2))])) _
        refine XS.ifNo X8.here hx rfl (hb hby d25_32) rfl ((if0 _ _).trans (teq (own_lc_teq hc10)).2) ?_
        show Steps p.tables e below (T8.setTop (mkF m 35 #[.val (.ref a1), .val (.ref a2), .val (.ref a2)] [])) _
        refine XS.aloadN X8.here hx rfl (hb hby d25_35) rfl rfl ?_
        show Steps p.tables e below (T8.setTop (mkF m 36 #[.val (.ref a1), .val (.ref a2), .val (.ref a2)] [(.ref a1)])) _
        refine st11 _ ?_
        show Steps p.tables e below (T11.setTop (mkF m 39 #[.val (.ref a1), .val (.ref a2), .val (.ref a2)] [(.long f_low_a1)])) _
        refine XS.aloadN X11.here hx rfl (hb hby d25_39) rfl rfl ?_
        show Steps p.tables e below (T11.setTop (mkF m 40 #[.val (.ref a1), .val (.ref a2), .val (.ref a2)] [(.ref a2), (.long f_low_a1)])) _
        refine st12 _ ?_
        show Steps p.tables e below (T12.setTop (mkF m 43 #[.val (.ref a1), .val (.ref a2), .val (.ref a2)] [(.long f_low_a2), (.long f_low_a1)])) _
        refine XS.lcmp X12.here hx rfl (hb hby d25_43) rfl ?_
        show Steps p.tables e below (T12.setTop (mkF m 44 #[.val (.ref a1), .val (.ref a2), .val (.ref a2)] [(.int (lcmpW f_low_a1 f_low_a2))])) _
        by_cases hc13 : f_low_a1 = f_low_a2
        · refine XS.ifNo X12.here hx rfl (hb hby d25_44) rfl ((if0 _ _).trans (teq (own_lc_teq hc13)).2) ?_
          show Steps p.tables e below (T12.setTop (mkF m 47 #[.val (.ref a1), .val (.ref a2), .val (.ref a2)] [])) _
          refine XS.iconst X12.here hx rfl (hb hby d25_47) ?_
          show Steps p.tables e below (T12.setTop (mkF m 48 #[.val (.ref a1), .val (.ref a2), .val (.ref a2)] [(.int (1 : Int32))])) _
          refine XS.goto X12.here hx rfl (pc0 := 48) (pc' := 52) rfl (hb hby d25_48) (by decide) (by decide) ?_
          rw [show v14 = (1 : Int32) from hv14.trans (if_pos hc13)] at k
          exact k
        · refine XS.ifYes X12.here hx rfl (pc0 := 44) (pc' := 51) rfl (hb hby d25_44) rfl ((if0 _ _).trans (feq (own_lc_feq hc13)).2) (by decide) (by decide) ?_
          show Steps p.tables e below (T12.setTop (mkF m 51 #[.val (.ref a1), .val (.ref a2), .val (.ref a2)] [])) _
          refine XS.iconst X12.here hx rfl (hb hby d25_51) ?_
          rw [show v14 = (0 : Int32) from hv14.trans (if_neg hc13)] at k
          exact k)
      have er : (f25v f_format_a1 f_format_a2 f_high_a1 f_high_a2 f_low_a1 f_low_a2) = (nar .boolean v14) := by subst hv14; exact ((if_pos hc6).trans (if_pos hc10))
      obtain ⟨fs, hr, hrun, hended, hW, hsame⟩ := X12.leave (v := some (.int (nar .boolean v14))) (fun h => by rw [Bd.returns] at h; cases h)
      refine ⟨_, _, pre15 _ ?_, hrun, hended, _, _, rfl, ?_, ⟨_, rfl⟩, hW, hsame.mono (by decide) (by decide)⟩
      · show Steps p.tables e below (T12.setTop (mkF m 52 #[.val (.ref a1), .val (.ref a2), .val (.ref a2)] [(.int v14)])) _
        exact retN X12 hx (t := .boolean) Bd.returns (by simp) (hb hby d25_52) hr
      · show Q25v Z a1 a2 f_format_a1 f_format_a2 f_high_a1 f_high_a2 f_low_a1 f_low_a2 h0 n0 _ T12.heap _
        rw [e12]
        exact ⟨congrArg (fun z => some (Value.int z)) er.symm, N0, rfl⟩
    · have er : (f25v f_format_a1 f_format_a2 f_high_a1 f_high_a2 f_low_a1 f_low_a2) = (0 : Int32) := by exact ((if_pos hc6).trans (if_neg hc10))
      obtain ⟨fs, hr, hrun, hended, hW, hsame⟩ := X8.leave (v := some (.int (0 : Int32))) (fun h => by rw [Bd.returns] at h; cases h)
      refine ⟨_, _, pre9 _ ?_, hrun, hended, _, _, rfl, ?_, ⟨_, rfl⟩, hW, hsame.mono (by decide) (by decide)⟩
      · show Steps p.tables e below (T8.setTop (mkF m 32 #[.val (.ref a1), .val (.ref a2), .val (.ref a2)] [(.int (lcmpW f_high_a1 f_high_a2))])) _
        refine XS.ifYes X8.here hx rfl (pc0 := 32) (pc' := 51) rfl (hb hby d25_32) rfl ((if0 _ _).trans (feq (own_lc_feq hc10)).2) (by decide) (by decide) ?_
        show Steps p.tables e below (T8.setTop (mkF m 51 #[.val (.ref a1), .val (.ref a2), .val (.ref a2)] [])) _
        refine XS.iconst X8.here hx rfl (hb hby d25_51) ?_
        show Steps p.tables e below (T8.setTop (mkF m 52 #[.val (.ref a1), .val (.ref a2), .val (.ref a2)] [(.int (0 : Int32))])) _
        exact retN X8 hx (t := .boolean) Bd.returns (by simp) (hb hby d25_52) hr
      · show Q25v Z a1 a2 f_format_a1 f_format_a2 f_high_a1 f_high_a2 f_low_a1 f_low_a2 h0 n0 _ T8.heap _
        rw [e8]
        exact ⟨congrArg (fun z => some (Value.int z)) er.symm, N0, rfl⟩
  · have er : (f25v f_format_a1 f_format_a2 f_high_a1 f_high_a2 f_low_a1 f_low_a2) = (0 : Int32) := by exact (if_neg hc6)
    obtain ⟨fs, hr, hrun, hended, hW, hsame⟩ := X4.leave (v := some (.int (0 : Int32))) (fun h => by rw [Bd.returns] at h; cases h)
    refine ⟨_, _, pre5 _ ?_, hrun, hended, _, _, rfl, ?_, ⟨_, rfl⟩, hW, hsame.mono (by decide) (by decide)⟩
    · show Steps p.tables e below (T4.setTop (mkF m 20 #[.val (.ref a1), .val (.ref a2), .val (.ref a2)] [(.ref f_format_a2), (.ref f_format_a1)])) _
      refine Jvm.RoadKit.acmp (g := (mkF m 20 #[.val (.ref a1), .val (.ref a2), .val (.ref a2)] [(.ref f_format_a2), (.ref f_format_a1)])) X4 hx rfl rfl rfl (pc0 := 20) (pc' := 51) (same := false) rfl (hb hby d25_20) rfl (decide_eq_false fun q => hc6 (Value.ref.inj q)) (by decide) (by decide) ?_
      show Steps p.tables e below (T4.setTop (mkF m 51 #[.val (.ref a1), .val (.ref a2), .val (.ref a2)] [])) _
      refine XS.iconst X4.here hx rfl (hb hby d25_51) ?_
      show Steps p.tables e below (T4.setTop (mkF m 52 #[.val (.ref a1), .val (.ref a2), .val (.ref a2)] [(.int (0 : Int32))])) _
      exact retN X4 hx (t := .boolean) Bd.returns (by simp) (hb hby d25_52) hr
    · show Q25v Z a1 a2 f_format_a1 f_format_a2 f_high_a1 f_high_a2 f_low_a1 f_low_a2 h0 n0 _ T4.heap _
      rw [e4]
      exact ⟨congrArg (fun z => some (Value.int z)) er.symm, N0, rfl⟩
theorem d30_0 : decode jdk_18_method_1_code 0 = .ok (.aload_n 0, 1) := by decide +kernel
theorem d30_1 : decode jdk_18_method_1_code 1 = .ok (.invokespecial 1, 3) := by decide +kernel
theorem d30_4 : decode jdk_18_method_1_code 4 = .ok (.return_, 1) := by decide +kernel
theorem pn_30 : plainName "java/lang/Number" = true := by first | (simp [plainName, overriddenIn]; done) | decide +kernel
theorem ef_30 (m : MethodId) (a1 : Addr) : entryFrame m #[(.ref a1)] 1 = mkF m 0 #[.val (.ref a1)] [] := by first | (simp [entryFrame, mkF, argsToLocals, Value.category]; done) | rfl
def Q30 (Z : State) (a1 : Addr)  (h0 : Heap) (n0 : Nat) (v : Option Value) (h : Heap) (L : List Loc) : Prop := v = none ∧ Fr n0 L ∧ Keep h0 h ([] : List Addr)
set_option maxRecDepth 65536 in
set_option maxHeartbeats 40000000 in
theorem rm30 (l : Launch) (Z : State) (a0 : Array Value) (hw : ∀ d ∈ tables_1, d.before a0 Z = true) (ws : List Jvm.Cond) (a1 : Addr)  (h0 : Heap) (n0 : Nat) (Z0 : n0 ≤ h0.size) :
    MetFree l (⟨"java/lang/Number", "<init>", "()V"⟩ : MethodName) (head1 (Jvm.Cond.code (⟨"java/lang/Number", "<init>", "()V"⟩ : MethodName) jdk_18_method_1_code 1 none :: ws) ({ frames := 1, cells := 0, slots := 0, locals := 12 } : Room)) (fun a U => a = #[(.ref a1)] ∧ Z.Warmed39 U.vm ∧ U.heap = h0) (fun _ _ _ _ _ => True) (fun _ U o U' => ∃ v L, o = .returned v ∧ Q30 Z a1 h0 n0 v U'.heap L ∧ FrameEnd U o U' L ({ frames := 1, cells := 0, slots := 0, locals := 12 } : Room).cells ({ frames := 1, cells := 0, slots := 0, locals := 12 } : Room).slots) := by
  refine MetFree.of_bodySF (plainFor_of_name pn_30) hisR ?_
  intro p e s m args below meth c s₁ Bd hml0 hP hK
  obtain ⟨rfl, hZ, hh⟩ := hP
  have hx := Bd.exec
  have hby := Bd.bytes
  have hml : c.maxLocals = 1 := hml0
  have hown : s.vm.findClass "java/lang/Number" = some m.cls := findClass_of_methodNamed Bd.named
  have hnm := (name_of_methodNamed Bd.named Bd.method).1
  have X0 : Stand p l e ({ frames := 1, cells := 0, slots := 0, locals := 12 } : Room) s m #[(.ref a1)] below meth c s₁ [] 0 0 := Stand.of_body Bd
  have e0 : s₁.heap = h0 := by rw [← hh, Bd.state]; rfl
  have N0 := Fr.nil n0
  have pre0 : ∀ t, Steps p.tables e below (s₁.setTop (mkF m 0 #[.val (.ref a1)] [])) t → Steps p.tables e below (s₁.setTop (entryFrame m #[(.ref a1)] 1)) t := fun t k => castTop (ef_30 m a1) k
  have K0 := Keep.refl h0 ([] : List Addr)
  obtain ⟨T1, X1, e1, st1⟩ := initO X0 hx hZ hown (hw _ (List.mem_of_getElem? (i := 159) rfl)) (hw _ (List.mem_of_getElem? (i := 51) rfl)) (hw _ (List.mem_of_getElem? (i := 52) rfl)) e0 (g := (mkF m 1 #[.val (.ref a1)] [(.ref a1)])) rfl (by rw [hml]; rfl) rfl (hb hby d30_1) (by decide) (W := 0) (by show 2 * 0 + _ ≤ _; exact Nat.le_of_eq rfl) (by decide)
  obtain ⟨fs, hr, hrun, hended, hW, hsame⟩ := X1.leave (v := none) (fun _ => rfl)
  refine ⟨_, _, pre0 _ ?_, hrun, hended, _, _, rfl, ?_, ⟨_, rfl⟩, hW, hsame.mono (by decide) (by decide)⟩
  · show Steps p.tables e below (s₁.setTop (mkF m 0 #[.val (.ref a1)] [])) _
    refine XS.aloadN X0.here hx rfl (hb hby d30_0) rfl rfl ?_
    show Steps p.tables e below (s₁.setTop (mkF m 1 #[.val (.ref a1)] [(.ref a1)])) _
    refine st1 _ ?_
    show Steps p.tables e below (T1.setTop (mkF m 4 #[.val (.ref a1)] [])) _
    exact X1.returnOut hx Bd.returns (hb hby d30_4) hr
  · show Q30 Z a1 h0 n0 _ T1.heap _
    rw [e1]
    exact ⟨rfl, N0, K0⟩
theorem pd_7 : parseMethodDescriptor "()V" = some ⟨[], none⟩ := by decide +kernel
theorem d29_0 : decode jdk_35_method_26_code 0 = .ok (.aload_n 0, 1) := by decide +kernel
theorem d29_1 : decode jdk_35_method_26_code 1 = .ok (.invokespecial 270, 3) := by decide +kernel
theorem d29_4 : decode jdk_35_method_26_code 4 = .ok (.aload_n 0, 1) := by decide +kernel
theorem d29_5 : decode jdk_35_method_26_code 5 = .ok (.lload_n 1, 1) := by decide +kernel
theorem d29_6 : decode jdk_35_method_26_code 6 = .ok (.putfield 273, 3) := by decide +kernel
theorem d29_9 : decode jdk_35_method_26_code 9 = .ok (.return_, 1) := by decide +kernel
theorem pn_29 : plainName "java/lang/Long" = true := by first | (simp [plainName, overriddenIn]; done) | decide +kernel
theorem ef_29 (m : MethodId) (a1 : Addr) (q2 : Int64) : entryFrame m #[(.ref a1), (.long q2)] 3 = mkF m 0 #[.val (.ref a1), .val (.long q2), .second] [] := by first | (simp [entryFrame, mkF, argsToLocals, Value.category]; done) | rfl
def Q29 (Z : State) (a1 : Addr) (q2 : Int64)  (h0 : Heap) (n0 : Nat) (v : Option Value) (h : Heap) (L : List Loc) : Prop := v = none ∧ Fr n0 L ∧ Keep h0 h ([a1] : List Addr) ∧ Exa Z h a1 "java/lang/Long"
set_option maxRecDepth 65536 in
set_option maxHeartbeats 40000000 in
theorem rm29 (l : Launch) (Z : State) (a0 : Array Value) (hw : ∀ d ∈ tables_1, d.before a0 Z = true) (ws : List Jvm.Cond) (a1 : Addr) (q2 : Int64)  (h0 : Heap) (n0 : Nat) (Z0 : n0 ≤ h0.size) (E_a1 : Exa Z h0 a1 "java/lang/Long") (F_value_a1 : Fld Z h0 a1 "java/lang/Long" "value" "J" (.long (0 : Int64))) (g_a1 : n0 ≤ a1) :
    MetFree l (⟨"java/lang/Long", "<init>", "(J)V"⟩ : MethodName) (head1 (Jvm.Cond.code (⟨"java/lang/Long", "<init>", "(J)V"⟩ : MethodName) jdk_35_method_26_code 3 none :: ws) ({ frames := 2, cells := 0, slots := 0, locals := 24 } : Room)) (fun a U => a = #[(.ref a1), (.long q2)] ∧ Z.Warmed39 U.vm ∧ U.heap = h0) (fun _ _ _ _ _ => True) (fun _ U o U' => ∃ v L, o = .returned v ∧ Q29 Z a1 q2 h0 n0 v U'.heap L ∧ FrameEnd U o U' L ({ frames := 2, cells := 0, slots := 0, locals := 24 } : Room).cells ({ frames := 2, cells := 0, slots := 0, locals := 24 } : Room).slots) := by
  refine MetFree.of_bodySF (plainFor_of_name pn_29) hisR ?_
  intro p e s m args below meth c s₁ Bd hml0 hP hK
  obtain ⟨rfl, hZ, hh⟩ := hP
  have hx := Bd.exec
  have hby := Bd.bytes
  have hml : c.maxLocals = 3 := hml0
  have hown : s.vm.findClass "java/lang/Long" = some m.cls := findClass_of_methodNamed Bd.named
  have hnm := (name_of_methodNamed Bd.named Bd.method).1
  have X0 : Stand p l e ({ frames := 2, cells := 0, slots := 0, locals := 24 } : Room) s m #[(.ref a1), (.long q2)] below meth c s₁ [] 0 0 := Stand.of_body Bd
  have e0 : s₁.heap = h0 := by rw [← hh, Bd.state]; rfl
  have N0 := Fr.nil n0
  have pre0 : ∀ t, Steps p.tables e below (s₁.setTop (mkF m 0 #[.val (.ref a1), .val (.long q2), .second] [])) t → Steps p.tables e below (s₁.setTop (entryFrame m #[(.ref a1), (.long q2)] 3)) t := fun t k => castTop (ef_29 m a1 q2) k
  have K0 := Keep.refl h0 ([a1] : List Addr)
  obtain ⟨_, _, ⟨T1, L1, k1, n1⟩, -, X1, ⟨Lc1, hQ1, l1, y1, z1⟩, st1⟩ := X0.specialBack hx (y := (⟨"java/lang/Number", "<init>", "()V"⟩ : MethodName)) rfl hown (mvT hZ (hw _ (List.mem_of_getElem? (i := 153) rfl))) (mvT hZ (hw _ (List.mem_of_getElem? (i := 154) rfl))) (mvT hZ (hw _ (List.mem_of_getElem? (i := 158) rfl))) (by decide) (backOf (W := 0) (rm30 l Z a0 hw [] a1 h0 n0 Z0) hZ (hw _ (List.mem_of_getElem? (i := 158) rfl)) (hw _ (List.mem_of_getElem? (i := 157) rfl)) (by decide) (by decide)) (g := (mkF m 1 #[.val (.ref a1), .val (.long q2), .second] [(.ref a1)])) rfl (by rw [hml]; rfl) (Steps.refl _) (a := a1) (argsL := []) (rest := []) (lenOf pd_7 rfl) rfl (by show 2 * 0 + _ ≤ _; exact Nat.le_of_eq rfl) (hb hby d29_1) (fun _ _ => ⟨rfl, e0, (by decide : 0 + 0 ≤ _), (by decide : 0 + 0 ≤ _)⟩)
  dsimp only [Pt.U, Pt.locs, Pt.cells, Pt.slots] at X1 l1 y1 z1 st1 hQ1
  subst l1 y1 z1
  obtain ⟨h1, e1⟩ : ∃ z, T1.heap = z := ⟨_, rfl⟩
  rw [e1] at hQ1
  obtain ⟨rfl, N1q, Kc1⟩ := hQ1
  have E_a1_1 : Exa Z h1 a1 "java/lang/Long" := E_a1.keep Kc1
  have F_value_a1_1 : Fld Z h1 a1 "java/lang/Long" "value" "J" (.long (0 : Int64)) := F_value_a1.keep Kc1 nin0
  have K1 := K0.trans Kc1 all0
  have Zs1 := Nat.le_trans Z0 Kc1.1
  have N1 := Fr.app N0 N1q
  obtain ⟨T2, h2, X2, e2, W2, st2⟩ := putF X1 hx hZ hown (host := "") (Or.inl (hw _ (List.mem_of_getElem? (i := 160) rfl))) Via.refl e1 F_value_a1_1 E_a1_1 (Or.inr ⟨(hw _ (List.mem_of_getElem? (i := 161) rfl)), rfl, hnm⟩) (hw _ (List.mem_of_getElem? (i := 148) rfl)) (ty := .long) (by decide) rfl rfl (g := (mkF m 6 #[.val (.ref a1), .val (.long q2), .second] [(.long q2), (.ref a1)])) rfl rfl (hb hby d29_6)
  have E_a1_2 : Exa Z h2 a1 "java/lang/Long" := E_a1_1.wr W2
  have K2 := K1.wr W2 (Or.inl (List.mem_of_getElem? (i := 0) rfl))
  have Zs2 := Nat.le_trans Zs1 (Keep.of_wr W2).1
  have N2 := Fr.snoc X2 N1 g_a1
  have F_value_a1_2 : Fld Z h2 a1 "java/lang/Long" "value" "J" (.long q2) := F_value_a1_1.same W2
  obtain ⟨fs, hr, hrun, hended, hW, hsame⟩ := X2.leave (v := none) (fun _ => rfl)
  refine ⟨_, _, pre0 _ ?_, hrun, hended, _, _, rfl, ?_, ⟨_, rfl⟩, hW, hsame.mono (by decide) (by decide)⟩
  · show Steps p.tables e below (s₁.setTop (mkF m 0 #[.val (.ref a1), .val (.long q2), .second] [])) _
    refine XS.aloadN X0.here hx rfl (hb hby d29_0) rfl rfl ?_
    show Steps p.tables e below (s₁.setTop (mkF m 1 #[.val (.ref a1), .val (.long q2), .second] [(.ref a1)])) _
    refine st1.trans ?_
    show Steps p.tables e below (T1.setTop (mkF m 4 #[.val (.ref a1), .val (.long q2), .second] [])) _
    refine XS.aloadN X1.here hx rfl (hb hby d29_4) rfl rfl ?_
    show Steps p.tables e below (T1.setTop (mkF m 5 #[.val (.ref a1), .val (.long q2), .second] [(.ref a1)])) _
    refine XS.lloadN X1.here hx rfl (hb hby d29_5) rfl ?_
    show Steps p.tables e below (T1.setTop (mkF m 6 #[.val (.ref a1), .val (.long q2), .second] [(.long q2), (.ref a1)])) _
    refine st2 _ ?_
    show Steps p.tables e below (T2.setTop (mkF m 9 #[.val (.ref a1), .val (.long q2), .second] [])) _
    exact X2.returnOut hx Bd.returns (hb hby d29_9) hr
  · show Q29 Z a1 q2 h0 n0 _ T2.heap _
    rw [e2]
    exact ⟨rfl, N2, K2, E_a1_2⟩
theorem pd_8 : parseMethodDescriptor "(J)V" = some ⟨[.long], none⟩ := by decide +kernel
theorem d28_0 : decode jdk_35_method_24_code 0 = .ok (.sipush 128, 3) := by decide +kernel
theorem d28_3 : decode jdk_35_method_24_code 3 = .ok (.istore_n 2, 1) := by decide +kernel
theorem d28_4 : decode jdk_35_method_24_code 4 = .ok (.lload_n 0, 1) := by decide +kernel
theorem d28_5 : decode jdk_35_method_24_code 5 = .ok (.ldc2_w 230, 3) := by decide +kernel
theorem d28_8 : decode jdk_35_method_24_code 8 = .ok (.lcmp, 1) := by decide +kernel
theorem d28_9 : decode jdk_35_method_24_code 9 = .ok (.ifCond .lt 22, 3) := by decide +kernel
theorem d28_12 : decode jdk_35_method_24_code 12 = .ok (.lload_n 0, 1) := by decide +kernel
theorem d28_13 : decode jdk_35_method_24_code 13 = .ok (.ldc2_w 232, 3) := by decide +kernel
theorem d28_16 : decode jdk_35_method_24_code 16 = .ok (.lcmp, 1) := by decide +kernel
theorem d28_17 : decode jdk_35_method_24_code 17 = .ok (.ifCond .gt 14, 3) := by decide +kernel
theorem d28_20 : decode jdk_35_method_24_code 20 = .ok (.getstatic 234, 3) := by decide +kernel
theorem d28_23 : decode jdk_35_method_24_code 23 = .ok (.lload_n 0, 1) := by decide +kernel
theorem d28_24 : decode jdk_35_method_24_code 24 = .ok (.l2i, 1) := by decide +kernel
theorem d28_25 : decode jdk_35_method_24_code 25 = .ok (.sipush 128, 3) := by decide +kernel
theorem d28_28 : decode jdk_35_method_24_code 28 = .ok (.iadd, 1) := by decide +kernel
theorem d28_29 : decode jdk_35_method_24_code 29 = .ok (.aaload, 1) := by decide +kernel
theorem d28_30 : decode jdk_35_method_24_code 30 = .ok (.areturn, 1) := by decide +kernel
theorem d28_31 : decode jdk_35_method_24_code 31 = .ok (.new 1, 3) := by decide +kernel
theorem d28_34 : decode jdk_35_method_24_code 34 = .ok (.dup, 1) := by decide +kernel
theorem d28_35 : decode jdk_35_method_24_code 35 = .ok (.lload_n 0, 1) := by decide +kernel
theorem d28_36 : decode jdk_35_method_24_code 36 = .ok (.invokespecial 240, 3) := by decide +kernel
theorem d28_39 : decode jdk_35_method_24_code 39 = .ok (.areturn, 1) := by decide +kernel
theorem pn_28 : plainName "java/lang/Long" = true := by first | (simp [plainName, overriddenIn]; done) | decide +kernel
theorem ef_28 (m : MethodId) (q1 : Int64) : entryFrame m #[(.long q1)] 3 = mkF m 0 #[.val (.long q1), .second, .unset] [] := by first | (simp [entryFrame, mkF, argsToLocals, Value.category]; done) | rfl
def Q28 (Z : State) (q1 : Int64)  (h0 : Heap) (n0 : Nat) (v : Option Value) (h : Heap) (L : List Loc) : Prop := ∃ (b : Jvm.Addr), v = some (.ref b) ∧ Fr n0 L ∧ Keep h0 h ([] : List Addr) ∧ Exa Z h b "java/lang/Long"
set_option maxRecDepth 65536 in
set_option maxHeartbeats 40000000 in
theorem rm28 (l : Launch) (Z : State) (a0 : Array Value) (hw : ∀ d ∈ tables_1, d.before a0 Z = true) (ws : List Jvm.Cond) (q1 : Int64)  (h0 : Heap) (n0 : Nat) (Z0 : n0 ≤ h0.size) (hbox : own_Box Z h0) :
    MetFree l (⟨"java/lang/Long", "valueOf", "(J)Ljava/lang/Long;"⟩ : MethodName) (head1 (Jvm.Cond.code (⟨"java/lang/Long", "valueOf", "(J)Ljava/lang/Long;"⟩ : MethodName) jdk_35_method_24_code 3 (some (.object "java/lang/Long")) :: ws) ({ frames := 3, cells := 1, slots := 1, locals := 39 } : Room)) (fun a U => a = #[(.long q1)] ∧ Z.Warmed39 U.vm ∧ U.heap = h0) (fun _ _ _ _ _ => True) (fun _ U o U' => ∃ v L, o = .returned v ∧ Q28 Z q1 h0 n0 v U'.heap L ∧ FrameEnd U o U' L ({ frames := 3, cells := 1, slots := 1, locals := 39 } : Room).cells ({ frames := 3, cells := 1, slots := 1, locals := 39 } : Room).slots) := by
  refine MetFree.of_bodySF (plainFor_of_name pn_28) hisR ?_
  intro p e s m args below meth c s₁ Bd hml0 hP hK
  obtain ⟨rfl, hZ, hh⟩ := hP
  have hx := Bd.exec
  have hby := Bd.bytes
  have hml : c.maxLocals = 3 := hml0
  have hown : s.vm.findClass "java/lang/Long" = some m.cls := findClass_of_methodNamed Bd.named
  have hnm := (name_of_methodNamed Bd.named Bd.method).1
  have X0 : Stand p l e ({ frames := 3, cells := 1, slots := 1, locals := 39 } : Room) s m #[(.long q1)] below meth c s₁ [] 0 0 := Stand.of_body Bd
  have e0 : s₁.heap = h0 := by rw [← hh, Bd.state]; rfl
  have N0 := Fr.nil n0
  have pre0 : ∀ t, Steps p.tables e below (s₁.setTop (mkF m 0 #[.val (.long q1), .second, .unset] [])) t → Steps p.tables e below (s₁.setTop (entryFrame m #[(.long q1)] 3)) t := fun t k => castTop (ef_28 m q1) k
  have K0 := Keep.refl h0 ([] : List Addr)
  obtain ⟨ca, clx, bx1, bx2, bx3, bx4⟩ := hbox
  have pre1 : ∀ t, Steps p.tables e below (s₁.setTop (mkF m 9 #[.val (.long q1), .second, .val (.int (128 : Int32))] [(.int (lcmpW q1 (-128 : Int64)))])) t → Steps p.tables e below (s₁.setTop (entryFrame m #[(.long q1)] 3)) t := fun t k => pre0 t (by
    show Steps p.tables e below (s₁.setTop (mkF m 0 #[.val (.long q1), .second, .unset] [])) _
    refine XS.sipush X0.here hx rfl (hb hby d28_0) ?_
    show Steps p.tables e below (s₁.setTop (mkF m 3 #[.val (.long q1), .second, .unset] [(.int (128 : Int32))])) _
    refine XS.istoreN X0.here hx rfl (hb hby d28_3) rfl (l' := #[.val (.long q1), .second, .val (.int (128 : Int32))]) rfl ?_
    show Steps p.tables e below (s₁.setTop (mkF m 4 #[.val (.long q1), .second, .val (.int (128 : Int32))] [])) _
    refine XS.lloadN X0.here hx rfl (hb hby d28_4) rfl ?_
    show Steps p.tables e below (s₁.setTop (mkF m 5 #[.val (.long q1), .second, .val (.int (128 : Int32))] [(.long q1)])) _
    refine X0.ldc2Long hx hown (mvT hZ (hw _ (List.mem_of_getElem? (i := 145) rfl))) (g := (mkF m 5 #[.val (.long q1), .second, .val (.int (128 : Int32))] [(.long q1)])) rfl (hb hby d28_5) _ ?_
    show Steps p.tables e below (s₁.setTop (mkF m 8 #[.val (.long q1), .second, .val (.int (128 : Int32))] [(.long (-128 : Int64)), (.long q1)])) _
    refine XS.lcmp X0.here hx rfl (hb hby d28_8) rfl ?_
    exact k)
  by_cases hc2 : q1 < (-128 : Int64)
  · obtain ⟨T3, h3, X3, e3, E3, Ax3, D3, -, st3⟩ := newO X0 hx hZ hown (hw _ (List.mem_of_getElem? (i := 147) rfl)) (hw _ (List.mem_of_getElem? (i := 148) rfl)) (hw _ (List.mem_of_getElem? (i := 143) rfl)) e0 (g := (mkF m 31 #[.val (.long q1), .second, .val (.int (128 : Int32))] [])) rfl (hb hby d28_31) (by decide) (by decide)
    obtain ⟨b3, g3⟩ : ∃ z, z = h0.size := ⟨_, rfl⟩
    rw [← g3] at Ax3 D3 st3
    have g_b3 : n0 ≤ b3 := Nat.le_trans Z0 (Nat.le_of_eq g3.symm)
    have sz_b3 : h0.size ≤ b3 := Nat.le_trans K0.1 (Nat.le_of_eq g3.symm)
    have S_cache_3 : Sta Z h3 "java/lang/Long$LongCache" "cache" "[Ljava/lang/Long;" (.ref ca) := bx1.ext E3
    have K3 := K0.ext E3
    have Zs3 := Nat.le_trans Z0 E3.1
    have E_b3_3 : Exa Z h3 b3 "java/lang/Long" := Ax3
    have F_value_b3_3 : Fld Z h3 b3 "java/lang/Long" "value" "J" (.long (0 : Int64)) := D3 (Or.inr (hw _ (List.mem_of_getElem? (i := 161) rfl))) (ty := .long) (by decide)
    obtain ⟨_, _, ⟨T4, L4, k4, n4⟩, -, X4, ⟨Lc4, hQ4, l4, y4, z4⟩, st4⟩ := X3.specialBack hx (y := (⟨"java/lang/Long", "<init>", "(J)V"⟩ : MethodName)) rfl hown (mvT hZ (hw _ (List.mem_of_getElem? (i := 149) rfl))) (mvT hZ (hw _ (List.mem_of_getElem? (i := 150) rfl))) (mvT hZ (hw _ (List.mem_of_getElem? (i := 152) rfl))) (by decide) (backOf (W := 1) (rm29 l Z a0 hw [] b3 q1 h3 n0 Zs3 E_b3_3 F_value_b3_3 g_b3) hZ (hw _ (List.mem_of_getElem? (i := 152) rfl)) (hw _ (List.mem_of_getElem? (i := 143) rfl)) (by decide) (by decide)) (g := (mkF m 36 #[.val (.long q1), .second, .val (.int (128 : Int32))] [(.long q1), (.ref b3), (.ref b3)])) rfl (by rw [hml]; rfl) (Steps.refl _) (a := b3) (argsL := [(.long q1)]) (rest := [(.ref b3)]) (lenOf pd_8 rfl) rfl (by show 2 * 0 + _ ≤ _; exact Nat.le_of_eq rfl) (hb hby d28_36) (fun _ _ => ⟨rfl, e3, (by decide : 1 + 0 ≤ _), (by decide : 1 + 0 ≤ _)⟩)
    dsimp only [Pt.U, Pt.locs, Pt.cells, Pt.slots] at X4 l4 y4 z4 st4 hQ4
    subst l4 y4 z4
    obtain ⟨h4, e4⟩ : ∃ z, T4.heap = z := ⟨_, rfl⟩
    rw [e4] at hQ4
    obtain ⟨rfl, N4q, Kc4, E_b3_4q⟩ := hQ4
    have K4 := K3.trans Kc4 (allS (Or.inr sz_b3) all0)
    have Zs4 := Nat.le_trans Zs3 Kc4.1
    have E_b3_4 : Exa Z h4 b3 "java/lang/Long" := E_b3_4q
    have N4 := Fr.app N0 N4q
    obtain ⟨fs, hr, hrun, hended, hW, hsame⟩ := X4.leave (v := some (.ref b3)) (fun h => by rw [Bd.returns] at h; cases h)
    refine ⟨_, _, pre1 _ ?_, hrun, hended, _, _, rfl, ?_, ⟨_, rfl⟩, hW, hsame.mono (by decide) (by decide)⟩
    · show Steps p.tables e below (s₁.setTop (mkF m 9 #[.val (.long q1), .second, .val (.int (128 : Int32))] [(.int (lcmpW q1 (-128 : Int64)))])) _
      refine XS.ifYes X0.here hx rfl (pc0 := 9) (pc' := 31) rfl (hb hby d28_9) rfl ((if0 _ _).trans (tlt (own_lc_tlt hc2)).1) (by decide) (by decide) ?_
      show Steps p.tables e below (s₁.setTop (mkF m 31 #[.val (.long q1), .second, .val (.int (128 : Int32))] [])) _
      refine st3 _ ?_
      show Steps p.tables e below (T3.setTop (mkF m 34 #[.val (.long q1), .second, .val (.int (128 : Int32))] [(.ref b3)])) _
      refine XS.dup X3.here hx rfl (hb hby d28_34) rfl rfl ?_
      show Steps p.tables e below (T3.setTop (mkF m 35 #[.val (.long q1), .second, .val (.int (128 : Int32))] [(.ref b3), (.ref b3)])) _
      refine XS.lloadN X3.here hx rfl (hb hby d28_35) rfl ?_
      show Steps p.tables e below (T3.setTop (mkF m 36 #[.val (.long q1), .second, .val (.int (128 : Int32))] [(.long q1), (.ref b3), (.ref b3)])) _
      refine st4.trans ?_
      show Steps p.tables e below (T4.setTop (mkF m 39 #[.val (.long q1), .second, .val (.int (128 : Int32))] [(.ref b3)])) _
      jvm_step X4.here [X4.here.top, hx, (hb hby d28_39), X4.method', Bd.returns, Value.isRef, FieldType.isReference]
      first | (intro acts; rw [hr _ acts rfl rfl rfl]) | rw [hr _ _ rfl rfl rfl]
      exact Steps.refl _
    · show Q28 Z q1 h0 n0 _ T4.heap _
      rw [e4]
      exact ⟨b3, rfl, N4, K4, E_b3_4⟩
  · have pre5 : ∀ t, Steps p.tables e below (s₁.setTop (mkF m 17 #[.val (.long q1), .second, .val (.int (128 : Int32))] [(.int (lcmpW q1 (127 : Int64)))])) t → Steps p.tables e below (s₁.setTop (entryFrame m #[(.long q1)] 3)) t := fun t k => pre1 t (by
      show Steps p.tables e below (s₁.setTop (mkF m 9 #[.val (.long q1), .second, .val (.int (128 : Int32))] [(.int (lcmpW q1 (-128 : Int64)))])) _
      refine XS.ifNo X0.here hx rfl (hb hby d28_9) rfl ((if0 _ _).trans (flt (own_lc_flt hc2)).1) ?_
      show Steps p.tables e below (s₁.setTop (mkF m 12 #[.val (.long q1), .second, .val (.int (128 : Int32))] [])) _
      refine XS.lloadN X0.here hx rfl (hb hby d28_12) rfl ?_
      show Steps p.tables e below (s₁.setTop (mkF m 13 #[.val (.long q1), .second, .val (.int (128 : Int32))] [(.long q1)])) _
      refine X0.ldc2Long hx hown (mvT hZ (hw _ (List.mem_of_getElem? (i := 146) rfl))) (g := (mkF m 13 #[.val (.long q1), .second, .val (.int (128 : Int32))] [(.long q1)])) rfl (hb hby d28_13) _ ?_
      show Steps p.tables e below (s₁.setTop (mkF m 16 #[.val (.long q1), .second, .val (.int (128 : Int32))] [(.long (127 : Int64)), (.long q1)])) _
      refine XS.lcmp X0.here hx rfl (hb hby d28_16) rfl ?_
      exact k)
    by_cases hc6 : (127 : Int64) < q1
    · obtain ⟨T7, h7, X7, e7, E7, Ax7, D7, -, st7⟩ := newO X0 hx hZ hown (hw _ (List.mem_of_getElem? (i := 147) rfl)) (hw _ (List.mem_of_getElem? (i := 148) rfl)) (hw _ (List.mem_of_getElem? (i := 143) rfl)) e0 (g := (mkF m 31 #[.val (.long q1), .second, .val (.int (128 : Int32))] [])) rfl (hb hby d28_31) (by decide) (by decide)
      obtain ⟨b7, g7⟩ : ∃ z, z = h0.size := ⟨_, rfl⟩
      rw [← g7] at Ax7 D7 st7
      have g_b7 : n0 ≤ b7 := Nat.le_trans Z0 (Nat.le_of_eq g7.symm)
      have sz_b7 : h0.size ≤ b7 := Nat.le_trans K0.1 (Nat.le_of_eq g7.symm)
      have S_cache_7 : Sta Z h7 "java/lang/Long$LongCache" "cache" "[Ljava/lang/Long;" (.ref ca) := bx1.ext E7
      have K7 := K0.ext E7
      have Zs7 := Nat.le_trans Z0 E7.1
      have E_b7_7 : Exa Z h7 b7 "java/lang/Long" := Ax7
      have F_value_b7_7 : Fld Z h7 b7 "java/lang/Long" "value" "J" (.long (0 : Int64)) := D7 (Or.inr (hw _ (List.mem_of_getElem? (i := 161) rfl))) (ty := .long) (by decide)
      obtain ⟨_, _, ⟨T8, L8, k8, n8⟩, -, X8, ⟨Lc8, hQ8, l8, y8, z8⟩, st8⟩ := X7.specialBack hx (y := (⟨"java/lang/Long", "<init>", "(J)V"⟩ : MethodName)) rfl hown (mvT hZ (hw _ (List.mem_of_getElem? (i := 149) rfl))) (mvT hZ (hw _ (List.mem_of_getElem? (i := 150) rfl))) (mvT hZ (hw _ (List.mem_of_getElem? (i := 152) rfl))) (by decide) (backOf (W := 1) (rm29 l Z a0 hw [] b7 q1 h7 n0 Zs7 E_b7_7 F_value_b7_7 g_b7) hZ (hw _ (List.mem_of_getElem? (i := 152) rfl)) (hw _ (List.mem_of_getElem? (i := 143) rfl)) (by decide) (by decide)) (g := (mkF m 36 #[.val (.long q1), .second, .val (.int (128 : Int32))] [(.long q1), (.ref b7), (.ref b7)])) rfl (by rw [hml]; rfl) (Steps.refl _) (a := b7) (argsL := [(.long q1)]) (rest := [(.ref b7)]) (lenOf pd_8 rfl) rfl (by show 2 * 0 + _ ≤ _; exact Nat.le_of_eq rfl) (hb hby d28_36) (fun _ _ => ⟨rfl, e7, (by decide : 1 + 0 ≤ _), (by decide : 1 + 0 ≤ _)⟩)
      dsimp only [Pt.U, Pt.locs, Pt.cells, Pt.slots] at X8 l8 y8 z8 st8 hQ8
      subst l8 y8 z8
      obtain ⟨h8, e8⟩ : ∃ z, T8.heap = z := ⟨_, rfl⟩
      rw [e8] at hQ8
      obtain ⟨rfl, N8q, Kc8, E_b7_8q⟩ := hQ8
      have K8 := K7.trans Kc8 (allS (Or.inr sz_b7) all0)
      have Zs8 := Nat.le_trans Zs7 Kc8.1
      have E_b7_8 : Exa Z h8 b7 "java/lang/Long" := E_b7_8q
      have N8 := Fr.app N0 N8q
      obtain ⟨fs, hr, hrun, hended, hW, hsame⟩ := X8.leave (v := some (.ref b7)) (fun h => by rw [Bd.returns] at h; cases h)
      refine ⟨_, _, pre5 _ ?_, hrun, hended, _, _, rfl, ?_, ⟨_, rfl⟩, hW, hsame.mono (by decide) (by decide)⟩
      · show Steps p.tables e below (s₁.setTop (mkF m 17 #[.val (.long q1), .second, .val (.int (128 : Int32))] [(.int (lcmpW q1 (127 : Int64)))])) _
        refine XS.ifYes X0.here hx rfl (pc0 := 17) (pc' := 31) rfl (hb hby d28_17) rfl ((if0 _ _).trans (tlt (own_lc_tgt hc6)).2.2.1) (by decide) (by decide) ?_
        show Steps p.tables e below (s₁.setTop (mkF m 31 #[.val (.long q1), .second, .val (.int (128 : Int32))] [])) _
        refine st7 _ ?_
        show Steps p.tables e below (T7.setTop (mkF m 34 #[.val (.long q1), .second, .val (.int (128 : Int32))] [(.ref b7)])) _
        refine XS.dup X7.here hx rfl (hb hby d28_34) rfl rfl ?_
        show Steps p.tables e below (T7.setTop (mkF m 35 #[.val (.long q1), .second, .val (.int (128 : Int32))] [(.ref b7), (.ref b7)])) _
        refine XS.lloadN X7.here hx rfl (hb hby d28_35) rfl ?_
        show Steps p.tables e below (T7.setTop (mkF m 36 #[.val (.long q1), .second, .val (.int (128 : Int32))] [(.long q1), (.ref b7), (.ref b7)])) _
        refine st8.trans ?_
        show Steps p.tables e below (T8.setTop (mkF m 39 #[.val (.long q1), .second, .val (.int (128 : Int32))] [(.ref b7)])) _
        jvm_step X8.here [X8.here.top, hx, (hb hby d28_39), X8.method', Bd.returns, Value.isRef, FieldType.isReference]
        first | (intro acts; rw [hr _ acts rfl rfl rfl]) | rw [hr _ _ rfl rfl rfl]
        exact Steps.refl _
      · show Q28 Z q1 h0 n0 _ T8.heap _
        rw [e8]
        exact ⟨b7, rfl, N8, K8, E_b7_8⟩
    · obtain ⟨T9, X9, e9, st9⟩ := getS2 X0 hx hZ hown (host := "") (Or.inl (hw _ (List.mem_of_getElem? (i := 170) rfl))) Via.refl e0 bx1 (g := (mkF m 20 #[.val (.long q1), .second, .val (.int (128 : Int32))] [])) rfl (hb hby d28_20)
      have hi10 := inb_of (j := ((q1.toInt32) + (128 : Int32))) bx3 (own_inc hc2 hc6)
      obtain ⟨b10, hb10, E_b10⟩ := bx4 ((q1.toInt32) + (128 : Int32)) hi10
      obtain ⟨fs, hr, hrun, hended, hW, hsame⟩ := X9.leave (v := some (.ref b10)) (fun h => by rw [Bd.returns] at h; cases h)
      refine ⟨_, _, pre5 _ ?_, hrun, hended, _, _, rfl, ?_, ⟨_, rfl⟩, hW, hsame.mono (by decide) (by decide)⟩
      · show Steps p.tables e below (s₁.setTop (mkF m 17 #[.val (.long q1), .second, .val (.int (128 : Int32))] [(.int (lcmpW q1 (127 : Int64)))])) _
        refine XS.ifNo X0.here hx rfl (hb hby d28_17) rfl ((if0 _ _).trans (flt (own_lc_fgt hc6)).2.2.1) ?_
        show Steps p.tables e below (s₁.setTop (mkF m 20 #[.val (.long q1), .second, .val (.int (128 : Int32))] [])) _
        refine st9 _ ?_
        show Steps p.tables e below (T9.setTop (mkF m 23 #[.val (.long q1), .second, .val (.int (128 : Int32))] [(.ref ca)])) _
        refine XS.lloadN X9.here hx rfl (hb hby d28_23) rfl ?_
        show Steps p.tables e below (T9.setTop (mkF m 24 #[.val (.long q1), .second, .val (.int (128 : Int32))] [(.long q1), (.ref ca)])) _
        refine XS.l2i X9.here hx rfl (hb hby d28_24) rfl ?_
        show Steps p.tables e below (T9.setTop (mkF m 25 #[.val (.long q1), .second, .val (.int (128 : Int32))] [(.int (q1.toInt32)), (.ref ca)])) _
        refine XS.sipush X9.here hx rfl (hb hby d28_25) ?_
        show Steps p.tables e below (T9.setTop (mkF m 28 #[.val (.long q1), .second, .val (.int (128 : Int32))] [(.int (128 : Int32)), (.int (q1.toInt32)), (.ref ca)])) _
        refine XS.iadd X9.here hx rfl (hb hby d28_28) rfl ?_
        show Steps p.tables e below (T9.setTop (mkF m 29 #[.val (.long q1), .second, .val (.int (128 : Int32))] [(.int ((q1.toInt32) + (128 : Int32))), (.ref ca)])) _
        refine X9.aaload hx (by rw [e9]; exact bx2.1) (State.isArrayOf_alike hZ.alike bx2.2.1) rfl bx2.2.2 hi10 hb10 (g := (mkF m 29 #[.val (.long q1), .second, .val (.int (128 : Int32))] [(.int ((q1.toInt32) + (128 : Int32))), (.ref ca)])) rfl rfl (hb hby d28_29) _ ?_
        show Steps p.tables e below (T9.setTop (mkF m 30 #[.val (.long q1), .second, .val (.int (128 : Int32))] [(.ref b10)])) _
        jvm_step X9.here [X9.here.top, hx, (hb hby d28_30), X9.method', Bd.returns, Value.isRef, FieldType.isReference]
        first | (intro acts; rw [hr _ acts rfl rfl rfl]) | rw [hr _ _ rfl rfl rfl]
        exact Steps.refl _
      · show Q28 Z q1 h0 n0 _ T9.heap _
        rw [e9]
        exact ⟨b10, rfl, N0, K0, E_b10⟩
theorem own_and0 (x : Int64) {m k z : Int64} (h : (m &&& k) &&& z = 0) : ((x &&& m) &&& k) &&& z = 0 := by
  rw [Int64.and_assoc, Int64.and_assoc, ← Int64.and_assoc m, h, Int64.and_zero]
theorem own_aod (u v w : Int64) : (u ||| v) &&& w = (u &&& w) ||| (v &&& w) := by
  apply Int64.toBitVec_inj.mp; simp only [Int64.toBitVec_and, Int64.toBitVec_or]
  rw [BitVec.and_comm, BitVec.and_or_distrib_left, BitVec.and_comm w.toBitVec, BitVec.and_comm w.toBitVec]
theorem own_or0 (x : Int64) {m a b z : Int64} (h1 : m &&& z = 0) (h2 : a &&& z = 0) (h3 : b &&& z = 0) : (((x &&& m) ||| a) ||| b) &&& z = 0 := by
  rw [own_aod, own_aod, Int64.and_assoc, h1, h2, h3, Int64.and_zero]; decide
theorem own_or1 (x : Int64) {m a z : Int64} (h1 : m &&& z = 0) (h2 : a &&& z = 0) : ((x &&& m) ||| a) &&& z = 0 := by
  rw [own_aod, Int64.and_assoc, h1, h2, Int64.and_zero]; decide
theorem own_ush (x : Int64) {p : Int32} {k : Nat} (h : (p &&& 0x3f).toInt64.toUInt64.toNat = k) (hk : k < 64) : ((x.toUInt64 >>> (p &&& 0x3f).toInt64.toUInt64).toInt64).toBitVec = x.toBitVec >>> k := by
  show (x.toUInt64 >>> (p &&& 0x3f).toInt64.toUInt64).toBitVec = _
  rw [UInt64.toBitVec_shiftRight]
  show x.toBitVec >>> ((p &&& 0x3f).toInt64.toUInt64.toBitVec % 64#64) = _
  rw [BitVec.ushiftRight_eq', BitVec.toNat_umod]
  have : (p &&& 0x3f).toInt64.toUInt64.toBitVec.toNat = k := h
  rw [this]
  show x.toBitVec >>> (k % 64) = _
  rw [Nat.mod_eq_of_lt hk]
theorem own_fin {x : Int64} {p : Int32} {M : Int64} {E : Int32} {k t : Nat} (h : (p &&& 0x3f).toInt64.toUInt64.toNat = k) (hk : k < 64) (hb : x.toBitVec.getLsbD (k + t) = false) (hE : E.toBitVec.getLsbD t = true) : ¬ ((((x.toUInt64 >>> (p &&& 0x3f).toInt64.toUInt64).toInt64) &&& M).toInt32) = E := by
  intro q
  have q1 := congrArg (fun z => z.toBitVec.getLsbD t) q
  simp only [hE, Int64.toBitVec_toInt32, Int64.toBitVec_and, own_ush x h hk] at q1
  rw [BitVec.signExtend_eq_setWidth_of_le _ (by decide : 32 ≤ 64), BitVec.getLsbD_setWidth, BitVec.getLsbD_and, BitVec.getLsbD_ushiftRight, hb] at q1
  simp at q1
theorem own_top (x : Int64) {m z : Int64} {j : Nat} (h : z.toBitVec.getLsbD j = false) : ((x &&& m) &&& z).toBitVec.getLsbD j = false := by
  simp [h]
theorem own_nan {x a : Int64} {p : Int32} {M : Int64} {E : Int32} {k : Nat} (h : (p &&& 0x3f).toInt64.toUInt64.toNat = k) (hk : k < 64) (hx : x &&& a = a) (hM : (a.toBitVec >>> k) &&& M.toBitVec = M.toBitVec) (hE : M.toInt32 = E) : ((((x.toUInt64 >>> (p &&& 0x3f).toInt64.toUInt64).toInt64) &&& M).toInt32) = E := by
  have q : (((x.toUInt64 >>> (p &&& 0x3f).toInt64.toUInt64).toInt64) &&& M) = M := by
    apply Int64.toBitVec_inj.mp
    rw [Int64.toBitVec_and, own_ush x h hk, ← hM, ← BitVec.and_assoc, ← BitVec.ushiftRight_and_distrib, ← Int64.toBitVec_and, hx]
  rw [q, hE]
theorem own_has1 (x a b : Int64) : ((x ||| a) ||| b) &&& a = a := by
  apply Int64.toBitVec_inj.mp; simp only [Int64.toBitVec_and, Int64.toBitVec_or]
  ext i hi; simp
  intro h; simp [h]
theorem own_has2 (x b : Int64) : (x ||| b) &&& b = b := by
  apply Int64.toBitVec_inj.mp; simp only [Int64.toBitVec_and, Int64.toBitVec_or]
  ext i hi; simp
  intro h; simp [h]
theorem own_odd {x M : Int64} {p : Int32} (h : (p &&& 0x3f).toInt64.toUInt64.toNat = 0) (hx : x &&& 1 = 1) (hM : M.toBitVec.getLsbD 0 = true) : ¬ (((x.toUInt64 >>> (p &&& 0x3f).toInt64.toUInt64).toInt64) &&& M) = 0 := by
  intro q
  have q1 := congrArg (fun z => z.toBitVec.getLsbD 0) q
  have x1 := congrArg (fun z => z.toBitVec.getLsbD 0) hx
  have e1 : (1 : Int64).toBitVec.getLsbD 0 = true := by decide
  have e0 : (0 : Int64).toBitVec.getLsbD 0 = false := by decide
  simp only [Int64.toBitVec_and, BitVec.getLsbD_and, e1, Bool.and_true] at x1
  simp only [Int64.toBitVec_and, own_ush x h (by decide), BitVec.getLsbD_and, BitVec.getLsbD_ushiftRight, hM, e0, Nat.zero_add, x1] at q1
  cases q1
def own_by (i : Int32) : Int32 := if i = 0 then 2 else if i = 1 then 4 else if i = 2 then 8 else if i = 3 then 10 else 16
def own_sb (i : Int32) : Int32 := if i = 0 then 10 else if i = 1 then 23 else if i = 2 then 52 else if i = 3 then 64 else 112
def own_eb (i : Int32) : Int32 := if i = 0 then 5 else if i = 1 then 8 else if i = 2 then 11 else if i = 3 then 15 else 15
def own_xb (i : Int32) : Int32 := if i = 0 then 0 else if i = 1 then 0 else if i = 2 then 0 else if i = 3 then 1 else 0

def own_ix (i : Int32) : Prop := i = 0 ∨ i = 1 ∨ i = 2 ∨ i = 3 ∨ i = 4
def own_CH (i : Int32) : Int64 := (f24 (((f22 (own_xb i) (own_sb i)) - (1 : Int32)) - (64 : Int32)) ((((f15 (own_sb i)) + (f16 (own_eb i))) + (0 : Int32)) - (64 : Int32)))
def own_CL (i : Int32) : Int64 := (f24 ((f22 (own_xb i) (own_sb i)) - (1 : Int32)) (((f15 (own_sb i)) + (f16 (own_eb i))) + (0 : Int32)))
theorem own_h25 {i : Int32} (hi : own_ix i) (q : Int64) (v : Int32) : (f1 i q v &&& ((f10 (((f9 (own_by i)) * (8 : Int32)) - (64 : Int32))) ^^^ (-1 : Int64))) = (0 : Int64) := by
  unfold f1
  by_cases hv : v = 0
  · rw [if_pos hv]
    rcases hi with rfl | rfl | rfl | rfl | rfl <;> exact own_and0 _ (by decide +kernel)
  · rw [if_neg hv]
    rcases hi with rfl | rfl | rfl | rfl | rfl <;> exact own_or1 _ (by decide +kernel) (by decide +kernel)
theorem own_h41 {i : Int32} (hi : own_ix i) (q : Int64) (v : Int32) : (f4 i q v &&& ((f10 ((f9 (own_by i)) * (8 : Int32))) ^^^ (-1 : Int64))) = (0 : Int64) := by
  unfold f4
  by_cases hv : v = 0
  · rw [if_pos hv]
    rcases hi with rfl | rfl | rfl | rfl | rfl <;> exact own_and0 _ (by decide +kernel)
  · rw [if_neg hv]
    rcases hi with rfl | rfl | rfl | rfl | rfl <;> exact own_or0 _ (by decide +kernel) (by decide +kernel) (by decide +kernel)
theorem own_f17l {p w : Int32} (h : p < 64) (lo hi : Int64) : f17 p w lo hi = (((lo.toUInt64 >>> (p &&& 0x3f).toInt64.toUInt64).toInt64) &&& (f10 w)) := if_pos h
theorem own_f17h {p w : Int32} (h : ¬ p < 64) (lo hi : Int64) : f17 p w lo hi = (((hi.toUInt64 >>> ((p - (64 : Int32)) &&& 0x3f).toInt64.toUInt64).toInt64) &&& (f10 w)) := if_neg h
theorem own_f1f (i : Int32) (q : Int64) : f1 i q 0 = ((q &&& (f2 i)) &&& ((f26 i) ^^^ (-1 : Int64))) := if_pos rfl
theorem own_f4f (i : Int32) (q : Int64) : f4 i q 0 = ((q &&& (f5 i)) &&& ((f27 i) ^^^ (-1 : Int64))) := if_pos rfl
theorem own_f1n (i : Int32) (q : Int64) {v : Int32} (hv : ¬ v = 0) : f1 i q v = ((q &&& (f2 i)) ||| (f3 i)) := if_neg hv
theorem own_f4n (i : Int32) (q : Int64) {v : Int32} (hv : ¬ v = 0) : f4 i q v = (((q &&& (f5 i)) ||| (f6 i)) ||| (1 : Int64)) := if_neg hv
theorem own_f14f {i : Int32} (hi : own_ix i) (lo hg : Int64) : ¬ f14 (own_sb i) (own_eb i) (f4 i lo 0) (f1 i hg 0) = f18 (own_eb i) := by
  unfold f14
  rcases hi with rfl | rfl | rfl | rfl | rfl
  · rw [own_f17l (by decide +kernel)]; exact own_fin (k := 10) (t := 4) (by decide +kernel) (by decide) (by rw [own_f4f]; exact own_top _ (by decide +kernel)) (by decide +kernel)
  · rw [own_f17l (by decide +kernel)]; exact own_fin (k := 23) (t := 7) (by decide +kernel) (by decide) (by rw [own_f4f]; exact own_top _ (by decide +kernel)) (by decide +kernel)
  · rw [own_f17l (by decide +kernel)]; exact own_fin (k := 52) (t := 10) (by decide +kernel) (by decide) (by rw [own_f4f]; exact own_top _ (by decide +kernel)) (by decide +kernel)
  · rw [own_f17h (by decide +kernel)]; exact own_fin (k := 0) (t := 14) (by decide +kernel) (by decide) (by rw [own_f1f]; exact own_top _ (by decide +kernel)) (by decide +kernel)
  · rw [own_f17h (by decide +kernel)]; exact own_fin (k := 48) (t := 14) (by decide +kernel) (by decide) (by rw [own_f1f]; exact own_top _ (by decide +kernel)) (by decide +kernel)
theorem own_f14n {i : Int32} (hi : own_ix i) (lo hg : Int64) {v : Int32} (hv : ¬ v = 0) : f14 (own_sb i) (own_eb i) (f4 i lo v) (f1 i hg v) = f18 (own_eb i) := by
  unfold f14
  rcases hi with rfl | rfl | rfl | rfl | rfl
  · rw [own_f17l (by decide +kernel)]; exact own_nan (k := 10) (a := f6 0) (by decide +kernel) (by decide) (by rw [own_f4n _ _ hv]; exact own_has1 _ _ _) (by decide +kernel) (by decide +kernel)
  · rw [own_f17l (by decide +kernel)]; exact own_nan (k := 23) (a := f6 1) (by decide +kernel) (by decide) (by rw [own_f4n _ _ hv]; exact own_has1 _ _ _) (by decide +kernel) (by decide +kernel)
  · rw [own_f17l (by decide +kernel)]; exact own_nan (k := 52) (a := f6 2) (by decide +kernel) (by decide) (by rw [own_f4n _ _ hv]; exact own_has1 _ _ _) (by decide +kernel) (by decide +kernel)
  · rw [own_f17h (by decide +kernel)]; exact own_nan (k := 0) (a := f3 3) (by decide +kernel) (by decide) (by rw [own_f1n _ _ hv]; exact own_has2 _ _) (by decide +kernel) (by decide +kernel)
  · rw [own_f17h (by decide +kernel)]; exact own_nan (k := 48) (a := f3 4) (by decide +kernel) (by decide) (by rw [own_f1n _ _ hv]; exact own_has2 _ _) (by decide +kernel) (by decide +kernel)
theorem own_finf {i : Int32} (hi : own_ix i) (lo hg : Int64) : ¬ f13 (own_sb i) (own_eb i) (f4 i lo 0) (f1 i hg 0) = 0 := by
  unfold f13
  rw [if_neg (own_f14f hi lo hg)]; decide
theorem own_nanf {i : Int32} (hi : own_ix i) (lo hg : Int64) {v : Int32} (hv : ¬ v = 0) : f13 (own_sb i) (own_eb i) (f4 i lo v) (f1 i hg v) = 0 := by
  unfold f13
  rw [if_pos (own_f14n hi lo hg hv)]; decide
theorem own_f21n {i : Int32} (hi : own_ix i) (lo hg : Int64) {v : Int32} (hv : ¬ v = 0) : f21 (own_xb i) (own_sb i) (f4 i lo v) (f1 i hg v) = 0 := by
  have q : ∀ w : Int32, (f10 w).toBitVec.getLsbD 0 = true → ¬ f17 0 w (f4 i lo v) (f1 i hg v) = 0 := fun w hw => by
    rw [own_f17l (by decide)]
    exact own_odd (by decide +kernel) (by rw [own_f4n _ _ hv]; exact own_has2 _ _) hw
  unfold f21
  rw [if_neg]
  apply q
  rcases hi with rfl | rfl | rfl | rfl | rfl <;> decide +kernel
theorem own_hnn {i : Int32} (hi : own_ix i) (lo hg : Int64) (v : Int32) : f13 (own_sb i) (own_eb i) (f4 i lo v) (f1 i hg v) = (0 : Int32) → ¬ f20 (own_sb i) (own_eb i) (f4 i lo v) (f1 i hg v) (own_xb i) = (0 : Int32) := by
  intro h
  by_cases hv : v = 0
  · subst hv; exact absurd h (own_finf hi lo hg)
  · unfold f20
    rw [if_pos h, if_pos (own_f21n hi lo hg hv)]; decide
theorem own_canon {i : Int32} (hi : own_ix i) : f13 (own_sb i) (own_eb i) (own_CL i) (own_CH i) = 0 := by
  rcases hi with rfl | rfl | rfl | rfl | rfl <;> decide +kernel

def own_FM (Z : State) (h : Heap) (i : Int32) (a : Addr) : Prop := Exa Z h a "com/example/tagwire/tagwire/core/FloatFormat" ∧ Fld Z h a "com/example/tagwire/tagwire/core/FloatFormat" "bytes" "I" (.int (own_by i)) ∧ Fld Z h a "com/example/tagwire/tagwire/core/FloatFormat" "significandBits" "I" (.int (own_sb i)) ∧ Fld Z h a "com/example/tagwire/tagwire/core/FloatFormat" "exponentBits" "I" (.int (own_eb i)) ∧ Fld Z h a "com/example/tagwire/tagwire/core/FloatFormat" "explicitIntegerBit" "Z" (.int (own_xb i))
theorem own_FM_ext {Z : State} {h h' : Heap} {i : Int32} {a : Addr} (F : own_FM Z h i a) (E : Ext h h') : own_FM Z h' i a := ⟨F.1.ext E, F.2.1.ext E, F.2.2.1.ext E, F.2.2.2.1.ext E, F.2.2.2.2.ext E⟩
def own_FMs (Z : State) (h : Heap) (s_BINARY16 s_BINARY32 s_BINARY64 s_EXTENDED80 s_BINARY128 : Addr) : Prop := own_FM Z h 0 s_BINARY16 ∧ own_FM Z h 1 s_BINARY32 ∧ own_FM Z h 2 s_BINARY64 ∧ own_FM Z h 3 s_EXTENDED80 ∧ own_FM Z h 4 s_BINARY128
theorem own_f7 (s0 s1 s2 s3 s4 : Addr) : f7 0 s0 s1 s2 s3 s4 = s0 ∧ f7 1 s0 s1 s2 s3 s4 = s1 ∧ f7 2 s0 s1 s2 s3 s4 = s2 ∧ f7 3 s0 s1 s2 s3 s4 = s3 ∧ f7 4 s0 s1 s2 s3 s4 = s4 := ⟨if_pos rfl, (if_neg (by decide)).trans (if_pos rfl), (if_neg (by decide)).trans ((if_neg (by decide)).trans (if_pos rfl)), (if_neg (by decide)).trans ((if_neg (by decide)).trans ((if_neg (by decide)).trans (if_pos rfl))), (if_neg (by decide)).trans ((if_neg (by decide)).trans ((if_neg (by decide)).trans (if_neg (by decide))))⟩
theorem own_fm {Z : State} {h : Heap} {s_BINARY16 s_BINARY32 s_BINARY64 s_EXTENDED80 s_BINARY128 : Addr} (H : own_FMs Z h s_BINARY16 s_BINARY32 s_BINARY64 s_EXTENDED80 s_BINARY128) {i : Int32} (hi : own_ix i) : own_FM Z h i (f7 i s_BINARY16 s_BINARY32 s_BINARY64 s_EXTENDED80 s_BINARY128) := by
  obtain ⟨e0, e1, e2, e3, e4⟩ := own_f7 s_BINARY16 s_BINARY32 s_BINARY64 s_EXTENDED80 s_BINARY128
  rcases hi with rfl | rfl | rfl | rfl | rfl
  · rw [e0]; exact H.1
  · rw [e1]; exact H.2.1
  · rw [e2]; exact H.2.2.1
  · rw [e3]; exact H.2.2.2.1
  · rw [e4]; exact H.2.2.2.2
theorem own_rng (p : Int32) : own_ix ((p &&& (2147483647 : Int32)) % (5 : Int32)) := by
  have hm := c_mask p 2147483647 31 (by decide) (by decide)
  have h0 : 0 ≤ (p &&& (2147483647 : Int32)).toInt := by omega
  have hr := (c_irem (p &&& (2147483647 : Int32)) 5 5 (by decide)).1 h0
  generalize (p &&& (2147483647 : Int32)) % (5 : Int32) = r at *
  obtain ⟨k, hk, rfl⟩ := own_nat (c := r) 5 (by omega) (by omega)
  match k, hk with
  | 0, _ => exact Or.inl rfl
  | 1, _ => exact Or.inr (Or.inl rfl)
  | 2, _ => exact Or.inr (Or.inr (Or.inl rfl))
  | 3, _ => exact Or.inr (Or.inr (Or.inr (Or.inl rfl)))
  | 4, _ => exact Or.inr (Or.inr (Or.inr (Or.inr rfl)))
theorem pd_9 : parseMethodDescriptor "(IJZ)J" = some ⟨[.int, .long, .boolean], some .long⟩ := by decide +kernel
theorem pd_10 : parseMethodDescriptor "(I)Lcom/example/tagwire/tagwire/core/FloatFormat;" = some ⟨[.int], some (.object "com/example/tagwire/tagwire/core/FloatFormat")⟩ := by decide +kernel
theorem pd_11 : parseMethodDescriptor "(Lcom/example/tagwire/tagwire/core/FloatFormat;JJ)Lcom/example/tagwire/tagwire/core/FloatValue;" = some ⟨[(.object "com/example/tagwire/tagwire/core/FloatFormat"), .long, .long], some (.object "com/example/tagwire/tagwire/core/FloatValue")⟩ := by decide +kernel
theorem pd_12 : parseMethodDescriptor "(Ljava/lang/Object;)Z" = some ⟨[(.object "java/lang/Object")], some .boolean⟩ := by decide +kernel
theorem pd_13 : parseMethodDescriptor "(J)Ljava/lang/Long;" = some ⟨[.long], some (.object "java/lang/Long")⟩ := by decide +kernel
theorem pn_0 : plainName "com/example/tagwire/tagwire/core/FloatValueEqualsPinLaw" = true := by first | (simp [plainName, overriddenIn]; done) | decide +kernel
theorem ef_0 (m : MethodId) (p1 : Int32) (p2 : Int32) (q3 : Int64) (q4 : Int64) (q5 : Int64) (p6 : Int32) : entryFrame m #[(.int p1), (.int p2), (.long q3), (.long q4), (.long q5), (.int p6)] maxLocals = mkF m 0 #[.val (.int p1), .val (.int p2), .val (.long q3), .second, .val (.long q4), .second, .val (.long q5), .second, .val (.int p6), .unset, .unset, .unset, .unset, .unset, .unset, .unset, .unset, .unset, .unset, .unset, .unset, .unset, .unset, .unset, .unset, .unset, .unset, .unset, .unset, .unset] [] := by first | (simp [entryFrame, mkF, argsToLocals, Value.category, maxLocals]; done) | rfl
def f0 (p1 : Int32) (p2 : Int32) (q3 : Int64) (q4 : Int64) (q5 : Int64) (p6 : Int32) (s_BINARY16 : Addr) (s_BINARY32 : Addr) (s_BINARY64 : Addr) (s_EXTENDED80 : Addr) (s_BINARY128 : Addr) : Int32 :=
  let IA : Int32 := ((p1 &&& (2147483647 : Int32)) % (5 : Int32));
  let IB : Int32 := ((p2 &&& (2147483647 : Int32)) % (5 : Int32));
  let v2 : Int32 := (if (p6 &&& (1 : Int32)) = (0 : Int32) then (0 : Int32) else (1 : Int32));
  let v5 : Int32 := (if (p6 &&& (2 : Int32)) = (0 : Int32) then (0 : Int32) else (1 : Int32));
  let v8 : Int64 := (if ((((p6.toUInt32 >>> ((2 : Int32) &&& 31).toUInt32).toInt32) &&& (3 : Int32)) &&& (2 : Int32)) = (0 : Int32) then q3 else (q3 ^^^ q5));
  let v11 : Int64 := (if ((((p6.toUInt32 >>> ((2 : Int32) &&& 31).toUInt32).toInt32) &&& (3 : Int32)) &&& (1 : Int32)) = (0 : Int32) then q4 else (q4 ^^^ q5));
  let EHA : Int64 := (f1 IA q3 v2);
  let ELA : Int64 := (f4 IA q4 v2);
  let EHB : Int64 := (f1 IB v8 v5);
  let ELB : Int64 := (f4 IB v11 v5);
  let FA : Addr := (f7 IA s_BINARY16 s_BINARY32 s_BINARY64 s_EXTENDED80 s_BINARY128);
  let FB : Addr := (f7 IB s_BINARY16 s_BINARY32 s_BINARY64 s_EXTENDED80 s_BINARY128);
  (if (((p6.toUInt32 >>> ((4 : Int32) &&& 31).toUInt32).toInt32) &&& (3 : Int32)) = (2 : Int32) then (let v25 : Int32 := (if f25n = (0 : Int32) then (1 : Int32) else (0 : Int32));
  (nar .boolean v25)) else (if (((p6.toUInt32 >>> ((4 : Int32) &&& 31).toUInt32).toInt32) &&& (3 : Int32)) = (3 : Int32) then (let v32 : Int32 := (if f25l = (0 : Int32) then (1 : Int32) else (0 : Int32));
  (nar .boolean v32)) else (let v40 : Int32 := (if IA = IB then (if v2 = (0 : Int32) then (if v5 = (0 : Int32) then (if EHA = EHB then (if ELA = ELB then (1 : Int32) else (0 : Int32)) else (0 : Int32)) else (0 : Int32)) else (if v5 = (0 : Int32) then (0 : Int32) else (1 : Int32))) else (0 : Int32));
  (if (f25v FA FB (if (f13 (own_sb IA) (own_eb IA) ELA EHA) = (0 : Int32) then (f24 (((f22 (own_xb IA) (own_sb IA)) - (1 : Int32)) - (64 : Int32)) ((((f15 (own_sb IA)) + (f16 (own_eb IA))) + (0 : Int32)) - (64 : Int32))) else EHA) (if (f13 (own_sb IB) (own_eb IB) ELB EHB) = (0 : Int32) then (f24 (((f22 (own_xb IB) (own_sb IB)) - (1 : Int32)) - (64 : Int32)) ((((f15 (own_sb IB)) + (f16 (own_eb IB))) + (0 : Int32)) - (64 : Int32))) else EHB) (if (f13 (own_sb IA) (own_eb IA) ELA EHA) = (0 : Int32) then (f24 ((f22 (own_xb IA) (own_sb IA)) - (1 : Int32)) (((f15 (own_sb IA)) + (f16 (own_eb IA))) + (0 : Int32))) else ELA) (if (f13 (own_sb IB) (own_eb IB) ELB EHB) = (0 : Int32) then (f24 ((f22 (own_xb IB) (own_sb IB)) - (1 : Int32)) (((f15 (own_sb IB)) + (f16 (own_eb IB))) + (0 : Int32))) else ELB)) = v40 then (let v47 : Int32 := (if (f25v FB FA (if (f13 (own_sb IB) (own_eb IB) ELB EHB) = (0 : Int32) then (f24 (((f22 (own_xb IB) (own_sb IB)) - (1 : Int32)) - (64 : Int32)) ((((f15 (own_sb IB)) + (f16 (own_eb IB))) + (0 : Int32)) - (64 : Int32))) else EHB) (if (f13 (own_sb IA) (own_eb IA) ELA EHA) = (0 : Int32) then (f24 (((f22 (own_xb IA) (own_sb IA)) - (1 : Int32)) - (64 : Int32)) ((((f15 (own_sb IA)) + (f16 (own_eb IA))) + (0 : Int32)) - (64 : Int32))) else EHA) (if (f13 (own_sb IB) (own_eb IB) ELB EHB) = (0 : Int32) then (f24 ((f22 (own_xb IB) (own_sb IB)) - (1 : Int32)) (((f15 (own_sb IB)) + (f16 (own_eb IB))) + (0 : Int32))) else ELB) (if (f13 (own_sb IA) (own_eb IA) ELA EHA) = (0 : Int32) then (f24 ((f22 (own_xb IA) (own_sb IA)) - (1 : Int32)) (((f15 (own_sb IA)) + (f16 (own_eb IA))) + (0 : Int32))) else ELA)) = v40 then (1 : Int32) else (0 : Int32));
  (nar .boolean v47)) else (0 : Int32)))))
def Q0 (Z : State) (p1 : Int32) (p2 : Int32) (q3 : Int64) (q4 : Int64) (q5 : Int64) (p6 : Int32) (s_BINARY16 : Addr) (s_BINARY32 : Addr) (s_BINARY64 : Addr) (s_EXTENDED80 : Addr) (s_BINARY128 : Addr) (h0 : Heap) (n0 : Nat) (v : Option Value) (h : Heap) (L : List Loc) : Prop := v = some (.int (f0 p1 p2 q3 q4 q5 p6 s_BINARY16 s_BINARY32 s_BINARY64 s_EXTENDED80 s_BINARY128)) ∧ Fr n0 L ∧ True
set_option maxRecDepth 65536 in
set_option maxHeartbeats 40000000 in
theorem rm0 (l : Launch) (Z : State) (a0 : Array Value) (hw : ∀ d ∈ tables_1, d.before a0 Z = true) (ws : List Jvm.Cond) (p1 : Int32) (p2 : Int32) (q3 : Int64) (q4 : Int64) (q5 : Int64) (p6 : Int32) (s_BINARY16 : Addr) (s_BINARY32 : Addr) (s_BINARY64 : Addr) (s_EXTENDED80 : Addr) (s_BINARY128 : Addr) (h0 : Heap) (n0 : Nat) (Z0 : n0 ≤ h0.size) (S_BINARY16 : Sta Z Z.heap "com/example/tagwire/tagwire/core/FloatFormat" "BINARY16" "Lcom/example/tagwire/tagwire/core/FloatFormat;" (.ref s_BINARY16)) (S_BINARY32 : Sta Z Z.heap "com/example/tagwire/tagwire/core/FloatFormat" "BINARY32" "Lcom/example/tagwire/tagwire/core/FloatFormat;" (.ref s_BINARY32)) (S_BINARY64 : Sta Z Z.heap "com/example/tagwire/tagwire/core/FloatFormat" "BINARY64" "Lcom/example/tagwire/tagwire/core/FloatFormat;" (.ref s_BINARY64)) (S_EXTENDED80 : Sta Z Z.heap "com/example/tagwire/tagwire/core/FloatFormat" "EXTENDED80" "Lcom/example/tagwire/tagwire/core/FloatFormat;" (.ref s_EXTENDED80)) (S_BINARY128 : Sta Z Z.heap "com/example/tagwire/tagwire/core/FloatFormat" "BINARY128" "Lcom/example/tagwire/tagwire/core/FloatFormat;" (.ref s_BINARY128)) (hfm : own_FMs Z Z.heap s_BINARY16 s_BINARY32 s_BINARY64 s_EXTENDED80 s_BINARY128) (hbox0 : own_Box Z Z.heap) (O0 : Old Z n0 h0) :
    MetFree l x (head1 (Jvm.Cond.code x code maxLocals ret :: ws) room_1) (fun a U => a = #[(.int p1), (.int p2), (.long q3), (.long q4), (.long q5), (.int p6)] ∧ Z.Warmed39 U.vm ∧ U.heap = h0) (fun _ _ _ _ _ => True) (fun _ U o U' => ∃ v L, o = .returned v ∧ Q0 Z p1 p2 q3 q4 q5 p6 s_BINARY16 s_BINARY32 s_BINARY64 s_EXTENDED80 s_BINARY128 h0 n0 v U'.heap L ∧ FrameEnd U o U' L room_1.cells room_1.slots) := by
  refine MetFree.of_bodySF (plainFor_of_name pn_0) hisR ?_
  intro p e s m args below meth c s₁ Bd hml0 hP hK
  obtain ⟨rfl, hZ, hh⟩ := hP
  have hx := Bd.exec
  have hby := Bd.bytes
  have hml : c.maxLocals = 30 := hml0
  have hown : s.vm.findClass "com/example/tagwire/tagwire/core/FloatValueEqualsPinLaw" = some m.cls := findClass_of_methodNamed Bd.named
  have hnm := (name_of_methodNamed Bd.named Bd.method).1
  have X0 : Stand p l e room_1 s m #[(.int p1), (.int p2), (.long q3), (.long q4), (.long q5), (.int p6)] below meth c s₁ [] 0 0 := Stand.of_body Bd
  have e0 : s₁.heap = h0 := by rw [← hh, Bd.state]; rfl
  have N0 := Fr.nil n0
  have pre0 : ∀ t, Steps p.tables e below (s₁.setTop (mkF m 0 #[.val (.int p1), .val (.int p2), .val (.long q3), .second, .val (.long q4), .second, .val (.long q5), .second, .val (.int p6), .unset, .unset, .unset, .unset, .unset, .unset, .unset, .unset, .unset, .unset, .unset, .unset, .unset, .unset, .unset, .unset, .unset, .unset, .unset, .unset, .unset] [])) t → Steps p.tables e below (s₁.setTop (entryFrame m #[(.int p1), (.int p2), (.long q3), (.long q4), (.long q5), (.int p6)] maxLocals)) t := fun t k => castTop (ef_0 m p1 p2 q3 q4 q5 p6) k
  have K0 := Keep.refl h0 ([] : List Addr)
  obtain ⟨IA, hIA⟩ : ∃ z : Int32, z = ((p1 &&& (2147483647 : Int32)) % (5 : Int32)) := ⟨_, rfl⟩
  have rIA : own_ix IA := by rw [hIA]; exact own_rng _
  obtain ⟨IB, hIB⟩ : ∃ z : Int32, z = ((p2 &&& (2147483647 : Int32)) % (5 : Int32)) := ⟨_, rfl⟩
  have rIB : own_ix IB := by rw [hIB]; exact own_rng _
  obtain ⟨v2, hv2⟩ : ∃ z : Int32, z = (if (p6 &&& (1 : Int32)) = (0 : Int32) then (0 : Int32) else (1 : Int32)) := ⟨_, rfl⟩
  have pre3 : ∀ t, Steps p.tables e below (s₁.setTop (mkF m 28 #[.val (.int p1), .val (.int p2), .val (.long q3), .second, .val (.long q4), .second, .val (.long q5), .second, .val (.int p6), .val (.int IA), .val (.int IB), .unset, .unset, .unset, .unset, .unset, .unset, .unset, .unset, .unset, .unset, .unset, .unset, .unset, .unset, .unset, .unset, .unset, .unset, .unset] [(.int v2)])) t → Steps p.tables e below (s₁.setTop (entryFrame m #[(.int p1), (.int p2), (.long q3), (.long q4), (.long q5), (.int p6)] maxLocals)) t := fun t k => pre0 t (by
    show Steps p.tables e below (s₁.setTop (mkF m 0 #[.val (.int p1), .val (.int p2), .val (.long q3), .second, .val (.long q4), .second, .val (.long q5), .second, .val (.int p6), .unset, .unset, .unset, .unset, .unset, .unset, .unset, .unset, .unset, .unset, .unset, .unset, .unset, .unset, .unset, .unset, .unset, .unset, .unset, .unset, .unset] [])) _
    refine XS.iloadN X0.here hx rfl (hb hby at_0) rfl ?_
    show Steps p.tables e below (s₁.setTop (mkF m 1 #[.val (.int p1), .val (.int p2), .val (.long q3), .second, .val (.long q4), .second, .val (.long q5), .second, .val (.int p6), .unset, .unset, .unset, .unset, .unset, .unset, .unset, .unset, .unset, .unset, .unset, .unset, .unset, .unset, .unset, .unset, .unset, .unset, .unset, .unset, .unset] [(.int p1)])) _
    refine X0.ldcInt hx hown (mvT hZ (hw _ (List.mem_of_getElem? (i := 0) rfl))) (g := (mkF m 1 #[.val (.int p1), .val (.int p2), .val (.long q3), .second, .val (.long q4), .second, .val (.long q5), .second, .val (.int p6), .unset, .unset, .unset, .unset, .unset, .unset, .unset, .unset, .unset, .unset, .unset, .unset, .unset, .unset, .unset, .unset, .unset, .unset, .unset, .unset, .unset] [(.int p1)])) rfl (hb hby at_1) _ ?_
    show Steps p.tables e below (s₁.setTop (mkF m 3 #[.val (.int p1), .val (.int p2), .val (.long q3), .second, .val (.long q4), .second, .val (.long q5), .second, .val (.int p6), .unset, .unset, .unset, .unset, .unset, .unset, .unset, .unset, .unset, .unset, .unset, .unset, .unset, .unset, .unset, .unset, .unset, .unset, .unset, .unset, .unset] [(.int (2147483647 : Int32)), (.int p1)])) _
    refine XS.iand X0.here hx rfl (hb hby at_3) rfl ?_
    show Steps p.tables e below (s₁.setTop (mkF m 4 #[.val (.int p1), .val (.int p2), .val (.long q3), .second, .val (.long q4), .second, .val (.long q5), .second, .val (.int p6), .unset, .unset, .unset, .unset, .unset, .unset, .unset, .unset, .unset, .unset, .unset, .unset, .unset, .unset, .unset, .unset, .unset, .unset, .unset, .unset, .unset] [(.int (p1 &&& (2147483647 : Int32)))])) _
    refine XS.iconst X0.here hx rfl (hb hby at_4) ?_
    show Steps p.tables e below (s₁.setTop (mkF m 5 #[.val (.int p1), .val (.int p2), .val (.long q3), .second, .val (.long q4), .second, .val (.long q5), .second, .val (.int p6), .unset, .unset, .unset, .unset, .unset, .unset, .unset, .unset, .unset, .unset, .unset, .unset, .unset, .unset, .unset, .unset, .unset, .unset, .unset, .unset, .unset] [(.int (5 : Int32)), (.int (p1 &&& (2147483647 : Int32)))])) _
    refine iremM X0 hx rfl (hb hby at_5) rfl (by decide) ?_
    show Steps p.tables e below (s₁.setTop (mkF m 6 #[.val (.int p1), .val (.int p2), .val (.long q3), .second, .val (.long q4), .second, .val (.long q5), .second, .val (.int p6), .unset, .unset, .unset, .unset, .unset, .unset, .unset, .unset, .unset, .unset, .unset, .unset, .unset, .unset, .unset, .unset, .unset, .unset, .unset, .unset, .unset] [(.int ((p1 &&& (2147483647 : Int32)) % (5 : Int32)))])) _
    rw [← hIA]
    show Steps p.tables e below (s₁.setTop (mkF m 6 #[.val (.int p1), .val (.int p2), .val (.long q3), .second, .val (.long q4), .second, .val (.long q5), .second, .val (.int p6), .unset, .unset, .unset, .unset, .unset, .unset, .unset, .unset, .unset, .unset, .unset, .unset, .unset, .unset, .unset, .unset, .unset, .unset, .unset, .unset, .unset] [(.int IA)])) _
    refine XS.istore X0.here hx rfl (hb hby at_6) rfl (l' := #[.val (.int p1), .val (.int p2), .val (.long q3), .second, .val (.long q4), .second, .val (.long q5), .second, .val (.int p6), .val (.int IA), .unset, .unset, .unset, .unset, .unset, .unset, .unset, .unset, .unset, .unset, .unset, .unset, .unset, .unset, .unset, .unset, .unset, .unset, .unset, .unset]) rfl ?_
    show Steps p.tables e below (s₁.setTop (mkF m 8 #[.val (.int p1), .val (.int p2), .val (.long q3), .second, .val (.long q4), .second, .val (.long q5), .second, .val (.int p6), .val (.int IA), .unset, .unset, .unset, .unset, .unset, .unset, .unset, .unset, .unset, .unset, .unset, .unset, .unset, .unset, .unset, .unset, .unset, .unset, .unset, .unset] [])) _
    refine XS.iloadN X0.here hx rfl (hb hby at_8) rfl ?_
    show Steps p.tables e below (s₁.setTop (mkF m 9 #[.val (.int p1), .val (.int p2), .val (.long q3), .second, .val (.long q4), .second, .val (.long q5), .second, .val (.int p6), .val (.int IA), .unset, .unset, .unset, .unset, .unset, .unset, .unset, .unset, .unset, .unset, .unset, .unset, .unset, .unset, .unset, .unset, .unset, .unset, .unset, .unset] [(.int p2)])) _
    refine X0.ldcInt hx hown (mvT hZ (hw _ (List.mem_of_getElem? (i := 0) rfl))) (g := (mkF m 9 #[.val (.int p1), .val (.int p2), .val (.long q3), .second, .val (.long q4), .second, .val (.long q5), .second, .val (.int p6), .val (.int IA), .unset, .unset, .unset, .unset, .unset, .unset, .unset, .unset, .unset, .unset, .unset, .unset, .unset, .unset, .unset, .unset, .unset, .unset, .unset, .unset] [(.int p2)])) rfl (hb hby at_9) _ ?_
    show Steps p.tables e below (s₁.setTop (mkF m 11 #[.val (.int p1), .val (.int p2), .val (.long q3), .second, .val (.long q4), .second, .val (.long q5), .second, .val (.int p6), .val (.int IA), .unset, .unset, .unset, .unset, .unset, .unset, .unset, .unset, .unset, .unset, .unset, .unset, .unset, .unset, .unset, .unset, .unset, .unset, .unset, .unset] [(.int (2147483647 : Int32)), (.int p2)])) _
    refine XS.iand X0.here hx rfl (hb hby at_11) rfl ?_
    show Steps p.tables e below (s₁.setTop (mkF m 12 #[.val (.int p1), .val (.int p2), .val (.long q3), .second, .val (.long q4), .second, .val (.long q5), .second, .val (.int p6), .val (.int IA), .unset, .unset, .unset, .unset, .unset, .unset, .unset, .unset, .unset, .unset, .unset, .unset, .unset, .unset, .unset, .unset, .unset, .unset, .unset, .unset] [(.int (p2 &&& (2147483647 : Int32)))])) _
    refine XS.iconst X0.here hx rfl (hb hby at_12) ?_
    show Steps p.tables e below (s₁.setTop (mkF m 13 #[.val (.int p1), .val (.int p2), .val (.long q3), .second, .val (.long q4), .second, .val (.long q5), .second, .val (.int p6), .val (.int IA), .unset, .unset, .unset, .unset, .unset, .unset, .unset, .unset, .unset, .unset, .unset, .unset, .unset, .unset, .unset, .unset, .unset, .unset, .unset, .unset] [(.int (5 : Int32)), (.int (p2 &&& (2147483647 : Int32)))])) _
    refine iremM X0 hx rfl (hb hby at_13) rfl (by decide) ?_
    show Steps p.tables e below (s₁.setTop (mkF m 14 #[.val (.int p1), .val (.int p2), .val (.long q3), .second, .val (.long q4), .second, .val (.long q5), .second, .val (.int p6), .val (.int IA), .unset, .unset, .unset, .unset, .unset, .unset, .unset, .unset, .unset, .unset, .unset, .unset, .unset, .unset, .unset, .unset, .unset, .unset, .unset, .unset] [(.int ((p2 &&& (2147483647 : Int32)) % (5 : Int32)))])) _
    rw [← hIB]
    show Steps p.tables e below (s₁.setTop (mkF m 14 #[.val (.int p1), .val (.int p2), .val (.long q3), .second, .val (.long q4), .second, .val (.long q5), .second, .val (.int p6), .val (.int IA), .unset, .unset, .unset, .unset, .unset, .unset, .unset, .unset, .unset, .unset, .unset, .unset, .unset, .unset, .unset, .unset, .unset, .unset, .unset, .unset] [(.int IB)])) _
    refine XS.istore X0.here hx rfl (hb hby at_14) rfl (l' := #[.val (.int p1), .val (.int p2), .val (.long q3), .second, .val (.long q4), .second, .val (.long q5), .second, .val (.int p6), .val (.int IA), .val (.int IB), .unset, .unset, .unset, .unset, .unset, .unset, .unset, .unset, .unset, .unset, .unset, .unset, .unset, .unset, .unset, .unset, .unset, .unset, .unset]) rfl ?_
    show Steps p.tables e below (s₁.setTop (mkF m 16 #[.val (.int p1), .val (.int p2), .val (.long q3), .second, .val (.long q4), .second, .val (.long q5), .second, .val (.int p6), .val (.int IA), .val (.int IB), .unset, .unset, .unset, .unset, .unset, .unset, .unset, .unset, .unset, .unset, .unset, .unset, .unset, .unset, .unset, .unset, .unset, .unset, .unset] [])) _
    refine XS.iload X0.here hx rfl (hb hby at_16) rfl ?_
    show Steps p.tables e below (s₁.setTop (mkF m 18 #[.val (.int p1), .val (.int p2), .val (.long q3), .second, .val (.long q4), .second, .val (.long q5), .second, .val (.int p6), .val (.int IA), .val (.int IB), .unset, .unset, .unset, .unset, .unset, .unset, .unset, .unset, .unset, .unset, .unset, .unset, .unset, .unset, .unset, .unset, .unset, .unset, .unset] [(.int p6)])) _
    refine XS.iconst X0.here hx rfl (hb hby at_18) ?_
    show Steps p.tables e below (s₁.setTop (mkF m 19 #[.val (.int p1), .val (.int p2), .val (.long q3), .second, .val (.long q4), .second, .val (.long q5), .second, .val (.int p6), .val (.int IA), .val (.int IB), .unset, .unset, .unset, .unset, .unset, .unset, .unset, .unset, .unset, .unset, .unset, .unset, .unset, .unset, .unset, .unset, .unset, .unset, .unset] [(.int (1 : Int32)), (.int p6)])) _
    refine XS.iand X0.here hx rfl (hb hby at_19) rfl ?_
    show Steps p.tables e below (s₁.setTop (mkF m 20 #[.val (.int p1), .val (.int p2), .val (.long q3), .second, .val (.long q4), .second, .val (.long q5), .second, .val (.int p6), .val (.int IA), .val (.int IB), .unset, .unset, .unset, .unset, .unset, .unset, .unset, .unset, .unset, .unset, .unset, .unset, .unset, .unset, .unset, .unset, .unset, .unset, .unset] [(.int (p6 &&& (1 : Int32)))])) _
    by_cases hc1 : (p6 &&& (1 : Int32)) = (0 : Int32)
    · refine XS.ifYes X0.here hx rfl (pc0 := 20) (pc' := 27) rfl (hb hby at_20) rfl ((if0 _ _).trans (teq hc1).1) (by decide) (by decide) ?_
      show Steps p.tables e below (s₁.setTop (mkF m 27 #[.val (.int p1), .val (.int p2), .val (.long q3), .second, .val (.long q4), .second, .val (.long q5), .second, .val (.int p6), .val (.int IA), .val (.int IB), .unset, .unset, .unset, .unset, .unset, .unset, .unset, .unset, .unset, .unset, .unset, .unset, .unset, .unset, .unset, .unset, .unset, .unset, .unset] [])) _
      refine XS.iconst X0.here hx rfl (hb hby at_27) ?_
      rw [show v2 = (0 : Int32) from hv2.trans (if_pos hc1)] at k
      exact k
    · refine XS.ifNo X0.here hx rfl (hb hby at_20) rfl ((if0 _ _).trans (feq hc1).1) ?_
      show Steps p.tables e below (s₁.setTop (mkF m 23 #[.val (.int p1), .val (.int p2), .val (.long q3), .second, .val (.long q4), .second, .val (.long q5), .second, .val (.int p6), .val (.int IA), .val (.int IB), .unset, .unset, .unset, .unset, .unset, .unset, .unset, .unset, .unset, .unset, .unset, .unset, .unset, .unset, .unset, .unset, .unset, .unset, .unset] [])) _
      refine XS.iconst X0.here hx rfl (hb hby at_23) ?_
      show Steps p.tables e below (s₁.setTop (mkF m 24 #[.val (.int p1), .val (.int p2), .val (.long q3), .second, .val (.long q4), .second, .val (.long q5), .second, .val (.int p6), .val (.int IA), .val (.int IB), .unset, .unset, .unset, .unset, .unset, .unset, .unset, .unset, .unset, .unset, .unset, .unset, .unset, .unset, .unset, .unset, .unset, .unset, .unset] [(.int (1 : Int32))])) _
      refine XS.goto X0.here hx rfl (pc0 := 24) (pc' := 28) rfl (hb hby at_24) (by decide) (by decide) ?_
      rw [show v2 = (1 : Int32) from hv2.trans (if_neg hc1)] at k
      exact k)
  obtain ⟨v5, hv5⟩ : ∃ z : Int32, z = (if (p6 &&& (2 : Int32)) = (0 : Int32) then (0 : Int32) else (1 : Int32)) := ⟨_, rfl⟩
  have pre6 : ∀ t, Steps p.tables e below (s₁.setTop (mkF m 42 #[.val (.int p1), .val (.int p2), .val (.long q3), .second, .val (.long q4), .second, .val (.long q5), .second, .val (.int p6), .val (.int IA), .val (.int IB), .val (.int v2), .unset, .unset, .unset, .unset, .unset, .unset, .unset, .unset, .unset, .unset, .unset, .unset, .unset, .unset, .unset, .unset, .unset, .unset] [(.int v5)])) t → Steps p.tables e below (s₁.setTop (entryFrame m #[(.int p1), (.int p2), (.long q3), (.long q4), (.long q5), (.int p6)] maxLocals)) t := fun t k => pre3 t (by
    show Steps p.tables e below (s₁.setTop (mkF m 28 #[.val (.int p1), .val (.int p2), .val (.long q3), .second, .val (.long q4), .second, .val (.long q5), .second, .val (.int p6), .val (.int IA), .val (.int IB), .unset, .unset, .unset, .unset, .unset, .unset, .unset, .unset, .unset, .unset, .unset, .unset, .unset, .unset, .unset, .unset, .unset, .unset, .unset] [(.int v2)])) _
    refine XS.istore X0.here hx rfl (hb hby at_28) rfl (l' := #[.val (.int p1), .val (.int p2), .val (.long q3), .second, .val (.long q4), .second, .val (.long q5), .second, .val (.int p6), .val (.int IA), .val (.int IB), .val (.int v2), .unset, .unset, .unset, .unset, .unset, .unset, .unset, .unset, .unset, .unset, .unset, .unset, .unset, .unset, .unset, .unset, .unset, .unset]) rfl ?_
    show Steps p.tables e below (s₁.setTop (mkF m 30 #[.val (.int p1), .val (.int p2), .val (.long q3), .second, .val (.long q4), .second, .val (.long q5), .second, .val (.int p6), .val (.int IA), .val (.int IB), .val (.int v2), .unset, .unset, .unset, .unset, .unset, .unset, .unset, .unset, .unset, .unset, .unset, .unset, .unset, .unset, .unset, .unset, .unset, .unset] [])) _
    refine XS.iload X0.here hx rfl (hb hby at_30) rfl ?_
    show Steps p.tables e below (s₁.setTop (mkF m 32 #[.val (.int p1), .val (.int p2), .val (.long q3), .second, .val (.long q4), .second, .val (.long q5), .second, .val (.int p6), .val (.int IA), .val (.int IB), .val (.int v2), .unset, .unset, .unset, .unset, .unset, .unset, .unset, .unset, .unset, .unset, .unset, .unset, .unset, .unset, .unset, .unset, .unset, .unset] [(.int p6)])) _
    refine XS.iconst X0.here hx rfl (hb hby at_32) ?_
    show Steps p.tables e below (s₁.setTop (mkF m 33 #[.val (.int p1), .val (.int p2), .val (.long q3), .second, .val (.long q4), .second, .val (.long q5), .second, .val (.int p6), .val (.int IA), .val (.int IB), .val (.int v2), .unset, .unset, .unset, .unset, .unset, .unset, .unset, .unset, .unset, .unset, .unset, .unset, .unset, .unset, .unset, .unset, .unset, .unset] [(.int (2 : Int32)), (.int p6)])) _
    refine XS.iand X0.here hx rfl (hb hby at_33) rfl ?_
    show Steps p.tables e below (s₁.setTop (mkF m 34 #[.val (.int p1), .val (.int p2), .val (.long q3), .second, .val (.long q4), .second, .val (.long q5), .second, .val (.int p6), .val (.int IA), .val (.int IB), .val (.int v2), .unset, .unset, .unset, .unset, .unset, .unset, .unset, .unset, .unset, .unset, .unset, .unset, .unset, .unset, .unset, .unset, .unset, .unset] [(.int (p6 &&& (2 : Int32)))])) _
    by_cases hc4 : (p6 &&& (2 : Int32)) = (0 : Int32)
    · refine XS.ifYes X0.here hx rfl (pc0 := 34) (pc' := 41) rfl (hb hby at_34) rfl ((if0 _ _).trans (teq hc4).1) (by decide) (by decide) ?_
      show Steps p.tables e below (s₁.setTop (mkF m 41 #[.val (.int p1), .val (.int p2), .val (.long q3), .second, .val (.long q4), .second, .val (.long q5), .second, .val (.int p6), .val (.int IA), .val (.int IB), .val (.int v2), .unset, .unset, .unset, .unset, .unset, .unset, .unset, .unset, .unset, .unset, .unset, .unset, .unset, .unset, .unset, .unset, .unset, .unset] [])) _
      refine XS.iconst X0.here hx rfl (hb hby at_41) ?_
      rw [show v5 = (0 : Int32) from hv5.trans (if_pos hc4)] at k
      exact k
    · refine XS.ifNo X0.here hx rfl (hb hby at_34) rfl ((if0 _ _).trans (feq hc4).1) ?_
      show Steps p.tables e below (s₁.setTop (mkF m 37 #[.val (.int p1), .val (.int p2), .val (.long q3), .second, .val (.long q4), .second, .val (.long q5), .second, .val (.int p6), .val (.int IA), .val (.int IB), .val (.int v2), .unset, .unset, .unset, .unset, .unset, .unset, .unset, .unset, .unset, .unset, .unset, .unset, .unset, .unset, .unset, .unset, .unset, .unset] [])) _
      refine XS.iconst X0.here hx rfl (hb hby at_37) ?_
      show Steps p.tables e below (s₁.setTop (mkF m 38 #[.val (.int p1), .val (.int p2), .val (.long q3), .second, .val (.long q4), .second, .val (.long q5), .second, .val (.int p6), .val (.int IA), .val (.int IB), .val (.int v2), .unset, .unset, .unset, .unset, .unset, .unset, .unset, .unset, .unset, .unset, .unset, .unset, .unset, .unset, .unset, .unset, .unset, .unset] [(.int (1 : Int32))])) _
      refine XS.goto X0.here hx rfl (pc0 := 38) (pc' := 42) rfl (hb hby at_38) (by decide) (by decide) ?_
      rw [show v5 = (1 : Int32) from hv5.trans (if_neg hc4)] at k
      exact k)
  obtain ⟨v8, hv8⟩ : ∃ z : Int64, z = (if ((((p6.toUInt32 >>> ((2 : Int32) &&& 31).toUInt32).toInt32) &&& (3 : Int32)) &&& (2 : Int32)) = (0 : Int32) then q3 else (q3 ^^^ q5)) := ⟨_, rfl⟩
  have pre9 : ∀ t, Steps p.tables e below (s₁.setTop (mkF m 67 #[.val (.int p1), .val (.int p2), .val (.long q3), .second, .val (.long q4), .second, .val (.long q5), .second, .val (.int p6), .val (.int IA), .val (.int IB), .val (.int v2), .val (.int v5), .val (.int (((p6.toUInt32 >>> ((2 : Int32) &&& 31).toUInt32).toInt32) &&& (3 : Int32))), .unset, .unset, .unset, .unset, .unset, .unset, .unset, .unset, .unset, .unset, .unset, .unset, .unset, .unset, .unset, .unset] [(.long v8)])) t → Steps p.tables e below (s₁.setTop (entryFrame m #[(.int p1), (.int p2), (.long q3), (.long q4), (.long q5), (.int p6)] maxLocals)) t := fun t k => pre6 t (by
    show Steps p.tables e below (s₁.setTop (mkF m 42 #[.val (.int p1), .val (.int p2), .val (.long q3), .second, .val (.long q4), .second, .val (.long q5), .second, .val (.int p6), .val (.int IA), .val (.int IB), .val (.int v2), .unset, .unset, .unset, .unset, .unset, .unset, .unset, .unset, .unset, .unset, .unset, .unset, .unset, .unset, .unset, .unset, .unset, .unset] [(.int v5)])) _
    refine XS.istore X0.here hx rfl (hb hby at_42) rfl (l' := #[.val (.int p1), .val (.int p2), .val (.long q3), .second, .val (.long q4), .second, .val (.long q5), .second, .val (.int p6), .val (.int IA), .val (.int IB), .val (.int v2), .val (.int v5), .unset, .unset, .unset, .unset, .unset, .unset, .unset, .unset, .unset, .unset, .unset, .unset, .unset, .unset, .unset, .unset, .unset]) rfl ?_
    show Steps p.tables e below (s₁.setTop (mkF m 44 #[.val (.int p1), .val (.int p2), .val (.long q3), .second, .val (.long q4), .second, .val (.long q5), .second, .val (.int p6), .val (.int IA), .val (.int IB), .val (.int v2), .val (.int v5), .unset, .unset, .unset, .unset, .unset, .unset, .unset, .unset, .unset, .unset, .unset, .unset, .unset, .unset, .unset, .unset, .unset] [])) _
    refine XS.iload X0.here hx rfl (hb hby at_44) rfl ?_
    show Steps p.tables e below (s₁.setTop (mkF m 46 #[.val (.int p1), .val (.int p2), .val (.long q3), .second, .val (.long q4), .second, .val (.long q5), .second, .val (.int p6), .val (.int IA), .val (.int IB), .val (.int v2), .val (.int v5), .unset, .unset, .unset, .unset, .unset, .unset, .unset, .unset, .unset, .unset, .unset, .unset, .unset, .unset, .unset, .unset, .unset] [(.int p6)])) _
    refine XS.iconst X0.here hx rfl (hb hby at_46) ?_
    show Steps p.tables e below (s₁.setTop (mkF m 47 #[.val (.int p1), .val (.int p2), .val (.long q3), .second, .val (.long q4), .second, .val (.long q5), .second, .val (.int p6), .val (.int IA), .val (.int IB), .val (.int v2), .val (.int v5), .unset, .unset, .unset, .unset, .unset, .unset, .unset, .unset, .unset, .unset, .unset, .unset, .unset, .unset, .unset, .unset, .unset] [(.int (2 : Int32)), (.int p6)])) _
    refine XS.iushr X0.here hx rfl (hb hby at_47) rfl ?_
    show Steps p.tables e below (s₁.setTop (mkF m 48 #[.val (.int p1), .val (.int p2), .val (.long q3), .second, .val (.long q4), .second, .val (.long q5), .second, .val (.int p6), .val (.int IA), .val (.int IB), .val (.int v2), .val (.int v5), .unset, .unset, .unset, .unset, .unset, .unset, .unset, .unset, .unset, .unset, .unset, .unset, .unset, .unset, .unset, .unset, .unset] [(.int ((p6.toUInt32 >>> ((2 : Int32) &&& 31).toUInt32).toInt32))])) _
    refine XS.iconst X0.here hx rfl (hb hby at_48) ?_
    show Steps p.tables e below (s₁.setTop (mkF m 49 #[.val (.int p1), .val (.int p2), .val (.long q3), .second, .val (.long q4), .second, .val (.long q5), .second, .val (.int p6), .val (.int IA), .val (.int IB), .val (.int v2), .val (.int v5), .unset, .unset, .unset, .unset, .unset, .unset, .unset, .unset, .unset, .unset, .unset, .unset, .unset, .unset, .unset, .unset, .unset] [(.int (3 : Int32)), (.int ((p6.toUInt32 >>> ((2 : Int32) &&& 31).toUInt32).toInt32))])) _
    refine XS.iand X0.here hx rfl (hb hby at_49) rfl ?_
    show Steps p.tables e below (s₁.setTop (mkF m 50 #[.val (.int p1), .val (.int p2), .val (.long q3), .second, .val (.long q4), .second, .val (.long q5), .second, .val (.int p6), .val (.int IA), .val (.int IB), .val (.int v2), .val (.int v5), .unset, .unset, .unset, .unset, .unset, .unset, .unset, .unset, .unset, .unset, .unset, .unset, .unset, .unset, .unset, .unset, .unset] [(.int (((p6.toUInt32 >>> ((2 : Int32) &&& 31).toUInt32).toInt32) &&& (3 : Int32)))])) _
    refine XS.istore X0.here hx rfl (hb hby at_50) rfl (l' := #[.val (.int p1), .val (.int p2), .val (.long q3), .second, .val (.long q4), .second, .val (.long q5), .second, .val (.int p6), .val (.int IA), .val (.int IB), .val (.int v2), .val (.int v5), .val (.int (((p6.toUInt32 >>> ((2 : Int32) &&& 31).toUInt32).toInt32) &&& (3 : Int32))), .unset, .unset, .unset, .unset, .unset, .unset, .unset, .unset, .unset, .unset, .unset, .unset, .unset, .unset, .unset, .unset]) rfl ?_
    show Steps p.tables e below (s₁.setTop (mkF m 52 #[.val (.int p1), .val (.int p2), .val (.long q3), .second, .val (.long q4), .second, .val (.long q5), .second, .val (.int p6), .val (.int IA), .val (.int IB), .val (.int v2), .val (.int v5), .val (.int (((p6.toUInt32 >>> ((2 : Int32) &&& 31).toUInt32).toInt32) &&& (3 : Int32))), .unset, .unset, .unset, .unset, .unset, .unset, .unset, .unset, .unset, .unset, .unset, .unset, .unset, .unset, .unset, .unset] [])) _
    refine XS.iload X0.here hx rfl (hb hby at_52) rfl ?_
    show Steps p.tables e below (s₁.setTop (mkF m 54 #[.val (.int p1), .val (.int p2), .val (.long q3), .second, .val (.long q4), .second, .val (.long q5), .second, .val (.int p6), .val (.int IA), .val (.int IB), .val (.int v2), .val (.int v5), .val (.int (((p6.toUInt32 >>> ((2 : Int32) &&& 31).toUInt32).toInt32) &&& (3 : Int32))), .unset, .unset, .unset, .unset, .unset, .unset, .unset, .unset, .unset, .unset, .unset, .unset, .unset, .unset, .unset, .unset] [(.int (((p6.toUInt32 >>> ((2 : Int32) &&& 31).toUInt32).toInt32) &&& (3 : Int32)))])) _
    refine XS.iconst X0.here hx rfl (hb hby at_54) ?_
    show Steps p.tables e below (s₁.setTop (mkF m 55 #[.val (.int p1), .val (.int p2), .val (.long q3), .second, .val (.long q4), .second, .val (.long q5), .second, .val (.int p6), .val (.int IA), .val (.int IB), .val (.int v2), .val (.int v5), .val (.int (((p6.toUInt32 >>> ((2 : Int32) &&& 31).toUInt32).toInt32) &&& (3 : Int32))), .unset, .unset, .unset, .unset, .unset, .unset, .unset, .unset, .unset, .unset, .unset, .unset, .unset, .unset, .unset, .unset] [(.int (2 : Int32)), (.int (((p6.toUInt32 >>> ((2 : Int32) &&& 31).toUInt32).toInt32) &&& (3 : Int32)))])) _
    refine XS.iand X0.here hx rfl (hb hby at_55) rfl ?_
    show Steps p.tables e below (s₁.setTop (mkF m 56 #[.val (.int p1), .val (.int p2), .val (.long q3), .second, .val (.long q4), .second, .val (.long q5), .second, .val (.int p6), .val (.int IA), .val (.int IB), .val (.int v2), .val (.int v5), .val (.int (((p6.toUInt32 >>> ((2 : Int32) &&& 31).toUInt32).toInt32) &&& (3 : Int32))), .unset, .unset, .unset, .unset, .unset, .unset, .unset, .unset, .unset, .unset, .unset, .unset, .unset, .unset, .unset, .unset] [(.int ((((p6.toUInt32 >>> ((2 : Int32) &&& 31).toUInt32).toInt32) &&& (3 : Int32)) &&& (2 : Int32)))])) _
    by_cases hc7 : ((((p6.toUInt32 >>> ((2 : Int32) &&& 31).toUInt32).toInt32) &&& (3 : Int32)) &&& (2 : Int32)) = (0 : Int32)
    · refine XS.ifYes X0.here hx rfl (pc0 := 56) (pc' := 66) rfl (hb hby at_56) rfl ((if0 _ _).trans (teq hc7).1) (by decide) (by decide) ?_
      show Steps p.tables e below (s₁.setTop (mkF m 66 #[.val (.int p1), .val (.int p2), .val (.long q3), .second, .val (.long q4), .second, .val (.long q5), .second, .val (.int p6), .val (.int IA), .val (.int IB), .val (.int v2), .val (.int v5), .val (.int (((p6.toUInt32 >>> ((2 : Int32) &&& 31).toUInt32).toInt32) &&& (3 : Int32))), .unset, .unset, .unset, .unset, .unset, .unset, .unset, .unset, .unset, .unset, .unset, .unset, .unset, .unset, .unset, .unset] [])) _
      refine XS.lloadN X0.here hx rfl (hb hby at_66) rfl ?_
      rw [show v8 = q3 from hv8.trans (if_pos hc7)] at k
      exact k
    · refine XS.ifNo X0.here hx rfl (hb hby at_56) rfl ((if0 _ _).trans (feq hc7).1) ?_
      show Steps p.tables e below (s₁.setTop (mkF m 59 #[.val (.int p1), .val (.int p2), .val (.long q3), .second, .val (.long q4), .second, .val (.long q5), .second, .val (.int p6), .val (.int IA), .val (.int IB), .val (.int v2), .val (.int v5), .val (.int (((p6.toUInt32 >>> ((2 : Int32) &&& 31).toUInt32).toInt32) &&& (3 : Int32))), .unset, .unset, .unset, .unset, .unset, .unset, .unset, .unset, .unset, .unset, .unset, .unset, .unset, .unset, .unset, .unset] [])) _
      refine XS.lloadN X0.here hx rfl (hb hby at_59) rfl ?_
      show Steps p.tables e below (s₁.setTop (mkF m 60 #[.val (.int p1), .val (.int p2), .val (.long q3), .second, .val (.long q4), .second, .val (.long q5), .second, .val (.int p6), .val (.int IA), .val (.int IB), .val (.int v2), .val (.int v5), .val (.int (((p6.toUInt32 >>> ((2 : Int32) &&& 31).toUInt32).toInt32) &&& (3 : Int32))), .unset, .unset, .unset, .unset, .unset, .unset, .unset, .unset, .unset, .unset, .unset, .unset, .unset, .unset, .unset, .unset] [(.long q3)])) _
      refine XS.lload X0.here hx rfl (hb hby at_60) rfl ?_
      show Steps p.tables e below (s₁.setTop (mkF m 62 #[.val (.int p1), .val (.int p2), .val (.long q3), .second, .val (.long q4), .second, .val (.long q5), .second, .val (.int p6), .val (.int IA), .val (.int IB), .val (.int v2), .val (.int v5), .val (.int (((p6.toUInt32 >>> ((2 : Int32) &&& 31).toUInt32).toInt32) &&& (3 : Int32))), .unset, .unset, .unset, .unset, .unset, .unset, .unset, .unset, .unset, .unset, .unset, .unset, .unset, .unset, .unset, .unset] [(.long q5), (.long q3)])) _
      refine XS.lxor X0.here hx rfl (hb hby at_62) rfl ?_
      show Steps p.tables e below (s₁.setTop (mkF m 63 #[.val (.int p1), .val (.int p2), .val (.long q3), .second, .val (.long q4), .second, .val (.long q5), .second, .val (.int p6), .val (.int IA), .val (.int IB), .val (.int v2), .val (.int v5), .val (.int (((p6.toUInt32 >>> ((2 : Int32) &&& 31).toUInt32).toInt32) &&& (3 : Int32))), .unset, .unset, .unset, .unset, .unset, .unset, .unset, .unset, .unset, .unset, .unset, .unset, .unset, .unset, .unset, .unset] [(.long (q3 ^^^ q5))])) _
      refine XS.goto X0.here hx rfl (pc0 := 63) (pc' := 67) rfl (hb hby at_63) (by decide) (by decide) ?_
      rw [show v8 = (q3 ^^^ q5) from hv8.trans (if_neg hc7)] at k
      exact k)
  obtain ⟨v11, hv11⟩ : ∃ z : Int64, z = (if ((((p6.toUInt32 >>> ((2 : Int32) &&& 31).toUInt32).toInt32) &&& (3 : Int32)) &&& (1 : Int32)) = (0 : Int32) then q4 else (q4 ^^^ q5)) := ⟨_, rfl⟩
  have pre12 : ∀ t, Steps p.tables e below (s₁.setTop (mkF m 86 #[.val (.int p1), .val (.int p2), .val (.long q3), .second, .val (.long q4), .second, .val (.long q5), .second, .val (.int p6), .val (.int IA), .val (.int IB), .val (.int v2), .val (.int v5), .val (.int (((p6.toUInt32 >>> ((2 : Int32) &&& 31).toUInt32).toInt32) &&& (3 : Int32))), .val (.long v8), .second, .unset, .unset, .unset, .unset, .unset, .unset, .unset, .unset, .unset, .unset, .unset, .unset, .unset, .unset] [(.long v11)])) t → Steps p.tables e below (s₁.setTop (entryFrame m #[(.int p1), (.int p2), (.long q3), (.long q4), (.long q5), (.int p6)] maxLocals)) t := fun t k => pre9 t (by
    show Steps p.tables e below (s₁.setTop (mkF m 67 #[.val (.int p1), .val (.int p2), .val (.long q3), .second, .val (.long q4), .second, .val (.long q5), .second, .val (.int p6), .val (.int IA), .val (.int IB), .val (.int v2), .val (.int v5), .val (.int (((p6.toUInt32 >>> ((2 : Int32) &&& 31).toUInt32).toInt32) &&& (3 : Int32))), .unset, .unset, .unset, .unset, .unset, .unset, .unset, .unset, .unset, .unset, .unset, .unset, .unset, .unset, .unset, .unset] [(.long v8)])) _
    refine XS.lstore X0.here hx rfl (hb hby at_67) rfl (l' := #[.val (.int p1), .val (.int p2), .val (.long q3), .second, .val (.long q4), .second, .val (.long q5), .second, .val (.int p6), .val (.int IA), .val (.int IB), .val (.int v2), .val (.int v5), .val (.int (((p6.toUInt32 >>> ((2 : Int32) &&& 31).toUInt32).toInt32) &&& (3 : Int32))), .val (.long v8), .second, .unset, .unset, .unset, .unset, .unset, .unset, .unset, .unset, .unset, .unset, .unset, .unset, .unset, .unset]) rfl ?_
    show Steps p.tables e below (s₁.setTop (mkF m 69 #[.val (.int p1), .val (.int p2), .val (.long q3), .second, .val (.long q4), .second, .val (.long q5), .second, .val (.int p6), .val (.int IA), .val (.int IB), .val (.int v2), .val (.int v5), .val (.int (((p6.toUInt32 >>> ((2 : Int32) &&& 31).toUInt32).toInt32) &&& (3 : Int32))), .val (.long v8), .second, .unset, .unset, .unset, .unset, .unset, .unset, .unset, .unset, .unset, .unset, .unset, .unset, .unset, .unset] [])) _
    refine XS.iload X0.here hx rfl (hb hby at_69) rfl ?_
    show Steps p.tables e below (s₁.setTop (mkF m 71 #[.val (.int p1), .val (.int p2), .val (.long q3), .second, .val (.long q4), .second, .val (.long q5), .second, .val (.int p6), .val (.int IA), .val (.int IB), .val (.int v2), .val (.int v5), .val (.int (((p6.toUInt32 >>> ((2 : Int32) &&& 31).toUInt32).toInt32) &&& (3 : Int32))), .val (.long v8), .second, .unset, .unset, .unset, .unset, .unset, .unset, .unset, .unset, .unset, .unset, .unset, .unset, .unset, .unset] [(.int (((p6.toUInt32 >>> ((2 : Int32) &&& 31).toUInt32).toInt32) &&& (3 : Int32)))])) _
    refine XS.iconst X0.here hx rfl (hb hby at_71) ?_
    show Steps p.tables e below (s₁.setTop (mkF m 72 #[.val (.int p1), .val (.int p2), .val (.long q3), .second, .val (.long q4), .second, .val (.long q5), .second, .val (.int p6), .val (.int IA), .val (.int IB), .val (.int v2), .val (.int v5), .val (.int (((p6.toUInt32 >>> ((2 : Int32) &&& 31).toUInt32).toInt32) &&& (3 : Int32))), .val (.long v8), .second, .unset, .unset, .unset, .unset, .unset, .unset, .unset, .unset, .unset, .unset, .unset, .unset, .unset, .unset] [(.int (1 : Int32)), (.int (((p6.toUInt32 >>> ((2 : Int32) &&& 31).toUInt32).toInt32) &&& (3 : Int32)))])) _
    refine XS.iand X0.here hx rfl (hb hby at_72) rfl ?_
    show Steps p.tables e below (s₁.setTop (mkF m 73 #[.val (.int p1), .val (.int p2), .val (.long q3), .second, .val (.long q4), .second, .val (.long q5), .second, .val (.int p6), .val (.int IA), .val (.int IB), .val (.int v2), .val (.int v5), .val (.int (((p6.toUInt32 >>> ((2 : Int32) &&& 31).toUInt32).toInt32) &&& (3 : Int32))), .val (.long v8), .second, .unset, .unset, .unset, .unset, .unset, .unset, .unset, .unset, .unset, .unset, .unset, .unset, .unset, .unset] [(.int ((((p6.toUInt32 >>> ((2 : Int32) &&& 31).toUInt32).toInt32) &&& (3 : Int32)) &&& (1 : Int32)))])) _
    by_cases hc10 : ((((p6.toUInt32 >>> ((2 : Int32) &&& 31).toUInt32).toInt32) &&& (3 : Int32)) &&& (1 : Int32)) = (0 : Int32)
    · refine XS.ifYes X0.here hx rfl (pc0 := 73) (pc' := 84) rfl (hb hby at_73) rfl ((if0 _ _).trans (teq hc10).1) (by decide) (by decide) ?_
      show Steps p.tables e below (s₁.setTop (mkF m 84 #[.val (.int p1), .val (.int p2), .val (.long q3), .second, .val (.long q4), .second, .val (.long q5), .second, .val (.int p6), .val (.int IA), .val (.int IB), .val (.int v2), .val (.int v5), .val (.int (((p6.toUInt32 >>> ((2 : Int32) &&& 31).toUInt32).toInt32) &&& (3 : Int32))), .val (.long v8), .second, .unset, .unset, .unset, .unset, .unset, .unset, .unset, .unset, .unset, .unset, .unset, .unset, .unset, .unset] [])) _
      refine XS.lload X0.here hx rfl (hb hby at_84) rfl ?_
      rw [show v11 = q4 from hv11.trans (if_pos hc10)] at k
      exact k
    · refine XS.ifNo X0.here hx rfl (hb hby at_73) rfl ((if0 _ _).trans (feq hc10).1) ?_
      show Steps p.tables e below (s₁.setTop (mkF m 76 #[.val (.int p1), .val (.int p2), .val (.long q3), .second, .val (.long q4), .second, .val (.long q5), .second, .val (.int p6), .val (.int IA), .val (.int IB), .val (.int v2), .val (.int v5), .val (.int (((p6.toUInt32 >>> ((2 : Int32) &&& 31).toUInt32).toInt32) &&& (3 : Int32))), .val (.long v8), .second, .unset, .unset, .unset, .unset, .unset, .unset, .unset, .unset, .unset, .unset, .unset, .unset, .unset, .unset] [])) _
      refine XS.lload X0.here hx rfl (hb hby at_76) rfl ?_
      show Steps p.tables e below (s₁.setTop (mkF m 78 #[.val (.int p1), .val (.int p2), .val (.long q3), .second, .val (.long q4), .second, .val (.long q5), .second, .val (.int p6), .val (.int IA), .val (.int IB), .val (.int v2), .val (.int v5), .val (.int (((p6.toUInt32 >>> ((2 : Int32) &&& 31).toUInt32).toInt32) &&& (3 : Int32))), .val (.long v8), .second, .unset, .unset, .unset, .unset, .unset, .unset, .unset, .unset, .unset, .unset, .unset, .unset, .unset, .unset] [(.long q4)])) _
      refine XS.lload X0.here hx rfl (hb hby at_78) rfl ?_
      show Steps p.tables e below (s₁.setTop (mkF m 80 #[.val (.int p1), .val (.int p2), .val (.long q3), .second, .val (.long q4), .second, .val (.long q5), .second, .val (.int p6), .val (.int IA), .val (.int IB), .val (.int v2), .val (.int v5), .val (.int (((p6.toUInt32 >>> ((2 : Int32) &&& 31).toUInt32).toInt32) &&& (3 : Int32))), .val (.long v8), .second, .unset, .unset, .unset, .unset, .unset, .unset, .unset, .unset, .unset, .unset, .unset, .unset, .unset, .unset] [(.long q5), (.long q4)])) _
      refine XS.lxor X0.here hx rfl (hb hby at_80) rfl ?_
      show Steps p.tables e below (s₁.setTop (mkF m 81 #[.val (.int p1), .val (.int p2), .val (.long q3), .second, .val (.long q4), .second, .val (.long q5), .second, .val (.int p6), .val (.int IA), .val (.int IB), .val (.int v2), .val (.int v5), .val (.int (((p6.toUInt32 >>> ((2 : Int32) &&& 31).toUInt32).toInt32) &&& (3 : Int32))), .val (.long v8), .second, .unset, .unset, .unset, .unset, .unset, .unset, .unset, .unset, .unset, .unset, .unset, .unset, .unset, .unset] [(.long (q4 ^^^ q5))])) _
      refine XS.goto X0.here hx rfl (pc0 := 81) (pc' := 86) rfl (hb hby at_81) (by decide) (by decide) ?_
      rw [show v11 = (q4 ^^^ q5) from hv11.trans (if_neg hc10)] at k
      exact k)
  obtain ⟨_, _, ⟨T13, L13, k13, n13⟩, -, X13, ⟨Lc13, hQ13, l13, y13, z13⟩, st13⟩ := Jvm.LawKit.callS X0 hx (y := (⟨"com/example/tagwire/tagwire/core/FloatValueEqualsPinLaw", "encHigh", "(IJZ)J"⟩ : MethodName)) hown (mvT hZ (hw _ (List.mem_of_getElem? (i := 1) rfl))) (mvT hZ (hw _ (List.mem_of_getElem? (i := 2) rfl))) (mvT hZ (hw _ (List.mem_of_getElem? (i := 3) rfl))) (mvT hZ (hw _ (List.mem_of_getElem? (i := 4) rfl))) (by decide) (backOf (W := 0) (rm1 l Z a0 hw [] IA q3 v2 h0 n0 Z0) hZ (hw _ (List.mem_of_getElem? (i := 4) rfl)) (hw _ (List.mem_of_getElem? (i := 3) rfl)) (by decide) (by decide)) (g := (mkF m 93 #[.val (.int p1), .val (.int p2), .val (.long q3), .second, .val (.long q4), .second, .val (.long q5), .second, .val (.int p6), .val (.int IA), .val (.int IB), .val (.int v2), .val (.int v5), .val (.int (((p6.toUInt32 >>> ((2 : Int32) &&& 31).toUInt32).toInt32) &&& (3 : Int32))), .val (.long v8), .second, .val (.long v11), .second, .unset, .unset, .unset, .unset, .unset, .unset, .unset, .unset, .unset, .unset, .unset, .unset] [(.int v2), (.long q3), (.int IA)])) rfl (by rw [hml]; rfl) (argsL := [(.int IA), (.long q3), (.int v2)]) (rest := []) (lenOf pd_9 rfl) rfl (by show 2 * 0 + _ ≤ _; exact Nat.le_of_eq rfl) (hb hby at_93) (fun _ _ => ⟨rfl, e0, (by decide : 0 + 0 ≤ _), (by decide : 0 + 0 ≤ _)⟩)
  dsimp only [Pt.U, Pt.locs, Pt.cells, Pt.slots] at X13 l13 y13 z13 st13 hQ13
  subst l13 y13 z13
  obtain ⟨rfl, N13q, e13⟩ := hQ13
  have N13 := Fr.app N0 N13q
  obtain ⟨EHA, hEHA⟩ : ∃ z : Int64, z = (f1 IA q3 v2) := ⟨_, rfl⟩
  obtain ⟨_, _, ⟨T14, L14, k14, n14⟩, -, X14, ⟨Lc14, hQ14, l14, y14, z14⟩, st14⟩ := Jvm.LawKit.callS X13 hx (y := (⟨"com/example/tagwire/tagwire/core/FloatValueEqualsPinLaw", "encLow", "(IJZ)J"⟩ : MethodName)) hown (mvT hZ (hw _ (List.mem_of_getElem? (i := 11) rfl))) (mvT hZ (hw _ (List.mem_of_getElem? (i := 12) rfl))) (mvT hZ (hw _ (List.mem_of_getElem? (i := 3) rfl))) (mvT hZ (hw _ (List.mem_of_getElem? (i := 13) rfl))) (by decide) (backOf (W := 0) (rm4 l Z a0 hw [] IA q4 v2 h0 n0 Z0) hZ (hw _ (List.mem_of_getElem? (i := 13) rfl)) (hw _ (List.mem_of_getElem? (i := 3) rfl)) (by decide) (by decide)) (g := (mkF m 104 #[.val (.int p1), .val (.int p2), .val (.long q3), .second, .val (.long q4), .second, .val (.long q5), .second, .val (.int p6), .val (.int IA), .val (.int IB), .val (.int v2), .val (.int v5), .val (.int (((p6.toUInt32 >>> ((2 : Int32) &&& 31).toUInt32).toInt32) &&& (3 : Int32))), .val (.long v8), .second, .val (.long v11), .second, .val (.long EHA), .second, .unset, .unset, .unset, .unset, .unset, .unset, .unset, .unset, .unset, .unset] [(.int v2), (.long q4), (.int IA)])) rfl (by rw [hml]; rfl) (argsL := [(.int IA), (.long q4), (.int v2)]) (rest := []) (lenOf pd_9 rfl) rfl (by show 2 * 0 + _ ≤ _; exact Nat.le_of_eq rfl) (hb hby at_104) (fun _ _ => ⟨rfl, e13, (by decide : 0 + 0 ≤ _), (by decide : 0 + 0 ≤ _)⟩)
  dsimp only [Pt.U, Pt.locs, Pt.cells, Pt.slots] at X14 l14 y14 z14 st14 hQ14
  subst l14 y14 z14
  obtain ⟨rfl, N14q, e14⟩ := hQ14
  have N14 := Fr.app N13 N14q
  obtain ⟨ELA, hELA⟩ : ∃ z : Int64, z = (f4 IA q4 v2) := ⟨_, rfl⟩
  obtain ⟨_, _, ⟨T15, L15, k15, n15⟩, -, X15, ⟨Lc15, hQ15, l15, y15, z15⟩, st15⟩ := Jvm.LawKit.callS X14 hx (y := (⟨"com/example/tagwire/tagwire/core/FloatValueEqualsPinLaw", "encHigh", "(IJZ)J"⟩ : MethodName)) hown (mvT hZ (hw _ (List.mem_of_getElem? (i := 1) rfl))) (mvT hZ (hw _ (List.mem_of_getElem? (i := 2) rfl))) (mvT hZ (hw _ (List.mem_of_getElem? (i := 3) rfl))) (mvT hZ (hw _ (List.mem_of_getElem? (i := 4) rfl))) (by decide) (backOf (W := 0) (rm1 l Z a0 hw [] IB v8 v5 h0 n0 Z0) hZ (hw _ (List.mem_of_getElem? (i := 4) rfl)) (hw _ (List.mem_of_getElem? (i := 3) rfl)) (by decide) (by decide)) (g := (mkF m 115 #[.val (.int p1), .val (.int p2), .val (.long q3), .second, .val (.long q4), .second, .val (.long q5), .second, .val (.int p6), .val (.int IA), .val (.int IB), .val (.int v2), .val (.int v5), .val (.int (((p6.toUInt32 >>> ((2 : Int32) &&& 31).toUInt32).toInt32) &&& (3 : Int32))), .val (.long v8), .second, .val (.long v11), .second, .val (.long EHA), .second, .val (.long ELA), .second, .unset, .unset, .unset, .unset, .unset, .unset, .unset, .unset] [(.int v5), (.long v8), (.int IB)])) rfl (by rw [hml]; rfl) (argsL := [(.int IB), (.long v8), (.int v5)]) (rest := []) (lenOf pd_9 rfl) rfl (by show 2 * 0 + _ ≤ _; exact Nat.le_of_eq rfl) (hb hby at_115) (fun _ _ => ⟨rfl, e14, (by decide : 0 + 0 ≤ _), (by decide : 0 + 0 ≤ _)⟩)
  dsimp only [Pt.U, Pt.locs, Pt.cells, Pt.slots] at X15 l15 y15 z15 st15 hQ15
  subst l15 y15 z15
  obtain ⟨rfl, N15q, e15⟩ := hQ15
  have N15 := Fr.app N14 N15q
  obtain ⟨EHB, hEHB⟩ : ∃ z : Int64, z = (f1 IB v8 v5) := ⟨_, rfl⟩
  obtain ⟨_, _, ⟨T16, L16, k16, n16⟩, -, X16, ⟨Lc16, hQ16, l16, y16, z16⟩, st16⟩ := Jvm.LawKit.callS X15 hx (y := (⟨"com/example/tagwire/tagwire/core/FloatValueEqualsPinLaw", "encLow", "(IJZ)J"⟩ : MethodName)) hown (mvT hZ (hw _ (List.mem_of_getElem? (i := 11) rfl))) (mvT hZ (hw _ (List.mem_of_getElem? (i := 12) rfl))) (mvT hZ (hw _ (List.mem_of_getElem? (i := 3) rfl))) (mvT hZ (hw _ (List.mem_of_getElem? (i := 13) rfl))) (by decide) (backOf (W := 0) (rm4 l Z a0 hw [] IB v11 v5 h0 n0 Z0) hZ (hw _ (List.mem_of_getElem? (i := 13) rfl)) (hw _ (List.mem_of_getElem? (i := 3) rfl)) (by decide) (by decide)) (g := (mkF m 126 #[.val (.int p1), .val (.int p2), .val (.long q3), .second, .val (.long q4), .second, .val (.long q5), .second, .val (.int p6), .val (.int IA), .val (.int IB), .val (.int v2), .val (.int v5), .val (.int (((p6.toUInt32 >>> ((2 : Int32) &&& 31).toUInt32).toInt32) &&& (3 : Int32))), .val (.long v8), .second, .val (.long v11), .second, .val (.long EHA), .second, .val (.long ELA), .second, .val (.long EHB), .second, .unset, .unset, .unset, .unset, .unset, .unset] [(.int v5), (.long v11), (.int IB)])) rfl (by rw [hml]; rfl) (argsL := [(.int IB), (.long v11), (.int v5)]) (rest := []) (lenOf pd_9 rfl) rfl (by show 2 * 0 + _ ≤ _; exact Nat.le_of_eq rfl) (hb hby at_126) (fun _ _ => ⟨rfl, e15, (by decide : 0 + 0 ≤ _), (by decide : 0 + 0 ≤ _)⟩)
  dsimp only [Pt.U, Pt.locs, Pt.cells, Pt.slots] at X16 l16 y16 z16 st16 hQ16
  subst l16 y16 z16
  obtain ⟨rfl, N16q, e16⟩ := hQ16
  have N16 := Fr.app N15 N16q
  obtain ⟨ELB, hELB⟩ : ∃ z : Int64, z = (f4 IB v11 v5) := ⟨_, rfl⟩
  obtain ⟨_, _, ⟨T17, L17, k17, n17⟩, -, X17, ⟨Lc17, hQ17, l17, y17, z17⟩, st17⟩ := Jvm.LawKit.callS X16 hx (y := (⟨"com/example/tagwire/tagwire/core/FloatValueEqualsPinLaw", "fmt", "(I)Lcom/example/tagwire/tagwire/core/FloatFormat;"⟩ : MethodName)) hown (mvT hZ (hw _ (List.mem_of_getElem? (i := 24) rfl))) (mvT hZ (hw _ (List.mem_of_getElem? (i := 25) rfl))) (mvT hZ (hw _ (List.mem_of_getElem? (i := 3) rfl))) (mvT hZ (hw _ (List.mem_of_getElem? (i := 26) rfl))) (by decide) (backOf (W := 0) (rm7 l Z a0 hw [] IA s_BINARY16 s_BINARY32 s_BINARY64 s_EXTENDED80 s_BINARY128 h0 n0 Z0 (S_BINARY16.ext O0.2) (S_BINARY32.ext O0.2) (S_BINARY64.ext O0.2) (S_EXTENDED80.ext O0.2) (S_BINARY128.ext O0.2)) hZ (hw _ (List.mem_of_getElem? (i := 26) rfl)) (hw _ (List.mem_of_getElem? (i := 3) rfl)) (by decide) (by decide)) (g := (mkF m 133 #[.val (.int p1), .val (.int p2), .val (.long q3), .second, .val (.long q4), .second, .val (.long q5), .second, .val (.int p6), .val (.int IA), .val (.int IB), .val (.int v2), .val (.int v5), .val (.int (((p6.toUInt32 >>> ((2 : Int32) &&& 31).toUInt32).toInt32) &&& (3 : Int32))), .val (.long v8), .second, .val (.long v11), .second, .val (.long EHA), .second, .val (.long ELA), .second, .val (.long EHB), .second, .val (.long ELB), .second, .unset, .unset, .unset, .unset] [(.int IA)])) rfl (by rw [hml]; rfl) (argsL := [(.int IA)]) (rest := []) (lenOf pd_10 rfl) rfl (by show 2 * 0 + _ ≤ _; exact Nat.le_of_eq rfl) (hb hby at_133) (fun _ _ => ⟨rfl, e16, (by decide : 0 + 0 ≤ _), (by decide : 0 + 0 ≤ _)⟩)
  dsimp only [Pt.U, Pt.locs, Pt.cells, Pt.slots] at X17 l17 y17 z17 st17 hQ17
  subst l17 y17 z17
  obtain ⟨rfl, N17q, e17⟩ := hQ17
  have N17 := Fr.app N16 N17q
  obtain ⟨FA, hFA⟩ : ∃ z : Addr, z = (f7 IA s_BINARY16 s_BINARY32 s_BINARY64 s_EXTENDED80 s_BINARY128) := ⟨_, rfl⟩
  obtain ⟨E_FA, F_bytes_FA, F_significandBits_FA, F_exponentBits_FA, F_explicitIntegerBit_FA⟩ : own_FM Z h0 IA FA := by rw [hFA]; exact own_FM_ext (own_fm hfm rIA) O0.2
  obtain ⟨_, _, ⟨T18, L18, k18, n18⟩, -, X18, ⟨Lc18, hQ18, l18, y18, z18⟩, st18⟩ := Jvm.LawKit.callS X17 hx (y := (⟨"com/example/tagwire/tagwire/core/FloatValue", "ofBits", "(Lcom/example/tagwire/tagwire/core/FloatFormat;JJ)Lcom/example/tagwire/tagwire/core/FloatValue;"⟩ : MethodName)) hown (mvT hZ (hw _ (List.mem_of_getElem? (i := 30) rfl))) (mvT hZ (hw _ (List.mem_of_getElem? (i := 31) rfl))) (mvT hZ (hw _ (List.mem_of_getElem? (i := 32) rfl))) (mvT hZ (hw _ (List.mem_of_getElem? (i := 33) rfl))) (by decide) (backOf (W := 0) (rm8 l Z a0 hw [] FA EHA ELA (own_by IA) (own_sb IA) (own_eb IA) (own_xb IA) h0 n0 Z0 E_FA F_bytes_FA F_significandBits_FA F_exponentBits_FA F_explicitIntegerBit_FA (by rw [hEHA]; exact own_h25 rIA _ _) (by rw [hELA]; exact own_h41 rIA _ _) (by rw [hEHA, hELA]; exact own_hnn rIA _ _ _)) hZ (hw _ (List.mem_of_getElem? (i := 33) rfl)) (hw _ (List.mem_of_getElem? (i := 32) rfl)) (by decide) (by decide)) (g := (mkF m 140 #[.val (.int p1), .val (.int p2), .val (.long q3), .second, .val (.long q4), .second, .val (.long q5), .second, .val (.int p6), .val (.int IA), .val (.int IB), .val (.int v2), .val (.int v5), .val (.int (((p6.toUInt32 >>> ((2 : Int32) &&& 31).toUInt32).toInt32) &&& (3 : Int32))), .val (.long v8), .second, .val (.long v11), .second, .val (.long EHA), .second, .val (.long ELA), .second, .val (.long EHB), .second, .val (.long ELB), .second, .unset, .unset, .unset, .unset] [(.long ELA), (.long EHA), (.ref FA)])) rfl (by rw [hml]; rfl) (argsL := [(.ref FA), (.long EHA), (.long ELA)]) (rest := []) (lenOf pd_11 rfl) rfl (by show 2 * 0 + _ ≤ _; exact Nat.le_of_eq rfl) (hb hby at_140) (fun _ _ => ⟨rfl, e17, (by decide : 0 + 2 ≤ _), (by decide : 0 + 6 ≤ _)⟩)
  dsimp only [Pt.U, Pt.locs, Pt.cells, Pt.slots] at X18 l18 y18 z18 st18 hQ18
  subst l18 y18 z18
  obtain ⟨h18, e18⟩ : ∃ z, T18.heap = z := ⟨_, rfl⟩
  rw [e18] at hQ18
  obtain ⟨b18, rfl, N18q, Kc18, szc_b18, E_b18_18q, F_format_b18_18q, F_high_b18_18q, F_low_b18_18q⟩ := hQ18
  have ne_FA_b18 : FA ≠ b18 := Nat.ne_of_lt (Nat.lt_of_lt_of_le E_FA.lt szc_b18)
  have g_b18 : n0 ≤ b18 := Nat.le_trans Z0 szc_b18
  have sz_b18 : h0.size ≤ b18 := Nat.le_trans K0.1 szc_b18
  have E_FA_18 : Exa Z h18 FA "com/example/tagwire/tagwire/core/FloatFormat" := E_FA.keep Kc18
  have F_bytes_FA_18 : Fld Z h18 FA "com/example/tagwire/tagwire/core/FloatFormat" "bytes" "I" (.int (own_by IA)) := F_bytes_FA.keep Kc18 nin0
  have F_significandBits_FA_18 : Fld Z h18 FA "com/example/tagwire/tagwire/core/FloatFormat" "significandBits" "I" (.int (own_sb IA)) := F_significandBits_FA.keep Kc18 nin0
  have F_exponentBits_FA_18 : Fld Z h18 FA "com/example/tagwire/tagwire/core/FloatFormat" "exponentBits" "I" (.int (own_eb IA)) := F_exponentBits_FA.keep Kc18 nin0
  have F_explicitIntegerBit_FA_18 : Fld Z h18 FA "com/example/tagwire/tagwire/core/FloatFormat" "explicitIntegerBit" "Z" (.int (own_xb IA)) := F_explicitIntegerBit_FA.keep Kc18 nin0
  have K18 := K0.trans Kc18 all0
  have Zs18 := Nat.le_trans Z0 Kc18.1
  have O18 := O0.keep Kc18 all0
  have E_b18_18 : Exa Z h18 b18 "com/example/tagwire/tagwire/core/FloatValue" := E_b18_18q
  have F_format_b18_18 : Fld Z h18 b18 "com/example/tagwire/tagwire/core/FloatValue" "format" "Lcom/example/tagwire/tagwire/core/FloatFormat;" (.ref FA) := F_format_b18_18q
  have F_high_b18_18 : Fld Z h18 b18 "com/example/tagwire/tagwire/core/FloatValue" "high" "J" (.long (if (f13 (own_sb IA) (own_eb IA) ELA EHA) = (0 : Int32) then (f24 (((f22 (own_xb IA) (own_sb IA)) - (1 : Int32)) - (64 : Int32)) ((((f15 (own_sb IA)) + (f16 (own_eb IA))) + (0 : Int32)) - (64 : Int32))) else EHA)) := F_high_b18_18q
  have F_low_b18_18 : Fld Z h18 b18 "com/example/tagwire/tagwire/core/FloatValue" "low" "J" (.long (if (f13 (own_sb IA) (own_eb IA) ELA EHA) = (0 : Int32) then (f24 ((f22 (own_xb IA) (own_sb IA)) - (1 : Int32)) (((f15 (own_sb IA)) + (f16 (own_eb IA))) + (0 : Int32))) else ELA)) := F_low_b18_18q
  have N18 := Fr.app N17 N18q
  obtain ⟨_, _, ⟨T19, L19, k19, n19⟩, -, X19, ⟨Lc19, hQ19, l19, y19, z19⟩, st19⟩ := Jvm.LawKit.callS X18 hx (y := (⟨"com/example/tagwire/tagwire/core/FloatValueEqualsPinLaw", "fmt", "(I)Lcom/example/tagwire/tagwire/core/FloatFormat;"⟩ : MethodName)) hown (mvT hZ (hw _ (List.mem_of_getElem? (i := 24) rfl))) (mvT hZ (hw _ (List.mem_of_getElem? (i := 25) rfl))) (mvT hZ (hw _ (List.mem_of_getElem? (i := 3) rfl))) (mvT hZ (hw _ (List.mem_of_getElem? (i := 26) rfl))) (by decide) (backOf (W := 0) (rm7 l Z a0 hw [] IB s_BINARY16 s_BINARY32 s_BINARY64 s_EXTENDED80 s_BINARY128 h18 n0 Zs18 (S_BINARY16.ext O18.2) (S_BINARY32.ext O18.2) (S_BINARY64.ext O18.2) (S_EXTENDED80.ext O18.2) (S_BINARY128.ext O18.2)) hZ (hw _ (List.mem_of_getElem? (i := 26) rfl)) (hw _ (List.mem_of_getElem? (i := 3) rfl)) (by decide) (by decide)) (g := (mkF m 147 #[.val (.int p1), .val (.int p2), .val (.long q3), .second, .val (.long q4), .second, .val (.long q5), .second, .val (.int p6), .val (.int IA), .val (.int IB), .val (.int v2), .val (.int v5), .val (.int (((p6.toUInt32 >>> ((2 : Int32) &&& 31).toUInt32).toInt32) &&& (3 : Int32))), .val (.long v8), .second, .val (.long v11), .second, .val (.long EHA), .second, .val (.long ELA), .second, .val (.long EHB), .second, .val (.long ELB), .second, .val (.ref b18), .unset, .unset, .unset] [(.int IB)])) rfl (by rw [hml]; rfl) (argsL := [(.int IB)]) (rest := []) (lenOf pd_10 rfl) rfl (by show 2 * 0 + _ ≤ _; exact Nat.le_of_eq rfl) (hb hby at_147) (fun _ _ => ⟨rfl, e18, (by decide : 2 + 0 ≤ _), (by decide : 6 + 0 ≤ _)⟩)
  dsimp only [Pt.U, Pt.locs, Pt.cells, Pt.slots] at X19 l19 y19 z19 st19 hQ19
  subst l19 y19 z19
  obtain ⟨rfl, N19q, e19⟩ := hQ19
  have N19 := Fr.app N18 N19q
  obtain ⟨FB, hFB⟩ : ∃ z : Addr, z = (f7 IB s_BINARY16 s_BINARY32 s_BINARY64 s_EXTENDED80 s_BINARY128) := ⟨_, rfl⟩
  obtain ⟨E_FB, F_bytes_FB, F_significandBits_FB, F_exponentBits_FB, F_explicitIntegerBit_FB⟩ : own_FM Z h18 IB FB := by rw [hFB]; exact own_FM_ext (own_fm hfm rIB) O18.2
  obtain ⟨_, _, ⟨T20, L20, k20, n20⟩, -, X20, ⟨Lc20, hQ20, l20, y20, z20⟩, st20⟩ := Jvm.LawKit.callS X19 hx (y := (⟨"com/example/tagwire/tagwire/core/FloatValue", "ofBits", "(Lcom/example/tagwire/tagwire/core/FloatFormat;JJ)Lcom/example/tagwire/tagwire/core/FloatValue;"⟩ : MethodName)) hown (mvT hZ (hw _ (List.mem_of_getElem? (i := 30) rfl))) (mvT hZ (hw _ (List.mem_of_getElem? (i := 31) rfl))) (mvT hZ (hw _ (List.mem_of_getElem? (i := 32) rfl))) (mvT hZ (hw _ (List.mem_of_getElem? (i := 33) rfl))) (by decide) (backOf (W := 0) (rm8 l Z a0 hw [] FB EHB ELB (own_by IB) (own_sb IB) (own_eb IB) (own_xb IB) h18 n0 Zs18 E_FB F_bytes_FB F_significandBits_FB F_exponentBits_FB F_explicitIntegerBit_FB (by rw [hEHB]; exact own_h25 rIB _ _) (by rw [hELB]; exact own_h41 rIB _ _) (by rw [hEHB, hELB]; exact own_hnn rIB _ _ _)) hZ (hw _ (List.mem_of_getElem? (i := 33) rfl)) (hw _ (List.mem_of_getElem? (i := 32) rfl)) (by decide) (by decide)) (g := (mkF m 154 #[.val (.int p1), .val (.int p2), .val (.long q3), .second, .val (.long q4), .second, .val (.long q5), .second, .val (.int p6), .val (.int IA), .val (.int IB), .val (.int v2), .val (.int v5), .val (.int (((p6.toUInt32 >>> ((2 : Int32) &&& 31).toUInt32).toInt32) &&& (3 : Int32))), .val (.long v8), .second, .val (.long v11), .second, .val (.long EHA), .second, .val (.long ELA), .second, .val (.long EHB), .second, .val (.long ELB), .second, .val (.ref b18), .unset, .unset, .unset] [(.long ELB), (.long EHB), (.ref FB)])) rfl (by rw [hml]; rfl) (argsL := [(.ref FB), (.long EHB), (.long ELB)]) (rest := []) (lenOf pd_11 rfl) rfl (by show 2 * 0 + _ ≤ _; exact Nat.le_of_eq rfl) (hb hby at_154) (fun _ _ => ⟨rfl, e19, (by decide : 2 + 2 ≤ _), (by decide : 6 + 6 ≤ _)⟩)
  dsimp only [Pt.U, Pt.locs, Pt.cells, Pt.slots] at X20 l20 y20 z20 st20 hQ20
  subst l20 y20 z20
  obtain ⟨h20, e20⟩ : ∃ z, T20.heap = z := ⟨_, rfl⟩
  rw [e20] at hQ20
  obtain ⟨b20, rfl, N20q, Kc20, szc_b20, E_b20_20q, F_format_b20_20q, F_high_b20_20q, F_low_b20_20q⟩ := hQ20
  have ne_FA_b20 : FA ≠ b20 := Nat.ne_of_lt (Nat.lt_of_lt_of_le E_FA_18.lt szc_b20)
  have ne_b18_b20 : b18 ≠ b20 := Nat.ne_of_lt (Nat.lt_of_lt_of_le E_b18_18.lt szc_b20)
  have ne_FB_b20 : FB ≠ b20 := Nat.ne_of_lt (Nat.lt_of_lt_of_le E_FB.lt szc_b20)
  have g_b20 : n0 ≤ b20 := Nat.le_trans Zs18 szc_b20
  have sz_b20 : h0.size ≤ b20 := Nat.le_trans K18.1 szc_b20
  have E_FA_20 : Exa Z h20 FA "com/example/tagwire/tagwire/core/FloatFormat" := E_FA_18.keep Kc20
  have F_bytes_FA_20 : Fld Z h20 FA "com/example/tagwire/tagwire/core/FloatFormat" "bytes" "I" (.int (own_by IA)) := F_bytes_FA_18.keep Kc20 nin0
  have F_significandBits_FA_20 : Fld Z h20 FA "com/example/tagwire/tagwire/core/FloatFormat" "significandBits" "I" (.int (own_sb IA)) := F_significandBits_FA_18.keep Kc20 nin0
  have F_exponentBits_FA_20 : Fld Z h20 FA "com/example/tagwire/tagwire/core/FloatFormat" "exponentBits" "I" (.int (own_eb IA)) := F_exponentBits_FA_18.keep Kc20 nin0
  have F_explicitIntegerBit_FA_20 : Fld Z h20 FA "com/example/tagwire/tagwire/core/FloatFormat" "explicitIntegerBit" "Z" (.int (own_xb IA)) := F_explicitIntegerBit_FA_18.keep Kc20 nin0
  have E_b18_20 : Exa Z h20 b18 "com/example/tagwire/tagwire/core/FloatValue" := E_b18_18.keep Kc20
  have F_format_b18_20 : Fld Z h20 b18 "com/example/tagwire/tagwire/core/FloatValue" "format" "Lcom/example/tagwire/tagwire/core/FloatFormat;" (.ref FA) := F_format_b18_18.keep Kc20 nin0
  have F_high_b18_20 : Fld Z h20 b18 "com/example/tagwire/tagwire/core/FloatValue" "high" "J" (.long (if (f13 (own_sb IA) (own_eb IA) ELA EHA) = (0 : Int32) then (f24 (((f22 (own_xb IA) (own_sb IA)) - (1 : Int32)) - (64 : Int32)) ((((f15 (own_sb IA)) + (f16 (own_eb IA))) + (0 : Int32)) - (64 : Int32))) else EHA)) := F_high_b18_18.keep Kc20 nin0
  have F_low_b18_20 : Fld Z h20 b18 "com/example/tagwire/tagwire/core/FloatValue" "low" "J" (.long (if (f13 (own_sb IA) (own_eb IA) ELA EHA) = (0 : Int32) then (f24 ((f22 (own_xb IA) (own_sb IA)) - (1 : Int32)) (((f15 (own_sb IA)) + (f16 (own_eb IA))) + (0 : Int32))) else ELA)) := F_low_b18_18.keep Kc20 nin0
  have E_FB_20 : Exa Z h20 FB "com/example/tagwire/tagwire/core/FloatFormat" := E_FB.keep Kc20
  have F_bytes_FB_20 : Fld Z h20 FB "com/example/tagwire/tagwire/core/FloatFormat" "bytes" "I" (.int (own_by IB)) := F_bytes_FB.keep Kc20 nin0
  have F_significandBits_FB_20 : Fld Z h20 FB "com/example/tagwire/tagwire/core/FloatFormat" "significandBits" "I" (.int (own_sb IB)) := F_significandBits_FB.keep Kc20 nin0
  have F_exponentBits_FB_20 : Fld Z h20 FB "com/example/tagwire/tagwire/core/FloatFormat" "exponentBits" "I" (.int (own_eb IB)) := F_exponentBits_FB.keep Kc20 nin0
  have F_explicitIntegerBit_FB_20 : Fld Z h20 FB "com/example/tagwire/tagwire/core/FloatFormat" "explicitIntegerBit" "Z" (.int (own_xb IB)) := F_explicitIntegerBit_FB.keep Kc20 nin0
  have K20 := K18.trans Kc20 all0
  have Zs20 := Nat.le_trans Zs18 Kc20.1
  have O20 := O18.keep Kc20 all0
  have E_b20_20 : Exa Z h20 b20 "com/example/tagwire/tagwire/core/FloatValue" := E_b20_20q
  have F_format_b20_20 : Fld Z h20 b20 "com/example/tagwire/tagwire/core/FloatValue" "format" "Lcom/example/tagwire/tagwire/core/FloatFormat;" (.ref FB) := F_format_b20_20q
  have F_high_b20_20 : Fld Z h20 b20 "com/example/tagwire/tagwire/core/FloatValue" "high" "J" (.long (if (f13 (own_sb IB) (own_eb IB) ELB EHB) = (0 : Int32) then (f24 (((f22 (own_xb IB) (own_sb IB)) - (1 : Int32)) - (64 : Int32)) ((((f15 (own_sb IB)) + (f16 (own_eb IB))) + (0 : Int32)) - (64 : Int32))) else EHB)) := F_high_b20_20q
  have F_low_b20_20 : Fld Z h20 b20 "com/example/tagwire/tagwire/core/FloatValue" "low" "J" (.long (if (f13 (own_sb IB) (own_eb IB) ELB EHB) = (0 : Int32) then (f24 ((f22 (own_xb IB) (own_sb IB)) - (1 : Int32)) (((f15 (own_sb IB)) + (f16 (own_eb IB))) + (0 : Int32))) else ELB)) := F_low_b20_20q
  have N20 := Fr.app N19 N20q
  have pre21 : ∀ t, Steps p.tables e below (T20.setTop (mkF m 170 #[.val (.int p1), .val (.int p2), .val (.long q3), .second, .val (.long q4), .second, .val (.long q5), .second, .val (.int p6), .val (.int IA), .val (.int IB), .val (.int v2), .val (.int v5), .val (.int (((p6.toUInt32 >>> ((2 : Int32) &&& 31).toUInt32).toInt32) &&& (3 : Int32))), .val (.long v8), .second, .val (.long v11), .second, .val (.long EHA), .second, .val (.long ELA), .second, .val (.long EHB), .second, .val (.long ELB), .second, .val (.ref b18), .val (.ref b20), .val (.int (((p6.toUInt32 >>> ((4 : Int32) &&& 31).toUInt32).toInt32) &&& (3 : Int32))), .unset] [(.int (2 : Int32)), (.int (((p6.toUInt32 >>> ((4 : Int32) &&& 31).toUInt32).toInt32) &&& (3 : Int32)))])) t → Steps p.tables e below (s₁.setTop (entryFrame m #[(.int p1), (.int p2), (.long q3), (.long q4), (.long q5), (.int p6)] maxLocals)) t := fun t k => pre12 t (by
    show Steps p.tables e below (s₁.setTop (mkF m 86 #[.val (.int p1), .val (.int p2), .val (.long q3), .second, .val (.long q4), .second, .val (.long q5), .second, .val (.int p6), .val (.int IA), .val (.int IB), .val (.int v2), .val (.int v5), .val (.int (((p6.toUInt32 >>> ((2 : Int32) &&& 31).toUInt32).toInt32) &&& (3 : Int32))), .val (.long v8), .second, .unset, .unset, .unset, .unset, .unset, .unset, .unset, .unset, .unset, .unset, .unset, .unset, .unset, .unset] [(.long v11)])) _
    refine XS.lstore X0.here hx rfl (hb hby at_86) rfl (l' := #[.val (.int p1), .val (.int p2), .val (.long q3), .second, .val (.long q4), .second, .val (.long q5), .second, .val (.int p6), .val (.int IA), .val (.int IB), .val (.int v2), .val (.int v5), .val (.int (((p6.toUInt32 >>> ((2 : Int32) &&& 31).toUInt32).toInt32) &&& (3 : Int32))), .val (.long v8), .second, .val (.long v11), .second, .unset, .unset, .unset, .unset, .unset, .unset, .unset, .unset, .unset, .unset, .unset, .unset]) rfl ?_
    show Steps p.tables e below (s₁.setTop (mkF m 88 #[.val (.int p1), .val (.int p2), .val (.long q3), .second, .val (.long q4), .second, .val (.long q5), .second, .val (.int p6), .val (.int IA), .val (.int IB), .val (.int v2), .val (.int v5), .val (.int (((p6.toUInt32 >>> ((2 : Int32) &&& 31).toUInt32).toInt32) &&& (3 : Int32))), .val (.long v8), .second, .val (.long v11), .second, .unset, .unset, .unset, .unset, .unset, .unset, .unset, .unset, .unset, .unset, .unset, .unset] [])) _
    refine XS.iload X0.here hx rfl (hb hby at_88) rfl ?_
    show Steps p.tables e below (s₁.setTop (mkF m 90 #[.val (.int p1), .val (.int p2), .val (.long q3), .second, .val (.long q4), .second, .val (.long q5), .second, .val (.int p6), .val (.int IA), .val (.int IB), .val (.int v2), .val (.int v5), .val (.int (((p6.toUInt32 >>> ((2 : Int32) &&& 31).toUInt32).toInt32) &&& (3 : Int32))), .val (.long v8), .second, .val (.long v11), .second, .unset, .unset, .unset, .unset, .unset, .unset, .unset, .unset, .unset, .unset, .unset, .unset] [(.int IA)])) _
    refine XS.lloadN X0.here hx rfl (hb hby at_90) rfl ?_
    show Steps p.tables e below (s₁.setTop (mkF m 91 #[.val (.int p1), .val (.int p2), .val (.long q3), .second, .val (.long q4), .second, .val (.long q5), .second, .val (.int p6), .val (.int IA), .val (.int IB), .val (.int v2), .val (.int v5), .val (.int (((p6.toUInt32 >>> ((2 : Int32) &&& 31).toUInt32).toInt32) &&& (3 : Int32))), .val (.long v8), .second, .val (.long v11), .second, .unset, .unset, .unset, .unset, .unset, .unset, .unset, .unset, .unset, .unset, .unset, .unset] [(.long q3), (.int IA)])) _
    refine XS.iload X0.here hx rfl (hb hby at_91) rfl ?_
    show Steps p.tables e below (s₁.setTop (mkF m 93 #[.val (.int p1), .val (.int p2), .val (.long q3), .second, .val (.long q4), .second, .val (.long q5), .second, .val (.int p6), .val (.int IA), .val (.int IB), .val (.int v2), .val (.int v5), .val (.int (((p6.toUInt32 >>> ((2 : Int32) &&& 31).toUInt32).toInt32) &&& (3 : Int32))), .val (.long v8), .second, .val (.long v11), .second, .unset, .unset, .unset, .unset, .unset, .unset, .unset, .unset, .unset, .unset, .unset, .unset] [(.int v2), (.long q3), (.int IA)])) _
    refine st13 _ ?_
    show Steps p.tables e below (T13.setTop (mkF m 96 #[.val (.int p1), .val (.int p2), .val (.long q3), .second, .val (.long q4), .second, .val (.long q5), .second, .val (.int p6), .val (.int IA), .val (.int IB), .val (.int v2), .val (.int v5), .val (.int (((p6.toUInt32 >>> ((2 : Int32) &&& 31).toUInt32).toInt32) &&& (3 : Int32))), .val (.long v8), .second, .val (.long v11), .second, .unset, .unset, .unset, .unset, .unset, .unset, .unset, .unset, .unset, .unset, .unset, .unset] [(.long (f1 IA q3 v2))])) _
    rw [← hEHA]
    show Steps p.tables e below (T13.setTop (mkF m 96 #[.val (.int p1), .val (.int p2), .val (.long q3), .second, .val (.long q4), .second, .val (.long q5), .second, .val (.int p6), .val (.int IA), .val (.int IB), .val (.int v2), .val (.int v5), .val (.int (((p6.toUInt32 >>> ((2 : Int32) &&& 31).toUInt32).toInt32) &&& (3 : Int32))), .val (.long v8), .second, .val (.long v11), .second, .unset, .unset, .unset, .unset, .unset, .unset, .unset, .unset, .unset, .unset, .unset, .unset] [(.long EHA)])) _
    refine XS.lstore X13.here hx rfl (hb hby at_96) rfl (l' := #[.val (.int p1), .val (.int p2), .val (.long q3), .second, .val (.long q4), .second, .val (.long q5), .second, .val (.int p6), .val (.int IA), .val (.int IB), .val (.int v2), .val (.int v5), .val (.int (((p6.toUInt32 >>> ((2 : Int32) &&& 31).toUInt32).toInt32) &&& (3 : Int32))), .val (.long v8), .second, .val (.long v11), .second, .val (.long EHA), .second, .unset, .unset, .unset, .unset, .unset, .unset, .unset, .unset, .unset, .unset]) rfl ?_
    show Steps p.tables e below (T13.setTop (mkF m 98 #[.val (.int p1), .val (.int p2), .val (.long q3), .second, .val (.long q4), .second, .val (.long q5), .second, .val (.int p6), .val (.int IA), .val (.int IB), .val (.int v2), .val (.int v5), .val (.int (((p6.toUInt32 >>> ((2 : Int32) &&& 31).toUInt32).toInt32) &&& (3 : Int32))), .val (.long v8), .second, .val (.long v11), .second, .val (.long EHA), .second, .unset, .unset, .unset, .unset, .unset, .unset, .unset, .unset, .unset, .unset] [])) _
    refine XS.iload X13.here hx rfl (hb hby at_98) rfl ?_
    show Steps p.tables e below (T13.setTop (mkF m 100 #[.val (.int p1), .val (.int p2), .val (.long q3), .second, .val (.long q4), .second, .val (.long q5), .second, .val (.int p6), .val (.int IA), .val (.int IB), .val (.int v2), .val (.int v5), .val (.int (((p6.toUInt32 >>> ((2 : Int32) &&& 31).toUInt32).toInt32) &&& (3 : Int32))), .val (.long v8), .second, .val (.long v11), .second, .val (.long EHA), .second, .unset, .unset, .unset, .unset, .unset, .unset, .unset, .unset, .unset, .unset] [(.int IA)])) _
    refine XS.lload X13.here hx rfl (hb hby at_100) rfl ?_
    show Steps p.tables e below (T13.setTop (mkF m 102 #[.val (.int p1), .val (.int p2), .val (.long q3), .second, .val (.long q4), .second, .val (.long q5), .second, .val (.int p6), .val (.int IA), .val (.int IB), .val (.int v2), .val (.int v5), .val (.int (((p6.toUInt32 >>> ((2 : Int32) &&& 31).toUInt32).toInt32) &&& (3 : Int32))), .val (.long v8), .second, .val (.long v11), .second, .val (.long EHA), .second, .unset, .unset, .unset, .unset, .unset, .unset, .unset, .unset, .unset, .unset] [(.long q4), (.int IA)])) _
    refine XS.iload X13.here hx rfl (hb hby at_102) rfl ?_
    show Steps p.tables e below (T13.setTop (mkF m 104 #[.val (.int p1), .val (.int p2), .val (.long q3), .second, .val (.long q4), .second, .val (.long q5), .second, .val (.int p6), .val (.int IA), .val (.int IB), .val (.int v2), .val (.int v5), .val (.int (((p6.toUInt32 >>> ((2 : Int32) &&& 31).toUInt32).toInt32) &&& (3 : Int32))), .val (.long v8), .second, .val (.long v11), .second, .val (.long EHA), .second, .unset, .unset, .unset, .unset, .unset, .unset, .unset, .unset, .unset, .unset] [(.int v2), (.long q4), (.int IA)])) _
    refine st14 _ ?_
    show Steps p.tables e below (T14.setTop (mkF m 107 #[.val (.int p1), .val (.int p2), .val (.long q3), .second, .val (.long q4), .second, .val (.long q5), .second, .val (.int p6), .val (.int IA), .val (.int IB), .val (.int v2), .val (.int v5), .val (.int (((p6.toUInt32 >>> ((2 : Int32) &&& 31).toUInt32).toInt32) &&& (3 : Int32))), .val (.long v8), .second, .val (.long v11), .second, .val (.long EHA), .second, .unset, .unset, .unset, .unset, .unset, .unset, .unset, .unset, .unset, .unset] [(.long (f4 IA q4 v2))])) _
    rw [← hELA]
    show Steps p.tables e below (T14.setTop (mkF m 107 #[.val (.int p1), .val (.int p2), .val (.long q3), .second, .val (.long q4), .second, .val (.long q5), .second, .val (.int p6), .val (.int IA), .val (.int IB), .val (.int v2), .val (.int v5), .val (.int (((p6.toUInt32 >>> ((2 : Int32) &&& 31).toUInt32).toInt32) &&& (3 : Int32))), .val (.long v8), .second, .val (.long v11), .second, .val (.long EHA), .second, .unset, .unset, .unset, .unset, .unset, .unset, .unset, .unset, .unset, .unset] [(.long ELA)])) _
    refine XS.lstore X14.here hx rfl (hb hby at_107) rfl (l' := #[.val (.int p1), .val (.int p2), .val (.long q3), .second, .val (.long q4), .second, .val (.long q5), .second, .val (.int p6), .val (.int IA), .val (.int IB), .val (.int v2), .val (.int v5), .val (.int (((p6.toUInt32 >>> ((2 : Int32) &&& 31).toUInt32).toInt32) &&& (3 : Int32))), .val (.long v8), .second, .val (.long v11), .second, .val (.long EHA), .second, .val (.long ELA), .second, .unset, .unset, .unset, .unset, .unset, .unset, .unset, .unset]) rfl ?_
    show Steps p.tables e below (T14.setTop (mkF m 109 #[.val (.int p1), .val (.int p2), .val (.long q3), .second, .val (.long q4), .second, .val (.long q5), .second, .val (.int p6), .val (.int IA), .val (.int IB), .val (.int v2), .val (.int v5), .val (.int (((p6.toUInt32 >>> ((2 : Int32) &&& 31).toUInt32).toInt32) &&& (3 : Int32))), .val (.long v8), .second, .val (.long v11), .second, .val (.long EHA), .second, .val (.long ELA), .second, .unset, .unset, .unset, .unset, .unset, .unset, .unset, .unset] [])) _
    refine XS.iload X14.here hx rfl (hb hby at_109) rfl ?_
    show Steps p.tables e below (T14.setTop (mkF m 111 #[.val (.int p1), .val (.int p2), .val (.long q3), .second, .val (.long q4), .second, .val (.long q5), .second, .val (.int p6), .val (.int IA), .val (.int IB), .val (.int v2), .val (.int v5), .val (.int (((p6.toUInt32 >>> ((2 : Int32) &&& 31).toUInt32).toInt32) &&& (3 : Int32))), .val (.long v8), .second, .val (.long v11), .second, .val (.long EHA), .second, .val (.long ELA), .second, .unset, .unset, .unset, .unset, .unset, .unset, .unset, .unset] [(.int IB)])) _
    refine XS.lload X14.here hx rfl (hb hby at_111) rfl ?_
    show Steps p.tables e below (T14.setTop (mkF m 113 #[.val (.int p1), .val (.int p2), .val (.long q3), .second, .val (.long q4), .second, .val (.long q5), .second, .val (.int p6), .val (.int IA), .val (.int IB), .val (.int v2), .val (.int v5), .val (.int (((p6.toUInt32 >>> ((2 : Int32) &&& 31).toUInt32).toInt32) &&& (3 : Int32))), .val (.long v8), .second, .val (.long v11), .second, .val (.long EHA), .second, .val (.long ELA), .second, .unset, .unset, .unset, .unset, .unset, .unset, .unset, .unset] [(.long v8), (.int IB)])) _
    refine XS.iload X14.here hx rfl (hb hby at_113) rfl ?_
    show Steps p.tables e below (T14.setTop (mkF m 115 #[.val (.int p1), .val (.int p2), .val (.long q3), .second, .val (.long q4), .second, .val (.long q5), .second, .val (.int p6), .val (.int IA), .val (.int IB), .val (.int v2), .val (.int v5), .val (.int (((p6.toUInt32 >>> ((2 : Int32) &&& 31).toUInt32).toInt32) &&& (3 : Int32))), .val (.long v8), .second, .val (.long v11), .second, .val (.long EHA), .second, .val (.long ELA), .second, .unset, .unset, .unset, .unset, .unset, .unset, .unset, .unset] [(.int v5), (.long v8), (.int IB)])) _
    refine st15 _ ?_
    show Steps p.tables e below (T15.setTop (mkF m 118 #[.val (.int p1), .val (.int p2), .val (.long q3), .second, .val (.long q4), .second, .val (.long q5), .second, .val (.int p6), .val (.int IA), .val (.int IB), .val (.int v2), .val (.int v5), .val (.int (((p6.toUInt32 >>> ((2 : Int32) &&& 31).toUInt32).toInt32) &&& (3 : Int32))), .val (.long v8), .second, .val (.long v11), .second, .val (.long EHA), .second, .val (.long ELA), .second, .unset, .unset, .unset, .unset, .unset, .unset, .unset, .unset] [(.long (f1 IB v8 v5))])) _
    rw [← hEHB]
    show Steps p.tables e below (T15.setTop (mkF m 118 #[.val (.int p1), .val (.int p2), .val (.long q3), .second, .val (.long q4), .second, .val (.long q5), .second, .val (.int p6), .val (.int IA), .val (.int IB), .val (.int v2), .val (.int v5), .val (.int (((p6.toUInt32 >>> ((2 : Int32) &&& 31).toUInt32).toInt32) &&& (3 : Int32))), .val (.long v8), .second, .val (.long v11), .second, .val (.long EHA), .second, .val (.long ELA), .second, .unset, .unset, .unset, .unset, .unset, .unset, .unset, .unset] [(.long EHB)])) _
    refine XS.lstore X15.here hx rfl (hb hby at_118) rfl (l' := #[.val (.int p1), .val (.int p2), .val (.long q3), .second, .val (.long q4), .second, .val (.long q5), .second, .val (.int p6), .val (.int IA), .val (.int IB), .val (.int v2), .val (.int v5), .val (.int (((p6.toUInt32 >>> ((2 : Int32) &&& 31).toUInt32).toInt32) &&& (3 : Int32))), .val (.long v8), .second, .val (.long v11), .second, .val (.long EHA), .second, .val (.long ELA), .second, .val (.long EHB), .second, .unset, .unset, .unset, .unset, .unset, .unset]) rfl ?_
    show Steps p.tables e below (T15.setTop (mkF m 120 #[.val (.int p1), .val (.int p2), .val (.long q3), .second, .val (.long q4), .second, .val (.long q5), .second, .val (.int p6), .val (.int IA), .val (.int IB), .val (.int v2), .val (.int v5), .val (.int (((p6.toUInt32 >>> ((2 : Int32) &&& 31).toUInt32).toInt32) &&& (3 : Int32))), .val (.long v8), .second, .val (.long v11), .second, .val (.long EHA), .second, .val (.long ELA), .second, .val (.long EHB), .second, .unset, .unset, .unset, .unset, .unset, .unset] [])) _
    refine XS.iload X15.here hx rfl (hb hby at_120) rfl ?_
    show Steps p.tables e below (T15.setTop (mkF m 122 #[.val (.int p1), .val (.int p2), .val (.long q3), .second, .val (.long q4), .second, .val (.long q5), .second, .val (.int p6), .val (.int IA), .val (.int IB), .val (.int v2), .val (.int v5), .val (.int (((p6.toUInt32 >>> ((2 : Int32) &&& 31).toUInt32).toInt32) &&& (3 : Int32))), .val (.long v8), .second, .val (.long v11), .second, .val (.long EHA), .second, .val (.long ELA), .second, .val (.long EHB), .second, .unset, .unset, .unset, .unset, .unset, .unset] [(.int IB)])) _
    refine XS.lload X15.here hx rfl (hb hby at_122) rfl ?_
    show Steps p.tables e below (T15.setTop (mkF m 124 #[.val (.int p1), .val (.int p2), .val (.long q3), .second, .val (.long q4), .second, .val (.long q5), .second, .val (.int p6), .val (.int IA), .val (.int IB), .val (.int v2), .val (.int v5), .val (.int (((p6.toUInt32 >>> ((2 : Int32) &&& 31).toUInt32).toInt32) &&& (3 : Int32))), .val (.long v8), .second, .val (.long v11), .second, .val (.long EHA), .second, .val (.long ELA), .second, .val (.long EHB), .second, .unset, .unset, .unset, .unset, .unset, .unset] [(.long v11), (.int IB)])) _
    refine XS.iload X15.here hx rfl (hb hby at_124) rfl ?_
    show Steps p.tables e below (T15.setTop (mkF m 126 #[.val (.int p1), .val (.int p2), .val (.long q3), .second, .val (.long q4), .second, .val (.long q5), .second, .val (.int p6), .val (.int IA), .val (.int IB), .val (.int v2), .val (.int v5), .val (.int (((p6.toUInt32 >>> ((2 : Int32) &&& 31).toUInt32).toInt32) &&& (3 : Int32))), .val (.long v8), .second, .val (.long v11), .second, .val (.long EHA), .second, .val (.long ELA), .second, .val (.long EHB), .second, .unset, .unset, .unset, .unset, .unset, .unset] [(.int v5), (.long v11), (.int IB)])) _
    refine st16 _ ?_
    show Steps p.tables e below (T16.setTop (mkF m 129 #[.val (.int p1), .val (.int p2), .val (.long q3), .second, .val (.long q4), .second, .val (.long q5), .second, .val (.int p6), .val (.int IA), .val (.int IB), .val (.int v2), .val (.int v5), .val (.int (((p6.toUInt32 >>> ((2 : Int32) &&& 31).toUInt32).toInt32) &&& (3 : Int32))), .val (.long v8), .second, .val (.long v11), .second, .val (.long EHA), .second, .val (.long ELA), .second, .val (.long EHB), .second, .unset, .unset, .unset, .unset, .unset, .unset] [(.long (f4 IB v11 v5))])) _
    rw [← hELB]
    show Steps p.tables e below (T16.setTop (mkF m 129 #[.val (.int p1), .val (.int p2), .val (.long q3), .second, .val (.long q4), .second, .val (.long q5), .second, .val (.int p6), .val (.int IA), .val (.int IB), .val (.int v2), .val (.int v5), .val (.int (((p6.toUInt32 >>> ((2 : Int32) &&& 31).toUInt32).toInt32) &&& (3 : Int32))), .val (.long v8), .second, .val (.long v11), .second, .val (.long EHA), .second, .val (.long ELA), .second, .val (.long EHB), .second, .unset, .unset, .unset, .unset, .unset, .unset] [(.long ELB)])) _
    refine XS.lstore X16.here hx rfl (hb hby at_129) rfl (l' := #[.val (.int p1), .val (.int p2), .val (.long q3), .second, .val (.long q4), .second, .val (.long q5), .second, .val (.int p6), .val (.int IA), .val (.int IB), .val (.int v2), .val (.int v5), .val (.int (((p6.toUInt32 >>> ((2 : Int32) &&& 31).toUInt32).toInt32) &&& (3 : Int32))), .val (.long v8), .second, .val (.long v11), .second, .val (.long EHA), .second, .val (.long ELA), .second, .val (.long EHB), .second, .val (.long ELB), .second, .unset, .unset, .unset, .unset]) rfl ?_
    show Steps p.tables e below (T16.setTop (mkF m 131 #[.val (.int p1), .val (.int p2), .val (.long q3), .second, .val (.long q4), .second, .val (.long q5), .second, .val (.int p6), .val (.int IA), .val (.int IB), .val (.int v2), .val (.int v5), .val (.int (((p6.toUInt32 >>> ((2 : Int32) &&& 31).toUInt32).toInt32) &&& (3 : Int32))), .val (.long v8), .second, .val (.long v11), .second, .val (.long EHA), .second, .val (.long ELA), .second, .val (.long EHB), .second, .val (.long ELB), .second, .unset, .unset, .unset, .unset] [])) _
    refine XS.iload X16.here hx rfl (hb hby at_131) rfl ?_
    show Steps p.tables e below (T16.setTop (mkF m 133 #[.val (.int p1), .val (.int p2), .val (.long q3), .second, .val (.long q4), .second, .val (.long q5), .second, .val (.int p6), .val (.int IA), .val (.int IB), .val (.int v2), .val (.int v5), .val (.int (((p6.toUInt32 >>> ((2 : Int32) &&& 31).toUInt32).toInt32) &&& (3 : Int32))), .val (.long v8), .second, .val (.long v11), .second, .val (.long EHA), .second, .val (.long ELA), .second, .val (.long EHB), .second, .val (.long ELB), .second, .unset, .unset, .unset, .unset] [(.int IA)])) _
    refine st17 _ ?_
    show Steps p.tables e below (T17.setTop (mkF m 136 #[.val (.int p1), .val (.int p2), .val (.long q3), .second, .val (.long q4), .second, .val (.long q5), .second, .val (.int p6), .val (.int IA), .val (.int IB), .val (.int v2), .val (.int v5), .val (.int (((p6.toUInt32 >>> ((2 : Int32) &&& 31).toUInt32).toInt32) &&& (3 : Int32))), .val (.long v8), .second, .val (.long v11), .second, .val (.long EHA), .second, .val (.long ELA), .second, .val (.long EHB), .second, .val (.long ELB), .second, .unset, .unset, .unset, .unset] [(.ref (f7 IA s_BINARY16 s_BINARY32 s_BINARY64 s_EXTENDED80 s_BINARY128))])) _
    rw [← hFA]
    show Steps p.tables e below (T17.setTop (mkF m 136 #[.val (.int p1), .val (.int p2), .val (.long q3), .second, .val (.long q4), .second, .val (.long q5), .second, .val (.int p6), .val (.int IA), .val (.int IB), .val (.int v2), .val (.int v5), .val (.int (((p6.toUInt32 >>> ((2 : Int32) &&& 31).toUInt32).toInt32) &&& (3 : Int32))), .val (.long v8), .second, .val (.long v11), .second, .val (.long EHA), .second, .val (.long ELA), .second, .val (.long EHB), .second, .val (.long ELB), .second, .unset, .unset, .unset, .unset] [(.ref FA)])) _
    refine XS.lload X17.here hx rfl (hb hby at_136) rfl ?_
    show Steps p.tables e below (T17.setTop (mkF m 138 #[.val (.int p1), .val (.int p2), .val (.long q3), .second, .val (.long q4), .second, .val (.long q5), .second, .val (.int p6), .val (.int IA), .val (.int IB), .val (.int v2), .val (.int v5), .val (.int (((p6.toUInt32 >>> ((2 : Int32) &&& 31).toUInt32).toInt32) &&& (3 : Int32))), .val (.long v8), .second, .val (.long v11), .second, .val (.long EHA), .second, .val (.long ELA), .second, .val (.long EHB), .second, .val (.long ELB), .second, .unset, .unset, .unset, .unset] [(.long EHA), (.ref FA)])) _
    refine XS.lload X17.here hx rfl (hb hby at_138) rfl ?_
    show Steps p.tables e below (T17.setTop (mkF m 140 #[.val (.int p1), .val (.int p2), .val (.long q3), .second, .val (.long q4), .second, .val (.long q5), .second, .val (.int p6), .val (.int IA), .val (.int IB), .val (.int v2), .val (.int v5), .val (.int (((p6.toUInt32 >>> ((2 : Int32) &&& 31).toUInt32).toInt32) &&& (3 : Int32))), .val (.long v8), .second, .val (.long v11), .second, .val (.long EHA), .second, .val (.long ELA), .second, .val (.long EHB), .second, .val (.long ELB), .second, .unset, .unset, .unset, .unset] [(.long ELA), (.long EHA), (.ref FA)])) _
    refine st18 _ ?_
    show Steps p.tables e below (T18.setTop (mkF m 143 #[.val (.int p1), .val (.int p2), .val (.long q3), .second, .val (.long q4), .second, .val (.long q5), .second, .val (.int p6), .val (.int IA), .val (.int IB), .val (.int v2), .val (.int v5), .val (.int (((p6.toUInt32 >>> ((2 : Int32) &&& 31).toUInt32).toInt32) &&& (3 : Int32))), .val (.long v8), .second, .val (.long v11), .second, .val (.long EHA), .second, .val (.long ELA), .second, .val (.long EHB), .second, .val (.long ELB), .second, .unset, .unset, .unset, .unset] [(.ref b18)])) _
    refine XS.astore X18.here hx rfl (hb hby at_143) rfl rfl (l' := #[.val (.int p1), .val (.int p2), .val (.long q3), .second, .val (.long q4), .second, .val (.long q5), .second, .val (.int p6), .val (.int IA), .val (.int IB), .val (.int v2), .val (.int v5), .val (.int (((p6.toUInt32 >>> ((2 : Int32) &&& 31).toUInt32).toInt32) &&& (3 : Int32))), .val (.long v8), .second, .val (.long v11), .second, .val (.long EHA), .second, .val (.long ELA), .second, .val (.long EHB), .second, .val (.long ELB), .second, .val (.ref b18), .unset, .unset, .unset]) rfl ?_
    show Steps p.tables e below (T18.setTop (mkF m 145 #[.val (.int p1), .val (.int p2), .val (.long q3), .second, .val (.long q4), .second, .val (.long q5), .second, .val (.int p6), .val (.int IA), .val (.int IB), .val (.int v2), .val (.int v5), .val (.int (((p6.toUInt32 >>> ((2 : Int32) &&& 31).toUInt32).toInt32) &&& (3 : Int32))), .val (.long v8), .second, .val (.long v11), .second, .val (.long EHA), .second, .val (.long ELA), .second, .val (.long EHB), .second, .val (.long ELB), .second, .val (.ref b18), .unset, .unset, .unset] [])) _
    refine XS.iload X18.here hx rfl (hb hby at_145) rfl ?_
    show Steps p.tables e below (T18.setTop (mkF m 147 #[.val (.int p1), .val (.int p2), .val (.long q3), .second, .val (.long q4), .second, .val (.long q5), .second, .val (.int p6), .val (.int IA), .val (.int IB), .val (.int v2), .val (.int v5), .val (.int (((p6.toUInt32 >>> ((2 : Int32) &&& 31).toUInt32).toInt32) &&& (3 : Int32))), .val (.long v8), .second, .val (.long v11), .second, .val (.long EHA), .second, .val (.long ELA), .second, .val (.long EHB), .second, .val (.long ELB), .second, .val (.ref b18), .unset, .unset, .unset] [(.int IB)])) _
    refine st19 _ ?_
    show Steps p.tables e below (T19.setTop (mkF m 150 #[.val (.int p1), .val (.int p2), .val (.long q3), .second, .val (.long q4), .second, .val (.long q5), .second, .val (.int p6), .val (.int IA), .val (.int IB), .val (.int v2), .val (.int v5), .val (.int (((p6.toUInt32 >>> ((2 : Int32) &&& 31).toUInt32).toInt32) &&& (3 : Int32))), .val (.long v8), .second, .val (.long v11), .second, .val (.long EHA), .second, .val (.long ELA), .second, .val (.long EHB), .second, .val (.long ELB), .second, .val (.ref b18), .unset, .unset, .unset] [(.ref (f7 IB s_BINARY16 s_BINARY32 s_BINARY64 s_EXTENDED80 s_BINARY128))])) _
    rw [← hFB]
    show Steps p.tables e below (T19.setTop (mkF m 150 #[.val (.int p1), .val (.int p2), .val (.long q3), .second, .val (.long q4), .second, .val (.long q5), .second, .val (.int p6), .val (.int IA), .val (.int IB), .val (.int v2), .val (.int v5), .val (.int (((p6.toUInt32 >>> ((2 : Int32) &&& 31).toUInt32).toInt32) &&& (3 : Int32))), .val (.long v8), .second, .val (.long v11), .second, .val (.long EHA), .second, .val (.long ELA), .second, .val (.long EHB), .second, .val (.long ELB), .second, .val (.ref b18), .unset, .unset, .unset] [(.ref FB)])) _
    refine XS.lload X19.here hx rfl (hb hby at_150) rfl ?_
    show Steps p.tables e below (T19.setTop (mkF m 152 #[.val (.int p1), .val (.int p2), .val (.long q3), .second, .val (.long q4), .second, .val (.long q5), .second, .val (.int p6), .val (.int IA), .val (.int IB), .val (.int v2), .val (.int v5), .val (.int (((p6.toUInt32 >>> ((2 : Int32) &&& 31).toUInt32).toInt32) &&& (3 : Int32))), .val (.long v8), .second, .val (.long v11), .second, .val (.long EHA), .second, .val (.long ELA), .second, .val (.long EHB), .second, .val (.long ELB), .second, .val (.ref b18), .unset, .unset, .unset] [(.long EHB), (.ref FB)])) _
    refine XS.lload X19.here hx rfl (hb hby at_152) rfl ?_
    show Steps p.tables e below (T19.setTop (mkF m 154 #[.val (.int p1), .val (.int p2), .val (.long q3), .second, .val (.long q4), .second, .val (.long q5), .second, .val (.int p6), .val (.int IA), .val (.int IB), .val (.int v2), .val (.int v5), .val (.int (((p6.toUInt32 >>> ((2 : Int32) &&& 31).toUInt32).toInt32) &&& (3 : Int32))), .val (.long v8), .second, .val (.long v11), .second, .val (.long EHA), .second, .val (.long ELA), .second, .val (.long EHB), .second, .val (.long ELB), .second, .val (.ref b18), .unset, .unset, .unset] [(.long ELB), (.long EHB), (.ref FB)])) _
    refine st20 _ ?_
    show Steps p.tables e below (T20.setTop (mkF m 157 #[.val (.int p1), .val (.int p2), .val (.long q3), .second, .val (.long q4), .second, .val (.long q5), .second, .val (.int p6), .val (.int IA), .val (.int IB), .val (.int v2), .val (.int v5), .val (.int (((p6.toUInt32 >>> ((2 : Int32) &&& 31).toUInt32).toInt32) &&& (3 : Int32))), .val (.long v8), .second, .val (.long v11), .second, .val (.long EHA), .second, .val (.long ELA), .second, .val (.long EHB), .second, .val (.long ELB), .second, .val (.ref b18), .unset, .unset, .unset] [(.ref b20)])) _
    refine XS.astore X20.here hx rfl (hb hby at_157) rfl rfl (l' := #[.val (.int p1), .val (.int p2), .val (.long q3), .second, .val (.long q4), .second, .val (.long q5), .second, .val (.int p6), .val (.int IA), .val (.int IB), .val (.int v2), .val (.int v5), .val (.int (((p6.toUInt32 >>> ((2 : Int32) &&& 31).toUInt32).toInt32) &&& (3 : Int32))), .val (.long v8), .second, .val (.long v11), .second, .val (.long EHA), .second, .val (.long ELA), .second, .val (.long EHB), .second, .val (.long ELB), .second, .val (.ref b18), .val (.ref b20), .unset, .unset]) rfl ?_
    show Steps p.tables e below (T20.setTop (mkF m 159 #[.val (.int p1), .val (.int p2), .val (.long q3), .second, .val (.long q4), .second, .val (.long q5), .second, .val (.int p6), .val (.int IA), .val (.int IB), .val (.int v2), .val (.int v5), .val (.int (((p6.toUInt32 >>> ((2 : Int32) &&& 31).toUInt32).toInt32) &&& (3 : Int32))), .val (.long v8), .second, .val (.long v11), .second, .val (.long EHA), .second, .val (.long ELA), .second, .val (.long EHB), .second, .val (.long ELB), .second, .val (.ref b18), .val (.ref b20), .unset, .unset] [])) _
    refine XS.iload X20.here hx rfl (hb hby at_159) rfl ?_
    show Steps p.tables e below (T20.setTop (mkF m 161 #[.val (.int p1), .val (.int p2), .val (.long q3), .second, .val (.long q4), .second, .val (.long q5), .second, .val (.int p6), .val (.int IA), .val (.int IB), .val (.int v2), .val (.int v5), .val (.int (((p6.toUInt32 >>> ((2 : Int32) &&& 31).toUInt32).toInt32) &&& (3 : Int32))), .val (.long v8), .second, .val (.long v11), .second, .val (.long EHA), .second, .val (.long ELA), .second, .val (.long EHB), .second, .val (.long ELB), .second, .val (.ref b18), .val (.ref b20), .unset, .unset] [(.int p6)])) _
    refine XS.iconst X20.here hx rfl (hb hby at_161) ?_
    show Steps p.tables e below (T20.setTop (mkF m 162 #[.val (.int p1), .val (.int p2), .val (.long q3), .second, .val (.long q4), .second, .val (.long q5), .second, .val (.int p6), .val (.int IA), .val (.int IB), .val (.int v2), .val (.int v5), .val (.int (((p6.toUInt32 >>> ((2 : Int32) &&& 31).toUInt32).toInt32) &&& (3 : Int32))), .val (.long v8), .second, .val (.long v11), .second, .val (.long EHA), .second, .val (.long ELA), .second, .val (.long EHB), .second, .val (.long ELB), .second, .val (.ref b18), .val (.ref b20), .unset, .unset] [(.int (4 : Int32)), (.int p6)])) _
    refine XS.iushr X20.here hx rfl (hb hby at_162) rfl ?_
    show Steps p.tables e below (T20.setTop (mkF m 163 #[.val (.int p1), .val (.int p2), .val (.long q3), .second, .val (.long q4), .second, .val (.long q5), .second, .val (.int p6), .val (.int IA), .val (.int IB), .val (.int v2), .val (.int v5), .val (.int (((p6.toUInt32 >>> ((2 : Int32) &&& 31).toUInt32).toInt32) &&& (3 : Int32))), .val (.long v8), .second, .val (.long v11), .second, .val (.long EHA), .second, .val (.long ELA), .second, .val (.long EHB), .second, .val (.long ELB), .second, .val (.ref b18), .val (.ref b20), .unset, .unset] [(.int ((p6.toUInt32 >>> ((4 : Int32) &&& 31).toUInt32).toInt32))])) _
    refine XS.iconst X20.here hx rfl (hb hby at_163) ?_
    show Steps p.tables e below (T20.setTop (mkF m 164 #[.val (.int p1), .val (.int p2), .val (.long q3), .second, .val (.long q4), .second, .val (.long q5), .second, .val (.int p6), .val (.int IA), .val (.int IB), .val (.int v2), .val (.int v5), .val (.int (((p6.toUInt32 >>> ((2 : Int32) &&& 31).toUInt32).toInt32) &&& (3 : Int32))), .val (.long v8), .second, .val (.long v11), .second, .val (.long EHA), .second, .val (.long ELA), .second, .val (.long EHB), .second, .val (.long ELB), .second, .val (.ref b18), .val (.ref b20), .unset, .unset] [(.int (3 : Int32)), (.int ((p6.toUInt32 >>> ((4 : Int32) &&& 31).toUInt32).toInt32))])) _
    refine XS.iand X20.here hx rfl (hb hby at_164) rfl ?_
    show Steps p.tables e below (T20.setTop (mkF m 165 #[.val (.int p1), .val (.int p2), .val (.long q3), .second, .val (.long q4), .second, .val (.long q5), .second, .val (.int p6), .val (.int IA), .val (.int IB), .val (.int v2), .val (.int v5), .val (.int (((p6.toUInt32 >>> ((2 : Int32) &&& 31).toUInt32).toInt32) &&& (3 : Int32))), .val (.long v8), .second, .val (.long v11), .second, .val (.long EHA), .second, .val (.long ELA), .second, .val (.long EHB), .second, .val (.long ELB), .second, .val (.ref b18), .val (.ref b20), .unset, .unset] [(.int (((p6.toUInt32 >>> ((4 : Int32) &&& 31).toUInt32).toInt32) &&& (3 : Int32)))])) _
    refine XS.istore X20.here hx rfl (hb hby at_165) rfl (l' := #[.val (.int p1), .val (.int p2), .val (.long q3), .second, .val (.long q4), .second, .val (.long q5), .second, .val (.int p6), .val (.int IA), .val (.int IB), .val (.int v2), .val (.int v5), .val (.int (((p6.toUInt32 >>> ((2 : Int32) &&& 31).toUInt32).toInt32) &&& (3 : Int32))), .val (.long v8), .second, .val (.long v11), .second, .val (.long EHA), .second, .val (.long ELA), .second, .val (.long EHB), .second, .val (.long ELB), .second, .val (.ref b18), .val (.ref b20), .val (.int (((p6.toUInt32 >>> ((4 : Int32) &&& 31).toUInt32).toInt32) &&& (3 : Int32))), .unset]) rfl ?_
    show Steps p.tables e below (T20.setTop (mkF m 167 #[.val (.int p1), .val (.int p2), .val (.long q3), .second, .val (.long q4), .second, .val (.long q5), .second, .val (.int p6), .val (.int IA), .val (.int IB), .val (.int v2), .val (.int v5), .val (.int (((p6.toUInt32 >>> ((2 : Int32) &&& 31).toUInt32).toInt32) &&& (3 : Int32))), .val (.long v8), .second, .val (.long v11), .second, .val (.long EHA), .second, .val (.long ELA), .second, .val (.long EHB), .second, .val (.long ELB), .second, .val (.ref b18), .val (.ref b20), .val (.int (((p6.toUInt32 >>> ((4 : Int32) &&& 31).toUInt32).toInt32) &&& (3 : Int32))), .unset] [])) _
    refine XS.iload X20.here hx rfl (hb hby at_167) rfl ?_
    show Steps p.tables e below (T20.setTop (mkF m 169 #[.val (.int p1), .val (.int p2), .val (.long q3), .second, .val (.long q4), .second, .val (.long q5), .second, .val (.int p6), .val (.int IA), .val (.int IB), .val (.int v2), .val (.int v5), .val (.int (((p6.toUInt32 >>> ((2 : Int32) &&& 31).toUInt32).toInt32) &&& (3 : Int32))), .val (.long v8), .second, .val (.long v11), .second, .val (.long EHA), .second, .val (.long ELA), .second, .val (.long EHB), .second, .val (.long ELB), .second, .val (.ref b18), .val (.ref b20), .val (.int (((p6.toUInt32 >>> ((4 : Int32) &&& 31).toUInt32).toInt32) &&& (3 : Int32))), .unset] [(.int (((p6.toUInt32 >>> ((4 : Int32) &&& 31).toUInt32).toInt32) &&& (3 : Int32)))])) _
    refine XS.iconst X20.here hx rfl (hb hby at_169) ?_
    exact k)
  by_cases hc22 : (((p6.toUInt32 >>> ((4 : Int32) &&& 31).toUInt32).toInt32) &&& (3 : Int32)) = (2 : Int32)
  · obtain ⟨cq23, kq23, q23a, q23b, q23c⟩ := isOf hZ e20 E_b18_20
    obtain ⟨_, _, ⟨T23, L23, k23, n23⟩, -, X23, ⟨Lc23, hQ23, l23, y23, z23⟩, st23⟩ := X20.virtualBack hx (y := (⟨"com/example/tagwire/tagwire/core/FloatValue", "equals", "(Ljava/lang/Object;)Z"⟩ : MethodName)) (z := (⟨"com/example/tagwire/tagwire/core/FloatValue", "equals", "(Ljava/lang/Object;)Z"⟩ : MethodName)) hown (mvT hZ (hw _ (List.mem_of_getElem? (i := 121) rfl))) (mvT hZ (hw _ (List.mem_of_getElem? (i := 122) rfl))) (notFace_of_selects (args := #[]) (mvT hZ (hw _ (List.mem_of_getElem? (i := 124) rfl)))) (mvT hZ (hw _ (List.mem_of_getElem? (i := 124) rfl))) (mvT hZ (hw _ (List.mem_of_getElem? (i := 123) rfl))) (by decide) (backOf (W := 0) (rm25n l Z a0 hw [] b18 h20 n0 Zs20) hZ (hw _ (List.mem_of_getElem? (i := 125) rfl)) (hw _ (List.mem_of_getElem? (i := 32) rfl)) (by decide) (by decide)) q23a q23c (g := (mkF m 176 #[.val (.int p1), .val (.int p2), .val (.long q3), .second, .val (.long q4), .second, .val (.long q5), .second, .val (.int p6), .val (.int IA), .val (.int IB), .val (.int v2), .val (.int v5), .val (.int (((p6.toUInt32 >>> ((2 : Int32) &&& 31).toUInt32).toInt32) &&& (3 : Int32))), .val (.long v8), .second, .val (.long v11), .second, .val (.long EHA), .second, .val (.long ELA), .second, .val (.long EHB), .second, .val (.long ELB), .second, .val (.ref b18), .val (.ref b20), .val (.int (((p6.toUInt32 >>> ((4 : Int32) &&& 31).toUInt32).toInt32) &&& (3 : Int32))), .unset] [.null, (.ref b18)])) rfl (by rw [hml]; rfl) (Steps.refl _) (argsL := [.null]) (rest := []) (lenOf pd_12 rfl) rfl (by show 2 * 0 + _ ≤ _; exact Nat.le_of_eq rfl) (hb hby at_176) (fun _ _ => ⟨rfl, e20, (by decide : 4 + 0 ≤ _), (by decide : 12 + 0 ≤ _)⟩)
    dsimp only [Pt.U, Pt.locs, Pt.cells, Pt.slots] at X23 l23 y23 z23 st23 hQ23
    subst l23 y23 z23
    obtain ⟨rfl, N23q, e23⟩ := hQ23
    have N23 := Fr.app N20 N23q
    obtain ⟨v25, hv25⟩ : ∃ z : Int32, z = (if f25n = (0 : Int32) then (1 : Int32) else (0 : Int32)) := ⟨_, rfl⟩
    have pre26 : ∀ t, Steps p.tables e below (T23.setTop (mkF m 187 #[.val (.int p1), .val (.int p2), .val (.long q3), .second, .val (.long q4), .second, .val (.long q5), .second, .val (.int p6), .val (.int IA), .val (.int IB), .val (.int v2), .val (.int v5), .val (.int (((p6.toUInt32 >>> ((2 : Int32) &&& 31).toUInt32).toInt32) &&& (3 : Int32))), .val (.long v8), .second, .val (.long v11), .second, .val (.long EHA), .second, .val (.long ELA), .second, .val (.long EHB), .second, .val (.long ELB), .second, .val (.ref b18), .val (.ref b20), .val (.int (((p6.toUInt32 >>> ((4 : Int32) &&& 31).toUInt32).toInt32) &&& (3 : Int32))), .unset] [(.int v25)])) t → Steps p.tables e below (s₁.setTop (entryFrame m #[(.int p1), (.int p2), (.long q3), (.long q4), (.long q5), (.int p6)] maxLocals)) t := fun t k => pre21 t (by
      show Steps p.tables e below (T20.setTop (mkF m 170 #[.val (.int p1), .val (.int p2), .val (.long q3), .second, .val (.long q4), .second, .val (.long q5), .second, .val (.int p6), .val (.int IA), .val (.int IB), .val (.int v2), .val (.int v5), .val (.int (((p6.toUInt32 >>> ((2 : Int32) &&& 31).toUInt32).toInt32) &&& (3 : Int32))), .val (.long v8), .second, .val (.long v11), .second, .val (.long EHA), .second, .val (.long ELA), .second, .val (.long EHB), .second, .val (.long ELB), .second, .val (.ref b18), .val (.ref b20), .val (.int (((p6.toUInt32 >>> ((4 : Int32) &&& 31).toUInt32).toInt32) &&& (3 : Int32))), .unset] [(.int (2 : Int32)), (.int (((p6.toUInt32 >>> ((4 : Int32) &&& 31).toUInt32).toInt32) &&& (3 : Int32)))])) _
      refine XS.icmpNo X20.here hx rfl (hb hby at_170) rfl (teq hc22).2 ?_
      show Steps p.tables e below (T20.setTop (mkF m 173 #[.val (.int p1), .val (.int p2), .val (.long q3), .second, .val (.long q4), .second, .val (.long q5), .second, .val (.int p6), .val (.int IA), .val (.int IB), .val (.int v2), .val (.int v5), .val (.int (((p6.toUInt32 >>> ((2 : Int32) &&& 31).toUInt32).toInt32) &&& (3 : Int32))), .val (.long v8), .second, .val (.long v11), .second, .val (.long EHA), .second, .val (.long ELA), .second, .val (.long EHB), .second, .val (.long ELB), .second, .val (.ref b18), .val (.ref b20), .val (.int (((p6.toUInt32 >>> ((4 : Int32) &&& 31).toUInt32).toInt32) &&& (3 : Int32))), .unset] [])) _
      refine XS.aload X20.here hx rfl (hb hby at_173) rfl rfl ?_
      show Steps p.tables e below (T20.setTop (mkF m 175 #[.val (.int p1), .val (.int p2), .val (.long q3), .second, .val (.long q4), .second, .val (.long q5), .second, .val (.int p6), .val (.int IA), .val (.int IB), .val (.int v2), .val (.int v5), .val (.int (((p6.toUInt32 >>> ((2 : Int32) &&& 31).toUInt32).toInt32) &&& (3 : Int32))), .val (.long v8), .second, .val (.long v11), .second, .val (.long EHA), .second, .val (.long ELA), .second, .val (.long EHB), .second, .val (.long ELB), .second, .val (.ref b18), .val (.ref b20), .val (.int (((p6.toUInt32 >>> ((4 : Int32) &&& 31).toUInt32).toInt32) &&& (3 : Int32))), .unset] [(.ref b18)])) _
      refine XS.aconstNull X20.here hx rfl (hb hby at_175) ?_
      show Steps p.tables e below (T20.setTop (mkF m 176 #[.val (.int p1), .val (.int p2), .val (.long q3), .second, .val (.long q4), .second, .val (.long q5), .second, .val (.int p6), .val (.int IA), .val (.int IB), .val (.int v2), .val (.int v5), .val (.int (((p6.toUInt32 >>> ((2 : Int32) &&& 31).toUInt32).toInt32) &&& (3 : Int32))), .val (.long v8), .second, .val (.long v11), .second, .val (.long EHA), .second, .val (.long ELA), .second, .val (.long EHB), .second, .val (.long ELB), .second, .val (.ref b18), .val (.ref b20), .val (.int (((p6.toUInt32 >>> ((4 : Int32) &&& 31).toUInt32).toInt32) &&& (3 : Int32))), .unset] [.null, (.ref b18)])) _
      refine st23.trans ?_
      show Steps p.tables e below (T23.setTop (mkF m 179 #[.val (.int p1), .val (.int p2), .val (.long q3), .second, .val (.long q4), .second, .val (.long q5), .second, .val (.int p6), .val (.int IA), .val (.int IB), .val (.int v2), .val (.int v5), .val (.int (((p6.toUInt32 >>> ((2 : Int32) &&& 31).toUInt32).toInt32) &&& (3 : Int32))), .val (.long v8), .second, .val (.long v11), .second, .val (.long EHA), .second, .val (.long ELA), .second, .val (.long EHB), .second, .val (.long ELB), .second, .val (.ref b18), .val (.ref b20), .val (.int (((p6.toUInt32 >>> ((4 : Int32) &&& 31).toUInt32).toInt32) &&& (3 : Int32))), .unset] [(.int f25n)])) _
      by_cases hc24 : f25n = (0 : Int32)
      · refine XS.ifNo X23.here hx rfl (hb hby at_179) rfl ((if0 _ _).trans (teq hc24).2) ?_
        show Steps p.tables e below (T23.setTop (mkF m 182 #[.val (.int p1), .val (.int p2), .val (.long q3), .second, .val (.long q4), .second, .val (.long q5), .second, .val (.int p6), .val (.int IA), .val (.int IB), .val (.int v2), .val (.int v5), .val (.int (((p6.toUInt32 >>> ((2 : Int32) &&& 31).toUInt32).toInt32) &&& (3 : Int32))), .val (.long v8), .second, .val (.long v11), .second, .val (.long EHA), .second, .val (.long ELA), .second, .val (.long EHB), .second, .val (.long ELB), .second, .val (.ref b18), .val (.ref b20), .val (.int (((p6.toUInt32 >>> ((4 : Int32) &&& 31).toUInt32).toInt32) &&& (3 : Int32))), .unset] [])) _
        refine XS.iconst X23.here hx rfl (hb hby at_182) ?_
        show Steps p.tables e below (T23.setTop (mkF m 183 #[.val (.int p1), .val (.int p2), .val (.long q3), .second, .val (.long q4), .second, .val (.long q5), .second, .val (.int p6), .val (.int IA), .val (.int IB), .val (.int v2), .val (.int v5), .val (.int (((p6.toUInt32 >>> ((2 : Int32) &&& 31).toUInt32).toInt32) &&& (3 : Int32))), .val (.long v8), .second, .val (.long v11), .second, .val (.long EHA), .second, .val (.long ELA), .second, .val (.long EHB), .second, .val (.long ELB), .second, .val (.ref b18), .val (.ref b20), .val (.int (((p6.toUInt32 >>> ((4 : Int32) &&& 31).toUInt32).toInt32) &&& (3 : Int32))), .unset] [(.int (1 : Int32))])) _
        refine XS.goto X23.here hx rfl (pc0 := 183) (pc' := 187) rfl (hb hby at_183) (by decide) (by decide) ?_
        rw [show v25 = (1 : Int32) from hv25.trans (if_pos hc24)] at k
        exact k
      · refine XS.ifYes X23.here hx rfl (pc0 := 179) (pc' := 186) rfl (hb hby at_179) rfl ((if0 _ _).trans (feq hc24).2) (by decide) (by decide) ?_
        show Steps p.tables e below (T23.setTop (mkF m 186 #[.val (.int p1), .val (.int p2), .val (.long q3), .second, .val (.long q4), .second, .val (.long q5), .second, .val (.int p6), .val (.int IA), .val (.int IB), .val (.int v2), .val (.int v5), .val (.int (((p6.toUInt32 >>> ((2 : Int32) &&& 31).toUInt32).toInt32) &&& (3 : Int32))), .val (.long v8), .second, .val (.long v11), .second, .val (.long EHA), .second, .val (.long ELA), .second, .val (.long EHB), .second, .val (.long ELB), .second, .val (.ref b18), .val (.ref b20), .val (.int (((p6.toUInt32 >>> ((4 : Int32) &&& 31).toUInt32).toInt32) &&& (3 : Int32))), .unset] [])) _
        refine XS.iconst X23.here hx rfl (hb hby at_186) ?_
        rw [show v25 = (0 : Int32) from hv25.trans (if_neg hc24)] at k
        exact k)
    have er : (f0 p1 p2 q3 q4 q5 p6 s_BINARY16 s_BINARY32 s_BINARY64 s_EXTENDED80 s_BINARY128) = (nar .boolean v25) := by subst hIA hIB hv2 hv5 hv8 hv11 hEHA hELA hEHB hELB hFA hFB hv25; exact (if_pos hc22)
    obtain ⟨fs, hr, hrun, hended, hW, hsame⟩ := X23.leave (v := some (.int (nar .boolean v25))) (fun h => by rw [Bd.returns] at h; cases h)
    refine ⟨_, _, pre26 _ ?_, hrun, hended, _, _, rfl, ?_, ⟨_, rfl⟩, hW, hsame.mono (by decide) (by decide)⟩
    · show Steps p.tables e below (T23.setTop (mkF m 187 #[.val (.int p1), .val (.int p2), .val (.long q3), .second, .val (.long q4), .second, .val (.long q5), .second, .val (.int p6), .val (.int IA), .val (.int IB), .val (.int v2), .val (.int v5), .val (.int (((p6.toUInt32 >>> ((2 : Int32) &&& 31).toUInt32).toInt32) &&& (3 : Int32))), .val (.long v8), .second, .val (.long v11), .second, .val (.long EHA), .second, .val (.long ELA), .second, .val (.long EHB), .second, .val (.long ELB), .second, .val (.ref b18), .val (.ref b20), .val (.int (((p6.toUInt32 >>> ((4 : Int32) &&& 31).toUInt32).toInt32) &&& (3 : Int32))), .unset] [(.int v25)])) _
      exact retN X23 hx (t := .boolean) Bd.returns (by simp) (hb hby at_187) hr
    · show Q0 Z p1 p2 q3 q4 q5 p6 s_BINARY16 s_BINARY32 s_BINARY64 s_EXTENDED80 s_BINARY128 h0 n0 _ T23.heap _
      rw [e23]
      exact ⟨congrArg (fun z => some (Value.int z)) er.symm, N23, trivial⟩
  · have pre27 : ∀ t, Steps p.tables e below (T20.setTop (mkF m 191 #[.val (.int p1), .val (.int p2), .val (.long q3), .second, .val (.long q4), .second, .val (.long q5), .second, .val (.int p6), .val (.int IA), .val (.int IB), .val (.int v2), .val (.int v5), .val (.int (((p6.toUInt32 >>> ((2 : Int32) &&& 31).toUInt32).toInt32) &&& (3 : Int32))), .val (.long v8), .second, .val (.long v11), .second, .val (.long EHA), .second, .val (.long ELA), .second, .val (.long EHB), .second, .val (.long ELB), .second, .val (.ref b18), .val (.ref b20), .val (.int (((p6.toUInt32 >>> ((4 : Int32) &&& 31).toUInt32).toInt32) &&& (3 : Int32))), .unset] [(.int (3 : Int32)), (.int (((p6.toUInt32 >>> ((4 : Int32) &&& 31).toUInt32).toInt32) &&& (3 : Int32)))])) t → Steps p.tables e below (s₁.setTop (entryFrame m #[(.int p1), (.int p2), (.long q3), (.long q4), (.long q5), (.int p6)] maxLocals)) t := fun t k => pre21 t (by
      show Steps p.tables e below (T20.setTop (mkF m 170 #[.val (.int p1), .val (.int p2), .val (.long q3), .second, .val (.long q4), .second, .val (.long q5), .second, .val (.int p6), .val (.int IA), .val (.int IB), .val (.int v2), .val (.int v5), .val (.int (((p6.toUInt32 >>> ((2 : Int32) &&& 31).toUInt32).toInt32) &&& (3 : Int32))), .val (.long v8), .second, .val (.long v11), .second, .val (.long EHA), .second, .val (.long ELA), .second, .val (.long EHB), .second, .val (.long ELB), .second, .val (.ref b18), .val (.ref b20), .val (.int (((p6.toUInt32 >>> ((4 : Int32) &&& 31).toUInt32).toInt32) &&& (3 : Int32))), .unset] [(.int (2 : Int32)), (.int (((p6.toUInt32 >>> ((4 : Int32) &&& 31).toUInt32).toInt32) &&& (3 : Int32)))])) _
      refine XS.icmpYes X20.here hx rfl (pc0 := 170) (pc' := 188) rfl (hb hby at_170) rfl (feq hc22).2 (by decide) (by decide) ?_
      show Steps p.tables e below (T20.setTop (mkF m 188 #[.val (.int p1), .val (.int p2), .val (.long q3), .second, .val (.long q4), .second, .val (.long q5), .second, .val (.int p6), .val (.int IA), .val (.int IB), .val (.int v2), .val (.int v5), .val (.int (((p6.toUInt32 >>> ((2 : Int32) &&& 31).toUInt32).toInt32) &&& (3 : Int32))), .val (.long v8), .second, .val (.long v11), .second, .val (.long EHA), .second, .val (.long ELA), .second, .val (.long EHB), .second, .val (.long ELB), .second, .val (.ref b18), .val (.ref b20), .val (.int (((p6.toUInt32 >>> ((4 : Int32) &&& 31).toUInt32).toInt32) &&& (3 : Int32))), .unset] [])) _
      refine XS.iload X20.here hx rfl (hb hby at_188) rfl ?_
      show Steps p.tables e below (T20.setTop (mkF m 190 #[.val (.int p1), .val (.int p2), .val (.long q3), .second, .val (.long q4), .second, .val (.long q5), .second, .val (.int p6), .val (.int IA), .val (.int IB), .val (.int v2), .val (.int v5), .val (.int (((p6.toUInt32 >>> ((2 : Int32) &&& 31).toUInt32).toInt32) &&& (3 : Int32))), .val (.long v8), .second, .val (.long v11), .second, .val (.long EHA), .second, .val (.long ELA), .second, .val (.long EHB), .second, .val (.long ELB), .second, .val (.ref b18), .val (.ref b20), .val (.int (((p6.toUInt32 >>> ((4 : Int32) &&& 31).toUInt32).toInt32) &&& (3 : Int32))), .unset] [(.int (((p6.toUInt32 >>> ((4 : Int32) &&& 31).toUInt32).toInt32) &&& (3 : Int32)))])) _
      refine XS.iconst X20.here hx rfl (hb hby at_190) ?_
      exact k)
    by_cases hc28 : (((p6.toUInt32 >>> ((4 : Int32) &&& 31).toUInt32).toInt32) &&& (3 : Int32)) = (3 : Int32)
    · obtain ⟨_, _, ⟨T29, L29, k29, n29⟩, -, X29, ⟨Lc29, hQ29, l29, y29, z29⟩, st29⟩ := Jvm.LawKit.callS X20 hx (y := (⟨"java/lang/Long", "valueOf", "(J)Ljava/lang/Long;"⟩ : MethodName)) hown (mvT hZ (hw _ (List.mem_of_getElem? (i := 141) rfl))) (mvT hZ (hw _ (List.mem_of_getElem? (i := 142) rfl))) (mvT hZ (hw _ (List.mem_of_getElem? (i := 143) rfl))) (mvT hZ (hw _ (List.mem_of_getElem? (i := 144) rfl))) (by decide) (backOf (W := 1) (rm28 l Z a0 hw [] ELA h20 n0 Zs20 (own_Box_ext hbox0 O20.2)) hZ (hw _ (List.mem_of_getElem? (i := 144) rfl)) (hw _ (List.mem_of_getElem? (i := 143) rfl)) (by decide) (by decide)) (g := (mkF m 198 #[.val (.int p1), .val (.int p2), .val (.long q3), .second, .val (.long q4), .second, .val (.long q5), .second, .val (.int p6), .val (.int IA), .val (.int IB), .val (.int v2), .val (.int v5), .val (.int (((p6.toUInt32 >>> ((2 : Int32) &&& 31).toUInt32).toInt32) &&& (3 : Int32))), .val (.long v8), .second, .val (.long v11), .second, .val (.long EHA), .second, .val (.long ELA), .second, .val (.long EHB), .second, .val (.long ELB), .second, .val (.ref b18), .val (.ref b20), .val (.int (((p6.toUInt32 >>> ((4 : Int32) &&& 31).toUInt32).toInt32) &&& (3 : Int32))), .unset] [(.long ELA), (.ref b18)])) rfl (by rw [hml]; rfl) (argsL := [(.long ELA)]) (rest := [(.ref b18)]) (lenOf pd_13 rfl) rfl (by show 2 * 0 + _ ≤ _; exact Nat.le_of_eq rfl) (hb hby at_198) (fun _ _ => ⟨rfl, e20, (by decide : 4 + 1 ≤ _), (by decide : 12 + 1 ≤ _)⟩)
      dsimp only [Pt.U, Pt.locs, Pt.cells, Pt.slots] at X29 l29 y29 z29 st29 hQ29
      subst l29 y29 z29
      obtain ⟨h29, e29⟩ : ∃ z, T29.heap = z := ⟨_, rfl⟩
      rw [e29] at hQ29
      obtain ⟨b29, rfl, N29q, Kc29, E_b29_29q⟩ := hQ29
      have E_FA_29 : Exa Z h29 FA "com/example/tagwire/tagwire/core/FloatFormat" := E_FA_20.keep Kc29
      have F_bytes_FA_29 : Fld Z h29 FA "com/example/tagwire/tagwire/core/FloatFormat" "bytes" "I" (.int (own_by IA)) := F_bytes_FA_20.keep Kc29 nin0
      have F_significandBits_FA_29 : Fld Z h29 FA "com/example/tagwire/tagwire/core/FloatFormat" "significandBits" "I" (.int (own_sb IA)) := F_significandBits_FA_20.keep Kc29 nin0
      have F_exponentBits_FA_29 : Fld Z h29 FA "com/example/tagwire/tagwire/core/FloatFormat" "exponentBits" "I" (.int (own_eb IA)) := F_exponentBits_FA_20.keep Kc29 nin0
      have F_explicitIntegerBit_FA_29 : Fld Z h29 FA "com/example/tagwire/tagwire/core/FloatFormat" "explicitIntegerBit" "Z" (.int (own_xb IA)) := F_explicitIntegerBit_FA_20.keep Kc29 nin0
      have E_b18_29 : Exa Z h29 b18 "com/example/tagwire/tagwire/core/FloatValue" := E_b18_20.keep Kc29
      have F_format_b18_29 : Fld Z h29 b18 "com/example/tagwire/tagwire/core/FloatValue" "format" "Lcom/example/tagwire/tagwire/core/FloatFormat;" (.ref FA) := F_format_b18_20.keep Kc29 nin0
      have F_high_b18_29 : Fld Z h29 b18 "com/example/tagwire/tagwire/core/FloatValue" "high" "J" (.long (if (f13 (own_sb IA) (own_eb IA) ELA EHA) = (0 : Int32) then (f24 (((f22 (own_xb IA) (own_sb IA)) - (1 : Int32)) - (64 : Int32)) ((((f15 (own_sb IA)) + (f16 (own_eb IA))) + (0 : Int32)) - (64 : Int32))) else EHA)) := F_high_b18_20.keep Kc29 nin0
      have F_low_b18_29 : Fld Z h29 b18 "com/example/tagwire/tagwire/core/FloatValue" "low" "J" (.long (if (f13 (own_sb IA) (own_eb IA) ELA EHA) = (0 : Int32) then (f24 ((f22 (own_xb IA) (own_sb IA)) - (1 : Int32)) (((f15 (own_sb IA)) + (f16 (own_eb IA))) + (0 : Int32))) else ELA)) := F_low_b18_20.keep Kc29 nin0
      have E_FB_29 : Exa Z h29 FB "com/example/tagwire/tagwire/core/FloatFormat" := E_FB_20.keep Kc29
      have F_bytes_FB_29 : Fld Z h29 FB "com/example/tagwire/tagwire/core/FloatFormat" "bytes" "I" (.int (own_by IB)) := F_bytes_FB_20.keep Kc29 nin0
      have F_significandBits_FB_29 : Fld Z h29 FB "com/example/tagwire/tagwire/core/FloatFormat" "significandBits" "I" (.int (own_sb IB)) := F_significandBits_FB_20.keep Kc29 nin0
      have F_exponentBits_FB_29 : Fld Z h29 FB "com/example/tagwire/tagwire/core/FloatFormat" "exponentBits" "I" (.int (own_eb IB)) := F_exponentBits_FB_20.keep Kc29 nin0
      have F_explicitIntegerBit_FB_29 : Fld Z h29 FB "com/example/tagwire/tagwire/core/FloatFormat" "explicitIntegerBit" "Z" (.int (own_xb IB)) := F_explicitIntegerBit_FB_20.keep Kc29 nin0
      have E_b20_29 : Exa Z h29 b20 "com/example/tagwire/tagwire/core/FloatValue" := E_b20_20.keep Kc29
      have F_format_b20_29 : Fld Z h29 b20 "com/example/tagwire/tagwire/core/FloatValue" "format" "Lcom/example/tagwire/tagwire/core/FloatFormat;" (.ref FB) := F_format_b20_20.keep Kc29 nin0
      have F_high_b20_29 : Fld Z h29 b20 "com/example/tagwire/tagwire/core/FloatValue" "high" "J" (.long (if (f13 (own_sb IB) (own_eb IB) ELB EHB) = (0 : Int32) then (f24 (((f22 (own_xb IB) (own_sb IB)) - (1 : Int32)) - (64 : Int32)) ((((f15 (own_sb IB)) + (f16 (own_eb IB))) + (0 : Int32)) - (64 : Int32))) else EHB)) := F_high_b20_20.keep Kc29 nin0
      have F_low_b20_29 : Fld Z h29 b20 "com/example/tagwire/tagwire/core/FloatValue" "low" "J" (.long (if (f13 (own_sb IB) (own_eb IB) ELB EHB) = (0 : Int32) then (f24 ((f22 (own_xb IB) (own_sb IB)) - (1 : Int32)) (((f15 (own_sb IB)) + (f16 (own_eb IB))) + (0 : Int32))) else ELB)) := F_low_b20_20.keep Kc29 nin0
      have K29 := K20.trans Kc29 all0
      have Zs29 := Nat.le_trans Zs20 Kc29.1
      have O29 := O20.keep Kc29 all0
      have E_b29_29 : Exa Z h29 b29 "java/lang/Long" := E_b29_29q
      have N29 := Fr.app N20 N29q
      obtain ⟨cq30, kq30, q30a, q30b, q30c⟩ := isOf hZ e29 E_b18_29
      obtain ⟨_, _, ⟨T30, L30, k30, n30⟩, -, X30, ⟨Lc30, hQ30, l30, y30, z30⟩, st30⟩ := X29.virtualBack hx (y := (⟨"com/example/tagwire/tagwire/core/FloatValue", "equals", "(Ljava/lang/Object;)Z"⟩ : MethodName)) (z := (⟨"com/example/tagwire/tagwire/core/FloatValue", "equals", "(Ljava/lang/Object;)Z"⟩ : MethodName)) hown (mvT hZ (hw _ (List.mem_of_getElem? (i := 121) rfl))) (mvT hZ (hw _ (List.mem_of_getElem? (i := 122) rfl))) (notFace_of_selects (args := #[]) (mvT hZ (hw _ (List.mem_of_getElem? (i := 124) rfl)))) (mvT hZ (hw _ (List.mem_of_getElem? (i := 124) rfl))) (mvT hZ (hw _ (List.mem_of_getElem? (i := 123) rfl))) (by decide) (backOf (W := 0) (rm25l l Z a0 hw [] b18 b29 h29 n0 Zs29 E_b29_29) hZ (hw _ (List.mem_of_getElem? (i := 125) rfl)) (hw _ (List.mem_of_getElem? (i := 32) rfl)) (by decide) (by decide)) q30a q30c (g := (mkF m 201 #[.val (.int p1), .val (.int p2), .val (.long q3), .second, .val (.long q4), .second, .val (.long q5), .second, .val (.int p6), .val (.int IA), .val (.int IB), .val (.int v2), .val (.int v5), .val (.int (((p6.toUInt32 >>> ((2 : Int32) &&& 31).toUInt32).toInt32) &&& (3 : Int32))), .val (.long v8), .second, .val (.long v11), .second, .val (.long EHA), .second, .val (.long ELA), .second, .val (.long EHB), .second, .val (.long ELB), .second, .val (.ref b18), .val (.ref b20), .val (.int (((p6.toUInt32 >>> ((4 : Int32) &&& 31).toUInt32).toInt32) &&& (3 : Int32))), .unset] [(.ref b29), (.ref b18)])) rfl (by rw [hml]; rfl) (Steps.refl _) (argsL := [(.ref b29)]) (rest := []) (lenOf pd_12 rfl) rfl (by show 2 * 0 + _ ≤ _; exact Nat.le_of_eq rfl) (hb hby at_201) (fun _ _ => ⟨rfl, e29, (by decide : 5 + 0 ≤ _), (by decide : 13 + 0 ≤ _)⟩)
      dsimp only [Pt.U, Pt.locs, Pt.cells, Pt.slots] at X30 l30 y30 z30 st30 hQ30
      subst l30 y30 z30
      obtain ⟨rfl, N30q, e30⟩ := hQ30
      have N30 := Fr.app N29 N30q
      obtain ⟨v32, hv32⟩ : ∃ z : Int32, z = (if f25l = (0 : Int32) then (1 : Int32) else (0 : Int32)) := ⟨_, rfl⟩
      have pre33 : ∀ t, Steps p.tables e below (T30.setTop (mkF m 212 #[.val (.int p1), .val (.int p2), .val (.long q3), .second, .val (.long q4), .second, .val (.long q5), .second, .val (.int p6), .val (.int IA), .val (.int IB), .val (.int v2), .val (.int v5), .val (.int (((p6.toUInt32 >>> ((2 : Int32) &&& 31).toUInt32).toInt32) &&& (3 : Int32))), .val (.long v8), .second, .val (.long v11), .second, .val (.long EHA), .second, .val (.long ELA), .second, .val (.long EHB), .second, .val (.long ELB), .second, .val (.ref b18), .val (.ref b20), .val (.int (((p6.toUInt32 >>> ((4 : Int32) &&& 31).toUInt32).toInt32) &&& (3 : Int32))), .unset] [(.int v32)])) t → Steps p.tables e below (s₁.setTop (entryFrame m #[(.int p1), (.int p2), (.long q3), (.long q4), (.long q5), (.int p6)] maxLocals)) t := fun t k => pre27 t (by
        show Steps p.tables e below (T20.setTop (mkF m 191 #[.val (.int p1), .val (.int p2), .val (.long q3), .second, .val (.long q4), .second, .val (.long q5), .second, .val (.int p6), .val (.int IA), .val (.int IB), .val (.int v2), .val (.int v5), .val (.int (((p6.toUInt32 >>> ((2 : Int32) &&& 31).toUInt32).toInt32) &&& (3 : Int32))), .val (.long v8), .second, .val (.long v11), .second, .val (.long EHA), .second, .val (.long ELA), .second, .val (.long EHB), .second, .val (.long ELB), .second, .val (.ref b18), .val (.ref b20), .val (.int (((p6.toUInt32 >>> ((4 : Int32) &&& 31).toUInt32).toInt32) &&& (3 : Int32))), .unset] [(.int (3 : Int32)), (.int (((p6.toUInt32 >>> ((4 : Int32) &&& 31).toUInt32).toInt32) &&& (3 : Int32)))])) _
        refine XS.icmpNo X20.here hx rfl (hb hby at_191) rfl (teq hc28).2 ?_
        show Steps p.tables e below (T20.setTop (mkF m 194 #[.val (.int p1), .val (.int p2), .val (.long q3), .second, .val (.long q4), .second, .val (.long q5), .second, .val (.int p6), .val (.int IA), .val (.int IB), .val (.int v2), .val (.int v5), .val (.int (((p6.toUInt32 >>> ((2 : Int32) &&& 31).toUInt32).toInt32) &&& (3 : Int32))), .val (.long v8), .second, .val (.long v11), .second, .val (.long EHA), .second, .val (.long ELA), .second, .val (.long EHB), .second, .val (.long ELB), .second, .val (.ref b18), .val (.ref b20), .val (.int (((p6.toUInt32 >>> ((4 : Int32) &&& 31).toUInt32).toInt32) &&& (3 : Int32))), .unset] [])) _
        refine XS.aload X20.here hx rfl (hb hby at_194) rfl rfl ?_
        show Steps p.tables e below (T20.setTop (mkF m 196 #[.val (.int p1), .val (.int p2), .val (.long q3), .second, .val (.long q4), .second, .val (.long q5), .second, .val (.int p6), .val (.int IA), .val (.int IB), .val (.int v2), .val (.int v5), .val (.int (((p6.toUInt32 >>> ((2 : Int32) &&& 31).toUInt32).toInt32) &&& (3 : Int32))), .val (.long v8), .second, .val (.long v11), .second, .val (.long EHA), .second, .val (.long ELA), .second, .val (.long EHB), .second, .val (.long ELB), .second, .val (.ref b18), .val (.ref b20), .val (.int (((p6.toUInt32 >>> ((4 : Int32) &&& 31).toUInt32).toInt32) &&& (3 : Int32))), .unset] [(.ref b18)])) _
        refine XS.lload X20.here hx rfl (hb hby at_196) rfl ?_
        show Steps p.tables e below (T20.setTop (mkF m 198 #[.val (.int p1), .val (.int p2), .val (.long q3), .second, .val (.long q4), .second, .val (.long q5), .second, .val (.int p6), .val (.int IA), .val (.int IB), .val (.int v2), .val (.int v5), .val (.int (((p6.toUInt32 >>> ((2 : Int32) &&& 31).toUInt32).toInt32) &&& (3 : Int32))), .val (.long v8), .second, .val (.long v11), .second, .val (.long EHA), .second, .val (.long ELA), .second, .val (.long EHB), .second, .val (.long ELB), .second, .val (.ref b18), .val (.ref b20), .val (.int (((p6.toUInt32 >>> ((4 : Int32) &&& 31).toUInt32).toInt32) &&& (3 : Int32))), .unset] [(.long ELA), (.ref b18)])) _
        refine st29 _ ?_
        show Steps p.tables e below (T29.setTop (mkF m 201 #[.val (.int p1), .val (.int p2), .val (.long q3), .second, .val (.long q4), .second, .val (.long q5), .second, .val (.int p6), .val (.int IA), .val (.int IB), .val (.int v2), .val (.int v5), .val (.int (((p6.toUInt32 >>> ((2 : Int32) &&& 31).toUInt32).toInt32) &&& (3 : Int32))), .val (.long v8), .second, .val (.long v11), .second, .val (.long EHA), .second, .val (.long ELA), .second, .val (.long EHB), .second, .val (.long ELB), .second, .val (.ref b18), .val (.ref b20), .val (.int (((p6.toUInt32 >>> ((4 : Int32) &&& 31).toUInt32).toInt32) &&& (3 : Int32))), .unset] [(.ref b29), (.ref b18)])) _
        refine st30.trans ?_
        show Steps p.tables e below (T30.setTop (mkF m 204 #[.val (.int p1), .val (.int p2), .val (.long q3), .second, .val (.long q4), .second, .val (.long q5), .second, .val (.int p6), .val (.int IA), .val (.int IB), .val (.int v2), .val (.int v5), .val (.int (((p6.toUInt32 >>> ((2 : Int32) &&& 31).toUInt32).toInt32) &&& (3 : Int32))), .val (.long v8), .second, .val (.long v11), .second, .val (.long EHA), .second, .val (.long ELA), .second, .val (.long EHB), .second, .val (.long ELB), .second, .val (.ref b18), .val (.ref b20), .val (.int (((p6.toUInt32 >>> ((4 : Int32) &&& 31).toUInt32).toInt32) &&& (3 : Int32))), .unset] [(.int f25l)])) _
        by_cases hc31 : f25l = (0 : Int32)
        · refine XS.ifNo X30.here hx rfl (hb hby at_204) rfl ((if0 _ _).trans (teq hc31).2) ?_
          show Steps p.tables e below (T30.setTop (mkF m 207 #[.val (.int p1), .val (.int p2), .val (.long q3), .second, .val (.long q4), .second, .val (.long q5), .second, .val (.int p6), .val (.int IA), .val (.int IB), .val (.int v2), .val (.int v5), .val (.int (((p6.toUInt32 >>> ((2 : Int32) &&& 31).toUInt32).toInt32) &&& (3 : Int32))), .val (.long v8), .second, .val (.long v11), .second, .val (.long EHA), .second, .val (.long ELA), .second, .val (.long EHB), .second, .val (.long ELB), .second, .val (.ref b18), .val (.ref b20), .val (.int (((p6.toUInt32 >>> ((4 : Int32) &&& 31).toUInt32).toInt32) &&& (3 : Int32))), .unset] [])) _
          refine XS.iconst X30.here hx rfl (hb hby at_207) ?_
          show Steps p.tables e below (T30.setTop (mkF m 208 #[.val (.int p1), .val (.int p2), .val (.long q3), .second, .val (.long q4), .second, .val (.long q5), .second, .val (.int p6), .val (.int IA), .val (.int IB), .val (.int v2), .val (.int v5), .val (.int (((p6.toUInt32 >>> ((2 : Int32) &&& 31).toUInt32).toInt32) &&& (3 : Int32))), .val (.long v8), .second, .val (.long v11), .second, .val (.long EHA), .second, .val (.long ELA), .second, .val (.long EHB), .second, .val (.long ELB), .second, .val (.ref b18), .val (.ref b20), .val (.int (((p6.toUInt32 >>> ((4 : Int32) &&& 31).toUInt32).toInt32) &&& (3 : Int32))), .unset] [(.int (1 : Int32))])) _
          refine XS.goto X30.here hx rfl (pc0 := 208) (pc' := 212) rfl (hb hby at_208) (by decide) (by decide) ?_
          rw [show v32 = (1 : Int32) from hv32.trans (if_pos hc31)] at k
          exact k
        · refine XS.ifYes X30.here hx rfl (pc0 := 204) (pc' := 211) rfl (hb hby at_204) rfl ((if0 _ _).trans (feq hc31).2) (by decide) (by decide) ?_
          show Steps p.tables e below (T30.setTop (mkF m 211 #[.val (.int p1), .val (.int p2), .val (.long q3), .second, .val (.long q4), .second, .val (.long q5), .second, .val (.int p6), .val (.int IA), .val (.int IB), .val (.int v2), .val (.int v5), .val (.int (((p6.toUInt32 >>> ((2 : Int32) &&& 31).toUInt32).toInt32) &&& (3 : Int32))), .val (.long v8), .second, .val (.long v11), .second, .val (.long EHA), .second, .val (.long ELA), .second, .val (.long EHB), .second, .val (.long ELB), .second, .val (.ref b18), .val (.ref b20), .val (.int (((p6.toUInt32 >>> ((4 : Int32) &&& 31).toUInt32).toInt32) &&& (3 : Int32))), .unset] [])) _
          refine XS.iconst X30.here hx rfl (hb hby at_211) ?_
          rw [show v32 = (0 : Int32) from hv32.trans (if_neg hc31)] at k
          exact k)
      have er : (f0 p1 p2 q3 q4 q5 p6 s_BINARY16 s_BINARY32 s_BINARY64 s_EXTENDED80 s_BINARY128) = (nar .boolean v32) := by subst hIA hIB hv2 hv5 hv8 hv11 hEHA hELA hEHB hELB hFA hFB hv32; exact ((if_neg hc22).trans (if_pos hc28))
      obtain ⟨fs, hr, hrun, hended, hW, hsame⟩ := X30.leave (v := some (.int (nar .boolean v32))) (fun h => by rw [Bd.returns] at h; cases h)
      refine ⟨_, _, pre33 _ ?_, hrun, hended, _, _, rfl, ?_, ⟨_, rfl⟩, hW, hsame.mono (by decide) (by decide)⟩
      · show Steps p.tables e below (T30.setTop (mkF m 212 #[.val (.int p1), .val (.int p2), .val (.long q3), .second, .val (.long q4), .second, .val (.long q5), .second, .val (.int p6), .val (.int IA), .val (.int IB), .val (.int v2), .val (.int v5), .val (.int (((p6.toUInt32 >>> ((2 : Int32) &&& 31).toUInt32).toInt32) &&& (3 : Int32))), .val (.long v8), .second, .val (.long v11), .second, .val (.long EHA), .second, .val (.long ELA), .second, .val (.long EHB), .second, .val (.long ELB), .second, .val (.ref b18), .val (.ref b20), .val (.int (((p6.toUInt32 >>> ((4 : Int32) &&& 31).toUInt32).toInt32) &&& (3 : Int32))), .unset] [(.int v32)])) _
        exact retN X30 hx (t := .boolean) Bd.returns (by simp) (hb hby at_212) hr
      · show Q0 Z p1 p2 q3 q4 q5 p6 s_BINARY16 s_BINARY32 s_BINARY64 s_EXTENDED80 s_BINARY128 h0 n0 _ T30.heap _
        rw [e30]
        exact ⟨congrArg (fun z => some (Value.int z)) er.symm, N30, trivial⟩
    · obtain ⟨v40, hv40⟩ : ∃ z : Int32, z = (if IA = IB then (if v2 = (0 : Int32) then (if v5 = (0 : Int32) then (if EHA = EHB then (if ELA = ELB then (1 : Int32) else (0 : Int32)) else (0 : Int32)) else (0 : Int32)) else (if v5 = (0 : Int32) then (0 : Int32) else (1 : Int32))) else (0 : Int32)) := ⟨_, rfl⟩
      have pre41 : ∀ t, Steps p.tables e below (T20.setTop (mkF m 259 #[.val (.int p1), .val (.int p2), .val (.long q3), .second, .val (.long q4), .second, .val (.long q5), .second, .val (.int p6), .val (.int IA), .val (.int IB), .val (.int v2), .val (.int v5), .val (.int (((p6.toUInt32 >>> ((2 : Int32) &&& 31).toUInt32).toInt32) &&& (3 : Int32))), .val (.long v8), .second, .val (.long v11), .second, .val (.long EHA), .second, .val (.long ELA), .second, .val (.long EHB), .second, .val (.long ELB), .second, .val (.ref b18), .val (.ref b20), .val (.int (((p6.toUInt32 >>> ((4 : Int32) &&& 31).toUInt32).toInt32) &&& (3 : Int32))), .unset] [(.int v40)])) t → Steps p.tables e below (s₁.setTop (entryFrame m #[(.int p1), (.int p2), (.long q3), (.long q4), (.long q5), (.int p6)] maxLocals)) t := fun t k => pre27 t (by
        show Steps p.tables e below (T20.setTop (mkF m 191 #[.val (.int p1), .val (.int p2), .val (.long q3), .second, .val (.long q4), .second, .val (.long q5), .second, .val (.int p6), .val (.int IA), .val (.int IB), .val (.int v2), .val (.int v5), .val (.int (((p6.toUInt32 >>> ((2 : Int32) &&& 31).toUInt32).toInt32) &&& (3 : Int32))), .val (.long v8), .second, .val (.long v11), .second, .val (.long EHA), .second, .val (.long ELA), .second, .val (.long EHB), .second, .val (.long ELB), .second, .val (.ref b18), .val (.ref b20), .val (.int (((p6.toUInt32 >>> ((4 : Int32) &&& 31).toUInt32).toInt32) &&& (3 : Int32))), .unset] [(.int (3 : Int32)), (.int (((p6.toUInt32 >>> ((4 : Int32) &&& 31).toUInt32).toInt32) &&& (3 : Int32)))])) _
        refine XS.icmpYes X20.here hx rfl (pc0 := 191) (pc' := 213) rfl (hb hby at_191) rfl (feq hc28).2 (by decide) (by decide) ?_
        show Steps p.tables e below (T20.setTop (mkF m 213 #[.val (.int p1), .val (.int p2), .val (.long q3), .second, .val (.long q4), .second, .val (.long q5), .second, .val (.int p6), .val (.int IA), .val (.int IB), .val (.int v2), .val (.int v5), .val (.int (((p6.toUInt32 >>> ((2 : Int32) &&& 31).toUInt32).toInt32) &&& (3 : Int32))), .val (.long v8), .second, .val (.long v11), .second, .val (.long EHA), .second, .val (.long ELA), .second, .val (.long EHB), .second, .val (.long ELB), .second, .val (.ref b18), .val (.ref b20), .val (.int (((p6.toUInt32 >>> ((4 : Int32) &&& 31).toUInt32).toInt32) &&& (3 : Int32))), .unset] [])) _
        refine XS.iload X20.here hx rfl (hb hby at_213) rfl ?_
        show Steps p.tables e below (T20.setTop (mkF m 215 #[.val (.int p1), .val (.int p2), .val (.long q3), .second, .val (.long q4), .second, .val (.long q5), .second, .val (.int p6), .val (.int IA), .val (.int IB), .val (.int v2), .val (.int v5), .val (.int (((p6.toUInt32 >>> ((2 : Int32) &&& 31).toUInt32).toInt32) &&& (3 : Int32))), .val (.long v8), .second, .val (.long v11), .second, .val (.long EHA), .second, .val (.long ELA), .second, .val (.long EHB), .second, .val (.long ELB), .second, .val (.ref b18), .val (.ref b20), .val (.int (((p6.toUInt32 >>> ((4 : Int32) &&& 31).toUInt32).toInt32) &&& (3 : Int32))), .unset] [(.int IA)])) _
        refine XS.iload X20.here hx rfl (hb hby at_215) rfl ?_
        show Steps p.tables e below (T20.setTop (mkF m 217 #[.val (.int p1), .val (.int p2), .val (.long q3), .second, .val (.long q4), .second, .val (.long q5), .second, .val (.int p6), .val (.int IA), .val (.int IB), .val (.int v2), .val (.int v5), .val (.int (((p6.toUInt32 >>> ((2 : Int32) &&& 31).toUInt32).toInt32) &&& (3 : Int32))), .val (.long v8), .second, .val (.long v11), .second, .val (.long EHA), .second, .val (.long ELA), .second, .val (.long EHB), .second, .val (.long ELB), .second, .val (.ref b18), .val (.ref b20), .val (.int (((p6.toUInt32 >>> ((4 : Int32) &&& 31).toUInt32).toInt32) &&& (3 : Int32))), .unset] [(.int IB), (.int IA)])) _
        by_cases hc34 : IA = IB
        · refine XS.icmpNo X20.here hx rfl (hb hby at_217) rfl (teq hc34).2 ?_
          show Steps p.tables e below (T20.setTop (mkF m 220 #[.val (.int p1), .val (.int p2), .val (.long q3), .second, .val (.long q4), .second, .val (.long q5), .second, .val (.int p6), .val (.int IA), .val (.int IB), .val (.int v2), .val (.int v5), .val (.int (((p6.toUInt32 >>> ((2 : Int32) &&& 31).toUInt32).toInt32) &&& (3 : Int32))), .val (.long v8), .second, .val (.long v11), .second, .val (.long EHA), .second, .val (.long ELA), .second, .val (.long EHB), .second, .val (.long ELB), .second, .val (.ref b18), .val (.ref b20), .val (.int (((p6.toUInt32 >>> ((4 : Int32) &&& 31).toUInt32).toInt32) &&& (3 : Int32))), .unset] [])) _
          refine XS.iload X20.here hx rfl (hb hby at_220) rfl ?_
          show Steps p.tables e below (T20.setTop (mkF m 222 #[.val (.int p1), .val (.int p2), .val (.long q3), .second, .val (.long q4), .second, .val (.long q5), .second, .val (.int p6), .val (.int IA), .val (.int IB), .val (.int v2), .val (.int v5), .val (.int (((p6.toUInt32 >>> ((2 : Int32) &&& 31).toUInt32).toInt32) &&& (3 : Int32))), .val (.long v8), .second, .val (.long v11), .second, .val (.long EHA), .second, .val (.long ELA), .second, .val (.long EHB), .second, .val (.long ELB), .second, .val (.ref b18), .val (.ref b20), .val (.int (((p6.toUInt32 >>> ((4 : Int32) &&& 31).toUInt32).toInt32) &&& (3 : Int32))), .unset] [(.int v2)])) _
          by_cases hc35 : v2 = (0 : Int32)
          · refine XS.ifYes X20.here hx rfl (pc0 := 222) (pc' := 233) rfl (hb hby at_222) rfl ((if0 _ _).trans (teq hc35).1) (by decide) (by decide) ?_
            show Steps p.tables e below (T20.setTop (mkF m 233 #[.val (.int p1), .val (.int p2), .val (.long q3), .second, .val (.long q4), .second, .val (.long q5), .second, .val (.int p6), .val (.int IA), .val (.int IB), .val (.int v2), .val (.int v5), .val (.int (((p6.toUInt32 >>> ((2 : Int32) &&& 31).toUInt32).toInt32) &&& (3 : Int32))), .val (.long v8), .second, .val (.long v11), .second, .val (.long EHA), .second, .val (.long ELA), .second, .val (.long EHB), .second, .val (.long ELB), .second, .val (.ref b18), .val (.ref b20), .val (.int (((p6.toUInt32 >>> ((4 : Int32) &&& 31).toUInt32).toInt32) &&& (3 : Int32))), .unset] [])) _
            refine XS.iload X20.here hx rfl (hb hby at_233) rfl ?_
            show Steps p.tables e below (T20.setTop (mkF m 235 #[.val (.int p1), .val (.int p2), .val (.long q3), .second, .val (.long q4), .second, .val (.long q5), .second, .val (.int p6), .val (.int IA), .val (.int IB), .val (.int v2), .val (.int v5), .val (.int (((p6.toUInt32 >>> ((2 : Int32) &&& 31).toUInt32).toInt32) &&& (3 : Int32))), .val (.long v8), .second, .val (.long v11), .second, .val (.long EHA), .second, .val (.long ELA), .second, .val (.long EHB), .second, .val (.long ELB), .second, .val (.ref b18), .val (.ref b20), .val (.int (((p6.toUInt32 >>> ((4 : Int32) &&& 31).toUInt32).toInt32) &&& (3 : Int32))), .unset] [(.int v5)])) _
            by_cases hc36 : v5 = (0 : Int32)
            · refine XS.ifNo X20.here hx rfl (hb hby at_235) rfl ((if0 _ _).trans (teq hc36).2) ?_
              show Steps p.tables e below (T20.setTop (mkF m 238 #[.val (.int p1), .val (.int p2), .val (.long q3), .second, .val (.long q4), .second, .val (.long q5), .second, .val (.int p6), .val (.int IA), .val (.int IB), .val (.int v2), .val (.int v5), .val (.int (((p6.toUInt32 >>> ((2 : Int32) &&& 31).toUInt32).toInt32) &&& (3 : Int32))), .val (.long v8), .second, .val (.long v11), .second, .val (.long EHA), .second, .val (.long ELA), .second, .val (.long EHB), .second, .val (.long ELB), .second, .val (.ref b18), .val (.ref b20), .val (.int (((p6.toUInt32 >>> ((4 : Int32) &&& 31).toUInt32).toInt32) &&& (3 : Int32))), .unset] [])) _
              refine XS.lload X20.here hx rfl (hb hby at_238) rfl ?_
              show Steps p.tables e below (T20.setTop (mkF m 240 #[.val (.int p1), .val (.int p2), .val (.long q3), .second, .val (.long q4), .second, .val (.long q5), .second, .val (.int p6), .val (.int IA), .val (.int IB), .val (.int v2), .val (.int v5), .val (.int (((p6.toUInt32 >>> ((2 : Int32) &&& 31).toUInt32).toInt32) &&& (3 : Int32))), .val (.long v8), .second, .val (.long v11), .second, .val (.long EHA), .second, .val (.long ELA), .second, .val (.long EHB), .second, .val (.long ELB), .second, .val (.ref b18), .val (.ref b20), .val (.int (((p6.toUInt32 >>> ((4 : Int32) &&& 31).toUInt32).toInt32) &&& (3 : Int32))), .unset] [(.long EHA)])) _
              refine XS.lload X20.here hx rfl (hb hby at_240) rfl ?_
              show Steps p.tables e below (T20.setTop (mkF m 242 #[.val (.int p1), .val (.int p2), .val (.long q3), .second, .val (.long q4), .second, .val (.long q5), .second, .val (.int p6), .val (.int IA), .val (.int IB), .val (.int v2), .val (.int v5), .val (.int (((p6.toUInt32 >>> ((2 : Int32) &&& 31).toUInt32).toInt32) &&& (3 : Int32))), .val (.long v8), .second, .val (.long v11), .second, .val (.long EHA), .second, .val (.long ELA), .second, .val (.long EHB), .second, .val (.long ELB), .second, .val (.ref b18), .val (.ref b20), .val (.int (((p6.toUInt32 >>> ((4 : Int32) &&& 31).toUInt32).toInt32) &&& (3 : Int32))), .unset] [(.long EHB), (.long EHA)])) _
              refine XS.lcmp X20.here hx rfl (hb hby at_242) rfl ?_
              show Steps p.tables e below (T20.setTop (mkF m 243 #[.val (.int p1), .val (.int p2), .val (.long q3), .second, .val (.long q4), .second, .val (.long q5), .second, .val (.int p6), .val (.int IA), .val (.int IB), .val (.int v2), .val (.int v5), .val (.int (((p6.toUInt32 >>> ((2 : Int32) &&& 31).toUInt32).toInt32) &&& (3 : Int32))), .val (.long v8), .second, .val (.long v11), .second, .val (.long EHA), .second, .val (.long ELA), .second, .val (.long EHB), .second, .val (.long ELB), .second, .val (.ref b18), .val (.ref b20), .val (.int (((p6.toUInt32 >>> ((4 : Int32) &&& 31).toUInt32).toInt32) &&& (3 : Int32))), .unset] [(.int (lcmpW EHA EHB))])) _
              by_cases hc37 : EHA = EHB
              · refine XS.ifNo X20.here hx rfl (hb hby at_243) rfl ((if0 _ _).trans (teq (own_lc_teq hc37)).2) ?_
                show Steps p.tables e below (T20.setTop (mkF m 246 #[.val (.int p1), .val (.int p2), .val (.long q3), .second, .val (.long q4), .second, .val (.long q5), .second, .val (.int p6), .val (.int IA), .val (.int IB), .val (.int v2), .val (.int v5), .val (.int (((p6.toUInt32 >>> ((2 : Int32) &&& 31).toUInt32).toInt32) &&& (3 : Int32))), .val (.long v8), .second, .val (.long v11), .second, .val (.long EHA), .second, .val (.long ELA), .second, .val (.long EHB), .second, .val (.long ELB), .second, .val (.ref b18), .val (.ref b20), .val (.int (((p6.toUInt32 >>> ((4 : Int32) &&& 31).toUInt32).toInt32) &&& (3 : Int32))), .unset] [])) _
                refine XS.lload X20.here hx rfl (hb hby at_246) rfl ?_
                show Steps p.tables e below (T20.setTop (mkF m 248 #[.val (.int p1), .val (.int p2), .val (.long q3), .second, .val (.long q4), .second, .val (.long q5), .second, .val (.int p6), .val (.int IA), .val (.int IB), .val (.int v2), .val (.int v5), .val (.int (((p6.toUInt32 >>> ((2 : Int32) &&& 31).toUInt32).toInt32) &&& (3 : Int32))), .val (.long v8), .second, .val (.long v11), .second, .val (.long EHA), .second, .val (.long ELA), .second, .val (.long EHB), .second, .val (.long ELB), .second, .val (.ref b18), .val (.ref b20), .val (.int (((p6.toUInt32 >>> ((4 : Int32) &&& 31).toUInt32).toInt32) &&& (3 : Int32))), .unset] [(.long ELA)])) _
                refine XS.lload X20.here hx rfl (hb hby at_248) rfl ?_
                show Steps p.tables e below (T20.setTop (mkF m 250 #[.val (.int p1), .val (.int p2), .val (.long q3), .second, .val (.long q4), .second, .val (.long q5), .second, .val (.int p6), .val (.int IA), .val (.int IB), .val (.int v2), .val (.int v5), .val (.int (((p6.toUInt32 >>> ((2 : Int32) &&& 31).toUInt32).toInt32) &&& (3 : Int32))), .val (.long v8), .second, .val (.long v11), .second, .val (.long EHA), .second, .val (.long ELA), .second, .val (.long EHB), .second, .val (.long ELB), .second, .val (.ref b18), .val (.ref b20), .val (.int (((p6.toUInt32 >>> ((4 : Int32) &&& 31).toUInt32).toInt32) &&& (3 : Int32))), .unset] [(.long ELB), (.long ELA)])) _
                refine XS.lcmp X20.here hx rfl (hb hby at_250) rfl ?_
                show Steps p.tables e below (T20.setTop (mkF m 251 #[.val (.int p1), .val (.int p2), .val (.long q3), .second, .val (.long q4), .second, .val (.long q5), .second, .val (.int p6), .val (.int IA), .val (.int IB), .val (.int v2), .val (.int v5), .val (.int (((p6.toUInt32 >>> ((2 : Int32) &&& 31).toUInt32).toInt32) &&& (3 : Int32))), .val (.long v8), .second, .val (.long v11), .second, .val (.long EHA), .second, .val (.long ELA), .second, .val (.long EHB), .second, .val (.long ELB), .second, .val (.ref b18), .val (.ref b20), .val (.int (((p6.toUInt32 >>> ((4 : Int32) &&& 31).toUInt32).toInt32) &&& (3 : Int32))), .unset] [(.int (lcmpW ELA ELB))])) _
                by_cases hc38 : ELA = ELB
                · refine XS.ifNo X20.here hx rfl (hb hby at_251) rfl ((if0 _ _).trans (teq (own_lc_teq hc38)).2) ?_
                  show Steps p.tables e below (T20.setTop (mkF m 254 #[.val (.int p1), .val (.int p2), .val (.long q3), .second, .val (.long q4), .second, .val (.long q5), .second, .val (.int p6), .val (.int IA), .val (.int IB), .val (.int v2), .val (.int v5), .val (.int (((p6.toUInt32 >>> ((2 : Int32) &&& 31).toUInt32).toInt32) &&& (3 : Int32))), .val (.long v8), .second, .val (.long v11), .second, .val (.long EHA), .second, .val (.long ELA), .second, .val (.long EHB), .second, .val (.long ELB), .second, .val (.ref b18), .val (.ref b20), .val (.int (((p6.toUInt32 >>> ((4 : Int32) &&& 31).toUInt32).toInt32) &&& (3 : Int32))), .unset] [])) _
                  refine XS.iconst X20.here hx rfl (hb hby at_254) ?_
                  show Steps p.tables e below (T20.setTop (mkF m 255 #[.val (.int p1), .val (.int p2), .val (.long q3), .second, .val (.long q4), .second, .val (.long q5), .second, .val (.int p6), .val (.int IA), .val (.int IB), .val (.int v2), .val (.int v5), .val (.int (((p6.toUInt32 >>> ((2 : Int32) &&& 31).toUInt32).toInt32) &&& (3 : Int32))), .val (.long v8), .second, .val (.long v11), .second, .val (.long EHA), .second, .val (.long ELA), .second, .val (.long EHB), .second, .val (.long ELB), .second, .val (.ref b18), .val (.ref b20), .val (.int (((p6.toUInt32 >>> ((4 : Int32) &&& 31).toUInt32).toInt32) &&& (3 : Int32))), .unset] [(.int (1 : Int32))])) _
                  refine XS.goto X20.here hx rfl (pc0 := 255) (pc' := 259) rfl (hb hby at_255) (by decide) (by decide) ?_
                  rw [show v40 = (1 : Int32) from hv40.trans ((if_pos hc34).trans ((if_pos hc35).trans ((if_pos hc36).trans ((if_pos hc37).trans (if_pos hc38)))))] at k
                  exact k
                · refine XS.ifYes X20.here hx rfl (pc0 := 251) (pc' := 258) rfl (hb hby at_251) rfl ((if0 _ _).trans (feq (own_lc_feq hc38)).2) (by decide) (by decide) ?_
                  show Steps p.tables e below (T20.setTop (mkF m 258 #[.val (.int p1), .val (.int p2), .val (.long q3), .second, .val (.long q4), .second, .val (.long q5), .second, .val (.int p6), .val (.int IA), .val (.int IB), .val (.int v2), .val (.int v5), .val (.int (((p6.toUInt32 >>> ((2 : Int32) &&& 31).toUInt32).toInt32) &&& (3 : Int32))), .val (.long v8), .second, .val (.long v11), .second, .val (.long EHA), .second, .val (.long ELA), .second, .val (.long EHB), .second, .val (.long ELB), .second, .val (.ref b18), .val (.ref b20), .val (.int (((p6.toUInt32 >>> ((4 : Int32) &&& 31).toUInt32).toInt32) &&& (3 : Int32))), .unset] [])) _
                  refine XS.iconst X20.here hx rfl (hb hby at_258) ?_
                  rw [show v40 = (0 : Int32) from hv40.trans ((if_pos hc34).trans ((if_pos hc35).trans ((if_pos hc36).trans ((if_pos hc37).trans (if_neg hc38)))))] at k
                  exact k
              · refine XS.ifYes X20.here hx rfl (pc0 := 243) (pc' := 258) rfl (hb hby at_243) rfl ((if0 _ _).trans (feq (own_lc_feq hc37)).2) (by decide) (by decide) ?_
                show Steps p.tables e below (T20.setTop (mkF m 258 #[.val (.int p1), .val (.int p2), .val (.long q3), .second, .val (.long q4), .second, .val (.long q5), .second, .val (.int p6), .val (.int IA), .val (.int IB), .val (.int v2), .val (.int v5), .val (.int (((p6.toUInt32 >>> ((2 : Int32) &&& 31).toUInt32).toInt32) &&& (3 : Int32))), .val (.long v8), .second, .val (.long v11), .second, .val (.long EHA), .second, .val (.long ELA), .second, .val (.long EHB), .second, .val (.long ELB), .second, .val (.ref b18), .val (.ref b20), .val (.int (((p6.toUInt32 >>> ((4 : Int32) &&& 31).toUInt32).toInt32) &&& (3 : Int32))), .unset] [])) _
                refine XS.iconst X20.here hx rfl (hb hby at_258) ?_
                rw [show v40 = (0 : Int32) from hv40.trans ((if_pos hc34).trans ((if_pos hc35).trans ((if_pos hc36).trans (if_neg hc37))))] at k
                exact k
            · refine XS.ifYes X20.here hx rfl (pc0 := 235) (pc' := 258) rfl (hb hby at_235) rfl ((if0 _ _).trans (feq hc36).2) (by decide) (by decide) ?_
              show Steps p.tables e below (T20.setTop (mkF m 258 #[.val (.int p1), .val (.int p2), .val (.long q3), .second, .val (.long q4), .second, .val (.long q5), .second, .val (.int p6), .val (.int IA), .val (.int IB), .val (.int v2), .val (.int v5), .val (.int (((p6.toUInt32 >>> ((2 : Int32) &&& 31).toUInt32).toInt32) &&& (3 : Int32))), .val (.long v8), .second, .val (.long v11), .second, .val (.long EHA), .second, .val (.long ELA), .second, .val (.long EHB), .second, .val (.long ELB), .second, .val (.ref b18), .val (.ref b20), .val (.int (((p6.toUInt32 >>> ((4 : Int32) &&& 31).toUInt32).toInt32) &&& (3 : Int32))), .unset] [])) _
              refine XS.iconst X20.here hx rfl (hb hby at_258) ?_
              rw [show v40 = (0 : Int32) from hv40.trans ((if_pos hc34).trans ((if_pos hc35).trans (if_neg hc36)))] at k
              exact k
          · refine XS.ifNo X20.here hx rfl (hb hby at_222) rfl ((if0 _ _).trans (feq hc35).1) ?_
            show Steps p.tables e below (T20.setTop (mkF m 225 #[.val (.int p1), .val (.int p2), .val (.long q3), .second, .val (.long q4), .second, .val (.long q5), .second, .val (.int p6), .val (.int IA), .val (.int IB), .val (.int v2), .val (.int v5), .val (.int (((p6.toUInt32 >>> ((2 : Int32) &&& 31).toUInt32).toInt32) &&& (3 : Int32))), .val (.long v8), .second, .val (.long v11), .second, .val (.long EHA), .second, .val (.long ELA), .second, .val (.long EHB), .second, .val (.long ELB), .second, .val (.ref b18), .val (.ref b20), .val (.int (((p6.toUInt32 >>> ((4 : Int32) &&& 31).toUInt32).toInt32) &&& (3 : Int32))), .unset] [])) _
            refine XS.iload X20.here hx rfl (hb hby at_225) rfl ?_
            show Steps p.tables e below (T20.setTop (mkF m 227 #[.val (.int p1), .val (.int p2), .val (.long q3), .second, .val (.long q4), .second, .val (.long q5), .second, .val (.int p6), .val (.int IA), .val (.int IB), .val (.int v2), .val (.int v5), .val (.int (((p6.toUInt32 >>> ((2 : Int32) &&& 31).toUInt32).toInt32) &&& (3 : Int32))), .val (.long v8), .second, .val (.long v11), .second, .val (.long EHA), .second, .val (.long ELA), .second, .val (.long EHB), .second, .val (.long ELB), .second, .val (.ref b18), .val (.ref b20), .val (.int (((p6.toUInt32 >>> ((4 : Int32) &&& 31).toUInt32).toInt32) &&& (3 : Int32))), .unset] [(.int v5)])) _
            by_cases hc39 : v5 = (0 : Int32)
            · refine XS.ifYes X20.here hx rfl (pc0 := 227) (pc' := 258) rfl (hb hby at_227) rfl ((if0 _ _).trans (teq hc39).1) (by decide) (by decide) ?_
              show Steps p.tables e below (T20.setTop (mkF m 258 #[.val (.int p1), .val (.int p2), .val (.long q3), .second, .val (.long q4), .second, .val (.long q5), .second, .val (.int p6), .val (.int IA), .val (.int IB), .val (.int v2), .val (.int v5), .val (.int (((p6.toUInt32 >>> ((2 : Int32) &&& 31).toUInt32).toInt32) &&& (3 : Int32))), .val (.long v8), .second, .val (.long v11), .second, .val (.long EHA), .second, .val (.long ELA), .second, .val (.long EHB), .second, .val (.long ELB), .second, .val (.ref b18), .val (.ref b20), .val (.int (((p6.toUInt32 >>> ((4 : Int32) &&& 31).toUInt32).toInt32) &&& (3 : Int32))), .unset] [])) _
              refine XS.iconst X20.here hx rfl (hb hby at_258) ?_
              rw [show v40 = (0 : Int32) from hv40.trans ((if_pos hc34).trans ((if_neg hc35).trans (if_pos hc39)))] at k
              exact k
            · refine XS.ifNo X20.here hx rfl (hb hby at_227) rfl ((if0 _ _).trans (feq hc39).1) ?_
              show Steps p.tables e below (T20.setTop (mkF m 230 #[.val (.int p1), .val (.int p2), .val (.long q3), .second, .val (.long q4), .second, .val (.long q5), .second, .val (.int p6), .val (.int IA), .val (.int IB), .val (.int v2), .val (.int v5), .val (.int (((p6.toUInt32 >>> ((2 : Int32) &&& 31).toUInt32).toInt32) &&& (3 : Int32))), .val (.long v8), .second, .val (.long v11), .second, .val (.long EHA), .second, .val (.long ELA), .second, .val (.long EHB), .second, .val (.long ELB), .second, .val (.ref b18), .val (.ref b20), .val (.int (((p6.toUInt32 >>> ((4 : Int32) &&& 31).toUInt32).toInt32) &&& (3 : Int32))), .unset] [])) _
              refine XS.goto X20.here hx rfl (pc0 := 230) (pc' := 254) rfl (hb hby at_230) (by decide) (by decide) ?_
              show Steps p.tables e below (T20.setTop (mkF m 254 #[.val (.int p1), .val (.int p2), .val (.long q3), .second, .val (.long q4), .second, .val (.long q5), .second, .val (.int p6), .val (.int IA), .val (.int IB), .val (.int v2), .val (.int v5), .val (.int (((p6.toUInt32 >>> ((2 : Int32) &&& 31).toUInt32).toInt32) &&& (3 : Int32))), .val (.long v8), .second, .val (.long v11), .second, .val (.long EHA), .second, .val (.long ELA), .second, .val (.long EHB), .second, .val (.long ELB), .second, .val (.ref b18), .val (.ref b20), .val (.int (((p6.toUInt32 >>> ((4 : Int32) &&& 31).toUInt32).toInt32) &&& (3 : Int32))), .unset] [])) _
              refine XS.iconst X20.here hx rfl (hb hby at_254) ?_
              show Steps p.tables e below (T20.setTop (mkF m 255 #[.val (.int p1), .val (.int p2), .val (.long q3), .second, .val (.long q4), .second, .val (.long q5), .second, .val (.int p6), .val (.int IA), .val (.int IB), .val (.int v2), .val (.int v5), .val (.int (((p6.toUInt32 >>> ((2 : Int32) &&& 31).toUInt32).toInt32) &&& (3 : Int32))), .val (.long v8), .second, .val (.long v11), .second, .val (.long EHA), .second, .val (.long ELA), .second, .val (.long EHB), .second, .val (.long ELB), .second, .val (.ref b18), .val (.ref b20), .val (.int (((p6.toUInt32 >>> ((4 : Int32) &&& 31).toUInt32).toInt32) &&& (3 : Int32))), .unset] [(.int (1 : Int32))])) _
              refine XS.goto X20.here hx rfl (pc0 := 255) (pc' := 259) rfl (hb hby at_255) (by decide) (by decide) ?_
              rw [show v40 = (1 : Int32) from hv40.trans ((if_pos hc34).trans ((if_neg hc35).trans (if_neg hc39)))] at k
              exact k
        · refine XS.icmpYes X20.here hx rfl (pc0 := 217) (pc' := 258) rfl (hb hby at_217) rfl (feq hc34).2 (by decide) (by decide) ?_
          show Steps p.tables e below (T20.setTop (mkF m 258 #[.val (.int p1), .val (.int p2), .val (.long q3), .second, .val (.long q4), .second, .val (.long q5), .second, .val (.int p6), .val (.int IA), .val (.int IB), .val (.int v2), .val (.int v5), .val (.int (((p6.toUInt32 >>> ((2 : Int32) &&& 31).toUInt32).toInt32) &&& (3 : Int32))), .val (.long v8), .second, .val (.long v11), .second, .val (.long EHA), .second, .val (.long ELA), .second, .val (.long EHB), .second, .val (.long ELB), .second, .val (.ref b18), .val (.ref b20), .val (.int (((p6.toUInt32 >>> ((4 : Int32) &&& 31).toUInt32).toInt32) &&& (3 : Int32))), .unset] [])) _
          refine XS.iconst X20.here hx rfl (hb hby at_258) ?_
          rw [show v40 = (0 : Int32) from hv40.trans (if_neg hc34)] at k
          exact k)
      obtain ⟨cq42, kq42, q42a, q42b, q42c⟩ := isOf hZ e20 E_b18_20
      obtain ⟨_, _, ⟨T42, L42, k42, n42⟩, -, X42, ⟨Lc42, hQ42, l42, y42, z42⟩, st42⟩ := X20.virtualBack hx (y := (⟨"com/example/tagwire/tagwire/core/FloatValue", "equals", "(Ljava/lang/Object;)Z"⟩ : MethodName)) (z := (⟨"com/example/tagwire/tagwire/core/FloatValue", "equals", "(Ljava/lang/Object;)Z"⟩ : MethodName)) hown (mvT hZ (hw _ (List.mem_of_getElem? (i := 121) rfl))) (mvT hZ (hw _ (List.mem_of_getElem? (i := 122) rfl))) (notFace_of_selects (args := #[]) (mvT hZ (hw _ (List.mem_of_getElem? (i := 124) rfl)))) (mvT hZ (hw _ (List.mem_of_getElem? (i := 124) rfl))) (mvT hZ (hw _ (List.mem_of_getElem? (i := 123) rfl))) (by decide) (backOf (W := 0) (rm25v l Z a0 hw [] b18 b20 FA FB (if (f13 (own_sb IA) (own_eb IA) ELA EHA) = (0 : Int32) then (f24 (((f22 (own_xb IA) (own_sb IA)) - (1 : Int32)) - (64 : Int32)) ((((f15 (own_sb IA)) + (f16 (own_eb IA))) + (0 : Int32)) - (64 : Int32))) else EHA) (if (f13 (own_sb IB) (own_eb IB) ELB EHB) = (0 : Int32) then (f24 (((f22 (own_xb IB) (own_sb IB)) - (1 : Int32)) - (64 : Int32)) ((((f15 (own_sb IB)) + (f16 (own_eb IB))) + (0 : Int32)) - (64 : Int32))) else EHB) (if (f13 (own_sb IA) (own_eb IA) ELA EHA) = (0 : Int32) then (f24 ((f22 (own_xb IA) (own_sb IA)) - (1 : Int32)) (((f15 (own_sb IA)) + (f16 (own_eb IA))) + (0 : Int32))) else ELA) (if (f13 (own_sb IB) (own_eb IB) ELB EHB) = (0 : Int32) then (f24 ((f22 (own_xb IB) (own_sb IB)) - (1 : Int32)) (((f15 (own_sb IB)) + (f16 (own_eb IB))) + (0 : Int32))) else ELB) h20 n0 Zs20 E_b20_20 F_format_b18_20 F_format_b20_20 F_high_b18_20 F_high_b20_20 F_low_b18_20 F_low_b20_20) hZ (hw _ (List.mem_of_getElem? (i := 125) rfl)) (hw _ (List.mem_of_getElem? (i := 32) rfl)) (by decide) (by decide)) q42a q42c (g := (mkF m 265 #[.val (.int p1), .val (.int p2), .val (.long q3), .second, .val (.long q4), .second, .val (.long q5), .second, .val (.int p6), .val (.int IA), .val (.int IB), .val (.int v2), .val (.int v5), .val (.int (((p6.toUInt32 >>> ((2 : Int32) &&& 31).toUInt32).toInt32) &&& (3 : Int32))), .val (.long v8), .second, .val (.long v11), .second, .val (.long EHA), .second, .val (.long ELA), .second, .val (.long EHB), .second, .val (.long ELB), .second, .val (.ref b18), .val (.ref b20), .val (.int (((p6.toUInt32 >>> ((4 : Int32) &&& 31).toUInt32).toInt32) &&& (3 : Int32))), .val (.int v40)] [(.ref b20), (.ref b18)])) rfl (by rw [hml]; rfl) (Steps.refl _) (argsL := [(.ref b20)]) (rest := []) (lenOf pd_12 rfl) rfl (by show 2 * 0 + _ ≤ _; exact Nat.le_of_eq rfl) (hb hby at_265) (fun _ _ => ⟨rfl, e20, (by decide : 4 + 0 ≤ _), (by decide : 12 + 0 ≤ _)⟩)
      dsimp only [Pt.U, Pt.locs, Pt.cells, Pt.slots] at X42 l42 y42 z42 st42 hQ42
      subst l42 y42 z42
      obtain ⟨rfl, N42q, e42⟩ := hQ42
      have N42 := Fr.app N20 N42q
      have pre43 : ∀ t, Steps p.tables e below (T42.setTop (mkF m 270 #[.val (.int p1), .val (.int p2), .val (.long q3), .second, .val (.long q4), .second, .val (.long q5), .second, .val (.int p6), .val (.int IA), .val (.int IB), .val (.int v2), .val (.int v5), .val (.int (((p6.toUInt32 >>> ((2 : Int32) &&& 31).toUInt32).toInt32) &&& (3 : Int32))), .val (.long v8), .second, .val (.long v11), .second, .val (.long EHA), .second, .val (.long ELA), .second, .val (.long EHB), .second, .val (.long ELB), .second, .val (.ref b18), .val (.ref b20), .val (.int (((p6.toUInt32 >>> ((4 : Int32) &&& 31).toUInt32).toInt32) &&& (3 : Int32))), .val (.int v40)] [(.int v40), (.int (f25v FA FB (if (f13 (own_sb IA) (own_eb IA) ELA EHA) = (0 : Int32) then (f24 (((f22 (own_xb IA) (own_sb IA)) - (1 : Int32)) - (64 : Int32)) ((((f15 (own_sb IA)) + (f16 (own_eb IA))) + (0 : Int32)) - (64 : Int32))) else EHA) (if (f13 (own_sb IB) (own_eb IB) ELB EHB) = (0 : Int32) then (f24 (((f22 (own_xb IB) (own_sb IB)) - (1 : Int32)) - (64 : Int32)) ((((f15 (own_sb IB)) + (f16 (own_eb IB))) + (0 : Int32)) - (64 : Int32))) else EHB) (if (f13 (own_sb IA) (own_eb IA) ELA EHA) = (0 : Int32) then (f24 ((f22 (own_xb IA) (own_sb IA)) - (1 : Int32)) (((f15 (own_sb IA)) + (f16 (own_eb IA))) + (0 : Int32))) else ELA) (if (f13 (own_sb IB) (own_eb IB) ELB EHB) = (0 : Int32) then (f24 ((f22 (own_xb IB) (own_sb IB)) - (1 : Int32)) (((f15 (own_sb IB)) + (f16 (own_eb IB))) + (0 : Int32))) else ELB)))])) t → Steps p.tables e below (s₁.setTop (entryFrame m #[(.int p1), (.int p2), (.long q3), (.long q4), (.long q5), (.int p6)] maxLocals)) t := fun t k => pre41 t (by
        show Steps p.tables e below (T20.setTop (mkF m 259 #[.val (.int p1), .val (.int p2), .val (.long q3), .second, .val (.long q4), .second, .val (.long q5), .second, .val (.int p6), .val (.int IA), .val (.int IB), .val (.int v2), .val (.int v5), .val (.int (((p6.toUInt32 >>> ((2 : Int32) &&& 31).toUInt32).toInt32) &&& (3 : Int32))), .val (.long v8), .second, .val (.long v11), .second, .val (.long EHA), .second, .val (.long ELA), .second, .val (.long EHB), .second, .val (.long ELB), .second, .val (.ref b18), .val (.ref b20), .val (.int (((p6.toUInt32 >>> ((4 : Int32) &&& 31).toUInt32).toInt32) &&& (3 : Int32))), .unset] [(.int v40)])) _
        refine XS.istore X20.here hx rfl (hb hby at_259) rfl (l' := #[.val (.int p1), .val (.int p2), .val (.long q3), .second, .val (.long q4), .second, .val (.long q5), .second, .val (.int p6), .val (.int IA), .val (.int IB), .val (.int v2), .val (.int v5), .val (.int (((p6.toUInt32 >>> ((2 : Int32) &&& 31).toUInt32).toInt32) &&& (3 : Int32))), .val (.long v8), .second, .val (.long v11), .second, .val (.long EHA), .second, .val (.long ELA), .second, .val (.long EHB), .second, .val (.long ELB), .second, .val (.ref b18), .val (.ref b20), .val (.int (((p6.toUInt32 >>> ((4 : Int32) &&& 31).toUInt32).toInt32) &&& (3 : Int32))), .val (.int v40)]) rfl ?_
        show Steps p.tables e below (T20.setTop (mkF m 261 #[.val (.int p1), .val (.int p2), .val (.long q3), .second, .val (.long q4), .second, .val (.long q5), .second, .val (.int p6), .val (.int IA), .val (.int IB), .val (.int v2), .val (.int v5), .val (.int (((p6.toUInt32 >>> ((2 : Int32) &&& 31).toUInt32).toInt32) &&& (3 : Int32))), .val (.long v8), .second, .val (.long v11), .second, .val (.long EHA), .second, .val (.long ELA), .second, .val (.long EHB), .second, .val (.long ELB), .second, .val (.ref b18), .val (.ref b20), .val (.int (((p6.toUInt32 >>> ((4 : Int32) &&& 31).toUInt32).toInt32) &&& (3 : Int32))), .val (.int v40)] [])) _
        refine XS.aload X20.here hx rfl (hb hby at_261) rfl rfl ?_
        show Steps p.tables e below (T20.setTop (mkF m 263 #[.val (.int p1), .val (.int p2), .val (.long q3), .second, .val (.long q4), .second, .val (.long q5), .second, .val (.int p6), .val (.int IA), .val (.int IB), .val (.int v2), .val (.int v5), .val (.int (((p6.toUInt32 >>> ((2 : Int32) &&& 31).toUInt32).toInt32) &&& (3 : Int32))), .val (.long v8), .second, .val (.long v11), .second, .val (.long EHA), .second, .val (.long ELA), .second, .val (.long EHB), .second, .val (.long ELB), .second, .val (.ref b18), .val (.ref b20), .val (.int (((p6.toUInt32 >>> ((4 : Int32) &&& 31).toUInt32).toInt32) &&& (3 : Int32))), .val (.int v40)] [(.ref b18)])) _
        refine XS.aload X20.here hx rfl (hb hby at_263) rfl rfl ?_
        show Steps p.tables e below (T20.setTop (mkF m 265 #[.val (.int p1), .val (.int p2), .val (.long q3), .second, .val (.long q4), .second, .val (.long q5), .second, .val (.int p6), .val (.int IA), .val (.int IB), .val (.int v2), .val (.int v5), .val (.int (((p6.toUInt32 >>> ((2 : Int32) &&& 31).toUInt32).toInt32) &&& (3 : Int32))), .val (.long v8), .second, .val (.long v11), .second, .val (.long EHA), .second, .val (.long ELA), .second, .val (.long EHB), .second, .val (.long ELB), .second, .val (.ref b18), .val (.ref b20), .val (.int (((p6.toUInt32 >>> ((4 : Int32) &&& 31).toUInt32).toInt32) &&& (3 : Int32))), .val (.int v40)] [(.ref b20), (.ref b18)])) _
        refine st42.trans ?_
        show Steps p.tables e below (T42.setTop (mkF m 268 #[.val (.int p1), .val (.int p2), .val (.long q3), .second, .val (.long q4), .second, .val (.long q5), .second, .val (.int p6), .val (.int IA), .val (.int IB), .val (.int v2), .val (.int v5), .val (.int (((p6.toUInt32 >>> ((2 : Int32) &&& 31).toUInt32).toInt32) &&& (3 : Int32))), .val (.long v8), .second, .val (.long v11), .second, .val (.long EHA), .second, .val (.long ELA), .second, .val (.long EHB), .second, .val (.long ELB), .second, .val (.ref b18), .val (.ref b20), .val (.int (((p6.toUInt32 >>> ((4 : Int32) &&& 31).toUInt32).toInt32) &&& (3 : Int32))), .val (.int v40)] [(.int (f25v FA FB (if (f13 (own_sb IA) (own_eb IA) ELA EHA) = (0 : Int32) then (f24 (((f22 (own_xb IA) (own_sb IA)) - (1 : Int32)) - (64 : Int32)) ((((f15 (own_sb IA)) + (f16 (own_eb IA))) + (0 : Int32)) - (64 : Int32))) else EHA) (if (f13 (own_sb IB) (own_eb IB) ELB EHB) = (0 : Int32) then (f24 (((f22 (own_xb IB) (own_sb IB)) - (1 : Int32)) - (64 : Int32)) ((((f15 (own_sb IB)) + (f16 (own_eb IB))) + (0 : Int32)) - (64 : Int32))) else EHB) (if (f13 (own_sb IA) (own_eb IA) ELA EHA) = (0 : Int32) then (f24 ((f22 (own_xb IA) (own_sb IA)) - (1 : Int32)) (((f15 (own_sb IA)) + (f16 (own_eb IA))) + (0 : Int32))) else ELA) (if (f13 (own_sb IB) (own_eb IB) ELB EHB) = (0 : Int32) then (f24 ((f22 (own_xb IB) (own_sb IB)) - (1 : Int32)) (((f15 (own_sb IB)) + (f16 (own_eb IB))) + (0 : Int32))) else ELB)))])) _
        refine XS.iload X42.here hx rfl (hb hby at_268) rfl ?_
        exact k)
      by_cases hc44 : (f25v FA FB (if (f13 (own_sb IA) (own_eb IA) ELA EHA) = (0 : Int32) then (f24 (((f22 (own_xb IA) (own_sb IA)) - (1 : Int32)) - (64 : Int32)) ((((f15 (own_sb IA)) + (f16 (own_eb IA))) + (0 : Int32)) - (64 : Int32))) else EHA) (if (f13 (own_sb IB) (own_eb IB) ELB EHB) = (0 : Int32) then (f24 (((f22 (own_xb IB) (own_sb IB)) - (1 : Int32)) - (64 : Int32)) ((((f15 (own_sb IB)) + (f16 (own_eb IB))) + (0 : Int32)) - (64 : Int32))) else EHB) (if (f13 (own_sb IA) (own_eb IA) ELA EHA) = (0 : Int32) then (f24 ((f22 (own_xb IA) (own_sb IA)) - (1 : Int32)) (((f15 (own_sb IA)) + (f16 (own_eb IA))) + (0 : Int32))) else ELA) (if (f13 (own_sb IB) (own_eb IB) ELB EHB) = (0 : Int32) then (f24 ((f22 (own_xb IB) (own_sb IB)) - (1 : Int32)) (((f15 (own_sb IB)) + (f16 (own_eb IB))) + (0 : Int32))) else ELB)) = v40
      · obtain ⟨cq45, kq45, q45a, q45b, q45c⟩ := isOf hZ e42 E_b20_20
        obtain ⟨_, _, ⟨T45, L45, k45, n45⟩, -, X45, ⟨Lc45, hQ45, l45, y45, z45⟩, st45⟩ := X42.virtualBack hx (y := (⟨"com/example/tagwire/tagwire/core/FloatValue", "equals", "(Ljava/lang/Object;)Z"⟩ : MethodName)) (z := (⟨"com/example/tagwire/tagwire/core/FloatValue", "equals", "(Ljava/lang/Object;)Z"⟩ : MethodName)) hown (mvT hZ (hw _ (List.mem_of_getElem? (i := 121) rfl))) (mvT hZ (hw _ (List.mem_of_getElem? (i := 122) rfl))) (notFace_of_selects (args := #[]) (mvT hZ (hw _ (List.mem_of_getElem? (i := 124) rfl)))) (mvT hZ (hw _ (List.mem_of_getElem? (i := 124) rfl))) (mvT hZ (hw _ (List.mem_of_getElem? (i := 123) rfl))) (by decide) (backOf (W := 0) (rm25v l Z a0 hw [] b20 b18 FB FA (if (f13 (own_sb IB) (own_eb IB) ELB EHB) = (0 : Int32) then (f24 (((f22 (own_xb IB) (own_sb IB)) - (1 : Int32)) - (64 : Int32)) ((((f15 (own_sb IB)) + (f16 (own_eb IB))) + (0 : Int32)) - (64 : Int32))) else EHB) (if (f13 (own_sb IA) (own_eb IA) ELA EHA) = (0 : Int32) then (f24 (((f22 (own_xb IA) (own_sb IA)) - (1 : Int32)) - (64 : Int32)) ((((f15 (own_sb IA)) + (f16 (own_eb IA))) + (0 : Int32)) - (64 : Int32))) else EHA) (if (f13 (own_sb IB) (own_eb IB) ELB EHB) = (0 : Int32) then (f24 ((f22 (own_xb IB) (own_sb IB)) - (1 : Int32)) (((f15 (own_sb IB)) + (f16 (own_eb IB))) + (0 : Int32))) else ELB) (if (f13 (own_sb IA) (own_eb IA) ELA EHA) = (0 : Int32) then (f24 ((f22 (own_xb IA) (own_sb IA)) - (1 : Int32)) (((f15 (own_sb IA)) + (f16 (own_eb IA))) + (0 : Int32))) else ELA) h20 n0 Zs20 E_b18_20 F_format_b20_20 F_format_b18_20 F_high_b20_20 F_high_b18_20 F_low_b20_20 F_low_b18_20) hZ (hw _ (List.mem_of_getElem? (i := 125) rfl)) (hw _ (List.mem_of_getElem? (i := 32) rfl)) (by decide) (by decide)) q45a q45c (g := (mkF m 277 #[.val (.int p1), .val (.int p2), .val (.long q3), .second, .val (.long q4), .second, .val (.long q5), .second, .val (.int p6), .val (.int IA), .val (.int IB), .val (.int v2), .val (.int v5), .val (.int (((p6.toUInt32 >>> ((2 : Int32) &&& 31).toUInt32).toInt32) &&& (3 : Int32))), .val (.long v8), .second, .val (.long v11), .second, .val (.long EHA), .second, .val (.long ELA), .second, .val (.long EHB), .second, .val (.long ELB), .second, .val (.ref b18), .val (.ref b20), .val (.int (((p6.toUInt32 >>> ((4 : Int32) &&& 31).toUInt32).toInt32) &&& (3 : Int32))), .val (.int v40)] [(.ref b18), (.ref b20)])) rfl (by rw [hml]; rfl) (Steps.refl _) (argsL := [(.ref b18)]) (rest := []) (lenOf pd_12 rfl) rfl (by show 2 * 0 + _ ≤ _; exact Nat.le_of_eq rfl) (hb hby at_277) (fun _ _ => ⟨rfl, e42, (by decide : 4 + 0 ≤ _), (by decide : 12 + 0 ≤ _)⟩)
        dsimp only [Pt.U, Pt.locs, Pt.cells, Pt.slots] at X45 l45 y45 z45 st45 hQ45
        subst l45 y45 z45
        obtain ⟨rfl, N45q, e45⟩ := hQ45
        have N45 := Fr.app N42 N45q
        obtain ⟨v47, hv47⟩ : ∃ z : Int32, z = (if (f25v FB FA (if (f13 (own_sb IB) (own_eb IB) ELB EHB) = (0 : Int32) then (f24 (((f22 (own_xb IB) (own_sb IB)) - (1 : Int32)) - (64 : Int32)) ((((f15 (own_sb IB)) + (f16 (own_eb IB))) + (0 : Int32)) - (64 : Int32))) else EHB) (if (f13 (own_sb IA) (own_eb IA) ELA EHA) = (0 : Int32) then (f24 (((f22 (own_xb IA) (own_sb IA)) - (1 : Int32)) - (64 : Int32)) ((((f15 (own_sb IA)) + (f16 (own_eb IA))) + (0 : Int32)) - (64 : Int32))) else EHA) (if (f13 (own_sb IB) (own_eb IB) ELB EHB) = (0 : Int32) then (f24 ((f22 (own_xb IB) (own_sb IB)) - (1 : Int32)) (((f15 (own_sb IB)) + (f16 (own_eb IB))) + (0 : Int32))) else ELB) (if (f13 (own_sb IA) (own_eb IA) ELA EHA) = (0 : Int32) then (f24 ((f22 (own_xb IA) (own_sb IA)) - (1 : Int32)) (((f15 (own_sb IA)) + (f16 (own_eb IA))) + (0 : Int32))) else ELA)) = v40 then (1 : Int32) else (0 : Int32)) := ⟨_, rfl⟩
        have pre48 : ∀ t, Steps p.tables e below (T45.setTop (mkF m 290 #[.val (.int p1), .val (.int p2), .val (.long q3), .second, .val (.long q4), .second, .val (.long q5), .second, .val (.int p6), .val (.int IA), .val (.int IB), .val (.int v2), .val (.int v5), .val (.int (((p6.toUInt32 >>> ((2 : Int32) &&& 31).toUInt32).toInt32) &&& (3 : Int32))), .val (.long v8), .second, .val (.long v11), .second, .val (.long EHA), .second, .val (.long ELA), .second, .val (.long EHB), .second, .val (.long ELB), .second, .val (.ref b18), .val (.ref b20), .val (.int (((p6.toUInt32 >>> ((4 : Int32) &&& 31).toUInt32).toInt32) &&& (3 : Int32))), .val (.int v40)] [(.int v47)])) t → Steps p.tables e below (s₁.setTop (entryFrame m #[(.int p1), (.int p2), (.long q3), (.long q4), (.long q5), (.int p6)] maxLocals)) t := fun t k => pre43 t (by
          show Steps p.tables e below (T42.setTop (mkF m 270 #[.val (.int p1), .val (.int p2), .val (.long q3), .second, .val (.long q4), .second, .val (.long q5), .second, .val (.int p6), .val (.int IA), .val (.int IB), .val (.int v2), .val (.int v5), .val (.int (((p6.toUInt32 >>> ((2 : Int32) &&& 31).toUInt32).toInt32) &&& (3 : Int32))), .val (.long v8), .second, .val (.long v11), .second, .val (.long EHA), .second, .val (.long ELA), .second, .val (.long EHB), .second, .val (.long ELB), .second, .val (.ref b18), .val (.ref b20), .val (.int (((p6.toUInt32 >>> ((4 : Int32) &&& 31).toUInt32).toInt32) &&& (3 : Int32))), .val (.int v40)] [(.int v40), (.int (f25v FA FB (if (f13 (own_sb IA) (own_eb IA) ELA EHA) = (0 : Int32) then (f24 (((f22 (own_xb IA) (own_sb IA)) - (1 : Int32)) - (64 : Int32)) ((((f15 (own_sb IA)) + (f16 (own_eb IA))) + (0 : Int32)) - (64 : Int32))) else EHA) (if (f13 (own_sb IB) (own_eb IB) ELB EHB) = (0 : Int32) then (f24 (((f22 (own_xb IB) (own_sb IB)) - (1 : Int32)) - (64 : Int32)) ((((f15 (own_sb IB)) + (f16 (own_eb IB))) + (0 : Int32)) - (64 : Int32))) else EHB) (if (f13 (own_sb IA) (own_eb IA) ELA EHA) = (0 : Int32) then (f24 ((f22 (own_xb IA) (own_sb IA)) - (1 : Int32)) (((f15 (own_sb IA)) + (f16 (own_eb IA))) + (0 : Int32))) else ELA) (if (f13 (own_sb IB) (own_eb IB) ELB EHB) = (0 : Int32) then (f24 ((f22 (own_xb IB) (own_sb IB)) - (1 : Int32)) (((f15 (own_sb IB)) + (f16 (own_eb IB))) + (0 : Int32))) else ELB)))])) _
          refine XS.icmpNo X42.here hx rfl (hb hby at_270) rfl (teq hc44).2 ?_
          show Steps p.tables e below (T42.setTop (mkF m 273 #[.val (.int p1), .val (.int p2), .val (.long q3), .second, .val (.long q4), .second, .val (.long q5), .second, .val (.int p6), .val (.int IA), .val (.int IB), .val (.int v2), .val (.int v5), .val (.int (((p6.toUInt32 >>> ((2 : Int32) &&& 31).toUInt32).toInt32) &&& (3 : Int32))), .val (.long v8), .second, .val (.long v11), .second, .val (.long EHA), .second, .val (.long ELA), .second, .val (.long EHB), .second, .val (.long ELB), .second, .val (.ref b18), .val (.ref b20), .val (.int (((p6.toUInt32 >>> ((4 : Int32) &&& 31).toUInt32).toInt32) &&& (3 : Int32))), .val (.int v40)] [])) _
          refine XS.aload X42.here hx rfl (hb hby at_273) rfl rfl ?_
          show Steps p.tables e below (T42.setTop (mkF m 275 #[.val (.int p1), .val (.int p2), .val (.long q3), .second, .val (.long q4), .second, .val (.long q5), .second, .val (.int p6), .val (.int IA), .val (.int IB), .val (.int v2), .val (.int v5), .val (.int (((p6.toUInt32 >>> ((2 : Int32) &&& 31).toUInt32).toInt32) &&& (3 : Int32))), .val (.long v8), .second, .val (.long v11), .second, .val (.long EHA), .second, .val (.long ELA), .second, .val (.long EHB), .second, .val (.long ELB), .second, .val (.ref b18), .val (.ref b20), .val (.int (((p6.toUInt32 >>> ((4 : Int32) &&& 31).toUInt32).toInt32) &&& (3 : Int32))), .val (.int v40)] [(.ref b20)])) _
          refine XS.aload X42.here hx rfl (hb hby at_275) rfl rfl ?_
          show Steps p.tables e below (T42.setTop (mkF m 277 #[.val (.int p1), .val (.int p2), .val (.long q3), .second, .val (.long q4), .second, .val (.long q5), .second, .val (.int p6), .val (.int IA), .val (.int IB), .val (.int v2), .val (.int v5), .val (.int (((p6.toUInt32 >>> ((2 : Int32) &&& 31).toUInt32).toInt32) &&& (3 : Int32))), .val (.long v8), .second, .val (.long v11), .second, .val (.long EHA), .second, .val (.long ELA), .second, .val (.long EHB), .second, .val (.long ELB), .second, .val (.ref b18), .val (.ref b20), .val (.int (((p6.toUInt32 >>> ((4 : Int32) &&& 31).toUInt32).toInt32) &&& (3 : Int32))), .val (.int v40)] [(.ref b18), (.ref b20)])) _
          refine st45.trans ?_
          show Steps p.tables e below (T45.setTop (mkF m 280 #[.val (.int p1), .val (.int p2), .val (.long q3), .second, .val (.long q4), .second, .val (.long q5), .second, .val (.int p6), .val (.int IA), .val (.int IB), .val (.int v2), .val (.int v5), .val (.int (((p6.toUInt32 >>> ((2 : Int32) &&& 31).toUInt32).toInt32) &&& (3 : Int32))), .val (.long v8), .second, .val (.long v11), .second, .val (.long EHA), .second, .val (.long ELA), .second, .val (.long EHB), .second, .val (.long ELB), .second, .val (.ref b18), .val (.ref b20), .val (.int (((p6.toUInt32 >>> ((4 : Int32) &&& 31).toUInt32).toInt32) &&& (3 : Int32))), .val (.int v40)] [(.int (f25v FB FA (if (f13 (own_sb IB) (own_eb IB) ELB EHB) = (0 : Int32) then (f24 (((f22 (own_xb IB) (own_sb IB)) - (1 : Int32)) - (64 : Int32)) ((((f15 (own_sb IB)) + (f16 (own_eb IB))) + (0 : Int32)) - (64 : Int32))) else EHB) (if (f13 (own_sb IA) (own_eb IA) ELA EHA) = (0 : Int32) then (f24 (((f22 (own_xb IA) (own_sb IA)) - (1 : Int32)) - (64 : Int32)) ((((f15 (own_sb IA)) + (f16 (own_eb IA))) + (0 : Int32)) - (64 : Int32))) else EHA) (if (f13 (own_sb IB) (own_eb IB) ELB EHB) = (0 : Int32) then (f24 ((f22 (own_xb IB) (own_sb IB)) - (1 : Int32)) (((f15 (own_sb IB)) + (f16 (own_eb IB))) + (0 : Int32))) else ELB) (if (f13 (own_sb IA) (own_eb IA) ELA EHA) = (0 : Int32) then (f24 ((f22 (own_xb IA) (own_sb IA)) - (1 : Int32)) (((f15 (own_sb IA)) + (f16 (own_eb IA))) + (0 : Int32))) else ELA)))])) _
          refine XS.iload X45.here hx rfl (hb hby at_280) rfl ?_
          show Steps p.tables e below (T45.setTop (mkF m 282 #[.val (.int p1), .val (.int p2), .val (.long q3), .second, .val (.long q4), .second, .val (.long q5), .second, .val (.int p6), .val (.int IA), .val (.int IB), .val (.int v2), .val (.int v5), .val (.int (((p6.toUInt32 >>> ((2 : Int32) &&& 31).toUInt32).toInt32) &&& (3 : Int32))), .val (.long v8), .second, .val (.long v11), .second, .val (.long EHA), .second, .val (.long ELA), .second, .val (.long EHB), .second, .val (.long ELB), .second, .val (.ref b18), .val (.ref b20), .val (.int (((p6.toUInt32 >>> ((4 : Int32) &&& 31).toUInt32).toInt32) &&& (3 : Int32))), .val (.int v40)] [(.int v40), (.int (f25v FB FA (if (f13 (own_sb IB) (own_eb IB) ELB EHB) = (0 : Int32) then (f24 (((f22 (own_xb IB) (own_sb IB)) - (1 : Int32)) - (64 : Int32)) ((((f15 (own_sb IB)) + (f16 (own_eb IB))) + (0 : Int32)) - (64 : Int32))) else EHB) (if (f13 (own_sb IA) (own_eb IA) ELA EHA) = (0 : Int32) then (f24 (((f22 (own_xb IA) (own_sb IA)) - (1 : Int32)) - (64 : Int32)) ((((f15 (own_sb IA)) + (f16 (own_eb IA))) + (0 : Int32)) - (64 : Int32))) else EHA) (if (f13 (own_sb IB) (own_eb IB) ELB EHB) = (0 : Int32) then (f24 ((f22 (own_xb IB) (own_sb IB)) - (1 : Int32)) (((f15 (own_sb IB)) + (f16 (own_eb IB))) + (0 : Int32))) else ELB) (if (f13 (own_sb IA) (own_eb IA) ELA EHA) = (0 : Int32) then (f24 ((f22 (own_xb IA) (own_sb IA)) - (1 : Int32)) (((f15 (own_sb IA)) + (f16 (own_eb IA))) + (0 : Int32))) else ELA)))])) _
          by_cases hc46 : (f25v FB FA (if (f13 (own_sb IB) (own_eb IB) ELB EHB) = (0 : Int32) then (f24 (((f22 (own_xb IB) (own_sb IB)) - (1 : Int32)) - (64 : Int32)) ((((f15 (own_sb IB)) + (f16 (own_eb IB))) + (0 : Int32)) - (64 : Int32))) else EHB) (if (f13 (own_sb IA) (own_eb IA) ELA EHA) = (0 : Int32) then (f24 (((f22 (own_xb IA) (own_sb IA)) - (1 : Int32)) - (64 : Int32)) ((((f15 (own_sb IA)) + (f16 (own_eb IA))) + (0 : Int32)) - (64 : Int32))) else EHA) (if (f13 (own_sb IB) (own_eb IB) ELB EHB) = (0 : Int32) then (f24 ((f22 (own_xb IB) (own_sb IB)) - (1 : Int32)) (((f15 (own_sb IB)) + (f16 (own_eb IB))) + (0 : Int32))) else ELB) (if (f13 (own_sb IA) (own_eb IA) ELA EHA) = (0 : Int32) then (f24 ((f22 (own_xb IA) (own_sb IA)) - (1 : Int32)) (((f15 (own_sb IA)) + (f16 (own_eb IA))) + (0 : Int32))) else ELA)) = v40
          · refine XS.icmpNo X45.here hx rfl (hb hby at_282) rfl (teq hc46).2 ?_
            show Steps p.tables e below (T45.setTop (mkF m 285 #[.val (.int p1), .val (.int p2), .val (.long q3), .second, .val (.long q4), .second, .val (.long q5), .second, .val (.int p6), .val (.int IA), .val (.int IB), .val (.int v2), .val (.int v5), .val (.int (((p6.toUInt32 >>> ((2 : Int32) &&& 31).toUInt32).toInt32) &&& (3 : Int32))), .val (.long v8), .second, .val (.long v11), .second, .val (.long EHA), .second, .val (.long ELA), .second, .val (.long EHB), .second, .val (.long ELB), .second, .val (.ref b18), .val (.ref b20), .val (.int (((p6.toUInt32 >>> ((4 : Int32) &&& 31).toUInt32).toInt32) &&& (3 : Int32))), .val (.int v40)] [])) _
            refine XS.iconst X45.here hx rfl (hb hby at_285) ?_
            show Steps p.tables e below (T45.setTop (mkF m 286 #[.val (.int p1), .val (.int p2), .val (.long q3), .second, .val (.long q4), .second, .val (.long q5), .second, .val (.int p6), .val (.int IA), .val (.int IB), .val (.int v2), .val (.int v5), .val (.int (((p6.toUInt32 >>> ((2 : Int32) &&& 31).toUInt32).toInt32) &&& (3 : Int32))), .val (.long v8), .second, .val (.long v11), .second, .val (.long EHA), .second, .val (.long ELA), .second, .val (.long EHB), .second, .val (.long ELB), .second, .val (.ref b18), .val (.ref b20), .val (.int (((p6.toUInt32 >>> ((4 : Int32) &&& 31).toUInt32).toInt32) &&& (3 : Int32))), .val (.int v40)] [(.int (1 : Int32))])) _
            refine XS.goto X45.here hx rfl (pc0 := 286) (pc' := 290) rfl (hb hby at_286) (by decide) (by decide) ?_
            rw [show v47 = (1 : Int32) from hv47.trans (if_pos hc46)] at k
            exact k
          · refine XS.icmpYes X45.here hx rfl (pc0 := 282) (pc' := 289) rfl (hb hby at_282) rfl (feq hc46).2 (by decide) (by decide) ?_
            show Steps p.tables e below (T45.setTop (mkF m 289 #[.val (.int p1), .val (.int p2), .val (.long q3), .second, .val (.long q4), .second, .val (.long q5), .second, .val (.int p6), .val (.int IA), .val (.int IB), .val (.int v2), .val (.int v5), .val (.int (((p6.toUInt32 >>> ((2 : Int32) &&& 31).toUInt32).toInt32) &&& (3 : Int32))), .val (.long v8), .second, .val (.long v11), .second, .val (.long EHA), .second, .val (.long ELA), .second, .val (.long EHB), .second, .val (.long ELB), .second, .val (.ref b18), .val (.ref b20), .val (.int (((p6.toUInt32 >>> ((4 : Int32) &&& 31).toUInt32).toInt32) &&& (3 : Int32))), .val (.int v40)] [])) _
            refine XS.iconst X45.here hx rfl (hb hby at_289) ?_
            rw [show v47 = (0 : Int32) from hv47.trans (if_neg hc46)] at k
            exact k)
        have er : (f0 p1 p2 q3 q4 q5 p6 s_BINARY16 s_BINARY32 s_BINARY64 s_EXTENDED80 s_BINARY128) = (nar .boolean v47) := by subst hIA hIB hv2 hv5 hv8 hv11 hEHA hELA hEHB hELB hFA hFB hv40 hv47; exact ((if_neg hc22).trans ((if_neg hc28).trans (if_pos hc44)))
        obtain ⟨fs, hr, hrun, hended, hW, hsame⟩ := X45.leave (v := some (.int (nar .boolean v47))) (fun h => by rw [Bd.returns] at h; cases h)
        refine ⟨_, _, pre48 _ ?_, hrun, hended, _, _, rfl, ?_, ⟨_, rfl⟩, hW, hsame.mono (by decide) (by decide)⟩
        · show Steps p.tables e below (T45.setTop (mkF m 290 #[.val (.int p1), .val (.int p2), .val (.long q3), .second, .val (.long q4), .second, .val (.long q5), .second, .val (.int p6), .val (.int IA), .val (.int IB), .val (.int v2), .val (.int v5), .val (.int (((p6.toUInt32 >>> ((2 : Int32) &&& 31).toUInt32).toInt32) &&& (3 : Int32))), .val (.long v8), .second, .val (.long v11), .second, .val (.long EHA), .second, .val (.long ELA), .second, .val (.long EHB), .second, .val (.long ELB), .second, .val (.ref b18), .val (.ref b20), .val (.int (((p6.toUInt32 >>> ((4 : Int32) &&& 31).toUInt32).toInt32) &&& (3 : Int32))), .val (.int v40)] [(.int v47)])) _
          exact retN X45 hx (t := .boolean) Bd.returns (by simp) (hb hby at_290) hr
        · show Q0 Z p1 p2 q3 q4 q5 p6 s_BINARY16 s_BINARY32 s_BINARY64 s_EXTENDED80 s_BINARY128 h0 n0 _ T45.heap _
          rw [e45]
          exact ⟨congrArg (fun z => some (Value.int z)) er.symm, N45, trivial⟩
      · have er : (f0 p1 p2 q3 q4 q5 p6 s_BINARY16 s_BINARY32 s_BINARY64 s_EXTENDED80 s_BINARY128) = (0 : Int32) := by subst hIA hIB hv2 hv5 hv8 hv11 hEHA hELA hEHB hELB hFA hFB hv40; exact ((if_neg hc22).trans ((if_neg hc28).trans (if_neg hc44)))
        obtain ⟨fs, hr, hrun, hended, hW, hsame⟩ := X42.leave (v := some (.int (0 : Int32))) (fun h => by rw [Bd.returns] at h; cases h)
        refine ⟨_, _, pre43 _ ?_, hrun, hended, _, _, rfl, ?_, ⟨_, rfl⟩, hW, hsame.mono (by decide) (by decide)⟩
        · show Steps p.tables e below (T42.setTop (mkF m 270 #[.val (.int p1), .val (.int p2), .val (.long q3), .second, .val (.long q4), .second, .val (.long q5), .second, .val (.int p6), .val (.int IA), .val (.int IB), .val (.int v2), .val (.int v5), .val (.int (((p6.toUInt32 >>> ((2 : Int32) &&& 31).toUInt32).toInt32) &&& (3 : Int32))), .val (.long v8), .second, .val (.long v11), .second, .val (.long EHA), .second, .val (.long ELA), .second, .val (.long EHB), .second, .val (.long ELB), .second, .val (.ref b18), .val (.ref b20), .val (.int (((p6.toUInt32 >>> ((4 : Int32) &&& 31).toUInt32).toInt32) &&& (3 : Int32))), .val (.int v40)] [(.int v40), (.int (f25v FA FB (if (f13 (own_sb IA) (own_eb IA) ELA EHA) = (0 : Int32) then (f24 (((f22 (own_xb IA) (own_sb IA)) - (1 : Int32)) - (64 : Int32)) ((((f15 (own_sb IA)) + (f16 (own_eb IA))) + (0 : Int32)) - (64 : Int32))) else EHA) (if (f13 (own_sb IB) (own_eb IB) ELB EHB) = (0 : Int32) then (f24 (((f22 (own_xb IB) (own_sb IB)) - (1 : Int32)) - (64 : Int32)) ((((f15 (own_sb IB)) + (f16 (own_eb IB))) + (0 : Int32)) - (64 : Int32))) else EHB) (if (f13 (own_sb IA) (own_eb IA) ELA EHA) = (0 : Int32) then (f24 ((f22 (own_xb IA) (own_sb IA)) - (1 : Int32)) (((f15 (own_sb IA)) + (f16 (own_eb IA))) + (0 : Int32))) else ELA) (if (f13 (own_sb IB) (own_eb IB) ELB EHB) = (0 : Int32) then (f24 ((f22 (own_xb IB) (own_sb IB)) - (1 : Int32)) (((f15 (own_sb IB)) + (f16 (own_eb IB))) + (0 : Int32))) else ELB)))])) _
          refine XS.icmpYes X42.here hx rfl (pc0 := 270) (pc' := 289) rfl (hb hby at_270) rfl (feq hc44).2 (by decide) (by decide) ?_
          show Steps p.tables e below (T42.setTop (mkF m 289 #[.val (.int p1), .val (.int p2), .val (.long q3), .second, .val (.long q4), .second, .val (.long q5), .second, .val (.int p6), .val (.int IA), .val (.int IB), .val (.int v2), .val (.int v5), .val (.int (((p6.toUInt32 >>> ((2 : Int32) &&& 31).toUInt32).toInt32) &&& (3 : Int32))), .val (.long v8), .second, .val (.long v11), .second, .val (.long EHA), .second, .val (.long ELA), .second, .val (.long EHB), .second, .val (.long ELB), .second, .val (.ref b18), .val (.ref b20), .val (.int (((p6.toUInt32 >>> ((4 : Int32) &&& 31).toUInt32).toInt32) &&& (3 : Int32))), .val (.int v40)] [])) _
          refine XS.iconst X42.here hx rfl (hb hby at_289) ?_
          show Steps p.tables e below (T42.setTop (mkF m 290 #[.val (.int p1), .val (.int p2), .val (.long q3), .second, .val (.long q4), .second, .val (.long q5), .second, .val (.int p6), .val (.int IA), .val (.int IB), .val (.int v2), .val (.int v5), .val (.int (((p6.toUInt32 >>> ((2 : Int32) &&& 31).toUInt32).toInt32) &&& (3 : Int32))), .val (.long v8), .second, .val (.long v11), .second, .val (.long EHA), .second, .val (.long ELA), .second, .val (.long EHB), .second, .val (.long ELB), .second, .val (.ref b18), .val (.ref b20), .val (.int (((p6.toUInt32 >>> ((4 : Int32) &&& 31).toUInt32).toInt32) &&& (3 : Int32))), .val (.int v40)] [(.int (0 : Int32))])) _
          exact retN X42 hx (t := .boolean) Bd.returns (by simp) (hb hby at_290) hr
        · show Q0 Z p1 p2 q3 q4 q5 p6 s_BINARY16 s_BINARY32 s_BINARY64 s_EXTENDED80 s_BINARY128 h0 n0 _ T42.heap _
          rw [e42]
          exact ⟨congrArg (fun z => some (Value.int z)) er.symm, N42, trivial⟩
def own_H (i : Int32) (el eh : Int64) : Int64 := if (f13 (own_sb i) (own_eb i) el eh) = (0 : Int32) then own_CH i else eh
def own_L (i : Int32) (el eh : Int64) : Int64 := if (f13 (own_sb i) (own_eb i) el eh) = (0 : Int32) then own_CL i else el
theorem own_Hf {i : Int32} (hi : own_ix i) (lo hg : Int64) : own_H i (f4 i lo 0) (f1 i hg 0) = f1 i hg 0 ∧ own_L i (f4 i lo 0) (f1 i hg 0) = f4 i lo 0 := ⟨if_neg (own_finf hi lo hg), if_neg (own_finf hi lo hg)⟩
theorem own_Hn {i : Int32} (hi : own_ix i) (lo hg : Int64) {v : Int32} (hv : ¬ v = 0) : own_H i (f4 i lo v) (f1 i hg v) = own_CH i ∧ own_L i (f4 i lo v) (f1 i hg v) = own_CL i := ⟨if_pos (own_nanf hi lo hg hv), if_pos (own_nanf hi lo hg hv)⟩
theorem own_unlike {i : Int32} (hi : own_ix i) (lo hg : Int64) : ¬ (own_CH i = f1 i hg 0 ∧ own_CL i = f4 i lo 0) := by
  rintro ⟨a, b⟩
  have h := own_canon hi
  rw [a, b] at h
  exact own_finf hi lo hg h
theorem own_same (F : Addr) {h h' l l' : Int64} (a : h = h') (b : l = l') : f25v F F h h' l l' = 1 := by
  unfold f25v; rw [if_pos rfl, if_pos a, if_pos b]; decide
theorem own_diff {F G : Addr} {h h' l l' : Int64} (n : ¬ (F = G ∧ h = h' ∧ l = l')) : f25v F G h h' l l' = 0 := by
  unfold f25v
  by_cases c : F = G
  · rw [if_pos c]
    by_cases d : h = h'
    · rw [if_pos d, if_neg fun z => n ⟨c, d, z⟩]; decide
    · rw [if_neg d]
  · rw [if_neg c]
theorem own_sym (F G : Addr) (h h' l l' : Int64) : f25v F G h h' l l' = f25v G F h' h l' l := by
  by_cases c : F = G ∧ h = h' ∧ l = l'
  · obtain ⟨rfl, rfl, rfl⟩ := c; rfl
  · rw [own_diff c, own_diff fun z => c ⟨z.1.symm, z.2.1.symm, z.2.2.symm⟩]
theorem own_eqv {IA IB : Int32} (ra : own_ix IA) (rb : own_ix IB) {FA FB : Addr} (hF : FA = FB ↔ IA = IB) (hg lo hg' lo' : Int64) (v w : Int32) : f25v FA FB (own_H IA (f4 IA lo v) (f1 IA hg v)) (own_H IB (f4 IB lo' w) (f1 IB hg' w)) (own_L IA (f4 IA lo v) (f1 IA hg v)) (own_L IB (f4 IB lo' w) (f1 IB hg' w)) = (if IA = IB then (if v = (0 : Int32) then (if w = (0 : Int32) then (if f1 IA hg v = f1 IB hg' w then (if f4 IA lo v = f4 IB lo' w then (1 : Int32) else (0 : Int32)) else (0 : Int32)) else (0 : Int32)) else (if w = (0 : Int32) then (0 : Int32) else (1 : Int32))) else (0 : Int32)) := by
  by_cases e : IA = IB
  · have f := hF.mpr e
    subst e f
    rw [if_pos rfl]
    by_cases hv : v = 0
    · subst hv
      rw [if_pos rfl, (own_Hf ra lo hg).1, (own_Hf ra lo hg).2]
      by_cases hw : w = 0
      · subst hw
        rw [if_pos rfl, (own_Hf ra lo' hg').1, (own_Hf ra lo' hg').2]
        by_cases c : f1 IA hg 0 = f1 IA hg' 0
        · rw [if_pos c]
          by_cases d : f4 IA lo 0 = f4 IA lo' 0
          · rw [if_pos d, own_same _ c d]
          · rw [if_neg d, own_diff fun z => d z.2.2]
        · rw [if_neg c, own_diff fun z => c z.2.1]
      · rw [if_neg hw, (own_Hn ra lo' hg' hw).1, (own_Hn ra lo' hg' hw).2]
        exact own_diff fun z => own_unlike ra lo hg ⟨z.2.1.symm, z.2.2.symm⟩
    · rw [if_neg hv, (own_Hn ra lo hg hv).1, (own_Hn ra lo hg hv).2]
      by_cases hw : w = 0
      · subst hw
        rw [if_pos rfl, (own_Hf ra lo' hg').1, (own_Hf ra lo' hg').2]
        exact own_diff fun z => own_unlike ra lo' hg' ⟨z.2.1, z.2.2⟩
      · rw [if_neg hw, (own_Hn ra lo' hg' hw).1, (own_Hn ra lo' hg' hw).2]
        exact own_same _ rfl rfl
  · rw [if_neg e]
    exact own_diff fun z => e (hF.mp z.1)
def own_dist (s0 s1 s2 s3 s4 : Addr) : Prop := ∀ i j : Int32, own_ix i → own_ix j → (f7 i s0 s1 s2 s3 s4 = f7 j s0 s1 s2 s3 s4 ↔ i = j)
theorem own_law (p1 p2 : Int32) (q3 q4 q5 : Int64) (p6 : Int32) (s0 s1 s2 s3 s4 : Addr) (hd : own_dist s0 s1 s2 s3 s4) : f0 p1 p2 q3 q4 q5 p6 s0 s1 s2 s3 s4 = 1 := by
  have ra := own_rng p1
  have rb := own_rng p2
  unfold f0
  dsimp only
  generalize (p1 &&& (2147483647 : Int32)) % (5 : Int32) = IA at *
  generalize (p2 &&& (2147483647 : Int32)) % (5 : Int32) = IB at *
  have hF := hd IA IB ra rb
  generalize f7 IA s0 s1 s2 s3 s4 = FA at *
  generalize f7 IB s0 s1 s2 s3 s4 = FB at *
  by_cases k2 : (((p6.toUInt32 >>> ((4 : Int32) &&& 31).toUInt32).toInt32) &&& (3 : Int32)) = (2 : Int32)
  · rw [if_pos k2]; decide
  · rw [if_neg k2]
    by_cases k3 : (((p6.toUInt32 >>> ((4 : Int32) &&& 31).toUInt32).toInt32) &&& (3 : Int32)) = (3 : Int32)
    · rw [if_pos k3]; decide
    · rw [if_neg k3]
      generalize (if (p6 &&& (1 : Int32)) = (0 : Int32) then (0 : Int32) else (1 : Int32)) = v
      generalize (if (p6 &&& (2 : Int32)) = (0 : Int32) then (0 : Int32) else (1 : Int32)) = w
      generalize (if ((((p6.toUInt32 >>> ((2 : Int32) &&& 31).toUInt32).toInt32) &&& (3 : Int32)) &&& (2 : Int32)) = (0 : Int32) then q3 else (q3 ^^^ q5)) = hg'
      generalize (if ((((p6.toUInt32 >>> ((2 : Int32) &&& 31).toUInt32).toInt32) &&& (3 : Int32)) &&& (1 : Int32)) = (0 : Int32) then q4 else (q4 ^^^ q5)) = lo'
      have q := own_eqv ra rb hF q3 q4 hg' lo' v w
      refine (if_pos q).trans ?_
      refine (congrArg (nar .boolean) (if_pos ((own_sym _ _ _ _ _ _).trans q))).trans ?_
      decide

theorem own_fld_eq {args : Array Value} {s : State} {t : Term} {x : Addr} {C n d : String} {k : Int32} (ht : t.eval args s none [] s = some (.ref x)) (h : (Jvm.Cond.eq (.field t C n d) (.int k)).value args s none s [] = some true) : Fld s s.heap x C n d (.int k) := by
  obtain ⟨u, w, e1, e2, k1, k2⟩ := cmp_v (Or.inl h)
  have ew : w = .int k := Option.some.inj (e2.symm.trans (Term.int_eval k))
  subst ew
  obtain ⟨z, rfl⟩ : ∃ z, u = .int z := k2
  have hz : z = k := by simpa [Cond.value, e1, e2] using h
  subst hz
  exact Fld.start (by rw [← fld_at ht]; exact e1)

theorem own_fld_uniq {Z : State} {h : Heap} {a : Addr} {C n d : String} {v v' : Value} (F : Fld Z h a C n d v) (G : Fld Z h a C n d v') : v = v' := by
  obtain ⟨c, cf, k, i, f, a1, a2, -, -, -, -, a7⟩ := F
  obtain ⟨c', cf', k', i', f', b1, b2, -, -, -, -, b7⟩ := G
  cases a1.symm.trans b1
  cases a2.symm.trans b2
  exact Option.some.inj (a7.symm.trans b7)
theorem own_mkFM {Z : State} {h : Heap} {a : Addr} (i : Int32) {b s e x : Int32} (E : Exa Z h a "com/example/tagwire/tagwire/core/FloatFormat") (F1 : Fld Z h a "com/example/tagwire/tagwire/core/FloatFormat" "bytes" "I" (.int b)) (F2 : Fld Z h a "com/example/tagwire/tagwire/core/FloatFormat" "significandBits" "I" (.int s)) (F3 : Fld Z h a "com/example/tagwire/tagwire/core/FloatFormat" "exponentBits" "I" (.int e)) (F4 : Fld Z h a "com/example/tagwire/tagwire/core/FloatFormat" "explicitIntegerBit" "Z" (.int x)) (h1 : own_by i = b) (h2 : own_sb i = s) (h3 : own_eb i = e) (h4 : own_xb i = x) : own_FM Z h i a := by
  subst h1 h2 h3 h4; exact ⟨E, F1, F2, F3, F4⟩
theorem own_dists {Z : State} {h : Heap} {s_BINARY16 s_BINARY32 s_BINARY64 s_EXTENDED80 s_BINARY128 : Addr} (H : own_FMs Z h s_BINARY16 s_BINARY32 s_BINARY64 s_EXTENDED80 s_BINARY128) : own_dist s_BINARY16 s_BINARY32 s_BINARY64 s_EXTENDED80 s_BINARY128 := by
  intro i j hi hj
  refine ⟨fun q => ?_, fun q => by rw [q]⟩
  have a := (own_fm H hi).2.1
  have b := (own_fm H hj).2.1
  rw [q] at a
  have e := Value.int.inj (own_fld_uniq a b)
  rcases hi with rfl | rfl | rfl | rfl | rfl <;> rcases hj with rfl | rfl | rfl | rfl | rfl <;> first | rfl | exact absurd e (by decide)
theorem own_size {args : Array Value} {s : State} {t : Term} {a : Addr} {cl : Cell} {n : Int32} (ev : t.eval args s none [] s = some (.ref a)) (hA : s.arrayAt? a = some cl) (hl : (Jvm.Cond.eq (.length t) (.int n)).value args s none s [] = some true) : cl.slots.size < 2 ^ 31 ∧ cl.slots.size.toInt32 = n := by
  obtain ⟨u, w, e1, e2, k1, k2⟩ := cmp_v (Or.inl hl)
  have ew : w = .int n := Option.some.inj (e2.symm.trans (Term.int_eval n))
  subst ew
  obtain ⟨z', rfl⟩ : ∃ z', u = .int z' := k2
  have hz : z' = n := by simpa [Cond.value, e1, e2] using hl
  subst hz
  have hs : cl.slots.size < 2 ^ 31 := by
    apply Nat.lt_of_not_le; intro q
    simp [Term.eval, ev, hA, Nat.not_lt.mpr q] at e1
  refine ⟨hs, ?_⟩
  rw [len_f ev hA hs] at e1
  exact Value.int.inj (Option.some.inj e1)
theorem own_box_start {args : Array Value} {s : State} (h : rest_1_c.value args s none s [] = some true) (wi : (Jvm.Cond.initialized "java/lang/Long$LongCache").before args s = true) : own_Box s s.heap := by
  obtain ⟨r1, h⟩ := and_e h
  obtain ⟨r2, h⟩ := and_e h
  obtain ⟨r3, h⟩ := and_e h
  obtain ⟨r4, h⟩ := and_e h
  obtain ⟨r5, h⟩ := and_e h
  obtain ⟨r6, -⟩ := and_e h
  obtain ⟨ca, ev⟩ := arr_v r3
  obtain ⟨cl, A⟩ := Arr.start ev r3
  have hA : s.arrayAt? ca = some cl := Arr.fin (Vm.Alike.refl _) A
  obtain ⟨hs, h3⟩ := own_size ev hA r5
  have B := Bxs.start (val := fun j => .long (j - 128).toInt64) (fun idx => ev) A hs h3 (by decide) r6 (fun X j hj hh => eqv_l (i2l_at (Term.sub_int (idx_at hj) (Term.int_eval 128))) hh)
  exact ⟨ca, cl, Sta.start ev (Or.inl (Cond.before_iff.mpr r2)), A, B.2.1, fun j hj => by obtain ⟨b, q1, q2, -⟩ := B.2.2.2 j hj; exact ⟨b, q1, q2⟩⟩
set_option maxRecDepth 65536 in
set_option maxHeartbeats 40000000 in
theorem comes_1 {Post : Tables → Env → Array Value → State → Outcome → State → Prop} (hpost : ∀ tb e args s v u, (limb_1_1.after args s (.returned v) u = true ∧ limb_1_2.after args s (.returned v) u = true ∧ True) → FrameEnd s (.returned v) u (Jvm.fieldLocs frame_1_writes args s ++ Jvm.arrayLocs frame_1_arrays args s ++ Jvm.staticLocs frame_1_statics s) 24 128 → Post tb e args s (.returned v) u) :
    ArmFor flags0 classFile x code maxLocals ret World_1 tables_1 room_1 Calls_1 rest_1 Pre_1 Post := by
  intro l hfl _ _ p e ha hc hk s m args below hf hA hF happ hP
  obtain ⟨hcalls, hrest, hpre⟩ := hP
  obtain ⟨-, -, -, hnamed, -, -, -, hat⟩ := (Spec.applies_iff hf).mp happ
  obtain ⟨hg, hn⟩ := and_e (Cond.before_iff.mp (show (Jvm.Cond.and given_1 narrow_1).before args s = true from hpre))
  obtain ⟨g1, g2⟩ := and_e hg
  obtain ⟨g3, g4⟩ := and_e g2
  obtain ⟨g5, g6⟩ := and_e g4
  obtain ⟨g7, g8⟩ := and_e g6
  obtain ⟨g9, g10⟩ := and_e g8
  obtain ⟨g11, g12⟩ := and_e g10
  obtain ⟨w0, w1, w2, w3, w4, w5, rfl⟩ : ∃ w0 w1 w2 w3 w4 w5 : Value, args = #[w0, w1, w2, w3, w4, w5] := by
    have hs : args.size = 6 := by simpa [Cond.value, given_1] using g1
    obtain ⟨L⟩ := args
    match L, hs with
    | [w0, w1, w2, w3, w4, w5], _ => exact ⟨w0, w1, w2, w3, w4, w5, rfl⟩
  have hw := fun d (hd : d ∈ tables_1) => atoms_spec (ws := Jvm.Cond.code x code maxLocals ret :: tables_1) hat d (List.mem_cons_of_mem _ hd)
  obtain ⟨i0, ei0⟩ := is_v g3
  obtain rfl : w0 = (.int i0) := Option.some.inj ei0
  obtain ⟨i1, ei1⟩ := is_v g5
  obtain rfl : w1 = (.int i1) := Option.some.inj ei1
  obtain ⟨i2, ei2⟩ := isL_v g7
  obtain rfl : w2 = (.long i2) := Option.some.inj ei2
  obtain ⟨i3, ei3⟩ := isL_v g9
  obtain rfl : w3 = (.long i3) := Option.some.inj ei3
  obtain ⟨i4, ei4⟩ := isL_v g11
  obtain rfl : w4 = (.long i4) := Option.some.inj ei4
  obtain ⟨i5, ei5⟩ := is_v g12
  obtain rfl : w5 = (.int i5) := Option.some.inj ei5
  obtain ⟨n1a, n1b⟩ := and_e hn
  obtain ⟨n2a, n2b⟩ := and_e n1b
  obtain ⟨n3a, n3b⟩ := and_e n2b
  obtain ⟨n4a, n4b⟩ := and_e n3b
  obtain ⟨n5a, n5b⟩ := and_e n4b
  obtain ⟨n6a, n6b⟩ := and_e n5b
  obtain ⟨n7a, n7b⟩ := and_e n6b
  obtain ⟨n8a, n8b⟩ := and_e n7b
  obtain ⟨n9a, n9b⟩ := and_e n8b
  obtain ⟨n10a, n10b⟩ := and_e n9b
  obtain ⟨n11a, n11b⟩ := and_e n10b
  obtain ⟨n12a, n12b⟩ := and_e n11b
  obtain ⟨n13a, n13b⟩ := and_e n12b
  obtain ⟨n14a, n14b⟩ := and_e n13b
  obtain ⟨n15a, n15b⟩ := and_e n14b
  obtain ⟨n16a, n16b⟩ := and_e n15b
  obtain ⟨n17a, n17b⟩ := and_e n16b
  obtain ⟨n18a, n18b⟩ := and_e n17b
  obtain ⟨n19a, n19b⟩ := and_e n18b
  obtain ⟨n20a, n20b⟩ := and_e n19b
  obtain ⟨n21a, n21b⟩ := and_e n20b
  obtain ⟨n22a, n22b⟩ := and_e n21b
  obtain ⟨n23a, n23b⟩ := and_e n22b
  obtain ⟨n24a, n24b⟩ := and_e n23b
  obtain ⟨n25a, n25b⟩ := and_e n24b
  obtain ⟨n26a, n26b⟩ := and_e n25b
  obtain ⟨n27a, n27b⟩ := and_e n26b
  obtain ⟨n28a, n28b⟩ := and_e n27b
  obtain ⟨n29a, n29b⟩ := and_e n28b
  obtain ⟨s_BINARY16, v_BINARY16⟩ := exa_v n1a
  have S_BINARY16 := Sta.start v_BINARY16 (Or.inr ⟨(hw _ (List.mem_of_getElem? (i := 28) rfl)), (hw _ (List.mem_of_getElem? (i := 29) rfl))⟩)
  have E_s_BINARY16 := Exa.start v_BINARY16 n1a
  obtain ⟨s_EXTENDED80, v_EXTENDED80⟩ := exa_v n6a
  have S_EXTENDED80 := Sta.start v_EXTENDED80 (Or.inr ⟨(hw _ (List.mem_of_getElem? (i := 28) rfl)), (hw _ (List.mem_of_getElem? (i := 120) rfl))⟩)
  have E_s_EXTENDED80 := Exa.start v_EXTENDED80 n6a
  obtain ⟨s_BINARY64, v_BINARY64⟩ := exa_v n13a
  have S_BINARY64 := Sta.start v_BINARY64 (Or.inr ⟨(hw _ (List.mem_of_getElem? (i := 28) rfl)), (hw _ (List.mem_of_getElem? (i := 135) rfl))⟩)
  have E_s_BINARY64 := Exa.start v_BINARY64 n13a
  obtain ⟨s_BINARY32, v_BINARY32⟩ := exa_v n18a
  have S_BINARY32 := Sta.start v_BINARY32 (Or.inr ⟨(hw _ (List.mem_of_getElem? (i := 28) rfl)), (hw _ (List.mem_of_getElem? (i := 140) rfl))⟩)
  have E_s_BINARY32 := Exa.start v_BINARY32 n18a
  obtain ⟨s_BINARY128, v_BINARY128⟩ := exa_v n24a
  have S_BINARY128 := Sta.start v_BINARY128 (Or.inr ⟨(hw _ (List.mem_of_getElem? (i := 28) rfl)), (hw _ (List.mem_of_getElem? (i := 168) rfl))⟩)
  have E_s_BINARY128 := Exa.start v_BINARY128 n24a
  have F_bytes_s_BINARY16 := own_fld_eq v_BINARY16 n2a
  have F_significandBits_s_BINARY16 := own_fld_eq v_BINARY16 n3a
  have F_exponentBits_s_BINARY16 := own_fld_eq v_BINARY16 n4a
  have F_explicitIntegerBit_s_BINARY16 := own_fld_eq v_BINARY16 n5a
  have F_bytes_s_EXTENDED80 := own_fld_eq v_EXTENDED80 n7a
  have F_significandBits_s_EXTENDED80 := own_fld_eq v_EXTENDED80 n8a
  have F_exponentBits_s_EXTENDED80 := own_fld_eq v_EXTENDED80 n9a
  have F_explicitIntegerBit_s_EXTENDED80 := own_fld_eq v_EXTENDED80 n10a
  have F_ordinal_s_BINARY16 := own_fld_eq v_BINARY16 n11a
  have F_ordinal_s_EXTENDED80 := own_fld_eq v_EXTENDED80 n12a
  have F_bytes_s_BINARY64 := own_fld_eq v_BINARY64 n14a
  have F_significandBits_s_BINARY64 := own_fld_eq v_BINARY64 n15a
  have F_exponentBits_s_BINARY64 := own_fld_eq v_BINARY64 n16a
  have F_ordinal_s_BINARY64 := own_fld_eq v_BINARY64 n17a
  have F_bytes_s_BINARY32 := own_fld_eq v_BINARY32 n19a
  have F_significandBits_s_BINARY32 := own_fld_eq v_BINARY32 n20a
  have F_exponentBits_s_BINARY32 := own_fld_eq v_BINARY32 n21a
  have F_explicitIntegerBit_s_BINARY32 := own_fld_eq v_BINARY32 n22a
  have F_explicitIntegerBit_s_BINARY64 := own_fld_eq v_BINARY64 n23a
  have F_bytes_s_BINARY128 := own_fld_eq v_BINARY128 n25a
  have F_significandBits_s_BINARY128 := own_fld_eq v_BINARY128 n26a
  have F_exponentBits_s_BINARY128 := own_fld_eq v_BINARY128 n27a
  have F_explicitIntegerBit_s_BINARY128 := own_fld_eq v_BINARY128 n28a
  have F_ordinal_s_BINARY128 := own_fld_eq v_BINARY128 n29a
  have F_ordinal_s_BINARY32 := own_fld_eq v_BINARY32 n29b
  have hfm : own_FMs s s.heap s_BINARY16 s_BINARY32 s_BINARY64 s_EXTENDED80 s_BINARY128 := ⟨own_mkFM 0 E_s_BINARY16 F_bytes_s_BINARY16 F_significandBits_s_BINARY16 F_exponentBits_s_BINARY16 F_explicitIntegerBit_s_BINARY16 (by decide) (by decide) (by decide) (by decide), own_mkFM 1 E_s_BINARY32 F_bytes_s_BINARY32 F_significandBits_s_BINARY32 F_exponentBits_s_BINARY32 F_explicitIntegerBit_s_BINARY32 (by decide) (by decide) (by decide) (by decide), own_mkFM 2 E_s_BINARY64 F_bytes_s_BINARY64 F_significandBits_s_BINARY64 F_exponentBits_s_BINARY64 F_explicitIntegerBit_s_BINARY64 (by decide) (by decide) (by decide) (by decide), own_mkFM 3 E_s_EXTENDED80 F_bytes_s_EXTENDED80 F_significandBits_s_EXTENDED80 F_exponentBits_s_EXTENDED80 F_explicitIntegerBit_s_EXTENDED80 (by decide) (by decide) (by decide) (by decide), own_mkFM 4 E_s_BINARY128 F_bytes_s_BINARY128 F_significandBits_s_BINARY128 F_exponentBits_s_BINARY128 F_explicitIntegerBit_s_BINARY128 (by decide) (by decide) (by decide) (by decide)⟩
  have hbox := own_box_start (Cond.before_iff.mp (show rest_1_c.before _ s = true from hrest)) (hw _ (List.mem_of_getElem? (i := 171) rfl))
  have hdist := own_dists hfm
  obtain ⟨n, o, h1, h2, h3, _, L, rfl, ⟨rfl, N, -⟩, hq⟩ := rm0 l s _ hw tables_1 i0 i1 i2 i3 i4 i5 s_BINARY16 s_BINARY32 s_BINARY64 s_EXTENDED80 s_BINARY128 s.heap s.heap.size (Nat.le_refl _) S_BINARY16 S_BINARY32 S_BINARY64 S_EXTENDED80 S_BINARY128 hfm hbox (Old.start s) p e ha hc hk s m _ below hf ((Spec.applies_iff_loose hf).mp happ).1 ⟨rfl, State.Warmed39.refl s, rfl⟩ trivial
  refine ⟨n, _, h1, h2, h3, hpost _ _ _ _ _ _ ⟨Cond.after_iff.mpr rfl, Cond.after_iff.mpr (eq_i res_at (Term.int_eval (1)) (congrArg Value.int (own_law i0 i1 i2 i3 i4 i5 _ _ _ _ _ hdist))), trivial⟩ ⟨hq.1, hq.2.1, (hq.2.2.sift fun y hy => Or.inr (N y hy)).mono (by decide) (by decide)⟩⟩
theorem main_1_1 : Claimed_1_1 := comes_1 fun _ _ _ _ _ _ h hF => ⟨h.1, hF⟩
theorem main_1_2 : Claimed_1_2 := comes_1 fun _ _ _ _ _ _ h hF => ⟨h.2.1, hF⟩
end Jvm.Pilot.@@N@@
namespace Jvm.Pilot.@@N@@
open Jvm Jvm.ClassFile Sem Op Lib Jvm.Free Jvm.Stand Jvm.Pilot.@@N@@.Jvm.D
/-! MADE BY PROGRAM (witnessworld.py) out of the Statement's table words and the real class files: 20 classes; the members and pool entries that the words name. The judged class is class 1, her method 10. -/
namespace start1
open Jvm.ClassFile
def u (s : String) : CpInfo := .utf8 (stringToUtf16 s)
/-- a pool by its gaps: so many unusable entries, then the entry; so many at the end -/
def gap : Nat → List CpInfo → List CpInfo
  | 0, r => r
  | n + 1, r => .unusable :: gap n r
def poolList (es : List (Nat × CpInfo)) (last : Nat) : List CpInfo := es.foldr (fun e r => gap e.1 (e.2 :: r)) (gap last [])
def pool (es : List (Nat × CpInfo)) (last : Nat) : Array CpInfo := ⟨poolList es last⟩
def fileOf (pool : Array CpInfo) (this : Nat) (attrs : Array Attribute := #[]) (ms : Array MethodInfo := #[]) (fl : Nat := 33) (sup : Nat := 0) (ifs : Array Nat := #[]) (fds : Array FieldInfo := #[]) : ClassFile where
  minorVersion := 0
  majorVersion := 65
  constantPool := pool
  accessFlags := fl
  thisClass := this
  superClass := sup
  interfaces := ifs
  fields := fds
  methods := ms
  attributes := attrs
def plain (name : String) (sup : Option ClassId) : Class where
  name := name
  kind := .ordinary
  loader := none
  accessFlags := 33
  super := sup
  interfaces := #[]
  cf := none
  fields := #[]
  methods := #[]
  instanceTypes := #[]
  staticTypes := #[]
  resolved := #[]
  callSites := []
  init := .initialized
  statics := none
  mirror := none

def pool0 : Array CpInfo := pool [(5, u "<init>"), (0, u "()V"), (1, .class_ 10), (1, u "java/lang/Object")] 113

def k0c0 : Code := { maxStack := 0, maxLocals := 1, code := object_method_1_code, exceptionTable := #[], attributes := #[] }
def k0m0 : Method := { name := "<init>", desc := "()V", sig := { parameters := [], returnType := none }, accessFlags := 1, code := some k0c0 }
/-- java/lang/Object -/
def k0 : Class := { plain "java/lang/Object" none with
  accessFlags := 33
  interfaces := #[]
  cf := some (fileOf pool0 8 #[] #[{ accessFlags := 1, nameIndex := 5, descriptorIndex := 6, attributes := #[] }] 33 0 #[] #[])
  fields := #[]
  methods := #[k0m0]
  instanceTypes := #[]
  staticTypes := #[]
  resolved := Array.replicate 124 none
  statics := none }

def pool1 : Array CpInfo := pool [(2, .class_ 4), (1, u "java/lang/Object"), (0, u "<init>"), (0, u "()V"), (0, .fieldref 8 9), (0, .class_ 10), (0, .nameAndType 11 12), (0, u "com/example/tagwire/tagwire/core/FloatFormat"), (0, u "BINARY16"), (0, u "Lcom/example/tagwire/tagwire/core/FloatFormat;"), (0, .fieldref 8 14), (0, .nameAndType 15 12), (0, u "BINARY32"), (0, .fieldref 8 17), (0, .nameAndType 18 12), (0, u "BINARY64"), (0, .fieldref 8 20), (0, .nameAndType 21 12), (0, u "EXTENDED80"), (0, .fieldref 8 23), (0, .nameAndType 24 12), (0, u "BINARY128"), (0, .long 65535), (1, .long 4294967295), (1, .long 18446744073709551615), (1, .long 31744), (1, .long 2139095040), (1, .long 9218868437227405312), (1, .long 32767), (1, .long 9223090561878065152), (1, .long 16384), (1, .long 1073741824), (1, .long 4611686018427387904), (1, .methodref 48 49), (0, .class_ 50), (0, .nameAndType 51 52), (0, u "com/example/tagwire/tagwire/core/FloatValueEqualsPinLaw"), (0, u "lowWidth"), (0, u "(I)J"), (0, .methodref 48 54), (0, .nameAndType 55 52), (0, u "lowExp"), (0, .methodref 48 57), (0, .nameAndType 58 52), (0, u "lowTop"), (0, .methodref 48 60), (0, .nameAndType 61 52), (0, u "highWidth"), (0, .methodref 48 63), (0, .nameAndType 64 52), (0, u "highExp"), (0, .methodref 48 66), (0, .nameAndType 67 52), (0, u "highTop"), (0, .integer 2147483647), (0, .methodref 48 70), (0, .nameAndType 71 72), (0, u "encHigh"), (0, u "(IJZ)J"), (0, .methodref 48 74), (0, .nameAndType 75 72), (0, u "encLow"), (0, .methodref 48 77), (0, .nameAndType 78 79), (0, u "fmt"), (0, u "(I)Lcom/example/tagwire/tagwire/core/FloatFormat;"), (0, .methodref 81 82), (0, .class_ 83), (0, .nameAndType 84 85), (0, u "com/example/tagwire/tagwire/core/FloatValue"), (0, u "ofBits"), (0, u "(Lcom/example/tagwire/tagwire/core/FloatFormat;JJ)Lcom/example/tagwire/tagwire/core/FloatValue;"), (0, .methodref 81 87), (0, .nameAndType 88 89), (0, u "equals"), (0, u "(Ljava/lang/Object;)Z"), (0, .methodref 91 92), (0, .class_ 93), (0, .nameAndType 94 95), (0, u "java/lang/Long"), (0, u "valueOf"), (0, u "(J)Ljava/lang/Long;"), (3, u "law"), (0, u "(IIJJJI)Z")] 2

def k1m0 : Method := { name := "<init>", desc := "()V", sig := { parameters := [], returnType := none }, accessFlags := 1, code := none }
def k1c1 : Code := { maxStack := 2, maxLocals := 1, code := method_2_code, exceptionTable := #[], attributes := #[] }
def k1m1 : Method := { name := "fmt", desc := "(I)Lcom/example/tagwire/tagwire/core/FloatFormat;", sig := { parameters := [.int], returnType := some (.object "com/example/tagwire/tagwire/core/FloatFormat") }, accessFlags := 10, code := some k1c1 }
def k1c2 : Code := { maxStack := 2, maxLocals := 1, code := method_3_code, exceptionTable := #[], attributes := #[] }
def k1m2 : Method := { name := "lowWidth", desc := "(I)J", sig := { parameters := [.int], returnType := some .long }, accessFlags := 10, code := some k1c2 }
def k1c3 : Code := { maxStack := 2, maxLocals := 1, code := method_4_code, exceptionTable := #[], attributes := #[] }
def k1m3 : Method := { name := "highWidth", desc := "(I)J", sig := { parameters := [.int], returnType := some .long }, accessFlags := 10, code := some k1c3 }
def k1c4 : Code := { maxStack := 2, maxLocals := 1, code := method_5_code, exceptionTable := #[], attributes := #[] }
def k1m4 : Method := { name := "lowExp", desc := "(I)J", sig := { parameters := [.int], returnType := some .long }, accessFlags := 10, code := some k1c4 }
def k1c5 : Code := { maxStack := 2, maxLocals := 1, code := method_6_code, exceptionTable := #[], attributes := #[] }
def k1m5 : Method := { name := "highExp", desc := "(I)J", sig := { parameters := [.int], returnType := some .long }, accessFlags := 10, code := some k1c5 }
def k1c6 : Code := { maxStack := 2, maxLocals := 1, code := method_7_code, exceptionTable := #[], attributes := #[] }
def k1m6 : Method := { name := "lowTop", desc := "(I)J", sig := { parameters := [.int], returnType := some .long }, accessFlags := 10, code := some k1c6 }
def k1c7 : Code := { maxStack := 2, maxLocals := 1, code := method_8_code, exceptionTable := #[], attributes := #[] }
def k1m7 : Method := { name := "highTop", desc := "(I)J", sig := { parameters := [.int], returnType := some .long }, accessFlags := 10, code := some k1c7 }
def k1c8 : Code := { maxStack := 6, maxLocals := 6, code := method_9_code, exceptionTable := #[], attributes := #[] }
def k1m8 : Method := { name := "encLow", desc := "(IJZ)J", sig := { parameters := [.int, .long, .boolean], returnType := some .long }, accessFlags := 10, code := some k1c8 }
def k1c9 : Code := { maxStack := 6, maxLocals := 6, code := method_10_code, exceptionTable := #[], attributes := #[] }
def k1m9 : Method := { name := "encHigh", desc := "(IJZ)J", sig := { parameters := [.int, .long, .boolean], returnType := some .long }, accessFlags := 10, code := some k1c9 }
def k1c10 : Code := { maxStack := 5, maxLocals := 30, code := code, exceptionTable := #[], attributes := #[] }
def k1m10 : Method := { name := "law", desc := "(IIJJJI)Z", sig := { parameters := [.int, .int, .long, .long, .long, .int], returnType := some .boolean }, accessFlags := 9, code := some k1c10 }
/-- com/example/tagwire/tagwire/core/FloatValueEqualsPinLaw -/
def k1 : Class := { plain "com/example/tagwire/tagwire/core/FloatValueEqualsPinLaw" (some 0) with
  accessFlags := 49
  interfaces := #[]
  cf := some (fileOf pool1 48 #[] #[{ accessFlags := 1, nameIndex := 5, descriptorIndex := 6, attributes := #[] }, { accessFlags := 10, nameIndex := 78, descriptorIndex := 79, attributes := #[] }, { accessFlags := 10, nameIndex := 51, descriptorIndex := 52, attributes := #[] }, { accessFlags := 10, nameIndex := 61, descriptorIndex := 52, attributes := #[] }, { accessFlags := 10, nameIndex := 55, descriptorIndex := 52, attributes := #[] }, { accessFlags := 10, nameIndex := 64, descriptorIndex := 52, attributes := #[] }, { accessFlags := 10, nameIndex := 58, descriptorIndex := 52, attributes := #[] }, { accessFlags := 10, nameIndex := 67, descriptorIndex := 52, attributes := #[] }, { accessFlags := 10, nameIndex := 75, descriptorIndex := 72, attributes := #[] }, { accessFlags := 10, nameIndex := 71, descriptorIndex := 72, attributes := #[] }, { accessFlags := 9, nameIndex := 99, descriptorIndex := 100, attributes := #[] }] 49 2 #[] #[])
  fields := #[]
  methods := #[k1m0, k1m1, k1m2, k1m3, k1m4, k1m5, k1m6, k1m7, k1m8, k1m9, k1m10]
  instanceTypes := #[]
  staticTypes := #[]
  resolved := Array.replicate 103 none
  statics := none }

def pool2 : Array CpInfo := pool [(1, .class_ 2), (0, u "java/lang/constant/Constable"), (0, .class_ 4), (0, u "java/lang/Object")] 6

/-- java/lang/constant/Constable -/
def k2 : Class := { plain "java/lang/constant/Constable" (some 0) with
  accessFlags := 1537
  interfaces := #[]
  cf := some (fileOf pool2 1 #[] #[] 1537 3 #[] #[])
  fields := #[]
  methods := #[]
  instanceTypes := #[]
  staticTypes := #[]
  resolved := Array.replicate 11 none
  statics := none }

def pool3 : Array CpInfo := pool [(1, .class_ 2), (0, u "java/lang/Comparable"), (0, .class_ 4), (0, u "java/lang/Object")] 7

/-- java/lang/Comparable -/
def k3 : Class := { plain "java/lang/Comparable" (some 0) with
  accessFlags := 1537
  interfaces := #[]
  cf := some (fileOf pool3 1 #[] #[] 1537 3 #[] #[])
  fields := #[]
  methods := #[]
  instanceTypes := #[]
  staticTypes := #[]
  resolved := Array.replicate 12 none
  statics := none }

def pool4 : Array CpInfo := pool [(1, .class_ 2), (0, u "java/io/Serializable"), (0, .class_ 4), (0, u "java/lang/Object")] 2

/-- java/io/Serializable -/
def k4 : Class := { plain "java/io/Serializable" (some 0) with
  accessFlags := 1537
  interfaces := #[]
  cf := some (fileOf pool4 1 #[] #[] 1537 3 #[] #[])
  fields := #[]
  methods := #[]
  instanceTypes := #[]
  staticTypes := #[]
  resolved := Array.replicate 7 none
  statics := none }

def pool5 : Array CpInfo := pool [(2, .class_ 4), (1, u "java/lang/Enum"), (0, u "name"), (0, u "Ljava/lang/String;"), (2, u "ordinal"), (0, u "I"), (1, .class_ 14), (1, u "java/lang/Object"), (4, u "hash"), (86, .class_ 108), (1, u "java/lang/Enum$EnumDesc"), (2, .class_ 112), (0, u "java/lang/constant/Constable"), (0, .class_ 114), (0, u "java/lang/Comparable"), (0, .class_ 116), (0, u "java/io/Serializable")] 87

/-- java/lang/Enum -/
def k5 : Class := { plain "java/lang/Enum" (some 0) with
  accessFlags := 1057
  interfaces := #[2, 3, 4]
  cf := some (fileOf pool5 2 #[.nestMembers #[106]] #[] 1057 12 #[111, 113, 115] #[{ accessFlags := 18, nameIndex := 5, descriptorIndex := 6, attributes := #[] }, { accessFlags := 18, nameIndex := 9, descriptorIndex := 10, attributes := #[] }, { accessFlags := 2, nameIndex := 19, descriptorIndex := 10, attributes := #[] }])
  fields := #[{ name := "name", type := (.object "java/lang/String"), accessFlags := 18, slot := 0, constantValue := 0 }, { name := "ordinal", type := .int, accessFlags := 18, slot := 1, constantValue := 0 }, { name := "hash", type := .int, accessFlags := 2, slot := 2, constantValue := 0 }]
  methods := #[]
  instanceTypes := #[(.object "java/lang/String"), .int, .int]
  staticTypes := #[]
  resolved := Array.replicate 204 none
  statics := none }

def pool6 : Array CpInfo := pool [(1, .class_ 2), (0, u "com/example/tagwire/tagwire/core/FloatFormat"), (2, u "BINARY16"), (0, u "Lcom/example/tagwire/tagwire/core/FloatFormat;"), (2, u "BINARY32"), (2, u "BINARY64"), (2, u "EXTENDED80"), (2, u "BINARY128"), (2, u "$VALUES"), (0, u "[Lcom/example/tagwire/tagwire/core/FloatFormat;"), (6, .class_ 31), (1, u "java/lang/Enum"), (6, .fieldref 1 39), (0, .nameAndType 40 41), (0, u "bytes"), (0, u "I"), (0, .fieldref 1 43), (0, .nameAndType 44 41), (0, u "exponentBits"), (0, .fieldref 1 46), (0, .nameAndType 47 41), (0, u "significandBits"), (0, .fieldref 1 49), (0, .nameAndType 50 51), (0, u "explicitIntegerBit"), (0, u "Z"), (19, u "()I"), (1, u "fractionBits"), (1, u "maxExponent")] 6

def k6c0 : Code := { maxStack := 1, maxLocals := 1, code := prog_11_method_4_code, exceptionTable := #[], attributes := #[] }
def k6m0 : Method := { name := "bytes", desc := "()I", sig := { parameters := [], returnType := some .int }, accessFlags := 1, code := some k6c0 }
def k6c1 : Code := { maxStack := 1, maxLocals := 1, code := prog_11_method_5_code, exceptionTable := #[], attributes := #[] }
def k6m1 : Method := { name := "exponentBits", desc := "()I", sig := { parameters := [], returnType := some .int }, accessFlags := 0, code := some k6c1 }
def k6c2 : Code := { maxStack := 1, maxLocals := 1, code := prog_11_method_6_code, exceptionTable := #[], attributes := #[] }
def k6m2 : Method := { name := "significandBits", desc := "()I", sig := { parameters := [], returnType := some .int }, accessFlags := 0, code := some k6c2 }
def k6c3 : Code := { maxStack := 2, maxLocals := 1, code := prog_11_method_8_code, exceptionTable := #[], attributes := #[] }
def k6m3 : Method := { name := "fractionBits", desc := "()I", sig := { parameters := [], returnType := some .int }, accessFlags := 0, code := some k6c3 }
def k6c4 : Code := { maxStack := 2, maxLocals := 1, code := prog_11_method_9_code, exceptionTable := #[], attributes := #[] }
def k6m4 : Method := { name := "maxExponent", desc := "()I", sig := { parameters := [], returnType := some .int }, accessFlags := 0, code := some k6c4 }
/-- com/example/tagwire/tagwire/core/FloatFormat -/
def k6 : Class := { plain "com/example/tagwire/tagwire/core/FloatFormat" (some 5) with
  accessFlags := 16433
  interfaces := #[]
  cf := some (fileOf pool6 1 #[] #[{ accessFlags := 1, nameIndex := 40, descriptorIndex := 71, attributes := #[] }, { accessFlags := 0, nameIndex := 44, descriptorIndex := 71, attributes := #[] }, { accessFlags := 0, nameIndex := 47, descriptorIndex := 71, attributes := #[] }, { accessFlags := 0, nameIndex := 73, descriptorIndex := 71, attributes := #[] }, { accessFlags := 0, nameIndex := 75, descriptorIndex := 71, attributes := #[] }] 16433 29 #[] #[{ accessFlags := 16409, nameIndex := 5, descriptorIndex := 6, attributes := #[] }, { accessFlags := 16409, nameIndex := 9, descriptorIndex := 6, attributes := #[] }, { accessFlags := 16409, nameIndex := 12, descriptorIndex := 6, attributes := #[] }, { accessFlags := 16409, nameIndex := 15, descriptorIndex := 6, attributes := #[] }, { accessFlags := 16409, nameIndex := 18, descriptorIndex := 6, attributes := #[] }, { accessFlags := 18, nameIndex := 40, descriptorIndex := 41, attributes := #[] }, { accessFlags := 18, nameIndex := 44, descriptorIndex := 41, attributes := #[] }, { accessFlags := 18, nameIndex := 47, descriptorIndex := 41, attributes := #[] }, { accessFlags := 18, nameIndex := 50, descriptorIndex := 51, attributes := #[] }, { accessFlags := 4122, nameIndex := 21, descriptorIndex := 22, attributes := #[] }])
  fields := #[{ name := "BINARY16", type := (.object "com/example/tagwire/tagwire/core/FloatFormat"), accessFlags := 16409, slot := 0, constantValue := 0 }, { name := "BINARY32", type := (.object "com/example/tagwire/tagwire/core/FloatFormat"), accessFlags := 16409, slot := 1, constantValue := 0 }, { name := "BINARY64", type := (.object "com/example/tagwire/tagwire/core/FloatFormat"), accessFlags := 16409, slot := 2, constantValue := 0 }, { name := "EXTENDED80", type := (.object "com/example/tagwire/tagwire/core/FloatFormat"), accessFlags := 16409, slot := 3, constantValue := 0 }, { name := "BINARY128", type := (.object "com/example/tagwire/tagwire/core/FloatFormat"), accessFlags := 16409, slot := 4, constantValue := 0 }, { name := "bytes", type := .int, accessFlags := 18, slot := 3, constantValue := 0 }, { name := "exponentBits", type := .int, accessFlags := 18, slot := 4, constantValue := 0 }, { name := "significandBits", type := .int, accessFlags := 18, slot := 5, constantValue := 0 }, { name := "explicitIntegerBit", type := .boolean, accessFlags := 18, slot := 6, constantValue := 0 }, { name := "$VALUES", type := (.array (.object "com/example/tagwire/tagwire/core/FloatFormat")), accessFlags := 4122, slot := 5, constantValue := 0 }]
  methods := #[k6m0, k6m1, k6m2, k6m3, k6m4]
  instanceTypes := #[(.object "java/lang/String"), .int, .int, .int, .int, .int, .boolean]
  staticTypes := #[(.object "com/example/tagwire/tagwire/core/FloatFormat"), (.object "com/example/tagwire/tagwire/core/FloatFormat"), (.object "com/example/tagwire/tagwire/core/FloatFormat"), (.object "com/example/tagwire/tagwire/core/FloatFormat"), (.object "com/example/tagwire/tagwire/core/FloatFormat"), (.array (.object "com/example/tagwire/tagwire/core/FloatFormat"))]
  resolved := Array.replicate 82 none
  statics := some 0 }

def pool7 : Array CpInfo := pool [(1, .class_ 2), (0, u "com/example/tagwire/tagwire/core/Value"), (0, .class_ 4), (0, u "java/lang/Object"), (0, u "MAX_DEPTH"), (0, u "I")] 31

/-- com/example/tagwire/tagwire/core/Value -/
def k7 : Class := { plain "com/example/tagwire/tagwire/core/Value" (some 0) with
  accessFlags := 1537
  interfaces := #[]
  cf := some (fileOf pool7 1 #[] #[] 1537 3 #[] #[{ accessFlags := 25, nameIndex := 5, descriptorIndex := 6, attributes := #[] }])
  fields := #[{ name := "MAX_DEPTH", type := .int, accessFlags := 25, slot := 0, constantValue := 0 }]
  methods := #[]
  instanceTypes := #[]
  staticTypes := #[.int]
  resolved := Array.replicate 38 none
  statics := none }

def pool8 : Array CpInfo := pool [(3, .class_ 4), (0, u "com/example/tagwire/tagwire/core/FloatValue"), (1, .class_ 8), (1, u "com/example/tagwire/tagwire/core/FloatFormat"), (1, u "Lcom/example/tagwire/tagwire/core/FloatFormat;"), (4, .methodref 3 16), (0, .nameAndType 17 18), (0, u "<init>"), (0, u "(Lcom/example/tagwire/tagwire/core/FloatFormat;JJ)V"), (0, .methodref 20 21), (0, .class_ 22), (0, .nameAndType 17 23), (0, u "java/lang/Object"), (0, u "()V"), (0, .fieldref 3 25), (0, .nameAndType 26 10), (0, u "format"), (0, .fieldref 3 28), (0, .nameAndType 29 30), (0, u "high"), (0, u "J"), (0, .fieldref 3 32), (0, .nameAndType 33 30), (0, u "low"), (0, .methodref 6 35), (0, .nameAndType 36 37), (0, u "bytes"), (0, u "()I"), (4, .methodref 3 43), (0, .nameAndType 44 45), (0, u "mask"), (0, u "(I)J"), (0, .long 18446744073709551615), (16, .methodref 3 64), (0, .nameAndType 65 66), (0, u "isFinite"), (0, u "()Z"), (0, .methodref 3 68), (0, .nameAndType 69 70), (0, u "canonicalSpecial"), (0, u "()Lcom/example/tagwire/tagwire/core/FloatValue;"), (0, .methodref 6 72), (0, .nameAndType 73 37), (0, u "significandBits"), (0, .methodref 6 75), (0, .nameAndType 76 37), (0, u "exponentBits"), (0, .methodref 3 78), (0, .nameAndType 79 80), (0, u "bits"), (0, u "(II)J"), (0, .methodref 3 82), (0, .nameAndType 83 66), (0, u "fractionIsZero"), (0, .methodref 3 85), (0, .nameAndType 86 37), (0, u "exponentField"), (0, .methodref 6 88), (0, .nameAndType 89 37), (0, u "maxExponent"), (14, .methodref 3 105), (0, .nameAndType 106 66), (0, u "isNaN"), (40, .class_ 149), (1, u "java/lang/Math"), (34, .methodref 147 185), (0, .nameAndType 186 187), (0, u "min"), (0, u "(II)I"), (18, .methodref 6 207), (0, .nameAndType 208 37), (0, u "fractionBits"), (27, .methodref 3 237), (0, .nameAndType 238 80), (0, u "ones"), (5, .class_ 245), (0, u "com/example/tagwire/tagwire/core/Value"), (0, u "DOUBLE_PRECISION"), (0, u "I"), (2, u "MIN_DOUBLE_BIT"), (4, u "ofBits"), (0, u "(Lcom/example/tagwire/tagwire/core/FloatFormat;JJ)Lcom/example/tagwire/tagwire/core/FloatValue;"), (5, u "equals"), (0, u "(Ljava/lang/Object;)Z")] 25

def k8c0 : Code := { maxStack := 3, maxLocals := 6, code := prog_14_method_2_code, exceptionTable := #[], attributes := #[] }
def k8m0 : Method := { name := "<init>", desc := "(Lcom/example/tagwire/tagwire/core/FloatFormat;JJ)V", sig := { parameters := [(.object "com/example/tagwire/tagwire/core/FloatFormat"), .long, .long], returnType := none }, accessFlags := 2, code := some k8c0 }
def k8c1 : Code := { maxStack := 7, maxLocals := 7, code := prog_14_method_3_code, exceptionTable := #[], attributes := #[] }
def k8m1 : Method := { name := "ofBits", desc := "(Lcom/example/tagwire/tagwire/core/FloatFormat;JJ)Lcom/example/tagwire/tagwire/core/FloatValue;", sig := { parameters := [(.object "com/example/tagwire/tagwire/core/FloatFormat"), .long, .long], returnType := some (.object "com/example/tagwire/tagwire/core/FloatValue") }, accessFlags := 9, code := some k8c1 }
def k8c2 : Code := { maxStack := 1, maxLocals := 1, code := prog_14_method_8_code, exceptionTable := #[], attributes := #[] }
def k8m2 : Method := { name := "isNaN", desc := "()Z", sig := { parameters := [], returnType := some .boolean }, accessFlags := 1, code := some k8c2 }
def k8c3 : Code := { maxStack := 2, maxLocals := 1, code := prog_14_method_10_code, exceptionTable := #[], attributes := #[] }
def k8m3 : Method := { name := "isFinite", desc := "()Z", sig := { parameters := [], returnType := some .boolean }, accessFlags := 1, code := some k8c3 }
def k8c4 : Code := { maxStack := 3, maxLocals := 1, code := prog_14_method_17_code, exceptionTable := #[], attributes := #[] }
def k8m4 : Method := { name := "exponentField", desc := "()I", sig := { parameters := [], returnType := some .int }, accessFlags := 0, code := some k8c4 }
def k8c5 : Code := { maxStack := 4, maxLocals := 3, code := prog_14_method_18_code, exceptionTable := #[], attributes := #[] }
def k8m5 : Method := { name := "equals", desc := "(Ljava/lang/Object;)Z", sig := { parameters := [(.object "java/lang/Object")], returnType := some .boolean }, accessFlags := 1, code := some k8c5 }
def k8c6 : Code := { maxStack := 4, maxLocals := 2, code := prog_14_method_21_code, exceptionTable := #[], attributes := #[] }
def k8m6 : Method := { name := "fractionIsZero", desc := "()Z", sig := { parameters := [], returnType := some .boolean }, accessFlags := 2, code := some k8c6 }
def k8c7 : Code := { maxStack := 7, maxLocals := 5, code := prog_14_method_22_code, exceptionTable := #[], attributes := #[] }
def k8m7 : Method := { name := "canonicalSpecial", desc := "()Lcom/example/tagwire/tagwire/core/FloatValue;", sig := { parameters := [], returnType := some (.object "com/example/tagwire/tagwire/core/FloatValue") }, accessFlags := 2, code := some k8c7 }
def k8c8 : Code := { maxStack := 4, maxLocals := 5, code := prog_14_method_23_code, exceptionTable := #[], attributes := #[] }
def k8m8 : Method := { name := "bits", desc := "(II)J", sig := { parameters := [.int, .int], returnType := some .long }, accessFlags := 2, code := some k8c8 }
def k8c9 : Code := { maxStack := 6, maxLocals := 2, code := prog_14_method_24_code, exceptionTable := #[], attributes := #[] }
def k8m9 : Method := { name := "ones", desc := "(II)J", sig := { parameters := [.int, .int], returnType := some .long }, accessFlags := 10, code := some k8c9 }
def k8c10 : Code := { maxStack := 4, maxLocals := 1, code := prog_14_method_25_code, exceptionTable := #[], attributes := #[] }
def k8m10 : Method := { name := "mask", desc := "(I)J", sig := { parameters := [.int], returnType := some .long }, accessFlags := 10, code := some k8c10 }
/-- com/example/tagwire/tagwire/core/FloatValue -/
def k8 : Class := { plain "com/example/tagwire/tagwire/core/FloatValue" (some 0) with
  accessFlags := 49
  interfaces := #[7]
  cf := some (fileOf pool8 3 #[] #[{ accessFlags := 2, nameIndex := 17, descriptorIndex := 18, attributes := #[] }, { accessFlags := 9, nameIndex := 255, descriptorIndex := 256, attributes := #[] }, { accessFlags := 1, nameIndex := 106, descriptorIndex := 66, attributes := #[] }, { accessFlags := 1, nameIndex := 65, descriptorIndex := 66, attributes := #[] }, { accessFlags := 0, nameIndex := 86, descriptorIndex := 37, attributes := #[] }, { accessFlags := 1, nameIndex := 262, descriptorIndex := 263, attributes := #[] }, { accessFlags := 2, nameIndex := 83, descriptorIndex := 66, attributes := #[] }, { accessFlags := 2, nameIndex := 69, descriptorIndex := 70, attributes := #[] }, { accessFlags := 2, nameIndex := 79, descriptorIndex := 80, attributes := #[] }, { accessFlags := 10, nameIndex := 238, descriptorIndex := 80, attributes := #[] }, { accessFlags := 10, nameIndex := 44, descriptorIndex := 45, attributes := #[] }] 49 20 #[244] #[{ accessFlags := 26, nameIndex := 246, descriptorIndex := 247, attributes := #[] }, { accessFlags := 26, nameIndex := 250, descriptorIndex := 247, attributes := #[] }, { accessFlags := 18, nameIndex := 26, descriptorIndex := 10, attributes := #[] }, { accessFlags := 18, nameIndex := 29, descriptorIndex := 30, attributes := #[] }, { accessFlags := 18, nameIndex := 33, descriptorIndex := 30, attributes := #[] }])
  fields := #[{ name := "DOUBLE_PRECISION", type := .int, accessFlags := 26, slot := 0, constantValue := 0 }, { name := "MIN_DOUBLE_BIT", type := .int, accessFlags := 26, slot := 1, constantValue := 0 }, { name := "format", type := (.object "com/example/tagwire/tagwire/core/FloatFormat"), accessFlags := 18, slot := 0, constantValue := 0 }, { name := "high", type := .long, accessFlags := 18, slot := 1, constantValue := 0 }, { name := "low", type := .long, accessFlags := 18, slot := 2, constantValue := 0 }]
  methods := #[k8m0, k8m1, k8m2, k8m3, k8m4, k8m5, k8m6, k8m7, k8m8, k8m9, k8m10]
  instanceTypes := #[(.object "com/example/tagwire/tagwire/core/FloatFormat"), .long, .long]
  staticTypes := #[.int, .int]
  resolved := Array.replicate 289 none
  statics := none }

def pool9 : Array CpInfo := pool [(1, .class_ 2), (0, u "java/lang/Math"), (1, .class_ 6), (1, u "java/lang/Object"), (0, u "<init>"), (0, u "()V"), (89, .class_ 100), (1, u "java/lang/Math$RandomNumberGeneratorHolder"), (71, u "negativeZeroFloatBits"), (0, u "J"), (2, u "negativeZeroDoubleBits"), (24, u "min"), (43, u "$assertionsDisabled"), (0, u "Z"), (88, u "(II)I"), (2, u "twoToTheDoubleScaleDown"), (0, u "D"), (4, u "twoToTheDoubleScaleUp"), (9, u "E"), (3, u "PI"), (2, u "TAU"), (2, u "DEGREES_TO_RADIANS"), (0, u "RADIANS_TO_DEGREES")] 94

def k9m0 : Method := { name := "<init>", desc := "()V", sig := { parameters := [], returnType := none }, accessFlags := 2, code := none }
def k9c1 : Code := { maxStack := 2, maxLocals := 2, code := jdk_29_method_69_code, exceptionTable := #[], attributes := #[] }
def k9m1 : Method := { name := "min", desc := "(II)I", sig := { parameters := [.int, .int], returnType := some .int }, accessFlags := 9, code := some k9c1 }
/-- java/lang/Math -/
def k9 : Class := { plain "java/lang/Math" (some 0) with
  accessFlags := 49
  interfaces := #[]
  cf := some (fileOf pool9 1 #[.nestMembers #[98]] #[{ accessFlags := 2, nameIndex := 7, descriptorIndex := 8, attributes := #[] }, { accessFlags := 9, nameIndex := 201, descriptorIndex := 335, attributes := #[] }] 49 4 #[] #[{ accessFlags := 25, nameIndex := 354, descriptorIndex := 339, attributes := #[] }, { accessFlags := 25, nameIndex := 358, descriptorIndex := 339, attributes := #[] }, { accessFlags := 25, nameIndex := 361, descriptorIndex := 339, attributes := #[] }, { accessFlags := 26, nameIndex := 364, descriptorIndex := 339, attributes := #[] }, { accessFlags := 26, nameIndex := 365, descriptorIndex := 339, attributes := #[] }, { accessFlags := 26, nameIndex := 172, descriptorIndex := 173, attributes := #[] }, { accessFlags := 26, nameIndex := 176, descriptorIndex := 173, attributes := #[] }, { accessFlags := 8, nameIndex := 344, descriptorIndex := 339, attributes := #[] }, { accessFlags := 8, nameIndex := 338, descriptorIndex := 339, attributes := #[] }, { accessFlags := 4120, nameIndex := 245, descriptorIndex := 246, attributes := #[] }])
  fields := #[{ name := "E", type := .double, accessFlags := 25, slot := 0, constantValue := 0 }, { name := "PI", type := .double, accessFlags := 25, slot := 1, constantValue := 0 }, { name := "TAU", type := .double, accessFlags := 25, slot := 2, constantValue := 0 }, { name := "DEGREES_TO_RADIANS", type := .double, accessFlags := 26, slot := 3, constantValue := 0 }, { name := "RADIANS_TO_DEGREES", type := .double, accessFlags := 26, slot := 4, constantValue := 0 }, { name := "negativeZeroFloatBits", type := .long, accessFlags := 26, slot := 5, constantValue := 0 }, { name := "negativeZeroDoubleBits", type := .long, accessFlags := 26, slot := 6, constantValue := 0 }, { name := "twoToTheDoubleScaleUp", type := .double, accessFlags := 8, slot := 7, constantValue := 0 }, { name := "twoToTheDoubleScaleDown", type := .double, accessFlags := 8, slot := 8, constantValue := 0 }, { name := "$assertionsDisabled", type := .boolean, accessFlags := 4120, slot := 9, constantValue := 0 }]
  methods := #[k9m0, k9m1]
  instanceTypes := #[]
  staticTypes := #[.double, .double, .double, .double, .double, .long, .long, .double, .double, .boolean]
  resolved := Array.replicate 460 none
  statics := none }

def pool10 : Array CpInfo := pool [(1, .methodref 2 3), (0, .class_ 4), (0, .nameAndType 5 6), (0, u "java/lang/Object"), (0, u "<init>"), (0, u "()V"), (1, .class_ 10), (1, u "java/lang/Number"), (2, .class_ 14), (0, u "java/io/Serializable"), (0, u "serialVersionUID"), (0, u "J")] 20

def k10c0 : Code := { maxStack := 1, maxLocals := 1, code := jdk_18_method_1_code, exceptionTable := #[], attributes := #[] }
def k10m0 : Method := { name := "<init>", desc := "()V", sig := { parameters := [], returnType := none }, accessFlags := 1, code := some k10c0 }
/-- java/lang/Number -/
def k10 : Class := { plain "java/lang/Number" (some 0) with
  accessFlags := 1057
  interfaces := #[4]
  cf := some (fileOf pool10 8 #[] #[{ accessFlags := 1, nameIndex := 5, descriptorIndex := 6, attributes := #[] }] 1057 2 #[13] #[{ accessFlags := 26, nameIndex := 15, descriptorIndex := 16, attributes := #[] }])
  fields := #[{ name := "serialVersionUID", type := .long, accessFlags := 26, slot := 0, constantValue := 0 }]
  methods := #[k10m0]
  instanceTypes := #[]
  staticTypes := #[.long]
  resolved := Array.replicate 37 none
  statics := none }

def pool11 : Array CpInfo := pool [(1, .class_ 2), (0, u "java/lang/constant/ConstantDesc"), (0, .class_ 4), (0, u "java/lang/Object")] 32

/-- java/lang/constant/ConstantDesc -/
def k11 : Class := { plain "java/lang/constant/ConstantDesc" (some 0) with
  accessFlags := 1537
  interfaces := #[]
  cf := some (fileOf pool11 1 #[] #[] 1537 3 #[] #[])
  fields := #[]
  methods := #[]
  instanceTypes := #[]
  staticTypes := #[]
  resolved := Array.replicate 37 none
  statics := none }

def pool12 : Array CpInfo := pool [(1, .class_ 2), (0, u "java/lang/Long"), (55, .nameAndType 59 60), (0, u "<init>"), (0, u "()V"), (24, u "valueOf"), (143, u "(J)Ljava/lang/Long;"), (0, .long 18446744073709551488), (1, .long 127), (1, .fieldref 235 236), (0, .class_ 237), (0, .nameAndType 238 239), (0, u "java/lang/Long$LongCache"), (0, u "cache"), (0, u "[Ljava/lang/Long;"), (0, .methodref 1 241), (0, .nameAndType 59 242), (0, u "(J)V"), (27, .methodref 271 58), (0, .class_ 272), (0, u "java/lang/Number"), (0, .fieldref 1 274), (0, .nameAndType 275 276), (0, u "value"), (0, u "J"), (84, u "TYPE"), (0, u "Ljava/lang/Class;"), (0, .class_ 364), (0, u "java/lang/Comparable"), (0, .class_ 366), (0, u "java/lang/constant/Constable"), (0, .class_ 368), (0, u "java/lang/constant/ConstantDesc"), (0, u "MIN_VALUE"), (1, u "MAX_VALUE"), (4, u "SIZE"), (0, u "I"), (1, u "BYTES"), (1, u "serialVersionUID")] 142

def k12c0 : Code := { maxStack := 4, maxLocals := 3, code := jdk_35_method_24_code, exceptionTable := #[], attributes := #[] }
def k12m0 : Method := { name := "valueOf", desc := "(J)Ljava/lang/Long;", sig := { parameters := [.long], returnType := some (.object "java/lang/Long") }, accessFlags := 9, code := some k12c0 }
def k12c1 : Code := { maxStack := 3, maxLocals := 3, code := jdk_35_method_26_code, exceptionTable := #[], attributes := #[] }
def k12m1 : Method := { name := "<init>", desc := "(J)V", sig := { parameters := [.long], returnType := none }, accessFlags := 1, code := some k12c1 }
/-- java/lang/Long -/
def k12 : Class := { plain "java/lang/Long" (some 10) with
  accessFlags := 49
  interfaces := #[3, 2, 11]
  cf := some (fileOf pool12 1 #[.nestMembers #[235]] #[{ accessFlags := 9, nameIndex := 85, descriptorIndex := 229, attributes := #[] }, { accessFlags := 1, nameIndex := 59, descriptorIndex := 242, attributes := #[] }] 49 271 #[363, 365, 367] #[{ accessFlags := 25, nameIndex := 369, descriptorIndex := 276, attributes := #[] }, { accessFlags := 25, nameIndex := 371, descriptorIndex := 276, attributes := #[] }, { accessFlags := 25, nameIndex := 361, descriptorIndex := 362, attributes := #[] }, { accessFlags := 18, nameIndex := 275, descriptorIndex := 276, attributes := #[] }, { accessFlags := 25, nameIndex := 376, descriptorIndex := 377, attributes := #[] }, { accessFlags := 25, nameIndex := 379, descriptorIndex := 377, attributes := #[] }, { accessFlags := 26, nameIndex := 381, descriptorIndex := 276, attributes := #[] }])
  fields := #[{ name := "MIN_VALUE", type := .long, accessFlags := 25, slot := 0, constantValue := 0 }, { name := "MAX_VALUE", type := .long, accessFlags := 25, slot := 1, constantValue := 0 }, { name := "TYPE", type := (.object "java/lang/Class"), accessFlags := 25, slot := 2, constantValue := 0 }, { name := "value", type := .long, accessFlags := 18, slot := 0, constantValue := 0 }, { name := "SIZE", type := .int, accessFlags := 25, slot := 3, constantValue := 0 }, { name := "BYTES", type := .int, accessFlags := 25, slot := 4, constantValue := 0 }, { name := "serialVersionUID", type := .long, accessFlags := 26, slot := 5, constantValue := 0 }]
  methods := #[k12m0, k12m1]
  instanceTypes := #[.long]
  staticTypes := #[.long, .long, (.object "java/lang/Class"), .int, .int, .long]
  resolved := Array.replicate 524 none
  statics := none }

def pool13 : Array CpInfo := pool [(2, .class_ 4), (1, u "java/lang/Object"), (0, u "<init>"), (0, u "()V"), (0, .class_ 8), (0, u "java/lang/Long"), (7, .class_ 18), (1, u "java/lang/Long$LongCache"), (0, u "$assertionsDisabled"), (0, u "Z"), (8, u "archivedCache"), (0, u "[Ljava/lang/Long;"), (7, u "cache")] 24

def k13m0 : Method := { name := "<init>", desc := "()V", sig := { parameters := [], returnType := none }, accessFlags := 2, code := none }
/-- java/lang/Long$LongCache -/
def k13 : Class := { plain "java/lang/Long$LongCache" (some 0) with
  accessFlags := 48
  interfaces := #[]
  cf := some (fileOf pool13 16 #[.nestHost 7] #[{ accessFlags := 2, nameIndex := 5, descriptorIndex := 6, attributes := #[] }] 48 2 #[] #[{ accessFlags := 24, nameIndex := 38, descriptorIndex := 30, attributes := #[] }, { accessFlags := 8, nameIndex := 29, descriptorIndex := 30, attributes := #[] }, { accessFlags := 4120, nameIndex := 19, descriptorIndex := 20, attributes := #[] }])
  fields := #[{ name := "cache", type := (.array (.object "java/lang/Long")), accessFlags := 24, slot := 0, constantValue := 0 }, { name := "archivedCache", type := (.array (.object "java/lang/Long")), accessFlags := 8, slot := 1, constantValue := 0 }, { name := "$assertionsDisabled", type := .boolean, accessFlags := 4120, slot := 2, constantValue := 0 }]
  methods := #[k13m0]
  instanceTypes := #[]
  staticTypes := #[(.array (.object "java/lang/Long")), (.array (.object "java/lang/Long")), .boolean]
  resolved := Array.replicate 63 none
  statics := some 1 }

def pool14 : Array CpInfo := pool [(1, u "java/lang/Cloneable"), (0, .class_ 1), (0, u "java/lang/Object"), (0, .class_ 3)] 3

/-- java/lang/Cloneable -/
def k14 : Class := { plain "java/lang/Cloneable" (some 0) with
  accessFlags := 1537
  interfaces := #[]
  cf := some (fileOf pool14 2 #[] #[] 1537 4 #[] #[])
  fields := #[]
  methods := #[]
  instanceTypes := #[]
  staticTypes := #[]
  resolved := Array.replicate 8 none
  statics := none }

/-- the primitive byte -/
def k15 : Class := { plain "byte" none with kind := .primitive 'B', accessFlags := 0x411 }
/-- [B -/
def k16 : Class := { plain "[B" (some 0) with kind := .array 15 .byte, interfaces := #[14, 4], accessFlags := 1041 }

/-- the primitive int -/
def k17 : Class := { plain "int" none with kind := .primitive 'I', accessFlags := 0x411 }
/-- [I -/
def k18 : Class := { plain "[I" (some 0) with kind := .array 17 .int, interfaces := #[14, 4], accessFlags := 1041 }

/-- [Ljava/lang/Long; -/
def k19 : Class := { plain "[Ljava/lang/Long;" (some 0) with kind := .array 12 (.object "java/lang/Long"), interfaces := #[14, 4], accessFlags := 1041 }

def heap : Heap := #[{ cls := 6, slots := #[.ref 259, .ref 260, .ref 261, .ref 262, .ref 263, .null], vm := .statics 6 },
  { cls := 13, slots := #[.ref 2, .null, .int 0], vm := .statics 13 },
  { cls := 19, slots := #[.ref 3, .ref 4, .ref 5, .ref 6, .ref 7, .ref 8, .ref 9, .ref 10, .ref 11, .ref 12, .ref 13, .ref 14, .ref 15, .ref 16, .ref 17, .ref 18, .ref 19, .ref 20, .ref 21, .ref 22, .ref 23, .ref 24, .ref 25, .ref 26, .ref 27, .ref 28, .ref 29, .ref 30, .ref 31, .ref 32, .ref 33, .ref 34, .ref 35, .ref 36, .ref 37, .ref 38, .ref 39, .ref 40, .ref 41, .ref 42, .ref 43, .ref 44, .ref 45, .ref 46, .ref 47, .ref 48, .ref 49, .ref 50, .ref 51, .ref 52, .ref 53, .ref 54, .ref 55, .ref 56, .ref 57, .ref 58, .ref 59, .ref 60, .ref 61, .ref 62, .ref 63, .ref 64, .ref 65, .ref 66, .ref 67, .ref 68, .ref 69, .ref 70, .ref 71, .ref 72, .ref 73, .ref 74, .ref 75, .ref 76, .ref 77, .ref 78, .ref 79, .ref 80, .ref 81, .ref 82, .ref 83, .ref 84, .ref 85, .ref 86, .ref 87, .ref 88, .ref 89, .ref 90, .ref 91, .ref 92, .ref 93, .ref 94, .ref 95, .ref 96, .ref 97, .ref 98, .ref 99, .ref 100, .ref 101, .ref 102, .ref 103, .ref 104, .ref 105, .ref 106, .ref 107, .ref 108, .ref 109, .ref 110, .ref 111, .ref 112, .ref 113, .ref 114, .ref 115, .ref 116, .ref 117, .ref 118, .ref 119, .ref 120, .ref 121, .ref 122, .ref 123, .ref 124, .ref 125, .ref 126, .ref 127, .ref 128, .ref 129, .ref 130, .ref 131, .ref 132, .ref 133, .ref 134, .ref 135, .ref 136, .ref 137, .ref 138, .ref 139, .ref 140, .ref 141, .ref 142, .ref 143, .ref 144, .ref 145, .ref 146, .ref 147, .ref 148, .ref 149, .ref 150, .ref 151, .ref 152, .ref 153, .ref 154, .ref 155, .ref 156, .ref 157, .ref 158, .ref 159, .ref 160, .ref 161, .ref 162, .ref 163, .ref 164, .ref 165, .ref 166, .ref 167, .ref 168, .ref 169, .ref 170, .ref 171, .ref 172, .ref 173, .ref 174, .ref 175, .ref 176, .ref 177, .ref 178, .ref 179, .ref 180, .ref 181, .ref 182, .ref 183, .ref 184, .ref 185, .ref 186, .ref 187, .ref 188, .ref 189, .ref 190, .ref 191, .ref 192, .ref 193, .ref 194, .ref 195, .ref 196, .ref 197, .ref 198, .ref 199, .ref 200, .ref 201, .ref 202, .ref 203, .ref 204, .ref 205, .ref 206, .ref 207, .ref 208, .ref 209, .ref 210, .ref 211, .ref 212, .ref 213, .ref 214, .ref 215, .ref 216, .ref 217, .ref 218, .ref 219, .ref 220, .ref 221, .ref 222, .ref 223, .ref 224, .ref 225, .ref 226, .ref 227, .ref 228, .ref 229, .ref 230, .ref 231, .ref 232, .ref 233, .ref 234, .ref 235, .ref 236, .ref 237, .ref 238, .ref 239, .ref 240, .ref 241, .ref 242, .ref 243, .ref 244, .ref 245, .ref 246, .ref 247, .ref 248, .ref 249, .ref 250, .ref 251, .ref 252, .ref 253, .ref 254, .ref 255, .ref 256, .ref 257, .ref 258], vm := .none },
  { cls := 12, slots := #[.long (-128)], vm := .none },
  { cls := 12, slots := #[.long (-127)], vm := .none },
  { cls := 12, slots := #[.long (-126)], vm := .none },
  { cls := 12, slots := #[.long (-125)], vm := .none },
  { cls := 12, slots := #[.long (-124)], vm := .none },
  { cls := 12, slots := #[.long (-123)], vm := .none },
  { cls := 12, slots := #[.long (-122)], vm := .none },
  { cls := 12, slots := #[.long (-121)], vm := .none },
  { cls := 12, slots := #[.long (-120)], vm := .none },
  { cls := 12, slots := #[.long (-119)], vm := .none },
  { cls := 12, slots := #[.long (-118)], vm := .none },
  { cls := 12, slots := #[.long (-117)], vm := .none },
  { cls := 12, slots := #[.long (-116)], vm := .none },
  { cls := 12, slots := #[.long (-115)], vm := .none },
  { cls := 12, slots := #[.long (-114)], vm := .none },
  { cls := 12, slots := #[.long (-113)], vm := .none },
  { cls := 12, slots := #[.long (-112)], vm := .none },
  { cls := 12, slots := #[.long (-111)], vm := .none },
  { cls := 12, slots := #[.long (-110)], vm := .none },
  { cls := 12, slots := #[.long (-109)], vm := .none },
  { cls := 12, slots := #[.long (-108)], vm := .none },
  { cls := 12, slots := #[.long (-107)], vm := .none },
  { cls := 12, slots := #[.long (-106)], vm := .none },
  { cls := 12, slots := #[.long (-105)], vm := .none },
  { cls := 12, slots := #[.long (-104)], vm := .none },
  { cls := 12, slots := #[.long (-103)], vm := .none },
  { cls := 12, slots := #[.long (-102)], vm := .none },
  { cls := 12, slots := #[.long (-101)], vm := .none },
  { cls := 12, slots := #[.long (-100)], vm := .none },
  { cls := 12, slots := #[.long (-99)], vm := .none },
  { cls := 12, slots := #[.long (-98)], vm := .none },
  { cls := 12, slots := #[.long (-97)], vm := .none },
  { cls := 12, slots := #[.long (-96)], vm := .none },
  { cls := 12, slots := #[.long (-95)], vm := .none },
  { cls := 12, slots := #[.long (-94)], vm := .none },
  { cls := 12, slots := #[.long (-93)], vm := .none },
  { cls := 12, slots := #[.long (-92)], vm := .none },
  { cls := 12, slots := #[.long (-91)], vm := .none },
  { cls := 12, slots := #[.long (-90)], vm := .none },
  { cls := 12, slots := #[.long (-89)], vm := .none },
  { cls := 12, slots := #[.long (-88)], vm := .none },
  { cls := 12, slots := #[.long (-87)], vm := .none },
  { cls := 12, slots := #[.long (-86)], vm := .none },
  { cls := 12, slots := #[.long (-85)], vm := .none },
  { cls := 12, slots := #[.long (-84)], vm := .none },
  { cls := 12, slots := #[.long (-83)], vm := .none },
  { cls := 12, slots := #[.long (-82)], vm := .none },
  { cls := 12, slots := #[.long (-81)], vm := .none },
  { cls := 12, slots := #[.long (-80)], vm := .none },
  { cls := 12, slots := #[.long (-79)], vm := .none },
  { cls := 12, slots := #[.long (-78)], vm := .none },
  { cls := 12, slots := #[.long (-77)], vm := .none },
  { cls := 12, slots := #[.long (-76)], vm := .none },
  { cls := 12, slots := #[.long (-75)], vm := .none },
  { cls := 12, slots := #[.long (-74)], vm := .none },
  { cls := 12, slots := #[.long (-73)], vm := .none },
  { cls := 12, slots := #[.long (-72)], vm := .none },
  { cls := 12, slots := #[.long (-71)], vm := .none },
  { cls := 12, slots := #[.long (-70)], vm := .none },
  { cls := 12, slots := #[.long (-69)], vm := .none },
  { cls := 12, slots := #[.long (-68)], vm := .none },
  { cls := 12, slots := #[.long (-67)], vm := .none },
  { cls := 12, slots := #[.long (-66)], vm := .none },
  { cls := 12, slots := #[.long (-65)], vm := .none },
  { cls := 12, slots := #[.long (-64)], vm := .none },
  { cls := 12, slots := #[.long (-63)], vm := .none },
  { cls := 12, slots := #[.long (-62)], vm := .none },
  { cls := 12, slots := #[.long (-61)], vm := .none },
  { cls := 12, slots := #[.long (-60)], vm := .none },
  { cls := 12, slots := #[.long (-59)], vm := .none },
  { cls := 12, slots := #[.long (-58)], vm := .none },
  { cls := 12, slots := #[.long (-57)], vm := .none },
  { cls := 12, slots := #[.long (-56)], vm := .none },
  { cls := 12, slots := #[.long (-55)], vm := .none },
  { cls := 12, slots := #[.long (-54)], vm := .none },
  { cls := 12, slots := #[.long (-53)], vm := .none },
  { cls := 12, slots := #[.long (-52)], vm := .none },
  { cls := 12, slots := #[.long (-51)], vm := .none },
  { cls := 12, slots := #[.long (-50)], vm := .none },
  { cls := 12, slots := #[.long (-49)], vm := .none },
  { cls := 12, slots := #[.long (-48)], vm := .none },
  { cls := 12, slots := #[.long (-47)], vm := .none },
  { cls := 12, slots := #[.long (-46)], vm := .none },
  { cls := 12, slots := #[.long (-45)], vm := .none },
  { cls := 12, slots := #[.long (-44)], vm := .none },
  { cls := 12, slots := #[.long (-43)], vm := .none },
  { cls := 12, slots := #[.long (-42)], vm := .none },
  { cls := 12, slots := #[.long (-41)], vm := .none },
  { cls := 12, slots := #[.long (-40)], vm := .none },
  { cls := 12, slots := #[.long (-39)], vm := .none },
  { cls := 12, slots := #[.long (-38)], vm := .none },
  { cls := 12, slots := #[.long (-37)], vm := .none },
  { cls := 12, slots := #[.long (-36)], vm := .none },
  { cls := 12, slots := #[.long (-35)], vm := .none },
  { cls := 12, slots := #[.long (-34)], vm := .none },
  { cls := 12, slots := #[.long (-33)], vm := .none },
  { cls := 12, slots := #[.long (-32)], vm := .none },
  { cls := 12, slots := #[.long (-31)], vm := .none },
  { cls := 12, slots := #[.long (-30)], vm := .none },
  { cls := 12, slots := #[.long (-29)], vm := .none },
  { cls := 12, slots := #[.long (-28)], vm := .none },
  { cls := 12, slots := #[.long (-27)], vm := .none },
  { cls := 12, slots := #[.long (-26)], vm := .none },
  { cls := 12, slots := #[.long (-25)], vm := .none },
  { cls := 12, slots := #[.long (-24)], vm := .none },
  { cls := 12, slots := #[.long (-23)], vm := .none },
  { cls := 12, slots := #[.long (-22)], vm := .none },
  { cls := 12, slots := #[.long (-21)], vm := .none },
  { cls := 12, slots := #[.long (-20)], vm := .none },
  { cls := 12, slots := #[.long (-19)], vm := .none },
  { cls := 12, slots := #[.long (-18)], vm := .none },
  { cls := 12, slots := #[.long (-17)], vm := .none },
  { cls := 12, slots := #[.long (-16)], vm := .none },
  { cls := 12, slots := #[.long (-15)], vm := .none },
  { cls := 12, slots := #[.long (-14)], vm := .none },
  { cls := 12, slots := #[.long (-13)], vm := .none },
  { cls := 12, slots := #[.long (-12)], vm := .none },
  { cls := 12, slots := #[.long (-11)], vm := .none },
  { cls := 12, slots := #[.long (-10)], vm := .none },
  { cls := 12, slots := #[.long (-9)], vm := .none },
  { cls := 12, slots := #[.long (-8)], vm := .none },
  { cls := 12, slots := #[.long (-7)], vm := .none },
  { cls := 12, slots := #[.long (-6)], vm := .none },
  { cls := 12, slots := #[.long (-5)], vm := .none },
  { cls := 12, slots := #[.long (-4)], vm := .none },
  { cls := 12, slots := #[.long (-3)], vm := .none },
  { cls := 12, slots := #[.long (-2)], vm := .none },
  { cls := 12, slots := #[.long (-1)], vm := .none },
  { cls := 12, slots := #[.long (0)], vm := .none },
  { cls := 12, slots := #[.long (1)], vm := .none },
  { cls := 12, slots := #[.long (2)], vm := .none },
  { cls := 12, slots := #[.long (3)], vm := .none },
  { cls := 12, slots := #[.long (4)], vm := .none },
  { cls := 12, slots := #[.long (5)], vm := .none },
  { cls := 12, slots := #[.long (6)], vm := .none },
  { cls := 12, slots := #[.long (7)], vm := .none },
  { cls := 12, slots := #[.long (8)], vm := .none },
  { cls := 12, slots := #[.long (9)], vm := .none },
  { cls := 12, slots := #[.long (10)], vm := .none },
  { cls := 12, slots := #[.long (11)], vm := .none },
  { cls := 12, slots := #[.long (12)], vm := .none },
  { cls := 12, slots := #[.long (13)], vm := .none },
  { cls := 12, slots := #[.long (14)], vm := .none },
  { cls := 12, slots := #[.long (15)], vm := .none },
  { cls := 12, slots := #[.long (16)], vm := .none },
  { cls := 12, slots := #[.long (17)], vm := .none },
  { cls := 12, slots := #[.long (18)], vm := .none },
  { cls := 12, slots := #[.long (19)], vm := .none },
  { cls := 12, slots := #[.long (20)], vm := .none },
  { cls := 12, slots := #[.long (21)], vm := .none },
  { cls := 12, slots := #[.long (22)], vm := .none },
  { cls := 12, slots := #[.long (23)], vm := .none },
  { cls := 12, slots := #[.long (24)], vm := .none },
  { cls := 12, slots := #[.long (25)], vm := .none },
  { cls := 12, slots := #[.long (26)], vm := .none },
  { cls := 12, slots := #[.long (27)], vm := .none },
  { cls := 12, slots := #[.long (28)], vm := .none },
  { cls := 12, slots := #[.long (29)], vm := .none },
  { cls := 12, slots := #[.long (30)], vm := .none },
  { cls := 12, slots := #[.long (31)], vm := .none },
  { cls := 12, slots := #[.long (32)], vm := .none },
  { cls := 12, slots := #[.long (33)], vm := .none },
  { cls := 12, slots := #[.long (34)], vm := .none },
  { cls := 12, slots := #[.long (35)], vm := .none },
  { cls := 12, slots := #[.long (36)], vm := .none },
  { cls := 12, slots := #[.long (37)], vm := .none },
  { cls := 12, slots := #[.long (38)], vm := .none },
  { cls := 12, slots := #[.long (39)], vm := .none },
  { cls := 12, slots := #[.long (40)], vm := .none },
  { cls := 12, slots := #[.long (41)], vm := .none },
  { cls := 12, slots := #[.long (42)], vm := .none },
  { cls := 12, slots := #[.long (43)], vm := .none },
  { cls := 12, slots := #[.long (44)], vm := .none },
  { cls := 12, slots := #[.long (45)], vm := .none },
  { cls := 12, slots := #[.long (46)], vm := .none },
  { cls := 12, slots := #[.long (47)], vm := .none },
  { cls := 12, slots := #[.long (48)], vm := .none },
  { cls := 12, slots := #[.long (49)], vm := .none },
  { cls := 12, slots := #[.long (50)], vm := .none },
  { cls := 12, slots := #[.long (51)], vm := .none },
  { cls := 12, slots := #[.long (52)], vm := .none },
  { cls := 12, slots := #[.long (53)], vm := .none },
  { cls := 12, slots := #[.long (54)], vm := .none },
  { cls := 12, slots := #[.long (55)], vm := .none },
  { cls := 12, slots := #[.long (56)], vm := .none },
  { cls := 12, slots := #[.long (57)], vm := .none },
  { cls := 12, slots := #[.long (58)], vm := .none },
  { cls := 12, slots := #[.long (59)], vm := .none },
  { cls := 12, slots := #[.long (60)], vm := .none },
  { cls := 12, slots := #[.long (61)], vm := .none },
  { cls := 12, slots := #[.long (62)], vm := .none },
  { cls := 12, slots := #[.long (63)], vm := .none },
  { cls := 12, slots := #[.long (64)], vm := .none },
  { cls := 12, slots := #[.long (65)], vm := .none },
  { cls := 12, slots := #[.long (66)], vm := .none },
  { cls := 12, slots := #[.long (67)], vm := .none },
  { cls := 12, slots := #[.long (68)], vm := .none },
  { cls := 12, slots := #[.long (69)], vm := .none },
  { cls := 12, slots := #[.long (70)], vm := .none },
  { cls := 12, slots := #[.long (71)], vm := .none },
  { cls := 12, slots := #[.long (72)], vm := .none },
  { cls := 12, slots := #[.long (73)], vm := .none },
  { cls := 12, slots := #[.long (74)], vm := .none },
  { cls := 12, slots := #[.long (75)], vm := .none },
  { cls := 12, slots := #[.long (76)], vm := .none },
  { cls := 12, slots := #[.long (77)], vm := .none },
  { cls := 12, slots := #[.long (78)], vm := .none },
  { cls := 12, slots := #[.long (79)], vm := .none },
  { cls := 12, slots := #[.long (80)], vm := .none },
  { cls := 12, slots := #[.long (81)], vm := .none },
  { cls := 12, slots := #[.long (82)], vm := .none },
  { cls := 12, slots := #[.long (83)], vm := .none },
  { cls := 12, slots := #[.long (84)], vm := .none },
  { cls := 12, slots := #[.long (85)], vm := .none },
  { cls := 12, slots := #[.long (86)], vm := .none },
  { cls := 12, slots := #[.long (87)], vm := .none },
  { cls := 12, slots := #[.long (88)], vm := .none },
  { cls := 12, slots := #[.long (89)], vm := .none },
  { cls := 12, slots := #[.long (90)], vm := .none },
  { cls := 12, slots := #[.long (91)], vm := .none },
  { cls := 12, slots := #[.long (92)], vm := .none },
  { cls := 12, slots := #[.long (93)], vm := .none },
  { cls := 12, slots := #[.long (94)], vm := .none },
  { cls := 12, slots := #[.long (95)], vm := .none },
  { cls := 12, slots := #[.long (96)], vm := .none },
  { cls := 12, slots := #[.long (97)], vm := .none },
  { cls := 12, slots := #[.long (98)], vm := .none },
  { cls := 12, slots := #[.long (99)], vm := .none },
  { cls := 12, slots := #[.long (100)], vm := .none },
  { cls := 12, slots := #[.long (101)], vm := .none },
  { cls := 12, slots := #[.long (102)], vm := .none },
  { cls := 12, slots := #[.long (103)], vm := .none },
  { cls := 12, slots := #[.long (104)], vm := .none },
  { cls := 12, slots := #[.long (105)], vm := .none },
  { cls := 12, slots := #[.long (106)], vm := .none },
  { cls := 12, slots := #[.long (107)], vm := .none },
  { cls := 12, slots := #[.long (108)], vm := .none },
  { cls := 12, slots := #[.long (109)], vm := .none },
  { cls := 12, slots := #[.long (110)], vm := .none },
  { cls := 12, slots := #[.long (111)], vm := .none },
  { cls := 12, slots := #[.long (112)], vm := .none },
  { cls := 12, slots := #[.long (113)], vm := .none },
  { cls := 12, slots := #[.long (114)], vm := .none },
  { cls := 12, slots := #[.long (115)], vm := .none },
  { cls := 12, slots := #[.long (116)], vm := .none },
  { cls := 12, slots := #[.long (117)], vm := .none },
  { cls := 12, slots := #[.long (118)], vm := .none },
  { cls := 12, slots := #[.long (119)], vm := .none },
  { cls := 12, slots := #[.long (120)], vm := .none },
  { cls := 12, slots := #[.long (121)], vm := .none },
  { cls := 12, slots := #[.long (122)], vm := .none },
  { cls := 12, slots := #[.long (123)], vm := .none },
  { cls := 12, slots := #[.long (124)], vm := .none },
  { cls := 12, slots := #[.long (125)], vm := .none },
  { cls := 12, slots := #[.long (126)], vm := .none },
  { cls := 12, slots := #[.long (127)], vm := .none },
  { cls := 6, slots := #[.null, .int 0, .int 0, .int 2, .int 5, .int 10, .int 0], vm := .none },
  { cls := 6, slots := #[.null, .int 1, .int 0, .int 4, .int 8, .int 23, .int 0], vm := .none },
  { cls := 6, slots := #[.null, .int 2, .int 0, .int 8, .int 11, .int 52, .int 0], vm := .none },
  { cls := 6, slots := #[.null, .int 3, .int 0, .int 10, .int 15, .int 64, .int 1], vm := .none },
  { cls := 6, slots := #[.null, .int 4, .int 0, .int 16, .int 15, .int 112, .int 0], vm := .none }]
def classes : Array Class := #[k0, k1, k2, k3, k4, k5, k6, k7, k8, k9, k10, k11, k12, k13, k14, k15, k16, k17, k18, k19]
def interned : List (Array UInt16 × Addr) := []
def slotsUsed : Nat := 556
def theMethod : MethodId := ⟨1, 10⟩
def args0 : Array Value := #[.int 0, .int 1, .long 1, .long 2, .long 3, .int 0]
def aboutOver (below : List Frame) : State where
  vm := { classes := classes, interned := interned.toArray }
  heap := heap
  slotsUsed := slotsUsed
  threads := #[{ frames := .invoking theMethod args0 :: below }]
def below0 : List Frame := [.native { method := ⟨0, 0⟩, args := #[] }]
def about1 : State := aboutOver below0
def p0 : Program := .bare "" "" ""
def e0 : Env := launch0.env 0 0 0
theorem w_frames : about1.frames = Frame.invoking theMethod args0 :: below0 := rfl
set_option maxRecDepth 65536 in
theorem w_args : argsFit about1.vm theMethod args0 = true := by decide +kernel
set_option maxRecDepth 65536 in
theorem w_heap : heapFits about1 = true := by decide +kernel
set_option maxRecDepth 65536 in
theorem w_runnable : about1.curStatus? = some .runnable := by decide +kernel
set_option maxRecDepth 65536 in
theorem w_alone : about1.alone = true := by decide +kernel
set_option maxRecDepth 65536 in
theorem w_named : about1.methodNamed? x = some theMethod := by decide +kernel
set_option maxRecDepth 65536 in
theorem w_hears : about1.hears theMethod below0 = true := by decide +kernel
set_option maxRecDepth 65536 in
theorem w_ripe : about1.ripe theMethod args0 below0 = true := by decide +kernel
theorem w_running : about1.status = .running := rfl
set_option maxRecDepth 65536 in
theorem w_room : about1.hasRoom e0.platform room_1 = true :=
  launch0.hasRoom_least _ room_1 (by decide +kernel) (by decide +kernel) (by decide +kernel) (by decide +kernel) (by decide +kernel) (by decide +kernel)
theorem allAtoms_all (ts : List Jvm.Cond) (a : Array Jvm.Value) (st : Jvm.State) : (allAtoms ts).before a st = ts.all (fun c => c.before a st) := by
  induction ts with
  | nil => rfl
  | cons c t ih =>
    show (Jvm.Cond.and c (allAtoms t)).before a st = _
    rw [Jvm.Cond.before_and, ih, List.all_cons]
def words1 : List Jvm.Cond := Jvm.Cond.code x code maxLocals ret :: tables_1
/-- a 'code' word, met by the world's own term for the bytes: nothing is compared byte by byte -/
theorem code_word {y : MethodName} {bytes : ByteArray} {mx : Nat} {rt : Option FieldType} {a : Array Value} {s : State} {m : MethodId} {meth : Method} {c : Code} (h1 : s.methodNamed? y = some m) (h2 : s.vm.method? m = some meth) (h3 : meth.code = some c) (h4 : c.code = bytes)
    (h5 : (c.maxLocals == mx && c.exceptionTable.isEmpty && decide (c.maxStack ≤ mostOperands) && decide (meth.sig.returnType = rt) && !meth.locks && decide (parseMethodDescriptor y.desc = some meth.sig)) = true) : (Jvm.Cond.code y bytes mx rt).before a s = true := by
  simp only [Bool.and_eq_true, beq_iff_eq, Bool.not_eq_true', decide_eq_true_eq] at h5
  obtain ⟨⟨⟨⟨⟨g1, g2⟩, g3⟩, g4⟩, g5⟩, g6⟩ := h5
  simp [Cond.before, Cond.holds, Cond.value, h1, h2, h3, h4, g1, g2, g3, g4, g5, g6]
def isCode : Jvm.Cond → Bool
  | .code _ _ _ _ => true
  | _ => false
theorem all_split {L : List Jvm.Cond} {P : Jvm.Cond → Bool} (h1 : L.all (fun c => isCode c || P c) = true) (h2 : ∀ c ∈ L.filter isCode, P c = true) : L.all P = true := by
  refine List.all_eq_true.mpr fun c hc => ?_
  have h := List.all_eq_true.mp h1 c hc
  rcases Bool.eq_false_or_eq_true (isCode c) with hi | hi
  · exact h2 c (List.mem_filter.mpr ⟨hc, hi⟩)
  · simpa [hi] using h
set_option maxRecDepth 65536 in
theorem w_c0 : (Jvm.Cond.code x code maxLocals ret).before args0 about1 = true := code_word (m := ⟨1, 10⟩) (meth := k1m10) (c := k1c10) (by decide +kernel) rfl rfl rfl (by decide +kernel)
set_option maxRecDepth 65536 in
theorem w_c1 : (Jvm.Cond.code ({ cls := "com/example/tagwire/tagwire/core/FloatValueEqualsPinLaw", name := "encHigh", desc := "(IJZ)J" } : Jvm.MethodName) method_10_code (6 : Nat) (Option.some Jvm.ClassFile.FieldType.long)).before args0 about1 = true := code_word (m := ⟨1, 9⟩) (meth := k1m9) (c := k1c9) (by decide +kernel) rfl rfl rfl (by decide +kernel)
set_option maxRecDepth 65536 in
theorem w_c2 : (Jvm.Cond.code ({ cls := "com/example/tagwire/tagwire/core/FloatValueEqualsPinLaw", name := "highWidth", desc := "(I)J" } : Jvm.MethodName) method_4_code (1 : Nat) (Option.some Jvm.ClassFile.FieldType.long)).before args0 about1 = true := code_word (m := ⟨1, 3⟩) (meth := k1m3) (c := k1c3) (by decide +kernel) rfl rfl rfl (by decide +kernel)
set_option maxRecDepth 65536 in
theorem w_c3 : (Jvm.Cond.code ({ cls := "com/example/tagwire/tagwire/core/FloatValueEqualsPinLaw", name := "highExp", desc := "(I)J" } : Jvm.MethodName) method_6_code (1 : Nat) (Option.some Jvm.ClassFile.FieldType.long)).before args0 about1 = true := code_word (m := ⟨1, 5⟩) (meth := k1m5) (c := k1c5) (by decide +kernel) rfl rfl rfl (by decide +kernel)
set_option maxRecDepth 65536 in
theorem w_c4 : (Jvm.Cond.code ({ cls := "com/example/tagwire/tagwire/core/FloatValueEqualsPinLaw", name := "encLow", desc := "(IJZ)J" } : Jvm.MethodName) method_9_code (6 : Nat) (Option.some Jvm.ClassFile.FieldType.long)).before args0 about1 = true := code_word (m := ⟨1, 8⟩) (meth := k1m8) (c := k1c8) (by decide +kernel) rfl rfl rfl (by decide +kernel)
set_option maxRecDepth 65536 in
theorem w_c5 : (Jvm.Cond.code ({ cls := "com/example/tagwire/tagwire/core/FloatValueEqualsPinLaw", name := "lowWidth", desc := "(I)J" } : Jvm.MethodName) method_3_code (1 : Nat) (Option.some Jvm.ClassFile.FieldType.long)).before args0 about1 = true := code_word (m := ⟨1, 2⟩) (meth := k1m2) (c := k1c2) (by decide +kernel) rfl rfl rfl (by decide +kernel)
set_option maxRecDepth 65536 in
theorem w_c6 : (Jvm.Cond.code ({ cls := "com/example/tagwire/tagwire/core/FloatValueEqualsPinLaw", name := "lowExp", desc := "(I)J" } : Jvm.MethodName) method_5_code (1 : Nat) (Option.some Jvm.ClassFile.FieldType.long)).before args0 about1 = true := code_word (m := ⟨1, 4⟩) (meth := k1m4) (c := k1c4) (by decide +kernel) rfl rfl rfl (by decide +kernel)
set_option maxRecDepth 65536 in
theorem w_c7 : (Jvm.Cond.code ({ cls := "com/example/tagwire/tagwire/core/FloatValueEqualsPinLaw", name := "fmt", desc := "(I)Lcom/example/tagwire/tagwire/core/FloatFormat;" } : Jvm.MethodName) method_2_code (1 : Nat) (Option.some (Jvm.ClassFile.FieldType.object "com/example/tagwire/tagwire/core/FloatFormat"))).before args0 about1 = true := code_word (m := ⟨1, 1⟩) (meth := k1m1) (c := k1c1) (by decide +kernel) rfl rfl rfl (by decide +kernel)
set_option maxRecDepth 65536 in
theorem w_c8 : (Jvm.Cond.code ({ cls := "com/example/tagwire/tagwire/core/FloatValue", name := "ofBits", desc := "(Lcom/example/tagwire/tagwire/core/FloatFormat;JJ)Lcom/example/tagwire/tagwire/core/FloatValue;" } : Jvm.MethodName) prog_14_method_3_code (7 : Nat) (Option.some (Jvm.ClassFile.FieldType.object "com/example/tagwire/tagwire/core/FloatValue"))).before args0 about1 = true := code_word (m := ⟨8, 1⟩) (meth := k8m1) (c := k8c1) (by decide +kernel) rfl rfl rfl (by decide +kernel)
set_option maxRecDepth 65536 in
theorem w_c9 : (Jvm.Cond.code ({ cls := "com/example/tagwire/tagwire/core/FloatFormat", name := "bytes", desc := "()I" } : Jvm.MethodName) prog_11_method_4_code (1 : Nat) (Option.some Jvm.ClassFile.FieldType.int)).before args0 about1 = true := code_word (m := ⟨6, 0⟩) (meth := k6m0) (c := k6c0) (by decide +kernel) rfl rfl rfl (by decide +kernel)
set_option maxRecDepth 65536 in
theorem w_c10 : (Jvm.Cond.code ({ cls := "com/example/tagwire/tagwire/core/FloatValue", name := "mask", desc := "(I)J" } : Jvm.MethodName) prog_14_method_25_code (1 : Nat) (Option.some Jvm.ClassFile.FieldType.long)).before args0 about1 = true := code_word (m := ⟨8, 10⟩) (meth := k8m10) (c := k8c10) (by decide +kernel) rfl rfl rfl (by decide +kernel)
set_option maxRecDepth 65536 in
theorem w_c11 : (Jvm.Cond.code ({ cls := "com/example/tagwire/tagwire/core/FloatValue", name := "<init>", desc := "(Lcom/example/tagwire/tagwire/core/FloatFormat;JJ)V" } : Jvm.MethodName) prog_14_method_2_code (6 : Nat) (Option.none : Option Jvm.ClassFile.FieldType)).before args0 about1 = true := code_word (m := ⟨8, 0⟩) (meth := k8m0) (c := k8c0) (by decide +kernel) rfl rfl rfl (by decide +kernel)
set_option maxRecDepth 65536 in
theorem w_c12 : (Jvm.Cond.code ({ cls := "java/lang/Object", name := "<init>", desc := "()V" } : Jvm.MethodName) object_method_1_code (1 : Nat) (Option.none : Option Jvm.ClassFile.FieldType)).before args0 about1 = true := code_word (m := ⟨0, 0⟩) (meth := k0m0) (c := k0c0) (by decide +kernel) rfl rfl rfl (by decide +kernel)
set_option maxRecDepth 65536 in
theorem w_c13 : (Jvm.Cond.code ({ cls := "com/example/tagwire/tagwire/core/FloatValue", name := "isFinite", desc := "()Z" } : Jvm.MethodName) prog_14_method_10_code (1 : Nat) (Option.some Jvm.ClassFile.FieldType.boolean)).before args0 about1 = true := code_word (m := ⟨8, 3⟩) (meth := k8m3) (c := k8c3) (by decide +kernel) rfl rfl rfl (by decide +kernel)
set_option maxRecDepth 65536 in
theorem w_c14 : (Jvm.Cond.code ({ cls := "com/example/tagwire/tagwire/core/FloatValue", name := "exponentField", desc := "()I" } : Jvm.MethodName) prog_14_method_17_code (1 : Nat) (Option.some Jvm.ClassFile.FieldType.int)).before args0 about1 = true := code_word (m := ⟨8, 4⟩) (meth := k8m4) (c := k8c4) (by decide +kernel) rfl rfl rfl (by decide +kernel)
set_option maxRecDepth 65536 in
theorem w_c15 : (Jvm.Cond.code ({ cls := "com/example/tagwire/tagwire/core/FloatFormat", name := "significandBits", desc := "()I" } : Jvm.MethodName) prog_11_method_6_code (1 : Nat) (Option.some Jvm.ClassFile.FieldType.int)).before args0 about1 = true := code_word (m := ⟨6, 2⟩) (meth := k6m2) (c := k6c2) (by decide +kernel) rfl rfl rfl (by decide +kernel)
set_option maxRecDepth 65536 in
theorem w_c16 : (Jvm.Cond.code ({ cls := "com/example/tagwire/tagwire/core/FloatFormat", name := "exponentBits", desc := "()I" } : Jvm.MethodName) prog_11_method_5_code (1 : Nat) (Option.some Jvm.ClassFile.FieldType.int)).before args0 about1 = true := code_word (m := ⟨6, 1⟩) (meth := k6m1) (c := k6c1) (by decide +kernel) rfl rfl rfl (by decide +kernel)
set_option maxRecDepth 65536 in
theorem w_c17 : (Jvm.Cond.code ({ cls := "com/example/tagwire/tagwire/core/FloatValue", name := "bits", desc := "(II)J" } : Jvm.MethodName) prog_14_method_23_code (5 : Nat) (Option.some Jvm.ClassFile.FieldType.long)).before args0 about1 = true := code_word (m := ⟨8, 8⟩) (meth := k8m8) (c := k8c8) (by decide +kernel) rfl rfl rfl (by decide +kernel)
set_option maxRecDepth 65536 in
theorem w_c18 : (Jvm.Cond.code ({ cls := "com/example/tagwire/tagwire/core/FloatFormat", name := "maxExponent", desc := "()I" } : Jvm.MethodName) prog_11_method_9_code (1 : Nat) (Option.some Jvm.ClassFile.FieldType.int)).before args0 about1 = true := code_word (m := ⟨6, 4⟩) (meth := k6m4) (c := k6c4) (by decide +kernel) rfl rfl rfl (by decide +kernel)
set_option maxRecDepth 65536 in
theorem w_c19 : (Jvm.Cond.code ({ cls := "com/example/tagwire/tagwire/core/FloatValue", name := "canonicalSpecial", desc := "()Lcom/example/tagwire/tagwire/core/FloatValue;" } : Jvm.MethodName) prog_14_method_22_code (5 : Nat) (Option.some (Jvm.ClassFile.FieldType.object "com/example/tagwire/tagwire/core/FloatValue"))).before args0 about1 = true := code_word (m := ⟨8, 7⟩) (meth := k8m7) (c := k8c7) (by decide +kernel) rfl rfl rfl (by decide +kernel)
set_option maxRecDepth 65536 in
theorem w_c20 : (Jvm.Cond.code ({ cls := "com/example/tagwire/tagwire/core/FloatValue", name := "isNaN", desc := "()Z" } : Jvm.MethodName) prog_14_method_8_code (1 : Nat) (Option.some Jvm.ClassFile.FieldType.boolean)).before args0 about1 = true := code_word (m := ⟨8, 2⟩) (meth := k8m2) (c := k8c2) (by decide +kernel) rfl rfl rfl (by decide +kernel)
set_option maxRecDepth 65536 in
theorem w_c21 : (Jvm.Cond.code ({ cls := "com/example/tagwire/tagwire/core/FloatValue", name := "fractionIsZero", desc := "()Z" } : Jvm.MethodName) prog_14_method_21_code (2 : Nat) (Option.some Jvm.ClassFile.FieldType.boolean)).before args0 about1 = true := code_word (m := ⟨8, 6⟩) (meth := k8m6) (c := k8c6) (by decide +kernel) rfl rfl rfl (by decide +kernel)
set_option maxRecDepth 65536 in
theorem w_c22 : (Jvm.Cond.code ({ cls := "com/example/tagwire/tagwire/core/FloatFormat", name := "fractionBits", desc := "()I" } : Jvm.MethodName) prog_11_method_8_code (1 : Nat) (Option.some Jvm.ClassFile.FieldType.int)).before args0 about1 = true := code_word (m := ⟨6, 3⟩) (meth := k6m3) (c := k6c3) (by decide +kernel) rfl rfl rfl (by decide +kernel)
set_option maxRecDepth 65536 in
theorem w_c23 : (Jvm.Cond.code ({ cls := "java/lang/Math", name := "min", desc := "(II)I" } : Jvm.MethodName) jdk_29_method_69_code (2 : Nat) (Option.some Jvm.ClassFile.FieldType.int)).before args0 about1 = true := code_word (m := ⟨9, 1⟩) (meth := k9m1) (c := k9c1) (by decide +kernel) rfl rfl rfl (by decide +kernel)
set_option maxRecDepth 65536 in
theorem w_c24 : (Jvm.Cond.code ({ cls := "com/example/tagwire/tagwire/core/FloatValue", name := "ones", desc := "(II)J" } : Jvm.MethodName) prog_14_method_24_code (2 : Nat) (Option.some Jvm.ClassFile.FieldType.long)).before args0 about1 = true := code_word (m := ⟨8, 9⟩) (meth := k8m9) (c := k8c9) (by decide +kernel) rfl rfl rfl (by decide +kernel)
set_option maxRecDepth 65536 in
theorem w_c25 : (Jvm.Cond.code ({ cls := "com/example/tagwire/tagwire/core/FloatValue", name := "equals", desc := "(Ljava/lang/Object;)Z" } : Jvm.MethodName) prog_14_method_18_code (3 : Nat) (Option.some Jvm.ClassFile.FieldType.boolean)).before args0 about1 = true := code_word (m := ⟨8, 5⟩) (meth := k8m5) (c := k8c5) (by decide +kernel) rfl rfl rfl (by decide +kernel)
set_option maxRecDepth 65536 in
theorem w_c26 : (Jvm.Cond.code ({ cls := "com/example/tagwire/tagwire/core/FloatValueEqualsPinLaw", name := "highTop", desc := "(I)J" } : Jvm.MethodName) method_8_code (1 : Nat) (Option.some Jvm.ClassFile.FieldType.long)).before args0 about1 = true := code_word (m := ⟨1, 7⟩) (meth := k1m7) (c := k1c7) (by decide +kernel) rfl rfl rfl (by decide +kernel)
set_option maxRecDepth 65536 in
theorem w_c27 : (Jvm.Cond.code ({ cls := "com/example/tagwire/tagwire/core/FloatValueEqualsPinLaw", name := "lowTop", desc := "(I)J" } : Jvm.MethodName) method_7_code (1 : Nat) (Option.some Jvm.ClassFile.FieldType.long)).before args0 about1 = true := code_word (m := ⟨1, 6⟩) (meth := k1m6) (c := k1c6) (by decide +kernel) rfl rfl rfl (by decide +kernel)
set_option maxRecDepth 65536 in
theorem w_c28 : (Jvm.Cond.code ({ cls := "java/lang/Long", name := "valueOf", desc := "(J)Ljava/lang/Long;" } : Jvm.MethodName) jdk_35_method_24_code (3 : Nat) (Option.some (Jvm.ClassFile.FieldType.object "java/lang/Long"))).before args0 about1 = true := code_word (m := ⟨12, 0⟩) (meth := k12m0) (c := k12c0) (by decide +kernel) rfl rfl rfl (by decide +kernel)
set_option maxRecDepth 65536 in
theorem w_c29 : (Jvm.Cond.code ({ cls := "java/lang/Long", name := "<init>", desc := "(J)V" } : Jvm.MethodName) jdk_35_method_26_code (3 : Nat) (Option.none : Option Jvm.ClassFile.FieldType)).before args0 about1 = true := code_word (m := ⟨12, 1⟩) (meth := k12m1) (c := k12c1) (by decide +kernel) rfl rfl rfl (by decide +kernel)
set_option maxRecDepth 65536 in
theorem w_c30 : (Jvm.Cond.code ({ cls := "java/lang/Number", name := "<init>", desc := "()V" } : Jvm.MethodName) jdk_18_method_1_code (1 : Nat) (Option.none : Option Jvm.ClassFile.FieldType)).before args0 about1 = true := code_word (m := ⟨10, 0⟩) (meth := k10m0) (c := k10c0) (by decide +kernel) rfl rfl rfl (by decide +kernel)
def codes1 : List Jvm.Cond := [Jvm.Cond.code x code maxLocals ret, Jvm.Cond.code ({ cls := "com/example/tagwire/tagwire/core/FloatValueEqualsPinLaw", name := "encHigh", desc := "(IJZ)J" } : Jvm.MethodName) method_10_code (6 : Nat) (Option.some Jvm.ClassFile.FieldType.long), Jvm.Cond.code ({ cls := "com/example/tagwire/tagwire/core/FloatValueEqualsPinLaw", name := "highWidth", desc := "(I)J" } : Jvm.MethodName) method_4_code (1 : Nat) (Option.some Jvm.ClassFile.FieldType.long), Jvm.Cond.code ({ cls := "com/example/tagwire/tagwire/core/FloatValueEqualsPinLaw", name := "highExp", desc := "(I)J" } : Jvm.MethodName) method_6_code (1 : Nat) (Option.some Jvm.ClassFile.FieldType.long), Jvm.Cond.code ({ cls := "com/example/tagwire/tagwire/core/FloatValueEqualsPinLaw", name := "encLow", desc := "(IJZ)J" } : Jvm.MethodName) method_9_code (6 : Nat) (Option.some Jvm.ClassFile.FieldType.long), Jvm.Cond.code ({ cls := "com/example/tagwire/tagwire/core/FloatValueEqualsPinLaw", name := "lowWidth", desc := "(I)J" } : Jvm.MethodName) method_3_code (1 : Nat) (Option.some Jvm.ClassFile.FieldType.long), Jvm.Cond.code ({ cls := "com/example/tagwire/tagwire/core/FloatValueEqualsPinLaw", name := "lowExp", desc := "(I)J" } : Jvm.MethodName) method_5_code (1 : Nat) (Option.some Jvm.ClassFile.FieldType.long), Jvm.Cond.code ({ cls := "com/example/tagwire/tagwire/core/FloatValueEqualsPinLaw", name := "fmt", desc := "(I)Lcom/example/tagwire/tagwire/core/FloatFormat;" } : Jvm.MethodName) method_2_code (1 : Nat) (Option.some (Jvm.ClassFile.FieldType.object "com/example/tagwire/tagwire/core/FloatFormat")), Jvm.Cond.code ({ cls := "com/example/tagwire/tagwire/core/FloatValue", name := "ofBits", desc := "(Lcom/example/tagwire/tagwire/core/FloatFormat;JJ)Lcom/example/tagwire/tagwire/core/FloatValue;" } : Jvm.MethodName) prog_14_method_3_code (7 : Nat) (Option.some (Jvm.ClassFile.FieldType.object "com/example/tagwire/tagwire/core/FloatValue")), Jvm.Cond.code ({ cls := "com/example/tagwire/tagwire/core/FloatFormat", name := "bytes", desc := "()I" } : Jvm.MethodName) prog_11_method_4_code (1 : Nat) (Option.some Jvm.ClassFile.FieldType.int), Jvm.Cond.code ({ cls := "com/example/tagwire/tagwire/core/FloatValue", name := "mask", desc := "(I)J" } : Jvm.MethodName) prog_14_method_25_code (1 : Nat) (Option.some Jvm.ClassFile.FieldType.long), Jvm.Cond.code ({ cls := "com/example/tagwire/tagwire/core/FloatValue", name := "<init>", desc := "(Lcom/example/tagwire/tagwire/core/FloatFormat;JJ)V" } : Jvm.MethodName) prog_14_method_2_code (6 : Nat) (Option.none : Option Jvm.ClassFile.FieldType), Jvm.Cond.code ({ cls := "java/lang/Object", name := "<init>", desc := "()V" } : Jvm.MethodName) object_method_1_code (1 : Nat) (Option.none : Option Jvm.ClassFile.FieldType), Jvm.Cond.code ({ cls := "com/example/tagwire/tagwire/core/FloatValue", name := "isFinite", desc := "()Z" } : Jvm.MethodName) prog_14_method_10_code (1 : Nat) (Option.some Jvm.ClassFile.FieldType.boolean), Jvm.Cond.code ({ cls := "com/example/tagwire/tagwire/core/FloatValue", name := "exponentField", desc := "()I" } : Jvm.MethodName) prog_14_method_17_code (1 : Nat) (Option.some Jvm.ClassFile.FieldType.int), Jvm.Cond.code ({ cls := "com/example/tagwire/tagwire/core/FloatFormat", name := "significandBits", desc := "()I" } : Jvm.MethodName) prog_11_method_6_code (1 : Nat) (Option.some Jvm.ClassFile.FieldType.int), Jvm.Cond.code ({ cls := "com/example/tagwire/tagwire/core/FloatFormat", name := "exponentBits", desc := "()I" } : Jvm.MethodName) prog_11_method_5_code (1 : Nat) (Option.some Jvm.ClassFile.FieldType.int), Jvm.Cond.code ({ cls := "com/example/tagwire/tagwire/core/FloatValue", name := "bits", desc := "(II)J" } : Jvm.MethodName) prog_14_method_23_code (5 : Nat) (Option.some Jvm.ClassFile.FieldType.long), Jvm.Cond.code ({ cls := "com/example/tagwire/tagwire/core/FloatFormat", name := "maxExponent", desc := "()I" } : Jvm.MethodName) prog_11_method_9_code (1 : Nat) (Option.some Jvm.ClassFile.FieldType.int), Jvm.Cond.code ({ cls := "com/example/tagwire/tagwire/core/FloatValue", name := "canonicalSpecial", desc := "()Lcom/example/tagwire/tagwire/core/FloatValue;" } : Jvm.MethodName) prog_14_method_22_code (5 : Nat) (Option.some (Jvm.ClassFile.FieldType.object "com/example/tagwire/tagwire/core/FloatValue")), Jvm.Cond.code ({ cls := "com/example/tagwire/tagwire/core/FloatValue", name := "isNaN", desc := "()Z" } : Jvm.MethodName) prog_14_method_8_code (1 : Nat) (Option.some Jvm.ClassFile.FieldType.boolean), Jvm.Cond.code ({ cls := "com/example/tagwire/tagwire/core/FloatValue", name := "fractionIsZero", desc := "()Z" } : Jvm.MethodName) prog_14_method_21_code (2 : Nat) (Option.some Jvm.ClassFile.FieldType.boolean), Jvm.Cond.code ({ cls := "com/example/tagwire/tagwire/core/FloatFormat", name := "fractionBits", desc := "()I" } : Jvm.MethodName) prog_11_method_8_code (1 : Nat) (Option.some Jvm.ClassFile.FieldType.int), Jvm.Cond.code ({ cls := "java/lang/Math", name := "min", desc := "(II)I" } : Jvm.MethodName) jdk_29_method_69_code (2 : Nat) (Option.some Jvm.ClassFile.FieldType.int), Jvm.Cond.code ({ cls := "com/example/tagwire/tagwire/core/FloatValue", name := "ones", desc := "(II)J" } : Jvm.MethodName) prog_14_method_24_code (2 : Nat) (Option.some Jvm.ClassFile.FieldType.long), Jvm.Cond.code ({ cls := "com/example/tagwire/tagwire/core/FloatValue", name := "equals", desc := "(Ljava/lang/Object;)Z" } : Jvm.MethodName) prog_14_method_18_code (3 : Nat) (Option.some Jvm.ClassFile.FieldType.boolean), Jvm.Cond.code ({ cls := "com/example/tagwire/tagwire/core/FloatValueEqualsPinLaw", name := "highTop", desc := "(I)J" } : Jvm.MethodName) method_8_code (1 : Nat) (Option.some Jvm.ClassFile.FieldType.long), Jvm.Cond.code ({ cls := "com/example/tagwire/tagwire/core/FloatValueEqualsPinLaw", name := "lowTop", desc := "(I)J" } : Jvm.MethodName) method_7_code (1 : Nat) (Option.some Jvm.ClassFile.FieldType.long), Jvm.Cond.code ({ cls := "java/lang/Long", name := "valueOf", desc := "(J)Ljava/lang/Long;" } : Jvm.MethodName) jdk_35_method_24_code (3 : Nat) (Option.some (Jvm.ClassFile.FieldType.object "java/lang/Long")), Jvm.Cond.code ({ cls := "java/lang/Long", name := "<init>", desc := "(J)V" } : Jvm.MethodName) jdk_35_method_26_code (3 : Nat) (Option.none : Option Jvm.ClassFile.FieldType), Jvm.Cond.code ({ cls := "java/lang/Number", name := "<init>", desc := "()V" } : Jvm.MethodName) jdk_18_method_1_code (1 : Nat) (Option.none : Option Jvm.ClassFile.FieldType)]
set_option maxRecDepth 65536 in
theorem codes_eq : words1.filter isCode = codes1 := rfl
theorem w_codes : ∀ c ∈ words1.filter isCode, c.before args0 about1 = true := by
  rw [codes_eq]
  intro c hc
  simp only [codes1, List.mem_cons, List.not_mem_nil, or_false] at hc
  rcases hc with rfl | rfl | rfl | rfl | rfl | rfl | rfl | rfl | rfl | rfl | rfl | rfl | rfl | rfl | rfl | rfl | rfl | rfl | rfl | rfl | rfl | rfl | rfl | rfl | rfl | rfl | rfl | rfl | rfl | rfl | rfl
  · exact w_c0
  · exact w_c1
  · exact w_c2
  · exact w_c3
  · exact w_c4
  · exact w_c5
  · exact w_c6
  · exact w_c7
  · exact w_c8
  · exact w_c9
  · exact w_c10
  · exact w_c11
  · exact w_c12
  · exact w_c13
  · exact w_c14
  · exact w_c15
  · exact w_c16
  · exact w_c17
  · exact w_c18
  · exact w_c19
  · exact w_c20
  · exact w_c21
  · exact w_c22
  · exact w_c23
  · exact w_c24
  · exact w_c25
  · exact w_c26
  · exact w_c27
  · exact w_c28
  · exact w_c29
  · exact w_c30
set_option maxRecDepth 65536 in
theorem w_t1 : (words1.take 24).all (fun c => isCode c || c.before args0 about1) = true := by decide +kernel
set_option maxRecDepth 65536 in
theorem w_t2 : ((words1.drop 24).take 24).all (fun c => isCode c || c.before args0 about1) = true := by decide +kernel
set_option maxRecDepth 65536 in
theorem w_t3 : (((words1.drop 24).drop 24).take 24).all (fun c => isCode c || c.before args0 about1) = true := by decide +kernel
set_option maxRecDepth 65536 in
theorem w_t4 : ((((words1.drop 24).drop 24).drop 24).take 24).all (fun c => isCode c || c.before args0 about1) = true := by decide +kernel
set_option maxRecDepth 65536 in
theorem w_t5 : (((((words1.drop 24).drop 24).drop 24).drop 24).take 24).all (fun c => isCode c || c.before args0 about1) = true := by decide +kernel
set_option maxRecDepth 65536 in
theorem w_t6 : ((((((words1.drop 24).drop 24).drop 24).drop 24).drop 24).take 24).all (fun c => isCode c || c.before args0 about1) = true := by decide +kernel
set_option maxRecDepth 65536 in
theorem w_t7 : (((((((words1.drop 24).drop 24).drop 24).drop 24).drop 24).drop 24).take 24).all (fun c => isCode c || c.before args0 about1) = true := by decide +kernel
set_option maxRecDepth 65536 in
theorem w_t8 : (((((((words1.drop 24).drop 24).drop 24).drop 24).drop 24).drop 24).drop 24).all (fun c => isCode c || c.before args0 about1) = true := by decide +kernel
theorem w_tables : (allAtoms (Jvm.Cond.code x code maxLocals ret :: tables_1)).before args0 about1 = true := by
  rw [allAtoms_all]
  show words1.all (fun c => c.before args0 about1) = true
  refine all_split ?_ w_codes
  rw [← List.take_append_drop 24 words1, List.all_append, w_t1, ← List.take_append_drop 24 (words1.drop 24), List.all_append, w_t2, ← List.take_append_drop 24 ((words1.drop 24).drop 24), List.all_append, w_t3, ← List.take_append_drop 24 (((words1.drop 24).drop 24).drop 24), List.all_append, w_t4, ← List.take_append_drop 24 ((((words1.drop 24).drop 24).drop 24).drop 24), List.all_append, w_t5, ← List.take_append_drop 24 (((((words1.drop 24).drop 24).drop 24).drop 24).drop 24), List.all_append, w_t6, ← List.take_append_drop 24 ((((((words1.drop 24).drop 24).drop 24).drop 24).drop 24).drop 24), List.all_append, w_t7, w_t8]
  rfl
set_option maxRecDepth 65536 in
theorem w_rest : rest_1_c.before args0 about1 = true := by decide +kernel
set_option maxRecDepth 65536 in
theorem w_case : (Jvm.Cond.and given_1 narrow_1).before args0 about1 = true := by decide +kernel
theorem w_applies : (headSpec (Jvm.Cond.code x code maxLocals ret :: tables_1) room_1).applies x e0.platform about1 = true :=
  (Spec.applies_iff w_frames).mpr ⟨w_running, w_runnable, w_alone, w_named, w_hears, w_ripe, w_room, w_tables⟩
theorem atStart : AtStart classFile x code maxLocals ret World_1 tables_1 room_1 Calls_1 rest_1 Pre_1 launch0 p0 e0 about1 theMethod args0 below0 :=
  ⟨lists_1, trivial, launch0.admits_env _ _ _, launch0.least_env, fairChoices_fair.cas, fairChoices_fair.clock, w_frames, w_args, w_heap, w_applies, trivial, w_rest, w_case⟩
end start1
theorem witness_1 : WitnessClaimed_1 := ⟨start1.p0, start1.e0, start1.about1, start1.theMethod, start1.args0, start1.below0, start1.atStart⟩
end Jvm.Pilot.@@N@@
