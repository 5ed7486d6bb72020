import JvmDerived
import JvmDerived.Pilot.@@N@@Statement
import JvmDerived.Pilot.@@N@@Code
set_option linter.unusedVariables false
set_option linter.unusedSimpArgs false
namespace Jvm.RoadKit
open Sem ClassFile Op Lib Jvm.Stand Jvm.Free Jvm.LawKit
section New
variable {p : Program} {l : Launch} {e : Env} {R : Room} {s : State} {m : MethodId} {args : Array Value} {below : List Frame} {meth : Method} {c : Code} {T : State} {locs : List Loc} {cells slots : Nat}
theorem retI (X : Stand p l e R s m args below meth c T locs cells slots) (hx : p.tables.exec = Jvm.exec) {pc : Nat} {Ls : Array Slot} {z : Int32} {rest : List Value} (hret : meth.sig.returnType = some .int) (hd : decode c.code pc = .ok (.ireturn, 1)) {fs : List Frame}
    (hl : ∀ (f : JFrame) (acts : List Action), f.method = m → f.locked = none → f.entered = [] → (doReturn e (T.setTop f) acts (some (.int z))).1 = T.setFrames fs) : Steps p.tables e below (T.setTop (mkF m pc Ls (.int z :: rest))) (T.setFrames fs) := by
  have hm' : T.vm.method? m = some meth := X.method'
  have hn : narrow .int (.int z) = .int z := rfl
  show Steps p.tables e below (T.setTop { method := m, pc := pc, locals := Ls, stack := _ :: rest, locked := none }) _
  jvm_step X.here [X.here.top, hx, hd, hm', hret, hn]
  first | (intro acts; rw [hl _ acts rfl rfl rfl]) | rw [hl _ _ rfl rfl rfl]
  exact Steps.refl _
end New
theorem own_lc_tlt {a b : Int64} (h : a < b) : lcmpW a b < 0 := by rw [lcW]; exact (lc_lt _ _).2 h
theorem own_lc_flt {a b : Int64} (h : ¬ a < b) : ¬ lcmpW a b < 0 := by rw [lcW]; exact fun q => h ((lc_lt _ _).1 q)
theorem own_lc_tgt {a b : Int64} (h : b < a) : 0 < lcmpW a b := by rw [lcW]; exact (lc_gt _ _).2 h
theorem own_lc_fgt {a b : Int64} (h : ¬ b < a) : ¬ 0 < lcmpW a b := by rw [lcW]; exact fun q => h ((lc_gt _ _).1 q)
theorem own_lc_teq {a b : Int64} (h : a = b) : lcmpW a b = 0 := by rw [lcW]; exact (lc_eq _ _).2 h
theorem own_one {c : Prop} [Decidable c] {A B : Slot} (ha : One A) (hb : One B) : One (if c then A else B) := by
  by_cases h : c
  · rw [if_pos h]; exact ha
  · rw [if_neg h]; exact hb
theorem own_lc_feq {a b : Int64} (h : ¬ a = b) : ¬ lcmpW a b = 0 := by rw [lcW]; exact fun q => h ((lc_eq _ _).1 q)
end Jvm.RoadKit
namespace Jvm.Pilot.@@N@@
open Jvm Jvm.ClassFile Sem Op Lib Jvm.Free Jvm.Stand Jvm.LawKit Jvm.RoadKit Bundle Jvm.Pilot.@@N@@.Jvm.D

def own_A (Z : State) (h : Heap) (a : Addr) (ty : FieldType) (n : Int32) (y : Int32 → Value) : Prop := ∃ c : Cell, Arr Z h a c ty ∧ c.slots.size = n.toNatClampNeg ∧ ¬ n < 0 ∧ ∀ j : Int32, ¬ (j < 0 ∨ c.slots.size ≤ j.toNatClampNeg) → c.slots[j.toNatClampNeg]? = some (y j)
theorem own_A_lt {Z : State} {h : Heap} {a : Addr} {ty : FieldType} {n : Int32} {y : Int32 → Value} (F : own_A Z h a ty n y) : a < h.size := by obtain ⟨c, A, -⟩ := F; exact A.lt
theorem own_A_ext {Z : State} {h h' : Heap} {a : Addr} {ty : FieldType} {n : Int32} {y : Int32 → Value} (F : own_A Z h a ty n y) (E : Ext h h') : own_A Z h' a ty n y := by obtain ⟨c, A, r⟩ := F; exact ⟨c, A.ext E, r⟩
theorem own_A_other {Z : State} {h h' : Heap} {a b : Addr} {ty : FieldType} {n : Int32} {y : Int32 → Value} {sl : Nat} {v : Value} (F : own_A Z h b ty n y) (W : Wr h h' a sl v) (q : b ≠ a) : own_A Z h' b ty n y := by obtain ⟨c, A, r⟩ := F; exact ⟨c, A.other W q, r⟩
theorem own_A_keep {Z : State} {h h' : Heap} {a : Addr} {ty : FieldType} {n : Int32} {y : Int32 → Value} {ws : List Addr} (F : own_A Z h a ty n y) (K : Keep h h' ws) (q : a ∉ ws) : own_A Z h' a ty n y := by obtain ⟨c, A, r⟩ := F; exact ⟨c, ⟨K.2.1 a c A.1 q, A.2⟩, r⟩
theorem own_A_new {Z : State} {h : Heap} {a : Addr} {k : ClassId} {ty : FieldType} {n : Int32} (A : Arr Z h a (newA k ty n) ty) (q : ¬ n < 0) : own_A Z h a ty n (fun _ => defaultValue ty) := by
  obtain ⟨c, A', -, S, M, H, -⟩ := Arv.new A q
  exact ⟨c, A', S, M, fun j hj => (H _ (Nat.lt_of_not_le fun y => hj (Or.inr y))).trans (by simp)⟩
theorem own_A_set {Z : State} {h h' : Heap} {a : Addr} {ty : FieldType} {n j : Int32} {y z : Int32 → Value} {v : Value} {c : Cell} (A : Arr Z h a c ty) (S : c.slots.size = n.toNatClampNeg) (M : ¬ n < 0) (H : ∀ j : Int32, ¬ (j < 0 ∨ c.slots.size ≤ j.toNatClampNeg) → c.slots[j.toNatClampNeg]? = some (y j)) (hj : ¬ (j < 0 ∨ c.slots.size ≤ j.toNatClampNeg)) (W : Wr h h' a j.toNatClampNeg v) (hz : z j = v) (hz' : ∀ i, ¬ i = j → z i = y i) : own_A Z h' a ty n z := by
  refine ⟨_, A.same W, by rw [sz_set]; exact S, M, fun i hi => ?_⟩
  rw [sz_set] at hi
  have hs : (c.setSlot j.toNatClampNeg v).slots = c.slots.setIfInBounds j.toNatClampNeg v := rfl
  rw [hs, Array.getElem?_setIfInBounds]
  by_cases e : i = j
  · subst e
    rw [if_pos rfl, if_pos (Nat.lt_of_not_le fun q => hj (Or.inr q)), hz]
  · have e' : ¬ j.toNatClampNeg = i.toNatClampNeg := fun q => e (Int32.toInt_inj.mp (by rw [nat_of (fun z => hi (Or.inl z)), nat_of (fun z => hj (Or.inl z)), q]))
    rw [if_neg e', hz' i e]
    exact H i hi
theorem own_setI {y : Int32 → Int32} {j x : Int32} : Value.int ((fun i => if i = j then x else y i) j) = .int x := congrArg Value.int (if_pos rfl)
theorem own_setI' {y : Int32 → Int32} {j x : Int32} : ∀ i, ¬ i = j → Value.int ((fun i => if i = j then x else y i) i) = .int (y i) := fun i h => congrArg Value.int (if_neg h)
theorem own_setJ {y : Int32 → Int64} {j : Int32} {x : Int64} : Value.long ((fun i => if i = j then x else y i) j) = .long x := congrArg Value.long (if_pos rfl)
theorem own_setJ' {y : Int32 → Int64} {j : Int32} {x : Int64} : ∀ i, ¬ i = j → Value.long ((fun i => if i = j then x else y i) i) = .long (y i) := fun i h => congrArg Value.long (if_neg h)

theorem own_A_congr {Z : State} {h : Heap} {a : Addr} {ty : FieldType} {n : Int32} {y y' : Int32 → Value} (F : own_A Z h a ty n y) (e : ∀ i, y i = y' i) : own_A Z h a ty n y' := by
  have : y = y' := funext e
  subst this; exact F

theorem own_nat {c : Int32} (n : Nat) (h0 : 0 ≤ c.toInt) (h1 : c.toInt < n) : ∃ k : Nat, k < n ∧ c = Int32.ofInt k :=
  ⟨c.toInt.toNat, by omega, by rw [Int.toNat_of_nonneg h0, Int32.ofInt_toInt]⟩
theorem own_i2c (x : Int32) : 0 ≤ (x.toUInt32.toUInt16.toUInt32.toInt32).toInt ∧ (x.toUInt32.toUInt16.toUInt32.toInt32).toInt < 65536 := by
  have h : (decide ((0 : Int32) ≤ x.toUInt32.toUInt16.toUInt32.toInt32) && decide (x.toUInt32.toUInt16.toUInt32.toInt32 ≤ (65535 : Int32))) = true := fits_nar_char x
  rw [Bool.and_eq_true, decide_eq_true_eq, decide_eq_true_eq, Int32.le_iff_toInt_le, Int32.le_iff_toInt_le] at h
  have e1 : (0 : Int32).toInt = 0 := by decide
  have e2 : (65535 : Int32).toInt = 65535 := by decide
  omega
theorem own_nb (c : Prop) [Decidable c] : nar .boolean (if c then (1 : Int32) else 0) = if c then 1 else 0 := by
  by_cases h : c
  · rw [if_pos h]; decide
  · rw [if_neg h]; decide

def own_W (Z : State) (cs : Int32) : Prop := Sta Z Z.heap "java/lang/String" "COMPACT_STRINGS" "Z" (.int cs) ∧ ¬ cs = (0 : Int32) ∧ Sta Z Z.heap "java/lang/StringUTF16" "$assertionsDisabled" "Z" (.int (1 : Int32)) ∧ Sta Z Z.heap "java/lang/StringUTF16" "HI_BYTE_SHIFT" "I" (.int (0 : Int32)) ∧ Sta Z Z.heap "java/lang/StringUTF16" "LO_BYTE_SHIFT" "I" (.int (8 : Int32)) ∧ ∃ fm : Value, Sta Z Z.heap "jdk/internal/util/Preconditions" "SIOOBE_FORMATTER" "Ljava/util/function/BiFunction;" fm ∧ fm.isRef = true
def own_P (y : Int32 → Int32) : Prop := ∀ i, 0 ≤ (y i).toInt ∧ (y i).toInt < 65536
theorem own_P0 : own_P (fun _ => (0 : Int32)) := fun _ => (by decide : 0 ≤ (0 : Int32).toInt ∧ (0 : Int32).toInt < 65536)
theorem own_P_set {y : Int32 → Int32} {j x : Int32} (h : own_P y) (_ : True) : own_P (fun i => if i = j then (nar .char x) else y i) := fun i => by
  show 0 ≤ (if i = j then _ else _ : Int32).toInt ∧ (if i = j then _ else _ : Int32).toInt < _
  by_cases e : i = j
  · rw [if_pos e]; exact own_i2c x
  · rw [if_neg e]; exact h i
theorem own_castA {Z : State} {h : Heap} {a : Addr} {ty : FieldType} {n n' : Int32} {y : Int32 → Value} (e : n = n') (F : own_A Z h a ty n y) : own_A Z h a ty n' y := by subst e; exact F
theorem own_in2 {i : Int32} (h : ¬ i < 0 ∧ i < (6 : Int32)) : ¬ (i <<< ((1 : Int32) &&& 31)) < 0 ∧ (i <<< ((1 : Int32) &&& 31)) < (12 : Int32) := by
  have e0 : (0 : Int32).toInt = 0 := by decide
  have e6 : (6 : Int32).toInt = 6 := by decide
  rw [Int32.lt_iff_toInt_lt, Int32.lt_iff_toInt_lt] at h
  obtain ⟨k, hk, rfl⟩ := own_nat (c := i) 6 (by omega) (by omega)
  exact (by decide +kernel : ∀ k : Nat, k < 6 → ¬ ((Int32.ofInt k) <<< ((1 : Int32) &&& 31)) < 0 ∧ ((Int32.ofInt k) <<< ((1 : Int32) &&& 31)) < (12 : Int32)) k hk
theorem own_in3 {i : Int32} (h : ¬ i < 0 ∧ i < (6 : Int32)) : ¬ (i <<< ((1 : Int32) &&& 31)) + (1 : Int32) < 0 ∧ (i <<< ((1 : Int32) &&& 31)) + (1 : Int32) < (12 : Int32) := by
  have e0 : (0 : Int32).toInt = 0 := by decide
  have e6 : (6 : Int32).toInt = 6 := by decide
  rw [Int32.lt_iff_toInt_lt, Int32.lt_iff_toInt_lt] at h
  obtain ⟨k, hk, rfl⟩ := own_nat (c := i) 6 (by omega) (by omega)
  exact (by decide +kernel : ∀ k : Nat, k < 6 → ¬ ((Int32.ofInt k) <<< ((1 : Int32) &&& 31)) + (1 : Int32) < 0 ∧ ((Int32.ofInt k) <<< ((1 : Int32) &&& 31)) + (1 : Int32) < (12 : Int32)) k hk
theorem d18_0 : decode jdk_41_method_11_code 0 = .ok (.iload_n 0, 1) := by decide +kernel
theorem d18_1 : decode jdk_41_method_11_code 1 = .ok (.ifCond .lt 8, 3) := by decide +kernel
theorem d18_4 : decode jdk_41_method_11_code 4 = .ok (.iload_n 0, 1) := by decide +kernel
theorem d18_5 : decode jdk_41_method_11_code 5 = .ok (.iload_n 1, 1) := by decide +kernel
theorem d18_6 : decode jdk_41_method_11_code 6 = .ok (.if_icmp .lt 10, 3) := by decide +kernel
theorem d18_16 : decode jdk_41_method_11_code 16 = .ok (.iload_n 0, 1) := by decide +kernel
theorem d18_17 : decode jdk_41_method_11_code 17 = .ok (.ireturn, 1) := by decide +kernel
theorem pn_18 : plainName "jdk/internal/util/Preconditions" = true := by first | (simp [plainName, overriddenIn]; done) | decide +kernel
theorem ef_18r (m : MethodId) (p1 : Int32) (p2 : Int32) (a3 : Addr) : entryFrame m #[(.int p1), (.int p2), (.ref a3)] 3 = mkF m 0 #[.val (.int p1), .val (.int p2), .val (.ref a3)] [] := by first | (simp [entryFrame, mkF, argsToLocals, Value.category]; done) | rfl
def f18r (p1 : Int32) : Int32 :=
  p1
def Q18r (Z : State) (p1 : Int32) (p2 : Int32) (a3 : Addr)  (h0 : Heap) (n0 : Nat) (v : Option Value) (h : Heap) (L : List Loc) : Prop := v = some (.int (f18r p1)) ∧ Fr n0 L ∧ h = h0
set_option maxRecDepth 65536 in
set_option maxHeartbeats 40000000 in
theorem rm18r (l : Launch) (Z : State) (a0 : Array Value) (hw : ∀ d ∈ tables_1, d.before a0 Z = true) (ws : List Jvm.Cond) (p1 : Int32) (p2 : Int32) (a3 : Addr)  (h0 : Heap) (n0 : Nat) (Z0 : n0 ≤ h0.size) (hin : ¬ p1 < 0 ∧ p1 < p2) :
    MetFree l (⟨"jdk/internal/util/Preconditions", "checkIndex", "(IILjava/util/function/BiFunction;)I"⟩ : MethodName) (head1 (Jvm.Cond.code (⟨"jdk/internal/util/Preconditions", "checkIndex", "(IILjava/util/function/BiFunction;)I"⟩ : MethodName) jdk_41_method_11_code 3 (some .int) :: ws) ({ frames := 0, cells := 0, slots := 0, locals := 0 } : Room)) (fun a U => a = #[(.int p1), (.int p2), (.ref a3)] ∧ Z.Warmed39 U.vm ∧ U.heap = h0) (fun _ _ _ _ _ => True) (fun _ U o U' => ∃ v L, o = .returned v ∧ Q18r Z p1 p2 a3 h0 n0 v U'.heap L ∧ FrameEnd U o U' L ({ frames := 0, cells := 0, slots := 0, locals := 0 } : Room).cells ({ frames := 0, cells := 0, slots := 0, locals := 0 } : Room).slots) := by
  refine MetFree.of_bodySF (plainFor_of_name pn_18) hisR ?_
  intro p e s m args below meth c s₁ Bd hml0 hP hK
  obtain ⟨rfl, hZ, hh⟩ := hP
  have hx := Bd.exec
  have hby := Bd.bytes
  have hml : c.maxLocals = 3 := hml0
  have hown : s.vm.findClass "jdk/internal/util/Preconditions" = some m.cls := findClass_of_methodNamed Bd.named
  have hnm := (name_of_methodNamed Bd.named Bd.method).1
  have X0 : Stand p l e ({ frames := 0, cells := 0, slots := 0, locals := 0 } : Room) s m #[(.int p1), (.int p2), (.ref a3)] below meth c s₁ [] 0 0 := Stand.of_body Bd
  have e0 : s₁.heap = h0 := by rw [← hh, Bd.state]; rfl
  have N0 := Fr.nil n0
  have pre0 : ∀ t, Steps p.tables e below (s₁.setTop (mkF m 0 #[.val (.int p1), .val (.int p2), .val (.ref a3)] [])) t → Steps p.tables e below (s₁.setTop (entryFrame m #[(.int p1), (.int p2), (.ref a3)] 3)) t := fun t k => castTop (ef_18r m p1 p2 a3) k
  have er : (f18r p1) = p1 := by exact rfl
  obtain ⟨fs, hr, hrun, hended, hW, hsame⟩ := X0.leave (v := some (.int p1)) (fun h => by rw [Bd.returns] at h; cases h)
  refine ⟨_, _, pre0 _ ?_, hrun, hended, _, _, rfl, ?_, ⟨_, rfl⟩, hW, hsame.mono (by decide) (by decide)⟩
  · show Steps p.tables e below (s₁.setTop (mkF m 0 #[.val (.int p1), .val (.int p2), .val (.ref a3)] [])) _
    refine XS.iloadN X0.here hx rfl (hb hby d18_0) rfl ?_
    show Steps p.tables e below (s₁.setTop (mkF m 1 #[.val (.int p1), .val (.int p2), .val (.ref a3)] [(.int p1)])) _
    refine XS.ifNo X0.here hx rfl (hb hby d18_1) rfl ((if0 _ _).trans (flt hin.1).1) ?_
    show Steps p.tables e below (s₁.setTop (mkF m 4 #[.val (.int p1), .val (.int p2), .val (.ref a3)] [])) _
    refine XS.iloadN X0.here hx rfl (hb hby d18_4) rfl ?_
    show Steps p.tables e below (s₁.setTop (mkF m 5 #[.val (.int p1), .val (.int p2), .val (.ref a3)] [(.int p1)])) _
    refine XS.iloadN X0.here hx rfl (hb hby d18_5) rfl ?_
    show Steps p.tables e below (s₁.setTop (mkF m 6 #[.val (.int p1), .val (.int p2), .val (.ref a3)] [(.int p2), (.int p1)])) _
    refine XS.icmpYes X0.here hx rfl (pc0 := 6) (pc' := 16) rfl (hb hby d18_6) rfl (tlt hin.2).1 (by decide) (by decide) ?_
    show Steps p.tables e below (s₁.setTop (mkF m 16 #[.val (.int p1), .val (.int p2), .val (.ref a3)] [])) _
    refine XS.iloadN X0.here hx rfl (hb hby d18_16) rfl ?_
    show Steps p.tables e below (s₁.setTop (mkF m 17 #[.val (.int p1), .val (.int p2), .val (.ref a3)] [(.int p1)])) _
    exact retI X0 hx Bd.returns (hb hby d18_17) hr
  · show Q18r Z p1 p2 a3 h0 n0 _ s₁.heap _
    rw [e0]
    exact ⟨congrArg (fun z => some (Value.int z)) er.symm, N0, rfl⟩
theorem ef_18n (m : MethodId) (p1 : Int32) (p2 : Int32) : entryFrame m #[(.int p1), (.int p2), .null] 3 = mkF m 0 #[.val (.int p1), .val (.int p2), .val .null] [] := by first | (simp [entryFrame, mkF, argsToLocals, Value.category]; done) | rfl
def f18n (p1 : Int32) : Int32 :=
  p1
def Q18n (Z : State) (p1 : Int32) (p2 : Int32)  (h0 : Heap) (n0 : Nat) (v : Option Value) (h : Heap) (L : List Loc) : Prop := v = some (.int (f18n p1)) ∧ Fr n0 L ∧ h = h0
set_option maxRecDepth 65536 in
set_option maxHeartbeats 40000000 in
theorem rm18n (l : Launch) (Z : State) (a0 : Array Value) (hw : ∀ d ∈ tables_1, d.before a0 Z = true) (ws : List Jvm.Cond) (p1 : Int32) (p2 : Int32)  (h0 : Heap) (n0 : Nat) (Z0 : n0 ≤ h0.size) (hin : ¬ p1 < 0 ∧ p1 < p2) :
    MetFree l (⟨"jdk/internal/util/Preconditions", "checkIndex", "(IILjava/util/function/BiFunction;)I"⟩ : MethodName) (head1 (Jvm.Cond.code (⟨"jdk/internal/util/Preconditions", "checkIndex", "(IILjava/util/function/BiFunction;)I"⟩ : MethodName) jdk_41_method_11_code 3 (some .int) :: ws) ({ frames := 0, cells := 0, slots := 0, locals := 0 } : Room)) (fun a U => a = #[(.int p1), (.int p2), .null] ∧ Z.Warmed39 U.vm ∧ U.heap = h0) (fun _ _ _ _ _ => True) (fun _ U o U' => ∃ v L, o = .returned v ∧ Q18n Z p1 p2 h0 n0 v U'.heap L ∧ FrameEnd U o U' L ({ frames := 0, cells := 0, slots := 0, locals := 0 } : Room).cells ({ frames := 0, cells := 0, slots := 0, locals := 0 } : Room).slots) := by
  refine MetFree.of_bodySF (plainFor_of_name pn_18) hisR ?_
  intro p e s m args below meth c s₁ Bd hml0 hP hK
  obtain ⟨rfl, hZ, hh⟩ := hP
  have hx := Bd.exec
  have hby := Bd.bytes
  have hml : c.maxLocals = 3 := hml0
  have hown : s.vm.findClass "jdk/internal/util/Preconditions" = some m.cls := findClass_of_methodNamed Bd.named
  have hnm := (name_of_methodNamed Bd.named Bd.method).1
  have X0 : Stand p l e ({ frames := 0, cells := 0, slots := 0, locals := 0 } : Room) s m #[(.int p1), (.int p2), .null] below meth c s₁ [] 0 0 := Stand.of_body Bd
  have e0 : s₁.heap = h0 := by rw [← hh, Bd.state]; rfl
  have N0 := Fr.nil n0
  have pre0 : ∀ t, Steps p.tables e below (s₁.setTop (mkF m 0 #[.val (.int p1), .val (.int p2), .val .null] [])) t → Steps p.tables e below (s₁.setTop (entryFrame m #[(.int p1), (.int p2), .null] 3)) t := fun t k => castTop (ef_18n m p1 p2) k
  have er : (f18n p1) = p1 := by exact rfl
  obtain ⟨fs, hr, hrun, hended, hW, hsame⟩ := X0.leave (v := some (.int p1)) (fun h => by rw [Bd.returns] at h; cases h)
  refine ⟨_, _, pre0 _ ?_, hrun, hended, _, _, rfl, ?_, ⟨_, rfl⟩, hW, hsame.mono (by decide) (by decide)⟩
  · show Steps p.tables e below (s₁.setTop (mkF m 0 #[.val (.int p1), .val (.int p2), .val .null] [])) _
    refine XS.iloadN X0.here hx rfl (hb hby d18_0) rfl ?_
    show Steps p.tables e below (s₁.setTop (mkF m 1 #[.val (.int p1), .val (.int p2), .val .null] [(.int p1)])) _
    refine XS.ifNo X0.here hx rfl (hb hby d18_1) rfl ((if0 _ _).trans (flt hin.1).1) ?_
    show Steps p.tables e below (s₁.setTop (mkF m 4 #[.val (.int p1), .val (.int p2), .val .null] [])) _
    refine XS.iloadN X0.here hx rfl (hb hby d18_4) rfl ?_
    show Steps p.tables e below (s₁.setTop (mkF m 5 #[.val (.int p1), .val (.int p2), .val .null] [(.int p1)])) _
    refine XS.iloadN X0.here hx rfl (hb hby d18_5) rfl ?_
    show Steps p.tables e below (s₁.setTop (mkF m 6 #[.val (.int p1), .val (.int p2), .val .null] [(.int p2), (.int p1)])) _
    refine XS.icmpYes X0.here hx rfl (pc0 := 6) (pc' := 16) rfl (hb hby d18_6) rfl (tlt hin.2).1 (by decide) (by decide) ?_
    show Steps p.tables e below (s₁.setTop (mkF m 16 #[.val (.int p1), .val (.int p2), .val .null] [])) _
    refine XS.iloadN X0.here hx rfl (hb hby d18_16) rfl ?_
    show Steps p.tables e below (s₁.setTop (mkF m 17 #[.val (.int p1), .val (.int p2), .val .null] [(.int p1)])) _
    exact retI X0 hx Bd.returns (hb hby d18_17) hr
  · show Q18n Z p1 p2 h0 n0 _ s₁.heap _
    rw [e0]
    exact ⟨congrArg (fun z => some (Value.int z)) er.symm, N0, rfl⟩
theorem pd_0 : parseMethodDescriptor "(IILjava/util/function/BiFunction;)I" = some ⟨[.int, .int, (.object "java/util/function/BiFunction")], some .int⟩ := by decide +kernel
theorem d17_0 : decode jdk_42_method_155_code 0 = .ok (.iload_n 0, 1) := by decide +kernel
theorem d17_1 : decode jdk_42_method_155_code 1 = .ok (.iload_n 1, 1) := by decide +kernel
theorem d17_2 : decode jdk_42_method_155_code 2 = .ok (.getstatic 1053, 3) := by decide +kernel
theorem d17_5 : decode jdk_42_method_155_code 5 = .ok (.invokestatic 1059, 3) := by decide +kernel
theorem d17_8 : decode jdk_42_method_155_code 8 = .ok (.pop, 1) := by decide +kernel
theorem d17_9 : decode jdk_42_method_155_code 9 = .ok (.return_, 1) := by decide +kernel
theorem pn_17 : plainName "java/lang/String" = true := by first | (simp [plainName, overriddenIn]; done) | decide +kernel
theorem ef_17r (m : MethodId) (p1 : Int32) (p2 : Int32) : entryFrame m #[(.int p1), (.int p2)] 2 = mkF m 0 #[.val (.int p1), .val (.int p2)] [] := by first | (simp [entryFrame, mkF, argsToLocals, Value.category]; done) | rfl
def Q17r (Z : State) (p1 : Int32) (p2 : Int32) (s_SIOOBE_FORMATTER : Addr) (h0 : Heap) (n0 : Nat) (v : Option Value) (h : Heap) (L : List Loc) : Prop := v = none ∧ Fr n0 L ∧ h = h0
set_option maxRecDepth 65536 in
set_option maxHeartbeats 40000000 in
theorem rm17r (l : Launch) (Z : State) (a0 : Array Value) (hw : ∀ d ∈ tables_1, d.before a0 Z = true) (ws : List Jvm.Cond) (p1 : Int32) (p2 : Int32) (s_SIOOBE_FORMATTER : Addr) (h0 : Heap) (n0 : Nat) (Z0 : n0 ≤ h0.size) (S_SIOOBE_FORMATTER : Sta Z h0 "jdk/internal/util/Preconditions" "SIOOBE_FORMATTER" "Ljava/util/function/BiFunction;" (.ref s_SIOOBE_FORMATTER)) (hin : ¬ p1 < 0 ∧ p1 < p2) :
    MetFree l (⟨"java/lang/String", "checkIndex", "(II)V"⟩ : MethodName) (head1 (Jvm.Cond.code (⟨"java/lang/String", "checkIndex", "(II)V"⟩ : MethodName) jdk_42_method_155_code 2 none :: ws) ({ frames := 1, cells := 0, slots := 0, locals := 14 } : Room)) (fun a U => a = #[(.int p1), (.int p2)] ∧ Z.Warmed39 U.vm ∧ U.heap = h0) (fun _ _ _ _ _ => True) (fun _ U o U' => ∃ v L, o = .returned v ∧ Q17r Z p1 p2 s_SIOOBE_FORMATTER h0 n0 v U'.heap L ∧ FrameEnd U o U' L ({ frames := 1, cells := 0, slots := 0, locals := 14 } : Room).cells ({ frames := 1, cells := 0, slots := 0, locals := 14 } : Room).slots) := by
  refine MetFree.of_bodySF (plainFor_of_name pn_17) hisR ?_
  intro p e s m args below meth c s₁ Bd hml0 hP hK
  obtain ⟨rfl, hZ, hh⟩ := hP
  have hx := Bd.exec
  have hby := Bd.bytes
  have hml : c.maxLocals = 2 := hml0
  have hown : s.vm.findClass "java/lang/String" = some m.cls := findClass_of_methodNamed Bd.named
  have hnm := (name_of_methodNamed Bd.named Bd.method).1
  have X0 : Stand p l e ({ frames := 1, cells := 0, slots := 0, locals := 14 } : Room) s m #[(.int p1), (.int p2)] below meth c s₁ [] 0 0 := Stand.of_body Bd
  have e0 : s₁.heap = h0 := by rw [← hh, Bd.state]; rfl
  have N0 := Fr.nil n0
  have pre0 : ∀ t, Steps p.tables e below (s₁.setTop (mkF m 0 #[.val (.int p1), .val (.int p2)] [])) t → Steps p.tables e below (s₁.setTop (entryFrame m #[(.int p1), (.int p2)] 2)) t := fun t k => castTop (ef_17r m p1 p2) k
  obtain ⟨T1, X1, e1, st1⟩ := getS2 X0 hx hZ hown (host := "") (Or.inl (hw _ (List.mem_of_getElem? (i := 76) rfl))) Via.refl e0 S_SIOOBE_FORMATTER (g := (mkF m 2 #[.val (.int p1), .val (.int p2)] [(.int p2), (.int p1)])) rfl (hb hby d17_2)
  obtain ⟨_, _, ⟨T2, L2, k2, n2⟩, -, X2, ⟨Lc2, hQ2, l2, y2, z2⟩, st2⟩ := Jvm.LawKit.callS X1 hx (y := (⟨"jdk/internal/util/Preconditions", "checkIndex", "(IILjava/util/function/BiFunction;)I"⟩ : MethodName)) hown (mvT hZ (hw _ (List.mem_of_getElem? (i := 78) rfl))) (mvT hZ (hw _ (List.mem_of_getElem? (i := 79) rfl))) (mvT hZ (hw _ (List.mem_of_getElem? (i := 77) rfl))) (mvT hZ (hw _ (List.mem_of_getElem? (i := 80) rfl))) (by decide) (backOf (W := 0) (rm18r l Z a0 hw [] p1 p2 s_SIOOBE_FORMATTER h0 n0 Z0 hin) hZ (hw _ (List.mem_of_getElem? (i := 80) rfl)) (hw _ (List.mem_of_getElem? (i := 77) rfl)) (by decide) (by decide)) (g := (mkF m 5 #[.val (.int p1), .val (.int p2)] [(.ref s_SIOOBE_FORMATTER), (.int p2), (.int p1)])) rfl (by rw [hml]; rfl) (argsL := [(.int p1), (.int p2), (.ref s_SIOOBE_FORMATTER)]) (rest := []) (lenOf pd_0 rfl) rfl (by show 2 * 0 + _ ≤ _; exact Nat.le_of_eq rfl) (hb hby d17_5) (fun _ _ => ⟨rfl, e1, (by decide : 0 + 0 ≤ _), (by decide : 0 + 0 ≤ _)⟩)
  dsimp only [Pt.U, Pt.locs, Pt.cells, Pt.slots] at X2 l2 y2 z2 st2 hQ2
  subst l2 y2 z2
  obtain ⟨rfl, N2q, e2⟩ := hQ2
  have N2 := Fr.app N0 N2q
  obtain ⟨fs, hr, hrun, hended, hW, hsame⟩ := X2.leave (v := none) (fun _ => rfl)
  refine ⟨_, _, pre0 _ ?_, hrun, hended, _, _, rfl, ?_, ⟨_, rfl⟩, hW, hsame.mono (by decide) (by decide)⟩
  · show Steps p.tables e below (s₁.setTop (mkF m 0 #[.val (.int p1), .val (.int p2)] [])) _
    refine XS.iloadN X0.here hx rfl (hb hby d17_0) rfl ?_
    show Steps p.tables e below (s₁.setTop (mkF m 1 #[.val (.int p1), .val (.int p2)] [(.int p1)])) _
    refine XS.iloadN X0.here hx rfl (hb hby d17_1) rfl ?_
    show Steps p.tables e below (s₁.setTop (mkF m 2 #[.val (.int p1), .val (.int p2)] [(.int p2), (.int p1)])) _
    refine st1 _ ?_
    show Steps p.tables e below (T1.setTop (mkF m 5 #[.val (.int p1), .val (.int p2)] [(.ref s_SIOOBE_FORMATTER), (.int p2), (.int p1)])) _
    refine st2 _ ?_
    show Steps p.tables e below (T2.setTop (mkF m 8 #[.val (.int p1), .val (.int p2)] [(.int (f18r p1))])) _
    refine XS.pop X2.here hx rfl (hb hby d17_8) rfl rfl ?_
    show Steps p.tables e below (T2.setTop (mkF m 9 #[.val (.int p1), .val (.int p2)] [])) _
    exact X2.returnOut hx Bd.returns (hb hby d17_9) hr
  · show Q17r Z p1 p2 s_SIOOBE_FORMATTER h0 n0 _ T2.heap _
    rw [e2]
    exact ⟨rfl, N2, rfl⟩
theorem ef_17n (m : MethodId) (p1 : Int32) (p2 : Int32) : entryFrame m #[(.int p1), (.int p2)] 2 = mkF m 0 #[.val (.int p1), .val (.int p2)] [] := by first | (simp [entryFrame, mkF, argsToLocals, Value.category]; done) | rfl
def Q17n (Z : State) (p1 : Int32) (p2 : Int32)  (h0 : Heap) (n0 : Nat) (v : Option Value) (h : Heap) (L : List Loc) : Prop := v = none ∧ Fr n0 L ∧ h = h0
set_option maxRecDepth 65536 in
set_option maxHeartbeats 40000000 in
theorem rm17n (l : Launch) (Z : State) (a0 : Array Value) (hw : ∀ d ∈ tables_1, d.before a0 Z = true) (ws : List Jvm.Cond) (p1 : Int32) (p2 : Int32)  (h0 : Heap) (n0 : Nat) (Z0 : n0 ≤ h0.size) (S_SIOOBE_FORMATTER : Sta Z h0 "jdk/internal/util/Preconditions" "SIOOBE_FORMATTER" "Ljava/util/function/BiFunction;" .null) (hin : ¬ p1 < 0 ∧ p1 < p2) :
    MetFree l (⟨"java/lang/String", "checkIndex", "(II)V"⟩ : MethodName) (head1 (Jvm.Cond.code (⟨"java/lang/String", "checkIndex", "(II)V"⟩ : MethodName) jdk_42_method_155_code 2 none :: ws) ({ frames := 1, cells := 0, slots := 0, locals := 14 } : Room)) (fun a U => a = #[(.int p1), (.int p2)] ∧ Z.Warmed39 U.vm ∧ U.heap = h0) (fun _ _ _ _ _ => True) (fun _ U o U' => ∃ v L, o = .returned v ∧ Q17n Z p1 p2 h0 n0 v U'.heap L ∧ FrameEnd U o U' L ({ frames := 1, cells := 0, slots := 0, locals := 14 } : Room).cells ({ frames := 1, cells := 0, slots := 0, locals := 14 } : Room).slots) := by
  refine MetFree.of_bodySF (plainFor_of_name pn_17) hisR ?_
  intro p e s m args below meth c s₁ Bd hml0 hP hK
  obtain ⟨rfl, hZ, hh⟩ := hP
  have hx := Bd.exec
  have hby := Bd.bytes
  have hml : c.maxLocals = 2 := hml0
  have hown : s.vm.findClass "java/lang/String" = some m.cls := findClass_of_methodNamed Bd.named
  have hnm := (name_of_methodNamed Bd.named Bd.method).1
  have X0 : Stand p l e ({ frames := 1, cells := 0, slots := 0, locals := 14 } : Room) s m #[(.int p1), (.int p2)] below meth c s₁ [] 0 0 := Stand.of_body Bd
  have e0 : s₁.heap = h0 := by rw [← hh, Bd.state]; rfl
  have N0 := Fr.nil n0
  have pre0 : ∀ t, Steps p.tables e below (s₁.setTop (mkF m 0 #[.val (.int p1), .val (.int p2)] [])) t → Steps p.tables e below (s₁.setTop (entryFrame m #[(.int p1), (.int p2)] 2)) t := fun t k => castTop (ef_17n m p1 p2) k
  obtain ⟨T1, X1, e1, st1⟩ := getS2 X0 hx hZ hown (host := "") (Or.inl (hw _ (List.mem_of_getElem? (i := 76) rfl))) Via.refl e0 S_SIOOBE_FORMATTER (g := (mkF m 2 #[.val (.int p1), .val (.int p2)] [(.int p2), (.int p1)])) rfl (hb hby d17_2)
  obtain ⟨_, _, ⟨T2, L2, k2, n2⟩, -, X2, ⟨Lc2, hQ2, l2, y2, z2⟩, st2⟩ := Jvm.LawKit.callS X1 hx (y := (⟨"jdk/internal/util/Preconditions", "checkIndex", "(IILjava/util/function/BiFunction;)I"⟩ : MethodName)) hown (mvT hZ (hw _ (List.mem_of_getElem? (i := 78) rfl))) (mvT hZ (hw _ (List.mem_of_getElem? (i := 79) rfl))) (mvT hZ (hw _ (List.mem_of_getElem? (i := 77) rfl))) (mvT hZ (hw _ (List.mem_of_getElem? (i := 80) rfl))) (by decide) (backOf (W := 0) (rm18n l Z a0 hw [] p1 p2 h0 n0 Z0 hin) hZ (hw _ (List.mem_of_getElem? (i := 80) rfl)) (hw _ (List.mem_of_getElem? (i := 77) rfl)) (by decide) (by decide)) (g := (mkF m 5 #[.val (.int p1), .val (.int p2)] [.null, (.int p2), (.int p1)])) rfl (by rw [hml]; rfl) (argsL := [(.int p1), (.int p2), .null]) (rest := []) (lenOf pd_0 rfl) rfl (by show 2 * 0 + _ ≤ _; exact Nat.le_of_eq rfl) (hb hby d17_5) (fun _ _ => ⟨rfl, e1, (by decide : 0 + 0 ≤ _), (by decide : 0 + 0 ≤ _)⟩)
  dsimp only [Pt.U, Pt.locs, Pt.cells, Pt.slots] at X2 l2 y2 z2 st2 hQ2
  subst l2 y2 z2
  obtain ⟨rfl, N2q, e2⟩ := hQ2
  have N2 := Fr.app N0 N2q
  obtain ⟨fs, hr, hrun, hended, hW, hsame⟩ := X2.leave (v := none) (fun _ => rfl)
  refine ⟨_, _, pre0 _ ?_, hrun, hended, _, _, rfl, ?_, ⟨_, rfl⟩, hW, hsame.mono (by decide) (by decide)⟩
  · show Steps p.tables e below (s₁.setTop (mkF m 0 #[.val (.int p1), .val (.int p2)] [])) _
    refine XS.iloadN X0.here hx rfl (hb hby d17_0) rfl ?_
    show Steps p.tables e below (s₁.setTop (mkF m 1 #[.val (.int p1), .val (.int p2)] [(.int p1)])) _
    refine XS.iloadN X0.here hx rfl (hb hby d17_1) rfl ?_
    show Steps p.tables e below (s₁.setTop (mkF m 2 #[.val (.int p1), .val (.int p2)] [(.int p2), (.int p1)])) _
    refine st1 _ ?_
    show Steps p.tables e below (T1.setTop (mkF m 5 #[.val (.int p1), .val (.int p2)] [.null, (.int p2), (.int p1)])) _
    refine st2 _ ?_
    show Steps p.tables e below (T2.setTop (mkF m 8 #[.val (.int p1), .val (.int p2)] [(.int (f18n p1))])) _
    refine XS.pop X2.here hx rfl (hb hby d17_8) rfl rfl ?_
    show Steps p.tables e below (T2.setTop (mkF m 9 #[.val (.int p1), .val (.int p2)] [])) _
    exact X2.returnOut hx Bd.returns (hb hby d17_9) hr
  · show Q17n Z p1 p2 h0 n0 _ T2.heap _
    rw [e2]
    exact ⟨rfl, N2, rfl⟩
def Q17 (h0 : Heap) (n0 : Nat) (v : Option Value) (h : Heap) (L : List Loc) : Prop := v = none ∧ Fr n0 L ∧ h = h0
set_option maxRecDepth 65536 in
set_option maxHeartbeats 40000000 in
theorem rm17 (l : Launch) (Z : State) (a0 : Array Value) (hw : ∀ d ∈ tables_1, d.before a0 Z = true) (ws : List Jvm.Cond) (p1 : Int32) (p2 : Int32) (cs : Int32) (h0 : Heap) (n0 : Nat) (Z0 : n0 ≤ h0.size) (hWd : own_W Z cs) (hin : ¬ p1 < 0 ∧ p1 < p2) (O0 : Old Z n0 h0) :
    MetFree l (⟨"java/lang/String", "checkIndex", "(II)V"⟩ : MethodName) (head1 (Jvm.Cond.code (⟨"java/lang/String", "checkIndex", "(II)V"⟩ : MethodName) jdk_42_method_155_code 2 none :: ws) ({ frames := 1, cells := 0, slots := 0, locals := 14 } : Room)) (fun a U => a = #[(.int p1), (.int p2)] ∧ Z.Warmed39 U.vm ∧ U.heap = h0) (fun _ _ _ _ _ => True) (fun _ U o U' => ∃ v L, o = .returned v ∧ Q17 h0 n0 v U'.heap L ∧ FrameEnd U o U' L ({ frames := 1, cells := 0, slots := 0, locals := 14 } : Room).cells ({ frames := 1, cells := 0, slots := 0, locals := 14 } : Room).slots) := by
  obtain ⟨fm, F, hr⟩ := hWd.2.2.2.2.2
  cases fm with
  | ref x => exact rm17r (l := l) (Z := Z) (a0 := a0) (hw := hw) (ws := ws) (h0 := h0) (n0 := n0) (Z0 := Z0) (p1 := p1) (p2 := p2) (s_SIOOBE_FORMATTER := x) (S_SIOOBE_FORMATTER := F.ext O0.2) (hin := hin)
  | null => exact rm17n (l := l) (Z := Z) (a0 := a0) (hw := hw) (ws := ws) (h0 := h0) (n0 := n0) (Z0 := Z0) (p1 := p1) (p2 := p2) (S_SIOOBE_FORMATTER := F.ext O0.2) (hin := hin)
  | _ => simp [Value.isRef] at hr
theorem pd_1 : parseMethodDescriptor "(II)V" = some ⟨[.int, .int], none⟩ := by decide +kernel
theorem d16_0 : decode jdk_43_method_2_code 0 = .ok (.iload_n 1, 1) := by decide +kernel
theorem d16_1 : decode jdk_43_method_2_code 1 = .ok (.aload_n 0, 1) := by decide +kernel
theorem d16_2 : decode jdk_43_method_2_code 2 = .ok (.arraylength, 1) := by decide +kernel
theorem d16_3 : decode jdk_43_method_2_code 3 = .ok (.invokestatic 9, 3) := by decide +kernel
theorem d16_6 : decode jdk_43_method_2_code 6 = .ok (.aload_n 0, 1) := by decide +kernel
theorem d16_7 : decode jdk_43_method_2_code 7 = .ok (.iload_n 1, 1) := by decide +kernel
theorem d16_8 : decode jdk_43_method_2_code 8 = .ok (.baload, 1) := by decide +kernel
theorem d16_9 : decode jdk_43_method_2_code 9 = .ok (.sipush 255, 3) := by decide +kernel
theorem d16_12 : decode jdk_43_method_2_code 12 = .ok (.iand, 1) := by decide +kernel
theorem d16_13 : decode jdk_43_method_2_code 13 = .ok (.i2c, 1) := by decide +kernel
theorem d16_14 : decode jdk_43_method_2_code 14 = .ok (.ireturn, 1) := by decide +kernel
theorem pn_16 : plainName "java/lang/StringLatin1" = true := by first | (simp [plainName, overriddenIn]; done) | decide +kernel
theorem ef_16 (m : MethodId) (a1 : Addr) (p2 : Int32) : entryFrame m #[(.ref a1), (.int p2)] 2 = mkF m 0 #[.val (.ref a1), .val (.int p2)] [] := by first | (simp [entryFrame, mkF, argsToLocals, Value.category]; done) | rfl
def f16 (p2 : Int32) (y_a1 : Int32 → Int32) : Int32 :=
  (nar .char (((y_a1 p2) &&& (255 : Int32)).toUInt32.toUInt16.toUInt32.toInt32))
def Q16 (Z : State) (a1 : Addr) (p2 : Int32) (cs : Int32) (y_a1 : Int32 → Int32) (h0 : Heap) (n0 : Nat) (v : Option Value) (h : Heap) (L : List Loc) : Prop := v = some (.int (f16 p2 y_a1)) ∧ Fr n0 L ∧ h = h0
set_option maxRecDepth 65536 in
set_option maxHeartbeats 40000000 in
theorem rm16 (l : Launch) (Z : State) (a0 : Array Value) (hw : ∀ d ∈ tables_1, d.before a0 Z = true) (ws : List Jvm.Cond) (a1 : Addr) (p2 : Int32) (cs : Int32) (y_a1 : Int32 → Int32) (h0 : Heap) (n0 : Nat) (Z0 : n0 ≤ h0.size) (A_a1 : own_A Z h0 a1 .byte (6 : Int32) (fun i => .int (y_a1 i))) (hWd : own_W Z cs) (hin : ¬ p2 < 0 ∧ p2 < (6 : Int32)) (O0 : Old Z n0 h0) :
    MetFree l (⟨"java/lang/StringLatin1", "charAt", "([BI)C"⟩ : MethodName) (head1 (Jvm.Cond.code (⟨"java/lang/StringLatin1", "charAt", "([BI)C"⟩ : MethodName) jdk_43_method_2_code 2 (some .char) :: ws) ({ frames := 2, cells := 0, slots := 0, locals := 27 } : Room)) (fun a U => a = #[(.ref a1), (.int p2)] ∧ Z.Warmed39 U.vm ∧ U.heap = h0) (fun _ _ _ _ _ => True) (fun _ U o U' => ∃ v L, o = .returned v ∧ Q16 Z a1 p2 cs y_a1 h0 n0 v U'.heap L ∧ FrameEnd U o U' L ({ frames := 2, cells := 0, slots := 0, locals := 27 } : Room).cells ({ frames := 2, cells := 0, slots := 0, locals := 27 } : Room).slots) := by
  refine MetFree.of_bodySF (plainFor_of_name pn_16) hisR ?_
  intro p e s m args below meth c s₁ Bd hml0 hP hK
  obtain ⟨rfl, hZ, hh⟩ := hP
  have hx := Bd.exec
  have hby := Bd.bytes
  have hml : c.maxLocals = 2 := hml0
  have hown : s.vm.findClass "java/lang/StringLatin1" = some m.cls := findClass_of_methodNamed Bd.named
  have hnm := (name_of_methodNamed Bd.named Bd.method).1
  have X0 : Stand p l e ({ frames := 2, cells := 0, slots := 0, locals := 27 } : Room) s m #[(.ref a1), (.int p2)] below meth c s₁ [] 0 0 := Stand.of_body Bd
  have e0 : s₁.heap = h0 := by rw [← hh, Bd.state]; rfl
  have N0 := Fr.nil n0
  have pre0 : ∀ t, Steps p.tables e below (s₁.setTop (mkF m 0 #[.val (.ref a1), .val (.int p2)] [])) t → Steps p.tables e below (s₁.setTop (entryFrame m #[(.ref a1), (.int p2)] 2)) t := fun t k => castTop (ef_16 m a1 p2) k
  obtain ⟨cl1, Ar1, Sz1, Mz1, Hz1⟩ := id A_a1
  obtain ⟨_, _, ⟨T2, L2, k2, n2⟩, -, X2, ⟨Lc2, hQ2, l2, y2, z2⟩, st2⟩ := Jvm.LawKit.callS X0 hx (y := (⟨"java/lang/String", "checkIndex", "(II)V"⟩ : MethodName)) hown (mvT hZ (hw _ (List.mem_of_getElem? (i := 73) rfl))) (mvT hZ (hw _ (List.mem_of_getElem? (i := 74) rfl))) (mvT hZ (hw _ (List.mem_of_getElem? (i := 9) rfl))) (mvT hZ (hw _ (List.mem_of_getElem? (i := 75) rfl))) (by decide) (backOf (W := 0) (rm17 l Z a0 hw [] p2 (6 : Int32) cs h0 n0 Z0 hWd hin O0) hZ (hw _ (List.mem_of_getElem? (i := 75) rfl)) (hw _ (List.mem_of_getElem? (i := 9) rfl)) (by decide) (by decide)) (g := (mkF m 3 #[.val (.ref a1), .val (.int p2)] [(.int (6 : Int32)), (.int p2)])) rfl (by rw [hml]; rfl) (argsL := [(.int p2), (.int (6 : Int32))]) (rest := []) (lenOf pd_1 rfl) rfl (by show 2 * 0 + _ ≤ _; exact Nat.le_of_eq rfl) (hb hby d16_3) (fun _ _ => ⟨rfl, e0, (by decide : 0 + 0 ≤ _), (by decide : 0 + 0 ≤ _)⟩)
  dsimp only [Pt.U, Pt.locs, Pt.cells, Pt.slots] at X2 l2 y2 z2 st2 hQ2
  subst l2 y2 z2
  obtain ⟨rfl, N2q, e2⟩ := hQ2
  have N2 := Fr.app N0 N2q
  have er : (f16 p2 y_a1) = (nar .char (((y_a1 p2) &&& (255 : Int32)).toUInt32.toUInt16.toUInt32.toInt32)) := by exact rfl
  obtain ⟨fs, hr, hrun, hended, hW, hsame⟩ := X2.leave (v := some (.int (nar .char (((y_a1 p2) &&& (255 : Int32)).toUInt32.toUInt16.toUInt32.toInt32)))) (fun h => by rw [Bd.returns] at h; cases h)
  refine ⟨_, _, pre0 _ ?_, hrun, hended, _, _, rfl, ?_, ⟨_, rfl⟩, hW, hsame.mono (by decide) (by decide)⟩
  · show Steps p.tables e below (s₁.setTop (mkF m 0 #[.val (.ref a1), .val (.int p2)] [])) _
    refine XS.iloadN X0.here hx rfl (hb hby d16_0) rfl ?_
    show Steps p.tables e below (s₁.setTop (mkF m 1 #[.val (.ref a1), .val (.int p2)] [(.int p2)])) _
    refine XS.aloadN X0.here hx rfl (hb hby d16_1) rfl rfl ?_
    show Steps p.tables e below (s₁.setTop (mkF m 2 #[.val (.ref a1), .val (.int p2)] [(.ref a1), (.int p2)])) _
    refine X0.arraylength hx (by rw [e0]; exact Ar1.1) (State.isArrayOf_alike hZ.alike Ar1.2.1) (g := (mkF m 2 #[.val (.ref a1), .val (.int p2)] [(.ref a1), (.int p2)])) rfl rfl (hb hby d16_2) _ ?_
    rw [len_of Sz1 Mz1]
    show Steps p.tables e below (s₁.setTop (mkF m 3 #[.val (.ref a1), .val (.int p2)] [(.int (6 : Int32)), (.int p2)])) _
    refine st2 _ ?_
    show Steps p.tables e below (T2.setTop (mkF m 6 #[.val (.ref a1), .val (.int p2)] [])) _
    refine XS.aloadN X2.here hx rfl (hb hby d16_6) rfl rfl ?_
    show Steps p.tables e below (T2.setTop (mkF m 7 #[.val (.ref a1), .val (.int p2)] [(.ref a1)])) _
    refine XS.iloadN X2.here hx rfl (hb hby d16_7) rfl ?_
    show Steps p.tables e below (T2.setTop (mkF m 8 #[.val (.ref a1), .val (.int p2)] [(.int p2), (.ref a1)])) _
    refine X2.baloadBytes hx (j := p2) (v := (.int (y_a1 p2))) (by rw [e2]; exact Ar1.1) (State.isArrayOf_alike hZ.alike Ar1.2.1) Ar1.2.2 (inb_of Sz1 hin) (Hz1 _ (inb_of Sz1 hin)) (g := (mkF m 8 #[.val (.ref a1), .val (.int p2)] [(.int p2), (.ref a1)])) rfl rfl (hb hby d16_8) _ ?_
    show Steps p.tables e below (T2.setTop (mkF m 9 #[.val (.ref a1), .val (.int p2)] [(.int (y_a1 p2))])) _
    refine XS.sipush X2.here hx rfl (hb hby d16_9) ?_
    show Steps p.tables e below (T2.setTop (mkF m 12 #[.val (.ref a1), .val (.int p2)] [(.int (255 : Int32)), (.int (y_a1 p2))])) _
    refine XS.iand X2.here hx rfl (hb hby d16_12) rfl ?_
    show Steps p.tables e below (T2.setTop (mkF m 13 #[.val (.ref a1), .val (.int p2)] [(.int ((y_a1 p2) &&& (255 : Int32)))])) _
    refine XS.i2c X2.here hx rfl (hb hby d16_13) rfl ?_
    show Steps p.tables e below (T2.setTop (mkF m 14 #[.val (.ref a1), .val (.int p2)] [(.int (((y_a1 p2) &&& (255 : Int32)).toUInt32.toUInt16.toUInt32.toInt32))])) _
    exact retN X2 hx (t := .char) Bd.returns (by simp) (hb hby d16_14) hr
  · show Q16 Z a1 p2 cs y_a1 h0 n0 _ T2.heap _
    rw [e2]
    exact ⟨congrArg (fun z => some (Value.int z)) er.symm, N2, rfl⟩
theorem d26_0 : decode jdk_52_method_6_code 0 = .ok (.aload_n 0, 1) := by decide +kernel
theorem d26_1 : decode jdk_52_method_6_code 1 = .ok (.arraylength, 1) := by decide +kernel
theorem d26_2 : decode jdk_52_method_6_code 2 = .ok (.iconst 1, 1) := by decide +kernel
theorem d26_3 : decode jdk_52_method_6_code 3 = .ok (.ishr, 1) := by decide +kernel
theorem d26_4 : decode jdk_52_method_6_code 4 = .ok (.ireturn, 1) := by decide +kernel
theorem pn_26 : plainName "java/lang/StringUTF16" = true := by first | (simp [plainName, overriddenIn]; done) | decide +kernel
theorem ef_26 (m : MethodId) (a1 : Addr) : entryFrame m #[(.ref a1)] 1 = mkF m 0 #[.val (.ref a1)] [] := by first | (simp [entryFrame, mkF, argsToLocals, Value.category]; done) | rfl
def f26  : Int32 :=
  ((12 : Int32) >>> ((1 : Int32) &&& 31))
def Q26 (Z : State) (a1 : Addr) (cs : Int32) (y_a1 : Int32 → Int32) (h0 : Heap) (n0 : Nat) (v : Option Value) (h : Heap) (L : List Loc) : Prop := v = some (.int f26) ∧ Fr n0 L ∧ h = h0
set_option maxRecDepth 65536 in
set_option maxHeartbeats 40000000 in
theorem rm26 (l : Launch) (Z : State) (a0 : Array Value) (hw : ∀ d ∈ tables_1, d.before a0 Z = true) (ws : List Jvm.Cond) (a1 : Addr) (cs : Int32) (y_a1 : Int32 → Int32) (h0 : Heap) (n0 : Nat) (Z0 : n0 ≤ h0.size) (A_a1 : own_A Z h0 a1 .byte (12 : Int32) (fun i => .int (y_a1 i))) (hWd : own_W Z cs) (O0 : Old Z n0 h0) :
    MetFree l (⟨"java/lang/StringUTF16", "length", "([B)I"⟩ : MethodName) (head1 (Jvm.Cond.code (⟨"java/lang/StringUTF16", "length", "([B)I"⟩ : MethodName) jdk_52_method_6_code 1 (some .int) :: ws) ({ frames := 0, cells := 0, slots := 0, locals := 0 } : Room)) (fun a U => a = #[(.ref a1)] ∧ Z.Warmed39 U.vm ∧ U.heap = h0) (fun _ _ _ _ _ => True) (fun _ U o U' => ∃ v L, o = .returned v ∧ Q26 Z a1 cs y_a1 h0 n0 v U'.heap L ∧ FrameEnd U o U' L ({ frames := 0, cells := 0, slots := 0, locals := 0 } : Room).cells ({ frames := 0, cells := 0, slots := 0, locals := 0 } : Room).slots) := by
  refine MetFree.of_bodySF (plainFor_of_name pn_26) hisR ?_
  intro p e s m args below meth c s₁ Bd hml0 hP hK
  obtain ⟨rfl, hZ, hh⟩ := hP
  have hx := Bd.exec
  have hby := Bd.bytes
  have hml : c.maxLocals = 1 := hml0
  have hown : s.vm.findClass "java/lang/StringUTF16" = some m.cls := findClass_of_methodNamed Bd.named
  have hnm := (name_of_methodNamed Bd.named Bd.method).1
  have X0 : Stand p l e ({ frames := 0, cells := 0, slots := 0, locals := 0 } : Room) s m #[(.ref a1)] below meth c s₁ [] 0 0 := Stand.of_body Bd
  have e0 : s₁.heap = h0 := by rw [← hh, Bd.state]; rfl
  have N0 := Fr.nil n0
  have pre0 : ∀ t, Steps p.tables e below (s₁.setTop (mkF m 0 #[.val (.ref a1)] [])) t → Steps p.tables e below (s₁.setTop (entryFrame m #[(.ref a1)] 1)) t := fun t k => castTop (ef_26 m a1) k
  obtain ⟨cl1, Ar1, Sz1, Mz1, Hz1⟩ := id A_a1
  have er : f26 = ((12 : Int32) >>> ((1 : Int32) &&& 31)) := by exact rfl
  obtain ⟨fs, hr, hrun, hended, hW, hsame⟩ := X0.leave (v := some (.int ((12 : Int32) >>> ((1 : Int32) &&& 31)))) (fun h => by rw [Bd.returns] at h; cases h)
  refine ⟨_, _, pre0 _ ?_, hrun, hended, _, _, rfl, ?_, ⟨_, rfl⟩, hW, hsame.mono (by decide) (by decide)⟩
  · show Steps p.tables e below (s₁.setTop (mkF m 0 #[.val (.ref a1)] [])) _
    refine XS.aloadN X0.here hx rfl (hb hby d26_0) rfl rfl ?_
    show Steps p.tables e below (s₁.setTop (mkF m 1 #[.val (.ref a1)] [(.ref a1)])) _
    refine X0.arraylength hx (by rw [e0]; exact Ar1.1) (State.isArrayOf_alike hZ.alike Ar1.2.1) (g := (mkF m 1 #[.val (.ref a1)] [(.ref a1)])) rfl rfl (hb hby d26_1) _ ?_
    rw [len_of Sz1 Mz1]
    show Steps p.tables e below (s₁.setTop (mkF m 2 #[.val (.ref a1)] [(.int (12 : Int32))])) _
    refine XS.iconst X0.here hx rfl (hb hby d26_2) ?_
    show Steps p.tables e below (s₁.setTop (mkF m 3 #[.val (.ref a1)] [(.int (1 : Int32)), (.int (12 : Int32))])) _
    refine XS.ishr X0.here hx rfl (hb hby d26_3) rfl ?_
    show Steps p.tables e below (s₁.setTop (mkF m 4 #[.val (.ref a1)] [(.int ((12 : Int32) >>> ((1 : Int32) &&& 31)))])) _
    exact retI X0 hx Bd.returns (hb hby d26_4) hr
  · show Q26 Z a1 cs y_a1 h0 n0 _ s₁.heap _
    rw [e0]
    exact ⟨congrArg (fun z => some (Value.int z)) er.symm, N0, rfl⟩
theorem pd_2 : parseMethodDescriptor "([B)I" = some ⟨[(.array .byte)], some .int⟩ := by decide +kernel
theorem d25_0 : decode jdk_52_method_91_code 0 = .ok (.iload_n 0, 1) := by decide +kernel
theorem d25_1 : decode jdk_52_method_91_code 1 = .ok (.aload_n 1, 1) := by decide +kernel
theorem d25_2 : decode jdk_52_method_91_code 2 = .ok (.invokestatic 48, 3) := by decide +kernel
theorem d25_5 : decode jdk_52_method_91_code 5 = .ok (.invokestatic 414, 3) := by decide +kernel
theorem d25_8 : decode jdk_52_method_91_code 8 = .ok (.return_, 1) := by decide +kernel
theorem pn_25 : plainName "java/lang/StringUTF16" = true := by first | (simp [plainName, overriddenIn]; done) | decide +kernel
theorem ef_25 (m : MethodId) (p1 : Int32) (a2 : Addr) : entryFrame m #[(.int p1), (.ref a2)] 2 = mkF m 0 #[.val (.int p1), .val (.ref a2)] [] := by first | (simp [entryFrame, mkF, argsToLocals, Value.category]; done) | rfl
def Q25 (Z : State) (p1 : Int32) (a2 : Addr) (cs : Int32) (y_a2 : Int32 → Int32) (h0 : Heap) (n0 : Nat) (v : Option Value) (h : Heap) (L : List Loc) : Prop := v = none ∧ Fr n0 L ∧ h = h0
set_option maxRecDepth 65536 in
set_option maxHeartbeats 40000000 in
theorem rm25 (l : Launch) (Z : State) (a0 : Array Value) (hw : ∀ d ∈ tables_1, d.before a0 Z = true) (ws : List Jvm.Cond) (p1 : Int32) (a2 : Addr) (cs : Int32) (y_a2 : Int32 → Int32) (h0 : Heap) (n0 : Nat) (Z0 : n0 ≤ h0.size) (A_a2 : own_A Z h0 a2 .byte (12 : Int32) (fun i => .int (y_a2 i))) (hWd : own_W Z cs) (hin : ¬ p1 < 0 ∧ p1 < (6 : Int32)) (O0 : Old Z n0 h0) :
    MetFree l (⟨"java/lang/StringUTF16", "checkIndex", "(I[B)V"⟩ : MethodName) (head1 (Jvm.Cond.code (⟨"java/lang/StringUTF16", "checkIndex", "(I[B)V"⟩ : MethodName) jdk_52_method_91_code 2 none :: ws) ({ frames := 2, cells := 0, slots := 0, locals := 27 } : Room)) (fun a U => a = #[(.int p1), (.ref a2)] ∧ Z.Warmed39 U.vm ∧ U.heap = h0) (fun _ _ _ _ _ => True) (fun _ U o U' => ∃ v L, o = .returned v ∧ Q25 Z p1 a2 cs y_a2 h0 n0 v U'.heap L ∧ FrameEnd U o U' L ({ frames := 2, cells := 0, slots := 0, locals := 27 } : Room).cells ({ frames := 2, cells := 0, slots := 0, locals := 27 } : Room).slots) := by
  refine MetFree.of_bodySF (plainFor_of_name pn_25) hisR ?_
  intro p e s m args below meth c s₁ Bd hml0 hP hK
  obtain ⟨rfl, hZ, hh⟩ := hP
  have hx := Bd.exec
  have hby := Bd.bytes
  have hml : c.maxLocals = 2 := hml0
  have hown : s.vm.findClass "java/lang/StringUTF16" = some m.cls := findClass_of_methodNamed Bd.named
  have hnm := (name_of_methodNamed Bd.named Bd.method).1
  have X0 : Stand p l e ({ frames := 2, cells := 0, slots := 0, locals := 27 } : Room) s m #[(.int p1), (.ref a2)] below meth c s₁ [] 0 0 := Stand.of_body Bd
  have e0 : s₁.heap = h0 := by rw [← hh, Bd.state]; rfl
  have N0 := Fr.nil n0
  have pre0 : ∀ t, Steps p.tables e below (s₁.setTop (mkF m 0 #[.val (.int p1), .val (.ref a2)] [])) t → Steps p.tables e below (s₁.setTop (entryFrame m #[(.int p1), (.ref a2)] 2)) t := fun t k => castTop (ef_25 m p1 a2) k
  obtain ⟨_, _, ⟨T1, L1, k1, n1⟩, -, X1, ⟨Lc1, hQ1, l1, y1, z1⟩, st1⟩ := Jvm.LawKit.callS X0 hx (y := (⟨"java/lang/StringUTF16", "length", "([B)I"⟩ : MethodName)) hown (mvT hZ (hw _ (List.mem_of_getElem? (i := 106) rfl))) (mvT hZ (hw _ (List.mem_of_getElem? (i := 107) rfl))) (mvT hZ (hw _ (List.mem_of_getElem? (i := 23) rfl))) (mvT hZ (hw _ (List.mem_of_getElem? (i := 108) rfl))) (by decide) (backOf (W := 1) (rm26 l Z a0 hw [] a2 cs y_a2 h0 n0 Z0 A_a2 hWd O0) hZ (hw _ (List.mem_of_getElem? (i := 108) rfl)) (hw _ (List.mem_of_getElem? (i := 23) rfl)) (by decide) (by decide)) (g := (mkF m 2 #[.val (.int p1), .val (.ref a2)] [(.ref a2), (.int p1)])) rfl (by rw [hml]; rfl) (argsL := [(.ref a2)]) (rest := [(.int p1)]) (lenOf pd_2 rfl) rfl (by show 2 * 0 + _ ≤ _; exact Nat.le_of_eq rfl) (hb hby d25_2) (fun _ _ => ⟨rfl, e0, (by decide : 0 + 0 ≤ _), (by decide : 0 + 0 ≤ _)⟩)
  dsimp only [Pt.U, Pt.locs, Pt.cells, Pt.slots] at X1 l1 y1 z1 st1 hQ1
  subst l1 y1 z1
  obtain ⟨rfl, N1q, e1⟩ := hQ1
  have N1 := Fr.app N0 N1q
  obtain ⟨_, _, ⟨T2, L2, k2, n2⟩, -, X2, ⟨Lc2, hQ2, l2, y2, z2⟩, st2⟩ := Jvm.LawKit.callS X1 hx (y := (⟨"java/lang/String", "checkIndex", "(II)V"⟩ : MethodName)) hown (mvT hZ (hw _ (List.mem_of_getElem? (i := 109) rfl))) (mvT hZ (hw _ (List.mem_of_getElem? (i := 74) rfl))) (mvT hZ (hw _ (List.mem_of_getElem? (i := 9) rfl))) (mvT hZ (hw _ (List.mem_of_getElem? (i := 75) rfl))) (by decide) (backOf (W := 0) (rm17 l Z a0 hw [] p1 f26 cs h0 n0 Z0 hWd (by rw [show f26 = (6 : Int32) by decide]; exact hin) O0) hZ (hw _ (List.mem_of_getElem? (i := 75) rfl)) (hw _ (List.mem_of_getElem? (i := 9) rfl)) (by decide) (by decide)) (g := (mkF m 5 #[.val (.int p1), .val (.ref a2)] [(.int f26), (.int p1)])) rfl (by rw [hml]; rfl) (argsL := [(.int p1), (.int f26)]) (rest := []) (lenOf pd_1 rfl) rfl (by show 2 * 0 + _ ≤ _; exact Nat.le_of_eq rfl) (hb hby d25_5) (fun _ _ => ⟨rfl, e1, (by decide : 0 + 0 ≤ _), (by decide : 0 + 0 ≤ _)⟩)
  dsimp only [Pt.U, Pt.locs, Pt.cells, Pt.slots] at X2 l2 y2 z2 st2 hQ2
  subst l2 y2 z2
  obtain ⟨rfl, N2q, e2⟩ := hQ2
  have N2 := Fr.app N1 N2q
  obtain ⟨fs, hr, hrun, hended, hW, hsame⟩ := X2.leave (v := none) (fun _ => rfl)
  refine ⟨_, _, pre0 _ ?_, hrun, hended, _, _, rfl, ?_, ⟨_, rfl⟩, hW, hsame.mono (by decide) (by decide)⟩
  · show Steps p.tables e below (s₁.setTop (mkF m 0 #[.val (.int p1), .val (.ref a2)] [])) _
    refine XS.iloadN X0.here hx rfl (hb hby d25_0) rfl ?_
    show Steps p.tables e below (s₁.setTop (mkF m 1 #[.val (.int p1), .val (.ref a2)] [(.int p1)])) _
    refine XS.aloadN X0.here hx rfl (hb hby d25_1) rfl rfl ?_
    show Steps p.tables e below (s₁.setTop (mkF m 2 #[.val (.int p1), .val (.ref a2)] [(.ref a2), (.int p1)])) _
    refine st1 _ ?_
    show Steps p.tables e below (T1.setTop (mkF m 5 #[.val (.int p1), .val (.ref a2)] [(.int f26), (.int p1)])) _
    refine st2 _ ?_
    show Steps p.tables e below (T2.setTop (mkF m 8 #[.val (.int p1), .val (.ref a2)] [])) _
    exact X2.returnOut hx Bd.returns (hb hby d25_8) hr
  · show Q25 Z p1 a2 cs y_a2 h0 n0 _ T2.heap _
    rw [e2]
    exact ⟨rfl, N2, rfl⟩
theorem d23_0 : decode jdk_52_method_5_code 0 = .ok (.getstatic 44, 3) := by decide +kernel
theorem d23_3 : decode jdk_52_method_5_code 3 = .ok (.ifCond .ne 25, 3) := by decide +kernel
theorem d23_28 : decode jdk_52_method_5_code 28 = .ok (.iload_n 1, 1) := by decide +kernel
theorem d23_29 : decode jdk_52_method_5_code 29 = .ok (.iconst 1, 1) := by decide +kernel
theorem d23_30 : decode jdk_52_method_5_code 30 = .ok (.ishl, 1) := by decide +kernel
theorem d23_31 : decode jdk_52_method_5_code 31 = .ok (.istore_n 1, 1) := by decide +kernel
theorem d23_32 : decode jdk_52_method_5_code 32 = .ok (.aload_n 0, 1) := by decide +kernel
theorem d23_33 : decode jdk_52_method_5_code 33 = .ok (.iload_n 1, 1) := by decide +kernel
theorem d23_34 : decode jdk_52_method_5_code 34 = .ok (.iinc 1 1, 3) := by decide +kernel
theorem d23_37 : decode jdk_52_method_5_code 37 = .ok (.baload, 1) := by decide +kernel
theorem d23_38 : decode jdk_52_method_5_code 38 = .ok (.sipush 255, 3) := by decide +kernel
theorem d23_41 : decode jdk_52_method_5_code 41 = .ok (.iand, 1) := by decide +kernel
theorem d23_42 : decode jdk_52_method_5_code 42 = .ok (.getstatic 59, 3) := by decide +kernel
theorem d23_45 : decode jdk_52_method_5_code 45 = .ok (.ishl, 1) := by decide +kernel
theorem d23_46 : decode jdk_52_method_5_code 46 = .ok (.aload_n 0, 1) := by decide +kernel
theorem d23_47 : decode jdk_52_method_5_code 47 = .ok (.iload_n 1, 1) := by decide +kernel
theorem d23_48 : decode jdk_52_method_5_code 48 = .ok (.baload, 1) := by decide +kernel
theorem d23_49 : decode jdk_52_method_5_code 49 = .ok (.sipush 255, 3) := by decide +kernel
theorem d23_52 : decode jdk_52_method_5_code 52 = .ok (.iand, 1) := by decide +kernel
theorem d23_53 : decode jdk_52_method_5_code 53 = .ok (.getstatic 63, 3) := by decide +kernel
theorem d23_56 : decode jdk_52_method_5_code 56 = .ok (.ishl, 1) := by decide +kernel
theorem d23_57 : decode jdk_52_method_5_code 57 = .ok (.ior, 1) := by decide +kernel
theorem d23_58 : decode jdk_52_method_5_code 58 = .ok (.i2c, 1) := by decide +kernel
theorem d23_59 : decode jdk_52_method_5_code 59 = .ok (.ireturn, 1) := by decide +kernel
theorem pn_23 : plainName "java/lang/StringUTF16" = true := by first | (simp [plainName, overriddenIn]; done) | decide +kernel
theorem ef_23 (m : MethodId) (a1 : Addr) (p2 : Int32) : entryFrame m #[(.ref a1), (.int p2)] 2 = mkF m 0 #[.val (.ref a1), .val (.int p2)] [] := by first | (simp [entryFrame, mkF, argsToLocals, Value.category]; done) | rfl
def f23 (p2 : Int32) (y_a1 : Int32 → Int32) : Int32 :=
  (nar .char (((((y_a1 (p2 <<< ((1 : Int32) &&& 31))) &&& (255 : Int32)) <<< ((0 : Int32) &&& 31)) ||| (((y_a1 ((p2 <<< ((1 : Int32) &&& 31)) + (1 : Int32))) &&& (255 : Int32)) <<< ((8 : Int32) &&& 31))).toUInt32.toUInt16.toUInt32.toInt32))
def Q23 (Z : State) (a1 : Addr) (p2 : Int32) (cs : Int32) (y_a1 : Int32 → Int32) (h0 : Heap) (n0 : Nat) (v : Option Value) (h : Heap) (L : List Loc) : Prop := v = some (.int (f23 p2 y_a1)) ∧ Fr n0 L ∧ h = h0
set_option maxRecDepth 65536 in
set_option maxHeartbeats 40000000 in
theorem rm23 (l : Launch) (Z : State) (a0 : Array Value) (hw : ∀ d ∈ tables_1, d.before a0 Z = true) (ws : List Jvm.Cond) (a1 : Addr) (p2 : Int32) (cs : Int32) (y_a1 : Int32 → Int32) (h0 : Heap) (n0 : Nat) (Z0 : n0 ≤ h0.size) (A_a1 : own_A Z h0 a1 .byte (12 : Int32) (fun i => .int (y_a1 i))) (hWd : own_W Z cs) (hin : ¬ p2 < 0 ∧ p2 < (6 : Int32)) (O0 : Old Z n0 h0) :
    MetFree l (⟨"java/lang/StringUTF16", "getChar", "([BI)C"⟩ : MethodName) (head1 (Jvm.Cond.code (⟨"java/lang/StringUTF16", "getChar", "([BI)C"⟩ : MethodName) jdk_52_method_5_code 2 (some .char) :: ws) ({ frames := 0, cells := 0, slots := 0, locals := 0 } : Room)) (fun a U => a = #[(.ref a1), (.int p2)] ∧ Z.Warmed39 U.vm ∧ U.heap = h0) (fun _ _ _ _ _ => True) (fun _ U o U' => ∃ v L, o = .returned v ∧ Q23 Z a1 p2 cs y_a1 h0 n0 v U'.heap L ∧ FrameEnd U o U' L ({ frames := 0, cells := 0, slots := 0, locals := 0 } : Room).cells ({ frames := 0, cells := 0, slots := 0, locals := 0 } : Room).slots) := by
  refine MetFree.of_bodySF (plainFor_of_name pn_23) hisR ?_
  intro p e s m args below meth c s₁ Bd hml0 hP hK
  obtain ⟨rfl, hZ, hh⟩ := hP
  have hx := Bd.exec
  have hby := Bd.bytes
  have hml : c.maxLocals = 2 := hml0
  have hown : s.vm.findClass "java/lang/StringUTF16" = some m.cls := findClass_of_methodNamed Bd.named
  have hnm := (name_of_methodNamed Bd.named Bd.method).1
  have X0 : Stand p l e ({ frames := 0, cells := 0, slots := 0, locals := 0 } : Room) s m #[(.ref a1), (.int p2)] below meth c s₁ [] 0 0 := Stand.of_body Bd
  have e0 : s₁.heap = h0 := by rw [← hh, Bd.state]; rfl
  have N0 := Fr.nil n0
  have pre0 : ∀ t, Steps p.tables e below (s₁.setTop (mkF m 0 #[.val (.ref a1), .val (.int p2)] [])) t → Steps p.tables e below (s₁.setTop (entryFrame m #[(.ref a1), (.int p2)] 2)) t := fun t k => castTop (ef_23 m a1 p2) k
  obtain ⟨cl1, Ar1, Sz1, Mz1, Hz1⟩ := id A_a1
  obtain ⟨T2, X2, e2, st2⟩ := getS2 X0 hx hZ hown (host := "") (Or.inl (hw _ (List.mem_of_getElem? (i := 94) rfl))) Via.refl e0 (hWd.2.2.1.ext O0.2) (g := (mkF m 0 #[.val (.ref a1), .val (.int p2)] [])) rfl (hb hby d23_0)
  obtain ⟨T3, X3, e3, st3⟩ := getS2 X2 hx hZ hown (host := "") (Or.inl (hw _ (List.mem_of_getElem? (i := 95) rfl))) Via.refl e2 (hWd.2.2.2.1.ext O0.2) (g := (mkF m 42 #[.val (.ref a1), .val (.int ((p2 <<< ((1 : Int32) &&& 31)) + (1 : Int32)))] [(.int ((y_a1 (p2 <<< ((1 : Int32) &&& 31))) &&& (255 : Int32)))])) rfl (hb hby d23_42)
  obtain ⟨T4, X4, e4, st4⟩ := getS2 X3 hx hZ hown (host := "") (Or.inl (hw _ (List.mem_of_getElem? (i := 96) rfl))) Via.refl e3 (hWd.2.2.2.2.1.ext O0.2) (g := (mkF m 53 #[.val (.ref a1), .val (.int ((p2 <<< ((1 : Int32) &&& 31)) + (1 : Int32)))] [(.int ((y_a1 ((p2 <<< ((1 : Int32) &&& 31)) + (1 : Int32))) &&& (255 : Int32))), (.int (((y_a1 (p2 <<< ((1 : Int32) &&& 31))) &&& (255 : Int32)) <<< ((0 : Int32) &&& 31)))])) rfl (hb hby d23_53)
  have er : (f23 p2 y_a1) = (nar .char (((((y_a1 (p2 <<< ((1 : Int32) &&& 31))) &&& (255 : Int32)) <<< ((0 : Int32) &&& 31)) ||| (((y_a1 ((p2 <<< ((1 : Int32) &&& 31)) + (1 : Int32))) &&& (255 : Int32)) <<< ((8 : Int32) &&& 31))).toUInt32.toUInt16.toUInt32.toInt32)) := by exact rfl
  obtain ⟨fs, hr, hrun, hended, hW, hsame⟩ := X4.leave (v := some (.int (nar .char (((((y_a1 (p2 <<< ((1 : Int32) &&& 31))) &&& (255 : Int32)) <<< ((0 : Int32) &&& 31)) ||| (((y_a1 ((p2 <<< ((1 : Int32) &&& 31)) + (1 : Int32))) &&& (255 : Int32)) <<< ((8 : Int32) &&& 31))).toUInt32.toUInt16.toUInt32.toInt32)))) (fun h => by rw [Bd.returns] at h; cases h)
  refine ⟨_, _, pre0 _ ?_, hrun, hended, _, _, rfl, ?_, ⟨_, rfl⟩, hW, hsame.mono (by decide) (by decide)⟩
  · show Steps p.tables e below (s₁.setTop (mkF m 0 #[.val (.ref a1), .val (.int p2)] [])) _
    refine st2 _ ?_
    show Steps p.tables e below (T2.setTop (mkF m 3 #[.val (.ref a1), .val (.int p2)] [(.int (1 : Int32))])) _
    refine XS.ifYes X2.here hx rfl (pc0 := 3) (pc' := 28) rfl (hb hby d23_3) rfl ((if0 _ _).trans (feq (show ¬ ((1 : Int32) = (0 : Int32)) by decide)).2) (by decide) (by decide) ?_
    show Steps p.tables e below (T2.setTop (mkF m 28 #[.val (.ref a1), .val (.int p2)] [])) _
    refine XS.iloadN X2.here hx rfl (hb hby d23_28) rfl ?_
    show Steps p.tables e below (T2.setTop (mkF m 29 #[.val (.ref a1), .val (.int p2)] [(.int p2)])) _
    refine XS.iconst X2.here hx rfl (hb hby d23_29) ?_
    show Steps p.tables e below (T2.setTop (mkF m 30 #[.val (.ref a1), .val (.int p2)] [(.int (1 : Int32)), (.int p2)])) _
    refine XS.ishl X2.here hx rfl (hb hby d23_30) rfl ?_
    show Steps p.tables e below (T2.setTop (mkF m 31 #[.val (.ref a1), .val (.int p2)] [(.int (p2 <<< ((1 : Int32) &&& 31)))])) _
    refine XS.istoreN X2.here hx rfl (hb hby d23_31) rfl (l' := #[.val (.ref a1), .val (.int (p2 <<< ((1 : Int32) &&& 31)))]) rfl ?_
    show Steps p.tables e below (T2.setTop (mkF m 32 #[.val (.ref a1), .val (.int (p2 <<< ((1 : Int32) &&& 31)))] [])) _
    refine XS.aloadN X2.here hx rfl (hb hby d23_32) rfl rfl ?_
    show Steps p.tables e below (T2.setTop (mkF m 33 #[.val (.ref a1), .val (.int (p2 <<< ((1 : Int32) &&& 31)))] [(.ref a1)])) _
    refine XS.iloadN X2.here hx rfl (hb hby d23_33) rfl ?_
    show Steps p.tables e below (T2.setTop (mkF m 34 #[.val (.ref a1), .val (.int (p2 <<< ((1 : Int32) &&& 31)))] [(.int (p2 <<< ((1 : Int32) &&& 31))), (.ref a1)])) _
    refine XS.iinc X2.here hx rfl (hb hby d23_34) rfl (l' := #[.val (.ref a1), .val (.int ((p2 <<< ((1 : Int32) &&& 31)) + (1 : Int32)))]) rfl ?_
    show Steps p.tables e below (T2.setTop (mkF m 37 #[.val (.ref a1), .val (.int ((p2 <<< ((1 : Int32) &&& 31)) + (1 : Int32)))] [(.int (p2 <<< ((1 : Int32) &&& 31))), (.ref a1)])) _
    refine X2.baloadBytes hx (j := (p2 <<< ((1 : Int32) &&& 31))) (v := (.int (y_a1 (p2 <<< ((1 : Int32) &&& 31))))) (by rw [e2]; exact Ar1.1) (State.isArrayOf_alike hZ.alike Ar1.2.1) Ar1.2.2 (inb_of Sz1 (own_in2 hin)) (Hz1 _ (inb_of Sz1 (own_in2 hin))) (g := (mkF m 37 #[.val (.ref a1), .val (.int ((p2 <<< ((1 : Int32) &&& 31)) + (1 : Int32)))] [(.int (p2 <<< ((1 : Int32) &&& 31))), (.ref a1)])) rfl rfl (hb hby d23_37) _ ?_
    show Steps p.tables e below (T2.setTop (mkF m 38 #[.val (.ref a1), .val (.int ((p2 <<< ((1 : Int32) &&& 31)) + (1 : Int32)))] [(.int (y_a1 (p2 <<< ((1 : Int32) &&& 31))))])) _
    refine XS.sipush X2.here hx rfl (hb hby d23_38) ?_
    show Steps p.tables e below (T2.setTop (mkF m 41 #[.val (.ref a1), .val (.int ((p2 <<< ((1 : Int32) &&& 31)) + (1 : Int32)))] [(.int (255 : Int32)), (.int (y_a1 (p2 <<< ((1 : Int32) &&& 31))))])) _
    refine XS.iand X2.here hx rfl (hb hby d23_41) rfl ?_
    show Steps p.tables e below (T2.setTop (mkF m 42 #[.val (.ref a1), .val (.int ((p2 <<< ((1 : Int32) &&& 31)) + (1 : Int32)))] [(.int ((y_a1 (p2 <<< ((1 : Int32) &&& 31))) &&& (255 : Int32)))])) _
    refine st3 _ ?_
    show Steps p.tables e below (T3.setTop (mkF m 45 #[.val (.ref a1), .val (.int ((p2 <<< ((1 : Int32) &&& 31)) + (1 : Int32)))] [(.int (0 : Int32)), (.int ((y_a1 (p2 <<< ((1 : Int32) &&& 31))) &&& (255 : Int32)))])) _
    refine XS.ishl X3.here hx rfl (hb hby d23_45) rfl ?_
    show Steps p.tables e below (T3.setTop (mkF m 46 #[.val (.ref a1), .val (.int ((p2 <<< ((1 : Int32) &&& 31)) + (1 : Int32)))] [(.int (((y_a1 (p2 <<< ((1 : Int32) &&& 31))) &&& (255 : Int32)) <<< ((0 : Int32) &&& 31)))])) _
    refine XS.aloadN X3.here hx rfl (hb hby d23_46) rfl rfl ?_
    show Steps p.tables e below (T3.setTop (mkF m 47 #[.val (.ref a1), .val (.int ((p2 <<< ((1 : Int32) &&& 31)) + (1 : Int32)))] [(.ref a1), (.int (((y_a1 (p2 <<< ((1 : Int32) &&& 31))) &&& (255 : Int32)) <<< ((0 : Int32) &&& 31)))])) _
    refine XS.iloadN X3.here hx rfl (hb hby d23_47) rfl ?_
    show Steps p.tables e below (T3.setTop (mkF m 48 #[.val (.ref a1), .val (.int ((p2 <<< ((1 : Int32) &&& 31)) + (1 : Int32)))] [(.int ((p2 <<< ((1 : Int32) &&& 31)) + (1 : Int32))), (.ref a1), (.int (((y_a1 (p2 <<< ((1 : Int32) &&& 31))) &&& (255 : Int32)) <<< ((0 : Int32) &&& 31)))])) _
    refine X3.baloadBytes hx (j := ((p2 <<< ((1 : Int32) &&& 31)) + (1 : Int32))) (v := (.int (y_a1 ((p2 <<< ((1 : Int32) &&& 31)) + (1 : Int32))))) (by rw [e3]; exact Ar1.1) (State.isArrayOf_alike hZ.alike Ar1.2.1) Ar1.2.2 (inb_of Sz1 (own_in3 hin)) (Hz1 _ (inb_of Sz1 (own_in3 hin))) (g := (mkF m 48 #[.val (.ref a1), .val (.int ((p2 <<< ((1 : Int32) &&& 31)) + (1 : Int32)))] [(.int ((p2 <<< ((1 : Int32) &&& 31)) + (1 : Int32))), (.ref a1), (.int (((y_a1 (p2 <<< ((1 : Int32) &&& 31))) &&& (255 : Int32)) <<< ((0 : Int32) &&& 31)))])) rfl rfl (hb hby d23_48) _ ?_
    show Steps p.tables e below (T3.setTop (mkF m 49 #[.val (.ref a1), .val (.int ((p2 <<< ((1 : Int32) &&& 31)) + (1 : Int32)))] [(.int (y_a1 ((p2 <<< ((1 : Int32) &&& 31)) + (1 : Int32)))), (.int (((y_a1 (p2 <<< ((1 : Int32) &&& 31))) &&& (255 : Int32)) <<< ((0 : Int32) &&& 31)))])) _
    refine XS.sipush X3.here hx rfl (hb hby d23_49) ?_
    show Steps p.tables e below (T3.setTop (mkF m 52 #[.val (.ref a1), .val (.int ((p2 <<< ((1 : Int32) &&& 31)) + (1 : Int32)))] [(.int (255 : Int32)), (.int (y_a1 ((p2 <<< ((1 : Int32) &&& 31)) + (1 : Int32)))), (.int (((y_a1 (p2 <<< ((1 : Int32) &&& 31))) &&& (255 : Int32)) <<< ((0 : Int32) &&& 31)))])) _
    refine XS.iand X3.here hx rfl (hb hby d23_52) rfl ?_
    show Steps p.tables e below (T3.setTop (mkF m 53 #[.val (.ref a1), .val (.int ((p2 <<< ((1 : Int32) &&& 31)) + (1 : Int32)))] [(.int ((y_a1 ((p2 <<< ((1 : Int32) &&& 31)) + (1 : Int32))) &&& (255 : Int32))), (.int (((y_a1 (p2 <<< ((1 : Int32) &&& 31))) &&& (255 : Int32)) <<< ((0 : Int32) &&& 31)))])) _
    refine st4 _ ?_
    show Steps p.tables e below (T4.setTop (mkF m 56 #[.val (.ref a1), .val (.int ((p2 <<< ((1 : Int32) &&& 31)) + (1 : Int32)))] [(.int (8 : Int32)), (.int ((y_a1 ((p2 <<< ((1 : Int32) &&& 31)) + (1 : Int32))) &&& (255 : Int32))), (.int (((y_a1 (p2 <<< ((1 : Int32) &&& 31))) &&& (255 : Int32)) <<< ((0 : Int32) &&& 31)))])) _
    refine XS.ishl X4.here hx rfl (hb hby d23_56) rfl ?_
    show Steps p.tables e below (T4.setTop (mkF m 57 #[.val (.ref a1), .val (.int ((p2 <<< ((1 : Int32) &&& 31)) + (1 : Int32)))] [(.int (((y_a1 ((p2 <<< ((1 : Int32) &&& 31)) + (1 : Int32))) &&& (255 : Int32)) <<< ((8 : Int32) &&& 31))), (.int (((y_a1 (p2 <<< ((1 : Int32) &&& 31))) &&& (255 : Int32)) <<< ((0 : Int32) &&& 31)))])) _
    refine XS.ior X4.here hx rfl (hb hby d23_57) rfl ?_
    show Steps p.tables e below (T4.setTop (mkF m 58 #[.val (.ref a1), .val (.int ((p2 <<< ((1 : Int32) &&& 31)) + (1 : Int32)))] [(.int ((((y_a1 (p2 <<< ((1 : Int32) &&& 31))) &&& (255 : Int32)) <<< ((0 : Int32) &&& 31)) ||| (((y_a1 ((p2 <<< ((1 : Int32) &&& 31)) + (1 : Int32))) &&& (255 : Int32)) <<< ((8 : Int32) &&& 31))))])) _
    refine XS.i2c X4.here hx rfl (hb hby d23_58) rfl ?_
    show Steps p.tables e below (T4.setTop (mkF m 59 #[.val (.ref a1), .val (.int ((p2 <<< ((1 : Int32) &&& 31)) + (1 : Int32)))] [(.int (((((y_a1 (p2 <<< ((1 : Int32) &&& 31))) &&& (255 : Int32)) <<< ((0 : Int32) &&& 31)) ||| (((y_a1 ((p2 <<< ((1 : Int32) &&& 31)) + (1 : Int32))) &&& (255 : Int32)) <<< ((8 : Int32) &&& 31))).toUInt32.toUInt16.toUInt32.toInt32))])) _
    exact retN X4 hx (t := .char) Bd.returns (by simp) (hb hby d23_59) hr
  · show Q23 Z a1 p2 cs y_a1 h0 n0 _ T4.heap _
    rw [e4]
    exact ⟨congrArg (fun z => some (Value.int z)) er.symm, N0, rfl⟩
theorem pd_3 : parseMethodDescriptor "(I[B)V" = some ⟨[.int, (.array .byte)], none⟩ := by decide +kernel
theorem pd_4 : parseMethodDescriptor "([BI)C" = some ⟨[(.array .byte), .int], some .char⟩ := by decide +kernel
theorem d24_0 : decode jdk_52_method_83_code 0 = .ok (.iload_n 1, 1) := by decide +kernel
theorem d24_1 : decode jdk_52_method_83_code 1 = .ok (.aload_n 0, 1) := by decide +kernel
theorem d24_2 : decode jdk_52_method_83_code 2 = .ok (.invokestatic 67, 3) := by decide +kernel
theorem d24_5 : decode jdk_52_method_83_code 5 = .ok (.aload_n 0, 1) := by decide +kernel
theorem d24_6 : decode jdk_52_method_83_code 6 = .ok (.iload_n 1, 1) := by decide +kernel
theorem d24_7 : decode jdk_52_method_83_code 7 = .ok (.invokestatic 71, 3) := by decide +kernel
theorem d24_10 : decode jdk_52_method_83_code 10 = .ok (.ireturn, 1) := by decide +kernel
theorem pn_24 : plainName "java/lang/StringUTF16" = true := by first | (simp [plainName, overriddenIn]; done) | decide +kernel
theorem ef_24 (m : MethodId) (a1 : Addr) (p2 : Int32) : entryFrame m #[(.ref a1), (.int p2)] 2 = mkF m 0 #[.val (.ref a1), .val (.int p2)] [] := by first | (simp [entryFrame, mkF, argsToLocals, Value.category]; done) | rfl
def f24 (p2 : Int32) (y_a1 : Int32 → Int32) : Int32 :=
  (nar .char (f23 p2 y_a1))
def Q24 (Z : State) (a1 : Addr) (p2 : Int32) (cs : Int32) (y_a1 : Int32 → Int32) (h0 : Heap) (n0 : Nat) (v : Option Value) (h : Heap) (L : List Loc) : Prop := v = some (.int (f24 p2 y_a1)) ∧ Fr n0 L ∧ h = h0
set_option maxRecDepth 65536 in
set_option maxHeartbeats 40000000 in
theorem rm24 (l : Launch) (Z : State) (a0 : Array Value) (hw : ∀ d ∈ tables_1, d.before a0 Z = true) (ws : List Jvm.Cond) (a1 : Addr) (p2 : Int32) (cs : Int32) (y_a1 : Int32 → Int32) (h0 : Heap) (n0 : Nat) (Z0 : n0 ≤ h0.size) (A_a1 : own_A Z h0 a1 .byte (12 : Int32) (fun i => .int (y_a1 i))) (hWd : own_W Z cs) (hin : ¬ p2 < 0 ∧ p2 < (6 : Int32)) (O0 : Old Z n0 h0) :
    MetFree l (⟨"java/lang/StringUTF16", "charAt", "([BI)C"⟩ : MethodName) (head1 (Jvm.Cond.code (⟨"java/lang/StringUTF16", "charAt", "([BI)C"⟩ : MethodName) jdk_52_method_83_code 2 (some .char) :: ws) ({ frames := 3, cells := 0, slots := 0, locals := 40 } : Room)) (fun a U => a = #[(.ref a1), (.int p2)] ∧ Z.Warmed39 U.vm ∧ U.heap = h0) (fun _ _ _ _ _ => True) (fun _ U o U' => ∃ v L, o = .returned v ∧ Q24 Z a1 p2 cs y_a1 h0 n0 v U'.heap L ∧ FrameEnd U o U' L ({ frames := 3, cells := 0, slots := 0, locals := 40 } : Room).cells ({ frames := 3, cells := 0, slots := 0, locals := 40 } : Room).slots) := by
  refine MetFree.of_bodySF (plainFor_of_name pn_24) hisR ?_
  intro p e s m args below meth c s₁ Bd hml0 hP hK
  obtain ⟨rfl, hZ, hh⟩ := hP
  have hx := Bd.exec
  have hby := Bd.bytes
  have hml : c.maxLocals = 2 := hml0
  have hown : s.vm.findClass "java/lang/StringUTF16" = some m.cls := findClass_of_methodNamed Bd.named
  have hnm := (name_of_methodNamed Bd.named Bd.method).1
  have X0 : Stand p l e ({ frames := 3, cells := 0, slots := 0, locals := 40 } : Room) s m #[(.ref a1), (.int p2)] below meth c s₁ [] 0 0 := Stand.of_body Bd
  have e0 : s₁.heap = h0 := by rw [← hh, Bd.state]; rfl
  have N0 := Fr.nil n0
  have pre0 : ∀ t, Steps p.tables e below (s₁.setTop (mkF m 0 #[.val (.ref a1), .val (.int p2)] [])) t → Steps p.tables e below (s₁.setTop (entryFrame m #[(.ref a1), (.int p2)] 2)) t := fun t k => castTop (ef_24 m a1 p2) k
  obtain ⟨_, _, ⟨T1, L1, k1, n1⟩, -, X1, ⟨Lc1, hQ1, l1, y1, z1⟩, st1⟩ := Jvm.LawKit.callS X0 hx (y := (⟨"java/lang/StringUTF16", "checkIndex", "(I[B)V"⟩ : MethodName)) hown (mvT hZ (hw _ (List.mem_of_getElem? (i := 103) rfl))) (mvT hZ (hw _ (List.mem_of_getElem? (i := 104) rfl))) (mvT hZ (hw _ (List.mem_of_getElem? (i := 23) rfl))) (mvT hZ (hw _ (List.mem_of_getElem? (i := 105) rfl))) (by decide) (backOf (W := 0) (rm25 l Z a0 hw [] p2 a1 cs y_a1 h0 n0 Z0 A_a1 hWd hin O0) hZ (hw _ (List.mem_of_getElem? (i := 105) rfl)) (hw _ (List.mem_of_getElem? (i := 23) rfl)) (by decide) (by decide)) (g := (mkF m 2 #[.val (.ref a1), .val (.int p2)] [(.ref a1), (.int p2)])) rfl (by rw [hml]; rfl) (argsL := [(.int p2), (.ref a1)]) (rest := []) (lenOf pd_3 rfl) rfl (by show 2 * 0 + _ ≤ _; exact Nat.le_of_eq rfl) (hb hby d24_2) (fun _ _ => ⟨rfl, e0, (by decide : 0 + 0 ≤ _), (by decide : 0 + 0 ≤ _)⟩)
  dsimp only [Pt.U, Pt.locs, Pt.cells, Pt.slots] at X1 l1 y1 z1 st1 hQ1
  subst l1 y1 z1
  obtain ⟨rfl, N1q, e1⟩ := hQ1
  have N1 := Fr.app N0 N1q
  obtain ⟨_, _, ⟨T2, L2, k2, n2⟩, -, X2, ⟨Lc2, hQ2, l2, y2, z2⟩, st2⟩ := Jvm.LawKit.callS X1 hx (y := (⟨"java/lang/StringUTF16", "getChar", "([BI)C"⟩ : MethodName)) hown (mvT hZ (hw _ (List.mem_of_getElem? (i := 97) rfl))) (mvT hZ (hw _ (List.mem_of_getElem? (i := 98) rfl))) (mvT hZ (hw _ (List.mem_of_getElem? (i := 23) rfl))) (mvT hZ (hw _ (List.mem_of_getElem? (i := 99) rfl))) (by decide) (backOf (W := 0) (rm23 l Z a0 hw [] a1 p2 cs y_a1 h0 n0 Z0 A_a1 hWd hin O0) hZ (hw _ (List.mem_of_getElem? (i := 99) rfl)) (hw _ (List.mem_of_getElem? (i := 23) rfl)) (by decide) (by decide)) (g := (mkF m 7 #[.val (.ref a1), .val (.int p2)] [(.int p2), (.ref a1)])) rfl (by rw [hml]; rfl) (argsL := [(.ref a1), (.int p2)]) (rest := []) (lenOf pd_4 rfl) rfl (by show 2 * 0 + _ ≤ _; exact Nat.le_of_eq rfl) (hb hby d24_7) (fun _ _ => ⟨rfl, e1, (by decide : 0 + 0 ≤ _), (by decide : 0 + 0 ≤ _)⟩)
  dsimp only [Pt.U, Pt.locs, Pt.cells, Pt.slots] at X2 l2 y2 z2 st2 hQ2
  subst l2 y2 z2
  obtain ⟨rfl, N2q, e2⟩ := hQ2
  have N2 := Fr.app N1 N2q
  have er : (f24 p2 y_a1) = (nar .char (f23 p2 y_a1)) := by exact rfl
  obtain ⟨fs, hr, hrun, hended, hW, hsame⟩ := X2.leave (v := some (.int (nar .char (f23 p2 y_a1)))) (fun h => by rw [Bd.returns] at h; cases h)
  refine ⟨_, _, pre0 _ ?_, hrun, hended, _, _, rfl, ?_, ⟨_, rfl⟩, hW, hsame.mono (by decide) (by decide)⟩
  · show Steps p.tables e below (s₁.setTop (mkF m 0 #[.val (.ref a1), .val (.int p2)] [])) _
    refine XS.iloadN X0.here hx rfl (hb hby d24_0) rfl ?_
    show Steps p.tables e below (s₁.setTop (mkF m 1 #[.val (.ref a1), .val (.int p2)] [(.int p2)])) _
    refine XS.aloadN X0.here hx rfl (hb hby d24_1) rfl rfl ?_
    show Steps p.tables e below (s₁.setTop (mkF m 2 #[.val (.ref a1), .val (.int p2)] [(.ref a1), (.int p2)])) _
    refine st1 _ ?_
    show Steps p.tables e below (T1.setTop (mkF m 5 #[.val (.ref a1), .val (.int p2)] [])) _
    refine XS.aloadN X1.here hx rfl (hb hby d24_5) rfl rfl ?_
    show Steps p.tables e below (T1.setTop (mkF m 6 #[.val (.ref a1), .val (.int p2)] [(.ref a1)])) _
    refine XS.iloadN X1.here hx rfl (hb hby d24_6) rfl ?_
    show Steps p.tables e below (T1.setTop (mkF m 7 #[.val (.ref a1), .val (.int p2)] [(.int p2), (.ref a1)])) _
    refine st2 _ ?_
    show Steps p.tables e below (T2.setTop (mkF m 10 #[.val (.ref a1), .val (.int p2)] [(.int (f23 p2 y_a1))])) _
    exact retN X2 hx (t := .char) Bd.returns (by simp) (hb hby d24_10) hr
  · show Q24 Z a1 p2 cs y_a1 h0 n0 _ T2.heap _
    rw [e2]
    exact ⟨congrArg (fun z => some (Value.int z)) er.symm, N2, rfl⟩
theorem d13_0 : decode jdk_42_method_152_code 0 = .ok (.getstatic 38, 3) := by decide +kernel
theorem d13_3 : decode jdk_42_method_152_code 3 = .ok (.ifCond .eq 10, 3) := by decide +kernel
theorem d13_6 : decode jdk_42_method_152_code 6 = .ok (.aload_n 0, 1) := by decide +kernel
theorem d13_7 : decode jdk_42_method_152_code 7 = .ok (.getfield 15, 3) := by decide +kernel
theorem d13_10 : decode jdk_42_method_152_code 10 = .ok (.goto 4, 3) := by decide +kernel
theorem d13_14 : decode jdk_42_method_152_code 14 = .ok (.ireturn, 1) := by decide +kernel
theorem pn_13 : plainName "java/lang/String" = true := by first | (simp [plainName, overriddenIn]; done) | decide +kernel
theorem ef_13 (m : MethodId) (a1 : Addr) : entryFrame m #[(.ref a1)] 1 = mkF m 0 #[.val (.ref a1)] [] := by first | (simp [entryFrame, mkF, argsToLocals, Value.category]; done) | rfl
def f13 (f_coder_a1 : Int32) : Int32 :=
  (nar .byte f_coder_a1)
def Q13 (Z : State) (a1 : Addr) (cs : Int32) (f_coder_a1 : Int32) (h0 : Heap) (n0 : Nat) (v : Option Value) (h : Heap) (L : List Loc) : Prop := v = some (.int (f13 f_coder_a1)) ∧ Fr n0 L ∧ h = h0
set_option maxRecDepth 65536 in
set_option maxHeartbeats 40000000 in
theorem rm13 (l : Launch) (Z : State) (a0 : Array Value) (hw : ∀ d ∈ tables_1, d.before a0 Z = true) (ws : List Jvm.Cond) (a1 : Addr) (cs : Int32) (f_coder_a1 : Int32) (h0 : Heap) (n0 : Nat) (Z0 : n0 ≤ h0.size) (F_coder_a1 : Fld Z h0 a1 "java/lang/String" "coder" "B" (.int f_coder_a1)) (hWd : own_W Z cs) (O0 : Old Z n0 h0) :
    MetFree l (⟨"java/lang/String", "coder", "()B"⟩ : MethodName) (head1 (Jvm.Cond.code (⟨"java/lang/String", "coder", "()B"⟩ : MethodName) jdk_42_method_152_code 1 (some .byte) :: ws) ({ frames := 0, cells := 0, slots := 0, locals := 0 } : Room)) (fun a U => a = #[(.ref a1)] ∧ Z.Warmed39 U.vm ∧ U.heap = h0) (fun _ _ _ _ _ => True) (fun _ U o U' => ∃ v L, o = .returned v ∧ Q13 Z a1 cs f_coder_a1 h0 n0 v U'.heap L ∧ FrameEnd U o U' L ({ frames := 0, cells := 0, slots := 0, locals := 0 } : Room).cells ({ frames := 0, cells := 0, slots := 0, locals := 0 } : Room).slots) := by
  refine MetFree.of_bodySF (plainFor_of_name pn_13) hisR ?_
  intro p e s m args below meth c s₁ Bd hml0 hP hK
  obtain ⟨rfl, hZ, hh⟩ := hP
  have hx := Bd.exec
  have hby := Bd.bytes
  have hml : c.maxLocals = 1 := hml0
  have hown : s.vm.findClass "java/lang/String" = some m.cls := findClass_of_methodNamed Bd.named
  have hnm := (name_of_methodNamed Bd.named Bd.method).1
  have X0 : Stand p l e ({ frames := 0, cells := 0, slots := 0, locals := 0 } : Room) s m #[(.ref a1)] below meth c s₁ [] 0 0 := Stand.of_body Bd
  have e0 : s₁.heap = h0 := by rw [← hh, Bd.state]; rfl
  have N0 := Fr.nil n0
  have pre0 : ∀ t, Steps p.tables e below (s₁.setTop (mkF m 0 #[.val (.ref a1)] [])) t → Steps p.tables e below (s₁.setTop (entryFrame m #[(.ref a1)] 1)) t := fun t k => castTop (ef_13 m a1) k
  obtain ⟨T1, X1, e1, st1⟩ := getS2 X0 hx hZ hown (host := "") (Or.inl (hw _ (List.mem_of_getElem? (i := 20) rfl))) Via.refl e0 (hWd.1.ext O0.2) (g := (mkF m 0 #[.val (.ref a1)] [])) rfl (hb hby d13_0)
  obtain ⟨T2, X2, e2, st2⟩ := getF X1 hx hZ hown (host := "") (Or.inl (hw _ (List.mem_of_getElem? (i := 32) rfl))) Via.refl e1 F_coder_a1 (g := (mkF m 7 #[.val (.ref a1)] [(.ref a1)])) rfl rfl (hb hby d13_7)
  have er : (f13 f_coder_a1) = (nar .byte f_coder_a1) := by exact rfl
  obtain ⟨fs, hr, hrun, hended, hW, hsame⟩ := X2.leave (v := some (.int (nar .byte f_coder_a1))) (fun h => by rw [Bd.returns] at h; cases h)
  refine ⟨_, _, pre0 _ ?_, hrun, hended, _, _, rfl, ?_, ⟨_, rfl⟩, hW, hsame.mono (by decide) (by decide)⟩
  · show Steps p.tables e below (s₁.setTop (mkF m 0 #[.val (.ref a1)] [])) _
    refine st1 _ ?_
    show Steps p.tables e below (T1.setTop (mkF m 3 #[.val (.ref a1)] [(.int cs)])) _
    refine XS.ifNo X1.here hx rfl (hb hby d13_3) rfl ((if0 _ _).trans (feq hWd.2.1).1) ?_
    show Steps p.tables e below (T1.setTop (mkF m 6 #[.val (.ref a1)] [])) _
    refine XS.aloadN X1.here hx rfl (hb hby d13_6) rfl rfl ?_
    show Steps p.tables e below (T1.setTop (mkF m 7 #[.val (.ref a1)] [(.ref a1)])) _
    refine st2 _ ?_
    show Steps p.tables e below (T2.setTop (mkF m 10 #[.val (.ref a1)] [(.int f_coder_a1)])) _
    refine XS.goto X2.here hx rfl (pc0 := 10) (pc' := 14) rfl (hb hby d13_10) (by decide) (by decide) ?_
    show Steps p.tables e below (T2.setTop (mkF m 14 #[.val (.ref a1)] [(.int f_coder_a1)])) _
    exact retN X2 hx (t := .byte) Bd.returns (by simp) (hb hby d13_14) hr
  · show Q13 Z a1 cs f_coder_a1 h0 n0 _ T2.heap _
    rw [e2]
    exact ⟨congrArg (fun z => some (Value.int z)) er.symm, N0, rfl⟩
theorem d15_0 : decode jdk_42_method_154_code 0 = .ok (.getstatic 38, 3) := by decide +kernel
theorem d15_3 : decode jdk_42_method_154_code 3 = .ok (.ifCond .eq 14, 3) := by decide +kernel
theorem d15_6 : decode jdk_42_method_154_code 6 = .ok (.aload_n 0, 1) := by decide +kernel
theorem d15_7 : decode jdk_42_method_154_code 7 = .ok (.getfield 15, 3) := by decide +kernel
theorem d15_10 : decode jdk_42_method_154_code 10 = .ok (.ifCond .ne 7, 3) := by decide +kernel
theorem d15_13 : decode jdk_42_method_154_code 13 = .ok (.iconst 1, 1) := by decide +kernel
theorem d15_14 : decode jdk_42_method_154_code 14 = .ok (.goto 4, 3) := by decide +kernel
theorem d15_17 : decode jdk_42_method_154_code 17 = .ok (.iconst 0, 1) := by decide +kernel
theorem d15_18 : decode jdk_42_method_154_code 18 = .ok (.ireturn, 1) := by decide +kernel
theorem pn_15 : plainName "java/lang/String" = true := by first | (simp [plainName, overriddenIn]; done) | decide +kernel
theorem ef_15 (m : MethodId) (a1 : Addr) : entryFrame m #[(.ref a1)] 1 = mkF m 0 #[.val (.ref a1)] [] := by first | (simp [entryFrame, mkF, argsToLocals, Value.category]; done) | rfl
def f15 (f_coder_a1 : Int32) : Int32 :=
  (nar .boolean (if f_coder_a1 = (0 : Int32) then (1 : Int32) else (0 : Int32)))
def Q15 (Z : State) (a1 : Addr) (cs : Int32) (f_coder_a1 : Int32) (h0 : Heap) (n0 : Nat) (v : Option Value) (h : Heap) (L : List Loc) : Prop := v = some (.int (f15 f_coder_a1)) ∧ Fr n0 L ∧ h = h0
set_option maxRecDepth 65536 in
set_option maxHeartbeats 40000000 in
theorem rm15 (l : Launch) (Z : State) (a0 : Array Value) (hw : ∀ d ∈ tables_1, d.before a0 Z = true) (ws : List Jvm.Cond) (a1 : Addr) (cs : Int32) (f_coder_a1 : Int32) (h0 : Heap) (n0 : Nat) (Z0 : n0 ≤ h0.size) (F_coder_a1 : Fld Z h0 a1 "java/lang/String" "coder" "B" (.int f_coder_a1)) (hWd : own_W Z cs) (O0 : Old Z n0 h0) :
    MetFree l (⟨"java/lang/String", "isLatin1", "()Z"⟩ : MethodName) (head1 (Jvm.Cond.code (⟨"java/lang/String", "isLatin1", "()Z"⟩ : MethodName) jdk_42_method_154_code 1 (some .boolean) :: ws) ({ frames := 0, cells := 0, slots := 0, locals := 0 } : Room)) (fun a U => a = #[(.ref a1)] ∧ Z.Warmed39 U.vm ∧ U.heap = h0) (fun _ _ _ _ _ => True) (fun _ U o U' => ∃ v L, o = .returned v ∧ Q15 Z a1 cs f_coder_a1 h0 n0 v U'.heap L ∧ FrameEnd U o U' L ({ frames := 0, cells := 0, slots := 0, locals := 0 } : Room).cells ({ frames := 0, cells := 0, slots := 0, locals := 0 } : Room).slots) := by
  refine MetFree.of_bodySF (plainFor_of_name pn_15) hisR ?_
  intro p e s m args below meth c s₁ Bd hml0 hP hK
  obtain ⟨rfl, hZ, hh⟩ := hP
  have hx := Bd.exec
  have hby := Bd.bytes
  have hml : c.maxLocals = 1 := hml0
  have hown : s.vm.findClass "java/lang/String" = some m.cls := findClass_of_methodNamed Bd.named
  have hnm := (name_of_methodNamed Bd.named Bd.method).1
  have X0 : Stand p l e ({ frames := 0, cells := 0, slots := 0, locals := 0 } : Room) s m #[(.ref a1)] below meth c s₁ [] 0 0 := Stand.of_body Bd
  have e0 : s₁.heap = h0 := by rw [← hh, Bd.state]; rfl
  have N0 := Fr.nil n0
  have pre0 : ∀ t, Steps p.tables e below (s₁.setTop (mkF m 0 #[.val (.ref a1)] [])) t → Steps p.tables e below (s₁.setTop (entryFrame m #[(.ref a1)] 1)) t := fun t k => castTop (ef_15 m a1) k
  obtain ⟨T1, X1, e1, st1⟩ := getS2 X0 hx hZ hown (host := "") (Or.inl (hw _ (List.mem_of_getElem? (i := 20) rfl))) Via.refl e0 (hWd.1.ext O0.2) (g := (mkF m 0 #[.val (.ref a1)] [])) rfl (hb hby d15_0)
  obtain ⟨T2, X2, e2, st2⟩ := getF X1 hx hZ hown (host := "") (Or.inl (hw _ (List.mem_of_getElem? (i := 32) rfl))) Via.refl e1 F_coder_a1 (g := (mkF m 7 #[.val (.ref a1)] [(.ref a1)])) rfl rfl (hb hby d15_7)
  obtain ⟨v4, hv4⟩ : ∃ z : Int32, z = (if f_coder_a1 = (0 : Int32) then (1 : Int32) else (0 : Int32)) := ⟨_, rfl⟩
  have pre5 : ∀ t, Steps p.tables e below (T2.setTop (mkF m 18 #[.val (.ref a1)] [(.int v4)])) t → Steps p.tables e below (s₁.setTop (entryFrame m #[(.ref a1)] 1)) t := fun t k => pre0 t (by
    show Steps p.tables e below (s₁.setTop (mkF m 0 #[.val (.ref a1)] [])) _
    refine st1 _ ?_
    show Steps p.tables e below (T1.setTop (mkF m 3 #[.val (.ref a1)] [(.int cs)])) _
    refine XS.ifNo X1.here hx rfl (hb hby d15_3) rfl ((if0 _ _).trans (feq hWd.2.1).1) ?_
    show Steps p.tables e below (T1.setTop (mkF m 6 #[.val (.ref a1)] [])) _
    refine XS.aloadN X1.here hx rfl (hb hby d15_6) rfl rfl ?_
    show Steps p.tables e below (T1.setTop (mkF m 7 #[.val (.ref a1)] [(.ref a1)])) _
    refine st2 _ ?_
    show Steps p.tables e below (T2.setTop (mkF m 10 #[.val (.ref a1)] [(.int f_coder_a1)])) _
    by_cases hc3 : f_coder_a1 = (0 : Int32)
    · refine XS.ifNo X2.here hx rfl (hb hby d15_10) rfl ((if0 _ _).trans (teq hc3).2) ?_
      show Steps p.tables e below (T2.setTop (mkF m 13 #[.val (.ref a1)] [])) _
      refine XS.iconst X2.here hx rfl (hb hby d15_13) ?_
      show Steps p.tables e below (T2.setTop (mkF m 14 #[.val (.ref a1)] [(.int (1 : Int32))])) _
      refine XS.goto X2.here hx rfl (pc0 := 14) (pc' := 18) rfl (hb hby d15_14) (by decide) (by decide) ?_
      rw [show v4 = (1 : Int32) from hv4.trans (if_pos hc3)] at k
      exact k
    · refine XS.ifYes X2.here hx rfl (pc0 := 10) (pc' := 17) rfl (hb hby d15_10) rfl ((if0 _ _).trans (feq hc3).2) (by decide) (by decide) ?_
      show Steps p.tables e below (T2.setTop (mkF m 17 #[.val (.ref a1)] [])) _
      refine XS.iconst X2.here hx rfl (hb hby d15_17) ?_
      rw [show v4 = (0 : Int32) from hv4.trans (if_neg hc3)] at k
      exact k)
  have er : (f15 f_coder_a1) = (nar .boolean v4) := by subst hv4; exact rfl
  obtain ⟨fs, hr, hrun, hended, hW, hsame⟩ := X2.leave (v := some (.int (nar .boolean v4))) (fun h => by rw [Bd.returns] at h; cases h)
  refine ⟨_, _, pre5 _ ?_, hrun, hended, _, _, rfl, ?_, ⟨_, rfl⟩, hW, hsame.mono (by decide) (by decide)⟩
  · show Steps p.tables e below (T2.setTop (mkF m 18 #[.val (.ref a1)] [(.int v4)])) _
    exact retN X2 hx (t := .boolean) Bd.returns (by simp) (hb hby d15_18) hr
  · show Q15 Z a1 cs f_coder_a1 h0 n0 _ T2.heap _
    rw [e2]
    exact ⟨congrArg (fun z => some (Value.int z)) er.symm, N0, rfl⟩
theorem pd_5 : parseMethodDescriptor "()B" = some ⟨[], some .byte⟩ := by decide +kernel
theorem d12_0 : decode jdk_42_method_54_code 0 = .ok (.aload_n 0, 1) := by decide +kernel
theorem d12_1 : decode jdk_42_method_54_code 1 = .ok (.getfield 9, 3) := by decide +kernel
theorem d12_4 : decode jdk_42_method_54_code 4 = .ok (.arraylength, 1) := by decide +kernel
theorem d12_5 : decode jdk_42_method_54_code 5 = .ok (.aload_n 0, 1) := by decide +kernel
theorem d12_6 : decode jdk_42_method_54_code 6 = .ok (.invokevirtual 335, 3) := by decide +kernel
theorem d12_9 : decode jdk_42_method_54_code 9 = .ok (.ishr, 1) := by decide +kernel
theorem d12_10 : decode jdk_42_method_54_code 10 = .ok (.ireturn, 1) := by decide +kernel
theorem pn_12 : plainName "java/lang/String" = true := by first | (simp [plainName, overriddenIn]; done) | decide +kernel
theorem ef_12l (m : MethodId) (a1 : Addr) : entryFrame m #[(.ref a1)] 1 = mkF m 0 #[.val (.ref a1)] [] := by first | (simp [entryFrame, mkF, argsToLocals, Value.category]; done) | rfl
def f12l  : Int32 :=
  ((6 : Int32) >>> ((f13 (0 : Int32)) &&& 31))
def Q12l (Z : State) (a1 : Addr) (cs : Int32) (f_value_a1 : Addr) (y_f_value_a1 : Int32 → Int32) (h0 : Heap) (n0 : Nat) (v : Option Value) (h : Heap) (L : List Loc) : Prop := v = some (.int f12l) ∧ Fr n0 L ∧ h = h0
set_option maxRecDepth 65536 in
set_option maxHeartbeats 40000000 in
theorem rm12l (l : Launch) (Z : State) (a0 : Array Value) (hw : ∀ d ∈ tables_1, d.before a0 Z = true) (ws : List Jvm.Cond) (a1 : Addr) (cs : Int32) (f_value_a1 : Addr) (y_f_value_a1 : Int32 → Int32) (h0 : Heap) (n0 : Nat) (Z0 : n0 ≤ h0.size) (F_value_a1 : Fld Z h0 a1 "java/lang/String" "value" "[B" (.ref f_value_a1)) (A_f_value_a1 : own_A Z h0 f_value_a1 .byte (6 : Int32) (fun i => .int (y_f_value_a1 i))) (F_coder_a1 : Fld Z h0 a1 "java/lang/String" "coder" "B" (.int (0 : Int32))) (E_a1 : Exa Z h0 a1 "java/lang/String") (hWd : own_W Z cs) (O0 : Old Z n0 h0) :
    MetFree l (⟨"java/lang/String", "length", "()I"⟩ : MethodName) (head1 (Jvm.Cond.code (⟨"java/lang/String", "length", "()I"⟩ : MethodName) jdk_42_method_54_code 1 (some .int) :: ws) ({ frames := 1, cells := 0, slots := 0, locals := 13 } : Room)) (fun a U => a = #[(.ref a1)] ∧ Z.Warmed39 U.vm ∧ U.heap = h0) (fun _ _ _ _ _ => True) (fun _ U o U' => ∃ v L, o = .returned v ∧ Q12l Z a1 cs f_value_a1 y_f_value_a1 h0 n0 v U'.heap L ∧ FrameEnd U o U' L ({ frames := 1, cells := 0, slots := 0, locals := 13 } : Room).cells ({ frames := 1, cells := 0, slots := 0, locals := 13 } : Room).slots) := by
  refine MetFree.of_bodySF (plainFor_of_name pn_12) hisR ?_
  intro p e s m args below meth c s₁ Bd hml0 hP hK
  obtain ⟨rfl, hZ, hh⟩ := hP
  have hx := Bd.exec
  have hby := Bd.bytes
  have hml : c.maxLocals = 1 := hml0
  have hown : s.vm.findClass "java/lang/String" = some m.cls := findClass_of_methodNamed Bd.named
  have hnm := (name_of_methodNamed Bd.named Bd.method).1
  have X0 : Stand p l e ({ frames := 1, cells := 0, slots := 0, locals := 13 } : Room) s m #[(.ref a1)] below meth c s₁ [] 0 0 := Stand.of_body Bd
  have e0 : s₁.heap = h0 := by rw [← hh, Bd.state]; rfl
  have N0 := Fr.nil n0
  have pre0 : ∀ t, Steps p.tables e below (s₁.setTop (mkF m 0 #[.val (.ref a1)] [])) t → Steps p.tables e below (s₁.setTop (entryFrame m #[(.ref a1)] 1)) t := fun t k => castTop (ef_12l m a1) k
  obtain ⟨T1, X1, e1, st1⟩ := getF X0 hx hZ hown (host := "") (Or.inl (hw _ (List.mem_of_getElem? (i := 34) rfl))) Via.refl e0 F_value_a1 (g := (mkF m 1 #[.val (.ref a1)] [(.ref a1)])) rfl rfl (hb hby d12_1)
  obtain ⟨cl2, Ar2, Sz2, Mz2, Hz2⟩ := id A_f_value_a1
  obtain ⟨cq3, kq3, q3a, q3b, q3c⟩ := isOf hZ e1 E_a1
  obtain ⟨_, _, ⟨T3, L3, k3, n3⟩, -, X3, ⟨Lc3, hQ3, l3, y3, z3⟩, st3⟩ := X1.virtualBack hx (y := (⟨"java/lang/String", "coder", "()B"⟩ : MethodName)) (z := (⟨"java/lang/String", "coder", "()B"⟩ : MethodName)) hown (mvT hZ (hw _ (List.mem_of_getElem? (i := 54) rfl))) (mvT hZ (hw _ (List.mem_of_getElem? (i := 55) rfl))) (notFace_of_selects (args := #[]) (mvT hZ (hw _ (List.mem_of_getElem? (i := 57) rfl)))) (mvT hZ (hw _ (List.mem_of_getElem? (i := 57) rfl))) (mvT hZ (hw _ (List.mem_of_getElem? (i := 56) rfl))) (by decide) (backOf (W := 1) (rm13 l Z a0 hw [] a1 cs (0 : Int32) h0 n0 Z0 F_coder_a1 hWd O0) hZ (hw _ (List.mem_of_getElem? (i := 58) rfl)) (hw _ (List.mem_of_getElem? (i := 9) rfl)) (by decide) (by decide)) q3a q3c (g := (mkF m 6 #[.val (.ref a1)] [(.ref a1), (.int (6 : Int32))])) rfl (by rw [hml]; rfl) (Steps.refl _) (argsL := []) (rest := [(.int (6 : Int32))]) (lenOf pd_5 rfl) rfl (by show 2 * 0 + _ ≤ _; exact Nat.le_of_eq rfl) (hb hby d12_6) (fun _ _ => ⟨rfl, e1, (by decide : 0 + 0 ≤ _), (by decide : 0 + 0 ≤ _)⟩)
  dsimp only [Pt.U, Pt.locs, Pt.cells, Pt.slots] at X3 l3 y3 z3 st3 hQ3
  subst l3 y3 z3
  obtain ⟨rfl, N3q, e3⟩ := hQ3
  have N3 := Fr.app N0 N3q
  have er : f12l = ((6 : Int32) >>> ((f13 (0 : Int32)) &&& 31)) := by exact rfl
  obtain ⟨fs, hr, hrun, hended, hW, hsame⟩ := X3.leave (v := some (.int ((6 : Int32) >>> ((f13 (0 : Int32)) &&& 31)))) (fun h => by rw [Bd.returns] at h; cases h)
  refine ⟨_, _, pre0 _ ?_, hrun, hended, _, _, rfl, ?_, ⟨_, rfl⟩, hW, hsame.mono (by decide) (by decide)⟩
  · show Steps p.tables e below (s₁.setTop (mkF m 0 #[.val (.ref a1)] [])) _
    refine XS.aloadN X0.here hx rfl (hb hby d12_0) rfl rfl ?_
    show Steps p.tables e below (s₁.setTop (mkF m 1 #[.val (.ref a1)] [(.ref a1)])) _
    refine st1 _ ?_
    show Steps p.tables e below (T1.setTop (mkF m 4 #[.val (.ref a1)] [(.ref f_value_a1)])) _
    refine X1.arraylength hx (by rw [e1]; exact Ar2.1) (State.isArrayOf_alike hZ.alike Ar2.2.1) (g := (mkF m 4 #[.val (.ref a1)] [(.ref f_value_a1)])) rfl rfl (hb hby d12_4) _ ?_
    rw [len_of Sz2 Mz2]
    show Steps p.tables e below (T1.setTop (mkF m 5 #[.val (.ref a1)] [(.int (6 : Int32))])) _
    refine XS.aloadN X1.here hx rfl (hb hby d12_5) rfl rfl ?_
    show Steps p.tables e below (T1.setTop (mkF m 6 #[.val (.ref a1)] [(.ref a1), (.int (6 : Int32))])) _
    refine st3.trans ?_
    show Steps p.tables e below (T3.setTop (mkF m 9 #[.val (.ref a1)] [(.int (f13 (0 : Int32))), (.int (6 : Int32))])) _
    refine XS.ishr X3.here hx rfl (hb hby d12_9) rfl ?_
    show Steps p.tables e below (T3.setTop (mkF m 10 #[.val (.ref a1)] [(.int ((6 : Int32) >>> ((f13 (0 : Int32)) &&& 31)))])) _
    exact retI X3 hx Bd.returns (hb hby d12_10) hr
  · show Q12l Z a1 cs f_value_a1 y_f_value_a1 h0 n0 _ T3.heap _
    rw [e3]
    exact ⟨congrArg (fun z => some (Value.int z)) er.symm, N3, rfl⟩
theorem ef_12u (m : MethodId) (a1 : Addr) : entryFrame m #[(.ref a1)] 1 = mkF m 0 #[.val (.ref a1)] [] := by first | (simp [entryFrame, mkF, argsToLocals, Value.category]; done) | rfl
def f12u  : Int32 :=
  ((12 : Int32) >>> ((f13 (1 : Int32)) &&& 31))
def Q12u (Z : State) (a1 : Addr) (cs : Int32) (f_value_a1 : Addr) (y_f_value_a1 : Int32 → Int32) (h0 : Heap) (n0 : Nat) (v : Option Value) (h : Heap) (L : List Loc) : Prop := v = some (.int f12u) ∧ Fr n0 L ∧ h = h0
set_option maxRecDepth 65536 in
set_option maxHeartbeats 40000000 in
theorem rm12u (l : Launch) (Z : State) (a0 : Array Value) (hw : ∀ d ∈ tables_1, d.before a0 Z = true) (ws : List Jvm.Cond) (a1 : Addr) (cs : Int32) (f_value_a1 : Addr) (y_f_value_a1 : Int32 → Int32) (h0 : Heap) (n0 : Nat) (Z0 : n0 ≤ h0.size) (F_value_a1 : Fld Z h0 a1 "java/lang/String" "value" "[B" (.ref f_value_a1)) (A_f_value_a1 : own_A Z h0 f_value_a1 .byte (12 : Int32) (fun i => .int (y_f_value_a1 i))) (F_coder_a1 : Fld Z h0 a1 "java/lang/String" "coder" "B" (.int (1 : Int32))) (E_a1 : Exa Z h0 a1 "java/lang/String") (hWd : own_W Z cs) (O0 : Old Z n0 h0) :
    MetFree l (⟨"java/lang/String", "length", "()I"⟩ : MethodName) (head1 (Jvm.Cond.code (⟨"java/lang/String", "length", "()I"⟩ : MethodName) jdk_42_method_54_code 1 (some .int) :: ws) ({ frames := 1, cells := 0, slots := 0, locals := 13 } : Room)) (fun a U => a = #[(.ref a1)] ∧ Z.Warmed39 U.vm ∧ U.heap = h0) (fun _ _ _ _ _ => True) (fun _ U o U' => ∃ v L, o = .returned v ∧ Q12u Z a1 cs f_value_a1 y_f_value_a1 h0 n0 v U'.heap L ∧ FrameEnd U o U' L ({ frames := 1, cells := 0, slots := 0, locals := 13 } : Room).cells ({ frames := 1, cells := 0, slots := 0, locals := 13 } : Room).slots) := by
  refine MetFree.of_bodySF (plainFor_of_name pn_12) hisR ?_
  intro p e s m args below meth c s₁ Bd hml0 hP hK
  obtain ⟨rfl, hZ, hh⟩ := hP
  have hx := Bd.exec
  have hby := Bd.bytes
  have hml : c.maxLocals = 1 := hml0
  have hown : s.vm.findClass "java/lang/String" = some m.cls := findClass_of_methodNamed Bd.named
  have hnm := (name_of_methodNamed Bd.named Bd.method).1
  have X0 : Stand p l e ({ frames := 1, cells := 0, slots := 0, locals := 13 } : Room) s m #[(.ref a1)] below meth c s₁ [] 0 0 := Stand.of_body Bd
  have e0 : s₁.heap = h0 := by rw [← hh, Bd.state]; rfl
  have N0 := Fr.nil n0
  have pre0 : ∀ t, Steps p.tables e below (s₁.setTop (mkF m 0 #[.val (.ref a1)] [])) t → Steps p.tables e below (s₁.setTop (entryFrame m #[(.ref a1)] 1)) t := fun t k => castTop (ef_12u m a1) k
  obtain ⟨T1, X1, e1, st1⟩ := getF X0 hx hZ hown (host := "") (Or.inl (hw _ (List.mem_of_getElem? (i := 34) rfl))) Via.refl e0 F_value_a1 (g := (mkF m 1 #[.val (.ref a1)] [(.ref a1)])) rfl rfl (hb hby d12_1)
  obtain ⟨cl2, Ar2, Sz2, Mz2, Hz2⟩ := id A_f_value_a1
  obtain ⟨cq3, kq3, q3a, q3b, q3c⟩ := isOf hZ e1 E_a1
  obtain ⟨_, _, ⟨T3, L3, k3, n3⟩, -, X3, ⟨Lc3, hQ3, l3, y3, z3⟩, st3⟩ := X1.virtualBack hx (y := (⟨"java/lang/String", "coder", "()B"⟩ : MethodName)) (z := (⟨"java/lang/String", "coder", "()B"⟩ : MethodName)) hown (mvT hZ (hw _ (List.mem_of_getElem? (i := 54) rfl))) (mvT hZ (hw _ (List.mem_of_getElem? (i := 55) rfl))) (notFace_of_selects (args := #[]) (mvT hZ (hw _ (List.mem_of_getElem? (i := 57) rfl)))) (mvT hZ (hw _ (List.mem_of_getElem? (i := 57) rfl))) (mvT hZ (hw _ (List.mem_of_getElem? (i := 56) rfl))) (by decide) (backOf (W := 1) (rm13 l Z a0 hw [] a1 cs (1 : Int32) h0 n0 Z0 F_coder_a1 hWd O0) hZ (hw _ (List.mem_of_getElem? (i := 58) rfl)) (hw _ (List.mem_of_getElem? (i := 9) rfl)) (by decide) (by decide)) q3a q3c (g := (mkF m 6 #[.val (.ref a1)] [(.ref a1), (.int (12 : Int32))])) rfl (by rw [hml]; rfl) (Steps.refl _) (argsL := []) (rest := [(.int (12 : Int32))]) (lenOf pd_5 rfl) rfl (by show 2 * 0 + _ ≤ _; exact Nat.le_of_eq rfl) (hb hby d12_6) (fun _ _ => ⟨rfl, e1, (by decide : 0 + 0 ≤ _), (by decide : 0 + 0 ≤ _)⟩)
  dsimp only [Pt.U, Pt.locs, Pt.cells, Pt.slots] at X3 l3 y3 z3 st3 hQ3
  subst l3 y3 z3
  obtain ⟨rfl, N3q, e3⟩ := hQ3
  have N3 := Fr.app N0 N3q
  have er : f12u = ((12 : Int32) >>> ((f13 (1 : Int32)) &&& 31)) := by exact rfl
  obtain ⟨fs, hr, hrun, hended, hW, hsame⟩ := X3.leave (v := some (.int ((12 : Int32) >>> ((f13 (1 : Int32)) &&& 31)))) (fun h => by rw [Bd.returns] at h; cases h)
  refine ⟨_, _, pre0 _ ?_, hrun, hended, _, _, rfl, ?_, ⟨_, rfl⟩, hW, hsame.mono (by decide) (by decide)⟩
  · show Steps p.tables e below (s₁.setTop (mkF m 0 #[.val (.ref a1)] [])) _
    refine XS.aloadN X0.here hx rfl (hb hby d12_0) rfl rfl ?_
    show Steps p.tables e below (s₁.setTop (mkF m 1 #[.val (.ref a1)] [(.ref a1)])) _
    refine st1 _ ?_
    show Steps p.tables e below (T1.setTop (mkF m 4 #[.val (.ref a1)] [(.ref f_value_a1)])) _
    refine X1.arraylength hx (by rw [e1]; exact Ar2.1) (State.isArrayOf_alike hZ.alike Ar2.2.1) (g := (mkF m 4 #[.val (.ref a1)] [(.ref f_value_a1)])) rfl rfl (hb hby d12_4) _ ?_
    rw [len_of Sz2 Mz2]
    show Steps p.tables e below (T1.setTop (mkF m 5 #[.val (.ref a1)] [(.int (12 : Int32))])) _
    refine XS.aloadN X1.here hx rfl (hb hby d12_5) rfl rfl ?_
    show Steps p.tables e below (T1.setTop (mkF m 6 #[.val (.ref a1)] [(.ref a1), (.int (12 : Int32))])) _
    refine st3.trans ?_
    show Steps p.tables e below (T3.setTop (mkF m 9 #[.val (.ref a1)] [(.int (f13 (1 : Int32))), (.int (12 : Int32))])) _
    refine XS.ishr X3.here hx rfl (hb hby d12_9) rfl ?_
    show Steps p.tables e below (T3.setTop (mkF m 10 #[.val (.ref a1)] [(.int ((12 : Int32) >>> ((f13 (1 : Int32)) &&& 31)))])) _
    exact retI X3 hx Bd.returns (hb hby d12_10) hr
  · show Q12u Z a1 cs f_value_a1 y_f_value_a1 h0 n0 _ T3.heap _
    rw [e3]
    exact ⟨congrArg (fun z => some (Value.int z)) er.symm, N3, rfl⟩
theorem pd_6 : parseMethodDescriptor "()Z" = some ⟨[], some .boolean⟩ := by decide +kernel
theorem d14_0 : decode jdk_42_method_56_code 0 = .ok (.aload_n 0, 1) := by decide +kernel
theorem d14_1 : decode jdk_42_method_56_code 1 = .ok (.invokevirtual 492, 3) := by decide +kernel
theorem d14_4 : decode jdk_42_method_56_code 4 = .ok (.ifCond .eq 12, 3) := by decide +kernel
theorem d14_16 : decode jdk_42_method_56_code 16 = .ok (.aload_n 0, 1) := by decide +kernel
theorem d14_17 : decode jdk_42_method_56_code 17 = .ok (.getfield 9, 3) := by decide +kernel
theorem d14_20 : decode jdk_42_method_56_code 20 = .ok (.iload_n 1, 1) := by decide +kernel
theorem d14_21 : decode jdk_42_method_56_code 21 = .ok (.invokestatic 498, 3) := by decide +kernel
theorem d14_24 : decode jdk_42_method_56_code 24 = .ok (.ireturn, 1) := by decide +kernel
theorem pn_14 : plainName "java/lang/String" = true := by first | (simp [plainName, overriddenIn]; done) | decide +kernel
theorem ef_14u (m : MethodId) (a1 : Addr) (p2 : Int32) : entryFrame m #[(.ref a1), (.int p2)] 2 = mkF m 0 #[.val (.ref a1), .val (.int p2)] [] := by first | (simp [entryFrame, mkF, argsToLocals, Value.category]; done) | rfl
def f14u (p2 : Int32) (y_f_value_a1 : Int32 → Int32) : Int32 :=
  (nar .char (f24 p2 y_f_value_a1))
def Q14u (Z : State) (a1 : Addr) (p2 : Int32) (cs : Int32) (f_value_a1 : Addr) (y_f_value_a1 : Int32 → Int32) (h0 : Heap) (n0 : Nat) (v : Option Value) (h : Heap) (L : List Loc) : Prop := v = some (.int (f14u p2 y_f_value_a1)) ∧ Fr n0 L ∧ h = h0
set_option maxRecDepth 65536 in
set_option maxHeartbeats 40000000 in
theorem rm14u (l : Launch) (Z : State) (a0 : Array Value) (hw : ∀ d ∈ tables_1, d.before a0 Z = true) (ws : List Jvm.Cond) (a1 : Addr) (p2 : Int32) (cs : Int32) (f_value_a1 : Addr) (y_f_value_a1 : Int32 → Int32) (h0 : Heap) (n0 : Nat) (Z0 : n0 ≤ h0.size) (F_coder_a1 : Fld Z h0 a1 "java/lang/String" "coder" "B" (.int (1 : Int32))) (E_a1 : Exa Z h0 a1 "java/lang/String") (F_value_a1 : Fld Z h0 a1 "java/lang/String" "value" "[B" (.ref f_value_a1)) (A_f_value_a1 : own_A Z h0 f_value_a1 .byte (12 : Int32) (fun i => .int (y_f_value_a1 i))) (hWd : own_W Z cs) (hin : ¬ p2 < 0 ∧ p2 < (6 : Int32)) (O0 : Old Z n0 h0) :
    MetFree l (⟨"java/lang/String", "charAt", "(I)C"⟩ : MethodName) (head1 (Jvm.Cond.code (⟨"java/lang/String", "charAt", "(I)C"⟩ : MethodName) jdk_42_method_56_code 2 (some .char) :: ws) ({ frames := 4, cells := 0, slots := 0, locals := 53 } : Room)) (fun a U => a = #[(.ref a1), (.int p2)] ∧ Z.Warmed39 U.vm ∧ U.heap = h0) (fun _ _ _ _ _ => True) (fun _ U o U' => ∃ v L, o = .returned v ∧ Q14u Z a1 p2 cs f_value_a1 y_f_value_a1 h0 n0 v U'.heap L ∧ FrameEnd U o U' L ({ frames := 4, cells := 0, slots := 0, locals := 53 } : Room).cells ({ frames := 4, cells := 0, slots := 0, locals := 53 } : Room).slots) := by
  refine MetFree.of_bodySF (plainFor_of_name pn_14) hisR ?_
  intro p e s m args below meth c s₁ Bd hml0 hP hK
  obtain ⟨rfl, hZ, hh⟩ := hP
  have hx := Bd.exec
  have hby := Bd.bytes
  have hml : c.maxLocals = 2 := hml0
  have hown : s.vm.findClass "java/lang/String" = some m.cls := findClass_of_methodNamed Bd.named
  have hnm := (name_of_methodNamed Bd.named Bd.method).1
  have X0 : Stand p l e ({ frames := 4, cells := 0, slots := 0, locals := 53 } : Room) s m #[(.ref a1), (.int p2)] below meth c s₁ [] 0 0 := Stand.of_body Bd
  have e0 : s₁.heap = h0 := by rw [← hh, Bd.state]; rfl
  have N0 := Fr.nil n0
  have pre0 : ∀ t, Steps p.tables e below (s₁.setTop (mkF m 0 #[.val (.ref a1), .val (.int p2)] [])) t → Steps p.tables e below (s₁.setTop (entryFrame m #[(.ref a1), (.int p2)] 2)) t := fun t k => castTop (ef_14u m a1 p2) k
  obtain ⟨cq1, kq1, q1a, q1b, q1c⟩ := isOf hZ e0 E_a1
  obtain ⟨_, _, ⟨T1, L1, k1, n1⟩, -, X1, ⟨Lc1, hQ1, l1, y1, z1⟩, st1⟩ := X0.virtualBack hx (y := (⟨"java/lang/String", "isLatin1", "()Z"⟩ : MethodName)) (z := (⟨"java/lang/String", "isLatin1", "()Z"⟩ : MethodName)) hown (mvT hZ (hw _ (List.mem_of_getElem? (i := 64) rfl))) (mvT hZ (hw _ (List.mem_of_getElem? (i := 65) rfl))) (notFace_of_selects (args := #[]) (mvT hZ (hw _ (List.mem_of_getElem? (i := 67) rfl)))) (mvT hZ (hw _ (List.mem_of_getElem? (i := 67) rfl))) (mvT hZ (hw _ (List.mem_of_getElem? (i := 66) rfl))) (by decide) (backOf (W := 0) (rm15 l Z a0 hw [] a1 cs (1 : Int32) h0 n0 Z0 F_coder_a1 hWd O0) hZ (hw _ (List.mem_of_getElem? (i := 68) rfl)) (hw _ (List.mem_of_getElem? (i := 9) rfl)) (by decide) (by decide)) q1a q1c (g := (mkF m 1 #[.val (.ref a1), .val (.int p2)] [(.ref a1)])) rfl (by rw [hml]; rfl) (Steps.refl _) (argsL := []) (rest := []) (lenOf pd_6 rfl) rfl (by show 2 * 0 + _ ≤ _; exact Nat.le_of_eq rfl) (hb hby d14_1) (fun _ _ => ⟨rfl, e0, (by decide : 0 + 0 ≤ _), (by decide : 0 + 0 ≤ _)⟩)
  dsimp only [Pt.U, Pt.locs, Pt.cells, Pt.slots] at X1 l1 y1 z1 st1 hQ1
  subst l1 y1 z1
  obtain ⟨rfl, N1q, e1⟩ := hQ1
  have N1 := Fr.app N0 N1q
  obtain ⟨T2, X2, e2, st2⟩ := getF X1 hx hZ hown (host := "") (Or.inl (hw _ (List.mem_of_getElem? (i := 34) rfl))) Via.refl e1 F_value_a1 (g := (mkF m 17 #[.val (.ref a1), .val (.int p2)] [(.ref a1)])) rfl rfl (hb hby d14_17)
  obtain ⟨cl3, Ar3, Sz3, Mz3, Hz3⟩ := id A_f_value_a1
  obtain ⟨_, _, ⟨T4, L4, k4, n4⟩, -, X4, ⟨Lc4, hQ4, l4, y4, z4⟩, st4⟩ := Jvm.LawKit.callS X2 hx (y := (⟨"java/lang/StringUTF16", "charAt", "([BI)C"⟩ : MethodName)) hown (mvT hZ (hw _ (List.mem_of_getElem? (i := 100) rfl))) (mvT hZ (hw _ (List.mem_of_getElem? (i := 101) rfl))) (mvT hZ (hw _ (List.mem_of_getElem? (i := 23) rfl))) (mvT hZ (hw _ (List.mem_of_getElem? (i := 102) rfl))) (by decide) (backOf (W := 0) (rm24 l Z a0 hw [] f_value_a1 p2 cs y_f_value_a1 h0 n0 Z0 A_f_value_a1 hWd hin O0) hZ (hw _ (List.mem_of_getElem? (i := 102) rfl)) (hw _ (List.mem_of_getElem? (i := 23) rfl)) (by decide) (by decide)) (g := (mkF m 21 #[.val (.ref a1), .val (.int p2)] [(.int p2), (.ref f_value_a1)])) rfl (by rw [hml]; rfl) (argsL := [(.ref f_value_a1), (.int p2)]) (rest := []) (lenOf pd_4 rfl) rfl (by show 2 * 0 + _ ≤ _; exact Nat.le_of_eq rfl) (hb hby d14_21) (fun _ _ => ⟨rfl, e2, (by decide : 0 + 0 ≤ _), (by decide : 0 + 0 ≤ _)⟩)
  dsimp only [Pt.U, Pt.locs, Pt.cells, Pt.slots] at X4 l4 y4 z4 st4 hQ4
  subst l4 y4 z4
  obtain ⟨rfl, N4q, e4⟩ := hQ4
  have N4 := Fr.app N1 N4q
  have er : (f14u p2 y_f_value_a1) = (nar .char (f24 p2 y_f_value_a1)) := by exact rfl
  obtain ⟨fs, hr, hrun, hended, hW, hsame⟩ := X4.leave (v := some (.int (nar .char (f24 p2 y_f_value_a1)))) (fun h => by rw [Bd.returns] at h; cases h)
  refine ⟨_, _, pre0 _ ?_, hrun, hended, _, _, rfl, ?_, ⟨_, rfl⟩, hW, hsame.mono (by decide) (by decide)⟩
  · show Steps p.tables e below (s₁.setTop (mkF m 0 #[.val (.ref a1), .val (.int p2)] [])) _
    refine XS.aloadN X0.here hx rfl (hb hby d14_0) rfl rfl ?_
    show Steps p.tables e below (s₁.setTop (mkF m 1 #[.val (.ref a1), .val (.int p2)] [(.ref a1)])) _
    refine st1.trans ?_
    show Steps p.tables e below (T1.setTop (mkF m 4 #[.val (.ref a1), .val (.int p2)] [(.int (f15 (1 : Int32)))])) _
    refine XS.ifYes X1.here hx rfl (pc0 := 4) (pc' := 16) rfl (hb hby d14_4) rfl ((if0 _ _).trans (teq (by decide)).1) (by decide) (by decide) ?_
    show Steps p.tables e below (T1.setTop (mkF m 16 #[.val (.ref a1), .val (.int p2)] [])) _
    refine XS.aloadN X1.here hx rfl (hb hby d14_16) rfl rfl ?_
    show Steps p.tables e below (T1.setTop (mkF m 17 #[.val (.ref a1), .val (.int p2)] [(.ref a1)])) _
    refine st2 _ ?_
    show Steps p.tables e below (T2.setTop (mkF m 20 #[.val (.ref a1), .val (.int p2)] [(.ref f_value_a1)])) _
    refine XS.iloadN X2.here hx rfl (hb hby d14_20) rfl ?_
    show Steps p.tables e below (T2.setTop (mkF m 21 #[.val (.ref a1), .val (.int p2)] [(.int p2), (.ref f_value_a1)])) _
    refine st4 _ ?_
    show Steps p.tables e below (T4.setTop (mkF m 24 #[.val (.ref a1), .val (.int p2)] [(.int (f24 p2 y_f_value_a1))])) _
    exact retN X4 hx (t := .char) Bd.returns (by simp) (hb hby d14_24) hr
  · show Q14u Z a1 p2 cs f_value_a1 y_f_value_a1 h0 n0 _ T4.heap _
    rw [e4]
    exact ⟨congrArg (fun z => some (Value.int z)) er.symm, N4, rfl⟩
theorem d14_7 : decode jdk_42_method_56_code 7 = .ok (.aload_n 0, 1) := by decide +kernel
theorem d14_8 : decode jdk_42_method_56_code 8 = .ok (.getfield 9, 3) := by decide +kernel
theorem d14_11 : decode jdk_42_method_56_code 11 = .ok (.iload_n 1, 1) := by decide +kernel
theorem d14_12 : decode jdk_42_method_56_code 12 = .ok (.invokestatic 495, 3) := by decide +kernel
theorem d14_15 : decode jdk_42_method_56_code 15 = .ok (.ireturn, 1) := by decide +kernel
theorem ef_14l (m : MethodId) (a1 : Addr) (p2 : Int32) : entryFrame m #[(.ref a1), (.int p2)] 2 = mkF m 0 #[.val (.ref a1), .val (.int p2)] [] := by first | (simp [entryFrame, mkF, argsToLocals, Value.category]; done) | rfl
def f14l (p2 : Int32) (y_f_value_a1 : Int32 → Int32) : Int32 :=
  (nar .char (f16 p2 y_f_value_a1))
def Q14l (Z : State) (a1 : Addr) (p2 : Int32) (cs : Int32) (f_value_a1 : Addr) (y_f_value_a1 : Int32 → Int32) (h0 : Heap) (n0 : Nat) (v : Option Value) (h : Heap) (L : List Loc) : Prop := v = some (.int (f14l p2 y_f_value_a1)) ∧ Fr n0 L ∧ h = h0
set_option maxRecDepth 65536 in
set_option maxHeartbeats 40000000 in
theorem rm14l (l : Launch) (Z : State) (a0 : Array Value) (hw : ∀ d ∈ tables_1, d.before a0 Z = true) (ws : List Jvm.Cond) (a1 : Addr) (p2 : Int32) (cs : Int32) (f_value_a1 : Addr) (y_f_value_a1 : Int32 → Int32) (h0 : Heap) (n0 : Nat) (Z0 : n0 ≤ h0.size) (F_coder_a1 : Fld Z h0 a1 "java/lang/String" "coder" "B" (.int (0 : Int32))) (E_a1 : Exa Z h0 a1 "java/lang/String") (F_value_a1 : Fld Z h0 a1 "java/lang/String" "value" "[B" (.ref f_value_a1)) (A_f_value_a1 : own_A Z h0 f_value_a1 .byte (6 : Int32) (fun i => .int (y_f_value_a1 i))) (hWd : own_W Z cs) (hin : ¬ p2 < 0 ∧ p2 < (6 : Int32)) (O0 : Old Z n0 h0) :
    MetFree l (⟨"java/lang/String", "charAt", "(I)C"⟩ : MethodName) (head1 (Jvm.Cond.code (⟨"java/lang/String", "charAt", "(I)C"⟩ : MethodName) jdk_42_method_56_code 2 (some .char) :: ws) ({ frames := 4, cells := 0, slots := 0, locals := 53 } : Room)) (fun a U => a = #[(.ref a1), (.int p2)] ∧ Z.Warmed39 U.vm ∧ U.heap = h0) (fun _ _ _ _ _ => True) (fun _ U o U' => ∃ v L, o = .returned v ∧ Q14l Z a1 p2 cs f_value_a1 y_f_value_a1 h0 n0 v U'.heap L ∧ FrameEnd U o U' L ({ frames := 4, cells := 0, slots := 0, locals := 53 } : Room).cells ({ frames := 4, cells := 0, slots := 0, locals := 53 } : Room).slots) := by
  refine MetFree.of_bodySF (plainFor_of_name pn_14) hisR ?_
  intro p e s m args below meth c s₁ Bd hml0 hP hK
  obtain ⟨rfl, hZ, hh⟩ := hP
  have hx := Bd.exec
  have hby := Bd.bytes
  have hml : c.maxLocals = 2 := hml0
  have hown : s.vm.findClass "java/lang/String" = some m.cls := findClass_of_methodNamed Bd.named
  have hnm := (name_of_methodNamed Bd.named Bd.method).1
  have X0 : Stand p l e ({ frames := 4, cells := 0, slots := 0, locals := 53 } : Room) s m #[(.ref a1), (.int p2)] below meth c s₁ [] 0 0 := Stand.of_body Bd
  have e0 : s₁.heap = h0 := by rw [← hh, Bd.state]; rfl
  have N0 := Fr.nil n0
  have pre0 : ∀ t, Steps p.tables e below (s₁.setTop (mkF m 0 #[.val (.ref a1), .val (.int p2)] [])) t → Steps p.tables e below (s₁.setTop (entryFrame m #[(.ref a1), (.int p2)] 2)) t := fun t k => castTop (ef_14l m a1 p2) k
  obtain ⟨cq1, kq1, q1a, q1b, q1c⟩ := isOf hZ e0 E_a1
  obtain ⟨_, _, ⟨T1, L1, k1, n1⟩, -, X1, ⟨Lc1, hQ1, l1, y1, z1⟩, st1⟩ := X0.virtualBack hx (y := (⟨"java/lang/String", "isLatin1", "()Z"⟩ : MethodName)) (z := (⟨"java/lang/String", "isLatin1", "()Z"⟩ : MethodName)) hown (mvT hZ (hw _ (List.mem_of_getElem? (i := 64) rfl))) (mvT hZ (hw _ (List.mem_of_getElem? (i := 65) rfl))) (notFace_of_selects (args := #[]) (mvT hZ (hw _ (List.mem_of_getElem? (i := 67) rfl)))) (mvT hZ (hw _ (List.mem_of_getElem? (i := 67) rfl))) (mvT hZ (hw _ (List.mem_of_getElem? (i := 66) rfl))) (by decide) (backOf (W := 0) (rm15 l Z a0 hw [] a1 cs (0 : Int32) h0 n0 Z0 F_coder_a1 hWd O0) hZ (hw _ (List.mem_of_getElem? (i := 68) rfl)) (hw _ (List.mem_of_getElem? (i := 9) rfl)) (by decide) (by decide)) q1a q1c (g := (mkF m 1 #[.val (.ref a1), .val (.int p2)] [(.ref a1)])) rfl (by rw [hml]; rfl) (Steps.refl _) (argsL := []) (rest := []) (lenOf pd_6 rfl) rfl (by show 2 * 0 + _ ≤ _; exact Nat.le_of_eq rfl) (hb hby d14_1) (fun _ _ => ⟨rfl, e0, (by decide : 0 + 0 ≤ _), (by decide : 0 + 0 ≤ _)⟩)
  dsimp only [Pt.U, Pt.locs, Pt.cells, Pt.slots] at X1 l1 y1 z1 st1 hQ1
  subst l1 y1 z1
  obtain ⟨rfl, N1q, e1⟩ := hQ1
  have N1 := Fr.app N0 N1q
  obtain ⟨T2, X2, e2, st2⟩ := getF X1 hx hZ hown (host := "") (Or.inl (hw _ (List.mem_of_getElem? (i := 34) rfl))) Via.refl e1 F_value_a1 (g := (mkF m 8 #[.val (.ref a1), .val (.int p2)] [(.ref a1)])) rfl rfl (hb hby d14_8)
  obtain ⟨cl3, Ar3, Sz3, Mz3, Hz3⟩ := id A_f_value_a1
  obtain ⟨_, _, ⟨T4, L4, k4, n4⟩, -, X4, ⟨Lc4, hQ4, l4, y4, z4⟩, st4⟩ := Jvm.LawKit.callS X2 hx (y := (⟨"java/lang/StringLatin1", "charAt", "([BI)C"⟩ : MethodName)) hown (mvT hZ (hw _ (List.mem_of_getElem? (i := 69) rfl))) (mvT hZ (hw _ (List.mem_of_getElem? (i := 70) rfl))) (mvT hZ (hw _ (List.mem_of_getElem? (i := 71) rfl))) (mvT hZ (hw _ (List.mem_of_getElem? (i := 72) rfl))) (by decide) (backOf (W := 0) (rm16 l Z a0 hw [] f_value_a1 p2 cs y_f_value_a1 h0 n0 Z0 A_f_value_a1 hWd hin O0) hZ (hw _ (List.mem_of_getElem? (i := 72) rfl)) (hw _ (List.mem_of_getElem? (i := 71) rfl)) (by decide) (by decide)) (g := (mkF m 12 #[.val (.ref a1), .val (.int p2)] [(.int p2), (.ref f_value_a1)])) rfl (by rw [hml]; rfl) (argsL := [(.ref f_value_a1), (.int p2)]) (rest := []) (lenOf pd_4 rfl) rfl (by show 2 * 0 + _ ≤ _; exact Nat.le_of_eq rfl) (hb hby d14_12) (fun _ _ => ⟨rfl, e2, (by decide : 0 + 0 ≤ _), (by decide : 0 + 0 ≤ _)⟩)
  dsimp only [Pt.U, Pt.locs, Pt.cells, Pt.slots] at X4 l4 y4 z4 st4 hQ4
  subst l4 y4 z4
  obtain ⟨rfl, N4q, e4⟩ := hQ4
  have N4 := Fr.app N1 N4q
  have er : (f14l p2 y_f_value_a1) = (nar .char (f16 p2 y_f_value_a1)) := by exact rfl
  obtain ⟨fs, hr, hrun, hended, hW, hsame⟩ := X4.leave (v := some (.int (nar .char (f16 p2 y_f_value_a1)))) (fun h => by rw [Bd.returns] at h; cases h)
  refine ⟨_, _, pre0 _ ?_, hrun, hended, _, _, rfl, ?_, ⟨_, rfl⟩, hW, hsame.mono (by decide) (by decide)⟩
  · show Steps p.tables e below (s₁.setTop (mkF m 0 #[.val (.ref a1), .val (.int p2)] [])) _
    refine XS.aloadN X0.here hx rfl (hb hby d14_0) rfl rfl ?_
    show Steps p.tables e below (s₁.setTop (mkF m 1 #[.val (.ref a1), .val (.int p2)] [(.ref a1)])) _
    refine st1.trans ?_
    show Steps p.tables e below (T1.setTop (mkF m 4 #[.val (.ref a1), .val (.int p2)] [(.int (f15 (0 : Int32)))])) _
    refine XS.ifNo X1.here hx rfl (hb hby d14_4) rfl ((if0 _ _).trans (feq (by decide)).1) ?_
    show Steps p.tables e below (T1.setTop (mkF m 7 #[.val (.ref a1), .val (.int p2)] [])) _
    refine XS.aloadN X1.here hx rfl (hb hby d14_7) rfl rfl ?_
    show Steps p.tables e below (T1.setTop (mkF m 8 #[.val (.ref a1), .val (.int p2)] [(.ref a1)])) _
    refine st2 _ ?_
    show Steps p.tables e below (T2.setTop (mkF m 11 #[.val (.ref a1), .val (.int p2)] [(.ref f_value_a1)])) _
    refine XS.iloadN X2.here hx rfl (hb hby d14_11) rfl ?_
    show Steps p.tables e below (T2.setTop (mkF m 12 #[.val (.ref a1), .val (.int p2)] [(.int p2), (.ref f_value_a1)])) _
    refine st4 _ ?_
    show Steps p.tables e below (T4.setTop (mkF m 15 #[.val (.ref a1), .val (.int p2)] [(.int (f16 p2 y_f_value_a1))])) _
    exact retN X4 hx (t := .char) Bd.returns (by simp) (hb hby d14_15) hr
  · show Q14l Z a1 p2 cs f_value_a1 y_f_value_a1 h0 n0 _ T4.heap _
    rw [e4]
    exact ⟨congrArg (fun z => some (Value.int z)) er.symm, N4, rfl⟩
def own_Str (Z : State) (h : Heap) (a : Addr) (c : Int32 → Int32) : Prop := Exa Z h a "java/lang/String" ∧ ∃ (b : Addr) (y : Int32 → Int32), Fld Z h a "java/lang/String" "value" "[B" (.ref b) ∧ ((Fld Z h a "java/lang/String" "coder" "B" (.int (0 : Int32)) ∧ own_A Z h b .byte (6 : Int32) (fun i => .int (y i)) ∧ ∀ i : Int32, ¬ i < 0 ∧ i < (6 : Int32) → f14l i y = c i) ∨ (Fld Z h a "java/lang/String" "coder" "B" (.int (1 : Int32)) ∧ own_A Z h b .byte (12 : Int32) (fun i => .int (y i)) ∧ ∀ i : Int32, ¬ i < 0 ∧ i < (6 : Int32) → f14u i y = c i))
def Q12 (h0 : Heap) (n0 : Nat) (v : Option Value) (h : Heap) (L : List Loc) : Prop := v = some (.int (6 : Int32)) ∧ Fr n0 L ∧ h = h0
def Q14 (p2 : Int32) (c : Int32 → Int32) (h0 : Heap) (n0 : Nat) (v : Option Value) (h : Heap) (L : List Loc) : Prop := v = some (.int (c p2)) ∧ Fr n0 L ∧ h = h0
set_option maxRecDepth 65536 in
set_option maxHeartbeats 40000000 in
theorem rm12 (l : Launch) (Z : State) (a0 : Array Value) (hw : ∀ d ∈ tables_1, d.before a0 Z = true) (ws : List Jvm.Cond) (a1 : Addr) (cs : Int32) (cc : Int32 → Int32) (h0 : Heap) (n0 : Nat) (Z0 : n0 ≤ h0.size) (hWd : own_W Z cs) (hStr : own_Str Z h0 a1 cc) (O0 : Old Z n0 h0) :
    MetFree l (⟨"java/lang/String", "length", "()I"⟩ : MethodName) (head1 (Jvm.Cond.code (⟨"java/lang/String", "length", "()I"⟩ : MethodName) jdk_42_method_54_code 1 (some .int) :: ws) ({ frames := 1, cells := 0, slots := 0, locals := 13 } : Room)) (fun a U => a = #[(.ref a1)] ∧ Z.Warmed39 U.vm ∧ U.heap = h0) (fun _ _ _ _ _ => True) (fun _ U o U' => ∃ v L, o = .returned v ∧ Q12 h0 n0 v U'.heap L ∧ FrameEnd U o U' L ({ frames := 1, cells := 0, slots := 0, locals := 13 } : Room).cells ({ frames := 1, cells := 0, slots := 0, locals := 13 } : Room).slots) := by
  obtain ⟨E, b, y, V, q⟩ := hStr
  rcases q with ⟨C, A, H⟩ | ⟨C, A, H⟩
  · have M := rm12l (l := l) (Z := Z) (a0 := a0) (hw := hw) (ws := ws) (h0 := h0) (n0 := n0) (Z0 := Z0) (a1 := a1) (cs := cs) (f_value_a1 := b) (y_f_value_a1 := y) (E_a1 := E) (F_value_a1 := V) (F_coder_a1 := C) (A_f_value_a1 := A) (hWd := hWd) (O0 := O0)
    have e : f12l = (6 : Int32) := by decide
    unfold Q12l at M
    rw [e] at M
    exact M
  · have M := rm12u (l := l) (Z := Z) (a0 := a0) (hw := hw) (ws := ws) (h0 := h0) (n0 := n0) (Z0 := Z0) (a1 := a1) (cs := cs) (f_value_a1 := b) (y_f_value_a1 := y) (E_a1 := E) (F_value_a1 := V) (F_coder_a1 := C) (A_f_value_a1 := A) (hWd := hWd) (O0 := O0)
    have e : f12u = (6 : Int32) := by decide
    unfold Q12u at M
    rw [e] at M
    exact M
set_option maxRecDepth 65536 in
set_option maxHeartbeats 40000000 in
theorem rm14 (l : Launch) (Z : State) (a0 : Array Value) (hw : ∀ d ∈ tables_1, d.before a0 Z = true) (ws : List Jvm.Cond) (a1 : Addr) (p2 : Int32) (cs : Int32) (cc : Int32 → Int32) (h0 : Heap) (n0 : Nat) (Z0 : n0 ≤ h0.size) (hWd : own_W Z cs) (hStr : own_Str Z h0 a1 cc) (hin : ¬ p2 < 0 ∧ p2 < (6 : Int32)) (O0 : Old Z n0 h0) :
    MetFree l (⟨"java/lang/String", "charAt", "(I)C"⟩ : MethodName) (head1 (Jvm.Cond.code (⟨"java/lang/String", "charAt", "(I)C"⟩ : MethodName) jdk_42_method_56_code 2 (some .char) :: ws) ({ frames := 4, cells := 0, slots := 0, locals := 53 } : Room)) (fun a U => a = #[(.ref a1), (.int p2)] ∧ Z.Warmed39 U.vm ∧ U.heap = h0) (fun _ _ _ _ _ => True) (fun _ U o U' => ∃ v L, o = .returned v ∧ Q14 p2 cc h0 n0 v U'.heap L ∧ FrameEnd U o U' L ({ frames := 4, cells := 0, slots := 0, locals := 53 } : Room).cells ({ frames := 4, cells := 0, slots := 0, locals := 53 } : Room).slots) := by
  obtain ⟨E, b, y, V, q⟩ := hStr
  rcases q with ⟨C, A, H⟩ | ⟨C, A, H⟩
  · have M := rm14l (l := l) (Z := Z) (a0 := a0) (hw := hw) (ws := ws) (h0 := h0) (n0 := n0) (Z0 := Z0) (a1 := a1) (p2 := p2) (cs := cs) (f_value_a1 := b) (y_f_value_a1 := y) (E_a1 := E) (F_value_a1 := V) (F_coder_a1 := C) (A_f_value_a1 := A) (hWd := hWd) (hin := hin) (O0 := O0)
    have e : f14l p2 y = cc p2 := H p2 hin
    unfold Q14l at M
    rw [e] at M
    exact M
  · have M := rm14u (l := l) (Z := Z) (a0 := a0) (hw := hw) (ws := ws) (h0 := h0) (n0 := n0) (Z0 := Z0) (a1 := a1) (p2 := p2) (cs := cs) (f_value_a1 := b) (y_f_value_a1 := y) (E_a1 := E) (F_value_a1 := V) (F_coder_a1 := C) (A_f_value_a1 := A) (hWd := hWd) (hin := hin) (O0 := O0)
    have e : f14u p2 y = cc p2 := H p2 hin
    unfold Q14u at M
    rw [e] at M
    exact M

def own_D (c : Int32 → Int32) : Nat → Int32 → Int32
  | 0, i => i
  | k + 1, i => if c i < (48 : Int32) then i else if (57 : Int32) < c i then i else own_D c k (i + (1 : Int32))
theorem own_D_rng (c : Int32 → Int32) : ∀ (k : Nat) (i : Int32), i.toInt + k = 6 → 0 ≤ i.toInt → i.toInt ≤ (own_D c k i).toInt ∧ (own_D c k i).toInt ≤ 6 := by
  intro k
  induction k with
  | zero => intro i hk h0; show i.toInt ≤ i.toInt ∧ i.toInt ≤ 6; omega
  | succ k ih =>
    intro i hk h0
    have e1 : (1 : Int32).toInt = 1 := by decide
    have h1 := c_iadd i 1
    have h2 := rng32 (i + 1)
    show i.toInt ≤ (if c i < (48 : Int32) then i else if (57 : Int32) < c i then i else own_D c k (i + (1 : Int32))).toInt ∧ (if c i < (48 : Int32) then i else if (57 : Int32) < c i then i else own_D c k (i + (1 : Int32))).toInt ≤ 6
    by_cases a : c i < (48 : Int32)
    · rw [if_pos a]; omega
    · rw [if_neg a]
      by_cases b : (57 : Int32) < c i
      · rw [if_pos b]; omega
      · rw [if_neg b]
        have := ih (i + 1) (by omega) (by omega)
        omega
def own_E (c : Int32 → Int32) (i : Int32) : Int32 := own_D c (6 - i.toInt).toNat i
theorem own_E_rng (c : Int32 → Int32) {i : Int32} (h : 0 ≤ i.toInt ∧ i.toInt ≤ 6) : i.toInt ≤ (own_E c i).toInt ∧ (own_E c i).toInt ≤ 6 := own_D_rng c _ i (by omega) h.1
theorem own_nl {i : Int32} (h : 0 ≤ i.toInt) : ¬ i < 0 := by
  have e0 : (0 : Int32).toInt = 0 := by decide
  rw [Int32.lt_iff_toInt_lt]; omega

theorem pd_7 : parseMethodDescriptor "()I" = some ⟨[], some .int⟩ := by decide +kernel
theorem pd_8 : parseMethodDescriptor "(I)C" = some ⟨[.int], some .char⟩ := by decide +kernel
theorem d11_2 : decode prog_2_method_8_code 2 = .ok (.iload_n 2, 1) := by decide +kernel
theorem d11_3 : decode prog_2_method_8_code 3 = .ok (.aload_n 0, 1) := by decide +kernel
theorem d11_4 : decode prog_2_method_8_code 4 = .ok (.invokevirtual 58, 3) := by decide +kernel
theorem d11_7 : decode prog_2_method_8_code 7 = .ok (.if_icmp .ge 29, 3) := by decide +kernel
theorem d11_10 : decode prog_2_method_8_code 10 = .ok (.aload_n 0, 1) := by decide +kernel
theorem d11_11 : decode prog_2_method_8_code 11 = .ok (.iload_n 2, 1) := by decide +kernel
theorem d11_12 : decode prog_2_method_8_code 12 = .ok (.invokevirtual 62, 3) := by decide +kernel
theorem d11_15 : decode prog_2_method_8_code 15 = .ok (.bipush 48, 2) := by decide +kernel
theorem d11_17 : decode prog_2_method_8_code 17 = .ok (.if_icmp .lt 19, 3) := by decide +kernel
theorem d11_20 : decode prog_2_method_8_code 20 = .ok (.aload_n 0, 1) := by decide +kernel
theorem d11_21 : decode prog_2_method_8_code 21 = .ok (.iload_n 2, 1) := by decide +kernel
theorem d11_22 : decode prog_2_method_8_code 22 = .ok (.invokevirtual 62, 3) := by decide +kernel
theorem d11_25 : decode prog_2_method_8_code 25 = .ok (.bipush 57, 2) := by decide +kernel
theorem d11_27 : decode prog_2_method_8_code 27 = .ok (.if_icmp .gt 9, 3) := by decide +kernel
theorem d11_30 : decode prog_2_method_8_code 30 = .ok (.iinc 2 1, 3) := by decide +kernel
theorem d11_33 : decode prog_2_method_8_code 33 = .ok (.goto (-31), 3) := by decide +kernel
set_option maxRecDepth 65536 in
set_option maxHeartbeats 40000000 in
theorem loop11 {p : Program} {l : Launch} {e : Env} {s : State} {m : MethodId} {args : Array Value} {below : List Frame} {meth : Method} {c : Code} {Z : State} {a0 : Array Value} {h0 : Heap} {n0 : Nat} (hx : p.tables.exec = Jvm.exec) (hZ : Z.Warmed39 s.vm) (hw : ∀ d ∈ tables_1, d.before a0 Z = true) (hby : c.code = prog_2_method_8_code) (hml : c.maxLocals = 3) (hown : s.vm.findClass "com/example/prewrm/prewrm/io/CsvFields" = some m.cls) {a1 : Addr} {p2 : Int32} {cs : Int32} {cc : Int32 → Int32} (Z0 : n0 ≤ h0.size) (hWd : own_W Z cs) (hStr : own_Str Z h0 a1 cc) (O0 : Old Z n0 h0) :
    ∀ (k : Nat) (T : State) (L : List Loc) (i : Int32), Stand p l e ({ frames := 5, cells := 0, slots := 0, locals := 66 } : Room) s m args below meth c T L 0 0 → T.heap = h0 → Fr n0 L → i.toInt + k = 6 → 0 ≤ i.toInt → ∃ T' L', Stand p l e ({ frames := 5, cells := 0, slots := 0, locals := 66 } : Room) s m args below meth c T' L' 0 0 ∧ T'.heap = h0 ∧ Fr n0 L' ∧ ∀ t, Steps p.tables e below (T'.setTop (mkF m 36 #[.val (.ref a1), .val (.int p2), .val (.int (own_D cc k i))] [])) t → Steps p.tables e below (T.setTop (mkF m 2 #[.val (.ref a1), .val (.int p2), .val (.int i)] [])) t := by
  have e0 : (0 : Int32).toInt = 0 := by decide
  have e1 : (1 : Int32).toInt = 1 := by decide
  have hq_6 : (6 : Int32).toInt = 6 := by decide
  intro k
  induction k with
  | zero =>
    intro T L i X eT NL hk h0i
    have pre0 : ∀ t, Steps p.tables e below (T.setTop (mkF m 2 #[.val (.ref a1), .val (.int p2), .val (.int i)] [])) t → Steps p.tables e below (T.setTop (mkF m 2 #[.val (.ref a1), .val (.int p2), .val (.int i)] [])) t := fun t k => k
    have hlt : ¬ i < (6 : Int32) := by rw [Int32.lt_iff_toInt_lt]; omega
    obtain ⟨cq1, kq1, q1a, q1b, q1c⟩ := isOf hZ eT hStr.1
    obtain ⟨_, _, ⟨T1, L1, k1, n1⟩, -, X1, ⟨Lc1, hQ1, l1, y1, z1⟩, st1⟩ := X.virtualBack hx (y := (⟨"java/lang/String", "length", "()I"⟩ : MethodName)) (z := (⟨"java/lang/String", "length", "()I"⟩ : MethodName)) hown (mvT hZ (hw _ (List.mem_of_getElem? (i := 49) rfl))) (mvT hZ (hw _ (List.mem_of_getElem? (i := 50) rfl))) (notFace_of_selects (args := #[]) (mvT hZ (hw _ (List.mem_of_getElem? (i := 52) rfl)))) (mvT hZ (hw _ (List.mem_of_getElem? (i := 52) rfl))) (mvT hZ (hw _ (List.mem_of_getElem? (i := 51) rfl))) (by decide) (backOf (W := 1) (rm12 l Z a0 hw [] a1 cs cc h0 n0 Z0 hWd hStr O0) hZ (hw _ (List.mem_of_getElem? (i := 53) rfl)) (hw _ (List.mem_of_getElem? (i := 9) rfl)) (by decide) (by decide)) q1a q1c (g := (mkF m 4 #[.val (.ref a1), .val (.int p2), .val (.int i)] [(.ref a1), (.int i)])) rfl (by rw [hml]; rfl) (Steps.refl _) (argsL := []) (rest := [(.int i)]) (lenOf pd_7 rfl) rfl (by show 2 * 0 + _ ≤ _; exact Nat.le_of_eq rfl) (hb hby d11_4) (fun _ _ => ⟨rfl, eT, (by decide : 0 + 0 ≤ _), (by decide : 0 + 0 ≤ _)⟩)
    dsimp only [Pt.U, Pt.locs, Pt.cells, Pt.slots] at X1 l1 y1 z1 st1 hQ1
    subst l1 y1 z1
    obtain ⟨rfl, N1q, e1⟩ := hQ1
    have N1 := Fr.app NL N1q
    have pre2 : ∀ t, Steps p.tables e below (T1.setTop (mkF m 36 #[.val (.ref a1), .val (.int p2), .val (.int i)] [])) t → Steps p.tables e below (T.setTop (mkF m 2 #[.val (.ref a1), .val (.int p2), .val (.int i)] [])) t := fun t k => pre0 t (by
      show Steps p.tables e below (T.setTop (mkF m 2 #[.val (.ref a1), .val (.int p2), .val (.int i)] [])) _
      refine XS.iloadN X.here hx rfl (hb hby d11_2) rfl ?_
      show Steps p.tables e below (T.setTop (mkF m 3 #[.val (.ref a1), .val (.int p2), .val (.int i)] [(.int i)])) _
      refine XS.aloadN X.here hx rfl (hb hby d11_3) rfl rfl ?_
      show Steps p.tables e below (T.setTop (mkF m 4 #[.val (.ref a1), .val (.int p2), .val (.int i)] [(.ref a1), (.int i)])) _
      refine st1.trans ?_
      show Steps p.tables e below (T1.setTop (mkF m 7 #[.val (.ref a1), .val (.int p2), .val (.int i)] [(.int (6 : Int32)), (.int i)])) _
      refine XS.icmpYes X1.here hx rfl (pc0 := 7) (pc' := 36) rfl (hb hby d11_7) rfl (flt hlt).2.1 (by decide) (by decide) ?_
      exact k)
    have eD : own_D cc 0 i = i := rfl
    refine ⟨T1, _, X1, e1, N1, ?_⟩
    rw [eD]
    exact pre2
  | succ k ih =>
    intro T L i X eT NL hk h0i
    have pre0 : ∀ t, Steps p.tables e below (T.setTop (mkF m 2 #[.val (.ref a1), .val (.int p2), .val (.int i)] [])) t → Steps p.tables e below (T.setTop (mkF m 2 #[.val (.ref a1), .val (.int p2), .val (.int i)] [])) t := fun t k => k
    have hlt : i < (6 : Int32) := by rw [Int32.lt_iff_toInt_lt]; omega
    have hi : ¬ i < 0 ∧ i < (6 : Int32) := ⟨own_nl h0i, hlt⟩
    obtain ⟨cq3, kq3, q3a, q3b, q3c⟩ := isOf hZ eT hStr.1
    obtain ⟨_, _, ⟨T3, L3, k3, n3⟩, -, X3, ⟨Lc3, hQ3, l3, y3, z3⟩, st3⟩ := X.virtualBack hx (y := (⟨"java/lang/String", "length", "()I"⟩ : MethodName)) (z := (⟨"java/lang/String", "length", "()I"⟩ : MethodName)) hown (mvT hZ (hw _ (List.mem_of_getElem? (i := 49) rfl))) (mvT hZ (hw _ (List.mem_of_getElem? (i := 50) rfl))) (notFace_of_selects (args := #[]) (mvT hZ (hw _ (List.mem_of_getElem? (i := 52) rfl)))) (mvT hZ (hw _ (List.mem_of_getElem? (i := 52) rfl))) (mvT hZ (hw _ (List.mem_of_getElem? (i := 51) rfl))) (by decide) (backOf (W := 1) (rm12 l Z a0 hw [] a1 cs cc h0 n0 Z0 hWd hStr O0) hZ (hw _ (List.mem_of_getElem? (i := 53) rfl)) (hw _ (List.mem_of_getElem? (i := 9) rfl)) (by decide) (by decide)) q3a q3c (g := (mkF m 4 #[.val (.ref a1), .val (.int p2), .val (.int i)] [(.ref a1), (.int i)])) rfl (by rw [hml]; rfl) (Steps.refl _) (argsL := []) (rest := [(.int i)]) (lenOf pd_7 rfl) rfl (by show 2 * 0 + _ ≤ _; exact Nat.le_of_eq rfl) (hb hby d11_4) (fun _ _ => ⟨rfl, eT, (by decide : 0 + 0 ≤ _), (by decide : 0 + 0 ≤ _)⟩)
    dsimp only [Pt.U, Pt.locs, Pt.cells, Pt.slots] at X3 l3 y3 z3 st3 hQ3
    subst l3 y3 z3
    obtain ⟨rfl, N3q, e3⟩ := hQ3
    have N3 := Fr.app NL N3q
    obtain ⟨cq4, kq4, q4a, q4b, q4c⟩ := isOf hZ e3 hStr.1
    obtain ⟨_, _, ⟨T4, L4, k4, n4⟩, -, X4, ⟨Lc4, hQ4, l4, y4, z4⟩, st4⟩ := X3.virtualBack hx (y := (⟨"java/lang/String", "charAt", "(I)C"⟩ : MethodName)) (z := (⟨"java/lang/String", "charAt", "(I)C"⟩ : MethodName)) hown (mvT hZ (hw _ (List.mem_of_getElem? (i := 59) rfl))) (mvT hZ (hw _ (List.mem_of_getElem? (i := 60) rfl))) (notFace_of_selects (args := #[]) (mvT hZ (hw _ (List.mem_of_getElem? (i := 62) rfl)))) (mvT hZ (hw _ (List.mem_of_getElem? (i := 62) rfl))) (mvT hZ (hw _ (List.mem_of_getElem? (i := 61) rfl))) (by decide) (backOf (W := 0) (rm14 l Z a0 hw [] a1 i cs cc h0 n0 Z0 hWd hStr hi O0) hZ (hw _ (List.mem_of_getElem? (i := 63) rfl)) (hw _ (List.mem_of_getElem? (i := 9) rfl)) (by decide) (by decide)) q4a q4c (g := (mkF m 12 #[.val (.ref a1), .val (.int p2), .val (.int i)] [(.int i), (.ref a1)])) rfl (by rw [hml]; rfl) (Steps.refl _) (argsL := [(.int i)]) (rest := []) (lenOf pd_8 rfl) rfl (by show 2 * 0 + _ ≤ _; exact Nat.le_of_eq rfl) (hb hby d11_12) (fun _ _ => ⟨rfl, e3, (by decide : 0 + 0 ≤ _), (by decide : 0 + 0 ≤ _)⟩)
    dsimp only [Pt.U, Pt.locs, Pt.cells, Pt.slots] at X4 l4 y4 z4 st4 hQ4
    subst l4 y4 z4
    obtain ⟨rfl, N4q, e4⟩ := hQ4
    have N4 := Fr.app N3 N4q
    have pre5 : ∀ t, Steps p.tables e below (T4.setTop (mkF m 17 #[.val (.ref a1), .val (.int p2), .val (.int i)] [(.int (48 : Int32)), (.int (cc i))])) t → Steps p.tables e below (T.setTop (mkF m 2 #[.val (.ref a1), .val (.int p2), .val (.int i)] [])) t := fun t k => pre0 t (by
      show Steps p.tables e below (T.setTop (mkF m 2 #[.val (.ref a1), .val (.int p2), .val (.int i)] [])) _
      refine XS.iloadN X.here hx rfl (hb hby d11_2) rfl ?_
      show Steps p.tables e below (T.setTop (mkF m 3 #[.val (.ref a1), .val (.int p2), .val (.int i)] [(.int i)])) _
      refine XS.aloadN X.here hx rfl (hb hby d11_3) rfl rfl ?_
      show Steps p.tables e below (T.setTop (mkF m 4 #[.val (.ref a1), .val (.int p2), .val (.int i)] [(.ref a1), (.int i)])) _
      refine st3.trans ?_
      show Steps p.tables e below (T3.setTop (mkF m 7 #[.val (.ref a1), .val (.int p2), .val (.int i)] [(.int (6 : Int32)), (.int i)])) _
      refine XS.icmpNo X3.here hx rfl (hb hby d11_7) rfl (tlt hlt).2.1 ?_
      show Steps p.tables e below (T3.setTop (mkF m 10 #[.val (.ref a1), .val (.int p2), .val (.int i)] [])) _
      refine XS.aloadN X3.here hx rfl (hb hby d11_10) rfl rfl ?_
      show Steps p.tables e below (T3.setTop (mkF m 11 #[.val (.ref a1), .val (.int p2), .val (.int i)] [(.ref a1)])) _
      refine XS.iloadN X3.here hx rfl (hb hby d11_11) rfl ?_
      show Steps p.tables e below (T3.setTop (mkF m 12 #[.val (.ref a1), .val (.int p2), .val (.int i)] [(.int i), (.ref a1)])) _
      refine st4.trans ?_
      show Steps p.tables e below (T4.setTop (mkF m 15 #[.val (.ref a1), .val (.int p2), .val (.int i)] [(.int (cc i))])) _
      refine XS.bipush X4.here hx rfl (hb hby d11_15) ?_
      exact k)
    by_cases hc6 : (cc i) < (48 : Int32)
    · have pre7 : ∀ t, Steps p.tables e below (T4.setTop (mkF m 36 #[.val (.ref a1), .val (.int p2), .val (.int i)] [])) t → Steps p.tables e below (T.setTop (mkF m 2 #[.val (.ref a1), .val (.int p2), .val (.int i)] [])) t := fun t k => pre5 t (by
        show Steps p.tables e below (T4.setTop (mkF m 17 #[.val (.ref a1), .val (.int p2), .val (.int i)] [(.int (48 : Int32)), (.int (cc i))])) _
        refine XS.icmpYes X4.here hx rfl (pc0 := 17) (pc' := 36) rfl (hb hby d11_17) rfl (tlt hc6).1 (by decide) (by decide) ?_
        exact k)
      have eD : own_D cc (k + 1) i = i := (if_pos hc6)
      refine ⟨T4, _, X4, e4, N4, ?_⟩
      rw [eD]
      exact pre7
    · obtain ⟨cq8, kq8, q8a, q8b, q8c⟩ := isOf hZ e4 hStr.1
      obtain ⟨_, _, ⟨T8, L8, k8, n8⟩, -, X8, ⟨Lc8, hQ8, l8, y8, z8⟩, st8⟩ := X4.virtualBack hx (y := (⟨"java/lang/String", "charAt", "(I)C"⟩ : MethodName)) (z := (⟨"java/lang/String", "charAt", "(I)C"⟩ : MethodName)) hown (mvT hZ (hw _ (List.mem_of_getElem? (i := 59) rfl))) (mvT hZ (hw _ (List.mem_of_getElem? (i := 60) rfl))) (notFace_of_selects (args := #[]) (mvT hZ (hw _ (List.mem_of_getElem? (i := 62) rfl)))) (mvT hZ (hw _ (List.mem_of_getElem? (i := 62) rfl))) (mvT hZ (hw _ (List.mem_of_getElem? (i := 61) rfl))) (by decide) (backOf (W := 0) (rm14 l Z a0 hw [] a1 i cs cc h0 n0 Z0 hWd hStr hi O0) hZ (hw _ (List.mem_of_getElem? (i := 63) rfl)) (hw _ (List.mem_of_getElem? (i := 9) rfl)) (by decide) (by decide)) q8a q8c (g := (mkF m 22 #[.val (.ref a1), .val (.int p2), .val (.int i)] [(.int i), (.ref a1)])) rfl (by rw [hml]; rfl) (Steps.refl _) (argsL := [(.int i)]) (rest := []) (lenOf pd_8 rfl) rfl (by show 2 * 0 + _ ≤ _; exact Nat.le_of_eq rfl) (hb hby d11_22) (fun _ _ => ⟨rfl, e4, (by decide : 0 + 0 ≤ _), (by decide : 0 + 0 ≤ _)⟩)
      dsimp only [Pt.U, Pt.locs, Pt.cells, Pt.slots] at X8 l8 y8 z8 st8 hQ8
      subst l8 y8 z8
      obtain ⟨rfl, N8q, e8⟩ := hQ8
      have N8 := Fr.app N4 N8q
      have pre9 : ∀ t, Steps p.tables e below (T8.setTop (mkF m 27 #[.val (.ref a1), .val (.int p2), .val (.int i)] [(.int (57 : Int32)), (.int (cc i))])) t → Steps p.tables e below (T.setTop (mkF m 2 #[.val (.ref a1), .val (.int p2), .val (.int i)] [])) t := fun t k => pre5 t (by
        show Steps p.tables e below (T4.setTop (mkF m 17 #[.val (.ref a1), .val (.int p2), .val (.int i)] [(.int (48 : Int32)), (.int (cc i))])) _
        refine XS.icmpNo X4.here hx rfl (hb hby d11_17) rfl (flt hc6).1 ?_
        show Steps p.tables e below (T4.setTop (mkF m 20 #[.val (.ref a1), .val (.int p2), .val (.int i)] [])) _
        refine XS.aloadN X4.here hx rfl (hb hby d11_20) rfl rfl ?_
        show Steps p.tables e below (T4.setTop (mkF m 21 #[.val (.ref a1), .val (.int p2), .val (.int i)] [(.ref a1)])) _
        refine XS.iloadN X4.here hx rfl (hb hby d11_21) rfl ?_
        show Steps p.tables e below (T4.setTop (mkF m 22 #[.val (.ref a1), .val (.int p2), .val (.int i)] [(.int i), (.ref a1)])) _
        refine st8.trans ?_
        show Steps p.tables e below (T8.setTop (mkF m 25 #[.val (.ref a1), .val (.int p2), .val (.int i)] [(.int (cc i))])) _
        refine XS.bipush X8.here hx rfl (hb hby d11_25) ?_
        exact k)
      by_cases hc10 : (57 : Int32) < (cc i)
      · have pre11 : ∀ t, Steps p.tables e below (T8.setTop (mkF m 36 #[.val (.ref a1), .val (.int p2), .val (.int i)] [])) t → Steps p.tables e below (T.setTop (mkF m 2 #[.val (.ref a1), .val (.int p2), .val (.int i)] [])) t := fun t k => pre9 t (by
          show Steps p.tables e below (T8.setTop (mkF m 27 #[.val (.ref a1), .val (.int p2), .val (.int i)] [(.int (57 : Int32)), (.int (cc i))])) _
          refine XS.icmpYes X8.here hx rfl (pc0 := 27) (pc' := 36) rfl (hb hby d11_27) rfl (tlt hc10).2.2.1 (by decide) (by decide) ?_
          exact k)
        have eD : own_D cc (k + 1) i = i := ((if_neg hc6).trans (if_pos hc10))
        refine ⟨T8, _, X8, e8, N8, ?_⟩
        rw [eD]
        exact pre11
      · have pre12 : ∀ t, Steps p.tables e below (T8.setTop (mkF m 2 #[.val (.ref a1), .val (.int p2), .val (.int (i + (1 : Int32)))] [])) t → Steps p.tables e below (T.setTop (mkF m 2 #[.val (.ref a1), .val (.int p2), .val (.int i)] [])) t := fun t k => pre9 t (by
          show Steps p.tables e below (T8.setTop (mkF m 27 #[.val (.ref a1), .val (.int p2), .val (.int i)] [(.int (57 : Int32)), (.int (cc i))])) _
          refine XS.icmpNo X8.here hx rfl (hb hby d11_27) rfl (flt hc10).2.2.1 ?_
          show Steps p.tables e below (T8.setTop (mkF m 30 #[.val (.ref a1), .val (.int p2), .val (.int i)] [])) _
          refine XS.iinc X8.here hx rfl (hb hby d11_30) rfl (l' := #[.val (.ref a1), .val (.int p2), .val (.int (i + (1 : Int32)))]) rfl ?_
          show Steps p.tables e below (T8.setTop (mkF m 33 #[.val (.ref a1), .val (.int p2), .val (.int (i + (1 : Int32)))] [])) _
          refine XS.goto X8.here hx rfl (pc0 := 33) (pc' := 2) rfl (hb hby d11_33) (by decide) (by decide) ?_
          exact k)
        have hi1 := c_iadd i 1
        have hi2 := rng32 (i + 1)
        obtain ⟨T', L', X', e', N', st'⟩ := ih T8 _ (i + (1 : Int32)) X8 e8 N8 (by omega) (by omega)
        have eD : own_D cc (k + 1) i = own_D cc k (i + (1 : Int32)) := ((if_neg hc6).trans (if_neg hc10))
        rw [eD]
        exact ⟨T', L', X', e', N', fun t k => pre12 t (st' t k)⟩
theorem d11_0 : decode prog_2_method_8_code 0 = .ok (.iload_n 1, 1) := by decide +kernel
theorem d11_1 : decode prog_2_method_8_code 1 = .ok (.istore_n 2, 1) := by decide +kernel
theorem d11_36 : decode prog_2_method_8_code 36 = .ok (.iload_n 2, 1) := by decide +kernel
theorem d11_37 : decode prog_2_method_8_code 37 = .ok (.ireturn, 1) := by decide +kernel
theorem pn_11 : plainName "com/example/prewrm/prewrm/io/CsvFields" = true := by first | (simp [plainName, overriddenIn]; done) | decide +kernel
theorem ef_11 (m : MethodId) (a1 : Addr) (p2 : Int32) : entryFrame m #[(.ref a1), (.int p2)] 3 = mkF m 0 #[.val (.ref a1), .val (.int p2), .unset] [] := by first | (simp [entryFrame, mkF, argsToLocals, Value.category]; done) | rfl
def f11 (p2 : Int32) (cc : Int32 → Int32) : Int32 :=
  (own_E cc p2)
def Q11 (Z : State) (a1 : Addr) (p2 : Int32) (cs : Int32) (cc : Int32 → Int32) (h0 : Heap) (n0 : Nat) (v : Option Value) (h : Heap) (L : List Loc) : Prop := v = some (.int (f11 p2 cc)) ∧ Fr n0 L ∧ h = h0
set_option maxRecDepth 65536 in
set_option maxHeartbeats 40000000 in
theorem rm11 (l : Launch) (Z : State) (a0 : Array Value) (hw : ∀ d ∈ tables_1, d.before a0 Z = true) (ws : List Jvm.Cond) (a1 : Addr) (p2 : Int32) (cs : Int32) (cc : Int32 → Int32) (h0 : Heap) (n0 : Nat) (Z0 : n0 ≤ h0.size) (hWd : own_W Z cs) (hStr : own_Str Z h0 a1 cc) (h11 : 0 ≤ p2.toInt ∧ p2.toInt ≤ 6) (O0 : Old Z n0 h0) :
    MetFree l (⟨"com/example/prewrm/prewrm/io/CsvFields", "digitsEnd", "(Ljava/lang/String;I)I"⟩ : MethodName) (head1 (Jvm.Cond.code (⟨"com/example/prewrm/prewrm/io/CsvFields", "digitsEnd", "(Ljava/lang/String;I)I"⟩ : MethodName) prog_2_method_8_code 3 (some .int) :: ws) ({ frames := 5, cells := 0, slots := 0, locals := 66 } : Room)) (fun a U => a = #[(.ref a1), (.int p2)] ∧ Z.Warmed39 U.vm ∧ U.heap = h0) (fun _ _ _ _ _ => True) (fun _ U o U' => ∃ v L, o = .returned v ∧ Q11 Z a1 p2 cs cc h0 n0 v U'.heap L ∧ FrameEnd U o U' L ({ frames := 5, cells := 0, slots := 0, locals := 66 } : Room).cells ({ frames := 5, cells := 0, slots := 0, locals := 66 } : Room).slots) := by
  refine MetFree.of_bodySF (plainFor_of_name pn_11) hisR ?_
  intro p e s m args below meth c s₁ Bd hml0 hP hK
  obtain ⟨rfl, hZ, hh⟩ := hP
  have hx := Bd.exec
  have hby := Bd.bytes
  have hml : c.maxLocals = 3 := hml0
  have hown : s.vm.findClass "com/example/prewrm/prewrm/io/CsvFields" = some m.cls := findClass_of_methodNamed Bd.named
  have hnm := (name_of_methodNamed Bd.named Bd.method).1
  have X0 : Stand p l e ({ frames := 5, cells := 0, slots := 0, locals := 66 } : Room) s m #[(.ref a1), (.int p2)] below meth c s₁ [] 0 0 := Stand.of_body Bd
  have e0 : s₁.heap = h0 := by rw [← hh, Bd.state]; rfl
  have N0 := Fr.nil n0
  have pre0 : ∀ t, Steps p.tables e below (s₁.setTop (mkF m 0 #[.val (.ref a1), .val (.int p2), .unset] [])) t → Steps p.tables e below (s₁.setTop (entryFrame m #[(.ref a1), (.int p2)] 3)) t := fun t k => castTop (ef_11 m a1 p2) k
  have pre1 : ∀ t, Steps p.tables e below (s₁.setTop (mkF m 2 #[.val (.ref a1), .val (.int p2), .val (.int p2)] [])) t → Steps p.tables e below (s₁.setTop (entryFrame m #[(.ref a1), (.int p2)] 3)) t := fun t k => pre0 t (by
    show Steps p.tables e below (s₁.setTop (mkF m 0 #[.val (.ref a1), .val (.int p2), .unset] [])) _
    refine XS.iloadN X0.here hx rfl (hb hby d11_0) rfl ?_
    show Steps p.tables e below (s₁.setTop (mkF m 1 #[.val (.ref a1), .val (.int p2), .unset] [(.int p2)])) _
    refine XS.istoreN X0.here hx rfl (hb hby d11_1) rfl (l' := #[.val (.ref a1), .val (.int p2), .val (.int p2)]) rfl ?_
    exact k)
  obtain ⟨T', L', X', e', N', st'⟩ := loop11 (cc := cc) hx hZ hw hby hml hown Z0 hWd hStr O0 (6 - p2.toInt).toNat s₁ [] p2 X0 e0 N0 (by omega) h11.1
  obtain ⟨fs, hr, hrun, hended, hWd', hsame⟩ := X'.leave (v := some (.int (own_E cc p2))) (fun h => by rw [Bd.returns] at h; cases h)
  refine ⟨_, _, pre1 _ (st' _ ?_), hrun, hended, _, _, rfl, ?_, ⟨_, rfl⟩, hWd', hsame.mono (by decide) (by decide)⟩
  · show Steps p.tables e below (T'.setTop (mkF m 36 #[.val (.ref a1), .val (.int p2), .val (.int (own_E cc p2))] [])) _
    refine XS.iloadN X'.here hx rfl (hb hby d11_36) rfl ?_
    show Steps p.tables e below (T'.setTop (mkF m 37 #[.val (.ref a1), .val (.int p2), .val (.int (own_E cc p2))] [(.int (own_E cc p2))])) _
    exact retI X' hx Bd.returns (hb hby d11_37) hr
  · show Q11 Z a1 p2 cs cc h0 n0 _ T'.heap _
    rw [e']
    exact ⟨rfl, N', rfl⟩

theorem own_p1 {i : Int32} (h : 0 ≤ i.toInt) (hl : i < (6 : Int32)) : 0 ≤ (i + (1 : Int32)).toInt ∧ (i + (1 : Int32)).toInt ≤ 6 := by
  have e1 : (1 : Int32).toInt = 1 := by decide
  have e6 : (6 : Int32).toInt = 6 := by decide
  have h1 := c_iadd i 1
  have h2 := rng32 (i + 1)
  rw [Int32.lt_iff_toInt_lt] at hl
  omega
theorem own_r34 {cc : Int32 → Int32} {p I v : Int32} (h0 : 0 ≤ p.toInt) (r : p.toInt ≤ I.toInt ∧ I.toInt ≤ 6) (h : v = (if I < (6 : Int32) then (if (cc I) = (46 : Int32) then (own_E cc (I + (1 : Int32))) else I) else I)) : p.toInt ≤ v.toInt ∧ v.toInt ≤ 6 := by
  subst h
  by_cases a : I < (6 : Int32)
  · rw [if_pos a]
    by_cases b : (cc I) = (46 : Int32)
    · rw [if_pos b]
      have q := own_E_rng cc (own_p1 (by omega) a)
      have e1 : (1 : Int32).toInt = 1 := by decide
      have e6 : (6 : Int32).toInt = 6 := by decide
      have h1 := c_iadd I 1
      have h2 := rng32 (I + 1)
      rw [Int32.lt_iff_toInt_lt] at a
      omega
    · rw [if_neg b]; exact r
  · rw [if_neg a]; exact r
theorem own_r129 {cc : Int32 → Int32} {I v : Int32} (h0 : 0 ≤ I.toInt) (a : I < (6 : Int32)) (h : v = (if (I + (1 : Int32)) < (6 : Int32) then (if (cc (I + (1 : Int32))) = (43 : Int32) then ((I + (1 : Int32)) + (1 : Int32)) else (if (cc (I + (1 : Int32))) = (45 : Int32) then ((I + (1 : Int32)) + (1 : Int32)) else (I + (1 : Int32)))) else (I + (1 : Int32)))) : 0 ≤ v.toInt ∧ v.toInt ≤ 6 := by
  subst h
  have q := own_p1 h0 a
  by_cases b : (I + (1 : Int32)) < (6 : Int32)
  · rw [if_pos b]
    have q2 := own_p1 q.1 b
    by_cases d : (cc (I + (1 : Int32))) = (43 : Int32)
    · rw [if_pos d]; exact q2
    · rw [if_neg d]
      by_cases d2 : (cc (I + (1 : Int32))) = (45 : Int32)
      · rw [if_pos d2]; exact q2
      · rw [if_neg d2]; exact q
  · rw [if_neg b]; exact q

theorem d9_0 : decode method_4_code 0 = .ok (.iload_n 0, 1) := by decide +kernel
theorem d9_1 : decode method_4_code 1 = .ok (.bipush 48, 2) := by decide +kernel
theorem d9_3 : decode method_4_code 3 = .ok (.if_icmp .lt 13, 3) := by decide +kernel
theorem d9_6 : decode method_4_code 6 = .ok (.iload_n 0, 1) := by decide +kernel
theorem d9_7 : decode method_4_code 7 = .ok (.bipush 57, 2) := by decide +kernel
theorem d9_9 : decode method_4_code 9 = .ok (.if_icmp .gt 7, 3) := by decide +kernel
theorem d9_12 : decode method_4_code 12 = .ok (.iconst 1, 1) := by decide +kernel
theorem d9_13 : decode method_4_code 13 = .ok (.goto 4, 3) := by decide +kernel
theorem d9_16 : decode method_4_code 16 = .ok (.iconst 0, 1) := by decide +kernel
theorem d9_17 : decode method_4_code 17 = .ok (.ireturn, 1) := by decide +kernel
theorem pn_9 : plainName "com/example/prewrm/prewrm/io/CsvFieldsIsUnsignedDecimalPinLaw" = true := by first | (simp [plainName, overriddenIn]; done) | decide +kernel
theorem ef_9 (m : MethodId) (p1 : Int32) : entryFrame m #[(.int p1)] 1 = mkF m 0 #[.val (.int p1)] [] := by first | (simp [entryFrame, mkF, argsToLocals, Value.category]; done) | rfl
def f9 (p1 : Int32) : Int32 :=
  (nar .boolean (if p1 < (48 : Int32) then (0 : Int32) else (if (57 : Int32) < p1 then (0 : Int32) else (1 : Int32))))
def Q9 (Z : State) (p1 : Int32)  (h0 : Heap) (n0 : Nat) (v : Option Value) (h : Heap) (L : List Loc) : Prop := v = some (.int (f9 p1)) ∧ Fr n0 L ∧ h = h0
set_option maxRecDepth 65536 in
set_option maxHeartbeats 40000000 in
theorem rm9 (l : Launch) (Z : State) (a0 : Array Value) (hw : ∀ d ∈ tables_1, d.before a0 Z = true) (ws : List Jvm.Cond) (p1 : Int32)  (h0 : Heap) (n0 : Nat) (Z0 : n0 ≤ h0.size) :
    MetFree l (⟨"com/example/prewrm/prewrm/io/CsvFieldsIsUnsignedDecimalPinLaw", "isDigit", "(C)Z"⟩ : MethodName) (head1 (Jvm.Cond.code (⟨"com/example/prewrm/prewrm/io/CsvFieldsIsUnsignedDecimalPinLaw", "isDigit", "(C)Z"⟩ : MethodName) method_4_code 1 (some .boolean) :: ws) ({ frames := 0, cells := 0, slots := 0, locals := 0 } : Room)) (fun a U => a = #[(.int p1)] ∧ Z.Warmed39 U.vm ∧ U.heap = h0) (fun _ _ _ _ _ => True) (fun _ U o U' => ∃ v L, o = .returned v ∧ Q9 Z p1 h0 n0 v U'.heap L ∧ FrameEnd U o U' L ({ frames := 0, cells := 0, slots := 0, locals := 0 } : Room).cells ({ frames := 0, cells := 0, slots := 0, locals := 0 } : Room).slots) := by
  refine MetFree.of_bodySF (plainFor_of_name pn_9) hisR ?_
  intro p e s m args below meth c s₁ Bd hml0 hP hK
  obtain ⟨rfl, hZ, hh⟩ := hP
  have hx := Bd.exec
  have hby := Bd.bytes
  have hml : c.maxLocals = 1 := hml0
  have hown : s.vm.findClass "com/example/prewrm/prewrm/io/CsvFieldsIsUnsignedDecimalPinLaw" = some m.cls := findClass_of_methodNamed Bd.named
  have hnm := (name_of_methodNamed Bd.named Bd.method).1
  have X0 : Stand p l e ({ frames := 0, cells := 0, slots := 0, locals := 0 } : Room) s m #[(.int p1)] below meth c s₁ [] 0 0 := Stand.of_body Bd
  have e0 : s₁.heap = h0 := by rw [← hh, Bd.state]; rfl
  have N0 := Fr.nil n0
  have pre0 : ∀ t, Steps p.tables e below (s₁.setTop (mkF m 0 #[.val (.int p1)] [])) t → Steps p.tables e below (s₁.setTop (entryFrame m #[(.int p1)] 1)) t := fun t k => castTop (ef_9 m p1) k
  obtain ⟨v3, hv3⟩ : ∃ z : Int32, z = (if p1 < (48 : Int32) then (0 : Int32) else (if (57 : Int32) < p1 then (0 : Int32) else (1 : Int32))) := ⟨_, rfl⟩
  have pre4 : ∀ t, Steps p.tables e below (s₁.setTop (mkF m 17 #[.val (.int p1)] [(.int v3)])) t → Steps p.tables e below (s₁.setTop (entryFrame m #[(.int p1)] 1)) t := fun t k => pre0 t (by
    show Steps p.tables e below (s₁.setTop (mkF m 0 #[.val (.int p1)] [])) _
    refine XS.iloadN X0.here hx rfl (hb hby d9_0) rfl ?_
    show Steps p.tables e below (s₁.setTop (mkF m 1 #[.val (.int p1)] [(.int p1)])) _
    refine XS.bipush X0.here hx rfl (hb hby d9_1) ?_
    show Steps p.tables e below (s₁.setTop (mkF m 3 #[.val (.int p1)] [(.int (48 : Int32)), (.int p1)])) _
    by_cases hc1 : p1 < (48 : Int32)
    · refine XS.icmpYes X0.here hx rfl (pc0 := 3) (pc' := 16) rfl (hb hby d9_3) rfl (tlt hc1).1 (by decide) (by decide) ?_
      show Steps p.tables e below (s₁.setTop (mkF m 16 #[.val (.int p1)] [])) _
      refine XS.iconst X0.here hx rfl (hb hby d9_16) ?_
      rw [show v3 = (0 : Int32) from hv3.trans (if_pos hc1)] at k
      exact k
    · refine XS.icmpNo X0.here hx rfl (hb hby d9_3) rfl (flt hc1).1 ?_
      show Steps p.tables e below (s₁.setTop (mkF m 6 #[.val (.int p1)] [])) _
      refine XS.iloadN X0.here hx rfl (hb hby d9_6) rfl ?_
      show Steps p.tables e below (s₁.setTop (mkF m 7 #[.val (.int p1)] [(.int p1)])) _
      refine XS.bipush X0.here hx rfl (hb hby d9_7) ?_
      show Steps p.tables e below (s₁.setTop (mkF m 9 #[.val (.int p1)] [(.int (57 : Int32)), (.int p1)])) _
      by_cases hc2 : (57 : Int32) < p1
      · refine XS.icmpYes X0.here hx rfl (pc0 := 9) (pc' := 16) rfl (hb hby d9_9) rfl (tlt hc2).2.2.1 (by decide) (by decide) ?_
        show Steps p.tables e below (s₁.setTop (mkF m 16 #[.val (.int p1)] [])) _
        refine XS.iconst X0.here hx rfl (hb hby d9_16) ?_
        rw [show v3 = (0 : Int32) from hv3.trans ((if_neg hc1).trans (if_pos hc2))] at k
        exact k
      · refine XS.icmpNo X0.here hx rfl (hb hby d9_9) rfl (flt hc2).2.2.1 ?_
        show Steps p.tables e below (s₁.setTop (mkF m 12 #[.val (.int p1)] [])) _
        refine XS.iconst X0.here hx rfl (hb hby d9_12) ?_
        show Steps p.tables e below (s₁.setTop (mkF m 13 #[.val (.int p1)] [(.int (1 : Int32))])) _
        refine XS.goto X0.here hx rfl (pc0 := 13) (pc' := 17) rfl (hb hby d9_13) (by decide) (by decide) ?_
        rw [show v3 = (1 : Int32) from hv3.trans ((if_neg hc1).trans (if_neg hc2))] at k
        exact k)
  have er : (f9 p1) = (nar .boolean v3) := by subst hv3; exact rfl
  obtain ⟨fs, hr, hrun, hended, hW, hsame⟩ := X0.leave (v := some (.int (nar .boolean v3))) (fun h => by rw [Bd.returns] at h; cases h)
  refine ⟨_, _, pre4 _ ?_, hrun, hended, _, _, rfl, ?_, ⟨_, rfl⟩, hW, hsame.mono (by decide) (by decide)⟩
  · show Steps p.tables e below (s₁.setTop (mkF m 17 #[.val (.int p1)] [(.int v3)])) _
    exact retN X0 hx (t := .boolean) Bd.returns (by simp) (hb hby d9_17) hr
  · show Q9 Z p1 h0 n0 _ s₁.heap _
    rw [e0]
    exact ⟨congrArg (fun z => some (Value.int z)) er.symm, N0, rfl⟩
theorem pd_9 : parseMethodDescriptor "(C)Z" = some ⟨[.char], some .boolean⟩ := by decide +kernel
theorem d8_0 : decode method_5_code 0 = .ok (.iload_n 2, 1) := by decide +kernel
theorem d8_1 : decode method_5_code 1 = .ok (.ifCond .ne 5, 3) := by decide +kernel
theorem d8_4 : decode method_5_code 4 = .ok (.iload_n 0, 1) := by decide +kernel
theorem d8_5 : decode method_5_code 5 = .ok (.ireturn, 1) := by decide +kernel
theorem d8_6 : decode method_5_code 6 = .ok (.iload_n 1, 1) := by decide +kernel
theorem d8_7 : decode method_5_code 7 = .ok (.invokestatic 31, 3) := by decide +kernel
theorem d8_10 : decode method_5_code 10 = .ok (.istore_n 3, 1) := by decide +kernel
theorem d8_11 : decode method_5_code 11 = .ok (.iload_n 1, 1) := by decide +kernel
theorem d8_12 : decode method_5_code 12 = .ok (.bipush 101, 2) := by decide +kernel
theorem d8_14 : decode method_5_code 14 = .ok (.if_icmp .eq 9, 3) := by decide +kernel
theorem d8_17 : decode method_5_code 17 = .ok (.iload_n 1, 1) := by decide +kernel
theorem d8_18 : decode method_5_code 18 = .ok (.bipush 69, 2) := by decide +kernel
theorem d8_20 : decode method_5_code 20 = .ok (.if_icmp .ne 7, 3) := by decide +kernel
theorem d8_23 : decode method_5_code 23 = .ok (.iconst 1, 1) := by decide +kernel
theorem d8_24 : decode method_5_code 24 = .ok (.goto 4, 3) := by decide +kernel
theorem d8_27 : decode method_5_code 27 = .ok (.iconst 0, 1) := by decide +kernel
theorem d8_28 : decode method_5_code 28 = .ok (.istore 4, 2) := by decide +kernel
theorem d8_30 : decode method_5_code 30 = .ok (.iload_n 0, 1) := by decide +kernel
theorem d8_31 : decode method_5_code 31 = .ok (.ifCond .ne 20, 3) := by decide +kernel
theorem d8_34 : decode method_5_code 34 = .ok (.iload_n 3, 1) := by decide +kernel
theorem d8_35 : decode method_5_code 35 = .ok (.ifCond .eq 5, 3) := by decide +kernel
theorem d8_38 : decode method_5_code 38 = .ok (.iconst 1, 1) := by decide +kernel
theorem d8_39 : decode method_5_code 39 = .ok (.ireturn, 1) := by decide +kernel
theorem d8_40 : decode method_5_code 40 = .ok (.iload_n 1, 1) := by decide +kernel
theorem d8_41 : decode method_5_code 41 = .ok (.bipush 46, 2) := by decide +kernel
theorem d8_43 : decode method_5_code 43 = .ok (.if_icmp .ne 5, 3) := by decide +kernel
theorem d8_46 : decode method_5_code 46 = .ok (.iconst 2, 1) := by decide +kernel
theorem d8_47 : decode method_5_code 47 = .ok (.ireturn, 1) := by decide +kernel
theorem d8_48 : decode method_5_code 48 = .ok (.bipush 7, 2) := by decide +kernel
theorem d8_50 : decode method_5_code 50 = .ok (.ireturn, 1) := by decide +kernel
theorem d8_51 : decode method_5_code 51 = .ok (.iload_n 0, 1) := by decide +kernel
theorem d8_52 : decode method_5_code 52 = .ok (.iconst 1, 1) := by decide +kernel
theorem d8_53 : decode method_5_code 53 = .ok (.if_icmp .ne 27, 3) := by decide +kernel
theorem d8_56 : decode method_5_code 56 = .ok (.iload_n 3, 1) := by decide +kernel
theorem d8_57 : decode method_5_code 57 = .ok (.ifCond .eq 5, 3) := by decide +kernel
theorem d8_60 : decode method_5_code 60 = .ok (.iconst 1, 1) := by decide +kernel
theorem d8_61 : decode method_5_code 61 = .ok (.ireturn, 1) := by decide +kernel
theorem d8_62 : decode method_5_code 62 = .ok (.iload_n 1, 1) := by decide +kernel
theorem d8_63 : decode method_5_code 63 = .ok (.bipush 46, 2) := by decide +kernel
theorem d8_65 : decode method_5_code 65 = .ok (.if_icmp .ne 5, 3) := by decide +kernel
theorem d8_68 : decode method_5_code 68 = .ok (.iconst 3, 1) := by decide +kernel
theorem d8_69 : decode method_5_code 69 = .ok (.ireturn, 1) := by decide +kernel
theorem d8_70 : decode method_5_code 70 = .ok (.iload 4, 2) := by decide +kernel
theorem d8_72 : decode method_5_code 72 = .ok (.ifCond .eq 5, 3) := by decide +kernel
theorem d8_75 : decode method_5_code 75 = .ok (.iconst 4, 1) := by decide +kernel
theorem d8_76 : decode method_5_code 76 = .ok (.ireturn, 1) := by decide +kernel
theorem d8_77 : decode method_5_code 77 = .ok (.bipush 7, 2) := by decide +kernel
theorem d8_79 : decode method_5_code 79 = .ok (.ireturn, 1) := by decide +kernel
theorem d8_80 : decode method_5_code 80 = .ok (.iload_n 0, 1) := by decide +kernel
theorem d8_81 : decode method_5_code 81 = .ok (.iconst 2, 1) := by decide +kernel
theorem d8_82 : decode method_5_code 82 = .ok (.if_icmp .ne 12, 3) := by decide +kernel
theorem d8_85 : decode method_5_code 85 = .ok (.iload_n 3, 1) := by decide +kernel
theorem d8_86 : decode method_5_code 86 = .ok (.ifCond .eq 5, 3) := by decide +kernel
theorem d8_89 : decode method_5_code 89 = .ok (.iconst 3, 1) := by decide +kernel
theorem d8_90 : decode method_5_code 90 = .ok (.ireturn, 1) := by decide +kernel
theorem d8_91 : decode method_5_code 91 = .ok (.bipush 7, 2) := by decide +kernel
theorem d8_93 : decode method_5_code 93 = .ok (.ireturn, 1) := by decide +kernel
theorem d8_94 : decode method_5_code 94 = .ok (.iload_n 0, 1) := by decide +kernel
theorem d8_95 : decode method_5_code 95 = .ok (.iconst 3, 1) := by decide +kernel
theorem d8_96 : decode method_5_code 96 = .ok (.if_icmp .ne 19, 3) := by decide +kernel
theorem d8_99 : decode method_5_code 99 = .ok (.iload_n 3, 1) := by decide +kernel
theorem d8_100 : decode method_5_code 100 = .ok (.ifCond .eq 5, 3) := by decide +kernel
theorem d8_103 : decode method_5_code 103 = .ok (.iconst 3, 1) := by decide +kernel
theorem d8_104 : decode method_5_code 104 = .ok (.ireturn, 1) := by decide +kernel
theorem d8_105 : decode method_5_code 105 = .ok (.iload 4, 2) := by decide +kernel
theorem d8_107 : decode method_5_code 107 = .ok (.ifCond .eq 5, 3) := by decide +kernel
theorem d8_110 : decode method_5_code 110 = .ok (.iconst 4, 1) := by decide +kernel
theorem d8_111 : decode method_5_code 111 = .ok (.ireturn, 1) := by decide +kernel
theorem d8_112 : decode method_5_code 112 = .ok (.bipush 7, 2) := by decide +kernel
theorem d8_114 : decode method_5_code 114 = .ok (.ireturn, 1) := by decide +kernel
theorem d8_115 : decode method_5_code 115 = .ok (.iload_n 0, 1) := by decide +kernel
theorem d8_116 : decode method_5_code 116 = .ok (.iconst 4, 1) := by decide +kernel
theorem d8_117 : decode method_5_code 117 = .ok (.if_icmp .ne 27, 3) := by decide +kernel
theorem d8_120 : decode method_5_code 120 = .ok (.iload_n 3, 1) := by decide +kernel
theorem d8_121 : decode method_5_code 121 = .ok (.ifCond .eq 6, 3) := by decide +kernel
theorem d8_124 : decode method_5_code 124 = .ok (.bipush 6, 2) := by decide +kernel
theorem d8_126 : decode method_5_code 126 = .ok (.ireturn, 1) := by decide +kernel
theorem d8_127 : decode method_5_code 127 = .ok (.iload_n 1, 1) := by decide +kernel
theorem d8_128 : decode method_5_code 128 = .ok (.bipush 43, 2) := by decide +kernel
theorem d8_130 : decode method_5_code 130 = .ok (.if_icmp .eq 9, 3) := by decide +kernel
theorem d8_133 : decode method_5_code 133 = .ok (.iload_n 1, 1) := by decide +kernel
theorem d8_134 : decode method_5_code 134 = .ok (.bipush 45, 2) := by decide +kernel
theorem d8_136 : decode method_5_code 136 = .ok (.if_icmp .ne 5, 3) := by decide +kernel
theorem d8_139 : decode method_5_code 139 = .ok (.iconst 5, 1) := by decide +kernel
theorem d8_140 : decode method_5_code 140 = .ok (.ireturn, 1) := by decide +kernel
theorem d8_141 : decode method_5_code 141 = .ok (.bipush 7, 2) := by decide +kernel
theorem d8_143 : decode method_5_code 143 = .ok (.ireturn, 1) := by decide +kernel
theorem d8_144 : decode method_5_code 144 = .ok (.iload_n 0, 1) := by decide +kernel
theorem d8_145 : decode method_5_code 145 = .ok (.iconst 5, 1) := by decide +kernel
theorem d8_146 : decode method_5_code 146 = .ok (.if_icmp .ne 13, 3) := by decide +kernel
theorem d8_149 : decode method_5_code 149 = .ok (.iload_n 3, 1) := by decide +kernel
theorem d8_150 : decode method_5_code 150 = .ok (.ifCond .eq 6, 3) := by decide +kernel
theorem d8_153 : decode method_5_code 153 = .ok (.bipush 6, 2) := by decide +kernel
theorem d8_155 : decode method_5_code 155 = .ok (.ireturn, 1) := by decide +kernel
theorem d8_156 : decode method_5_code 156 = .ok (.bipush 7, 2) := by decide +kernel
theorem d8_158 : decode method_5_code 158 = .ok (.ireturn, 1) := by decide +kernel
theorem d8_159 : decode method_5_code 159 = .ok (.iload_n 0, 1) := by decide +kernel
theorem d8_160 : decode method_5_code 160 = .ok (.bipush 6, 2) := by decide +kernel
theorem d8_162 : decode method_5_code 162 = .ok (.if_icmp .ne 13, 3) := by decide +kernel
theorem d8_165 : decode method_5_code 165 = .ok (.iload_n 3, 1) := by decide +kernel
theorem d8_166 : decode method_5_code 166 = .ok (.ifCond .eq 6, 3) := by decide +kernel
theorem d8_169 : decode method_5_code 169 = .ok (.bipush 6, 2) := by decide +kernel
theorem d8_171 : decode method_5_code 171 = .ok (.ireturn, 1) := by decide +kernel
theorem d8_172 : decode method_5_code 172 = .ok (.bipush 7, 2) := by decide +kernel
theorem d8_174 : decode method_5_code 174 = .ok (.ireturn, 1) := by decide +kernel
theorem d8_175 : decode method_5_code 175 = .ok (.bipush 7, 2) := by decide +kernel
theorem d8_177 : decode method_5_code 177 = .ok (.ireturn, 1) := by decide +kernel
theorem pn_8 : plainName "com/example/prewrm/prewrm/io/CsvFieldsIsUnsignedDecimalPinLaw" = true := by first | (simp [plainName, overriddenIn]; done) | decide +kernel
theorem ef_8 (m : MethodId) (p1 : Int32) (p2 : Int32) (p3 : Int32) : entryFrame m #[(.int p1), (.int p2), (.int p3)] 5 = mkF m 0 #[.val (.int p1), .val (.int p2), .val (.int p3), .unset, .unset] [] := by first | (simp [entryFrame, mkF, argsToLocals, Value.category]; done) | rfl
def f8 (p1 : Int32) (p2 : Int32) (p3 : Int32) : Int32 :=
  (if p3 = (0 : Int32) then p1 else (if p1 = (0 : Int32) then (if (f9 p2) = (0 : Int32) then (if p2 = (46 : Int32) then (2 : Int32) else (7 : Int32)) else (1 : Int32)) else (if p1 = (1 : Int32) then (if (f9 p2) = (0 : Int32) then (if p2 = (46 : Int32) then (3 : Int32) else (if (if p2 = (101 : Int32) then (1 : Int32) else (if p2 = (69 : Int32) then (1 : Int32) else (0 : Int32))) = (0 : Int32) then (7 : Int32) else (4 : Int32))) else (1 : Int32)) else (if p1 = (2 : Int32) then (if (f9 p2) = (0 : Int32) then (7 : Int32) else (3 : Int32)) else (if p1 = (3 : Int32) then (if (f9 p2) = (0 : Int32) then (if (if p2 = (101 : Int32) then (1 : Int32) else (if p2 = (69 : Int32) then (1 : Int32) else (0 : Int32))) = (0 : Int32) then (7 : Int32) else (4 : Int32)) else (3 : Int32)) else (if p1 = (4 : Int32) then (if (f9 p2) = (0 : Int32) then (if p2 = (43 : Int32) then (5 : Int32) else (if p2 = (45 : Int32) then (5 : Int32) else (7 : Int32))) else (6 : Int32)) else (if p1 = (5 : Int32) then (if (f9 p2) = (0 : Int32) then (7 : Int32) else (6 : Int32)) else (if p1 = (6 : Int32) then (if (f9 p2) = (0 : Int32) then (7 : Int32) else (6 : Int32)) else (7 : Int32)))))))))
def Q8 (Z : State) (p1 : Int32) (p2 : Int32) (p3 : Int32)  (h0 : Heap) (n0 : Nat) (v : Option Value) (h : Heap) (L : List Loc) : Prop := v = some (.int (f8 p1 p2 p3)) ∧ Fr n0 L ∧ h = h0
set_option maxRecDepth 65536 in
set_option maxHeartbeats 40000000 in
theorem rm8 (l : Launch) (Z : State) (a0 : Array Value) (hw : ∀ d ∈ tables_1, d.before a0 Z = true) (ws : List Jvm.Cond) (p1 : Int32) (p2 : Int32) (p3 : Int32)  (h0 : Heap) (n0 : Nat) (Z0 : n0 ≤ h0.size) :
    MetFree l (⟨"com/example/prewrm/prewrm/io/CsvFieldsIsUnsignedDecimalPinLaw", "step", "(ICZ)I"⟩ : MethodName) (head1 (Jvm.Cond.code (⟨"com/example/prewrm/prewrm/io/CsvFieldsIsUnsignedDecimalPinLaw", "step", "(ICZ)I"⟩ : MethodName) method_5_code 5 (some .int) :: ws) ({ frames := 1, cells := 0, slots := 0, locals := 12 } : Room)) (fun a U => a = #[(.int p1), (.int p2), (.int p3)] ∧ Z.Warmed39 U.vm ∧ U.heap = h0) (fun _ _ _ _ _ => True) (fun _ U o U' => ∃ v L, o = .returned v ∧ Q8 Z p1 p2 p3 h0 n0 v U'.heap L ∧ FrameEnd U o U' L ({ frames := 1, cells := 0, slots := 0, locals := 12 } : Room).cells ({ frames := 1, cells := 0, slots := 0, locals := 12 } : Room).slots) := by
  refine MetFree.of_bodySF (plainFor_of_name pn_8) hisR ?_
  intro p e s m args below meth c s₁ Bd hml0 hP hK
  obtain ⟨rfl, hZ, hh⟩ := hP
  have hx := Bd.exec
  have hby := Bd.bytes
  have hml : c.maxLocals = 5 := hml0
  have hown : s.vm.findClass "com/example/prewrm/prewrm/io/CsvFieldsIsUnsignedDecimalPinLaw" = some m.cls := findClass_of_methodNamed Bd.named
  have hnm := (name_of_methodNamed Bd.named Bd.method).1
  have X0 : Stand p l e ({ frames := 1, cells := 0, slots := 0, locals := 12 } : Room) s m #[(.int p1), (.int p2), (.int p3)] below meth c s₁ [] 0 0 := Stand.of_body Bd
  have e0 : s₁.heap = h0 := by rw [← hh, Bd.state]; rfl
  have N0 := Fr.nil n0
  have pre0 : ∀ t, Steps p.tables e below (s₁.setTop (mkF m 0 #[.val (.int p1), .val (.int p2), .val (.int p3), .unset, .unset] [])) t → Steps p.tables e below (s₁.setTop (entryFrame m #[(.int p1), (.int p2), (.int p3)] 5)) t := fun t k => castTop (ef_8 m p1 p2 p3) k
  have pre1 : ∀ t, Steps p.tables e below (s₁.setTop (mkF m 1 #[.val (.int p1), .val (.int p2), .val (.int p3), .unset, .unset] [(.int p3)])) t → Steps p.tables e below (s₁.setTop (entryFrame m #[(.int p1), (.int p2), (.int p3)] 5)) t := fun t k => pre0 t (by
    show Steps p.tables e below (s₁.setTop (mkF m 0 #[.val (.int p1), .val (.int p2), .val (.int p3), .unset, .unset] [])) _
    refine XS.iloadN X0.here hx rfl (hb hby d8_0) rfl ?_
    exact k)
  by_cases hc2 : p3 = (0 : Int32)
  · have er : (f8 p1 p2 p3) = p1 := by exact (if_pos hc2)
    obtain ⟨fs, hr, hrun, hended, hW, hsame⟩ := X0.leave (v := some (.int p1)) (fun h => by rw [Bd.returns] at h; cases h)
    refine ⟨_, _, pre1 _ ?_, hrun, hended, _, _, rfl, ?_, ⟨_, rfl⟩, hW, hsame.mono (by decide) (by decide)⟩
    · show Steps p.tables e below (s₁.setTop (mkF m 1 #[.val (.int p1), .val (.int p2), .val (.int p3), .unset, .unset] [(.int p3)])) _
      refine XS.ifNo X0.here hx rfl (hb hby d8_1) rfl ((if0 _ _).trans (teq hc2).2) ?_
      show Steps p.tables e below (s₁.setTop (mkF m 4 #[.val (.int p1), .val (.int p2), .val (.int p3), .unset, .unset] [])) _
      refine XS.iloadN X0.here hx rfl (hb hby d8_4) rfl ?_
      show Steps p.tables e below (s₁.setTop (mkF m 5 #[.val (.int p1), .val (.int p2), .val (.int p3), .unset, .unset] [(.int p1)])) _
      exact retI X0 hx Bd.returns (hb hby d8_5) hr
    · show Q8 Z p1 p2 p3 h0 n0 _ s₁.heap _
      rw [e0]
      exact ⟨congrArg (fun z => some (Value.int z)) er.symm, N0, rfl⟩
  · obtain ⟨_, _, ⟨T3, L3, k3, n3⟩, -, X3, ⟨Lc3, hQ3, l3, y3, z3⟩, st3⟩ := Jvm.LawKit.callS X0 hx (y := (⟨"com/example/prewrm/prewrm/io/CsvFieldsIsUnsignedDecimalPinLaw", "isDigit", "(C)Z"⟩ : MethodName)) hown (mvT hZ (hw _ (List.mem_of_getElem? (i := 39) rfl))) (mvT hZ (hw _ (List.mem_of_getElem? (i := 40) rfl))) (mvT hZ (hw _ (List.mem_of_getElem? (i := 4) rfl))) (mvT hZ (hw _ (List.mem_of_getElem? (i := 41) rfl))) (by decide) (backOf (W := 0) (rm9 l Z a0 hw [] p2 h0 n0 Z0) hZ (hw _ (List.mem_of_getElem? (i := 41) rfl)) (hw _ (List.mem_of_getElem? (i := 4) rfl)) (by decide) (by decide)) (g := (mkF m 7 #[.val (.int p1), .val (.int p2), .val (.int p3), .unset, .unset] [(.int p2)])) rfl (by rw [hml]; rfl) (argsL := [(.int p2)]) (rest := []) (lenOf pd_9 rfl) rfl (by show 2 * 0 + _ ≤ _; exact Nat.le_of_eq rfl) (hb hby d8_7) (fun _ _ => ⟨rfl, e0, (by decide : 0 + 0 ≤ _), (by decide : 0 + 0 ≤ _)⟩)
    dsimp only [Pt.U, Pt.locs, Pt.cells, Pt.slots] at X3 l3 y3 z3 st3 hQ3
    subst l3 y3 z3
    obtain ⟨rfl, N3q, e3⟩ := hQ3
    have N3 := Fr.app N0 N3q
    obtain ⟨v6, hv6⟩ : ∃ z : Int32, z = (if p2 = (101 : Int32) then (1 : Int32) else (if p2 = (69 : Int32) then (1 : Int32) else (0 : Int32))) := ⟨_, rfl⟩
    have pre7 : ∀ t, Steps p.tables e below (T3.setTop (mkF m 28 #[.val (.int p1), .val (.int p2), .val (.int p3), .val (.int (f9 p2)), .unset] [(.int v6)])) t → Steps p.tables e below (s₁.setTop (entryFrame m #[(.int p1), (.int p2), (.int p3)] 5)) t := fun t k => pre1 t (by
      show Steps p.tables e below (s₁.setTop (mkF m 1 #[.val (.int p1), .val (.int p2), .val (.int p3), .unset, .unset] [(.int p3)])) _
      refine XS.ifYes X0.here hx rfl (pc0 := 1) (pc' := 6) rfl (hb hby d8_1) rfl ((if0 _ _).trans (feq hc2).2) (by decide) (by decide) ?_
      show Steps p.tables e below (s₁.setTop (mkF m 6 #[.val (.int p1), .val (.int p2), .val (.int p3), .unset, .unset] [])) _
      refine XS.iloadN X0.here hx rfl (hb hby d8_6) rfl ?_
      show Steps p.tables e below (s₁.setTop (mkF m 7 #[.val (.int p1), .val (.int p2), .val (.int p3), .unset, .unset] [(.int p2)])) _
      refine st3 _ ?_
      show Steps p.tables e below (T3.setTop (mkF m 10 #[.val (.int p1), .val (.int p2), .val (.int p3), .unset, .unset] [(.int (f9 p2))])) _
      refine XS.istoreN X3.here hx rfl (hb hby d8_10) rfl (l' := #[.val (.int p1), .val (.int p2), .val (.int p3), .val (.int (f9 p2)), .unset]) rfl ?_
      show Steps p.tables e below (T3.setTop (mkF m 11 #[.val (.int p1), .val (.int p2), .val (.int p3), .val (.int (f9 p2)), .unset] [])) _
      refine XS.iloadN X3.here hx rfl (hb hby d8_11) rfl ?_
      show Steps p.tables e below (T3.setTop (mkF m 12 #[.val (.int p1), .val (.int p2), .val (.int p3), .val (.int (f9 p2)), .unset] [(.int p2)])) _
      refine XS.bipush X3.here hx rfl (hb hby d8_12) ?_
      show Steps p.tables e below (T3.setTop (mkF m 14 #[.val (.int p1), .val (.int p2), .val (.int p3), .val (.int (f9 p2)), .unset] [(.int (101 : Int32)), (.int p2)])) _
      by_cases hc4 : p2 = (101 : Int32)
      · refine XS.icmpYes X3.here hx rfl (pc0 := 14) (pc' := 23) rfl (hb hby d8_14) rfl (teq hc4).1 (by decide) (by decide) ?_
        show Steps p.tables e below (T3.setTop (mkF m 23 #[.val (.int p1), .val (.int p2), .val (.int p3), .val (.int (f9 p2)), .unset] [])) _
        refine XS.iconst X3.here hx rfl (hb hby d8_23) ?_
        show Steps p.tables e below (T3.setTop (mkF m 24 #[.val (.int p1), .val (.int p2), .val (.int p3), .val (.int (f9 p2)), .unset] [(.int (1 : Int32))])) _
        refine XS.goto X3.here hx rfl (pc0 := 24) (pc' := 28) rfl (hb hby d8_24) (by decide) (by decide) ?_
        rw [show v6 = (1 : Int32) from hv6.trans (if_pos hc4)] at k
        exact k
      · refine XS.icmpNo X3.here hx rfl (hb hby d8_14) rfl (feq hc4).1 ?_
        show Steps p.tables e below (T3.setTop (mkF m 17 #[.val (.int p1), .val (.int p2), .val (.int p3), .val (.int (f9 p2)), .unset] [])) _
        refine XS.iloadN X3.here hx rfl (hb hby d8_17) rfl ?_
        show Steps p.tables e below (T3.setTop (mkF m 18 #[.val (.int p1), .val (.int p2), .val (.int p3), .val (.int (f9 p2)), .unset] [(.int p2)])) _
        refine XS.bipush X3.here hx rfl (hb hby d8_18) ?_
        show Steps p.tables e below (T3.setTop (mkF m 20 #[.val (.int p1), .val (.int p2), .val (.int p3), .val (.int (f9 p2)), .unset] [(.int (69 : Int32)), (.int p2)])) _
        by_cases hc5 : p2 = (69 : Int32)
        · refine XS.icmpNo X3.here hx rfl (hb hby d8_20) rfl (teq hc5).2 ?_
          show Steps p.tables e below (T3.setTop (mkF m 23 #[.val (.int p1), .val (.int p2), .val (.int p3), .val (.int (f9 p2)), .unset] [])) _
          refine XS.iconst X3.here hx rfl (hb hby d8_23) ?_
          show Steps p.tables e below (T3.setTop (mkF m 24 #[.val (.int p1), .val (.int p2), .val (.int p3), .val (.int (f9 p2)), .unset] [(.int (1 : Int32))])) _
          refine XS.goto X3.here hx rfl (pc0 := 24) (pc' := 28) rfl (hb hby d8_24) (by decide) (by decide) ?_
          rw [show v6 = (1 : Int32) from hv6.trans ((if_neg hc4).trans (if_pos hc5))] at k
          exact k
        · refine XS.icmpYes X3.here hx rfl (pc0 := 20) (pc' := 27) rfl (hb hby d8_20) rfl (feq hc5).2 (by decide) (by decide) ?_
          show Steps p.tables e below (T3.setTop (mkF m 27 #[.val (.int p1), .val (.int p2), .val (.int p3), .val (.int (f9 p2)), .unset] [])) _
          refine XS.iconst X3.here hx rfl (hb hby d8_27) ?_
          rw [show v6 = (0 : Int32) from hv6.trans ((if_neg hc4).trans (if_neg hc5))] at k
          exact k)
    have pre8 : ∀ t, Steps p.tables e below (T3.setTop (mkF m 31 #[.val (.int p1), .val (.int p2), .val (.int p3), .val (.int (f9 p2)), .val (.int v6)] [(.int p1)])) t → Steps p.tables e below (s₁.setTop (entryFrame m #[(.int p1), (.int p2), (.int p3)] 5)) t := fun t k => pre7 t (by
      show Steps p.tables e below (T3.setTop (mkF m 28 #[.val (.int p1), .val (.int p2), .val (.int p3), .val (.int (f9 p2)), .unset] [(.int v6)])) _
      refine XS.istore X3.here hx rfl (hb hby d8_28) rfl (l' := #[.val (.int p1), .val (.int p2), .val (.int p3), .val (.int (f9 p2)), .val (.int v6)]) rfl ?_
      show Steps p.tables e below (T3.setTop (mkF m 30 #[.val (.int p1), .val (.int p2), .val (.int p3), .val (.int (f9 p2)), .val (.int v6)] [])) _
      refine XS.iloadN X3.here hx rfl (hb hby d8_30) rfl ?_
      exact k)
    by_cases hc9 : p1 = (0 : Int32)
    · have pre10 : ∀ t, Steps p.tables e below (T3.setTop (mkF m 35 #[.val (.int p1), .val (.int p2), .val (.int p3), .val (.int (f9 p2)), .val (.int v6)] [(.int (f9 p2))])) t → Steps p.tables e below (s₁.setTop (entryFrame m #[(.int p1), (.int p2), (.int p3)] 5)) t := fun t k => pre8 t (by
        show Steps p.tables e below (T3.setTop (mkF m 31 #[.val (.int p1), .val (.int p2), .val (.int p3), .val (.int (f9 p2)), .val (.int v6)] [(.int p1)])) _
        refine XS.ifNo X3.here hx rfl (hb hby d8_31) rfl ((if0 _ _).trans (teq hc9).2) ?_
        show Steps p.tables e below (T3.setTop (mkF m 34 #[.val (.int p1), .val (.int p2), .val (.int p3), .val (.int (f9 p2)), .val (.int v6)] [])) _
        refine XS.iloadN X3.here hx rfl (hb hby d8_34) rfl ?_
        exact k)
      by_cases hc11 : (f9 p2) = (0 : Int32)
      · have pre12 : ∀ t, Steps p.tables e below (T3.setTop (mkF m 43 #[.val (.int p1), .val (.int p2), .val (.int p3), .val (.int (f9 p2)), .val (.int v6)] [(.int (46 : Int32)), (.int p2)])) t → Steps p.tables e below (s₁.setTop (entryFrame m #[(.int p1), (.int p2), (.int p3)] 5)) t := fun t k => pre10 t (by
          show Steps p.tables e below (T3.setTop (mkF m 35 #[.val (.int p1), .val (.int p2), .val (.int p3), .val (.int (f9 p2)), .val (.int v6)] [(.int (f9 p2))])) _
          refine XS.ifYes X3.here hx rfl (pc0 := 35) (pc' := 40) rfl (hb hby d8_35) rfl ((if0 _ _).trans (teq hc11).1) (by decide) (by decide) ?_
          show Steps p.tables e below (T3.setTop (mkF m 40 #[.val (.int p1), .val (.int p2), .val (.int p3), .val (.int (f9 p2)), .val (.int v6)] [])) _
          refine XS.iloadN X3.here hx rfl (hb hby d8_40) rfl ?_
          show Steps p.tables e below (T3.setTop (mkF m 41 #[.val (.int p1), .val (.int p2), .val (.int p3), .val (.int (f9 p2)), .val (.int v6)] [(.int p2)])) _
          refine XS.bipush X3.here hx rfl (hb hby d8_41) ?_
          exact k)
        by_cases hc13 : p2 = (46 : Int32)
        · have er : (f8 p1 p2 p3) = (2 : Int32) := by subst hv6; exact ((if_neg hc2).trans ((if_pos hc9).trans ((if_pos hc11).trans (if_pos hc13))))
          obtain ⟨fs, hr, hrun, hended, hW, hsame⟩ := X3.leave (v := some (.int (2 : Int32))) (fun h => by rw [Bd.returns] at h; cases h)
          refine ⟨_, _, pre12 _ ?_, hrun, hended, _, _, rfl, ?_, ⟨_, rfl⟩, hW, hsame.mono (by decide) (by decide)⟩
          · show Steps p.tables e below (T3.setTop (mkF m 43 #[.val (.int p1), .val (.int p2), .val (.int p3), .val (.int (f9 p2)), .val (.int v6)] [(.int (46 : Int32)), (.int p2)])) _
            refine XS.icmpNo X3.here hx rfl (hb hby d8_43) rfl (teq hc13).2 ?_
            show Steps p.tables e below (T3.setTop (mkF m 46 #[.val (.int p1), .val (.int p2), .val (.int p3), .val (.int (f9 p2)), .val (.int v6)] [])) _
            refine XS.iconst X3.here hx rfl (hb hby d8_46) ?_
            show Steps p.tables e below (T3.setTop (mkF m 47 #[.val (.int p1), .val (.int p2), .val (.int p3), .val (.int (f9 p2)), .val (.int v6)] [(.int (2 : Int32))])) _
            exact retI X3 hx Bd.returns (hb hby d8_47) hr
          · show Q8 Z p1 p2 p3 h0 n0 _ T3.heap _
            rw [e3]
            exact ⟨congrArg (fun z => some (Value.int z)) er.symm, N3, rfl⟩
        · have er : (f8 p1 p2 p3) = (7 : Int32) := by subst hv6; exact ((if_neg hc2).trans ((if_pos hc9).trans ((if_pos hc11).trans (if_neg hc13))))
          obtain ⟨fs, hr, hrun, hended, hW, hsame⟩ := X3.leave (v := some (.int (7 : Int32))) (fun h => by rw [Bd.returns] at h; cases h)
          refine ⟨_, _, pre12 _ ?_, hrun, hended, _, _, rfl, ?_, ⟨_, rfl⟩, hW, hsame.mono (by decide) (by decide)⟩
          · show Steps p.tables e below (T3.setTop (mkF m 43 #[.val (.int p1), .val (.int p2), .val (.int p3), .val (.int (f9 p2)), .val (.int v6)] [(.int (46 : Int32)), (.int p2)])) _
            refine XS.icmpYes X3.here hx rfl (pc0 := 43) (pc' := 48) rfl (hb hby d8_43) rfl (feq hc13).2 (by decide) (by decide) ?_
            show Steps p.tables e below (T3.setTop (mkF m 48 #[.val (.int p1), .val (.int p2), .val (.int p3), .val (.int (f9 p2)), .val (.int v6)] [])) _
            refine XS.bipush X3.here hx rfl (hb hby d8_48) ?_
            show Steps p.tables e below (T3.setTop (mkF m 50 #[.val (.int p1), .val (.int p2), .val (.int p3), .val (.int (f9 p2)), .val (.int v6)] [(.int (7 : Int32))])) _
            exact retI X3 hx Bd.returns (hb hby d8_50) hr
          · show Q8 Z p1 p2 p3 h0 n0 _ T3.heap _
            rw [e3]
            exact ⟨congrArg (fun z => some (Value.int z)) er.symm, N3, rfl⟩
      · have er : (f8 p1 p2 p3) = (1 : Int32) := by subst hv6; exact ((if_neg hc2).trans ((if_pos hc9).trans (if_neg hc11)))
        obtain ⟨fs, hr, hrun, hended, hW, hsame⟩ := X3.leave (v := some (.int (1 : Int32))) (fun h => by rw [Bd.returns] at h; cases h)
        refine ⟨_, _, pre10 _ ?_, hrun, hended, _, _, rfl, ?_, ⟨_, rfl⟩, hW, hsame.mono (by decide) (by decide)⟩
        · show Steps p.tables e below (T3.setTop (mkF m 35 #[.val (.int p1), .val (.int p2), .val (.int p3), .val (.int (f9 p2)), .val (.int v6)] [(.int (f9 p2))])) _
          refine XS.ifNo X3.here hx rfl (hb hby d8_35) rfl ((if0 _ _).trans (feq hc11).1) ?_
          show Steps p.tables e below (T3.setTop (mkF m 38 #[.val (.int p1), .val (.int p2), .val (.int p3), .val (.int (f9 p2)), .val (.int v6)] [])) _
          refine XS.iconst X3.here hx rfl (hb hby d8_38) ?_
          show Steps p.tables e below (T3.setTop (mkF m 39 #[.val (.int p1), .val (.int p2), .val (.int p3), .val (.int (f9 p2)), .val (.int v6)] [(.int (1 : Int32))])) _
          exact retI X3 hx Bd.returns (hb hby d8_39) hr
        · show Q8 Z p1 p2 p3 h0 n0 _ T3.heap _
          rw [e3]
          exact ⟨congrArg (fun z => some (Value.int z)) er.symm, N3, rfl⟩
    · have pre14 : ∀ t, Steps p.tables e below (T3.setTop (mkF m 53 #[.val (.int p1), .val (.int p2), .val (.int p3), .val (.int (f9 p2)), .val (.int v6)] [(.int (1 : Int32)), (.int p1)])) t → Steps p.tables e below (s₁.setTop (entryFrame m #[(.int p1), (.int p2), (.int p3)] 5)) t := fun t k => pre8 t (by
        show Steps p.tables e below (T3.setTop (mkF m 31 #[.val (.int p1), .val (.int p2), .val (.int p3), .val (.int (f9 p2)), .val (.int v6)] [(.int p1)])) _
        refine XS.ifYes X3.here hx rfl (pc0 := 31) (pc' := 51) rfl (hb hby d8_31) rfl ((if0 _ _).trans (feq hc9).2) (by decide) (by decide) ?_
        show Steps p.tables e below (T3.setTop (mkF m 51 #[.val (.int p1), .val (.int p2), .val (.int p3), .val (.int (f9 p2)), .val (.int v6)] [])) _
        refine XS.iloadN X3.here hx rfl (hb hby d8_51) rfl ?_
        show Steps p.tables e below (T3.setTop (mkF m 52 #[.val (.int p1), .val (.int p2), .val (.int p3), .val (.int (f9 p2)), .val (.int v6)] [(.int p1)])) _
        refine XS.iconst X3.here hx rfl (hb hby d8_52) ?_
        exact k)
      by_cases hc15 : p1 = (1 : Int32)
      · have pre16 : ∀ t, Steps p.tables e below (T3.setTop (mkF m 57 #[.val (.int p1), .val (.int p2), .val (.int p3), .val (.int (f9 p2)), .val (.int v6)] [(.int (f9 p2))])) t → Steps p.tables e below (s₁.setTop (entryFrame m #[(.int p1), (.int p2), (.int p3)] 5)) t := fun t k => pre14 t (by
          show Steps p.tables e below (T3.setTop (mkF m 53 #[.val (.int p1), .val (.int p2), .val (.int p3), .val (.int (f9 p2)), .val (.int v6)] [(.int (1 : Int32)), (.int p1)])) _
          refine XS.icmpNo X3.here hx rfl (hb hby d8_53) rfl (teq hc15).2 ?_
          show Steps p.tables e below (T3.setTop (mkF m 56 #[.val (.int p1), .val (.int p2), .val (.int p3), .val (.int (f9 p2)), .val (.int v6)] [])) _
          refine XS.iloadN X3.here hx rfl (hb hby d8_56) rfl ?_
          exact k)
        by_cases hc17 : (f9 p2) = (0 : Int32)
        · have pre18 : ∀ t, Steps p.tables e below (T3.setTop (mkF m 65 #[.val (.int p1), .val (.int p2), .val (.int p3), .val (.int (f9 p2)), .val (.int v6)] [(.int (46 : Int32)), (.int p2)])) t → Steps p.tables e below (s₁.setTop (entryFrame m #[(.int p1), (.int p2), (.int p3)] 5)) t := fun t k => pre16 t (by
            show Steps p.tables e below (T3.setTop (mkF m 57 #[.val (.int p1), .val (.int p2), .val (.int p3), .val (.int (f9 p2)), .val (.int v6)] [(.int (f9 p2))])) _
            refine XS.ifYes X3.here hx rfl (pc0 := 57) (pc' := 62) rfl (hb hby d8_57) rfl ((if0 _ _).trans (teq hc17).1) (by decide) (by decide) ?_
            show Steps p.tables e below (T3.setTop (mkF m 62 #[.val (.int p1), .val (.int p2), .val (.int p3), .val (.int (f9 p2)), .val (.int v6)] [])) _
            refine XS.iloadN X3.here hx rfl (hb hby d8_62) rfl ?_
            show Steps p.tables e below (T3.setTop (mkF m 63 #[.val (.int p1), .val (.int p2), .val (.int p3), .val (.int (f9 p2)), .val (.int v6)] [(.int p2)])) _
            refine XS.bipush X3.here hx rfl (hb hby d8_63) ?_
            exact k)
          by_cases hc19 : p2 = (46 : Int32)
          · have er : (f8 p1 p2 p3) = (3 : Int32) := by subst hv6; exact ((if_neg hc2).trans ((if_neg hc9).trans ((if_pos hc15).trans ((if_pos hc17).trans (if_pos hc19)))))
            obtain ⟨fs, hr, hrun, hended, hW, hsame⟩ := X3.leave (v := some (.int (3 : Int32))) (fun h => by rw [Bd.returns] at h; cases h)
            refine ⟨_, _, pre18 _ ?_, hrun, hended, _, _, rfl, ?_, ⟨_, rfl⟩, hW, hsame.mono (by decide) (by decide)⟩
            · show Steps p.tables e below (T3.setTop (mkF m 65 #[.val (.int p1), .val (.int p2), .val (.int p3), .val (.int (f9 p2)), .val (.int v6)] [(.int (46 : Int32)), (.int p2)])) _
              refine XS.icmpNo X3.here hx rfl (hb hby d8_65) rfl (teq hc19).2 ?_
              show Steps p.tables e below (T3.setTop (mkF m 68 #[.val (.int p1), .val (.int p2), .val (.int p3), .val (.int (f9 p2)), .val (.int v6)] [])) _
              refine XS.iconst X3.here hx rfl (hb hby d8_68) ?_
              show Steps p.tables e below (T3.setTop (mkF m 69 #[.val (.int p1), .val (.int p2), .val (.int p3), .val (.int (f9 p2)), .val (.int v6)] [(.int (3 : Int32))])) _
              exact retI X3 hx Bd.returns (hb hby d8_69) hr
            · show Q8 Z p1 p2 p3 h0 n0 _ T3.heap _
              rw [e3]
              exact ⟨congrArg (fun z => some (Value.int z)) er.symm, N3, rfl⟩
          · have pre20 : ∀ t, Steps p.tables e below (T3.setTop (mkF m 72 #[.val (.int p1), .val (.int p2), .val (.int p3), .val (.int (f9 p2)), .val (.int v6)] [(.int v6)])) t → Steps p.tables e below (s₁.setTop (entryFrame m #[(.int p1), (.int p2), (.int p3)] 5)) t := fun t k => pre18 t (by
              show Steps p.tables e below (T3.setTop (mkF m 65 #[.val (.int p1), .val (.int p2), .val (.int p3), .val (.int (f9 p2)), .val (.int v6)] [(.int (46 : Int32)), (.int p2)])) _
              refine XS.icmpYes X3.here hx rfl (pc0 := 65) (pc' := 70) rfl (hb hby d8_65) rfl (feq hc19).2 (by decide) (by decide) ?_
              show Steps p.tables e below (T3.setTop (mkF m 70 #[.val (.int p1), .val (.int p2), .val (.int p3), .val (.int (f9 p2)), .val (.int v6)] [])) _
              refine XS.iload X3.here hx rfl (hb hby d8_70) rfl ?_
              exact k)
            by_cases hc21 : v6 = (0 : Int32)
            · have er : (f8 p1 p2 p3) = (7 : Int32) := by subst hv6; exact ((if_neg hc2).trans ((if_neg hc9).trans ((if_pos hc15).trans ((if_pos hc17).trans ((if_neg hc19).trans (if_pos hc21))))))
              obtain ⟨fs, hr, hrun, hended, hW, hsame⟩ := X3.leave (v := some (.int (7 : Int32))) (fun h => by rw [Bd.returns] at h; cases h)
              refine ⟨_, _, pre20 _ ?_, hrun, hended, _, _, rfl, ?_, ⟨_, rfl⟩, hW, hsame.mono (by decide) (by decide)⟩
              · show Steps p.tables e below (T3.setTop (mkF m 72 #[.val (.int p1), .val (.int p2), .val (.int p3), .val (.int (f9 p2)), .val (.int v6)] [(.int v6)])) _
                refine XS.ifYes X3.here hx rfl (pc0 := 72) (pc' := 77) rfl (hb hby d8_72) rfl ((if0 _ _).trans (teq hc21).1) (by decide) (by decide) ?_
                show Steps p.tables e below (T3.setTop (mkF m 77 #[.val (.int p1), .val (.int p2), .val (.int p3), .val (.int (f9 p2)), .val (.int v6)] [])) _
                refine XS.bipush X3.here hx rfl (hb hby d8_77) ?_
                show Steps p.tables e below (T3.setTop (mkF m 79 #[.val (.int p1), .val (.int p2), .val (.int p3), .val (.int (f9 p2)), .val (.int v6)] [(.int (7 : Int32))])) _
                exact retI X3 hx Bd.returns (hb hby d8_79) hr
              · show Q8 Z p1 p2 p3 h0 n0 _ T3.heap _
                rw [e3]
                exact ⟨congrArg (fun z => some (Value.int z)) er.symm, N3, rfl⟩
            · have er : (f8 p1 p2 p3) = (4 : Int32) := by subst hv6; exact ((if_neg hc2).trans ((if_neg hc9).trans ((if_pos hc15).trans ((if_pos hc17).trans ((if_neg hc19).trans (if_neg hc21))))))
              obtain ⟨fs, hr, hrun, hended, hW, hsame⟩ := X3.leave (v := some (.int (4 : Int32))) (fun h => by rw [Bd.returns] at h; cases h)
              refine ⟨_, _, pre20 _ ?_, hrun, hended, _, _, rfl, ?_, ⟨_, rfl⟩, hW, hsame.mono (by decide) (by decide)⟩
              · show Steps p.tables e below (T3.setTop (mkF m 72 #[.val (.int p1), .val (.int p2), .val (.int p3), .val (.int (f9 p2)), .val (.int v6)] [(.int v6)])) _
                refine XS.ifNo X3.here hx rfl (hb hby d8_72) rfl ((if0 _ _).trans (feq hc21).1) ?_
                show Steps p.tables e below (T3.setTop (mkF m 75 #[.val (.int p1), .val (.int p2), .val (.int p3), .val (.int (f9 p2)), .val (.int v6)] [])) _
                refine XS.iconst X3.here hx rfl (hb hby d8_75) ?_
                show Steps p.tables e below (T3.setTop (mkF m 76 #[.val (.int p1), .val (.int p2), .val (.int p3), .val (.int (f9 p2)), .val (.int v6)] [(.int (4 : Int32))])) _
                exact retI X3 hx Bd.returns (hb hby d8_76) hr
              · show Q8 Z p1 p2 p3 h0 n0 _ T3.heap _
                rw [e3]
                exact ⟨congrArg (fun z => some (Value.int z)) er.symm, N3, rfl⟩
        · have er : (f8 p1 p2 p3) = (1 : Int32) := by subst hv6; exact ((if_neg hc2).trans ((if_neg hc9).trans ((if_pos hc15).trans (if_neg hc17))))
          obtain ⟨fs, hr, hrun, hended, hW, hsame⟩ := X3.leave (v := some (.int (1 : Int32))) (fun h => by rw [Bd.returns] at h; cases h)
          refine ⟨_, _, pre16 _ ?_, hrun, hended, _, _, rfl, ?_, ⟨_, rfl⟩, hW, hsame.mono (by decide) (by decide)⟩
          · show Steps p.tables e below (T3.setTop (mkF m 57 #[.val (.int p1), .val (.int p2), .val (.int p3), .val (.int (f9 p2)), .val (.int v6)] [(.int (f9 p2))])) _
            refine XS.ifNo X3.here hx rfl (hb hby d8_57) rfl ((if0 _ _).trans (feq hc17).1) ?_
            show Steps p.tables e below (T3.setTop (mkF m 60 #[.val (.int p1), .val (.int p2), .val (.int p3), .val (.int (f9 p2)), .val (.int v6)] [])) _
            refine XS.iconst X3.here hx rfl (hb hby d8_60) ?_
            show Steps p.tables e below (T3.setTop (mkF m 61 #[.val (.int p1), .val (.int p2), .val (.int p3), .val (.int (f9 p2)), .val (.int v6)] [(.int (1 : Int32))])) _
            exact retI X3 hx Bd.returns (hb hby d8_61) hr
          · show Q8 Z p1 p2 p3 h0 n0 _ T3.heap _
            rw [e3]
            exact ⟨congrArg (fun z => some (Value.int z)) er.symm, N3, rfl⟩
      · have pre22 : ∀ t, Steps p.tables e below (T3.setTop (mkF m 82 #[.val (.int p1), .val (.int p2), .val (.int p3), .val (.int (f9 p2)), .val (.int v6)] [(.int (2 : Int32)), (.int p1)])) t → Steps p.tables e below (s₁.setTop (entryFrame m #[(.int p1), (.int p2), (.int p3)] 5)) t := fun t k => pre14 t (by
          show Steps p.tables e below (T3.setTop (mkF m 53 #[.val (.int p1), .val (.int p2), .val (.int p3), .val (.int (f9 p2)), .val (.int v6)] [(.int (1 : Int32)), (.int p1)])) _
          refine XS.icmpYes X3.here hx rfl (pc0 := 53) (pc' := 80) rfl (hb hby d8_53) rfl (feq hc15).2 (by decide) (by decide) ?_
          show Steps p.tables e below (T3.setTop (mkF m 80 #[.val (.int p1), .val (.int p2), .val (.int p3), .val (.int (f9 p2)), .val (.int v6)] [])) _
          refine XS.iloadN X3.here hx rfl (hb hby d8_80) rfl ?_
          show Steps p.tables e below (T3.setTop (mkF m 81 #[.val (.int p1), .val (.int p2), .val (.int p3), .val (.int (f9 p2)), .val (.int v6)] [(.int p1)])) _
          refine XS.iconst X3.here hx rfl (hb hby d8_81) ?_
          exact k)
        by_cases hc23 : p1 = (2 : Int32)
        · have pre24 : ∀ t, Steps p.tables e below (T3.setTop (mkF m 86 #[.val (.int p1), .val (.int p2), .val (.int p3), .val (.int (f9 p2)), .val (.int v6)] [(.int (f9 p2))])) t → Steps p.tables e below (s₁.setTop (entryFrame m #[(.int p1), (.int p2), (.int p3)] 5)) t := fun t k => pre22 t (by
            show Steps p.tables e below (T3.setTop (mkF m 82 #[.val (.int p1), .val (.int p2), .val (.int p3), .val (.int (f9 p2)), .val (.int v6)] [(.int (2 : Int32)), (.int p1)])) _
            refine XS.icmpNo X3.here hx rfl (hb hby d8_82) rfl (teq hc23).2 ?_
            show Steps p.tables e below (T3.setTop (mkF m 85 #[.val (.int p1), .val (.int p2), .val (.int p3), .val (.int (f9 p2)), .val (.int v6)] [])) _
            refine XS.iloadN X3.here hx rfl (hb hby d8_85) rfl ?_
            exact k)
          by_cases hc25 : (f9 p2) = (0 : Int32)
          · have er : (f8 p1 p2 p3) = (7 : Int32) := by subst hv6; exact ((if_neg hc2).trans ((if_neg hc9).trans ((if_neg hc15).trans ((if_pos hc23).trans (if_pos hc25)))))
            obtain ⟨fs, hr, hrun, hended, hW, hsame⟩ := X3.leave (v := some (.int (7 : Int32))) (fun h => by rw [Bd.returns] at h; cases h)
            refine ⟨_, _, pre24 _ ?_, hrun, hended, _, _, rfl, ?_, ⟨_, rfl⟩, hW, hsame.mono (by decide) (by decide)⟩
            · show Steps p.tables e below (T3.setTop (mkF m 86 #[.val (.int p1), .val (.int p2), .val (.int p3), .val (.int (f9 p2)), .val (.int v6)] [(.int (f9 p2))])) _
              refine XS.ifYes X3.here hx rfl (pc0 := 86) (pc' := 91) rfl (hb hby d8_86) rfl ((if0 _ _).trans (teq hc25).1) (by decide) (by decide) ?_
              show Steps p.tables e below (T3.setTop (mkF m 91 #[.val (.int p1), .val (.int p2), .val (.int p3), .val (.int (f9 p2)), .val (.int v6)] [])) _
              refine XS.bipush X3.here hx rfl (hb hby d8_91) ?_
              show Steps p.tables e below (T3.setTop (mkF m 93 #[.val (.int p1), .val (.int p2), .val (.int p3), .val (.int (f9 p2)), .val (.int v6)] [(.int (7 : Int32))])) _
              exact retI X3 hx Bd.returns (hb hby d8_93) hr
            · show Q8 Z p1 p2 p3 h0 n0 _ T3.heap _
              rw [e3]
              exact ⟨congrArg (fun z => some (Value.int z)) er.symm, N3, rfl⟩
          · have er : (f8 p1 p2 p3) = (3 : Int32) := by subst hv6; exact ((if_neg hc2).trans ((if_neg hc9).trans ((if_neg hc15).trans ((if_pos hc23).trans (if_neg hc25)))))
            obtain ⟨fs, hr, hrun, hended, hW, hsame⟩ := X3.leave (v := some (.int (3 : Int32))) (fun h => by rw [Bd.returns] at h; cases h)
            refine ⟨_, _, pre24 _ ?_, hrun, hended, _, _, rfl, ?_, ⟨_, rfl⟩, hW, hsame.mono (by decide) (by decide)⟩
            · show Steps p.tables e below (T3.setTop (mkF m 86 #[.val (.int p1), .val (.int p2), .val (.int p3), .val (.int (f9 p2)), .val (.int v6)] [(.int (f9 p2))])) _
              refine XS.ifNo X3.here hx rfl (hb hby d8_86) rfl ((if0 _ _).trans (feq hc25).1) ?_
              show Steps p.tables e below (T3.setTop (mkF m 89 #[.val (.int p1), .val (.int p2), .val (.int p3), .val (.int (f9 p2)), .val (.int v6)] [])) _
              refine XS.iconst X3.here hx rfl (hb hby d8_89) ?_
              show Steps p.tables e below (T3.setTop (mkF m 90 #[.val (.int p1), .val (.int p2), .val (.int p3), .val (.int (f9 p2)), .val (.int v6)] [(.int (3 : Int32))])) _
              exact retI X3 hx Bd.returns (hb hby d8_90) hr
            · show Q8 Z p1 p2 p3 h0 n0 _ T3.heap _
              rw [e3]
              exact ⟨congrArg (fun z => some (Value.int z)) er.symm, N3, rfl⟩
        · have pre26 : ∀ t, Steps p.tables e below (T3.setTop (mkF m 96 #[.val (.int p1), .val (.int p2), .val (.int p3), .val (.int (f9 p2)), .val (.int v6)] [(.int (3 : Int32)), (.int p1)])) t → Steps p.tables e below (s₁.setTop (entryFrame m #[(.int p1), (.int p2), (.int p3)] 5)) t := fun t k => pre22 t (by
            show Steps p.tables e below (T3.setTop (mkF m 82 #[.val (.int p1), .val (.int p2), .val (.int p3), .val (.int (f9 p2)), .val (.int v6)] [(.int (2 : Int32)), (.int p1)])) _
            refine XS.icmpYes X3.here hx rfl (pc0 := 82) (pc' := 94) rfl (hb hby d8_82) rfl (feq hc23).2 (by decide) (by decide) ?_
            show Steps p.tables e below (T3.setTop (mkF m 94 #[.val (.int p1), .val (.int p2), .val (.int p3), .val (.int (f9 p2)), .val (.int v6)] [])) _
            refine XS.iloadN X3.here hx rfl (hb hby d8_94) rfl ?_
            show Steps p.tables e below (T3.setTop (mkF m 95 #[.val (.int p1), .val (.int p2), .val (.int p3), .val (.int (f9 p2)), .val (.int v6)] [(.int p1)])) _
            refine XS.iconst X3.here hx rfl (hb hby d8_95) ?_
            exact k)
          by_cases hc27 : p1 = (3 : Int32)
          · have pre28 : ∀ t, Steps p.tables e below (T3.setTop (mkF m 100 #[.val (.int p1), .val (.int p2), .val (.int p3), .val (.int (f9 p2)), .val (.int v6)] [(.int (f9 p2))])) t → Steps p.tables e below (s₁.setTop (entryFrame m #[(.int p1), (.int p2), (.int p3)] 5)) t := fun t k => pre26 t (by
              show Steps p.tables e below (T3.setTop (mkF m 96 #[.val (.int p1), .val (.int p2), .val (.int p3), .val (.int (f9 p2)), .val (.int v6)] [(.int (3 : Int32)), (.int p1)])) _
              refine XS.icmpNo X3.here hx rfl (hb hby d8_96) rfl (teq hc27).2 ?_
              show Steps p.tables e below (T3.setTop (mkF m 99 #[.val (.int p1), .val (.int p2), .val (.int p3), .val (.int (f9 p2)), .val (.int v6)] [])) _
              refine XS.iloadN X3.here hx rfl (hb hby d8_99) rfl ?_
              exact k)
            by_cases hc29 : (f9 p2) = (0 : Int32)
            · have pre30 : ∀ t, Steps p.tables e below (T3.setTop (mkF m 107 #[.val (.int p1), .val (.int p2), .val (.int p3), .val (.int (f9 p2)), .val (.int v6)] [(.int v6)])) t → Steps p.tables e below (s₁.setTop (entryFrame m #[(.int p1), (.int p2), (.int p3)] 5)) t := fun t k => pre28 t (by
                show Steps p.tables e below (T3.setTop (mkF m 100 #[.val (.int p1), .val (.int p2), .val (.int p3), .val (.int (f9 p2)), .val (.int v6)] [(.int (f9 p2))])) _
                refine XS.ifYes X3.here hx rfl (pc0 := 100) (pc' := 105) rfl (hb hby d8_100) rfl ((if0 _ _).trans (teq hc29).1) (by decide) (by decide) ?_
                show Steps p.tables e below (T3.setTop (mkF m 105 #[.val (.int p1), .val (.int p2), .val (.int p3), .val (.int (f9 p2)), .val (.int v6)] [])) _
                refine XS.iload X3.here hx rfl (hb hby d8_105) rfl ?_
                exact k)
              by_cases hc31 : v6 = (0 : Int32)
              · have er : (f8 p1 p2 p3) = (7 : Int32) := by subst hv6; exact ((if_neg hc2).trans ((if_neg hc9).trans ((if_neg hc15).trans ((if_neg hc23).trans ((if_pos hc27).trans ((if_pos hc29).trans (if_pos hc31)))))))
                obtain ⟨fs, hr, hrun, hended, hW, hsame⟩ := X3.leave (v := some (.int (7 : Int32))) (fun h => by rw [Bd.returns] at h; cases h)
                refine ⟨_, _, pre30 _ ?_, hrun, hended, _, _, rfl, ?_, ⟨_, rfl⟩, hW, hsame.mono (by decide) (by decide)⟩
                · show Steps p.tables e below (T3.setTop (mkF m 107 #[.val (.int p1), .val (.int p2), .val (.int p3), .val (.int (f9 p2)), .val (.int v6)] [(.int v6)])) _
                  refine XS.ifYes X3.here hx rfl (pc0 := 107) (pc' := 112) rfl (hb hby d8_107) rfl ((if0 _ _).trans (teq hc31).1) (by decide) (by decide) ?_
                  show Steps p.tables e below (T3.setTop (mkF m 112 #[.val (.int p1), .val (.int p2), .val (.int p3), .val (.int (f9 p2)), .val (.int v6)] [])) _
                  refine XS.bipush X3.here hx rfl (hb hby d8_112) ?_
                  show Steps p.tables e below (T3.setTop (mkF m 114 #[.val (.int p1), .val (.int p2), .val (.int p3), .val (.int (f9 p2)), .val (.int v6)] [(.int (7 : Int32))])) _
                  exact retI X3 hx Bd.returns (hb hby d8_114) hr
                · show Q8 Z p1 p2 p3 h0 n0 _ T3.heap _
                  rw [e3]
                  exact ⟨congrArg (fun z => some (Value.int z)) er.symm, N3, rfl⟩
              · have er : (f8 p1 p2 p3) = (4 : Int32) := by subst hv6; exact ((if_neg hc2).trans ((if_neg hc9).trans ((if_neg hc15).trans ((if_neg hc23).trans ((if_pos hc27).trans ((if_pos hc29).trans (if_neg hc31)))))))
                obtain ⟨fs, hr, hrun, hended, hW, hsame⟩ := X3.leave (v := some (.int (4 : Int32))) (fun h => by rw [Bd.returns] at h; cases h)
                refine ⟨_, _, pre30 _ ?_, hrun, hended, _, _, rfl, ?_, ⟨_, rfl⟩, hW, hsame.mono (by decide) (by decide)⟩
                · show Steps p.tables e below (T3.setTop (mkF m 107 #[.val (.int p1), .val (.int p2), .val (.int p3), .val (.int (f9 p2)), .val (.int v6)] [(.int v6)])) _
                  refine XS.ifNo X3.here hx rfl (hb hby d8_107) rfl ((if0 _ _).trans (feq hc31).1) ?_
                  show Steps p.tables e below (T3.setTop (mkF m 110 #[.val (.int p1), .val (.int p2), .val (.int p3), .val (.int (f9 p2)), .val (.int v6)] [])) _
                  refine XS.iconst X3.here hx rfl (hb hby d8_110) ?_
                  show Steps p.tables e below (T3.setTop (mkF m 111 #[.val (.int p1), .val (.int p2), .val (.int p3), .val (.int (f9 p2)), .val (.int v6)] [(.int (4 : Int32))])) _
                  exact retI X3 hx Bd.returns (hb hby d8_111) hr
                · show Q8 Z p1 p2 p3 h0 n0 _ T3.heap _
                  rw [e3]
                  exact ⟨congrArg (fun z => some (Value.int z)) er.symm, N3, rfl⟩
            · have er : (f8 p1 p2 p3) = (3 : Int32) := by subst hv6; exact ((if_neg hc2).trans ((if_neg hc9).trans ((if_neg hc15).trans ((if_neg hc23).trans ((if_pos hc27).trans (if_neg hc29))))))
              obtain ⟨fs, hr, hrun, hended, hW, hsame⟩ := X3.leave (v := some (.int (3 : Int32))) (fun h => by rw [Bd.returns] at h; cases h)
              refine ⟨_, _, pre28 _ ?_, hrun, hended, _, _, rfl, ?_, ⟨_, rfl⟩, hW, hsame.mono (by decide) (by decide)⟩
              · show Steps p.tables e below (T3.setTop (mkF m 100 #[.val (.int p1), .val (.int p2), .val (.int p3), .val (.int (f9 p2)), .val (.int v6)] [(.int (f9 p2))])) _
                refine XS.ifNo X3.here hx rfl (hb hby d8_100) rfl ((if0 _ _).trans (feq hc29).1) ?_
                show Steps p.tables e below (T3.setTop (mkF m 103 #[.val (.int p1), .val (.int p2), .val (.int p3), .val (.int (f9 p2)), .val (.int v6)] [])) _
                refine XS.iconst X3.here hx rfl (hb hby d8_103) ?_
                show Steps p.tables e below (T3.setTop (mkF m 104 #[.val (.int p1), .val (.int p2), .val (.int p3), .val (.int (f9 p2)), .val (.int v6)] [(.int (3 : Int32))])) _
                exact retI X3 hx Bd.returns (hb hby d8_104) hr
              · show Q8 Z p1 p2 p3 h0 n0 _ T3.heap _
                rw [e3]
                exact ⟨congrArg (fun z => some (Value.int z)) er.symm, N3, rfl⟩
          · have pre32 : ∀ t, Steps p.tables e below (T3.setTop (mkF m 117 #[.val (.int p1), .val (.int p2), .val (.int p3), .val (.int (f9 p2)), .val (.int v6)] [(.int (4 : Int32)), (.int p1)])) t → Steps p.tables e below (s₁.setTop (entryFrame m #[(.int p1), (.int p2), (.int p3)] 5)) t := fun t k => pre26 t (by
              show Steps p.tables e below (T3.setTop (mkF m 96 #[.val (.int p1), .val (.int p2), .val (.int p3), .val (.int (f9 p2)), .val (.int v6)] [(.int (3 : Int32)), (.int p1)])) _
              refine XS.icmpYes X3.here hx rfl (pc0 := 96) (pc' := 115) rfl (hb hby d8_96) rfl (feq hc27).2 (by decide) (by decide) ?_
              show Steps p.tables e below (T3.setTop (mkF m 115 #[.val (.int p1), .val (.int p2), .val (.int p3), .val (.int (f9 p2)), .val (.int v6)] [])) _
              refine XS.iloadN X3.here hx rfl (hb hby d8_115) rfl ?_
              show Steps p.tables e below (T3.setTop (mkF m 116 #[.val (.int p1), .val (.int p2), .val (.int p3), .val (.int (f9 p2)), .val (.int v6)] [(.int p1)])) _
              refine XS.iconst X3.here hx rfl (hb hby d8_116) ?_
              exact k)
            by_cases hc33 : p1 = (4 : Int32)
            · have pre34 : ∀ t, Steps p.tables e below (T3.setTop (mkF m 121 #[.val (.int p1), .val (.int p2), .val (.int p3), .val (.int (f9 p2)), .val (.int v6)] [(.int (f9 p2))])) t → Steps p.tables e below (s₁.setTop (entryFrame m #[(.int p1), (.int p2), (.int p3)] 5)) t := fun t k => pre32 t (by
                show Steps p.tables e below (T3.setTop (mkF m 117 #[.val (.int p1), .val (.int p2), .val (.int p3), .val (.int (f9 p2)), .val (.int v6)] [(.int (4 : Int32)), (.int p1)])) _
                refine XS.icmpNo X3.here hx rfl (hb hby d8_117) rfl (teq hc33).2 ?_
                show Steps p.tables e below (T3.setTop (mkF m 120 #[.val (.int p1), .val (.int p2), .val (.int p3), .val (.int (f9 p2)), .val (.int v6)] [])) _
                refine XS.iloadN X3.here hx rfl (hb hby d8_120) rfl ?_
                exact k)
              by_cases hc35 : (f9 p2) = (0 : Int32)
              · have pre36 : ∀ t, Steps p.tables e below (T3.setTop (mkF m 130 #[.val (.int p1), .val (.int p2), .val (.int p3), .val (.int (f9 p2)), .val (.int v6)] [(.int (43 : Int32)), (.int p2)])) t → Steps p.tables e below (s₁.setTop (entryFrame m #[(.int p1), (.int p2), (.int p3)] 5)) t := fun t k => pre34 t (by
                  show Steps p.tables e below (T3.setTop (mkF m 121 #[.val (.int p1), .val (.int p2), .val (.int p3), .val (.int (f9 p2)), .val (.int v6)] [(.int (f9 p2))])) _
                  refine XS.ifYes X3.here hx rfl (pc0 := 121) (pc' := 127) rfl (hb hby d8_121) rfl ((if0 _ _).trans (teq hc35).1) (by decide) (by decide) ?_
                  show Steps p.tables e below (T3.setTop (mkF m 127 #[.val (.int p1), .val (.int p2), .val (.int p3), .val (.int (f9 p2)), .val (.int v6)] [])) _
                  refine XS.iloadN X3.here hx rfl (hb hby d8_127) rfl ?_
                  show Steps p.tables e below (T3.setTop (mkF m 128 #[.val (.int p1), .val (.int p2), .val (.int p3), .val (.int (f9 p2)), .val (.int v6)] [(.int p2)])) _
                  refine XS.bipush X3.here hx rfl (hb hby d8_128) ?_
                  exact k)
                by_cases hc37 : p2 = (43 : Int32)
                · have er : (f8 p1 p2 p3) = (5 : Int32) := by subst hv6; exact ((if_neg hc2).trans ((if_neg hc9).trans ((if_neg hc15).trans ((if_neg hc23).trans ((if_neg hc27).trans ((if_pos hc33).trans ((if_pos hc35).trans (if_pos hc37))))))))
                  obtain ⟨fs, hr, hrun, hended, hW, hsame⟩ := X3.leave (v := some (.int (5 : Int32))) (fun h => by rw [Bd.returns] at h; cases h)
                  refine ⟨_, _, pre36 _ ?_, hrun, hended, _, _, rfl, ?_, ⟨_, rfl⟩, hW, hsame.mono (by decide) (by decide)⟩
                  · show Steps p.tables e below (T3.setTop (mkF m 130 #[.val (.int p1), .val (.int p2), .val (.int p3), .val (.int (f9 p2)), .val (.int v6)] [(.int (43 : Int32)), (.int p2)])) _
                    refine XS.icmpYes X3.here hx rfl (pc0 := 130) (pc' := 139) rfl (hb hby d8_130) rfl (teq hc37).1 (by decide) (by decide) ?_
                    show Steps p.tables e below (T3.setTop (mkF m 139 #[.val (.int p1), .val (.int p2), .val (.int p3), .val (.int (f9 p2)), .val (.int v6)] [])) _
                    refine XS.iconst X3.here hx rfl (hb hby d8_139) ?_
                    show Steps p.tables e below (T3.setTop (mkF m 140 #[.val (.int p1), .val (.int p2), .val (.int p3), .val (.int (f9 p2)), .val (.int v6)] [(.int (5 : Int32))])) _
                    exact retI X3 hx Bd.returns (hb hby d8_140) hr
                  · show Q8 Z p1 p2 p3 h0 n0 _ T3.heap _
                    rw [e3]
                    exact ⟨congrArg (fun z => some (Value.int z)) er.symm, N3, rfl⟩
                · have pre38 : ∀ t, Steps p.tables e below (T3.setTop (mkF m 136 #[.val (.int p1), .val (.int p2), .val (.int p3), .val (.int (f9 p2)), .val (.int v6)] [(.int (45 : Int32)), (.int p2)])) t → Steps p.tables e below (s₁.setTop (entryFrame m #[(.int p1), (.int p2), (.int p3)] 5)) t := fun t k => pre36 t (by
                    show Steps p.tables e below (T3.setTop (mkF m 130 #[.val (.int p1), .val (.int p2), .val (.int p3), .val (.int (f9 p2)), .val (.int v6)] [(.int (43 : Int32)), (.int p2)])) _
                    refine XS.icmpNo X3.here hx rfl (hb hby d8_130) rfl (feq hc37).1 ?_
                    show Steps p.tables e below (T3.setTop (mkF m 133 #[.val (.int p1), .val (.int p2), .val (.int p3), .val (.int (f9 p2)), .val (.int v6)] [])) _
                    refine XS.iloadN X3.here hx rfl (hb hby d8_133) rfl ?_
                    show Steps p.tables e below (T3.setTop (mkF m 134 #[.val (.int p1), .val (.int p2), .val (.int p3), .val (.int (f9 p2)), .val (.int v6)] [(.int p2)])) _
                    refine XS.bipush X3.here hx rfl (hb hby d8_134) ?_
                    exact k)
                  by_cases hc39 : p2 = (45 : Int32)
                  · have er : (f8 p1 p2 p3) = (5 : Int32) := by subst hv6; exact ((if_neg hc2).trans ((if_neg hc9).trans ((if_neg hc15).trans ((if_neg hc23).trans ((if_neg hc27).trans ((if_pos hc33).trans ((if_pos hc35).trans ((if_neg hc37).trans (if_pos hc39)))))))))
                    obtain ⟨fs, hr, hrun, hended, hW, hsame⟩ := X3.leave (v := some (.int (5 : Int32))) (fun h => by rw [Bd.returns] at h; cases h)
                    refine ⟨_, _, pre38 _ ?_, hrun, hended, _, _, rfl, ?_, ⟨_, rfl⟩, hW, hsame.mono (by decide) (by decide)⟩
                    · show Steps p.tables e below (T3.setTop (mkF m 136 #[.val (.int p1), .val (.int p2), .val (.int p3), .val (.int (f9 p2)), .val (.int v6)] [(.int (45 : Int32)), (.int p2)])) _
                      refine XS.icmpNo X3.here hx rfl (hb hby d8_136) rfl (teq hc39).2 ?_
                      show Steps p.tables e below (T3.setTop (mkF m 139 #[.val (.int p1), .val (.int p2), .val (.int p3), .val (.int (f9 p2)), .val (.int v6)] [])) _
                      refine XS.iconst X3.here hx rfl (hb hby d8_139) ?_
                      show Steps p.tables e below (T3.setTop (mkF m 140 #[.val (.int p1), .val (.int p2), .val (.int p3), .val (.int (f9 p2)), .val (.int v6)] [(.int (5 : Int32))])) _
                      exact retI X3 hx Bd.returns (hb hby d8_140) hr
                    · show Q8 Z p1 p2 p3 h0 n0 _ T3.heap _
                      rw [e3]
                      exact ⟨congrArg (fun z => some (Value.int z)) er.symm, N3, rfl⟩
                  · have er : (f8 p1 p2 p3) = (7 : Int32) := by subst hv6; exact ((if_neg hc2).trans ((if_neg hc9).trans ((if_neg hc15).trans ((if_neg hc23).trans ((if_neg hc27).trans ((if_pos hc33).trans ((if_pos hc35).trans ((if_neg hc37).trans (if_neg hc39)))))))))
                    obtain ⟨fs, hr, hrun, hended, hW, hsame⟩ := X3.leave (v := some (.int (7 : Int32))) (fun h => by rw [Bd.returns] at h; cases h)
                    refine ⟨_, _, pre38 _ ?_, hrun, hended, _, _, rfl, ?_, ⟨_, rfl⟩, hW, hsame.mono (by decide) (by decide)⟩
                    · show Steps p.tables e below (T3.setTop (mkF m 136 #[.val (.int p1), .val (.int p2), .val (.int p3), .val (.int (f9 p2)), .val (.int v6)] [(.int (45 : Int32)), (.int p2)])) _
                      refine XS.icmpYes X3.here hx rfl (pc0 := 136) (pc' := 141) rfl (hb hby d8_136) rfl (feq hc39).2 (by decide) (by decide) ?_
                      show Steps p.tables e below (T3.setTop (mkF m 141 #[.val (.int p1), .val (.int p2), .val (.int p3), .val (.int (f9 p2)), .val (.int v6)] [])) _
                      refine XS.bipush X3.here hx rfl (hb hby d8_141) ?_
                      show Steps p.tables e below (T3.setTop (mkF m 143 #[.val (.int p1), .val (.int p2), .val (.int p3), .val (.int (f9 p2)), .val (.int v6)] [(.int (7 : Int32))])) _
                      exact retI X3 hx Bd.returns (hb hby d8_143) hr
                    · show Q8 Z p1 p2 p3 h0 n0 _ T3.heap _
                      rw [e3]
                      exact ⟨congrArg (fun z => some (Value.int z)) er.symm, N3, rfl⟩
              · have er : (f8 p1 p2 p3) = (6 : Int32) := by subst hv6; exact ((if_neg hc2).trans ((if_neg hc9).trans ((if_neg hc15).trans ((if_neg hc23).trans ((if_neg hc27).trans ((if_pos hc33).trans (if_neg hc35)))))))
                obtain ⟨fs, hr, hrun, hended, hW, hsame⟩ := X3.leave (v := some (.int (6 : Int32))) (fun h => by rw [Bd.returns] at h; cases h)
                refine ⟨_, _, pre34 _ ?_, hrun, hended, _, _, rfl, ?_, ⟨_, rfl⟩, hW, hsame.mono (by decide) (by decide)⟩
                · show Steps p.tables e below (T3.setTop (mkF m 121 #[.val (.int p1), .val (.int p2), .val (.int p3), .val (.int (f9 p2)), .val (.int v6)] [(.int (f9 p2))])) _
                  refine XS.ifNo X3.here hx rfl (hb hby d8_121) rfl ((if0 _ _).trans (feq hc35).1) ?_
                  show Steps p.tables e below (T3.setTop (mkF m 124 #[.val (.int p1), .val (.int p2), .val (.int p3), .val (.int (f9 p2)), .val (.int v6)] [])) _
                  refine XS.bipush X3.here hx rfl (hb hby d8_124) ?_
                  show Steps p.tables e below (T3.setTop (mkF m 126 #[.val (.int p1), .val (.int p2), .val (.int p3), .val (.int (f9 p2)), .val (.int v6)] [(.int (6 : Int32))])) _
                  exact retI X3 hx Bd.returns (hb hby d8_126) hr
                · show Q8 Z p1 p2 p3 h0 n0 _ T3.heap _
                  rw [e3]
                  exact ⟨congrArg (fun z => some (Value.int z)) er.symm, N3, rfl⟩
            · have pre40 : ∀ t, Steps p.tables e below (T3.setTop (mkF m 146 #[.val (.int p1), .val (.int p2), .val (.int p3), .val (.int (f9 p2)), .val (.int v6)] [(.int (5 : Int32)), (.int p1)])) t → Steps p.tables e below (s₁.setTop (entryFrame m #[(.int p1), (.int p2), (.int p3)] 5)) t := fun t k => pre32 t (by
                show Steps p.tables e below (T3.setTop (mkF m 117 #[.val (.int p1), .val (.int p2), .val (.int p3), .val (.int (f9 p2)), .val (.int v6)] [(.int (4 : Int32)), (.int p1)])) _
                refine XS.icmpYes X3.here hx rfl (pc0 := 117) (pc' := 144) rfl (hb hby d8_117) rfl (feq hc33).2 (by decide) (by decide) ?_
                show Steps p.tables e below (T3.setTop (mkF m 144 #[.val (.int p1), .val (.int p2), .val (.int p3), .val (.int (f9 p2)), .val (.int v6)] [])) _
                refine XS.iloadN X3.here hx rfl (hb hby d8_144) rfl ?_
                show Steps p.tables e below (T3.setTop (mkF m 145 #[.val (.int p1), .val (.int p2), .val (.int p3), .val (.int (f9 p2)), .val (.int v6)] [(.int p1)])) _
                refine XS.iconst X3.here hx rfl (hb hby d8_145) ?_
                exact k)
              by_cases hc41 : p1 = (5 : Int32)
              · have pre42 : ∀ t, Steps p.tables e below (T3.setTop (mkF m 150 #[.val (.int p1), .val (.int p2), .val (.int p3), .val (.int (f9 p2)), .val (.int v6)] [(.int (f9 p2))])) t → Steps p.tables e below (s₁.setTop (entryFrame m #[(.int p1), (.int p2), (.int p3)] 5)) t := fun t k => pre40 t (by
                  show Steps p.tables e below (T3.setTop (mkF m 146 #[.val (.int p1), .val (.int p2), .val (.int p3), .val (.int (f9 p2)), .val (.int v6)] [(.int (5 : Int32)), (.int p1)])) _
                  refine XS.icmpNo X3.here hx rfl (hb hby d8_146) rfl (teq hc41).2 ?_
                  show Steps p.tables e below (T3.setTop (mkF m 149 #[.val (.int p1), .val (.int p2), .val (.int p3), .val (.int (f9 p2)), .val (.int v6)] [])) _
                  refine XS.iloadN X3.here hx rfl (hb hby d8_149) rfl ?_
                  exact k)
                by_cases hc43 : (f9 p2) = (0 : Int32)
                · have er : (f8 p1 p2 p3) = (7 : Int32) := by subst hv6; exact ((if_neg hc2).trans ((if_neg hc9).trans ((if_neg hc15).trans ((if_neg hc23).trans ((if_neg hc27).trans ((if_neg hc33).trans ((if_pos hc41).trans (if_pos hc43))))))))
                  obtain ⟨fs, hr, hrun, hended, hW, hsame⟩ := X3.leave (v := some (.int (7 : Int32))) (fun h => by rw [Bd.returns] at h; cases h)
                  refine ⟨_, _, pre42 _ ?_, hrun, hended, _, _, rfl, ?_, ⟨_, rfl⟩, hW, hsame.mono (by decide) (by decide)⟩
                  · show Steps p.tables e below (T3.setTop (mkF m 150 #[.val (.int p1), .val (.int p2), .val (.int p3), .val (.int (f9 p2)), .val (.int v6)] [(.int (f9 p2))])) _
                    refine XS.ifYes X3.here hx rfl (pc0 := 150) (pc' := 156) rfl (hb hby d8_150) rfl ((if0 _ _).trans (teq hc43).1) (by decide) (by decide) ?_
                    show Steps p.tables e below (T3.setTop (mkF m 156 #[.val (.int p1), .val (.int p2), .val (.int p3), .val (.int (f9 p2)), .val (.int v6)] [])) _
                    refine XS.bipush X3.here hx rfl (hb hby d8_156) ?_
                    show Steps p.tables e below (T3.setTop (mkF m 158 #[.val (.int p1), .val (.int p2), .val (.int p3), .val (.int (f9 p2)), .val (.int v6)] [(.int (7 : Int32))])) _
                    exact retI X3 hx Bd.returns (hb hby d8_158) hr
                  · show Q8 Z p1 p2 p3 h0 n0 _ T3.heap _
                    rw [e3]
                    exact ⟨congrArg (fun z => some (Value.int z)) er.symm, N3, rfl⟩
                · have er : (f8 p1 p2 p3) = (6 : Int32) := by subst hv6; exact ((if_neg hc2).trans ((if_neg hc9).trans ((if_neg hc15).trans ((if_neg hc23).trans ((if_neg hc27).trans ((if_neg hc33).trans ((if_pos hc41).trans (if_neg hc43))))))))
                  obtain ⟨fs, hr, hrun, hended, hW, hsame⟩ := X3.leave (v := some (.int (6 : Int32))) (fun h => by rw [Bd.returns] at h; cases h)
                  refine ⟨_, _, pre42 _ ?_, hrun, hended, _, _, rfl, ?_, ⟨_, rfl⟩, hW, hsame.mono (by decide) (by decide)⟩
                  · show Steps p.tables e below (T3.setTop (mkF m 150 #[.val (.int p1), .val (.int p2), .val (.int p3), .val (.int (f9 p2)), .val (.int v6)] [(.int (f9 p2))])) _
                    refine XS.ifNo X3.here hx rfl (hb hby d8_150) rfl ((if0 _ _).trans (feq hc43).1) ?_
                    show Steps p.tables e below (T3.setTop (mkF m 153 #[.val (.int p1), .val (.int p2), .val (.int p3), .val (.int (f9 p2)), .val (.int v6)] [])) _
                    refine XS.bipush X3.here hx rfl (hb hby d8_153) ?_
                    show Steps p.tables e below (T3.setTop (mkF m 155 #[.val (.int p1), .val (.int p2), .val (.int p3), .val (.int (f9 p2)), .val (.int v6)] [(.int (6 : Int32))])) _
                    exact retI X3 hx Bd.returns (hb hby d8_155) hr
                  · show Q8 Z p1 p2 p3 h0 n0 _ T3.heap _
                    rw [e3]
                    exact ⟨congrArg (fun z => some (Value.int z)) er.symm, N3, rfl⟩
              · have pre44 : ∀ t, Steps p.tables e below (T3.setTop (mkF m 162 #[.val (.int p1), .val (.int p2), .val (.int p3), .val (.int (f9 p2)), .val (.int v6)] [(.int (6 : Int32)), (.int p1)])) t → Steps p.tables e below (s₁.setTop (entryFrame m #[(.int p1), (.int p2), (.int p3)] 5)) t := fun t k => pre40 t (by
                  show Steps p.tables e below (T3.setTop (mkF m 146 #[.val (.int p1), .val (.int p2), .val (.int p3), .val (.int (f9 p2)), .val (.int v6)] [(.int (5 : Int32)), (.int p1)])) _
                  refine XS.icmpYes X3.here hx rfl (pc0 := 146) (pc' := 159) rfl (hb hby d8_146) rfl (feq hc41).2 (by decide) (by decide) ?_
                  show Steps p.tables e below (T3.setTop (mkF m 159 #[.val (.int p1), .val (.int p2), .val (.int p3), .val (.int (f9 p2)), .val (.int v6)] [])) _
                  refine XS.iloadN X3.here hx rfl (hb hby d8_159) rfl ?_
                  show Steps p.tables e below (T3.setTop (mkF m 160 #[.val (.int p1), .val (.int p2), .val (.int p3), .val (.int (f9 p2)), .val (.int v6)] [(.int p1)])) _
                  refine XS.bipush X3.here hx rfl (hb hby d8_160) ?_
                  exact k)
                by_cases hc45 : p1 = (6 : Int32)
                · have pre46 : ∀ t, Steps p.tables e below (T3.setTop (mkF m 166 #[.val (.int p1), .val (.int p2), .val (.int p3), .val (.int (f9 p2)), .val (.int v6)] [(.int (f9 p2))])) t → Steps p.tables e below (s₁.setTop (entryFrame m #[(.int p1), (.int p2), (.int p3)] 5)) t := fun t k => pre44 t (by
                    show Steps p.tables e below (T3.setTop (mkF m 162 #[.val (.int p1), .val (.int p2), .val (.int p3), .val (.int (f9 p2)), .val (.int v6)] [(.int (6 : Int32)), (.int p1)])) _
                    refine XS.icmpNo X3.here hx rfl (hb hby d8_162) rfl (teq hc45).2 ?_
                    show Steps p.tables e below (T3.setTop (mkF m 165 #[.val (.int p1), .val (.int p2), .val (.int p3), .val (.int (f9 p2)), .val (.int v6)] [])) _
                    refine XS.iloadN X3.here hx rfl (hb hby d8_165) rfl ?_
                    exact k)
                  by_cases hc47 : (f9 p2) = (0 : Int32)
                  · have er : (f8 p1 p2 p3) = (7 : Int32) := by subst hv6; exact ((if_neg hc2).trans ((if_neg hc9).trans ((if_neg hc15).trans ((if_neg hc23).trans ((if_neg hc27).trans ((if_neg hc33).trans ((if_neg hc41).trans ((if_pos hc45).trans (if_pos hc47)))))))))
                    obtain ⟨fs, hr, hrun, hended, hW, hsame⟩ := X3.leave (v := some (.int (7 : Int32))) (fun h => by rw [Bd.returns] at h; cases h)
                    refine ⟨_, _, pre46 _ ?_, hrun, hended, _, _, rfl, ?_, ⟨_, rfl⟩, hW, hsame.mono (by decide) (by decide)⟩
                    · show Steps p.tables e below (T3.setTop (mkF m 166 #[.val (.int p1), .val (.int p2), .val (.int p3), .val (.int (f9 p2)), .val (.int v6)] [(.int (f9 p2))])) _
                      refine XS.ifYes X3.here hx rfl (pc0 := 166) (pc' := 172) rfl (hb hby d8_166) rfl ((if0 _ _).trans (teq hc47).1) (by decide) (by decide) ?_
                      show Steps p.tables e below (T3.setTop (mkF m 172 #[.val (.int p1), .val (.int p2), .val (.int p3), .val (.int (f9 p2)), .val (.int v6)] [])) _
                      refine XS.bipush X3.here hx rfl (hb hby d8_172) ?_
                      show Steps p.tables e below (T3.setTop (mkF m 174 #[.val (.int p1), .val (.int p2), .val (.int p3), .val (.int (f9 p2)), .val (.int v6)] [(.int (7 : Int32))])) _
                      exact retI X3 hx Bd.returns (hb hby d8_174) hr
                    · show Q8 Z p1 p2 p3 h0 n0 _ T3.heap _
                      rw [e3]
                      exact ⟨congrArg (fun z => some (Value.int z)) er.symm, N3, rfl⟩
                  · have er : (f8 p1 p2 p3) = (6 : Int32) := by subst hv6; exact ((if_neg hc2).trans ((if_neg hc9).trans ((if_neg hc15).trans ((if_neg hc23).trans ((if_neg hc27).trans ((if_neg hc33).trans ((if_neg hc41).trans ((if_pos hc45).trans (if_neg hc47)))))))))
                    obtain ⟨fs, hr, hrun, hended, hW, hsame⟩ := X3.leave (v := some (.int (6 : Int32))) (fun h => by rw [Bd.returns] at h; cases h)
                    refine ⟨_, _, pre46 _ ?_, hrun, hended, _, _, rfl, ?_, ⟨_, rfl⟩, hW, hsame.mono (by decide) (by decide)⟩
                    · show Steps p.tables e below (T3.setTop (mkF m 166 #[.val (.int p1), .val (.int p2), .val (.int p3), .val (.int (f9 p2)), .val (.int v6)] [(.int (f9 p2))])) _
                      refine XS.ifNo X3.here hx rfl (hb hby d8_166) rfl ((if0 _ _).trans (feq hc47).1) ?_
                      show Steps p.tables e below (T3.setTop (mkF m 169 #[.val (.int p1), .val (.int p2), .val (.int p3), .val (.int (f9 p2)), .val (.int v6)] [])) _
                      refine XS.bipush X3.here hx rfl (hb hby d8_169) ?_
                      show Steps p.tables e below (T3.setTop (mkF m 171 #[.val (.int p1), .val (.int p2), .val (.int p3), .val (.int (f9 p2)), .val (.int v6)] [(.int (6 : Int32))])) _
                      exact retI X3 hx Bd.returns (hb hby d8_171) hr
                    · show Q8 Z p1 p2 p3 h0 n0 _ T3.heap _
                      rw [e3]
                      exact ⟨congrArg (fun z => some (Value.int z)) er.symm, N3, rfl⟩
                · have er : (f8 p1 p2 p3) = (7 : Int32) := by subst hv6; exact ((if_neg hc2).trans ((if_neg hc9).trans ((if_neg hc15).trans ((if_neg hc23).trans ((if_neg hc27).trans ((if_neg hc33).trans ((if_neg hc41).trans (if_neg hc45))))))))
                  obtain ⟨fs, hr, hrun, hended, hW, hsame⟩ := X3.leave (v := some (.int (7 : Int32))) (fun h => by rw [Bd.returns] at h; cases h)
                  refine ⟨_, _, pre44 _ ?_, hrun, hended, _, _, rfl, ?_, ⟨_, rfl⟩, hW, hsame.mono (by decide) (by decide)⟩
                  · show Steps p.tables e below (T3.setTop (mkF m 162 #[.val (.int p1), .val (.int p2), .val (.int p3), .val (.int (f9 p2)), .val (.int v6)] [(.int (6 : Int32)), (.int p1)])) _
                    refine XS.icmpYes X3.here hx rfl (pc0 := 162) (pc' := 175) rfl (hb hby d8_162) rfl (feq hc45).2 (by decide) (by decide) ?_
                    show Steps p.tables e below (T3.setTop (mkF m 175 #[.val (.int p1), .val (.int p2), .val (.int p3), .val (.int (f9 p2)), .val (.int v6)] [])) _
                    refine XS.bipush X3.here hx rfl (hb hby d8_175) ?_
                    show Steps p.tables e below (T3.setTop (mkF m 177 #[.val (.int p1), .val (.int p2), .val (.int p3), .val (.int (f9 p2)), .val (.int v6)] [(.int (7 : Int32))])) _
                    exact retI X3 hx Bd.returns (hb hby d8_177) hr
                  · show Q8 Z p1 p2 p3 h0 n0 _ T3.heap _
                    rw [e3]
                    exact ⟨congrArg (fun z => some (Value.int z)) er.symm, N3, rfl⟩
theorem pd_10 : parseMethodDescriptor "(Ljava/lang/String;I)I" = some ⟨[(.object "java/lang/String"), .int], some .int⟩ := by decide +kernel
theorem d10_0 : decode prog_2_method_5_code 0 = .ok (.aload_n 0, 1) := by decide +kernel
theorem d10_1 : decode prog_2_method_5_code 1 = .ok (.iload_n 1, 1) := by decide +kernel
theorem d10_2 : decode prog_2_method_5_code 2 = .ok (.invokestatic 54, 3) := by decide +kernel
theorem d10_5 : decode prog_2_method_5_code 5 = .ok (.istore_n 2, 1) := by decide +kernel
theorem d10_6 : decode prog_2_method_5_code 6 = .ok (.iload_n 2, 1) := by decide +kernel
theorem d10_7 : decode prog_2_method_5_code 7 = .ok (.istore_n 3, 1) := by decide +kernel
theorem d10_8 : decode prog_2_method_5_code 8 = .ok (.iload_n 3, 1) := by decide +kernel
theorem d10_9 : decode prog_2_method_5_code 9 = .ok (.aload_n 0, 1) := by decide +kernel
theorem d10_10 : decode prog_2_method_5_code 10 = .ok (.invokevirtual 58, 3) := by decide +kernel
theorem d10_13 : decode prog_2_method_5_code 13 = .ok (.if_icmp .ge 21, 3) := by decide +kernel
theorem d10_16 : decode prog_2_method_5_code 16 = .ok (.aload_n 0, 1) := by decide +kernel
theorem d10_17 : decode prog_2_method_5_code 17 = .ok (.iload_n 3, 1) := by decide +kernel
theorem d10_18 : decode prog_2_method_5_code 18 = .ok (.invokevirtual 62, 3) := by decide +kernel
theorem d10_21 : decode prog_2_method_5_code 21 = .ok (.bipush 46, 2) := by decide +kernel
theorem d10_23 : decode prog_2_method_5_code 23 = .ok (.if_icmp .ne 11, 3) := by decide +kernel
theorem d10_26 : decode prog_2_method_5_code 26 = .ok (.aload_n 0, 1) := by decide +kernel
theorem d10_27 : decode prog_2_method_5_code 27 = .ok (.iload_n 3, 1) := by decide +kernel
theorem d10_28 : decode prog_2_method_5_code 28 = .ok (.iconst 1, 1) := by decide +kernel
theorem d10_29 : decode prog_2_method_5_code 29 = .ok (.iadd, 1) := by decide +kernel
theorem d10_30 : decode prog_2_method_5_code 30 = .ok (.invokestatic 54, 3) := by decide +kernel
theorem d10_33 : decode prog_2_method_5_code 33 = .ok (.istore_n 3, 1) := by decide +kernel
theorem d10_34 : decode prog_2_method_5_code 34 = .ok (.iload_n 3, 1) := by decide +kernel
theorem d10_35 : decode prog_2_method_5_code 35 = .ok (.iload_n 1, 1) := by decide +kernel
theorem d10_36 : decode prog_2_method_5_code 36 = .ok (.isub, 1) := by decide +kernel
theorem d10_37 : decode prog_2_method_5_code 37 = .ok (.iload_n 3, 1) := by decide +kernel
theorem d10_38 : decode prog_2_method_5_code 38 = .ok (.iload_n 2, 1) := by decide +kernel
theorem d10_39 : decode prog_2_method_5_code 39 = .ok (.if_icmp .le 7, 3) := by decide +kernel
theorem d10_42 : decode prog_2_method_5_code 42 = .ok (.iconst 1, 1) := by decide +kernel
theorem d10_43 : decode prog_2_method_5_code 43 = .ok (.goto 4, 3) := by decide +kernel
theorem d10_46 : decode prog_2_method_5_code 46 = .ok (.iconst 0, 1) := by decide +kernel
theorem d10_47 : decode prog_2_method_5_code 47 = .ok (.if_icmp .le 7, 3) := by decide +kernel
theorem d10_50 : decode prog_2_method_5_code 50 = .ok (.iconst 1, 1) := by decide +kernel
theorem d10_51 : decode prog_2_method_5_code 51 = .ok (.goto 4, 3) := by decide +kernel
theorem d10_54 : decode prog_2_method_5_code 54 = .ok (.iconst 0, 1) := by decide +kernel
theorem d10_55 : decode prog_2_method_5_code 55 = .ok (.istore 4, 2) := by decide +kernel
theorem d10_57 : decode prog_2_method_5_code 57 = .ok (.iload 4, 2) := by decide +kernel
theorem d10_59 : decode prog_2_method_5_code 59 = .ok (.ifCond .eq 90, 3) := by decide +kernel
theorem d10_62 : decode prog_2_method_5_code 62 = .ok (.iload_n 3, 1) := by decide +kernel
theorem d10_63 : decode prog_2_method_5_code 63 = .ok (.aload_n 0, 1) := by decide +kernel
theorem d10_64 : decode prog_2_method_5_code 64 = .ok (.invokevirtual 58, 3) := by decide +kernel
theorem d10_67 : decode prog_2_method_5_code 67 = .ok (.if_icmp .ge 82, 3) := by decide +kernel
theorem d10_70 : decode prog_2_method_5_code 70 = .ok (.aload_n 0, 1) := by decide +kernel
theorem d10_71 : decode prog_2_method_5_code 71 = .ok (.iload_n 3, 1) := by decide +kernel
theorem d10_72 : decode prog_2_method_5_code 72 = .ok (.invokevirtual 62, 3) := by decide +kernel
theorem d10_75 : decode prog_2_method_5_code 75 = .ok (.bipush 101, 2) := by decide +kernel
theorem d10_77 : decode prog_2_method_5_code 77 = .ok (.if_icmp .eq 13, 3) := by decide +kernel
theorem d10_80 : decode prog_2_method_5_code 80 = .ok (.aload_n 0, 1) := by decide +kernel
theorem d10_81 : decode prog_2_method_5_code 81 = .ok (.iload_n 3, 1) := by decide +kernel
theorem d10_82 : decode prog_2_method_5_code 82 = .ok (.invokevirtual 62, 3) := by decide +kernel
theorem d10_85 : decode prog_2_method_5_code 85 = .ok (.bipush 69, 2) := by decide +kernel
theorem d10_87 : decode prog_2_method_5_code 87 = .ok (.if_icmp .ne 62, 3) := by decide +kernel
theorem d10_90 : decode prog_2_method_5_code 90 = .ok (.iload_n 3, 1) := by decide +kernel
theorem d10_91 : decode prog_2_method_5_code 91 = .ok (.iconst 1, 1) := by decide +kernel
theorem d10_92 : decode prog_2_method_5_code 92 = .ok (.iadd, 1) := by decide +kernel
theorem d10_93 : decode prog_2_method_5_code 93 = .ok (.istore 5, 2) := by decide +kernel
theorem d10_95 : decode prog_2_method_5_code 95 = .ok (.iload 5, 2) := by decide +kernel
theorem d10_97 : decode prog_2_method_5_code 97 = .ok (.aload_n 0, 1) := by decide +kernel
theorem d10_98 : decode prog_2_method_5_code 98 = .ok (.invokevirtual 58, 3) := by decide +kernel
theorem d10_101 : decode prog_2_method_5_code 101 = .ok (.if_icmp .ge 28, 3) := by decide +kernel
theorem d10_104 : decode prog_2_method_5_code 104 = .ok (.aload_n 0, 1) := by decide +kernel
theorem d10_105 : decode prog_2_method_5_code 105 = .ok (.iload 5, 2) := by decide +kernel
theorem d10_107 : decode prog_2_method_5_code 107 = .ok (.invokevirtual 62, 3) := by decide +kernel
theorem d10_110 : decode prog_2_method_5_code 110 = .ok (.bipush 43, 2) := by decide +kernel
theorem d10_112 : decode prog_2_method_5_code 112 = .ok (.if_icmp .eq 14, 3) := by decide +kernel
theorem d10_115 : decode prog_2_method_5_code 115 = .ok (.aload_n 0, 1) := by decide +kernel
theorem d10_116 : decode prog_2_method_5_code 116 = .ok (.iload 5, 2) := by decide +kernel
theorem d10_118 : decode prog_2_method_5_code 118 = .ok (.invokevirtual 62, 3) := by decide +kernel
theorem d10_121 : decode prog_2_method_5_code 121 = .ok (.bipush 45, 2) := by decide +kernel
theorem d10_123 : decode prog_2_method_5_code 123 = .ok (.if_icmp .ne 6, 3) := by decide +kernel
theorem d10_126 : decode prog_2_method_5_code 126 = .ok (.iinc 5 1, 3) := by decide +kernel
theorem d10_129 : decode prog_2_method_5_code 129 = .ok (.aload_n 0, 1) := by decide +kernel
theorem d10_130 : decode prog_2_method_5_code 130 = .ok (.iload 5, 2) := by decide +kernel
theorem d10_132 : decode prog_2_method_5_code 132 = .ok (.invokestatic 54, 3) := by decide +kernel
theorem d10_135 : decode prog_2_method_5_code 135 = .ok (.istore_n 3, 1) := by decide +kernel
theorem d10_136 : decode prog_2_method_5_code 136 = .ok (.iload_n 3, 1) := by decide +kernel
theorem d10_137 : decode prog_2_method_5_code 137 = .ok (.iload 5, 2) := by decide +kernel
theorem d10_139 : decode prog_2_method_5_code 139 = .ok (.if_icmp .le 7, 3) := by decide +kernel
theorem d10_142 : decode prog_2_method_5_code 142 = .ok (.iconst 1, 1) := by decide +kernel
theorem d10_143 : decode prog_2_method_5_code 143 = .ok (.goto 4, 3) := by decide +kernel
theorem d10_146 : decode prog_2_method_5_code 146 = .ok (.iconst 0, 1) := by decide +kernel
theorem d10_147 : decode prog_2_method_5_code 147 = .ok (.istore 4, 2) := by decide +kernel
theorem d10_149 : decode prog_2_method_5_code 149 = .ok (.iload 4, 2) := by decide +kernel
theorem d10_151 : decode prog_2_method_5_code 151 = .ok (.ifCond .eq 15, 3) := by decide +kernel
theorem d10_154 : decode prog_2_method_5_code 154 = .ok (.iload_n 3, 1) := by decide +kernel
theorem d10_155 : decode prog_2_method_5_code 155 = .ok (.aload_n 0, 1) := by decide +kernel
theorem d10_156 : decode prog_2_method_5_code 156 = .ok (.invokevirtual 58, 3) := by decide +kernel
theorem d10_159 : decode prog_2_method_5_code 159 = .ok (.if_icmp .ne 7, 3) := by decide +kernel
theorem d10_162 : decode prog_2_method_5_code 162 = .ok (.iconst 1, 1) := by decide +kernel
theorem d10_163 : decode prog_2_method_5_code 163 = .ok (.goto 4, 3) := by decide +kernel
theorem d10_166 : decode prog_2_method_5_code 166 = .ok (.iconst 0, 1) := by decide +kernel
theorem d10_167 : decode prog_2_method_5_code 167 = .ok (.ireturn, 1) := by decide +kernel
theorem pn_10 : plainName "com/example/prewrm/prewrm/io/CsvFields" = true := by first | (simp [plainName, overriddenIn]; done) | decide +kernel
theorem ef_10 (m : MethodId) (a1 : Addr) (p2 : Int32) : entryFrame m #[(.ref a1), (.int p2)] 6 = mkF m 0 #[.val (.ref a1), .val (.int p2), .unset, .unset, .unset, .unset] [] := by first | (simp [entryFrame, mkF, argsToLocals, Value.category]; done) | rfl
def f10 (p2 : Int32) (cc : Int32 → Int32) : Int32 :=
  let IE : Int32 := (own_E cc p2);
  let v14 : Int32 := (if IE < (6 : Int32) then (if (cc IE) = (46 : Int32) then (own_E cc (IE + (1 : Int32))) else IE) else IE);
  let v17 : Int32 := (if IE < v14 then (1 : Int32) else (0 : Int32));
  let v20 : Int32 := (if v17 < (v14 - p2) then (1 : Int32) else (0 : Int32));
  let v90 : Int32 := (if v20 = (0 : Int32) then v14 else (if v14 < (6 : Int32) then (if (cc v14) = (101 : Int32) then (own_E cc (if (v14 + (1 : Int32)) < (6 : Int32) then (if (cc (v14 + (1 : Int32))) = (43 : Int32) then ((v14 + (1 : Int32)) + (1 : Int32)) else (if (cc (v14 + (1 : Int32))) = (45 : Int32) then ((v14 + (1 : Int32)) + (1 : Int32)) else (v14 + (1 : Int32)))) else (v14 + (1 : Int32)))) else (if (cc v14) = (69 : Int32) then (own_E cc (if (v14 + (1 : Int32)) < (6 : Int32) then (if (cc (v14 + (1 : Int32))) = (43 : Int32) then ((v14 + (1 : Int32)) + (1 : Int32)) else (if (cc (v14 + (1 : Int32))) = (45 : Int32) then ((v14 + (1 : Int32)) + (1 : Int32)) else (v14 + (1 : Int32)))) else (v14 + (1 : Int32)))) else v14)) else v14));
  let v91 : Int32 := (if v20 = (0 : Int32) then v20 else (if v14 < (6 : Int32) then (if (cc v14) = (101 : Int32) then (if (if (v14 + (1 : Int32)) < (6 : Int32) then (if (cc (v14 + (1 : Int32))) = (43 : Int32) then ((v14 + (1 : Int32)) + (1 : Int32)) else (if (cc (v14 + (1 : Int32))) = (45 : Int32) then ((v14 + (1 : Int32)) + (1 : Int32)) else (v14 + (1 : Int32)))) else (v14 + (1 : Int32))) < (own_E cc (if (v14 + (1 : Int32)) < (6 : Int32) then (if (cc (v14 + (1 : Int32))) = (43 : Int32) then ((v14 + (1 : Int32)) + (1 : Int32)) else (if (cc (v14 + (1 : Int32))) = (45 : Int32) then ((v14 + (1 : Int32)) + (1 : Int32)) else (v14 + (1 : Int32)))) else (v14 + (1 : Int32)))) then (1 : Int32) else (0 : Int32)) else (if (cc v14) = (69 : Int32) then (if (if (v14 + (1 : Int32)) < (6 : Int32) then (if (cc (v14 + (1 : Int32))) = (43 : Int32) then ((v14 + (1 : Int32)) + (1 : Int32)) else (if (cc (v14 + (1 : Int32))) = (45 : Int32) then ((v14 + (1 : Int32)) + (1 : Int32)) else (v14 + (1 : Int32)))) else (v14 + (1 : Int32))) < (own_E cc (if (v14 + (1 : Int32)) < (6 : Int32) then (if (cc (v14 + (1 : Int32))) = (43 : Int32) then ((v14 + (1 : Int32)) + (1 : Int32)) else (if (cc (v14 + (1 : Int32))) = (45 : Int32) then ((v14 + (1 : Int32)) + (1 : Int32)) else (v14 + (1 : Int32)))) else (v14 + (1 : Int32)))) then (1 : Int32) else (0 : Int32)) else v20)) else v20));
  let sl92 : Slot := (if v20 = (0 : Int32) then (.unset : Slot) else ((if v14 < (6 : Int32) then ((if (cc v14) = (101 : Int32) then (.val (.int (if (v14 + (1 : Int32)) < (6 : Int32) then (if (cc (v14 + (1 : Int32))) = (43 : Int32) then ((v14 + (1 : Int32)) + (1 : Int32)) else (if (cc (v14 + (1 : Int32))) = (45 : Int32) then ((v14 + (1 : Int32)) + (1 : Int32)) else (v14 + (1 : Int32)))) else (v14 + (1 : Int32)))) : Slot) else ((if (cc v14) = (69 : Int32) then (.val (.int (if (v14 + (1 : Int32)) < (6 : Int32) then (if (cc (v14 + (1 : Int32))) = (43 : Int32) then ((v14 + (1 : Int32)) + (1 : Int32)) else (if (cc (v14 + (1 : Int32))) = (45 : Int32) then ((v14 + (1 : Int32)) + (1 : Int32)) else (v14 + (1 : Int32)))) else (v14 + (1 : Int32)))) : Slot) else (.unset : Slot)) : Slot)) : Slot) else (.unset : Slot)) : Slot));
  let v101 : Int32 := (if v91 = (0 : Int32) then (0 : Int32) else (if v90 = (6 : Int32) then (1 : Int32) else (0 : Int32)));
  (nar .boolean v101)
def Q10 (Z : State) (a1 : Addr) (p2 : Int32) (cs : Int32) (cc : Int32 → Int32) (h0 : Heap) (n0 : Nat) (v : Option Value) (h : Heap) (L : List Loc) : Prop := v = some (.int (f10 p2 cc)) ∧ Fr n0 L ∧ h = h0
set_option maxRecDepth 65536 in
set_option maxHeartbeats 40000000 in
theorem rm10 (l : Launch) (Z : State) (a0 : Array Value) (hw : ∀ d ∈ tables_1, d.before a0 Z = true) (ws : List Jvm.Cond) (a1 : Addr) (p2 : Int32) (cs : Int32) (cc : Int32 → Int32) (h0 : Heap) (n0 : Nat) (Z0 : n0 ≤ h0.size) (hWd : own_W Z cs) (hStr : own_Str Z h0 a1 cc) (h11 : 0 ≤ p2.toInt ∧ p2.toInt ≤ 6) (O0 : Old Z n0 h0) :
    MetFree l (⟨"com/example/prewrm/prewrm/io/CsvFields", "isUnsignedDecimal", "(Ljava/lang/String;I)Z"⟩ : MethodName) (head1 (Jvm.Cond.code (⟨"com/example/prewrm/prewrm/io/CsvFields", "isUnsignedDecimal", "(Ljava/lang/String;I)Z"⟩ : MethodName) prog_2_method_5_code 6 (some .boolean) :: ws) ({ frames := 6, cells := 0, slots := 0, locals := 80 } : Room)) (fun a U => a = #[(.ref a1), (.int p2)] ∧ Z.Warmed39 U.vm ∧ U.heap = h0) (fun _ _ _ _ _ => True) (fun _ U o U' => ∃ v L, o = .returned v ∧ Q10 Z a1 p2 cs cc h0 n0 v U'.heap L ∧ FrameEnd U o U' L ({ frames := 6, cells := 0, slots := 0, locals := 80 } : Room).cells ({ frames := 6, cells := 0, slots := 0, locals := 80 } : Room).slots) := by
  refine MetFree.of_bodySF (plainFor_of_name pn_10) hisR ?_
  intro p e s m args below meth c s₁ Bd hml0 hP hK
  obtain ⟨rfl, hZ, hh⟩ := hP
  have hx := Bd.exec
  have hby := Bd.bytes
  have hml : c.maxLocals = 6 := hml0
  have hown : s.vm.findClass "com/example/prewrm/prewrm/io/CsvFields" = some m.cls := findClass_of_methodNamed Bd.named
  have hnm := (name_of_methodNamed Bd.named Bd.method).1
  have X0 : Stand p l e ({ frames := 6, cells := 0, slots := 0, locals := 80 } : Room) s m #[(.ref a1), (.int p2)] below meth c s₁ [] 0 0 := Stand.of_body Bd
  have e0 : s₁.heap = h0 := by rw [← hh, Bd.state]; rfl
  have N0 := Fr.nil n0
  have pre0 : ∀ t, Steps p.tables e below (s₁.setTop (mkF m 0 #[.val (.ref a1), .val (.int p2), .unset, .unset, .unset, .unset] [])) t → Steps p.tables e below (s₁.setTop (entryFrame m #[(.ref a1), (.int p2)] 6)) t := fun t k => castTop (ef_10 m a1 p2) k
  obtain ⟨_, _, ⟨T1, L1, k1, n1⟩, -, X1, ⟨Lc1, hQ1, l1, y1, z1⟩, st1⟩ := Jvm.LawKit.callS X0 hx (y := (⟨"com/example/prewrm/prewrm/io/CsvFields", "digitsEnd", "(Ljava/lang/String;I)I"⟩ : MethodName)) hown (mvT hZ (hw _ (List.mem_of_getElem? (i := 46) rfl))) (mvT hZ (hw _ (List.mem_of_getElem? (i := 47) rfl))) (mvT hZ (hw _ (List.mem_of_getElem? (i := 44) rfl))) (mvT hZ (hw _ (List.mem_of_getElem? (i := 48) rfl))) (by decide) (backOf (W := 0) (rm11 l Z a0 hw [] a1 p2 cs cc h0 n0 Z0 hWd hStr h11 O0) hZ (hw _ (List.mem_of_getElem? (i := 48) rfl)) (hw _ (List.mem_of_getElem? (i := 44) rfl)) (by decide) (by decide)) (g := (mkF m 2 #[.val (.ref a1), .val (.int p2), .unset, .unset, .unset, .unset] [(.int p2), (.ref a1)])) rfl (by rw [hml]; rfl) (argsL := [(.ref a1), (.int p2)]) (rest := []) (lenOf pd_10 rfl) rfl (by show 2 * 0 + _ ≤ _; exact Nat.le_of_eq rfl) (hb hby d10_2) (fun _ _ => ⟨rfl, e0, (by decide : 0 + 0 ≤ _), (by decide : 0 + 0 ≤ _)⟩)
  dsimp only [Pt.U, Pt.locs, Pt.cells, Pt.slots] at X1 l1 y1 z1 st1 hQ1
  subst l1 y1 z1
  obtain ⟨rfl, N1q, e1⟩ := hQ1
  have N1 := Fr.app N0 N1q
  obtain ⟨IE, hIE⟩ : ∃ z : Int32, z = (own_E cc p2) := ⟨_, rfl⟩
  have rIE : p2.toInt ≤ IE.toInt ∧ IE.toInt ≤ 6 := by rw [hIE]; exact own_E_rng cc h11
  obtain ⟨cq2, kq2, q2a, q2b, q2c⟩ := isOf hZ e1 hStr.1
  obtain ⟨_, _, ⟨T2, L2, k2, n2⟩, -, X2, ⟨Lc2, hQ2, l2, y2, z2⟩, st2⟩ := X1.virtualBack hx (y := (⟨"java/lang/String", "length", "()I"⟩ : MethodName)) (z := (⟨"java/lang/String", "length", "()I"⟩ : MethodName)) hown (mvT hZ (hw _ (List.mem_of_getElem? (i := 49) rfl))) (mvT hZ (hw _ (List.mem_of_getElem? (i := 50) rfl))) (notFace_of_selects (args := #[]) (mvT hZ (hw _ (List.mem_of_getElem? (i := 52) rfl)))) (mvT hZ (hw _ (List.mem_of_getElem? (i := 52) rfl))) (mvT hZ (hw _ (List.mem_of_getElem? (i := 51) rfl))) (by decide) (backOf (W := 1) (rm12 l Z a0 hw [] a1 cs cc h0 n0 Z0 hWd hStr O0) hZ (hw _ (List.mem_of_getElem? (i := 53) rfl)) (hw _ (List.mem_of_getElem? (i := 9) rfl)) (by decide) (by decide)) q2a q2c (g := (mkF m 10 #[.val (.ref a1), .val (.int p2), .val (.int IE), .val (.int IE), .unset, .unset] [(.ref a1), (.int IE)])) rfl (by rw [hml]; rfl) (Steps.refl _) (argsL := []) (rest := [(.int IE)]) (lenOf pd_7 rfl) rfl (by show 2 * 0 + _ ≤ _; exact Nat.le_of_eq rfl) (hb hby d10_10) (fun _ _ => ⟨rfl, e1, (by decide : 0 + 0 ≤ _), (by decide : 0 + 0 ≤ _)⟩)
  dsimp only [Pt.U, Pt.locs, Pt.cells, Pt.slots] at X2 l2 y2 z2 st2 hQ2
  subst l2 y2 z2
  obtain ⟨rfl, N2q, e2⟩ := hQ2
  have N2 := Fr.app N1 N2q
  obtain ⟨v14, hv14⟩ : ∃ z : Int32, z = (if IE < (6 : Int32) then (if (cc IE) = (46 : Int32) then (own_E cc (IE + (1 : Int32))) else IE) else IE) := ⟨_, rfl⟩
  have pre3 : ∀ t, Steps p.tables e below (T2.setTop (mkF m 13 #[.val (.ref a1), .val (.int p2), .val (.int IE), .val (.int IE), .unset, .unset] [(.int (6 : Int32)), (.int IE)])) t → Steps p.tables e below (s₁.setTop (entryFrame m #[(.ref a1), (.int p2)] 6)) t := fun t k => pre0 t (by
    show Steps p.tables e below (s₁.setTop (mkF m 0 #[.val (.ref a1), .val (.int p2), .unset, .unset, .unset, .unset] [])) _
    refine XS.aloadN X0.here hx rfl (hb hby d10_0) rfl rfl ?_
    show Steps p.tables e below (s₁.setTop (mkF m 1 #[.val (.ref a1), .val (.int p2), .unset, .unset, .unset, .unset] [(.ref a1)])) _
    refine XS.iloadN X0.here hx rfl (hb hby d10_1) rfl ?_
    show Steps p.tables e below (s₁.setTop (mkF m 2 #[.val (.ref a1), .val (.int p2), .unset, .unset, .unset, .unset] [(.int p2), (.ref a1)])) _
    refine st1 _ ?_
    show Steps p.tables e below (T1.setTop (mkF m 5 #[.val (.ref a1), .val (.int p2), .unset, .unset, .unset, .unset] [(.int (own_E cc p2))])) _
    rw [← hIE]
    show Steps p.tables e below (T1.setTop (mkF m 5 #[.val (.ref a1), .val (.int p2), .unset, .unset, .unset, .unset] [(.int IE)])) _
    refine XS.istoreN X1.here hx rfl (hb hby d10_5) rfl (l' := #[.val (.ref a1), .val (.int p2), .val (.int IE), .unset, .unset, .unset]) rfl ?_
    show Steps p.tables e below (T1.setTop (mkF m 6 #[.val (.ref a1), .val (.int p2), .val (.int IE), .unset, .unset, .unset] [])) _
    refine XS.iloadN X1.here hx rfl (hb hby d10_6) rfl ?_
    show Steps p.tables e below (T1.setTop (mkF m 7 #[.val (.ref a1), .val (.int p2), .val (.int IE), .unset, .unset, .unset] [(.int IE)])) _
    refine XS.istoreN X1.here hx rfl (hb hby d10_7) rfl (l' := #[.val (.ref a1), .val (.int p2), .val (.int IE), .val (.int IE), .unset, .unset]) rfl ?_
    show Steps p.tables e below (T1.setTop (mkF m 8 #[.val (.ref a1), .val (.int p2), .val (.int IE), .val (.int IE), .unset, .unset] [])) _
    refine XS.iloadN X1.here hx rfl (hb hby d10_8) rfl ?_
    show Steps p.tables e below (T1.setTop (mkF m 9 #[.val (.ref a1), .val (.int p2), .val (.int IE), .val (.int IE), .unset, .unset] [(.int IE)])) _
    refine XS.aloadN X1.here hx rfl (hb hby d10_9) rfl rfl ?_
    show Steps p.tables e below (T1.setTop (mkF m 10 #[.val (.ref a1), .val (.int p2), .val (.int IE), .val (.int IE), .unset, .unset] [(.ref a1), (.int IE)])) _
    refine st2.trans ?_
    exact k)
  obtain ⟨T15, L15, X15, e15, N15, Zs15, pre15⟩ : ∃ (T' : State) (L' : List Loc), Stand p l e ({ frames := 6, cells := 0, slots := 0, locals := 80 } : Room) s m #[(.ref a1), (.int p2)] below meth c T' L' 0 0 ∧ T'.heap = h0 ∧ Fr n0 L' ∧ n0 ≤ h0.size ∧ ∀ t, Steps p.tables e below (T'.setTop (mkF m 34 #[.val (.ref a1), .val (.int p2), .val (.int IE), .val (.int v14), .unset, .unset] [])) t → Steps p.tables e below (s₁.setTop (entryFrame m #[(.ref a1), (.int p2)] 6)) t := by
    by_cases hc4 : IE < (6 : Int32)
    · obtain ⟨cq5, kq5, q5a, q5b, q5c⟩ := isOf hZ e2 hStr.1
      obtain ⟨_, _, ⟨T5, L5, k5, n5⟩, -, X5, ⟨Lc5, hQ5, l5, y5, z5⟩, st5⟩ := X2.virtualBack hx (y := (⟨"java/lang/String", "charAt", "(I)C"⟩ : MethodName)) (z := (⟨"java/lang/String", "charAt", "(I)C"⟩ : MethodName)) hown (mvT hZ (hw _ (List.mem_of_getElem? (i := 59) rfl))) (mvT hZ (hw _ (List.mem_of_getElem? (i := 60) rfl))) (notFace_of_selects (args := #[]) (mvT hZ (hw _ (List.mem_of_getElem? (i := 62) rfl)))) (mvT hZ (hw _ (List.mem_of_getElem? (i := 62) rfl))) (mvT hZ (hw _ (List.mem_of_getElem? (i := 61) rfl))) (by decide) (backOf (W := 0) (rm14 l Z a0 hw [] a1 IE cs cc h0 n0 Z0 hWd hStr ⟨own_nl (by omega), hc4⟩ O0) hZ (hw _ (List.mem_of_getElem? (i := 63) rfl)) (hw _ (List.mem_of_getElem? (i := 9) rfl)) (by decide) (by decide)) q5a q5c (g := (mkF m 18 #[.val (.ref a1), .val (.int p2), .val (.int IE), .val (.int IE), .unset, .unset] [(.int IE), (.ref a1)])) rfl (by rw [hml]; rfl) (Steps.refl _) (argsL := [(.int IE)]) (rest := []) (lenOf pd_8 rfl) rfl (by show 2 * 0 + _ ≤ _; exact Nat.le_of_eq rfl) (hb hby d10_18) (fun _ _ => ⟨rfl, e2, (by decide : 0 + 0 ≤ _), (by decide : 0 + 0 ≤ _)⟩)
      dsimp only [Pt.U, Pt.locs, Pt.cells, Pt.slots] at X5 l5 y5 z5 st5 hQ5
      subst l5 y5 z5
      obtain ⟨rfl, N5q, e5⟩ := hQ5
      have N5 := Fr.app N2 N5q
      obtain ⟨v11, hv11⟩ : ∃ z : Int32, z = (if (cc IE) = (46 : Int32) then (own_E cc (IE + (1 : Int32))) else IE) := ⟨_, rfl⟩
      have pre6 : ∀ t, Steps p.tables e below (T5.setTop (mkF m 23 #[.val (.ref a1), .val (.int p2), .val (.int IE), .val (.int IE), .unset, .unset] [(.int (46 : Int32)), (.int (cc IE))])) t → Steps p.tables e below (s₁.setTop (entryFrame m #[(.ref a1), (.int p2)] 6)) t := fun t k => pre3 t (by
        show Steps p.tables e below (T2.setTop (mkF m 13 #[.val (.ref a1), .val (.int p2), .val (.int IE), .val (.int IE), .unset, .unset] [(.int (6 : Int32)), (.int IE)])) _
        refine XS.icmpNo X2.here hx rfl (hb hby d10_13) rfl (tlt hc4).2.1 ?_
        show Steps p.tables e below (T2.setTop (mkF m 16 #[.val (.ref a1), .val (.int p2), .val (.int IE), .val (.int IE), .unset, .unset] [])) _
        refine XS.aloadN X2.here hx rfl (hb hby d10_16) rfl rfl ?_
        show Steps p.tables e below (T2.setTop (mkF m 17 #[.val (.ref a1), .val (.int p2), .val (.int IE), .val (.int IE), .unset, .unset] [(.ref a1)])) _
        refine XS.iloadN X2.here hx rfl (hb hby d10_17) rfl ?_
        show Steps p.tables e below (T2.setTop (mkF m 18 #[.val (.ref a1), .val (.int p2), .val (.int IE), .val (.int IE), .unset, .unset] [(.int IE), (.ref a1)])) _
        refine st5.trans ?_
        show Steps p.tables e below (T5.setTop (mkF m 21 #[.val (.ref a1), .val (.int p2), .val (.int IE), .val (.int IE), .unset, .unset] [(.int (cc IE))])) _
        refine XS.bipush X5.here hx rfl (hb hby d10_21) ?_
        exact k)
      obtain ⟨T12, L12, X12, e12, N12, Zs12, pre12⟩ : ∃ (T' : State) (L' : List Loc), Stand p l e ({ frames := 6, cells := 0, slots := 0, locals := 80 } : Room) s m #[(.ref a1), (.int p2)] below meth c T' L' 0 0 ∧ T'.heap = h0 ∧ Fr n0 L' ∧ n0 ≤ h0.size ∧ ∀ t, Steps p.tables e below (T'.setTop (mkF m 34 #[.val (.ref a1), .val (.int p2), .val (.int IE), .val (.int v11), .unset, .unset] [])) t → Steps p.tables e below (s₁.setTop (entryFrame m #[(.ref a1), (.int p2)] 6)) t := by
        by_cases hc7 : (cc IE) = (46 : Int32)
        · obtain ⟨_, _, ⟨T8, L8, k8, n8⟩, -, X8, ⟨Lc8, hQ8, l8, y8, z8⟩, st8⟩ := Jvm.LawKit.callS X5 hx (y := (⟨"com/example/prewrm/prewrm/io/CsvFields", "digitsEnd", "(Ljava/lang/String;I)I"⟩ : MethodName)) hown (mvT hZ (hw _ (List.mem_of_getElem? (i := 46) rfl))) (mvT hZ (hw _ (List.mem_of_getElem? (i := 47) rfl))) (mvT hZ (hw _ (List.mem_of_getElem? (i := 44) rfl))) (mvT hZ (hw _ (List.mem_of_getElem? (i := 48) rfl))) (by decide) (backOf (W := 0) (rm11 l Z a0 hw [] a1 (IE + (1 : Int32)) cs cc h0 n0 Z0 hWd hStr (own_p1 (by omega) hc4) O0) hZ (hw _ (List.mem_of_getElem? (i := 48) rfl)) (hw _ (List.mem_of_getElem? (i := 44) rfl)) (by decide) (by decide)) (g := (mkF m 30 #[.val (.ref a1), .val (.int p2), .val (.int IE), .val (.int IE), .unset, .unset] [(.int (IE + (1 : Int32))), (.ref a1)])) rfl (by rw [hml]; rfl) (argsL := [(.ref a1), (.int (IE + (1 : Int32)))]) (rest := []) (lenOf pd_10 rfl) rfl (by show 2 * 0 + _ ≤ _; exact Nat.le_of_eq rfl) (hb hby d10_30) (fun _ _ => ⟨rfl, e5, (by decide : 0 + 0 ≤ _), (by decide : 0 + 0 ≤ _)⟩)
          dsimp only [Pt.U, Pt.locs, Pt.cells, Pt.slots] at X8 l8 y8 z8 st8 hQ8
          subst l8 y8 z8
          obtain ⟨rfl, N8q, e8⟩ := hQ8
          have N8 := Fr.app N5 N8q
          have pre9 : ∀ t, Steps p.tables e below (T8.setTop (mkF m 34 #[.val (.ref a1), .val (.int p2), .val (.int IE), .val (.int (own_E cc (IE + (1 : Int32)))), .unset, .unset] [])) t → Steps p.tables e below (s₁.setTop (entryFrame m #[(.ref a1), (.int p2)] 6)) t := fun t k => pre6 t (by
            show Steps p.tables e below (T5.setTop (mkF m 23 #[.val (.ref a1), .val (.int p2), .val (.int IE), .val (.int IE), .unset, .unset] [(.int (46 : Int32)), (.int (cc IE))])) _
            refine XS.icmpNo X5.here hx rfl (hb hby d10_23) rfl (teq hc7).2 ?_
            show Steps p.tables e below (T5.setTop (mkF m 26 #[.val (.ref a1), .val (.int p2), .val (.int IE), .val (.int IE), .unset, .unset] [])) _
            refine XS.aloadN X5.here hx rfl (hb hby d10_26) rfl rfl ?_
            show Steps p.tables e below (T5.setTop (mkF m 27 #[.val (.ref a1), .val (.int p2), .val (.int IE), .val (.int IE), .unset, .unset] [(.ref a1)])) _
            refine XS.iloadN X5.here hx rfl (hb hby d10_27) rfl ?_
            show Steps p.tables e below (T5.setTop (mkF m 28 #[.val (.ref a1), .val (.int p2), .val (.int IE), .val (.int IE), .unset, .unset] [(.int IE), (.ref a1)])) _
            refine XS.iconst X5.here hx rfl (hb hby d10_28) ?_
            show Steps p.tables e below (T5.setTop (mkF m 29 #[.val (.ref a1), .val (.int p2), .val (.int IE), .val (.int IE), .unset, .unset] [(.int (1 : Int32)), (.int IE), (.ref a1)])) _
            refine XS.iadd X5.here hx rfl (hb hby d10_29) rfl ?_
            show Steps p.tables e below (T5.setTop (mkF m 30 #[.val (.ref a1), .val (.int p2), .val (.int IE), .val (.int IE), .unset, .unset] [(.int (IE + (1 : Int32))), (.ref a1)])) _
            refine st8 _ ?_
            show Steps p.tables e below (T8.setTop (mkF m 33 #[.val (.ref a1), .val (.int p2), .val (.int IE), .val (.int IE), .unset, .unset] [(.int (own_E cc (IE + (1 : Int32))))])) _
            refine XS.istoreN X8.here hx rfl (hb hby d10_33) rfl (l' := #[.val (.ref a1), .val (.int p2), .val (.int IE), .val (.int (own_E cc (IE + (1 : Int32)))), .unset, .unset]) rfl ?_
            exact k)
          have evv11 : v11 = (own_E cc (IE + (1 : Int32))) := by exact hv11.trans (if_pos hc7)
          subst evv11
          exact ⟨T8, _, X8, e8, N8, Z0, pre9⟩
        · have pre10 : ∀ t, Steps p.tables e below (T5.setTop (mkF m 34 #[.val (.ref a1), .val (.int p2), .val (.int IE), .val (.int IE), .unset, .unset] [])) t → Steps p.tables e below (s₁.setTop (entryFrame m #[(.ref a1), (.int p2)] 6)) t := fun t k => pre6 t (by
            show Steps p.tables e below (T5.setTop (mkF m 23 #[.val (.ref a1), .val (.int p2), .val (.int IE), .val (.int IE), .unset, .unset] [(.int (46 : Int32)), (.int (cc IE))])) _
            refine XS.icmpYes X5.here hx rfl (pc0 := 23) (pc' := 34) rfl (hb hby d10_23) rfl (feq hc7).2 (by decide) (by decide) ?_
            exact k)
          have evv11 : v11 = IE := by exact hv11.trans (if_neg hc7)
          subst evv11
          exact ⟨T5, _, X5, e5, N5, Z0, pre10⟩
      have evv14 : v14 = v11 := by subst hv11; exact hv14.trans (if_pos hc4)
      subst evv14
      exact ⟨T12, _, X12, e12, N12, Zs12, pre12⟩
    · have pre13 : ∀ t, Steps p.tables e below (T2.setTop (mkF m 34 #[.val (.ref a1), .val (.int p2), .val (.int IE), .val (.int IE), .unset, .unset] [])) t → Steps p.tables e below (s₁.setTop (entryFrame m #[(.ref a1), (.int p2)] 6)) t := fun t k => pre3 t (by
        show Steps p.tables e below (T2.setTop (mkF m 13 #[.val (.ref a1), .val (.int p2), .val (.int IE), .val (.int IE), .unset, .unset] [(.int (6 : Int32)), (.int IE)])) _
        refine XS.icmpYes X2.here hx rfl (pc0 := 13) (pc' := 34) rfl (hb hby d10_13) rfl (flt hc4).2.1 (by decide) (by decide) ?_
        exact k)
      have evv14 : v14 = IE := by exact hv14.trans (if_neg hc4)
      subst evv14
      exact ⟨T2, _, X2, e2, N2, Z0, pre13⟩
  have rE1 := own_r34 (cc := cc) h11.1 rIE hv14
  obtain ⟨v17, hv17⟩ : ∃ z : Int32, z = (if IE < v14 then (1 : Int32) else (0 : Int32)) := ⟨_, rfl⟩
  have pre18 : ∀ t, Steps p.tables e below (T15.setTop (mkF m 47 #[.val (.ref a1), .val (.int p2), .val (.int IE), .val (.int v14), .unset, .unset] [(.int v17), (.int (v14 - p2))])) t → Steps p.tables e below (s₁.setTop (entryFrame m #[(.ref a1), (.int p2)] 6)) t := fun t k => pre15 t (by
    show Steps p.tables e below (T15.setTop (mkF m 34 #[.val (.ref a1), .val (.int p2), .val (.int IE), .val (.int v14), .unset, .unset] [])) _
    refine XS.iloadN X15.here hx rfl (hb hby d10_34) rfl ?_
    show Steps p.tables e below (T15.setTop (mkF m 35 #[.val (.ref a1), .val (.int p2), .val (.int IE), .val (.int v14), .unset, .unset] [(.int v14)])) _
    refine XS.iloadN X15.here hx rfl (hb hby d10_35) rfl ?_
    show Steps p.tables e below (T15.setTop (mkF m 36 #[.val (.ref a1), .val (.int p2), .val (.int IE), .val (.int v14), .unset, .unset] [(.int p2), (.int v14)])) _
    refine XS.isub X15.here hx rfl (hb hby d10_36) rfl ?_
    show Steps p.tables e below (T15.setTop (mkF m 37 #[.val (.ref a1), .val (.int p2), .val (.int IE), .val (.int v14), .unset, .unset] [(.int (v14 - p2))])) _
    refine XS.iloadN X15.here hx rfl (hb hby d10_37) rfl ?_
    show Steps p.tables e below (T15.setTop (mkF m 38 #[.val (.ref a1), .val (.int p2), .val (.int IE), .val (.int v14), .unset, .unset] [(.int v14), (.int (v14 - p2))])) _
    refine XS.iloadN X15.here hx rfl (hb hby d10_38) rfl ?_
    show Steps p.tables e below (T15.setTop (mkF m 39 #[.val (.ref a1), .val (.int p2), .val (.int IE), .val (.int v14), .unset, .unset] [(.int IE), (.int v14), (.int (v14 - p2))])) _
    by_cases hc16 : IE < v14
    · refine XS.icmpNo X15.here hx rfl (hb hby d10_39) rfl (tlt hc16).2.2.2 ?_
      show Steps p.tables e below (T15.setTop (mkF m 42 #[.val (.ref a1), .val (.int p2), .val (.int IE), .val (.int v14), .unset, .unset] [(.int (v14 - p2))])) _
      refine XS.iconst X15.here hx rfl (hb hby d10_42) ?_
      show Steps p.tables e below (T15.setTop (mkF m 43 #[.val (.ref a1), .val (.int p2), .val (.int IE), .val (.int v14), .unset, .unset] [(.int (1 : Int32)), (.int (v14 - p2))])) _
      refine XS.goto X15.here hx rfl (pc0 := 43) (pc' := 47) rfl (hb hby d10_43) (by decide) (by decide) ?_
      rw [show v17 = (1 : Int32) from hv17.trans (if_pos hc16)] at k
      exact k
    · refine XS.icmpYes X15.here hx rfl (pc0 := 39) (pc' := 46) rfl (hb hby d10_39) rfl (flt hc16).2.2.2 (by decide) (by decide) ?_
      show Steps p.tables e below (T15.setTop (mkF m 46 #[.val (.ref a1), .val (.int p2), .val (.int IE), .val (.int v14), .unset, .unset] [(.int (v14 - p2))])) _
      refine XS.iconst X15.here hx rfl (hb hby d10_46) ?_
      rw [show v17 = (0 : Int32) from hv17.trans (if_neg hc16)] at k
      exact k)
  obtain ⟨v20, hv20⟩ : ∃ z : Int32, z = (if v17 < (v14 - p2) then (1 : Int32) else (0 : Int32)) := ⟨_, rfl⟩
  have pre21 : ∀ t, Steps p.tables e below (T15.setTop (mkF m 55 #[.val (.ref a1), .val (.int p2), .val (.int IE), .val (.int v14), .unset, .unset] [(.int v20)])) t → Steps p.tables e below (s₁.setTop (entryFrame m #[(.ref a1), (.int p2)] 6)) t := fun t k => pre18 t (by
    show Steps p.tables e below (T15.setTop (mkF m 47 #[.val (.ref a1), .val (.int p2), .val (.int IE), .val (.int v14), .unset, .unset] [(.int v17), (.int (v14 - p2))])) _
    by_cases hc19 : v17 < (v14 - p2)
    · refine XS.icmpNo X15.here hx rfl (hb hby d10_47) rfl (tlt hc19).2.2.2 ?_
      show Steps p.tables e below (T15.setTop (mkF m 50 #[.val (.ref a1), .val (.int p2), .val (.int IE), .val (.int v14), .unset, .unset] [])) _
      refine XS.iconst X15.here hx rfl (hb hby d10_50) ?_
      show Steps p.tables e below (T15.setTop (mkF m 51 #[.val (.ref a1), .val (.int p2), .val (.int IE), .val (.int v14), .unset, .unset] [(.int (1 : Int32))])) _
      refine XS.goto X15.here hx rfl (pc0 := 51) (pc' := 55) rfl (hb hby d10_51) (by decide) (by decide) ?_
      rw [show v20 = (1 : Int32) from hv20.trans (if_pos hc19)] at k
      exact k
    · refine XS.icmpYes X15.here hx rfl (pc0 := 47) (pc' := 54) rfl (hb hby d10_47) rfl (flt hc19).2.2.2 (by decide) (by decide) ?_
      show Steps p.tables e below (T15.setTop (mkF m 54 #[.val (.ref a1), .val (.int p2), .val (.int IE), .val (.int v14), .unset, .unset] [])) _
      refine XS.iconst X15.here hx rfl (hb hby d10_54) ?_
      rw [show v20 = (0 : Int32) from hv20.trans (if_neg hc19)] at k
      exact k)
  obtain ⟨v90, hv90⟩ : ∃ z : Int32, z = (if v20 = (0 : Int32) then v14 else (if v14 < (6 : Int32) then (if (cc v14) = (101 : Int32) then (own_E cc (if (v14 + (1 : Int32)) < (6 : Int32) then (if (cc (v14 + (1 : Int32))) = (43 : Int32) then ((v14 + (1 : Int32)) + (1 : Int32)) else (if (cc (v14 + (1 : Int32))) = (45 : Int32) then ((v14 + (1 : Int32)) + (1 : Int32)) else (v14 + (1 : Int32)))) else (v14 + (1 : Int32)))) else (if (cc v14) = (69 : Int32) then (own_E cc (if (v14 + (1 : Int32)) < (6 : Int32) then (if (cc (v14 + (1 : Int32))) = (43 : Int32) then ((v14 + (1 : Int32)) + (1 : Int32)) else (if (cc (v14 + (1 : Int32))) = (45 : Int32) then ((v14 + (1 : Int32)) + (1 : Int32)) else (v14 + (1 : Int32)))) else (v14 + (1 : Int32)))) else v14)) else v14)) := ⟨_, rfl⟩
  obtain ⟨v91, hv91⟩ : ∃ z : Int32, z = (if v20 = (0 : Int32) then v20 else (if v14 < (6 : Int32) then (if (cc v14) = (101 : Int32) then (if (if (v14 + (1 : Int32)) < (6 : Int32) then (if (cc (v14 + (1 : Int32))) = (43 : Int32) then ((v14 + (1 : Int32)) + (1 : Int32)) else (if (cc (v14 + (1 : Int32))) = (45 : Int32) then ((v14 + (1 : Int32)) + (1 : Int32)) else (v14 + (1 : Int32)))) else (v14 + (1 : Int32))) < (own_E cc (if (v14 + (1 : Int32)) < (6 : Int32) then (if (cc (v14 + (1 : Int32))) = (43 : Int32) then ((v14 + (1 : Int32)) + (1 : Int32)) else (if (cc (v14 + (1 : Int32))) = (45 : Int32) then ((v14 + (1 : Int32)) + (1 : Int32)) else (v14 + (1 : Int32)))) else (v14 + (1 : Int32)))) then (1 : Int32) else (0 : Int32)) else (if (cc v14) = (69 : Int32) then (if (if (v14 + (1 : Int32)) < (6 : Int32) then (if (cc (v14 + (1 : Int32))) = (43 : Int32) then ((v14 + (1 : Int32)) + (1 : Int32)) else (if (cc (v14 + (1 : Int32))) = (45 : Int32) then ((v14 + (1 : Int32)) + (1 : Int32)) else (v14 + (1 : Int32)))) else (v14 + (1 : Int32))) < (own_E cc (if (v14 + (1 : Int32)) < (6 : Int32) then (if (cc (v14 + (1 : Int32))) = (43 : Int32) then ((v14 + (1 : Int32)) + (1 : Int32)) else (if (cc (v14 + (1 : Int32))) = (45 : Int32) then ((v14 + (1 : Int32)) + (1 : Int32)) else (v14 + (1 : Int32)))) else (v14 + (1 : Int32)))) then (1 : Int32) else (0 : Int32)) else v20)) else v20)) := ⟨_, rfl⟩
  obtain ⟨sl92, hsl92⟩ : ∃ z : Slot, z = (if v20 = (0 : Int32) then (.unset : Slot) else ((if v14 < (6 : Int32) then ((if (cc v14) = (101 : Int32) then (.val (.int (if (v14 + (1 : Int32)) < (6 : Int32) then (if (cc (v14 + (1 : Int32))) = (43 : Int32) then ((v14 + (1 : Int32)) + (1 : Int32)) else (if (cc (v14 + (1 : Int32))) = (45 : Int32) then ((v14 + (1 : Int32)) + (1 : Int32)) else (v14 + (1 : Int32)))) else (v14 + (1 : Int32)))) : Slot) else ((if (cc v14) = (69 : Int32) then (.val (.int (if (v14 + (1 : Int32)) < (6 : Int32) then (if (cc (v14 + (1 : Int32))) = (43 : Int32) then ((v14 + (1 : Int32)) + (1 : Int32)) else (if (cc (v14 + (1 : Int32))) = (45 : Int32) then ((v14 + (1 : Int32)) + (1 : Int32)) else (v14 + (1 : Int32)))) else (v14 + (1 : Int32)))) : Slot) else (.unset : Slot)) : Slot)) : Slot) else (.unset : Slot)) : Slot)) := ⟨_, rfl⟩
  have pre22 : ∀ t, Steps p.tables e below (T15.setTop (mkF m 59 #[.val (.ref a1), .val (.int p2), .val (.int IE), .val (.int v14), .val (.int v20), .unset] [(.int v20)])) t → Steps p.tables e below (s₁.setTop (entryFrame m #[(.ref a1), (.int p2)] 6)) t := fun t k => pre21 t (by
    show Steps p.tables e below (T15.setTop (mkF m 55 #[.val (.ref a1), .val (.int p2), .val (.int IE), .val (.int v14), .unset, .unset] [(.int v20)])) _
    refine XS.istore X15.here hx rfl (hb hby d10_55) rfl (l' := #[.val (.ref a1), .val (.int p2), .val (.int IE), .val (.int v14), .val (.int v20), .unset]) rfl ?_
    show Steps p.tables e below (T15.setTop (mkF m 57 #[.val (.ref a1), .val (.int p2), .val (.int IE), .val (.int v14), .val (.int v20), .unset] [])) _
    refine XS.iload X15.here hx rfl (hb hby d10_57) rfl ?_
    exact k)
  obtain ⟨T93, L93, X93, e93, N93, Zs93, pre93⟩ : ∃ (T' : State) (L' : List Loc), Stand p l e ({ frames := 6, cells := 0, slots := 0, locals := 80 } : Room) s m #[(.ref a1), (.int p2)] below meth c T' L' 0 0 ∧ T'.heap = h0 ∧ Fr n0 L' ∧ n0 ≤ h0.size ∧ ∀ t, Steps p.tables e below (T'.setTop (mkF m 149 #[.val (.ref a1), .val (.int p2), .val (.int IE), .val (.int v90), .val (.int v91), sl92] [])) t → Steps p.tables e below (s₁.setTop (entryFrame m #[(.ref a1), (.int p2)] 6)) t := by
    by_cases hc23 : v20 = (0 : Int32)
    · have pre24 : ∀ t, Steps p.tables e below (T15.setTop (mkF m 149 #[.val (.ref a1), .val (.int p2), .val (.int IE), .val (.int v14), .val (.int v20), .unset] [])) t → Steps p.tables e below (s₁.setTop (entryFrame m #[(.ref a1), (.int p2)] 6)) t := fun t k => pre22 t (by
        show Steps p.tables e below (T15.setTop (mkF m 59 #[.val (.ref a1), .val (.int p2), .val (.int IE), .val (.int v14), .val (.int v20), .unset] [(.int v20)])) _
        refine XS.ifYes X15.here hx rfl (pc0 := 59) (pc' := 149) rfl (hb hby d10_59) rfl ((if0 _ _).trans (teq hc23).1) (by decide) (by decide) ?_
        exact k)
      have evv90 : v90 = v14 := by exact hv90.trans (if_pos hc23)
      have evv91 : v91 = v20 := by exact hv91.trans (if_pos hc23)
      have evsl92 : sl92 = (.unset : Slot) := by exact hsl92.trans (if_pos hc23)
      subst evv90
      subst evv91
      subst evsl92
      exact ⟨T15, _, X15, e15, N15, Zs15, pre24⟩
    · obtain ⟨cq25, kq25, q25a, q25b, q25c⟩ := isOf hZ e15 hStr.1
      obtain ⟨_, _, ⟨T25, L25, k25, n25⟩, -, X25, ⟨Lc25, hQ25, l25, y25, z25⟩, st25⟩ := X15.virtualBack hx (y := (⟨"java/lang/String", "length", "()I"⟩ : MethodName)) (z := (⟨"java/lang/String", "length", "()I"⟩ : MethodName)) hown (mvT hZ (hw _ (List.mem_of_getElem? (i := 49) rfl))) (mvT hZ (hw _ (List.mem_of_getElem? (i := 50) rfl))) (notFace_of_selects (args := #[]) (mvT hZ (hw _ (List.mem_of_getElem? (i := 52) rfl)))) (mvT hZ (hw _ (List.mem_of_getElem? (i := 52) rfl))) (mvT hZ (hw _ (List.mem_of_getElem? (i := 51) rfl))) (by decide) (backOf (W := 1) (rm12 l Z a0 hw [] a1 cs cc h0 n0 Zs15 hWd hStr O0) hZ (hw _ (List.mem_of_getElem? (i := 53) rfl)) (hw _ (List.mem_of_getElem? (i := 9) rfl)) (by decide) (by decide)) q25a q25c (g := (mkF m 64 #[.val (.ref a1), .val (.int p2), .val (.int IE), .val (.int v14), .val (.int v20), .unset] [(.ref a1), (.int v14)])) rfl (by rw [hml]; rfl) (Steps.refl _) (argsL := []) (rest := [(.int v14)]) (lenOf pd_7 rfl) rfl (by show 2 * 0 + _ ≤ _; exact Nat.le_of_eq rfl) (hb hby d10_64) (fun _ _ => ⟨rfl, e15, (by decide : 0 + 0 ≤ _), (by decide : 0 + 0 ≤ _)⟩)
      dsimp only [Pt.U, Pt.locs, Pt.cells, Pt.slots] at X25 l25 y25 z25 st25 hQ25
      subst l25 y25 z25
      obtain ⟨rfl, N25q, e25⟩ := hQ25
      have N25 := Fr.app N15 N25q
      obtain ⟨v86, hv86⟩ : ∃ z : Int32, z = (if v14 < (6 : Int32) then (if (cc v14) = (101 : Int32) then (own_E cc (if (v14 + (1 : Int32)) < (6 : Int32) then (if (cc (v14 + (1 : Int32))) = (43 : Int32) then ((v14 + (1 : Int32)) + (1 : Int32)) else (if (cc (v14 + (1 : Int32))) = (45 : Int32) then ((v14 + (1 : Int32)) + (1 : Int32)) else (v14 + (1 : Int32)))) else (v14 + (1 : Int32)))) else (if (cc v14) = (69 : Int32) then (own_E cc (if (v14 + (1 : Int32)) < (6 : Int32) then (if (cc (v14 + (1 : Int32))) = (43 : Int32) then ((v14 + (1 : Int32)) + (1 : Int32)) else (if (cc (v14 + (1 : Int32))) = (45 : Int32) then ((v14 + (1 : Int32)) + (1 : Int32)) else (v14 + (1 : Int32)))) else (v14 + (1 : Int32)))) else v14)) else v14) := ⟨_, rfl⟩
      obtain ⟨v87, hv87⟩ : ∃ z : Int32, z = (if v14 < (6 : Int32) then (if (cc v14) = (101 : Int32) then (if (if (v14 + (1 : Int32)) < (6 : Int32) then (if (cc (v14 + (1 : Int32))) = (43 : Int32) then ((v14 + (1 : Int32)) + (1 : Int32)) else (if (cc (v14 + (1 : Int32))) = (45 : Int32) then ((v14 + (1 : Int32)) + (1 : Int32)) else (v14 + (1 : Int32)))) else (v14 + (1 : Int32))) < (own_E cc (if (v14 + (1 : Int32)) < (6 : Int32) then (if (cc (v14 + (1 : Int32))) = (43 : Int32) then ((v14 + (1 : Int32)) + (1 : Int32)) else (if (cc (v14 + (1 : Int32))) = (45 : Int32) then ((v14 + (1 : Int32)) + (1 : Int32)) else (v14 + (1 : Int32)))) else (v14 + (1 : Int32)))) then (1 : Int32) else (0 : Int32)) else (if (cc v14) = (69 : Int32) then (if (if (v14 + (1 : Int32)) < (6 : Int32) then (if (cc (v14 + (1 : Int32))) = (43 : Int32) then ((v14 + (1 : Int32)) + (1 : Int32)) else (if (cc (v14 + (1 : Int32))) = (45 : Int32) then ((v14 + (1 : Int32)) + (1 : Int32)) else (v14 + (1 : Int32)))) else (v14 + (1 : Int32))) < (own_E cc (if (v14 + (1 : Int32)) < (6 : Int32) then (if (cc (v14 + (1 : Int32))) = (43 : Int32) then ((v14 + (1 : Int32)) + (1 : Int32)) else (if (cc (v14 + (1 : Int32))) = (45 : Int32) then ((v14 + (1 : Int32)) + (1 : Int32)) else (v14 + (1 : Int32)))) else (v14 + (1 : Int32)))) then (1 : Int32) else (0 : Int32)) else v20)) else v20) := ⟨_, rfl⟩
      obtain ⟨sl88, hsl88⟩ : ∃ z : Slot, z = (if v14 < (6 : Int32) then ((if (cc v14) = (101 : Int32) then (.val (.int (if (v14 + (1 : Int32)) < (6 : Int32) then (if (cc (v14 + (1 : Int32))) = (43 : Int32) then ((v14 + (1 : Int32)) + (1 : Int32)) else (if (cc (v14 + (1 : Int32))) = (45 : Int32) then ((v14 + (1 : Int32)) + (1 : Int32)) else (v14 + (1 : Int32)))) else (v14 + (1 : Int32)))) : Slot) else ((if (cc v14) = (69 : Int32) then (.val (.int (if (v14 + (1 : Int32)) < (6 : Int32) then (if (cc (v14 + (1 : Int32))) = (43 : Int32) then ((v14 + (1 : Int32)) + (1 : Int32)) else (if (cc (v14 + (1 : Int32))) = (45 : Int32) then ((v14 + (1 : Int32)) + (1 : Int32)) else (v14 + (1 : Int32)))) else (v14 + (1 : Int32)))) : Slot) else (.unset : Slot)) : Slot)) : Slot) else (.unset : Slot)) := ⟨_, rfl⟩
      have pre26 : ∀ t, Steps p.tables e below (T25.setTop (mkF m 67 #[.val (.ref a1), .val (.int p2), .val (.int IE), .val (.int v14), .val (.int v20), .unset] [(.int (6 : Int32)), (.int v14)])) t → Steps p.tables e below (s₁.setTop (entryFrame m #[(.ref a1), (.int p2)] 6)) t := fun t k => pre22 t (by
        show Steps p.tables e below (T15.setTop (mkF m 59 #[.val (.ref a1), .val (.int p2), .val (.int IE), .val (.int v14), .val (.int v20), .unset] [(.int v20)])) _
        refine XS.ifNo X15.here hx rfl (hb hby d10_59) rfl ((if0 _ _).trans (feq hc23).1) ?_
        show Steps p.tables e below (T15.setTop (mkF m 62 #[.val (.ref a1), .val (.int p2), .val (.int IE), .val (.int v14), .val (.int v20), .unset] [])) _
        refine XS.iloadN X15.here hx rfl (hb hby d10_62) rfl ?_
        show Steps p.tables e below (T15.setTop (mkF m 63 #[.val (.ref a1), .val (.int p2), .val (.int IE), .val (.int v14), .val (.int v20), .unset] [(.int v14)])) _
        refine XS.aloadN X15.here hx rfl (hb hby d10_63) rfl rfl ?_
        show Steps p.tables e below (T15.setTop (mkF m 64 #[.val (.ref a1), .val (.int p2), .val (.int IE), .val (.int v14), .val (.int v20), .unset] [(.ref a1), (.int v14)])) _
        refine st25.trans ?_
        exact k)
      obtain ⟨T89, L89, X89, e89, N89, Zs89, pre89⟩ : ∃ (T' : State) (L' : List Loc), Stand p l e ({ frames := 6, cells := 0, slots := 0, locals := 80 } : Room) s m #[(.ref a1), (.int p2)] below meth c T' L' 0 0 ∧ T'.heap = h0 ∧ Fr n0 L' ∧ n0 ≤ h0.size ∧ ∀ t, Steps p.tables e below (T'.setTop (mkF m 149 #[.val (.ref a1), .val (.int p2), .val (.int IE), .val (.int v86), .val (.int v87), sl88] [])) t → Steps p.tables e below (s₁.setTop (entryFrame m #[(.ref a1), (.int p2)] 6)) t := by
        by_cases hc27 : v14 < (6 : Int32)
        · obtain ⟨cq28, kq28, q28a, q28b, q28c⟩ := isOf hZ e25 hStr.1
          obtain ⟨_, _, ⟨T28, L28, k28, n28⟩, -, X28, ⟨Lc28, hQ28, l28, y28, z28⟩, st28⟩ := X25.virtualBack hx (y := (⟨"java/lang/String", "charAt", "(I)C"⟩ : MethodName)) (z := (⟨"java/lang/String", "charAt", "(I)C"⟩ : MethodName)) hown (mvT hZ (hw _ (List.mem_of_getElem? (i := 59) rfl))) (mvT hZ (hw _ (List.mem_of_getElem? (i := 60) rfl))) (notFace_of_selects (args := #[]) (mvT hZ (hw _ (List.mem_of_getElem? (i := 62) rfl)))) (mvT hZ (hw _ (List.mem_of_getElem? (i := 62) rfl))) (mvT hZ (hw _ (List.mem_of_getElem? (i := 61) rfl))) (by decide) (backOf (W := 0) (rm14 l Z a0 hw [] a1 v14 cs cc h0 n0 Zs15 hWd hStr ⟨own_nl (by omega), hc27⟩ O0) hZ (hw _ (List.mem_of_getElem? (i := 63) rfl)) (hw _ (List.mem_of_getElem? (i := 9) rfl)) (by decide) (by decide)) q28a q28c (g := (mkF m 72 #[.val (.ref a1), .val (.int p2), .val (.int IE), .val (.int v14), .val (.int v20), .unset] [(.int v14), (.ref a1)])) rfl (by rw [hml]; rfl) (Steps.refl _) (argsL := [(.int v14)]) (rest := []) (lenOf pd_8 rfl) rfl (by show 2 * 0 + _ ≤ _; exact Nat.le_of_eq rfl) (hb hby d10_72) (fun _ _ => ⟨rfl, e25, (by decide : 0 + 0 ≤ _), (by decide : 0 + 0 ≤ _)⟩)
          dsimp only [Pt.U, Pt.locs, Pt.cells, Pt.slots] at X28 l28 y28 z28 st28 hQ28
          subst l28 y28 z28
          obtain ⟨rfl, N28q, e28⟩ := hQ28
          have N28 := Fr.app N25 N28q
          obtain ⟨v81, hv81⟩ : ∃ z : Int32, z = (if (cc v14) = (101 : Int32) then (own_E cc (if (v14 + (1 : Int32)) < (6 : Int32) then (if (cc (v14 + (1 : Int32))) = (43 : Int32) then ((v14 + (1 : Int32)) + (1 : Int32)) else (if (cc (v14 + (1 : Int32))) = (45 : Int32) then ((v14 + (1 : Int32)) + (1 : Int32)) else (v14 + (1 : Int32)))) else (v14 + (1 : Int32)))) else (if (cc v14) = (69 : Int32) then (own_E cc (if (v14 + (1 : Int32)) < (6 : Int32) then (if (cc (v14 + (1 : Int32))) = (43 : Int32) then ((v14 + (1 : Int32)) + (1 : Int32)) else (if (cc (v14 + (1 : Int32))) = (45 : Int32) then ((v14 + (1 : Int32)) + (1 : Int32)) else (v14 + (1 : Int32)))) else (v14 + (1 : Int32)))) else v14)) := ⟨_, rfl⟩
          obtain ⟨v82, hv82⟩ : ∃ z : Int32, z = (if (cc v14) = (101 : Int32) then (if (if (v14 + (1 : Int32)) < (6 : Int32) then (if (cc (v14 + (1 : Int32))) = (43 : Int32) then ((v14 + (1 : Int32)) + (1 : Int32)) else (if (cc (v14 + (1 : Int32))) = (45 : Int32) then ((v14 + (1 : Int32)) + (1 : Int32)) else (v14 + (1 : Int32)))) else (v14 + (1 : Int32))) < (own_E cc (if (v14 + (1 : Int32)) < (6 : Int32) then (if (cc (v14 + (1 : Int32))) = (43 : Int32) then ((v14 + (1 : Int32)) + (1 : Int32)) else (if (cc (v14 + (1 : Int32))) = (45 : Int32) then ((v14 + (1 : Int32)) + (1 : Int32)) else (v14 + (1 : Int32)))) else (v14 + (1 : Int32)))) then (1 : Int32) else (0 : Int32)) else (if (cc v14) = (69 : Int32) then (if (if (v14 + (1 : Int32)) < (6 : Int32) then (if (cc (v14 + (1 : Int32))) = (43 : Int32) then ((v14 + (1 : Int32)) + (1 : Int32)) else (if (cc (v14 + (1 : Int32))) = (45 : Int32) then ((v14 + (1 : Int32)) + (1 : Int32)) else (v14 + (1 : Int32)))) else (v14 + (1 : Int32))) < (own_E cc (if (v14 + (1 : Int32)) < (6 : Int32) then (if (cc (v14 + (1 : Int32))) = (43 : Int32) then ((v14 + (1 : Int32)) + (1 : Int32)) else (if (cc (v14 + (1 : Int32))) = (45 : Int32) then ((v14 + (1 : Int32)) + (1 : Int32)) else (v14 + (1 : Int32)))) else (v14 + (1 : Int32)))) then (1 : Int32) else (0 : Int32)) else v20)) := ⟨_, rfl⟩
          obtain ⟨sl83, hsl83⟩ : ∃ z : Slot, z = (if (cc v14) = (101 : Int32) then (.val (.int (if (v14 + (1 : Int32)) < (6 : Int32) then (if (cc (v14 + (1 : Int32))) = (43 : Int32) then ((v14 + (1 : Int32)) + (1 : Int32)) else (if (cc (v14 + (1 : Int32))) = (45 : Int32) then ((v14 + (1 : Int32)) + (1 : Int32)) else (v14 + (1 : Int32)))) else (v14 + (1 : Int32)))) : Slot) else ((if (cc v14) = (69 : Int32) then (.val (.int (if (v14 + (1 : Int32)) < (6 : Int32) then (if (cc (v14 + (1 : Int32))) = (43 : Int32) then ((v14 + (1 : Int32)) + (1 : Int32)) else (if (cc (v14 + (1 : Int32))) = (45 : Int32) then ((v14 + (1 : Int32)) + (1 : Int32)) else (v14 + (1 : Int32)))) else (v14 + (1 : Int32)))) : Slot) else (.unset : Slot)) : Slot)) := ⟨_, rfl⟩
          have pre29 : ∀ t, Steps p.tables e below (T28.setTop (mkF m 77 #[.val (.ref a1), .val (.int p2), .val (.int IE), .val (.int v14), .val (.int v20), .unset] [(.int (101 : Int32)), (.int (cc v14))])) t → Steps p.tables e below (s₁.setTop (entryFrame m #[(.ref a1), (.int p2)] 6)) t := fun t k => pre26 t (by
            show Steps p.tables e below (T25.setTop (mkF m 67 #[.val (.ref a1), .val (.int p2), .val (.int IE), .val (.int v14), .val (.int v20), .unset] [(.int (6 : Int32)), (.int v14)])) _
            refine XS.icmpNo X25.here hx rfl (hb hby d10_67) rfl (tlt hc27).2.1 ?_
            show Steps p.tables e below (T25.setTop (mkF m 70 #[.val (.ref a1), .val (.int p2), .val (.int IE), .val (.int v14), .val (.int v20), .unset] [])) _
            refine XS.aloadN X25.here hx rfl (hb hby d10_70) rfl rfl ?_
            show Steps p.tables e below (T25.setTop (mkF m 71 #[.val (.ref a1), .val (.int p2), .val (.int IE), .val (.int v14), .val (.int v20), .unset] [(.ref a1)])) _
            refine XS.iloadN X25.here hx rfl (hb hby d10_71) rfl ?_
            show Steps p.tables e below (T25.setTop (mkF m 72 #[.val (.ref a1), .val (.int p2), .val (.int IE), .val (.int v14), .val (.int v20), .unset] [(.int v14), (.ref a1)])) _
            refine st28.trans ?_
            show Steps p.tables e below (T28.setTop (mkF m 75 #[.val (.ref a1), .val (.int p2), .val (.int IE), .val (.int v14), .val (.int v20), .unset] [(.int (cc v14))])) _
            refine XS.bipush X28.here hx rfl (hb hby d10_75) ?_
            exact k)
          obtain ⟨T84, L84, X84, e84, N84, Zs84, pre84⟩ : ∃ (T' : State) (L' : List Loc), Stand p l e ({ frames := 6, cells := 0, slots := 0, locals := 80 } : Room) s m #[(.ref a1), (.int p2)] below meth c T' L' 0 0 ∧ T'.heap = h0 ∧ Fr n0 L' ∧ n0 ≤ h0.size ∧ ∀ t, Steps p.tables e below (T'.setTop (mkF m 149 #[.val (.ref a1), .val (.int p2), .val (.int IE), .val (.int v81), .val (.int v82), sl83] [])) t → Steps p.tables e below (s₁.setTop (entryFrame m #[(.ref a1), (.int p2)] 6)) t := by
            by_cases hc30 : (cc v14) = (101 : Int32)
            · obtain ⟨cq31, kq31, q31a, q31b, q31c⟩ := isOf hZ e28 hStr.1
              obtain ⟨_, _, ⟨T31, L31, k31, n31⟩, -, X31, ⟨Lc31, hQ31, l31, y31, z31⟩, st31⟩ := X28.virtualBack hx (y := (⟨"java/lang/String", "length", "()I"⟩ : MethodName)) (z := (⟨"java/lang/String", "length", "()I"⟩ : MethodName)) hown (mvT hZ (hw _ (List.mem_of_getElem? (i := 49) rfl))) (mvT hZ (hw _ (List.mem_of_getElem? (i := 50) rfl))) (notFace_of_selects (args := #[]) (mvT hZ (hw _ (List.mem_of_getElem? (i := 52) rfl)))) (mvT hZ (hw _ (List.mem_of_getElem? (i := 52) rfl))) (mvT hZ (hw _ (List.mem_of_getElem? (i := 51) rfl))) (by decide) (backOf (W := 1) (rm12 l Z a0 hw [] a1 cs cc h0 n0 Zs15 hWd hStr O0) hZ (hw _ (List.mem_of_getElem? (i := 53) rfl)) (hw _ (List.mem_of_getElem? (i := 9) rfl)) (by decide) (by decide)) q31a q31c (g := (mkF m 98 #[.val (.ref a1), .val (.int p2), .val (.int IE), .val (.int v14), .val (.int v20), .val (.int (v14 + (1 : Int32)))] [(.ref a1), (.int (v14 + (1 : Int32)))])) rfl (by rw [hml]; rfl) (Steps.refl _) (argsL := []) (rest := [(.int (v14 + (1 : Int32)))]) (lenOf pd_7 rfl) rfl (by show 2 * 0 + _ ≤ _; exact Nat.le_of_eq rfl) (hb hby d10_98) (fun _ _ => ⟨rfl, e28, (by decide : 0 + 0 ≤ _), (by decide : 0 + 0 ≤ _)⟩)
              dsimp only [Pt.U, Pt.locs, Pt.cells, Pt.slots] at X31 l31 y31 z31 st31 hQ31
              subst l31 y31 z31
              obtain ⟨rfl, N31q, e31⟩ := hQ31
              have N31 := Fr.app N28 N31q
              obtain ⟨v45, hv45⟩ : ∃ z : Int32, z = (if (v14 + (1 : Int32)) < (6 : Int32) then (if (cc (v14 + (1 : Int32))) = (43 : Int32) then ((v14 + (1 : Int32)) + (1 : Int32)) else (if (cc (v14 + (1 : Int32))) = (45 : Int32) then ((v14 + (1 : Int32)) + (1 : Int32)) else (v14 + (1 : Int32)))) else (v14 + (1 : Int32))) := ⟨_, rfl⟩
              have pre32 : ∀ t, Steps p.tables e below (T31.setTop (mkF m 101 #[.val (.ref a1), .val (.int p2), .val (.int IE), .val (.int v14), .val (.int v20), .val (.int (v14 + (1 : Int32)))] [(.int (6 : Int32)), (.int (v14 + (1 : Int32)))])) t → Steps p.tables e below (s₁.setTop (entryFrame m #[(.ref a1), (.int p2)] 6)) t := fun t k => pre29 t (by
                show Steps p.tables e below (T28.setTop (mkF m 77 #[.val (.ref a1), .val (.int p2), .val (.int IE), .val (.int v14), .val (.int v20), .unset] [(.int (101 : Int32)), (.int (cc v14))])) _
                refine XS.icmpYes X28.here hx rfl (pc0 := 77) (pc' := 90) rfl (hb hby d10_77) rfl (teq hc30).1 (by decide) (by decide) ?_
                show Steps p.tables e below (T28.setTop (mkF m 90 #[.val (.ref a1), .val (.int p2), .val (.int IE), .val (.int v14), .val (.int v20), .unset] [])) _
                refine XS.iloadN X28.here hx rfl (hb hby d10_90) rfl ?_
                show Steps p.tables e below (T28.setTop (mkF m 91 #[.val (.ref a1), .val (.int p2), .val (.int IE), .val (.int v14), .val (.int v20), .unset] [(.int v14)])) _
                refine XS.iconst X28.here hx rfl (hb hby d10_91) ?_
                show Steps p.tables e below (T28.setTop (mkF m 92 #[.val (.ref a1), .val (.int p2), .val (.int IE), .val (.int v14), .val (.int v20), .unset] [(.int (1 : Int32)), (.int v14)])) _
                refine XS.iadd X28.here hx rfl (hb hby d10_92) rfl ?_
                show Steps p.tables e below (T28.setTop (mkF m 93 #[.val (.ref a1), .val (.int p2), .val (.int IE), .val (.int v14), .val (.int v20), .unset] [(.int (v14 + (1 : Int32)))])) _
                refine XS.istore X28.here hx rfl (hb hby d10_93) rfl (l' := #[.val (.ref a1), .val (.int p2), .val (.int IE), .val (.int v14), .val (.int v20), .val (.int (v14 + (1 : Int32)))]) rfl ?_
                show Steps p.tables e below (T28.setTop (mkF m 95 #[.val (.ref a1), .val (.int p2), .val (.int IE), .val (.int v14), .val (.int v20), .val (.int (v14 + (1 : Int32)))] [])) _
                refine XS.iload X28.here hx rfl (hb hby d10_95) rfl ?_
                show Steps p.tables e below (T28.setTop (mkF m 97 #[.val (.ref a1), .val (.int p2), .val (.int IE), .val (.int v14), .val (.int v20), .val (.int (v14 + (1 : Int32)))] [(.int (v14 + (1 : Int32)))])) _
                refine XS.aloadN X28.here hx rfl (hb hby d10_97) rfl rfl ?_
                show Steps p.tables e below (T28.setTop (mkF m 98 #[.val (.ref a1), .val (.int p2), .val (.int IE), .val (.int v14), .val (.int v20), .val (.int (v14 + (1 : Int32)))] [(.ref a1), (.int (v14 + (1 : Int32)))])) _
                refine st31.trans ?_
                exact k)
              obtain ⟨T46, L46, X46, e46, N46, Zs46, pre46⟩ : ∃ (T' : State) (L' : List Loc), Stand p l e ({ frames := 6, cells := 0, slots := 0, locals := 80 } : Room) s m #[(.ref a1), (.int p2)] below meth c T' L' 0 0 ∧ T'.heap = h0 ∧ Fr n0 L' ∧ n0 ≤ h0.size ∧ ∀ t, Steps p.tables e below (T'.setTop (mkF m 129 #[.val (.ref a1), .val (.int p2), .val (.int IE), .val (.int v14), .val (.int v20), .val (.int v45)] [])) t → Steps p.tables e below (s₁.setTop (entryFrame m #[(.ref a1), (.int p2)] 6)) t := by
                by_cases hc33 : (v14 + (1 : Int32)) < (6 : Int32)
                · obtain ⟨cq34, kq34, q34a, q34b, q34c⟩ := isOf hZ e31 hStr.1
                  obtain ⟨_, _, ⟨T34, L34, k34, n34⟩, -, X34, ⟨Lc34, hQ34, l34, y34, z34⟩, st34⟩ := X31.virtualBack hx (y := (⟨"java/lang/String", "charAt", "(I)C"⟩ : MethodName)) (z := (⟨"java/lang/String", "charAt", "(I)C"⟩ : MethodName)) hown (mvT hZ (hw _ (List.mem_of_getElem? (i := 59) rfl))) (mvT hZ (hw _ (List.mem_of_getElem? (i := 60) rfl))) (notFace_of_selects (args := #[]) (mvT hZ (hw _ (List.mem_of_getElem? (i := 62) rfl)))) (mvT hZ (hw _ (List.mem_of_getElem? (i := 62) rfl))) (mvT hZ (hw _ (List.mem_of_getElem? (i := 61) rfl))) (by decide) (backOf (W := 0) (rm14 l Z a0 hw [] a1 (v14 + (1 : Int32)) cs cc h0 n0 Zs15 hWd hStr ⟨own_nl (own_p1 (by omega) hc27).1, hc33⟩ O0) hZ (hw _ (List.mem_of_getElem? (i := 63) rfl)) (hw _ (List.mem_of_getElem? (i := 9) rfl)) (by decide) (by decide)) q34a q34c (g := (mkF m 107 #[.val (.ref a1), .val (.int p2), .val (.int IE), .val (.int v14), .val (.int v20), .val (.int (v14 + (1 : Int32)))] [(.int (v14 + (1 : Int32))), (.ref a1)])) rfl (by rw [hml]; rfl) (Steps.refl _) (argsL := [(.int (v14 + (1 : Int32)))]) (rest := []) (lenOf pd_8 rfl) rfl (by show 2 * 0 + _ ≤ _; exact Nat.le_of_eq rfl) (hb hby d10_107) (fun _ _ => ⟨rfl, e31, (by decide : 0 + 0 ≤ _), (by decide : 0 + 0 ≤ _)⟩)
                  dsimp only [Pt.U, Pt.locs, Pt.cells, Pt.slots] at X34 l34 y34 z34 st34 hQ34
                  subst l34 y34 z34
                  obtain ⟨rfl, N34q, e34⟩ := hQ34
                  have N34 := Fr.app N31 N34q
                  obtain ⟨v42, hv42⟩ : ∃ z : Int32, z = (if (cc (v14 + (1 : Int32))) = (43 : Int32) then ((v14 + (1 : Int32)) + (1 : Int32)) else (if (cc (v14 + (1 : Int32))) = (45 : Int32) then ((v14 + (1 : Int32)) + (1 : Int32)) else (v14 + (1 : Int32)))) := ⟨_, rfl⟩
                  have pre35 : ∀ t, Steps p.tables e below (T34.setTop (mkF m 112 #[.val (.ref a1), .val (.int p2), .val (.int IE), .val (.int v14), .val (.int v20), .val (.int (v14 + (1 : Int32)))] [(.int (43 : Int32)), (.int (cc (v14 + (1 : Int32))))])) t → Steps p.tables e below (s₁.setTop (entryFrame m #[(.ref a1), (.int p2)] 6)) t := fun t k => pre32 t (by
                    show Steps p.tables e below (T31.setTop (mkF m 101 #[.val (.ref a1), .val (.int p2), .val (.int IE), .val (.int v14), .val (.int v20), .val (.int (v14 + (1 : Int32)))] [(.int (6 : Int32)), (.int (v14 + (1 : Int32)))])) _
                    refine XS.icmpNo X31.here hx rfl (hb hby d10_101) rfl (tlt hc33).2.1 ?_
                    show Steps p.tables e below (T31.setTop (mkF m 104 #[.val (.ref a1), .val (.int p2), .val (.int IE), .val (.int v14), .val (.int v20), .val (.int (v14 + (1 : Int32)))] [])) _
                    refine XS.aloadN X31.here hx rfl (hb hby d10_104) rfl rfl ?_
                    show Steps p.tables e below (T31.setTop (mkF m 105 #[.val (.ref a1), .val (.int p2), .val (.int IE), .val (.int v14), .val (.int v20), .val (.int (v14 + (1 : Int32)))] [(.ref a1)])) _
                    refine XS.iload X31.here hx rfl (hb hby d10_105) rfl ?_
                    show Steps p.tables e below (T31.setTop (mkF m 107 #[.val (.ref a1), .val (.int p2), .val (.int IE), .val (.int v14), .val (.int v20), .val (.int (v14 + (1 : Int32)))] [(.int (v14 + (1 : Int32))), (.ref a1)])) _
                    refine st34.trans ?_
                    show Steps p.tables e below (T34.setTop (mkF m 110 #[.val (.ref a1), .val (.int p2), .val (.int IE), .val (.int v14), .val (.int v20), .val (.int (v14 + (1 : Int32)))] [(.int (cc (v14 + (1 : Int32))))])) _
                    refine XS.bipush X34.here hx rfl (hb hby d10_110) ?_
                    exact k)
                  obtain ⟨T43, L43, X43, e43, N43, Zs43, pre43⟩ : ∃ (T' : State) (L' : List Loc), Stand p l e ({ frames := 6, cells := 0, slots := 0, locals := 80 } : Room) s m #[(.ref a1), (.int p2)] below meth c T' L' 0 0 ∧ T'.heap = h0 ∧ Fr n0 L' ∧ n0 ≤ h0.size ∧ ∀ t, Steps p.tables e below (T'.setTop (mkF m 129 #[.val (.ref a1), .val (.int p2), .val (.int IE), .val (.int v14), .val (.int v20), .val (.int v42)] [])) t → Steps p.tables e below (s₁.setTop (entryFrame m #[(.ref a1), (.int p2)] 6)) t := by
                    by_cases hc36 : (cc (v14 + (1 : Int32))) = (43 : Int32)
                    · have pre37 : ∀ t, Steps p.tables e below (T34.setTop (mkF m 129 #[.val (.ref a1), .val (.int p2), .val (.int IE), .val (.int v14), .val (.int v20), .val (.int ((v14 + (1 : Int32)) + (1 : Int32)))] [])) t → Steps p.tables e below (s₁.setTop (entryFrame m #[(.ref a1), (.int p2)] 6)) t := fun t k => pre35 t (by
                        show Steps p.tables e below (T34.setTop (mkF m 112 #[.val (.ref a1), .val (.int p2), .val (.int IE), .val (.int v14), .val (.int v20), .val (.int (v14 + (1 : Int32)))] [(.int (43 : Int32)), (.int (cc (v14 + (1 : Int32))))])) _
                        refine XS.icmpYes X34.here hx rfl (pc0 := 112) (pc' := 126) rfl (hb hby d10_112) rfl (teq hc36).1 (by decide) (by decide) ?_
                        show Steps p.tables e below (T34.setTop (mkF m 126 #[.val (.ref a1), .val (.int p2), .val (.int IE), .val (.int v14), .val (.int v20), .val (.int (v14 + (1 : Int32)))] [])) _
                        refine XS.iinc X34.here hx rfl (hb hby d10_126) rfl (l' := #[.val (.ref a1), .val (.int p2), .val (.int IE), .val (.int v14), .val (.int v20), .val (.int ((v14 + (1 : Int32)) + (1 : Int32)))]) rfl ?_
                        exact k)
                      have evv42 : v42 = ((v14 + (1 : Int32)) + (1 : Int32)) := by exact hv42.trans (if_pos hc36)
                      subst evv42
                      exact ⟨T34, _, X34, e34, N34, Zs15, pre37⟩
                    · obtain ⟨cq38, kq38, q38a, q38b, q38c⟩ := isOf hZ e34 hStr.1
                      obtain ⟨_, _, ⟨T38, L38, k38, n38⟩, -, X38, ⟨Lc38, hQ38, l38, y38, z38⟩, st38⟩ := X34.virtualBack hx (y := (⟨"java/lang/String", "charAt", "(I)C"⟩ : MethodName)) (z := (⟨"java/lang/String", "charAt", "(I)C"⟩ : MethodName)) hown (mvT hZ (hw _ (List.mem_of_getElem? (i := 59) rfl))) (mvT hZ (hw _ (List.mem_of_getElem? (i := 60) rfl))) (notFace_of_selects (args := #[]) (mvT hZ (hw _ (List.mem_of_getElem? (i := 62) rfl)))) (mvT hZ (hw _ (List.mem_of_getElem? (i := 62) rfl))) (mvT hZ (hw _ (List.mem_of_getElem? (i := 61) rfl))) (by decide) (backOf (W := 0) (rm14 l Z a0 hw [] a1 (v14 + (1 : Int32)) cs cc h0 n0 Zs15 hWd hStr ⟨own_nl (own_p1 (by omega) hc27).1, hc33⟩ O0) hZ (hw _ (List.mem_of_getElem? (i := 63) rfl)) (hw _ (List.mem_of_getElem? (i := 9) rfl)) (by decide) (by decide)) q38a q38c (g := (mkF m 118 #[.val (.ref a1), .val (.int p2), .val (.int IE), .val (.int v14), .val (.int v20), .val (.int (v14 + (1 : Int32)))] [(.int (v14 + (1 : Int32))), (.ref a1)])) rfl (by rw [hml]; rfl) (Steps.refl _) (argsL := [(.int (v14 + (1 : Int32)))]) (rest := []) (lenOf pd_8 rfl) rfl (by show 2 * 0 + _ ≤ _; exact Nat.le_of_eq rfl) (hb hby d10_118) (fun _ _ => ⟨rfl, e34, (by decide : 0 + 0 ≤ _), (by decide : 0 + 0 ≤ _)⟩)
                      dsimp only [Pt.U, Pt.locs, Pt.cells, Pt.slots] at X38 l38 y38 z38 st38 hQ38
                      subst l38 y38 z38
                      obtain ⟨rfl, N38q, e38⟩ := hQ38
                      have N38 := Fr.app N34 N38q
                      obtain ⟨v40, hv40⟩ : ∃ z : Int32, z = (if (cc (v14 + (1 : Int32))) = (45 : Int32) then ((v14 + (1 : Int32)) + (1 : Int32)) else (v14 + (1 : Int32))) := ⟨_, rfl⟩
                      have pre41 : ∀ t, Steps p.tables e below (T38.setTop (mkF m 129 #[.val (.ref a1), .val (.int p2), .val (.int IE), .val (.int v14), .val (.int v20), .val (.int v40)] [])) t → Steps p.tables e below (s₁.setTop (entryFrame m #[(.ref a1), (.int p2)] 6)) t := fun t k => pre35 t (by
                        show Steps p.tables e below (T34.setTop (mkF m 112 #[.val (.ref a1), .val (.int p2), .val (.int IE), .val (.int v14), .val (.int v20), .val (.int (v14 + (1 : Int32)))] [(.int (43 : Int32)), (.int (cc (v14 + (1 : Int32))))])) _
                        refine XS.icmpNo X34.here hx rfl (hb hby d10_112) rfl (feq hc36).1 ?_
                        show Steps p.tables e below (T34.setTop (mkF m 115 #[.val (.ref a1), .val (.int p2), .val (.int IE), .val (.int v14), .val (.int v20), .val (.int (v14 + (1 : Int32)))] [])) _
                        refine XS.aloadN X34.here hx rfl (hb hby d10_115) rfl rfl ?_
                        show Steps p.tables e below (T34.setTop (mkF m 116 #[.val (.ref a1), .val (.int p2), .val (.int IE), .val (.int v14), .val (.int v20), .val (.int (v14 + (1 : Int32)))] [(.ref a1)])) _
                        refine XS.iload X34.here hx rfl (hb hby d10_116) rfl ?_
                        show Steps p.tables e below (T34.setTop (mkF m 118 #[.val (.ref a1), .val (.int p2), .val (.int IE), .val (.int v14), .val (.int v20), .val (.int (v14 + (1 : Int32)))] [(.int (v14 + (1 : Int32))), (.ref a1)])) _
                        refine st38.trans ?_
                        show Steps p.tables e below (T38.setTop (mkF m 121 #[.val (.ref a1), .val (.int p2), .val (.int IE), .val (.int v14), .val (.int v20), .val (.int (v14 + (1 : Int32)))] [(.int (cc (v14 + (1 : Int32))))])) _
                        refine XS.bipush X38.here hx rfl (hb hby d10_121) ?_
                        show Steps p.tables e below (T38.setTop (mkF m 123 #[.val (.ref a1), .val (.int p2), .val (.int IE), .val (.int v14), .val (.int v20), .val (.int (v14 + (1 : Int32)))] [(.int (45 : Int32)), (.int (cc (v14 + (1 : Int32))))])) _
                        by_cases hc39 : (cc (v14 + (1 : Int32))) = (45 : Int32)
                        · refine XS.icmpNo X38.here hx rfl (hb hby d10_123) rfl (teq hc39).2 ?_
                          show Steps p.tables e below (T38.setTop (mkF m 126 #[.val (.ref a1), .val (.int p2), .val (.int IE), .val (.int v14), .val (.int v20), .val (.int (v14 + (1 : Int32)))] [])) _
                          refine XS.iinc X38.here hx rfl (hb hby d10_126) rfl (l' := #[.val (.ref a1), .val (.int p2), .val (.int IE), .val (.int v14), .val (.int v20), .val (.int ((v14 + (1 : Int32)) + (1 : Int32)))]) rfl ?_
                          rw [show v40 = ((v14 + (1 : Int32)) + (1 : Int32)) from hv40.trans (if_pos hc39)] at k
                          exact k
                        · refine XS.icmpYes X38.here hx rfl (pc0 := 123) (pc' := 129) rfl (hb hby d10_123) rfl (feq hc39).2 (by decide) (by decide) ?_
                          rw [show v40 = (v14 + (1 : Int32)) from hv40.trans (if_neg hc39)] at k
                          exact k)
                      have evv42 : v42 = v40 := by subst hv40; exact hv42.trans (if_neg hc36)
                      subst evv42
                      exact ⟨T38, _, X38, e38, N38, Zs15, pre41⟩
                  have evv45 : v45 = v42 := by subst hv42; exact hv45.trans (if_pos hc33)
                  subst evv45
                  exact ⟨T43, _, X43, e43, N43, Zs43, pre43⟩
                · have pre44 : ∀ t, Steps p.tables e below (T31.setTop (mkF m 129 #[.val (.ref a1), .val (.int p2), .val (.int IE), .val (.int v14), .val (.int v20), .val (.int (v14 + (1 : Int32)))] [])) t → Steps p.tables e below (s₁.setTop (entryFrame m #[(.ref a1), (.int p2)] 6)) t := fun t k => pre32 t (by
                    show Steps p.tables e below (T31.setTop (mkF m 101 #[.val (.ref a1), .val (.int p2), .val (.int IE), .val (.int v14), .val (.int v20), .val (.int (v14 + (1 : Int32)))] [(.int (6 : Int32)), (.int (v14 + (1 : Int32)))])) _
                    refine XS.icmpYes X31.here hx rfl (pc0 := 101) (pc' := 129) rfl (hb hby d10_101) rfl (flt hc33).2.1 (by decide) (by decide) ?_
                    exact k)
                  have evv45 : v45 = (v14 + (1 : Int32)) := by exact hv45.trans (if_neg hc33)
                  subst evv45
                  exact ⟨T31, _, X31, e31, N31, Zs15, pre44⟩
              have rX := own_r129 (cc := cc) (I := v14) (by omega) hc27 hv45
              obtain ⟨_, _, ⟨T47, L47, k47, n47⟩, -, X47, ⟨Lc47, hQ47, l47, y47, z47⟩, st47⟩ := Jvm.LawKit.callS X46 hx (y := (⟨"com/example/prewrm/prewrm/io/CsvFields", "digitsEnd", "(Ljava/lang/String;I)I"⟩ : MethodName)) hown (mvT hZ (hw _ (List.mem_of_getElem? (i := 46) rfl))) (mvT hZ (hw _ (List.mem_of_getElem? (i := 47) rfl))) (mvT hZ (hw _ (List.mem_of_getElem? (i := 44) rfl))) (mvT hZ (hw _ (List.mem_of_getElem? (i := 48) rfl))) (by decide) (backOf (W := 0) (rm11 l Z a0 hw [] a1 v45 cs cc h0 n0 Zs46 hWd hStr rX O0) hZ (hw _ (List.mem_of_getElem? (i := 48) rfl)) (hw _ (List.mem_of_getElem? (i := 44) rfl)) (by decide) (by decide)) (g := (mkF m 132 #[.val (.ref a1), .val (.int p2), .val (.int IE), .val (.int v14), .val (.int v20), .val (.int v45)] [(.int v45), (.ref a1)])) rfl (by rw [hml]; rfl) (argsL := [(.ref a1), (.int v45)]) (rest := []) (lenOf pd_10 rfl) rfl (by show 2 * 0 + _ ≤ _; exact Nat.le_of_eq rfl) (hb hby d10_132) (fun _ _ => ⟨rfl, e46, (by decide : 0 + 0 ≤ _), (by decide : 0 + 0 ≤ _)⟩)
              dsimp only [Pt.U, Pt.locs, Pt.cells, Pt.slots] at X47 l47 y47 z47 st47 hQ47
              subst l47 y47 z47
              obtain ⟨rfl, N47q, e47⟩ := hQ47
              have N47 := Fr.app N46 N47q
              obtain ⟨v49, hv49⟩ : ∃ z : Int32, z = (if v45 < (own_E cc v45) then (1 : Int32) else (0 : Int32)) := ⟨_, rfl⟩
              have pre50 : ∀ t, Steps p.tables e below (T47.setTop (mkF m 147 #[.val (.ref a1), .val (.int p2), .val (.int IE), .val (.int (own_E cc v45)), .val (.int v20), .val (.int v45)] [(.int v49)])) t → Steps p.tables e below (s₁.setTop (entryFrame m #[(.ref a1), (.int p2)] 6)) t := fun t k => pre46 t (by
                show Steps p.tables e below (T46.setTop (mkF m 129 #[.val (.ref a1), .val (.int p2), .val (.int IE), .val (.int v14), .val (.int v20), .val (.int v45)] [])) _
                refine XS.aloadN X46.here hx rfl (hb hby d10_129) rfl rfl ?_
                show Steps p.tables e below (T46.setTop (mkF m 130 #[.val (.ref a1), .val (.int p2), .val (.int IE), .val (.int v14), .val (.int v20), .val (.int v45)] [(.ref a1)])) _
                refine XS.iload X46.here hx rfl (hb hby d10_130) rfl ?_
                show Steps p.tables e below (T46.setTop (mkF m 132 #[.val (.ref a1), .val (.int p2), .val (.int IE), .val (.int v14), .val (.int v20), .val (.int v45)] [(.int v45), (.ref a1)])) _
                refine st47 _ ?_
                show Steps p.tables e below (T47.setTop (mkF m 135 #[.val (.ref a1), .val (.int p2), .val (.int IE), .val (.int v14), .val (.int v20), .val (.int v45)] [(.int (own_E cc v45))])) _
                refine XS.istoreN X47.here hx rfl (hb hby d10_135) rfl (l' := #[.val (.ref a1), .val (.int p2), .val (.int IE), .val (.int (own_E cc v45)), .val (.int v20), .val (.int v45)]) rfl ?_
                show Steps p.tables e below (T47.setTop (mkF m 136 #[.val (.ref a1), .val (.int p2), .val (.int IE), .val (.int (own_E cc v45)), .val (.int v20), .val (.int v45)] [])) _
                refine XS.iloadN X47.here hx rfl (hb hby d10_136) rfl ?_
                show Steps p.tables e below (T47.setTop (mkF m 137 #[.val (.ref a1), .val (.int p2), .val (.int IE), .val (.int (own_E cc v45)), .val (.int v20), .val (.int v45)] [(.int (own_E cc v45))])) _
                refine XS.iload X47.here hx rfl (hb hby d10_137) rfl ?_
                show Steps p.tables e below (T47.setTop (mkF m 139 #[.val (.ref a1), .val (.int p2), .val (.int IE), .val (.int (own_E cc v45)), .val (.int v20), .val (.int v45)] [(.int v45), (.int (own_E cc v45))])) _
                by_cases hc48 : v45 < (own_E cc v45)
                · refine XS.icmpNo X47.here hx rfl (hb hby d10_139) rfl (tlt hc48).2.2.2 ?_
                  show Steps p.tables e below (T47.setTop (mkF m 142 #[.val (.ref a1), .val (.int p2), .val (.int IE), .val (.int (own_E cc v45)), .val (.int v20), .val (.int v45)] [])) _
                  refine XS.iconst X47.here hx rfl (hb hby d10_142) ?_
                  show Steps p.tables e below (T47.setTop (mkF m 143 #[.val (.ref a1), .val (.int p2), .val (.int IE), .val (.int (own_E cc v45)), .val (.int v20), .val (.int v45)] [(.int (1 : Int32))])) _
                  refine XS.goto X47.here hx rfl (pc0 := 143) (pc' := 147) rfl (hb hby d10_143) (by decide) (by decide) ?_
                  rw [show v49 = (1 : Int32) from hv49.trans (if_pos hc48)] at k
                  exact k
                · refine XS.icmpYes X47.here hx rfl (pc0 := 139) (pc' := 146) rfl (hb hby d10_139) rfl (flt hc48).2.2.2 (by decide) (by decide) ?_
                  show Steps p.tables e below (T47.setTop (mkF m 146 #[.val (.ref a1), .val (.int p2), .val (.int IE), .val (.int (own_E cc v45)), .val (.int v20), .val (.int v45)] [])) _
                  refine XS.iconst X47.here hx rfl (hb hby d10_146) ?_
                  rw [show v49 = (0 : Int32) from hv49.trans (if_neg hc48)] at k
                  exact k)
              have pre51 : ∀ t, Steps p.tables e below (T47.setTop (mkF m 149 #[.val (.ref a1), .val (.int p2), .val (.int IE), .val (.int (own_E cc v45)), .val (.int v49), .val (.int v45)] [])) t → Steps p.tables e below (s₁.setTop (entryFrame m #[(.ref a1), (.int p2)] 6)) t := fun t k => pre50 t (by
                show Steps p.tables e below (T47.setTop (mkF m 147 #[.val (.ref a1), .val (.int p2), .val (.int IE), .val (.int (own_E cc v45)), .val (.int v20), .val (.int v45)] [(.int v49)])) _
                refine XS.istore X47.here hx rfl (hb hby d10_147) rfl (l' := #[.val (.ref a1), .val (.int p2), .val (.int IE), .val (.int (own_E cc v45)), .val (.int v49), .val (.int v45)]) rfl ?_
                exact k)
              have evv81 : v81 = (own_E cc v45) := by subst hv45 hv49; exact hv81.trans (if_pos hc30)
              have evv82 : v82 = v49 := by subst hv45 hv49; exact hv82.trans (if_pos hc30)
              have evsl83 : sl83 = (.val (.int v45) : Slot) := by subst hv45 hv49; exact hsl83.trans (if_pos hc30)
              subst evv81
              subst evv82
              subst evsl83
              exact ⟨T47, _, X47, e47, N47, Zs46, pre51⟩
            · obtain ⟨cq52, kq52, q52a, q52b, q52c⟩ := isOf hZ e28 hStr.1
              obtain ⟨_, _, ⟨T52, L52, k52, n52⟩, -, X52, ⟨Lc52, hQ52, l52, y52, z52⟩, st52⟩ := X28.virtualBack hx (y := (⟨"java/lang/String", "charAt", "(I)C"⟩ : MethodName)) (z := (⟨"java/lang/String", "charAt", "(I)C"⟩ : MethodName)) hown (mvT hZ (hw _ (List.mem_of_getElem? (i := 59) rfl))) (mvT hZ (hw _ (List.mem_of_getElem? (i := 60) rfl))) (notFace_of_selects (args := #[]) (mvT hZ (hw _ (List.mem_of_getElem? (i := 62) rfl)))) (mvT hZ (hw _ (List.mem_of_getElem? (i := 62) rfl))) (mvT hZ (hw _ (List.mem_of_getElem? (i := 61) rfl))) (by decide) (backOf (W := 0) (rm14 l Z a0 hw [] a1 v14 cs cc h0 n0 Zs15 hWd hStr ⟨own_nl (by omega), hc27⟩ O0) hZ (hw _ (List.mem_of_getElem? (i := 63) rfl)) (hw _ (List.mem_of_getElem? (i := 9) rfl)) (by decide) (by decide)) q52a q52c (g := (mkF m 82 #[.val (.ref a1), .val (.int p2), .val (.int IE), .val (.int v14), .val (.int v20), .unset] [(.int v14), (.ref a1)])) rfl (by rw [hml]; rfl) (Steps.refl _) (argsL := [(.int v14)]) (rest := []) (lenOf pd_8 rfl) rfl (by show 2 * 0 + _ ≤ _; exact Nat.le_of_eq rfl) (hb hby d10_82) (fun _ _ => ⟨rfl, e28, (by decide : 0 + 0 ≤ _), (by decide : 0 + 0 ≤ _)⟩)
              dsimp only [Pt.U, Pt.locs, Pt.cells, Pt.slots] at X52 l52 y52 z52 st52 hQ52
              subst l52 y52 z52
              obtain ⟨rfl, N52q, e52⟩ := hQ52
              have N52 := Fr.app N28 N52q
              obtain ⟨v77, hv77⟩ : ∃ z : Int32, z = (if (cc v14) = (69 : Int32) then (own_E cc (if (v14 + (1 : Int32)) < (6 : Int32) then (if (cc (v14 + (1 : Int32))) = (43 : Int32) then ((v14 + (1 : Int32)) + (1 : Int32)) else (if (cc (v14 + (1 : Int32))) = (45 : Int32) then ((v14 + (1 : Int32)) + (1 : Int32)) else (v14 + (1 : Int32)))) else (v14 + (1 : Int32)))) else v14) := ⟨_, rfl⟩
              obtain ⟨v78, hv78⟩ : ∃ z : Int32, z = (if (cc v14) = (69 : Int32) then (if (if (v14 + (1 : Int32)) < (6 : Int32) then (if (cc (v14 + (1 : Int32))) = (43 : Int32) then ((v14 + (1 : Int32)) + (1 : Int32)) else (if (cc (v14 + (1 : Int32))) = (45 : Int32) then ((v14 + (1 : Int32)) + (1 : Int32)) else (v14 + (1 : Int32)))) else (v14 + (1 : Int32))) < (own_E cc (if (v14 + (1 : Int32)) < (6 : Int32) then (if (cc (v14 + (1 : Int32))) = (43 : Int32) then ((v14 + (1 : Int32)) + (1 : Int32)) else (if (cc (v14 + (1 : Int32))) = (45 : Int32) then ((v14 + (1 : Int32)) + (1 : Int32)) else (v14 + (1 : Int32)))) else (v14 + (1 : Int32)))) then (1 : Int32) else (0 : Int32)) else v20) := ⟨_, rfl⟩
              obtain ⟨sl79, hsl79⟩ : ∃ z : Slot, z = (if (cc v14) = (69 : Int32) then (.val (.int (if (v14 + (1 : Int32)) < (6 : Int32) then (if (cc (v14 + (1 : Int32))) = (43 : Int32) then ((v14 + (1 : Int32)) + (1 : Int32)) else (if (cc (v14 + (1 : Int32))) = (45 : Int32) then ((v14 + (1 : Int32)) + (1 : Int32)) else (v14 + (1 : Int32)))) else (v14 + (1 : Int32)))) : Slot) else (.unset : Slot)) := ⟨_, rfl⟩
              have pre53 : ∀ t, Steps p.tables e below (T52.setTop (mkF m 87 #[.val (.ref a1), .val (.int p2), .val (.int IE), .val (.int v14), .val (.int v20), .unset] [(.int (69 : Int32)), (.int (cc v14))])) t → Steps p.tables e below (s₁.setTop (entryFrame m #[(.ref a1), (.int p2)] 6)) t := fun t k => pre29 t (by
                show Steps p.tables e below (T28.setTop (mkF m 77 #[.val (.ref a1), .val (.int p2), .val (.int IE), .val (.int v14), .val (.int v20), .unset] [(.int (101 : Int32)), (.int (cc v14))])) _
                refine XS.icmpNo X28.here hx rfl (hb hby d10_77) rfl (feq hc30).1 ?_
                show Steps p.tables e below (T28.setTop (mkF m 80 #[.val (.ref a1), .val (.int p2), .val (.int IE), .val (.int v14), .val (.int v20), .unset] [])) _
                refine XS.aloadN X28.here hx rfl (hb hby d10_80) rfl rfl ?_
                show Steps p.tables e below (T28.setTop (mkF m 81 #[.val (.ref a1), .val (.int p2), .val (.int IE), .val (.int v14), .val (.int v20), .unset] [(.ref a1)])) _
                refine XS.iloadN X28.here hx rfl (hb hby d10_81) rfl ?_
                show Steps p.tables e below (T28.setTop (mkF m 82 #[.val (.ref a1), .val (.int p2), .val (.int IE), .val (.int v14), .val (.int v20), .unset] [(.int v14), (.ref a1)])) _
                refine st52.trans ?_
                show Steps p.tables e below (T52.setTop (mkF m 85 #[.val (.ref a1), .val (.int p2), .val (.int IE), .val (.int v14), .val (.int v20), .unset] [(.int (cc v14))])) _
                refine XS.bipush X52.here hx rfl (hb hby d10_85) ?_
                exact k)
              obtain ⟨T80, L80, X80, e80, N80, Zs80, pre80⟩ : ∃ (T' : State) (L' : List Loc), Stand p l e ({ frames := 6, cells := 0, slots := 0, locals := 80 } : Room) s m #[(.ref a1), (.int p2)] below meth c T' L' 0 0 ∧ T'.heap = h0 ∧ Fr n0 L' ∧ n0 ≤ h0.size ∧ ∀ t, Steps p.tables e below (T'.setTop (mkF m 149 #[.val (.ref a1), .val (.int p2), .val (.int IE), .val (.int v77), .val (.int v78), sl79] [])) t → Steps p.tables e below (s₁.setTop (entryFrame m #[(.ref a1), (.int p2)] 6)) t := by
                by_cases hc54 : (cc v14) = (69 : Int32)
                · obtain ⟨cq55, kq55, q55a, q55b, q55c⟩ := isOf hZ e52 hStr.1
                  obtain ⟨_, _, ⟨T55, L55, k55, n55⟩, -, X55, ⟨Lc55, hQ55, l55, y55, z55⟩, st55⟩ := X52.virtualBack hx (y := (⟨"java/lang/String", "length", "()I"⟩ : MethodName)) (z := (⟨"java/lang/String", "length", "()I"⟩ : MethodName)) hown (mvT hZ (hw _ (List.mem_of_getElem? (i := 49) rfl))) (mvT hZ (hw _ (List.mem_of_getElem? (i := 50) rfl))) (notFace_of_selects (args := #[]) (mvT hZ (hw _ (List.mem_of_getElem? (i := 52) rfl)))) (mvT hZ (hw _ (List.mem_of_getElem? (i := 52) rfl))) (mvT hZ (hw _ (List.mem_of_getElem? (i := 51) rfl))) (by decide) (backOf (W := 1) (rm12 l Z a0 hw [] a1 cs cc h0 n0 Zs15 hWd hStr O0) hZ (hw _ (List.mem_of_getElem? (i := 53) rfl)) (hw _ (List.mem_of_getElem? (i := 9) rfl)) (by decide) (by decide)) q55a q55c (g := (mkF m 98 #[.val (.ref a1), .val (.int p2), .val (.int IE), .val (.int v14), .val (.int v20), .val (.int (v14 + (1 : Int32)))] [(.ref a1), (.int (v14 + (1 : Int32)))])) rfl (by rw [hml]; rfl) (Steps.refl _) (argsL := []) (rest := [(.int (v14 + (1 : Int32)))]) (lenOf pd_7 rfl) rfl (by show 2 * 0 + _ ≤ _; exact Nat.le_of_eq rfl) (hb hby d10_98) (fun _ _ => ⟨rfl, e52, (by decide : 0 + 0 ≤ _), (by decide : 0 + 0 ≤ _)⟩)
                  dsimp only [Pt.U, Pt.locs, Pt.cells, Pt.slots] at X55 l55 y55 z55 st55 hQ55
                  subst l55 y55 z55
                  obtain ⟨rfl, N55q, e55⟩ := hQ55
                  have N55 := Fr.app N52 N55q
                  obtain ⟨v69, hv69⟩ : ∃ z : Int32, z = (if (v14 + (1 : Int32)) < (6 : Int32) then (if (cc (v14 + (1 : Int32))) = (43 : Int32) then ((v14 + (1 : Int32)) + (1 : Int32)) else (if (cc (v14 + (1 : Int32))) = (45 : Int32) then ((v14 + (1 : Int32)) + (1 : Int32)) else (v14 + (1 : Int32)))) else (v14 + (1 : Int32))) := ⟨_, rfl⟩
                  have pre56 : ∀ t, Steps p.tables e below (T55.setTop (mkF m 101 #[.val (.ref a1), .val (.int p2), .val (.int IE), .val (.int v14), .val (.int v20), .val (.int (v14 + (1 : Int32)))] [(.int (6 : Int32)), (.int (v14 + (1 : Int32)))])) t → Steps p.tables e below (s₁.setTop (entryFrame m #[(.ref a1), (.int p2)] 6)) t := fun t k => pre53 t (by
                    show Steps p.tables e below (T52.setTop (mkF m 87 #[.val (.ref a1), .val (.int p2), .val (.int IE), .val (.int v14), .val (.int v20), .unset] [(.int (69 : Int32)), (.int (cc v14))])) _
                    refine XS.icmpNo X52.here hx rfl (hb hby d10_87) rfl (teq hc54).2 ?_
                    show Steps p.tables e below (T52.setTop (mkF m 90 #[.val (.ref a1), .val (.int p2), .val (.int IE), .val (.int v14), .val (.int v20), .unset] [])) _
                    refine XS.iloadN X52.here hx rfl (hb hby d10_90) rfl ?_
                    show Steps p.tables e below (T52.setTop (mkF m 91 #[.val (.ref a1), .val (.int p2), .val (.int IE), .val (.int v14), .val (.int v20), .unset] [(.int v14)])) _
                    refine XS.iconst X52.here hx rfl (hb hby d10_91) ?_
                    show Steps p.tables e below (T52.setTop (mkF m 92 #[.val (.ref a1), .val (.int p2), .val (.int IE), .val (.int v14), .val (.int v20), .unset] [(.int (1 : Int32)), (.int v14)])) _
                    refine XS.iadd X52.here hx rfl (hb hby d10_92) rfl ?_
                    show Steps p.tables e below (T52.setTop (mkF m 93 #[.val (.ref a1), .val (.int p2), .val (.int IE), .val (.int v14), .val (.int v20), .unset] [(.int (v14 + (1 : Int32)))])) _
                    refine XS.istore X52.here hx rfl (hb hby d10_93) rfl (l' := #[.val (.ref a1), .val (.int p2), .val (.int IE), .val (.int v14), .val (.int v20), .val (.int (v14 + (1 : Int32)))]) rfl ?_
                    show Steps p.tables e below (T52.setTop (mkF m 95 #[.val (.ref a1), .val (.int p2), .val (.int IE), .val (.int v14), .val (.int v20), .val (.int (v14 + (1 : Int32)))] [])) _
                    refine XS.iload X52.here hx rfl (hb hby d10_95) rfl ?_
                    show Steps p.tables e below (T52.setTop (mkF m 97 #[.val (.ref a1), .val (.int p2), .val (.int IE), .val (.int v14), .val (.int v20), .val (.int (v14 + (1 : Int32)))] [(.int (v14 + (1 : Int32)))])) _
                    refine XS.aloadN X52.here hx rfl (hb hby d10_97) rfl rfl ?_
                    show Steps p.tables e below (T52.setTop (mkF m 98 #[.val (.ref a1), .val (.int p2), .val (.int IE), .val (.int v14), .val (.int v20), .val (.int (v14 + (1 : Int32)))] [(.ref a1), (.int (v14 + (1 : Int32)))])) _
                    refine st55.trans ?_
                    exact k)
                  obtain ⟨T70, L70, X70, e70, N70, Zs70, pre70⟩ : ∃ (T' : State) (L' : List Loc), Stand p l e ({ frames := 6, cells := 0, slots := 0, locals := 80 } : Room) s m #[(.ref a1), (.int p2)] below meth c T' L' 0 0 ∧ T'.heap = h0 ∧ Fr n0 L' ∧ n0 ≤ h0.size ∧ ∀ t, Steps p.tables e below (T'.setTop (mkF m 129 #[.val (.ref a1), .val (.int p2), .val (.int IE), .val (.int v14), .val (.int v20), .val (.int v69)] [])) t → Steps p.tables e below (s₁.setTop (entryFrame m #[(.ref a1), (.int p2)] 6)) t := by
                    by_cases hc57 : (v14 + (1 : Int32)) < (6 : Int32)
                    · obtain ⟨cq58, kq58, q58a, q58b, q58c⟩ := isOf hZ e55 hStr.1
                      obtain ⟨_, _, ⟨T58, L58, k58, n58⟩, -, X58, ⟨Lc58, hQ58, l58, y58, z58⟩, st58⟩ := X55.virtualBack hx (y := (⟨"java/lang/String", "charAt", "(I)C"⟩ : MethodName)) (z := (⟨"java/lang/String", "charAt", "(I)C"⟩ : MethodName)) hown (mvT hZ (hw _ (List.mem_of_getElem? (i := 59) rfl))) (mvT hZ (hw _ (List.mem_of_getElem? (i := 60) rfl))) (notFace_of_selects (args := #[]) (mvT hZ (hw _ (List.mem_of_getElem? (i := 62) rfl)))) (mvT hZ (hw _ (List.mem_of_getElem? (i := 62) rfl))) (mvT hZ (hw _ (List.mem_of_getElem? (i := 61) rfl))) (by decide) (backOf (W := 0) (rm14 l Z a0 hw [] a1 (v14 + (1 : Int32)) cs cc h0 n0 Zs15 hWd hStr ⟨own_nl (own_p1 (by omega) hc27).1, hc57⟩ O0) hZ (hw _ (List.mem_of_getElem? (i := 63) rfl)) (hw _ (List.mem_of_getElem? (i := 9) rfl)) (by decide) (by decide)) q58a q58c (g := (mkF m 107 #[.val (.ref a1), .val (.int p2), .val (.int IE), .val (.int v14), .val (.int v20), .val (.int (v14 + (1 : Int32)))] [(.int (v14 + (1 : Int32))), (.ref a1)])) rfl (by rw [hml]; rfl) (Steps.refl _) (argsL := [(.int (v14 + (1 : Int32)))]) (rest := []) (lenOf pd_8 rfl) rfl (by show 2 * 0 + _ ≤ _; exact Nat.le_of_eq rfl) (hb hby d10_107) (fun _ _ => ⟨rfl, e55, (by decide : 0 + 0 ≤ _), (by decide : 0 + 0 ≤ _)⟩)
                      dsimp only [Pt.U, Pt.locs, Pt.cells, Pt.slots] at X58 l58 y58 z58 st58 hQ58
                      subst l58 y58 z58
                      obtain ⟨rfl, N58q, e58⟩ := hQ58
                      have N58 := Fr.app N55 N58q
                      obtain ⟨v66, hv66⟩ : ∃ z : Int32, z = (if (cc (v14 + (1 : Int32))) = (43 : Int32) then ((v14 + (1 : Int32)) + (1 : Int32)) else (if (cc (v14 + (1 : Int32))) = (45 : Int32) then ((v14 + (1 : Int32)) + (1 : Int32)) else (v14 + (1 : Int32)))) := ⟨_, rfl⟩
                      have pre59 : ∀ t, Steps p.tables e below (T58.setTop (mkF m 112 #[.val (.ref a1), .val (.int p2), .val (.int IE), .val (.int v14), .val (.int v20), .val (.int (v14 + (1 : Int32)))] [(.int (43 : Int32)), (.int (cc (v14 + (1 : Int32))))])) t → Steps p.tables e below (s₁.setTop (entryFrame m #[(.ref a1), (.int p2)] 6)) t := fun t k => pre56 t (by
                        show Steps p.tables e below (T55.setTop (mkF m 101 #[.val (.ref a1), .val (.int p2), .val (.int IE), .val (.int v14), .val (.int v20), .val (.int (v14 + (1 : Int32)))] [(.int (6 : Int32)), (.int (v14 + (1 : Int32)))])) _
                        refine XS.icmpNo X55.here hx rfl (hb hby d10_101) rfl (tlt hc57).2.1 ?_
                        show Steps p.tables e below (T55.setTop (mkF m 104 #[.val (.ref a1), .val (.int p2), .val (.int IE), .val (.int v14), .val (.int v20), .val (.int (v14 + (1 : Int32)))] [])) _
                        refine XS.aloadN X55.here hx rfl (hb hby d10_104) rfl rfl ?_
                        show Steps p.tables e below (T55.setTop (mkF m 105 #[.val (.ref a1), .val (.int p2), .val (.int IE), .val (.int v14), .val (.int v20), .val (.int (v14 + (1 : Int32)))] [(.ref a1)])) _
                        refine XS.iload X55.here hx rfl (hb hby d10_105) rfl ?_
                        show Steps p.tables e below (T55.setTop (mkF m 107 #[.val (.ref a1), .val (.int p2), .val (.int IE), .val (.int v14), .val (.int v20), .val (.int (v14 + (1 : Int32)))] [(.int (v14 + (1 : Int32))), (.ref a1)])) _
                        refine st58.trans ?_
                        show Steps p.tables e below (T58.setTop (mkF m 110 #[.val (.ref a1), .val (.int p2), .val (.int IE), .val (.int v14), .val (.int v20), .val (.int (v14 + (1 : Int32)))] [(.int (cc (v14 + (1 : Int32))))])) _
                        refine XS.bipush X58.here hx rfl (hb hby d10_110) ?_
                        exact k)
                      obtain ⟨T67, L67, X67, e67, N67, Zs67, pre67⟩ : ∃ (T' : State) (L' : List Loc), Stand p l e ({ frames := 6, cells := 0, slots := 0, locals := 80 } : Room) s m #[(.ref a1), (.int p2)] below meth c T' L' 0 0 ∧ T'.heap = h0 ∧ Fr n0 L' ∧ n0 ≤ h0.size ∧ ∀ t, Steps p.tables e below (T'.setTop (mkF m 129 #[.val (.ref a1), .val (.int p2), .val (.int IE), .val (.int v14), .val (.int v20), .val (.int v66)] [])) t → Steps p.tables e below (s₁.setTop (entryFrame m #[(.ref a1), (.int p2)] 6)) t := by
                        by_cases hc60 : (cc (v14 + (1 : Int32))) = (43 : Int32)
                        · have pre61 : ∀ t, Steps p.tables e below (T58.setTop (mkF m 129 #[.val (.ref a1), .val (.int p2), .val (.int IE), .val (.int v14), .val (.int v20), .val (.int ((v14 + (1 : Int32)) + (1 : Int32)))] [])) t → Steps p.tables e below (s₁.setTop (entryFrame m #[(.ref a1), (.int p2)] 6)) t := fun t k => pre59 t (by
                            show Steps p.tables e below (T58.setTop (mkF m 112 #[.val (.ref a1), .val (.int p2), .val (.int IE), .val (.int v14), .val (.int v20), .val (.int (v14 + (1 : Int32)))] [(.int (43 : Int32)), (.int (cc (v14 + (1 : Int32))))])) _
                            refine XS.icmpYes X58.here hx rfl (pc0 := 112) (pc' := 126) rfl (hb hby d10_112) rfl (teq hc60).1 (by decide) (by decide) ?_
                            show Steps p.tables e below (T58.setTop (mkF m 126 #[.val (.ref a1), .val (.int p2), .val (.int IE), .val (.int v14), .val (.int v20), .val (.int (v14 + (1 : Int32)))] [])) _
                            refine XS.iinc X58.here hx rfl (hb hby d10_126) rfl (l' := #[.val (.ref a1), .val (.int p2), .val (.int IE), .val (.int v14), .val (.int v20), .val (.int ((v14 + (1 : Int32)) + (1 : Int32)))]) rfl ?_
                            exact k)
                          have evv66 : v66 = ((v14 + (1 : Int32)) + (1 : Int32)) := by exact hv66.trans (if_pos hc60)
                          subst evv66
                          exact ⟨T58, _, X58, e58, N58, Zs15, pre61⟩
                        · obtain ⟨cq62, kq62, q62a, q62b, q62c⟩ := isOf hZ e58 hStr.1
                          obtain ⟨_, _, ⟨T62, L62, k62, n62⟩, -, X62, ⟨Lc62, hQ62, l62, y62, z62⟩, st62⟩ := X58.virtualBack hx (y := (⟨"java/lang/String", "charAt", "(I)C"⟩ : MethodName)) (z := (⟨"java/lang/String", "charAt", "(I)C"⟩ : MethodName)) hown (mvT hZ (hw _ (List.mem_of_getElem? (i := 59) rfl))) (mvT hZ (hw _ (List.mem_of_getElem? (i := 60) rfl))) (notFace_of_selects (args := #[]) (mvT hZ (hw _ (List.mem_of_getElem? (i := 62) rfl)))) (mvT hZ (hw _ (List.mem_of_getElem? (i := 62) rfl))) (mvT hZ (hw _ (List.mem_of_getElem? (i := 61) rfl))) (by decide) (backOf (W := 0) (rm14 l Z a0 hw [] a1 (v14 + (1 : Int32)) cs cc h0 n0 Zs15 hWd hStr ⟨own_nl (own_p1 (by omega) hc27).1, hc57⟩ O0) hZ (hw _ (List.mem_of_getElem? (i := 63) rfl)) (hw _ (List.mem_of_getElem? (i := 9) rfl)) (by decide) (by decide)) q62a q62c (g := (mkF m 118 #[.val (.ref a1), .val (.int p2), .val (.int IE), .val (.int v14), .val (.int v20), .val (.int (v14 + (1 : Int32)))] [(.int (v14 + (1 : Int32))), (.ref a1)])) rfl (by rw [hml]; rfl) (Steps.refl _) (argsL := [(.int (v14 + (1 : Int32)))]) (rest := []) (lenOf pd_8 rfl) rfl (by show 2 * 0 + _ ≤ _; exact Nat.le_of_eq rfl) (hb hby d10_118) (fun _ _ => ⟨rfl, e58, (by decide : 0 + 0 ≤ _), (by decide : 0 + 0 ≤ _)⟩)
                          dsimp only [Pt.U, Pt.locs, Pt.cells, Pt.slots] at X62 l62 y62 z62 st62 hQ62
                          subst l62 y62 z62
                          obtain ⟨rfl, N62q, e62⟩ := hQ62
                          have N62 := Fr.app N58 N62q
                          obtain ⟨v64, hv64⟩ : ∃ z : Int32, z = (if (cc (v14 + (1 : Int32))) = (45 : Int32) then ((v14 + (1 : Int32)) + (1 : Int32)) else (v14 + (1 : Int32))) := ⟨_, rfl⟩
                          have pre65 : ∀ t, Steps p.tables e below (T62.setTop (mkF m 129 #[.val (.ref a1), .val (.int p2), .val (.int IE), .val (.int v14), .val (.int v20), .val (.int v64)] [])) t → Steps p.tables e below (s₁.setTop (entryFrame m #[(.ref a1), (.int p2)] 6)) t := fun t k => pre59 t (by
                            show Steps p.tables e below (T58.setTop (mkF m 112 #[.val (.ref a1), .val (.int p2), .val (.int IE), .val (.int v14), .val (.int v20), .val (.int (v14 + (1 : Int32)))] [(.int (43 : Int32)), (.int (cc (v14 + (1 : Int32))))])) _
                            refine XS.icmpNo X58.here hx rfl (hb hby d10_112) rfl (feq hc60).1 ?_
                            show Steps p.tables e below (T58.setTop (mkF m 115 #[.val (.ref a1), .val (.int p2), .val (.int IE), .val (.int v14), .val (.int v20), .val (.int (v14 + (1 : Int32)))] [])) _
                            refine XS.aloadN X58.here hx rfl (hb hby d10_115) rfl rfl ?_
                            show Steps p.tables e below (T58.setTop (mkF m 116 #[.val (.ref a1), .val (.int p2), .val (.int IE), .val (.int v14), .val (.int v20), .val (.int (v14 + (1 : Int32)))] [(.ref a1)])) _
                            refine XS.iload X58.here hx rfl (hb hby d10_116) rfl ?_
                            show Steps p.tables e below (T58.setTop (mkF m 118 #[.val (.ref a1), .val (.int p2), .val (.int IE), .val (.int v14), .val (.int v20), .val (.int (v14 + (1 : Int32)))] [(.int (v14 + (1 : Int32))), (.ref a1)])) _
                            refine st62.trans ?_
                            show Steps p.tables e below (T62.setTop (mkF m 121 #[.val (.ref a1), .val (.int p2), .val (.int IE), .val (.int v14), .val (.int v20), .val (.int (v14 + (1 : Int32)))] [(.int (cc (v14 + (1 : Int32))))])) _
                            refine XS.bipush X62.here hx rfl (hb hby d10_121) ?_
                            show Steps p.tables e below (T62.setTop (mkF m 123 #[.val (.ref a1), .val (.int p2), .val (.int IE), .val (.int v14), .val (.int v20), .val (.int (v14 + (1 : Int32)))] [(.int (45 : Int32)), (.int (cc (v14 + (1 : Int32))))])) _
                            by_cases hc63 : (cc (v14 + (1 : Int32))) = (45 : Int32)
                            · refine XS.icmpNo X62.here hx rfl (hb hby d10_123) rfl (teq hc63).2 ?_
                              show Steps p.tables e below (T62.setTop (mkF m 126 #[.val (.ref a1), .val (.int p2), .val (.int IE), .val (.int v14), .val (.int v20), .val (.int (v14 + (1 : Int32)))] [])) _
                              refine XS.iinc X62.here hx rfl (hb hby d10_126) rfl (l' := #[.val (.ref a1), .val (.int p2), .val (.int IE), .val (.int v14), .val (.int v20), .val (.int ((v14 + (1 : Int32)) + (1 : Int32)))]) rfl ?_
                              rw [show v64 = ((v14 + (1 : Int32)) + (1 : Int32)) from hv64.trans (if_pos hc63)] at k
                              exact k
                            · refine XS.icmpYes X62.here hx rfl (pc0 := 123) (pc' := 129) rfl (hb hby d10_123) rfl (feq hc63).2 (by decide) (by decide) ?_
                              rw [show v64 = (v14 + (1 : Int32)) from hv64.trans (if_neg hc63)] at k
                              exact k)
                          have evv66 : v66 = v64 := by subst hv64; exact hv66.trans (if_neg hc60)
                          subst evv66
                          exact ⟨T62, _, X62, e62, N62, Zs15, pre65⟩
                      have evv69 : v69 = v66 := by subst hv66; exact hv69.trans (if_pos hc57)
                      subst evv69
                      exact ⟨T67, _, X67, e67, N67, Zs67, pre67⟩
                    · have pre68 : ∀ t, Steps p.tables e below (T55.setTop (mkF m 129 #[.val (.ref a1), .val (.int p2), .val (.int IE), .val (.int v14), .val (.int v20), .val (.int (v14 + (1 : Int32)))] [])) t → Steps p.tables e below (s₁.setTop (entryFrame m #[(.ref a1), (.int p2)] 6)) t := fun t k => pre56 t (by
                        show Steps p.tables e below (T55.setTop (mkF m 101 #[.val (.ref a1), .val (.int p2), .val (.int IE), .val (.int v14), .val (.int v20), .val (.int (v14 + (1 : Int32)))] [(.int (6 : Int32)), (.int (v14 + (1 : Int32)))])) _
                        refine XS.icmpYes X55.here hx rfl (pc0 := 101) (pc' := 129) rfl (hb hby d10_101) rfl (flt hc57).2.1 (by decide) (by decide) ?_
                        exact k)
                      have evv69 : v69 = (v14 + (1 : Int32)) := by exact hv69.trans (if_neg hc57)
                      subst evv69
                      exact ⟨T55, _, X55, e55, N55, Zs15, pre68⟩
                  have rX := own_r129 (cc := cc) (I := v14) (by omega) hc27 hv69
                  obtain ⟨_, _, ⟨T71, L71, k71, n71⟩, -, X71, ⟨Lc71, hQ71, l71, y71, z71⟩, st71⟩ := Jvm.LawKit.callS X70 hx (y := (⟨"com/example/prewrm/prewrm/io/CsvFields", "digitsEnd", "(Ljava/lang/String;I)I"⟩ : MethodName)) hown (mvT hZ (hw _ (List.mem_of_getElem? (i := 46) rfl))) (mvT hZ (hw _ (List.mem_of_getElem? (i := 47) rfl))) (mvT hZ (hw _ (List.mem_of_getElem? (i := 44) rfl))) (mvT hZ (hw _ (List.mem_of_getElem? (i := 48) rfl))) (by decide) (backOf (W := 0) (rm11 l Z a0 hw [] a1 v69 cs cc h0 n0 Zs70 hWd hStr rX O0) hZ (hw _ (List.mem_of_getElem? (i := 48) rfl)) (hw _ (List.mem_of_getElem? (i := 44) rfl)) (by decide) (by decide)) (g := (mkF m 132 #[.val (.ref a1), .val (.int p2), .val (.int IE), .val (.int v14), .val (.int v20), .val (.int v69)] [(.int v69), (.ref a1)])) rfl (by rw [hml]; rfl) (argsL := [(.ref a1), (.int v69)]) (rest := []) (lenOf pd_10 rfl) rfl (by show 2 * 0 + _ ≤ _; exact Nat.le_of_eq rfl) (hb hby d10_132) (fun _ _ => ⟨rfl, e70, (by decide : 0 + 0 ≤ _), (by decide : 0 + 0 ≤ _)⟩)
                  dsimp only [Pt.U, Pt.locs, Pt.cells, Pt.slots] at X71 l71 y71 z71 st71 hQ71
                  subst l71 y71 z71
                  obtain ⟨rfl, N71q, e71⟩ := hQ71
                  have N71 := Fr.app N70 N71q
                  obtain ⟨v73, hv73⟩ : ∃ z : Int32, z = (if v69 < (own_E cc v69) then (1 : Int32) else (0 : Int32)) := ⟨_, rfl⟩
                  have pre74 : ∀ t, Steps p.tables e below (T71.setTop (mkF m 147 #[.val (.ref a1), .val (.int p2), .val (.int IE), .val (.int (own_E cc v69)), .val (.int v20), .val (.int v69)] [(.int v73)])) t → Steps p.tables e below (s₁.setTop (entryFrame m #[(.ref a1), (.int p2)] 6)) t := fun t k => pre70 t (by
                    show Steps p.tables e below (T70.setTop (mkF m 129 #[.val (.ref a1), .val (.int p2), .val (.int IE), .val (.int v14), .val (.int v20), .val (.int v69)] [])) _
                    refine XS.aloadN X70.here hx rfl (hb hby d10_129) rfl rfl ?_
                    show Steps p.tables e below (T70.setTop (mkF m 130 #[.val (.ref a1), .val (.int p2), .val (.int IE), .val (.int v14), .val (.int v20), .val (.int v69)] [(.ref a1)])) _
                    refine XS.iload X70.here hx rfl (hb hby d10_130) rfl ?_
                    show Steps p.tables e below (T70.setTop (mkF m 132 #[.val (.ref a1), .val (.int p2), .val (.int IE), .val (.int v14), .val (.int v20), .val (.int v69)] [(.int v69), (.ref a1)])) _
                    refine st71 _ ?_
                    show Steps p.tables e below (T71.setTop (mkF m 135 #[.val (.ref a1), .val (.int p2), .val (.int IE), .val (.int v14), .val (.int v20), .val (.int v69)] [(.int (own_E cc v69))])) _
                    refine XS.istoreN X71.here hx rfl (hb hby d10_135) rfl (l' := #[.val (.ref a1), .val (.int p2), .val (.int IE), .val (.int (own_E cc v69)), .val (.int v20), .val (.int v69)]) rfl ?_
                    show Steps p.tables e below (T71.setTop (mkF m 136 #[.val (.ref a1), .val (.int p2), .val (.int IE), .val (.int (own_E cc v69)), .val (.int v20), .val (.int v69)] [])) _
                    refine XS.iloadN X71.here hx rfl (hb hby d10_136) rfl ?_
                    show Steps p.tables e below (T71.setTop (mkF m 137 #[.val (.ref a1), .val (.int p2), .val (.int IE), .val (.int (own_E cc v69)), .val (.int v20), .val (.int v69)] [(.int (own_E cc v69))])) _
                    refine XS.iload X71.here hx rfl (hb hby d10_137) rfl ?_
                    show Steps p.tables e below (T71.setTop (mkF m 139 #[.val (.ref a1), .val (.int p2), .val (.int IE), .val (.int (own_E cc v69)), .val (.int v20), .val (.int v69)] [(.int v69), (.int (own_E cc v69))])) _
                    by_cases hc72 : v69 < (own_E cc v69)
                    · refine XS.icmpNo X71.here hx rfl (hb hby d10_139) rfl (tlt hc72).2.2.2 ?_
                      show Steps p.tables e below (T71.setTop (mkF m 142 #[.val (.ref a1), .val (.int p2), .val (.int IE), .val (.int (own_E cc v69)), .val (.int v20), .val (.int v69)] [])) _
                      refine XS.iconst X71.here hx rfl (hb hby d10_142) ?_
                      show Steps p.tables e below (T71.setTop (mkF m 143 #[.val (.ref a1), .val (.int p2), .val (.int IE), .val (.int (own_E cc v69)), .val (.int v20), .val (.int v69)] [(.int (1 : Int32))])) _
                      refine XS.goto X71.here hx rfl (pc0 := 143) (pc' := 147) rfl (hb hby d10_143) (by decide) (by decide) ?_
                      rw [show v73 = (1 : Int32) from hv73.trans (if_pos hc72)] at k
                      exact k
                    · refine XS.icmpYes X71.here hx rfl (pc0 := 139) (pc' := 146) rfl (hb hby d10_139) rfl (flt hc72).2.2.2 (by decide) (by decide) ?_
                      show Steps p.tables e below (T71.setTop (mkF m 146 #[.val (.ref a1), .val (.int p2), .val (.int IE), .val (.int (own_E cc v69)), .val (.int v20), .val (.int v69)] [])) _
                      refine XS.iconst X71.here hx rfl (hb hby d10_146) ?_
                      rw [show v73 = (0 : Int32) from hv73.trans (if_neg hc72)] at k
                      exact k)
                  have pre75 : ∀ t, Steps p.tables e below (T71.setTop (mkF m 149 #[.val (.ref a1), .val (.int p2), .val (.int IE), .val (.int (own_E cc v69)), .val (.int v73), .val (.int v69)] [])) t → Steps p.tables e below (s₁.setTop (entryFrame m #[(.ref a1), (.int p2)] 6)) t := fun t k => pre74 t (by
                    show Steps p.tables e below (T71.setTop (mkF m 147 #[.val (.ref a1), .val (.int p2), .val (.int IE), .val (.int (own_E cc v69)), .val (.int v20), .val (.int v69)] [(.int v73)])) _
                    refine XS.istore X71.here hx rfl (hb hby d10_147) rfl (l' := #[.val (.ref a1), .val (.int p2), .val (.int IE), .val (.int (own_E cc v69)), .val (.int v73), .val (.int v69)]) rfl ?_
                    exact k)
                  have evv77 : v77 = (own_E cc v69) := by subst hv69 hv73; exact hv77.trans (if_pos hc54)
                  have evv78 : v78 = v73 := by subst hv69 hv73; exact hv78.trans (if_pos hc54)
                  have evsl79 : sl79 = (.val (.int v69) : Slot) := by subst hv69 hv73; exact hsl79.trans (if_pos hc54)
                  subst evv77
                  subst evv78
                  subst evsl79
                  exact ⟨T71, _, X71, e71, N71, Zs70, pre75⟩
                · have pre76 : ∀ t, Steps p.tables e below (T52.setTop (mkF m 149 #[.val (.ref a1), .val (.int p2), .val (.int IE), .val (.int v14), .val (.int v20), .unset] [])) t → Steps p.tables e below (s₁.setTop (entryFrame m #[(.ref a1), (.int p2)] 6)) t := fun t k => pre53 t (by
                    show Steps p.tables e below (T52.setTop (mkF m 87 #[.val (.ref a1), .val (.int p2), .val (.int IE), .val (.int v14), .val (.int v20), .unset] [(.int (69 : Int32)), (.int (cc v14))])) _
                    refine XS.icmpYes X52.here hx rfl (pc0 := 87) (pc' := 149) rfl (hb hby d10_87) rfl (feq hc54).2 (by decide) (by decide) ?_
                    exact k)
                  have evv77 : v77 = v14 := by exact hv77.trans (if_neg hc54)
                  have evv78 : v78 = v20 := by exact hv78.trans (if_neg hc54)
                  have evsl79 : sl79 = (.unset : Slot) := by exact hsl79.trans (if_neg hc54)
                  subst evv77
                  subst evv78
                  subst evsl79
                  exact ⟨T52, _, X52, e52, N52, Zs15, pre76⟩
              have evv81 : v81 = v77 := by subst hv77 hv78 hsl79; exact hv81.trans (if_neg hc30)
              have evv82 : v82 = v78 := by subst hv77 hv78 hsl79; exact hv82.trans (if_neg hc30)
              have evsl83 : sl83 = (sl79 : Slot) := by subst hv77 hv78 hsl79; exact hsl83.trans (if_neg hc30)
              subst evv81
              subst evv82
              subst evsl83
              exact ⟨T80, _, X80, e80, N80, Zs80, pre80⟩
          have evv86 : v86 = v81 := by subst hv81 hv82 hsl83; exact hv86.trans (if_pos hc27)
          have evv87 : v87 = v82 := by subst hv81 hv82 hsl83; exact hv87.trans (if_pos hc27)
          have evsl88 : sl88 = (sl83 : Slot) := by subst hv81 hv82 hsl83; exact hsl88.trans (if_pos hc27)
          subst evv86
          subst evv87
          subst evsl88
          exact ⟨T84, _, X84, e84, N84, Zs84, pre84⟩
        · have pre85 : ∀ t, Steps p.tables e below (T25.setTop (mkF m 149 #[.val (.ref a1), .val (.int p2), .val (.int IE), .val (.int v14), .val (.int v20), .unset] [])) t → Steps p.tables e below (s₁.setTop (entryFrame m #[(.ref a1), (.int p2)] 6)) t := fun t k => pre26 t (by
            show Steps p.tables e below (T25.setTop (mkF m 67 #[.val (.ref a1), .val (.int p2), .val (.int IE), .val (.int v14), .val (.int v20), .unset] [(.int (6 : Int32)), (.int v14)])) _
            refine XS.icmpYes X25.here hx rfl (pc0 := 67) (pc' := 149) rfl (hb hby d10_67) rfl (flt hc27).2.1 (by decide) (by decide) ?_
            exact k)
          have evv86 : v86 = v14 := by exact hv86.trans (if_neg hc27)
          have evv87 : v87 = v20 := by exact hv87.trans (if_neg hc27)
          have evsl88 : sl88 = (.unset : Slot) := by exact hsl88.trans (if_neg hc27)
          subst evv86
          subst evv87
          subst evsl88
          exact ⟨T25, _, X25, e25, N25, Zs15, pre85⟩
      have evv90 : v90 = v86 := by subst hv86 hv87 hsl88; exact hv90.trans (if_neg hc23)
      have evv91 : v91 = v87 := by subst hv86 hv87 hsl88; exact hv91.trans (if_neg hc23)
      have evsl92 : sl92 = (sl88 : Slot) := by subst hv86 hv87 hsl88; exact hsl92.trans (if_neg hc23)
      subst evv90
      subst evv91
      subst evsl92
      exact ⟨T89, _, X89, e89, N89, Zs89, pre89⟩
  obtain ⟨v101, hv101⟩ : ∃ z : Int32, z = (if v91 = (0 : Int32) then (0 : Int32) else (if v90 = (6 : Int32) then (1 : Int32) else (0 : Int32))) := ⟨_, rfl⟩
  have pre94 : ∀ t, Steps p.tables e below (T93.setTop (mkF m 151 #[.val (.ref a1), .val (.int p2), .val (.int IE), .val (.int v90), .val (.int v91), sl92] [(.int v91)])) t → Steps p.tables e below (s₁.setTop (entryFrame m #[(.ref a1), (.int p2)] 6)) t := fun t k => pre93 t (by
    show Steps p.tables e below (T93.setTop (mkF m 149 #[.val (.ref a1), .val (.int p2), .val (.int IE), .val (.int v90), .val (.int v91), sl92] [])) _
    refine XS.iload X93.here hx rfl (hb hby d10_149) rfl ?_
    exact k)
  obtain ⟨T102, L102, X102, e102, N102, Zs102, pre102⟩ : ∃ (T' : State) (L' : List Loc), Stand p l e ({ frames := 6, cells := 0, slots := 0, locals := 80 } : Room) s m #[(.ref a1), (.int p2)] below meth c T' L' 0 0 ∧ T'.heap = h0 ∧ Fr n0 L' ∧ n0 ≤ h0.size ∧ ∀ t, Steps p.tables e below (T'.setTop (mkF m 167 #[.val (.ref a1), .val (.int p2), .val (.int IE), .val (.int v90), .val (.int v91), sl92] [(.int v101)])) t → Steps p.tables e below (s₁.setTop (entryFrame m #[(.ref a1), (.int p2)] 6)) t := by
    by_cases hc95 : v91 = (0 : Int32)
    · have pre96 : ∀ t, Steps p.tables e below (T93.setTop (mkF m 167 #[.val (.ref a1), .val (.int p2), .val (.int IE), .val (.int v90), .val (.int v91), sl92] [(.int (0 : Int32))])) t → Steps p.tables e below (s₁.setTop (entryFrame m #[(.ref a1), (.int p2)] 6)) t := fun t k => pre94 t (by
        show Steps p.tables e below (T93.setTop (mkF m 151 #[.val (.ref a1), .val (.int p2), .val (.int IE), .val (.int v90), .val (.int v91), sl92] [(.int v91)])) _
        refine XS.ifYes X93.here hx rfl (pc0 := 151) (pc' := 166) rfl (hb hby d10_151) rfl ((if0 _ _).trans (teq hc95).1) (by decide) (by decide) ?_
        show Steps p.tables e below (T93.setTop (mkF m 166 #[.val (.ref a1), .val (.int p2), .val (.int IE), .val (.int v90), .val (.int v91), sl92] [])) _
        refine XS.iconst X93.here hx rfl (hb hby d10_166) ?_
        exact k)
      have evv101 : v101 = (0 : Int32) := by exact hv101.trans (if_pos hc95)
      subst evv101
      exact ⟨T93, _, X93, e93, N93, Zs93, pre96⟩
    · obtain ⟨cq97, kq97, q97a, q97b, q97c⟩ := isOf hZ e93 hStr.1
      obtain ⟨_, _, ⟨T97, L97, k97, n97⟩, -, X97, ⟨Lc97, hQ97, l97, y97, z97⟩, st97⟩ := X93.virtualBack hx (y := (⟨"java/lang/String", "length", "()I"⟩ : MethodName)) (z := (⟨"java/lang/String", "length", "()I"⟩ : MethodName)) hown (mvT hZ (hw _ (List.mem_of_getElem? (i := 49) rfl))) (mvT hZ (hw _ (List.mem_of_getElem? (i := 50) rfl))) (notFace_of_selects (args := #[]) (mvT hZ (hw _ (List.mem_of_getElem? (i := 52) rfl)))) (mvT hZ (hw _ (List.mem_of_getElem? (i := 52) rfl))) (mvT hZ (hw _ (List.mem_of_getElem? (i := 51) rfl))) (by decide) (backOf (W := 1) (rm12 l Z a0 hw [] a1 cs cc h0 n0 Zs93 hWd hStr O0) hZ (hw _ (List.mem_of_getElem? (i := 53) rfl)) (hw _ (List.mem_of_getElem? (i := 9) rfl)) (by decide) (by decide)) q97a q97c (g := (mkF m 156 #[.val (.ref a1), .val (.int p2), .val (.int IE), .val (.int v90), .val (.int v91), sl92] [(.ref a1), (.int v90)])) rfl (by rw [hml]; rfl) (Steps.refl _) (argsL := []) (rest := [(.int v90)]) (lenOf pd_7 rfl) rfl (by show 2 * 0 + _ ≤ _; exact Nat.le_of_eq rfl) (hb hby d10_156) (fun _ _ => ⟨rfl, e93, (by decide : 0 + 0 ≤ _), (by decide : 0 + 0 ≤ _)⟩)
      dsimp only [Pt.U, Pt.locs, Pt.cells, Pt.slots] at X97 l97 y97 z97 st97 hQ97
      subst l97 y97 z97
      obtain ⟨rfl, N97q, e97⟩ := hQ97
      have N97 := Fr.app N93 N97q
      obtain ⟨v99, hv99⟩ : ∃ z : Int32, z = (if v90 = (6 : Int32) then (1 : Int32) else (0 : Int32)) := ⟨_, rfl⟩
      have pre100 : ∀ t, Steps p.tables e below (T97.setTop (mkF m 167 #[.val (.ref a1), .val (.int p2), .val (.int IE), .val (.int v90), .val (.int v91), sl92] [(.int v99)])) t → Steps p.tables e below (s₁.setTop (entryFrame m #[(.ref a1), (.int p2)] 6)) t := fun t k => pre94 t (by
        show Steps p.tables e below (T93.setTop (mkF m 151 #[.val (.ref a1), .val (.int p2), .val (.int IE), .val (.int v90), .val (.int v91), sl92] [(.int v91)])) _
        refine XS.ifNo X93.here hx rfl (hb hby d10_151) rfl ((if0 _ _).trans (feq hc95).1) ?_
        show Steps p.tables e below (T93.setTop (mkF m 154 #[.val (.ref a1), .val (.int p2), .val (.int IE), .val (.int v90), .val (.int v91), sl92] [])) _
        refine XS.iloadN X93.here hx rfl (hb hby d10_154) rfl ?_
        show Steps p.tables e below (T93.setTop (mkF m 155 #[.val (.ref a1), .val (.int p2), .val (.int IE), .val (.int v90), .val (.int v91), sl92] [(.int v90)])) _
        refine XS.aloadN X93.here hx rfl (hb hby d10_155) rfl rfl ?_
        show Steps p.tables e below (T93.setTop (mkF m 156 #[.val (.ref a1), .val (.int p2), .val (.int IE), .val (.int v90), .val (.int v91), sl92] [(.ref a1), (.int v90)])) _
        refine st97.trans ?_
        show Steps p.tables e below (T97.setTop (mkF m 159 #[.val (.ref a1), .val (.int p2), .val (.int IE), .val (.int v90), .val (.int v91), sl92] [(.int (6 : Int32)), (.int v90)])) _
        by_cases hc98 : v90 = (6 : Int32)
        · refine XS.icmpNo X97.here hx rfl (hb hby d10_159) rfl (teq hc98).2 ?_
          show Steps p.tables e below (T97.setTop (mkF m 162 #[.val (.ref a1), .val (.int p2), .val (.int IE), .val (.int v90), .val (.int v91), sl92] [])) _
          refine XS.iconst X97.here hx rfl (hb hby d10_162) ?_
          show Steps p.tables e below (T97.setTop (mkF m 163 #[.val (.ref a1), .val (.int p2), .val (.int IE), .val (.int v90), .val (.int v91), sl92] [(.int (1 : Int32))])) _
          refine XS.goto X97.here hx rfl (pc0 := 163) (pc' := 167) rfl (hb hby d10_163) (by decide) (by decide) ?_
          rw [show v99 = (1 : Int32) from hv99.trans (if_pos hc98)] at k
          exact k
        · refine XS.icmpYes X97.here hx rfl (pc0 := 159) (pc' := 166) rfl (hb hby d10_159) rfl (feq hc98).2 (by decide) (by decide) ?_
          show Steps p.tables e below (T97.setTop (mkF m 166 #[.val (.ref a1), .val (.int p2), .val (.int IE), .val (.int v90), .val (.int v91), sl92] [])) _
          refine XS.iconst X97.here hx rfl (hb hby d10_166) ?_
          rw [show v99 = (0 : Int32) from hv99.trans (if_neg hc98)] at k
          exact k)
      have evv101 : v101 = v99 := by subst hv99; exact hv101.trans (if_neg hc95)
      subst evv101
      exact ⟨T97, _, X97, e97, N97, Zs93, pre100⟩
  have er : (f10 p2 cc) = (nar .boolean v101) := by subst hIE hv14 hv17 hv20 hv90 hv91 hsl92 hv101; exact rfl
  obtain ⟨fs, hr, hrun, hended, hW, hsame⟩ := X102.leave (v := some (.int (nar .boolean v101))) (fun h => by rw [Bd.returns] at h; cases h)
  refine ⟨_, _, pre102 _ ?_, hrun, hended, _, _, rfl, ?_, ⟨_, rfl⟩, hW, hsame.mono (by decide) (by decide)⟩
  · show Steps p.tables e below (T102.setTop (mkF m 167 #[.val (.ref a1), .val (.int p2), .val (.int IE), .val (.int v90), .val (.int v91), sl92] [(.int v101)])) _
    exact retN X102 hx (t := .boolean) Bd.returns (by simp) (hb hby d10_167) hr
  · show Q10 Z a1 p2 cs cc h0 n0 _ T102.heap _
    rw [e102]
    exact ⟨congrArg (fun z => some (Value.int z)) er.symm, N102, rfl⟩

def own_put (y1 : Int32 → Int32) (p2 p3 : Int32) : Int32 → Int32 := fun i => if i = ((p2 <<< ((1 : Int32) &&& 31)) + (1 : Int32)) then (nar .byte ((p3 >>> ((8 : Int32) &&& 31)).toInt8.toInt32)) else (fun i => if i = (p2 <<< ((1 : Int32) &&& 31)) then (nar .byte ((p3 >>> ((0 : Int32) &&& 31)).toInt8.toInt32)) else y1 i) i
def own_utf (cc : Int32 → Int32) : Int32 → Int32 := own_put (own_put (own_put (own_put (own_put (own_put (fun _ => (0 : Int32)) (0 : Int32) (cc (0 : Int32))) (1 : Int32) (cc (1 : Int32))) (2 : Int32) (cc (2 : Int32))) (3 : Int32) (cc (3 : Int32))) (4 : Int32) (cc (4 : Int32))) (5 : Int32) (cc (5 : Int32))
def own_lat (cc yb : Int32 → Int32) : Prop := ∀ i : Int32, ¬ i < 0 ∧ i < (6 : Int32) → ¬ (255 : Int32) < cc i ∧ yb i = (nar .byte ((cc i).toInt8.toInt32))
def own_CM (cc : Int32 → Int32) (r : Int32) (yb : Int32 → Int32) : Prop := (r = (6 : Int32) ∧ own_lat cc yb) ∨ ((¬ r < 0 ∧ r < (6 : Int32)) ∧ (255 : Int32) < cc r)
def own_CB (cc : Int32 → Int32) (nb : Int32) (yb : Int32 → Int32) : Prop := (nb = (6 : Int32) ∧ own_lat cc yb) ∨ (nb = (12 : Int32) ∧ yb = own_utf cc)
theorem own_six {P : Int32 → Prop} (h0 : P 0) (h1 : P 1) (h2 : P 2) (h3 : P 3) (h4 : P 4) (h5 : P 5) : ∀ i : Int32, ¬ i < 0 ∧ i < (6 : Int32) → P i := by
  intro i h
  have e0 : (0 : Int32).toInt = 0 := by decide
  have e6 : (6 : Int32).toInt = 6 := by decide
  rw [Int32.lt_iff_toInt_lt, Int32.lt_iff_toInt_lt] at h
  obtain ⟨k, hk, rfl⟩ := own_nat (c := i) 6 (by omega) (by omega)
  match k, hk with
  | 0, _ => exact h0
  | 1, _ => exact h1
  | 2, _ => exact h2
  | 3, _ => exact h3
  | 4, _ => exact h4
  | 5, _ => exact h5
theorem own_ne6 {cc : Int32 → Int32} {r : Int32} {yb : Int32 → Int32} (h : own_CM cc r yb) (n : ¬ r = (6 : Int32)) : (¬ r < 0 ∧ r < (6 : Int32)) ∧ (255 : Int32) < cc r := h.elim (fun q => absurd q.1 n) id
theorem own_is6 {cc : Int32 → Int32} {r : Int32} {yb : Int32 → Int32} (h : own_CM cc r yb) (n : r = (6 : Int32)) : own_lat cc yb := h.elim (fun q => q.2) (fun q => absurd q.1.2 (by rw [n]; decide))

theorem own_getput (x : Int32) (h : 0 ≤ x.toInt ∧ x.toInt < 65536) : (nar .char (((((nar .byte ((x >>> ((0 : Int32) &&& 31)).toInt8.toInt32)) &&& (255 : Int32)) <<< ((0 : Int32) &&& 31)) ||| (((nar .byte ((x >>> ((8 : Int32) &&& 31)).toInt8.toInt32)) &&& (255 : Int32)) <<< ((8 : Int32) &&& 31))).toUInt32.toUInt16.toUInt32.toInt32)) = x := by
  apply Int32.toInt_inj.mp
  have s0 := c_ishr x 0 0 (by decide)
  have s8 := c_ishr x 8 8 (by decide)
  have e1 : ((2 ^ 0 : Nat) : Int) = 1 := by decide
  have e8 : ((2 ^ 8 : Nat) : Int) = 256 := by decide
  rw [e1] at s0
  rw [e8] at s8
  generalize x >>> ((0 : Int32) &&& 31) = a at *
  generalize x >>> ((8 : Int32) &&& 31) = b at *
  have a1 := c_i2b a
  have a2 := c_i2b (a.toInt8.toInt32)
  have b1 := c_i2b b
  have b2 := c_i2b (b.toInt8.toInt32)
  show ((((((a.toInt8.toInt32.toInt8.toInt32) &&& (255 : Int32)) <<< ((0 : Int32) &&& 31)) ||| (((b.toInt8.toInt32.toInt8.toInt32) &&& (255 : Int32)) <<< ((8 : Int32) &&& 31))).toUInt32.toUInt16.toUInt32.toInt32).toUInt32.toUInt16.toUInt32.toInt32).toInt = x.toInt
  generalize a.toInt8.toInt32.toInt8.toInt32 = a' at *
  generalize b.toInt8.toInt32.toInt8.toInt32 = b' at *
  have m1 := c_mask a' 255 8 (by decide) (by decide)
  have m2 := c_mask b' 255 8 (by decide) (by decide)
  rw [e8] at m1 m2
  generalize a' &&& (255 : Int32) = u at *
  generalize b' &&& (255 : Int32) = w at *
  have l0 := c_ishl u 0 0 (by decide)
  have l8 := c_ishl w 8 8 (by decide)
  rw [e1] at l0
  rw [e8] at l8
  have r1 := rng32 (u <<< ((0 : Int32) &&& 31))
  have r2 := rng32 (w <<< ((8 : Int32) &&& 31))
  generalize u <<< ((0 : Int32) &&& 31) = U at *
  generalize w <<< ((8 : Int32) &&& 31) = V at *
  have o := c_or' U V 8 (by decide) 256 (by decide) (by omega) (by omega) (by omega)
  have r3 := rng32 (U ||| V)
  generalize U ||| V = O at *
  have c1 := c_i2c O
  have c2 := c_i2c (O.toUInt32.toUInt16.toUInt32.toInt32)
  omega
theorem own_nc (x : Int32) (h : 0 ≤ x.toInt ∧ x.toInt < 65536) : nar .char x = x := by
  apply Int32.toInt_inj.mp
  show (x.toUInt32.toUInt16.toUInt32.toInt32).toInt = x.toInt
  have c1 := c_i2c x
  omega
theorem own_lat1 (x : Int32) (h : 0 ≤ x.toInt) (h2 : ¬ (255 : Int32) < x) : (nar .char (nar .char (((nar .byte (x.toInt8.toInt32)) &&& (255 : Int32)).toUInt32.toUInt16.toUInt32.toInt32))) = x := by
  apply Int32.toInt_inj.mp
  have e255 : (255 : Int32).toInt = 255 := by decide
  have e8 : ((2 ^ 8 : Nat) : Int) = 256 := by decide
  rw [Int32.lt_iff_toInt_lt] at h2
  show ((((x.toInt8.toInt32.toInt8.toInt32) &&& (255 : Int32)).toUInt32.toUInt16.toUInt32.toInt32).toUInt32.toUInt16.toUInt32.toInt32.toUInt32.toUInt16.toUInt32.toInt32).toInt = x.toInt
  have a1 := c_i2b x
  have a2 := c_i2b (x.toInt8.toInt32)
  generalize x.toInt8.toInt32.toInt8.toInt32 = a' at *
  have m1 := c_mask a' 255 8 (by decide) (by decide)
  rw [e8] at m1
  generalize a' &&& (255 : Int32) = u at *
  have c1 := c_i2c u
  have c2 := c_i2c (u.toUInt32.toUInt16.toUInt32.toInt32)
  have c3 := c_i2c (u.toUInt32.toUInt16.toUInt32.toInt32.toUInt32.toUInt16.toUInt32.toInt32)
  omega
theorem own_utf_at {cc : Int32 → Int32} (hP : own_P cc) : ∀ i : Int32, ¬ i < 0 ∧ i < (6 : Int32) → f23 i (own_utf cc) = cc i := by
  refine own_six ?_ ?_ ?_ ?_ ?_ ?_
  · exact own_getput (cc 0) (hP 0)
  · exact own_getput (cc 1) (hP 1)
  · exact own_getput (cc 2) (hP 2)
  · exact own_getput (cc 3) (hP 3)
  · exact own_getput (cc 4) (hP 4)
  · exact own_getput (cc 5) (hP 5)

theorem d22_0 : decode jdk_52_method_4_code 0 = .ok (.getstatic 44, 3) := by decide +kernel
theorem d22_3 : decode jdk_52_method_4_code 3 = .ok (.ifCond .ne 25, 3) := by decide +kernel
theorem d22_28 : decode jdk_52_method_4_code 28 = .ok (.iload_n 1, 1) := by decide +kernel
theorem d22_29 : decode jdk_52_method_4_code 29 = .ok (.iconst 1, 1) := by decide +kernel
theorem d22_30 : decode jdk_52_method_4_code 30 = .ok (.ishl, 1) := by decide +kernel
theorem d22_31 : decode jdk_52_method_4_code 31 = .ok (.istore_n 1, 1) := by decide +kernel
theorem d22_32 : decode jdk_52_method_4_code 32 = .ok (.aload_n 0, 1) := by decide +kernel
theorem d22_33 : decode jdk_52_method_4_code 33 = .ok (.iload_n 1, 1) := by decide +kernel
theorem d22_34 : decode jdk_52_method_4_code 34 = .ok (.iinc 1 1, 3) := by decide +kernel
theorem d22_37 : decode jdk_52_method_4_code 37 = .ok (.iload_n 2, 1) := by decide +kernel
theorem d22_38 : decode jdk_52_method_4_code 38 = .ok (.getstatic 59, 3) := by decide +kernel
theorem d22_41 : decode jdk_52_method_4_code 41 = .ok (.ishr, 1) := by decide +kernel
theorem d22_42 : decode jdk_52_method_4_code 42 = .ok (.i2b, 1) := by decide +kernel
theorem d22_43 : decode jdk_52_method_4_code 43 = .ok (.bastore, 1) := by decide +kernel
theorem d22_44 : decode jdk_52_method_4_code 44 = .ok (.aload_n 0, 1) := by decide +kernel
theorem d22_45 : decode jdk_52_method_4_code 45 = .ok (.iload_n 1, 1) := by decide +kernel
theorem d22_46 : decode jdk_52_method_4_code 46 = .ok (.iload_n 2, 1) := by decide +kernel
theorem d22_47 : decode jdk_52_method_4_code 47 = .ok (.getstatic 63, 3) := by decide +kernel
theorem d22_50 : decode jdk_52_method_4_code 50 = .ok (.ishr, 1) := by decide +kernel
theorem d22_51 : decode jdk_52_method_4_code 51 = .ok (.i2b, 1) := by decide +kernel
theorem d22_52 : decode jdk_52_method_4_code 52 = .ok (.bastore, 1) := by decide +kernel
theorem d22_53 : decode jdk_52_method_4_code 53 = .ok (.return_, 1) := by decide +kernel
theorem pn_22 : plainName "java/lang/StringUTF16" = true := by first | (simp [plainName, overriddenIn]; done) | decide +kernel
theorem ef_22 (m : MethodId) (a1 : Addr) (p2 : Int32) (p3 : Int32) : entryFrame m #[(.ref a1), (.int p2), (.int p3)] 3 = mkF m 0 #[.val (.ref a1), .val (.int p2), .val (.int p3)] [] := by first | (simp [entryFrame, mkF, argsToLocals, Value.category]; done) | rfl
def Q22 (Z : State) (a1 : Addr) (p2 : Int32) (p3 : Int32) (cs : Int32) (y1 : Int32 → Int32) (h0 : Heap) (n0 : Nat) (v : Option Value) (h : Heap) (L : List Loc) : Prop := v = none ∧ Fr n0 L ∧ Keep h0 h ([a1] : List Addr) ∧ own_A Z h a1 .byte (12 : Int32) (fun i => .int ((own_put y1 p2 p3) i))
set_option maxRecDepth 65536 in
set_option maxHeartbeats 40000000 in
theorem rm22 (l : Launch) (Z : State) (a0 : Array Value) (hw : ∀ d ∈ tables_1, d.before a0 Z = true) (ws : List Jvm.Cond) (a1 : Addr) (p2 : Int32) (p3 : Int32) (cs : Int32) (y1 : Int32 → Int32) (h0 : Heap) (n0 : Nat) (Z0 : n0 ≤ h0.size) (A_a1 : own_A Z h0 a1 .byte (12 : Int32) (fun i => .int (y1 i))) (g_a1 : n0 ≤ a1) (hWd : own_W Z cs) (hin : ¬ p2 < 0 ∧ p2 < (6 : Int32)) (O0 : Old Z n0 h0) :
    MetFree l (⟨"java/lang/StringUTF16", "putChar", "([BII)V"⟩ : MethodName) (head1 (Jvm.Cond.code (⟨"java/lang/StringUTF16", "putChar", "([BII)V"⟩ : MethodName) jdk_52_method_4_code 3 none :: ws) ({ frames := 0, cells := 0, slots := 0, locals := 0 } : Room)) (fun a U => a = #[(.ref a1), (.int p2), (.int p3)] ∧ Z.Warmed39 U.vm ∧ U.heap = h0) (fun _ _ _ _ _ => True) (fun _ U o U' => ∃ v L, o = .returned v ∧ Q22 Z a1 p2 p3 cs y1 h0 n0 v U'.heap L ∧ FrameEnd U o U' L ({ frames := 0, cells := 0, slots := 0, locals := 0 } : Room).cells ({ frames := 0, cells := 0, slots := 0, locals := 0 } : Room).slots) := by
  refine MetFree.of_bodySF (plainFor_of_name pn_22) hisR ?_
  intro p e s m args below meth c s₁ Bd hml0 hP hK
  obtain ⟨rfl, hZ, hh⟩ := hP
  have hx := Bd.exec
  have hby := Bd.bytes
  have hml : c.maxLocals = 3 := hml0
  have hown : s.vm.findClass "java/lang/StringUTF16" = some m.cls := findClass_of_methodNamed Bd.named
  have hnm := (name_of_methodNamed Bd.named Bd.method).1
  have X0 : Stand p l e ({ frames := 0, cells := 0, slots := 0, locals := 0 } : Room) s m #[(.ref a1), (.int p2), (.int p3)] below meth c s₁ [] 0 0 := Stand.of_body Bd
  have e0 : s₁.heap = h0 := by rw [← hh, Bd.state]; rfl
  have N0 := Fr.nil n0
  have pre0 : ∀ t, Steps p.tables e below (s₁.setTop (mkF m 0 #[.val (.ref a1), .val (.int p2), .val (.int p3)] [])) t → Steps p.tables e below (s₁.setTop (entryFrame m #[(.ref a1), (.int p2), (.int p3)] 3)) t := fun t k => castTop (ef_22 m a1 p2 p3) k
  have K0 := Keep.refl h0 ([a1] : List Addr)
  obtain ⟨T1, X1, e1, st1⟩ := getS2 X0 hx hZ hown (host := "") (Or.inl (hw _ (List.mem_of_getElem? (i := 94) rfl))) Via.refl e0 (hWd.2.2.1.ext O0.2) (g := (mkF m 0 #[.val (.ref a1), .val (.int p2), .val (.int p3)] [])) rfl (hb hby d22_0)
  obtain ⟨T2, X2, e2, st2⟩ := getS2 X1 hx hZ hown (host := "") (Or.inl (hw _ (List.mem_of_getElem? (i := 95) rfl))) Via.refl e1 (hWd.2.2.2.1.ext O0.2) (g := (mkF m 38 #[.val (.ref a1), .val (.int ((p2 <<< ((1 : Int32) &&& 31)) + (1 : Int32))), .val (.int p3)] [(.int p3), (.int (p2 <<< ((1 : Int32) &&& 31))), (.ref a1)])) rfl (hb hby d22_38)
  obtain ⟨cl4, Ar4, Sz4, Mz4, Hz4⟩ := id A_a1
  have hin3 := inb_of (j := (p2 <<< ((1 : Int32) &&& 31))) Sz4 (own_in2 hin)
  obtain ⟨T3, h3, X3, e3, W3, st3⟩ := stB X2 hx hZ e2 Ar4 (j := (p2 <<< ((1 : Int32) &&& 31))) hin3 (g := (mkF m 43 #[.val (.ref a1), .val (.int ((p2 <<< ((1 : Int32) &&& 31)) + (1 : Int32))), .val (.int p3)] [(.int ((p3 >>> ((0 : Int32) &&& 31)).toInt8.toInt32)), (.int (p2 <<< ((1 : Int32) &&& 31))), (.ref a1)])) rfl rfl (hb hby d22_43)
  obtain ⟨y3, hy3⟩ : ∃ yy_ : Int32 → Int32, yy_ = fun i => if i = (p2 <<< ((1 : Int32) &&& 31)) then (nar .byte ((p3 >>> ((0 : Int32) &&& 31)).toInt8.toInt32)) else y1 i := ⟨_, rfl⟩
  have K3 := K0.wr W3 (Or.inl (List.mem_of_getElem? (i := 0) rfl))
  have Zs3 := Nat.le_trans Z0 (Keep.of_wr W3).1
  have N3 := Fr.snoc X3 N0 g_a1
  have O3 := O0.wr W3 g_a1
  have A_a1_3 : own_A Z h3 a1 .byte (12 : Int32) (fun i => .int (y3 i)) := by subst hy3; exact own_A_set Ar4 Sz4 Mz4 Hz4 hin3 W3 (own_setI (y := y1) (j := (p2 <<< ((1 : Int32) &&& 31))) (x := (nar .byte ((p3 >>> ((0 : Int32) &&& 31)).toInt8.toInt32)))) (own_setI' (y := y1) (j := (p2 <<< ((1 : Int32) &&& 31))) (x := (nar .byte ((p3 >>> ((0 : Int32) &&& 31)).toInt8.toInt32))))
  obtain ⟨T5, X5, e5, st5⟩ := getS2 X3 hx hZ hown (host := "") (Or.inl (hw _ (List.mem_of_getElem? (i := 96) rfl))) Via.refl e3 (hWd.2.2.2.2.1.ext O3.2) (g := (mkF m 47 #[.val (.ref a1), .val (.int ((p2 <<< ((1 : Int32) &&& 31)) + (1 : Int32))), .val (.int p3)] [(.int p3), (.int ((p2 <<< ((1 : Int32) &&& 31)) + (1 : Int32))), (.ref a1)])) rfl (hb hby d22_47)
  obtain ⟨cl7, Ar7, Sz7, Mz7, Hz7⟩ := id A_a1_3
  have hin6 := inb_of (j := ((p2 <<< ((1 : Int32) &&& 31)) + (1 : Int32))) Sz7 (own_in3 hin)
  obtain ⟨T6, h6, X6, e6, W6, st6⟩ := stB X5 hx hZ e5 Ar7 (j := ((p2 <<< ((1 : Int32) &&& 31)) + (1 : Int32))) hin6 (g := (mkF m 52 #[.val (.ref a1), .val (.int ((p2 <<< ((1 : Int32) &&& 31)) + (1 : Int32))), .val (.int p3)] [(.int ((p3 >>> ((8 : Int32) &&& 31)).toInt8.toInt32)), (.int ((p2 <<< ((1 : Int32) &&& 31)) + (1 : Int32))), (.ref a1)])) rfl rfl (hb hby d22_52)
  obtain ⟨y6, hy6⟩ : ∃ yy_ : Int32 → Int32, yy_ = fun i => if i = ((p2 <<< ((1 : Int32) &&& 31)) + (1 : Int32)) then (nar .byte ((p3 >>> ((8 : Int32) &&& 31)).toInt8.toInt32)) else y3 i := ⟨_, rfl⟩
  have K6 := K3.wr W6 (Or.inl (List.mem_of_getElem? (i := 0) rfl))
  have Zs6 := Nat.le_trans Zs3 (Keep.of_wr W6).1
  have N6 := Fr.snoc X6 N3 g_a1
  have O6 := O3.wr W6 g_a1
  have A_a1_6 : own_A Z h6 a1 .byte (12 : Int32) (fun i => .int (y6 i)) := by subst hy6; exact own_A_set Ar7 Sz7 Mz7 Hz7 hin6 W6 (own_setI (y := y3) (j := ((p2 <<< ((1 : Int32) &&& 31)) + (1 : Int32))) (x := (nar .byte ((p3 >>> ((8 : Int32) &&& 31)).toInt8.toInt32)))) (own_setI' (y := y3) (j := ((p2 <<< ((1 : Int32) &&& 31)) + (1 : Int32))) (x := (nar .byte ((p3 >>> ((8 : Int32) &&& 31)).toInt8.toInt32))))
  obtain ⟨fs, hr, hrun, hended, hW, hsame⟩ := X6.leave (v := none) (fun _ => rfl)
  refine ⟨_, _, pre0 _ ?_, hrun, hended, _, _, rfl, ?_, ⟨_, rfl⟩, hW, hsame.mono (by decide) (by decide)⟩
  · show Steps p.tables e below (s₁.setTop (mkF m 0 #[.val (.ref a1), .val (.int p2), .val (.int p3)] [])) _
    refine st1 _ ?_
    show Steps p.tables e below (T1.setTop (mkF m 3 #[.val (.ref a1), .val (.int p2), .val (.int p3)] [(.int (1 : Int32))])) _
    refine XS.ifYes X1.here hx rfl (pc0 := 3) (pc' := 28) rfl (hb hby d22_3) rfl ((if0 _ _).trans (feq (show ¬ ((1 : Int32) = (0 : Int32)) by decide)).2) (by decide) (by decide) ?_
    show Steps p.tables e below (T1.setTop (mkF m 28 #[.val (.ref a1), .val (.int p2), .val (.int p3)] [])) _
    refine XS.iloadN X1.here hx rfl (hb hby d22_28) rfl ?_
    show Steps p.tables e below (T1.setTop (mkF m 29 #[.val (.ref a1), .val (.int p2), .val (.int p3)] [(.int p2)])) _
    refine XS.iconst X1.here hx rfl (hb hby d22_29) ?_
    show Steps p.tables e below (T1.setTop (mkF m 30 #[.val (.ref a1), .val (.int p2), .val (.int p3)] [(.int (1 : Int32)), (.int p2)])) _
    refine XS.ishl X1.here hx rfl (hb hby d22_30) rfl ?_
    show Steps p.tables e below (T1.setTop (mkF m 31 #[.val (.ref a1), .val (.int p2), .val (.int p3)] [(.int (p2 <<< ((1 : Int32) &&& 31)))])) _
    refine XS.istoreN X1.here hx rfl (hb hby d22_31) rfl (l' := #[.val (.ref a1), .val (.int (p2 <<< ((1 : Int32) &&& 31))), .val (.int p3)]) rfl ?_
    show Steps p.tables e below (T1.setTop (mkF m 32 #[.val (.ref a1), .val (.int (p2 <<< ((1 : Int32) &&& 31))), .val (.int p3)] [])) _
    refine XS.aloadN X1.here hx rfl (hb hby d22_32) rfl rfl ?_
    show Steps p.tables e below (T1.setTop (mkF m 33 #[.val (.ref a1), .val (.int (p2 <<< ((1 : Int32) &&& 31))), .val (.int p3)] [(.ref a1)])) _
    refine XS.iloadN X1.here hx rfl (hb hby d22_33) rfl ?_
    show Steps p.tables e below (T1.setTop (mkF m 34 #[.val (.ref a1), .val (.int (p2 <<< ((1 : Int32) &&& 31))), .val (.int p3)] [(.int (p2 <<< ((1 : Int32) &&& 31))), (.ref a1)])) _
    refine XS.iinc X1.here hx rfl (hb hby d22_34) rfl (l' := #[.val (.ref a1), .val (.int ((p2 <<< ((1 : Int32) &&& 31)) + (1 : Int32))), .val (.int p3)]) rfl ?_
    show Steps p.tables e below (T1.setTop (mkF m 37 #[.val (.ref a1), .val (.int ((p2 <<< ((1 : Int32) &&& 31)) + (1 : Int32))), .val (.int p3)] [(.int (p2 <<< ((1 : Int32) &&& 31))), (.ref a1)])) _
    refine XS.iloadN X1.here hx rfl (hb hby d22_37) rfl ?_
    show Steps p.tables e below (T1.setTop (mkF m 38 #[.val (.ref a1), .val (.int ((p2 <<< ((1 : Int32) &&& 31)) + (1 : Int32))), .val (.int p3)] [(.int p3), (.int (p2 <<< ((1 : Int32) &&& 31))), (.ref a1)])) _
    refine st2 _ ?_
    show Steps p.tables e below (T2.setTop (mkF m 41 #[.val (.ref a1), .val (.int ((p2 <<< ((1 : Int32) &&& 31)) + (1 : Int32))), .val (.int p3)] [(.int (0 : Int32)), (.int p3), (.int (p2 <<< ((1 : Int32) &&& 31))), (.ref a1)])) _
    refine XS.ishr X2.here hx rfl (hb hby d22_41) rfl ?_
    show Steps p.tables e below (T2.setTop (mkF m 42 #[.val (.ref a1), .val (.int ((p2 <<< ((1 : Int32) &&& 31)) + (1 : Int32))), .val (.int p3)] [(.int (p3 >>> ((0 : Int32) &&& 31))), (.int (p2 <<< ((1 : Int32) &&& 31))), (.ref a1)])) _
    refine XS.i2b X2.here hx rfl (hb hby d22_42) rfl ?_
    show Steps p.tables e below (T2.setTop (mkF m 43 #[.val (.ref a1), .val (.int ((p2 <<< ((1 : Int32) &&& 31)) + (1 : Int32))), .val (.int p3)] [(.int ((p3 >>> ((0 : Int32) &&& 31)).toInt8.toInt32)), (.int (p2 <<< ((1 : Int32) &&& 31))), (.ref a1)])) _
    refine st3 _ ?_
    show Steps p.tables e below (T3.setTop (mkF m 44 #[.val (.ref a1), .val (.int ((p2 <<< ((1 : Int32) &&& 31)) + (1 : Int32))), .val (.int p3)] [])) _
    refine XS.aloadN X3.here hx rfl (hb hby d22_44) rfl rfl ?_
    show Steps p.tables e below (T3.setTop (mkF m 45 #[.val (.ref a1), .val (.int ((p2 <<< ((1 : Int32) &&& 31)) + (1 : Int32))), .val (.int p3)] [(.ref a1)])) _
    refine XS.iloadN X3.here hx rfl (hb hby d22_45) rfl ?_
    show Steps p.tables e below (T3.setTop (mkF m 46 #[.val (.ref a1), .val (.int ((p2 <<< ((1 : Int32) &&& 31)) + (1 : Int32))), .val (.int p3)] [(.int ((p2 <<< ((1 : Int32) &&& 31)) + (1 : Int32))), (.ref a1)])) _
    refine XS.iloadN X3.here hx rfl (hb hby d22_46) rfl ?_
    show Steps p.tables e below (T3.setTop (mkF m 47 #[.val (.ref a1), .val (.int ((p2 <<< ((1 : Int32) &&& 31)) + (1 : Int32))), .val (.int p3)] [(.int p3), (.int ((p2 <<< ((1 : Int32) &&& 31)) + (1 : Int32))), (.ref a1)])) _
    refine st5 _ ?_
    show Steps p.tables e below (T5.setTop (mkF m 50 #[.val (.ref a1), .val (.int ((p2 <<< ((1 : Int32) &&& 31)) + (1 : Int32))), .val (.int p3)] [(.int (8 : Int32)), (.int p3), (.int ((p2 <<< ((1 : Int32) &&& 31)) + (1 : Int32))), (.ref a1)])) _
    refine XS.ishr X5.here hx rfl (hb hby d22_50) rfl ?_
    show Steps p.tables e below (T5.setTop (mkF m 51 #[.val (.ref a1), .val (.int ((p2 <<< ((1 : Int32) &&& 31)) + (1 : Int32))), .val (.int p3)] [(.int (p3 >>> ((8 : Int32) &&& 31))), (.int ((p2 <<< ((1 : Int32) &&& 31)) + (1 : Int32))), (.ref a1)])) _
    refine XS.i2b X5.here hx rfl (hb hby d22_51) rfl ?_
    show Steps p.tables e below (T5.setTop (mkF m 52 #[.val (.ref a1), .val (.int ((p2 <<< ((1 : Int32) &&& 31)) + (1 : Int32))), .val (.int p3)] [(.int ((p3 >>> ((8 : Int32) &&& 31)).toInt8.toInt32)), (.int ((p2 <<< ((1 : Int32) &&& 31)) + (1 : Int32))), (.ref a1)])) _
    refine st6 _ ?_
    show Steps p.tables e below (T6.setTop (mkF m 53 #[.val (.ref a1), .val (.int ((p2 <<< ((1 : Int32) &&& 31)) + (1 : Int32))), .val (.int p3)] [])) _
    exact X6.returnOut hx Bd.returns (hb hby d22_53) hr
  · show Q22 Z a1 p2 p3 cs y1 h0 n0 _ T6.heap _
    rw [e6]
    subst hy3 hy6
    exact ⟨rfl, N6, K6, A_a1_6⟩
theorem d21_0 : decode jdk_52_method_3_code 0 = .ok (.iload_n 0, 1) := by decide +kernel
theorem d21_1 : decode jdk_52_method_3_code 1 = .ok (.ifCond .ge 11, 3) := by decide +kernel
theorem d21_12 : decode jdk_52_method_3_code 12 = .ok (.iload_n 0, 1) := by decide +kernel
theorem d21_13 : decode jdk_52_method_3_code 13 = .ok (.ldc 20, 2) := by decide +kernel
theorem d21_15 : decode jdk_52_method_3_code 15 = .ok (.if_icmp .lt 40, 3) := by decide +kernel
theorem d21_55 : decode jdk_52_method_3_code 55 = .ok (.iload_n 0, 1) := by decide +kernel
theorem d21_56 : decode jdk_52_method_3_code 56 = .ok (.iconst 1, 1) := by decide +kernel
theorem d21_57 : decode jdk_52_method_3_code 57 = .ok (.ishl, 1) := by decide +kernel
theorem d21_58 : decode jdk_52_method_3_code 58 = .ok (.ireturn, 1) := by decide +kernel
theorem pn_21 : plainName "java/lang/StringUTF16" = true := by first | (simp [plainName, overriddenIn]; done) | decide +kernel
theorem ef_21 (m : MethodId)  : entryFrame m #[(.int (6 : Int32))] 1 = mkF m 0 #[.val (.int (6 : Int32))] [] := by first | (simp [entryFrame, mkF, argsToLocals, Value.category]; done) | rfl
def f21  : Int32 :=
  ((6 : Int32) <<< ((1 : Int32) &&& 31))
def Q21 (Z : State)  (cs : Int32) (h0 : Heap) (n0 : Nat) (v : Option Value) (h : Heap) (L : List Loc) : Prop := v = some (.int f21) ∧ Fr n0 L ∧ h = h0
set_option maxRecDepth 65536 in
set_option maxHeartbeats 40000000 in
theorem rm21 (l : Launch) (Z : State) (a0 : Array Value) (hw : ∀ d ∈ tables_1, d.before a0 Z = true) (ws : List Jvm.Cond)  (cs : Int32) (h0 : Heap) (n0 : Nat) (Z0 : n0 ≤ h0.size) (hWd : own_W Z cs) (O0 : Old Z n0 h0) :
    MetFree l (⟨"java/lang/StringUTF16", "newBytesLength", "(I)I"⟩ : MethodName) (head1 (Jvm.Cond.code (⟨"java/lang/StringUTF16", "newBytesLength", "(I)I"⟩ : MethodName) jdk_52_method_3_code 1 (some .int) :: ws) ({ frames := 0, cells := 0, slots := 0, locals := 0 } : Room)) (fun a U => a = #[(.int (6 : Int32))] ∧ Z.Warmed39 U.vm ∧ U.heap = h0) (fun _ _ _ _ _ => True) (fun _ U o U' => ∃ v L, o = .returned v ∧ Q21 Z cs h0 n0 v U'.heap L ∧ FrameEnd U o U' L ({ frames := 0, cells := 0, slots := 0, locals := 0 } : Room).cells ({ frames := 0, cells := 0, slots := 0, locals := 0 } : Room).slots) := by
  refine MetFree.of_bodySF (plainFor_of_name pn_21) hisR ?_
  intro p e s m args below meth c s₁ Bd hml0 hP hK
  obtain ⟨rfl, hZ, hh⟩ := hP
  have hx := Bd.exec
  have hby := Bd.bytes
  have hml : c.maxLocals = 1 := hml0
  have hown : s.vm.findClass "java/lang/StringUTF16" = some m.cls := findClass_of_methodNamed Bd.named
  have hnm := (name_of_methodNamed Bd.named Bd.method).1
  have X0 : Stand p l e ({ frames := 0, cells := 0, slots := 0, locals := 0 } : Room) s m #[(.int (6 : Int32))] below meth c s₁ [] 0 0 := Stand.of_body Bd
  have e0 : s₁.heap = h0 := by rw [← hh, Bd.state]; rfl
  have N0 := Fr.nil n0
  have pre0 : ∀ t, Steps p.tables e below (s₁.setTop (mkF m 0 #[.val (.int (6 : Int32))] [])) t → Steps p.tables e below (s₁.setTop (entryFrame m #[(.int (6 : Int32))] 1)) t := fun t k => castTop (ef_21 m ) k
  have er : f21 = ((6 : Int32) <<< ((1 : Int32) &&& 31)) := by exact rfl
  obtain ⟨fs, hr, hrun, hended, hW, hsame⟩ := X0.leave (v := some (.int ((6 : Int32) <<< ((1 : Int32) &&& 31)))) (fun h => by rw [Bd.returns] at h; cases h)
  refine ⟨_, _, pre0 _ ?_, hrun, hended, _, _, rfl, ?_, ⟨_, rfl⟩, hW, hsame.mono (by decide) (by decide)⟩
  · show Steps p.tables e below (s₁.setTop (mkF m 0 #[.val (.int (6 : Int32))] [])) _
    refine XS.iloadN X0.here hx rfl (hb hby d21_0) rfl ?_
    show Steps p.tables e below (s₁.setTop (mkF m 1 #[.val (.int (6 : Int32))] [(.int (6 : Int32))])) _
    refine XS.ifYes X0.here hx rfl (pc0 := 1) (pc' := 12) rfl (hb hby d21_1) rfl ((if0 _ _).trans (flt (show ¬ ((6 : Int32) < (0 : Int32)) by decide)).2.1) (by decide) (by decide) ?_
    show Steps p.tables e below (s₁.setTop (mkF m 12 #[.val (.int (6 : Int32))] [])) _
    refine XS.iloadN X0.here hx rfl (hb hby d21_12) rfl ?_
    show Steps p.tables e below (s₁.setTop (mkF m 13 #[.val (.int (6 : Int32))] [(.int (6 : Int32))])) _
    refine X0.ldcInt hx hown (mvT hZ (hw _ (List.mem_of_getElem? (i := 90) rfl))) (g := (mkF m 13 #[.val (.int (6 : Int32))] [(.int (6 : Int32))])) rfl (hb hby d21_13) _ ?_
    show Steps p.tables e below (s₁.setTop (mkF m 15 #[.val (.int (6 : Int32))] [(.int (1073741823 : Int32)), (.int (6 : Int32))])) _
    refine XS.icmpYes X0.here hx rfl (pc0 := 15) (pc' := 55) rfl (hb hby d21_15) rfl (tlt (show ((6 : Int32) < (1073741823 : Int32)) by decide)).1 (by decide) (by decide) ?_
    show Steps p.tables e below (s₁.setTop (mkF m 55 #[.val (.int (6 : Int32))] [])) _
    refine XS.iloadN X0.here hx rfl (hb hby d21_55) rfl ?_
    show Steps p.tables e below (s₁.setTop (mkF m 56 #[.val (.int (6 : Int32))] [(.int (6 : Int32))])) _
    refine XS.iconst X0.here hx rfl (hb hby d21_56) ?_
    show Steps p.tables e below (s₁.setTop (mkF m 57 #[.val (.int (6 : Int32))] [(.int (1 : Int32)), (.int (6 : Int32))])) _
    refine XS.ishl X0.here hx rfl (hb hby d21_57) rfl ?_
    show Steps p.tables e below (s₁.setTop (mkF m 58 #[.val (.int (6 : Int32))] [(.int ((6 : Int32) <<< ((1 : Int32) &&& 31)))])) _
    exact retI X0 hx Bd.returns (hb hby d21_58) hr
  · show Q21 Z cs h0 n0 _ s₁.heap _
    rw [e0]
    exact ⟨congrArg (fun z => some (Value.int z)) er.symm, N0, rfl⟩
theorem pd_11 : parseMethodDescriptor "(I)I" = some ⟨[.int], some .int⟩ := by decide +kernel
theorem d20_0 : decode jdk_52_method_2_code 0 = .ok (.iload_n 0, 1) := by decide +kernel
theorem d20_1 : decode jdk_52_method_2_code 1 = .ok (.invokestatic 11, 3) := by decide +kernel
theorem d20_4 : decode jdk_52_method_2_code 4 = .ok (.newarray .byte, 2) := by decide +kernel
theorem d20_6 : decode jdk_52_method_2_code 6 = .ok (.areturn, 1) := by decide +kernel
theorem pn_20 : plainName "java/lang/StringUTF16" = true := by first | (simp [plainName, overriddenIn]; done) | decide +kernel
theorem ef_20 (m : MethodId)  : entryFrame m #[(.int (6 : Int32))] 1 = mkF m 0 #[.val (.int (6 : Int32))] [] := by first | (simp [entryFrame, mkF, argsToLocals, Value.category]; done) | rfl
def Q20 (Z : State)  (cs : Int32) (h0 : Heap) (n0 : Nat) (v : Option Value) (h : Heap) (L : List Loc) : Prop := ∃ (b : Addr), v = some (.ref b) ∧ Fr n0 L ∧ Keep h0 h ([] : List Addr) ∧ h0.size ≤ b ∧ own_A Z h b .byte (12 : Int32) (fun i => .int ((fun _ => (0 : Int32)) i))
set_option maxRecDepth 65536 in
set_option maxHeartbeats 40000000 in
theorem rm20 (l : Launch) (Z : State) (a0 : Array Value) (hw : ∀ d ∈ tables_1, d.before a0 Z = true) (ws : List Jvm.Cond)  (cs : Int32) (h0 : Heap) (n0 : Nat) (Z0 : n0 ≤ h0.size) (hWd : own_W Z cs) (O0 : Old Z n0 h0) :
    MetFree l (⟨"java/lang/StringUTF16", "newBytesFor", "(I)[B"⟩ : MethodName) (head1 (Jvm.Cond.code (⟨"java/lang/StringUTF16", "newBytesFor", "(I)[B"⟩ : MethodName) jdk_52_method_2_code 1 (some (.array .byte)) :: ws) ({ frames := 1, cells := 1, slots := 12, locals := 12 } : Room)) (fun a U => a = #[(.int (6 : Int32))] ∧ Z.Warmed39 U.vm ∧ U.heap = h0) (fun _ _ _ _ _ => True) (fun _ U o U' => ∃ v L, o = .returned v ∧ Q20 Z cs h0 n0 v U'.heap L ∧ FrameEnd U o U' L ({ frames := 1, cells := 1, slots := 12, locals := 12 } : Room).cells ({ frames := 1, cells := 1, slots := 12, locals := 12 } : Room).slots) := by
  refine MetFree.of_bodySF (plainFor_of_name pn_20) hisR ?_
  intro p e s m args below meth c s₁ Bd hml0 hP hK
  obtain ⟨rfl, hZ, hh⟩ := hP
  have hx := Bd.exec
  have hby := Bd.bytes
  have hml : c.maxLocals = 1 := hml0
  have hown : s.vm.findClass "java/lang/StringUTF16" = some m.cls := findClass_of_methodNamed Bd.named
  have hnm := (name_of_methodNamed Bd.named Bd.method).1
  have X0 : Stand p l e ({ frames := 1, cells := 1, slots := 12, locals := 12 } : Room) s m #[(.int (6 : Int32))] below meth c s₁ [] 0 0 := Stand.of_body Bd
  have e0 : s₁.heap = h0 := by rw [← hh, Bd.state]; rfl
  have N0 := Fr.nil n0
  have pre0 : ∀ t, Steps p.tables e below (s₁.setTop (mkF m 0 #[.val (.int (6 : Int32))] [])) t → Steps p.tables e below (s₁.setTop (entryFrame m #[(.int (6 : Int32))] 1)) t := fun t k => castTop (ef_20 m ) k
  have K0 := Keep.refl h0 ([] : List Addr)
  obtain ⟨_, _, ⟨T1, L1, k1, n1⟩, -, X1, ⟨Lc1, hQ1, l1, y1, z1⟩, st1⟩ := Jvm.LawKit.callS X0 hx (y := (⟨"java/lang/StringUTF16", "newBytesLength", "(I)I"⟩ : MethodName)) hown (mvT hZ (hw _ (List.mem_of_getElem? (i := 87) rfl))) (mvT hZ (hw _ (List.mem_of_getElem? (i := 88) rfl))) (mvT hZ (hw _ (List.mem_of_getElem? (i := 23) rfl))) (mvT hZ (hw _ (List.mem_of_getElem? (i := 89) rfl))) (by decide) (backOf (W := 0) (rm21 l Z a0 hw [] cs h0 n0 Z0 hWd O0) hZ (hw _ (List.mem_of_getElem? (i := 89) rfl)) (hw _ (List.mem_of_getElem? (i := 23) rfl)) (by decide) (by decide)) (g := (mkF m 1 #[.val (.int (6 : Int32))] [(.int (6 : Int32))])) rfl (by rw [hml]; rfl) (argsL := [(.int (6 : Int32))]) (rest := []) (lenOf pd_11 rfl) rfl (by show 2 * 0 + _ ≤ _; exact Nat.le_of_eq rfl) (hb hby d20_1) (fun _ _ => ⟨rfl, e0, (by decide : 0 + 0 ≤ _), (by decide : 0 + 0 ≤ _)⟩)
  dsimp only [Pt.U, Pt.locs, Pt.cells, Pt.slots] at X1 l1 y1 z1 st1 hQ1
  subst l1 y1 z1
  obtain ⟨rfl, N1q, e1⟩ := hQ1
  have N1 := Fr.app N0 N1q
  obtain ⟨T2, h2, k2, X2, e2, E2, Ax2, st2⟩ := newP X1 hx hZ (hw _ (List.mem_of_getElem? (i := 25) rfl)) e1 (g := (mkF m 4 #[.val (.int (6 : Int32))] [(.int f21)])) rfl (hb hby d20_4) rfl (by decide) (cap := 12) (by decide) (by decide) (by decide) (by decide)
  obtain ⟨b2, g2⟩ : ∃ z, z = h0.size := ⟨_, rfl⟩
  rw [← g2] at Ax2 st2
  have g_b2 : n0 ≤ b2 := Nat.le_trans Z0 (Nat.le_of_eq g2.symm)
  have sz_b2 : h0.size ≤ b2 := Nat.le_trans K0.1 (Nat.le_of_eq g2.symm)
  have K2 := K0.ext E2
  have Zs2 := Nat.le_trans Z0 E2.1
  have O2 := O0.ext E2
  have A_b2_2 : own_A Z h2 b2 .byte f21 (fun i => .int ((fun _ => (0 : Int32)) i)) := own_A_new Ax2 (by decide)
  obtain ⟨fs, hr, hrun, hended, hW, hsame⟩ := X2.leave (v := some (.ref b2)) (fun h => by rw [Bd.returns] at h; cases h)
  refine ⟨_, _, pre0 _ ?_, hrun, hended, _, _, rfl, ?_, ⟨_, rfl⟩, hW, hsame.mono (by decide) (by decide)⟩
  · show Steps p.tables e below (s₁.setTop (mkF m 0 #[.val (.int (6 : Int32))] [])) _
    refine XS.iloadN X0.here hx rfl (hb hby d20_0) rfl ?_
    show Steps p.tables e below (s₁.setTop (mkF m 1 #[.val (.int (6 : Int32))] [(.int (6 : Int32))])) _
    refine st1 _ ?_
    show Steps p.tables e below (T1.setTop (mkF m 4 #[.val (.int (6 : Int32))] [(.int f21)])) _
    refine st2 _ ?_
    show Steps p.tables e below (T2.setTop (mkF m 6 #[.val (.int (6 : Int32))] [(.ref b2)])) _
    jvm_step X2.here [X2.here.top, hx, (hb hby d20_6), X2.method', Bd.returns, Value.isRef, FieldType.isReference]
    first | (intro acts; rw [hr _ acts rfl rfl rfl]) | rw [hr _ _ rfl rfl rfl]
    exact Steps.refl _
  · show Q20 Z cs h0 n0 _ T2.heap _
    rw [e2]
    exact ⟨b2, rfl, N1, K2, sz_b2, (own_castA (show f21 = (12 : Int32) by decide) A_b2_2)⟩
theorem pd_12 : parseMethodDescriptor "(I)[B" = some ⟨[.int], some (.array .byte)⟩ := by decide +kernel
theorem pd_13 : parseMethodDescriptor "([BII)V" = some ⟨[(.array .byte), .int, .int], none⟩ := by decide +kernel
theorem d19_0 : decode jdk_52_method_14_code 0 = .ok (.iload_n 2, 1) := by decide +kernel
theorem d19_1 : decode jdk_52_method_14_code 1 = .ok (.invokestatic 107, 3) := by decide +kernel
theorem d19_4 : decode jdk_52_method_14_code 4 = .ok (.astore_n 3, 1) := by decide +kernel
theorem d19_5 : decode jdk_52_method_14_code 5 = .ok (.iconst 0, 1) := by decide +kernel
theorem d19_6 : decode jdk_52_method_14_code 6 = .ok (.istore 4, 2) := by decide +kernel
theorem d19_8 : decode jdk_52_method_14_code 8 = .ok (.iload 4, 2) := by decide +kernel
theorem d19_10 : decode jdk_52_method_14_code 10 = .ok (.iload_n 2, 1) := by decide +kernel
theorem d19_11 : decode jdk_52_method_14_code 11 = .ok (.if_icmp .ge 21, 3) := by decide +kernel
theorem d19_14 : decode jdk_52_method_14_code 14 = .ok (.aload_n 3, 1) := by decide +kernel
theorem d19_15 : decode jdk_52_method_14_code 15 = .ok (.iload 4, 2) := by decide +kernel
theorem d19_17 : decode jdk_52_method_14_code 17 = .ok (.aload_n 0, 1) := by decide +kernel
theorem d19_18 : decode jdk_52_method_14_code 18 = .ok (.iload_n 1, 1) := by decide +kernel
theorem d19_19 : decode jdk_52_method_14_code 19 = .ok (.caload, 1) := by decide +kernel
theorem d19_20 : decode jdk_52_method_14_code 20 = .ok (.invokestatic 111, 3) := by decide +kernel
theorem d19_23 : decode jdk_52_method_14_code 23 = .ok (.iinc 1 1, 3) := by decide +kernel
theorem d19_26 : decode jdk_52_method_14_code 26 = .ok (.iinc 4 1, 3) := by decide +kernel
theorem d19_29 : decode jdk_52_method_14_code 29 = .ok (.goto (-21), 3) := by decide +kernel
theorem d19_32 : decode jdk_52_method_14_code 32 = .ok (.aload_n 3, 1) := by decide +kernel
theorem d19_33 : decode jdk_52_method_14_code 33 = .ok (.areturn, 1) := by decide +kernel
theorem pn_19 : plainName "java/lang/StringUTF16" = true := by first | (simp [plainName, overriddenIn]; done) | decide +kernel
theorem ef_19 (m : MethodId) (a1 : Addr) : entryFrame m #[(.ref a1), (.int (0 : Int32)), (.int (6 : Int32))] 5 = mkF m 0 #[.val (.ref a1), .val (.int (0 : Int32)), .val (.int (6 : Int32)), .unset, .unset] [] := by first | (simp [entryFrame, mkF, argsToLocals, Value.category]; done) | rfl
def Q19 (Z : State) (a1 : Addr) (cs : Int32) (cc : Int32 → Int32) (h0 : Heap) (n0 : Nat) (v : Option Value) (h : Heap) (L : List Loc) : Prop := ∃ (b : Addr), v = some (.ref b) ∧ Fr n0 L ∧ Keep h0 h ([] : List Addr) ∧ h0.size ≤ b ∧ own_A Z h b .byte (12 : Int32) (fun i => .int ((own_utf cc) i))
set_option maxRecDepth 65536 in
set_option maxHeartbeats 40000000 in
theorem rm19 (l : Launch) (Z : State) (a0 : Array Value) (hw : ∀ d ∈ tables_1, d.before a0 Z = true) (ws : List Jvm.Cond) (a1 : Addr) (cs : Int32) (cc : Int32 → Int32) (h0 : Heap) (n0 : Nat) (Z0 : n0 ≤ h0.size) (A_a1 : own_A Z h0 a1 .char (6 : Int32) (fun i => .int (cc i))) (hWd : own_W Z cs) (O0 : Old Z n0 h0) :
    MetFree l (⟨"java/lang/StringUTF16", "toBytes", "([CII)[B"⟩ : MethodName) (head1 (Jvm.Cond.code (⟨"java/lang/StringUTF16", "toBytes", "([CII)[B"⟩ : MethodName) jdk_52_method_14_code 5 (some (.array .byte)) :: ws) ({ frames := 2, cells := 1, slots := 12, locals := 24 } : Room)) (fun a U => a = #[(.ref a1), (.int (0 : Int32)), (.int (6 : Int32))] ∧ Z.Warmed39 U.vm ∧ U.heap = h0) (fun _ _ _ _ _ => True) (fun _ U o U' => ∃ v L, o = .returned v ∧ Q19 Z a1 cs cc h0 n0 v U'.heap L ∧ FrameEnd U o U' L ({ frames := 2, cells := 1, slots := 12, locals := 24 } : Room).cells ({ frames := 2, cells := 1, slots := 12, locals := 24 } : Room).slots) := by
  refine MetFree.of_bodySF (plainFor_of_name pn_19) hisR ?_
  intro p e s m args below meth c s₁ Bd hml0 hP hK
  obtain ⟨rfl, hZ, hh⟩ := hP
  have hx := Bd.exec
  have hby := Bd.bytes
  have hml : c.maxLocals = 5 := hml0
  have hown : s.vm.findClass "java/lang/StringUTF16" = some m.cls := findClass_of_methodNamed Bd.named
  have hnm := (name_of_methodNamed Bd.named Bd.method).1
  have X0 : Stand p l e ({ frames := 2, cells := 1, slots := 12, locals := 24 } : Room) s m #[(.ref a1), (.int (0 : Int32)), (.int (6 : Int32))] below meth c s₁ [] 0 0 := Stand.of_body Bd
  have e0 : s₁.heap = h0 := by rw [← hh, Bd.state]; rfl
  have N0 := Fr.nil n0
  have pre0 : ∀ t, Steps p.tables e below (s₁.setTop (mkF m 0 #[.val (.ref a1), .val (.int (0 : Int32)), .val (.int (6 : Int32)), .unset, .unset] [])) t → Steps p.tables e below (s₁.setTop (entryFrame m #[(.ref a1), (.int (0 : Int32)), (.int (6 : Int32))] 5)) t := fun t k => castTop (ef_19 m a1) k
  have K0 := Keep.refl h0 ([] : List Addr)
  obtain ⟨_, _, ⟨T1, L1, k1, n1⟩, -, X1, ⟨Lc1, hQ1, l1, y1, z1⟩, st1⟩ := Jvm.LawKit.callS X0 hx (y := (⟨"java/lang/StringUTF16", "newBytesFor", "(I)[B"⟩ : MethodName)) hown (mvT hZ (hw _ (List.mem_of_getElem? (i := 84) rfl))) (mvT hZ (hw _ (List.mem_of_getElem? (i := 85) rfl))) (mvT hZ (hw _ (List.mem_of_getElem? (i := 23) rfl))) (mvT hZ (hw _ (List.mem_of_getElem? (i := 86) rfl))) (by decide) (backOf (W := 0) (rm20 l Z a0 hw [] cs h0 n0 Z0 hWd O0) hZ (hw _ (List.mem_of_getElem? (i := 86) rfl)) (hw _ (List.mem_of_getElem? (i := 23) rfl)) (by decide) (by decide)) (g := (mkF m 1 #[.val (.ref a1), .val (.int (0 : Int32)), .val (.int (6 : Int32)), .unset, .unset] [(.int (6 : Int32))])) rfl (by rw [hml]; rfl) (argsL := [(.int (6 : Int32))]) (rest := []) (lenOf pd_12 rfl) rfl (by show 2 * 0 + _ ≤ _; exact Nat.le_of_eq rfl) (hb hby d19_1) (fun _ _ => ⟨rfl, e0, (by decide : 0 + 1 ≤ _), (by decide : 0 + 12 ≤ _)⟩)
  dsimp only [Pt.U, Pt.locs, Pt.cells, Pt.slots] at X1 l1 y1 z1 st1 hQ1
  subst l1 y1 z1
  obtain ⟨h1, e1⟩ : ∃ z, T1.heap = z := ⟨_, rfl⟩
  rw [e1] at hQ1
  obtain ⟨b1, rfl, N1q, Kc1, szc_b1, A_b1_1q⟩ := hQ1
  have ne_a1_b1 : a1 ≠ b1 := Nat.ne_of_lt (Nat.lt_of_lt_of_le (own_A_lt A_a1) szc_b1)
  have g_b1 : n0 ≤ b1 := Nat.le_trans Z0 szc_b1
  have sz_b1 : h0.size ≤ b1 := Nat.le_trans K0.1 szc_b1
  have A_a1_1 : own_A Z h1 a1 .char (6 : Int32) (fun i => .int (cc i)) := own_A_keep A_a1 Kc1 nin0
  have K1 := K0.trans Kc1 all0
  have Zs1 := Nat.le_trans Z0 Kc1.1
  have O1 := O0.keep Kc1 all0
  obtain ⟨y2, hy2⟩ : ∃ yy_ : Int32 → Int32, yy_ = (fun _ => (0 : Int32)) := ⟨_, rfl⟩
  have A_b1_1 : own_A Z h1 b1 .byte (12 : Int32) (fun i => .int (y2 i)) := by subst hy2; exact A_b1_1q
  have N1 := Fr.app N0 N1q
  obtain ⟨cl3, Ar3, Sz3, Mz3, Hz3⟩ := id A_a1_1
  obtain ⟨cl4, Ar4, Sz4, Mz4, Hz4⟩ := id A_b1_1
  obtain ⟨_, _, ⟨T5, L5, k5, n5⟩, -, X5, ⟨Lc5, hQ5, l5, y5, z5⟩, st5⟩ := Jvm.LawKit.callS X1 hx (y := (⟨"java/lang/StringUTF16", "putChar", "([BII)V"⟩ : MethodName)) hown (mvT hZ (hw _ (List.mem_of_getElem? (i := 91) rfl))) (mvT hZ (hw _ (List.mem_of_getElem? (i := 92) rfl))) (mvT hZ (hw _ (List.mem_of_getElem? (i := 23) rfl))) (mvT hZ (hw _ (List.mem_of_getElem? (i := 93) rfl))) (by decide) (backOf (W := 0) (rm22 l Z a0 hw [] b1 (0 : Int32) (cc (0 : Int32)) cs y2 h1 n0 Zs1 A_b1_1 g_b1 hWd (by decide) O1) hZ (hw _ (List.mem_of_getElem? (i := 93) rfl)) (hw _ (List.mem_of_getElem? (i := 23) rfl)) (by decide) (by decide)) (g := (mkF m 20 #[.val (.ref a1), .val (.int (0 : Int32)), .val (.int (6 : Int32)), .val (.ref b1), .val (.int (0 : Int32))] [(.int (cc (0 : Int32))), (.int (0 : Int32)), (.ref b1)])) rfl (by rw [hml]; rfl) (argsL := [(.ref b1), (.int (0 : Int32)), (.int (cc (0 : Int32)))]) (rest := []) (lenOf pd_13 rfl) rfl (by show 2 * 0 + _ ≤ _; exact Nat.le_of_eq rfl) (hb hby d19_20) (fun _ _ => ⟨rfl, e1, (by decide : 1 + 0 ≤ _), (by decide : 12 + 0 ≤ _)⟩)
  dsimp only [Pt.U, Pt.locs, Pt.cells, Pt.slots] at X5 l5 y5 z5 st5 hQ5
  subst l5 y5 z5
  obtain ⟨h5, e5⟩ : ∃ z, T5.heap = z := ⟨_, rfl⟩
  rw [e5] at hQ5
  obtain ⟨rfl, N5q, Kc5, A_b1_5q⟩ := hQ5
  have A_a1_5 : own_A Z h5 a1 .char (6 : Int32) (fun i => .int (cc i)) := own_A_keep A_a1_1 Kc5 (ninS ne_a1_b1 nin0)
  have K5 := K1.trans Kc5 (allS (Or.inr sz_b1) all0)
  have Zs5 := Nat.le_trans Zs1 Kc5.1
  have O5 := O1.keep Kc5 (allS g_b1 all0)
  obtain ⟨y6, hy6⟩ : ∃ yy_ : Int32 → Int32, yy_ = (own_put y2 (0 : Int32) (cc (0 : Int32))) := ⟨_, rfl⟩
  have A_b1_5 : own_A Z h5 b1 .byte (12 : Int32) (fun i => .int (y6 i)) := by subst hy6; exact A_b1_5q
  have N5 := Fr.app N1 N5q
  obtain ⟨cl7, Ar7, Sz7, Mz7, Hz7⟩ := id A_a1_5
  obtain ⟨cl8, Ar8, Sz8, Mz8, Hz8⟩ := id A_b1_5
  obtain ⟨_, _, ⟨T9, L9, k9, n9⟩, -, X9, ⟨Lc9, hQ9, l9, y9, z9⟩, st9⟩ := Jvm.LawKit.callS X5 hx (y := (⟨"java/lang/StringUTF16", "putChar", "([BII)V"⟩ : MethodName)) hown (mvT hZ (hw _ (List.mem_of_getElem? (i := 91) rfl))) (mvT hZ (hw _ (List.mem_of_getElem? (i := 92) rfl))) (mvT hZ (hw _ (List.mem_of_getElem? (i := 23) rfl))) (mvT hZ (hw _ (List.mem_of_getElem? (i := 93) rfl))) (by decide) (backOf (W := 0) (rm22 l Z a0 hw [] b1 (1 : Int32) (cc (1 : Int32)) cs y6 h5 n0 Zs5 A_b1_5 g_b1 hWd (by decide) O5) hZ (hw _ (List.mem_of_getElem? (i := 93) rfl)) (hw _ (List.mem_of_getElem? (i := 23) rfl)) (by decide) (by decide)) (g := (mkF m 20 #[.val (.ref a1), .val (.int (1 : Int32)), .val (.int (6 : Int32)), .val (.ref b1), .val (.int (1 : Int32))] [(.int (cc (1 : Int32))), (.int (1 : Int32)), (.ref b1)])) rfl (by rw [hml]; rfl) (argsL := [(.ref b1), (.int (1 : Int32)), (.int (cc (1 : Int32)))]) (rest := []) (lenOf pd_13 rfl) rfl (by show 2 * 0 + _ ≤ _; exact Nat.le_of_eq rfl) (hb hby d19_20) (fun _ _ => ⟨rfl, e5, (by decide : 1 + 0 ≤ _), (by decide : 12 + 0 ≤ _)⟩)
  dsimp only [Pt.U, Pt.locs, Pt.cells, Pt.slots] at X9 l9 y9 z9 st9 hQ9
  subst l9 y9 z9
  obtain ⟨h9, e9⟩ : ∃ z, T9.heap = z := ⟨_, rfl⟩
  rw [e9] at hQ9
  obtain ⟨rfl, N9q, Kc9, A_b1_9q⟩ := hQ9
  have A_a1_9 : own_A Z h9 a1 .char (6 : Int32) (fun i => .int (cc i)) := own_A_keep A_a1_5 Kc9 (ninS ne_a1_b1 nin0)
  have K9 := K5.trans Kc9 (allS (Or.inr sz_b1) all0)
  have Zs9 := Nat.le_trans Zs5 Kc9.1
  have O9 := O5.keep Kc9 (allS g_b1 all0)
  obtain ⟨y10, hy10⟩ : ∃ yy_ : Int32 → Int32, yy_ = (own_put y6 (1 : Int32) (cc (1 : Int32))) := ⟨_, rfl⟩
  have A_b1_9 : own_A Z h9 b1 .byte (12 : Int32) (fun i => .int (y10 i)) := by subst hy10; exact A_b1_9q
  have N9 := Fr.app N5 N9q
  obtain ⟨cl11, Ar11, Sz11, Mz11, Hz11⟩ := id A_a1_9
  obtain ⟨cl12, Ar12, Sz12, Mz12, Hz12⟩ := id A_b1_9
  obtain ⟨_, _, ⟨T13, L13, k13, n13⟩, -, X13, ⟨Lc13, hQ13, l13, y13, z13⟩, st13⟩ := Jvm.LawKit.callS X9 hx (y := (⟨"java/lang/StringUTF16", "putChar", "([BII)V"⟩ : MethodName)) hown (mvT hZ (hw _ (List.mem_of_getElem? (i := 91) rfl))) (mvT hZ (hw _ (List.mem_of_getElem? (i := 92) rfl))) (mvT hZ (hw _ (List.mem_of_getElem? (i := 23) rfl))) (mvT hZ (hw _ (List.mem_of_getElem? (i := 93) rfl))) (by decide) (backOf (W := 0) (rm22 l Z a0 hw [] b1 (2 : Int32) (cc (2 : Int32)) cs y10 h9 n0 Zs9 A_b1_9 g_b1 hWd (by decide) O9) hZ (hw _ (List.mem_of_getElem? (i := 93) rfl)) (hw _ (List.mem_of_getElem? (i := 23) rfl)) (by decide) (by decide)) (g := (mkF m 20 #[.val (.ref a1), .val (.int (2 : Int32)), .val (.int (6 : Int32)), .val (.ref b1), .val (.int (2 : Int32))] [(.int (cc (2 : Int32))), (.int (2 : Int32)), (.ref b1)])) rfl (by rw [hml]; rfl) (argsL := [(.ref b1), (.int (2 : Int32)), (.int (cc (2 : Int32)))]) (rest := []) (lenOf pd_13 rfl) rfl (by show 2 * 0 + _ ≤ _; exact Nat.le_of_eq rfl) (hb hby d19_20) (fun _ _ => ⟨rfl, e9, (by decide : 1 + 0 ≤ _), (by decide : 12 + 0 ≤ _)⟩)
  dsimp only [Pt.U, Pt.locs, Pt.cells, Pt.slots] at X13 l13 y13 z13 st13 hQ13
  subst l13 y13 z13
  obtain ⟨h13, e13⟩ : ∃ z, T13.heap = z := ⟨_, rfl⟩
  rw [e13] at hQ13
  obtain ⟨rfl, N13q, Kc13, A_b1_13q⟩ := hQ13
  have A_a1_13 : own_A Z h13 a1 .char (6 : Int32) (fun i => .int (cc i)) := own_A_keep A_a1_9 Kc13 (ninS ne_a1_b1 nin0)
  have K13 := K9.trans Kc13 (allS (Or.inr sz_b1) all0)
  have Zs13 := Nat.le_trans Zs9 Kc13.1
  have O13 := O9.keep Kc13 (allS g_b1 all0)
  obtain ⟨y14, hy14⟩ : ∃ yy_ : Int32 → Int32, yy_ = (own_put y10 (2 : Int32) (cc (2 : Int32))) := ⟨_, rfl⟩
  have A_b1_13 : own_A Z h13 b1 .byte (12 : Int32) (fun i => .int (y14 i)) := by subst hy14; exact A_b1_13q
  have N13 := Fr.app N9 N13q
  obtain ⟨cl15, Ar15, Sz15, Mz15, Hz15⟩ := id A_a1_13
  obtain ⟨cl16, Ar16, Sz16, Mz16, Hz16⟩ := id A_b1_13
  obtain ⟨_, _, ⟨T17, L17, k17, n17⟩, -, X17, ⟨Lc17, hQ17, l17, y17, z17⟩, st17⟩ := Jvm.LawKit.callS X13 hx (y := (⟨"java/lang/StringUTF16", "putChar", "([BII)V"⟩ : MethodName)) hown (mvT hZ (hw _ (List.mem_of_getElem? (i := 91) rfl))) (mvT hZ (hw _ (List.mem_of_getElem? (i := 92) rfl))) (mvT hZ (hw _ (List.mem_of_getElem? (i := 23) rfl))) (mvT hZ (hw _ (List.mem_of_getElem? (i := 93) rfl))) (by decide) (backOf (W := 0) (rm22 l Z a0 hw [] b1 (3 : Int32) (cc (3 : Int32)) cs y14 h13 n0 Zs13 A_b1_13 g_b1 hWd (by decide) O13) hZ (hw _ (List.mem_of_getElem? (i := 93) rfl)) (hw _ (List.mem_of_getElem? (i := 23) rfl)) (by decide) (by decide)) (g := (mkF m 20 #[.val (.ref a1), .val (.int (3 : Int32)), .val (.int (6 : Int32)), .val (.ref b1), .val (.int (3 : Int32))] [(.int (cc (3 : Int32))), (.int (3 : Int32)), (.ref b1)])) rfl (by rw [hml]; rfl) (argsL := [(.ref b1), (.int (3 : Int32)), (.int (cc (3 : Int32)))]) (rest := []) (lenOf pd_13 rfl) rfl (by show 2 * 0 + _ ≤ _; exact Nat.le_of_eq rfl) (hb hby d19_20) (fun _ _ => ⟨rfl, e13, (by decide : 1 + 0 ≤ _), (by decide : 12 + 0 ≤ _)⟩)
  dsimp only [Pt.U, Pt.locs, Pt.cells, Pt.slots] at X17 l17 y17 z17 st17 hQ17
  subst l17 y17 z17
  obtain ⟨h17, e17⟩ : ∃ z, T17.heap = z := ⟨_, rfl⟩
  rw [e17] at hQ17
  obtain ⟨rfl, N17q, Kc17, A_b1_17q⟩ := hQ17
  have A_a1_17 : own_A Z h17 a1 .char (6 : Int32) (fun i => .int (cc i)) := own_A_keep A_a1_13 Kc17 (ninS ne_a1_b1 nin0)
  have K17 := K13.trans Kc17 (allS (Or.inr sz_b1) all0)
  have Zs17 := Nat.le_trans Zs13 Kc17.1
  have O17 := O13.keep Kc17 (allS g_b1 all0)
  obtain ⟨y18, hy18⟩ : ∃ yy_ : Int32 → Int32, yy_ = (own_put y14 (3 : Int32) (cc (3 : Int32))) := ⟨_, rfl⟩
  have A_b1_17 : own_A Z h17 b1 .byte (12 : Int32) (fun i => .int (y18 i)) := by subst hy18; exact A_b1_17q
  have N17 := Fr.app N13 N17q
  obtain ⟨cl19, Ar19, Sz19, Mz19, Hz19⟩ := id A_a1_17
  obtain ⟨cl20, Ar20, Sz20, Mz20, Hz20⟩ := id A_b1_17
  obtain ⟨_, _, ⟨T21, L21, k21, n21⟩, -, X21, ⟨Lc21, hQ21, l21, y21, z21⟩, st21⟩ := Jvm.LawKit.callS X17 hx (y := (⟨"java/lang/StringUTF16", "putChar", "([BII)V"⟩ : MethodName)) hown (mvT hZ (hw _ (List.mem_of_getElem? (i := 91) rfl))) (mvT hZ (hw _ (List.mem_of_getElem? (i := 92) rfl))) (mvT hZ (hw _ (List.mem_of_getElem? (i := 23) rfl))) (mvT hZ (hw _ (List.mem_of_getElem? (i := 93) rfl))) (by decide) (backOf (W := 0) (rm22 l Z a0 hw [] b1 (4 : Int32) (cc (4 : Int32)) cs y18 h17 n0 Zs17 A_b1_17 g_b1 hWd (by decide) O17) hZ (hw _ (List.mem_of_getElem? (i := 93) rfl)) (hw _ (List.mem_of_getElem? (i := 23) rfl)) (by decide) (by decide)) (g := (mkF m 20 #[.val (.ref a1), .val (.int (4 : Int32)), .val (.int (6 : Int32)), .val (.ref b1), .val (.int (4 : Int32))] [(.int (cc (4 : Int32))), (.int (4 : Int32)), (.ref b1)])) rfl (by rw [hml]; rfl) (argsL := [(.ref b1), (.int (4 : Int32)), (.int (cc (4 : Int32)))]) (rest := []) (lenOf pd_13 rfl) rfl (by show 2 * 0 + _ ≤ _; exact Nat.le_of_eq rfl) (hb hby d19_20) (fun _ _ => ⟨rfl, e17, (by decide : 1 + 0 ≤ _), (by decide : 12 + 0 ≤ _)⟩)
  dsimp only [Pt.U, Pt.locs, Pt.cells, Pt.slots] at X21 l21 y21 z21 st21 hQ21
  subst l21 y21 z21
  obtain ⟨h21, e21⟩ : ∃ z, T21.heap = z := ⟨_, rfl⟩
  rw [e21] at hQ21
  obtain ⟨rfl, N21q, Kc21, A_b1_21q⟩ := hQ21
  have A_a1_21 : own_A Z h21 a1 .char (6 : Int32) (fun i => .int (cc i)) := own_A_keep A_a1_17 Kc21 (ninS ne_a1_b1 nin0)
  have K21 := K17.trans Kc21 (allS (Or.inr sz_b1) all0)
  have Zs21 := Nat.le_trans Zs17 Kc21.1
  have O21 := O17.keep Kc21 (allS g_b1 all0)
  obtain ⟨y22, hy22⟩ : ∃ yy_ : Int32 → Int32, yy_ = (own_put y18 (4 : Int32) (cc (4 : Int32))) := ⟨_, rfl⟩
  have A_b1_21 : own_A Z h21 b1 .byte (12 : Int32) (fun i => .int (y22 i)) := by subst hy22; exact A_b1_21q
  have N21 := Fr.app N17 N21q
  obtain ⟨cl23, Ar23, Sz23, Mz23, Hz23⟩ := id A_a1_21
  obtain ⟨cl24, Ar24, Sz24, Mz24, Hz24⟩ := id A_b1_21
  obtain ⟨_, _, ⟨T25, L25, k25, n25⟩, -, X25, ⟨Lc25, hQ25, l25, y25, z25⟩, st25⟩ := Jvm.LawKit.callS X21 hx (y := (⟨"java/lang/StringUTF16", "putChar", "([BII)V"⟩ : MethodName)) hown (mvT hZ (hw _ (List.mem_of_getElem? (i := 91) rfl))) (mvT hZ (hw _ (List.mem_of_getElem? (i := 92) rfl))) (mvT hZ (hw _ (List.mem_of_getElem? (i := 23) rfl))) (mvT hZ (hw _ (List.mem_of_getElem? (i := 93) rfl))) (by decide) (backOf (W := 0) (rm22 l Z a0 hw [] b1 (5 : Int32) (cc (5 : Int32)) cs y22 h21 n0 Zs21 A_b1_21 g_b1 hWd (by decide) O21) hZ (hw _ (List.mem_of_getElem? (i := 93) rfl)) (hw _ (List.mem_of_getElem? (i := 23) rfl)) (by decide) (by decide)) (g := (mkF m 20 #[.val (.ref a1), .val (.int (5 : Int32)), .val (.int (6 : Int32)), .val (.ref b1), .val (.int (5 : Int32))] [(.int (cc (5 : Int32))), (.int (5 : Int32)), (.ref b1)])) rfl (by rw [hml]; rfl) (argsL := [(.ref b1), (.int (5 : Int32)), (.int (cc (5 : Int32)))]) (rest := []) (lenOf pd_13 rfl) rfl (by show 2 * 0 + _ ≤ _; exact Nat.le_of_eq rfl) (hb hby d19_20) (fun _ _ => ⟨rfl, e21, (by decide : 1 + 0 ≤ _), (by decide : 12 + 0 ≤ _)⟩)
  dsimp only [Pt.U, Pt.locs, Pt.cells, Pt.slots] at X25 l25 y25 z25 st25 hQ25
  subst l25 y25 z25
  obtain ⟨h25, e25⟩ : ∃ z, T25.heap = z := ⟨_, rfl⟩
  rw [e25] at hQ25
  obtain ⟨rfl, N25q, Kc25, A_b1_25q⟩ := hQ25
  have A_a1_25 : own_A Z h25 a1 .char (6 : Int32) (fun i => .int (cc i)) := own_A_keep A_a1_21 Kc25 (ninS ne_a1_b1 nin0)
  have K25 := K21.trans Kc25 (allS (Or.inr sz_b1) all0)
  have Zs25 := Nat.le_trans Zs21 Kc25.1
  have O25 := O21.keep Kc25 (allS g_b1 all0)
  obtain ⟨y26, hy26⟩ : ∃ yy_ : Int32 → Int32, yy_ = (own_put y22 (5 : Int32) (cc (5 : Int32))) := ⟨_, rfl⟩
  have A_b1_25 : own_A Z h25 b1 .byte (12 : Int32) (fun i => .int (y26 i)) := by subst hy26; exact A_b1_25q
  have N25 := Fr.app N21 N25q
  obtain ⟨cl27, Ar27, Sz27, Mz27, Hz27⟩ := id A_a1_25
  obtain ⟨cl28, Ar28, Sz28, Mz28, Hz28⟩ := id A_b1_25
  obtain ⟨fs, hr, hrun, hended, hW, hsame⟩ := X25.leave (v := some (.ref b1)) (fun h => by rw [Bd.returns] at h; cases h)
  refine ⟨_, _, pre0 _ ?_, hrun, hended, _, _, rfl, ?_, ⟨_, rfl⟩, hW, hsame.mono (by decide) (by decide)⟩
  · show Steps p.tables e below (s₁.setTop (mkF m 0 #[.val (.ref a1), .val (.int (0 : Int32)), .val (.int (6 : Int32)), .unset, .unset] [])) _
    refine XS.iloadN X0.here hx rfl (hb hby d19_0) rfl ?_
    show Steps p.tables e below (s₁.setTop (mkF m 1 #[.val (.ref a1), .val (.int (0 : Int32)), .val (.int (6 : Int32)), .unset, .unset] [(.int (6 : Int32))])) _
    refine st1 _ ?_
    show Steps p.tables e below (T1.setTop (mkF m 4 #[.val (.ref a1), .val (.int (0 : Int32)), .val (.int (6 : Int32)), .unset, .unset] [(.ref b1)])) _
    refine XS.astoreN X1.here hx rfl (hb hby d19_4) rfl rfl (l' := #[.val (.ref a1), .val (.int (0 : Int32)), .val (.int (6 : Int32)), .val (.ref b1), .unset]) rfl ?_
    show Steps p.tables e below (T1.setTop (mkF m 5 #[.val (.ref a1), .val (.int (0 : Int32)), .val (.int (6 : Int32)), .val (.ref b1), .unset] [])) _
    refine XS.iconst X1.here hx rfl (hb hby d19_5) ?_
    show Steps p.tables e below (T1.setTop (mkF m 6 #[.val (.ref a1), .val (.int (0 : Int32)), .val (.int (6 : Int32)), .val (.ref b1), .unset] [(.int (0 : Int32))])) _
    refine XS.istore X1.here hx rfl (hb hby d19_6) rfl (l' := #[.val (.ref a1), .val (.int (0 : Int32)), .val (.int (6 : Int32)), .val (.ref b1), .val (.int (0 : Int32))]) rfl ?_
    show Steps p.tables e below (T1.setTop (mkF m 8 #[.val (.ref a1), .val (.int (0 : Int32)), .val (.int (6 : Int32)), .val (.ref b1), .val (.int (0 : Int32))] [])) _
    refine XS.iload X1.here hx rfl (hb hby d19_8) rfl ?_
    show Steps p.tables e below (T1.setTop (mkF m 10 #[.val (.ref a1), .val (.int (0 : Int32)), .val (.int (6 : Int32)), .val (.ref b1), .val (.int (0 : Int32))] [(.int (0 : Int32))])) _
    refine XS.iloadN X1.here hx rfl (hb hby d19_10) rfl ?_
    show Steps p.tables e below (T1.setTop (mkF m 11 #[.val (.ref a1), .val (.int (0 : Int32)), .val (.int (6 : Int32)), .val (.ref b1), .val (.int (0 : Int32))] [(.int (6 : Int32)), (.int (0 : Int32))])) _
    refine XS.icmpNo X1.here hx rfl (hb hby d19_11) rfl (tlt (show ((0 : Int32) < (6 : Int32)) by decide)).2.1 ?_
    show Steps p.tables e below (T1.setTop (mkF m 14 #[.val (.ref a1), .val (.int (0 : Int32)), .val (.int (6 : Int32)), .val (.ref b1), .val (.int (0 : Int32))] [])) _
    refine XS.aloadN X1.here hx rfl (hb hby d19_14) rfl rfl ?_
    show Steps p.tables e below (T1.setTop (mkF m 15 #[.val (.ref a1), .val (.int (0 : Int32)), .val (.int (6 : Int32)), .val (.ref b1), .val (.int (0 : Int32))] [(.ref b1)])) _
    refine XS.iload X1.here hx rfl (hb hby d19_15) rfl ?_
    show Steps p.tables e below (T1.setTop (mkF m 17 #[.val (.ref a1), .val (.int (0 : Int32)), .val (.int (6 : Int32)), .val (.ref b1), .val (.int (0 : Int32))] [(.int (0 : Int32)), (.ref b1)])) _
    refine XS.aloadN X1.here hx rfl (hb hby d19_17) rfl rfl ?_
    show Steps p.tables e below (T1.setTop (mkF m 18 #[.val (.ref a1), .val (.int (0 : Int32)), .val (.int (6 : Int32)), .val (.ref b1), .val (.int (0 : Int32))] [(.ref a1), (.int (0 : Int32)), (.ref b1)])) _
    refine XS.iloadN X1.here hx rfl (hb hby d19_18) rfl ?_
    show Steps p.tables e below (T1.setTop (mkF m 19 #[.val (.ref a1), .val (.int (0 : Int32)), .val (.int (6 : Int32)), .val (.ref b1), .val (.int (0 : Int32))] [(.int (0 : Int32)), (.ref a1), (.int (0 : Int32)), (.ref b1)])) _
    refine X1.caload hx (j := (0 : Int32)) (v := (.int (cc (0 : Int32)))) (by rw [e1]; exact Ar3.1) (State.isArrayOf_alike hZ.alike Ar3.2.1) Ar3.2.2 (inb_of Sz3 ⟨by decide, by decide⟩) (Hz3 _ (inb_of Sz3 ⟨by decide, by decide⟩)) (g := (mkF m 19 #[.val (.ref a1), .val (.int (0 : Int32)), .val (.int (6 : Int32)), .val (.ref b1), .val (.int (0 : Int32))] [(.int (0 : Int32)), (.ref a1), (.int (0 : Int32)), (.ref b1)])) rfl rfl (hb hby d19_19) _ ?_
    show Steps p.tables e below (T1.setTop (mkF m 20 #[.val (.ref a1), .val (.int (0 : Int32)), .val (.int (6 : Int32)), .val (.ref b1), .val (.int (0 : Int32))] [(.int (cc (0 : Int32))), (.int (0 : Int32)), (.ref b1)])) _
    refine st5 _ ?_
    show Steps p.tables e below (T5.setTop (mkF m 23 #[.val (.ref a1), .val (.int (0 : Int32)), .val (.int (6 : Int32)), .val (.ref b1), .val (.int (0 : Int32))] [])) _
    refine XS.iinc X5.here hx rfl (hb hby d19_23) rfl (l' := #[.val (.ref a1), .val (.int (1 : Int32)), .val (.int (6 : Int32)), .val (.ref b1), .val (.int (0 : Int32))]) rfl ?_
    show Steps p.tables e below (T5.setTop (mkF m 26 #[.val (.ref a1), .val (.int (1 : Int32)), .val (.int (6 : Int32)), .val (.ref b1), .val (.int (0 : Int32))] [])) _
    refine XS.iinc X5.here hx rfl (hb hby d19_26) rfl (l' := #[.val (.ref a1), .val (.int (1 : Int32)), .val (.int (6 : Int32)), .val (.ref b1), .val (.int (1 : Int32))]) rfl ?_
    show Steps p.tables e below (T5.setTop (mkF m 29 #[.val (.ref a1), .val (.int (1 : Int32)), .val (.int (6 : Int32)), .val (.ref b1), .val (.int (1 : Int32))] [])) _
    refine XS.goto X5.here hx rfl (pc0 := 29) (pc' := 8) rfl (hb hby d19_29) (by decide) (by decide) ?_
    show Steps p.tables e below (T5.setTop (mkF m 8 #[.val (.ref a1), .val (.int (1 : Int32)), .val (.int (6 : Int32)), .val (.ref b1), .val (.int (1 : Int32))] [])) _
    refine XS.iload X5.here hx rfl (hb hby d19_8) rfl ?_
    show Steps p.tables e below (T5.setTop (mkF m 10 #[.val (.ref a1), .val (.int (1 : Int32)), .val (.int (6 : Int32)), .val (.ref b1), .val (.int (1 : Int32))] [(.int (1 : Int32))])) _
    refine XS.iloadN X5.here hx rfl (hb hby d19_10) rfl ?_
    show Steps p.tables e below (T5.setTop (mkF m 11 #[.val (.ref a1), .val (.int (1 : Int32)), .val (.int (6 : Int32)), .val (.ref b1), .val (.int (1 : Int32))] [(.int (6 : Int32)), (.int (1 : Int32))])) _
    refine XS.icmpNo X5.here hx rfl (hb hby d19_11) rfl (tlt (show ((1 : Int32) < (6 : Int32)) by decide)).2.1 ?_
    show Steps p.tables e below (T5.setTop (mkF m 14 #[.val (.ref a1), .val (.int (1 : Int32)), .val (.int (6 : Int32)), .val (.ref b1), .val (.int (1 : Int32))] [])) _
    refine XS.aloadN X5.here hx rfl (hb hby d19_14) rfl rfl ?_
    show Steps p.tables e below (T5.setTop (mkF m 15 #[.val (.ref a1), .val (.int (1 : Int32)), .val (.int (6 : Int32)), .val (.ref b1), .val (.int (1 : Int32))] [(.ref b1)])) _
    refine XS.iload X5.here hx rfl (hb hby d19_15) rfl ?_
    show Steps p.tables e below (T5.setTop (mkF m 17 #[.val (.ref a1), .val (.int (1 : Int32)), .val (.int (6 : Int32)), .val (.ref b1), .val (.int (1 : Int32))] [(.int (1 : Int32)), (.ref b1)])) _
    refine XS.aloadN X5.here hx rfl (hb hby d19_17) rfl rfl ?_
    show Steps p.tables e below (T5.setTop (mkF m 18 #[.val (.ref a1), .val (.int (1 : Int32)), .val (.int (6 : Int32)), .val (.ref b1), .val (.int (1 : Int32))] [(.ref a1), (.int (1 : Int32)), (.ref b1)])) _
    refine XS.iloadN X5.here hx rfl (hb hby d19_18) rfl ?_
    show Steps p.tables e below (T5.setTop (mkF m 19 #[.val (.ref a1), .val (.int (1 : Int32)), .val (.int (6 : Int32)), .val (.ref b1), .val (.int (1 : Int32))] [(.int (1 : Int32)), (.ref a1), (.int (1 : Int32)), (.ref b1)])) _
    refine X5.caload hx (j := (1 : Int32)) (v := (.int (cc (1 : Int32)))) (by rw [e5]; exact Ar7.1) (State.isArrayOf_alike hZ.alike Ar7.2.1) Ar7.2.2 (inb_of Sz7 ⟨by decide, by decide⟩) (Hz7 _ (inb_of Sz7 ⟨by decide, by decide⟩)) (g := (mkF m 19 #[.val (.ref a1), .val (.int (1 : Int32)), .val (.int (6 : Int32)), .val (.ref b1), .val (.int (1 : Int32))] [(.int (1 : Int32)), (.ref a1), (.int (1 : Int32)), (.ref b1)])) rfl rfl (hb hby d19_19) _ ?_
    show Steps p.tables e below (T5.setTop (mkF m 20 #[.val (.ref a1), .val (.int (1 : Int32)), .val (.int (6 : Int32)), .val (.ref b1), .val (.int (1 : Int32))] [(.int (cc (1 : Int32))), (.int (1 : Int32)), (.ref b1)])) _
    refine st9 _ ?_
    show Steps p.tables e below (T9.setTop (mkF m 23 #[.val (.ref a1), .val (.int (1 : Int32)), .val (.int (6 : Int32)), .val (.ref b1), .val (.int (1 : Int32))] [])) _
    refine XS.iinc X9.here hx rfl (hb hby d19_23) rfl (l' := #[.val (.ref a1), .val (.int (2 : Int32)), .val (.int (6 : Int32)), .val (.ref b1), .val (.int (1 : Int32))]) rfl ?_
    show Steps p.tables e below (T9.setTop (mkF m 26 #[.val (.ref a1), .val (.int (2 : Int32)), .val (.int (6 : Int32)), .val (.ref b1), .val (.int (1 : Int32))] [])) _
    refine XS.iinc X9.here hx rfl (hb hby d19_26) rfl (l' := #[.val (.ref a1), .val (.int (2 : Int32)), .val (.int (6 : Int32)), .val (.ref b1), .val (.int (2 : Int32))]) rfl ?_
    show Steps p.tables e below (T9.setTop (mkF m 29 #[.val (.ref a1), .val (.int (2 : Int32)), .val (.int (6 : Int32)), .val (.ref b1), .val (.int (2 : Int32))] [])) _
    refine XS.goto X9.here hx rfl (pc0 := 29) (pc' := 8) rfl (hb hby d19_29) (by decide) (by decide) ?_
    show Steps p.tables e below (T9.setTop (mkF m 8 #[.val (.ref a1), .val (.int (2 : Int32)), .val (.int (6 : Int32)), .val (.ref b1), .val (.int (2 : Int32))] [])) _
    refine XS.iload X9.here hx rfl (hb hby d19_8) rfl ?_
    show Steps p.tables e below (T9.setTop (mkF m 10 #[.val (.ref a1), .val (.int (2 : Int32)), .val (.int (6 : Int32)), .val (.ref b1), .val (.int (2 : Int32))] [(.int (2 : Int32))])) _
    refine XS.iloadN X9.here hx rfl (hb hby d19_10) rfl ?_
    show Steps p.tables e below (T9.setTop (mkF m 11 #[.val (.ref a1), .val (.int (2 : Int32)), .val (.int (6 : Int32)), .val (.ref b1), .val (.int (2 : Int32))] [(.int (6 : Int32)), (.int (2 : Int32))])) _
    refine XS.icmpNo X9.here hx rfl (hb hby d19_11) rfl (tlt (show ((2 : Int32) < (6 : Int32)) by decide)).2.1 ?_
    show Steps p.tables e below (T9.setTop (mkF m 14 #[.val (.ref a1), .val (.int (2 : Int32)), .val (.int (6 : Int32)), .val (.ref b1), .val (.int (2 : Int32))] [])) _
    refine XS.aloadN X9.here hx rfl (hb hby d19_14) rfl rfl ?_
    show Steps p.tables e below (T9.setTop (mkF m 15 #[.val (.ref a1), .val (.int (2 : Int32)), .val (.int (6 : Int32)), .val (.ref b1), .val (.int (2 : Int32))] [(.ref b1)])) _
    refine XS.iload X9.here hx rfl (hb hby d19_15) rfl ?_
    show Steps p.tables e below (T9.setTop (mkF m 17 #[.val (.ref a1), .val (.int (2 : Int32)), .val (.int (6 : Int32)), .val (.ref b1), .val (.int (2 : Int32))] [(.int (2 : Int32)), (.ref b1)])) _
    refine XS.aloadN X9.here hx rfl (hb hby d19_17) rfl rfl ?_
    show Steps p.tables e below (T9.setTop (mkF m 18 #[.val (.ref a1), .val (.int (2 : Int32)), .val (.int (6 : Int32)), .val (.ref b1), .val (.int (2 : Int32))] [(.ref a1), (.int (2 : Int32)), (.ref b1)])) _
    refine XS.iloadN X9.here hx rfl (hb hby d19_18) rfl ?_
    show Steps p.tables e below (T9.setTop (mkF m 19 #[.val (.ref a1), .val (.int (2 : Int32)), .val (.int (6 : Int32)), .val (.ref b1), .val (.int (2 : Int32))] [(.int (2 : Int32)), (.ref a1), (.int (2 : Int32)), (.ref b1)])) _
    refine X9.caload hx (j := (2 : Int32)) (v := (.int (cc (2 : Int32)))) (by rw [e9]; exact Ar11.1) (State.isArrayOf_alike hZ.alike Ar11.2.1) Ar11.2.2 (inb_of Sz11 ⟨by decide, by decide⟩) (Hz11 _ (inb_of Sz11 ⟨by decide, by decide⟩)) (g := (mkF m 19 #[.val (.ref a1), .val (.int (2 : Int32)), .val (.int (6 : Int32)), .val (.ref b1), .val (.int (2 : Int32))] [(.int (2 : Int32)), (.ref a1), (.int (2 : Int32)), (.ref b1)])) rfl rfl (hb hby d19_19) _ ?_
    show Steps p.tables e below (T9.setTop (mkF m 20 #[.val (.ref a1), .val (.int (2 : Int32)), .val (.int (6 : Int32)), .val (.ref b1), .val (.int (2 : Int32))] [(.int (cc (2 : Int32))), (.int (2 : Int32)), (.ref b1)])) _
    refine st13 _ ?_
    show Steps p.tables e below (T13.setTop (mkF m 23 #[.val (.ref a1), .val (.int (2 : Int32)), .val (.int (6 : Int32)), .val (.ref b1), .val (.int (2 : Int32))] [])) _
    refine XS.iinc X13.here hx rfl (hb hby d19_23) rfl (l' := #[.val (.ref a1), .val (.int (3 : Int32)), .val (.int (6 : Int32)), .val (.ref b1), .val (.int (2 : Int32))]) rfl ?_
    show Steps p.tables e below (T13.setTop (mkF m 26 #[.val (.ref a1), .val (.int (3 : Int32)), .val (.int (6 : Int32)), .val (.ref b1), .val (.int (2 : Int32))] [])) _
    refine XS.iinc X13.here hx rfl (hb hby d19_26) rfl (l' := #[.val (.ref a1), .val (.int (3 : Int32)), .val (.int (6 : Int32)), .val (.ref b1), .val (.int (3 : Int32))]) rfl ?_
    show Steps p.tables e below (T13.setTop (mkF m 29 #[.val (.ref a1), .val (.int (3 : Int32)), .val (.int (6 : Int32)), .val (.ref b1), .val (.int (3 : Int32))] [])) _
    refine XS.goto X13.here hx rfl (pc0 := 29) (pc' := 8) rfl (hb hby d19_29) (by decide) (by decide) ?_
    show Steps p.tables e below (T13.setTop (mkF m 8 #[.val (.ref a1), .val (.int (3 : Int32)), .val (.int (6 : Int32)), .val (.ref b1), .val (.int (3 : Int32))] [])) _
    refine XS.iload X13.here hx rfl (hb hby d19_8) rfl ?_
    show Steps p.tables e below (T13.setTop (mkF m 10 #[.val (.ref a1), .val (.int (3 : Int32)), .val (.int (6 : Int32)), .val (.ref b1), .val (.int (3 : Int32))] [(.int (3 : Int32))])) _
    refine XS.iloadN X13.here hx rfl (hb hby d19_10) rfl ?_
    show Steps p.tables e below (T13.setTop (mkF m 11 #[.val (.ref a1), .val (.int (3 : Int32)), .val (.int (6 : Int32)), .val (.ref b1), .val (.int (3 : Int32))] [(.int (6 : Int32)), (.int (3 : Int32))])) _
    refine XS.icmpNo X13.here hx rfl (hb hby d19_11) rfl (tlt (show ((3 : Int32) < (6 : Int32)) by decide)).2.1 ?_
    show Steps p.tables e below (T13.setTop (mkF m 14 #[.val (.ref a1), .val (.int (3 : Int32)), .val (.int (6 : Int32)), .val (.ref b1), .val (.int (3 : Int32))] [])) _
    refine XS.aloadN X13.here hx rfl (hb hby d19_14) rfl rfl ?_
    show Steps p.tables e below (T13.setTop (mkF m 15 #[.val (.ref a1), .val (.int (3 : Int32)), .val (.int (6 : Int32)), .val (.ref b1), .val (.int (3 : Int32))] [(.ref b1)])) _
    refine XS.iload X13.here hx rfl (hb hby d19_15) rfl ?_
    show Steps p.tables e below (T13.setTop (mkF m 17 #[.val (.ref a1), .val (.int (3 : Int32)), .val (.int (6 : Int32)), .val (.ref b1), .val (.int (3 : Int32))] [(.int (3 : Int32)), (.ref b1)])) _
    refine XS.aloadN X13.here hx rfl (hb hby d19_17) rfl rfl ?_
    show Steps p.tables e below (T13.setTop (mkF m 18 #[.val (.ref a1), .val (.int (3 : Int32)), .val (.int (6 : Int32)), .val (.ref b1), .val (.int (3 : Int32))] [(.ref a1), (.int (3 : Int32)), (.ref b1)])) _
    refine XS.iloadN X13.here hx rfl (hb hby d19_18) rfl ?_
    show Steps p.tables e below (T13.setTop (mkF m 19 #[.val (.ref a1), .val (.int (3 : Int32)), .val (.int (6 : Int32)), .val (.ref b1), .val (.int (3 : Int32))] [(.int (3 : Int32)), (.ref a1), (.int (3 : Int32)), (.ref b1)])) _
    refine X13.caload hx (j := (3 : Int32)) (v := (.int (cc (3 : Int32)))) (by rw [e13]; exact Ar15.1) (State.isArrayOf_alike hZ.alike Ar15.2.1) Ar15.2.2 (inb_of Sz15 ⟨by decide, by decide⟩) (Hz15 _ (inb_of Sz15 ⟨by decide, by decide⟩)) (g := (mkF m 19 #[.val (.ref a1), .val (.int (3 : Int32)), .val (.int (6 : Int32)), .val (.ref b1), .val (.int (3 : Int32))] [(.int (3 : Int32)), (.ref a1), (.int (3 : Int32)), (.ref b1)])) rfl rfl (hb hby d19_19) _ ?_
    show Steps p.tables e below (T13.setTop (mkF m 20 #[.val (.ref a1), .val (.int (3 : Int32)), .val (.int (6 : Int32)), .val (.ref b1), .val (.int (3 : Int32))] [(.int (cc (3 : Int32))), (.int (3 : Int32)), (.ref b1)])) _
    refine st17 _ ?_
    show Steps p.tables e below (T17.setTop (mkF m 23 #[.val (.ref a1), .val (.int (3 : Int32)), .val (.int (6 : Int32)), .val (.ref b1), .val (.int (3 : Int32))] [])) _
    refine XS.iinc X17.here hx rfl (hb hby d19_23) rfl (l' := #[.val (.ref a1), .val (.int (4 : Int32)), .val (.int (6 : Int32)), .val (.ref b1), .val (.int (3 : Int32))]) rfl ?_
    show Steps p.tables e below (T17.setTop (mkF m 26 #[.val (.ref a1), .val (.int (4 : Int32)), .val (.int (6 : Int32)), .val (.ref b1), .val (.int (3 : Int32))] [])) _
    refine XS.iinc X17.here hx rfl (hb hby d19_26) rfl (l' := #[.val (.ref a1), .val (.int (4 : Int32)), .val (.int (6 : Int32)), .val (.ref b1), .val (.int (4 : Int32))]) rfl ?_
    show Steps p.tables e below (T17.setTop (mkF m 29 #[.val (.ref a1), .val (.int (4 : Int32)), .val (.int (6 : Int32)), .val (.ref b1), .val (.int (4 : Int32))] [])) _
    refine XS.goto X17.here hx rfl (pc0 := 29) (pc' := 8) rfl (hb hby d19_29) (by decide) (by decide) ?_
    show Steps p.tables e below (T17.setTop (mkF m 8 #[.val (.ref a1), .val (.int (4 : Int32)), .val (.int (6 : Int32)), .val (.ref b1), .val (.int (4 : Int32))] [])) _
    refine XS.iload X17.here hx rfl (hb hby d19_8) rfl ?_
    show Steps p.tables e below (T17.setTop (mkF m 10 #[.val (.ref a1), .val (.int (4 : Int32)), .val (.int (6 : Int32)), .val (.ref b1), .val (.int (4 : Int32))] [(.int (4 : Int32))])) _
    refine XS.iloadN X17.here hx rfl (hb hby d19_10) rfl ?_
    show Steps p.tables e below (T17.setTop (mkF m 11 #[.val (.ref a1), .val (.int (4 : Int32)), .val (.int (6 : Int32)), .val (.ref b1), .val (.int (4 : Int32))] [(.int (6 : Int32)), (.int (4 : Int32))])) _
    refine XS.icmpNo X17.here hx rfl (hb hby d19_11) rfl (tlt (show ((4 : Int32) < (6 : Int32)) by decide)).2.1 ?_
    show Steps p.tables e below (T17.setTop (mkF m 14 #[.val (.ref a1), .val (.int (4 : Int32)), .val (.int (6 : Int32)), .val (.ref b1), .val (.int (4 : Int32))] [])) _
    refine XS.aloadN X17.here hx rfl (hb hby d19_14) rfl rfl ?_
    show Steps p.tables e below (T17.setTop (mkF m 15 #[.val (.ref a1), .val (.int (4 : Int32)), .val (.int (6 : Int32)), .val (.ref b1), .val (.int (4 : Int32))] [(.ref b1)])) _
    refine XS.iload X17.here hx rfl (hb hby d19_15) rfl ?_
    show Steps p.tables e below (T17.setTop (mkF m 17 #[.val (.ref a1), .val (.int (4 : Int32)), .val (.int (6 : Int32)), .val (.ref b1), .val (.int (4 : Int32))] [(.int (4 : Int32)), (.ref b1)])) _
    refine XS.aloadN X17.here hx rfl (hb hby d19_17) rfl rfl ?_
    show Steps p.tables e below (T17.setTop (mkF m 18 #[.val (.ref a1), .val (.int (4 : Int32)), .val (.int (6 : Int32)), .val (.ref b1), .val (.int (4 : Int32))] [(.ref a1), (.int (4 : Int32)), (.ref b1)])) _
    refine XS.iloadN X17.here hx rfl (hb hby d19_18) rfl ?_
    show Steps p.tables e below (T17.setTop (mkF m 19 #[.val (.ref a1), .val (.int (4 : Int32)), .val (.int (6 : Int32)), .val (.ref b1), .val (.int (4 : Int32))] [(.int (4 : Int32)), (.ref a1), (.int (4 : Int32)), (.ref b1)])) _
    refine X17.caload hx (j := (4 : Int32)) (v := (.int (cc (4 : Int32)))) (by rw [e17]; exact Ar19.1) (State.isArrayOf_alike hZ.alike Ar19.2.1) Ar19.2.2 (inb_of Sz19 ⟨by decide, by decide⟩) (Hz19 _ (inb_of Sz19 ⟨by decide, by decide⟩)) (g := (mkF m 19 #[.val (.ref a1), .val (.int (4 : Int32)), .val (.int (6 : Int32)), .val (.ref b1), .val (.int (4 : Int32))] [(.int (4 : Int32)), (.ref a1), (.int (4 : Int32)), (.ref b1)])) rfl rfl (hb hby d19_19) _ ?_
    show Steps p.tables e below (T17.setTop (mkF m 20 #[.val (.ref a1), .val (.int (4 : Int32)), .val (.int (6 : Int32)), .val (.ref b1), .val (.int (4 : Int32))] [(.int (cc (4 : Int32))), (.int (4 : Int32)), (.ref b1)])) _
    refine st21 _ ?_
    show Steps p.tables e below (T21.setTop (mkF m 23 #[.val (.ref a1), .val (.int (4 : Int32)), .val (.int (6 : Int32)), .val (.ref b1), .val (.int (4 : Int32))] [])) _
    refine XS.iinc X21.here hx rfl (hb hby d19_23) rfl (l' := #[.val (.ref a1), .val (.int (5 : Int32)), .val (.int (6 : Int32)), .val (.ref b1), .val (.int (4 : Int32))]) rfl ?_
    show Steps p.tables e below (T21.setTop (mkF m 26 #[.val (.ref a1), .val (.int (5 : Int32)), .val (.int (6 : Int32)), .val (.ref b1), .val (.int (4 : Int32))] [])) _
    refine XS.iinc X21.here hx rfl (hb hby d19_26) rfl (l' := #[.val (.ref a1), .val (.int (5 : Int32)), .val (.int (6 : Int32)), .val (.ref b1), .val (.int (5 : Int32))]) rfl ?_
    show Steps p.tables e below (T21.setTop (mkF m 29 #[.val (.ref a1), .val (.int (5 : Int32)), .val (.int (6 : Int32)), .val (.ref b1), .val (.int (5 : Int32))] [])) _
    refine XS.goto X21.here hx rfl (pc0 := 29) (pc' := 8) rfl (hb hby d19_29) (by decide) (by decide) ?_
    show Steps p.tables e below (T21.setTop (mkF m 8 #[.val (.ref a1), .val (.int (5 : Int32)), .val (.int (6 : Int32)), .val (.ref b1), .val (.int (5 : Int32))] [])) _
    refine XS.iload X21.here hx rfl (hb hby d19_8) rfl ?_
    show Steps p.tables e below (T21.setTop (mkF m 10 #[.val (.ref a1), .val (.int (5 : Int32)), .val (.int (6 : Int32)), .val (.ref b1), .val (.int (5 : Int32))] [(.int (5 : Int32))])) _
    refine XS.iloadN X21.here hx rfl (hb hby d19_10) rfl ?_
    show Steps p.tables e below (T21.setTop (mkF m 11 #[.val (.ref a1), .val (.int (5 : Int32)), .val (.int (6 : Int32)), .val (.ref b1), .val (.int (5 : Int32))] [(.int (6 : Int32)), (.int (5 : Int32))])) _
    refine XS.icmpNo X21.here hx rfl (hb hby d19_11) rfl (tlt (show ((5 : Int32) < (6 : Int32)) by decide)).2.1 ?_
    show Steps p.tables e below (T21.setTop (mkF m 14 #[.val (.ref a1), .val (.int (5 : Int32)), .val (.int (6 : Int32)), .val (.ref b1), .val (.int (5 : Int32))] [])) _
    refine XS.aloadN X21.here hx rfl (hb hby d19_14) rfl rfl ?_
    show Steps p.tables e below (T21.setTop (mkF m 15 #[.val (.ref a1), .val (.int (5 : Int32)), .val (.int (6 : Int32)), .val (.ref b1), .val (.int (5 : Int32))] [(.ref b1)])) _
    refine XS.iload X21.here hx rfl (hb hby d19_15) rfl ?_
    show Steps p.tables e below (T21.setTop (mkF m 17 #[.val (.ref a1), .val (.int (5 : Int32)), .val (.int (6 : Int32)), .val (.ref b1), .val (.int (5 : Int32))] [(.int (5 : Int32)), (.ref b1)])) _
    refine XS.aloadN X21.here hx rfl (hb hby d19_17) rfl rfl ?_
    show Steps p.tables e below (T21.setTop (mkF m 18 #[.val (.ref a1), .val (.int (5 : Int32)), .val (.int (6 : Int32)), .val (.ref b1), .val (.int (5 : Int32))] [(.ref a1), (.int (5 : Int32)), (.ref b1)])) _
    refine XS.iloadN X21.here hx rfl (hb hby d19_18) rfl ?_
    show Steps p.tables e below (T21.setTop (mkF m 19 #[.val (.ref a1), .val (.int (5 : Int32)), .val (.int (6 : Int32)), .val (.ref b1), .val (.int (5 : Int32))] [(.int (5 : Int32)), (.ref a1), (.int (5 : Int32)), (.ref b1)])) _
    refine X21.caload hx (j := (5 : Int32)) (v := (.int (cc (5 : Int32)))) (by rw [e21]; exact Ar23.1) (State.isArrayOf_alike hZ.alike Ar23.2.1) Ar23.2.2 (inb_of Sz23 ⟨by decide, by decide⟩) (Hz23 _ (inb_of Sz23 ⟨by decide, by decide⟩)) (g := (mkF m 19 #[.val (.ref a1), .val (.int (5 : Int32)), .val (.int (6 : Int32)), .val (.ref b1), .val (.int (5 : Int32))] [(.int (5 : Int32)), (.ref a1), (.int (5 : Int32)), (.ref b1)])) rfl rfl (hb hby d19_19) _ ?_
    show Steps p.tables e below (T21.setTop (mkF m 20 #[.val (.ref a1), .val (.int (5 : Int32)), .val (.int (6 : Int32)), .val (.ref b1), .val (.int (5 : Int32))] [(.int (cc (5 : Int32))), (.int (5 : Int32)), (.ref b1)])) _
    refine st25 _ ?_
    show Steps p.tables e below (T25.setTop (mkF m 23 #[.val (.ref a1), .val (.int (5 : Int32)), .val (.int (6 : Int32)), .val (.ref b1), .val (.int (5 : Int32))] [])) _
    refine XS.iinc X25.here hx rfl (hb hby d19_23) rfl (l' := #[.val (.ref a1), .val (.int (6 : Int32)), .val (.int (6 : Int32)), .val (.ref b1), .val (.int (5 : Int32))]) rfl ?_
    show Steps p.tables e below (T25.setTop (mkF m 26 #[.val (.ref a1), .val (.int (6 : Int32)), .val (.int (6 : Int32)), .val (.ref b1), .val (.int (5 : Int32))] [])) _
    refine XS.iinc X25.here hx rfl (hb hby d19_26) rfl (l' := #[.val (.ref a1), .val (.int (6 : Int32)), .val (.int (6 : Int32)), .val (.ref b1), .val (.int (6 : Int32))]) rfl ?_
    show Steps p.tables e below (T25.setTop (mkF m 29 #[.val (.ref a1), .val (.int (6 : Int32)), .val (.int (6 : Int32)), .val (.ref b1), .val (.int (6 : Int32))] [])) _
    refine XS.goto X25.here hx rfl (pc0 := 29) (pc' := 8) rfl (hb hby d19_29) (by decide) (by decide) ?_
    show Steps p.tables e below (T25.setTop (mkF m 8 #[.val (.ref a1), .val (.int (6 : Int32)), .val (.int (6 : Int32)), .val (.ref b1), .val (.int (6 : Int32))] [])) _
    refine XS.iload X25.here hx rfl (hb hby d19_8) rfl ?_
    show Steps p.tables e below (T25.setTop (mkF m 10 #[.val (.ref a1), .val (.int (6 : Int32)), .val (.int (6 : Int32)), .val (.ref b1), .val (.int (6 : Int32))] [(.int (6 : Int32))])) _
    refine XS.iloadN X25.here hx rfl (hb hby d19_10) rfl ?_
    show Steps p.tables e below (T25.setTop (mkF m 11 #[.val (.ref a1), .val (.int (6 : Int32)), .val (.int (6 : Int32)), .val (.ref b1), .val (.int (6 : Int32))] [(.int (6 : Int32)), (.int (6 : Int32))])) _
    refine XS.icmpYes X25.here hx rfl (pc0 := 11) (pc' := 32) rfl (hb hby d19_11) rfl (flt (show ¬ ((6 : Int32) < (6 : Int32)) from Int32.lt_irrefl)).2.1 (by decide) (by decide) ?_
    show Steps p.tables e below (T25.setTop (mkF m 32 #[.val (.ref a1), .val (.int (6 : Int32)), .val (.int (6 : Int32)), .val (.ref b1), .val (.int (6 : Int32))] [])) _
    refine XS.aloadN X25.here hx rfl (hb hby d19_32) rfl rfl ?_
    show Steps p.tables e below (T25.setTop (mkF m 33 #[.val (.ref a1), .val (.int (6 : Int32)), .val (.int (6 : Int32)), .val (.ref b1), .val (.int (6 : Int32))] [(.ref b1)])) _
    jvm_step X25.here [X25.here.top, hx, (hb hby d19_33), X25.method', Bd.returns, Value.isRef, FieldType.isReference]
    first | (intro acts; rw [hr _ acts rfl rfl rfl]) | rw [hr _ _ rfl rfl rfl]
    exact Steps.refl _
  · show Q19 Z a1 cs cc h0 n0 _ T25.heap _
    rw [e25]
    subst hy2 hy6 hy10 hy14 hy18 hy22 hy26
    exact ⟨b1, rfl, N25, K25, sz_b1, A_b1_25⟩
theorem d6_0 : decode jdk_52_method_21_code 0 = .ok (.iconst 0, 1) := by decide +kernel
theorem d6_1 : decode jdk_52_method_21_code 1 = .ok (.istore 5, 2) := by decide +kernel
theorem d6_3 : decode jdk_52_method_21_code 3 = .ok (.iload 5, 2) := by decide +kernel
theorem d6_5 : decode jdk_52_method_21_code 5 = .ok (.iload 4, 2) := by decide +kernel
theorem d6_7 : decode jdk_52_method_21_code 7 = .ok (.if_icmp .ge 37, 3) := by decide +kernel
theorem d6_10 : decode jdk_52_method_21_code 10 = .ok (.aload_n 0, 1) := by decide +kernel
theorem d6_11 : decode jdk_52_method_21_code 11 = .ok (.iload_n 1, 1) := by decide +kernel
theorem d6_12 : decode jdk_52_method_21_code 12 = .ok (.caload, 1) := by decide +kernel
theorem d6_13 : decode jdk_52_method_21_code 13 = .ok (.istore 6, 2) := by decide +kernel
theorem d6_15 : decode jdk_52_method_21_code 15 = .ok (.iload 6, 2) := by decide +kernel
theorem d6_17 : decode jdk_52_method_21_code 17 = .ok (.sipush 255, 3) := by decide +kernel
theorem d6_20 : decode jdk_52_method_21_code 20 = .ok (.if_icmp .le 6, 3) := by decide +kernel
theorem d6_23 : decode jdk_52_method_21_code 23 = .ok (.iload 5, 2) := by decide +kernel
theorem d6_25 : decode jdk_52_method_21_code 25 = .ok (.ireturn, 1) := by decide +kernel
theorem d6_26 : decode jdk_52_method_21_code 26 = .ok (.aload_n 2, 1) := by decide +kernel
theorem d6_27 : decode jdk_52_method_21_code 27 = .ok (.iload_n 3, 1) := by decide +kernel
theorem d6_28 : decode jdk_52_method_21_code 28 = .ok (.iload 6, 2) := by decide +kernel
theorem d6_30 : decode jdk_52_method_21_code 30 = .ok (.i2b, 1) := by decide +kernel
theorem d6_31 : decode jdk_52_method_21_code 31 = .ok (.bastore, 1) := by decide +kernel
theorem d6_32 : decode jdk_52_method_21_code 32 = .ok (.iinc 1 1, 3) := by decide +kernel
theorem d6_35 : decode jdk_52_method_21_code 35 = .ok (.iinc 3 1, 3) := by decide +kernel
theorem d6_38 : decode jdk_52_method_21_code 38 = .ok (.iinc 5 1, 3) := by decide +kernel
theorem d6_41 : decode jdk_52_method_21_code 41 = .ok (.goto (-38), 3) := by decide +kernel
theorem d6_44 : decode jdk_52_method_21_code 44 = .ok (.iload 4, 2) := by decide +kernel
theorem d6_46 : decode jdk_52_method_21_code 46 = .ok (.ireturn, 1) := by decide +kernel
theorem pn_6 : plainName "java/lang/StringUTF16" = true := by first | (simp [plainName, overriddenIn]; done) | decide +kernel
theorem ef_6 (m : MethodId) (a1 : Addr) (a3 : Addr) : entryFrame m #[(.ref a1), (.int (0 : Int32)), (.ref a3), (.int (0 : Int32)), (.int (6 : Int32))] 7 = mkF m 0 #[.val (.ref a1), .val (.int (0 : Int32)), .val (.ref a3), .val (.int (0 : Int32)), .val (.int (6 : Int32)), .unset, .unset] [] := by first | (simp [entryFrame, mkF, argsToLocals, Value.category]; done) | rfl
def Q6 (Z : State) (a1 : Addr) (a3 : Addr) (cs : Int32) (cc : Int32 → Int32) (y1 : Int32 → Int32) (h0 : Heap) (n0 : Nat) (v : Option Value) (h : Heap) (L : List Loc) : Prop := ∃ (r : Int32) (yb : Int32 → Int32), v = some (.int r) ∧ Fr n0 L ∧ Keep h0 h ([a3] : List Addr) ∧ own_A Z h a3 .byte (6 : Int32) (fun i => .int (yb i)) ∧ own_CM cc r yb
set_option maxRecDepth 65536 in
set_option maxHeartbeats 40000000 in
theorem rm6 (l : Launch) (Z : State) (a0 : Array Value) (hw : ∀ d ∈ tables_1, d.before a0 Z = true) (ws : List Jvm.Cond) (a1 : Addr) (a3 : Addr) (cs : Int32) (cc : Int32 → Int32) (y1 : Int32 → Int32) (h0 : Heap) (n0 : Nat) (Z0 : n0 ≤ h0.size) (A_a1 : own_A Z h0 a1 .char (6 : Int32) (fun i => .int (cc i))) (A_a3 : own_A Z h0 a3 .byte (6 : Int32) (fun i => .int (y1 i))) (ne_a1_a3 : a1 ≠ a3) (g_a3 : n0 ≤ a3) (hWd : own_W Z cs) (O0 : Old Z n0 h0) :
    MetFree l (⟨"java/lang/StringUTF16", "compress", "([CI[BII)I"⟩ : MethodName) (head1 (Jvm.Cond.code (⟨"java/lang/StringUTF16", "compress", "([CI[BII)I"⟩ : MethodName) jdk_52_method_21_code 7 (some .int) :: ws) ({ frames := 0, cells := 0, slots := 0, locals := 0 } : Room)) (fun a U => a = #[(.ref a1), (.int (0 : Int32)), (.ref a3), (.int (0 : Int32)), (.int (6 : Int32))] ∧ Z.Warmed39 U.vm ∧ U.heap = h0) (fun _ _ _ _ _ => True) (fun _ U o U' => ∃ v L, o = .returned v ∧ Q6 Z a1 a3 cs cc y1 h0 n0 v U'.heap L ∧ FrameEnd U o U' L ({ frames := 0, cells := 0, slots := 0, locals := 0 } : Room).cells ({ frames := 0, cells := 0, slots := 0, locals := 0 } : Room).slots) := by
  refine MetFree.of_bodySF (plainFor_of_name pn_6) hisR ?_
  intro p e s m args below meth c s₁ Bd hml0 hP hK
  obtain ⟨rfl, hZ, hh⟩ := hP
  have hx := Bd.exec
  have hby := Bd.bytes
  have hml : c.maxLocals = 7 := hml0
  have hown : s.vm.findClass "java/lang/StringUTF16" = some m.cls := findClass_of_methodNamed Bd.named
  have hnm := (name_of_methodNamed Bd.named Bd.method).1
  have X0 : Stand p l e ({ frames := 0, cells := 0, slots := 0, locals := 0 } : Room) s m #[(.ref a1), (.int (0 : Int32)), (.ref a3), (.int (0 : Int32)), (.int (6 : Int32))] below meth c s₁ [] 0 0 := Stand.of_body Bd
  have e0 : s₁.heap = h0 := by rw [← hh, Bd.state]; rfl
  have N0 := Fr.nil n0
  have pre0 : ∀ t, Steps p.tables e below (s₁.setTop (mkF m 0 #[.val (.ref a1), .val (.int (0 : Int32)), .val (.ref a3), .val (.int (0 : Int32)), .val (.int (6 : Int32)), .unset, .unset] [])) t → Steps p.tables e below (s₁.setTop (entryFrame m #[(.ref a1), (.int (0 : Int32)), (.ref a3), (.int (0 : Int32)), (.int (6 : Int32))] 7)) t := fun t k => castTop (ef_6 m a1 a3) k
  have K0 := Keep.refl h0 ([a3] : List Addr)
  obtain ⟨cl1, Ar1, Sz1, Mz1, Hz1⟩ := id A_a1
  obtain ⟨cl2, Ar2, Sz2, Mz2, Hz2⟩ := id A_a3
  have pre3 : ∀ t, Steps p.tables e below (s₁.setTop (mkF m 20 #[.val (.ref a1), .val (.int (0 : Int32)), .val (.ref a3), .val (.int (0 : Int32)), .val (.int (6 : Int32)), .val (.int (0 : Int32)), .val (.int (cc (0 : Int32)))] [(.int (255 : Int32)), (.int (cc (0 : Int32)))])) t → Steps p.tables e below (s₁.setTop (entryFrame m #[(.ref a1), (.int (0 : Int32)), (.ref a3), (.int (0 : Int32)), (.int (6 : Int32))] 7)) t := fun t k => pre0 t (by
    show Steps p.tables e below (s₁.setTop (mkF m 0 #[.val (.ref a1), .val (.int (0 : Int32)), .val (.ref a3), .val (.int (0 : Int32)), .val (.int (6 : Int32)), .unset, .unset] [])) _
    refine XS.iconst X0.here hx rfl (hb hby d6_0) ?_
    show Steps p.tables e below (s₁.setTop (mkF m 1 #[.val (.ref a1), .val (.int (0 : Int32)), .val (.ref a3), .val (.int (0 : Int32)), .val (.int (6 : Int32)), .unset, .unset] [(.int (0 : Int32))])) _
    refine XS.istore X0.here hx rfl (hb hby d6_1) rfl (l' := #[.val (.ref a1), .val (.int (0 : Int32)), .val (.ref a3), .val (.int (0 : Int32)), .val (.int (6 : Int32)), .val (.int (0 : Int32)), .unset]) rfl ?_
    show Steps p.tables e below (s₁.setTop (mkF m 3 #[.val (.ref a1), .val (.int (0 : Int32)), .val (.ref a3), .val (.int (0 : Int32)), .val (.int (6 : Int32)), .val (.int (0 : Int32)), .unset] [])) _
    refine XS.iload X0.here hx rfl (hb hby d6_3) rfl ?_
    show Steps p.tables e below (s₁.setTop (mkF m 5 #[.val (.ref a1), .val (.int (0 : Int32)), .val (.ref a3), .val (.int (0 : Int32)), .val (.int (6 : Int32)), .val (.int (0 : Int32)), .unset] [(.int (0 : Int32))])) _
    refine XS.iload X0.here hx rfl (hb hby d6_5) rfl ?_
    show Steps p.tables e below (s₁.setTop (mkF m 7 #[.val (.ref a1), .val (.int (0 : Int32)), .val (.ref a3), .val (.int (0 : Int32)), .val (.int (6 : Int32)), .val (.int (0 : Int32)), .unset] [(.int (6 : Int32)), (.int (0 : Int32))])) _
    refine XS.icmpNo X0.here hx rfl (hb hby d6_7) rfl (tlt (show ((0 : Int32) < (6 : Int32)) by decide)).2.1 ?_
    show Steps p.tables e below (s₁.setTop (mkF m 10 #[.val (.ref a1), .val (.int (0 : Int32)), .val (.ref a3), .val (.int (0 : Int32)), .val (.int (6 : Int32)), .val (.int (0 : Int32)), .unset] [])) _
    refine XS.aloadN X0.here hx rfl (hb hby d6_10) rfl rfl ?_
    show Steps p.tables e below (s₁.setTop (mkF m 11 #[.val (.ref a1), .val (.int (0 : Int32)), .val (.ref a3), .val (.int (0 : Int32)), .val (.int (6 : Int32)), .val (.int (0 : Int32)), .unset] [(.ref a1)])) _
    refine XS.iloadN X0.here hx rfl (hb hby d6_11) rfl ?_
    show Steps p.tables e below (s₁.setTop (mkF m 12 #[.val (.ref a1), .val (.int (0 : Int32)), .val (.ref a3), .val (.int (0 : Int32)), .val (.int (6 : Int32)), .val (.int (0 : Int32)), .unset] [(.int (0 : Int32)), (.ref a1)])) _
    refine X0.caload hx (j := (0 : Int32)) (v := (.int (cc (0 : Int32)))) (by rw [e0]; exact Ar1.1) (State.isArrayOf_alike hZ.alike Ar1.2.1) Ar1.2.2 (inb_of Sz1 ⟨by decide, by decide⟩) (Hz1 _ (inb_of Sz1 ⟨by decide, by decide⟩)) (g := (mkF m 12 #[.val (.ref a1), .val (.int (0 : Int32)), .val (.ref a3), .val (.int (0 : Int32)), .val (.int (6 : Int32)), .val (.int (0 : Int32)), .unset] [(.int (0 : Int32)), (.ref a1)])) rfl rfl (hb hby d6_12) _ ?_
    show Steps p.tables e below (s₁.setTop (mkF m 13 #[.val (.ref a1), .val (.int (0 : Int32)), .val (.ref a3), .val (.int (0 : Int32)), .val (.int (6 : Int32)), .val (.int (0 : Int32)), .unset] [(.int (cc (0 : Int32)))])) _
    refine XS.istore X0.here hx rfl (hb hby d6_13) rfl (l' := #[.val (.ref a1), .val (.int (0 : Int32)), .val (.ref a3), .val (.int (0 : Int32)), .val (.int (6 : Int32)), .val (.int (0 : Int32)), .val (.int (cc (0 : Int32)))]) rfl ?_
    show Steps p.tables e below (s₁.setTop (mkF m 15 #[.val (.ref a1), .val (.int (0 : Int32)), .val (.ref a3), .val (.int (0 : Int32)), .val (.int (6 : Int32)), .val (.int (0 : Int32)), .val (.int (cc (0 : Int32)))] [])) _
    refine XS.iload X0.here hx rfl (hb hby d6_15) rfl ?_
    show Steps p.tables e below (s₁.setTop (mkF m 17 #[.val (.ref a1), .val (.int (0 : Int32)), .val (.ref a3), .val (.int (0 : Int32)), .val (.int (6 : Int32)), .val (.int (0 : Int32)), .val (.int (cc (0 : Int32)))] [(.int (cc (0 : Int32)))])) _
    refine XS.sipush X0.here hx rfl (hb hby d6_17) ?_
    exact k)
  by_cases hc4 : (255 : Int32) < (cc (0 : Int32))
  · obtain ⟨fs, hr, hrun, hended, hW, hsame⟩ := X0.leave (v := some (.int (0 : Int32))) (fun h => by rw [Bd.returns] at h; cases h)
    refine ⟨_, _, pre3 _ ?_, hrun, hended, _, _, rfl, ?_, ⟨_, rfl⟩, hW, hsame.mono (by decide) (by decide)⟩
    · show Steps p.tables e below (s₁.setTop (mkF m 20 #[.val (.ref a1), .val (.int (0 : Int32)), .val (.ref a3), .val (.int (0 : Int32)), .val (.int (6 : Int32)), .val (.int (0 : Int32)), .val (.int (cc (0 : Int32)))] [(.int (255 : Int32)), (.int (cc (0 : Int32)))])) _
      refine XS.icmpNo X0.here hx rfl (hb hby d6_20) rfl (tlt hc4).2.2.2 ?_
      show Steps p.tables e below (s₁.setTop (mkF m 23 #[.val (.ref a1), .val (.int (0 : Int32)), .val (.ref a3), .val (.int (0 : Int32)), .val (.int (6 : Int32)), .val (.int (0 : Int32)), .val (.int (cc (0 : Int32)))] [])) _
      refine XS.iload X0.here hx rfl (hb hby d6_23) rfl ?_
      show Steps p.tables e below (s₁.setTop (mkF m 25 #[.val (.ref a1), .val (.int (0 : Int32)), .val (.ref a3), .val (.int (0 : Int32)), .val (.int (6 : Int32)), .val (.int (0 : Int32)), .val (.int (cc (0 : Int32)))] [(.int (0 : Int32))])) _
      exact retI X0 hx Bd.returns (hb hby d6_25) hr
    · show Q6 Z a1 a3 cs cc y1 h0 n0 _ s₁.heap _
      rw [e0]
      exact ⟨(0 : Int32), _, rfl, N0, K0, A_a3, (Or.inr ⟨⟨by decide, by decide⟩, hc4⟩)⟩
  · have hin5 := inb_of (j := (0 : Int32)) Sz2 ⟨by decide, by decide⟩
    obtain ⟨T5, h5, X5, e5, W5, st5⟩ := stB X0 hx hZ e0 Ar2 (j := (0 : Int32)) hin5 (g := (mkF m 31 #[.val (.ref a1), .val (.int (0 : Int32)), .val (.ref a3), .val (.int (0 : Int32)), .val (.int (6 : Int32)), .val (.int (0 : Int32)), .val (.int (cc (0 : Int32)))] [(.int ((cc (0 : Int32)).toInt8.toInt32)), (.int (0 : Int32)), (.ref a3)])) rfl rfl (hb hby d6_31)
    obtain ⟨y5, hy5⟩ : ∃ yy_ : Int32 → Int32, yy_ = fun i => if i = (0 : Int32) then (nar .byte ((cc (0 : Int32)).toInt8.toInt32)) else y1 i := ⟨_, rfl⟩
    have A_a1_5 : own_A Z h5 a1 .char (6 : Int32) (fun i => .int (cc i)) := own_A_other A_a1 W5 ne_a1_a3
    have K5 := K0.wr W5 (Or.inl (List.mem_of_getElem? (i := 0) rfl))
    have Zs5 := Nat.le_trans Z0 (Keep.of_wr W5).1
    have N5 := Fr.snoc X5 N0 g_a3
    have O5 := O0.wr W5 g_a3
    have A_a3_5 : own_A Z h5 a3 .byte (6 : Int32) (fun i => .int (y5 i)) := by subst hy5; exact own_A_set Ar2 Sz2 Mz2 Hz2 hin5 W5 (own_setI (y := y1) (j := (0 : Int32)) (x := (nar .byte ((cc (0 : Int32)).toInt8.toInt32)))) (own_setI' (y := y1) (j := (0 : Int32)) (x := (nar .byte ((cc (0 : Int32)).toInt8.toInt32))))
    obtain ⟨cl6, Ar6, Sz6, Mz6, Hz6⟩ := id A_a1_5
    obtain ⟨cl7, Ar7, Sz7, Mz7, Hz7⟩ := id A_a3_5
    have pre8 : ∀ t, Steps p.tables e below (T5.setTop (mkF m 20 #[.val (.ref a1), .val (.int (1 : Int32)), .val (.ref a3), .val (.int (1 : Int32)), .val (.int (6 : Int32)), .val (.int (1 : Int32)), .val (.int (cc (1 : Int32)))] [(.int (255 : Int32)), (.int (cc (1 : Int32)))])) t → Steps p.tables e below (s₁.setTop (entryFrame m #[(.ref a1), (.int (0 : Int32)), (.ref a3), (.int (0 : Int32)), (.int (6 : Int32))] 7)) t := fun t k => pre3 t (by
      show Steps p.tables e below (s₁.setTop (mkF m 20 #[.val (.ref a1), .val (.int (0 : Int32)), .val (.ref a3), .val (.int (0 : Int32)), .val (.int (6 : Int32)), .val (.int (0 : Int32)), .val (.int (cc (0 : Int32)))] [(.int (255 : Int32)), (.int (cc (0 : Int32)))])) _
      refine XS.icmpYes X0.here hx rfl (pc0 := 20) (pc' := 26) rfl (hb hby d6_20) rfl (flt hc4).2.2.2 (by decide) (by decide) ?_
      show Steps p.tables e below (s₁.setTop (mkF m 26 #[.val (.ref a1), .val (.int (0 : Int32)), .val (.ref a3), .val (.int (0 : Int32)), .val (.int (6 : Int32)), .val (.int (0 : Int32)), .val (.int (cc (0 : Int32)))] [])) _
      refine XS.aloadN X0.here hx rfl (hb hby d6_26) rfl rfl ?_
      show Steps p.tables e below (s₁.setTop (mkF m 27 #[.val (.ref a1), .val (.int (0 : Int32)), .val (.ref a3), .val (.int (0 : Int32)), .val (.int (6 : Int32)), .val (.int (0 : Int32)), .val (.int (cc (0 : Int32)))] [(.ref a3)])) _
      refine XS.iloadN X0.here hx rfl (hb hby d6_27) rfl ?_
      show Steps p.tables e below (s₁.setTop (mkF m 28 #[.val (.ref a1), .val (.int (0 : Int32)), .val (.ref a3), .val (.int (0 : Int32)), .val (.int (6 : Int32)), .val (.int (0 : Int32)), .val (.int (cc (0 : Int32)))] [(.int (0 : Int32)), (.ref a3)])) _
      refine XS.iload X0.here hx rfl (hb hby d6_28) rfl ?_
      show Steps p.tables e below (s₁.setTop (mkF m 30 #[.val (.ref a1), .val (.int (0 : Int32)), .val (.ref a3), .val (.int (0 : Int32)), .val (.int (6 : Int32)), .val (.int (0 : Int32)), .val (.int (cc (0 : Int32)))] [(.int (cc (0 : Int32))), (.int (0 : Int32)), (.ref a3)])) _
      refine XS.i2b X0.here hx rfl (hb hby d6_30) rfl ?_
      show Steps p.tables e below (s₁.setTop (mkF m 31 #[.val (.ref a1), .val (.int (0 : Int32)), .val (.ref a3), .val (.int (0 : Int32)), .val (.int (6 : Int32)), .val (.int (0 : Int32)), .val (.int (cc (0 : Int32)))] [(.int ((cc (0 : Int32)).toInt8.toInt32)), (.int (0 : Int32)), (.ref a3)])) _
      refine st5 _ ?_
      show Steps p.tables e below (T5.setTop (mkF m 32 #[.val (.ref a1), .val (.int (0 : Int32)), .val (.ref a3), .val (.int (0 : Int32)), .val (.int (6 : Int32)), .val (.int (0 : Int32)), .val (.int (cc (0 : Int32)))] [])) _
      refine XS.iinc X5.here hx rfl (hb hby d6_32) rfl (l' := #[.val (.ref a1), .val (.int (1 : Int32)), .val (.ref a3), .val (.int (0 : Int32)), .val (.int (6 : Int32)), .val (.int (0 : Int32)), .val (.int (cc (0 : Int32)))]) rfl ?_
      show Steps p.tables e below (T5.setTop (mkF m 35 #[.val (.ref a1), .val (.int (1 : Int32)), .val (.ref a3), .val (.int (0 : Int32)), .val (.int (6 : Int32)), .val (.int (0 : Int32)), .val (.int (cc (0 : Int32)))] [])) _
      refine XS.iinc X5.here hx rfl (hb hby d6_35) rfl (l' := #[.val (.ref a1), .val (.int (1 : Int32)), .val (.ref a3), .val (.int (1 : Int32)), .val (.int (6 : Int32)), .val (.int (0 : Int32)), .val (.int (cc (0 : Int32)))]) rfl ?_
      show Steps p.tables e below (T5.setTop (mkF m 38 #[.val (.ref a1), .val (.int (1 : Int32)), .val (.ref a3), .val (.int (1 : Int32)), .val (.int (6 : Int32)), .val (.int (0 : Int32)), .val (.int (cc (0 : Int32)))] [])) _
      refine XS.iinc X5.here hx rfl (hb hby d6_38) rfl (l' := #[.val (.ref a1), .val (.int (1 : Int32)), .val (.ref a3), .val (.int (1 : Int32)), .val (.int (6 : Int32)), .val (.int (1 : Int32)), .val (.int (cc (0 : Int32)))]) rfl ?_
      show Steps p.tables e below (T5.setTop (mkF m 41 #[.val (.ref a1), .val (.int (1 : Int32)), .val (.ref a3), .val (.int (1 : Int32)), .val (.int (6 : Int32)), .val (.int (1 : Int32)), .val (.int (cc (0 : Int32)))] [])) _
      refine XS.goto X5.here hx rfl (pc0 := 41) (pc' := 3) rfl (hb hby d6_41) (by decide) (by decide) ?_
      show Steps p.tables e below (T5.setTop (mkF m 3 #[.val (.ref a1), .val (.int (1 : Int32)), .val (.ref a3), .val (.int (1 : Int32)), .val (.int (6 : Int32)), .val (.int (1 : Int32)), .val (.int (cc (0 : Int32)))] [])) _
      refine XS.iload X5.here hx rfl (hb hby d6_3) rfl ?_
      show Steps p.tables e below (T5.setTop (mkF m 5 #[.val (.ref a1), .val (.int (1 : Int32)), .val (.ref a3), .val (.int (1 : Int32)), .val (.int (6 : Int32)), .val (.int (1 : Int32)), .val (.int (cc (0 : Int32)))] [(.int (1 : Int32))])) _
      refine XS.iload X5.here hx rfl (hb hby d6_5) rfl ?_
      show Steps p.tables e below (T5.setTop (mkF m 7 #[.val (.ref a1), .val (.int (1 : Int32)), .val (.ref a3), .val (.int (1 : Int32)), .val (.int (6 : Int32)), .val (.int (1 : Int32)), .val (.int (cc (0 : Int32)))] [(.int (6 : Int32)), (.int (1 : Int32))])) _
      refine XS.icmpNo X5.here hx rfl (hb hby d6_7) rfl (tlt (show ((1 : Int32) < (6 : Int32)) by decide)).2.1 ?_
      show Steps p.tables e below (T5.setTop (mkF m 10 #[.val (.ref a1), .val (.int (1 : Int32)), .val (.ref a3), .val (.int (1 : Int32)), .val (.int (6 : Int32)), .val (.int (1 : Int32)), .val (.int (cc (0 : Int32)))] [])) _
      refine XS.aloadN X5.here hx rfl (hb hby d6_10) rfl rfl ?_
      show Steps p.tables e below (T5.setTop (mkF m 11 #[.val (.ref a1), .val (.int (1 : Int32)), .val (.ref a3), .val (.int (1 : Int32)), .val (.int (6 : Int32)), .val (.int (1 : Int32)), .val (.int (cc (0 : Int32)))] [(.ref a1)])) _
      refine XS.iloadN X5.here hx rfl (hb hby d6_11) rfl ?_
      show Steps p.tables e below (T5.setTop (mkF m 12 #[.val (.ref a1), .val (.int (1 : Int32)), .val (.ref a3), .val (.int (1 : Int32)), .val (.int (6 : Int32)), .val (.int (1 : Int32)), .val (.int (cc (0 : Int32)))] [(.int (1 : Int32)), (.ref a1)])) _
      refine X5.caload hx (j := (1 : Int32)) (v := (.int (cc (1 : Int32)))) (by rw [e5]; exact Ar6.1) (State.isArrayOf_alike hZ.alike Ar6.2.1) Ar6.2.2 (inb_of Sz6 ⟨by decide, by decide⟩) (Hz6 _ (inb_of Sz6 ⟨by decide, by decide⟩)) (g := (mkF m 12 #[.val (.ref a1), .val (.int (1 : Int32)), .val (.ref a3), .val (.int (1 : Int32)), .val (.int (6 : Int32)), .val (.int (1 : Int32)), .val (.int (cc (0 : Int32)))] [(.int (1 : Int32)), (.ref a1)])) rfl rfl (hb hby d6_12) _ ?_
      show Steps p.tables e below (T5.setTop (mkF m 13 #[.val (.ref a1), .val (.int (1 : Int32)), .val (.ref a3), .val (.int (1 : Int32)), .val (.int (6 : Int32)), .val (.int (1 : Int32)), .val (.int (cc (0 : Int32)))] [(.int (cc (1 : Int32)))])) _
      refine XS.istore X5.here hx rfl (hb hby d6_13) rfl (l' := #[.val (.ref a1), .val (.int (1 : Int32)), .val (.ref a3), .val (.int (1 : Int32)), .val (.int (6 : Int32)), .val (.int (1 : Int32)), .val (.int (cc (1 : Int32)))]) rfl ?_
      show Steps p.tables e below (T5.setTop (mkF m 15 #[.val (.ref a1), .val (.int (1 : Int32)), .val (.ref a3), .val (.int (1 : Int32)), .val (.int (6 : Int32)), .val (.int (1 : Int32)), .val (.int (cc (1 : Int32)))] [])) _
      refine XS.iload X5.here hx rfl (hb hby d6_15) rfl ?_
      show Steps p.tables e below (T5.setTop (mkF m 17 #[.val (.ref a1), .val (.int (1 : Int32)), .val (.ref a3), .val (.int (1 : Int32)), .val (.int (6 : Int32)), .val (.int (1 : Int32)), .val (.int (cc (1 : Int32)))] [(.int (cc (1 : Int32)))])) _
      refine XS.sipush X5.here hx rfl (hb hby d6_17) ?_
      exact k)
    by_cases hc9 : (255 : Int32) < (cc (1 : Int32))
    · obtain ⟨fs, hr, hrun, hended, hW, hsame⟩ := X5.leave (v := some (.int (1 : Int32))) (fun h => by rw [Bd.returns] at h; cases h)
      refine ⟨_, _, pre8 _ ?_, hrun, hended, _, _, rfl, ?_, ⟨_, rfl⟩, hW, hsame.mono (by decide) (by decide)⟩
      · show Steps p.tables e below (T5.setTop (mkF m 20 #[.val (.ref a1), .val (.int (1 : Int32)), .val (.ref a3), .val (.int (1 : Int32)), .val (.int (6 : Int32)), .val (.int (1 : Int32)), .val (.int (cc (1 : Int32)))] [(.int (255 : Int32)), (.int (cc (1 : Int32)))])) _
        refine XS.icmpNo X5.here hx rfl (hb hby d6_20) rfl (tlt hc9).2.2.2 ?_
        show Steps p.tables e below (T5.setTop (mkF m 23 #[.val (.ref a1), .val (.int (1 : Int32)), .val (.ref a3), .val (.int (1 : Int32)), .val (.int (6 : Int32)), .val (.int (1 : Int32)), .val (.int (cc (1 : Int32)))] [])) _
        refine XS.iload X5.here hx rfl (hb hby d6_23) rfl ?_
        show Steps p.tables e below (T5.setTop (mkF m 25 #[.val (.ref a1), .val (.int (1 : Int32)), .val (.ref a3), .val (.int (1 : Int32)), .val (.int (6 : Int32)), .val (.int (1 : Int32)), .val (.int (cc (1 : Int32)))] [(.int (1 : Int32))])) _
        exact retI X5 hx Bd.returns (hb hby d6_25) hr
      · show Q6 Z a1 a3 cs cc y1 h0 n0 _ T5.heap _
        rw [e5]
        subst hy5
        exact ⟨(1 : Int32), _, rfl, N5, K5, A_a3_5, (Or.inr ⟨⟨by decide, by decide⟩, hc9⟩)⟩
    · have hin10 := inb_of (j := (1 : Int32)) Sz7 ⟨by decide, by decide⟩
      obtain ⟨T10, h10, X10, e10, W10, st10⟩ := stB X5 hx hZ e5 Ar7 (j := (1 : Int32)) hin10 (g := (mkF m 31 #[.val (.ref a1), .val (.int (1 : Int32)), .val (.ref a3), .val (.int (1 : Int32)), .val (.int (6 : Int32)), .val (.int (1 : Int32)), .val (.int (cc (1 : Int32)))] [(.int ((cc (1 : Int32)).toInt8.toInt32)), (.int (1 : Int32)), (.ref a3)])) rfl rfl (hb hby d6_31)
      obtain ⟨y10, hy10⟩ : ∃ yy_ : Int32 → Int32, yy_ = fun i => if i = (1 : Int32) then (nar .byte ((cc (1 : Int32)).toInt8.toInt32)) else y5 i := ⟨_, rfl⟩
      have A_a1_10 : own_A Z h10 a1 .char (6 : Int32) (fun i => .int (cc i)) := own_A_other A_a1_5 W10 ne_a1_a3
      have K10 := K5.wr W10 (Or.inl (List.mem_of_getElem? (i := 0) rfl))
      have Zs10 := Nat.le_trans Zs5 (Keep.of_wr W10).1
      have N10 := Fr.snoc X10 N5 g_a3
      have O10 := O5.wr W10 g_a3
      have A_a3_10 : own_A Z h10 a3 .byte (6 : Int32) (fun i => .int (y10 i)) := by subst hy10; exact own_A_set Ar7 Sz7 Mz7 Hz7 hin10 W10 (own_setI (y := y5) (j := (1 : Int32)) (x := (nar .byte ((cc (1 : Int32)).toInt8.toInt32)))) (own_setI' (y := y5) (j := (1 : Int32)) (x := (nar .byte ((cc (1 : Int32)).toInt8.toInt32))))
      obtain ⟨cl11, Ar11, Sz11, Mz11, Hz11⟩ := id A_a1_10
      obtain ⟨cl12, Ar12, Sz12, Mz12, Hz12⟩ := id A_a3_10
      have pre13 : ∀ t, Steps p.tables e below (T10.setTop (mkF m 20 #[.val (.ref a1), .val (.int (2 : Int32)), .val (.ref a3), .val (.int (2 : Int32)), .val (.int (6 : Int32)), .val (.int (2 : Int32)), .val (.int (cc (2 : Int32)))] [(.int (255 : Int32)), (.int (cc (2 : Int32)))])) t → Steps p.tables e below (s₁.setTop (entryFrame m #[(.ref a1), (.int (0 : Int32)), (.ref a3), (.int (0 : Int32)), (.int (6 : Int32))] 7)) t := fun t k => pre8 t (by
        show Steps p.tables e below (T5.setTop (mkF m 20 #[.val (.ref a1), .val (.int (1 : Int32)), .val (.ref a3), .val (.int (1 : Int32)), .val (.int (6 : Int32)), .val (.int (1 : Int32)), .val (.int (cc (1 : Int32)))] [(.int (255 : Int32)), (.int (cc (1 : Int32)))])) _
        refine XS.icmpYes X5.here hx rfl (pc0 := 20) (pc' := 26) rfl (hb hby d6_20) rfl (flt hc9).2.2.2 (by decide) (by decide) ?_
        show Steps p.tables e below (T5.setTop (mkF m 26 #[.val (.ref a1), .val (.int (1 : Int32)), .val (.ref a3), .val (.int (1 : Int32)), .val (.int (6 : Int32)), .val (.int (1 : Int32)), .val (.int (cc (1 : Int32)))] [])) _
        refine XS.aloadN X5.here hx rfl (hb hby d6_26) rfl rfl ?_
        show Steps p.tables e below (T5.setTop (mkF m 27 #[.val (.ref a1), .val (.int (1 : Int32)), .val (.ref a3), .val (.int (1 : Int32)), .val (.int (6 : Int32)), .val (.int (1 : Int32)), .val (.int (cc (1 : Int32)))] [(.ref a3)])) _
        refine XS.iloadN X5.here hx rfl (hb hby d6_27) rfl ?_
        show Steps p.tables e below (T5.setTop (mkF m 28 #[.val (.ref a1), .val (.int (1 : Int32)), .val (.ref a3), .val (.int (1 : Int32)), .val (.int (6 : Int32)), .val (.int (1 : Int32)), .val (.int (cc (1 : Int32)))] [(.int (1 : Int32)), (.ref a3)])) _
        refine XS.iload X5.here hx rfl (hb hby d6_28) rfl ?_
        show Steps p.tables e below (T5.setTop (mkF m 30 #[.val (.ref a1), .val (.int (1 : Int32)), .val (.ref a3), .val (.int (1 : Int32)), .val (.int (6 : Int32)), .val (.int (1 : Int32)), .val (.int (cc (1 : Int32)))] [(.int (cc (1 : Int32))), (.int (1 : Int32)), (.ref a3)])) _
        refine XS.i2b X5.here hx rfl (hb hby d6_30) rfl ?_
        show Steps p.tables e below (T5.setTop (mkF m 31 #[.val (.ref a1), .val (.int (1 : Int32)), .val (.ref a3), .val (.int (1 : Int32)), .val (.int (6 : Int32)), .val (.int (1 : Int32)), .val (.int (cc (1 : Int32)))] [(.int ((cc (1 : Int32)).toInt8.toInt32)), (.int (1 : Int32)), (.ref a3)])) _
        refine st10 _ ?_
        show Steps p.tables e below (T10.setTop (mkF m 32 #[.val (.ref a1), .val (.int (1 : Int32)), .val (.ref a3), .val (.int (1 : Int32)), .val (.int (6 : Int32)), .val (.int (1 : Int32)), .val (.int (cc (1 : Int32)))] [])) _
        refine XS.iinc X10.here hx rfl (hb hby d6_32) rfl (l' := #[.val (.ref a1), .val (.int (2 : Int32)), .val (.ref a3), .val (.int (1 : Int32)), .val (.int (6 : Int32)), .val (.int (1 : Int32)), .val (.int (cc (1 : Int32)))]) rfl ?_
        show Steps p.tables e below (T10.setTop (mkF m 35 #[.val (.ref a1), .val (.int (2 : Int32)), .val (.ref a3), .val (.int (1 : Int32)), .val (.int (6 : Int32)), .val (.int (1 : Int32)), .val (.int (cc (1 : Int32)))] [])) _
        refine XS.iinc X10.here hx rfl (hb hby d6_35) rfl (l' := #[.val (.ref a1), .val (.int (2 : Int32)), .val (.ref a3), .val (.int (2 : Int32)), .val (.int (6 : Int32)), .val (.int (1 : Int32)), .val (.int (cc (1 : Int32)))]) rfl ?_
        show Steps p.tables e below (T10.setTop (mkF m 38 #[.val (.ref a1), .val (.int (2 : Int32)), .val (.ref a3), .val (.int (2 : Int32)), .val (.int (6 : Int32)), .val (.int (1 : Int32)), .val (.int (cc (1 : Int32)))] [])) _
        refine XS.iinc X10.here hx rfl (hb hby d6_38) rfl (l' := #[.val (.ref a1), .val (.int (2 : Int32)), .val (.ref a3), .val (.int (2 : Int32)), .val (.int (6 : Int32)), .val (.int (2 : Int32)), .val (.int (cc (1 : Int32)))]) rfl ?_
        show Steps p.tables e below (T10.setTop (mkF m 41 #[.val (.ref a1), .val (.int (2 : Int32)), .val (.ref a3), .val (.int (2 : Int32)), .val (.int (6 : Int32)), .val (.int (2 : Int32)), .val (.int (cc (1 : Int32)))] [])) _
        refine XS.goto X10.here hx rfl (pc0 := 41) (pc' := 3) rfl (hb hby d6_41) (by decide) (by decide) ?_
        show Steps p.tables e below (T10.setTop (mkF m 3 #[.val (.ref a1), .val (.int (2 : Int32)), .val (.ref a3), .val (.int (2 : Int32)), .val (.int (6 : Int32)), .val (.int (2 : Int32)), .val (.int (cc (1 : Int32)))] [])) _
        refine XS.iload X10.here hx rfl (hb hby d6_3) rfl ?_
        show Steps p.tables e below (T10.setTop (mkF m 5 #[.val (.ref a1), .val (.int (2 : Int32)), .val (.ref a3), .val (.int (2 : Int32)), .val (.int (6 : Int32)), .val (.int (2 : Int32)), .val (.int (cc (1 : Int32)))] [(.int (2 : Int32))])) _
        refine XS.iload X10.here hx rfl (hb hby d6_5) rfl ?_
        show Steps p.tables e below (T10.setTop (mkF m 7 #[.val (.ref a1), .val (.int (2 : Int32)), .val (.ref a3), .val (.int (2 : Int32)), .val (.int (6 : Int32)), .val (.int (2 : Int32)), .val (.int (cc (1 : Int32)))] [(.int (6 : Int32)), (.int (2 : Int32))])) _
        refine XS.icmpNo X10.here hx rfl (hb hby d6_7) rfl (tlt (show ((2 : Int32) < (6 : Int32)) by decide)).2.1 ?_
        show Steps p.tables e below (T10.setTop (mkF m 10 #[.val (.ref a1), .val (.int (2 : Int32)), .val (.ref a3), .val (.int (2 : Int32)), .val (.int (6 : Int32)), .val (.int (2 : Int32)), .val (.int (cc (1 : Int32)))] [])) _
        refine XS.aloadN X10.here hx rfl (hb hby d6_10) rfl rfl ?_
        show Steps p.tables e below (T10.setTop (mkF m 11 #[.val (.ref a1), .val (.int (2 : Int32)), .val (.ref a3), .val (.int (2 : Int32)), .val (.int (6 : Int32)), .val (.int (2 : Int32)), .val (.int (cc (1 : Int32)))] [(.ref a1)])) _
        refine XS.iloadN X10.here hx rfl (hb hby d6_11) rfl ?_
        show Steps p.tables e below (T10.setTop (mkF m 12 #[.val (.ref a1), .val (.int (2 : Int32)), .val (.ref a3), .val (.int (2 : Int32)), .val (.int (6 : Int32)), .val (.int (2 : Int32)), .val (.int (cc (1 : Int32)))] [(.int (2 : Int32)), (.ref a1)])) _
        refine X10.caload hx (j := (2 : Int32)) (v := (.int (cc (2 : Int32)))) (by rw [e10]; exact Ar11.1) (State.isArrayOf_alike hZ.alike Ar11.2.1) Ar11.2.2 (inb_of Sz11 ⟨by decide, by decide⟩) (Hz11 _ (inb_of Sz11 ⟨by decide, by decide⟩)) (g := (mkF m 12 #[.val (.ref a1), .val (.int (2 : Int32)), .val (.ref a3), .val (.int (2 : Int32)), .val (.int (6 : Int32)), .val (.int (2 : Int32)), .val (.int (cc (1 : Int32)))] [(.int (2 : Int32)), (.ref a1)])) rfl rfl (hb hby d6_12) _ ?_
        show Steps p.tables e below (T10.setTop (mkF m 13 #[.val (.ref a1), .val (.int (2 : Int32)), .val (.ref a3), .val (.int (2 : Int32)), .val (.int (6 : Int32)), .val (.int (2 : Int32)), .val (.int (cc (1 : Int32)))] [(.int (cc (2 : Int32)))])) _
        refine XS.istore X10.here hx rfl (hb hby d6_13) rfl (l' := #[.val (.ref a1), .val (.int (2 : Int32)), .val (.ref a3), .val (.int (2 : Int32)), .val (.int (6 : Int32)), .val (.int (2 : Int32)), .val (.int (cc (2 : Int32)))]) rfl ?_
        show Steps p.tables e below (T10.setTop (mkF m 15 #[.val (.ref a1), .val (.int (2 : Int32)), .val (.ref a3), .val (.int (2 : Int32)), .val (.int (6 : Int32)), .val (.int (2 : Int32)), .val (.int (cc (2 : Int32)))] [])) _
        refine XS.iload X10.here hx rfl (hb hby d6_15) rfl ?_
        show Steps p.tables e below (T10.setTop (mkF m 17 #[.val (.ref a1), .val (.int (2 : Int32)), .val (.ref a3), .val (.int (2 : Int32)), .val (.int (6 : Int32)), .val (.int (2 : Int32)), .val (.int (cc (2 : Int32)))] [(.int (cc (2 : Int32)))])) _
        refine XS.sipush X10.here hx rfl (hb hby d6_17) ?_
        exact k)
      by_cases hc14 : (255 : Int32) < (cc (2 : Int32))
      · obtain ⟨fs, hr, hrun, hended, hW, hsame⟩ := X10.leave (v := some (.int (2 : Int32))) (fun h => by rw [Bd.returns] at h; cases h)
        refine ⟨_, _, pre13 _ ?_, hrun, hended, _, _, rfl, ?_, ⟨_, rfl⟩, hW, hsame.mono (by decide) (by decide)⟩
        · show Steps p.tables e below (T10.setTop (mkF m 20 #[.val (.ref a1), .val (.int (2 : Int32)), .val (.ref a3), .val (.int (2 : Int32)), .val (.int (6 : Int32)), .val (.int (2 : Int32)), .val (.int (cc (2 : Int32)))] [(.int (255 : Int32)), (.int (cc (2 : Int32)))])) _
          refine XS.icmpNo X10.here hx rfl (hb hby d6_20) rfl (tlt hc14).2.2.2 ?_
          show Steps p.tables e below (T10.setTop (mkF m 23 #[.val (.ref a1), .val (.int (2 : Int32)), .val (.ref a3), .val (.int (2 : Int32)), .val (.int (6 : Int32)), .val (.int (2 : Int32)), .val (.int (cc (2 : Int32)))] [])) _
          refine XS.iload X10.here hx rfl (hb hby d6_23) rfl ?_
          show Steps p.tables e below (T10.setTop (mkF m 25 #[.val (.ref a1), .val (.int (2 : Int32)), .val (.ref a3), .val (.int (2 : Int32)), .val (.int (6 : Int32)), .val (.int (2 : Int32)), .val (.int (cc (2 : Int32)))] [(.int (2 : Int32))])) _
          exact retI X10 hx Bd.returns (hb hby d6_25) hr
        · show Q6 Z a1 a3 cs cc y1 h0 n0 _ T10.heap _
          rw [e10]
          subst hy5 hy10
          exact ⟨(2 : Int32), _, rfl, N10, K10, A_a3_10, (Or.inr ⟨⟨by decide, by decide⟩, hc14⟩)⟩
      · have hin15 := inb_of (j := (2 : Int32)) Sz12 ⟨by decide, by decide⟩
        obtain ⟨T15, h15, X15, e15, W15, st15⟩ := stB X10 hx hZ e10 Ar12 (j := (2 : Int32)) hin15 (g := (mkF m 31 #[.val (.ref a1), .val (.int (2 : Int32)), .val (.ref a3), .val (.int (2 : Int32)), .val (.int (6 : Int32)), .val (.int (2 : Int32)), .val (.int (cc (2 : Int32)))] [(.int ((cc (2 : Int32)).toInt8.toInt32)), (.int (2 : Int32)), (.ref a3)])) rfl rfl (hb hby d6_31)
        obtain ⟨y15, hy15⟩ : ∃ yy_ : Int32 → Int32, yy_ = fun i => if i = (2 : Int32) then (nar .byte ((cc (2 : Int32)).toInt8.toInt32)) else y10 i := ⟨_, rfl⟩
        have A_a1_15 : own_A Z h15 a1 .char (6 : Int32) (fun i => .int (cc i)) := own_A_other A_a1_10 W15 ne_a1_a3
        have K15 := K10.wr W15 (Or.inl (List.mem_of_getElem? (i := 0) rfl))
        have Zs15 := Nat.le_trans Zs10 (Keep.of_wr W15).1
        have N15 := Fr.snoc X15 N10 g_a3
        have O15 := O10.wr W15 g_a3
        have A_a3_15 : own_A Z h15 a3 .byte (6 : Int32) (fun i => .int (y15 i)) := by subst hy15; exact own_A_set Ar12 Sz12 Mz12 Hz12 hin15 W15 (own_setI (y := y10) (j := (2 : Int32)) (x := (nar .byte ((cc (2 : Int32)).toInt8.toInt32)))) (own_setI' (y := y10) (j := (2 : Int32)) (x := (nar .byte ((cc (2 : Int32)).toInt8.toInt32))))
        obtain ⟨cl16, Ar16, Sz16, Mz16, Hz16⟩ := id A_a1_15
        obtain ⟨cl17, Ar17, Sz17, Mz17, Hz17⟩ := id A_a3_15
        have pre18 : ∀ t, Steps p.tables e below (T15.setTop (mkF m 20 #[.val (.ref a1), .val (.int (3 : Int32)), .val (.ref a3), .val (.int (3 : Int32)), .val (.int (6 : Int32)), .val (.int (3 : Int32)), .val (.int (cc (3 : Int32)))] [(.int (255 : Int32)), (.int (cc (3 : Int32)))])) t → Steps p.tables e below (s₁.setTop (entryFrame m #[(.ref a1), (.int (0 : Int32)), (.ref a3), (.int (0 : Int32)), (.int (6 : Int32))] 7)) t := fun t k => pre13 t (by
          show Steps p.tables e below (T10.setTop (mkF m 20 #[.val (.ref a1), .val (.int (2 : Int32)), .val (.ref a3), .val (.int (2 : Int32)), .val (.int (6 : Int32)), .val (.int (2 : Int32)), .val (.int (cc (2 : Int32)))] [(.int (255 : Int32)), (.int (cc (2 : Int32)))])) _
          refine XS.icmpYes X10.here hx rfl (pc0 := 20) (pc' := 26) rfl (hb hby d6_20) rfl (flt hc14).2.2.2 (by decide) (by decide) ?_
          show Steps p.tables e below (T10.setTop (mkF m 26 #[.val (.ref a1), .val (.int (2 : Int32)), .val (.ref a3), .val (.int (2 : Int32)), .val (.int (6 : Int32)), .val (.int (2 : Int32)), .val (.int (cc (2 : Int32)))] [])) _
          refine XS.aloadN X10.here hx rfl (hb hby d6_26) rfl rfl ?_
          show Steps p.tables e below (T10.setTop (mkF m 27 #[.val (.ref a1), .val (.int (2 : Int32)), .val (.ref a3), .val (.int (2 : Int32)), .val (.int (6 : Int32)), .val (.int (2 : Int32)), .val (.int (cc (2 : Int32)))] [(.ref a3)])) _
          refine XS.iloadN X10.here hx rfl (hb hby d6_27) rfl ?_
          show Steps p.tables e below (T10.setTop (mkF m 28 #[.val (.ref a1), .val (.int (2 : Int32)), .val (.ref a3), .val (.int (2 : Int32)), .val (.int (6 : Int32)), .val (.int (2 : Int32)), .val (.int (cc (2 : Int32)))] [(.int (2 : Int32)), (.ref a3)])) _
          refine XS.iload X10.here hx rfl (hb hby d6_28) rfl ?_
          show Steps p.tables e below (T10.setTop (mkF m 30 #[.val (.ref a1), .val (.int (2 : Int32)), .val (.ref a3), .val (.int (2 : Int32)), .val (.int (6 : Int32)), .val (.int (2 : Int32)), .val (.int (cc (2 : Int32)))] [(.int (cc (2 : Int32))), (.int (2 : Int32)), (.ref a3)])) _
          refine XS.i2b X10.here hx rfl (hb hby d6_30) rfl ?_
          show Steps p.tables e below (T10.setTop (mkF m 31 #[.val (.ref a1), .val (.int (2 : Int32)), .val (.ref a3), .val (.int (2 : Int32)), .val (.int (6 : Int32)), .val (.int (2 : Int32)), .val (.int (cc (2 : Int32)))] [(.int ((cc (2 : Int32)).toInt8.toInt32)), (.int (2 : Int32)), (.ref a3)])) _
          refine st15 _ ?_
          show Steps p.tables e below (T15.setTop (mkF m 32 #[.val (.ref a1), .val (.int (2 : Int32)), .val (.ref a3), .val (.int (2 : Int32)), .val (.int (6 : Int32)), .val (.int (2 : Int32)), .val (.int (cc (2 : Int32)))] [])) _
          refine XS.iinc X15.here hx rfl (hb hby d6_32) rfl (l' := #[.val (.ref a1), .val (.int (3 : Int32)), .val (.ref a3), .val (.int (2 : Int32)), .val (.int (6 : Int32)), .val (.int (2 : Int32)), .val (.int (cc (2 : Int32)))]) rfl ?_
          show Steps p.tables e below (T15.setTop (mkF m 35 #[.val (.ref a1), .val (.int (3 : Int32)), .val (.ref a3), .val (.int (2 : Int32)), .val (.int (6 : Int32)), .val (.int (2 : Int32)), .val (.int (cc (2 : Int32)))] [])) _
          refine XS.iinc X15.here hx rfl (hb hby d6_35) rfl (l' := #[.val (.ref a1), .val (.int (3 : Int32)), .val (.ref a3), .val (.int (3 : Int32)), .val (.int (6 : Int32)), .val (.int (2 : Int32)), .val (.int (cc (2 : Int32)))]) rfl ?_
          show Steps p.tables e below (T15.setTop (mkF m 38 #[.val (.ref a1), .val (.int (3 : Int32)), .val (.ref a3), .val (.int (3 : Int32)), .val (.int (6 : Int32)), .val (.int (2 : Int32)), .val (.int (cc (2 : Int32)))] [])) _
          refine XS.iinc X15.here hx rfl (hb hby d6_38) rfl (l' := #[.val (.ref a1), .val (.int (3 : Int32)), .val (.ref a3), .val (.int (3 : Int32)), .val (.int (6 : Int32)), .val (.int (3 : Int32)), .val (.int (cc (2 : Int32)))]) rfl ?_
          show Steps p.tables e below (T15.setTop (mkF m 41 #[.val (.ref a1), .val (.int (3 : Int32)), .val (.ref a3), .val (.int (3 : Int32)), .val (.int (6 : Int32)), .val (.int (3 : Int32)), .val (.int (cc (2 : Int32)))] [])) _
          refine XS.goto X15.here hx rfl (pc0 := 41) (pc' := 3) rfl (hb hby d6_41) (by decide) (by decide) ?_
          show Steps p.tables e below (T15.setTop (mkF m 3 #[.val (.ref a1), .val (.int (3 : Int32)), .val (.ref a3), .val (.int (3 : Int32)), .val (.int (6 : Int32)), .val (.int (3 : Int32)), .val (.int (cc (2 : Int32)))] [])) _
          refine XS.iload X15.here hx rfl (hb hby d6_3) rfl ?_
          show Steps p.tables e below (T15.setTop (mkF m 5 #[.val (.ref a1), .val (.int (3 : Int32)), .val (.ref a3), .val (.int (3 : Int32)), .val (.int (6 : Int32)), .val (.int (3 : Int32)), .val (.int (cc (2 : Int32)))] [(.int (3 : Int32))])) _
          refine XS.iload X15.here hx rfl (hb hby d6_5) rfl ?_
          show Steps p.tables e below (T15.setTop (mkF m 7 #[.val (.ref a1), .val (.int (3 : Int32)), .val (.ref a3), .val (.int (3 : Int32)), .val (.int (6 : Int32)), .val (.int (3 : Int32)), .val (.int (cc (2 : Int32)))] [(.int (6 : Int32)), (.int (3 : Int32))])) _
          refine XS.icmpNo X15.here hx rfl (hb hby d6_7) rfl (tlt (show ((3 : Int32) < (6 : Int32)) by decide)).2.1 ?_
          show Steps p.tables e below (T15.setTop (mkF m 10 #[.val (.ref a1), .val (.int (3 : Int32)), .val (.ref a3), .val (.int (3 : Int32)), .val (.int (6 : Int32)), .val (.int (3 : Int32)), .val (.int (cc (2 : Int32)))] [])) _
          refine XS.aloadN X15.here hx rfl (hb hby d6_10) rfl rfl ?_
          show Steps p.tables e below (T15.setTop (mkF m 11 #[.val (.ref a1), .val (.int (3 : Int32)), .val (.ref a3), .val (.int (3 : Int32)), .val (.int (6 : Int32)), .val (.int (3 : Int32)), .val (.int (cc (2 : Int32)))] [(.ref a1)])) _
          refine XS.iloadN X15.here hx rfl (hb hby d6_11) rfl ?_
          show Steps p.tables e below (T15.setTop (mkF m 12 #[.val (.ref a1), .val (.int (3 : Int32)), .val (.ref a3), .val (.int (3 : Int32)), .val (.int (6 : Int32)), .val (.int (3 : Int32)), .val (.int (cc (2 : Int32)))] [(.int (3 : Int32)), (.ref a1)])) _
          refine X15.caload hx (j := (3 : Int32)) (v := (.int (cc (3 : Int32)))) (by rw [e15]; exact Ar16.1) (State.isArrayOf_alike hZ.alike Ar16.2.1) Ar16.2.2 (inb_of Sz16 ⟨by decide, by decide⟩) (Hz16 _ (inb_of Sz16 ⟨by decide, by decide⟩)) (g := (mkF m 12 #[.val (.ref a1), .val (.int (3 : Int32)), .val (.ref a3), .val (.int (3 : Int32)), .val (.int (6 : Int32)), .val (.int (3 : Int32)), .val (.int (cc (2 : Int32)))] [(.int (3 : Int32)), (.ref a1)])) rfl rfl (hb hby d6_12) _ ?_
          show Steps p.tables e below (T15.setTop (mkF m 13 #[.val (.ref a1), .val (.int (3 : Int32)), .val (.ref a3), .val (.int (3 : Int32)), .val (.int (6 : Int32)), .val (.int (3 : Int32)), .val (.int (cc (2 : Int32)))] [(.int (cc (3 : Int32)))])) _
          refine XS.istore X15.here hx rfl (hb hby d6_13) rfl (l' := #[.val (.ref a1), .val (.int (3 : Int32)), .val (.ref a3), .val (.int (3 : Int32)), .val (.int (6 : Int32)), .val (.int (3 : Int32)), .val (.int (cc (3 : Int32)))]) rfl ?_
          show Steps p.tables e below (T15.setTop (mkF m 15 #[.val (.ref a1), .val (.int (3 : Int32)), .val (.ref a3), .val (.int (3 : Int32)), .val (.int (6 : Int32)), .val (.int (3 : Int32)), .val (.int (cc (3 : Int32)))] [])) _
          refine XS.iload X15.here hx rfl (hb hby d6_15) rfl ?_
          show Steps p.tables e below (T15.setTop (mkF m 17 #[.val (.ref a1), .val (.int (3 : Int32)), .val (.ref a3), .val (.int (3 : Int32)), .val (.int (6 : Int32)), .val (.int (3 : Int32)), .val (.int (cc (3 : Int32)))] [(.int (cc (3 : Int32)))])) _
          refine XS.sipush X15.here hx rfl (hb hby d6_17) ?_
          exact k)
        by_cases hc19 : (255 : Int32) < (cc (3 : Int32))
        · obtain ⟨fs, hr, hrun, hended, hW, hsame⟩ := X15.leave (v := some (.int (3 : Int32))) (fun h => by rw [Bd.returns] at h; cases h)
          refine ⟨_, _, pre18 _ ?_, hrun, hended, _, _, rfl, ?_, ⟨_, rfl⟩, hW, hsame.mono (by decide) (by decide)⟩
          · show Steps p.tables e below (T15.setTop (mkF m 20 #[.val (.ref a1), .val (.int (3 : Int32)), .val (.ref a3), .val (.int (3 : Int32)), .val (.int (6 : Int32)), .val (.int (3 : Int32)), .val (.int (cc (3 : Int32)))] [(.int (255 : Int32)), (.int (cc (3 : Int32)))])) _
            refine XS.icmpNo X15.here hx rfl (hb hby d6_20) rfl (tlt hc19).2.2.2 ?_
            show Steps p.tables e below (T15.setTop (mkF m 23 #[.val (.ref a1), .val (.int (3 : Int32)), .val (.ref a3), .val (.int (3 : Int32)), .val (.int (6 : Int32)), .val (.int (3 : Int32)), .val (.int (cc (3 : Int32)))] [])) _
            refine XS.iload X15.here hx rfl (hb hby d6_23) rfl ?_
            show Steps p.tables e below (T15.setTop (mkF m 25 #[.val (.ref a1), .val (.int (3 : Int32)), .val (.ref a3), .val (.int (3 : Int32)), .val (.int (6 : Int32)), .val (.int (3 : Int32)), .val (.int (cc (3 : Int32)))] [(.int (3 : Int32))])) _
            exact retI X15 hx Bd.returns (hb hby d6_25) hr
          · show Q6 Z a1 a3 cs cc y1 h0 n0 _ T15.heap _
            rw [e15]
            subst hy5 hy10 hy15
            exact ⟨(3 : Int32), _, rfl, N15, K15, A_a3_15, (Or.inr ⟨⟨by decide, by decide⟩, hc19⟩)⟩
        · have hin20 := inb_of (j := (3 : Int32)) Sz17 ⟨by decide, by decide⟩
          obtain ⟨T20, h20, X20, e20, W20, st20⟩ := stB X15 hx hZ e15 Ar17 (j := (3 : Int32)) hin20 (g := (mkF m 31 #[.val (.ref a1), .val (.int (3 : Int32)), .val (.ref a3), .val (.int (3 : Int32)), .val (.int (6 : Int32)), .val (.int (3 : Int32)), .val (.int (cc (3 : Int32)))] [(.int ((cc (3 : Int32)).toInt8.toInt32)), (.int (3 : Int32)), (.ref a3)])) rfl rfl (hb hby d6_31)
          obtain ⟨y20, hy20⟩ : ∃ yy_ : Int32 → Int32, yy_ = fun i => if i = (3 : Int32) then (nar .byte ((cc (3 : Int32)).toInt8.toInt32)) else y15 i := ⟨_, rfl⟩
          have A_a1_20 : own_A Z h20 a1 .char (6 : Int32) (fun i => .int (cc i)) := own_A_other A_a1_15 W20 ne_a1_a3
          have K20 := K15.wr W20 (Or.inl (List.mem_of_getElem? (i := 0) rfl))
          have Zs20 := Nat.le_trans Zs15 (Keep.of_wr W20).1
          have N20 := Fr.snoc X20 N15 g_a3
          have O20 := O15.wr W20 g_a3
          have A_a3_20 : own_A Z h20 a3 .byte (6 : Int32) (fun i => .int (y20 i)) := by subst hy20; exact own_A_set Ar17 Sz17 Mz17 Hz17 hin20 W20 (own_setI (y := y15) (j := (3 : Int32)) (x := (nar .byte ((cc (3 : Int32)).toInt8.toInt32)))) (own_setI' (y := y15) (j := (3 : Int32)) (x := (nar .byte ((cc (3 : Int32)).toInt8.toInt32))))
          obtain ⟨cl21, Ar21, Sz21, Mz21, Hz21⟩ := id A_a1_20
          obtain ⟨cl22, Ar22, Sz22, Mz22, Hz22⟩ := id A_a3_20
          have pre23 : ∀ t, Steps p.tables e below (T20.setTop (mkF m 20 #[.val (.ref a1), .val (.int (4 : Int32)), .val (.ref a3), .val (.int (4 : Int32)), .val (.int (6 : Int32)), .val (.int (4 : Int32)), .val (.int (cc (4 : Int32)))] [(.int (255 : Int32)), (.int (cc (4 : Int32)))])) t → Steps p.tables e below (s₁.setTop (entryFrame m #[(.ref a1), (.int (0 : Int32)), (.ref a3), (.int (0 : Int32)), (.int (6 : Int32))] 7)) t := fun t k => pre18 t (by
            show Steps p.tables e below (T15.setTop (mkF m 20 #[.val (.ref a1), .val (.int (3 : Int32)), .val (.ref a3), .val (.int (3 : Int32)), .val (.int (6 : Int32)), .val (.int (3 : Int32)), .val (.int (cc (3 : Int32)))] [(.int (255 : Int32)), (.int (cc (3 : Int32)))])) _
            refine XS.icmpYes X15.here hx rfl (pc0 := 20) (pc' := 26) rfl (hb hby d6_20) rfl (flt hc19).2.2.2 (by decide) (by decide) ?_
            show Steps p.tables e below (T15.setTop (mkF m 26 #[.val (.ref a1), .val (.int (3 : Int32)), .val (.ref a3), .val (.int (3 : Int32)), .val (.int (6 : Int32)), .val (.int (3 : Int32)), .val (.int (cc (3 : Int32)))] [])) _
            refine XS.aloadN X15.here hx rfl (hb hby d6_26) rfl rfl ?_
            show Steps p.tables e below (T15.setTop (mkF m 27 #[.val (.ref a1), .val (.int (3 : Int32)), .val (.ref a3), .val (.int (3 : Int32)), .val (.int (6 : Int32)), .val (.int (3 : Int32)), .val (.int (cc (3 : Int32)))] [(.ref a3)])) _
            refine XS.iloadN X15.here hx rfl (hb hby d6_27) rfl ?_
            show Steps p.tables e below (T15.setTop (mkF m 28 #[.val (.ref a1), .val (.int (3 : Int32)), .val (.ref a3), .val (.int (3 : Int32)), .val (.int (6 : Int32)), .val (.int (3 : Int32)), .val (.int (cc (3 : Int32)))] [(.int (3 : Int32)), (.ref a3)])) _
            refine XS.iload X15.here hx rfl (hb hby d6_28) rfl ?_
            show Steps p.tables e below (T15.setTop (mkF m 30 #[.val (.ref a1), .val (.int (3 : Int32)), .val (.ref a3), .val (.int (3 : Int32)), .val (.int (6 : Int32)), .val (.int (3 : Int32)), .val (.int (cc (3 : Int32)))] [(.int (cc (3 : Int32))), (.int (3 : Int32)), (.ref a3)])) _
            refine XS.i2b X15.here hx rfl (hb hby d6_30) rfl ?_
            show Steps p.tables e below (T15.setTop (mkF m 31 #[.val (.ref a1), .val (.int (3 : Int32)), .val (.ref a3), .val (.int (3 : Int32)), .val (.int (6 : Int32)), .val (.int (3 : Int32)), .val (.int (cc (3 : Int32)))] [(.int ((cc (3 : Int32)).toInt8.toInt32)), (.int (3 : Int32)), (.ref a3)])) _
            refine st20 _ ?_
            show Steps p.tables e below (T20.setTop (mkF m 32 #[.val (.ref a1), .val (.int (3 : Int32)), .val (.ref a3), .val (.int (3 : Int32)), .val (.int (6 : Int32)), .val (.int (3 : Int32)), .val (.int (cc (3 : Int32)))] [])) _
            refine XS.iinc X20.here hx rfl (hb hby d6_32) rfl (l' := #[.val (.ref a1), .val (.int (4 : Int32)), .val (.ref a3), .val (.int (3 : Int32)), .val (.int (6 : Int32)), .val (.int (3 : Int32)), .val (.int (cc (3 : Int32)))]) rfl ?_
            show Steps p.tables e below (T20.setTop (mkF m 35 #[.val (.ref a1), .val (.int (4 : Int32)), .val (.ref a3), .val (.int (3 : Int32)), .val (.int (6 : Int32)), .val (.int (3 : Int32)), .val (.int (cc (3 : Int32)))] [])) _
            refine XS.iinc X20.here hx rfl (hb hby d6_35) rfl (l' := #[.val (.ref a1), .val (.int (4 : Int32)), .val (.ref a3), .val (.int (4 : Int32)), .val (.int (6 : Int32)), .val (.int (3 : Int32)), .val (.int (cc (3 : Int32)))]) rfl ?_
            show Steps p.tables e below (T20.setTop (mkF m 38 #[.val (.ref a1), .val (.int (4 : Int32)), .val (.ref a3), .val (.int (4 : Int32)), .val (.int (6 : Int32)), .val (.int (3 : Int32)), .val (.int (cc (3 : Int32)))] [])) _
            refine XS.iinc X20.here hx rfl (hb hby d6_38) rfl (l' := #[.val (.ref a1), .val (.int (4 : Int32)), .val (.ref a3), .val (.int (4 : Int32)), .val (.int (6 : Int32)), .val (.int (4 : Int32)), .val (.int (cc (3 : Int32)))]) rfl ?_
            show Steps p.tables e below (T20.setTop (mkF m 41 #[.val (.ref a1), .val (.int (4 : Int32)), .val (.ref a3), .val (.int (4 : Int32)), .val (.int (6 : Int32)), .val (.int (4 : Int32)), .val (.int (cc (3 : Int32)))] [])) _
            refine XS.goto X20.here hx rfl (pc0 := 41) (pc' := 3) rfl (hb hby d6_41) (by decide) (by decide) ?_
            show Steps p.tables e below (T20.setTop (mkF m 3 #[.val (.ref a1), .val (.int (4 : Int32)), .val (.ref a3), .val (.int (4 : Int32)), .val (.int (6 : Int32)), .val (.int (4 : Int32)), .val (.int (cc (3 : Int32)))] [])) _
            refine XS.iload X20.here hx rfl (hb hby d6_3) rfl ?_
            show Steps p.tables e below (T20.setTop (mkF m 5 #[.val (.ref a1), .val (.int (4 : Int32)), .val (.ref a3), .val (.int (4 : Int32)), .val (.int (6 : Int32)), .val (.int (4 : Int32)), .val (.int (cc (3 : Int32)))] [(.int (4 : Int32))])) _
            refine XS.iload X20.here hx rfl (hb hby d6_5) rfl ?_
            show Steps p.tables e below (T20.setTop (mkF m 7 #[.val (.ref a1), .val (.int (4 : Int32)), .val (.ref a3), .val (.int (4 : Int32)), .val (.int (6 : Int32)), .val (.int (4 : Int32)), .val (.int (cc (3 : Int32)))] [(.int (6 : Int32)), (.int (4 : Int32))])) _
            refine XS.icmpNo X20.here hx rfl (hb hby d6_7) rfl (tlt (show ((4 : Int32) < (6 : Int32)) by decide)).2.1 ?_
            show Steps p.tables e below (T20.setTop (mkF m 10 #[.val (.ref a1), .val (.int (4 : Int32)), .val (.ref a3), .val (.int (4 : Int32)), .val (.int (6 : Int32)), .val (.int (4 : Int32)), .val (.int (cc (3 : Int32)))] [])) _
            refine XS.aloadN X20.here hx rfl (hb hby d6_10) rfl rfl ?_
            show Steps p.tables e below (T20.setTop (mkF m 11 #[.val (.ref a1), .val (.int (4 : Int32)), .val (.ref a3), .val (.int (4 : Int32)), .val (.int (6 : Int32)), .val (.int (4 : Int32)), .val (.int (cc (3 : Int32)))] [(.ref a1)])) _
            refine XS.iloadN X20.here hx rfl (hb hby d6_11) rfl ?_
            show Steps p.tables e below (T20.setTop (mkF m 12 #[.val (.ref a1), .val (.int (4 : Int32)), .val (.ref a3), .val (.int (4 : Int32)), .val (.int (6 : Int32)), .val (.int (4 : Int32)), .val (.int (cc (3 : Int32)))] [(.int (4 : Int32)), (.ref a1)])) _
            refine X20.caload hx (j := (4 : Int32)) (v := (.int (cc (4 : Int32)))) (by rw [e20]; exact Ar21.1) (State.isArrayOf_alike hZ.alike Ar21.2.1) Ar21.2.2 (inb_of Sz21 ⟨by decide, by decide⟩) (Hz21 _ (inb_of Sz21 ⟨by decide, by decide⟩)) (g := (mkF m 12 #[.val (.ref a1), .val (.int (4 : Int32)), .val (.ref a3), .val (.int (4 : Int32)), .val (.int (6 : Int32)), .val (.int (4 : Int32)), .val (.int (cc (3 : Int32)))] [(.int (4 : Int32)), (.ref a1)])) rfl rfl (hb hby d6_12) _ ?_
            show Steps p.tables e below (T20.setTop (mkF m 13 #[.val (.ref a1), .val (.int (4 : Int32)), .val (.ref a3), .val (.int (4 : Int32)), .val (.int (6 : Int32)), .val (.int (4 : Int32)), .val (.int (cc (3 : Int32)))] [(.int (cc (4 : Int32)))])) _
            refine XS.istore X20.here hx rfl (hb hby d6_13) rfl (l' := #[.val (.ref a1), .val (.int (4 : Int32)), .val (.ref a3), .val (.int (4 : Int32)), .val (.int (6 : Int32)), .val (.int (4 : Int32)), .val (.int (cc (4 : Int32)))]) rfl ?_
            show Steps p.tables e below (T20.setTop (mkF m 15 #[.val (.ref a1), .val (.int (4 : Int32)), .val (.ref a3), .val (.int (4 : Int32)), .val (.int (6 : Int32)), .val (.int (4 : Int32)), .val (.int (cc (4 : Int32)))] [])) _
            refine XS.iload X20.here hx rfl (hb hby d6_15) rfl ?_
            show Steps p.tables e below (T20.setTop (mkF m 17 #[.val (.ref a1), .val (.int (4 : Int32)), .val (.ref a3), .val (.int (4 : Int32)), .val (.int (6 : Int32)), .val (.int (4 : Int32)), .val (.int (cc (4 : Int32)))] [(.int (cc (4 : Int32)))])) _
            refine XS.sipush X20.here hx rfl (hb hby d6_17) ?_
            exact k)
          by_cases hc24 : (255 : Int32) < (cc (4 : Int32))
          · obtain ⟨fs, hr, hrun, hended, hW, hsame⟩ := X20.leave (v := some (.int (4 : Int32))) (fun h => by rw [Bd.returns] at h; cases h)
            refine ⟨_, _, pre23 _ ?_, hrun, hended, _, _, rfl, ?_, ⟨_, rfl⟩, hW, hsame.mono (by decide) (by decide)⟩
            · show Steps p.tables e below (T20.setTop (mkF m 20 #[.val (.ref a1), .val (.int (4 : Int32)), .val (.ref a3), .val (.int (4 : Int32)), .val (.int (6 : Int32)), .val (.int (4 : Int32)), .val (.int (cc (4 : Int32)))] [(.int (255 : Int32)), (.int (cc (4 : Int32)))])) _
              refine XS.icmpNo X20.here hx rfl (hb hby d6_20) rfl (tlt hc24).2.2.2 ?_
              show Steps p.tables e below (T20.setTop (mkF m 23 #[.val (.ref a1), .val (.int (4 : Int32)), .val (.ref a3), .val (.int (4 : Int32)), .val (.int (6 : Int32)), .val (.int (4 : Int32)), .val (.int (cc (4 : Int32)))] [])) _
              refine XS.iload X20.here hx rfl (hb hby d6_23) rfl ?_
              show Steps p.tables e below (T20.setTop (mkF m 25 #[.val (.ref a1), .val (.int (4 : Int32)), .val (.ref a3), .val (.int (4 : Int32)), .val (.int (6 : Int32)), .val (.int (4 : Int32)), .val (.int (cc (4 : Int32)))] [(.int (4 : Int32))])) _
              exact retI X20 hx Bd.returns (hb hby d6_25) hr
            · show Q6 Z a1 a3 cs cc y1 h0 n0 _ T20.heap _
              rw [e20]
              subst hy5 hy10 hy15 hy20
              exact ⟨(4 : Int32), _, rfl, N20, K20, A_a3_20, (Or.inr ⟨⟨by decide, by decide⟩, hc24⟩)⟩
          · have hin25 := inb_of (j := (4 : Int32)) Sz22 ⟨by decide, by decide⟩
            obtain ⟨T25, h25, X25, e25, W25, st25⟩ := stB X20 hx hZ e20 Ar22 (j := (4 : Int32)) hin25 (g := (mkF m 31 #[.val (.ref a1), .val (.int (4 : Int32)), .val (.ref a3), .val (.int (4 : Int32)), .val (.int (6 : Int32)), .val (.int (4 : Int32)), .val (.int (cc (4 : Int32)))] [(.int ((cc (4 : Int32)).toInt8.toInt32)), (.int (4 : Int32)), (.ref a3)])) rfl rfl (hb hby d6_31)
            obtain ⟨y25, hy25⟩ : ∃ yy_ : Int32 → Int32, yy_ = fun i => if i = (4 : Int32) then (nar .byte ((cc (4 : Int32)).toInt8.toInt32)) else y20 i := ⟨_, rfl⟩
            have A_a1_25 : own_A Z h25 a1 .char (6 : Int32) (fun i => .int (cc i)) := own_A_other A_a1_20 W25 ne_a1_a3
            have K25 := K20.wr W25 (Or.inl (List.mem_of_getElem? (i := 0) rfl))
            have Zs25 := Nat.le_trans Zs20 (Keep.of_wr W25).1
            have N25 := Fr.snoc X25 N20 g_a3
            have O25 := O20.wr W25 g_a3
            have A_a3_25 : own_A Z h25 a3 .byte (6 : Int32) (fun i => .int (y25 i)) := by subst hy25; exact own_A_set Ar22 Sz22 Mz22 Hz22 hin25 W25 (own_setI (y := y20) (j := (4 : Int32)) (x := (nar .byte ((cc (4 : Int32)).toInt8.toInt32)))) (own_setI' (y := y20) (j := (4 : Int32)) (x := (nar .byte ((cc (4 : Int32)).toInt8.toInt32))))
            obtain ⟨cl26, Ar26, Sz26, Mz26, Hz26⟩ := id A_a1_25
            obtain ⟨cl27, Ar27, Sz27, Mz27, Hz27⟩ := id A_a3_25
            have pre28 : ∀ t, Steps p.tables e below (T25.setTop (mkF m 20 #[.val (.ref a1), .val (.int (5 : Int32)), .val (.ref a3), .val (.int (5 : Int32)), .val (.int (6 : Int32)), .val (.int (5 : Int32)), .val (.int (cc (5 : Int32)))] [(.int (255 : Int32)), (.int (cc (5 : Int32)))])) t → Steps p.tables e below (s₁.setTop (entryFrame m #[(.ref a1), (.int (0 : Int32)), (.ref a3), (.int (0 : Int32)), (.int (6 : Int32))] 7)) t := fun t k => pre23 t (by
              show Steps p.tables e below (T20.setTop (mkF m 20 #[.val (.ref a1), .val (.int (4 : Int32)), .val (.ref a3), .val (.int (4 : Int32)), .val (.int (6 : Int32)), .val (.int (4 : Int32)), .val (.int (cc (4 : Int32)))] [(.int (255 : Int32)), (.int (cc (4 : Int32)))])) _
              refine XS.icmpYes X20.here hx rfl (pc0 := 20) (pc' := 26) rfl (hb hby d6_20) rfl (flt hc24).2.2.2 (by decide) (by decide) ?_
              show Steps p.tables e below (T20.setTop (mkF m 26 #[.val (.ref a1), .val (.int (4 : Int32)), .val (.ref a3), .val (.int (4 : Int32)), .val (.int (6 : Int32)), .val (.int (4 : Int32)), .val (.int (cc (4 : Int32)))] [])) _
              refine XS.aloadN X20.here hx rfl (hb hby d6_26) rfl rfl ?_
              show Steps p.tables e below (T20.setTop (mkF m 27 #[.val (.ref a1), .val (.int (4 : Int32)), .val (.ref a3), .val (.int (4 : Int32)), .val (.int (6 : Int32)), .val (.int (4 : Int32)), .val (.int (cc (4 : Int32)))] [(.ref a3)])) _
              refine XS.iloadN X20.here hx rfl (hb hby d6_27) rfl ?_
              show Steps p.tables e below (T20.setTop (mkF m 28 #[.val (.ref a1), .val (.int (4 : Int32)), .val (.ref a3), .val (.int (4 : Int32)), .val (.int (6 : Int32)), .val (.int (4 : Int32)), .val (.int (cc (4 : Int32)))] [(.int (4 : Int32)), (.ref a3)])) _
              refine XS.iload X20.here hx rfl (hb hby d6_28) rfl ?_
              show Steps p.tables e below (T20.setTop (mkF m 30 #[.val (.ref a1), .val (.int (4 : Int32)), .val (.ref a3), .val (.int (4 : Int32)), .val (.int (6 : Int32)), .val (.int (4 : Int32)), .val (.int (cc (4 : Int32)))] [(.int (cc (4 : Int32))), (.int (4 : Int32)), (.ref a3)])) _
              refine XS.i2b X20.here hx rfl (hb hby d6_30) rfl ?_
              show Steps p.tables e below (T20.setTop (mkF m 31 #[.val (.ref a1), .val (.int (4 : Int32)), .val (.ref a3), .val (.int (4 : Int32)), .val (.int (6 : Int32)), .val (.int (4 : Int32)), .val (.int (cc (4 : Int32)))] [(.int ((cc (4 : Int32)).toInt8.toInt32)), (.int (4 : Int32)), (.ref a3)])) _
              refine st25 _ ?_
              show Steps p.tables e below (T25.setTop (mkF m 32 #[.val (.ref a1), .val (.int (4 : Int32)), .val (.ref a3), .val (.int (4 : Int32)), .val (.int (6 : Int32)), .val (.int (4 : Int32)), .val (.int (cc (4 : Int32)))] [])) _
              refine XS.iinc X25.here hx rfl (hb hby d6_32) rfl (l' := #[.val (.ref a1), .val (.int (5 : Int32)), .val (.ref a3), .val (.int (4 : Int32)), .val (.int (6 : Int32)), .val (.int (4 : Int32)), .val (.int (cc (4 : Int32)))]) rfl ?_
              show Steps p.tables e below (T25.setTop (mkF m 35 #[.val (.ref a1), .val (.int (5 : Int32)), .val (.ref a3), .val (.int (4 : Int32)), .val (.int (6 : Int32)), .val (.int (4 : Int32)), .val (.int (cc (4 : Int32)))] [])) _
              refine XS.iinc X25.here hx rfl (hb hby d6_35) rfl (l' := #[.val (.ref a1), .val (.int (5 : Int32)), .val (.ref a3), .val (.int (5 : Int32)), .val (.int (6 : Int32)), .val (.int (4 : Int32)), .val (.int (cc (4 : Int32)))]) rfl ?_
              show Steps p.tables e below (T25.setTop (mkF m 38 #[.val (.ref a1), .val (.int (5 : Int32)), .val (.ref a3), .val (.int (5 : Int32)), .val (.int (6 : Int32)), .val (.int (4 : Int32)), .val (.int (cc (4 : Int32)))] [])) _
              refine XS.iinc X25.here hx rfl (hb hby d6_38) rfl (l' := #[.val (.ref a1), .val (.int (5 : Int32)), .val (.ref a3), .val (.int (5 : Int32)), .val (.int (6 : Int32)), .val (.int (5 : Int32)), .val (.int (cc (4 : Int32)))]) rfl ?_
              show Steps p.tables e below (T25.setTop (mkF m 41 #[.val (.ref a1), .val (.int (5 : Int32)), .val (.ref a3), .val (.int (5 : Int32)), .val (.int (6 : Int32)), .val (.int (5 : Int32)), .val (.int (cc (4 : Int32)))] [])) _
              refine XS.goto X25.here hx rfl (pc0 := 41) (pc' := 3) rfl (hb hby d6_41) (by decide) (by decide) ?_
              show Steps p.tables e below (T25.setTop (mkF m 3 #[.val (.ref a1), .val (.int (5 : Int32)), .val (.ref a3), .val (.int (5 : Int32)), .val (.int (6 : Int32)), .val (.int (5 : Int32)), .val (.int (cc (4 : Int32)))] [])) _
              refine XS.iload X25.here hx rfl (hb hby d6_3) rfl ?_
              show Steps p.tables e below (T25.setTop (mkF m 5 #[.val (.ref a1), .val (.int (5 : Int32)), .val (.ref a3), .val (.int (5 : Int32)), .val (.int (6 : Int32)), .val (.int (5 : Int32)), .val (.int (cc (4 : Int32)))] [(.int (5 : Int32))])) _
              refine XS.iload X25.here hx rfl (hb hby d6_5) rfl ?_
              show Steps p.tables e below (T25.setTop (mkF m 7 #[.val (.ref a1), .val (.int (5 : Int32)), .val (.ref a3), .val (.int (5 : Int32)), .val (.int (6 : Int32)), .val (.int (5 : Int32)), .val (.int (cc (4 : Int32)))] [(.int (6 : Int32)), (.int (5 : Int32))])) _
              refine XS.icmpNo X25.here hx rfl (hb hby d6_7) rfl (tlt (show ((5 : Int32) < (6 : Int32)) by decide)).2.1 ?_
              show Steps p.tables e below (T25.setTop (mkF m 10 #[.val (.ref a1), .val (.int (5 : Int32)), .val (.ref a3), .val (.int (5 : Int32)), .val (.int (6 : Int32)), .val (.int (5 : Int32)), .val (.int (cc (4 : Int32)))] [])) _
              refine XS.aloadN X25.here hx rfl (hb hby d6_10) rfl rfl ?_
              show Steps p.tables e below (T25.setTop (mkF m 11 #[.val (.ref a1), .val (.int (5 : Int32)), .val (.ref a3), .val (.int (5 : Int32)), .val (.int (6 : Int32)), .val (.int (5 : Int32)), .val (.int (cc (4 : Int32)))] [(.ref a1)])) _
              refine XS.iloadN X25.here hx rfl (hb hby d6_11) rfl ?_
              show Steps p.tables e below (T25.setTop (mkF m 12 #[.val (.ref a1), .val (.int (5 : Int32)), .val (.ref a3), .val (.int (5 : Int32)), .val (.int (6 : Int32)), .val (.int (5 : Int32)), .val (.int (cc (4 : Int32)))] [(.int (5 : Int32)), (.ref a1)])) _
              refine X25.caload hx (j := (5 : Int32)) (v := (.int (cc (5 : Int32)))) (by rw [e25]; exact Ar26.1) (State.isArrayOf_alike hZ.alike Ar26.2.1) Ar26.2.2 (inb_of Sz26 ⟨by decide, by decide⟩) (Hz26 _ (inb_of Sz26 ⟨by decide, by decide⟩)) (g := (mkF m 12 #[.val (.ref a1), .val (.int (5 : Int32)), .val (.ref a3), .val (.int (5 : Int32)), .val (.int (6 : Int32)), .val (.int (5 : Int32)), .val (.int (cc (4 : Int32)))] [(.int (5 : Int32)), (.ref a1)])) rfl rfl (hb hby d6_12) _ ?_
              show Steps p.tables e below (T25.setTop (mkF m 13 #[.val (.ref a1), .val (.int (5 : Int32)), .val (.ref a3), .val (.int (5 : Int32)), .val (.int (6 : Int32)), .val (.int (5 : Int32)), .val (.int (cc (4 : Int32)))] [(.int (cc (5 : Int32)))])) _
              refine XS.istore X25.here hx rfl (hb hby d6_13) rfl (l' := #[.val (.ref a1), .val (.int (5 : Int32)), .val (.ref a3), .val (.int (5 : Int32)), .val (.int (6 : Int32)), .val (.int (5 : Int32)), .val (.int (cc (5 : Int32)))]) rfl ?_
              show Steps p.tables e below (T25.setTop (mkF m 15 #[.val (.ref a1), .val (.int (5 : Int32)), .val (.ref a3), .val (.int (5 : Int32)), .val (.int (6 : Int32)), .val (.int (5 : Int32)), .val (.int (cc (5 : Int32)))] [])) _
              refine XS.iload X25.here hx rfl (hb hby d6_15) rfl ?_
              show Steps p.tables e below (T25.setTop (mkF m 17 #[.val (.ref a1), .val (.int (5 : Int32)), .val (.ref a3), .val (.int (5 : Int32)), .val (.int (6 : Int32)), .val (.int (5 : Int32)), .val (.int (cc (5 : Int32)))] [(.int (cc (5 : Int32)))])) _
              refine XS.sipush X25.here hx rfl (hb hby d6_17) ?_
              exact k)
            by_cases hc29 : (255 : Int32) < (cc (5 : Int32))
            · obtain ⟨fs, hr, hrun, hended, hW, hsame⟩ := X25.leave (v := some (.int (5 : Int32))) (fun h => by rw [Bd.returns] at h; cases h)
              refine ⟨_, _, pre28 _ ?_, hrun, hended, _, _, rfl, ?_, ⟨_, rfl⟩, hW, hsame.mono (by decide) (by decide)⟩
              · show Steps p.tables e below (T25.setTop (mkF m 20 #[.val (.ref a1), .val (.int (5 : Int32)), .val (.ref a3), .val (.int (5 : Int32)), .val (.int (6 : Int32)), .val (.int (5 : Int32)), .val (.int (cc (5 : Int32)))] [(.int (255 : Int32)), (.int (cc (5 : Int32)))])) _
                refine XS.icmpNo X25.here hx rfl (hb hby d6_20) rfl (tlt hc29).2.2.2 ?_
                show Steps p.tables e below (T25.setTop (mkF m 23 #[.val (.ref a1), .val (.int (5 : Int32)), .val (.ref a3), .val (.int (5 : Int32)), .val (.int (6 : Int32)), .val (.int (5 : Int32)), .val (.int (cc (5 : Int32)))] [])) _
                refine XS.iload X25.here hx rfl (hb hby d6_23) rfl ?_
                show Steps p.tables e below (T25.setTop (mkF m 25 #[.val (.ref a1), .val (.int (5 : Int32)), .val (.ref a3), .val (.int (5 : Int32)), .val (.int (6 : Int32)), .val (.int (5 : Int32)), .val (.int (cc (5 : Int32)))] [(.int (5 : Int32))])) _
                exact retI X25 hx Bd.returns (hb hby d6_25) hr
              · show Q6 Z a1 a3 cs cc y1 h0 n0 _ T25.heap _
                rw [e25]
                subst hy5 hy10 hy15 hy20 hy25
                exact ⟨(5 : Int32), _, rfl, N25, K25, A_a3_25, (Or.inr ⟨⟨by decide, by decide⟩, hc29⟩)⟩
            · have hin30 := inb_of (j := (5 : Int32)) Sz27 ⟨by decide, by decide⟩
              obtain ⟨T30, h30, X30, e30, W30, st30⟩ := stB X25 hx hZ e25 Ar27 (j := (5 : Int32)) hin30 (g := (mkF m 31 #[.val (.ref a1), .val (.int (5 : Int32)), .val (.ref a3), .val (.int (5 : Int32)), .val (.int (6 : Int32)), .val (.int (5 : Int32)), .val (.int (cc (5 : Int32)))] [(.int ((cc (5 : Int32)).toInt8.toInt32)), (.int (5 : Int32)), (.ref a3)])) rfl rfl (hb hby d6_31)
              obtain ⟨y30, hy30⟩ : ∃ yy_ : Int32 → Int32, yy_ = fun i => if i = (5 : Int32) then (nar .byte ((cc (5 : Int32)).toInt8.toInt32)) else y25 i := ⟨_, rfl⟩
              have A_a1_30 : own_A Z h30 a1 .char (6 : Int32) (fun i => .int (cc i)) := own_A_other A_a1_25 W30 ne_a1_a3
              have K30 := K25.wr W30 (Or.inl (List.mem_of_getElem? (i := 0) rfl))
              have Zs30 := Nat.le_trans Zs25 (Keep.of_wr W30).1
              have N30 := Fr.snoc X30 N25 g_a3
              have O30 := O25.wr W30 g_a3
              have A_a3_30 : own_A Z h30 a3 .byte (6 : Int32) (fun i => .int (y30 i)) := by subst hy30; exact own_A_set Ar27 Sz27 Mz27 Hz27 hin30 W30 (own_setI (y := y25) (j := (5 : Int32)) (x := (nar .byte ((cc (5 : Int32)).toInt8.toInt32)))) (own_setI' (y := y25) (j := (5 : Int32)) (x := (nar .byte ((cc (5 : Int32)).toInt8.toInt32))))
              obtain ⟨cl31, Ar31, Sz31, Mz31, Hz31⟩ := id A_a1_30
              obtain ⟨cl32, Ar32, Sz32, Mz32, Hz32⟩ := id A_a3_30
              obtain ⟨fs, hr, hrun, hended, hW, hsame⟩ := X30.leave (v := some (.int (6 : Int32))) (fun h => by rw [Bd.returns] at h; cases h)
              refine ⟨_, _, pre28 _ ?_, hrun, hended, _, _, rfl, ?_, ⟨_, rfl⟩, hW, hsame.mono (by decide) (by decide)⟩
              · show Steps p.tables e below (T25.setTop (mkF m 20 #[.val (.ref a1), .val (.int (5 : Int32)), .val (.ref a3), .val (.int (5 : Int32)), .val (.int (6 : Int32)), .val (.int (5 : Int32)), .val (.int (cc (5 : Int32)))] [(.int (255 : Int32)), (.int (cc (5 : Int32)))])) _
                refine XS.icmpYes X25.here hx rfl (pc0 := 20) (pc' := 26) rfl (hb hby d6_20) rfl (flt hc29).2.2.2 (by decide) (by decide) ?_
                show Steps p.tables e below (T25.setTop (mkF m 26 #[.val (.ref a1), .val (.int (5 : Int32)), .val (.ref a3), .val (.int (5 : Int32)), .val (.int (6 : Int32)), .val (.int (5 : Int32)), .val (.int (cc (5 : Int32)))] [])) _
                refine XS.aloadN X25.here hx rfl (hb hby d6_26) rfl rfl ?_
                show Steps p.tables e below (T25.setTop (mkF m 27 #[.val (.ref a1), .val (.int (5 : Int32)), .val (.ref a3), .val (.int (5 : Int32)), .val (.int (6 : Int32)), .val (.int (5 : Int32)), .val (.int (cc (5 : Int32)))] [(.ref a3)])) _
                refine XS.iloadN X25.here hx rfl (hb hby d6_27) rfl ?_
                show Steps p.tables e below (T25.setTop (mkF m 28 #[.val (.ref a1), .val (.int (5 : Int32)), .val (.ref a3), .val (.int (5 : Int32)), .val (.int (6 : Int32)), .val (.int (5 : Int32)), .val (.int (cc (5 : Int32)))] [(.int (5 : Int32)), (.ref a3)])) _
                refine XS.iload X25.here hx rfl (hb hby d6_28) rfl ?_
                show Steps p.tables e below (T25.setTop (mkF m 30 #[.val (.ref a1), .val (.int (5 : Int32)), .val (.ref a3), .val (.int (5 : Int32)), .val (.int (6 : Int32)), .val (.int (5 : Int32)), .val (.int (cc (5 : Int32)))] [(.int (cc (5 : Int32))), (.int (5 : Int32)), (.ref a3)])) _
                refine XS.i2b X25.here hx rfl (hb hby d6_30) rfl ?_
                show Steps p.tables e below (T25.setTop (mkF m 31 #[.val (.ref a1), .val (.int (5 : Int32)), .val (.ref a3), .val (.int (5 : Int32)), .val (.int (6 : Int32)), .val (.int (5 : Int32)), .val (.int (cc (5 : Int32)))] [(.int ((cc (5 : Int32)).toInt8.toInt32)), (.int (5 : Int32)), (.ref a3)])) _
                refine st30 _ ?_
                show Steps p.tables e below (T30.setTop (mkF m 32 #[.val (.ref a1), .val (.int (5 : Int32)), .val (.ref a3), .val (.int (5 : Int32)), .val (.int (6 : Int32)), .val (.int (5 : Int32)), .val (.int (cc (5 : Int32)))] [])) _
                refine XS.iinc X30.here hx rfl (hb hby d6_32) rfl (l' := #[.val (.ref a1), .val (.int (6 : Int32)), .val (.ref a3), .val (.int (5 : Int32)), .val (.int (6 : Int32)), .val (.int (5 : Int32)), .val (.int (cc (5 : Int32)))]) rfl ?_
                show Steps p.tables e below (T30.setTop (mkF m 35 #[.val (.ref a1), .val (.int (6 : Int32)), .val (.ref a3), .val (.int (5 : Int32)), .val (.int (6 : Int32)), .val (.int (5 : Int32)), .val (.int (cc (5 : Int32)))] [])) _
                refine XS.iinc X30.here hx rfl (hb hby d6_35) rfl (l' := #[.val (.ref a1), .val (.int (6 : Int32)), .val (.ref a3), .val (.int (6 : Int32)), .val (.int (6 : Int32)), .val (.int (5 : Int32)), .val (.int (cc (5 : Int32)))]) rfl ?_
                show Steps p.tables e below (T30.setTop (mkF m 38 #[.val (.ref a1), .val (.int (6 : Int32)), .val (.ref a3), .val (.int (6 : Int32)), .val (.int (6 : Int32)), .val (.int (5 : Int32)), .val (.int (cc (5 : Int32)))] [])) _
                refine XS.iinc X30.here hx rfl (hb hby d6_38) rfl (l' := #[.val (.ref a1), .val (.int (6 : Int32)), .val (.ref a3), .val (.int (6 : Int32)), .val (.int (6 : Int32)), .val (.int (6 : Int32)), .val (.int (cc (5 : Int32)))]) rfl ?_
                show Steps p.tables e below (T30.setTop (mkF m 41 #[.val (.ref a1), .val (.int (6 : Int32)), .val (.ref a3), .val (.int (6 : Int32)), .val (.int (6 : Int32)), .val (.int (6 : Int32)), .val (.int (cc (5 : Int32)))] [])) _
                refine XS.goto X30.here hx rfl (pc0 := 41) (pc' := 3) rfl (hb hby d6_41) (by decide) (by decide) ?_
                show Steps p.tables e below (T30.setTop (mkF m 3 #[.val (.ref a1), .val (.int (6 : Int32)), .val (.ref a3), .val (.int (6 : Int32)), .val (.int (6 : Int32)), .val (.int (6 : Int32)), .val (.int (cc (5 : Int32)))] [])) _
                refine XS.iload X30.here hx rfl (hb hby d6_3) rfl ?_
                show Steps p.tables e below (T30.setTop (mkF m 5 #[.val (.ref a1), .val (.int (6 : Int32)), .val (.ref a3), .val (.int (6 : Int32)), .val (.int (6 : Int32)), .val (.int (6 : Int32)), .val (.int (cc (5 : Int32)))] [(.int (6 : Int32))])) _
                refine XS.iload X30.here hx rfl (hb hby d6_5) rfl ?_
                show Steps p.tables e below (T30.setTop (mkF m 7 #[.val (.ref a1), .val (.int (6 : Int32)), .val (.ref a3), .val (.int (6 : Int32)), .val (.int (6 : Int32)), .val (.int (6 : Int32)), .val (.int (cc (5 : Int32)))] [(.int (6 : Int32)), (.int (6 : Int32))])) _
                refine XS.icmpYes X30.here hx rfl (pc0 := 7) (pc' := 44) rfl (hb hby d6_7) rfl (flt (show ¬ ((6 : Int32) < (6 : Int32)) from Int32.lt_irrefl)).2.1 (by decide) (by decide) ?_
                show Steps p.tables e below (T30.setTop (mkF m 44 #[.val (.ref a1), .val (.int (6 : Int32)), .val (.ref a3), .val (.int (6 : Int32)), .val (.int (6 : Int32)), .val (.int (6 : Int32)), .val (.int (cc (5 : Int32)))] [])) _
                refine XS.iload X30.here hx rfl (hb hby d6_44) rfl ?_
                show Steps p.tables e below (T30.setTop (mkF m 46 #[.val (.ref a1), .val (.int (6 : Int32)), .val (.ref a3), .val (.int (6 : Int32)), .val (.int (6 : Int32)), .val (.int (6 : Int32)), .val (.int (cc (5 : Int32)))] [(.int (6 : Int32))])) _
                exact retI X30 hx Bd.returns (hb hby d6_46) hr
              · show Q6 Z a1 a3 cs cc y1 h0 n0 _ T30.heap _
                rw [e30]
                subst hy5 hy10 hy15 hy20 hy25 hy30
                exact ⟨(6 : Int32), _, rfl, N30, K30, A_a3_30, (Or.inl ⟨rfl, own_six ⟨hc4, rfl⟩ ⟨hc9, rfl⟩ ⟨hc14, rfl⟩ ⟨hc19, rfl⟩ ⟨hc24, rfl⟩ ⟨hc29, rfl⟩⟩)⟩
theorem d7_0 : decode jdk_52_method_15_code 0 = .ok (.iload_n 1, 1) := by decide +kernel
theorem d7_1 : decode jdk_52_method_15_code 1 = .ok (.aload_n 0, 1) := by decide +kernel
theorem d7_2 : decode jdk_52_method_15_code 2 = .ok (.arraylength, 1) := by decide +kernel
theorem d7_3 : decode jdk_52_method_15_code 3 = .ok (.isub, 1) := by decide +kernel
theorem d7_4 : decode jdk_52_method_15_code 4 = .ok (.bipush 31, 2) := by decide +kernel
theorem d7_6 : decode jdk_52_method_15_code 6 = .ok (.iushr, 1) := by decide +kernel
theorem d7_7 : decode jdk_52_method_15_code 7 = .ok (.i2b, 1) := by decide +kernel
theorem d7_8 : decode jdk_52_method_15_code 8 = .ok (.ireturn, 1) := by decide +kernel
theorem pn_7 : plainName "java/lang/StringUTF16" = true := by first | (simp [plainName, overriddenIn]; done) | decide +kernel
theorem ef_7 (m : MethodId) (a1 : Addr) (p2 : Int32) : entryFrame m #[(.ref a1), (.int p2)] 2 = mkF m 0 #[.val (.ref a1), .val (.int p2)] [] := by first | (simp [entryFrame, mkF, argsToLocals, Value.category]; done) | rfl
def f7 (p2 : Int32) (n_a1 : Int32) : Int32 :=
  (nar .byte ((((p2 - n_a1).toUInt32 >>> ((31 : Int32) &&& 31).toUInt32).toInt32).toInt8.toInt32))
def Q7 (Z : State) (a1 : Addr) (p2 : Int32) (n_a1 : Int32) (y_a1 : Int32 → Int32) (h0 : Heap) (n0 : Nat) (v : Option Value) (h : Heap) (L : List Loc) : Prop := v = some (.int (f7 p2 n_a1)) ∧ Fr n0 L ∧ h = h0
set_option maxRecDepth 65536 in
set_option maxHeartbeats 40000000 in
theorem rm7 (l : Launch) (Z : State) (a0 : Array Value) (hw : ∀ d ∈ tables_1, d.before a0 Z = true) (ws : List Jvm.Cond) (a1 : Addr) (p2 : Int32) (n_a1 : Int32) (y_a1 : Int32 → Int32) (h0 : Heap) (n0 : Nat) (Z0 : n0 ≤ h0.size) (A_a1 : own_A Z h0 a1 .byte n_a1 (fun i => .int (y_a1 i))) :
    MetFree l (⟨"java/lang/StringUTF16", "coderFromArrayLen", "([BI)B"⟩ : MethodName) (head1 (Jvm.Cond.code (⟨"java/lang/StringUTF16", "coderFromArrayLen", "([BI)B"⟩ : MethodName) jdk_52_method_15_code 2 (some .byte) :: ws) ({ frames := 0, cells := 0, slots := 0, locals := 0 } : Room)) (fun a U => a = #[(.ref a1), (.int p2)] ∧ Z.Warmed39 U.vm ∧ U.heap = h0) (fun _ _ _ _ _ => True) (fun _ U o U' => ∃ v L, o = .returned v ∧ Q7 Z a1 p2 n_a1 y_a1 h0 n0 v U'.heap L ∧ FrameEnd U o U' L ({ frames := 0, cells := 0, slots := 0, locals := 0 } : Room).cells ({ frames := 0, cells := 0, slots := 0, locals := 0 } : Room).slots) := by
  refine MetFree.of_bodySF (plainFor_of_name pn_7) hisR ?_
  intro p e s m args below meth c s₁ Bd hml0 hP hK
  obtain ⟨rfl, hZ, hh⟩ := hP
  have hx := Bd.exec
  have hby := Bd.bytes
  have hml : c.maxLocals = 2 := hml0
  have hown : s.vm.findClass "java/lang/StringUTF16" = some m.cls := findClass_of_methodNamed Bd.named
  have hnm := (name_of_methodNamed Bd.named Bd.method).1
  have X0 : Stand p l e ({ frames := 0, cells := 0, slots := 0, locals := 0 } : Room) s m #[(.ref a1), (.int p2)] below meth c s₁ [] 0 0 := Stand.of_body Bd
  have e0 : s₁.heap = h0 := by rw [← hh, Bd.state]; rfl
  have N0 := Fr.nil n0
  have pre0 : ∀ t, Steps p.tables e below (s₁.setTop (mkF m 0 #[.val (.ref a1), .val (.int p2)] [])) t → Steps p.tables e below (s₁.setTop (entryFrame m #[(.ref a1), (.int p2)] 2)) t := fun t k => castTop (ef_7 m a1 p2) k
  obtain ⟨cl1, Ar1, Sz1, Mz1, Hz1⟩ := id A_a1
  have er : (f7 p2 n_a1) = (nar .byte ((((p2 - n_a1).toUInt32 >>> ((31 : Int32) &&& 31).toUInt32).toInt32).toInt8.toInt32)) := by exact rfl
  obtain ⟨fs, hr, hrun, hended, hW, hsame⟩ := X0.leave (v := some (.int (nar .byte ((((p2 - n_a1).toUInt32 >>> ((31 : Int32) &&& 31).toUInt32).toInt32).toInt8.toInt32)))) (fun h => by rw [Bd.returns] at h; cases h)
  refine ⟨_, _, pre0 _ ?_, hrun, hended, _, _, rfl, ?_, ⟨_, rfl⟩, hW, hsame.mono (by decide) (by decide)⟩
  · show Steps p.tables e below (s₁.setTop (mkF m 0 #[.val (.ref a1), .val (.int p2)] [])) _
    refine XS.iloadN X0.here hx rfl (hb hby d7_0) rfl ?_
    show Steps p.tables e below (s₁.setTop (mkF m 1 #[.val (.ref a1), .val (.int p2)] [(.int p2)])) _
    refine XS.aloadN X0.here hx rfl (hb hby d7_1) rfl rfl ?_
    show Steps p.tables e below (s₁.setTop (mkF m 2 #[.val (.ref a1), .val (.int p2)] [(.ref a1), (.int p2)])) _
    refine X0.arraylength hx (by rw [e0]; exact Ar1.1) (State.isArrayOf_alike hZ.alike Ar1.2.1) (g := (mkF m 2 #[.val (.ref a1), .val (.int p2)] [(.ref a1), (.int p2)])) rfl rfl (hb hby d7_2) _ ?_
    rw [len_of Sz1 Mz1]
    show Steps p.tables e below (s₁.setTop (mkF m 3 #[.val (.ref a1), .val (.int p2)] [(.int n_a1), (.int p2)])) _
    refine XS.isub X0.here hx rfl (hb hby d7_3) rfl ?_
    show Steps p.tables e below (s₁.setTop (mkF m 4 #[.val (.ref a1), .val (.int p2)] [(.int (p2 - n_a1))])) _
    refine XS.bipush X0.here hx rfl (hb hby d7_4) ?_
    show Steps p.tables e below (s₁.setTop (mkF m 6 #[.val (.ref a1), .val (.int p2)] [(.int (31 : Int32)), (.int (p2 - n_a1))])) _
    refine XS.iushr X0.here hx rfl (hb hby d7_6) rfl ?_
    show Steps p.tables e below (s₁.setTop (mkF m 7 #[.val (.ref a1), .val (.int p2)] [(.int (((p2 - n_a1).toUInt32 >>> ((31 : Int32) &&& 31).toUInt32).toInt32))])) _
    refine XS.i2b X0.here hx rfl (hb hby d7_7) rfl ?_
    show Steps p.tables e below (s₁.setTop (mkF m 8 #[.val (.ref a1), .val (.int p2)] [(.int ((((p2 - n_a1).toUInt32 >>> ((31 : Int32) &&& 31).toUInt32).toInt32).toInt8.toInt32))])) _
    exact retN X0 hx (t := .byte) Bd.returns (by simp) (hb hby d7_8) hr
  · show Q7 Z a1 p2 n_a1 y_a1 h0 n0 _ s₁.heap _
    rw [e0]
    exact ⟨congrArg (fun z => some (Value.int z)) er.symm, N0, rfl⟩
theorem pd_14 : parseMethodDescriptor "([CI[BII)I" = some ⟨[(.array .char), .int, (.array .byte), .int, .int], some .int⟩ := by decide +kernel
theorem pd_15 : parseMethodDescriptor "([CII)[B" = some ⟨[(.array .char), .int, .int], some (.array .byte)⟩ := by decide +kernel
theorem d5_0 : decode jdk_52_method_16_code 0 = .ok (.iload_n 2, 1) := by decide +kernel
theorem d5_1 : decode jdk_52_method_16_code 1 = .ok (.newarray .byte, 2) := by decide +kernel
theorem d5_3 : decode jdk_52_method_16_code 3 = .ok (.astore_n 3, 1) := by decide +kernel
theorem d5_4 : decode jdk_52_method_16_code 4 = .ok (.aload_n 0, 1) := by decide +kernel
theorem d5_5 : decode jdk_52_method_16_code 5 = .ok (.iload_n 1, 1) := by decide +kernel
theorem d5_6 : decode jdk_52_method_16_code 6 = .ok (.aload_n 3, 1) := by decide +kernel
theorem d5_7 : decode jdk_52_method_16_code 7 = .ok (.iconst 0, 1) := by decide +kernel
theorem d5_8 : decode jdk_52_method_16_code 8 = .ok (.iload_n 2, 1) := by decide +kernel
theorem d5_9 : decode jdk_52_method_16_code 9 = .ok (.invokestatic 115, 3) := by decide +kernel
theorem d5_12 : decode jdk_52_method_16_code 12 = .ok (.istore 4, 2) := by decide +kernel
theorem d5_14 : decode jdk_52_method_16_code 14 = .ok (.iload 4, 2) := by decide +kernel
theorem d5_16 : decode jdk_52_method_16_code 16 = .ok (.iload_n 2, 1) := by decide +kernel
theorem d5_17 : decode jdk_52_method_16_code 17 = .ok (.if_icmp .eq 40, 3) := by decide +kernel
theorem d5_20 : decode jdk_52_method_16_code 20 = .ok (.aload_n 0, 1) := by decide +kernel
theorem d5_21 : decode jdk_52_method_16_code 21 = .ok (.iload_n 1, 1) := by decide +kernel
theorem d5_22 : decode jdk_52_method_16_code 22 = .ok (.iload_n 2, 1) := by decide +kernel
theorem d5_23 : decode jdk_52_method_16_code 23 = .ok (.invokestatic 119, 3) := by decide +kernel
theorem d5_26 : decode jdk_52_method_16_code 26 = .ok (.astore 5, 2) := by decide +kernel
theorem d5_28 : decode jdk_52_method_16_code 28 = .ok (.aload 5, 2) := by decide +kernel
theorem d5_30 : decode jdk_52_method_16_code 30 = .ok (.iload 4, 2) := by decide +kernel
theorem d5_32 : decode jdk_52_method_16_code 32 = .ok (.invokestatic 71, 3) := by decide +kernel
theorem d5_35 : decode jdk_52_method_16_code 35 = .ok (.sipush 255, 3) := by decide +kernel
theorem d5_38 : decode jdk_52_method_16_code 38 = .ok (.if_icmp .gt 16, 3) := by decide +kernel
theorem d5_54 : decode jdk_52_method_16_code 54 = .ok (.aload 5, 2) := by decide +kernel
theorem d5_56 : decode jdk_52_method_16_code 56 = .ok (.areturn, 1) := by decide +kernel
theorem d5_57 : decode jdk_52_method_16_code 57 = .ok (.aload_n 3, 1) := by decide +kernel
theorem d5_58 : decode jdk_52_method_16_code 58 = .ok (.areturn, 1) := by decide +kernel
theorem pn_5 : plainName "java/lang/StringUTF16" = true := by first | (simp [plainName, overriddenIn]; done) | decide +kernel
theorem ef_5 (m : MethodId) (a1 : Addr) : entryFrame m #[(.ref a1), (.int (0 : Int32)), (.int (6 : Int32))] 6 = mkF m 0 #[.val (.ref a1), .val (.int (0 : Int32)), .val (.int (6 : Int32)), .unset, .unset, .unset] [] := by first | (simp [entryFrame, mkF, argsToLocals, Value.category]; done) | rfl
def Q5 (Z : State) (a1 : Addr) (cs : Int32) (cc : Int32 → Int32) (h0 : Heap) (n0 : Nat) (v : Option Value) (h : Heap) (L : List Loc) : Prop := ∃ (b : Addr) (nb : Int32) (yb : Int32 → Int32), v = some (.ref b) ∧ Fr n0 L ∧ Keep h0 h ([] : List Addr) ∧ h0.size ≤ b ∧ own_A Z h b .byte nb (fun i => .int (yb i)) ∧ own_CB cc nb yb
set_option maxRecDepth 65536 in
set_option maxHeartbeats 40000000 in
theorem rm5 (l : Launch) (Z : State) (a0 : Array Value) (hw : ∀ d ∈ tables_1, d.before a0 Z = true) (ws : List Jvm.Cond) (a1 : Addr) (cs : Int32) (cc : Int32 → Int32) (h0 : Heap) (n0 : Nat) (Z0 : n0 ≤ h0.size) (A_a1 : own_A Z h0 a1 .char (6 : Int32) (fun i => .int (cc i))) (hWd : own_W Z cs) (hPc : own_P cc) (O0 : Old Z n0 h0) :
    MetFree l (⟨"java/lang/StringUTF16", "compress", "([CII)[B"⟩ : MethodName) (head1 (Jvm.Cond.code (⟨"java/lang/StringUTF16", "compress", "([CII)[B"⟩ : MethodName) jdk_52_method_16_code 6 (some (.array .byte)) :: ws) ({ frames := 3, cells := 2, slots := 18, locals := 40 } : Room)) (fun a U => a = #[(.ref a1), (.int (0 : Int32)), (.int (6 : Int32))] ∧ Z.Warmed39 U.vm ∧ U.heap = h0) (fun _ _ _ _ _ => True) (fun _ U o U' => ∃ v L, o = .returned v ∧ Q5 Z a1 cs cc h0 n0 v U'.heap L ∧ FrameEnd U o U' L ({ frames := 3, cells := 2, slots := 18, locals := 40 } : Room).cells ({ frames := 3, cells := 2, slots := 18, locals := 40 } : Room).slots) := by
  refine MetFree.of_bodySF (plainFor_of_name pn_5) hisR ?_
  intro p e s m args below meth c s₁ Bd hml0 hP hK
  obtain ⟨rfl, hZ, hh⟩ := hP
  have hx := Bd.exec
  have hby := Bd.bytes
  have hml : c.maxLocals = 6 := hml0
  have hown : s.vm.findClass "java/lang/StringUTF16" = some m.cls := findClass_of_methodNamed Bd.named
  have hnm := (name_of_methodNamed Bd.named Bd.method).1
  have X0 : Stand p l e ({ frames := 3, cells := 2, slots := 18, locals := 40 } : Room) s m #[(.ref a1), (.int (0 : Int32)), (.int (6 : Int32))] below meth c s₁ [] 0 0 := Stand.of_body Bd
  have e0 : s₁.heap = h0 := by rw [← hh, Bd.state]; rfl
  have N0 := Fr.nil n0
  have pre0 : ∀ t, Steps p.tables e below (s₁.setTop (mkF m 0 #[.val (.ref a1), .val (.int (0 : Int32)), .val (.int (6 : Int32)), .unset, .unset, .unset] [])) t → Steps p.tables e below (s₁.setTop (entryFrame m #[(.ref a1), (.int (0 : Int32)), (.int (6 : Int32))] 6)) t := fun t k => castTop (ef_5 m a1) k
  have K0 := Keep.refl h0 ([] : List Addr)
  obtain ⟨T1, h1, k1, X1, e1, E1, Ax1, st1⟩ := newP X0 hx hZ (hw _ (List.mem_of_getElem? (i := 25) rfl)) e0 (g := (mkF m 1 #[.val (.ref a1), .val (.int (0 : Int32)), .val (.int (6 : Int32)), .unset, .unset, .unset] [(.int (6 : Int32))])) rfl (hb hby d5_1) rfl (by decide) (cap := 6) (by decide) (by decide) (by decide) (by decide)
  obtain ⟨b1, g1⟩ : ∃ z, z = h0.size := ⟨_, rfl⟩
  rw [← g1] at Ax1 st1
  have ne_a1_b1 : a1 ≠ b1 := Nat.ne_of_lt (Nat.lt_of_lt_of_le (own_A_lt A_a1) (Nat.le_of_eq g1.symm))
  have g_b1 : n0 ≤ b1 := Nat.le_trans Z0 (Nat.le_of_eq g1.symm)
  have sz_b1 : h0.size ≤ b1 := Nat.le_trans K0.1 (Nat.le_of_eq g1.symm)
  have A_a1_1 : own_A Z h1 a1 .char (6 : Int32) (fun i => .int (cc i)) := own_A_ext A_a1 E1
  have K1 := K0.ext E1
  have Zs1 := Nat.le_trans Z0 E1.1
  have O1 := O0.ext E1
  have A_b1_1 : own_A Z h1 b1 .byte (6 : Int32) (fun i => .int ((fun _ => (0 : Int32)) i)) := own_A_new Ax1 (by decide)
  obtain ⟨_, _, ⟨T2, L2, k2, n2⟩, -, X2, ⟨Lc2, hQ2, l2, y2, z2⟩, st2⟩ := Jvm.LawKit.callS X1 hx (y := (⟨"java/lang/StringUTF16", "compress", "([CI[BII)I"⟩ : MethodName)) hown (mvT hZ (hw _ (List.mem_of_getElem? (i := 26) rfl))) (mvT hZ (hw _ (List.mem_of_getElem? (i := 27) rfl))) (mvT hZ (hw _ (List.mem_of_getElem? (i := 23) rfl))) (mvT hZ (hw _ (List.mem_of_getElem? (i := 28) rfl))) (by decide) (backOf (W := 0) (rm6 l Z a0 hw [] a1 b1 cs cc (fun _ => (0 : Int32)) h1 n0 Zs1 A_a1_1 A_b1_1 ne_a1_b1 g_b1 hWd O1) hZ (hw _ (List.mem_of_getElem? (i := 28) rfl)) (hw _ (List.mem_of_getElem? (i := 23) rfl)) (by decide) (by decide)) (g := (mkF m 9 #[.val (.ref a1), .val (.int (0 : Int32)), .val (.int (6 : Int32)), .val (.ref b1), .unset, .unset] [(.int (6 : Int32)), (.int (0 : Int32)), (.ref b1), (.int (0 : Int32)), (.ref a1)])) rfl (by rw [hml]; rfl) (argsL := [(.ref a1), (.int (0 : Int32)), (.ref b1), (.int (0 : Int32)), (.int (6 : Int32))]) (rest := []) (lenOf pd_14 rfl) rfl (by show 2 * 0 + _ ≤ _; exact Nat.le_of_eq rfl) (hb hby d5_9) (fun _ _ => ⟨rfl, e1, (by decide : 1 + 0 ≤ _), (by decide : 6 + 0 ≤ _)⟩)
  dsimp only [Pt.U, Pt.locs, Pt.cells, Pt.slots] at X2 l2 y2 z2 st2 hQ2
  subst l2 y2 z2
  obtain ⟨h2, e2⟩ : ∃ z, T2.heap = z := ⟨_, rfl⟩
  rw [e2] at hQ2
  obtain ⟨r2, yb2, rfl, N2q, Kc2, A_b1_2q, R_b1_2q⟩ := hQ2
  have A_a1_2 : own_A Z h2 a1 .char (6 : Int32) (fun i => .int (cc i)) := own_A_keep A_a1_1 Kc2 (ninS ne_a1_b1 nin0)
  have K2 := K1.trans Kc2 (allS (Or.inr sz_b1) all0)
  have Zs2 := Nat.le_trans Zs1 Kc2.1
  have O2 := O1.keep Kc2 (allS g_b1 all0)
  have A_b1_2 : own_A Z h2 b1 .byte (6 : Int32) (fun i => .int (yb2 i)) := A_b1_2q
  have R_b1_2 : own_CM cc r2 yb2 := R_b1_2q
  have N2 := Fr.app N0 N2q
  have pre3 : ∀ t, Steps p.tables e below (T2.setTop (mkF m 17 #[.val (.ref a1), .val (.int (0 : Int32)), .val (.int (6 : Int32)), .val (.ref b1), .val (.int r2), .unset] [(.int (6 : Int32)), (.int r2)])) t → Steps p.tables e below (s₁.setTop (entryFrame m #[(.ref a1), (.int (0 : Int32)), (.int (6 : Int32))] 6)) t := fun t k => pre0 t (by
    show Steps p.tables e below (s₁.setTop (mkF m 0 #[.val (.ref a1), .val (.int (0 : Int32)), .val (.int (6 : Int32)), .unset, .unset, .unset] [])) _
    refine XS.iloadN X0.here hx rfl (hb hby d5_0) rfl ?_
    show Steps p.tables e below (s₁.setTop (mkF m 1 #[.val (.ref a1), .val (.int (0 : Int32)), .val (.int (6 : Int32)), .unset, .unset, .unset] [(.int (6 : Int32))])) _
    refine st1 _ ?_
    show Steps p.tables e below (T1.setTop (mkF m 3 #[.val (.ref a1), .val (.int (0 : Int32)), .val (.int (6 : Int32)), .unset, .unset, .unset] [(.ref b1)])) _
    refine XS.astoreN X1.here hx rfl (hb hby d5_3) rfl rfl (l' := #[.val (.ref a1), .val (.int (0 : Int32)), .val (.int (6 : Int32)), .val (.ref b1), .unset, .unset]) rfl ?_
    show Steps p.tables e below (T1.setTop (mkF m 4 #[.val (.ref a1), .val (.int (0 : Int32)), .val (.int (6 : Int32)), .val (.ref b1), .unset, .unset] [])) _
    refine XS.aloadN X1.here hx rfl (hb hby d5_4) rfl rfl ?_
    show Steps p.tables e below (T1.setTop (mkF m 5 #[.val (.ref a1), .val (.int (0 : Int32)), .val (.int (6 : Int32)), .val (.ref b1), .unset, .unset] [(.ref a1)])) _
    refine XS.iloadN X1.here hx rfl (hb hby d5_5) rfl ?_
    show Steps p.tables e below (T1.setTop (mkF m 6 #[.val (.ref a1), .val (.int (0 : Int32)), .val (.int (6 : Int32)), .val (.ref b1), .unset, .unset] [(.int (0 : Int32)), (.ref a1)])) _
    refine XS.aloadN X1.here hx rfl (hb hby d5_6) rfl rfl ?_
    show Steps p.tables e below (T1.setTop (mkF m 7 #[.val (.ref a1), .val (.int (0 : Int32)), .val (.int (6 : Int32)), .val (.ref b1), .unset, .unset] [(.ref b1), (.int (0 : Int32)), (.ref a1)])) _
    refine XS.iconst X1.here hx rfl (hb hby d5_7) ?_
    show Steps p.tables e below (T1.setTop (mkF m 8 #[.val (.ref a1), .val (.int (0 : Int32)), .val (.int (6 : Int32)), .val (.ref b1), .unset, .unset] [(.int (0 : Int32)), (.ref b1), (.int (0 : Int32)), (.ref a1)])) _
    refine XS.iloadN X1.here hx rfl (hb hby d5_8) rfl ?_
    show Steps p.tables e below (T1.setTop (mkF m 9 #[.val (.ref a1), .val (.int (0 : Int32)), .val (.int (6 : Int32)), .val (.ref b1), .unset, .unset] [(.int (6 : Int32)), (.int (0 : Int32)), (.ref b1), (.int (0 : Int32)), (.ref a1)])) _
    refine st2 _ ?_
    show Steps p.tables e below (T2.setTop (mkF m 12 #[.val (.ref a1), .val (.int (0 : Int32)), .val (.int (6 : Int32)), .val (.ref b1), .unset, .unset] [(.int r2)])) _
    refine XS.istore X2.here hx rfl (hb hby d5_12) rfl (l' := #[.val (.ref a1), .val (.int (0 : Int32)), .val (.int (6 : Int32)), .val (.ref b1), .val (.int r2), .unset]) rfl ?_
    show Steps p.tables e below (T2.setTop (mkF m 14 #[.val (.ref a1), .val (.int (0 : Int32)), .val (.int (6 : Int32)), .val (.ref b1), .val (.int r2), .unset] [])) _
    refine XS.iload X2.here hx rfl (hb hby d5_14) rfl ?_
    show Steps p.tables e below (T2.setTop (mkF m 16 #[.val (.ref a1), .val (.int (0 : Int32)), .val (.int (6 : Int32)), .val (.ref b1), .val (.int r2), .unset] [(.int r2)])) _
    refine XS.iloadN X2.here hx rfl (hb hby d5_16) rfl ?_
    exact k)
  by_cases hc4 : r2 = (6 : Int32)
  · obtain ⟨fs, hr, hrun, hended, hW, hsame⟩ := X2.leave (v := some (.ref b1)) (fun h => by rw [Bd.returns] at h; cases h)
    refine ⟨_, _, pre3 _ ?_, hrun, hended, _, _, rfl, ?_, ⟨_, rfl⟩, hW, hsame.mono (by decide) (by decide)⟩
    · show Steps p.tables e below (T2.setTop (mkF m 17 #[.val (.ref a1), .val (.int (0 : Int32)), .val (.int (6 : Int32)), .val (.ref b1), .val (.int r2), .unset] [(.int (6 : Int32)), (.int r2)])) _
      refine XS.icmpYes X2.here hx rfl (pc0 := 17) (pc' := 57) rfl (hb hby d5_17) rfl (teq hc4).1 (by decide) (by decide) ?_
      show Steps p.tables e below (T2.setTop (mkF m 57 #[.val (.ref a1), .val (.int (0 : Int32)), .val (.int (6 : Int32)), .val (.ref b1), .val (.int r2), .unset] [])) _
      refine XS.aloadN X2.here hx rfl (hb hby d5_57) rfl rfl ?_
      show Steps p.tables e below (T2.setTop (mkF m 58 #[.val (.ref a1), .val (.int (0 : Int32)), .val (.int (6 : Int32)), .val (.ref b1), .val (.int r2), .unset] [(.ref b1)])) _
      jvm_step X2.here [X2.here.top, hx, (hb hby d5_58), X2.method', Bd.returns, Value.isRef, FieldType.isReference]
      first | (intro acts; rw [hr _ acts rfl rfl rfl]) | rw [hr _ _ rfl rfl rfl]
      exact Steps.refl _
    · show Q5 Z a1 cs cc h0 n0 _ T2.heap _
      rw [e2]
      exact ⟨b1, (6 : Int32), _, rfl, N2, K2, sz_b1, A_b1_2, (Or.inl ⟨rfl, own_is6 R_b1_2 hc4⟩)⟩
  · have hne := own_ne6 R_b1_2 hc4
    obtain ⟨_, _, ⟨T5, L5, k5, n5⟩, -, X5, ⟨Lc5, hQ5, l5, y5, z5⟩, st5⟩ := Jvm.LawKit.callS X2 hx (y := (⟨"java/lang/StringUTF16", "toBytes", "([CII)[B"⟩ : MethodName)) hown (mvT hZ (hw _ (List.mem_of_getElem? (i := 81) rfl))) (mvT hZ (hw _ (List.mem_of_getElem? (i := 82) rfl))) (mvT hZ (hw _ (List.mem_of_getElem? (i := 23) rfl))) (mvT hZ (hw _ (List.mem_of_getElem? (i := 83) rfl))) (by decide) (backOf (W := 0) (rm19 l Z a0 hw [] a1 cs cc h2 n0 Zs2 A_a1_2 hWd O2) hZ (hw _ (List.mem_of_getElem? (i := 83) rfl)) (hw _ (List.mem_of_getElem? (i := 23) rfl)) (by decide) (by decide)) (g := (mkF m 23 #[.val (.ref a1), .val (.int (0 : Int32)), .val (.int (6 : Int32)), .val (.ref b1), .val (.int r2), .unset] [(.int (6 : Int32)), (.int (0 : Int32)), (.ref a1)])) rfl (by rw [hml]; rfl) (argsL := [(.ref a1), (.int (0 : Int32)), (.int (6 : Int32))]) (rest := []) (lenOf pd_15 rfl) rfl (by show 2 * 0 + _ ≤ _; exact Nat.le_of_eq rfl) (hb hby d5_23) (fun _ _ => ⟨rfl, e2, (by decide : 1 + 1 ≤ _), (by decide : 6 + 12 ≤ _)⟩)
    dsimp only [Pt.U, Pt.locs, Pt.cells, Pt.slots] at X5 l5 y5 z5 st5 hQ5
    subst l5 y5 z5
    obtain ⟨h5, e5⟩ : ∃ z, T5.heap = z := ⟨_, rfl⟩
    rw [e5] at hQ5
    obtain ⟨b5, rfl, N5q, Kc5, szc_b5, A_b5_5q⟩ := hQ5
    have ne_a1_b5 : a1 ≠ b5 := Nat.ne_of_lt (Nat.lt_of_lt_of_le (own_A_lt A_a1_2) szc_b5)
    have ne_b1_b5 : b1 ≠ b5 := Nat.ne_of_lt (Nat.lt_of_lt_of_le (own_A_lt A_b1_2) szc_b5)
    have g_b5 : n0 ≤ b5 := Nat.le_trans Zs2 szc_b5
    have sz_b5 : h0.size ≤ b5 := Nat.le_trans K2.1 szc_b5
    have A_a1_5 : own_A Z h5 a1 .char (6 : Int32) (fun i => .int (cc i)) := own_A_keep A_a1_2 Kc5 nin0
    have A_b1_5 : own_A Z h5 b1 .byte (6 : Int32) (fun i => .int (yb2 i)) := own_A_keep A_b1_2 Kc5 nin0
    have K5 := K2.trans Kc5 all0
    have Zs5 := Nat.le_trans Zs2 Kc5.1
    have O5 := O2.keep Kc5 all0
    obtain ⟨y6, hy6⟩ : ∃ yy_ : Int32 → Int32, yy_ = (own_utf cc) := ⟨_, rfl⟩
    have A_b5_5 : own_A Z h5 b5 .byte (12 : Int32) (fun i => .int (y6 i)) := by subst hy6; exact A_b5_5q
    have N5 := Fr.app N2 N5q
    obtain ⟨_, _, ⟨T7, L7, k7, n7⟩, -, X7, ⟨Lc7, hQ7, l7, y7, z7⟩, st7⟩ := Jvm.LawKit.callS X5 hx (y := (⟨"java/lang/StringUTF16", "getChar", "([BI)C"⟩ : MethodName)) hown (mvT hZ (hw _ (List.mem_of_getElem? (i := 97) rfl))) (mvT hZ (hw _ (List.mem_of_getElem? (i := 98) rfl))) (mvT hZ (hw _ (List.mem_of_getElem? (i := 23) rfl))) (mvT hZ (hw _ (List.mem_of_getElem? (i := 99) rfl))) (by decide) (backOf (W := 0) (rm23 l Z a0 hw [] b5 r2 cs y6 h5 n0 Zs5 A_b5_5 hWd hne.1 O5) hZ (hw _ (List.mem_of_getElem? (i := 99) rfl)) (hw _ (List.mem_of_getElem? (i := 23) rfl)) (by decide) (by decide)) (g := (mkF m 32 #[.val (.ref a1), .val (.int (0 : Int32)), .val (.int (6 : Int32)), .val (.ref b1), .val (.int r2), .val (.ref b5)] [(.int r2), (.ref b5)])) rfl (by rw [hml]; rfl) (argsL := [(.ref b5), (.int r2)]) (rest := []) (lenOf pd_4 rfl) rfl (by show 2 * 0 + _ ≤ _; exact Nat.le_of_eq rfl) (hb hby d5_32) (fun _ _ => ⟨rfl, e5, (by decide : 2 + 0 ≤ _), (by decide : 18 + 0 ≤ _)⟩)
    dsimp only [Pt.U, Pt.locs, Pt.cells, Pt.slots] at X7 l7 y7 z7 st7 hQ7
    subst l7 y7 z7
    obtain ⟨rfl, N7q, e7⟩ := hQ7
    have N7 := Fr.app N5 N7q
    have h255 : (255 : Int32) < (f23 r2 y6) := by rw [show (f23 r2 y6) = cc r2 by subst hy6; exact own_utf_at hPc _ hne.1]; exact hne.2
    obtain ⟨fs, hr, hrun, hended, hW, hsame⟩ := X7.leave (v := some (.ref b5)) (fun h => by rw [Bd.returns] at h; cases h)
    refine ⟨_, _, pre3 _ ?_, hrun, hended, _, _, rfl, ?_, ⟨_, rfl⟩, hW, hsame.mono (by decide) (by decide)⟩
    · show Steps p.tables e below (T2.setTop (mkF m 17 #[.val (.ref a1), .val (.int (0 : Int32)), .val (.int (6 : Int32)), .val (.ref b1), .val (.int r2), .unset] [(.int (6 : Int32)), (.int r2)])) _
      refine XS.icmpNo X2.here hx rfl (hb hby d5_17) rfl (feq hc4).1 ?_
      show Steps p.tables e below (T2.setTop (mkF m 20 #[.val (.ref a1), .val (.int (0 : Int32)), .val (.int (6 : Int32)), .val (.ref b1), .val (.int r2), .unset] [])) _
      refine XS.aloadN X2.here hx rfl (hb hby d5_20) rfl rfl ?_
      show Steps p.tables e below (T2.setTop (mkF m 21 #[.val (.ref a1), .val (.int (0 : Int32)), .val (.int (6 : Int32)), .val (.ref b1), .val (.int r2), .unset] [(.ref a1)])) _
      refine XS.iloadN X2.here hx rfl (hb hby d5_21) rfl ?_
      show Steps p.tables e below (T2.setTop (mkF m 22 #[.val (.ref a1), .val (.int (0 : Int32)), .val (.int (6 : Int32)), .val (.ref b1), .val (.int r2), .unset] [(.int (0 : Int32)), (.ref a1)])) _
      refine XS.iloadN X2.here hx rfl (hb hby d5_22) rfl ?_
      show Steps p.tables e below (T2.setTop (mkF m 23 #[.val (.ref a1), .val (.int (0 : Int32)), .val (.int (6 : Int32)), .val (.ref b1), .val (.int r2), .unset] [(.int (6 : Int32)), (.int (0 : Int32)), (.ref a1)])) _
      refine st5 _ ?_
      show Steps p.tables e below (T5.setTop (mkF m 26 #[.val (.ref a1), .val (.int (0 : Int32)), .val (.int (6 : Int32)), .val (.ref b1), .val (.int r2), .unset] [(.ref b5)])) _
      refine XS.astore X5.here hx rfl (hb hby d5_26) rfl rfl (l' := #[.val (.ref a1), .val (.int (0 : Int32)), .val (.int (6 : Int32)), .val (.ref b1), .val (.int r2), .val (.ref b5)]) rfl ?_
      show Steps p.tables e below (T5.setTop (mkF m 28 #[.val (.ref a1), .val (.int (0 : Int32)), .val (.int (6 : Int32)), .val (.ref b1), .val (.int r2), .val (.ref b5)] [])) _
      refine XS.aload X5.here hx rfl (hb hby d5_28) rfl rfl ?_
      show Steps p.tables e below (T5.setTop (mkF m 30 #[.val (.ref a1), .val (.int (0 : Int32)), .val (.int (6 : Int32)), .val (.ref b1), .val (.int r2), .val (.ref b5)] [(.ref b5)])) _
      refine XS.iload X5.here hx rfl (hb hby d5_30) rfl ?_
      show Steps p.tables e below (T5.setTop (mkF m 32 #[.val (.ref a1), .val (.int (0 : Int32)), .val (.int (6 : Int32)), .val (.ref b1), .val (.int r2), .val (.ref b5)] [(.int r2), (.ref b5)])) _
      refine st7 _ ?_
      show Steps p.tables e below (T7.setTop (mkF m 35 #[.val (.ref a1), .val (.int (0 : Int32)), .val (.int (6 : Int32)), .val (.ref b1), .val (.int r2), .val (.ref b5)] [(.int (f23 r2 y6))])) _
      refine XS.sipush X7.here hx rfl (hb hby d5_35) ?_
      show Steps p.tables e below (T7.setTop (mkF m 38 #[.val (.ref a1), .val (.int (0 : Int32)), .val (.int (6 : Int32)), .val (.ref b1), .val (.int r2), .val (.ref b5)] [(.int (255 : Int32)), (.int (f23 r2 y6))])) _
      refine XS.icmpYes X7.here hx rfl (pc0 := 38) (pc' := 54) rfl (hb hby d5_38) rfl (tlt h255).2.2.1 (by decide) (by decide) ?_
      show Steps p.tables e below (T7.setTop (mkF m 54 #[.val (.ref a1), .val (.int (0 : Int32)), .val (.int (6 : Int32)), .val (.ref b1), .val (.int r2), .val (.ref b5)] [])) _
      refine XS.aload X7.here hx rfl (hb hby d5_54) rfl rfl ?_
      show Steps p.tables e below (T7.setTop (mkF m 56 #[.val (.ref a1), .val (.int (0 : Int32)), .val (.int (6 : Int32)), .val (.ref b1), .val (.int r2), .val (.ref b5)] [(.ref b5)])) _
      jvm_step X7.here [X7.here.top, hx, (hb hby d5_56), X7.method', Bd.returns, Value.isRef, FieldType.isReference]
      first | (intro acts; rw [hr _ acts rfl rfl rfl]) | rw [hr _ _ rfl rfl rfl]
      exact Steps.refl _
    · show Q5 Z a1 cs cc h0 n0 _ T7.heap _
      rw [e7]
      subst hy6
      exact ⟨b5, (12 : Int32), _, rfl, N7, K5, sz_b5, A_b5_5, (Or.inr ⟨rfl, rfl⟩)⟩

theorem own_mkStr {Z : State} {h : Heap} {a b : Addr} {nb : Int32} {cc yb : Int32 → Int32} (E : Exa Z h a "java/lang/String") (V : Fld Z h a "java/lang/String" "value" "[B" (.ref b)) (C : Fld Z h a "java/lang/String" "coder" "B" (.int (nar .byte (f7 (6 : Int32) nb)))) (A : own_A Z h b .byte nb (fun i => .int (yb i))) (Q : own_CB cc nb yb) (hP : own_P cc) : own_Str Z h a cc := by
  refine ⟨E, b, yb, V, ?_⟩
  rcases Q with ⟨rfl, q⟩ | ⟨rfl, rfl⟩
  · have e : nar .byte (f7 (6 : Int32) (6 : Int32)) = 0 := by decide
    rw [e] at C
    refine Or.inl ⟨C, A, fun i hi => ?_⟩
    unfold f14l f16
    rw [(q i hi).2]
    exact own_lat1 (cc i) (hP i).1 (q i hi).1
  · have e : nar .byte (f7 (6 : Int32) (12 : Int32)) = 1 := by decide
    rw [e] at C
    refine Or.inr ⟨C, A, fun i hi => ?_⟩
    unfold f14u f24
    rw [own_utf_at hP i hi, own_nc _ (hP i), own_nc _ (hP i)]
theorem own_a15 (p : Int32) : ¬ (p &&& (15 : Int32)) < 0 ∧ (p &&& (15 : Int32)) < (16 : Int32) := by
  have hm := c_mask p 15 4 (by decide) (by decide)
  have e0 : (0 : Int32).toInt = 0 := by decide
  have e16 : (16 : Int32).toInt = 16 := by decide
  rw [Int32.lt_iff_toInt_lt, Int32.lt_iff_toInt_lt]; omega
theorem own_from (p : Int32) : 0 ≤ ((p &&& (2147483647 : Int32)) % (7 : Int32)).toInt ∧ ((p &&& (2147483647 : Int32)) % (7 : Int32)).toInt ≤ 6 := by
  have hm := c_mask p 2147483647 31 (by decide) (by decide)
  have hr := (c_irem (p &&& (2147483647 : Int32)) 7 7 (by decide)).1 (by omega)
  omega

theorem pd_16 : parseMethodDescriptor "([BI)B" = some ⟨[(.array .byte), .int], some .byte⟩ := by decide +kernel
theorem d3_0 : decode jdk_42_method_149_code 0 = .ok (.aload_n 0, 1) := by decide +kernel
theorem d3_1 : decode jdk_42_method_149_code 1 = .ok (.invokespecial 1, 3) := by decide +kernel
theorem d3_4 : decode jdk_42_method_149_code 4 = .ok (.iload_n 3, 1) := by decide +kernel
theorem d3_5 : decode jdk_42_method_149_code 5 = .ok (.ifCond .ne 22, 3) := by decide +kernel
theorem d3_27 : decode jdk_42_method_149_code 27 = .ok (.getstatic 38, 3) := by decide +kernel
theorem d3_30 : decode jdk_42_method_149_code 30 = .ok (.ifCond .eq 28, 3) := by decide +kernel
theorem d3_33 : decode jdk_42_method_149_code 33 = .ok (.aload_n 1, 1) := by decide +kernel
theorem d3_34 : decode jdk_42_method_149_code 34 = .ok (.iload_n 2, 1) := by decide +kernel
theorem d3_35 : decode jdk_42_method_149_code 35 = .ok (.iload_n 3, 1) := by decide +kernel
theorem d3_36 : decode jdk_42_method_149_code 36 = .ok (.invokestatic 177, 3) := by decide +kernel
theorem d3_39 : decode jdk_42_method_149_code 39 = .ok (.astore 5, 2) := by decide +kernel
theorem d3_41 : decode jdk_42_method_149_code 41 = .ok (.aload_n 0, 1) := by decide +kernel
theorem d3_42 : decode jdk_42_method_149_code 42 = .ok (.aload 5, 2) := by decide +kernel
theorem d3_44 : decode jdk_42_method_149_code 44 = .ok (.iload_n 3, 1) := by decide +kernel
theorem d3_45 : decode jdk_42_method_149_code 45 = .ok (.invokestatic 47, 3) := by decide +kernel
theorem d3_48 : decode jdk_42_method_149_code 48 = .ok (.putfield 15, 3) := by decide +kernel
theorem d3_51 : decode jdk_42_method_149_code 51 = .ok (.aload_n 0, 1) := by decide +kernel
theorem d3_52 : decode jdk_42_method_149_code 52 = .ok (.aload 5, 2) := by decide +kernel
theorem d3_54 : decode jdk_42_method_149_code 54 = .ok (.putfield 9, 3) := by decide +kernel
theorem d3_57 : decode jdk_42_method_149_code 57 = .ok (.return_, 1) := by decide +kernel
theorem pn_3 : plainName "java/lang/String" = true := by first | (simp [plainName, overriddenIn]; done) | decide +kernel
theorem ef_3 (m : MethodId) (a1 : Addr) (a2 : Addr) : entryFrame m #[(.ref a1), (.ref a2), (.int (0 : Int32)), (.int (6 : Int32)), .null] 6 = mkF m 0 #[.val (.ref a1), .val (.ref a2), .val (.int (0 : Int32)), .val (.int (6 : Int32)), .val .null, .unset] [] := by first | (simp [entryFrame, mkF, argsToLocals, Value.category]; done) | rfl
def Q3 (Z : State) (a1 : Addr) (a2 : Addr) (cs : Int32) (cc : Int32 → Int32) (h0 : Heap) (n0 : Nat) (v : Option Value) (h : Heap) (L : List Loc) : Prop := ∃ (b : Addr) (nb : Int32) (yb : Int32 → Int32), v = none ∧ Fr n0 L ∧ Keep h0 h ([a1] : List Addr) ∧ h0.size ≤ b ∧ Exa Z h a1 "java/lang/String" ∧ Fld Z h a1 "java/lang/String" "value" "[B" (.ref b) ∧ Fld Z h a1 "java/lang/String" "coder" "B" (.int (nar .byte (f7 (6 : Int32) nb))) ∧ own_A Z h b .byte nb (fun i => .int (yb i)) ∧ own_CB cc nb yb
set_option maxRecDepth 65536 in
set_option maxHeartbeats 40000000 in
theorem rm3 (l : Launch) (Z : State) (a0 : Array Value) (hw : ∀ d ∈ tables_1, d.before a0 Z = true) (ws : List Jvm.Cond) (a1 : Addr) (a2 : Addr) (cs : Int32) (cc : Int32 → Int32) (h0 : Heap) (n0 : Nat) (Z0 : n0 ≤ h0.size) (E_a1 : Exa Z h0 a1 "java/lang/String") (F_value_a1 : Fld Z h0 a1 "java/lang/String" "value" "[B" .null) (F_coder_a1 : Fld Z h0 a1 "java/lang/String" "coder" "B" (.int (0 : Int32))) (A_a2 : own_A Z h0 a2 .char (6 : Int32) (fun i => .int (cc i))) (ne_a2_a1 : a2 ≠ a1) (g_a1 : n0 ≤ a1) (hWd : own_W Z cs) (hPc : own_P cc) (O0 : Old Z n0 h0) :
    MetFree l (⟨"java/lang/String", "<init>", "([CIILjava/lang/Void;)V"⟩ : MethodName) (head1 (Jvm.Cond.code (⟨"java/lang/String", "<init>", "([CIILjava/lang/Void;)V"⟩ : MethodName) jdk_42_method_149_code 6 none :: ws) ({ frames := 4, cells := 2, slots := 18, locals := 57 } : Room)) (fun a U => a = #[(.ref a1), (.ref a2), (.int (0 : Int32)), (.int (6 : Int32)), .null] ∧ Z.Warmed39 U.vm ∧ U.heap = h0) (fun _ _ _ _ _ => True) (fun _ U o U' => ∃ v L, o = .returned v ∧ Q3 Z a1 a2 cs cc h0 n0 v U'.heap L ∧ FrameEnd U o U' L ({ frames := 4, cells := 2, slots := 18, locals := 57 } : Room).cells ({ frames := 4, cells := 2, slots := 18, locals := 57 } : Room).slots) := by
  refine MetFree.of_bodySF (plainFor_of_name pn_3) hisR ?_
  intro p e s m args below meth c s₁ Bd hml0 hP hK
  obtain ⟨rfl, hZ, hh⟩ := hP
  have hx := Bd.exec
  have hby := Bd.bytes
  have hml : c.maxLocals = 6 := hml0
  have hown : s.vm.findClass "java/lang/String" = some m.cls := findClass_of_methodNamed Bd.named
  have hnm := (name_of_methodNamed Bd.named Bd.method).1
  have X0 : Stand p l e ({ frames := 4, cells := 2, slots := 18, locals := 57 } : Room) s m #[(.ref a1), (.ref a2), (.int (0 : Int32)), (.int (6 : Int32)), .null] below meth c s₁ [] 0 0 := Stand.of_body Bd
  have e0 : s₁.heap = h0 := by rw [← hh, Bd.state]; rfl
  have N0 := Fr.nil n0
  have pre0 : ∀ t, Steps p.tables e below (s₁.setTop (mkF m 0 #[.val (.ref a1), .val (.ref a2), .val (.int (0 : Int32)), .val (.int (6 : Int32)), .val .null, .unset] [])) t → Steps p.tables e below (s₁.setTop (entryFrame m #[(.ref a1), (.ref a2), (.int (0 : Int32)), (.int (6 : Int32)), .null] 6)) t := fun t k => castTop (ef_3 m a1 a2) k
  have K0 := Keep.refl h0 ([a1] : List Addr)
  obtain ⟨T1, X1, e1, st1⟩ := initO X0 hx hZ hown (hw _ (List.mem_of_getElem? (i := 17) rfl)) (hw _ (List.mem_of_getElem? (i := 18) rfl)) (hw _ (List.mem_of_getElem? (i := 19) rfl)) e0 (g := (mkF m 1 #[.val (.ref a1), .val (.ref a2), .val (.int (0 : Int32)), .val (.int (6 : Int32)), .val .null, .unset] [(.ref a1)])) rfl (by rw [hml]; rfl) rfl (hb hby d3_1) (by decide) (W := 0) (by show 2 * 0 + _ ≤ _; exact Nat.le_of_eq rfl) (by decide)
  obtain ⟨T2, X2, e2, st2⟩ := getS2 X1 hx hZ hown (host := "") (Or.inl (hw _ (List.mem_of_getElem? (i := 20) rfl))) Via.refl e1 (hWd.1.ext O0.2) (g := (mkF m 27 #[.val (.ref a1), .val (.ref a2), .val (.int (0 : Int32)), .val (.int (6 : Int32)), .val .null, .unset] [])) rfl (hb hby d3_27)
  obtain ⟨_, _, ⟨T3, L3, k3, n3⟩, -, X3, ⟨Lc3, hQ3, l3, y3, z3⟩, st3⟩ := Jvm.LawKit.callS X2 hx (y := (⟨"java/lang/StringUTF16", "compress", "([CII)[B"⟩ : MethodName)) hown (mvT hZ (hw _ (List.mem_of_getElem? (i := 21) rfl))) (mvT hZ (hw _ (List.mem_of_getElem? (i := 22) rfl))) (mvT hZ (hw _ (List.mem_of_getElem? (i := 23) rfl))) (mvT hZ (hw _ (List.mem_of_getElem? (i := 24) rfl))) (by decide) (backOf (W := 0) (rm5 l Z a0 hw [] a2 cs cc h0 n0 Z0 A_a2 hWd hPc O0) hZ (hw _ (List.mem_of_getElem? (i := 24) rfl)) (hw _ (List.mem_of_getElem? (i := 23) rfl)) (by decide) (by decide)) (g := (mkF m 36 #[.val (.ref a1), .val (.ref a2), .val (.int (0 : Int32)), .val (.int (6 : Int32)), .val .null, .unset] [(.int (6 : Int32)), (.int (0 : Int32)), (.ref a2)])) rfl (by rw [hml]; rfl) (argsL := [(.ref a2), (.int (0 : Int32)), (.int (6 : Int32))]) (rest := []) (lenOf pd_15 rfl) rfl (by show 2 * 0 + _ ≤ _; exact Nat.le_of_eq rfl) (hb hby d3_36) (fun _ _ => ⟨rfl, e2, (by decide : 0 + 2 ≤ _), (by decide : 0 + 18 ≤ _)⟩)
  dsimp only [Pt.U, Pt.locs, Pt.cells, Pt.slots] at X3 l3 y3 z3 st3 hQ3
  subst l3 y3 z3
  obtain ⟨h3, e3⟩ : ∃ z, T3.heap = z := ⟨_, rfl⟩
  rw [e3] at hQ3
  obtain ⟨b3, nb3, yb3, rfl, N3q, Kc3, szc_b3, A_b3_3q, R_b3_3q⟩ := hQ3
  have ne_a1_b3 : a1 ≠ b3 := Nat.ne_of_lt (Nat.lt_of_lt_of_le E_a1.lt szc_b3)
  have ne_a2_b3 : a2 ≠ b3 := Nat.ne_of_lt (Nat.lt_of_lt_of_le (own_A_lt A_a2) szc_b3)
  have g_b3 : n0 ≤ b3 := Nat.le_trans Z0 szc_b3
  have sz_b3 : h0.size ≤ b3 := Nat.le_trans K0.1 szc_b3
  have E_a1_3 : Exa Z h3 a1 "java/lang/String" := E_a1.keep Kc3
  have F_value_a1_3 : Fld Z h3 a1 "java/lang/String" "value" "[B" .null := F_value_a1.keep Kc3 nin0
  have F_coder_a1_3 : Fld Z h3 a1 "java/lang/String" "coder" "B" (.int (0 : Int32)) := F_coder_a1.keep Kc3 nin0
  have A_a2_3 : own_A Z h3 a2 .char (6 : Int32) (fun i => .int (cc i)) := own_A_keep A_a2 Kc3 nin0
  have K3 := K0.trans Kc3 all0
  have Zs3 := Nat.le_trans Z0 Kc3.1
  have O3 := O0.keep Kc3 all0
  have A_b3_3 : own_A Z h3 b3 .byte nb3 (fun i => .int (yb3 i)) := A_b3_3q
  have R_b3_3 : own_CB cc nb3 yb3 := R_b3_3q
  have N3 := Fr.app N0 N3q
  obtain ⟨_, _, ⟨T4, L4, k4, n4⟩, -, X4, ⟨Lc4, hQ4, l4, y4, z4⟩, st4⟩ := Jvm.LawKit.callS X3 hx (y := (⟨"java/lang/StringUTF16", "coderFromArrayLen", "([BI)B"⟩ : MethodName)) hown (mvT hZ (hw _ (List.mem_of_getElem? (i := 29) rfl))) (mvT hZ (hw _ (List.mem_of_getElem? (i := 30) rfl))) (mvT hZ (hw _ (List.mem_of_getElem? (i := 23) rfl))) (mvT hZ (hw _ (List.mem_of_getElem? (i := 31) rfl))) (by decide) (backOf (W := 1) (rm7 l Z a0 hw [] b3 (6 : Int32) nb3 yb3 h3 n0 Zs3 A_b3_3) hZ (hw _ (List.mem_of_getElem? (i := 31) rfl)) (hw _ (List.mem_of_getElem? (i := 23) rfl)) (by decide) (by decide)) (g := (mkF m 45 #[.val (.ref a1), .val (.ref a2), .val (.int (0 : Int32)), .val (.int (6 : Int32)), .val .null, .val (.ref b3)] [(.int (6 : Int32)), (.ref b3), (.ref a1)])) rfl (by rw [hml]; rfl) (argsL := [(.ref b3), (.int (6 : Int32))]) (rest := [(.ref a1)]) (lenOf pd_16 rfl) rfl (by show 2 * 0 + _ ≤ _; exact Nat.le_of_eq rfl) (hb hby d3_45) (fun _ _ => ⟨rfl, e3, (by decide : 2 + 0 ≤ _), (by decide : 18 + 0 ≤ _)⟩)
  dsimp only [Pt.U, Pt.locs, Pt.cells, Pt.slots] at X4 l4 y4 z4 st4 hQ4
  subst l4 y4 z4
  obtain ⟨rfl, N4q, e4⟩ := hQ4
  have N4 := Fr.app N3 N4q
  obtain ⟨T5, h5, X5, e5, W5, st5⟩ := putFN X4 hx hZ hown (hw _ (List.mem_of_getElem? (i := 32) rfl)) Via.refl e4 F_coder_a1_3 E_a1_3 (Or.inr ⟨(hw _ (List.mem_of_getElem? (i := 33) rfl)), rfl, hnm⟩) (hw _ (List.mem_of_getElem? (i := 8) rfl)) (ty := .byte) (v' := (.int (nar .byte (f7 (6 : Int32) nb3)))) (by decide) rfl (fits_nar_byte _) (g := (mkF m 48 #[.val (.ref a1), .val (.ref a2), .val (.int (0 : Int32)), .val (.int (6 : Int32)), .val .null, .val (.ref b3)] [(.int (f7 (6 : Int32) nb3)), (.ref a1)])) rfl rfl (hb hby d3_48)
  have E_a1_5 : Exa Z h5 a1 "java/lang/String" := E_a1_3.wr W5
  have F_value_a1_5 : Fld Z h5 a1 "java/lang/String" "value" "[B" .null := F_value_a1_3.other W5 (Or.inr (slot_ne (Or.inr (hw _ (List.mem_of_getElem? (i := 35) rfl))) (Or.inr (hw _ (List.mem_of_getElem? (i := 33) rfl))) (by decide) (t := (.array .byte)) (t' := .byte) (by decide) (by decide)))
  have A_a2_5 : own_A Z h5 a2 .char (6 : Int32) (fun i => .int (cc i)) := own_A_other A_a2_3 W5 ne_a2_a1
  have A_b3_5 : own_A Z h5 b3 .byte nb3 (fun i => .int (yb3 i)) := own_A_other A_b3_3 W5 (Ne.symm ne_a1_b3)
  have K5 := K3.wr W5 (Or.inl (List.mem_of_getElem? (i := 0) rfl))
  have Zs5 := Nat.le_trans Zs3 (Keep.of_wr W5).1
  have N5 := Fr.snoc X5 N4 g_a1
  have O5 := O3.wr W5 g_a1
  have F_coder_a1_5 : Fld Z h5 a1 "java/lang/String" "coder" "B" (.int (nar .byte (f7 (6 : Int32) nb3))) := F_coder_a1_3.same W5
  obtain ⟨T6, h6, X6, e6, W6, st6⟩ := putF X5 hx hZ hown (host := "") (Or.inl (hw _ (List.mem_of_getElem? (i := 34) rfl))) Via.refl e5 F_value_a1_5 E_a1_5 (Or.inr ⟨(hw _ (List.mem_of_getElem? (i := 35) rfl)), rfl, hnm⟩) (hw _ (List.mem_of_getElem? (i := 8) rfl)) (ty := (.array .byte)) (by decide) rfl rfl (g := (mkF m 54 #[.val (.ref a1), .val (.ref a2), .val (.int (0 : Int32)), .val (.int (6 : Int32)), .val .null, .val (.ref b3)] [(.ref b3), (.ref a1)])) rfl rfl (hb hby d3_54)
  have E_a1_6 : Exa Z h6 a1 "java/lang/String" := E_a1_5.wr W6
  have A_a2_6 : own_A Z h6 a2 .char (6 : Int32) (fun i => .int (cc i)) := own_A_other A_a2_5 W6 ne_a2_a1
  have A_b3_6 : own_A Z h6 b3 .byte nb3 (fun i => .int (yb3 i)) := own_A_other A_b3_5 W6 (Ne.symm ne_a1_b3)
  have F_coder_a1_6 : Fld Z h6 a1 "java/lang/String" "coder" "B" (.int (nar .byte (f7 (6 : Int32) nb3))) := F_coder_a1_5.other W6 (Or.inr (slot_ne (Or.inr (hw _ (List.mem_of_getElem? (i := 33) rfl))) (Or.inr (hw _ (List.mem_of_getElem? (i := 35) rfl))) (by decide) (t := .byte) (t' := (.array .byte)) (by decide) (by decide)))
  have K6 := K5.wr W6 (Or.inl (List.mem_of_getElem? (i := 0) rfl))
  have Zs6 := Nat.le_trans Zs5 (Keep.of_wr W6).1
  have N6 := Fr.snoc X6 N5 g_a1
  have O6 := O5.wr W6 g_a1
  have F_value_a1_6 : Fld Z h6 a1 "java/lang/String" "value" "[B" (.ref b3) := F_value_a1_5.same W6
  obtain ⟨fs, hr, hrun, hended, hW, hsame⟩ := X6.leave (v := none) (fun _ => rfl)
  refine ⟨_, _, pre0 _ ?_, hrun, hended, _, _, rfl, ?_, ⟨_, rfl⟩, hW, hsame.mono (by decide) (by decide)⟩
  · show Steps p.tables e below (s₁.setTop (mkF m 0 #[.val (.ref a1), .val (.ref a2), .val (.int (0 : Int32)), .val (.int (6 : Int32)), .val .null, .unset] [])) _
    refine XS.aloadN X0.here hx rfl (hb hby d3_0) rfl rfl ?_
    show Steps p.tables e below (s₁.setTop (mkF m 1 #[.val (.ref a1), .val (.ref a2), .val (.int (0 : Int32)), .val (.int (6 : Int32)), .val .null, .unset] [(.ref a1)])) _
    refine st1 _ ?_
    show Steps p.tables e below (T1.setTop (mkF m 4 #[.val (.ref a1), .val (.ref a2), .val (.int (0 : Int32)), .val (.int (6 : Int32)), .val .null, .unset] [])) _
    refine XS.iloadN X1.here hx rfl (hb hby d3_4) rfl ?_
    show Steps p.tables e below (T1.setTop (mkF m 5 #[.val (.ref a1), .val (.ref a2), .val (.int (0 : Int32)), .val (.int (6 : Int32)), .val .null, .unset] [(.int (6 : Int32))])) _
    refine XS.ifYes X1.here hx rfl (pc0 := 5) (pc' := 27) rfl (hb hby d3_5) rfl ((if0 _ _).trans (feq (show ¬ ((6 : Int32) = (0 : Int32)) by decide)).2) (by decide) (by decide) ?_
    show Steps p.tables e below (T1.setTop (mkF m 27 #[.val (.ref a1), .val (.ref a2), .val (.int (0 : Int32)), .val (.int (6 : Int32)), .val .null, .unset] [])) _
    refine st2 _ ?_
    show Steps p.tables e below (T2.setTop (mkF m 30 #[.val (.ref a1), .val (.ref a2), .val (.int (0 : Int32)), .val (.int (6 : Int32)), .val .null, .unset] [(.int cs)])) _
    refine XS.ifNo X2.here hx rfl (hb hby d3_30) rfl ((if0 _ _).trans (feq hWd.2.1).1) ?_
    show Steps p.tables e below (T2.setTop (mkF m 33 #[.val (.ref a1), .val (.ref a2), .val (.int (0 : Int32)), .val (.int (6 : Int32)), .val .null, .unset] [])) _
    refine XS.aloadN X2.here hx rfl (hb hby d3_33) rfl rfl ?_
    show Steps p.tables e below (T2.setTop (mkF m 34 #[.val (.ref a1), .val (.ref a2), .val (.int (0 : Int32)), .val (.int (6 : Int32)), .val .null, .unset] [(.ref a2)])) _
    refine XS.iloadN X2.here hx rfl (hb hby d3_34) rfl ?_
    show Steps p.tables e below (T2.setTop (mkF m 35 #[.val (.ref a1), .val (.ref a2), .val (.int (0 : Int32)), .val (.int (6 : Int32)), .val .null, .unset] [(.int (0 : Int32)), (.ref a2)])) _
    refine XS.iloadN X2.here hx rfl (hb hby d3_35) rfl ?_
    show Steps p.tables e below (T2.setTop (mkF m 36 #[.val (.ref a1), .val (.ref a2), .val (.int (0 : Int32)), .val (.int (6 : Int32)), .val .null, .unset] [(.int (6 : Int32)), (.int (0 : Int32)), (.ref a2)])) _
    refine st3 _ ?_
    show Steps p.tables e below (T3.setTop (mkF m 39 #[.val (.ref a1), .val (.ref a2), .val (.int (0 : Int32)), .val (.int (6 : Int32)), .val .null, .unset] [(.ref b3)])) _
    refine XS.astore X3.here hx rfl (hb hby d3_39) rfl rfl (l' := #[.val (.ref a1), .val (.ref a2), .val (.int (0 : Int32)), .val (.int (6 : Int32)), .val .null, .val (.ref b3)]) rfl ?_
    show Steps p.tables e below (T3.setTop (mkF m 41 #[.val (.ref a1), .val (.ref a2), .val (.int (0 : Int32)), .val (.int (6 : Int32)), .val .null, .val (.ref b3)] [])) _
    refine XS.aloadN X3.here hx rfl (hb hby d3_41) rfl rfl ?_
    show Steps p.tables e below (T3.setTop (mkF m 42 #[.val (.ref a1), .val (.ref a2), .val (.int (0 : Int32)), .val (.int (6 : Int32)), .val .null, .val (.ref b3)] [(.ref a1)])) _
    refine XS.aload X3.here hx rfl (hb hby d3_42) rfl rfl ?_
    show Steps p.tables e below (T3.setTop (mkF m 44 #[.val (.ref a1), .val (.ref a2), .val (.int (0 : Int32)), .val (.int (6 : Int32)), .val .null, .val (.ref b3)] [(.ref b3), (.ref a1)])) _
    refine XS.iloadN X3.here hx rfl (hb hby d3_44) rfl ?_
    show Steps p.tables e below (T3.setTop (mkF m 45 #[.val (.ref a1), .val (.ref a2), .val (.int (0 : Int32)), .val (.int (6 : Int32)), .val .null, .val (.ref b3)] [(.int (6 : Int32)), (.ref b3), (.ref a1)])) _
    refine st4 _ ?_
    show Steps p.tables e below (T4.setTop (mkF m 48 #[.val (.ref a1), .val (.ref a2), .val (.int (0 : Int32)), .val (.int (6 : Int32)), .val .null, .val (.ref b3)] [(.int (f7 (6 : Int32) nb3)), (.ref a1)])) _
    refine st5 _ ?_
    show Steps p.tables e below (T5.setTop (mkF m 51 #[.val (.ref a1), .val (.ref a2), .val (.int (0 : Int32)), .val (.int (6 : Int32)), .val .null, .val (.ref b3)] [])) _
    refine XS.aloadN X5.here hx rfl (hb hby d3_51) rfl rfl ?_
    show Steps p.tables e below (T5.setTop (mkF m 52 #[.val (.ref a1), .val (.ref a2), .val (.int (0 : Int32)), .val (.int (6 : Int32)), .val .null, .val (.ref b3)] [(.ref a1)])) _
    refine XS.aload X5.here hx rfl (hb hby d3_52) rfl rfl ?_
    show Steps p.tables e below (T5.setTop (mkF m 54 #[.val (.ref a1), .val (.ref a2), .val (.int (0 : Int32)), .val (.int (6 : Int32)), .val .null, .val (.ref b3)] [(.ref b3), (.ref a1)])) _
    refine st6 _ ?_
    show Steps p.tables e below (T6.setTop (mkF m 57 #[.val (.ref a1), .val (.ref a2), .val (.int (0 : Int32)), .val (.int (6 : Int32)), .val .null, .val (.ref b3)] [])) _
    exact X6.returnOut hx Bd.returns (hb hby d3_57) hr
  · show Q3 Z a1 a2 cs cc h0 n0 _ T6.heap _
    rw [e6]
    exact ⟨b3, nb3, _, rfl, N6, K6, sz_b3, E_a1_6, F_value_a1_6, F_coder_a1_6, A_b3_6, R_b3_3⟩
theorem pd_17 : parseMethodDescriptor "([CIILjava/lang/Void;)V" = some ⟨[(.array .char), .int, .int, (.object "java/lang/Void")], none⟩ := by decide +kernel
theorem d2_0 : decode jdk_42_method_3_code 0 = .ok (.aload_n 0, 1) := by decide +kernel
theorem d2_1 : decode jdk_42_method_3_code 1 = .ok (.aload_n 1, 1) := by decide +kernel
theorem d2_2 : decode jdk_42_method_3_code 2 = .ok (.iconst 0, 1) := by decide +kernel
theorem d2_3 : decode jdk_42_method_3_code 3 = .ok (.aload_n 1, 1) := by decide +kernel
theorem d2_4 : decode jdk_42_method_3_code 4 = .ok (.arraylength, 1) := by decide +kernel
theorem d2_5 : decode jdk_42_method_3_code 5 = .ok (.aconst_null, 1) := by decide +kernel
theorem d2_6 : decode jdk_42_method_3_code 6 = .ok (.invokespecial 27, 3) := by decide +kernel
theorem d2_9 : decode jdk_42_method_3_code 9 = .ok (.return_, 1) := by decide +kernel
theorem pn_2 : plainName "java/lang/String" = true := by first | (simp [plainName, overriddenIn]; done) | decide +kernel
theorem ef_2 (m : MethodId) (a1 : Addr) (a2 : Addr) : entryFrame m #[(.ref a1), (.ref a2)] 2 = mkF m 0 #[.val (.ref a1), .val (.ref a2)] [] := by first | (simp [entryFrame, mkF, argsToLocals, Value.category]; done) | rfl
def Q2 (Z : State) (a1 : Addr) (a2 : Addr) (cs : Int32) (cc : Int32 → Int32) (h0 : Heap) (n0 : Nat) (v : Option Value) (h : Heap) (L : List Loc) : Prop := ∃ (b : Addr) (nb : Int32) (yb : Int32 → Int32), v = none ∧ Fr n0 L ∧ Keep h0 h ([a1] : List Addr) ∧ h0.size ≤ b ∧ Exa Z h a1 "java/lang/String" ∧ Fld Z h a1 "java/lang/String" "value" "[B" (.ref b) ∧ Fld Z h a1 "java/lang/String" "coder" "B" (.int (nar .byte (f7 (6 : Int32) nb))) ∧ own_A Z h b .byte nb (fun i => .int (yb i)) ∧ own_CB cc nb yb
set_option maxRecDepth 65536 in
set_option maxHeartbeats 40000000 in
theorem rm2 (l : Launch) (Z : State) (a0 : Array Value) (hw : ∀ d ∈ tables_1, d.before a0 Z = true) (ws : List Jvm.Cond) (a1 : Addr) (a2 : Addr) (cs : Int32) (cc : Int32 → Int32) (h0 : Heap) (n0 : Nat) (Z0 : n0 ≤ h0.size) (E_a1 : Exa Z h0 a1 "java/lang/String") (F_value_a1 : Fld Z h0 a1 "java/lang/String" "value" "[B" .null) (F_coder_a1 : Fld Z h0 a1 "java/lang/String" "coder" "B" (.int (0 : Int32))) (A_a2 : own_A Z h0 a2 .char (6 : Int32) (fun i => .int (cc i))) (ne_a2_a1 : a2 ≠ a1) (g_a1 : n0 ≤ a1) (hWd : own_W Z cs) (hPc : own_P cc) (O0 : Old Z n0 h0) :
    MetFree l (⟨"java/lang/String", "<init>", "([C)V"⟩ : MethodName) (head1 (Jvm.Cond.code (⟨"java/lang/String", "<init>", "([C)V"⟩ : MethodName) jdk_42_method_3_code 2 none :: ws) ({ frames := 5, cells := 2, slots := 18, locals := 74 } : Room)) (fun a U => a = #[(.ref a1), (.ref a2)] ∧ Z.Warmed39 U.vm ∧ U.heap = h0) (fun _ _ _ _ _ => True) (fun _ U o U' => ∃ v L, o = .returned v ∧ Q2 Z a1 a2 cs cc h0 n0 v U'.heap L ∧ FrameEnd U o U' L ({ frames := 5, cells := 2, slots := 18, locals := 74 } : Room).cells ({ frames := 5, cells := 2, slots := 18, locals := 74 } : Room).slots) := by
  refine MetFree.of_bodySF (plainFor_of_name pn_2) hisR ?_
  intro p e s m args below meth c s₁ Bd hml0 hP hK
  obtain ⟨rfl, hZ, hh⟩ := hP
  have hx := Bd.exec
  have hby := Bd.bytes
  have hml : c.maxLocals = 2 := hml0
  have hown : s.vm.findClass "java/lang/String" = some m.cls := findClass_of_methodNamed Bd.named
  have hnm := (name_of_methodNamed Bd.named Bd.method).1
  have X0 : Stand p l e ({ frames := 5, cells := 2, slots := 18, locals := 74 } : Room) s m #[(.ref a1), (.ref a2)] below meth c s₁ [] 0 0 := Stand.of_body Bd
  have e0 : s₁.heap = h0 := by rw [← hh, Bd.state]; rfl
  have N0 := Fr.nil n0
  have pre0 : ∀ t, Steps p.tables e below (s₁.setTop (mkF m 0 #[.val (.ref a1), .val (.ref a2)] [])) t → Steps p.tables e below (s₁.setTop (entryFrame m #[(.ref a1), (.ref a2)] 2)) t := fun t k => castTop (ef_2 m a1 a2) k
  have K0 := Keep.refl h0 ([a1] : List Addr)
  obtain ⟨cl1, Ar1, Sz1, Mz1, Hz1⟩ := id A_a2
  obtain ⟨_, _, ⟨T2, L2, k2, n2⟩, -, X2, ⟨Lc2, hQ2, l2, y2, z2⟩, st2⟩ := X0.specialBack hx (y := (⟨"java/lang/String", "<init>", "([CIILjava/lang/Void;)V"⟩ : MethodName)) rfl hown (mvT hZ (hw _ (List.mem_of_getElem? (i := 13) rfl))) (mvT hZ (hw _ (List.mem_of_getElem? (i := 14) rfl))) (mvT hZ (hw _ (List.mem_of_getElem? (i := 16) rfl))) (by decide) (backOf (W := 0) (rm3 l Z a0 hw [] a1 a2 cs cc h0 n0 Z0 E_a1 F_value_a1 F_coder_a1 A_a2 ne_a2_a1 g_a1 hWd hPc O0) hZ (hw _ (List.mem_of_getElem? (i := 16) rfl)) (hw _ (List.mem_of_getElem? (i := 9) rfl)) (by decide) (by decide)) (g := (mkF m 6 #[.val (.ref a1), .val (.ref a2)] [.null, (.int (6 : Int32)), (.int (0 : Int32)), (.ref a2), (.ref a1)])) rfl (by rw [hml]; rfl) (Steps.refl _) (a := a1) (argsL := [(.ref a2), (.int (0 : Int32)), (.int (6 : Int32)), .null]) (rest := []) (lenOf pd_17 rfl) rfl (by show 2 * 0 + _ ≤ _; exact Nat.le_of_eq rfl) (hb hby d2_6) (fun _ _ => ⟨rfl, e0, (by decide : 0 + 2 ≤ _), (by decide : 0 + 18 ≤ _)⟩)
  dsimp only [Pt.U, Pt.locs, Pt.cells, Pt.slots] at X2 l2 y2 z2 st2 hQ2
  subst l2 y2 z2
  obtain ⟨h2, e2⟩ : ∃ z, T2.heap = z := ⟨_, rfl⟩
  rw [e2] at hQ2
  obtain ⟨b2, nb2, yb2, rfl, N2q, Kc2, szc_b2, E_a1_2q, F_value_a1_2q, F_coder_a1_2q, A_b2_2q, R_b2_2q⟩ := hQ2
  have ne_a1_b2 : a1 ≠ b2 := Nat.ne_of_lt (Nat.lt_of_lt_of_le E_a1.lt szc_b2)
  have ne_a2_b2 : a2 ≠ b2 := Nat.ne_of_lt (Nat.lt_of_lt_of_le (own_A_lt A_a2) szc_b2)
  have g_b2 : n0 ≤ b2 := Nat.le_trans Z0 szc_b2
  have sz_b2 : h0.size ≤ b2 := Nat.le_trans K0.1 szc_b2
  have A_a2_2 : own_A Z h2 a2 .char (6 : Int32) (fun i => .int (cc i)) := own_A_keep A_a2 Kc2 (ninS ne_a2_a1 nin0)
  have K2 := K0.trans Kc2 (allS (Or.inl (List.mem_of_getElem? (i := 0) rfl)) all0)
  have Zs2 := Nat.le_trans Z0 Kc2.1
  have O2 := O0.keep Kc2 (allS g_a1 all0)
  have E_a1_2 : Exa Z h2 a1 "java/lang/String" := E_a1_2q
  have F_value_a1_2 : Fld Z h2 a1 "java/lang/String" "value" "[B" (.ref b2) := F_value_a1_2q
  have F_coder_a1_2 : Fld Z h2 a1 "java/lang/String" "coder" "B" (.int (nar .byte (f7 (6 : Int32) nb2))) := F_coder_a1_2q
  have A_b2_2 : own_A Z h2 b2 .byte nb2 (fun i => .int (yb2 i)) := A_b2_2q
  have R_b2_2 : own_CB cc nb2 yb2 := R_b2_2q
  have N2 := Fr.app N0 N2q
  obtain ⟨fs, hr, hrun, hended, hW, hsame⟩ := X2.leave (v := none) (fun _ => rfl)
  refine ⟨_, _, pre0 _ ?_, hrun, hended, _, _, rfl, ?_, ⟨_, rfl⟩, hW, hsame.mono (by decide) (by decide)⟩
  · show Steps p.tables e below (s₁.setTop (mkF m 0 #[.val (.ref a1), .val (.ref a2)] [])) _
    refine XS.aloadN X0.here hx rfl (hb hby d2_0) rfl rfl ?_
    show Steps p.tables e below (s₁.setTop (mkF m 1 #[.val (.ref a1), .val (.ref a2)] [(.ref a1)])) _
    refine XS.aloadN X0.here hx rfl (hb hby d2_1) rfl rfl ?_
    show Steps p.tables e below (s₁.setTop (mkF m 2 #[.val (.ref a1), .val (.ref a2)] [(.ref a2), (.ref a1)])) _
    refine XS.iconst X0.here hx rfl (hb hby d2_2) ?_
    show Steps p.tables e below (s₁.setTop (mkF m 3 #[.val (.ref a1), .val (.ref a2)] [(.int (0 : Int32)), (.ref a2), (.ref a1)])) _
    refine XS.aloadN X0.here hx rfl (hb hby d2_3) rfl rfl ?_
    show Steps p.tables e below (s₁.setTop (mkF m 4 #[.val (.ref a1), .val (.ref a2)] [(.ref a2), (.int (0 : Int32)), (.ref a2), (.ref a1)])) _
    refine X0.arraylength hx (by rw [e0]; exact Ar1.1) (State.isArrayOf_alike hZ.alike Ar1.2.1) (g := (mkF m 4 #[.val (.ref a1), .val (.ref a2)] [(.ref a2), (.int (0 : Int32)), (.ref a2), (.ref a1)])) rfl rfl (hb hby d2_4) _ ?_
    rw [len_of Sz1 Mz1]
    show Steps p.tables e below (s₁.setTop (mkF m 5 #[.val (.ref a1), .val (.ref a2)] [(.int (6 : Int32)), (.int (0 : Int32)), (.ref a2), (.ref a1)])) _
    refine XS.aconstNull X0.here hx rfl (hb hby d2_5) ?_
    show Steps p.tables e below (s₁.setTop (mkF m 6 #[.val (.ref a1), .val (.ref a2)] [.null, (.int (6 : Int32)), (.int (0 : Int32)), (.ref a2), (.ref a1)])) _
    refine st2.trans ?_
    show Steps p.tables e below (T2.setTop (mkF m 9 #[.val (.ref a1), .val (.ref a2)] [])) _
    exact X2.returnOut hx Bd.returns (hb hby d2_9) hr
  · show Q2 Z a1 a2 cs cc h0 n0 _ T2.heap _
    rw [e2]
    exact ⟨b2, nb2, _, rfl, N2, K2, sz_b2, E_a1_2, F_value_a1_2, F_coder_a1_2, A_b2_2, R_b2_2⟩
def own_alpha : Int32 → Int32 :=
  let y4 : Int32 → Int32 := (fun i => if i = (0 : Int32) then (nar .char (48 : Int32)) else (fun _ => (0 : Int32)) i);
  let y6 : Int32 → Int32 := (fun i => if i = (1 : Int32) then (nar .char (49 : Int32)) else y4 i);
  let y8 : Int32 → Int32 := (fun i => if i = (2 : Int32) then (nar .char (53 : Int32)) else y6 i);
  let y10 : Int32 → Int32 := (fun i => if i = (3 : Int32) then (nar .char (57 : Int32)) else y8 i);
  let y12 : Int32 → Int32 := (fun i => if i = (4 : Int32) then (nar .char (46 : Int32)) else y10 i);
  let y14 : Int32 → Int32 := (fun i => if i = (5 : Int32) then (nar .char (46 : Int32)) else y12 i);
  let y16 : Int32 → Int32 := (fun i => if i = (6 : Int32) then (nar .char (101 : Int32)) else y14 i);
  let y18 : Int32 → Int32 := (fun i => if i = (7 : Int32) then (nar .char (69 : Int32)) else y16 i);
  let y20 : Int32 → Int32 := (fun i => if i = (8 : Int32) then (nar .char (43 : Int32)) else y18 i);
  let y22 : Int32 → Int32 := (fun i => if i = (9 : Int32) then (nar .char (45 : Int32)) else y20 i);
  let y24 : Int32 → Int32 := (fun i => if i = (10 : Int32) then (nar .char (47 : Int32)) else y22 i);
  let y26 : Int32 → Int32 := (fun i => if i = (11 : Int32) then (nar .char (58 : Int32)) else y24 i);
  let y28 : Int32 → Int32 := (fun i => if i = (12 : Int32) then (nar .char (68 : Int32)) else y26 i);
  let y30 : Int32 → Int32 := (fun i => if i = (13 : Int32) then (nar .char (100 : Int32)) else y28 i);
  let y32 : Int32 → Int32 := (fun i => if i = (14 : Int32) then (nar .char (32 : Int32)) else y30 i);
  let y34 : Int32 → Int32 := (fun i => if i = (15 : Int32) then (nar .char (48 : Int32)) else y32 i);
  y34
def own_pick (p1 p2 : Int32) : Int32 := if p2 = (0 : Int32) then (nar .char (p1.toUInt32.toUInt16.toUInt32.toInt32)) else (nar .char (own_alpha (p1 &&& (15 : Int32))))
theorem d1_0 : decode method_3_code 0 = .ok (.iload_n 1, 1) := by decide +kernel
theorem d1_1 : decode method_3_code 1 = .ok (.ifCond .ne 6, 3) := by decide +kernel
theorem d1_4 : decode method_3_code 4 = .ok (.iload_n 0, 1) := by decide +kernel
theorem d1_5 : decode method_3_code 5 = .ok (.i2c, 1) := by decide +kernel
theorem d1_6 : decode method_3_code 6 = .ok (.ireturn, 1) := by decide +kernel
theorem d1_7 : decode method_3_code 7 = .ok (.bipush 16, 2) := by decide +kernel
theorem d1_9 : decode method_3_code 9 = .ok (.newarray .char, 2) := by decide +kernel
theorem d1_11 : decode method_3_code 11 = .ok (.dup, 1) := by decide +kernel
theorem d1_12 : decode method_3_code 12 = .ok (.iconst 0, 1) := by decide +kernel
theorem d1_13 : decode method_3_code 13 = .ok (.bipush 48, 2) := by decide +kernel
theorem d1_15 : decode method_3_code 15 = .ok (.castore, 1) := by decide +kernel
theorem d1_16 : decode method_3_code 16 = .ok (.dup, 1) := by decide +kernel
theorem d1_17 : decode method_3_code 17 = .ok (.iconst 1, 1) := by decide +kernel
theorem d1_18 : decode method_3_code 18 = .ok (.bipush 49, 2) := by decide +kernel
theorem d1_20 : decode method_3_code 20 = .ok (.castore, 1) := by decide +kernel
theorem d1_21 : decode method_3_code 21 = .ok (.dup, 1) := by decide +kernel
theorem d1_22 : decode method_3_code 22 = .ok (.iconst 2, 1) := by decide +kernel
theorem d1_23 : decode method_3_code 23 = .ok (.bipush 53, 2) := by decide +kernel
theorem d1_25 : decode method_3_code 25 = .ok (.castore, 1) := by decide +kernel
theorem d1_26 : decode method_3_code 26 = .ok (.dup, 1) := by decide +kernel
theorem d1_27 : decode method_3_code 27 = .ok (.iconst 3, 1) := by decide +kernel
theorem d1_28 : decode method_3_code 28 = .ok (.bipush 57, 2) := by decide +kernel
theorem d1_30 : decode method_3_code 30 = .ok (.castore, 1) := by decide +kernel
theorem d1_31 : decode method_3_code 31 = .ok (.dup, 1) := by decide +kernel
theorem d1_32 : decode method_3_code 32 = .ok (.iconst 4, 1) := by decide +kernel
theorem d1_33 : decode method_3_code 33 = .ok (.bipush 46, 2) := by decide +kernel
theorem d1_35 : decode method_3_code 35 = .ok (.castore, 1) := by decide +kernel
theorem d1_36 : decode method_3_code 36 = .ok (.dup, 1) := by decide +kernel
theorem d1_37 : decode method_3_code 37 = .ok (.iconst 5, 1) := by decide +kernel
theorem d1_38 : decode method_3_code 38 = .ok (.bipush 46, 2) := by decide +kernel
theorem d1_40 : decode method_3_code 40 = .ok (.castore, 1) := by decide +kernel
theorem d1_41 : decode method_3_code 41 = .ok (.dup, 1) := by decide +kernel
theorem d1_42 : decode method_3_code 42 = .ok (.bipush 6, 2) := by decide +kernel
theorem d1_44 : decode method_3_code 44 = .ok (.bipush 101, 2) := by decide +kernel
theorem d1_46 : decode method_3_code 46 = .ok (.castore, 1) := by decide +kernel
theorem d1_47 : decode method_3_code 47 = .ok (.dup, 1) := by decide +kernel
theorem d1_48 : decode method_3_code 48 = .ok (.bipush 7, 2) := by decide +kernel
theorem d1_50 : decode method_3_code 50 = .ok (.bipush 69, 2) := by decide +kernel
theorem d1_52 : decode method_3_code 52 = .ok (.castore, 1) := by decide +kernel
theorem d1_53 : decode method_3_code 53 = .ok (.dup, 1) := by decide +kernel
theorem d1_54 : decode method_3_code 54 = .ok (.bipush 8, 2) := by decide +kernel
theorem d1_56 : decode method_3_code 56 = .ok (.bipush 43, 2) := by decide +kernel
theorem d1_58 : decode method_3_code 58 = .ok (.castore, 1) := by decide +kernel
theorem d1_59 : decode method_3_code 59 = .ok (.dup, 1) := by decide +kernel
theorem d1_60 : decode method_3_code 60 = .ok (.bipush 9, 2) := by decide +kernel
theorem d1_62 : decode method_3_code 62 = .ok (.bipush 45, 2) := by decide +kernel
theorem d1_64 : decode method_3_code 64 = .ok (.castore, 1) := by decide +kernel
theorem d1_65 : decode method_3_code 65 = .ok (.dup, 1) := by decide +kernel
theorem d1_66 : decode method_3_code 66 = .ok (.bipush 10, 2) := by decide +kernel
theorem d1_68 : decode method_3_code 68 = .ok (.bipush 47, 2) := by decide +kernel
theorem d1_70 : decode method_3_code 70 = .ok (.castore, 1) := by decide +kernel
theorem d1_71 : decode method_3_code 71 = .ok (.dup, 1) := by decide +kernel
theorem d1_72 : decode method_3_code 72 = .ok (.bipush 11, 2) := by decide +kernel
theorem d1_74 : decode method_3_code 74 = .ok (.bipush 58, 2) := by decide +kernel
theorem d1_76 : decode method_3_code 76 = .ok (.castore, 1) := by decide +kernel
theorem d1_77 : decode method_3_code 77 = .ok (.dup, 1) := by decide +kernel
theorem d1_78 : decode method_3_code 78 = .ok (.bipush 12, 2) := by decide +kernel
theorem d1_80 : decode method_3_code 80 = .ok (.bipush 68, 2) := by decide +kernel
theorem d1_82 : decode method_3_code 82 = .ok (.castore, 1) := by decide +kernel
theorem d1_83 : decode method_3_code 83 = .ok (.dup, 1) := by decide +kernel
theorem d1_84 : decode method_3_code 84 = .ok (.bipush 13, 2) := by decide +kernel
theorem d1_86 : decode method_3_code 86 = .ok (.bipush 100, 2) := by decide +kernel
theorem d1_88 : decode method_3_code 88 = .ok (.castore, 1) := by decide +kernel
theorem d1_89 : decode method_3_code 89 = .ok (.dup, 1) := by decide +kernel
theorem d1_90 : decode method_3_code 90 = .ok (.bipush 14, 2) := by decide +kernel
theorem d1_92 : decode method_3_code 92 = .ok (.bipush 32, 2) := by decide +kernel
theorem d1_94 : decode method_3_code 94 = .ok (.castore, 1) := by decide +kernel
theorem d1_95 : decode method_3_code 95 = .ok (.dup, 1) := by decide +kernel
theorem d1_96 : decode method_3_code 96 = .ok (.bipush 15, 2) := by decide +kernel
theorem d1_98 : decode method_3_code 98 = .ok (.bipush 48, 2) := by decide +kernel
theorem d1_100 : decode method_3_code 100 = .ok (.castore, 1) := by decide +kernel
theorem d1_101 : decode method_3_code 101 = .ok (.astore_n 2, 1) := by decide +kernel
theorem d1_102 : decode method_3_code 102 = .ok (.aload_n 2, 1) := by decide +kernel
theorem d1_103 : decode method_3_code 103 = .ok (.iload_n 0, 1) := by decide +kernel
theorem d1_104 : decode method_3_code 104 = .ok (.bipush 15, 2) := by decide +kernel
theorem d1_106 : decode method_3_code 106 = .ok (.iand, 1) := by decide +kernel
theorem d1_107 : decode method_3_code 107 = .ok (.caload, 1) := by decide +kernel
theorem d1_108 : decode method_3_code 108 = .ok (.ireturn, 1) := by decide +kernel
theorem pn_1 : plainName "com/example/prewrm/prewrm/io/CsvFieldsIsUnsignedDecimalPinLaw" = true := by first | (simp [plainName, overriddenIn]; done) | decide +kernel
theorem ef_1 (m : MethodId) (p1 : Int32) (p2 : Int32) : entryFrame m #[(.int p1), (.int p2)] 3 = mkF m 0 #[.val (.int p1), .val (.int p2), .unset] [] := by first | (simp [entryFrame, mkF, argsToLocals, Value.category]; done) | rfl
def Q1 (Z : State) (p1 : Int32) (p2 : Int32)  (h0 : Heap) (n0 : Nat) (v : Option Value) (h : Heap) (L : List Loc) : Prop := v = some (.int (own_pick p1 p2)) ∧ Fr n0 L ∧ Keep h0 h ([] : List Addr)
set_option maxRecDepth 65536 in
set_option maxHeartbeats 40000000 in
theorem rm1 (l : Launch) (Z : State) (a0 : Array Value) (hw : ∀ d ∈ tables_1, d.before a0 Z = true) (ws : List Jvm.Cond) (p1 : Int32) (p2 : Int32)  (h0 : Heap) (n0 : Nat) (Z0 : n0 ≤ h0.size) :
    MetFree l (⟨"com/example/prewrm/prewrm/io/CsvFieldsIsUnsignedDecimalPinLaw", "pick", "(IZ)C"⟩ : MethodName) (head1 (Jvm.Cond.code (⟨"com/example/prewrm/prewrm/io/CsvFieldsIsUnsignedDecimalPinLaw", "pick", "(IZ)C"⟩ : MethodName) method_3_code 3 (some .char) :: ws) ({ frames := 0, cells := 1, slots := 16, locals := 0 } : Room)) (fun a U => a = #[(.int p1), (.int p2)] ∧ Z.Warmed39 U.vm ∧ U.heap = h0) (fun _ _ _ _ _ => True) (fun _ U o U' => ∃ v L, o = .returned v ∧ Q1 Z p1 p2 h0 n0 v U'.heap L ∧ FrameEnd U o U' L ({ frames := 0, cells := 1, slots := 16, locals := 0 } : Room).cells ({ frames := 0, cells := 1, slots := 16, locals := 0 } : Room).slots) := by
  refine MetFree.of_bodySF (plainFor_of_name pn_1) hisR ?_
  intro p e s m args below meth c s₁ Bd hml0 hP hK
  obtain ⟨rfl, hZ, hh⟩ := hP
  have hx := Bd.exec
  have hby := Bd.bytes
  have hml : c.maxLocals = 3 := hml0
  have hown : s.vm.findClass "com/example/prewrm/prewrm/io/CsvFieldsIsUnsignedDecimalPinLaw" = some m.cls := findClass_of_methodNamed Bd.named
  have hnm := (name_of_methodNamed Bd.named Bd.method).1
  have X0 : Stand p l e ({ frames := 0, cells := 1, slots := 16, locals := 0 } : Room) s m #[(.int p1), (.int p2)] below meth c s₁ [] 0 0 := Stand.of_body Bd
  have e0 : s₁.heap = h0 := by rw [← hh, Bd.state]; rfl
  have N0 := Fr.nil n0
  have pre0 : ∀ t, Steps p.tables e below (s₁.setTop (mkF m 0 #[.val (.int p1), .val (.int p2), .unset] [])) t → Steps p.tables e below (s₁.setTop (entryFrame m #[(.int p1), (.int p2)] 3)) t := fun t k => castTop (ef_1 m p1 p2) k
  have K0 := Keep.refl h0 ([] : List Addr)
  have pre1 : ∀ t, Steps p.tables e below (s₁.setTop (mkF m 1 #[.val (.int p1), .val (.int p2), .unset] [(.int p2)])) t → Steps p.tables e below (s₁.setTop (entryFrame m #[(.int p1), (.int p2)] 3)) t := fun t k => pre0 t (by
    show Steps p.tables e below (s₁.setTop (mkF m 0 #[.val (.int p1), .val (.int p2), .unset] [])) _
    refine XS.iloadN X0.here hx rfl (hb hby d1_0) rfl ?_
    exact k)
  by_cases hc2 : p2 = (0 : Int32)
  · obtain ⟨fs, hr, hrun, hended, hW, hsame⟩ := X0.leave (v := some (.int (nar .char (p1.toUInt32.toUInt16.toUInt32.toInt32)))) (fun h => by rw [Bd.returns] at h; cases h)
    refine ⟨_, _, pre1 _ ?_, hrun, hended, _, _, rfl, ?_, ⟨_, rfl⟩, hW, hsame.mono (by decide) (by decide)⟩
    · show Steps p.tables e below (s₁.setTop (mkF m 1 #[.val (.int p1), .val (.int p2), .unset] [(.int p2)])) _
      refine XS.ifNo X0.here hx rfl (hb hby d1_1) rfl ((if0 _ _).trans (teq hc2).2) ?_
      show Steps p.tables e below (s₁.setTop (mkF m 4 #[.val (.int p1), .val (.int p2), .unset] [])) _
      refine XS.iloadN X0.here hx rfl (hb hby d1_4) rfl ?_
      show Steps p.tables e below (s₁.setTop (mkF m 5 #[.val (.int p1), .val (.int p2), .unset] [(.int p1)])) _
      refine XS.i2c X0.here hx rfl (hb hby d1_5) rfl ?_
      show Steps p.tables e below (s₁.setTop (mkF m 6 #[.val (.int p1), .val (.int p2), .unset] [(.int (p1.toUInt32.toUInt16.toUInt32.toInt32))])) _
      exact retN X0 hx (t := .char) Bd.returns (by simp) (hb hby d1_6) hr
    · show Q1 Z p1 p2 h0 n0 _ s₁.heap _
      rw [e0]
      exact ⟨congrArg (fun z => some (Value.int z)) (if_pos hc2).symm, N0, K0⟩
  · obtain ⟨T3, h3, k3, X3, e3, E3, Ax3, st3⟩ := newP X0 hx hZ (hw _ (List.mem_of_getElem? (i := 0) rfl)) e0 (g := (mkF m 9 #[.val (.int p1), .val (.int p2), .unset] [(.int (16 : Int32))])) rfl (hb hby d1_9) rfl (by decide) (cap := 16) (by decide) (by decide) (by decide) (by decide)
    obtain ⟨b3, g3⟩ : ∃ z, z = h0.size := ⟨_, rfl⟩
    rw [← g3] at Ax3 st3
    have g_b3 : n0 ≤ b3 := Nat.le_trans Z0 (Nat.le_of_eq g3.symm)
    have sz_b3 : h0.size ≤ b3 := Nat.le_trans K0.1 (Nat.le_of_eq g3.symm)
    have K3 := K0.ext E3
    have Zs3 := Nat.le_trans Z0 E3.1
    have A_b3_3 : own_A Z h3 b3 .char (16 : Int32) (fun i => .int ((fun _ => (0 : Int32)) i)) := own_A_new Ax3 (by decide)
    obtain ⟨cl5, Ar5, Sz5, Mz5, Hz5⟩ := id A_b3_3
    have hin4 := inb_of (j := (0 : Int32)) Sz5 ⟨by decide, by decide⟩
    obtain ⟨T4, h4, X4, e4, W4, st4⟩ := stC X3 hx hZ e3 Ar5 (j := (0 : Int32)) hin4 (g := (mkF m 15 #[.val (.int p1), .val (.int p2), .unset] [(.int (48 : Int32)), (.int (0 : Int32)), (.ref b3), (.ref b3)])) rfl rfl (hb hby d1_15)
    obtain ⟨y4, hy4⟩ : ∃ yy_ : Int32 → Int32, yy_ = fun i => if i = (0 : Int32) then (nar .char (48 : Int32)) else (fun _ => (0 : Int32)) i := ⟨_, rfl⟩
    have K4 := K3.wr W4 (Or.inr sz_b3)
    have Zs4 := Nat.le_trans Zs3 (Keep.of_wr W4).1
    have N4 := Fr.snoc X4 N0 g_b3
    have A_b3_4 : own_A Z h4 b3 .char (16 : Int32) (fun i => .int (y4 i)) := by subst hy4; exact own_A_set Ar5 Sz5 Mz5 Hz5 hin4 W4 (own_setI (y := (fun _ => (0 : Int32))) (j := (0 : Int32)) (x := (nar .char (48 : Int32)))) (own_setI' (y := (fun _ => (0 : Int32))) (j := (0 : Int32)) (x := (nar .char (48 : Int32))))
    obtain ⟨cl7, Ar7, Sz7, Mz7, Hz7⟩ := id A_b3_4
    have hin6 := inb_of (j := (1 : Int32)) Sz7 ⟨by decide, by decide⟩
    obtain ⟨T6, h6, X6, e6, W6, st6⟩ := stC X4 hx hZ e4 Ar7 (j := (1 : Int32)) hin6 (g := (mkF m 20 #[.val (.int p1), .val (.int p2), .unset] [(.int (49 : Int32)), (.int (1 : Int32)), (.ref b3), (.ref b3)])) rfl rfl (hb hby d1_20)
    obtain ⟨y6, hy6⟩ : ∃ yy_ : Int32 → Int32, yy_ = fun i => if i = (1 : Int32) then (nar .char (49 : Int32)) else y4 i := ⟨_, rfl⟩
    have K6 := K4.wr W6 (Or.inr sz_b3)
    have Zs6 := Nat.le_trans Zs4 (Keep.of_wr W6).1
    have N6 := Fr.snoc X6 N4 g_b3
    have A_b3_6 : own_A Z h6 b3 .char (16 : Int32) (fun i => .int (y6 i)) := by subst hy6; exact own_A_set Ar7 Sz7 Mz7 Hz7 hin6 W6 (own_setI (y := y4) (j := (1 : Int32)) (x := (nar .char (49 : Int32)))) (own_setI' (y := y4) (j := (1 : Int32)) (x := (nar .char (49 : Int32))))
    obtain ⟨cl9, Ar9, Sz9, Mz9, Hz9⟩ := id A_b3_6
    have hin8 := inb_of (j := (2 : Int32)) Sz9 ⟨by decide, by decide⟩
    obtain ⟨T8, h8, X8, e8, W8, st8⟩ := stC X6 hx hZ e6 Ar9 (j := (2 : Int32)) hin8 (g := (mkF m 25 #[.val (.int p1), .val (.int p2), .unset] [(.int (53 : Int32)), (.int (2 : Int32)), (.ref b3), (.ref b3)])) rfl rfl (hb hby d1_25)
    obtain ⟨y8, hy8⟩ : ∃ yy_ : Int32 → Int32, yy_ = fun i => if i = (2 : Int32) then (nar .char (53 : Int32)) else y6 i := ⟨_, rfl⟩
    have K8 := K6.wr W8 (Or.inr sz_b3)
    have Zs8 := Nat.le_trans Zs6 (Keep.of_wr W8).1
    have N8 := Fr.snoc X8 N6 g_b3
    have A_b3_8 : own_A Z h8 b3 .char (16 : Int32) (fun i => .int (y8 i)) := by subst hy8; exact own_A_set Ar9 Sz9 Mz9 Hz9 hin8 W8 (own_setI (y := y6) (j := (2 : Int32)) (x := (nar .char (53 : Int32)))) (own_setI' (y := y6) (j := (2 : Int32)) (x := (nar .char (53 : Int32))))
    obtain ⟨cl11, Ar11, Sz11, Mz11, Hz11⟩ := id A_b3_8
    have hin10 := inb_of (j := (3 : Int32)) Sz11 ⟨by decide, by decide⟩
    obtain ⟨T10, h10, X10, e10, W10, st10⟩ := stC X8 hx hZ e8 Ar11 (j := (3 : Int32)) hin10 (g := (mkF m 30 #[.val (.int p1), .val (.int p2), .unset] [(.int (57 : Int32)), (.int (3 : Int32)), (.ref b3), (.ref b3)])) rfl rfl (hb hby d1_30)
    obtain ⟨y10, hy10⟩ : ∃ yy_ : Int32 → Int32, yy_ = fun i => if i = (3 : Int32) then (nar .char (57 : Int32)) else y8 i := ⟨_, rfl⟩
    have K10 := K8.wr W10 (Or.inr sz_b3)
    have Zs10 := Nat.le_trans Zs8 (Keep.of_wr W10).1
    have N10 := Fr.snoc X10 N8 g_b3
    have A_b3_10 : own_A Z h10 b3 .char (16 : Int32) (fun i => .int (y10 i)) := by subst hy10; exact own_A_set Ar11 Sz11 Mz11 Hz11 hin10 W10 (own_setI (y := y8) (j := (3 : Int32)) (x := (nar .char (57 : Int32)))) (own_setI' (y := y8) (j := (3 : Int32)) (x := (nar .char (57 : Int32))))
    obtain ⟨cl13, Ar13, Sz13, Mz13, Hz13⟩ := id A_b3_10
    have hin12 := inb_of (j := (4 : Int32)) Sz13 ⟨by decide, by decide⟩
    obtain ⟨T12, h12, X12, e12, W12, st12⟩ := stC X10 hx hZ e10 Ar13 (j := (4 : Int32)) hin12 (g := (mkF m 35 #[.val (.int p1), .val (.int p2), .unset] [(.int (46 : Int32)), (.int (4 : Int32)), (.ref b3), (.ref b3)])) rfl rfl (hb hby d1_35)
    obtain ⟨y12, hy12⟩ : ∃ yy_ : Int32 → Int32, yy_ = fun i => if i = (4 : Int32) then (nar .char (46 : Int32)) else y10 i := ⟨_, rfl⟩
    have K12 := K10.wr W12 (Or.inr sz_b3)
    have Zs12 := Nat.le_trans Zs10 (Keep.of_wr W12).1
    have N12 := Fr.snoc X12 N10 g_b3
    have A_b3_12 : own_A Z h12 b3 .char (16 : Int32) (fun i => .int (y12 i)) := by subst hy12; exact own_A_set Ar13 Sz13 Mz13 Hz13 hin12 W12 (own_setI (y := y10) (j := (4 : Int32)) (x := (nar .char (46 : Int32)))) (own_setI' (y := y10) (j := (4 : Int32)) (x := (nar .char (46 : Int32))))
    obtain ⟨cl15, Ar15, Sz15, Mz15, Hz15⟩ := id A_b3_12
    have hin14 := inb_of (j := (5 : Int32)) Sz15 ⟨by decide, by decide⟩
    obtain ⟨T14, h14, X14, e14, W14, st14⟩ := stC X12 hx hZ e12 Ar15 (j := (5 : Int32)) hin14 (g := (mkF m 40 #[.val (.int p1), .val (.int p2), .unset] [(.int (46 : Int32)), (.int (5 : Int32)), (.ref b3), (.ref b3)])) rfl rfl (hb hby d1_40)
    obtain ⟨y14, hy14⟩ : ∃ yy_ : Int32 → Int32, yy_ = fun i => if i = (5 : Int32) then (nar .char (46 : Int32)) else y12 i := ⟨_, rfl⟩
    have K14 := K12.wr W14 (Or.inr sz_b3)
    have Zs14 := Nat.le_trans Zs12 (Keep.of_wr W14).1
    have N14 := Fr.snoc X14 N12 g_b3
    have A_b3_14 : own_A Z h14 b3 .char (16 : Int32) (fun i => .int (y14 i)) := by subst hy14; exact own_A_set Ar15 Sz15 Mz15 Hz15 hin14 W14 (own_setI (y := y12) (j := (5 : Int32)) (x := (nar .char (46 : Int32)))) (own_setI' (y := y12) (j := (5 : Int32)) (x := (nar .char (46 : Int32))))
    obtain ⟨cl17, Ar17, Sz17, Mz17, Hz17⟩ := id A_b3_14
    have hin16 := inb_of (j := (6 : Int32)) Sz17 ⟨by decide, by decide⟩
    obtain ⟨T16, h16, X16, e16, W16, st16⟩ := stC X14 hx hZ e14 Ar17 (j := (6 : Int32)) hin16 (g := (mkF m 46 #[.val (.int p1), .val (.int p2), .unset] [(.int (101 : Int32)), (.int (6 : Int32)), (.ref b3), (.ref b3)])) rfl rfl (hb hby d1_46)
    obtain ⟨y16, hy16⟩ : ∃ yy_ : Int32 → Int32, yy_ = fun i => if i = (6 : Int32) then (nar .char (101 : Int32)) else y14 i := ⟨_, rfl⟩
    have K16 := K14.wr W16 (Or.inr sz_b3)
    have Zs16 := Nat.le_trans Zs14 (Keep.of_wr W16).1
    have N16 := Fr.snoc X16 N14 g_b3
    have A_b3_16 : own_A Z h16 b3 .char (16 : Int32) (fun i => .int (y16 i)) := by subst hy16; exact own_A_set Ar17 Sz17 Mz17 Hz17 hin16 W16 (own_setI (y := y14) (j := (6 : Int32)) (x := (nar .char (101 : Int32)))) (own_setI' (y := y14) (j := (6 : Int32)) (x := (nar .char (101 : Int32))))
    obtain ⟨cl19, Ar19, Sz19, Mz19, Hz19⟩ := id A_b3_16
    have hin18 := inb_of (j := (7 : Int32)) Sz19 ⟨by decide, by decide⟩
    obtain ⟨T18, h18, X18, e18, W18, st18⟩ := stC X16 hx hZ e16 Ar19 (j := (7 : Int32)) hin18 (g := (mkF m 52 #[.val (.int p1), .val (.int p2), .unset] [(.int (69 : Int32)), (.int (7 : Int32)), (.ref b3), (.ref b3)])) rfl rfl (hb hby d1_52)
    obtain ⟨y18, hy18⟩ : ∃ yy_ : Int32 → Int32, yy_ = fun i => if i = (7 : Int32) then (nar .char (69 : Int32)) else y16 i := ⟨_, rfl⟩
    have K18 := K16.wr W18 (Or.inr sz_b3)
    have Zs18 := Nat.le_trans Zs16 (Keep.of_wr W18).1
    have N18 := Fr.snoc X18 N16 g_b3
    have A_b3_18 : own_A Z h18 b3 .char (16 : Int32) (fun i => .int (y18 i)) := by subst hy18; exact own_A_set Ar19 Sz19 Mz19 Hz19 hin18 W18 (own_setI (y := y16) (j := (7 : Int32)) (x := (nar .char (69 : Int32)))) (own_setI' (y := y16) (j := (7 : Int32)) (x := (nar .char (69 : Int32))))
    obtain ⟨cl21, Ar21, Sz21, Mz21, Hz21⟩ := id A_b3_18
    have hin20 := inb_of (j := (8 : Int32)) Sz21 ⟨by decide, by decide⟩
    obtain ⟨T20, h20, X20, e20, W20, st20⟩ := stC X18 hx hZ e18 Ar21 (j := (8 : Int32)) hin20 (g := (mkF m 58 #[.val (.int p1), .val (.int p2), .unset] [(.int (43 : Int32)), (.int (8 : Int32)), (.ref b3), (.ref b3)])) rfl rfl (hb hby d1_58)
    obtain ⟨y20, hy20⟩ : ∃ yy_ : Int32 → Int32, yy_ = fun i => if i = (8 : Int32) then (nar .char (43 : Int32)) else y18 i := ⟨_, rfl⟩
    have K20 := K18.wr W20 (Or.inr sz_b3)
    have Zs20 := Nat.le_trans Zs18 (Keep.of_wr W20).1
    have N20 := Fr.snoc X20 N18 g_b3
    have A_b3_20 : own_A Z h20 b3 .char (16 : Int32) (fun i => .int (y20 i)) := by subst hy20; exact own_A_set Ar21 Sz21 Mz21 Hz21 hin20 W20 (own_setI (y := y18) (j := (8 : Int32)) (x := (nar .char (43 : Int32)))) (own_setI' (y := y18) (j := (8 : Int32)) (x := (nar .char (43 : Int32))))
    obtain ⟨cl23, Ar23, Sz23, Mz23, Hz23⟩ := id A_b3_20
    have hin22 := inb_of (j := (9 : Int32)) Sz23 ⟨by decide, by decide⟩
    obtain ⟨T22, h22, X22, e22, W22, st22⟩ := stC X20 hx hZ e20 Ar23 (j := (9 : Int32)) hin22 (g := (mkF m 64 #[.val (.int p1), .val (.int p2), .unset] [(.int (45 : Int32)), (.int (9 : Int32)), (.ref b3), (.ref b3)])) rfl rfl (hb hby d1_64)
    obtain ⟨y22, hy22⟩ : ∃ yy_ : Int32 → Int32, yy_ = fun i => if i = (9 : Int32) then (nar .char (45 : Int32)) else y20 i := ⟨_, rfl⟩
    have K22 := K20.wr W22 (Or.inr sz_b3)
    have Zs22 := Nat.le_trans Zs20 (Keep.of_wr W22).1
    have N22 := Fr.snoc X22 N20 g_b3
    have A_b3_22 : own_A Z h22 b3 .char (16 : Int32) (fun i => .int (y22 i)) := by subst hy22; exact own_A_set Ar23 Sz23 Mz23 Hz23 hin22 W22 (own_setI (y := y20) (j := (9 : Int32)) (x := (nar .char (45 : Int32)))) (own_setI' (y := y20) (j := (9 : Int32)) (x := (nar .char (45 : Int32))))
    obtain ⟨cl25, Ar25, Sz25, Mz25, Hz25⟩ := id A_b3_22
    have hin24 := inb_of (j := (10 : Int32)) Sz25 ⟨by decide, by decide⟩
    obtain ⟨T24, h24, X24, e24, W24, st24⟩ := stC X22 hx hZ e22 Ar25 (j := (10 : Int32)) hin24 (g := (mkF m 70 #[.val (.int p1), .val (.int p2), .unset] [(.int (47 : Int32)), (.int (10 : Int32)), (.ref b3), (.ref b3)])) rfl rfl (hb hby d1_70)
    obtain ⟨y24, hy24⟩ : ∃ yy_ : Int32 → Int32, yy_ = fun i => if i = (10 : Int32) then (nar .char (47 : Int32)) else y22 i := ⟨_, rfl⟩
    have K24 := K22.wr W24 (Or.inr sz_b3)
    have Zs24 := Nat.le_trans Zs22 (Keep.of_wr W24).1
    have N24 := Fr.snoc X24 N22 g_b3
    have A_b3_24 : own_A Z h24 b3 .char (16 : Int32) (fun i => .int (y24 i)) := by subst hy24; exact own_A_set Ar25 Sz25 Mz25 Hz25 hin24 W24 (own_setI (y := y22) (j := (10 : Int32)) (x := (nar .char (47 : Int32)))) (own_setI' (y := y22) (j := (10 : Int32)) (x := (nar .char (47 : Int32))))
    obtain ⟨cl27, Ar27, Sz27, Mz27, Hz27⟩ := id A_b3_24
    have hin26 := inb_of (j := (11 : Int32)) Sz27 ⟨by decide, by decide⟩
    obtain ⟨T26, h26, X26, e26, W26, st26⟩ := stC X24 hx hZ e24 Ar27 (j := (11 : Int32)) hin26 (g := (mkF m 76 #[.val (.int p1), .val (.int p2), .unset] [(.int (58 : Int32)), (.int (11 : Int32)), (.ref b3), (.ref b3)])) rfl rfl (hb hby d1_76)
    obtain ⟨y26, hy26⟩ : ∃ yy_ : Int32 → Int32, yy_ = fun i => if i = (11 : Int32) then (nar .char (58 : Int32)) else y24 i := ⟨_, rfl⟩
    have K26 := K24.wr W26 (Or.inr sz_b3)
    have Zs26 := Nat.le_trans Zs24 (Keep.of_wr W26).1
    have N26 := Fr.snoc X26 N24 g_b3
    have A_b3_26 : own_A Z h26 b3 .char (16 : Int32) (fun i => .int (y26 i)) := by subst hy26; exact own_A_set Ar27 Sz27 Mz27 Hz27 hin26 W26 (own_setI (y := y24) (j := (11 : Int32)) (x := (nar .char (58 : Int32)))) (own_setI' (y := y24) (j := (11 : Int32)) (x := (nar .char (58 : Int32))))
    obtain ⟨cl29, Ar29, Sz29, Mz29, Hz29⟩ := id A_b3_26
    have hin28 := inb_of (j := (12 : Int32)) Sz29 ⟨by decide, by decide⟩
    obtain ⟨T28, h28, X28, e28, W28, st28⟩ := stC X26 hx hZ e26 Ar29 (j := (12 : Int32)) hin28 (g := (mkF m 82 #[.val (.int p1), .val (.int p2), .unset] [(.int (68 : Int32)), (.int (12 : Int32)), (.ref b3), (.ref b3)])) rfl rfl (hb hby d1_82)
    obtain ⟨y28, hy28⟩ : ∃ yy_ : Int32 → Int32, yy_ = fun i => if i = (12 : Int32) then (nar .char (68 : Int32)) else y26 i := ⟨_, rfl⟩
    have K28 := K26.wr W28 (Or.inr sz_b3)
    have Zs28 := Nat.le_trans Zs26 (Keep.of_wr W28).1
    have N28 := Fr.snoc X28 N26 g_b3
    have A_b3_28 : own_A Z h28 b3 .char (16 : Int32) (fun i => .int (y28 i)) := by subst hy28; exact own_A_set Ar29 Sz29 Mz29 Hz29 hin28 W28 (own_setI (y := y26) (j := (12 : Int32)) (x := (nar .char (68 : Int32)))) (own_setI' (y := y26) (j := (12 : Int32)) (x := (nar .char (68 : Int32))))
    obtain ⟨cl31, Ar31, Sz31, Mz31, Hz31⟩ := id A_b3_28
    have hin30 := inb_of (j := (13 : Int32)) Sz31 ⟨by decide, by decide⟩
    obtain ⟨T30, h30, X30, e30, W30, st30⟩ := stC X28 hx hZ e28 Ar31 (j := (13 : Int32)) hin30 (g := (mkF m 88 #[.val (.int p1), .val (.int p2), .unset] [(.int (100 : Int32)), (.int (13 : Int32)), (.ref b3), (.ref b3)])) rfl rfl (hb hby d1_88)
    obtain ⟨y30, hy30⟩ : ∃ yy_ : Int32 → Int32, yy_ = fun i => if i = (13 : Int32) then (nar .char (100 : Int32)) else y28 i := ⟨_, rfl⟩
    have K30 := K28.wr W30 (Or.inr sz_b3)
    have Zs30 := Nat.le_trans Zs28 (Keep.of_wr W30).1
    have N30 := Fr.snoc X30 N28 g_b3
    have A_b3_30 : own_A Z h30 b3 .char (16 : Int32) (fun i => .int (y30 i)) := by subst hy30; exact own_A_set Ar31 Sz31 Mz31 Hz31 hin30 W30 (own_setI (y := y28) (j := (13 : Int32)) (x := (nar .char (100 : Int32)))) (own_setI' (y := y28) (j := (13 : Int32)) (x := (nar .char (100 : Int32))))
    obtain ⟨cl33, Ar33, Sz33, Mz33, Hz33⟩ := id A_b3_30
    have hin32 := inb_of (j := (14 : Int32)) Sz33 ⟨by decide, by decide⟩
    obtain ⟨T32, h32, X32, e32, W32, st32⟩ := stC X30 hx hZ e30 Ar33 (j := (14 : Int32)) hin32 (g := (mkF m 94 #[.val (.int p1), .val (.int p2), .unset] [(.int (32 : Int32)), (.int (14 : Int32)), (.ref b3), (.ref b3)])) rfl rfl (hb hby d1_94)
    obtain ⟨y32, hy32⟩ : ∃ yy_ : Int32 → Int32, yy_ = fun i => if i = (14 : Int32) then (nar .char (32 : Int32)) else y30 i := ⟨_, rfl⟩
    have K32 := K30.wr W32 (Or.inr sz_b3)
    have Zs32 := Nat.le_trans Zs30 (Keep.of_wr W32).1
    have N32 := Fr.snoc X32 N30 g_b3
    have A_b3_32 : own_A Z h32 b3 .char (16 : Int32) (fun i => .int (y32 i)) := by subst hy32; exact own_A_set Ar33 Sz33 Mz33 Hz33 hin32 W32 (own_setI (y := y30) (j := (14 : Int32)) (x := (nar .char (32 : Int32)))) (own_setI' (y := y30) (j := (14 : Int32)) (x := (nar .char (32 : Int32))))
    obtain ⟨cl35, Ar35, Sz35, Mz35, Hz35⟩ := id A_b3_32
    have hin34 := inb_of (j := (15 : Int32)) Sz35 ⟨by decide, by decide⟩
    obtain ⟨T34, h34, X34, e34, W34, st34⟩ := stC X32 hx hZ e32 Ar35 (j := (15 : Int32)) hin34 (g := (mkF m 100 #[.val (.int p1), .val (.int p2), .unset] [(.int (48 : Int32)), (.int (15 : Int32)), (.ref b3), (.ref b3)])) rfl rfl (hb hby d1_100)
    obtain ⟨y34, hy34⟩ : ∃ yy_ : Int32 → Int32, yy_ = fun i => if i = (15 : Int32) then (nar .char (48 : Int32)) else y32 i := ⟨_, rfl⟩
    have K34 := K32.wr W34 (Or.inr sz_b3)
    have Zs34 := Nat.le_trans Zs32 (Keep.of_wr W34).1
    have N34 := Fr.snoc X34 N32 g_b3
    have A_b3_34 : own_A Z h34 b3 .char (16 : Int32) (fun i => .int (y34 i)) := by subst hy34; exact own_A_set Ar35 Sz35 Mz35 Hz35 hin34 W34 (own_setI (y := y32) (j := (15 : Int32)) (x := (nar .char (48 : Int32)))) (own_setI' (y := y32) (j := (15 : Int32)) (x := (nar .char (48 : Int32))))
    obtain ⟨cl36, Ar36, Sz36, Mz36, Hz36⟩ := id A_b3_34
    obtain ⟨fs, hr, hrun, hended, hW, hsame⟩ := X34.leave (v := some (.int (nar .char (y34 (p1 &&& (15 : Int32)))))) (fun h => by rw [Bd.returns] at h; cases h)
    refine ⟨_, _, pre1 _ ?_, hrun, hended, _, _, rfl, ?_, ⟨_, rfl⟩, hW, hsame.mono (by decide) (by decide)⟩
    · show Steps p.tables e below (s₁.setTop (mkF m 1 #[.val (.int p1), .val (.int p2), .unset] [(.int p2)])) _
      refine XS.ifYes X0.here hx rfl (pc0 := 1) (pc' := 7) rfl (hb hby d1_1) rfl ((if0 _ _).trans (feq hc2).2) (by decide) (by decide) ?_
      show Steps p.tables e below (s₁.setTop (mkF m 7 #[.val (.int p1), .val (.int p2), .unset] [])) _
      refine XS.bipush X0.here hx rfl (hb hby d1_7) ?_
      show Steps p.tables e below (s₁.setTop (mkF m 9 #[.val (.int p1), .val (.int p2), .unset] [(.int (16 : Int32))])) _
      refine st3 _ ?_
      show Steps p.tables e below (T3.setTop (mkF m 11 #[.val (.int p1), .val (.int p2), .unset] [(.ref b3)])) _
      refine XS.dup X3.here hx rfl (hb hby d1_11) rfl rfl ?_
      show Steps p.tables e below (T3.setTop (mkF m 12 #[.val (.int p1), .val (.int p2), .unset] [(.ref b3), (.ref b3)])) _
      refine XS.iconst X3.here hx rfl (hb hby d1_12) ?_
      show Steps p.tables e below (T3.setTop (mkF m 13 #[.val (.int p1), .val (.int p2), .unset] [(.int (0 : Int32)), (.ref b3), (.ref b3)])) _
      refine XS.bipush X3.here hx rfl (hb hby d1_13) ?_
      show Steps p.tables e below (T3.setTop (mkF m 15 #[.val (.int p1), .val (.int p2), .unset] [(.int (48 : Int32)), (.int (0 : Int32)), (.ref b3), (.ref b3)])) _
      refine st4 _ ?_
      show Steps p.tables e below (T4.setTop (mkF m 16 #[.val (.int p1), .val (.int p2), .unset] [(.ref b3)])) _
      refine XS.dup X4.here hx rfl (hb hby d1_16) rfl rfl ?_
      show Steps p.tables e below (T4.setTop (mkF m 17 #[.val (.int p1), .val (.int p2), .unset] [(.ref b3), (.ref b3)])) _
      refine XS.iconst X4.here hx rfl (hb hby d1_17) ?_
      show Steps p.tables e below (T4.setTop (mkF m 18 #[.val (.int p1), .val (.int p2), .unset] [(.int (1 : Int32)), (.ref b3), (.ref b3)])) _
      refine XS.bipush X4.here hx rfl (hb hby d1_18) ?_
      show Steps p.tables e below (T4.setTop (mkF m 20 #[.val (.int p1), .val (.int p2), .unset] [(.int (49 : Int32)), (.int (1 : Int32)), (.ref b3), (.ref b3)])) _
      refine st6 _ ?_
      show Steps p.tables e below (T6.setTop (mkF m 21 #[.val (.int p1), .val (.int p2), .unset] [(.ref b3)])) _
      refine XS.dup X6.here hx rfl (hb hby d1_21) rfl rfl ?_
      show Steps p.tables e below (T6.setTop (mkF m 22 #[.val (.int p1), .val (.int p2), .unset] [(.ref b3), (.ref b3)])) _
      refine XS.iconst X6.here hx rfl (hb hby d1_22) ?_
      show Steps p.tables e below (T6.setTop (mkF m 23 #[.val (.int p1), .val (.int p2), .unset] [(.int (2 : Int32)), (.ref b3), (.ref b3)])) _
      refine XS.bipush X6.here hx rfl (hb hby d1_23) ?_
      show Steps p.tables e below (T6.setTop (mkF m 25 #[.val (.int p1), .val (.int p2), .unset] [(.int (53 : Int32)), (.int (2 : Int32)), (.ref b3), (.ref b3)])) _
      refine st8 _ ?_
      show Steps p.tables e below (T8.setTop (mkF m 26 #[.val (.int p1), .val (.int p2), .unset] [(.ref b3)])) _
      refine XS.dup X8.here hx rfl (hb hby d1_26) rfl rfl ?_
      show Steps p.tables e below (T8.setTop (mkF m 27 #[.val (.int p1), .val (.int p2), .unset] [(.ref b3), (.ref b3)])) _
      refine XS.iconst X8.here hx rfl (hb hby d1_27) ?_
      show Steps p.tables e below (T8.setTop (mkF m 28 #[.val (.int p1), .val (.int p2), .unset] [(.int (3 : Int32)), (.ref b3), (.ref b3)])) _
      refine XS.bipush X8.here hx rfl (hb hby d1_28) ?_
      show Steps p.tables e below (T8.setTop (mkF m 30 #[.val (.int p1), .val (.int p2), .unset] [(.int (57 : Int32)), (.int (3 : Int32)), (.ref b3), (.ref b3)])) _
      refine st10 _ ?_
      show Steps p.tables e below (T10.setTop (mkF m 31 #[.val (.int p1), .val (.int p2), .unset] [(.ref b3)])) _
      refine XS.dup X10.here hx rfl (hb hby d1_31) rfl rfl ?_
      show Steps p.tables e below (T10.setTop (mkF m 32 #[.val (.int p1), .val (.int p2), .unset] [(.ref b3), (.ref b3)])) _
      refine XS.iconst X10.here hx rfl (hb hby d1_32) ?_
      show Steps p.tables e below (T10.setTop (mkF m 33 #[.val (.int p1), .val (.int p2), .unset] [(.int (4 : Int32)), (.ref b3), (.ref b3)])) _
      refine XS.bipush X10.here hx rfl (hb hby d1_33) ?_
      show Steps p.tables e below (T10.setTop (mkF m 35 #[.val (.int p1), .val (.int p2), .unset] [(.int (46 : Int32)), (.int (4 : Int32)), (.ref b3), (.ref b3)])) _
      refine st12 _ ?_
      show Steps p.tables e below (T12.setTop (mkF m 36 #[.val (.int p1), .val (.int p2), .unset] [(.ref b3)])) _
      refine XS.dup X12.here hx rfl (hb hby d1_36) rfl rfl ?_
      show Steps p.tables e below (T12.setTop (mkF m 37 #[.val (.int p1), .val (.int p2), .unset] [(.ref b3), (.ref b3)])) _
      refine XS.iconst X12.here hx rfl (hb hby d1_37) ?_
      show Steps p.tables e below (T12.setTop (mkF m 38 #[.val (.int p1), .val (.int p2), .unset] [(.int (5 : Int32)), (.ref b3), (.ref b3)])) _
      refine XS.bipush X12.here hx rfl (hb hby d1_38) ?_
      show Steps p.tables e below (T12.setTop (mkF m 40 #[.val (.int p1), .val (.int p2), .unset] [(.int (46 : Int32)), (.int (5 : Int32)), (.ref b3), (.ref b3)])) _
      refine st14 _ ?_
      show Steps p.tables e below (T14.setTop (mkF m 41 #[.val (.int p1), .val (.int p2), .unset] [(.ref b3)])) _
      refine XS.dup X14.here hx rfl (hb hby d1_41) rfl rfl ?_
      show Steps p.tables e below (T14.setTop (mkF m 42 #[.val (.int p1), .val (.int p2), .unset] [(.ref b3), (.ref b3)])) _
      refine XS.bipush X14.here hx rfl (hb hby d1_42) ?_
      show Steps p.tables e below (T14.setTop (mkF m 44 #[.val (.int p1), .val (.int p2), .unset] [(.int (6 : Int32)), (.ref b3), (.ref b3)])) _
      refine XS.bipush X14.here hx rfl (hb hby d1_44) ?_
      show Steps p.tables e below (T14.setTop (mkF m 46 #[.val (.int p1), .val (.int p2), .unset] [(.int (101 : Int32)), (.int (6 : Int32)), (.ref b3), (.ref b3)])) _
      refine st16 _ ?_
      show Steps p.tables e below (T16.setTop (mkF m 47 #[.val (.int p1), .val (.int p2), .unset] [(.ref b3)])) _
      refine XS.dup X16.here hx rfl (hb hby d1_47) rfl rfl ?_
      show Steps p.tables e below (T16.setTop (mkF m 48 #[.val (.int p1), .val (.int p2), .unset] [(.ref b3), (.ref b3)])) _
      refine XS.bipush X16.here hx rfl (hb hby d1_48) ?_
      show Steps p.tables e below (T16.setTop (mkF m 50 #[.val (.int p1), .val (.int p2), .unset] [(.int (7 : Int32)), (.ref b3), (.ref b3)])) _
      refine XS.bipush X16.here hx rfl (hb hby d1_50) ?_
      show Steps p.tables e below (T16.setTop (mkF m 52 #[.val (.int p1), .val (.int p2), .unset] [(.int (69 : Int32)), (.int (7 : Int32)), (.ref b3), (.ref b3)])) _
      refine st18 _ ?_
      show Steps p.tables e below (T18.setTop (mkF m 53 #[.val (.int p1), .val (.int p2), .unset] [(.ref b3)])) _
      refine XS.dup X18.here hx rfl (hb hby d1_53) rfl rfl ?_
      show Steps p.tables e below (T18.setTop (mkF m 54 #[.val (.int p1), .val (.int p2), .unset] [(.ref b3), (.ref b3)])) _
      refine XS.bipush X18.here hx rfl (hb hby d1_54) ?_
      show Steps p.tables e below (T18.setTop (mkF m 56 #[.val (.int p1), .val (.int p2), .unset] [(.int (8 : Int32)), (.ref b3), (.ref b3)])) _
      refine XS.bipush X18.here hx rfl (hb hby d1_56) ?_
      show Steps p.tables e below (T18.setTop (mkF m 58 #[.val (.int p1), .val (.int p2), .unset] [(.int (43 : Int32)), (.int (8 : Int32)), (.ref b3), (.ref b3)])) _
      refine st20 _ ?_
      show Steps p.tables e below (T20.setTop (mkF m 59 #[.val (.int p1), .val (.int p2), .unset] [(.ref b3)])) _
      refine XS.dup X20.here hx rfl (hb hby d1_59) rfl rfl ?_
      show Steps p.tables e below (T20.setTop (mkF m 60 #[.val (.int p1), .val (.int p2), .unset] [(.ref b3), (.ref b3)])) _
      refine XS.bipush X20.here hx rfl (hb hby d1_60) ?_
      show Steps p.tables e below (T20.setTop (mkF m 62 #[.val (.int p1), .val (.int p2), .unset] [(.int (9 : Int32)), (.ref b3), (.ref b3)])) _
      refine XS.bipush X20.here hx rfl (hb hby d1_62) ?_
      show Steps p.tables e below (T20.setTop (mkF m 64 #[.val (.int p1), .val (.int p2), .unset] [(.int (45 : Int32)), (.int (9 : Int32)), (.ref b3), (.ref b3)])) _
      refine st22 _ ?_
      show Steps p.tables e below (T22.setTop (mkF m 65 #[.val (.int p1), .val (.int p2), .unset] [(.ref b3)])) _
      refine XS.dup X22.here hx rfl (hb hby d1_65) rfl rfl ?_
      show Steps p.tables e below (T22.setTop (mkF m 66 #[.val (.int p1), .val (.int p2), .unset] [(.ref b3), (.ref b3)])) _
      refine XS.bipush X22.here hx rfl (hb hby d1_66) ?_
      show Steps p.tables e below (T22.setTop (mkF m 68 #[.val (.int p1), .val (.int p2), .unset] [(.int (10 : Int32)), (.ref b3), (.ref b3)])) _
      refine XS.bipush X22.here hx rfl (hb hby d1_68) ?_
      show Steps p.tables e below (T22.setTop (mkF m 70 #[.val (.int p1), .val (.int p2), .unset] [(.int (47 : Int32)), (.int (10 : Int32)), (.ref b3), (.ref b3)])) _
      refine st24 _ ?_
      show Steps p.tables e below (T24.setTop (mkF m 71 #[.val (.int p1), .val (.int p2), .unset] [(.ref b3)])) _
      refine XS.dup X24.here hx rfl (hb hby d1_71) rfl rfl ?_
      show Steps p.tables e below (T24.setTop (mkF m 72 #[.val (.int p1), .val (.int p2), .unset] [(.ref b3), (.ref b3)])) _
      refine XS.bipush X24.here hx rfl (hb hby d1_72) ?_
      show Steps p.tables e below (T24.setTop (mkF m 74 #[.val (.int p1), .val (.int p2), .unset] [(.int (11 : Int32)), (.ref b3), (.ref b3)])) _
      refine XS.bipush X24.here hx rfl (hb hby d1_74) ?_
      show Steps p.tables e below (T24.setTop (mkF m 76 #[.val (.int p1), .val (.int p2), .unset] [(.int (58 : Int32)), (.int (11 : Int32)), (.ref b3), (.ref b3)])) _
      refine st26 _ ?_
      show Steps p.tables e below (T26.setTop (mkF m 77 #[.val (.int p1), .val (.int p2), .unset] [(.ref b3)])) _
      refine XS.dup X26.here hx rfl (hb hby d1_77) rfl rfl ?_
      show Steps p.tables e below (T26.setTop (mkF m 78 #[.val (.int p1), .val (.int p2), .unset] [(.ref b3), (.ref b3)])) _
      refine XS.bipush X26.here hx rfl (hb hby d1_78) ?_
      show Steps p.tables e below (T26.setTop (mkF m 80 #[.val (.int p1), .val (.int p2), .unset] [(.int (12 : Int32)), (.ref b3), (.ref b3)])) _
      refine XS.bipush X26.here hx rfl (hb hby d1_80) ?_
      show Steps p.tables e below (T26.setTop (mkF m 82 #[.val (.int p1), .val (.int p2), .unset] [(.int (68 : Int32)), (.int (12 : Int32)), (.ref b3), (.ref b3)])) _
      refine st28 _ ?_
      show Steps p.tables e below (T28.setTop (mkF m 83 #[.val (.int p1), .val (.int p2), .unset] [(.ref b3)])) _
      refine XS.dup X28.here hx rfl (hb hby d1_83) rfl rfl ?_
      show Steps p.tables e below (T28.setTop (mkF m 84 #[.val (.int p1), .val (.int p2), .unset] [(.ref b3), (.ref b3)])) _
      refine XS.bipush X28.here hx rfl (hb hby d1_84) ?_
      show Steps p.tables e below (T28.setTop (mkF m 86 #[.val (.int p1), .val (.int p2), .unset] [(.int (13 : Int32)), (.ref b3), (.ref b3)])) _
      refine XS.bipush X28.here hx rfl (hb hby d1_86) ?_
      show Steps p.tables e below (T28.setTop (mkF m 88 #[.val (.int p1), .val (.int p2), .unset] [(.int (100 : Int32)), (.int (13 : Int32)), (.ref b3), (.ref b3)])) _
      refine st30 _ ?_
      show Steps p.tables e below (T30.setTop (mkF m 89 #[.val (.int p1), .val (.int p2), .unset] [(.ref b3)])) _
      refine XS.dup X30.here hx rfl (hb hby d1_89) rfl rfl ?_
      show Steps p.tables e below (T30.setTop (mkF m 90 #[.val (.int p1), .val (.int p2), .unset] [(.ref b3), (.ref b3)])) _
      refine XS.bipush X30.here hx rfl (hb hby d1_90) ?_
      show Steps p.tables e below (T30.setTop (mkF m 92 #[.val (.int p1), .val (.int p2), .unset] [(.int (14 : Int32)), (.ref b3), (.ref b3)])) _
      refine XS.bipush X30.here hx rfl (hb hby d1_92) ?_
      show Steps p.tables e below (T30.setTop (mkF m 94 #[.val (.int p1), .val (.int p2), .unset] [(.int (32 : Int32)), (.int (14 : Int32)), (.ref b3), (.ref b3)])) _
      refine st32 _ ?_
      show Steps p.tables e below (T32.setTop (mkF m 95 #[.val (.int p1), .val (.int p2), .unset] [(.ref b3)])) _
      refine XS.dup X32.here hx rfl (hb hby d1_95) rfl rfl ?_
      show Steps p.tables e below (T32.setTop (mkF m 96 #[.val (.int p1), .val (.int p2), .unset] [(.ref b3), (.ref b3)])) _
      refine XS.bipush X32.here hx rfl (hb hby d1_96) ?_
      show Steps p.tables e below (T32.setTop (mkF m 98 #[.val (.int p1), .val (.int p2), .unset] [(.int (15 : Int32)), (.ref b3), (.ref b3)])) _
      refine XS.bipush X32.here hx rfl (hb hby d1_98) ?_
      show Steps p.tables e below (T32.setTop (mkF m 100 #[.val (.int p1), .val (.int p2), .unset] [(.int (48 : Int32)), (.int (15 : Int32)), (.ref b3), (.ref b3)])) _
      refine st34 _ ?_
      show Steps p.tables e below (T34.setTop (mkF m 101 #[.val (.int p1), .val (.int p2), .unset] [(.ref b3)])) _
      refine XS.astoreN X34.here hx rfl (hb hby d1_101) rfl rfl (l' := #[.val (.int p1), .val (.int p2), .val (.ref b3)]) rfl ?_
      show Steps p.tables e below (T34.setTop (mkF m 102 #[.val (.int p1), .val (.int p2), .val (.ref b3)] [])) _
      refine XS.aloadN X34.here hx rfl (hb hby d1_102) rfl rfl ?_
      show Steps p.tables e below (T34.setTop (mkF m 103 #[.val (.int p1), .val (.int p2), .val (.ref b3)] [(.ref b3)])) _
      refine XS.iloadN X34.here hx rfl (hb hby d1_103) rfl ?_
      show Steps p.tables e below (T34.setTop (mkF m 104 #[.val (.int p1), .val (.int p2), .val (.ref b3)] [(.int p1), (.ref b3)])) _
      refine XS.bipush X34.here hx rfl (hb hby d1_104) ?_
      show Steps p.tables e below (T34.setTop (mkF m 106 #[.val (.int p1), .val (.int p2), .val (.ref b3)] [(.int (15 : Int32)), (.int p1), (.ref b3)])) _
      refine XS.iand X34.here hx rfl (hb hby d1_106) rfl ?_
      show Steps p.tables e below (T34.setTop (mkF m 107 #[.val (.int p1), .val (.int p2), .val (.ref b3)] [(.int (p1 &&& (15 : Int32))), (.ref b3)])) _
      refine X34.caload hx (j := (p1 &&& (15 : Int32))) (v := (.int (y34 (p1 &&& (15 : Int32))))) (by rw [e34]; exact Ar36.1) (State.isArrayOf_alike hZ.alike Ar36.2.1) Ar36.2.2 (inb_of Sz36 (own_a15 p1)) (Hz36 _ (inb_of Sz36 (own_a15 p1))) (g := (mkF m 107 #[.val (.int p1), .val (.int p2), .val (.ref b3)] [(.int (p1 &&& (15 : Int32))), (.ref b3)])) rfl rfl (hb hby d1_107) _ ?_
      show Steps p.tables e below (T34.setTop (mkF m 108 #[.val (.int p1), .val (.int p2), .val (.ref b3)] [(.int (y34 (p1 &&& (15 : Int32))))])) _
      exact retN X34 hx (t := .char) Bd.returns (by simp) (hb hby d1_108) hr
    · show Q1 Z p1 p2 h0 n0 _ T34.heap _
      rw [e34]
      subst hy4 hy6 hy8 hy10 hy12 hy14 hy16 hy18 hy20 hy22 hy24 hy26 hy28 hy30 hy32 hy34
      exact ⟨congrArg (fun z => some (Value.int z)) (if_neg hc2).symm, N34, K34⟩
theorem pd_18 : parseMethodDescriptor "(IZ)C" = some ⟨[.int, .boolean], some .char⟩ := by decide +kernel
theorem pd_19 : parseMethodDescriptor "([C)V" = some ⟨[(.array .char)], none⟩ := by decide +kernel
theorem pd_20 : parseMethodDescriptor "(ICZ)I" = some ⟨[.int, .char, .boolean], some .int⟩ := by decide +kernel
theorem pd_21 : parseMethodDescriptor "(Ljava/lang/String;I)Z" = some ⟨[(.object "java/lang/String"), .int], some .boolean⟩ := by decide +kernel
theorem pn_0 : plainName "com/example/prewrm/prewrm/io/CsvFieldsIsUnsignedDecimalPinLaw" = true := by first | (simp [plainName, overriddenIn]; done) | decide +kernel
theorem ef_0 (m : MethodId) (q1 : Int64) (q2 : Int64) (p3 : Int32) : entryFrame m #[(.long q1), (.long q2), (.int p3)] maxLocals = mkF m 0 #[.val (.long q1), .second, .val (.long q2), .second, .val (.int p3), .unset, .unset, .unset, .unset, .unset] [] := by first | (simp [entryFrame, mkF, argsToLocals, Value.category, maxLocals]; done) | rfl
def f0 (q1 : Int64) (q2 : Int64) (p3 : Int32) : Int32 :=
  let v4 : Int32 := (if (((q2.toUInt64 >>> ((32 : Int32) &&& 0x3f).toInt64.toUInt64).toInt64) &&& (1 : Int64)) = (0 : Int64) then (0 : Int32) else (1 : Int32));
  let y7 : Int32 → Int32 := (fun i => if i = (0 : Int32) then (nar .char (own_pick ((q1 &&& (65535 : Int64)).toInt32) v4)) else (fun _ => (0 : Int32)) i);
  let v11 : Int32 := (if (((q2.toUInt64 >>> ((33 : Int32) &&& 0x3f).toInt64.toUInt64).toInt64) &&& (1 : Int64)) = (0 : Int64) then (0 : Int32) else (1 : Int32));
  let y14 : Int32 → Int32 := (fun i => if i = (1 : Int32) then (nar .char (own_pick ((((q1.toUInt64 >>> ((16 : Int32) &&& 0x3f).toInt64.toUInt64).toInt64) &&& (65535 : Int64)).toInt32) v11)) else y7 i);
  let v18 : Int32 := (if (((q2.toUInt64 >>> ((34 : Int32) &&& 0x3f).toInt64.toUInt64).toInt64) &&& (1 : Int64)) = (0 : Int64) then (0 : Int32) else (1 : Int32));
  let y21 : Int32 → Int32 := (fun i => if i = (2 : Int32) then (nar .char (own_pick ((((q1.toUInt64 >>> ((32 : Int32) &&& 0x3f).toInt64.toUInt64).toInt64) &&& (65535 : Int64)).toInt32) v18)) else y14 i);
  let v25 : Int32 := (if (((q2.toUInt64 >>> ((35 : Int32) &&& 0x3f).toInt64.toUInt64).toInt64) &&& (1 : Int64)) = (0 : Int64) then (0 : Int32) else (1 : Int32));
  let y28 : Int32 → Int32 := (fun i => if i = (3 : Int32) then (nar .char (own_pick ((((q1.toUInt64 >>> ((48 : Int32) &&& 0x3f).toInt64.toUInt64).toInt64) &&& (65535 : Int64)).toInt32) v25)) else y21 i);
  let v32 : Int32 := (if (((q2.toUInt64 >>> ((36 : Int32) &&& 0x3f).toInt64.toUInt64).toInt64) &&& (1 : Int64)) = (0 : Int64) then (0 : Int32) else (1 : Int32));
  let y35 : Int32 → Int32 := (fun i => if i = (4 : Int32) then (nar .char (own_pick ((q2 &&& (65535 : Int64)).toInt32) v32)) else y28 i);
  let v39 : Int32 := (if (((q2.toUInt64 >>> ((37 : Int32) &&& 0x3f).toInt64.toUInt64).toInt64) &&& (1 : Int64)) = (0 : Int64) then (0 : Int32) else (1 : Int32));
  let y42 : Int32 → Int32 := (fun i => if i = (5 : Int32) then (nar .char (own_pick ((((q2.toUInt64 >>> ((16 : Int32) &&& 0x3f).toInt64.toUInt64).toInt64) &&& (65535 : Int64)).toInt32) v39)) else y35 i);
  let FR : Int32 := ((p3 &&& (2147483647 : Int32)) % (7 : Int32));
  let v49 : Int32 := (if (0 : Int32) < FR then (0 : Int32) else (1 : Int32));
  let S1 : Int32 := (f8 (0 : Int32) (y42 (0 : Int32)) v49);
  let v53 : Int32 := (if (1 : Int32) < FR then (0 : Int32) else (1 : Int32));
  let S2 : Int32 := (f8 S1 (y42 (1 : Int32)) v53);
  let v57 : Int32 := (if (2 : Int32) < FR then (0 : Int32) else (1 : Int32));
  let S3 : Int32 := (f8 S2 (y42 (2 : Int32)) v57);
  let v61 : Int32 := (if (3 : Int32) < FR then (0 : Int32) else (1 : Int32));
  let S4 : Int32 := (f8 S3 (y42 (3 : Int32)) v61);
  let v65 : Int32 := (if (4 : Int32) < FR then (0 : Int32) else (1 : Int32));
  let S5 : Int32 := (f8 S4 (y42 (4 : Int32)) v65);
  let v69 : Int32 := (if (5 : Int32) < FR then (0 : Int32) else (1 : Int32));
  let S6 : Int32 := (f8 S5 (y42 (5 : Int32)) v69);
  let v75 : Int32 := (if S6 = (1 : Int32) then (1 : Int32) else (if S6 = (3 : Int32) then (1 : Int32) else (if S6 = (6 : Int32) then (1 : Int32) else (0 : Int32))));
  let v79 : Int32 := (if (f10 FR y42) = v75 then (1 : Int32) else (0 : Int32));
  (nar .boolean v79)
def Q0 (Z : State) (q1 : Int64) (q2 : Int64) (p3 : Int32) (cs : Int32) (h0 : Heap) (n0 : Nat) (v : Option Value) (h : Heap) (L : List Loc) : Prop := v = some (.int (f0 q1 q2 p3)) ∧ Fr n0 L ∧ True
set_option maxRecDepth 65536 in
set_option maxHeartbeats 40000000 in
theorem rm0 (l : Launch) (Z : State) (a0 : Array Value) (hw : ∀ d ∈ tables_1, d.before a0 Z = true) (ws : List Jvm.Cond) (q1 : Int64) (q2 : Int64) (p3 : Int32) (cs : Int32) (h0 : Heap) (n0 : Nat) (Z0 : n0 ≤ h0.size) (hWd : own_W Z cs) (O0 : Old Z n0 h0) :
    MetFree l x (head1 (Jvm.Cond.code x code maxLocals ret :: ws) room_1) (fun a U => a = #[(.long q1), (.long q2), (.int p3)] ∧ Z.Warmed39 U.vm ∧ U.heap = h0) (fun _ _ _ _ _ => True) (fun _ U o U' => ∃ v L, o = .returned v ∧ Q0 Z q1 q2 p3 cs h0 n0 v U'.heap L ∧ FrameEnd U o U' L room_1.cells room_1.slots) := by
  refine MetFree.of_bodySF (plainFor_of_name pn_0) hisR ?_
  intro p e s m args below meth c s₁ Bd hml0 hP hK
  obtain ⟨rfl, hZ, hh⟩ := hP
  have hx := Bd.exec
  have hby := Bd.bytes
  have hml : c.maxLocals = 10 := hml0
  have hown : s.vm.findClass "com/example/prewrm/prewrm/io/CsvFieldsIsUnsignedDecimalPinLaw" = some m.cls := findClass_of_methodNamed Bd.named
  have hnm := (name_of_methodNamed Bd.named Bd.method).1
  have X0 : Stand p l e room_1 s m #[(.long q1), (.long q2), (.int p3)] below meth c s₁ [] 0 0 := Stand.of_body Bd
  have e0 : s₁.heap = h0 := by rw [← hh, Bd.state]; rfl
  have N0 := Fr.nil n0
  have pre0 : ∀ t, Steps p.tables e below (s₁.setTop (mkF m 0 #[.val (.long q1), .second, .val (.long q2), .second, .val (.int p3), .unset, .unset, .unset, .unset, .unset] [])) t → Steps p.tables e below (s₁.setTop (entryFrame m #[(.long q1), (.long q2), (.int p3)] maxLocals)) t := fun t k => castTop (ef_0 m q1 q2 p3) k
  have K0 := Keep.refl h0 ([] : List Addr)
  obtain ⟨T1, h1, k1, X1, e1, E1, Ax1, st1⟩ := newP X0 hx hZ (hw _ (List.mem_of_getElem? (i := 0) rfl)) e0 (g := (mkF m 2 #[.val (.long q1), .second, .val (.long q2), .second, .val (.int p3), .unset, .unset, .unset, .unset, .unset] [(.int (6 : Int32))])) rfl (hb hby at_2) rfl (by decide) (cap := 6) (by decide) (by decide) (by decide) (by decide)
  obtain ⟨b1, g1⟩ : ∃ z, z = h0.size := ⟨_, rfl⟩
  rw [← g1] at Ax1 st1
  have g_b1 : n0 ≤ b1 := Nat.le_trans Z0 (Nat.le_of_eq g1.symm)
  have sz_b1 : h0.size ≤ b1 := Nat.le_trans K0.1 (Nat.le_of_eq g1.symm)
  have K1 := K0.ext E1
  have Zs1 := Nat.le_trans Z0 E1.1
  have O1 := O0.ext E1
  have A_b1_1 : own_A Z h1 b1 .char (6 : Int32) (fun i => .int ((fun _ => (0 : Int32)) i)) := own_A_new Ax1 (by decide)
  have P_b1_1 : own_P (fun _ => (0 : Int32)) := own_P0
  obtain ⟨cl2, Ar2, Sz2, Mz2, Hz2⟩ := id A_b1_1
  obtain ⟨v4, hv4⟩ : ∃ z : Int32, z = (if (((q2.toUInt64 >>> ((32 : Int32) &&& 0x3f).toInt64.toUInt64).toInt64) &&& (1 : Int64)) = (0 : Int64) then (0 : Int32) else (1 : Int32)) := ⟨_, rfl⟩
  have pre5 : ∀ t, Steps p.tables e below (T1.setTop (mkF m 31 #[.val (.long q1), .second, .val (.long q2), .second, .val (.int p3), .val (.ref b1), .unset, .unset, .unset, .unset] [(.int v4), (.int ((q1 &&& (65535 : Int64)).toInt32)), (.int (0 : Int32)), (.ref b1)])) t → Steps p.tables e below (s₁.setTop (entryFrame m #[(.long q1), (.long q2), (.int p3)] maxLocals)) t := fun t k => pre0 t (by
    show Steps p.tables e below (s₁.setTop (mkF m 0 #[.val (.long q1), .second, .val (.long q2), .second, .val (.int p3), .unset, .unset, .unset, .unset, .unset] [])) _
    refine XS.bipush X0.here hx rfl (hb hby at_0) ?_
    show Steps p.tables e below (s₁.setTop (mkF m 2 #[.val (.long q1), .second, .val (.long q2), .second, .val (.int p3), .unset, .unset, .unset, .unset, .unset] [(.int (6 : Int32))])) _
    refine st1 _ ?_
    show Steps p.tables e below (T1.setTop (mkF m 4 #[.val (.long q1), .second, .val (.long q2), .second, .val (.int p3), .unset, .unset, .unset, .unset, .unset] [(.ref b1)])) _
    refine XS.astore X1.here hx rfl (hb hby at_4) rfl rfl (l' := #[.val (.long q1), .second, .val (.long q2), .second, .val (.int p3), .val (.ref b1), .unset, .unset, .unset, .unset]) rfl ?_
    show Steps p.tables e below (T1.setTop (mkF m 6 #[.val (.long q1), .second, .val (.long q2), .second, .val (.int p3), .val (.ref b1), .unset, .unset, .unset, .unset] [])) _
    refine XS.aload X1.here hx rfl (hb hby at_6) rfl rfl ?_
    show Steps p.tables e below (T1.setTop (mkF m 8 #[.val (.long q1), .second, .val (.long q2), .second, .val (.int p3), .val (.ref b1), .unset, .unset, .unset, .unset] [(.ref b1)])) _
    refine XS.iconst X1.here hx rfl (hb hby at_8) ?_
    show Steps p.tables e below (T1.setTop (mkF m 9 #[.val (.long q1), .second, .val (.long q2), .second, .val (.int p3), .val (.ref b1), .unset, .unset, .unset, .unset] [(.int (0 : Int32)), (.ref b1)])) _
    refine XS.lloadN X1.here hx rfl (hb hby at_9) rfl ?_
    show Steps p.tables e below (T1.setTop (mkF m 10 #[.val (.long q1), .second, .val (.long q2), .second, .val (.int p3), .val (.ref b1), .unset, .unset, .unset, .unset] [(.long q1), (.int (0 : Int32)), (.ref b1)])) _
    refine X1.ldc2Long hx hown (mvT hZ (hw _ (List.mem_of_getElem? (i := 1) rfl))) (g := (mkF m 10 #[.val (.long q1), .second, .val (.long q2), .second, .val (.int p3), .val (.ref b1), .unset, .unset, .unset, .unset] [(.long q1), (.int (0 : Int32)), (.ref b1)])) rfl (hb hby at_10) _ ?_
    show Steps p.tables e below (T1.setTop (mkF m 13 #[.val (.long q1), .second, .val (.long q2), .second, .val (.int p3), .val (.ref b1), .unset, .unset, .unset, .unset] [(.long (65535 : Int64)), (.long q1), (.int (0 : Int32)), (.ref b1)])) _
    refine XS.land X1.here hx rfl (hb hby at_13) rfl ?_
    show Steps p.tables e below (T1.setTop (mkF m 14 #[.val (.long q1), .second, .val (.long q2), .second, .val (.int p3), .val (.ref b1), .unset, .unset, .unset, .unset] [(.long (q1 &&& (65535 : Int64))), (.int (0 : Int32)), (.ref b1)])) _
    refine XS.l2i X1.here hx rfl (hb hby at_14) rfl ?_
    show Steps p.tables e below (T1.setTop (mkF m 15 #[.val (.long q1), .second, .val (.long q2), .second, .val (.int p3), .val (.ref b1), .unset, .unset, .unset, .unset] [(.int ((q1 &&& (65535 : Int64)).toInt32)), (.int (0 : Int32)), (.ref b1)])) _
    refine XS.lloadN X1.here hx rfl (hb hby at_15) rfl ?_
    show Steps p.tables e below (T1.setTop (mkF m 16 #[.val (.long q1), .second, .val (.long q2), .second, .val (.int p3), .val (.ref b1), .unset, .unset, .unset, .unset] [(.long q2), (.int ((q1 &&& (65535 : Int64)).toInt32)), (.int (0 : Int32)), (.ref b1)])) _
    refine XS.bipush X1.here hx rfl (hb hby at_16) ?_
    show Steps p.tables e below (T1.setTop (mkF m 18 #[.val (.long q1), .second, .val (.long q2), .second, .val (.int p3), .val (.ref b1), .unset, .unset, .unset, .unset] [(.int (32 : Int32)), (.long q2), (.int ((q1 &&& (65535 : Int64)).toInt32)), (.int (0 : Int32)), (.ref b1)])) _
    refine XS.lushr X1.here hx rfl (hb hby at_18) rfl ?_
    show Steps p.tables e below (T1.setTop (mkF m 19 #[.val (.long q1), .second, .val (.long q2), .second, .val (.int p3), .val (.ref b1), .unset, .unset, .unset, .unset] [(.long ((q2.toUInt64 >>> ((32 : Int32) &&& 0x3f).toInt64.toUInt64).toInt64)), (.int ((q1 &&& (65535 : Int64)).toInt32)), (.int (0 : Int32)), (.ref b1)])) _
    refine XS.lconst X1.here hx rfl (hb hby at_19) ?_
    show Steps p.tables e below (T1.setTop (mkF m 20 #[.val (.long q1), .second, .val (.long q2), .second, .val (.int p3), .val (.ref b1), .unset, .unset, .unset, .unset] [(.long (1 : Int64)), (.long ((q2.toUInt64 >>> ((32 : Int32) &&& 0x3f).toInt64.toUInt64).toInt64)), (.int ((q1 &&& (65535 : Int64)).toInt32)), (.int (0 : Int32)), (.ref b1)])) _
    refine XS.land X1.here hx rfl (hb hby at_20) rfl ?_
    show Steps p.tables e below (T1.setTop (mkF m 21 #[.val (.long q1), .second, .val (.long q2), .second, .val (.int p3), .val (.ref b1), .unset, .unset, .unset, .unset] [(.long (((q2.toUInt64 >>> ((32 : Int32) &&& 0x3f).toInt64.toUInt64).toInt64) &&& (1 : Int64))), (.int ((q1 &&& (65535 : Int64)).toInt32)), (.int (0 : Int32)), (.ref b1)])) _
    refine XS.lconst X1.here hx rfl (hb hby at_21) ?_
    show Steps p.tables e below (T1.setTop (mkF m 22 #[.val (.long q1), .second, .val (.long q2), .second, .val (.int p3), .val (.ref b1), .unset, .unset, .unset, .unset] [(.long (0 : Int64)), (.long (((q2.toUInt64 >>> ((32 : Int32) &&& 0x3f).toInt64.toUInt64).toInt64) &&& (1 : Int64))), (.int ((q1 &&& (65535 : Int64)).toInt32)), (.int (0 : Int32)), (.ref b1)])) _
    refine XS.lcmp X1.here hx rfl (hb hby at_22) rfl ?_
    show Steps p.tables e below (T1.setTop (mkF m 23 #[.val (.long q1), .second, .val (.long q2), .second, .val (.int p3), .val (.ref b1), .unset, .unset, .unset, .unset] [(.int (lcmpW (((q2.toUInt64 >>> ((32 : Int32) &&& 0x3f).toInt64.toUInt64).toInt64) &&& (1 : Int64)) (0 : Int64))), (.int ((q1 &&& (65535 : Int64)).toInt32)), (.int (0 : Int32)), (.ref b1)])) _
    by_cases hc3 : (((q2.toUInt64 >>> ((32 : Int32) &&& 0x3f).toInt64.toUInt64).toInt64) &&& (1 : Int64)) = (0 : Int64)
    · refine XS.ifYes X1.here hx rfl (pc0 := 23) (pc' := 30) rfl (hb hby at_23) rfl ((if0 _ _).trans (teq (own_lc_teq hc3)).1) (by decide) (by decide) ?_
      show Steps p.tables e below (T1.setTop (mkF m 30 #[.val (.long q1), .second, .val (.long q2), .second, .val (.int p3), .val (.ref b1), .unset, .unset, .unset, .unset] [(.int ((q1 &&& (65535 : Int64)).toInt32)), (.int (0 : Int32)), (.ref b1)])) _
      refine XS.iconst X1.here hx rfl (hb hby at_30) ?_
      rw [show v4 = (0 : Int32) from hv4.trans (if_pos hc3)] at k
      exact k
    · refine XS.ifNo X1.here hx rfl (hb hby at_23) rfl ((if0 _ _).trans (feq (own_lc_feq hc3)).1) ?_
      show Steps p.tables e below (T1.setTop (mkF m 26 #[.val (.long q1), .second, .val (.long q2), .second, .val (.int p3), .val (.ref b1), .unset, .unset, .unset, .unset] [(.int ((q1 &&& (65535 : Int64)).toInt32)), (.int (0 : Int32)), (.ref b1)])) _
      refine XS.iconst X1.here hx rfl (hb hby at_26) ?_
      show Steps p.tables e below (T1.setTop (mkF m 27 #[.val (.long q1), .second, .val (.long q2), .second, .val (.int p3), .val (.ref b1), .unset, .unset, .unset, .unset] [(.int (1 : Int32)), (.int ((q1 &&& (65535 : Int64)).toInt32)), (.int (0 : Int32)), (.ref b1)])) _
      refine XS.goto X1.here hx rfl (pc0 := 27) (pc' := 31) rfl (hb hby at_27) (by decide) (by decide) ?_
      rw [show v4 = (1 : Int32) from hv4.trans (if_neg hc3)] at k
      exact k)
  obtain ⟨_, _, ⟨T6, L6, k6, n6⟩, -, X6, ⟨Lc6, hQ6, l6, y6, z6⟩, st6⟩ := Jvm.LawKit.callS X1 hx (y := (⟨"com/example/prewrm/prewrm/io/CsvFieldsIsUnsignedDecimalPinLaw", "pick", "(IZ)C"⟩ : MethodName)) hown (mvT hZ (hw _ (List.mem_of_getElem? (i := 2) rfl))) (mvT hZ (hw _ (List.mem_of_getElem? (i := 3) rfl))) (mvT hZ (hw _ (List.mem_of_getElem? (i := 4) rfl))) (mvT hZ (hw _ (List.mem_of_getElem? (i := 5) rfl))) (by decide) (backOf (W := 2) (rm1 l Z a0 hw [] ((q1 &&& (65535 : Int64)).toInt32) v4 h1 n0 Zs1) hZ (hw _ (List.mem_of_getElem? (i := 5) rfl)) (hw _ (List.mem_of_getElem? (i := 4) rfl)) (by decide) (by decide)) (g := (mkF m 31 #[.val (.long q1), .second, .val (.long q2), .second, .val (.int p3), .val (.ref b1), .unset, .unset, .unset, .unset] [(.int v4), (.int ((q1 &&& (65535 : Int64)).toInt32)), (.int (0 : Int32)), (.ref b1)])) rfl (by rw [hml]; rfl) (argsL := [(.int ((q1 &&& (65535 : Int64)).toInt32)), (.int v4)]) (rest := [(.int (0 : Int32)), (.ref b1)]) (lenOf pd_18 rfl) rfl (by show 2 * 0 + _ ≤ _; exact Nat.le_of_eq rfl) (hb hby at_31) (fun _ _ => ⟨rfl, e1, (by decide : 1 + 1 ≤ _), (by decide : 6 + 16 ≤ _)⟩)
  dsimp only [Pt.U, Pt.locs, Pt.cells, Pt.slots] at X6 l6 y6 z6 st6 hQ6
  subst l6 y6 z6
  obtain ⟨h6, e6⟩ : ∃ z, T6.heap = z := ⟨_, rfl⟩
  rw [e6] at hQ6
  obtain ⟨rfl, N6q, Kc6⟩ := hQ6
  have A_b1_6 : own_A Z h6 b1 .char (6 : Int32) (fun i => .int ((fun _ => (0 : Int32)) i)) := own_A_keep A_b1_1 Kc6 nin0
  have K6 := K1.trans Kc6 all0
  have Zs6 := Nat.le_trans Zs1 Kc6.1
  have O6 := O1.keep Kc6 all0
  have N6 := Fr.app N0 N6q
  obtain ⟨cl8, Ar8, Sz8, Mz8, Hz8⟩ := id A_b1_6
  have hin7 := inb_of (j := (0 : Int32)) Sz8 ⟨by decide, by decide⟩
  obtain ⟨T7, h7, X7, e7, W7, st7⟩ := stC X6 hx hZ e6 Ar8 (j := (0 : Int32)) hin7 (g := (mkF m 34 #[.val (.long q1), .second, .val (.long q2), .second, .val (.int p3), .val (.ref b1), .unset, .unset, .unset, .unset] [(.int (own_pick ((q1 &&& (65535 : Int64)).toInt32) v4)), (.int (0 : Int32)), (.ref b1)])) rfl rfl (hb hby at_34)
  obtain ⟨y7, hy7⟩ : ∃ yy_ : Int32 → Int32, yy_ = fun i => if i = (0 : Int32) then (nar .char (own_pick ((q1 &&& (65535 : Int64)).toInt32) v4)) else (fun _ => (0 : Int32)) i := ⟨_, rfl⟩
  have K7 := K6.wr W7 (Or.inr sz_b1)
  have Zs7 := Nat.le_trans Zs6 (Keep.of_wr W7).1
  have N7 := Fr.snoc X7 N6 g_b1
  have O7 := O6.wr W7 g_b1
  have A_b1_7 : own_A Z h7 b1 .char (6 : Int32) (fun i => .int (y7 i)) := by subst hy7; exact own_A_set Ar8 Sz8 Mz8 Hz8 hin7 W7 (own_setI (y := (fun _ => (0 : Int32))) (j := (0 : Int32)) (x := (nar .char (own_pick ((q1 &&& (65535 : Int64)).toInt32) v4)))) (own_setI' (y := (fun _ => (0 : Int32))) (j := (0 : Int32)) (x := (nar .char (own_pick ((q1 &&& (65535 : Int64)).toInt32) v4))))
  have P_b1_7 : own_P y7 := by subst hy7; exact own_P_set P_b1_1 (by decide)
  obtain ⟨cl9, Ar9, Sz9, Mz9, Hz9⟩ := id A_b1_7
  obtain ⟨v11, hv11⟩ : ∃ z : Int32, z = (if (((q2.toUInt64 >>> ((33 : Int32) &&& 0x3f).toInt64.toUInt64).toInt64) &&& (1 : Int64)) = (0 : Int64) then (0 : Int32) else (1 : Int32)) := ⟨_, rfl⟩
  have pre12 : ∀ t, Steps p.tables e below (T7.setTop (mkF m 63 #[.val (.long q1), .second, .val (.long q2), .second, .val (.int p3), .val (.ref b1), .unset, .unset, .unset, .unset] [(.int v11), (.int ((((q1.toUInt64 >>> ((16 : Int32) &&& 0x3f).toInt64.toUInt64).toInt64) &&& (65535 : Int64)).toInt32)), (.int (1 : Int32)), (.ref b1)])) t → Steps p.tables e below (s₁.setTop (entryFrame m #[(.long q1), (.long q2), (.int p3)] maxLocals)) t := fun t k => pre5 t (by
    show Steps p.tables e below (T1.setTop (mkF m 31 #[.val (.long q1), .second, .val (.long q2), .second, .val (.int p3), .val (.ref b1), .unset, .unset, .unset, .unset] [(.int v4), (.int ((q1 &&& (65535 : Int64)).toInt32)), (.int (0 : Int32)), (.ref b1)])) _
    refine st6 _ ?_
    show Steps p.tables e below (T6.setTop (mkF m 34 #[.val (.long q1), .second, .val (.long q2), .second, .val (.int p3), .val (.ref b1), .unset, .unset, .unset, .unset] [(.int (own_pick ((q1 &&& (65535 : Int64)).toInt32) v4)), (.int (0 : Int32)), (.ref b1)])) _
    refine st7 _ ?_
    show Steps p.tables e below (T7.setTop (mkF m 35 #[.val (.long q1), .second, .val (.long q2), .second, .val (.int p3), .val (.ref b1), .unset, .unset, .unset, .unset] [])) _
    refine XS.aload X7.here hx rfl (hb hby at_35) rfl rfl ?_
    show Steps p.tables e below (T7.setTop (mkF m 37 #[.val (.long q1), .second, .val (.long q2), .second, .val (.int p3), .val (.ref b1), .unset, .unset, .unset, .unset] [(.ref b1)])) _
    refine XS.iconst X7.here hx rfl (hb hby at_37) ?_
    show Steps p.tables e below (T7.setTop (mkF m 38 #[.val (.long q1), .second, .val (.long q2), .second, .val (.int p3), .val (.ref b1), .unset, .unset, .unset, .unset] [(.int (1 : Int32)), (.ref b1)])) _
    refine XS.lloadN X7.here hx rfl (hb hby at_38) rfl ?_
    show Steps p.tables e below (T7.setTop (mkF m 39 #[.val (.long q1), .second, .val (.long q2), .second, .val (.int p3), .val (.ref b1), .unset, .unset, .unset, .unset] [(.long q1), (.int (1 : Int32)), (.ref b1)])) _
    refine XS.bipush X7.here hx rfl (hb hby at_39) ?_
    show Steps p.tables e below (T7.setTop (mkF m 41 #[.val (.long q1), .second, .val (.long q2), .second, .val (.int p3), .val (.ref b1), .unset, .unset, .unset, .unset] [(.int (16 : Int32)), (.long q1), (.int (1 : Int32)), (.ref b1)])) _
    refine XS.lushr X7.here hx rfl (hb hby at_41) rfl ?_
    show Steps p.tables e below (T7.setTop (mkF m 42 #[.val (.long q1), .second, .val (.long q2), .second, .val (.int p3), .val (.ref b1), .unset, .unset, .unset, .unset] [(.long ((q1.toUInt64 >>> ((16 : Int32) &&& 0x3f).toInt64.toUInt64).toInt64)), (.int (1 : Int32)), (.ref b1)])) _
    refine X7.ldc2Long hx hown (mvT hZ (hw _ (List.mem_of_getElem? (i := 1) rfl))) (g := (mkF m 42 #[.val (.long q1), .second, .val (.long q2), .second, .val (.int p3), .val (.ref b1), .unset, .unset, .unset, .unset] [(.long ((q1.toUInt64 >>> ((16 : Int32) &&& 0x3f).toInt64.toUInt64).toInt64)), (.int (1 : Int32)), (.ref b1)])) rfl (hb hby at_42) _ ?_
    show Steps p.tables e below (T7.setTop (mkF m 45 #[.val (.long q1), .second, .val (.long q2), .second, .val (.int p3), .val (.ref b1), .unset, .unset, .unset, .unset] [(.long (65535 : Int64)), (.long ((q1.toUInt64 >>> ((16 : Int32) &&& 0x3f).toInt64.toUInt64).toInt64)), (.int (1 : Int32)), (.ref b1)])) _
    refine XS.land X7.here hx rfl (hb hby at_45) rfl ?_
    show Steps p.tables e below (T7.setTop (mkF m 46 #[.val (.long q1), .second, .val (.long q2), .second, .val (.int p3), .val (.ref b1), .unset, .unset, .unset, .unset] [(.long (((q1.toUInt64 >>> ((16 : Int32) &&& 0x3f).toInt64.toUInt64).toInt64) &&& (65535 : Int64))), (.int (1 : Int32)), (.ref b1)])) _
    refine XS.l2i X7.here hx rfl (hb hby at_46) rfl ?_
    show Steps p.tables e below (T7.setTop (mkF m 47 #[.val (.long q1), .second, .val (.long q2), .second, .val (.int p3), .val (.ref b1), .unset, .unset, .unset, .unset] [(.int ((((q1.toUInt64 >>> ((16 : Int32) &&& 0x3f).toInt64.toUInt64).toInt64) &&& (65535 : Int64)).toInt32)), (.int (1 : Int32)), (.ref b1)])) _
    refine XS.lloadN X7.here hx rfl (hb hby at_47) rfl ?_
    show Steps p.tables e below (T7.setTop (mkF m 48 #[.val (.long q1), .second, .val (.long q2), .second, .val (.int p3), .val (.ref b1), .unset, .unset, .unset, .unset] [(.long q2), (.int ((((q1.toUInt64 >>> ((16 : Int32) &&& 0x3f).toInt64.toUInt64).toInt64) &&& (65535 : Int64)).toInt32)), (.int (1 : Int32)), (.ref b1)])) _
    refine XS.bipush X7.here hx rfl (hb hby at_48) ?_
    show Steps p.tables e below (T7.setTop (mkF m 50 #[.val (.long q1), .second, .val (.long q2), .second, .val (.int p3), .val (.ref b1), .unset, .unset, .unset, .unset] [(.int (33 : Int32)), (.long q2), (.int ((((q1.toUInt64 >>> ((16 : Int32) &&& 0x3f).toInt64.toUInt64).toInt64) &&& (65535 : Int64)).toInt32)), (.int (1 : Int32)), (.ref b1)])) _
    refine XS.lushr X7.here hx rfl (hb hby at_50) rfl ?_
    show Steps p.tables e below (T7.setTop (mkF m 51 #[.val (.long q1), .second, .val (.long q2), .second, .val (.int p3), .val (.ref b1), .unset, .unset, .unset, .unset] [(.long ((q2.toUInt64 >>> ((33 : Int32) &&& 0x3f).toInt64.toUInt64).toInt64)), (.int ((((q1.toUInt64 >>> ((16 : Int32) &&& 0x3f).toInt64.toUInt64).toInt64) &&& (65535 : Int64)).toInt32)), (.int (1 : Int32)), (.ref b1)])) _
    refine XS.lconst X7.here hx rfl (hb hby at_51) ?_
    show Steps p.tables e below (T7.setTop (mkF m 52 #[.val (.long q1), .second, .val (.long q2), .second, .val (.int p3), .val (.ref b1), .unset, .unset, .unset, .unset] [(.long (1 : Int64)), (.long ((q2.toUInt64 >>> ((33 : Int32) &&& 0x3f).toInt64.toUInt64).toInt64)), (.int ((((q1.toUInt64 >>> ((16 : Int32) &&& 0x3f).toInt64.toUInt64).toInt64) &&& (65535 : Int64)).toInt32)), (.int (1 : Int32)), (.ref b1)])) _
    refine XS.land X7.here hx rfl (hb hby at_52) rfl ?_
    show Steps p.tables e below (T7.setTop (mkF m 53 #[.val (.long q1), .second, .val (.long q2), .second, .val (.int p3), .val (.ref b1), .unset, .unset, .unset, .unset] [(.long (((q2.toUInt64 >>> ((33 : Int32) &&& 0x3f).toInt64.toUInt64).toInt64) &&& (1 : Int64))), (.int ((((q1.toUInt64 >>> ((16 : Int32) &&& 0x3f).toInt64.toUInt64).toInt64) &&& (65535 : Int64)).toInt32)), (.int (1 : Int32)), (.ref b1)])) _
    refine XS.lconst X7.here hx rfl (hb hby at_53) ?_
    show Steps p.tables e below (T7.setTop (mkF m 54 #[.val (.long q1), .second, .val (.long q2), .second, .val (.int p3), .val (.ref b1), .unset, .unset, .unset, .unset] [(.long (0 : Int64)), (.long (((q2.toUInt64 >>> ((33 : Int32) &&& 0x3f).toInt64.toUInt64).toInt64) &&& (1 : Int64))), (.int ((((q1.toUInt64 >>> ((16 : Int32) &&& 0x3f).toInt64.toUInt64).toInt64) &&& (65535 : Int64)).toInt32)), (.int (1 : Int32)), (.ref b1)])) _
    refine XS.lcmp X7.here hx rfl (hb hby at_54) rfl ?_
    show Steps p.tables e below (T7.setTop (mkF m 55 #[.val (.long q1), .second, .val (.long q2), .second, .val (.int p3), .val (.ref b1), .unset, .unset, .unset, .unset] [(.int (lcmpW (((q2.toUInt64 >>> ((33 : Int32) &&& 0x3f).toInt64.toUInt64).toInt64) &&& (1 : Int64)) (0 : Int64))), (.int ((((q1.toUInt64 >>> ((16 : Int32) &&& 0x3f).toInt64.toUInt64).toInt64) &&& (65535 : Int64)).toInt32)), (.int (1 : Int32)), (.ref b1)])) _
    by_cases hc10 : (((q2.toUInt64 >>> ((33 : Int32) &&& 0x3f).toInt64.toUInt64).toInt64) &&& (1 : Int64)) = (0 : Int64)
    · refine XS.ifYes X7.here hx rfl (pc0 := 55) (pc' := 62) rfl (hb hby at_55) rfl ((if0 _ _).trans (teq (own_lc_teq hc10)).1) (by decide) (by decide) ?_
      show Steps p.tables e below (T7.setTop (mkF m 62 #[.val (.long q1), .second, .val (.long q2), .second, .val (.int p3), .val (.ref b1), .unset, .unset, .unset, .unset] [(.int ((((q1.toUInt64 >>> ((16 : Int32) &&& 0x3f).toInt64.toUInt64).toInt64) &&& (65535 : Int64)).toInt32)), (.int (1 : Int32)), (.ref b1)])) _
      refine XS.iconst X7.here hx rfl (hb hby at_62) ?_
      rw [show v11 = (0 : Int32) from hv11.trans (if_pos hc10)] at k
      exact k
    · refine XS.ifNo X7.here hx rfl (hb hby at_55) rfl ((if0 _ _).trans (feq (own_lc_feq hc10)).1) ?_
      show Steps p.tables e below (T7.setTop (mkF m 58 #[.val (.long q1), .second, .val (.long q2), .second, .val (.int p3), .val (.ref b1), .unset, .unset, .unset, .unset] [(.int ((((q1.toUInt64 >>> ((16 : Int32) &&& 0x3f).toInt64.toUInt64).toInt64) &&& (65535 : Int64)).toInt32)), (.int (1 : Int32)), (.ref b1)])) _
      refine XS.iconst X7.here hx rfl (hb hby at_58) ?_
      show Steps p.tables e below (T7.setTop (mkF m 59 #[.val (.long q1), .second, .val (.long q2), .second, .val (.int p3), .val (.ref b1), .unset, .unset, .unset, .unset] [(.int (1 : Int32)), (.int ((((q1.toUInt64 >>> ((16 : Int32) &&& 0x3f).toInt64.toUInt64).toInt64) &&& (65535 : Int64)).toInt32)), (.int (1 : Int32)), (.ref b1)])) _
      refine XS.goto X7.here hx rfl (pc0 := 59) (pc' := 63) rfl (hb hby at_59) (by decide) (by decide) ?_
      rw [show v11 = (1 : Int32) from hv11.trans (if_neg hc10)] at k
      exact k)
  obtain ⟨_, _, ⟨T13, L13, k13, n13⟩, -, X13, ⟨Lc13, hQ13, l13, y13, z13⟩, st13⟩ := Jvm.LawKit.callS X7 hx (y := (⟨"com/example/prewrm/prewrm/io/CsvFieldsIsUnsignedDecimalPinLaw", "pick", "(IZ)C"⟩ : MethodName)) hown (mvT hZ (hw _ (List.mem_of_getElem? (i := 2) rfl))) (mvT hZ (hw _ (List.mem_of_getElem? (i := 3) rfl))) (mvT hZ (hw _ (List.mem_of_getElem? (i := 4) rfl))) (mvT hZ (hw _ (List.mem_of_getElem? (i := 5) rfl))) (by decide) (backOf (W := 2) (rm1 l Z a0 hw [] ((((q1.toUInt64 >>> ((16 : Int32) &&& 0x3f).toInt64.toUInt64).toInt64) &&& (65535 : Int64)).toInt32) v11 h7 n0 Zs7) hZ (hw _ (List.mem_of_getElem? (i := 5) rfl)) (hw _ (List.mem_of_getElem? (i := 4) rfl)) (by decide) (by decide)) (g := (mkF m 63 #[.val (.long q1), .second, .val (.long q2), .second, .val (.int p3), .val (.ref b1), .unset, .unset, .unset, .unset] [(.int v11), (.int ((((q1.toUInt64 >>> ((16 : Int32) &&& 0x3f).toInt64.toUInt64).toInt64) &&& (65535 : Int64)).toInt32)), (.int (1 : Int32)), (.ref b1)])) rfl (by rw [hml]; rfl) (argsL := [(.int ((((q1.toUInt64 >>> ((16 : Int32) &&& 0x3f).toInt64.toUInt64).toInt64) &&& (65535 : Int64)).toInt32)), (.int v11)]) (rest := [(.int (1 : Int32)), (.ref b1)]) (lenOf pd_18 rfl) rfl (by show 2 * 0 + _ ≤ _; exact Nat.le_of_eq rfl) (hb hby at_63) (fun _ _ => ⟨rfl, e7, (by decide : 2 + 1 ≤ _), (by decide : 22 + 16 ≤ _)⟩)
  dsimp only [Pt.U, Pt.locs, Pt.cells, Pt.slots] at X13 l13 y13 z13 st13 hQ13
  subst l13 y13 z13
  obtain ⟨h13, e13⟩ : ∃ z, T13.heap = z := ⟨_, rfl⟩
  rw [e13] at hQ13
  obtain ⟨rfl, N13q, Kc13⟩ := hQ13
  have A_b1_13 : own_A Z h13 b1 .char (6 : Int32) (fun i => .int (y7 i)) := own_A_keep A_b1_7 Kc13 nin0
  have K13 := K7.trans Kc13 all0
  have Zs13 := Nat.le_trans Zs7 Kc13.1
  have O13 := O7.keep Kc13 all0
  have N13 := Fr.app N7 N13q
  obtain ⟨cl15, Ar15, Sz15, Mz15, Hz15⟩ := id A_b1_13
  have hin14 := inb_of (j := (1 : Int32)) Sz15 ⟨by decide, by decide⟩
  obtain ⟨T14, h14, X14, e14, W14, st14⟩ := stC X13 hx hZ e13 Ar15 (j := (1 : Int32)) hin14 (g := (mkF m 66 #[.val (.long q1), .second, .val (.long q2), .second, .val (.int p3), .val (.ref b1), .unset, .unset, .unset, .unset] [(.int (own_pick ((((q1.toUInt64 >>> ((16 : Int32) &&& 0x3f).toInt64.toUInt64).toInt64) &&& (65535 : Int64)).toInt32) v11)), (.int (1 : Int32)), (.ref b1)])) rfl rfl (hb hby at_66)
  obtain ⟨y14, hy14⟩ : ∃ yy_ : Int32 → Int32, yy_ = fun i => if i = (1 : Int32) then (nar .char (own_pick ((((q1.toUInt64 >>> ((16 : Int32) &&& 0x3f).toInt64.toUInt64).toInt64) &&& (65535 : Int64)).toInt32) v11)) else y7 i := ⟨_, rfl⟩
  have K14 := K13.wr W14 (Or.inr sz_b1)
  have Zs14 := Nat.le_trans Zs13 (Keep.of_wr W14).1
  have N14 := Fr.snoc X14 N13 g_b1
  have O14 := O13.wr W14 g_b1
  have A_b1_14 : own_A Z h14 b1 .char (6 : Int32) (fun i => .int (y14 i)) := by subst hy14; exact own_A_set Ar15 Sz15 Mz15 Hz15 hin14 W14 (own_setI (y := y7) (j := (1 : Int32)) (x := (nar .char (own_pick ((((q1.toUInt64 >>> ((16 : Int32) &&& 0x3f).toInt64.toUInt64).toInt64) &&& (65535 : Int64)).toInt32) v11)))) (own_setI' (y := y7) (j := (1 : Int32)) (x := (nar .char (own_pick ((((q1.toUInt64 >>> ((16 : Int32) &&& 0x3f).toInt64.toUInt64).toInt64) &&& (65535 : Int64)).toInt32) v11))))
  have P_b1_14 : own_P y14 := by subst hy14; exact own_P_set P_b1_7 (by decide)
  obtain ⟨cl16, Ar16, Sz16, Mz16, Hz16⟩ := id A_b1_14
  obtain ⟨v18, hv18⟩ : ∃ z : Int32, z = (if (((q2.toUInt64 >>> ((34 : Int32) &&& 0x3f).toInt64.toUInt64).toInt64) &&& (1 : Int64)) = (0 : Int64) then (0 : Int32) else (1 : Int32)) := ⟨_, rfl⟩
  have pre19 : ∀ t, Steps p.tables e below (T14.setTop (mkF m 95 #[.val (.long q1), .second, .val (.long q2), .second, .val (.int p3), .val (.ref b1), .unset, .unset, .unset, .unset] [(.int v18), (.int ((((q1.toUInt64 >>> ((32 : Int32) &&& 0x3f).toInt64.toUInt64).toInt64) &&& (65535 : Int64)).toInt32)), (.int (2 : Int32)), (.ref b1)])) t → Steps p.tables e below (s₁.setTop (entryFrame m #[(.long q1), (.long q2), (.int p3)] maxLocals)) t := fun t k => pre12 t (by
    show Steps p.tables e below (T7.setTop (mkF m 63 #[.val (.long q1), .second, .val (.long q2), .second, .val (.int p3), .val (.ref b1), .unset, .unset, .unset, .unset] [(.int v11), (.int ((((q1.toUInt64 >>> ((16 : Int32) &&& 0x3f).toInt64.toUInt64).toInt64) &&& (65535 : Int64)).toInt32)), (.int (1 : Int32)), (.ref b1)])) _
    refine st13 _ ?_
    show Steps p.tables e below (T13.setTop (mkF m 66 #[.val (.long q1), .second, .val (.long q2), .second, .val (.int p3), .val (.ref b1), .unset, .unset, .unset, .unset] [(.int (own_pick ((((q1.toUInt64 >>> ((16 : Int32) &&& 0x3f).toInt64.toUInt64).toInt64) &&& (65535 : Int64)).toInt32) v11)), (.int (1 : Int32)), (.ref b1)])) _
    refine st14 _ ?_
    show Steps p.tables e below (T14.setTop (mkF m 67 #[.val (.long q1), .second, .val (.long q2), .second, .val (.int p3), .val (.ref b1), .unset, .unset, .unset, .unset] [])) _
    refine XS.aload X14.here hx rfl (hb hby at_67) rfl rfl ?_
    show Steps p.tables e below (T14.setTop (mkF m 69 #[.val (.long q1), .second, .val (.long q2), .second, .val (.int p3), .val (.ref b1), .unset, .unset, .unset, .unset] [(.ref b1)])) _
    refine XS.iconst X14.here hx rfl (hb hby at_69) ?_
    show Steps p.tables e below (T14.setTop (mkF m 70 #[.val (.long q1), .second, .val (.long q2), .second, .val (.int p3), .val (.ref b1), .unset, .unset, .unset, .unset] [(.int (2 : Int32)), (.ref b1)])) _
    refine XS.lloadN X14.here hx rfl (hb hby at_70) rfl ?_
    show Steps p.tables e below (T14.setTop (mkF m 71 #[.val (.long q1), .second, .val (.long q2), .second, .val (.int p3), .val (.ref b1), .unset, .unset, .unset, .unset] [(.long q1), (.int (2 : Int32)), (.ref b1)])) _
    refine XS.bipush X14.here hx rfl (hb hby at_71) ?_
    show Steps p.tables e below (T14.setTop (mkF m 73 #[.val (.long q1), .second, .val (.long q2), .second, .val (.int p3), .val (.ref b1), .unset, .unset, .unset, .unset] [(.int (32 : Int32)), (.long q1), (.int (2 : Int32)), (.ref b1)])) _
    refine XS.lushr X14.here hx rfl (hb hby at_73) rfl ?_
    show Steps p.tables e below (T14.setTop (mkF m 74 #[.val (.long q1), .second, .val (.long q2), .second, .val (.int p3), .val (.ref b1), .unset, .unset, .unset, .unset] [(.long ((q1.toUInt64 >>> ((32 : Int32) &&& 0x3f).toInt64.toUInt64).toInt64)), (.int (2 : Int32)), (.ref b1)])) _
    refine X14.ldc2Long hx hown (mvT hZ (hw _ (List.mem_of_getElem? (i := 1) rfl))) (g := (mkF m 74 #[.val (.long q1), .second, .val (.long q2), .second, .val (.int p3), .val (.ref b1), .unset, .unset, .unset, .unset] [(.long ((q1.toUInt64 >>> ((32 : Int32) &&& 0x3f).toInt64.toUInt64).toInt64)), (.int (2 : Int32)), (.ref b1)])) rfl (hb hby at_74) _ ?_
    show Steps p.tables e below (T14.setTop (mkF m 77 #[.val (.long q1), .second, .val (.long q2), .second, .val (.int p3), .val (.ref b1), .unset, .unset, .unset, .unset] [(.long (65535 : Int64)), (.long ((q1.toUInt64 >>> ((32 : Int32) &&& 0x3f).toInt64.toUInt64).toInt64)), (.int (2 : Int32)), (.ref b1)])) _
    refine XS.land X14.here hx rfl (hb hby at_77) rfl ?_
    show Steps p.tables e below (T14.setTop (mkF m 78 #[.val (.long q1), .second, .val (.long q2), .second, .val (.int p3), .val (.ref b1), .unset, .unset, .unset, .unset] [(.long (((q1.toUInt64 >>> ((32 : Int32) &&& 0x3f).toInt64.toUInt64).toInt64) &&& (65535 : Int64))), (.int (2 : Int32)), (.ref b1)])) _
    refine XS.l2i X14.here hx rfl (hb hby at_78) rfl ?_
    show Steps p.tables e below (T14.setTop (mkF m 79 #[.val (.long q1), .second, .val (.long q2), .second, .val (.int p3), .val (.ref b1), .unset, .unset, .unset, .unset] [(.int ((((q1.toUInt64 >>> ((32 : Int32) &&& 0x3f).toInt64.toUInt64).toInt64) &&& (65535 : Int64)).toInt32)), (.int (2 : Int32)), (.ref b1)])) _
    refine XS.lloadN X14.here hx rfl (hb hby at_79) rfl ?_
    show Steps p.tables e below (T14.setTop (mkF m 80 #[.val (.long q1), .second, .val (.long q2), .second, .val (.int p3), .val (.ref b1), .unset, .unset, .unset, .unset] [(.long q2), (.int ((((q1.toUInt64 >>> ((32 : Int32) &&& 0x3f).toInt64.toUInt64).toInt64) &&& (65535 : Int64)).toInt32)), (.int (2 : Int32)), (.ref b1)])) _
    refine XS.bipush X14.here hx rfl (hb hby at_80) ?_
    show Steps p.tables e below (T14.setTop (mkF m 82 #[.val (.long q1), .second, .val (.long q2), .second, .val (.int p3), .val (.ref b1), .unset, .unset, .unset, .unset] [(.int (34 : Int32)), (.long q2), (.int ((((q1.toUInt64 >>> ((32 : Int32) &&& 0x3f).toInt64.toUInt64).toInt64) &&& (65535 : Int64)).toInt32)), (.int (2 : Int32)), (.ref b1)])) _
    refine XS.lushr X14.here hx rfl (hb hby at_82) rfl ?_
    show Steps p.tables e below (T14.setTop (mkF m 83 #[.val (.long q1), .second, .val (.long q2), .second, .val (.int p3), .val (.ref b1), .unset, .unset, .unset, .unset] [(.long ((q2.toUInt64 >>> ((34 : Int32) &&& 0x3f).toInt64.toUInt64).toInt64)), (.int ((((q1.toUInt64 >>> ((32 : Int32) &&& 0x3f).toInt64.toUInt64).toInt64) &&& (65535 : Int64)).toInt32)), (.int (2 : Int32)), (.ref b1)])) _
    refine XS.lconst X14.here hx rfl (hb hby at_83) ?_
    show Steps p.tables e below (T14.setTop (mkF m 84 #[.val (.long q1), .second, .val (.long q2), .second, .val (.int p3), .val (.ref b1), .unset, .unset, .unset, .unset] [(.long (1 : Int64)), (.long ((q2.toUInt64 >>> ((34 : Int32) &&& 0x3f).toInt64.toUInt64).toInt64)), (.int ((((q1.toUInt64 >>> ((32 : Int32) &&& 0x3f).toInt64.toUInt64).toInt64) &&& (65535 : Int64)).toInt32)), (.int (2 : Int32)), (.ref b1)])) _
    refine XS.land X14.here hx rfl (hb hby at_84) rfl ?_
    show Steps p.tables e below (T14.setTop (mkF m 85 #[.val (.long q1), .second, .val (.long q2), .second, .val (.int p3), .val (.ref b1), .unset, .unset, .unset, .unset] [(.long (((q2.toUInt64 >>> ((34 : Int32) &&& 0x3f).toInt64.toUInt64).toInt64) &&& (1 : Int64))), (.int ((((q1.toUInt64 >>> ((32 : Int32) &&& 0x3f).toInt64.toUInt64).toInt64) &&& (65535 : Int64)).toInt32)), (.int (2 : Int32)), (.ref b1)])) _
    refine XS.lconst X14.here hx rfl (hb hby at_85) ?_
    show Steps p.tables e below (T14.setTop (mkF m 86 #[.val (.long q1), .second, .val (.long q2), .second, .val (.int p3), .val (.ref b1), .unset, .unset, .unset, .unset] [(.long (0 : Int64)), (.long (((q2.toUInt64 >>> ((34 : Int32) &&& 0x3f).toInt64.toUInt64).toInt64) &&& (1 : Int64))), (.int ((((q1.toUInt64 >>> ((32 : Int32) &&& 0x3f).toInt64.toUInt64).toInt64) &&& (65535 : Int64)).toInt32)), (.int (2 : Int32)), (.ref b1)])) _
    refine XS.lcmp X14.here hx rfl (hb hby at_86) rfl ?_
    show Steps p.tables e below (T14.setTop (mkF m 87 #[.val (.long q1), .second, .val (.long q2), .second, .val (.int p3), .val (.ref b1), .unset, .unset, .unset, .unset] [(.int (lcmpW (((q2.toUInt64 >>> ((34 : Int32) &&& 0x3f).toInt64.toUInt64).toInt64) &&& (1 : Int64)) (0 : Int64))), (.int ((((q1.toUInt64 >>> ((32 : Int32) &&& 0x3f).toInt64.toUInt64).toInt64) &&& (65535 : Int64)).toInt32)), (.int (2 : Int32)), (.ref b1)])) _
    by_cases hc17 : (((q2.toUInt64 >>> ((34 : Int32) &&& 0x3f).toInt64.toUInt64).toInt64) &&& (1 : Int64)) = (0 : Int64)
    · refine XS.ifYes X14.here hx rfl (pc0 := 87) (pc' := 94) rfl (hb hby at_87) rfl ((if0 _ _).trans (teq (own_lc_teq hc17)).1) (by decide) (by decide) ?_
      show Steps p.tables e below (T14.setTop (mkF m 94 #[.val (.long q1), .second, .val (.long q2), .second, .val (.int p3), .val (.ref b1), .unset, .unset, .unset, .unset] [(.int ((((q1.toUInt64 >>> ((32 : Int32) &&& 0x3f).toInt64.toUInt64).toInt64) &&& (65535 : Int64)).toInt32)), (.int (2 : Int32)), (.ref b1)])) _
      refine XS.iconst X14.here hx rfl (hb hby at_94) ?_
      rw [show v18 = (0 : Int32) from hv18.trans (if_pos hc17)] at k
      exact k
    · refine XS.ifNo X14.here hx rfl (hb hby at_87) rfl ((if0 _ _).trans (feq (own_lc_feq hc17)).1) ?_
      show Steps p.tables e below (T14.setTop (mkF m 90 #[.val (.long q1), .second, .val (.long q2), .second, .val (.int p3), .val (.ref b1), .unset, .unset, .unset, .unset] [(.int ((((q1.toUInt64 >>> ((32 : Int32) &&& 0x3f).toInt64.toUInt64).toInt64) &&& (65535 : Int64)).toInt32)), (.int (2 : Int32)), (.ref b1)])) _
      refine XS.iconst X14.here hx rfl (hb hby at_90) ?_
      show Steps p.tables e below (T14.setTop (mkF m 91 #[.val (.long q1), .second, .val (.long q2), .second, .val (.int p3), .val (.ref b1), .unset, .unset, .unset, .unset] [(.int (1 : Int32)), (.int ((((q1.toUInt64 >>> ((32 : Int32) &&& 0x3f).toInt64.toUInt64).toInt64) &&& (65535 : Int64)).toInt32)), (.int (2 : Int32)), (.ref b1)])) _
      refine XS.goto X14.here hx rfl (pc0 := 91) (pc' := 95) rfl (hb hby at_91) (by decide) (by decide) ?_
      rw [show v18 = (1 : Int32) from hv18.trans (if_neg hc17)] at k
      exact k)
  obtain ⟨_, _, ⟨T20, L20, k20, n20⟩, -, X20, ⟨Lc20, hQ20, l20, y20, z20⟩, st20⟩ := Jvm.LawKit.callS X14 hx (y := (⟨"com/example/prewrm/prewrm/io/CsvFieldsIsUnsignedDecimalPinLaw", "pick", "(IZ)C"⟩ : MethodName)) hown (mvT hZ (hw _ (List.mem_of_getElem? (i := 2) rfl))) (mvT hZ (hw _ (List.mem_of_getElem? (i := 3) rfl))) (mvT hZ (hw _ (List.mem_of_getElem? (i := 4) rfl))) (mvT hZ (hw _ (List.mem_of_getElem? (i := 5) rfl))) (by decide) (backOf (W := 2) (rm1 l Z a0 hw [] ((((q1.toUInt64 >>> ((32 : Int32) &&& 0x3f).toInt64.toUInt64).toInt64) &&& (65535 : Int64)).toInt32) v18 h14 n0 Zs14) hZ (hw _ (List.mem_of_getElem? (i := 5) rfl)) (hw _ (List.mem_of_getElem? (i := 4) rfl)) (by decide) (by decide)) (g := (mkF m 95 #[.val (.long q1), .second, .val (.long q2), .second, .val (.int p3), .val (.ref b1), .unset, .unset, .unset, .unset] [(.int v18), (.int ((((q1.toUInt64 >>> ((32 : Int32) &&& 0x3f).toInt64.toUInt64).toInt64) &&& (65535 : Int64)).toInt32)), (.int (2 : Int32)), (.ref b1)])) rfl (by rw [hml]; rfl) (argsL := [(.int ((((q1.toUInt64 >>> ((32 : Int32) &&& 0x3f).toInt64.toUInt64).toInt64) &&& (65535 : Int64)).toInt32)), (.int v18)]) (rest := [(.int (2 : Int32)), (.ref b1)]) (lenOf pd_18 rfl) rfl (by show 2 * 0 + _ ≤ _; exact Nat.le_of_eq rfl) (hb hby at_95) (fun _ _ => ⟨rfl, e14, (by decide : 3 + 1 ≤ _), (by decide : 38 + 16 ≤ _)⟩)
  dsimp only [Pt.U, Pt.locs, Pt.cells, Pt.slots] at X20 l20 y20 z20 st20 hQ20
  subst l20 y20 z20
  obtain ⟨h20, e20⟩ : ∃ z, T20.heap = z := ⟨_, rfl⟩
  rw [e20] at hQ20
  obtain ⟨rfl, N20q, Kc20⟩ := hQ20
  have A_b1_20 : own_A Z h20 b1 .char (6 : Int32) (fun i => .int (y14 i)) := own_A_keep A_b1_14 Kc20 nin0
  have K20 := K14.trans Kc20 all0
  have Zs20 := Nat.le_trans Zs14 Kc20.1
  have O20 := O14.keep Kc20 all0
  have N20 := Fr.app N14 N20q
  obtain ⟨cl22, Ar22, Sz22, Mz22, Hz22⟩ := id A_b1_20
  have hin21 := inb_of (j := (2 : Int32)) Sz22 ⟨by decide, by decide⟩
  obtain ⟨T21, h21, X21, e21, W21, st21⟩ := stC X20 hx hZ e20 Ar22 (j := (2 : Int32)) hin21 (g := (mkF m 98 #[.val (.long q1), .second, .val (.long q2), .second, .val (.int p3), .val (.ref b1), .unset, .unset, .unset, .unset] [(.int (own_pick ((((q1.toUInt64 >>> ((32 : Int32) &&& 0x3f).toInt64.toUInt64).toInt64) &&& (65535 : Int64)).toInt32) v18)), (.int (2 : Int32)), (.ref b1)])) rfl rfl (hb hby at_98)
  obtain ⟨y21, hy21⟩ : ∃ yy_ : Int32 → Int32, yy_ = fun i => if i = (2 : Int32) then (nar .char (own_pick ((((q1.toUInt64 >>> ((32 : Int32) &&& 0x3f).toInt64.toUInt64).toInt64) &&& (65535 : Int64)).toInt32) v18)) else y14 i := ⟨_, rfl⟩
  have K21 := K20.wr W21 (Or.inr sz_b1)
  have Zs21 := Nat.le_trans Zs20 (Keep.of_wr W21).1
  have N21 := Fr.snoc X21 N20 g_b1
  have O21 := O20.wr W21 g_b1
  have A_b1_21 : own_A Z h21 b1 .char (6 : Int32) (fun i => .int (y21 i)) := by subst hy21; exact own_A_set Ar22 Sz22 Mz22 Hz22 hin21 W21 (own_setI (y := y14) (j := (2 : Int32)) (x := (nar .char (own_pick ((((q1.toUInt64 >>> ((32 : Int32) &&& 0x3f).toInt64.toUInt64).toInt64) &&& (65535 : Int64)).toInt32) v18)))) (own_setI' (y := y14) (j := (2 : Int32)) (x := (nar .char (own_pick ((((q1.toUInt64 >>> ((32 : Int32) &&& 0x3f).toInt64.toUInt64).toInt64) &&& (65535 : Int64)).toInt32) v18))))
  have P_b1_21 : own_P y21 := by subst hy21; exact own_P_set P_b1_14 (by decide)
  obtain ⟨cl23, Ar23, Sz23, Mz23, Hz23⟩ := id A_b1_21
  obtain ⟨v25, hv25⟩ : ∃ z : Int32, z = (if (((q2.toUInt64 >>> ((35 : Int32) &&& 0x3f).toInt64.toUInt64).toInt64) &&& (1 : Int64)) = (0 : Int64) then (0 : Int32) else (1 : Int32)) := ⟨_, rfl⟩
  have pre26 : ∀ t, Steps p.tables e below (T21.setTop (mkF m 127 #[.val (.long q1), .second, .val (.long q2), .second, .val (.int p3), .val (.ref b1), .unset, .unset, .unset, .unset] [(.int v25), (.int ((((q1.toUInt64 >>> ((48 : Int32) &&& 0x3f).toInt64.toUInt64).toInt64) &&& (65535 : Int64)).toInt32)), (.int (3 : Int32)), (.ref b1)])) t → Steps p.tables e below (s₁.setTop (entryFrame m #[(.long q1), (.long q2), (.int p3)] maxLocals)) t := fun t k => pre19 t (by
    show Steps p.tables e below (T14.setTop (mkF m 95 #[.val (.long q1), .second, .val (.long q2), .second, .val (.int p3), .val (.ref b1), .unset, .unset, .unset, .unset] [(.int v18), (.int ((((q1.toUInt64 >>> ((32 : Int32) &&& 0x3f).toInt64.toUInt64).toInt64) &&& (65535 : Int64)).toInt32)), (.int (2 : Int32)), (.ref b1)])) _
    refine st20 _ ?_
    show Steps p.tables e below (T20.setTop (mkF m 98 #[.val (.long q1), .second, .val (.long q2), .second, .val (.int p3), .val (.ref b1), .unset, .unset, .unset, .unset] [(.int (own_pick ((((q1.toUInt64 >>> ((32 : Int32) &&& 0x3f).toInt64.toUInt64).toInt64) &&& (65535 : Int64)).toInt32) v18)), (.int (2 : Int32)), (.ref b1)])) _
    refine st21 _ ?_
    show Steps p.tables e below (T21.setTop (mkF m 99 #[.val (.long q1), .second, .val (.long q2), .second, .val (.int p3), .val (.ref b1), .unset, .unset, .unset, .unset] [])) _
    refine XS.aload X21.here hx rfl (hb hby at_99) rfl rfl ?_
    show Steps p.tables e below (T21.setTop (mkF m 101 #[.val (.long q1), .second, .val (.long q2), .second, .val (.int p3), .val (.ref b1), .unset, .unset, .unset, .unset] [(.ref b1)])) _
    refine XS.iconst X21.here hx rfl (hb hby at_101) ?_
    show Steps p.tables e below (T21.setTop (mkF m 102 #[.val (.long q1), .second, .val (.long q2), .second, .val (.int p3), .val (.ref b1), .unset, .unset, .unset, .unset] [(.int (3 : Int32)), (.ref b1)])) _
    refine XS.lloadN X21.here hx rfl (hb hby at_102) rfl ?_
    show Steps p.tables e below (T21.setTop (mkF m 103 #[.val (.long q1), .second, .val (.long q2), .second, .val (.int p3), .val (.ref b1), .unset, .unset, .unset, .unset] [(.long q1), (.int (3 : Int32)), (.ref b1)])) _
    refine XS.bipush X21.here hx rfl (hb hby at_103) ?_
    show Steps p.tables e below (T21.setTop (mkF m 105 #[.val (.long q1), .second, .val (.long q2), .second, .val (.int p3), .val (.ref b1), .unset, .unset, .unset, .unset] [(.int (48 : Int32)), (.long q1), (.int (3 : Int32)), (.ref b1)])) _
    refine XS.lushr X21.here hx rfl (hb hby at_105) rfl ?_
    show Steps p.tables e below (T21.setTop (mkF m 106 #[.val (.long q1), .second, .val (.long q2), .second, .val (.int p3), .val (.ref b1), .unset, .unset, .unset, .unset] [(.long ((q1.toUInt64 >>> ((48 : Int32) &&& 0x3f).toInt64.toUInt64).toInt64)), (.int (3 : Int32)), (.ref b1)])) _
    refine X21.ldc2Long hx hown (mvT hZ (hw _ (List.mem_of_getElem? (i := 1) rfl))) (g := (mkF m 106 #[.val (.long q1), .second, .val (.long q2), .second, .val (.int p3), .val (.ref b1), .unset, .unset, .unset, .unset] [(.long ((q1.toUInt64 >>> ((48 : Int32) &&& 0x3f).toInt64.toUInt64).toInt64)), (.int (3 : Int32)), (.ref b1)])) rfl (hb hby at_106) _ ?_
    show Steps p.tables e below (T21.setTop (mkF m 109 #[.val (.long q1), .second, .val (.long q2), .second, .val (.int p3), .val (.ref b1), .unset, .unset, .unset, .unset] [(.long (65535 : Int64)), (.long ((q1.toUInt64 >>> ((48 : Int32) &&& 0x3f).toInt64.toUInt64).toInt64)), (.int (3 : Int32)), (.ref b1)])) _
    refine XS.land X21.here hx rfl (hb hby at_109) rfl ?_
    show Steps p.tables e below (T21.setTop (mkF m 110 #[.val (.long q1), .second, .val (.long q2), .second, .val (.int p3), .val (.ref b1), .unset, .unset, .unset, .unset] [(.long (((q1.toUInt64 >>> ((48 : Int32) &&& 0x3f).toInt64.toUInt64).toInt64) &&& (65535 : Int64))), (.int (3 : Int32)), (.ref b1)])) _
    refine XS.l2i X21.here hx rfl (hb hby at_110) rfl ?_
    show Steps p.tables e below (T21.setTop (mkF m 111 #[.val (.long q1), .second, .val (.long q2), .second, .val (.int p3), .val (.ref b1), .unset, .unset, .unset, .unset] [(.int ((((q1.toUInt64 >>> ((48 : Int32) &&& 0x3f).toInt64.toUInt64).toInt64) &&& (65535 : Int64)).toInt32)), (.int (3 : Int32)), (.ref b1)])) _
    refine XS.lloadN X21.here hx rfl (hb hby at_111) rfl ?_
    show Steps p.tables e below (T21.setTop (mkF m 112 #[.val (.long q1), .second, .val (.long q2), .second, .val (.int p3), .val (.ref b1), .unset, .unset, .unset, .unset] [(.long q2), (.int ((((q1.toUInt64 >>> ((48 : Int32) &&& 0x3f).toInt64.toUInt64).toInt64) &&& (65535 : Int64)).toInt32)), (.int (3 : Int32)), (.ref b1)])) _
    refine XS.bipush X21.here hx rfl (hb hby at_112) ?_
    show Steps p.tables e below (T21.setTop (mkF m 114 #[.val (.long q1), .second, .val (.long q2), .second, .val (.int p3), .val (.ref b1), .unset, .unset, .unset, .unset] [(.int (35 : Int32)), (.long q2), (.int ((((q1.toUInt64 >>> ((48 : Int32) &&& 0x3f).toInt64.toUInt64).toInt64) &&& (65535 : Int64)).toInt32)), (.int (3 : Int32)), (.ref b1)])) _
    refine XS.lushr X21.here hx rfl (hb hby at_114) rfl ?_
    show Steps p.tables e below (T21.setTop (mkF m 115 #[.val (.long q1), .second, .val (.long q2), .second, .val (.int p3), .val (.ref b1), .unset, .unset, .unset, .unset] [(.long ((q2.toUInt64 >>> ((35 : Int32) &&& 0x3f).toInt64.toUInt64).toInt64)), (.int ((((q1.toUInt64 >>> ((48 : Int32) &&& 0x3f).toInt64.toUInt64).toInt64) &&& (65535 : Int64)).toInt32)), (.int (3 : Int32)), (.ref b1)])) _
    refine XS.lconst X21.here hx rfl (hb hby at_115) ?_
    show Steps p.tables e below (T21.setTop (mkF m 116 #[.val (.long q1), .second, .val (.long q2), .second, .val (.int p3), .val (.ref b1), .unset, .unset, .unset, .unset] [(.long (1 : Int64)), (.long ((q2.toUInt64 >>> ((35 : Int32) &&& 0x3f).toInt64.toUInt64).toInt64)), (.int ((((q1.toUInt64 >>> ((48 : Int32) &&& 0x3f).toInt64.toUInt64).toInt64) &&& (65535 : Int64)).toInt32)), (.int (3 : Int32)), (.ref b1)])) _
    refine XS.land X21.here hx rfl (hb hby at_116) rfl ?_
    show Steps p.tables e below (T21.setTop (mkF m 117 #[.val (.long q1), .second, .val (.long q2), .second, .val (.int p3), .val (.ref b1), .unset, .unset, .unset, .unset] [(.long (((q2.toUInt64 >>> ((35 : Int32) &&& 0x3f).toInt64.toUInt64).toInt64) &&& (1 : Int64))), (.int ((((q1.toUInt64 >>> ((48 : Int32) &&& 0x3f).toInt64.toUInt64).toInt64) &&& (65535 : Int64)).toInt32)), (.int (3 : Int32)), (.ref b1)])) _
    refine XS.lconst X21.here hx rfl (hb hby at_117) ?_
    show Steps p.tables e below (T21.setTop (mkF m 118 #[.val (.long q1), .second, .val (.long q2), .second, .val (.int p3), .val (.ref b1), .unset, .unset, .unset, .unset] [(.long (0 : Int64)), (.long (((q2.toUInt64 >>> ((35 : Int32) &&& 0x3f).toInt64.toUInt64).toInt64) &&& (1 : Int64))), (.int ((((q1.toUInt64 >>> ((48 : Int32) &&& 0x3f).toInt64.toUInt64).toInt64) &&& (65535 : Int64)).toInt32)), (.int (3 : Int32)), (.ref b1)])) _
    refine XS.lcmp X21.here hx rfl (hb hby at_118) rfl ?_
    show Steps p.tables e below (T21.setTop (mkF m 119 #[.val (.long q1), .second, .val (.long q2), .second, .val (.int p3), .val (.ref b1), .unset, .unset, .unset, .unset] [(.int (lcmpW (((q2.toUInt64 >>> ((35 : Int32) &&& 0x3f).toInt64.toUInt64).toInt64) &&& (1 : Int64)) (0 : Int64))), (.int ((((q1.toUInt64 >>> ((48 : Int32) &&& 0x3f).toInt64.toUInt64).toInt64) &&& (65535 : Int64)).toInt32)), (.int (3 : Int32)), (.ref b1)])) _
    by_cases hc24 : (((q2.toUInt64 >>> ((35 : Int32) &&& 0x3f).toInt64.toUInt64).toInt64) &&& (1 : Int64)) = (0 : Int64)
    · refine XS.ifYes X21.here hx rfl (pc0 := 119) (pc' := 126) rfl (hb hby at_119) rfl ((if0 _ _).trans (teq (own_lc_teq hc24)).1) (by decide) (by decide) ?_
      show Steps p.tables e below (T21.setTop (mkF m 126 #[.val (.long q1), .second, .val (.long q2), .second, .val (.int p3), .val (.ref b1), .unset, .unset, .unset, .unset] [(.int ((((q1.toUInt64 >>> ((48 : Int32) &&& 0x3f).toInt64.toUInt64).toInt64) &&& (65535 : Int64)).toInt32)), (.int (3 : Int32)), (.ref b1)])) _
      refine XS.iconst X21.here hx rfl (hb hby at_126) ?_
      rw [show v25 = (0 : Int32) from hv25.trans (if_pos hc24)] at k
      exact k
    · refine XS.ifNo X21.here hx rfl (hb hby at_119) rfl ((if0 _ _).trans (feq (own_lc_feq hc24)).1) ?_
      show Steps p.tables e below (T21.setTop (mkF m 122 #[.val (.long q1), .second, .val (.long q2), .second, .val (.int p3), .val (.ref b1), .unset, .unset, .unset, .unset] [(.int ((((q1.toUInt64 >>> ((48 : Int32) &&& 0x3f).toInt64.toUInt64).toInt64) &&& (65535 : Int64)).toInt32)), (.int (3 : Int32)), (.ref b1)])) _
      refine XS.iconst X21.here hx rfl (hb hby at_122) ?_
      show Steps p.tables e below (T21.setTop (mkF m 123 #[.val (.long q1), .second, .val (.long q2), .second, .val (.int p3), .val (.ref b1), .unset, .unset, .unset, .unset] [(.int (1 : Int32)), (.int ((((q1.toUInt64 >>> ((48 : Int32) &&& 0x3f).toInt64.toUInt64).toInt64) &&& (65535 : Int64)).toInt32)), (.int (3 : Int32)), (.ref b1)])) _
      refine XS.goto X21.here hx rfl (pc0 := 123) (pc' := 127) rfl (hb hby at_123) (by decide) (by decide) ?_
      rw [show v25 = (1 : Int32) from hv25.trans (if_neg hc24)] at k
      exact k)
  obtain ⟨_, _, ⟨T27, L27, k27, n27⟩, -, X27, ⟨Lc27, hQ27, l27, y27, z27⟩, st27⟩ := Jvm.LawKit.callS X21 hx (y := (⟨"com/example/prewrm/prewrm/io/CsvFieldsIsUnsignedDecimalPinLaw", "pick", "(IZ)C"⟩ : MethodName)) hown (mvT hZ (hw _ (List.mem_of_getElem? (i := 2) rfl))) (mvT hZ (hw _ (List.mem_of_getElem? (i := 3) rfl))) (mvT hZ (hw _ (List.mem_of_getElem? (i := 4) rfl))) (mvT hZ (hw _ (List.mem_of_getElem? (i := 5) rfl))) (by decide) (backOf (W := 2) (rm1 l Z a0 hw [] ((((q1.toUInt64 >>> ((48 : Int32) &&& 0x3f).toInt64.toUInt64).toInt64) &&& (65535 : Int64)).toInt32) v25 h21 n0 Zs21) hZ (hw _ (List.mem_of_getElem? (i := 5) rfl)) (hw _ (List.mem_of_getElem? (i := 4) rfl)) (by decide) (by decide)) (g := (mkF m 127 #[.val (.long q1), .second, .val (.long q2), .second, .val (.int p3), .val (.ref b1), .unset, .unset, .unset, .unset] [(.int v25), (.int ((((q1.toUInt64 >>> ((48 : Int32) &&& 0x3f).toInt64.toUInt64).toInt64) &&& (65535 : Int64)).toInt32)), (.int (3 : Int32)), (.ref b1)])) rfl (by rw [hml]; rfl) (argsL := [(.int ((((q1.toUInt64 >>> ((48 : Int32) &&& 0x3f).toInt64.toUInt64).toInt64) &&& (65535 : Int64)).toInt32)), (.int v25)]) (rest := [(.int (3 : Int32)), (.ref b1)]) (lenOf pd_18 rfl) rfl (by show 2 * 0 + _ ≤ _; exact Nat.le_of_eq rfl) (hb hby at_127) (fun _ _ => ⟨rfl, e21, (by decide : 4 + 1 ≤ _), (by decide : 54 + 16 ≤ _)⟩)
  dsimp only [Pt.U, Pt.locs, Pt.cells, Pt.slots] at X27 l27 y27 z27 st27 hQ27
  subst l27 y27 z27
  obtain ⟨h27, e27⟩ : ∃ z, T27.heap = z := ⟨_, rfl⟩
  rw [e27] at hQ27
  obtain ⟨rfl, N27q, Kc27⟩ := hQ27
  have A_b1_27 : own_A Z h27 b1 .char (6 : Int32) (fun i => .int (y21 i)) := own_A_keep A_b1_21 Kc27 nin0
  have K27 := K21.trans Kc27 all0
  have Zs27 := Nat.le_trans Zs21 Kc27.1
  have O27 := O21.keep Kc27 all0
  have N27 := Fr.app N21 N27q
  obtain ⟨cl29, Ar29, Sz29, Mz29, Hz29⟩ := id A_b1_27
  have hin28 := inb_of (j := (3 : Int32)) Sz29 ⟨by decide, by decide⟩
  obtain ⟨T28, h28, X28, e28, W28, st28⟩ := stC X27 hx hZ e27 Ar29 (j := (3 : Int32)) hin28 (g := (mkF m 130 #[.val (.long q1), .second, .val (.long q2), .second, .val (.int p3), .val (.ref b1), .unset, .unset, .unset, .unset] [(.int (own_pick ((((q1.toUInt64 >>> ((48 : Int32) &&& 0x3f).toInt64.toUInt64).toInt64) &&& (65535 : Int64)).toInt32) v25)), (.int (3 : Int32)), (.ref b1)])) rfl rfl (hb hby at_130)
  obtain ⟨y28, hy28⟩ : ∃ yy_ : Int32 → Int32, yy_ = fun i => if i = (3 : Int32) then (nar .char (own_pick ((((q1.toUInt64 >>> ((48 : Int32) &&& 0x3f).toInt64.toUInt64).toInt64) &&& (65535 : Int64)).toInt32) v25)) else y21 i := ⟨_, rfl⟩
  have K28 := K27.wr W28 (Or.inr sz_b1)
  have Zs28 := Nat.le_trans Zs27 (Keep.of_wr W28).1
  have N28 := Fr.snoc X28 N27 g_b1
  have O28 := O27.wr W28 g_b1
  have A_b1_28 : own_A Z h28 b1 .char (6 : Int32) (fun i => .int (y28 i)) := by subst hy28; exact own_A_set Ar29 Sz29 Mz29 Hz29 hin28 W28 (own_setI (y := y21) (j := (3 : Int32)) (x := (nar .char (own_pick ((((q1.toUInt64 >>> ((48 : Int32) &&& 0x3f).toInt64.toUInt64).toInt64) &&& (65535 : Int64)).toInt32) v25)))) (own_setI' (y := y21) (j := (3 : Int32)) (x := (nar .char (own_pick ((((q1.toUInt64 >>> ((48 : Int32) &&& 0x3f).toInt64.toUInt64).toInt64) &&& (65535 : Int64)).toInt32) v25))))
  have P_b1_28 : own_P y28 := by subst hy28; exact own_P_set P_b1_21 (by decide)
  obtain ⟨cl30, Ar30, Sz30, Mz30, Hz30⟩ := id A_b1_28
  obtain ⟨v32, hv32⟩ : ∃ z : Int32, z = (if (((q2.toUInt64 >>> ((36 : Int32) &&& 0x3f).toInt64.toUInt64).toInt64) &&& (1 : Int64)) = (0 : Int64) then (0 : Int32) else (1 : Int32)) := ⟨_, rfl⟩
  have pre33 : ∀ t, Steps p.tables e below (T28.setTop (mkF m 156 #[.val (.long q1), .second, .val (.long q2), .second, .val (.int p3), .val (.ref b1), .unset, .unset, .unset, .unset] [(.int v32), (.int ((q2 &&& (65535 : Int64)).toInt32)), (.int (4 : Int32)), (.ref b1)])) t → Steps p.tables e below (s₁.setTop (entryFrame m #[(.long q1), (.long q2), (.int p3)] maxLocals)) t := fun t k => pre26 t (by
    show Steps p.tables e below (T21.setTop (mkF m 127 #[.val (.long q1), .second, .val (.long q2), .second, .val (.int p3), .val (.ref b1), .unset, .unset, .unset, .unset] [(.int v25), (.int ((((q1.toUInt64 >>> ((48 : Int32) &&& 0x3f).toInt64.toUInt64).toInt64) &&& (65535 : Int64)).toInt32)), (.int (3 : Int32)), (.ref b1)])) _
    refine st27 _ ?_
    show Steps p.tables e below (T27.setTop (mkF m 130 #[.val (.long q1), .second, .val (.long q2), .second, .val (.int p3), .val (.ref b1), .unset, .unset, .unset, .unset] [(.int (own_pick ((((q1.toUInt64 >>> ((48 : Int32) &&& 0x3f).toInt64.toUInt64).toInt64) &&& (65535 : Int64)).toInt32) v25)), (.int (3 : Int32)), (.ref b1)])) _
    refine st28 _ ?_
    show Steps p.tables e below (T28.setTop (mkF m 131 #[.val (.long q1), .second, .val (.long q2), .second, .val (.int p3), .val (.ref b1), .unset, .unset, .unset, .unset] [])) _
    refine XS.aload X28.here hx rfl (hb hby at_131) rfl rfl ?_
    show Steps p.tables e below (T28.setTop (mkF m 133 #[.val (.long q1), .second, .val (.long q2), .second, .val (.int p3), .val (.ref b1), .unset, .unset, .unset, .unset] [(.ref b1)])) _
    refine XS.iconst X28.here hx rfl (hb hby at_133) ?_
    show Steps p.tables e below (T28.setTop (mkF m 134 #[.val (.long q1), .second, .val (.long q2), .second, .val (.int p3), .val (.ref b1), .unset, .unset, .unset, .unset] [(.int (4 : Int32)), (.ref b1)])) _
    refine XS.lloadN X28.here hx rfl (hb hby at_134) rfl ?_
    show Steps p.tables e below (T28.setTop (mkF m 135 #[.val (.long q1), .second, .val (.long q2), .second, .val (.int p3), .val (.ref b1), .unset, .unset, .unset, .unset] [(.long q2), (.int (4 : Int32)), (.ref b1)])) _
    refine X28.ldc2Long hx hown (mvT hZ (hw _ (List.mem_of_getElem? (i := 1) rfl))) (g := (mkF m 135 #[.val (.long q1), .second, .val (.long q2), .second, .val (.int p3), .val (.ref b1), .unset, .unset, .unset, .unset] [(.long q2), (.int (4 : Int32)), (.ref b1)])) rfl (hb hby at_135) _ ?_
    show Steps p.tables e below (T28.setTop (mkF m 138 #[.val (.long q1), .second, .val (.long q2), .second, .val (.int p3), .val (.ref b1), .unset, .unset, .unset, .unset] [(.long (65535 : Int64)), (.long q2), (.int (4 : Int32)), (.ref b1)])) _
    refine XS.land X28.here hx rfl (hb hby at_138) rfl ?_
    show Steps p.tables e below (T28.setTop (mkF m 139 #[.val (.long q1), .second, .val (.long q2), .second, .val (.int p3), .val (.ref b1), .unset, .unset, .unset, .unset] [(.long (q2 &&& (65535 : Int64))), (.int (4 : Int32)), (.ref b1)])) _
    refine XS.l2i X28.here hx rfl (hb hby at_139) rfl ?_
    show Steps p.tables e below (T28.setTop (mkF m 140 #[.val (.long q1), .second, .val (.long q2), .second, .val (.int p3), .val (.ref b1), .unset, .unset, .unset, .unset] [(.int ((q2 &&& (65535 : Int64)).toInt32)), (.int (4 : Int32)), (.ref b1)])) _
    refine XS.lloadN X28.here hx rfl (hb hby at_140) rfl ?_
    show Steps p.tables e below (T28.setTop (mkF m 141 #[.val (.long q1), .second, .val (.long q2), .second, .val (.int p3), .val (.ref b1), .unset, .unset, .unset, .unset] [(.long q2), (.int ((q2 &&& (65535 : Int64)).toInt32)), (.int (4 : Int32)), (.ref b1)])) _
    refine XS.bipush X28.here hx rfl (hb hby at_141) ?_
    show Steps p.tables e below (T28.setTop (mkF m 143 #[.val (.long q1), .second, .val (.long q2), .second, .val (.int p3), .val (.ref b1), .unset, .unset, .unset, .unset] [(.int (36 : Int32)), (.long q2), (.int ((q2 &&& (65535 : Int64)).toInt32)), (.int (4 : Int32)), (.ref b1)])) _
    refine XS.lushr X28.here hx rfl (hb hby at_143) rfl ?_
    show Steps p.tables e below (T28.setTop (mkF m 144 #[.val (.long q1), .second, .val (.long q2), .second, .val (.int p3), .val (.ref b1), .unset, .unset, .unset, .unset] [(.long ((q2.toUInt64 >>> ((36 : Int32) &&& 0x3f).toInt64.toUInt64).toInt64)), (.int ((q2 &&& (65535 : Int64)).toInt32)), (.int (4 : Int32)), (.ref b1)])) _
    refine XS.lconst X28.here hx rfl (hb hby at_144) ?_
    show Steps p.tables e below (T28.setTop (mkF m 145 #[.val (.long q1), .second, .val (.long q2), .second, .val (.int p3), .val (.ref b1), .unset, .unset, .unset, .unset] [(.long (1 : Int64)), (.long ((q2.toUInt64 >>> ((36 : Int32) &&& 0x3f).toInt64.toUInt64).toInt64)), (.int ((q2 &&& (65535 : Int64)).toInt32)), (.int (4 : Int32)), (.ref b1)])) _
    refine XS.land X28.here hx rfl (hb hby at_145) rfl ?_
    show Steps p.tables e below (T28.setTop (mkF m 146 #[.val (.long q1), .second, .val (.long q2), .second, .val (.int p3), .val (.ref b1), .unset, .unset, .unset, .unset] [(.long (((q2.toUInt64 >>> ((36 : Int32) &&& 0x3f).toInt64.toUInt64).toInt64) &&& (1 : Int64))), (.int ((q2 &&& (65535 : Int64)).toInt32)), (.int (4 : Int32)), (.ref b1)])) _
    refine XS.lconst X28.here hx rfl (hb hby at_146) ?_
    show Steps p.tables e below (T28.setTop (mkF m 147 #[.val (.long q1), .second, .val (.long q2), .second, .val (.int p3), .val (.ref b1), .unset, .unset, .unset, .unset] [(.long (0 : Int64)), (.long (((q2.toUInt64 >>> ((36 : Int32) &&& 0x3f).toInt64.toUInt64).toInt64) &&& (1 : Int64))), (.int ((q2 &&& (65535 : Int64)).toInt32)), (.int (4 : Int32)), (.ref b1)])) _
    refine XS.lcmp X28.here hx rfl (hb hby at_147) rfl ?_
    show Steps p.tables e below (T28.setTop (mkF m 148 #[.val (.long q1), .second, .val (.long q2), .second, .val (.int p3), .val (.ref b1), .unset, .unset, .unset, .unset] [(.int (lcmpW (((q2.toUInt64 >>> ((36 : Int32) &&& 0x3f).toInt64.toUInt64).toInt64) &&& (1 : Int64)) (0 : Int64))), (.int ((q2 &&& (65535 : Int64)).toInt32)), (.int (4 : Int32)), (.ref b1)])) _
    by_cases hc31 : (((q2.toUInt64 >>> ((36 : Int32) &&& 0x3f).toInt64.toUInt64).toInt64) &&& (1 : Int64)) = (0 : Int64)
    · refine XS.ifYes X28.here hx rfl (pc0 := 148) (pc' := 155) rfl (hb hby at_148) rfl ((if0 _ _).trans (teq (own_lc_teq hc31)).1) (by decide) (by decide) ?_
      show Steps p.tables e below (T28.setTop (mkF m 155 #[.val (.long q1), .second, .val (.long q2), .second, .val (.int p3), .val (.ref b1), .unset, .unset, .unset, .unset] [(.int ((q2 &&& (65535 : Int64)).toInt32)), (.int (4 : Int32)), (.ref b1)])) _
      refine XS.iconst X28.here hx rfl (hb hby at_155) ?_
      rw [show v32 = (0 : Int32) from hv32.trans (if_pos hc31)] at k
      exact k
    · refine XS.ifNo X28.here hx rfl (hb hby at_148) rfl ((if0 _ _).trans (feq (own_lc_feq hc31)).1) ?_
      show Steps p.tables e below (T28.setTop (mkF m 151 #[.val (.long q1), .second, .val (.long q2), .second, .val (.int p3), .val (.ref b1), .unset, .unset, .unset, .unset] [(.int ((q2 &&& (65535 : Int64)).toInt32)), (.int (4 : Int32)), (.ref b1)])) _
      refine XS.iconst X28.here hx rfl (hb hby at_151) ?_
      show Steps p.tables e below (T28.setTop (mkF m 152 #[.val (.long q1), .second, .val (.long q2), .second, .val (.int p3), .val (.ref b1), .unset, .unset, .unset, .unset] [(.int (1 : Int32)), (.int ((q2 &&& (65535 : Int64)).toInt32)), (.int (4 : Int32)), (.ref b1)])) _
      refine XS.goto X28.here hx rfl (pc0 := 152) (pc' := 156) rfl (hb hby at_152) (by decide) (by decide) ?_
      rw [show v32 = (1 : Int32) from hv32.trans (if_neg hc31)] at k
      exact k)
  obtain ⟨_, _, ⟨T34, L34, k34, n34⟩, -, X34, ⟨Lc34, hQ34, l34, y34, z34⟩, st34⟩ := Jvm.LawKit.callS X28 hx (y := (⟨"com/example/prewrm/prewrm/io/CsvFieldsIsUnsignedDecimalPinLaw", "pick", "(IZ)C"⟩ : MethodName)) hown (mvT hZ (hw _ (List.mem_of_getElem? (i := 2) rfl))) (mvT hZ (hw _ (List.mem_of_getElem? (i := 3) rfl))) (mvT hZ (hw _ (List.mem_of_getElem? (i := 4) rfl))) (mvT hZ (hw _ (List.mem_of_getElem? (i := 5) rfl))) (by decide) (backOf (W := 2) (rm1 l Z a0 hw [] ((q2 &&& (65535 : Int64)).toInt32) v32 h28 n0 Zs28) hZ (hw _ (List.mem_of_getElem? (i := 5) rfl)) (hw _ (List.mem_of_getElem? (i := 4) rfl)) (by decide) (by decide)) (g := (mkF m 156 #[.val (.long q1), .second, .val (.long q2), .second, .val (.int p3), .val (.ref b1), .unset, .unset, .unset, .unset] [(.int v32), (.int ((q2 &&& (65535 : Int64)).toInt32)), (.int (4 : Int32)), (.ref b1)])) rfl (by rw [hml]; rfl) (argsL := [(.int ((q2 &&& (65535 : Int64)).toInt32)), (.int v32)]) (rest := [(.int (4 : Int32)), (.ref b1)]) (lenOf pd_18 rfl) rfl (by show 2 * 0 + _ ≤ _; exact Nat.le_of_eq rfl) (hb hby at_156) (fun _ _ => ⟨rfl, e28, (by decide : 5 + 1 ≤ _), (by decide : 70 + 16 ≤ _)⟩)
  dsimp only [Pt.U, Pt.locs, Pt.cells, Pt.slots] at X34 l34 y34 z34 st34 hQ34
  subst l34 y34 z34
  obtain ⟨h34, e34⟩ : ∃ z, T34.heap = z := ⟨_, rfl⟩
  rw [e34] at hQ34
  obtain ⟨rfl, N34q, Kc34⟩ := hQ34
  have A_b1_34 : own_A Z h34 b1 .char (6 : Int32) (fun i => .int (y28 i)) := own_A_keep A_b1_28 Kc34 nin0
  have K34 := K28.trans Kc34 all0
  have Zs34 := Nat.le_trans Zs28 Kc34.1
  have O34 := O28.keep Kc34 all0
  have N34 := Fr.app N28 N34q
  obtain ⟨cl36, Ar36, Sz36, Mz36, Hz36⟩ := id A_b1_34
  have hin35 := inb_of (j := (4 : Int32)) Sz36 ⟨by decide, by decide⟩
  obtain ⟨T35, h35, X35, e35, W35, st35⟩ := stC X34 hx hZ e34 Ar36 (j := (4 : Int32)) hin35 (g := (mkF m 159 #[.val (.long q1), .second, .val (.long q2), .second, .val (.int p3), .val (.ref b1), .unset, .unset, .unset, .unset] [(.int (own_pick ((q2 &&& (65535 : Int64)).toInt32) v32)), (.int (4 : Int32)), (.ref b1)])) rfl rfl (hb hby at_159)
  obtain ⟨y35, hy35⟩ : ∃ yy_ : Int32 → Int32, yy_ = fun i => if i = (4 : Int32) then (nar .char (own_pick ((q2 &&& (65535 : Int64)).toInt32) v32)) else y28 i := ⟨_, rfl⟩
  have K35 := K34.wr W35 (Or.inr sz_b1)
  have Zs35 := Nat.le_trans Zs34 (Keep.of_wr W35).1
  have N35 := Fr.snoc X35 N34 g_b1
  have O35 := O34.wr W35 g_b1
  have A_b1_35 : own_A Z h35 b1 .char (6 : Int32) (fun i => .int (y35 i)) := by subst hy35; exact own_A_set Ar36 Sz36 Mz36 Hz36 hin35 W35 (own_setI (y := y28) (j := (4 : Int32)) (x := (nar .char (own_pick ((q2 &&& (65535 : Int64)).toInt32) v32)))) (own_setI' (y := y28) (j := (4 : Int32)) (x := (nar .char (own_pick ((q2 &&& (65535 : Int64)).toInt32) v32))))
  have P_b1_35 : own_P y35 := by subst hy35; exact own_P_set P_b1_28 (by decide)
  obtain ⟨cl37, Ar37, Sz37, Mz37, Hz37⟩ := id A_b1_35
  obtain ⟨v39, hv39⟩ : ∃ z : Int32, z = (if (((q2.toUInt64 >>> ((37 : Int32) &&& 0x3f).toInt64.toUInt64).toInt64) &&& (1 : Int64)) = (0 : Int64) then (0 : Int32) else (1 : Int32)) := ⟨_, rfl⟩
  have pre40 : ∀ t, Steps p.tables e below (T35.setTop (mkF m 188 #[.val (.long q1), .second, .val (.long q2), .second, .val (.int p3), .val (.ref b1), .unset, .unset, .unset, .unset] [(.int v39), (.int ((((q2.toUInt64 >>> ((16 : Int32) &&& 0x3f).toInt64.toUInt64).toInt64) &&& (65535 : Int64)).toInt32)), (.int (5 : Int32)), (.ref b1)])) t → Steps p.tables e below (s₁.setTop (entryFrame m #[(.long q1), (.long q2), (.int p3)] maxLocals)) t := fun t k => pre33 t (by
    show Steps p.tables e below (T28.setTop (mkF m 156 #[.val (.long q1), .second, .val (.long q2), .second, .val (.int p3), .val (.ref b1), .unset, .unset, .unset, .unset] [(.int v32), (.int ((q2 &&& (65535 : Int64)).toInt32)), (.int (4 : Int32)), (.ref b1)])) _
    refine st34 _ ?_
    show Steps p.tables e below (T34.setTop (mkF m 159 #[.val (.long q1), .second, .val (.long q2), .second, .val (.int p3), .val (.ref b1), .unset, .unset, .unset, .unset] [(.int (own_pick ((q2 &&& (65535 : Int64)).toInt32) v32)), (.int (4 : Int32)), (.ref b1)])) _
    refine st35 _ ?_
    show Steps p.tables e below (T35.setTop (mkF m 160 #[.val (.long q1), .second, .val (.long q2), .second, .val (.int p3), .val (.ref b1), .unset, .unset, .unset, .unset] [])) _
    refine XS.aload X35.here hx rfl (hb hby at_160) rfl rfl ?_
    show Steps p.tables e below (T35.setTop (mkF m 162 #[.val (.long q1), .second, .val (.long q2), .second, .val (.int p3), .val (.ref b1), .unset, .unset, .unset, .unset] [(.ref b1)])) _
    refine XS.iconst X35.here hx rfl (hb hby at_162) ?_
    show Steps p.tables e below (T35.setTop (mkF m 163 #[.val (.long q1), .second, .val (.long q2), .second, .val (.int p3), .val (.ref b1), .unset, .unset, .unset, .unset] [(.int (5 : Int32)), (.ref b1)])) _
    refine XS.lloadN X35.here hx rfl (hb hby at_163) rfl ?_
    show Steps p.tables e below (T35.setTop (mkF m 164 #[.val (.long q1), .second, .val (.long q2), .second, .val (.int p3), .val (.ref b1), .unset, .unset, .unset, .unset] [(.long q2), (.int (5 : Int32)), (.ref b1)])) _
    refine XS.bipush X35.here hx rfl (hb hby at_164) ?_
    show Steps p.tables e below (T35.setTop (mkF m 166 #[.val (.long q1), .second, .val (.long q2), .second, .val (.int p3), .val (.ref b1), .unset, .unset, .unset, .unset] [(.int (16 : Int32)), (.long q2), (.int (5 : Int32)), (.ref b1)])) _
    refine XS.lushr X35.here hx rfl (hb hby at_166) rfl ?_
    show Steps p.tables e below (T35.setTop (mkF m 167 #[.val (.long q1), .second, .val (.long q2), .second, .val (.int p3), .val (.ref b1), .unset, .unset, .unset, .unset] [(.long ((q2.toUInt64 >>> ((16 : Int32) &&& 0x3f).toInt64.toUInt64).toInt64)), (.int (5 : Int32)), (.ref b1)])) _
    refine X35.ldc2Long hx hown (mvT hZ (hw _ (List.mem_of_getElem? (i := 1) rfl))) (g := (mkF m 167 #[.val (.long q1), .second, .val (.long q2), .second, .val (.int p3), .val (.ref b1), .unset, .unset, .unset, .unset] [(.long ((q2.toUInt64 >>> ((16 : Int32) &&& 0x3f).toInt64.toUInt64).toInt64)), (.int (5 : Int32)), (.ref b1)])) rfl (hb hby at_167) _ ?_
    show Steps p.tables e below (T35.setTop (mkF m 170 #[.val (.long q1), .second, .val (.long q2), .second, .val (.int p3), .val (.ref b1), .unset, .unset, .unset, .unset] [(.long (65535 : Int64)), (.long ((q2.toUInt64 >>> ((16 : Int32) &&& 0x3f).toInt64.toUInt64).toInt64)), (.int (5 : Int32)), (.ref b1)])) _
    refine XS.land X35.here hx rfl (hb hby at_170) rfl ?_
    show Steps p.tables e below (T35.setTop (mkF m 171 #[.val (.long q1), .second, .val (.long q2), .second, .val (.int p3), .val (.ref b1), .unset, .unset, .unset, .unset] [(.long (((q2.toUInt64 >>> ((16 : Int32) &&& 0x3f).toInt64.toUInt64).toInt64) &&& (65535 : Int64))), (.int (5 : Int32)), (.ref b1)])) _
    refine XS.l2i X35.here hx rfl (hb hby at_171) rfl ?_
    show Steps p.tables e below (T35.setTop (mkF m 172 #[.val (.long q1), .second, .val (.long q2), .second, .val (.int p3), .val (.ref b1), .unset, .unset, .unset, .unset] [(.int ((((q2.toUInt64 >>> ((16 : Int32) &&& 0x3f).toInt64.toUInt64).toInt64) &&& (65535 : Int64)).toInt32)), (.int (5 : Int32)), (.ref b1)])) _
    refine XS.lloadN X35.here hx rfl (hb hby at_172) rfl ?_
    show Steps p.tables e below (T35.setTop (mkF m 173 #[.val (.long q1), .second, .val (.long q2), .second, .val (.int p3), .val (.ref b1), .unset, .unset, .unset, .unset] [(.long q2), (.int ((((q2.toUInt64 >>> ((16 : Int32) &&& 0x3f).toInt64.toUInt64).toInt64) &&& (65535 : Int64)).toInt32)), (.int (5 : Int32)), (.ref b1)])) _
    refine XS.bipush X35.here hx rfl (hb hby at_173) ?_
    show Steps p.tables e below (T35.setTop (mkF m 175 #[.val (.long q1), .second, .val (.long q2), .second, .val (.int p3), .val (.ref b1), .unset, .unset, .unset, .unset] [(.int (37 : Int32)), (.long q2), (.int ((((q2.toUInt64 >>> ((16 : Int32) &&& 0x3f).toInt64.toUInt64).toInt64) &&& (65535 : Int64)).toInt32)), (.int (5 : Int32)), (.ref b1)])) _
    refine XS.lushr X35.here hx rfl (hb hby at_175) rfl ?_
    show Steps p.tables e below (T35.setTop (mkF m 176 #[.val (.long q1), .second, .val (.long q2), .second, .val (.int p3), .val (.ref b1), .unset, .unset, .unset, .unset] [(.long ((q2.toUInt64 >>> ((37 : Int32) &&& 0x3f).toInt64.toUInt64).toInt64)), (.int ((((q2.toUInt64 >>> ((16 : Int32) &&& 0x3f).toInt64.toUInt64).toInt64) &&& (65535 : Int64)).toInt32)), (.int (5 : Int32)), (.ref b1)])) _
    refine XS.lconst X35.here hx rfl (hb hby at_176) ?_
    show Steps p.tables e below (T35.setTop (mkF m 177 #[.val (.long q1), .second, .val (.long q2), .second, .val (.int p3), .val (.ref b1), .unset, .unset, .unset, .unset] [(.long (1 : Int64)), (.long ((q2.toUInt64 >>> ((37 : Int32) &&& 0x3f).toInt64.toUInt64).toInt64)), (.int ((((q2.toUInt64 >>> ((16 : Int32) &&& 0x3f).toInt64.toUInt64).toInt64) &&& (65535 : Int64)).toInt32)), (.int (5 : Int32)), (.ref b1)])) _
    refine XS.land X35.here hx rfl (hb hby at_177) rfl ?_
    show Steps p.tables e below (T35.setTop (mkF m 178 #[.val (.long q1), .second, .val (.long q2), .second, .val (.int p3), .val (.ref b1), .unset, .unset, .unset, .unset] [(.long (((q2.toUInt64 >>> ((37 : Int32) &&& 0x3f).toInt64.toUInt64).toInt64) &&& (1 : Int64))), (.int ((((q2.toUInt64 >>> ((16 : Int32) &&& 0x3f).toInt64.toUInt64).toInt64) &&& (65535 : Int64)).toInt32)), (.int (5 : Int32)), (.ref b1)])) _
    refine XS.lconst X35.here hx rfl (hb hby at_178) ?_
    show Steps p.tables e below (T35.setTop (mkF m 179 #[.val (.long q1), .second, .val (.long q2), .second, .val (.int p3), .val (.ref b1), .unset, .unset, .unset, .unset] [(.long (0 : Int64)), (.long (((q2.toUInt64 >>> ((37 : Int32) &&& 0x3f).toInt64.toUInt64).toInt64) &&& (1 : Int64))), (.int ((((q2.toUInt64 >>> ((16 : Int32) &&& 0x3f).toInt64.toUInt64).toInt64) &&& (65535 : Int64)).toInt32)), (.int (5 : Int32)), (.ref b1)])) _
    refine XS.lcmp X35.here hx rfl (hb hby at_179) rfl ?_
    show Steps p.tables e below (T35.setTop (mkF m 180 #[.val (.long q1), .second, .val (.long q2), .second, .val (.int p3), .val (.ref b1), .unset, .unset, .unset, .unset] [(.int (lcmpW (((q2.toUInt64 >>> ((37 : Int32) &&& 0x3f).toInt64.toUInt64).toInt64) &&& (1 : Int64)) (0 : Int64))), (.int ((((q2.toUInt64 >>> ((16 : Int32) &&& 0x3f).toInt64.toUInt64).toInt64) &&& (65535 : Int64)).toInt32)), (.int (5 : Int32)), (.ref b1)])) _
    by_cases hc38 : (((q2.toUInt64 >>> ((37 : Int32) &&& 0x3f).toInt64.toUInt64).toInt64) &&& (1 : Int64)) = (0 : Int64)
    · refine XS.ifYes X35.here hx rfl (pc0 := 180) (pc' := 187) rfl (hb hby at_180) rfl ((if0 _ _).trans (teq (own_lc_teq hc38)).1) (by decide) (by decide) ?_
      show Steps p.tables e below (T35.setTop (mkF m 187 #[.val (.long q1), .second, .val (.long q2), .second, .val (.int p3), .val (.ref b1), .unset, .unset, .unset, .unset] [(.int ((((q2.toUInt64 >>> ((16 : Int32) &&& 0x3f).toInt64.toUInt64).toInt64) &&& (65535 : Int64)).toInt32)), (.int (5 : Int32)), (.ref b1)])) _
      refine XS.iconst X35.here hx rfl (hb hby at_187) ?_
      rw [show v39 = (0 : Int32) from hv39.trans (if_pos hc38)] at k
      exact k
    · refine XS.ifNo X35.here hx rfl (hb hby at_180) rfl ((if0 _ _).trans (feq (own_lc_feq hc38)).1) ?_
      show Steps p.tables e below (T35.setTop (mkF m 183 #[.val (.long q1), .second, .val (.long q2), .second, .val (.int p3), .val (.ref b1), .unset, .unset, .unset, .unset] [(.int ((((q2.toUInt64 >>> ((16 : Int32) &&& 0x3f).toInt64.toUInt64).toInt64) &&& (65535 : Int64)).toInt32)), (.int (5 : Int32)), (.ref b1)])) _
      refine XS.iconst X35.here hx rfl (hb hby at_183) ?_
      show Steps p.tables e below (T35.setTop (mkF m 184 #[.val (.long q1), .second, .val (.long q2), .second, .val (.int p3), .val (.ref b1), .unset, .unset, .unset, .unset] [(.int (1 : Int32)), (.int ((((q2.toUInt64 >>> ((16 : Int32) &&& 0x3f).toInt64.toUInt64).toInt64) &&& (65535 : Int64)).toInt32)), (.int (5 : Int32)), (.ref b1)])) _
      refine XS.goto X35.here hx rfl (pc0 := 184) (pc' := 188) rfl (hb hby at_184) (by decide) (by decide) ?_
      rw [show v39 = (1 : Int32) from hv39.trans (if_neg hc38)] at k
      exact k)
  obtain ⟨_, _, ⟨T41, L41, k41, n41⟩, -, X41, ⟨Lc41, hQ41, l41, y41, z41⟩, st41⟩ := Jvm.LawKit.callS X35 hx (y := (⟨"com/example/prewrm/prewrm/io/CsvFieldsIsUnsignedDecimalPinLaw", "pick", "(IZ)C"⟩ : MethodName)) hown (mvT hZ (hw _ (List.mem_of_getElem? (i := 2) rfl))) (mvT hZ (hw _ (List.mem_of_getElem? (i := 3) rfl))) (mvT hZ (hw _ (List.mem_of_getElem? (i := 4) rfl))) (mvT hZ (hw _ (List.mem_of_getElem? (i := 5) rfl))) (by decide) (backOf (W := 2) (rm1 l Z a0 hw [] ((((q2.toUInt64 >>> ((16 : Int32) &&& 0x3f).toInt64.toUInt64).toInt64) &&& (65535 : Int64)).toInt32) v39 h35 n0 Zs35) hZ (hw _ (List.mem_of_getElem? (i := 5) rfl)) (hw _ (List.mem_of_getElem? (i := 4) rfl)) (by decide) (by decide)) (g := (mkF m 188 #[.val (.long q1), .second, .val (.long q2), .second, .val (.int p3), .val (.ref b1), .unset, .unset, .unset, .unset] [(.int v39), (.int ((((q2.toUInt64 >>> ((16 : Int32) &&& 0x3f).toInt64.toUInt64).toInt64) &&& (65535 : Int64)).toInt32)), (.int (5 : Int32)), (.ref b1)])) rfl (by rw [hml]; rfl) (argsL := [(.int ((((q2.toUInt64 >>> ((16 : Int32) &&& 0x3f).toInt64.toUInt64).toInt64) &&& (65535 : Int64)).toInt32)), (.int v39)]) (rest := [(.int (5 : Int32)), (.ref b1)]) (lenOf pd_18 rfl) rfl (by show 2 * 0 + _ ≤ _; exact Nat.le_of_eq rfl) (hb hby at_188) (fun _ _ => ⟨rfl, e35, (by decide : 6 + 1 ≤ _), (by decide : 86 + 16 ≤ _)⟩)
  dsimp only [Pt.U, Pt.locs, Pt.cells, Pt.slots] at X41 l41 y41 z41 st41 hQ41
  subst l41 y41 z41
  obtain ⟨h41, e41⟩ : ∃ z, T41.heap = z := ⟨_, rfl⟩
  rw [e41] at hQ41
  obtain ⟨rfl, N41q, Kc41⟩ := hQ41
  have A_b1_41 : own_A Z h41 b1 .char (6 : Int32) (fun i => .int (y35 i)) := own_A_keep A_b1_35 Kc41 nin0
  have K41 := K35.trans Kc41 all0
  have Zs41 := Nat.le_trans Zs35 Kc41.1
  have O41 := O35.keep Kc41 all0
  have N41 := Fr.app N35 N41q
  obtain ⟨cl43, Ar43, Sz43, Mz43, Hz43⟩ := id A_b1_41
  have hin42 := inb_of (j := (5 : Int32)) Sz43 ⟨by decide, by decide⟩
  obtain ⟨T42, h42, X42, e42, W42, st42⟩ := stC X41 hx hZ e41 Ar43 (j := (5 : Int32)) hin42 (g := (mkF m 191 #[.val (.long q1), .second, .val (.long q2), .second, .val (.int p3), .val (.ref b1), .unset, .unset, .unset, .unset] [(.int (own_pick ((((q2.toUInt64 >>> ((16 : Int32) &&& 0x3f).toInt64.toUInt64).toInt64) &&& (65535 : Int64)).toInt32) v39)), (.int (5 : Int32)), (.ref b1)])) rfl rfl (hb hby at_191)
  obtain ⟨y42, hy42⟩ : ∃ yy_ : Int32 → Int32, yy_ = fun i => if i = (5 : Int32) then (nar .char (own_pick ((((q2.toUInt64 >>> ((16 : Int32) &&& 0x3f).toInt64.toUInt64).toInt64) &&& (65535 : Int64)).toInt32) v39)) else y35 i := ⟨_, rfl⟩
  have K42 := K41.wr W42 (Or.inr sz_b1)
  have Zs42 := Nat.le_trans Zs41 (Keep.of_wr W42).1
  have N42 := Fr.snoc X42 N41 g_b1
  have O42 := O41.wr W42 g_b1
  have A_b1_42 : own_A Z h42 b1 .char (6 : Int32) (fun i => .int (y42 i)) := by subst hy42; exact own_A_set Ar43 Sz43 Mz43 Hz43 hin42 W42 (own_setI (y := y35) (j := (5 : Int32)) (x := (nar .char (own_pick ((((q2.toUInt64 >>> ((16 : Int32) &&& 0x3f).toInt64.toUInt64).toInt64) &&& (65535 : Int64)).toInt32) v39)))) (own_setI' (y := y35) (j := (5 : Int32)) (x := (nar .char (own_pick ((((q2.toUInt64 >>> ((16 : Int32) &&& 0x3f).toInt64.toUInt64).toInt64) &&& (65535 : Int64)).toInt32) v39))))
  have P_b1_42 : own_P y42 := by subst hy42; exact own_P_set P_b1_35 (by decide)
  obtain ⟨FR, hFR⟩ : ∃ z : Int32, z = ((p3 &&& (2147483647 : Int32)) % (7 : Int32)) := ⟨_, rfl⟩
  have rFR : 0 ≤ FR.toInt ∧ FR.toInt ≤ 6 := by rw [hFR]; exact own_from _
  obtain ⟨T44, h44, X44, e44, E44, Ax44, D44, -, st44⟩ := newO X42 hx hZ hown (hw _ (List.mem_of_getElem? (i := 7) rfl)) (hw _ (List.mem_of_getElem? (i := 8) rfl)) (hw _ (List.mem_of_getElem? (i := 9) rfl)) e42 (g := (mkF m 202 #[.val (.long q1), .second, .val (.long q2), .second, .val (.int p3), .val (.ref b1), .val (.int FR), .unset, .unset, .unset] [])) rfl (hb hby at_202) (by decide) (by decide)
  obtain ⟨b44, g44⟩ : ∃ z, z = h42.size := ⟨_, rfl⟩
  rw [← g44] at Ax44 D44 st44
  have ne_b1_b44 : b1 ≠ b44 := Nat.ne_of_lt (Nat.lt_of_lt_of_le (own_A_lt A_b1_42) (Nat.le_of_eq g44.symm))
  have g_b44 : n0 ≤ b44 := Nat.le_trans Zs42 (Nat.le_of_eq g44.symm)
  have sz_b44 : h0.size ≤ b44 := Nat.le_trans K42.1 (Nat.le_of_eq g44.symm)
  have A_b1_44 : own_A Z h44 b1 .char (6 : Int32) (fun i => .int (y42 i)) := own_A_ext A_b1_42 E44
  have K44 := K42.ext E44
  have Zs44 := Nat.le_trans Zs42 E44.1
  have O44 := O42.ext E44
  have E_b44_44 : Exa Z h44 b44 "java/lang/String" := Ax44
  have F_coder_b44_44 : Fld Z h44 b44 "java/lang/String" "coder" "B" (.int (0 : Int32)) := D44 (Or.inr (hw _ (List.mem_of_getElem? (i := 33) rfl))) (ty := .byte) (by decide)
  have F_value_b44_44 : Fld Z h44 b44 "java/lang/String" "value" "[B" .null := D44 (Or.inr (hw _ (List.mem_of_getElem? (i := 35) rfl))) (ty := (.array .byte)) (by decide)
  obtain ⟨_, _, ⟨T45, L45, k45, n45⟩, -, X45, ⟨Lc45, hQ45, l45, y45, z45⟩, st45⟩ := X44.specialBack hx (y := (⟨"java/lang/String", "<init>", "([C)V"⟩ : MethodName)) rfl hown (mvT hZ (hw _ (List.mem_of_getElem? (i := 10) rfl))) (mvT hZ (hw _ (List.mem_of_getElem? (i := 11) rfl))) (mvT hZ (hw _ (List.mem_of_getElem? (i := 12) rfl))) (by decide) (backOf (W := 1) (rm2 l Z a0 hw [] b44 b1 cs y42 h44 n0 Zs44 E_b44_44 F_value_b44_44 F_coder_b44_44 A_b1_44 ne_b1_b44 g_b44 hWd P_b1_42 O44) hZ (hw _ (List.mem_of_getElem? (i := 12) rfl)) (hw _ (List.mem_of_getElem? (i := 9) rfl)) (by decide) (by decide)) (g := (mkF m 208 #[.val (.long q1), .second, .val (.long q2), .second, .val (.int p3), .val (.ref b1), .val (.int FR), .unset, .unset, .unset] [(.ref b1), (.ref b44), (.ref b44)])) rfl (by rw [hml]; rfl) (Steps.refl _) (a := b44) (argsL := [(.ref b1)]) (rest := [(.ref b44)]) (lenOf pd_19 rfl) rfl (by show 2 * 0 + _ ≤ _; exact Nat.le_of_eq rfl) (hb hby at_208) (fun _ _ => ⟨rfl, e44, (by decide : 8 + 2 ≤ _), (by decide : 106 + 18 ≤ _)⟩)
  dsimp only [Pt.U, Pt.locs, Pt.cells, Pt.slots] at X45 l45 y45 z45 st45 hQ45
  subst l45 y45 z45
  obtain ⟨h45, e45⟩ : ∃ z, T45.heap = z := ⟨_, rfl⟩
  rw [e45] at hQ45
  obtain ⟨b45, nb45, yb45, rfl, N45q, Kc45, szc_b45, E_b44_45q, F_value_b44_45q, F_coder_b44_45q, A_b45_45q, R_b45_45q⟩ := hQ45
  have ne_b1_b45 : b1 ≠ b45 := Nat.ne_of_lt (Nat.lt_of_lt_of_le (own_A_lt A_b1_44) szc_b45)
  have ne_b44_b45 : b44 ≠ b45 := Nat.ne_of_lt (Nat.lt_of_lt_of_le E_b44_44.lt szc_b45)
  have g_b45 : n0 ≤ b45 := Nat.le_trans Zs44 szc_b45
  have sz_b45 : h0.size ≤ b45 := Nat.le_trans K44.1 szc_b45
  have A_b1_45 : own_A Z h45 b1 .char (6 : Int32) (fun i => .int (y42 i)) := own_A_keep A_b1_44 Kc45 (ninS ne_b1_b44 nin0)
  have K45 := K44.trans Kc45 (allS (Or.inr sz_b44) all0)
  have Zs45 := Nat.le_trans Zs44 Kc45.1
  have O45 := O44.keep Kc45 (allS g_b44 all0)
  have E_b44_45 : Exa Z h45 b44 "java/lang/String" := E_b44_45q
  have F_value_b44_45 : Fld Z h45 b44 "java/lang/String" "value" "[B" (.ref b45) := F_value_b44_45q
  have F_coder_b44_45 : Fld Z h45 b44 "java/lang/String" "coder" "B" (.int (nar .byte (f7 (6 : Int32) nb45))) := F_coder_b44_45q
  have A_b45_45 : own_A Z h45 b45 .byte nb45 (fun i => .int (yb45 i)) := A_b45_45q
  have R_b45_45 : own_CB y42 nb45 yb45 := R_b45_45q
  have N45 := Fr.app N42 N45q
  obtain ⟨cl46, Ar46, Sz46, Mz46, Hz46⟩ := id A_b1_45
  obtain ⟨cl47, Ar47, Sz47, Mz47, Hz47⟩ := id A_b45_45
  obtain ⟨v49, hv49⟩ : ∃ z : Int32, z = (if (0 : Int32) < FR then (0 : Int32) else (1 : Int32)) := ⟨_, rfl⟩
  have pre50 : ∀ t, Steps p.tables e below (T45.setTop (mkF m 233 #[.val (.long q1), .second, .val (.long q2), .second, .val (.int p3), .val (.ref b1), .val (.int FR), .val (.ref b44), .val (.int (0 : Int32)), .unset] [(.int v49), (.int (y42 (0 : Int32))), (.int (0 : Int32))])) t → Steps p.tables e below (s₁.setTop (entryFrame m #[(.long q1), (.long q2), (.int p3)] maxLocals)) t := fun t k => pre40 t (by
    show Steps p.tables e below (T35.setTop (mkF m 188 #[.val (.long q1), .second, .val (.long q2), .second, .val (.int p3), .val (.ref b1), .unset, .unset, .unset, .unset] [(.int v39), (.int ((((q2.toUInt64 >>> ((16 : Int32) &&& 0x3f).toInt64.toUInt64).toInt64) &&& (65535 : Int64)).toInt32)), (.int (5 : Int32)), (.ref b1)])) _
    refine st41 _ ?_
    show Steps p.tables e below (T41.setTop (mkF m 191 #[.val (.long q1), .second, .val (.long q2), .second, .val (.int p3), .val (.ref b1), .unset, .unset, .unset, .unset] [(.int (own_pick ((((q2.toUInt64 >>> ((16 : Int32) &&& 0x3f).toInt64.toUInt64).toInt64) &&& (65535 : Int64)).toInt32) v39)), (.int (5 : Int32)), (.ref b1)])) _
    refine st42 _ ?_
    show Steps p.tables e below (T42.setTop (mkF m 192 #[.val (.long q1), .second, .val (.long q2), .second, .val (.int p3), .val (.ref b1), .unset, .unset, .unset, .unset] [])) _
    refine XS.iload X42.here hx rfl (hb hby at_192) rfl ?_
    show Steps p.tables e below (T42.setTop (mkF m 194 #[.val (.long q1), .second, .val (.long q2), .second, .val (.int p3), .val (.ref b1), .unset, .unset, .unset, .unset] [(.int p3)])) _
    refine X42.ldcInt hx hown (mvT hZ (hw _ (List.mem_of_getElem? (i := 6) rfl))) (g := (mkF m 194 #[.val (.long q1), .second, .val (.long q2), .second, .val (.int p3), .val (.ref b1), .unset, .unset, .unset, .unset] [(.int p3)])) rfl (hb hby at_194) _ ?_
    show Steps p.tables e below (T42.setTop (mkF m 196 #[.val (.long q1), .second, .val (.long q2), .second, .val (.int p3), .val (.ref b1), .unset, .unset, .unset, .unset] [(.int (2147483647 : Int32)), (.int p3)])) _
    refine XS.iand X42.here hx rfl (hb hby at_196) rfl ?_
    show Steps p.tables e below (T42.setTop (mkF m 197 #[.val (.long q1), .second, .val (.long q2), .second, .val (.int p3), .val (.ref b1), .unset, .unset, .unset, .unset] [(.int (p3 &&& (2147483647 : Int32)))])) _
    refine XS.bipush X42.here hx rfl (hb hby at_197) ?_
    show Steps p.tables e below (T42.setTop (mkF m 199 #[.val (.long q1), .second, .val (.long q2), .second, .val (.int p3), .val (.ref b1), .unset, .unset, .unset, .unset] [(.int (7 : Int32)), (.int (p3 &&& (2147483647 : Int32)))])) _
    refine iremM X42 hx rfl (hb hby at_199) rfl (by decide) ?_
    show Steps p.tables e below (T42.setTop (mkF m 200 #[.val (.long q1), .second, .val (.long q2), .second, .val (.int p3), .val (.ref b1), .unset, .unset, .unset, .unset] [(.int ((p3 &&& (2147483647 : Int32)) % (7 : Int32)))])) _
    rw [← hFR]
    show Steps p.tables e below (T42.setTop (mkF m 200 #[.val (.long q1), .second, .val (.long q2), .second, .val (.int p3), .val (.ref b1), .unset, .unset, .unset, .unset] [(.int FR)])) _
    refine XS.istore X42.here hx rfl (hb hby at_200) rfl (l' := #[.val (.long q1), .second, .val (.long q2), .second, .val (.int p3), .val (.ref b1), .val (.int FR), .unset, .unset, .unset]) rfl ?_
    show Steps p.tables e below (T42.setTop (mkF m 202 #[.val (.long q1), .second, .val (.long q2), .second, .val (.int p3), .val (.ref b1), .val (.int FR), .unset, .unset, .unset] [])) _
    refine st44 _ ?_
    show Steps p.tables e below (T44.setTop (mkF m 205 #[.val (.long q1), .second, .val (.long q2), .second, .val (.int p3), .val (.ref b1), .val (.int FR), .unset, .unset, .unset] [(.ref b44)])) _
    refine XS.dup X44.here hx rfl (hb hby at_205) rfl rfl ?_
    show Steps p.tables e below (T44.setTop (mkF m 206 #[.val (.long q1), .second, .val (.long q2), .second, .val (.int p3), .val (.ref b1), .val (.int FR), .unset, .unset, .unset] [(.ref b44), (.ref b44)])) _
    refine XS.aload X44.here hx rfl (hb hby at_206) rfl rfl ?_
    show Steps p.tables e below (T44.setTop (mkF m 208 #[.val (.long q1), .second, .val (.long q2), .second, .val (.int p3), .val (.ref b1), .val (.int FR), .unset, .unset, .unset] [(.ref b1), (.ref b44), (.ref b44)])) _
    refine st45.trans ?_
    show Steps p.tables e below (T45.setTop (mkF m 211 #[.val (.long q1), .second, .val (.long q2), .second, .val (.int p3), .val (.ref b1), .val (.int FR), .unset, .unset, .unset] [(.ref b44)])) _
    refine XS.astore X45.here hx rfl (hb hby at_211) rfl rfl (l' := #[.val (.long q1), .second, .val (.long q2), .second, .val (.int p3), .val (.ref b1), .val (.int FR), .val (.ref b44), .unset, .unset]) rfl ?_
    show Steps p.tables e below (T45.setTop (mkF m 213 #[.val (.long q1), .second, .val (.long q2), .second, .val (.int p3), .val (.ref b1), .val (.int FR), .val (.ref b44), .unset, .unset] [])) _
    refine XS.iconst X45.here hx rfl (hb hby at_213) ?_
    show Steps p.tables e below (T45.setTop (mkF m 214 #[.val (.long q1), .second, .val (.long q2), .second, .val (.int p3), .val (.ref b1), .val (.int FR), .val (.ref b44), .unset, .unset] [(.int (0 : Int32))])) _
    refine XS.istore X45.here hx rfl (hb hby at_214) rfl (l' := #[.val (.long q1), .second, .val (.long q2), .second, .val (.int p3), .val (.ref b1), .val (.int FR), .val (.ref b44), .val (.int (0 : Int32)), .unset]) rfl ?_
    show Steps p.tables e below (T45.setTop (mkF m 216 #[.val (.long q1), .second, .val (.long q2), .second, .val (.int p3), .val (.ref b1), .val (.int FR), .val (.ref b44), .val (.int (0 : Int32)), .unset] [])) _
    refine XS.iload X45.here hx rfl (hb hby at_216) rfl ?_
    show Steps p.tables e below (T45.setTop (mkF m 218 #[.val (.long q1), .second, .val (.long q2), .second, .val (.int p3), .val (.ref b1), .val (.int FR), .val (.ref b44), .val (.int (0 : Int32)), .unset] [(.int (0 : Int32))])) _
    refine XS.aload X45.here hx rfl (hb hby at_218) rfl rfl ?_
    show Steps p.tables e below (T45.setTop (mkF m 220 #[.val (.long q1), .second, .val (.long q2), .second, .val (.int p3), .val (.ref b1), .val (.int FR), .val (.ref b44), .val (.int (0 : Int32)), .unset] [(.ref b1), (.int (0 : Int32))])) _
    refine XS.iconst X45.here hx rfl (hb hby at_220) ?_
    show Steps p.tables e below (T45.setTop (mkF m 221 #[.val (.long q1), .second, .val (.long q2), .second, .val (.int p3), .val (.ref b1), .val (.int FR), .val (.ref b44), .val (.int (0 : Int32)), .unset] [(.int (0 : Int32)), (.ref b1), (.int (0 : Int32))])) _
    refine X45.caload hx (j := (0 : Int32)) (v := (.int (y42 (0 : Int32)))) (by rw [e45]; exact Ar46.1) (State.isArrayOf_alike hZ.alike Ar46.2.1) Ar46.2.2 (inb_of Sz46 ⟨by decide, by decide⟩) (Hz46 _ (inb_of Sz46 ⟨by decide, by decide⟩)) (g := (mkF m 221 #[.val (.long q1), .second, .val (.long q2), .second, .val (.int p3), .val (.ref b1), .val (.int FR), .val (.ref b44), .val (.int (0 : Int32)), .unset] [(.int (0 : Int32)), (.ref b1), (.int (0 : Int32))])) rfl rfl (hb hby at_221) _ ?_
    show Steps p.tables e below (T45.setTop (mkF m 222 #[.val (.long q1), .second, .val (.long q2), .second, .val (.int p3), .val (.ref b1), .val (.int FR), .val (.ref b44), .val (.int (0 : Int32)), .unset] [(.int (y42 (0 : Int32))), (.int (0 : Int32))])) _
    refine XS.iconst X45.here hx rfl (hb hby at_222) ?_
    show Steps p.tables e below (T45.setTop (mkF m 223 #[.val (.long q1), .second, .val (.long q2), .second, .val (.int p3), .val (.ref b1), .val (.int FR), .val (.ref b44), .val (.int (0 : Int32)), .unset] [(.int (0 : Int32)), (.int (y42 (0 : Int32))), (.int (0 : Int32))])) _
    refine XS.iload X45.here hx rfl (hb hby at_223) rfl ?_
    show Steps p.tables e below (T45.setTop (mkF m 225 #[.val (.long q1), .second, .val (.long q2), .second, .val (.int p3), .val (.ref b1), .val (.int FR), .val (.ref b44), .val (.int (0 : Int32)), .unset] [(.int FR), (.int (0 : Int32)), (.int (y42 (0 : Int32))), (.int (0 : Int32))])) _
    by_cases hc48 : (0 : Int32) < FR
    · refine XS.icmpYes X45.here hx rfl (pc0 := 225) (pc' := 232) rfl (hb hby at_225) rfl (tlt hc48).1 (by decide) (by decide) ?_
      show Steps p.tables e below (T45.setTop (mkF m 232 #[.val (.long q1), .second, .val (.long q2), .second, .val (.int p3), .val (.ref b1), .val (.int FR), .val (.ref b44), .val (.int (0 : Int32)), .unset] [(.int (y42 (0 : Int32))), (.int (0 : Int32))])) _
      refine XS.iconst X45.here hx rfl (hb hby at_232) ?_
      rw [show v49 = (0 : Int32) from hv49.trans (if_pos hc48)] at k
      exact k
    · refine XS.icmpNo X45.here hx rfl (hb hby at_225) rfl (flt hc48).1 ?_
      show Steps p.tables e below (T45.setTop (mkF m 228 #[.val (.long q1), .second, .val (.long q2), .second, .val (.int p3), .val (.ref b1), .val (.int FR), .val (.ref b44), .val (.int (0 : Int32)), .unset] [(.int (y42 (0 : Int32))), (.int (0 : Int32))])) _
      refine XS.iconst X45.here hx rfl (hb hby at_228) ?_
      show Steps p.tables e below (T45.setTop (mkF m 229 #[.val (.long q1), .second, .val (.long q2), .second, .val (.int p3), .val (.ref b1), .val (.int FR), .val (.ref b44), .val (.int (0 : Int32)), .unset] [(.int (1 : Int32)), (.int (y42 (0 : Int32))), (.int (0 : Int32))])) _
      refine XS.goto X45.here hx rfl (pc0 := 229) (pc' := 233) rfl (hb hby at_229) (by decide) (by decide) ?_
      rw [show v49 = (1 : Int32) from hv49.trans (if_neg hc48)] at k
      exact k)
  obtain ⟨_, _, ⟨T51, L51, k51, n51⟩, -, X51, ⟨Lc51, hQ51, l51, y51, z51⟩, st51⟩ := Jvm.LawKit.callS X45 hx (y := (⟨"com/example/prewrm/prewrm/io/CsvFieldsIsUnsignedDecimalPinLaw", "step", "(ICZ)I"⟩ : MethodName)) hown (mvT hZ (hw _ (List.mem_of_getElem? (i := 36) rfl))) (mvT hZ (hw _ (List.mem_of_getElem? (i := 37) rfl))) (mvT hZ (hw _ (List.mem_of_getElem? (i := 4) rfl))) (mvT hZ (hw _ (List.mem_of_getElem? (i := 38) rfl))) (by decide) (backOf (W := 0) (rm8 l Z a0 hw [] (0 : Int32) (y42 (0 : Int32)) v49 h45 n0 Zs45) hZ (hw _ (List.mem_of_getElem? (i := 38) rfl)) (hw _ (List.mem_of_getElem? (i := 4) rfl)) (by decide) (by decide)) (g := (mkF m 233 #[.val (.long q1), .second, .val (.long q2), .second, .val (.int p3), .val (.ref b1), .val (.int FR), .val (.ref b44), .val (.int (0 : Int32)), .unset] [(.int v49), (.int (y42 (0 : Int32))), (.int (0 : Int32))])) rfl (by rw [hml]; rfl) (argsL := [(.int (0 : Int32)), (.int (y42 (0 : Int32))), (.int v49)]) (rest := []) (lenOf pd_20 rfl) rfl (by show 2 * 0 + _ ≤ _; exact Nat.le_of_eq rfl) (hb hby at_233) (fun _ _ => ⟨rfl, e45, (by decide : 10 + 0 ≤ _), (by decide : 124 + 0 ≤ _)⟩)
  dsimp only [Pt.U, Pt.locs, Pt.cells, Pt.slots] at X51 l51 y51 z51 st51 hQ51
  subst l51 y51 z51
  obtain ⟨rfl, N51q, e51⟩ := hQ51
  have N51 := Fr.app N45 N51q
  obtain ⟨S1, hS1⟩ : ∃ z : Int32, z = (f8 (0 : Int32) (y42 (0 : Int32)) v49) := ⟨_, rfl⟩
  obtain ⟨v53, hv53⟩ : ∃ z : Int32, z = (if (1 : Int32) < FR then (0 : Int32) else (1 : Int32)) := ⟨_, rfl⟩
  have pre54 : ∀ t, Steps p.tables e below (T51.setTop (mkF m 255 #[.val (.long q1), .second, .val (.long q2), .second, .val (.int p3), .val (.ref b1), .val (.int FR), .val (.ref b44), .val (.int S1), .unset] [(.int v53), (.int (y42 (1 : Int32))), (.int S1)])) t → Steps p.tables e below (s₁.setTop (entryFrame m #[(.long q1), (.long q2), (.int p3)] maxLocals)) t := fun t k => pre50 t (by
    show Steps p.tables e below (T45.setTop (mkF m 233 #[.val (.long q1), .second, .val (.long q2), .second, .val (.int p3), .val (.ref b1), .val (.int FR), .val (.ref b44), .val (.int (0 : Int32)), .unset] [(.int v49), (.int (y42 (0 : Int32))), (.int (0 : Int32))])) _
    refine st51 _ ?_
    show Steps p.tables e below (T51.setTop (mkF m 236 #[.val (.long q1), .second, .val (.long q2), .second, .val (.int p3), .val (.ref b1), .val (.int FR), .val (.ref b44), .val (.int (0 : Int32)), .unset] [(.int (f8 (0 : Int32) (y42 (0 : Int32)) v49))])) _
    rw [← hS1]
    show Steps p.tables e below (T51.setTop (mkF m 236 #[.val (.long q1), .second, .val (.long q2), .second, .val (.int p3), .val (.ref b1), .val (.int FR), .val (.ref b44), .val (.int (0 : Int32)), .unset] [(.int S1)])) _
    refine XS.istore X51.here hx rfl (hb hby at_236) rfl (l' := #[.val (.long q1), .second, .val (.long q2), .second, .val (.int p3), .val (.ref b1), .val (.int FR), .val (.ref b44), .val (.int S1), .unset]) rfl ?_
    show Steps p.tables e below (T51.setTop (mkF m 238 #[.val (.long q1), .second, .val (.long q2), .second, .val (.int p3), .val (.ref b1), .val (.int FR), .val (.ref b44), .val (.int S1), .unset] [])) _
    refine XS.iload X51.here hx rfl (hb hby at_238) rfl ?_
    show Steps p.tables e below (T51.setTop (mkF m 240 #[.val (.long q1), .second, .val (.long q2), .second, .val (.int p3), .val (.ref b1), .val (.int FR), .val (.ref b44), .val (.int S1), .unset] [(.int S1)])) _
    refine XS.aload X51.here hx rfl (hb hby at_240) rfl rfl ?_
    show Steps p.tables e below (T51.setTop (mkF m 242 #[.val (.long q1), .second, .val (.long q2), .second, .val (.int p3), .val (.ref b1), .val (.int FR), .val (.ref b44), .val (.int S1), .unset] [(.ref b1), (.int S1)])) _
    refine XS.iconst X51.here hx rfl (hb hby at_242) ?_
    show Steps p.tables e below (T51.setTop (mkF m 243 #[.val (.long q1), .second, .val (.long q2), .second, .val (.int p3), .val (.ref b1), .val (.int FR), .val (.ref b44), .val (.int S1), .unset] [(.int (1 : Int32)), (.ref b1), (.int S1)])) _
    refine X51.caload hx (j := (1 : Int32)) (v := (.int (y42 (1 : Int32)))) (by rw [e51]; exact Ar46.1) (State.isArrayOf_alike hZ.alike Ar46.2.1) Ar46.2.2 (inb_of Sz46 ⟨by decide, by decide⟩) (Hz46 _ (inb_of Sz46 ⟨by decide, by decide⟩)) (g := (mkF m 243 #[.val (.long q1), .second, .val (.long q2), .second, .val (.int p3), .val (.ref b1), .val (.int FR), .val (.ref b44), .val (.int S1), .unset] [(.int (1 : Int32)), (.ref b1), (.int S1)])) rfl rfl (hb hby at_243) _ ?_
    show Steps p.tables e below (T51.setTop (mkF m 244 #[.val (.long q1), .second, .val (.long q2), .second, .val (.int p3), .val (.ref b1), .val (.int FR), .val (.ref b44), .val (.int S1), .unset] [(.int (y42 (1 : Int32))), (.int S1)])) _
    refine XS.iconst X51.here hx rfl (hb hby at_244) ?_
    show Steps p.tables e below (T51.setTop (mkF m 245 #[.val (.long q1), .second, .val (.long q2), .second, .val (.int p3), .val (.ref b1), .val (.int FR), .val (.ref b44), .val (.int S1), .unset] [(.int (1 : Int32)), (.int (y42 (1 : Int32))), (.int S1)])) _
    refine XS.iload X51.here hx rfl (hb hby at_245) rfl ?_
    show Steps p.tables e below (T51.setTop (mkF m 247 #[.val (.long q1), .second, .val (.long q2), .second, .val (.int p3), .val (.ref b1), .val (.int FR), .val (.ref b44), .val (.int S1), .unset] [(.int FR), (.int (1 : Int32)), (.int (y42 (1 : Int32))), (.int S1)])) _
    by_cases hc52 : (1 : Int32) < FR
    · refine XS.icmpYes X51.here hx rfl (pc0 := 247) (pc' := 254) rfl (hb hby at_247) rfl (tlt hc52).1 (by decide) (by decide) ?_
      show Steps p.tables e below (T51.setTop (mkF m 254 #[.val (.long q1), .second, .val (.long q2), .second, .val (.int p3), .val (.ref b1), .val (.int FR), .val (.ref b44), .val (.int S1), .unset] [(.int (y42 (1 : Int32))), (.int S1)])) _
      refine XS.iconst X51.here hx rfl (hb hby at_254) ?_
      rw [show v53 = (0 : Int32) from hv53.trans (if_pos hc52)] at k
      exact k
    · refine XS.icmpNo X51.here hx rfl (hb hby at_247) rfl (flt hc52).1 ?_
      show Steps p.tables e below (T51.setTop (mkF m 250 #[.val (.long q1), .second, .val (.long q2), .second, .val (.int p3), .val (.ref b1), .val (.int FR), .val (.ref b44), .val (.int S1), .unset] [(.int (y42 (1 : Int32))), (.int S1)])) _
      refine XS.iconst X51.here hx rfl (hb hby at_250) ?_
      show Steps p.tables e below (T51.setTop (mkF m 251 #[.val (.long q1), .second, .val (.long q2), .second, .val (.int p3), .val (.ref b1), .val (.int FR), .val (.ref b44), .val (.int S1), .unset] [(.int (1 : Int32)), (.int (y42 (1 : Int32))), (.int S1)])) _
      refine XS.goto X51.here hx rfl (pc0 := 251) (pc' := 255) rfl (hb hby at_251) (by decide) (by decide) ?_
      rw [show v53 = (1 : Int32) from hv53.trans (if_neg hc52)] at k
      exact k)
  obtain ⟨_, _, ⟨T55, L55, k55, n55⟩, -, X55, ⟨Lc55, hQ55, l55, y55, z55⟩, st55⟩ := Jvm.LawKit.callS X51 hx (y := (⟨"com/example/prewrm/prewrm/io/CsvFieldsIsUnsignedDecimalPinLaw", "step", "(ICZ)I"⟩ : MethodName)) hown (mvT hZ (hw _ (List.mem_of_getElem? (i := 36) rfl))) (mvT hZ (hw _ (List.mem_of_getElem? (i := 37) rfl))) (mvT hZ (hw _ (List.mem_of_getElem? (i := 4) rfl))) (mvT hZ (hw _ (List.mem_of_getElem? (i := 38) rfl))) (by decide) (backOf (W := 0) (rm8 l Z a0 hw [] S1 (y42 (1 : Int32)) v53 h45 n0 Zs45) hZ (hw _ (List.mem_of_getElem? (i := 38) rfl)) (hw _ (List.mem_of_getElem? (i := 4) rfl)) (by decide) (by decide)) (g := (mkF m 255 #[.val (.long q1), .second, .val (.long q2), .second, .val (.int p3), .val (.ref b1), .val (.int FR), .val (.ref b44), .val (.int S1), .unset] [(.int v53), (.int (y42 (1 : Int32))), (.int S1)])) rfl (by rw [hml]; rfl) (argsL := [(.int S1), (.int (y42 (1 : Int32))), (.int v53)]) (rest := []) (lenOf pd_20 rfl) rfl (by show 2 * 0 + _ ≤ _; exact Nat.le_of_eq rfl) (hb hby at_255) (fun _ _ => ⟨rfl, e51, (by decide : 10 + 0 ≤ _), (by decide : 124 + 0 ≤ _)⟩)
  dsimp only [Pt.U, Pt.locs, Pt.cells, Pt.slots] at X55 l55 y55 z55 st55 hQ55
  subst l55 y55 z55
  obtain ⟨rfl, N55q, e55⟩ := hQ55
  have N55 := Fr.app N51 N55q
  obtain ⟨S2, hS2⟩ : ∃ z : Int32, z = (f8 S1 (y42 (1 : Int32)) v53) := ⟨_, rfl⟩
  obtain ⟨v57, hv57⟩ : ∃ z : Int32, z = (if (2 : Int32) < FR then (0 : Int32) else (1 : Int32)) := ⟨_, rfl⟩
  have pre58 : ∀ t, Steps p.tables e below (T55.setTop (mkF m 277 #[.val (.long q1), .second, .val (.long q2), .second, .val (.int p3), .val (.ref b1), .val (.int FR), .val (.ref b44), .val (.int S2), .unset] [(.int v57), (.int (y42 (2 : Int32))), (.int S2)])) t → Steps p.tables e below (s₁.setTop (entryFrame m #[(.long q1), (.long q2), (.int p3)] maxLocals)) t := fun t k => pre54 t (by
    show Steps p.tables e below (T51.setTop (mkF m 255 #[.val (.long q1), .second, .val (.long q2), .second, .val (.int p3), .val (.ref b1), .val (.int FR), .val (.ref b44), .val (.int S1), .unset] [(.int v53), (.int (y42 (1 : Int32))), (.int S1)])) _
    refine st55 _ ?_
    show Steps p.tables e below (T55.setTop (mkF m 258 #[.val (.long q1), .second, .val (.long q2), .second, .val (.int p3), .val (.ref b1), .val (.int FR), .val (.ref b44), .val (.int S1), .unset] [(.int (f8 S1 (y42 (1 : Int32)) v53))])) _
    rw [← hS2]
    show Steps p.tables e below (T55.setTop (mkF m 258 #[.val (.long q1), .second, .val (.long q2), .second, .val (.int p3), .val (.ref b1), .val (.int FR), .val (.ref b44), .val (.int S1), .unset] [(.int S2)])) _
    refine XS.istore X55.here hx rfl (hb hby at_258) rfl (l' := #[.val (.long q1), .second, .val (.long q2), .second, .val (.int p3), .val (.ref b1), .val (.int FR), .val (.ref b44), .val (.int S2), .unset]) rfl ?_
    show Steps p.tables e below (T55.setTop (mkF m 260 #[.val (.long q1), .second, .val (.long q2), .second, .val (.int p3), .val (.ref b1), .val (.int FR), .val (.ref b44), .val (.int S2), .unset] [])) _
    refine XS.iload X55.here hx rfl (hb hby at_260) rfl ?_
    show Steps p.tables e below (T55.setTop (mkF m 262 #[.val (.long q1), .second, .val (.long q2), .second, .val (.int p3), .val (.ref b1), .val (.int FR), .val (.ref b44), .val (.int S2), .unset] [(.int S2)])) _
    refine XS.aload X55.here hx rfl (hb hby at_262) rfl rfl ?_
    show Steps p.tables e below (T55.setTop (mkF m 264 #[.val (.long q1), .second, .val (.long q2), .second, .val (.int p3), .val (.ref b1), .val (.int FR), .val (.ref b44), .val (.int S2), .unset] [(.ref b1), (.int S2)])) _
    refine XS.iconst X55.here hx rfl (hb hby at_264) ?_
    show Steps p.tables e below (T55.setTop (mkF m 265 #[.val (.long q1), .second, .val (.long q2), .second, .val (.int p3), .val (.ref b1), .val (.int FR), .val (.ref b44), .val (.int S2), .unset] [(.int (2 : Int32)), (.ref b1), (.int S2)])) _
    refine X55.caload hx (j := (2 : Int32)) (v := (.int (y42 (2 : Int32)))) (by rw [e55]; exact Ar46.1) (State.isArrayOf_alike hZ.alike Ar46.2.1) Ar46.2.2 (inb_of Sz46 ⟨by decide, by decide⟩) (Hz46 _ (inb_of Sz46 ⟨by decide, by decide⟩)) (g := (mkF m 265 #[.val (.long q1), .second, .val (.long q2), .second, .val (.int p3), .val (.ref b1), .val (.int FR), .val (.ref b44), .val (.int S2), .unset] [(.int (2 : Int32)), (.ref b1), (.int S2)])) rfl rfl (hb hby at_265) _ ?_
    show Steps p.tables e below (T55.setTop (mkF m 266 #[.val (.long q1), .second, .val (.long q2), .second, .val (.int p3), .val (.ref b1), .val (.int FR), .val (.ref b44), .val (.int S2), .unset] [(.int (y42 (2 : Int32))), (.int S2)])) _
    refine XS.iconst X55.here hx rfl (hb hby at_266) ?_
    show Steps p.tables e below (T55.setTop (mkF m 267 #[.val (.long q1), .second, .val (.long q2), .second, .val (.int p3), .val (.ref b1), .val (.int FR), .val (.ref b44), .val (.int S2), .unset] [(.int (2 : Int32)), (.int (y42 (2 : Int32))), (.int S2)])) _
    refine XS.iload X55.here hx rfl (hb hby at_267) rfl ?_
    show Steps p.tables e below (T55.setTop (mkF m 269 #[.val (.long q1), .second, .val (.long q2), .second, .val (.int p3), .val (.ref b1), .val (.int FR), .val (.ref b44), .val (.int S2), .unset] [(.int FR), (.int (2 : Int32)), (.int (y42 (2 : Int32))), (.int S2)])) _
    by_cases hc56 : (2 : Int32) < FR
    · refine XS.icmpYes X55.here hx rfl (pc0 := 269) (pc' := 276) rfl (hb hby at_269) rfl (tlt hc56).1 (by decide) (by decide) ?_
      show Steps p.tables e below (T55.setTop (mkF m 276 #[.val (.long q1), .second, .val (.long q2), .second, .val (.int p3), .val (.ref b1), .val (.int FR), .val (.ref b44), .val (.int S2), .unset] [(.int (y42 (2 : Int32))), (.int S2)])) _
      refine XS.iconst X55.here hx rfl (hb hby at_276) ?_
      rw [show v57 = (0 : Int32) from hv57.trans (if_pos hc56)] at k
      exact k
    · refine XS.icmpNo X55.here hx rfl (hb hby at_269) rfl (flt hc56).1 ?_
      show Steps p.tables e below (T55.setTop (mkF m 272 #[.val (.long q1), .second, .val (.long q2), .second, .val (.int p3), .val (.ref b1), .val (.int FR), .val (.ref b44), .val (.int S2), .unset] [(.int (y42 (2 : Int32))), (.int S2)])) _
      refine XS.iconst X55.here hx rfl (hb hby at_272) ?_
      show Steps p.tables e below (T55.setTop (mkF m 273 #[.val (.long q1), .second, .val (.long q2), .second, .val (.int p3), .val (.ref b1), .val (.int FR), .val (.ref b44), .val (.int S2), .unset] [(.int (1 : Int32)), (.int (y42 (2 : Int32))), (.int S2)])) _
      refine XS.goto X55.here hx rfl (pc0 := 273) (pc' := 277) rfl (hb hby at_273) (by decide) (by decide) ?_
      rw [show v57 = (1 : Int32) from hv57.trans (if_neg hc56)] at k
      exact k)
  obtain ⟨_, _, ⟨T59, L59, k59, n59⟩, -, X59, ⟨Lc59, hQ59, l59, y59, z59⟩, st59⟩ := Jvm.LawKit.callS X55 hx (y := (⟨"com/example/prewrm/prewrm/io/CsvFieldsIsUnsignedDecimalPinLaw", "step", "(ICZ)I"⟩ : MethodName)) hown (mvT hZ (hw _ (List.mem_of_getElem? (i := 36) rfl))) (mvT hZ (hw _ (List.mem_of_getElem? (i := 37) rfl))) (mvT hZ (hw _ (List.mem_of_getElem? (i := 4) rfl))) (mvT hZ (hw _ (List.mem_of_getElem? (i := 38) rfl))) (by decide) (backOf (W := 0) (rm8 l Z a0 hw [] S2 (y42 (2 : Int32)) v57 h45 n0 Zs45) hZ (hw _ (List.mem_of_getElem? (i := 38) rfl)) (hw _ (List.mem_of_getElem? (i := 4) rfl)) (by decide) (by decide)) (g := (mkF m 277 #[.val (.long q1), .second, .val (.long q2), .second, .val (.int p3), .val (.ref b1), .val (.int FR), .val (.ref b44), .val (.int S2), .unset] [(.int v57), (.int (y42 (2 : Int32))), (.int S2)])) rfl (by rw [hml]; rfl) (argsL := [(.int S2), (.int (y42 (2 : Int32))), (.int v57)]) (rest := []) (lenOf pd_20 rfl) rfl (by show 2 * 0 + _ ≤ _; exact Nat.le_of_eq rfl) (hb hby at_277) (fun _ _ => ⟨rfl, e55, (by decide : 10 + 0 ≤ _), (by decide : 124 + 0 ≤ _)⟩)
  dsimp only [Pt.U, Pt.locs, Pt.cells, Pt.slots] at X59 l59 y59 z59 st59 hQ59
  subst l59 y59 z59
  obtain ⟨rfl, N59q, e59⟩ := hQ59
  have N59 := Fr.app N55 N59q
  obtain ⟨S3, hS3⟩ : ∃ z : Int32, z = (f8 S2 (y42 (2 : Int32)) v57) := ⟨_, rfl⟩
  obtain ⟨v61, hv61⟩ : ∃ z : Int32, z = (if (3 : Int32) < FR then (0 : Int32) else (1 : Int32)) := ⟨_, rfl⟩
  have pre62 : ∀ t, Steps p.tables e below (T59.setTop (mkF m 299 #[.val (.long q1), .second, .val (.long q2), .second, .val (.int p3), .val (.ref b1), .val (.int FR), .val (.ref b44), .val (.int S3), .unset] [(.int v61), (.int (y42 (3 : Int32))), (.int S3)])) t → Steps p.tables e below (s₁.setTop (entryFrame m #[(.long q1), (.long q2), (.int p3)] maxLocals)) t := fun t k => pre58 t (by
    show Steps p.tables e below (T55.setTop (mkF m 277 #[.val (.long q1), .second, .val (.long q2), .second, .val (.int p3), .val (.ref b1), .val (.int FR), .val (.ref b44), .val (.int S2), .unset] [(.int v57), (.int (y42 (2 : Int32))), (.int S2)])) _
    refine st59 _ ?_
    show Steps p.tables e below (T59.setTop (mkF m 280 #[.val (.long q1), .second, .val (.long q2), .second, .val (.int p3), .val (.ref b1), .val (.int FR), .val (.ref b44), .val (.int S2), .unset] [(.int (f8 S2 (y42 (2 : Int32)) v57))])) _
    rw [← hS3]
    show Steps p.tables e below (T59.setTop (mkF m 280 #[.val (.long q1), .second, .val (.long q2), .second, .val (.int p3), .val (.ref b1), .val (.int FR), .val (.ref b44), .val (.int S2), .unset] [(.int S3)])) _
    refine XS.istore X59.here hx rfl (hb hby at_280) rfl (l' := #[.val (.long q1), .second, .val (.long q2), .second, .val (.int p3), .val (.ref b1), .val (.int FR), .val (.ref b44), .val (.int S3), .unset]) rfl ?_
    show Steps p.tables e below (T59.setTop (mkF m 282 #[.val (.long q1), .second, .val (.long q2), .second, .val (.int p3), .val (.ref b1), .val (.int FR), .val (.ref b44), .val (.int S3), .unset] [])) _
    refine XS.iload X59.here hx rfl (hb hby at_282) rfl ?_
    show Steps p.tables e below (T59.setTop (mkF m 284 #[.val (.long q1), .second, .val (.long q2), .second, .val (.int p3), .val (.ref b1), .val (.int FR), .val (.ref b44), .val (.int S3), .unset] [(.int S3)])) _
    refine XS.aload X59.here hx rfl (hb hby at_284) rfl rfl ?_
    show Steps p.tables e below (T59.setTop (mkF m 286 #[.val (.long q1), .second, .val (.long q2), .second, .val (.int p3), .val (.ref b1), .val (.int FR), .val (.ref b44), .val (.int S3), .unset] [(.ref b1), (.int S3)])) _
    refine XS.iconst X59.here hx rfl (hb hby at_286) ?_
    show Steps p.tables e below (T59.setTop (mkF m 287 #[.val (.long q1), .second, .val (.long q2), .second, .val (.int p3), .val (.ref b1), .val (.int FR), .val (.ref b44), .val (.int S3), .unset] [(.int (3 : Int32)), (.ref b1), (.int S3)])) _
    refine X59.caload hx (j := (3 : Int32)) (v := (.int (y42 (3 : Int32)))) (by rw [e59]; exact Ar46.1) (State.isArrayOf_alike hZ.alike Ar46.2.1) Ar46.2.2 (inb_of Sz46 ⟨by decide, by decide⟩) (Hz46 _ (inb_of Sz46 ⟨by decide, by decide⟩)) (g := (mkF m 287 #[.val (.long q1), .second, .val (.long q2), .second, .val (.int p3), .val (.ref b1), .val (.int FR), .val (.ref b44), .val (.int S3), .unset] [(.int (3 : Int32)), (.ref b1), (.int S3)])) rfl rfl (hb hby at_287) _ ?_
    show Steps p.tables e below (T59.setTop (mkF m 288 #[.val (.long q1), .second, .val (.long q2), .second, .val (.int p3), .val (.ref b1), .val (.int FR), .val (.ref b44), .val (.int S3), .unset] [(.int (y42 (3 : Int32))), (.int S3)])) _
    refine XS.iconst X59.here hx rfl (hb hby at_288) ?_
    show Steps p.tables e below (T59.setTop (mkF m 289 #[.val (.long q1), .second, .val (.long q2), .second, .val (.int p3), .val (.ref b1), .val (.int FR), .val (.ref b44), .val (.int S3), .unset] [(.int (3 : Int32)), (.int (y42 (3 : Int32))), (.int S3)])) _
    refine XS.iload X59.here hx rfl (hb hby at_289) rfl ?_
    show Steps p.tables e below (T59.setTop (mkF m 291 #[.val (.long q1), .second, .val (.long q2), .second, .val (.int p3), .val (.ref b1), .val (.int FR), .val (.ref b44), .val (.int S3), .unset] [(.int FR), (.int (3 : Int32)), (.int (y42 (3 : Int32))), (.int S3)])) _
    by_cases hc60 : (3 : Int32) < FR
    · refine XS.icmpYes X59.here hx rfl (pc0 := 291) (pc' := 298) rfl (hb hby at_291) rfl (tlt hc60).1 (by decide) (by decide) ?_
      show Steps p.tables e below (T59.setTop (mkF m 298 #[.val (.long q1), .second, .val (.long q2), .second, .val (.int p3), .val (.ref b1), .val (.int FR), .val (.ref b44), .val (.int S3), .unset] [(.int (y42 (3 : Int32))), (.int S3)])) _
      refine XS.iconst X59.here hx rfl (hb hby at_298) ?_
      rw [show v61 = (0 : Int32) from hv61.trans (if_pos hc60)] at k
      exact k
    · refine XS.icmpNo X59.here hx rfl (hb hby at_291) rfl (flt hc60).1 ?_
      show Steps p.tables e below (T59.setTop (mkF m 294 #[.val (.long q1), .second, .val (.long q2), .second, .val (.int p3), .val (.ref b1), .val (.int FR), .val (.ref b44), .val (.int S3), .unset] [(.int (y42 (3 : Int32))), (.int S3)])) _
      refine XS.iconst X59.here hx rfl (hb hby at_294) ?_
      show Steps p.tables e below (T59.setTop (mkF m 295 #[.val (.long q1), .second, .val (.long q2), .second, .val (.int p3), .val (.ref b1), .val (.int FR), .val (.ref b44), .val (.int S3), .unset] [(.int (1 : Int32)), (.int (y42 (3 : Int32))), (.int S3)])) _
      refine XS.goto X59.here hx rfl (pc0 := 295) (pc' := 299) rfl (hb hby at_295) (by decide) (by decide) ?_
      rw [show v61 = (1 : Int32) from hv61.trans (if_neg hc60)] at k
      exact k)
  obtain ⟨_, _, ⟨T63, L63, k63, n63⟩, -, X63, ⟨Lc63, hQ63, l63, y63, z63⟩, st63⟩ := Jvm.LawKit.callS X59 hx (y := (⟨"com/example/prewrm/prewrm/io/CsvFieldsIsUnsignedDecimalPinLaw", "step", "(ICZ)I"⟩ : MethodName)) hown (mvT hZ (hw _ (List.mem_of_getElem? (i := 36) rfl))) (mvT hZ (hw _ (List.mem_of_getElem? (i := 37) rfl))) (mvT hZ (hw _ (List.mem_of_getElem? (i := 4) rfl))) (mvT hZ (hw _ (List.mem_of_getElem? (i := 38) rfl))) (by decide) (backOf (W := 0) (rm8 l Z a0 hw [] S3 (y42 (3 : Int32)) v61 h45 n0 Zs45) hZ (hw _ (List.mem_of_getElem? (i := 38) rfl)) (hw _ (List.mem_of_getElem? (i := 4) rfl)) (by decide) (by decide)) (g := (mkF m 299 #[.val (.long q1), .second, .val (.long q2), .second, .val (.int p3), .val (.ref b1), .val (.int FR), .val (.ref b44), .val (.int S3), .unset] [(.int v61), (.int (y42 (3 : Int32))), (.int S3)])) rfl (by rw [hml]; rfl) (argsL := [(.int S3), (.int (y42 (3 : Int32))), (.int v61)]) (rest := []) (lenOf pd_20 rfl) rfl (by show 2 * 0 + _ ≤ _; exact Nat.le_of_eq rfl) (hb hby at_299) (fun _ _ => ⟨rfl, e59, (by decide : 10 + 0 ≤ _), (by decide : 124 + 0 ≤ _)⟩)
  dsimp only [Pt.U, Pt.locs, Pt.cells, Pt.slots] at X63 l63 y63 z63 st63 hQ63
  subst l63 y63 z63
  obtain ⟨rfl, N63q, e63⟩ := hQ63
  have N63 := Fr.app N59 N63q
  obtain ⟨S4, hS4⟩ : ∃ z : Int32, z = (f8 S3 (y42 (3 : Int32)) v61) := ⟨_, rfl⟩
  obtain ⟨v65, hv65⟩ : ∃ z : Int32, z = (if (4 : Int32) < FR then (0 : Int32) else (1 : Int32)) := ⟨_, rfl⟩
  have pre66 : ∀ t, Steps p.tables e below (T63.setTop (mkF m 321 #[.val (.long q1), .second, .val (.long q2), .second, .val (.int p3), .val (.ref b1), .val (.int FR), .val (.ref b44), .val (.int S4), .unset] [(.int v65), (.int (y42 (4 : Int32))), (.int S4)])) t → Steps p.tables e below (s₁.setTop (entryFrame m #[(.long q1), (.long q2), (.int p3)] maxLocals)) t := fun t k => pre62 t (by
    show Steps p.tables e below (T59.setTop (mkF m 299 #[.val (.long q1), .second, .val (.long q2), .second, .val (.int p3), .val (.ref b1), .val (.int FR), .val (.ref b44), .val (.int S3), .unset] [(.int v61), (.int (y42 (3 : Int32))), (.int S3)])) _
    refine st63 _ ?_
    show Steps p.tables e below (T63.setTop (mkF m 302 #[.val (.long q1), .second, .val (.long q2), .second, .val (.int p3), .val (.ref b1), .val (.int FR), .val (.ref b44), .val (.int S3), .unset] [(.int (f8 S3 (y42 (3 : Int32)) v61))])) _
    rw [← hS4]
    show Steps p.tables e below (T63.setTop (mkF m 302 #[.val (.long q1), .second, .val (.long q2), .second, .val (.int p3), .val (.ref b1), .val (.int FR), .val (.ref b44), .val (.int S3), .unset] [(.int S4)])) _
    refine XS.istore X63.here hx rfl (hb hby at_302) rfl (l' := #[.val (.long q1), .second, .val (.long q2), .second, .val (.int p3), .val (.ref b1), .val (.int FR), .val (.ref b44), .val (.int S4), .unset]) rfl ?_
    show Steps p.tables e below (T63.setTop (mkF m 304 #[.val (.long q1), .second, .val (.long q2), .second, .val (.int p3), .val (.ref b1), .val (.int FR), .val (.ref b44), .val (.int S4), .unset] [])) _
    refine XS.iload X63.here hx rfl (hb hby at_304) rfl ?_
    show Steps p.tables e below (T63.setTop (mkF m 306 #[.val (.long q1), .second, .val (.long q2), .second, .val (.int p3), .val (.ref b1), .val (.int FR), .val (.ref b44), .val (.int S4), .unset] [(.int S4)])) _
    refine XS.aload X63.here hx rfl (hb hby at_306) rfl rfl ?_
    show Steps p.tables e below (T63.setTop (mkF m 308 #[.val (.long q1), .second, .val (.long q2), .second, .val (.int p3), .val (.ref b1), .val (.int FR), .val (.ref b44), .val (.int S4), .unset] [(.ref b1), (.int S4)])) _
    refine XS.iconst X63.here hx rfl (hb hby at_308) ?_
    show Steps p.tables e below (T63.setTop (mkF m 309 #[.val (.long q1), .second, .val (.long q2), .second, .val (.int p3), .val (.ref b1), .val (.int FR), .val (.ref b44), .val (.int S4), .unset] [(.int (4 : Int32)), (.ref b1), (.int S4)])) _
    refine X63.caload hx (j := (4 : Int32)) (v := (.int (y42 (4 : Int32)))) (by rw [e63]; exact Ar46.1) (State.isArrayOf_alike hZ.alike Ar46.2.1) Ar46.2.2 (inb_of Sz46 ⟨by decide, by decide⟩) (Hz46 _ (inb_of Sz46 ⟨by decide, by decide⟩)) (g := (mkF m 309 #[.val (.long q1), .second, .val (.long q2), .second, .val (.int p3), .val (.ref b1), .val (.int FR), .val (.ref b44), .val (.int S4), .unset] [(.int (4 : Int32)), (.ref b1), (.int S4)])) rfl rfl (hb hby at_309) _ ?_
    show Steps p.tables e below (T63.setTop (mkF m 310 #[.val (.long q1), .second, .val (.long q2), .second, .val (.int p3), .val (.ref b1), .val (.int FR), .val (.ref b44), .val (.int S4), .unset] [(.int (y42 (4 : Int32))), (.int S4)])) _
    refine XS.iconst X63.here hx rfl (hb hby at_310) ?_
    show Steps p.tables e below (T63.setTop (mkF m 311 #[.val (.long q1), .second, .val (.long q2), .second, .val (.int p3), .val (.ref b1), .val (.int FR), .val (.ref b44), .val (.int S4), .unset] [(.int (4 : Int32)), (.int (y42 (4 : Int32))), (.int S4)])) _
    refine XS.iload X63.here hx rfl (hb hby at_311) rfl ?_
    show Steps p.tables e below (T63.setTop (mkF m 313 #[.val (.long q1), .second, .val (.long q2), .second, .val (.int p3), .val (.ref b1), .val (.int FR), .val (.ref b44), .val (.int S4), .unset] [(.int FR), (.int (4 : Int32)), (.int (y42 (4 : Int32))), (.int S4)])) _
    by_cases hc64 : (4 : Int32) < FR
    · refine XS.icmpYes X63.here hx rfl (pc0 := 313) (pc' := 320) rfl (hb hby at_313) rfl (tlt hc64).1 (by decide) (by decide) ?_
      show Steps p.tables e below (T63.setTop (mkF m 320 #[.val (.long q1), .second, .val (.long q2), .second, .val (.int p3), .val (.ref b1), .val (.int FR), .val (.ref b44), .val (.int S4), .unset] [(.int (y42 (4 : Int32))), (.int S4)])) _
      refine XS.iconst X63.here hx rfl (hb hby at_320) ?_
      rw [show v65 = (0 : Int32) from hv65.trans (if_pos hc64)] at k
      exact k
    · refine XS.icmpNo X63.here hx rfl (hb hby at_313) rfl (flt hc64).1 ?_
      show Steps p.tables e below (T63.setTop (mkF m 316 #[.val (.long q1), .second, .val (.long q2), .second, .val (.int p3), .val (.ref b1), .val (.int FR), .val (.ref b44), .val (.int S4), .unset] [(.int (y42 (4 : Int32))), (.int S4)])) _
      refine XS.iconst X63.here hx rfl (hb hby at_316) ?_
      show Steps p.tables e below (T63.setTop (mkF m 317 #[.val (.long q1), .second, .val (.long q2), .second, .val (.int p3), .val (.ref b1), .val (.int FR), .val (.ref b44), .val (.int S4), .unset] [(.int (1 : Int32)), (.int (y42 (4 : Int32))), (.int S4)])) _
      refine XS.goto X63.here hx rfl (pc0 := 317) (pc' := 321) rfl (hb hby at_317) (by decide) (by decide) ?_
      rw [show v65 = (1 : Int32) from hv65.trans (if_neg hc64)] at k
      exact k)
  obtain ⟨_, _, ⟨T67, L67, k67, n67⟩, -, X67, ⟨Lc67, hQ67, l67, y67, z67⟩, st67⟩ := Jvm.LawKit.callS X63 hx (y := (⟨"com/example/prewrm/prewrm/io/CsvFieldsIsUnsignedDecimalPinLaw", "step", "(ICZ)I"⟩ : MethodName)) hown (mvT hZ (hw _ (List.mem_of_getElem? (i := 36) rfl))) (mvT hZ (hw _ (List.mem_of_getElem? (i := 37) rfl))) (mvT hZ (hw _ (List.mem_of_getElem? (i := 4) rfl))) (mvT hZ (hw _ (List.mem_of_getElem? (i := 38) rfl))) (by decide) (backOf (W := 0) (rm8 l Z a0 hw [] S4 (y42 (4 : Int32)) v65 h45 n0 Zs45) hZ (hw _ (List.mem_of_getElem? (i := 38) rfl)) (hw _ (List.mem_of_getElem? (i := 4) rfl)) (by decide) (by decide)) (g := (mkF m 321 #[.val (.long q1), .second, .val (.long q2), .second, .val (.int p3), .val (.ref b1), .val (.int FR), .val (.ref b44), .val (.int S4), .unset] [(.int v65), (.int (y42 (4 : Int32))), (.int S4)])) rfl (by rw [hml]; rfl) (argsL := [(.int S4), (.int (y42 (4 : Int32))), (.int v65)]) (rest := []) (lenOf pd_20 rfl) rfl (by show 2 * 0 + _ ≤ _; exact Nat.le_of_eq rfl) (hb hby at_321) (fun _ _ => ⟨rfl, e63, (by decide : 10 + 0 ≤ _), (by decide : 124 + 0 ≤ _)⟩)
  dsimp only [Pt.U, Pt.locs, Pt.cells, Pt.slots] at X67 l67 y67 z67 st67 hQ67
  subst l67 y67 z67
  obtain ⟨rfl, N67q, e67⟩ := hQ67
  have N67 := Fr.app N63 N67q
  obtain ⟨S5, hS5⟩ : ∃ z : Int32, z = (f8 S4 (y42 (4 : Int32)) v65) := ⟨_, rfl⟩
  obtain ⟨v69, hv69⟩ : ∃ z : Int32, z = (if (5 : Int32) < FR then (0 : Int32) else (1 : Int32)) := ⟨_, rfl⟩
  have pre70 : ∀ t, Steps p.tables e below (T67.setTop (mkF m 343 #[.val (.long q1), .second, .val (.long q2), .second, .val (.int p3), .val (.ref b1), .val (.int FR), .val (.ref b44), .val (.int S5), .unset] [(.int v69), (.int (y42 (5 : Int32))), (.int S5)])) t → Steps p.tables e below (s₁.setTop (entryFrame m #[(.long q1), (.long q2), (.int p3)] maxLocals)) t := fun t k => pre66 t (by
    show Steps p.tables e below (T63.setTop (mkF m 321 #[.val (.long q1), .second, .val (.long q2), .second, .val (.int p3), .val (.ref b1), .val (.int FR), .val (.ref b44), .val (.int S4), .unset] [(.int v65), (.int (y42 (4 : Int32))), (.int S4)])) _
    refine st67 _ ?_
    show Steps p.tables e below (T67.setTop (mkF m 324 #[.val (.long q1), .second, .val (.long q2), .second, .val (.int p3), .val (.ref b1), .val (.int FR), .val (.ref b44), .val (.int S4), .unset] [(.int (f8 S4 (y42 (4 : Int32)) v65))])) _
    rw [← hS5]
    show Steps p.tables e below (T67.setTop (mkF m 324 #[.val (.long q1), .second, .val (.long q2), .second, .val (.int p3), .val (.ref b1), .val (.int FR), .val (.ref b44), .val (.int S4), .unset] [(.int S5)])) _
    refine XS.istore X67.here hx rfl (hb hby at_324) rfl (l' := #[.val (.long q1), .second, .val (.long q2), .second, .val (.int p3), .val (.ref b1), .val (.int FR), .val (.ref b44), .val (.int S5), .unset]) rfl ?_
    show Steps p.tables e below (T67.setTop (mkF m 326 #[.val (.long q1), .second, .val (.long q2), .second, .val (.int p3), .val (.ref b1), .val (.int FR), .val (.ref b44), .val (.int S5), .unset] [])) _
    refine XS.iload X67.here hx rfl (hb hby at_326) rfl ?_
    show Steps p.tables e below (T67.setTop (mkF m 328 #[.val (.long q1), .second, .val (.long q2), .second, .val (.int p3), .val (.ref b1), .val (.int FR), .val (.ref b44), .val (.int S5), .unset] [(.int S5)])) _
    refine XS.aload X67.here hx rfl (hb hby at_328) rfl rfl ?_
    show Steps p.tables e below (T67.setTop (mkF m 330 #[.val (.long q1), .second, .val (.long q2), .second, .val (.int p3), .val (.ref b1), .val (.int FR), .val (.ref b44), .val (.int S5), .unset] [(.ref b1), (.int S5)])) _
    refine XS.iconst X67.here hx rfl (hb hby at_330) ?_
    show Steps p.tables e below (T67.setTop (mkF m 331 #[.val (.long q1), .second, .val (.long q2), .second, .val (.int p3), .val (.ref b1), .val (.int FR), .val (.ref b44), .val (.int S5), .unset] [(.int (5 : Int32)), (.ref b1), (.int S5)])) _
    refine X67.caload hx (j := (5 : Int32)) (v := (.int (y42 (5 : Int32)))) (by rw [e67]; exact Ar46.1) (State.isArrayOf_alike hZ.alike Ar46.2.1) Ar46.2.2 (inb_of Sz46 ⟨by decide, by decide⟩) (Hz46 _ (inb_of Sz46 ⟨by decide, by decide⟩)) (g := (mkF m 331 #[.val (.long q1), .second, .val (.long q2), .second, .val (.int p3), .val (.ref b1), .val (.int FR), .val (.ref b44), .val (.int S5), .unset] [(.int (5 : Int32)), (.ref b1), (.int S5)])) rfl rfl (hb hby at_331) _ ?_
    show Steps p.tables e below (T67.setTop (mkF m 332 #[.val (.long q1), .second, .val (.long q2), .second, .val (.int p3), .val (.ref b1), .val (.int FR), .val (.ref b44), .val (.int S5), .unset] [(.int (y42 (5 : Int32))), (.int S5)])) _
    refine XS.iconst X67.here hx rfl (hb hby at_332) ?_
    show Steps p.tables e below (T67.setTop (mkF m 333 #[.val (.long q1), .second, .val (.long q2), .second, .val (.int p3), .val (.ref b1), .val (.int FR), .val (.ref b44), .val (.int S5), .unset] [(.int (5 : Int32)), (.int (y42 (5 : Int32))), (.int S5)])) _
    refine XS.iload X67.here hx rfl (hb hby at_333) rfl ?_
    show Steps p.tables e below (T67.setTop (mkF m 335 #[.val (.long q1), .second, .val (.long q2), .second, .val (.int p3), .val (.ref b1), .val (.int FR), .val (.ref b44), .val (.int S5), .unset] [(.int FR), (.int (5 : Int32)), (.int (y42 (5 : Int32))), (.int S5)])) _
    by_cases hc68 : (5 : Int32) < FR
    · refine XS.icmpYes X67.here hx rfl (pc0 := 335) (pc' := 342) rfl (hb hby at_335) rfl (tlt hc68).1 (by decide) (by decide) ?_
      show Steps p.tables e below (T67.setTop (mkF m 342 #[.val (.long q1), .second, .val (.long q2), .second, .val (.int p3), .val (.ref b1), .val (.int FR), .val (.ref b44), .val (.int S5), .unset] [(.int (y42 (5 : Int32))), (.int S5)])) _
      refine XS.iconst X67.here hx rfl (hb hby at_342) ?_
      rw [show v69 = (0 : Int32) from hv69.trans (if_pos hc68)] at k
      exact k
    · refine XS.icmpNo X67.here hx rfl (hb hby at_335) rfl (flt hc68).1 ?_
      show Steps p.tables e below (T67.setTop (mkF m 338 #[.val (.long q1), .second, .val (.long q2), .second, .val (.int p3), .val (.ref b1), .val (.int FR), .val (.ref b44), .val (.int S5), .unset] [(.int (y42 (5 : Int32))), (.int S5)])) _
      refine XS.iconst X67.here hx rfl (hb hby at_338) ?_
      show Steps p.tables e below (T67.setTop (mkF m 339 #[.val (.long q1), .second, .val (.long q2), .second, .val (.int p3), .val (.ref b1), .val (.int FR), .val (.ref b44), .val (.int S5), .unset] [(.int (1 : Int32)), (.int (y42 (5 : Int32))), (.int S5)])) _
      refine XS.goto X67.here hx rfl (pc0 := 339) (pc' := 343) rfl (hb hby at_339) (by decide) (by decide) ?_
      rw [show v69 = (1 : Int32) from hv69.trans (if_neg hc68)] at k
      exact k)
  obtain ⟨_, _, ⟨T71, L71, k71, n71⟩, -, X71, ⟨Lc71, hQ71, l71, y71, z71⟩, st71⟩ := Jvm.LawKit.callS X67 hx (y := (⟨"com/example/prewrm/prewrm/io/CsvFieldsIsUnsignedDecimalPinLaw", "step", "(ICZ)I"⟩ : MethodName)) hown (mvT hZ (hw _ (List.mem_of_getElem? (i := 36) rfl))) (mvT hZ (hw _ (List.mem_of_getElem? (i := 37) rfl))) (mvT hZ (hw _ (List.mem_of_getElem? (i := 4) rfl))) (mvT hZ (hw _ (List.mem_of_getElem? (i := 38) rfl))) (by decide) (backOf (W := 0) (rm8 l Z a0 hw [] S5 (y42 (5 : Int32)) v69 h45 n0 Zs45) hZ (hw _ (List.mem_of_getElem? (i := 38) rfl)) (hw _ (List.mem_of_getElem? (i := 4) rfl)) (by decide) (by decide)) (g := (mkF m 343 #[.val (.long q1), .second, .val (.long q2), .second, .val (.int p3), .val (.ref b1), .val (.int FR), .val (.ref b44), .val (.int S5), .unset] [(.int v69), (.int (y42 (5 : Int32))), (.int S5)])) rfl (by rw [hml]; rfl) (argsL := [(.int S5), (.int (y42 (5 : Int32))), (.int v69)]) (rest := []) (lenOf pd_20 rfl) rfl (by show 2 * 0 + _ ≤ _; exact Nat.le_of_eq rfl) (hb hby at_343) (fun _ _ => ⟨rfl, e67, (by decide : 10 + 0 ≤ _), (by decide : 124 + 0 ≤ _)⟩)
  dsimp only [Pt.U, Pt.locs, Pt.cells, Pt.slots] at X71 l71 y71 z71 st71 hQ71
  subst l71 y71 z71
  obtain ⟨rfl, N71q, e71⟩ := hQ71
  have N71 := Fr.app N67 N71q
  obtain ⟨S6, hS6⟩ : ∃ z : Int32, z = (f8 S5 (y42 (5 : Int32)) v69) := ⟨_, rfl⟩
  obtain ⟨v75, hv75⟩ : ∃ z : Int32, z = (if S6 = (1 : Int32) then (1 : Int32) else (if S6 = (3 : Int32) then (1 : Int32) else (if S6 = (6 : Int32) then (1 : Int32) else (0 : Int32)))) := ⟨_, rfl⟩
  have pre76 : ∀ t, Steps p.tables e below (T71.setTop (mkF m 372 #[.val (.long q1), .second, .val (.long q2), .second, .val (.int p3), .val (.ref b1), .val (.int FR), .val (.ref b44), .val (.int S6), .unset] [(.int v75)])) t → Steps p.tables e below (s₁.setTop (entryFrame m #[(.long q1), (.long q2), (.int p3)] maxLocals)) t := fun t k => pre70 t (by
    show Steps p.tables e below (T67.setTop (mkF m 343 #[.val (.long q1), .second, .val (.long q2), .second, .val (.int p3), .val (.ref b1), .val (.int FR), .val (.ref b44), .val (.int S5), .unset] [(.int v69), (.int (y42 (5 : Int32))), (.int S5)])) _
    refine st71 _ ?_
    show Steps p.tables e below (T71.setTop (mkF m 346 #[.val (.long q1), .second, .val (.long q2), .second, .val (.int p3), .val (.ref b1), .val (.int FR), .val (.ref b44), .val (.int S5), .unset] [(.int (f8 S5 (y42 (5 : Int32)) v69))])) _
    rw [← hS6]
    show Steps p.tables e below (T71.setTop (mkF m 346 #[.val (.long q1), .second, .val (.long q2), .second, .val (.int p3), .val (.ref b1), .val (.int FR), .val (.ref b44), .val (.int S5), .unset] [(.int S6)])) _
    refine XS.istore X71.here hx rfl (hb hby at_346) rfl (l' := #[.val (.long q1), .second, .val (.long q2), .second, .val (.int p3), .val (.ref b1), .val (.int FR), .val (.ref b44), .val (.int S6), .unset]) rfl ?_
    show Steps p.tables e below (T71.setTop (mkF m 348 #[.val (.long q1), .second, .val (.long q2), .second, .val (.int p3), .val (.ref b1), .val (.int FR), .val (.ref b44), .val (.int S6), .unset] [])) _
    refine XS.iload X71.here hx rfl (hb hby at_348) rfl ?_
    show Steps p.tables e below (T71.setTop (mkF m 350 #[.val (.long q1), .second, .val (.long q2), .second, .val (.int p3), .val (.ref b1), .val (.int FR), .val (.ref b44), .val (.int S6), .unset] [(.int S6)])) _
    refine XS.iconst X71.here hx rfl (hb hby at_350) ?_
    show Steps p.tables e below (T71.setTop (mkF m 351 #[.val (.long q1), .second, .val (.long q2), .second, .val (.int p3), .val (.ref b1), .val (.int FR), .val (.ref b44), .val (.int S6), .unset] [(.int (1 : Int32)), (.int S6)])) _
    by_cases hc72 : S6 = (1 : Int32)
    · refine XS.icmpYes X71.here hx rfl (pc0 := 351) (pc' := 367) rfl (hb hby at_351) rfl (teq hc72).1 (by decide) (by decide) ?_
      show Steps p.tables e below (T71.setTop (mkF m 367 #[.val (.long q1), .second, .val (.long q2), .second, .val (.int p3), .val (.ref b1), .val (.int FR), .val (.ref b44), .val (.int S6), .unset] [])) _
      refine XS.iconst X71.here hx rfl (hb hby at_367) ?_
      show Steps p.tables e below (T71.setTop (mkF m 368 #[.val (.long q1), .second, .val (.long q2), .second, .val (.int p3), .val (.ref b1), .val (.int FR), .val (.ref b44), .val (.int S6), .unset] [(.int (1 : Int32))])) _
      refine XS.goto X71.here hx rfl (pc0 := 368) (pc' := 372) rfl (hb hby at_368) (by decide) (by decide) ?_
      rw [show v75 = (1 : Int32) from hv75.trans (if_pos hc72)] at k
      exact k
    · refine XS.icmpNo X71.here hx rfl (hb hby at_351) rfl (feq hc72).1 ?_
      show Steps p.tables e below (T71.setTop (mkF m 354 #[.val (.long q1), .second, .val (.long q2), .second, .val (.int p3), .val (.ref b1), .val (.int FR), .val (.ref b44), .val (.int S6), .unset] [])) _
      refine XS.iload X71.here hx rfl (hb hby at_354) rfl ?_
      show Steps p.tables e below (T71.setTop (mkF m 356 #[.val (.long q1), .second, .val (.long q2), .second, .val (.int p3), .val (.ref b1), .val (.int FR), .val (.ref b44), .val (.int S6), .unset] [(.int S6)])) _
      refine XS.iconst X71.here hx rfl (hb hby at_356) ?_
      show Steps p.tables e below (T71.setTop (mkF m 357 #[.val (.long q1), .second, .val (.long q2), .second, .val (.int p3), .val (.ref b1), .val (.int FR), .val (.ref b44), .val (.int S6), .unset] [(.int (3 : Int32)), (.int S6)])) _
      by_cases hc73 : S6 = (3 : Int32)
      · refine XS.icmpYes X71.here hx rfl (pc0 := 357) (pc' := 367) rfl (hb hby at_357) rfl (teq hc73).1 (by decide) (by decide) ?_
        show Steps p.tables e below (T71.setTop (mkF m 367 #[.val (.long q1), .second, .val (.long q2), .second, .val (.int p3), .val (.ref b1), .val (.int FR), .val (.ref b44), .val (.int S6), .unset] [])) _
        refine XS.iconst X71.here hx rfl (hb hby at_367) ?_
        show Steps p.tables e below (T71.setTop (mkF m 368 #[.val (.long q1), .second, .val (.long q2), .second, .val (.int p3), .val (.ref b1), .val (.int FR), .val (.ref b44), .val (.int S6), .unset] [(.int (1 : Int32))])) _
        refine XS.goto X71.here hx rfl (pc0 := 368) (pc' := 372) rfl (hb hby at_368) (by decide) (by decide) ?_
        rw [show v75 = (1 : Int32) from hv75.trans ((if_neg hc72).trans (if_pos hc73))] at k
        exact k
      · refine XS.icmpNo X71.here hx rfl (hb hby at_357) rfl (feq hc73).1 ?_
        show Steps p.tables e below (T71.setTop (mkF m 360 #[.val (.long q1), .second, .val (.long q2), .second, .val (.int p3), .val (.ref b1), .val (.int FR), .val (.ref b44), .val (.int S6), .unset] [])) _
        refine XS.iload X71.here hx rfl (hb hby at_360) rfl ?_
        show Steps p.tables e below (T71.setTop (mkF m 362 #[.val (.long q1), .second, .val (.long q2), .second, .val (.int p3), .val (.ref b1), .val (.int FR), .val (.ref b44), .val (.int S6), .unset] [(.int S6)])) _
        refine XS.bipush X71.here hx rfl (hb hby at_362) ?_
        show Steps p.tables e below (T71.setTop (mkF m 364 #[.val (.long q1), .second, .val (.long q2), .second, .val (.int p3), .val (.ref b1), .val (.int FR), .val (.ref b44), .val (.int S6), .unset] [(.int (6 : Int32)), (.int S6)])) _
        by_cases hc74 : S6 = (6 : Int32)
        · refine XS.icmpNo X71.here hx rfl (hb hby at_364) rfl (teq hc74).2 ?_
          show Steps p.tables e below (T71.setTop (mkF m 367 #[.val (.long q1), .second, .val (.long q2), .second, .val (.int p3), .val (.ref b1), .val (.int FR), .val (.ref b44), .val (.int S6), .unset] [])) _
          refine XS.iconst X71.here hx rfl (hb hby at_367) ?_
          show Steps p.tables e below (T71.setTop (mkF m 368 #[.val (.long q1), .second, .val (.long q2), .second, .val (.int p3), .val (.ref b1), .val (.int FR), .val (.ref b44), .val (.int S6), .unset] [(.int (1 : Int32))])) _
          refine XS.goto X71.here hx rfl (pc0 := 368) (pc' := 372) rfl (hb hby at_368) (by decide) (by decide) ?_
          rw [show v75 = (1 : Int32) from hv75.trans ((if_neg hc72).trans ((if_neg hc73).trans (if_pos hc74)))] at k
          exact k
        · refine XS.icmpYes X71.here hx rfl (pc0 := 364) (pc' := 371) rfl (hb hby at_364) rfl (feq hc74).2 (by decide) (by decide) ?_
          show Steps p.tables e below (T71.setTop (mkF m 371 #[.val (.long q1), .second, .val (.long q2), .second, .val (.int p3), .val (.ref b1), .val (.int FR), .val (.ref b44), .val (.int S6), .unset] [])) _
          refine XS.iconst X71.here hx rfl (hb hby at_371) ?_
          rw [show v75 = (0 : Int32) from hv75.trans ((if_neg hc72).trans ((if_neg hc73).trans (if_neg hc74)))] at k
          exact k)
  obtain ⟨_, _, ⟨T77, L77, k77, n77⟩, -, X77, ⟨Lc77, hQ77, l77, y77, z77⟩, st77⟩ := Jvm.LawKit.callS X71 hx (y := (⟨"com/example/prewrm/prewrm/io/CsvFields", "isUnsignedDecimal", "(Ljava/lang/String;I)Z"⟩ : MethodName)) hown (mvT hZ (hw _ (List.mem_of_getElem? (i := 42) rfl))) (mvT hZ (hw _ (List.mem_of_getElem? (i := 43) rfl))) (mvT hZ (hw _ (List.mem_of_getElem? (i := 44) rfl))) (mvT hZ (hw _ (List.mem_of_getElem? (i := 45) rfl))) (by decide) (backOf (W := 0) (rm10 l Z a0 hw [] b44 FR cs y42 h45 n0 Zs45 hWd (own_mkStr E_b44_45 F_value_b44_45 F_coder_b44_45 A_b45_45 R_b45_45 P_b1_42) rFR O45) hZ (hw _ (List.mem_of_getElem? (i := 45) rfl)) (hw _ (List.mem_of_getElem? (i := 44) rfl)) (by decide) (by decide)) (g := (mkF m 378 #[.val (.long q1), .second, .val (.long q2), .second, .val (.int p3), .val (.ref b1), .val (.int FR), .val (.ref b44), .val (.int S6), .val (.int v75)] [(.int FR), (.ref b44)])) rfl (by rw [hml]; rfl) (argsL := [(.ref b44), (.int FR)]) (rest := []) (lenOf pd_21 rfl) rfl (by show 2 * 0 + _ ≤ _; exact Nat.le_of_eq rfl) (hb hby at_378) (fun _ _ => ⟨rfl, e71, (by decide : 10 + 0 ≤ _), (by decide : 124 + 0 ≤ _)⟩)
  dsimp only [Pt.U, Pt.locs, Pt.cells, Pt.slots] at X77 l77 y77 z77 st77 hQ77
  subst l77 y77 z77
  obtain ⟨rfl, N77q, e77⟩ := hQ77
  have N77 := Fr.app N71 N77q
  obtain ⟨v79, hv79⟩ : ∃ z : Int32, z = (if (f10 FR y42) = v75 then (1 : Int32) else (0 : Int32)) := ⟨_, rfl⟩
  have pre80 : ∀ t, Steps p.tables e below (T77.setTop (mkF m 391 #[.val (.long q1), .second, .val (.long q2), .second, .val (.int p3), .val (.ref b1), .val (.int FR), .val (.ref b44), .val (.int S6), .val (.int v75)] [(.int v79)])) t → Steps p.tables e below (s₁.setTop (entryFrame m #[(.long q1), (.long q2), (.int p3)] maxLocals)) t := fun t k => pre76 t (by
    show Steps p.tables e below (T71.setTop (mkF m 372 #[.val (.long q1), .second, .val (.long q2), .second, .val (.int p3), .val (.ref b1), .val (.int FR), .val (.ref b44), .val (.int S6), .unset] [(.int v75)])) _
    refine XS.istore X71.here hx rfl (hb hby at_372) rfl (l' := #[.val (.long q1), .second, .val (.long q2), .second, .val (.int p3), .val (.ref b1), .val (.int FR), .val (.ref b44), .val (.int S6), .val (.int v75)]) rfl ?_
    show Steps p.tables e below (T71.setTop (mkF m 374 #[.val (.long q1), .second, .val (.long q2), .second, .val (.int p3), .val (.ref b1), .val (.int FR), .val (.ref b44), .val (.int S6), .val (.int v75)] [])) _
    refine XS.aload X71.here hx rfl (hb hby at_374) rfl rfl ?_
    show Steps p.tables e below (T71.setTop (mkF m 376 #[.val (.long q1), .second, .val (.long q2), .second, .val (.int p3), .val (.ref b1), .val (.int FR), .val (.ref b44), .val (.int S6), .val (.int v75)] [(.ref b44)])) _
    refine XS.iload X71.here hx rfl (hb hby at_376) rfl ?_
    show Steps p.tables e below (T71.setTop (mkF m 378 #[.val (.long q1), .second, .val (.long q2), .second, .val (.int p3), .val (.ref b1), .val (.int FR), .val (.ref b44), .val (.int S6), .val (.int v75)] [(.int FR), (.ref b44)])) _
    refine st77 _ ?_
    show Steps p.tables e below (T77.setTop (mkF m 381 #[.val (.long q1), .second, .val (.long q2), .second, .val (.int p3), .val (.ref b1), .val (.int FR), .val (.ref b44), .val (.int S6), .val (.int v75)] [(.int (f10 FR y42))])) _
    refine XS.iload X77.here hx rfl (hb hby at_381) rfl ?_
    show Steps p.tables e below (T77.setTop (mkF m 383 #[.val (.long q1), .second, .val (.long q2), .second, .val (.int p3), .val (.ref b1), .val (.int FR), .val (.ref b44), .val (.int S6), .val (.int v75)] [(.int v75), (.int (f10 FR y42))])) _
    by_cases hc78 : (f10 FR y42) = v75
    · refine XS.icmpNo X77.here hx rfl (hb hby at_383) rfl (teq hc78).2 ?_
      show Steps p.tables e below (T77.setTop (mkF m 386 #[.val (.long q1), .second, .val (.long q2), .second, .val (.int p3), .val (.ref b1), .val (.int FR), .val (.ref b44), .val (.int S6), .val (.int v75)] [])) _
      refine XS.iconst X77.here hx rfl (hb hby at_386) ?_
      show Steps p.tables e below (T77.setTop (mkF m 387 #[.val (.long q1), .second, .val (.long q2), .second, .val (.int p3), .val (.ref b1), .val (.int FR), .val (.ref b44), .val (.int S6), .val (.int v75)] [(.int (1 : Int32))])) _
      refine XS.goto X77.here hx rfl (pc0 := 387) (pc' := 391) rfl (hb hby at_387) (by decide) (by decide) ?_
      rw [show v79 = (1 : Int32) from hv79.trans (if_pos hc78)] at k
      exact k
    · refine XS.icmpYes X77.here hx rfl (pc0 := 383) (pc' := 390) rfl (hb hby at_383) rfl (feq hc78).2 (by decide) (by decide) ?_
      show Steps p.tables e below (T77.setTop (mkF m 390 #[.val (.long q1), .second, .val (.long q2), .second, .val (.int p3), .val (.ref b1), .val (.int FR), .val (.ref b44), .val (.int S6), .val (.int v75)] [])) _
      refine XS.iconst X77.here hx rfl (hb hby at_390) ?_
      rw [show v79 = (0 : Int32) from hv79.trans (if_neg hc78)] at k
      exact k)
  have er : (f0 q1 q2 p3) = (nar .boolean v79) := by subst hv4 hy7 hv11 hy14 hv18 hy21 hv25 hy28 hv32 hy35 hv39 hy42 hFR hv49 hS1 hv53 hS2 hv57 hS3 hv61 hS4 hv65 hS5 hv69 hS6 hv75 hv79; exact rfl
  obtain ⟨fs, hr, hrun, hended, hW, hsame⟩ := X77.leave (v := some (.int (nar .boolean v79))) (fun h => by rw [Bd.returns] at h; cases h)
  refine ⟨_, _, pre80 _ ?_, hrun, hended, _, _, rfl, ?_, ⟨_, rfl⟩, hW, hsame.mono (by decide) (by decide)⟩
  · show Steps p.tables e below (T77.setTop (mkF m 391 #[.val (.long q1), .second, .val (.long q2), .second, .val (.int p3), .val (.ref b1), .val (.int FR), .val (.ref b44), .val (.int S6), .val (.int v75)] [(.int v79)])) _
    exact retN X77 hx (t := .boolean) Bd.returns (by simp) (hb hby at_391) hr
  · show Q0 Z q1 q2 p3 cs h0 n0 _ T77.heap _
    rw [e77]
    exact ⟨congrArg (fun z => some (Value.int z)) er.symm, N77, trivial⟩
def own_Y (q1 q2 : Int64) : Int32 → Int32 :=
  let v4 : Int32 := (if (((q2.toUInt64 >>> ((32 : Int32) &&& 0x3f).toInt64.toUInt64).toInt64) &&& (1 : Int64)) = (0 : Int64) then (0 : Int32) else (1 : Int32));
  let y7 : Int32 → Int32 := (fun i => if i = (0 : Int32) then (nar .char (own_pick ((q1 &&& (65535 : Int64)).toInt32) v4)) else (fun _ => (0 : Int32)) i);
  let v11 : Int32 := (if (((q2.toUInt64 >>> ((33 : Int32) &&& 0x3f).toInt64.toUInt64).toInt64) &&& (1 : Int64)) = (0 : Int64) then (0 : Int32) else (1 : Int32));
  let y14 : Int32 → Int32 := (fun i => if i = (1 : Int32) then (nar .char (own_pick ((((q1.toUInt64 >>> ((16 : Int32) &&& 0x3f).toInt64.toUInt64).toInt64) &&& (65535 : Int64)).toInt32) v11)) else y7 i);
  let v18 : Int32 := (if (((q2.toUInt64 >>> ((34 : Int32) &&& 0x3f).toInt64.toUInt64).toInt64) &&& (1 : Int64)) = (0 : Int64) then (0 : Int32) else (1 : Int32));
  let y21 : Int32 → Int32 := (fun i => if i = (2 : Int32) then (nar .char (own_pick ((((q1.toUInt64 >>> ((32 : Int32) &&& 0x3f).toInt64.toUInt64).toInt64) &&& (65535 : Int64)).toInt32) v18)) else y14 i);
  let v25 : Int32 := (if (((q2.toUInt64 >>> ((35 : Int32) &&& 0x3f).toInt64.toUInt64).toInt64) &&& (1 : Int64)) = (0 : Int64) then (0 : Int32) else (1 : Int32));
  let y28 : Int32 → Int32 := (fun i => if i = (3 : Int32) then (nar .char (own_pick ((((q1.toUInt64 >>> ((48 : Int32) &&& 0x3f).toInt64.toUInt64).toInt64) &&& (65535 : Int64)).toInt32) v25)) else y21 i);
  let v32 : Int32 := (if (((q2.toUInt64 >>> ((36 : Int32) &&& 0x3f).toInt64.toUInt64).toInt64) &&& (1 : Int64)) = (0 : Int64) then (0 : Int32) else (1 : Int32));
  let y35 : Int32 → Int32 := (fun i => if i = (4 : Int32) then (nar .char (own_pick ((q2 &&& (65535 : Int64)).toInt32) v32)) else y28 i);
  let v39 : Int32 := (if (((q2.toUInt64 >>> ((37 : Int32) &&& 0x3f).toInt64.toUInt64).toInt64) &&& (1 : Int64)) = (0 : Int64) then (0 : Int32) else (1 : Int32));
  let y42 : Int32 → Int32 := (fun i => if i = (5 : Int32) then (nar .char (own_pick ((((q2.toUInt64 >>> ((16 : Int32) &&& 0x3f).toInt64.toUInt64).toInt64) &&& (65535 : Int64)).toInt32) v39)) else y35 i);
  y42

theorem own_irr (i : Int32) : ¬ i < i := Int32.lt_irrefl
def own_dg (x : Int32) : Prop := ¬ x < (48 : Int32) ∧ ¬ (57 : Int32) < x
theorem own_f9d {x : Int32} (h : own_dg x) : f9 x = 1 := by
  unfold f9; rw [if_neg h.1, if_neg h.2]; decide
theorem own_f9n {x : Int32} (h : ¬ own_dg x) : f9 x = 0 := by
  unfold f9
  by_cases a : x < (48 : Int32)
  · rw [if_pos a]; decide
  · rw [if_neg a]
    by_cases b : (57 : Int32) < x
    · rw [if_pos b]; decide
    · exact absurd ⟨a, b⟩ h
def own_run (cc : Int32 → Int32) : Nat → Int32 → Int32 → Int32
  | 0, _, s => s
  | k + 1, i, s => own_run cc k (i + (1 : Int32)) (f8 s (cc i) (1 : Int32))
def own_acc (s : Int32) : Int32 := (if s = (1 : Int32) then (1 : Int32) else (if s = (3 : Int32) then (1 : Int32) else (if s = (6 : Int32) then (1 : Int32) else (0 : Int32))))
theorem own_run_s (cc : Int32 → Int32) (k : Nat) (i s : Int32) : own_run cc (k + 1) i s = own_run cc k (i + (1 : Int32)) (f8 s (cc i) (1 : Int32)) := rfl
theorem own_Dd {cc : Int32 → Int32} {i : Int32} (k : Nat) (h : own_dg (cc i)) : own_D cc (k + 1) i = own_D cc k (i + (1 : Int32)) := (if_neg h.1).trans (if_neg h.2)
theorem own_Dn {cc : Int32 → Int32} {i : Int32} (k : Nat) (h : ¬ own_dg (cc i)) : own_D cc (k + 1) i = i := by
  show (if cc i < (48 : Int32) then i else if (57 : Int32) < cc i then i else own_D cc k (i + (1 : Int32))) = i
  by_cases a : cc i < (48 : Int32)
  · rw [if_pos a]
  · rw [if_neg a]
    by_cases b : (57 : Int32) < cc i
    · rw [if_pos b]
    · exact absurd ⟨a, b⟩ h
theorem own_Ek {cc : Int32 → Int32} {i : Int32} {k : Nat} (h : i.toInt + k = 6) : own_E cc i = own_D cc k i := by
  unfold own_E; rw [show (6 - i.toInt).toNat = k by omega]
theorem own_dead (cc : Int32 → Int32) : ∀ (k : Nat) (i : Int32), own_run cc k i 7 = 7 := by
  intro k
  induction k with
  | zero => intro i; rfl
  | succ k ih =>
    intro i
    rw [own_run_s, show f8 (7 : Int32) (cc i) (1 : Int32) = 7 by simp [f8]]
    exact ih _
theorem own_nx {i : Int32} {k : Nat} (h : i.toInt + ((k + 1 : Nat) : Int) = 6) (h0 : 0 ≤ i.toInt) : (i + (1 : Int32)).toInt = i.toInt + 1 ∧ (i + (1 : Int32)).toInt + k = 6 ∧ 0 ≤ (i + (1 : Int32)).toInt ∧ i < (6 : Int32) ∧ ¬ i = (6 : Int32) := by
  have e1 : (1 : Int32).toInt = 1 := by decide
  have e6 : (6 : Int32).toInt = 6 := by decide
  have h1 := c_iadd i 1
  have h2 := rng32 (i + 1)
  rw [Int32.lt_iff_toInt_lt]
  refine ⟨by omega, by omega, by omega, by omega, fun q => ?_⟩
  rw [q] at h; omega
theorem own_at6 {i : Int32} (h : i.toInt + ((0 : Nat) : Int) = 6) : i = (6 : Int32) := Int32.toInt_inj.mp (by rw [show (6 : Int32).toInt = 6 by decide]; omega)
theorem own_r6 (cc : Int32 → Int32) : ∀ (k : Nat) (i : Int32), i.toInt + k = 6 → 0 ≤ i.toInt → own_acc (own_run cc k i 6) = (if own_D cc k i = (6 : Int32) then (1 : Int32) else (0 : Int32)) := by
  intro k
  induction k with
  | zero =>
    intro i h h0
    show own_acc 6 = (if i = (6 : Int32) then (1 : Int32) else (0 : Int32))
    rw [if_pos (own_at6 h)]; decide
  | succ k ih =>
    intro i h h0
    have q := own_nx h h0
    rw [own_run_s]
    by_cases d : own_dg (cc i)
    · rw [show f8 (6 : Int32) (cc i) (1 : Int32) = 6 by simp [f8, own_f9d d], own_Dd k d]
      exact ih _ q.2.1 q.2.2.1
    · rw [show f8 (6 : Int32) (cc i) (1 : Int32) = 7 by simp [f8, own_f9n d], own_Dn k d, own_dead, if_neg q.2.2.2.2]; decide
def own_fin (cc : Int32 → Int32) (X : Int32) : Int32 := if X < own_E cc X then (if own_E cc X = (6 : Int32) then (1 : Int32) else (0 : Int32)) else (0 : Int32)
theorem own_r45 (cc : Int32 → Int32) (k : Nat) (i s : Int32) (h : i.toInt + k = 6) (h0 : 0 ≤ i.toInt) (hs : s = 5 ∨ (s = 4 ∧ (i < (6 : Int32) → ¬ cc i = (43 : Int32) ∧ ¬ cc i = (45 : Int32)))) : own_acc (own_run cc k i s) = own_fin cc i := by
  unfold own_fin
  rw [own_Ek h]
  cases k with
  | zero =>
    show own_acc s = (if i < i then _ else _)
    rw [if_neg (own_irr i)]
    rcases hs with rfl | ⟨rfl, -⟩ <;> decide
  | succ k =>
    have q := own_nx h h0
    rw [own_run_s]
    by_cases d : own_dg (cc i)
    · have e : f8 s (cc i) (1 : Int32) = 6 := by
        rcases hs with rfl | ⟨rfl, -⟩ <;> simp [f8, own_f9d d]
      have r := own_D_rng cc k _ q.2.1 q.2.2.1
      rw [e, own_Dd k d, own_r6 cc k _ q.2.1 q.2.2.1, if_pos (show i < own_D cc k (i + (1 : Int32)) by rw [Int32.lt_iff_toInt_lt]; omega)]
    · have e : f8 s (cc i) (1 : Int32) = 7 := by
        rcases hs with rfl | ⟨rfl, g⟩
        · simp [f8, own_f9n d]
        · have g := g q.2.2.2.1
          simp [f8, own_f9n d, g.1, g.2]
      rw [e, own_Dn k d, own_dead, if_neg (own_irr i)]; decide
def own_X (cc : Int32 → Int32) (j : Int32) : Int32 := (if j < (6 : Int32) then (if (cc j) = (43 : Int32) then (j + (1 : Int32)) else (if (cc j) = (45 : Int32) then (j + (1 : Int32)) else j)) else j)
theorem own_r4 (cc : Int32 → Int32) (k : Nat) (j : Int32) (h : j.toInt + k = 6) (h0 : 0 ≤ j.toInt) : own_acc (own_run cc k j 4) = own_fin cc (own_X cc j) := by
  have e6 : (6 : Int32).toInt = 6 := by decide
  unfold own_X
  by_cases a : j < (6 : Int32)
  · rw [if_pos a]
    cases k with
    | zero => rw [Int32.lt_iff_toInt_lt] at a; omega
    | succ k =>
      have q := own_nx h h0
      by_cases b : cc j = (43 : Int32)
      · rw [if_pos b, own_run_s, b, show f8 (4 : Int32) (43 : Int32) (1 : Int32) = 5 by decide]
        exact own_r45 cc k _ 5 q.2.1 q.2.2.1 (Or.inl rfl)
      · rw [if_neg b]
        by_cases b2 : cc j = (45 : Int32)
        · rw [if_pos b2, own_run_s, b2, show f8 (4 : Int32) (45 : Int32) (1 : Int32) = 5 by decide]
          exact own_r45 cc k _ 5 q.2.1 q.2.2.1 (Or.inl rfl)
        · rw [if_neg b2]
          exact own_r45 cc (k + 1) j 4 h h0 (Or.inr ⟨rfl, fun _ => ⟨b, b2⟩⟩)
  · rw [if_neg a]
    exact own_r45 cc k j 4 h h0 (Or.inr ⟨rfl, fun z => absurd z a⟩)
def own_T3 (cc : Int32 → Int32) (m : Int32) : Int32 := (if m < (6 : Int32) then (if cc m = (101 : Int32) then own_fin cc (own_X cc (m + (1 : Int32))) else (if cc m = (69 : Int32) then own_fin cc (own_X cc (m + (1 : Int32))) else (0 : Int32))) else (1 : Int32))
def own_T1 (cc : Int32 → Int32) (m : Int32) : Int32 := (if m < (6 : Int32) then (if cc m = (46 : Int32) then own_T3 cc (own_E cc (m + (1 : Int32))) else own_T3 cc m) else (1 : Int32))
theorem own_r3 (cc : Int32 → Int32) : ∀ (k : Nat) (i : Int32), i.toInt + k = 6 → 0 ≤ i.toInt → own_acc (own_run cc k i 3) = own_T3 cc (own_D cc k i) := by
  intro k
  induction k with
  | zero =>
    intro i h h0
    show own_acc 3 = own_T3 cc i
    unfold own_T3
    rw [if_neg (by rw [own_at6 h]; exact own_irr _)]; decide
  | succ k ih =>
    intro i h h0
    have q := own_nx h h0
    rw [own_run_s]
    by_cases d : own_dg (cc i)
    · rw [show f8 (3 : Int32) (cc i) (1 : Int32) = 3 by simp [f8, own_f9d d], own_Dd k d]
      exact ih _ q.2.1 q.2.2.1
    · rw [own_Dn k d]
      unfold own_T3
      rw [if_pos q.2.2.2.1]
      by_cases a : cc i = (101 : Int32)
      · rw [if_pos a, a, show f8 (3 : Int32) (101 : Int32) (1 : Int32) = 4 by decide]
        exact own_r4 cc k _ q.2.1 q.2.2.1
      · rw [if_neg a]
        by_cases b : cc i = (69 : Int32)
        · rw [if_pos b, b, show f8 (3 : Int32) (69 : Int32) (1 : Int32) = 4 by decide]
          exact own_r4 cc k _ q.2.1 q.2.2.1
        · rw [if_neg b, show f8 (3 : Int32) (cc i) (1 : Int32) = 7 by simp [f8, own_f9n d, a, b], own_dead]; decide
theorem own_r1 (cc : Int32 → Int32) : ∀ (k : Nat) (i : Int32), i.toInt + k = 6 → 0 ≤ i.toInt → own_acc (own_run cc k i 1) = own_T1 cc (own_D cc k i) := by
  intro k
  induction k with
  | zero =>
    intro i h h0
    show own_acc 1 = own_T1 cc i
    unfold own_T1
    rw [if_neg (by rw [own_at6 h]; exact own_irr _)]; decide
  | succ k ih =>
    intro i h h0
    have q := own_nx h h0
    rw [own_run_s]
    by_cases d : own_dg (cc i)
    · rw [show f8 (1 : Int32) (cc i) (1 : Int32) = 1 by simp [f8, own_f9d d], own_Dd k d]
      exact ih _ q.2.1 q.2.2.1
    · rw [own_Dn k d]
      unfold own_T1
      rw [if_pos q.2.2.2.1]
      by_cases p : cc i = (46 : Int32)
      · rw [if_pos p, p, show f8 (1 : Int32) (46 : Int32) (1 : Int32) = 3 by decide, own_Ek q.2.1]
        exact own_r3 cc k _ q.2.1 q.2.2.1
      · rw [if_neg p]
        unfold own_T3
        rw [if_pos q.2.2.2.1]
        by_cases a : cc i = (101 : Int32)
        · rw [if_pos a, a, show f8 (1 : Int32) (101 : Int32) (1 : Int32) = 4 by decide]
          exact own_r4 cc k _ q.2.1 q.2.2.1
        · rw [if_neg a]
          by_cases b : cc i = (69 : Int32)
          · rw [if_pos b, b, show f8 (1 : Int32) (69 : Int32) (1 : Int32) = 4 by decide]
            exact own_r4 cc k _ q.2.1 q.2.2.1
          · rw [if_neg b, show f8 (1 : Int32) (cc i) (1 : Int32) = 7 by simp [f8, own_f9n d, p, a, b], own_dead]; decide
theorem own_r2 (cc : Int32 → Int32) (k : Nat) (i : Int32) (h : i.toInt + k = 6) (h0 : 0 ≤ i.toInt) : own_acc (own_run cc k i 2) = (if i < own_E cc i then own_T3 cc (own_E cc i) else (0 : Int32)) := by
  rw [own_Ek h]
  cases k with
  | zero =>
    show own_acc 2 = (if i < i then _ else _)
    rw [if_neg (own_irr i)]; decide
  | succ k =>
    have q := own_nx h h0
    rw [own_run_s]
    by_cases d : own_dg (cc i)
    · rw [show f8 (2 : Int32) (cc i) (1 : Int32) = 3 by simp [f8, own_f9d d], own_Dd k d, own_r3 cc k _ q.2.1 q.2.2.1, if_pos (show i < own_D cc k (i + (1 : Int32)) by have r := own_D_rng cc k _ q.2.1 q.2.2.1; rw [Int32.lt_iff_toInt_lt]; omega)]
    · rw [show f8 (2 : Int32) (cc i) (1 : Int32) = 7 by simp [f8, own_f9n d], own_Dn k d, own_dead, if_neg (own_irr i)]; decide
def own_m (cc : Int32 → Int32) (I : Int32) : Int32 := (if I < (6 : Int32) then (if (cc I) = (46 : Int32) then (own_E cc (I + (1 : Int32))) else I) else I)
def own_g (cc : Int32 → Int32) (i m v : Int32) : Int32 := if v < (m - i) then own_T3 cc m else (0 : Int32)
theorem own_f10 (cc : Int32 → Int32) {i : Int32} (h : 0 ≤ i.toInt ∧ i.toInt ≤ 6) : f10 i cc = own_g cc i (own_m cc (own_E cc i)) (if own_E cc i < own_m cc (own_E cc i) then (1 : Int32) else (0 : Int32)) := by
  have r1 := own_E_rng cc h
  have r2 := own_r34 (cc := cc) h.1 r1 (v := own_m cc (own_E cc i)) rfl
  unfold f10
  dsimp only
  change nar .boolean (if (if (if (if own_E cc i < own_m cc (own_E cc i) then (1 : Int32) else (0 : Int32)) < (own_m cc (own_E cc i) - i) then (1 : Int32) else (0 : Int32)) = (0 : Int32) then (if (if own_E cc i < own_m cc (own_E cc i) then (1 : Int32) else (0 : Int32)) < (own_m cc (own_E cc i) - i) then (1 : Int32) else (0 : Int32)) else (if own_m cc (own_E cc i) < (6 : Int32) then (if (cc (own_m cc (own_E cc i))) = (101 : Int32) then (if own_X cc (own_m cc (own_E cc i) + (1 : Int32)) < own_E cc (own_X cc (own_m cc (own_E cc i) + (1 : Int32))) then (1 : Int32) else (0 : Int32)) else (if (cc (own_m cc (own_E cc i))) = (69 : Int32) then (if own_X cc (own_m cc (own_E cc i) + (1 : Int32)) < own_E cc (own_X cc (own_m cc (own_E cc i) + (1 : Int32))) then (1 : Int32) else (0 : Int32)) else (if (if own_E cc i < own_m cc (own_E cc i) then (1 : Int32) else (0 : Int32)) < (own_m cc (own_E cc i) - i) then (1 : Int32) else (0 : Int32)))) else (if (if own_E cc i < own_m cc (own_E cc i) then (1 : Int32) else (0 : Int32)) < (own_m cc (own_E cc i) - i) then (1 : Int32) else (0 : Int32)))) = (0 : Int32) then (0 : Int32) else (if (if (if (if own_E cc i < own_m cc (own_E cc i) then (1 : Int32) else (0 : Int32)) < (own_m cc (own_E cc i) - i) then (1 : Int32) else (0 : Int32)) = (0 : Int32) then own_m cc (own_E cc i) else (if own_m cc (own_E cc i) < (6 : Int32) then (if (cc (own_m cc (own_E cc i))) = (101 : Int32) then (own_E cc (own_X cc (own_m cc (own_E cc i) + (1 : Int32)))) else (if (cc (own_m cc (own_E cc i))) = (69 : Int32) then (own_E cc (own_X cc (own_m cc (own_E cc i) + (1 : Int32)))) else own_m cc (own_E cc i))) else own_m cc (own_E cc i))) = (6 : Int32) then (1 : Int32) else (0 : Int32))) = _
  generalize own_m cc (own_E cc i) = m at *
  generalize (if own_E cc i < m then (1 : Int32) else (0 : Int32)) = v at *
  unfold own_g
  have n1 : ¬ (1 : Int32) = (0 : Int32) := by decide
  have b0 : nar .boolean (0 : Int32) = 0 := by decide
  have b1 : nar .boolean (1 : Int32) = 1 := by decide
  have e6 : (6 : Int32).toInt = 6 := by decide
  have fin : ∀ X : Int32, nar .boolean (if (if X < own_E cc X then (1 : Int32) else (0 : Int32)) = (0 : Int32) then (0 : Int32) else (if own_E cc X = (6 : Int32) then (1 : Int32) else (0 : Int32))) = own_fin cc X := fun X => by
    unfold own_fin
    by_cases a : X < own_E cc X
    · rw [if_pos a, if_neg n1, if_pos a]
      by_cases b : own_E cc X = (6 : Int32)
      · rw [if_pos b, b1]
      · rw [if_neg b, b0]
    · rw [if_neg a, if_pos rfl, if_neg a, b0]
  by_cases c : v < (m - i)
  · rw [if_pos c, if_neg n1, if_neg n1, if_pos c]
    unfold own_T3
    by_cases d : m < (6 : Int32)
    · rw [if_pos d, if_pos d, if_pos d]
      by_cases a : cc m = (101 : Int32)
      · rw [if_pos a, if_pos a, if_pos a]; exact fin _
      · rw [if_neg a, if_neg a, if_neg a]
        by_cases b : cc m = (69 : Int32)
        · rw [if_pos b, if_pos b, if_pos b]; exact fin _
        · rw [if_neg b, if_neg b, if_neg b, if_neg n1, if_neg, b0]
          intro q; rw [q] at d; exact absurd d (own_irr _)
    · rw [if_neg d, if_neg d, if_neg d, if_neg n1, if_pos, b1]
      rw [Int32.lt_iff_toInt_lt] at d
      exact Int32.toInt_inj.mp (by omega)
  · rw [if_neg c, if_pos rfl, if_pos rfl, if_neg c, b0]
theorem own_main (cc : Int32 → Int32) (k : Nat) (i : Int32) (h : i.toInt + k = 6) (h0 : 0 ≤ i.toInt) : f10 i cc = own_acc (own_run cc k i 0) := by
  have e0 : (0 : Int32).toInt = 0 := by decide
  have e1 : (1 : Int32).toInt = 1 := by decide
  have e6 : (6 : Int32).toInt = 6 := by decide
  rw [own_f10 cc ⟨h0, by omega⟩]
  have s : ∀ m : Int32, (0 ≤ m.toInt ∧ m.toInt ≤ 6) → (m - i).toInt = m.toInt - i.toInt := fun m hm => by
    have h1 := c_isub m i
    have h2 := rng32 (m - i)
    omega
  cases k with
  | zero =>
    have q := own_at6 h
    subst q
    have e : own_E cc 6 = 6 := own_Ek h
    rw [e]
    have em : own_m cc 6 = 6 := if_neg (own_irr _)
    rw [em, if_neg (own_irr _)]
    show (if (0 : Int32) < (6 : Int32) - (6 : Int32) then _ else _) = own_acc 0
    rw [if_neg (by decide)]; decide
  | succ k =>
    have q := own_nx h h0
    rw [own_run_s]
    by_cases d : own_dg (cc i)
    · have eE : own_E cc i = own_D cc k (i + (1 : Int32)) := (own_Ek h).trans (own_Dd k d)
      rw [show f8 (0 : Int32) (cc i) (1 : Int32) = 1 by simp [f8, own_f9d d], own_r1 cc k _ q.2.1 q.2.2.1, ← eE]
      have r : i.toInt + 1 ≤ (own_E cc i).toInt ∧ (own_E cc i).toInt ≤ 6 := by
        rw [eE, ← q.1]; exact own_D_rng cc k _ q.2.1 q.2.2.1
      generalize own_E cc i = I at *
      unfold own_T1 own_m own_g
      by_cases a : I < (6 : Int32)
      · rw [if_pos a, if_pos a]
        by_cases p : cc I = (46 : Int32)
        · rw [if_pos p, if_pos p]
          have rI := own_E_rng cc (own_p1 (by omega) a)
          have hI1 := c_iadd I 1
          have hI2 := rng32 (I + 1)
          rw [Int32.lt_iff_toInt_lt] at a
          rw [if_pos (show I < own_E cc (I + (1 : Int32)) by rw [Int32.lt_iff_toInt_lt]; omega)]
          rw [if_pos]
          rw [Int32.lt_iff_toInt_lt, s _ (by omega)]; omega
        · rw [if_neg p, if_neg p, if_neg (own_irr I), if_pos]
          rw [Int32.lt_iff_toInt_lt, s _ (by omega)]; omega
      · rw [if_neg a, if_neg a, if_neg (own_irr I), if_pos]
        · unfold own_T3
          rw [if_neg a]
        · rw [Int32.lt_iff_toInt_lt, s _ (by omega)]; omega
    · have eE : own_E cc i = i := (own_Ek h).trans (own_Dn k d)
      rw [eE]
      unfold own_m
      rw [if_pos q.2.2.2.1]
      by_cases p : cc i = (46 : Int32)
      · rw [if_pos p, p, show f8 (0 : Int32) (46 : Int32) (1 : Int32) = 2 by decide, own_r2 cc k _ q.2.1 q.2.2.1]
        have r := own_E_rng cc (i := i + (1 : Int32)) ⟨q.2.2.1, by omega⟩
        generalize own_E cc (i + (1 : Int32)) = m at *
        rw [if_pos (show i < m by rw [Int32.lt_iff_toInt_lt]; omega)]
        unfold own_g
        by_cases a : (i + (1 : Int32)) < m
        · rw [if_pos a, if_pos]
          rw [Int32.lt_iff_toInt_lt] at a
          rw [Int32.lt_iff_toInt_lt, s _ (by omega)]; omega
        · rw [if_neg a, if_neg]
          rw [Int32.lt_iff_toInt_lt] at a
          rw [Int32.lt_iff_toInt_lt, s _ (by omega)]; omega
      · rw [if_neg p, if_neg (own_irr i), show f8 (0 : Int32) (cc i) (1 : Int32) = 7 by simp [f8, own_f9n d, p], own_dead]
        unfold own_g
        rw [if_neg]
        · decide
        · rw [Int32.lt_iff_toInt_lt, s _ (by omega)]; omega
def own_S (cc : Int32 → Int32) (FR : Int32) : Int32 := (f8 (f8 (f8 (f8 (f8 (f8 (0 : Int32) (cc (0 : Int32)) (if (0 : Int32) < FR then (0 : Int32) else (1 : Int32))) (cc (1 : Int32)) (if (1 : Int32) < FR then (0 : Int32) else (1 : Int32))) (cc (2 : Int32)) (if (2 : Int32) < FR then (0 : Int32) else (1 : Int32))) (cc (3 : Int32)) (if (3 : Int32) < FR then (0 : Int32) else (1 : Int32))) (cc (4 : Int32)) (if (4 : Int32) < FR then (0 : Int32) else (1 : Int32))) (cc (5 : Int32)) (if (5 : Int32) < FR then (0 : Int32) else (1 : Int32)))
theorem own_off (s x : Int32) : f8 s x 0 = s := if_pos rfl
theorem own_SR (cc : Int32 → Int32) {FR : Int32} (h : 0 ≤ FR.toInt ∧ FR.toInt ≤ 6) : own_S cc FR = own_run cc (6 - FR.toInt).toNat FR 0 := by
  obtain ⟨k, hk, rfl⟩ := own_nat (c := FR) 7 h.1 (by omega)
  match k, hk with
  | 0, _ => rfl
  | 1, _ => rfl
  | 2, _ => rfl
  | 3, _ => rfl
  | 4, _ => rfl
  | 5, _ => rfl
  | 6, _ => rfl
theorem own_law (q1 q2 : Int64) (p3 : Int32) : f0 q1 q2 p3 = 1 := by
  have r := own_from p3
  unfold f0
  generalize (p3 &&& (2147483647 : Int32)) % (7 : Int32) = FR at *
  refine (congrArg (nar .boolean) (if_pos (?_ : f10 FR (own_Y q1 q2) = own_acc (own_S (own_Y q1 q2) FR)))).trans (by decide)
  rw [own_SR _ r]
  exact own_main _ _ _ (by omega) r.1

theorem own_sta_eq {args : Array Value} {s : State} {C n d : String} {k : Int32} (hi : (Jvm.Cond.initializedFor C n d).before args s = true) (h : (Jvm.Cond.eq (.static C n d) (.int k)).value args s none s [] = some true) : Sta s s.heap C n d (.int k) := by
  obtain ⟨u, w, e1, e2, k1, k2⟩ := cmp_v (Or.inl h)
  have ew : w = .int k := Option.some.inj (e2.symm.trans (Term.int_eval k))
  subst ew
  obtain ⟨z, rfl⟩ : ∃ z, u = .int z := k2
  have hz : z = k := by simpa [Cond.value, e1, e2] using h
  subst hz
  exact Sta.start e1 (Or.inl hi)
set_option maxRecDepth 65536 in
set_option maxHeartbeats 40000000 in
theorem comes_1 {Post : Tables → Env → Array Value → State → Outcome → State → Prop} (hpost : ∀ tb e args s v u, (limb_1_1.after args s (.returned v) u = true ∧ limb_1_2.after args s (.returned v) u = true ∧ True) → FrameEnd s (.returned v) u (Jvm.fieldLocs frame_1_writes args s ++ Jvm.arrayLocs frame_1_arrays args s ++ Jvm.staticLocs frame_1_statics s) 32 320 → Post tb e args s (.returned v) u) :
    ArmFor flags0 classFile x code maxLocals ret World_1 tables_1 room_1 Calls_1 rest_1 Pre_1 Post := by
  intro l hfl _ _ p e ha hc hk s m args below hf hA hF happ hP
  obtain ⟨hcalls, hrest, hpre⟩ := hP
  obtain ⟨-, -, -, hnamed, -, -, -, hat⟩ := (Spec.applies_iff hf).mp happ
  obtain ⟨hg, hn⟩ := and_e (Cond.before_iff.mp (show (Jvm.Cond.and given_1 narrow_1).before args s = true from hpre))
  obtain ⟨g1, g2⟩ := and_e hg
  obtain ⟨g3, g4⟩ := and_e g2
  obtain ⟨g5, g6⟩ := and_e g4
  obtain ⟨w0, w1, w2, rfl⟩ : ∃ w0 w1 w2 : Value, args = #[w0, w1, w2] := by
    have hs : args.size = 3 := by simpa [Cond.value, given_1] using g1
    obtain ⟨L⟩ := args
    match L, hs with
    | [w0, w1, w2], _ => exact ⟨w0, w1, w2, rfl⟩
  have hw := fun d (hd : d ∈ tables_1) => atoms_spec (ws := Jvm.Cond.code x code maxLocals ret :: tables_1) hat d (List.mem_cons_of_mem _ hd)
  obtain ⟨i0, ei0⟩ := isL_v g3
  obtain rfl : w0 = (.long i0) := Option.some.inj ei0
  obtain ⟨i1, ei1⟩ := isL_v g5
  obtain rfl : w1 = (.long i1) := Option.some.inj ei1
  obtain ⟨i2, ei2⟩ := is_v g6
  obtain rfl : w2 = (.int i2) := Option.some.inj ei2
  obtain ⟨hsets, hown0⟩ := atoms_of _ (rest_1_c_eq ▸ (show rest_1_c.before _ s = true from hrest))
  have n3 := not_v (Cond.before_iff.mp (hsets _ (List.mem_of_getElem? (i := 2) rfl)))
  obtain ⟨zc, ezc⟩ := is_v (Cond.before_iff.mp (hsets _ (List.mem_of_getElem? (i := 1) rfl)))
  have S8 : Sta s s.heap "java/lang/String" "COMPACT_STRINGS" "Z" (.int zc) := Sta.start ezc (Or.inl (hsets _ (List.mem_of_getElem? (i := 0) rfl)))
  have c9 : ¬ (zc = (0 : Int32)) := gotF (Cond.eq_ints ezc (Term.int_eval (0))) n3
  obtain ⟨fm, efm, rfm⟩ := isR_v (Cond.before_iff.mp (hsets _ (List.mem_of_getElem? (i := 8) rfl)))
  have hWs : own_W s zc := ⟨S8, c9, own_sta_eq (hsets _ (List.mem_of_getElem? (i := 11) rfl)) (Cond.before_iff.mp (hsets _ (List.mem_of_getElem? (i := 12) rfl))), own_sta_eq (hsets _ (List.mem_of_getElem? (i := 14) rfl)) (Cond.before_iff.mp (hsets _ (List.mem_of_getElem? (i := 15) rfl))), own_sta_eq (hsets _ (List.mem_of_getElem? (i := 17) rfl)) (Cond.before_iff.mp (hsets _ (List.mem_of_getElem? (i := 18) rfl))), fm, Sta.start efm (Or.inl (hsets _ (List.mem_of_getElem? (i := 7) rfl))), rfm⟩
  obtain ⟨n, o, h1, h2, h3, _, L, rfl, ⟨rfl, N, -⟩, hq⟩ := rm0 l s _ hw tables_1 i0 i1 i2 zc s.heap s.heap.size (Nat.le_refl _) hWs (Old.start s) p e ha hc hk s m _ below hf ((Spec.applies_iff_loose hf).mp happ).1 ⟨rfl, State.Warmed39.refl s, rfl⟩ trivial
  refine ⟨n, _, h1, h2, h3, hpost _ _ _ _ _ _ ⟨Cond.after_iff.mpr rfl, Cond.after_iff.mpr (eq_i res_at (Term.int_eval (1)) (congrArg Value.int (own_law i0 i1 i2))), trivial⟩ ⟨hq.1, hq.2.1, (hq.2.2.sift fun y hy => Or.inr (N y hy)).mono (by decide) (by decide)⟩⟩
theorem main_1_1 : Claimed_1_1 := comes_1 fun _ _ _ _ _ _ h hF => ⟨h.1, hF⟩
theorem main_1_2 : Claimed_1_2 := comes_1 fun _ _ _ _ _ _ h hF => ⟨h.2.1, hF⟩
end Jvm.Pilot.@@N@@
namespace Jvm.Pilot.@@N@@
open Jvm Jvm.ClassFile Sem Op Lib Jvm.Free Jvm.Stand Jvm.Pilot.@@N@@.Jvm.D
/-! MADE BY PROGRAM (witnessworld.py) out of the Statement's table words and the real class files: 20 classes; the members and pool entries that the words name. The judged class is class 1, her method 1. -/
namespace start1
open Jvm.ClassFile
def u (s : String) : CpInfo := .utf8 (stringToUtf16 s)
/-- a pool by its gaps: so many unusable entries, then the entry; so many at the end -/
def gap : Nat → List CpInfo → List CpInfo
  | 0, r => r
  | n + 1, r => .unusable :: gap n r
def poolList (es : List (Nat × CpInfo)) (last : Nat) : List CpInfo := es.foldr (fun e r => gap e.1 (e.2 :: r)) (gap last [])
def pool (es : List (Nat × CpInfo)) (last : Nat) : Array CpInfo := ⟨poolList es last⟩
def fileOf (pool : Array CpInfo) (this : Nat) (attrs : Array Attribute := #[]) (ms : Array MethodInfo := #[]) (fl : Nat := 33) (sup : Nat := 0) (ifs : Array Nat := #[]) (fds : Array FieldInfo := #[]) : ClassFile where
  minorVersion := 0
  majorVersion := 65
  constantPool := pool
  accessFlags := fl
  thisClass := this
  superClass := sup
  interfaces := ifs
  fields := fds
  methods := ms
  attributes := attrs
def plain (name : String) (sup : Option ClassId) : Class where
  name := name
  kind := .ordinary
  loader := none
  accessFlags := 33
  super := sup
  interfaces := #[]
  cf := none
  fields := #[]
  methods := #[]
  instanceTypes := #[]
  staticTypes := #[]
  resolved := #[]
  callSites := []
  init := .initialized
  statics := none
  mirror := none

def pool0 : Array CpInfo := pool [(5, u "<init>"), (0, u "()V"), (1, .class_ 10), (1, u "java/lang/Object")] 113

def k0c0 : Code := { maxStack := 0, maxLocals := 1, code := object_method_1_code, exceptionTable := #[], attributes := #[] }
def k0m0 : Method := { name := "<init>", desc := "()V", sig := { parameters := [], returnType := none }, accessFlags := 1, code := some k0c0 }
/-- java/lang/Object -/
def k0 : Class := { plain "java/lang/Object" none with
  accessFlags := 33
  interfaces := #[]
  cf := some (fileOf pool0 8 #[] #[{ accessFlags := 1, nameIndex := 5, descriptorIndex := 6, attributes := #[] }] 33 0 #[] #[])
  fields := #[]
  methods := #[k0m0]
  instanceTypes := #[]
  staticTypes := #[]
  resolved := Array.replicate 124 none
  statics := none }

def pool1 : Array CpInfo := pool [(2, .class_ 4), (1, u "java/lang/Object"), (0, u "<init>"), (0, u "()V"), (0, .long 65535), (1, .methodref 10 11), (0, .class_ 12), (0, .nameAndType 13 14), (0, u "com/example/prewrm/prewrm/io/CsvFieldsIsUnsignedDecimalPinLaw"), (0, u "pick"), (0, u "(IZ)C"), (0, .integer 2147483647), (0, .class_ 17), (0, u "java/lang/String"), (0, .methodref 16 19), (0, .nameAndType 5 20), (0, u "([C)V"), (0, .methodref 10 22), (0, .nameAndType 23 24), (0, u "step"), (0, u "(ICZ)I"), (0, .methodref 26 27), (0, .class_ 28), (0, .nameAndType 29 30), (0, u "com/example/prewrm/prewrm/io/CsvFields"), (0, u "isUnsignedDecimal"), (0, u "(Ljava/lang/String;I)Z"), (0, .methodref 10 32), (0, .nameAndType 33 34), (0, u "isDigit"), (0, u "(C)Z"), (2, u "law"), (0, u "(JJI)Z")] 5

def k1m0 : Method := { name := "<init>", desc := "()V", sig := { parameters := [], returnType := none }, accessFlags := 1, code := none }
def k1c1 : Code := { maxStack := 7, maxLocals := 10, code := code, exceptionTable := #[], attributes := #[] }
def k1m1 : Method := { name := "law", desc := "(JJI)Z", sig := { parameters := [.long, .long, .int], returnType := some .boolean }, accessFlags := 9, code := some k1c1 }
def k1c2 : Code := { maxStack := 4, maxLocals := 3, code := method_3_code, exceptionTable := #[], attributes := #[] }
def k1m2 : Method := { name := "pick", desc := "(IZ)C", sig := { parameters := [.int, .boolean], returnType := some .char }, accessFlags := 10, code := some k1c2 }
def k1c3 : Code := { maxStack := 2, maxLocals := 1, code := method_4_code, exceptionTable := #[], attributes := #[] }
def k1m3 : Method := { name := "isDigit", desc := "(C)Z", sig := { parameters := [.char], returnType := some .boolean }, accessFlags := 10, code := some k1c3 }
def k1c4 : Code := { maxStack := 2, maxLocals := 5, code := method_5_code, exceptionTable := #[], attributes := #[] }
def k1m4 : Method := { name := "step", desc := "(ICZ)I", sig := { parameters := [.int, .char, .boolean], returnType := some .int }, accessFlags := 10, code := some k1c4 }
/-- com/example/prewrm/prewrm/io/CsvFieldsIsUnsignedDecimalPinLaw -/
def k1 : Class := { plain "com/example/prewrm/prewrm/io/CsvFieldsIsUnsignedDecimalPinLaw" (some 0) with
  accessFlags := 49
  interfaces := #[]
  cf := some (fileOf pool1 10 #[] #[{ accessFlags := 1, nameIndex := 5, descriptorIndex := 6, attributes := #[] }, { accessFlags := 9, nameIndex := 37, descriptorIndex := 38, attributes := #[] }, { accessFlags := 10, nameIndex := 13, descriptorIndex := 14, attributes := #[] }, { accessFlags := 10, nameIndex := 33, descriptorIndex := 34, attributes := #[] }, { accessFlags := 10, nameIndex := 23, descriptorIndex := 24, attributes := #[] }] 49 2 #[] #[])
  fields := #[]
  methods := #[k1m0, k1m1, k1m2, k1m3, k1m4]
  instanceTypes := #[]
  staticTypes := #[]
  resolved := Array.replicate 44 none
  statics := none }

def pool2 : Array CpInfo := pool [(1, .class_ 2), (0, u "java/io/Serializable"), (0, .class_ 4), (0, u "java/lang/Object")] 2

/-- java/io/Serializable -/
def k2 : Class := { plain "java/io/Serializable" (some 0) with
  accessFlags := 1537
  interfaces := #[]
  cf := some (fileOf pool2 1 #[] #[] 1537 3 #[] #[])
  fields := #[]
  methods := #[]
  instanceTypes := #[]
  staticTypes := #[]
  resolved := Array.replicate 7 none
  statics := none }

def pool3 : Array CpInfo := pool [(1, .class_ 2), (0, u "java/lang/Comparable"), (0, .class_ 4), (0, u "java/lang/Object")] 7

/-- java/lang/Comparable -/
def k3 : Class := { plain "java/lang/Comparable" (some 0) with
  accessFlags := 1537
  interfaces := #[]
  cf := some (fileOf pool3 1 #[] #[] 1537 3 #[] #[])
  fields := #[]
  methods := #[]
  instanceTypes := #[]
  staticTypes := #[]
  resolved := Array.replicate 12 none
  statics := none }

def pool4 : Array CpInfo := pool [(2, .class_ 4), (1, u "java/lang/CharSequence"), (42, .class_ 48), (0, u "java/lang/CharSequence$1CodePointIterator"), (10, .class_ 60), (0, u "java/lang/CharSequence$1CharIterator"), (5, .class_ 67), (0, u "java/lang/Object")] 63

/-- java/lang/CharSequence -/
def k4 : Class := { plain "java/lang/CharSequence" (some 0) with
  accessFlags := 1537
  interfaces := #[]
  cf := some (fileOf pool4 2 #[.nestMembers #[47, 59]] #[] 1537 66 #[] #[])
  fields := #[]
  methods := #[]
  instanceTypes := #[]
  staticTypes := #[]
  resolved := Array.replicate 131 none
  statics := none }

def pool5 : Array CpInfo := pool [(1, .class_ 2), (0, u "java/lang/constant/Constable"), (0, .class_ 4), (0, u "java/lang/Object")] 6

/-- java/lang/constant/Constable -/
def k5 : Class := { plain "java/lang/constant/Constable" (some 0) with
  accessFlags := 1537
  interfaces := #[]
  cf := some (fileOf pool5 1 #[] #[] 1537 3 #[] #[])
  fields := #[]
  methods := #[]
  instanceTypes := #[]
  staticTypes := #[]
  resolved := Array.replicate 11 none
  statics := none }

def pool6 : Array CpInfo := pool [(1, .class_ 2), (0, u "java/lang/constant/ConstantDesc"), (0, .class_ 4), (0, u "java/lang/Object")] 32

/-- java/lang/constant/ConstantDesc -/
def k6 : Class := { plain "java/lang/constant/ConstantDesc" (some 0) with
  accessFlags := 1537
  interfaces := #[]
  cf := some (fileOf pool6 1 #[] #[] 1537 3 #[] #[])
  fields := #[]
  methods := #[]
  instanceTypes := #[]
  staticTypes := #[]
  resolved := Array.replicate 37 none
  statics := none }

def pool7 : Array CpInfo := pool [(1, .methodref 2 3), (0, .class_ 4), (0, .nameAndType 5 6), (0, u "java/lang/Object"), (0, u "<init>"), (0, u "()V"), (2, .fieldref 10 11), (0, .class_ 12), (0, .nameAndType 13 14), (0, u "java/lang/String"), (0, u "value"), (0, u "[B"), (0, .fieldref 10 16), (0, .nameAndType 17 18), (0, u "coder"), (0, u "B"), (2, u "hash"), (0, u "I"), (2, u "hashIsZero"), (0, u "Z"), (0, .methodref 10 28), (0, .nameAndType 5 29), (0, u "([CIILjava/lang/Void;)V"), (8, .fieldref 10 39), (0, .nameAndType 40 26), (0, u "COMPACT_STRINGS"), (1, .class_ 44), (1, u "java/lang/StringUTF16"), (0, u "compress"), (1, .methodref 42 48), (0, .nameAndType 49 50), (0, u "coderFromArrayLen"), (0, u "([BI)B"), (56, .class_ 109), (1, u "java/lang/StringLatin1"), (32, u "()Z"), (34, .methodref 42 178), (0, .nameAndType 45 179), (0, u "([CII)[B"), (154, u "()I"), (0, .methodref 10 336), (0, .nameAndType 17 337), (0, u "()B"), (25, u "([BI)C"), (27, u "(II)V"), (35, u "(I)C"), (64, .methodref 10 493), (0, .nameAndType 494 142), (0, u "isLatin1"), (0, .methodref 107 496), (0, .nameAndType 497 363), (0, u "charAt"), (0, .methodref 42 496), (2, u "checkIndex"), (5, u "length"), (67, .class_ 576), (0, u "java/lang/CharSequence"), (22, u "CASE_INSENSITIVE_ORDER"), (0, u "Ljava/util/Comparator;"), (409, u "([C)V"), (42, .fieldref 1054 1055), (0, .class_ 1056), (0, .nameAndType 1057 1058), (0, u "jdk/internal/util/Preconditions"), (0, u "SIOOBE_FORMATTER"), (0, u "Ljava/util/function/BiFunction;"), (0, .methodref 1054 1060), (0, .nameAndType 501 1061), (0, u "(IILjava/util/function/BiFunction;)I"), (39, u "serialPersistentFields"), (0, u "[Ljava/io/ObjectStreamField;"), (0, .class_ 1104), (0, u "java/lang/String$CaseInsensitiveComparator"), (1, .class_ 1107), (0, u "java/io/Serializable"), (0, .class_ 1109), (0, u "java/lang/Comparable"), (0, .class_ 1111), (0, u "java/lang/constant/Constable"), (0, .class_ 1113), (0, u "java/lang/constant/ConstantDesc"), (2, u "serialVersionUID"), (0, u "J"), (3, u "REPL"), (0, u "C"), (2, u "LATIN1"), (1, u "UTF16")] 323

def k7m0 : Method := { name := "<init>", desc := "()V", sig := { parameters := [], returnType := none }, accessFlags := 1, code := none }
def k7c1 : Code := { maxStack := 5, maxLocals := 2, code := jdk_42_method_3_code, exceptionTable := #[], attributes := #[] }
def k7m1 : Method := { name := "<init>", desc := "([C)V", sig := { parameters := [(.array .char)], returnType := none }, accessFlags := 1, code := some k7c1 }
def k7c2 : Code := { maxStack := 2, maxLocals := 1, code := jdk_42_method_54_code, exceptionTable := #[], attributes := #[] }
def k7m2 : Method := { name := "length", desc := "()I", sig := { parameters := [], returnType := some .int }, accessFlags := 1, code := some k7c2 }
def k7c3 : Code := { maxStack := 2, maxLocals := 2, code := jdk_42_method_56_code, exceptionTable := #[], attributes := #[] }
def k7m3 : Method := { name := "charAt", desc := "(I)C", sig := { parameters := [.int], returnType := some .char }, accessFlags := 1, code := some k7c3 }
def k7c4 : Code := { maxStack := 4, maxLocals := 6, code := jdk_42_method_149_code, exceptionTable := #[], attributes := #[] }
def k7m4 : Method := { name := "<init>", desc := "([CIILjava/lang/Void;)V", sig := { parameters := [(.array .char), .int, .int, (.object "java/lang/Void")], returnType := none }, accessFlags := 2, code := some k7c4 }
def k7c5 : Code := { maxStack := 1, maxLocals := 1, code := jdk_42_method_152_code, exceptionTable := #[], attributes := #[] }
def k7m5 : Method := { name := "coder", desc := "()B", sig := { parameters := [], returnType := some .byte }, accessFlags := 0, code := some k7c5 }
def k7c6 : Code := { maxStack := 1, maxLocals := 1, code := jdk_42_method_154_code, exceptionTable := #[], attributes := #[] }
def k7m6 : Method := { name := "isLatin1", desc := "()Z", sig := { parameters := [], returnType := some .boolean }, accessFlags := 0, code := some k7c6 }
def k7c7 : Code := { maxStack := 3, maxLocals := 2, code := jdk_42_method_155_code, exceptionTable := #[], attributes := #[] }
def k7m7 : Method := { name := "checkIndex", desc := "(II)V", sig := { parameters := [.int, .int], returnType := none }, accessFlags := 8, code := some k7c7 }
/-- java/lang/String -/
def k7 : Class := { plain "java/lang/String" (some 0) with
  accessFlags := 49
  interfaces := #[2, 3, 4, 5, 6]
  cf := some (fileOf pool7 10 #[.nestMembers #[1103]] #[{ accessFlags := 1, nameIndex := 5, descriptorIndex := 6, attributes := #[] }, { accessFlags := 1, nameIndex := 5, descriptorIndex := 1010, attributes := #[] }, { accessFlags := 1, nameIndex := 507, descriptorIndex := 334, attributes := #[] }, { accessFlags := 1, nameIndex := 497, descriptorIndex := 427, attributes := #[] }, { accessFlags := 2, nameIndex := 5, descriptorIndex := 29, attributes := #[] }, { accessFlags := 0, nameIndex := 17, descriptorIndex := 337, attributes := #[] }, { accessFlags := 0, nameIndex := 494, descriptorIndex := 142, attributes := #[] }, { accessFlags := 8, nameIndex := 501, descriptorIndex := 391, attributes := #[] }] 49 2 #[1106, 1108, 575, 1110, 1112] #[{ accessFlags := 18, nameIndex := 13, descriptorIndex := 14, attributes := #[] }, { accessFlags := 18, nameIndex := 17, descriptorIndex := 18, attributes := #[] }, { accessFlags := 2, nameIndex := 21, descriptorIndex := 22, attributes := #[] }, { accessFlags := 2, nameIndex := 25, descriptorIndex := 26, attributes := #[] }, { accessFlags := 26, nameIndex := 1116, descriptorIndex := 1117, attributes := #[] }, { accessFlags := 24, nameIndex := 40, descriptorIndex := 26, attributes := #[] }, { accessFlags := 26, nameIndex := 1101, descriptorIndex := 1102, attributes := #[] }, { accessFlags := 26, nameIndex := 1121, descriptorIndex := 1122, attributes := #[] }, { accessFlags := 25, nameIndex := 599, descriptorIndex := 600, attributes := #[] }, { accessFlags := 24, nameIndex := 1125, descriptorIndex := 18, attributes := #[] }, { accessFlags := 24, nameIndex := 1127, descriptorIndex := 18, attributes := #[] }])
  fields := #[{ name := "value", type := (.array .byte), accessFlags := 18, slot := 0, constantValue := 0 }, { name := "coder", type := .byte, accessFlags := 18, slot := 1, constantValue := 0 }, { name := "hash", type := .int, accessFlags := 2, slot := 2, constantValue := 0 }, { name := "hashIsZero", type := .boolean, accessFlags := 2, slot := 3, constantValue := 0 }, { name := "serialVersionUID", type := .long, accessFlags := 26, slot := 0, constantValue := 0 }, { name := "COMPACT_STRINGS", type := .boolean, accessFlags := 24, slot := 1, constantValue := 0 }, { name := "serialPersistentFields", type := (.array (.object "java/io/ObjectStreamField")), accessFlags := 26, slot := 2, constantValue := 0 }, { name := "REPL", type := .char, accessFlags := 26, slot := 3, constantValue := 0 }, { name := "CASE_INSENSITIVE_ORDER", type := (.object "java/util/Comparator"), accessFlags := 25, slot := 4, constantValue := 0 }, { name := "LATIN1", type := .byte, accessFlags := 24, slot := 5, constantValue := 0 }, { name := "UTF16", type := .byte, accessFlags := 24, slot := 6, constantValue := 0 }]
  methods := #[k7m0, k7m1, k7m2, k7m3, k7m4, k7m5, k7m6, k7m7]
  instanceTypes := #[(.array .byte), .byte, .int, .boolean]
  staticTypes := #[.long, .boolean, (.array (.object "java/io/ObjectStreamField")), .char, (.object "java/util/Comparator"), .byte, .byte]
  resolved := Array.replicate 1451 none
  statics := some 0 }

def pool8 : Array CpInfo := pool [(3, .class_ 4), (0, u "java/lang/String"), (1, .class_ 8), (1, u "java/lang/Object"), (0, u "<init>"), (0, u "()V"), (0, .methodref 12 13), (0, .class_ 14), (0, .nameAndType 15 16), (0, u "java/lang/StringUTF16"), (0, u "newBytesLength"), (0, u "(I)I"), (3, .integer 1073741823), (23, .fieldref 12 45), (0, .nameAndType 46 47), (0, u "$assertionsDisabled"), (0, u "Z"), (0, .methodref 12 49), (0, .nameAndType 50 51), (0, u "length"), (0, u "([B)I"), (7, .fieldref 12 60), (0, .nameAndType 61 62), (0, u "HI_BYTE_SHIFT"), (0, u "I"), (0, .fieldref 12 64), (0, .nameAndType 65 62), (0, u "LO_BYTE_SHIFT"), (1, .methodref 12 68), (0, .nameAndType 69 70), (0, u "checkIndex"), (0, u "(I[B)V"), (0, .methodref 12 72), (0, .nameAndType 73 74), (0, u "getChar"), (0, u "([BI)C"), (32, .methodref 12 108), (0, .nameAndType 109 110), (0, u "newBytesFor"), (0, u "(I)[B"), (0, .methodref 12 112), (0, .nameAndType 113 114), (0, u "putChar"), (0, u "([BII)V"), (0, .methodref 12 116), (0, .nameAndType 117 118), (0, u "compress"), (0, u "([CI[BII)I"), (0, .methodref 12 120), (0, .nameAndType 121 122), (0, u "toBytes"), (0, u "([CII)[B"), (138, u "coderFromArrayLen"), (0, u "([BI)B"), (106, .class_ 371), (1, u "java/lang/StringUTF16$LinesSpliterator"), (20, u "charAt"), (21, .methodref 3 415), (0, .nameAndType 69 416), (0, u "(II)V"), (13, u "MAX_LENGTH"), (196, .class_ 628), (0, u "java/lang/StringUTF16$CodePointsSpliterator"), (0, .class_ 630), (0, u "java/lang/StringUTF16$CharsSpliterator")] 4

def k8m0 : Method := { name := "<init>", desc := "()V", sig := { parameters := [], returnType := none }, accessFlags := 0, code := none }
def k8c1 : Code := { maxStack := 1, maxLocals := 1, code := jdk_52_method_2_code, exceptionTable := #[], attributes := #[] }
def k8m1 : Method := { name := "newBytesFor", desc := "(I)[B", sig := { parameters := [.int], returnType := some (.array .byte) }, accessFlags := 9, code := some k8c1 }
def k8c2 : Code := { maxStack := 4, maxLocals := 1, code := jdk_52_method_3_code, exceptionTable := #[], attributes := #[] }
def k8m2 : Method := { name := "newBytesLength", desc := "(I)I", sig := { parameters := [.int], returnType := some .int }, accessFlags := 9, code := some k8c2 }
def k8c3 : Code := { maxStack := 4, maxLocals := 3, code := jdk_52_method_4_code, exceptionTable := #[], attributes := #[] }
def k8m3 : Method := { name := "putChar", desc := "([BII)V", sig := { parameters := [(.array .byte), .int, .int], returnType := none }, accessFlags := 8, code := some k8c3 }
def k8c4 : Code := { maxStack := 3, maxLocals := 2, code := jdk_52_method_5_code, exceptionTable := #[], attributes := #[] }
def k8m4 : Method := { name := "getChar", desc := "([BI)C", sig := { parameters := [(.array .byte), .int], returnType := some .char }, accessFlags := 8, code := some k8c4 }
def k8c5 : Code := { maxStack := 2, maxLocals := 1, code := jdk_52_method_6_code, exceptionTable := #[], attributes := #[] }
def k8m5 : Method := { name := "length", desc := "([B)I", sig := { parameters := [(.array .byte)], returnType := some .int }, accessFlags := 9, code := some k8c5 }
def k8c6 : Code := { maxStack := 4, maxLocals := 5, code := jdk_52_method_14_code, exceptionTable := #[], attributes := #[] }
def k8m6 : Method := { name := "toBytes", desc := "([CII)[B", sig := { parameters := [(.array .char), .int, .int], returnType := some (.array .byte) }, accessFlags := 9, code := some k8c6 }
def k8c7 : Code := { maxStack := 2, maxLocals := 2, code := jdk_52_method_15_code, exceptionTable := #[], attributes := #[] }
def k8m7 : Method := { name := "coderFromArrayLen", desc := "([BI)B", sig := { parameters := [(.array .byte), .int], returnType := some .byte }, accessFlags := 8, code := some k8c7 }
def k8c8 : Code := { maxStack := 5, maxLocals := 6, code := jdk_52_method_16_code, exceptionTable := #[], attributes := #[] }
def k8m8 : Method := { name := "compress", desc := "([CII)[B", sig := { parameters := [(.array .char), .int, .int], returnType := some (.array .byte) }, accessFlags := 9, code := some k8c8 }
def k8c9 : Code := { maxStack := 3, maxLocals := 7, code := jdk_52_method_21_code, exceptionTable := #[], attributes := #[] }
def k8m9 : Method := { name := "compress", desc := "([CI[BII)I", sig := { parameters := [(.array .char), .int, (.array .byte), .int, .int], returnType := some .int }, accessFlags := 9, code := some k8c9 }
def k8c10 : Code := { maxStack := 2, maxLocals := 2, code := jdk_52_method_83_code, exceptionTable := #[], attributes := #[] }
def k8m10 : Method := { name := "charAt", desc := "([BI)C", sig := { parameters := [(.array .byte), .int], returnType := some .char }, accessFlags := 9, code := some k8c10 }
def k8c11 : Code := { maxStack := 2, maxLocals := 2, code := jdk_52_method_91_code, exceptionTable := #[], attributes := #[] }
def k8m11 : Method := { name := "checkIndex", desc := "(I[B)V", sig := { parameters := [.int, (.array .byte)], returnType := none }, accessFlags := 9, code := some k8c11 }
/-- java/lang/StringUTF16 -/
def k8 : Class := { plain "java/lang/StringUTF16" (some 0) with
  accessFlags := 48
  interfaces := #[]
  cf := some (fileOf pool8 12 #[.nestMembers #[627, 629, 369]] #[{ accessFlags := 0, nameIndex := 9, descriptorIndex := 10, attributes := #[] }, { accessFlags := 9, nameIndex := 109, descriptorIndex := 110, attributes := #[] }, { accessFlags := 9, nameIndex := 15, descriptorIndex := 16, attributes := #[] }, { accessFlags := 8, nameIndex := 113, descriptorIndex := 114, attributes := #[] }, { accessFlags := 8, nameIndex := 73, descriptorIndex := 74, attributes := #[] }, { accessFlags := 9, nameIndex := 50, descriptorIndex := 51, attributes := #[] }, { accessFlags := 9, nameIndex := 121, descriptorIndex := 122, attributes := #[] }, { accessFlags := 8, nameIndex := 261, descriptorIndex := 262, attributes := #[] }, { accessFlags := 9, nameIndex := 117, descriptorIndex := 122, attributes := #[] }, { accessFlags := 9, nameIndex := 117, descriptorIndex := 118, attributes := #[] }, { accessFlags := 9, nameIndex := 392, descriptorIndex := 74, attributes := #[] }, { accessFlags := 9, nameIndex := 69, descriptorIndex := 70, attributes := #[] }] 48 6 #[] #[{ accessFlags := 26, nameIndex := 61, descriptorIndex := 62, attributes := #[] }, { accessFlags := 26, nameIndex := 65, descriptorIndex := 62, attributes := #[] }, { accessFlags := 24, nameIndex := 430, descriptorIndex := 62, attributes := #[] }, { accessFlags := 4120, nameIndex := 46, descriptorIndex := 47, attributes := #[] }])
  fields := #[{ name := "HI_BYTE_SHIFT", type := .int, accessFlags := 26, slot := 0, constantValue := 0 }, { name := "LO_BYTE_SHIFT", type := .int, accessFlags := 26, slot := 1, constantValue := 0 }, { name := "MAX_LENGTH", type := .int, accessFlags := 24, slot := 2, constantValue := 0 }, { name := "$assertionsDisabled", type := .boolean, accessFlags := 4120, slot := 3, constantValue := 0 }]
  methods := #[k8m0, k8m1, k8m2, k8m3, k8m4, k8m5, k8m6, k8m7, k8m8, k8m9, k8m10, k8m11]
  instanceTypes := #[]
  staticTypes := #[.int, .int, .int, .boolean]
  resolved := Array.replicate 635 none
  statics := some 1 }

def pool9 : Array CpInfo := pool [(2, .class_ 4), (1, u "java/lang/Object"), (0, u "<init>"), (0, u "()V"), (1, .class_ 10), (1, u "java/lang/String"), (6, .class_ 19), (1, u "com/example/prewrm/prewrm/io/CsvFields"), (34, .methodref 17 55), (0, .nameAndType 56 57), (0, u "digitsEnd"), (0, u "(Ljava/lang/String;I)I"), (0, .methodref 8 59), (0, .nameAndType 60 61), (0, u "length"), (0, u "()I"), (0, .methodref 8 63), (0, .nameAndType 64 65), (0, u "charAt"), (0, u "(I)C"), (38, u "isUnsignedDecimal"), (0, u "(Ljava/lang/String;I)Z")] 21

def k9m0 : Method := { name := "<init>", desc := "()V", sig := { parameters := [], returnType := none }, accessFlags := 2, code := none }
def k9c1 : Code := { maxStack := 3, maxLocals := 6, code := prog_2_method_5_code, exceptionTable := #[], attributes := #[] }
def k9m1 : Method := { name := "isUnsignedDecimal", desc := "(Ljava/lang/String;I)Z", sig := { parameters := [(.object "java/lang/String"), .int], returnType := some .boolean }, accessFlags := 9, code := some k9c1 }
def k9c2 : Code := { maxStack := 2, maxLocals := 3, code := prog_2_method_8_code, exceptionTable := #[], attributes := #[] }
def k9m2 : Method := { name := "digitsEnd", desc := "(Ljava/lang/String;I)I", sig := { parameters := [(.object "java/lang/String"), .int], returnType := some .int }, accessFlags := 10, code := some k9c2 }
/-- com/example/prewrm/prewrm/io/CsvFields -/
def k9 : Class := { plain "com/example/prewrm/prewrm/io/CsvFields" (some 0) with
  accessFlags := 33
  interfaces := #[]
  cf := some (fileOf pool9 17 #[] #[{ accessFlags := 2, nameIndex := 5, descriptorIndex := 6, attributes := #[] }, { accessFlags := 9, nameIndex := 104, descriptorIndex := 105, attributes := #[] }, { accessFlags := 10, nameIndex := 56, descriptorIndex := 57, attributes := #[] }] 33 2 #[] #[])
  fields := #[]
  methods := #[k9m0, k9m1, k9m2]
  instanceTypes := #[]
  staticTypes := #[]
  resolved := Array.replicate 127 none
  statics := none }

def pool10 : Array CpInfo := pool [(1, .class_ 2), (0, u "java/lang/String"), (1, .class_ 6), (1, u "java/lang/Object"), (0, u "<init>"), (0, u "()V"), (0, .methodref 1 10), (0, .nameAndType 11 12), (0, u "checkIndex"), (0, u "(II)V"), (1, .class_ 16), (1, u "java/lang/StringLatin1"), (36, u "([BI)C"), (67, u "$assertionsDisabled"), (0, u "Z"), (98, .class_ 223), (1, u "java/lang/StringLatin1$LinesSpliterator"), (28, u "charAt"), (137, .class_ 391), (0, u "java/lang/StringLatin1$CharsSpliterator")] 3

def k10m0 : Method := { name := "<init>", desc := "()V", sig := { parameters := [], returnType := none }, accessFlags := 0, code := none }
def k10c1 : Code := { maxStack := 2, maxLocals := 2, code := jdk_43_method_2_code, exceptionTable := #[], attributes := #[] }
def k10m1 : Method := { name := "charAt", desc := "([BI)C", sig := { parameters := [(.array .byte), .int], returnType := some .char }, accessFlags := 9, code := some k10c1 }
/-- java/lang/StringLatin1 -/
def k10 : Class := { plain "java/lang/StringLatin1" (some 0) with
  accessFlags := 48
  interfaces := #[]
  cf := some (fileOf pool10 14 #[.nestMembers #[390, 221]] #[{ accessFlags := 0, nameIndex := 7, descriptorIndex := 8, attributes := #[] }, { accessFlags := 9, nameIndex := 252, descriptorIndex := 53, attributes := #[] }] 48 4 #[] #[{ accessFlags := 4120, nameIndex := 121, descriptorIndex := 122, attributes := #[] }])
  fields := #[{ name := "$assertionsDisabled", type := .boolean, accessFlags := 4120, slot := 0, constantValue := 0 }]
  methods := #[k10m0, k10m1]
  instanceTypes := #[]
  staticTypes := #[.boolean]
  resolved := Array.replicate 395 none
  statics := none }

def pool11 : Array CpInfo := pool [(2, .class_ 4), (1, u "java/lang/Object"), (0, u "<init>"), (0, u "()V"), (17, .class_ 26), (1, u "jdk/internal/util/Preconditions"), (6, u "checkIndex"), (21, .class_ 56), (0, u "jdk/internal/util/Preconditions$4"), (57, .class_ 115), (0, u "jdk/internal/util/Preconditions$1"), (7, u "SIOOBE_FORMATTER"), (0, u "Ljava/util/function/BiFunction;"), (0, .class_ 126), (0, u "jdk/internal/util/Preconditions$2"), (3, u "AIOOBE_FORMATTER"), (0, .class_ 132), (0, u "jdk/internal/util/Preconditions$3"), (3, u "IOOBE_FORMATTER"), (41, u "(IILjava/util/function/BiFunction;)I")] 15

def k11m0 : Method := { name := "<init>", desc := "()V", sig := { parameters := [], returnType := none }, accessFlags := 1, code := none }
def k11c1 : Code := { maxStack := 3, maxLocals := 3, code := jdk_41_method_11_code, exceptionTable := #[], attributes := #[] }
def k11m1 : Method := { name := "checkIndex", desc := "(IILjava/util/function/BiFunction;)I", sig := { parameters := [.int, .int, (.object "java/util/function/BiFunction")], returnType := some .int }, accessFlags := 9, code := some k11c1 }
/-- jdk/internal/util/Preconditions -/
def k11 : Class := { plain "jdk/internal/util/Preconditions" (some 0) with
  accessFlags := 33
  interfaces := #[]
  cf := some (fileOf pool11 24 #[.nestMembers #[55, 131, 125, 114]] #[{ accessFlags := 1, nameIndex := 5, descriptorIndex := 6, attributes := #[] }, { accessFlags := 9, nameIndex := 33, descriptorIndex := 178, attributes := #[] }] 33 2 #[] #[{ accessFlags := 25, nameIndex := 123, descriptorIndex := 124, attributes := #[] }, { accessFlags := 25, nameIndex := 130, descriptorIndex := 124, attributes := #[] }, { accessFlags := 25, nameIndex := 136, descriptorIndex := 124, attributes := #[] }])
  fields := #[{ name := "SIOOBE_FORMATTER", type := (.object "java/util/function/BiFunction"), accessFlags := 25, slot := 0, constantValue := 0 }, { name := "AIOOBE_FORMATTER", type := (.object "java/util/function/BiFunction"), accessFlags := 25, slot := 1, constantValue := 0 }, { name := "IOOBE_FORMATTER", type := (.object "java/util/function/BiFunction"), accessFlags := 25, slot := 2, constantValue := 0 }]
  methods := #[k11m0, k11m1]
  instanceTypes := #[]
  staticTypes := #[(.object "java/util/function/BiFunction"), (.object "java/util/function/BiFunction"), (.object "java/util/function/BiFunction")]
  resolved := Array.replicate 194 none
  statics := some 2 }

def pool12 : Array CpInfo := pool [(9, u "<init>"), (6, .class_ 18), (1, u "java/lang/Object"), (0, u "()V"), (1, .class_ 23), (1, u "jdk/internal/util/ArraysSupport"), (0, u "LOG2_ARRAY_LONG_INDEX_SCALE"), (0, u "I"), (2, u "U"), (0, u "Ljdk/internal/misc/Unsafe;"), (8, u "BIG_ENDIAN"), (0, u "Z"), (8, u "LOG2_BYTE_BIT_SIZE"), (4, u "LOG2_ARRAY_INT_INDEX_SCALE"), (54, u "JLA"), (0, u "Ljdk/internal/access/JavaLangAccess;"), (11, u "LOG2_ARRAY_BOOLEAN_INDEX_SCALE"), (9, u "LOG2_ARRAY_BYTE_INDEX_SCALE"), (5, u "LOG2_ARRAY_CHAR_INDEX_SCALE"), (5, u "LOG2_ARRAY_SHORT_INDEX_SCALE"), (18, u "LOG2_ARRAY_FLOAT_INDEX_SCALE"), (24, u "LOG2_ARRAY_DOUBLE_INDEX_SCALE"), (89, u "T_BOOLEAN"), (2, u "T_CHAR"), (1, u "T_FLOAT"), (1, u "T_DOUBLE"), (1, u "T_BYTE"), (1, u "T_SHORT"), (1, u "T_INT"), (1, u "T_LONG"), (1, u "SOFT_MAX_ARRAY_LENGTH")] 83

def k12m0 : Method := { name := "<init>", desc := "()V", sig := { parameters := [], returnType := none }, accessFlags := 2, code := none }
/-- jdk/internal/util/ArraysSupport -/
def k12 : Class := { plain "jdk/internal/util/ArraysSupport" (some 0) with
  accessFlags := 33
  interfaces := #[]
  cf := some (fileOf pool12 21 #[] #[{ accessFlags := 2, nameIndex := 9, descriptorIndex := 19, attributes := #[] }] 33 16 #[] #[{ accessFlags := 24, nameIndex := 28, descriptorIndex := 29, attributes := #[] }, { accessFlags := 26, nameIndex := 38, descriptorIndex := 39, attributes := #[] }, { accessFlags := 25, nameIndex := 121, descriptorIndex := 25, attributes := #[] }, { accessFlags := 25, nameIndex := 131, descriptorIndex := 25, attributes := #[] }, { accessFlags := 25, nameIndex := 137, descriptorIndex := 25, attributes := #[] }, { accessFlags := 25, nameIndex := 143, descriptorIndex := 25, attributes := #[] }, { accessFlags := 25, nameIndex := 53, descriptorIndex := 25, attributes := #[] }, { accessFlags := 25, nameIndex := 24, descriptorIndex := 25, attributes := #[] }, { accessFlags := 25, nameIndex := 162, descriptorIndex := 25, attributes := #[] }, { accessFlags := 25, nameIndex := 187, descriptorIndex := 25, attributes := #[] }, { accessFlags := 26, nameIndex := 48, descriptorIndex := 25, attributes := #[] }, { accessFlags := 25, nameIndex := 277, descriptorIndex := 25, attributes := #[] }, { accessFlags := 25, nameIndex := 280, descriptorIndex := 25, attributes := #[] }, { accessFlags := 25, nameIndex := 282, descriptorIndex := 25, attributes := #[] }, { accessFlags := 25, nameIndex := 284, descriptorIndex := 25, attributes := #[] }, { accessFlags := 25, nameIndex := 286, descriptorIndex := 25, attributes := #[] }, { accessFlags := 25, nameIndex := 288, descriptorIndex := 25, attributes := #[] }, { accessFlags := 25, nameIndex := 290, descriptorIndex := 25, attributes := #[] }, { accessFlags := 25, nameIndex := 292, descriptorIndex := 25, attributes := #[] }, { accessFlags := 26, nameIndex := 108, descriptorIndex := 109, attributes := #[] }, { accessFlags := 25, nameIndex := 294, descriptorIndex := 25, attributes := #[] }])
  fields := #[{ name := "U", type := (.object "jdk/internal/misc/Unsafe"), accessFlags := 24, slot := 0, constantValue := 0 }, { name := "BIG_ENDIAN", type := .boolean, accessFlags := 26, slot := 1, constantValue := 0 }, { name := "LOG2_ARRAY_BOOLEAN_INDEX_SCALE", type := .int, accessFlags := 25, slot := 2, constantValue := 0 }, { name := "LOG2_ARRAY_BYTE_INDEX_SCALE", type := .int, accessFlags := 25, slot := 3, constantValue := 0 }, { name := "LOG2_ARRAY_CHAR_INDEX_SCALE", type := .int, accessFlags := 25, slot := 4, constantValue := 0 }, { name := "LOG2_ARRAY_SHORT_INDEX_SCALE", type := .int, accessFlags := 25, slot := 5, constantValue := 0 }, { name := "LOG2_ARRAY_INT_INDEX_SCALE", type := .int, accessFlags := 25, slot := 6, constantValue := 0 }, { name := "LOG2_ARRAY_LONG_INDEX_SCALE", type := .int, accessFlags := 25, slot := 7, constantValue := 0 }, { name := "LOG2_ARRAY_FLOAT_INDEX_SCALE", type := .int, accessFlags := 25, slot := 8, constantValue := 0 }, { name := "LOG2_ARRAY_DOUBLE_INDEX_SCALE", type := .int, accessFlags := 25, slot := 9, constantValue := 0 }, { name := "LOG2_BYTE_BIT_SIZE", type := .int, accessFlags := 26, slot := 10, constantValue := 0 }, { name := "T_BOOLEAN", type := .int, accessFlags := 25, slot := 11, constantValue := 0 }, { name := "T_CHAR", type := .int, accessFlags := 25, slot := 12, constantValue := 0 }, { name := "T_FLOAT", type := .int, accessFlags := 25, slot := 13, constantValue := 0 }, { name := "T_DOUBLE", type := .int, accessFlags := 25, slot := 14, constantValue := 0 }, { name := "T_BYTE", type := .int, accessFlags := 25, slot := 15, constantValue := 0 }, { name := "T_SHORT", type := .int, accessFlags := 25, slot := 16, constantValue := 0 }, { name := "T_INT", type := .int, accessFlags := 25, slot := 17, constantValue := 0 }, { name := "T_LONG", type := .int, accessFlags := 25, slot := 18, constantValue := 0 }, { name := "JLA", type := (.object "jdk/internal/access/JavaLangAccess"), accessFlags := 26, slot := 19, constantValue := 0 }, { name := "SOFT_MAX_ARRAY_LENGTH", type := .int, accessFlags := 25, slot := 20, constantValue := 0 }]
  methods := #[k12m0]
  instanceTypes := #[]
  staticTypes := #[(.object "jdk/internal/misc/Unsafe"), .boolean, .int, .int, .int, .int, .int, .int, .int, .int, .int, .int, .int, .int, .int, .int, .int, .int, .int, (.object "jdk/internal/access/JavaLangAccess"), .int]
  resolved := Array.replicate 378 none
  statics := none }

def pool13 : Array CpInfo := pool [(1, u "java/lang/Cloneable"), (0, .class_ 1), (0, u "java/lang/Object"), (0, .class_ 3)] 3

/-- java/lang/Cloneable -/
def k13 : Class := { plain "java/lang/Cloneable" (some 0) with
  accessFlags := 1537
  interfaces := #[]
  cf := some (fileOf pool13 2 #[] #[] 1537 4 #[] #[])
  fields := #[]
  methods := #[]
  instanceTypes := #[]
  staticTypes := #[]
  resolved := Array.replicate 8 none
  statics := none }

/-- the primitive byte -/
def k14 : Class := { plain "byte" none with kind := .primitive 'B', accessFlags := 0x411 }
/-- [B -/
def k15 : Class := { plain "[B" (some 0) with kind := .array 14 .byte, interfaces := #[13, 2], accessFlags := 1041 }

/-- the primitive char -/
def k16 : Class := { plain "char" none with kind := .primitive 'C', accessFlags := 0x411 }
/-- [C -/
def k17 : Class := { plain "[C" (some 0) with kind := .array 16 .char, interfaces := #[13, 2], accessFlags := 1041 }

/-- the primitive int -/
def k18 : Class := { plain "int" none with kind := .primitive 'I', accessFlags := 0x411 }
/-- [I -/
def k19 : Class := { plain "[I" (some 0) with kind := .array 18 .int, interfaces := #[13, 2], accessFlags := 1041 }

def heap : Heap := #[{ cls := 7, slots := #[.long 0, .int 1, .null, .int 0, .null, .int 0, .int 0], vm := .statics 7 },
  { cls := 8, slots := #[.int 0, .int 8, .int 0, .int 1], vm := .statics 8 },
  { cls := 11, slots := #[.null, .null, .null], vm := .statics 11 }]
def classes : Array Class := #[k0, k1, k2, k3, k4, k5, k6, k7, k8, k9, k10, k11, k12, k13, k14, k15, k16, k17, k18, k19]
def interned : List (Array UInt16 × Addr) := []
def slotsUsed : Nat := 14
def theMethod : MethodId := ⟨1, 1⟩
def args0 : Array Value := #[.long 14073748835532849, .long 3473457, .int 0]
def aboutOver (below : List Frame) : State where
  vm := { classes := classes, interned := interned.toArray }
  heap := heap
  slotsUsed := slotsUsed
  threads := #[{ frames := .invoking theMethod args0 :: below }]
def below0 : List Frame := [.native { method := ⟨0, 0⟩, args := #[] }]
def about1 : State := aboutOver below0
def p0 : Program := .bare "" "" ""
def e0 : Env := launch0.env 0 0 0
theorem w_frames : about1.frames = Frame.invoking theMethod args0 :: below0 := rfl
set_option maxRecDepth 65536 in
theorem w_args : argsFit about1.vm theMethod args0 = true := by decide +kernel
set_option maxRecDepth 65536 in
theorem w_heap : heapFits about1 = true := by decide +kernel
set_option maxRecDepth 65536 in
theorem w_runnable : about1.curStatus? = some .runnable := by decide +kernel
set_option maxRecDepth 65536 in
theorem w_alone : about1.alone = true := by decide +kernel
set_option maxRecDepth 65536 in
theorem w_named : about1.methodNamed? x = some theMethod := by decide +kernel
set_option maxRecDepth 65536 in
theorem w_hears : about1.hears theMethod below0 = true := by decide +kernel
set_option maxRecDepth 65536 in
theorem w_ripe : about1.ripe theMethod args0 below0 = true := by decide +kernel
theorem w_running : about1.status = .running := rfl
set_option maxRecDepth 65536 in
theorem w_room : about1.hasRoom e0.platform room_1 = true :=
  launch0.hasRoom_least _ room_1 (by decide +kernel) (by decide +kernel) (by decide +kernel) (by decide +kernel) (by decide +kernel) (by decide +kernel)
theorem allAtoms_all (ts : List Jvm.Cond) (a : Array Jvm.Value) (st : Jvm.State) : (allAtoms ts).before a st = ts.all (fun c => c.before a st) := by
  induction ts with
  | nil => rfl
  | cons c t ih =>
    show (Jvm.Cond.and c (allAtoms t)).before a st = _
    rw [Jvm.Cond.before_and, ih, List.all_cons]
def words1 : List Jvm.Cond := Jvm.Cond.code x code maxLocals ret :: tables_1
/-- a 'code' word, met by the world's own term for the bytes: nothing is compared byte by byte -/
theorem code_word {y : MethodName} {bytes : ByteArray} {mx : Nat} {rt : Option FieldType} {a : Array Value} {s : State} {m : MethodId} {meth : Method} {c : Code} (h1 : s.methodNamed? y = some m) (h2 : s.vm.method? m = some meth) (h3 : meth.code = some c) (h4 : c.code = bytes)
    (h5 : (c.maxLocals == mx && c.exceptionTable.isEmpty && decide (c.maxStack ≤ mostOperands) && decide (meth.sig.returnType = rt) && !meth.locks && decide (parseMethodDescriptor y.desc = some meth.sig)) = true) : (Jvm.Cond.code y bytes mx rt).before a s = true := by
  simp only [Bool.and_eq_true, beq_iff_eq, Bool.not_eq_true', decide_eq_true_eq] at h5
  obtain ⟨⟨⟨⟨⟨g1, g2⟩, g3⟩, g4⟩, g5⟩, g6⟩ := h5
  simp [Cond.before, Cond.holds, Cond.value, h1, h2, h3, h4, g1, g2, g3, g4, g5, g6]
def isCode : Jvm.Cond → Bool
  | .code _ _ _ _ => true
  | _ => false
theorem all_split {L : List Jvm.Cond} {P : Jvm.Cond → Bool} (h1 : L.all (fun c => isCode c || P c) = true) (h2 : ∀ c ∈ L.filter isCode, P c = true) : L.all P = true := by
  refine List.all_eq_true.mpr fun c hc => ?_
  have h := List.all_eq_true.mp h1 c hc
  rcases Bool.eq_false_or_eq_true (isCode c) with hi | hi
  · exact h2 c (List.mem_filter.mpr ⟨hc, hi⟩)
  · simpa [hi] using h
set_option maxRecDepth 65536 in
theorem w_c0 : (Jvm.Cond.code x code maxLocals ret).before args0 about1 = true := code_word (m := ⟨1, 1⟩) (meth := k1m1) (c := k1c1) (by decide +kernel) rfl rfl rfl (by decide +kernel)
set_option maxRecDepth 65536 in
theorem w_c1 : (Jvm.Cond.code ({ cls := "com/example/prewrm/prewrm/io/CsvFieldsIsUnsignedDecimalPinLaw", name := "pick", desc := "(IZ)C" } : Jvm.MethodName) method_3_code (3 : Nat) (Option.some Jvm.ClassFile.FieldType.char)).before args0 about1 = true := code_word (m := ⟨1, 2⟩) (meth := k1m2) (c := k1c2) (by decide +kernel) rfl rfl rfl (by decide +kernel)
set_option maxRecDepth 65536 in
theorem w_c2 : (Jvm.Cond.code ({ cls := "java/lang/String", name := "<init>", desc := "([C)V" } : Jvm.MethodName) jdk_42_method_3_code (2 : Nat) (Option.none : Option Jvm.ClassFile.FieldType)).before args0 about1 = true := code_word (m := ⟨7, 1⟩) (meth := k7m1) (c := k7c1) (by decide +kernel) rfl rfl rfl (by decide +kernel)
set_option maxRecDepth 65536 in
theorem w_c3 : (Jvm.Cond.code ({ cls := "java/lang/String", name := "<init>", desc := "([CIILjava/lang/Void;)V" } : Jvm.MethodName) jdk_42_method_149_code (6 : Nat) (Option.none : Option Jvm.ClassFile.FieldType)).before args0 about1 = true := code_word (m := ⟨7, 4⟩) (meth := k7m4) (c := k7c4) (by decide +kernel) rfl rfl rfl (by decide +kernel)
set_option maxRecDepth 65536 in
theorem w_c4 : (Jvm.Cond.code ({ cls := "java/lang/Object", name := "<init>", desc := "()V" } : Jvm.MethodName) object_method_1_code (1 : Nat) (Option.none : Option Jvm.ClassFile.FieldType)).before args0 about1 = true := code_word (m := ⟨0, 0⟩) (meth := k0m0) (c := k0c0) (by decide +kernel) rfl rfl rfl (by decide +kernel)
set_option maxRecDepth 65536 in
theorem w_c5 : (Jvm.Cond.code ({ cls := "java/lang/StringUTF16", name := "compress", desc := "([CII)[B" } : Jvm.MethodName) jdk_52_method_16_code (6 : Nat) (Option.some (Jvm.ClassFile.FieldType.array Jvm.ClassFile.FieldType.byte))).before args0 about1 = true := code_word (m := ⟨8, 8⟩) (meth := k8m8) (c := k8c8) (by decide +kernel) rfl rfl rfl (by decide +kernel)
set_option maxRecDepth 65536 in
theorem w_c6 : (Jvm.Cond.code ({ cls := "java/lang/StringUTF16", name := "compress", desc := "([CI[BII)I" } : Jvm.MethodName) jdk_52_method_21_code (7 : Nat) (Option.some Jvm.ClassFile.FieldType.int)).before args0 about1 = true := code_word (m := ⟨8, 9⟩) (meth := k8m9) (c := k8c9) (by decide +kernel) rfl rfl rfl (by decide +kernel)
set_option maxRecDepth 65536 in
theorem w_c7 : (Jvm.Cond.code ({ cls := "java/lang/StringUTF16", name := "coderFromArrayLen", desc := "([BI)B" } : Jvm.MethodName) jdk_52_method_15_code (2 : Nat) (Option.some Jvm.ClassFile.FieldType.byte)).before args0 about1 = true := code_word (m := ⟨8, 7⟩) (meth := k8m7) (c := k8c7) (by decide +kernel) rfl rfl rfl (by decide +kernel)
set_option maxRecDepth 65536 in
theorem w_c8 : (Jvm.Cond.code ({ cls := "com/example/prewrm/prewrm/io/CsvFieldsIsUnsignedDecimalPinLaw", name := "step", desc := "(ICZ)I" } : Jvm.MethodName) method_5_code (5 : Nat) (Option.some Jvm.ClassFile.FieldType.int)).before args0 about1 = true := code_word (m := ⟨1, 4⟩) (meth := k1m4) (c := k1c4) (by decide +kernel) rfl rfl rfl (by decide +kernel)
set_option maxRecDepth 65536 in
theorem w_c9 : (Jvm.Cond.code ({ cls := "com/example/prewrm/prewrm/io/CsvFieldsIsUnsignedDecimalPinLaw", name := "isDigit", desc := "(C)Z" } : Jvm.MethodName) method_4_code (1 : Nat) (Option.some Jvm.ClassFile.FieldType.boolean)).before args0 about1 = true := code_word (m := ⟨1, 3⟩) (meth := k1m3) (c := k1c3) (by decide +kernel) rfl rfl rfl (by decide +kernel)
set_option maxRecDepth 65536 in
theorem w_c10 : (Jvm.Cond.code ({ cls := "com/example/prewrm/prewrm/io/CsvFields", name := "isUnsignedDecimal", desc := "(Ljava/lang/String;I)Z" } : Jvm.MethodName) prog_2_method_5_code (6 : Nat) (Option.some Jvm.ClassFile.FieldType.boolean)).before args0 about1 = true := code_word (m := ⟨9, 1⟩) (meth := k9m1) (c := k9c1) (by decide +kernel) rfl rfl rfl (by decide +kernel)
set_option maxRecDepth 65536 in
theorem w_c11 : (Jvm.Cond.code ({ cls := "com/example/prewrm/prewrm/io/CsvFields", name := "digitsEnd", desc := "(Ljava/lang/String;I)I" } : Jvm.MethodName) prog_2_method_8_code (3 : Nat) (Option.some Jvm.ClassFile.FieldType.int)).before args0 about1 = true := code_word (m := ⟨9, 2⟩) (meth := k9m2) (c := k9c2) (by decide +kernel) rfl rfl rfl (by decide +kernel)
set_option maxRecDepth 65536 in
theorem w_c12 : (Jvm.Cond.code ({ cls := "java/lang/String", name := "length", desc := "()I" } : Jvm.MethodName) jdk_42_method_54_code (1 : Nat) (Option.some Jvm.ClassFile.FieldType.int)).before args0 about1 = true := code_word (m := ⟨7, 2⟩) (meth := k7m2) (c := k7c2) (by decide +kernel) rfl rfl rfl (by decide +kernel)
set_option maxRecDepth 65536 in
theorem w_c13 : (Jvm.Cond.code ({ cls := "java/lang/String", name := "coder", desc := "()B" } : Jvm.MethodName) jdk_42_method_152_code (1 : Nat) (Option.some Jvm.ClassFile.FieldType.byte)).before args0 about1 = true := code_word (m := ⟨7, 5⟩) (meth := k7m5) (c := k7c5) (by decide +kernel) rfl rfl rfl (by decide +kernel)
set_option maxRecDepth 65536 in
theorem w_c14 : (Jvm.Cond.code ({ cls := "java/lang/String", name := "charAt", desc := "(I)C" } : Jvm.MethodName) jdk_42_method_56_code (2 : Nat) (Option.some Jvm.ClassFile.FieldType.char)).before args0 about1 = true := code_word (m := ⟨7, 3⟩) (meth := k7m3) (c := k7c3) (by decide +kernel) rfl rfl rfl (by decide +kernel)
set_option maxRecDepth 65536 in
theorem w_c15 : (Jvm.Cond.code ({ cls := "java/lang/String", name := "isLatin1", desc := "()Z" } : Jvm.MethodName) jdk_42_method_154_code (1 : Nat) (Option.some Jvm.ClassFile.FieldType.boolean)).before args0 about1 = true := code_word (m := ⟨7, 6⟩) (meth := k7m6) (c := k7c6) (by decide +kernel) rfl rfl rfl (by decide +kernel)
set_option maxRecDepth 65536 in
theorem w_c16 : (Jvm.Cond.code ({ cls := "java/lang/StringLatin1", name := "charAt", desc := "([BI)C" } : Jvm.MethodName) jdk_43_method_2_code (2 : Nat) (Option.some Jvm.ClassFile.FieldType.char)).before args0 about1 = true := code_word (m := ⟨10, 1⟩) (meth := k10m1) (c := k10c1) (by decide +kernel) rfl rfl rfl (by decide +kernel)
set_option maxRecDepth 65536 in
theorem w_c17 : (Jvm.Cond.code ({ cls := "java/lang/String", name := "checkIndex", desc := "(II)V" } : Jvm.MethodName) jdk_42_method_155_code (2 : Nat) (Option.none : Option Jvm.ClassFile.FieldType)).before args0 about1 = true := code_word (m := ⟨7, 7⟩) (meth := k7m7) (c := k7c7) (by decide +kernel) rfl rfl rfl (by decide +kernel)
set_option maxRecDepth 65536 in
theorem w_c18 : (Jvm.Cond.code ({ cls := "jdk/internal/util/Preconditions", name := "checkIndex", desc := "(IILjava/util/function/BiFunction;)I" } : Jvm.MethodName) jdk_41_method_11_code (3 : Nat) (Option.some Jvm.ClassFile.FieldType.int)).before args0 about1 = true := code_word (m := ⟨11, 1⟩) (meth := k11m1) (c := k11c1) (by decide +kernel) rfl rfl rfl (by decide +kernel)
set_option maxRecDepth 65536 in
theorem w_c19 : (Jvm.Cond.code ({ cls := "java/lang/StringUTF16", name := "toBytes", desc := "([CII)[B" } : Jvm.MethodName) jdk_52_method_14_code (5 : Nat) (Option.some (Jvm.ClassFile.FieldType.array Jvm.ClassFile.FieldType.byte))).before args0 about1 = true := code_word (m := ⟨8, 6⟩) (meth := k8m6) (c := k8c6) (by decide +kernel) rfl rfl rfl (by decide +kernel)
set_option maxRecDepth 65536 in
theorem w_c20 : (Jvm.Cond.code ({ cls := "java/lang/StringUTF16", name := "newBytesFor", desc := "(I)[B" } : Jvm.MethodName) jdk_52_method_2_code (1 : Nat) (Option.some (Jvm.ClassFile.FieldType.array Jvm.ClassFile.FieldType.byte))).before args0 about1 = true := code_word (m := ⟨8, 1⟩) (meth := k8m1) (c := k8c1) (by decide +kernel) rfl rfl rfl (by decide +kernel)
set_option maxRecDepth 65536 in
theorem w_c21 : (Jvm.Cond.code ({ cls := "java/lang/StringUTF16", name := "newBytesLength", desc := "(I)I" } : Jvm.MethodName) jdk_52_method_3_code (1 : Nat) (Option.some Jvm.ClassFile.FieldType.int)).before args0 about1 = true := code_word (m := ⟨8, 2⟩) (meth := k8m2) (c := k8c2) (by decide +kernel) rfl rfl rfl (by decide +kernel)
set_option maxRecDepth 65536 in
theorem w_c22 : (Jvm.Cond.code ({ cls := "java/lang/StringUTF16", name := "putChar", desc := "([BII)V" } : Jvm.MethodName) jdk_52_method_4_code (3 : Nat) (Option.none : Option Jvm.ClassFile.FieldType)).before args0 about1 = true := code_word (m := ⟨8, 3⟩) (meth := k8m3) (c := k8c3) (by decide +kernel) rfl rfl rfl (by decide +kernel)
set_option maxRecDepth 65536 in
theorem w_c23 : (Jvm.Cond.code ({ cls := "java/lang/StringUTF16", name := "getChar", desc := "([BI)C" } : Jvm.MethodName) jdk_52_method_5_code (2 : Nat) (Option.some Jvm.ClassFile.FieldType.char)).before args0 about1 = true := code_word (m := ⟨8, 4⟩) (meth := k8m4) (c := k8c4) (by decide +kernel) rfl rfl rfl (by decide +kernel)
set_option maxRecDepth 65536 in
theorem w_c24 : (Jvm.Cond.code ({ cls := "java/lang/StringUTF16", name := "charAt", desc := "([BI)C" } : Jvm.MethodName) jdk_52_method_83_code (2 : Nat) (Option.some Jvm.ClassFile.FieldType.char)).before args0 about1 = true := code_word (m := ⟨8, 10⟩) (meth := k8m10) (c := k8c10) (by decide +kernel) rfl rfl rfl (by decide +kernel)
set_option maxRecDepth 65536 in
theorem w_c25 : (Jvm.Cond.code ({ cls := "java/lang/StringUTF16", name := "checkIndex", desc := "(I[B)V" } : Jvm.MethodName) jdk_52_method_91_code (2 : Nat) (Option.none : Option Jvm.ClassFile.FieldType)).before args0 about1 = true := code_word (m := ⟨8, 11⟩) (meth := k8m11) (c := k8c11) (by decide +kernel) rfl rfl rfl (by decide +kernel)
set_option maxRecDepth 65536 in
theorem w_c26 : (Jvm.Cond.code ({ cls := "java/lang/StringUTF16", name := "length", desc := "([B)I" } : Jvm.MethodName) jdk_52_method_6_code (1 : Nat) (Option.some Jvm.ClassFile.FieldType.int)).before args0 about1 = true := code_word (m := ⟨8, 5⟩) (meth := k8m5) (c := k8c5) (by decide +kernel) rfl rfl rfl (by decide +kernel)
def codes1 : List Jvm.Cond := [Jvm.Cond.code x code maxLocals ret, Jvm.Cond.code ({ cls := "com/example/prewrm/prewrm/io/CsvFieldsIsUnsignedDecimalPinLaw", name := "pick", desc := "(IZ)C" } : Jvm.MethodName) method_3_code (3 : Nat) (Option.some Jvm.ClassFile.FieldType.char), Jvm.Cond.code ({ cls := "java/lang/String", name := "<init>", desc := "([C)V" } : Jvm.MethodName) jdk_42_method_3_code (2 : Nat) (Option.none : Option Jvm.ClassFile.FieldType), Jvm.Cond.code ({ cls := "java/lang/String", name := "<init>", desc := "([CIILjava/lang/Void;)V" } : Jvm.MethodName) jdk_42_method_149_code (6 : Nat) (Option.none : Option Jvm.ClassFile.FieldType), Jvm.Cond.code ({ cls := "java/lang/Object", name := "<init>", desc := "()V" } : Jvm.MethodName) object_method_1_code (1 : Nat) (Option.none : Option Jvm.ClassFile.FieldType), Jvm.Cond.code ({ cls := "java/lang/StringUTF16", name := "compress", desc := "([CII)[B" } : Jvm.MethodName) jdk_52_method_16_code (6 : Nat) (Option.some (Jvm.ClassFile.FieldType.array Jvm.ClassFile.FieldType.byte)), Jvm.Cond.code ({ cls := "java/lang/StringUTF16", name := "compress", desc := "([CI[BII)I" } : Jvm.MethodName) jdk_52_method_21_code (7 : Nat) (Option.some Jvm.ClassFile.FieldType.int), Jvm.Cond.code ({ cls := "java/lang/StringUTF16", name := "coderFromArrayLen", desc := "([BI)B" } : Jvm.MethodName) jdk_52_method_15_code (2 : Nat) (Option.some Jvm.ClassFile.FieldType.byte), Jvm.Cond.code ({ cls := "com/example/prewrm/prewrm/io/CsvFieldsIsUnsignedDecimalPinLaw", name := "step", desc := "(ICZ)I" } : Jvm.MethodName) method_5_code (5 : Nat) (Option.some Jvm.ClassFile.FieldType.int), Jvm.Cond.code ({ cls := "com/example/prewrm/prewrm/io/CsvFieldsIsUnsignedDecimalPinLaw", name := "isDigit", desc := "(C)Z" } : Jvm.MethodName) method_4_code (1 : Nat) (Option.some Jvm.ClassFile.FieldType.boolean), Jvm.Cond.code ({ cls := "com/example/prewrm/prewrm/io/CsvFields", name := "isUnsignedDecimal", desc := "(Ljava/lang/String;I)Z" } : Jvm.MethodName) prog_2_method_5_code (6 : Nat) (Option.some Jvm.ClassFile.FieldType.boolean), Jvm.Cond.code ({ cls := "com/example/prewrm/prewrm/io/CsvFields", name := "digitsEnd", desc := "(Ljava/lang/String;I)I" } : Jvm.MethodName) prog_2_method_8_code (3 : Nat) (Option.some Jvm.ClassFile.FieldType.int), Jvm.Cond.code ({ cls := "java/lang/String", name := "length", desc := "()I" } : Jvm.MethodName) jdk_42_method_54_code (1 : Nat) (Option.some Jvm.ClassFile.FieldType.int), Jvm.Cond.code ({ cls := "java/lang/String", name := "coder", desc := "()B" } : Jvm.MethodName) jdk_42_method_152_code (1 : Nat) (Option.some Jvm.ClassFile.FieldType.byte), Jvm.Cond.code ({ cls := "java/lang/String", name := "charAt", desc := "(I)C" } : Jvm.MethodName) jdk_42_method_56_code (2 : Nat) (Option.some Jvm.ClassFile.FieldType.char), Jvm.Cond.code ({ cls := "java/lang/String", name := "isLatin1", desc := "()Z" } : Jvm.MethodName) jdk_42_method_154_code (1 : Nat) (Option.some Jvm.ClassFile.FieldType.boolean), Jvm.Cond.code ({ cls := "java/lang/StringLatin1", name := "charAt", desc := "([BI)C" } : Jvm.MethodName) jdk_43_method_2_code (2 : Nat) (Option.some Jvm.ClassFile.FieldType.char), Jvm.Cond.code ({ cls := "java/lang/String", name := "checkIndex", desc := "(II)V" } : Jvm.MethodName) jdk_42_method_155_code (2 : Nat) (Option.none : Option Jvm.ClassFile.FieldType), Jvm.Cond.code ({ cls := "jdk/internal/util/Preconditions", name := "checkIndex", desc := "(IILjava/util/function/BiFunction;)I" } : Jvm.MethodName) jdk_41_method_11_code (3 : Nat) (Option.some Jvm.ClassFile.FieldType.int), Jvm.Cond.code ({ cls := "java/lang/StringUTF16", name := "toBytes", desc := "([CII)[B" } : Jvm.MethodName) jdk_52_method_14_code (5 : Nat) (Option.some (Jvm.ClassFile.FieldType.array Jvm.ClassFile.FieldType.byte)), Jvm.Cond.code ({ cls := "java/lang/StringUTF16", name := "newBytesFor", desc := "(I)[B" } : Jvm.MethodName) jdk_52_method_2_code (1 : Nat) (Option.some (Jvm.ClassFile.FieldType.array Jvm.ClassFile.FieldType.byte)), Jvm.Cond.code ({ cls := "java/lang/StringUTF16", name := "newBytesLength", desc := "(I)I" } : Jvm.MethodName) jdk_52_method_3_code (1 : Nat) (Option.some Jvm.ClassFile.FieldType.int), Jvm.Cond.code ({ cls := "java/lang/StringUTF16", name := "putChar", desc := "([BII)V" } : Jvm.MethodName) jdk_52_method_4_code (3 : Nat) (Option.none : Option Jvm.ClassFile.FieldType), Jvm.Cond.code ({ cls := "java/lang/StringUTF16", name := "getChar", desc := "([BI)C" } : Jvm.MethodName) jdk_52_method_5_code (2 : Nat) (Option.some Jvm.ClassFile.FieldType.char), Jvm.Cond.code ({ cls := "java/lang/StringUTF16", name := "charAt", desc := "([BI)C" } : Jvm.MethodName) jdk_52_method_83_code (2 : Nat) (Option.some Jvm.ClassFile.FieldType.char), Jvm.Cond.code ({ cls := "java/lang/StringUTF16", name := "checkIndex", desc := "(I[B)V" } : Jvm.MethodName) jdk_52_method_91_code (2 : Nat) (Option.none : Option Jvm.ClassFile.FieldType), Jvm.Cond.code ({ cls := "java/lang/StringUTF16", name := "length", desc := "([B)I" } : Jvm.MethodName) jdk_52_method_6_code (1 : Nat) (Option.some Jvm.ClassFile.FieldType.int)]
set_option maxRecDepth 65536 in
theorem codes_eq : words1.filter isCode = codes1 := rfl
theorem w_codes : ∀ c ∈ words1.filter isCode, c.before args0 about1 = true := by
  rw [codes_eq]
  intro c hc
  simp only [codes1, List.mem_cons, List.not_mem_nil, or_false] at hc
  rcases hc with rfl | rfl | rfl | rfl | rfl | rfl | rfl | rfl | rfl | rfl | rfl | rfl | rfl | rfl | rfl | rfl | rfl | rfl | rfl | rfl | rfl | rfl | rfl | rfl | rfl | rfl | rfl
  · exact w_c0
  · exact w_c1
  · exact w_c2
  · exact w_c3
  · exact w_c4
  · exact w_c5
  · exact w_c6
  · exact w_c7
  · exact w_c8
  · exact w_c9
  · exact w_c10
  · exact w_c11
  · exact w_c12
  · exact w_c13
  · exact w_c14
  · exact w_c15
  · exact w_c16
  · exact w_c17
  · exact w_c18
  · exact w_c19
  · exact w_c20
  · exact w_c21
  · exact w_c22
  · exact w_c23
  · exact w_c24
  · exact w_c25
  · exact w_c26
set_option maxRecDepth 65536 in
theorem w_t1 : (words1.take 24).all (fun c => isCode c || c.before args0 about1) = true := by decide +kernel
set_option maxRecDepth 65536 in
theorem w_t2 : ((words1.drop 24).take 24).all (fun c => isCode c || c.before args0 about1) = true := by decide +kernel
set_option maxRecDepth 65536 in
theorem w_t3 : (((words1.drop 24).drop 24).take 24).all (fun c => isCode c || c.before args0 about1) = true := by decide +kernel
set_option maxRecDepth 65536 in
theorem w_t4 : ((((words1.drop 24).drop 24).drop 24).take 24).all (fun c => isCode c || c.before args0 about1) = true := by decide +kernel
set_option maxRecDepth 65536 in
theorem w_t5 : ((((words1.drop 24).drop 24).drop 24).drop 24).all (fun c => isCode c || c.before args0 about1) = true := by decide +kernel
theorem w_tables : (allAtoms (Jvm.Cond.code x code maxLocals ret :: tables_1)).before args0 about1 = true := by
  rw [allAtoms_all]
  show words1.all (fun c => c.before args0 about1) = true
  refine all_split ?_ w_codes
  rw [← List.take_append_drop 24 words1, List.all_append, w_t1, ← List.take_append_drop 24 (words1.drop 24), List.all_append, w_t2, ← List.take_append_drop 24 ((words1.drop 24).drop 24), List.all_append, w_t3, ← List.take_append_drop 24 (((words1.drop 24).drop 24).drop 24), List.all_append, w_t4, w_t5]
  rfl
set_option maxRecDepth 65536 in
theorem w_rest : rest_1_c.before args0 about1 = true := by decide +kernel
set_option maxRecDepth 65536 in
theorem w_case : (Jvm.Cond.and given_1 narrow_1).before args0 about1 = true := by decide +kernel
theorem w_applies : (headSpec (Jvm.Cond.code x code maxLocals ret :: tables_1) room_1).applies x e0.platform about1 = true :=
  (Spec.applies_iff w_frames).mpr ⟨w_running, w_runnable, w_alone, w_named, w_hears, w_ripe, w_room, w_tables⟩
theorem atStart : AtStart classFile x code maxLocals ret World_1 tables_1 room_1 Calls_1 rest_1 Pre_1 launch0 p0 e0 about1 theMethod args0 below0 :=
  ⟨lists_1, trivial, launch0.admits_env _ _ _, launch0.least_env, fairChoices_fair.cas, fairChoices_fair.clock, w_frames, w_args, w_heap, w_applies, trivial, w_rest, w_case⟩
end start1
theorem witness_1 : WitnessClaimed_1 := ⟨start1.p0, start1.e0, start1.about1, start1.theMethod, start1.args0, start1.below0, start1.atStart⟩
end Jvm.Pilot.@@N@@
