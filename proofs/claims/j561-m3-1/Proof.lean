import JvmDerived
import JvmDerived.Pilot.@@N@@Statement
import JvmDerived.Pilot.@@N@@Code
set_option linter.unusedVariables false
set_option linter.unusedSimpArgs false
namespace Jvm.RoadKit
open Sem ClassFile Op Lib Jvm.Stand Jvm.Free Jvm.LawKit
section New
variable {p : Program} {l : Launch} {e : Env} {R : Room} {s : State} {m : MethodId} {args : Array Value} {below : List Frame} {meth : Method} {c : Code} {T : State} {locs : List Loc} {cells slots : Nat}
theorem retI (X : Stand p l e R s m args below meth c T locs cells slots) (hx : p.tables.exec = Jvm.exec) {pc : Nat} {Ls : Array Slot} {z : Int32} {rest : List Value} (hret : meth.sig.returnType = some .int) (hd : decode c.code pc = .ok (.ireturn, 1)) {fs : List Frame}
    (hl : ∀ (f : JFrame) (acts : List Action), f.method = m → f.locked = none → f.entered = [] → (doReturn e (T.setTop f) acts (some (.int z))).1 = T.setFrames fs) : Steps p.tables e below (T.setTop (mkF m pc Ls (.int z :: rest))) (T.setFrames fs) := by
  have hm' : T.vm.method? m = some meth := X.method'
  have hn : narrow .int (.int z) = .int z := rfl
  show Steps p.tables e below (T.setTop { method := m, pc := pc, locals := Ls, stack := _ :: rest, locked := none }) _
  jvm_step X.here [X.here.top, hx, hd, hm', hret, hn]
  first | (intro acts; rw [hl _ acts rfl rfl rfl]) | rw [hl _ _ rfl rfl rfl]
  exact Steps.refl _
end New
theorem own_lc_tlt {a b : Int64} (h : a < b) : lcmpW a b < 0 := by rw [lcW]; exact (lc_lt _ _).2 h
theorem own_lc_flt {a b : Int64} (h : ¬ a < b) : ¬ lcmpW a b < 0 := by rw [lcW]; exact fun q => h ((lc_lt _ _).1 q)
theorem own_lc_tgt {a b : Int64} (h : b < a) : 0 < lcmpW a b := by rw [lcW]; exact (lc_gt _ _).2 h
theorem own_lc_fgt {a b : Int64} (h : ¬ b < a) : ¬ 0 < lcmpW a b := by rw [lcW]; exact fun q => h ((lc_gt _ _).1 q)
theorem own_lc_teq {a b : Int64} (h : a = b) : lcmpW a b = 0 := by rw [lcW]; exact (lc_eq _ _).2 h
theorem own_one {c : Prop} [Decidable c] {A B : Slot} (ha : One A) (hb : One B) : One (if c then A else B) := by
  by_cases h : c
  · rw [if_pos h]; exact ha
  · rw [if_neg h]; exact hb
theorem own_lc_feq {a b : Int64} (h : ¬ a = b) : ¬ lcmpW a b = 0 := by rw [lcW]; exact fun q => h ((lc_eq _ _).1 q)
end Jvm.RoadKit
namespace Jvm.Pilot.@@N@@
open Jvm Jvm.ClassFile Sem Op Lib Jvm.Free Jvm.Stand Jvm.LawKit Jvm.RoadKit Bundle Jvm.Pilot.@@N@@.Jvm.D

def own_A (Z : State) (h : Heap) (a : Addr) (ty : FieldType) (n : Int32) (y : Int32 → Value) : Prop := ∃ c : Cell, Arr Z h a c ty ∧ c.slots.size = n.toNatClampNeg ∧ ¬ n < 0 ∧ ∀ j : Int32, ¬ (j < 0 ∨ c.slots.size ≤ j.toNatClampNeg) → c.slots[j.toNatClampNeg]? = some (y j)
theorem own_A_lt {Z : State} {h : Heap} {a : Addr} {ty : FieldType} {n : Int32} {y : Int32 → Value} (F : own_A Z h a ty n y) : a < h.size := by obtain ⟨c, A, -⟩ := F; exact A.lt
theorem own_A_ext {Z : State} {h h' : Heap} {a : Addr} {ty : FieldType} {n : Int32} {y : Int32 → Value} (F : own_A Z h a ty n y) (E : Ext h h') : own_A Z h' a ty n y := by obtain ⟨c, A, r⟩ := F; exact ⟨c, A.ext E, r⟩
theorem own_A_other {Z : State} {h h' : Heap} {a b : Addr} {ty : FieldType} {n : Int32} {y : Int32 → Value} {sl : Nat} {v : Value} (F : own_A Z h b ty n y) (W : Wr h h' a sl v) (q : b ≠ a) : own_A Z h' b ty n y := by obtain ⟨c, A, r⟩ := F; exact ⟨c, A.other W q, r⟩
theorem own_A_keep {Z : State} {h h' : Heap} {a : Addr} {ty : FieldType} {n : Int32} {y : Int32 → Value} {ws : List Addr} (F : own_A Z h a ty n y) (K : Keep h h' ws) (q : a ∉ ws) : own_A Z h' a ty n y := by obtain ⟨c, A, r⟩ := F; exact ⟨c, ⟨K.2.1 a c A.1 q, A.2⟩, r⟩
theorem own_A_new {Z : State} {h : Heap} {a : Addr} {k : ClassId} {ty : FieldType} {n : Int32} (A : Arr Z h a (newA k ty n) ty) (q : ¬ n < 0) : own_A Z h a ty n (fun _ => defaultValue ty) := by
  obtain ⟨c, A', -, S, M, H, -⟩ := Arv.new A q
  exact ⟨c, A', S, M, fun j hj => (H _ (Nat.lt_of_not_le fun y => hj (Or.inr y))).trans (by simp)⟩
theorem own_A_set {Z : State} {h h' : Heap} {a : Addr} {ty : FieldType} {n j : Int32} {y z : Int32 → Value} {v : Value} {c : Cell} (A : Arr Z h a c ty) (S : c.slots.size = n.toNatClampNeg) (M : ¬ n < 0) (H : ∀ j : Int32, ¬ (j < 0 ∨ c.slots.size ≤ j.toNatClampNeg) → c.slots[j.toNatClampNeg]? = some (y j)) (hj : ¬ (j < 0 ∨ c.slots.size ≤ j.toNatClampNeg)) (W : Wr h h' a j.toNatClampNeg v) (hz : z j = v) (hz' : ∀ i, ¬ i = j → z i = y i) : own_A Z h' a ty n z := by
  refine ⟨_, A.same W, by rw [sz_set]; exact S, M, fun i hi => ?_⟩
  rw [sz_set] at hi
  have hs : (c.setSlot j.toNatClampNeg v).slots = c.slots.setIfInBounds j.toNatClampNeg v := rfl
  rw [hs, Array.getElem?_setIfInBounds]
  by_cases e : i = j
  · subst e
    rw [if_pos rfl, if_pos (Nat.lt_of_not_le fun q => hj (Or.inr q)), hz]
  · have e' : ¬ j.toNatClampNeg = i.toNatClampNeg := fun q => e (Int32.toInt_inj.mp (by rw [nat_of (fun z => hi (Or.inl z)), nat_of (fun z => hj (Or.inl z)), q]))
    rw [if_neg e', hz' i e]
    exact H i hi
theorem own_setI {y : Int32 → Int32} {j x : Int32} : Value.int ((fun i => if i = j then x else y i) j) = .int x := congrArg Value.int (if_pos rfl)
theorem own_setI' {y : Int32 → Int32} {j x : Int32} : ∀ i, ¬ i = j → Value.int ((fun i => if i = j then x else y i) i) = .int (y i) := fun i h => congrArg Value.int (if_neg h)
theorem own_setJ {y : Int32 → Int64} {j : Int32} {x : Int64} : Value.long ((fun i => if i = j then x else y i) j) = .long x := congrArg Value.long (if_pos rfl)
theorem own_setJ' {y : Int32 → Int64} {j : Int32} {x : Int64} : ∀ i, ¬ i = j → Value.long ((fun i => if i = j then x else y i) i) = .long (y i) := fun i h => congrArg Value.long (if_neg h)

theorem own_A_congr {Z : State} {h : Heap} {a : Addr} {ty : FieldType} {n : Int32} {y y' : Int32 → Value} (F : own_A Z h a ty n y) (e : ∀ i, y i = y' i) : own_A Z h a ty n y' := by
  have : y = y' := funext e
  subst this; exact F

def own_L (vm : Vm) : Prop := ∃ ls19 ls25 ls27 ls29 ls31 ls33 ls35 ls37 : Addr, ∀ s : State, Lit (s.setVm vm) "com/example/prewrm/prewrm/model/ReplayConfig" 19 ls19 ∧ Lit (s.setVm vm) "com/example/prewrm/prewrm/model/ReplayConfig" 25 ls25 ∧ Lit (s.setVm vm) "com/example/prewrm/prewrm/model/ReplayConfig" 27 ls27 ∧ Lit (s.setVm vm) "com/example/prewrm/prewrm/model/ReplayConfig" 29 ls29 ∧ Lit (s.setVm vm) "com/example/prewrm/prewrm/model/ReplayConfig" 31 ls31 ∧ Lit (s.setVm vm) "com/example/prewrm/prewrm/model/ReplayConfig" 33 ls33 ∧ Lit (s.setVm vm) "com/example/prewrm/prewrm/model/ReplayConfig" 35 ls35 ∧ Lit (s.setVm vm) "com/example/prewrm/prewrm/model/ReplayConfig" 37 ls37
theorem own_L_stays {s : State} {vm1 : Vm} (h : own_L s.vm) (hw : s.WarmedH vm1) : own_L vm1 := by
  obtain ⟨ls19, ls25, ls27, ls29, ls31, ls33, ls35, ls37, h⟩ := h
  obtain ⟨L19, L25, L27, L29, L31, L33, L35, L37⟩ := h s
  exact ⟨ls19, ls25, ls27, ls29, ls31, ls33, ls35, ls37, fun _ => ⟨Lit.stays (s := s) (vm0 := s.vm) L19 hw.wide, Lit.stays (s := s) (vm0 := s.vm) L25 hw.wide, Lit.stays (s := s) (vm0 := s.vm) L27 hw.wide, Lit.stays (s := s) (vm0 := s.vm) L29 hw.wide, Lit.stays (s := s) (vm0 := s.vm) L31 hw.wide, Lit.stays (s := s) (vm0 := s.vm) L33 hw.wide, Lit.stays (s := s) (vm0 := s.vm) L35 hw.wide, Lit.stays (s := s) (vm0 := s.vm) L37 hw.wide⟩⟩
theorem own_atoms {Z s : State} {vm0 : Vm} {a0 args : Array Value} (hZ : Z.Warmed39 vm0) (wS : ∀ a ∈ Bundle.stringAtoms, a.before a0 Z = true) : ∀ a ∈ Bundle.stringAtoms, a.before args (s.setVm vm0) = true := fun d hd => by
  have q := wS d hd
  simp only [Bundle.stringAtoms, List.mem_cons, List.not_mem_nil, or_false] at hd
  rcases hd with rfl | rfl | rfl | rfl | rfl | rfl | rfl
  · exact mv (s := s.setVm vm0) hZ q
  · exact mv (s := s.setVm vm0) hZ q
  · exact mvA (s := s.setVm vm0) hZ q
  · exact mv (s := s.setVm vm0) hZ q
  · exact mv (s := s.setVm vm0) hZ q
  · exact mv (s := s.setVm vm0) hZ q
  · exact mv (s := s.setVm vm0) hZ q
section OwnBack
variable {p : Program} {l : Launch} {e : Env} {R : Room} {s : State} {args : Array Value} {below : List Frame} {Z : State} {a0 : Array Value} {h : Heap}
theorem own_backL {y : MethodName} {bytes : ByteArray} {maxL : Nat} {ret : Option FieldType} {rm : Room} {len W : Nat} {as' : Array Value} {Q : Option Value → Heap → List Loc → Prop}
    (hM : MetFree l y (head1 [Jvm.Cond.code y bytes maxL ret] rm) (fun a U => (a = as' ∧ Z.Warmed39 U.vm ∧ U.heap = h) ∧ own_L U.vm) (fun _ _ _ _ _ => True) (fun _ U o U' => ∃ v L, o = .returned v ∧ Q v U'.heap L ∧ FrameEnd U o U' L rm.cells rm.slots))
    (hZ : Z.Warmed39 s.vm) (wc : (Jvm.Cond.code y bytes maxL ret).before a0 Z = true) (wz : (Jvm.Cond.initialized y.cls).before a0 Z = true) (hf : rm.frames + 1 ≤ R.frames) (hl : W + (maxL + 11) + rm.locals ≤ R.locals) :
    Back l R p e below s args y len W (fun A a => (a = as' ∧ A.U.heap = h ∧ A.cells + rm.cells ≤ R.cells ∧ A.slots + rm.slots ≤ R.slots) ∧ own_L A.U.vm)
      (fun A _ v B => ∃ L, Q v B.U.heap L ∧ B.locs = A.locs ++ L ∧ B.cells = A.cells + rm.cells ∧ B.slots = A.slots + rm.slots) := by
  refine Back.of_free (bytes := bytes) (maxL := maxL) (ret := ret) (E := fun _ _ o t L k n => k = rm.cells ∧ n = rm.slots ∧ ∃ v, o = .returned v ∧ Q v t.heap L) hM hf hl ?_ ?_ (fun _ _ _ _ _ _ _ _ _ => trivial) ?_ ?_
  · intro m meth c A a Y hp
    have hU : Z.Warmed39 A.U.vm := wtrans hZ Y.warmed
    refine ⟨?_, mv hU wc, mv hU wz, hp.1.2.2.1, hp.1.2.2.2⟩
    show (Cond.and _ .tt).before a A.U = true
    rw [Cond.before_and, mv hU wc]; rfl
  · intro m meth c A a g mk Y hp
    exact ⟨⟨hp.1.1, wtrans hZ Y.warmed, hp.1.2.1⟩, hp.2⟩
  · rintro _ _ _ _ ⟨v, L, h1, h2, h3⟩
    exact ⟨L, _, _, h3, rfl, rfl, v, h1, h2⟩
  · rintro m meth c A a g mk v t L k n Y hp - - ⟨e1, e2, v', e3, e4⟩
    cases e3; subst e1 e2; exact ⟨L, e4, rfl, rfl, rfl⟩
theorem own_backC {y : MethodName} {bytes : ByteArray} {maxL : Nat} {ret : Option FieldType} {rm : Room} {len W : Nat} {as' : Array Value} {Q : Option Value → Heap → List Loc → Prop}
    (hM : MetFree l y (head1 [Jvm.Cond.code y bytes maxL ret] rm) (fun a U => a = as' ∧ Z.Warmed39 U.vm ∧ U.heap = h) (fun _ _ _ _ _ => True) (fun _ U o U' => ∃ v L, o = .returned v ∧ (Q v U'.heap L ∧ own_L U'.vm) ∧ ReturnedEndW U o U' L rm.cells rm.slots))
    (hZ : Z.Warmed39 s.vm) (wc : (Jvm.Cond.code y bytes maxL ret).before a0 Z = true) (wz : (Jvm.Cond.initialized y.cls).before a0 Z = true) (hf : rm.frames + 1 ≤ R.frames) (hl : W + (maxL + 11) + rm.locals ≤ R.locals) :
    BackS l R p e below s args y len W (fun A a => a = as' ∧ A.U.heap = h ∧ A.cells + rm.cells ≤ R.cells ∧ A.slots + rm.slots ≤ R.slots)
      (fun A _ v B => ∃ L, (Q v B.U.heap L ∧ own_L B.U.vm) ∧ B.locs = A.locs ++ L ∧ B.cells = A.cells + rm.cells ∧ B.slots = A.slots + rm.slots) := by
  refine BackS.of_freeW (bytes := bytes) (maxL := maxL) (ret := ret) (E := fun _ _ o t L k n => k = rm.cells ∧ n = rm.slots ∧ ∃ v, o = .returned v ∧ Q v t.heap L ∧ own_L t.vm) hM hf hl ?_ ?_ (fun _ _ _ _ _ _ _ _ _ => trivial) ?_ ?_
  · intro m meth c A a Y hp
    have hU : Z.Warmed39 A.U.vm := wtrans hZ Y.warmed
    refine ⟨?_, mv hU wc, mv hU wz, hp.2.2.1, hp.2.2.2⟩
    show (Cond.and _ .tt).before a A.U = true
    rw [Cond.before_and, mv hU wc]; rfl
  · intro m meth c A a g mk Y hp
    exact ⟨hp.1, wtrans hZ Y.warmed, hp.2.1⟩
  · rintro _ _ _ _ ⟨v, L, h1, h2, h3⟩
    exact ⟨L, _, _, h3, rfl, rfl, v, h1, h2⟩
  · rintro m meth c A a g mk v t L k n Y hp - - ⟨e1, e2, v', e3, e4⟩
    cases e3; subst e1 e2; exact ⟨L, e4, rfl, rfl, rfl⟩
end OwnBack

theorem own_nat {c : Int32} (n : Nat) (h0 : 0 ≤ c.toInt) (h1 : c.toInt < n) : ∃ k : Nat, k < n ∧ c = Int32.ofInt k :=
  ⟨c.toInt.toNat, by omega, by rw [Int.toNat_of_nonneg h0, Int32.ofInt_toInt]⟩
theorem own_i2c (x : Int32) : 0 ≤ (x.toUInt32.toUInt16.toUInt32.toInt32).toInt ∧ (x.toUInt32.toUInt16.toUInt32.toInt32).toInt < 65536 := by
  have h : (decide ((0 : Int32) ≤ x.toUInt32.toUInt16.toUInt32.toInt32) && decide (x.toUInt32.toUInt16.toUInt32.toInt32 ≤ (65535 : Int32))) = true := fits_nar_char x
  rw [Bool.and_eq_true, decide_eq_true_eq, decide_eq_true_eq, Int32.le_iff_toInt_le, Int32.le_iff_toInt_le] at h
  have e1 : (0 : Int32).toInt = 0 := by decide
  have e2 : (65535 : Int32).toInt = 65535 := by decide
  omega
theorem own_nb (c : Prop) [Decidable c] : nar .boolean (if c then (1 : Int32) else 0) = if c then 1 else 0 := by
  by_cases h : c
  · rw [if_pos h]; decide
  · rw [if_neg h]; decide
theorem d1_0 : decode jdk_29_method_65_code 0 = .ok (.iload_n 0, 1) := by decide +kernel
theorem d1_1 : decode jdk_29_method_65_code 1 = .ok (.iload_n 1, 1) := by decide +kernel
theorem d1_2 : decode jdk_29_method_65_code 2 = .ok (.if_icmp .lt 7, 3) := by decide +kernel
theorem d1_5 : decode jdk_29_method_65_code 5 = .ok (.iload_n 0, 1) := by decide +kernel
theorem d1_6 : decode jdk_29_method_65_code 6 = .ok (.goto 4, 3) := by decide +kernel
theorem d1_9 : decode jdk_29_method_65_code 9 = .ok (.iload_n 1, 1) := by decide +kernel
theorem d1_10 : decode jdk_29_method_65_code 10 = .ok (.ireturn, 1) := by decide +kernel
theorem ef_1 (m : MethodId) (p1 : Int32) (p2 : Int32) : entryFrame m #[(.int p1), (.int p2)] 2 = mkF m 0 #[.val (.int p1), .val (.int p2)] [] := by first | (simp [entryFrame, mkF, argsToLocals, Value.category]; done) | rfl
def f1 (p1 : Int32) (p2 : Int32) : Int32 :=
  (if p1 < p2 then p2 else p1)
def Q1 (Z : State) (p1 : Int32) (p2 : Int32)  (h0 : Heap) (n0 : Nat) (v : Option Value) (h : Heap) (L : List Loc) : Prop := v = some (.int (f1 p1 p2)) ∧ Fr n0 L ∧ h = h0
set_option maxRecDepth 65536 in
set_option maxHeartbeats 40000000 in
theorem rm1 (l : Launch) (Z : State) (a0 : Array Value) (hw : ∀ d ∈ tables_1, d.before a0 Z = true) (ws : List Jvm.Cond) (p1 : Int32) (p2 : Int32)  (h0 : Heap) (n0 : Nat) (Z0 : n0 ≤ h0.size) :
    MetFree l (⟨"java/lang/Math", "max", "(II)I"⟩ : MethodName) (head1 (Jvm.Cond.code (⟨"java/lang/Math", "max", "(II)I"⟩ : MethodName) jdk_29_method_65_code 2 (some .int) :: ws) ({ frames := 0, cells := 0, slots := 0, locals := 0 } : Room)) (fun a U => a = #[(.int p1), (.int p2)] ∧ Z.Warmed39 U.vm ∧ U.heap = h0) (fun _ _ _ _ _ => True) (fun _ U o U' => ∃ v L, o = .returned v ∧ Q1 Z p1 p2 h0 n0 v U'.heap L ∧ FrameEnd U o U' L ({ frames := 0, cells := 0, slots := 0, locals := 0 } : Room).cells ({ frames := 0, cells := 0, slots := 0, locals := 0 } : Room).slots) := by
  refine MetFree.of_bodySF (Jvm.Free.JP.mathPlain rfl (by decide +kernel)) hisR ?_
  intro p e s m args below meth c s₁ Bd hml0 hP hK
  obtain ⟨rfl, hZ, hh⟩ := hP
  have hx := Bd.exec
  have hby := Bd.bytes
  have hml : c.maxLocals = 2 := hml0
  have hown : s.vm.findClass "java/lang/Math" = some m.cls := findClass_of_methodNamed Bd.named
  have hnm := (name_of_methodNamed Bd.named Bd.method).1
  have X0 : Stand p l e ({ frames := 0, cells := 0, slots := 0, locals := 0 } : Room) s m #[(.int p1), (.int p2)] below meth c s₁ [] 0 0 := Stand.of_body Bd
  have e0 : s₁.heap = h0 := by rw [← hh, Bd.state]; rfl
  have N0 := Fr.nil n0
  have pre0 : ∀ t, Steps p.tables e below (s₁.setTop (mkF m 0 #[.val (.int p1), .val (.int p2)] [])) t → Steps p.tables e below (s₁.setTop (entryFrame m #[(.int p1), (.int p2)] 2)) t := fun t k => castTop (ef_1 m p1 p2) k
  obtain ⟨v2, hv2⟩ : ∃ z : Int32, z = (if p1 < p2 then p2 else p1) := ⟨_, rfl⟩
  have pre3 : ∀ t, Steps p.tables e below (s₁.setTop (mkF m 10 #[.val (.int p1), .val (.int p2)] [(.int v2)])) t → Steps p.tables e below (s₁.setTop (entryFrame m #[(.int p1), (.int p2)] 2)) t := fun t k => pre0 t (by
    show Steps p.tables e below (s₁.setTop (mkF m 0 #[.val (.int p1), .val (.int p2)] [])) _
    refine XS.iloadN X0.here hx rfl (hb hby d1_0) rfl ?_
    show Steps p.tables e below (s₁.setTop (mkF m 1 #[.val (.int p1), .val (.int p2)] [(.int p1)])) _
    refine XS.iloadN X0.here hx rfl (hb hby d1_1) rfl ?_
    show Steps p.tables e below (s₁.setTop (mkF m 2 #[.val (.int p1), .val (.int p2)] [(.int p2), (.int p1)])) _
    by_cases hc1 : p1 < p2
    · refine XS.icmpYes X0.here hx rfl (pc0 := 2) (pc' := 9) rfl (hb hby d1_2) rfl (tlt hc1).1 (by decide) (by decide) ?_
      show Steps p.tables e below (s₁.setTop (mkF m 9 #[.val (.int p1), .val (.int p2)] [])) _
      refine XS.iloadN X0.here hx rfl (hb hby d1_9) rfl ?_
      rw [show v2 = p2 from hv2.trans (if_pos hc1)] at k
      exact k
    · refine XS.icmpNo X0.here hx rfl (hb hby d1_2) rfl (flt hc1).1 ?_
      show Steps p.tables e below (s₁.setTop (mkF m 5 #[.val (.int p1), .val (.int p2)] [])) _
      refine XS.iloadN X0.here hx rfl (hb hby d1_5) rfl ?_
      show Steps p.tables e below (s₁.setTop (mkF m 6 #[.val (.int p1), .val (.int p2)] [(.int p1)])) _
      refine XS.goto X0.here hx rfl (pc0 := 6) (pc' := 10) rfl (hb hby d1_6) (by decide) (by decide) ?_
      rw [show v2 = p1 from hv2.trans (if_neg hc1)] at k
      exact k)
  have er : (f1 p1 p2) = v2 := by subst hv2; exact rfl
  obtain ⟨fs, hr, hrun, hended, hW, hsame⟩ := X0.leave (v := some (.int v2)) (fun h => by rw [Bd.returns] at h; cases h)
  refine ⟨_, _, pre3 _ ?_, hrun, hended, _, _, rfl, ?_, ⟨_, rfl⟩, hW, hsame.mono (by decide) (by decide)⟩
  · show Steps p.tables e below (s₁.setTop (mkF m 10 #[.val (.int p1), .val (.int p2)] [(.int v2)])) _
    exact retI X0 hx Bd.returns (hb hby d1_10) hr
  · show Q1 Z p1 p2 h0 n0 _ s₁.heap _
    rw [e0]
    exact ⟨congrArg (fun z => some (Value.int z)) er.symm, N0, rfl⟩

theorem own_one {w z : Int32} (h : w = (f1 (1 : Int32) z)) : ¬ (w.toInt64) < (1 : Int64) := by
  have e1 : (1 : Int64).toInt = 1 := by decide
  have e2 : (1 : Int32).toInt = 1 := by decide
  subst h
  rw [Int64.lt_iff_toInt_lt, e1, c_i2l]
  show ¬ (if (1 : Int32) < z then z else (1 : Int32)).toInt < 1
  by_cases h : (1 : Int32) < z
  · rw [if_pos h]; rw [Int32.lt_iff_toInt_lt] at h; omega
  · rw [if_neg h]; omega
theorem own_pos {z w : Int64} (h : w = (z &&& (9223372036854775807 : Int64))) : ¬ w < (0 : Int64) := by
  have e0 : (0 : Int64).toInt = 0 := by decide
  have hm := c_maskL z 9223372036854775807 63 (by decide) (by decide)
  subst h
  rw [Int64.lt_iff_toInt_lt, e0]; omega
theorem own_bit {a : Prop} [Decidable a] {v : Int32} (h : v = (if a then (0 : Int32) else (1 : Int32))) : v = 0 ∨ v = 1 := by
  subst h
  by_cases q : a
  · rw [if_pos q]; exact Or.inl rfl
  · rw [if_neg q]; exact Or.inr rfl
theorem d5_0 : decode prog_18_method_19_code 0 = .ok (.lload_n 1, 1) := by decide +kernel
theorem d5_1 : decode prog_18_method_19_code 1 = .ok (.lload_n 3, 1) := by decide +kernel
theorem d5_2 : decode prog_18_method_19_code 2 = .ok (.lcmp, 1) := by decide +kernel
theorem d5_3 : decode prog_18_method_19_code 3 = .ok (.ifCond .ge 19, 3) := by decide +kernel
theorem d5_22 : decode prog_18_method_19_code 22 = .ok (.return_, 1) := by decide +kernel
theorem pn_5 : plainName "com/example/prewrm/prewrm/model/ReplayConfig" = true := by first | (simp [plainName, overriddenIn]; done) | decide +kernel
theorem ef_5 (m : MethodId) (a1 : Addr) (q2 : Int64) (q3 : Int64) : entryFrame m #[(.ref a1), (.long q2), (.long q3)] 5 = mkF m 0 #[.val (.ref a1), .val (.long q2), .second, .val (.long q3), .second] [] := by first | (simp [entryFrame, mkF, argsToLocals, Value.category]; done) | rfl
def Q5 (Z : State) (a1 : Addr) (q2 : Int64) (q3 : Int64)  (h0 : Heap) (n0 : Nat) (v : Option Value) (h : Heap) (L : List Loc) : Prop := v = none ∧ Fr n0 L ∧ h = h0
set_option maxRecDepth 65536 in
set_option maxHeartbeats 40000000 in
theorem rm5 (l : Launch) (Z : State) (a0 : Array Value) (hw : ∀ d ∈ tables_1, d.before a0 Z = true) (ws : List Jvm.Cond) (a1 : Addr) (q2 : Int64) (q3 : Int64)  (h0 : Heap) (n0 : Nat) (Z0 : n0 ≤ h0.size) (hge : ¬ q2 < q3) :
    MetFree l (⟨"com/example/prewrm/prewrm/model/ReplayConfig", "checkAtLeast", "(Ljava/lang/String;JJ)V"⟩ : MethodName) (head1 (Jvm.Cond.code (⟨"com/example/prewrm/prewrm/model/ReplayConfig", "checkAtLeast", "(Ljava/lang/String;JJ)V"⟩ : MethodName) prog_18_method_19_code 5 none :: ws) ({ frames := 0, cells := 0, slots := 0, locals := 0 } : Room)) (fun a U => a = #[(.ref a1), (.long q2), (.long q3)] ∧ Z.Warmed39 U.vm ∧ U.heap = h0) (fun _ _ _ _ _ => True) (fun _ U o U' => ∃ v L, o = .returned v ∧ Q5 Z a1 q2 q3 h0 n0 v U'.heap L ∧ FrameEnd U o U' L ({ frames := 0, cells := 0, slots := 0, locals := 0 } : Room).cells ({ frames := 0, cells := 0, slots := 0, locals := 0 } : Room).slots) := by
  refine MetFree.of_bodySF (plainFor_of_name pn_5) hisR ?_
  intro p e s m args below meth c s₁ Bd hml0 hP hK
  obtain ⟨rfl, hZ, hh⟩ := hP
  have hx := Bd.exec
  have hby := Bd.bytes
  have hml : c.maxLocals = 5 := hml0
  have hown : s.vm.findClass "com/example/prewrm/prewrm/model/ReplayConfig" = some m.cls := findClass_of_methodNamed Bd.named
  have hnm := (name_of_methodNamed Bd.named Bd.method).1
  have X0 : Stand p l e ({ frames := 0, cells := 0, slots := 0, locals := 0 } : Room) s m #[(.ref a1), (.long q2), (.long q3)] below meth c s₁ [] 0 0 := Stand.of_body Bd
  have e0 : s₁.heap = h0 := by rw [← hh, Bd.state]; rfl
  have N0 := Fr.nil n0
  have pre0 : ∀ t, Steps p.tables e below (s₁.setTop (mkF m 0 #[.val (.ref a1), .val (.long q2), .second, .val (.long q3), .second] [])) t → Steps p.tables e below (s₁.setTop (entryFrame m #[(.ref a1), (.long q2), (.long q3)] 5)) t := fun t k => castTop (ef_5 m a1 q2 q3) k
  obtain ⟨fs, hr, hrun, hended, hW, hsame⟩ := X0.leave (v := none) (fun _ => rfl)
  refine ⟨_, _, pre0 _ ?_, hrun, hended, _, _, rfl, ?_, ⟨_, rfl⟩, hW, hsame.mono (by decide) (by decide)⟩
  · show Steps p.tables e below (s₁.setTop (mkF m 0 #[.val (.ref a1), .val (.long q2), .second, .val (.long q3), .second] [])) _
    refine XS.lloadN X0.here hx rfl (hb hby d5_0) rfl ?_
    show Steps p.tables e below (s₁.setTop (mkF m 1 #[.val (.ref a1), .val (.long q2), .second, .val (.long q3), .second] [(.long q2)])) _
    refine XS.lloadN X0.here hx rfl (hb hby d5_1) rfl ?_
    show Steps p.tables e below (s₁.setTop (mkF m 2 #[.val (.ref a1), .val (.long q2), .second, .val (.long q3), .second] [(.long q3), (.long q2)])) _
    refine XS.lcmp X0.here hx rfl (hb hby d5_2) rfl ?_
    show Steps p.tables e below (s₁.setTop (mkF m 3 #[.val (.ref a1), .val (.long q2), .second, .val (.long q3), .second] [(.int (lcmpW q2 q3))])) _
    refine XS.ifYes X0.here hx rfl (pc0 := 3) (pc' := 22) rfl (hb hby d5_3) rfl ((if0 _ _).trans (flt (own_lc_flt hge)).2.1) (by decide) (by decide) ?_
    show Steps p.tables e below (s₁.setTop (mkF m 22 #[.val (.ref a1), .val (.long q2), .second, .val (.long q3), .second] [])) _
    exact X0.returnOut hx Bd.returns (hb hby d5_22) hr
  · show Q5 Z a1 q2 q3 h0 n0 _ s₁.heap _
    rw [e0]
    exact ⟨rfl, N0, rfl⟩
theorem pd_0 : parseMethodDescriptor "(Ljava/lang/String;JJ)V" = some ⟨[(.object "java/lang/String"), .long, .long], none⟩ := by decide +kernel
theorem d3_0 : decode prog_18_method_2_code 0 = .ok (.aload_n 0, 1) := by decide +kernel
theorem d3_1 : decode prog_18_method_2_code 1 = .ok (.invokespecial 14, 3) := by decide +kernel
theorem d3_4 : decode prog_18_method_2_code 4 = .ok (.ldc 19, 2) := by decide +kernel
theorem d3_6 : decode prog_18_method_2_code 6 = .ok (.iload_n 1, 1) := by decide +kernel
theorem d3_7 : decode prog_18_method_2_code 7 = .ok (.i2l, 1) := by decide +kernel
theorem d3_8 : decode prog_18_method_2_code 8 = .ok (.lconst 1, 1) := by decide +kernel
theorem d3_9 : decode prog_18_method_2_code 9 = .ok (.invokestatic 21, 3) := by decide +kernel
theorem d3_12 : decode prog_18_method_2_code 12 = .ok (.ldc 25, 2) := by decide +kernel
theorem d3_14 : decode prog_18_method_2_code 14 = .ok (.iload 9, 2) := by decide +kernel
theorem d3_16 : decode prog_18_method_2_code 16 = .ok (.i2l, 1) := by decide +kernel
theorem d3_17 : decode prog_18_method_2_code 17 = .ok (.lconst 1, 1) := by decide +kernel
theorem d3_18 : decode prog_18_method_2_code 18 = .ok (.invokestatic 21, 3) := by decide +kernel
theorem d3_21 : decode prog_18_method_2_code 21 = .ok (.ldc 27, 2) := by decide +kernel
theorem d3_23 : decode prog_18_method_2_code 23 = .ok (.iload 10, 2) := by decide +kernel
theorem d3_25 : decode prog_18_method_2_code 25 = .ok (.i2l, 1) := by decide +kernel
theorem d3_26 : decode prog_18_method_2_code 26 = .ok (.lconst 1, 1) := by decide +kernel
theorem d3_27 : decode prog_18_method_2_code 27 = .ok (.invokestatic 21, 3) := by decide +kernel
theorem d3_30 : decode prog_18_method_2_code 30 = .ok (.ldc 29, 2) := by decide +kernel
theorem d3_32 : decode prog_18_method_2_code 32 = .ok (.lload_n 3, 1) := by decide +kernel
theorem d3_33 : decode prog_18_method_2_code 33 = .ok (.lconst 0, 1) := by decide +kernel
theorem d3_34 : decode prog_18_method_2_code 34 = .ok (.invokestatic 21, 3) := by decide +kernel
theorem d3_37 : decode prog_18_method_2_code 37 = .ok (.ldc 31, 2) := by decide +kernel
theorem d3_39 : decode prog_18_method_2_code 39 = .ok (.lload 5, 2) := by decide +kernel
theorem d3_41 : decode prog_18_method_2_code 41 = .ok (.lconst 0, 1) := by decide +kernel
theorem d3_42 : decode prog_18_method_2_code 42 = .ok (.invokestatic 21, 3) := by decide +kernel
theorem d3_45 : decode prog_18_method_2_code 45 = .ok (.ldc 33, 2) := by decide +kernel
theorem d3_47 : decode prog_18_method_2_code 47 = .ok (.lload 7, 2) := by decide +kernel
theorem d3_49 : decode prog_18_method_2_code 49 = .ok (.lconst 0, 1) := by decide +kernel
theorem d3_50 : decode prog_18_method_2_code 50 = .ok (.invokestatic 21, 3) := by decide +kernel
theorem d3_53 : decode prog_18_method_2_code 53 = .ok (.ldc 35, 2) := by decide +kernel
theorem d3_55 : decode prog_18_method_2_code 55 = .ok (.lload 11, 2) := by decide +kernel
theorem d3_57 : decode prog_18_method_2_code 57 = .ok (.lconst 0, 1) := by decide +kernel
theorem d3_58 : decode prog_18_method_2_code 58 = .ok (.invokestatic 21, 3) := by decide +kernel
theorem d3_61 : decode prog_18_method_2_code 61 = .ok (.ldc 37, 2) := by decide +kernel
theorem d3_63 : decode prog_18_method_2_code 63 = .ok (.lload 13, 2) := by decide +kernel
theorem d3_65 : decode prog_18_method_2_code 65 = .ok (.lconst 0, 1) := by decide +kernel
theorem d3_66 : decode prog_18_method_2_code 66 = .ok (.invokestatic 21, 3) := by decide +kernel
theorem d3_69 : decode prog_18_method_2_code 69 = .ok (.aload_n 0, 1) := by decide +kernel
theorem d3_70 : decode prog_18_method_2_code 70 = .ok (.iload_n 1, 1) := by decide +kernel
theorem d3_71 : decode prog_18_method_2_code 71 = .ok (.putfield 39, 3) := by decide +kernel
theorem d3_74 : decode prog_18_method_2_code 74 = .ok (.aload_n 0, 1) := by decide +kernel
theorem d3_75 : decode prog_18_method_2_code 75 = .ok (.iload_n 2, 1) := by decide +kernel
theorem d3_76 : decode prog_18_method_2_code 76 = .ok (.putfield 42, 3) := by decide +kernel
theorem d3_79 : decode prog_18_method_2_code 79 = .ok (.aload_n 0, 1) := by decide +kernel
theorem d3_80 : decode prog_18_method_2_code 80 = .ok (.lload_n 3, 1) := by decide +kernel
theorem d3_81 : decode prog_18_method_2_code 81 = .ok (.putfield 46, 3) := by decide +kernel
theorem d3_84 : decode prog_18_method_2_code 84 = .ok (.aload_n 0, 1) := by decide +kernel
theorem d3_85 : decode prog_18_method_2_code 85 = .ok (.lload 5, 2) := by decide +kernel
theorem d3_87 : decode prog_18_method_2_code 87 = .ok (.putfield 49, 3) := by decide +kernel
theorem d3_90 : decode prog_18_method_2_code 90 = .ok (.aload_n 0, 1) := by decide +kernel
theorem d3_91 : decode prog_18_method_2_code 91 = .ok (.lload 7, 2) := by decide +kernel
theorem d3_93 : decode prog_18_method_2_code 93 = .ok (.putfield 51, 3) := by decide +kernel
theorem d3_96 : decode prog_18_method_2_code 96 = .ok (.aload_n 0, 1) := by decide +kernel
theorem d3_97 : decode prog_18_method_2_code 97 = .ok (.iload 9, 2) := by decide +kernel
theorem d3_99 : decode prog_18_method_2_code 99 = .ok (.putfield 53, 3) := by decide +kernel
theorem d3_102 : decode prog_18_method_2_code 102 = .ok (.aload_n 0, 1) := by decide +kernel
theorem d3_103 : decode prog_18_method_2_code 103 = .ok (.iload 10, 2) := by decide +kernel
theorem d3_105 : decode prog_18_method_2_code 105 = .ok (.putfield 55, 3) := by decide +kernel
theorem d3_108 : decode prog_18_method_2_code 108 = .ok (.aload_n 0, 1) := by decide +kernel
theorem d3_109 : decode prog_18_method_2_code 109 = .ok (.lload 11, 2) := by decide +kernel
theorem d3_111 : decode prog_18_method_2_code 111 = .ok (.putfield 57, 3) := by decide +kernel
theorem d3_114 : decode prog_18_method_2_code 114 = .ok (.aload_n 0, 1) := by decide +kernel
theorem d3_115 : decode prog_18_method_2_code 115 = .ok (.lload 13, 2) := by decide +kernel
theorem d3_117 : decode prog_18_method_2_code 117 = .ok (.putfield 59, 3) := by decide +kernel
theorem d3_120 : decode prog_18_method_2_code 120 = .ok (.return_, 1) := by decide +kernel
theorem pn_3 : plainName "com/example/prewrm/prewrm/model/ReplayConfig" = true := by first | (simp [plainName, overriddenIn]; done) | decide +kernel
theorem ef_3 (m : MethodId) (a1 : Addr) (p2 : Int32) (p3 : Int32) (q4 : Int64) (q5 : Int64) (q6 : Int64) (p7 : Int32) (p8 : Int32) (q9 : Int64) (q10 : Int64) : entryFrame m #[(.ref a1), (.int p2), (.int p3), (.long q4), (.long q5), (.long q6), (.int p7), (.int p8), (.long q9), (.long q10)] 15 = mkF m 0 #[.val (.ref a1), .val (.int p2), .val (.int p3), .val (.long q4), .second, .val (.long q5), .second, .val (.long q6), .second, .val (.int p7), .val (.int p8), .val (.long q9), .second, .val (.long q10), .second] [] := by first | (simp [entryFrame, mkF, argsToLocals, Value.category]; done) | rfl
def Q3 (Z : State) (a1 : Addr) (p2 : Int32) (p3 : Int32) (q4 : Int64) (q5 : Int64) (q6 : Int64) (p7 : Int32) (p8 : Int32) (q9 : Int64) (q10 : Int64)  (h0 : Heap) (n0 : Nat) (v : Option Value) (h : Heap) (L : List Loc) : Prop := v = none ∧ Fr n0 L ∧ Keep h0 h ([a1] : List Addr) ∧ Exa Z h a1 "com/example/prewrm/prewrm/model/ReplayConfig" ∧ Fld Z h a1 "com/example/prewrm/prewrm/model/ReplayConfig" "servers" "I" (.int p2) ∧ Fld Z h a1 "com/example/prewrm/prewrm/model/ReplayConfig" "sharding" "Z" (.int (nar .boolean p3)) ∧ Fld Z h a1 "com/example/prewrm/prewrm/model/ReplayConfig" "keepAliveMs" "J" (.long q4) ∧ Fld Z h a1 "com/example/prewrm/prewrm/model/ReplayConfig" "coldStartMs" "J" (.long q5) ∧ Fld Z h a1 "com/example/prewrm/prewrm/model/ReplayConfig" "durationMs" "J" (.long q6) ∧ Fld Z h a1 "com/example/prewrm/prewrm/model/ReplayConfig" "maxConcurrent" "I" (.int p7) ∧ Fld Z h a1 "com/example/prewrm/prewrm/model/ReplayConfig" "capacity" "I" (.int p8) ∧ Fld Z h a1 "com/example/prewrm/prewrm/model/ReplayConfig" "warmUpMs" "J" (.long q9) ∧ Fld Z h a1 "com/example/prewrm/prewrm/model/ReplayConfig" "hopMs" "J" (.long q10)
set_option maxRecDepth 65536 in
set_option maxHeartbeats 40000000 in
theorem rm3c (l : Launch) (Z : State) (a0 : Array Value) (hw : ∀ d ∈ tables_1, d.before a0 Z = true) (ws : List Jvm.Cond) (a1 : Addr) (p2 : Int32) (p3 : Int32) (q4 : Int64) (q5 : Int64) (q6 : Int64) (p7 : Int32) (p8 : Int32) (q9 : Int64) (q10 : Int64)  (h0 : Heap) (n0 : Nat) (Z0 : n0 ≤ h0.size) (E_a1 : Exa Z h0 a1 "com/example/prewrm/prewrm/model/ReplayConfig") (F_servers_a1 : Fld Z h0 a1 "com/example/prewrm/prewrm/model/ReplayConfig" "servers" "I" (.int (0 : Int32))) (F_sharding_a1 : Fld Z h0 a1 "com/example/prewrm/prewrm/model/ReplayConfig" "sharding" "Z" (.int (0 : Int32))) (F_keepAliveMs_a1 : Fld Z h0 a1 "com/example/prewrm/prewrm/model/ReplayConfig" "keepAliveMs" "J" (.long (0 : Int64))) (F_coldStartMs_a1 : Fld Z h0 a1 "com/example/prewrm/prewrm/model/ReplayConfig" "coldStartMs" "J" (.long (0 : Int64))) (F_durationMs_a1 : Fld Z h0 a1 "com/example/prewrm/prewrm/model/ReplayConfig" "durationMs" "J" (.long (0 : Int64))) (F_maxConcurrent_a1 : Fld Z h0 a1 "com/example/prewrm/prewrm/model/ReplayConfig" "maxConcurrent" "I" (.int (0 : Int32))) (F_capacity_a1 : Fld Z h0 a1 "com/example/prewrm/prewrm/model/ReplayConfig" "capacity" "I" (.int (0 : Int32))) (F_warmUpMs_a1 : Fld Z h0 a1 "com/example/prewrm/prewrm/model/ReplayConfig" "warmUpMs" "J" (.long (0 : Int64))) (F_hopMs_a1 : Fld Z h0 a1 "com/example/prewrm/prewrm/model/ReplayConfig" "hopMs" "J" (.long (0 : Int64))) (g_a1 : n0 ≤ a1) (hs : ¬ (p2.toInt64) < (1 : Int64)) (hm : ¬ (p7.toInt64) < (1 : Int64)) (hc : ¬ (p8.toInt64) < (1 : Int64)) (hk : ¬ q4 < (0 : Int64)) (hcs : ¬ q5 < (0 : Int64)) (hd : ¬ q6 < (0 : Int64)) (hw_ : ¬ q9 < (0 : Int64)) (hh_ : ¬ q10 < (0 : Int64)) :
    MetFree l (⟨"com/example/prewrm/prewrm/model/ReplayConfig", "<init>", "(IZJJJIIJJ)V"⟩ : MethodName) (head1 (Jvm.Cond.code (⟨"com/example/prewrm/prewrm/model/ReplayConfig", "<init>", "(IZJJJIIJJ)V"⟩ : MethodName) prog_18_method_2_code 15 none :: ws) ({ frames := 1, cells := 16, slots := 324, locals := 16 } : Room)) (fun a U => a = #[(.ref a1), (.int p2), (.int p3), (.long q4), (.long q5), (.long q6), (.int p7), (.int p8), (.long q9), (.long q10)] ∧ Z.Warmed39 U.vm ∧ U.heap = h0) (fun _ _ _ _ _ => True) (fun _ U o U' => ∃ v L, o = .returned v ∧ (Q3 Z a1 p2 p3 q4 q5 q6 p7 p8 q9 q10 h0 n0 v U'.heap L ∧ own_L U'.vm) ∧ ReturnedEndW U o U' L ({ frames := 1, cells := 16, slots := 324, locals := 16 } : Room).cells ({ frames := 1, cells := 16, slots := 324, locals := 16 } : Room).slots) := by
  refine MetFree.of_bodySF (plainFor_of_name pn_3) hisR ?_
  intro p e s m args below meth c s₁ Bd hml0 hP hK
  obtain ⟨rfl, hZ, hh⟩ := hP
  have hx := Bd.exec
  have hby := Bd.bytes
  have hml : c.maxLocals = 15 := hml0
  have hown : s.vm.findClass "com/example/prewrm/prewrm/model/ReplayConfig" = some m.cls := findClass_of_methodNamed Bd.named
  have hnm := (name_of_methodNamed Bd.named Bd.method).1
  have X0 : Stand p l e ({ frames := 1, cells := 16, slots := 324, locals := 16 } : Room) (s.setVm s.vm) m #[(.ref a1), (.int p2), (.int p3), (.long q4), (.long q5), (.long q6), (.int p7), (.int p8), (.long q9), (.long q10)] below meth c s₁ [] 0 0 := Stand.of_body Bd
  have e0 : s₁.heap = h0 := by rw [← hh, Bd.state]; rfl
  have N0 := Fr.nil n0
  have pre0 : ∀ t, Steps p.tables e below (s₁.setTop (mkF m 0 #[.val (.ref a1), .val (.int p2), .val (.int p3), .val (.long q4), .second, .val (.long q5), .second, .val (.long q6), .second, .val (.int p7), .val (.int p8), .val (.long q9), .second, .val (.long q10), .second] [])) t → Steps p.tables e below (s₁.setTop (entryFrame m #[(.ref a1), (.int p2), (.int p3), (.long q4), (.long q5), (.long q6), (.int p7), (.int p8), (.long q9), (.long q10)] 15)) t := fun t k => castTop (ef_3 m a1 p2 p3 q4 q5 q6 p7 p8 q9 q10) k
  have K0 := Keep.refl h0 ([a1] : List Addr)
  have Si0 : s.Since s.vm h0.size := (State.WarmedH.refl s).since _
  have Sk0 : h0.size ≤ h0.size := Nat.le_refl _
  obtain ⟨T1, X1, e1, st1⟩ := initO X0 hx hZ hown (hw _ (List.mem_of_getElem? (i := 17) rfl)) (hw _ (List.mem_of_getElem? (i := 18) rfl)) (hw _ (List.mem_of_getElem? (i := 19) rfl)) e0 (g := (mkF m 1 #[.val (.ref a1), .val (.int p2), .val (.int p3), .val (.long q4), .second, .val (.long q5), .second, .val (.long q6), .second, .val (.int p7), .val (.int p8), .val (.long q9), .second, .val (.long q10), .second] [(.ref a1)])) rfl (by rw [hml]; rfl) rfl (hb hby d3_1) (by decide) (W := 0) (by show 2 * 0 + _ ≤ _; exact Nat.le_of_eq rfl) (by decide)
  have pre2 : ∀ t, Steps p.tables e below (T1.setTop (mkF m 4 #[.val (.ref a1), .val (.int p2), .val (.int p3), .val (.long q4), .second, .val (.long q5), .second, .val (.long q6), .second, .val (.int p7), .val (.int p8), .val (.long q9), .second, .val (.long q10), .second] [])) t → Steps p.tables e below (s₁.setTop (entryFrame m #[(.ref a1), (.int p2), (.int p3), (.long q4), (.long q5), (.long q6), (.int p7), (.int p8), (.long q9), (.long q10)] 15)) t := fun t k => pre0 t (by
    show Steps p.tables e below (s₁.setTop (mkF m 0 #[.val (.ref a1), .val (.int p2), .val (.int p3), .val (.long q4), .second, .val (.long q5), .second, .val (.long q6), .second, .val (.int p7), .val (.int p8), .val (.long q9), .second, .val (.long q10), .second] [])) _
    refine XS.aloadN X0.here hx rfl (hb hby d3_0) rfl rfl ?_
    show Steps p.tables e below (s₁.setTop (mkF m 1 #[.val (.ref a1), .val (.int p2), .val (.int p3), .val (.long q4), .second, .val (.long q5), .second, .val (.long q6), .second, .val (.int p7), .val (.int p8), .val (.long q9), .second, .val (.long q10), .second] [(.ref a1)])) _
    refine st1 _ ?_
    exact k)
  obtain ⟨cs3, T3, X3, Sq3, ⟨kr3, hk3, hr3⟩, hb3, -, st3⟩ := X1.ldcStringCold (s := s.setVm s.vm) hx (own := "com/example/prewrm/prewrm/model/ReplayConfig") hown (mvS hZ (hw _ (List.mem_of_getElem? (i := 20) rfl))) (own_atoms hZ (fun d hd => hw d ((by decide +kernel : ∀ d ∈ Bundle.stringAtoms, d ∈ tables_1) d hd))) (g := (mkF m 4 #[.val (.ref a1), .val (.int p2), .val (.int p3), .val (.long q4), .second, .val (.long q5), .second, .val (.long q6), .second, .val (.int p7), .val (.int p8), .val (.long q9), .second, .val (.long q10), .second] [])) rfl (hb hby d3_4) (n := 28) (by decide) (by decide) (by decide) (by decide)
  obtain ⟨h3, e3⟩ : ∃ z, T3.heap = z := ⟨_, rfl⟩
  have E3 : Ext h0 h3 := by rw [← e1, ← e3]; exact ext_of hb3
  have X3 : Stand p l e ({ frames := 1, cells := 16, slots := 324, locals := 16 } : Room) (s.setVm T3.vm) m #[(.ref a1), (.int p2), (.int p3), (.long q4), (.long q5), (.long q6), (.int p7), (.int p8), (.long q9), (.long q10)] below meth c T3 _ _ _ := X3
  have Si3 : s.Since T3.vm T3.heap.size := foldS (T := T1) Si0 (Nat.le_trans Sk0 (Nat.le_of_eq (congrArg Array.size (Eq.symm e1)))) Sq3 (ext_of hb3).1
  have Sk3 : T3.heap.size ≤ h3.size := Nat.le_of_eq (by rw [e3])
  have hZ : Z.Warmed39 (s.setVm T3.vm).vm := State.Warmed39.trans (t := s.setVm s.vm) hZ Sq3.1
  have hown : (s.setVm T3.vm).vm.findClass "com/example/prewrm/prewrm/model/ReplayConfig" = some m.cls := by rw [show (s.setVm T3.vm).vm = T3.vm from rfl, Sq3.1.alike.findClass]; exact hown
  have Lt19_3 : Lit (s.setVm T3.vm) "com/example/prewrm/prewrm/model/ReplayConfig" 19 cs3 := by
    have hf : T3.vm.findClass "com/example/prewrm/prewrm/model/ReplayConfig" = some m.cls := hown
    simp [Lit, State.resolvedAt?, hf, hk3, hr3]
  have E_a1_3 : Exa Z h3 a1 "com/example/prewrm/prewrm/model/ReplayConfig" := E_a1.ext E3
  have F_servers_a1_3 : Fld Z h3 a1 "com/example/prewrm/prewrm/model/ReplayConfig" "servers" "I" (.int (0 : Int32)) := F_servers_a1.ext E3
  have F_sharding_a1_3 : Fld Z h3 a1 "com/example/prewrm/prewrm/model/ReplayConfig" "sharding" "Z" (.int (0 : Int32)) := F_sharding_a1.ext E3
  have F_keepAliveMs_a1_3 : Fld Z h3 a1 "com/example/prewrm/prewrm/model/ReplayConfig" "keepAliveMs" "J" (.long (0 : Int64)) := F_keepAliveMs_a1.ext E3
  have F_coldStartMs_a1_3 : Fld Z h3 a1 "com/example/prewrm/prewrm/model/ReplayConfig" "coldStartMs" "J" (.long (0 : Int64)) := F_coldStartMs_a1.ext E3
  have F_durationMs_a1_3 : Fld Z h3 a1 "com/example/prewrm/prewrm/model/ReplayConfig" "durationMs" "J" (.long (0 : Int64)) := F_durationMs_a1.ext E3
  have F_maxConcurrent_a1_3 : Fld Z h3 a1 "com/example/prewrm/prewrm/model/ReplayConfig" "maxConcurrent" "I" (.int (0 : Int32)) := F_maxConcurrent_a1.ext E3
  have F_capacity_a1_3 : Fld Z h3 a1 "com/example/prewrm/prewrm/model/ReplayConfig" "capacity" "I" (.int (0 : Int32)) := F_capacity_a1.ext E3
  have F_warmUpMs_a1_3 : Fld Z h3 a1 "com/example/prewrm/prewrm/model/ReplayConfig" "warmUpMs" "J" (.long (0 : Int64)) := F_warmUpMs_a1.ext E3
  have F_hopMs_a1_3 : Fld Z h3 a1 "com/example/prewrm/prewrm/model/ReplayConfig" "hopMs" "J" (.long (0 : Int64)) := F_hopMs_a1.ext E3
  have K3 := K0.ext E3
  have Zs3 := Nat.le_trans Z0 E3.1
  obtain ⟨_, _, ⟨T4, L4, k4, n4⟩, -, X4, ⟨Lc4, hQ4, l4, y4, z4⟩, st4⟩ := Jvm.LawKit.callS X3 hx (y := (⟨"com/example/prewrm/prewrm/model/ReplayConfig", "checkAtLeast", "(Ljava/lang/String;JJ)V"⟩ : MethodName)) hown (mvT hZ (hw _ (List.mem_of_getElem? (i := 28) rfl))) (mvT hZ (hw _ (List.mem_of_getElem? (i := 29) rfl))) (mvT hZ (hw _ (List.mem_of_getElem? (i := 7) rfl))) (mvT hZ (hw _ (List.mem_of_getElem? (i := 30) rfl))) (by decide) (backOf (W := 0) (rm5 l Z a0 hw [] cs3 (p2.toInt64) (1 : Int64) h3 n0 Zs3 hs) hZ (hw _ (List.mem_of_getElem? (i := 30) rfl)) (hw _ (List.mem_of_getElem? (i := 7) rfl)) (by decide) (by decide)) (g := (mkF m 9 #[.val (.ref a1), .val (.int p2), .val (.int p3), .val (.long q4), .second, .val (.long q5), .second, .val (.long q6), .second, .val (.int p7), .val (.int p8), .val (.long q9), .second, .val (.long q10), .second] [(.long (1 : Int64)), (.long (p2.toInt64)), (.ref cs3)])) rfl (by rw [hml]; rfl) (argsL := [(.ref cs3), (.long (p2.toInt64)), (.long (1 : Int64))]) (rest := []) (lenOf pd_0 rfl) rfl (by show 2 * 0 + _ ≤ _; exact Nat.le_of_eq rfl) (hb hby d3_9) (fun _ _ => ⟨rfl, e3, (by decide : 2 + 0 ≤ _), (by decide : 32 + 0 ≤ _)⟩)
  dsimp only [Pt.U, Pt.locs, Pt.cells, Pt.slots] at X4 l4 y4 z4 st4 hQ4
  subst l4 y4 z4
  obtain ⟨rfl, N4q, e4⟩ := hQ4
  have N4 := Fr.app N0 N4q
  have pre5 : ∀ t, Steps p.tables e below (T4.setTop (mkF m 12 #[.val (.ref a1), .val (.int p2), .val (.int p3), .val (.long q4), .second, .val (.long q5), .second, .val (.long q6), .second, .val (.int p7), .val (.int p8), .val (.long q9), .second, .val (.long q10), .second] [])) t → Steps p.tables e below (s₁.setTop (entryFrame m #[(.ref a1), (.int p2), (.int p3), (.long q4), (.long q5), (.long q6), (.int p7), (.int p8), (.long q9), (.long q10)] 15)) t := fun t k => pre2 t (by
    show Steps p.tables e below (T1.setTop (mkF m 4 #[.val (.ref a1), .val (.int p2), .val (.int p3), .val (.long q4), .second, .val (.long q5), .second, .val (.long q6), .second, .val (.int p7), .val (.int p8), .val (.long q9), .second, .val (.long q10), .second] [])) _
    refine st3 _ ?_
    show Steps p.tables e below (T3.setTop (mkF m 6 #[.val (.ref a1), .val (.int p2), .val (.int p3), .val (.long q4), .second, .val (.long q5), .second, .val (.long q6), .second, .val (.int p7), .val (.int p8), .val (.long q9), .second, .val (.long q10), .second] [(.ref cs3)])) _
    refine XS.iloadN X3.here hx rfl (hb hby d3_6) rfl ?_
    show Steps p.tables e below (T3.setTop (mkF m 7 #[.val (.ref a1), .val (.int p2), .val (.int p3), .val (.long q4), .second, .val (.long q5), .second, .val (.long q6), .second, .val (.int p7), .val (.int p8), .val (.long q9), .second, .val (.long q10), .second] [(.int p2), (.ref cs3)])) _
    refine XS.i2l X3.here hx rfl (hb hby d3_7) rfl ?_
    show Steps p.tables e below (T3.setTop (mkF m 8 #[.val (.ref a1), .val (.int p2), .val (.int p3), .val (.long q4), .second, .val (.long q5), .second, .val (.long q6), .second, .val (.int p7), .val (.int p8), .val (.long q9), .second, .val (.long q10), .second] [(.long (p2.toInt64)), (.ref cs3)])) _
    refine XS.lconst X3.here hx rfl (hb hby d3_8) ?_
    show Steps p.tables e below (T3.setTop (mkF m 9 #[.val (.ref a1), .val (.int p2), .val (.int p3), .val (.long q4), .second, .val (.long q5), .second, .val (.long q6), .second, .val (.int p7), .val (.int p8), .val (.long q9), .second, .val (.long q10), .second] [(.long (1 : Int64)), (.long (p2.toInt64)), (.ref cs3)])) _
    refine st4 _ ?_
    exact k)
  obtain ⟨cs6, T6, X6, Sq6, ⟨kr6, hk6, hr6⟩, hb6, -, st6⟩ := X4.ldcStringCold (s := s.setVm T3.vm) hx (own := "com/example/prewrm/prewrm/model/ReplayConfig") hown (mvS hZ (hw _ (List.mem_of_getElem? (i := 31) rfl))) (own_atoms hZ (fun d hd => hw d ((by decide +kernel : ∀ d ∈ Bundle.stringAtoms, d ∈ tables_1) d hd))) (g := (mkF m 12 #[.val (.ref a1), .val (.int p2), .val (.int p3), .val (.long q4), .second, .val (.long q5), .second, .val (.long q6), .second, .val (.int p7), .val (.int p8), .val (.long q9), .second, .val (.long q10), .second] [])) rfl (hb hby d3_12) (n := 52) (by decide) (by decide) (by decide) (by decide)
  obtain ⟨h6, e6⟩ : ∃ z, T6.heap = z := ⟨_, rfl⟩
  have E6 : Ext h3 h6 := by rw [← e4, ← e6]; exact ext_of hb6
  have X6 : Stand p l e ({ frames := 1, cells := 16, slots := 324, locals := 16 } : Room) (s.setVm T6.vm) m #[(.ref a1), (.int p2), (.int p3), (.long q4), (.long q5), (.long q6), (.int p7), (.int p8), (.long q9), (.long q10)] below meth c T6 _ _ _ := X6
  have Si6 : s.Since T6.vm T6.heap.size := foldS (T := T4) Si3 (Nat.le_trans Sk3 (Nat.le_of_eq (congrArg Array.size (Eq.symm e4)))) Sq6 (ext_of hb6).1
  have Sk6 : T6.heap.size ≤ h6.size := Nat.le_of_eq (by rw [e6])
  have hZ : Z.Warmed39 (s.setVm T6.vm).vm := State.Warmed39.trans (t := s.setVm T3.vm) hZ Sq6.1
  have hown : (s.setVm T6.vm).vm.findClass "com/example/prewrm/prewrm/model/ReplayConfig" = some m.cls := by rw [show (s.setVm T6.vm).vm = T6.vm from rfl, Sq6.1.alike.findClass]; exact hown
  have Lt19_6 := Lit.stays Lt19_3 Sq6.1
  have Lt25_6 : Lit (s.setVm T6.vm) "com/example/prewrm/prewrm/model/ReplayConfig" 25 cs6 := by
    have hf : T6.vm.findClass "com/example/prewrm/prewrm/model/ReplayConfig" = some m.cls := hown
    simp [Lit, State.resolvedAt?, hf, hk6, hr6]
  have E_a1_6 : Exa Z h6 a1 "com/example/prewrm/prewrm/model/ReplayConfig" := E_a1_3.ext E6
  have F_servers_a1_6 : Fld Z h6 a1 "com/example/prewrm/prewrm/model/ReplayConfig" "servers" "I" (.int (0 : Int32)) := F_servers_a1_3.ext E6
  have F_sharding_a1_6 : Fld Z h6 a1 "com/example/prewrm/prewrm/model/ReplayConfig" "sharding" "Z" (.int (0 : Int32)) := F_sharding_a1_3.ext E6
  have F_keepAliveMs_a1_6 : Fld Z h6 a1 "com/example/prewrm/prewrm/model/ReplayConfig" "keepAliveMs" "J" (.long (0 : Int64)) := F_keepAliveMs_a1_3.ext E6
  have F_coldStartMs_a1_6 : Fld Z h6 a1 "com/example/prewrm/prewrm/model/ReplayConfig" "coldStartMs" "J" (.long (0 : Int64)) := F_coldStartMs_a1_3.ext E6
  have F_durationMs_a1_6 : Fld Z h6 a1 "com/example/prewrm/prewrm/model/ReplayConfig" "durationMs" "J" (.long (0 : Int64)) := F_durationMs_a1_3.ext E6
  have F_maxConcurrent_a1_6 : Fld Z h6 a1 "com/example/prewrm/prewrm/model/ReplayConfig" "maxConcurrent" "I" (.int (0 : Int32)) := F_maxConcurrent_a1_3.ext E6
  have F_capacity_a1_6 : Fld Z h6 a1 "com/example/prewrm/prewrm/model/ReplayConfig" "capacity" "I" (.int (0 : Int32)) := F_capacity_a1_3.ext E6
  have F_warmUpMs_a1_6 : Fld Z h6 a1 "com/example/prewrm/prewrm/model/ReplayConfig" "warmUpMs" "J" (.long (0 : Int64)) := F_warmUpMs_a1_3.ext E6
  have F_hopMs_a1_6 : Fld Z h6 a1 "com/example/prewrm/prewrm/model/ReplayConfig" "hopMs" "J" (.long (0 : Int64)) := F_hopMs_a1_3.ext E6
  have K6 := K3.ext E6
  have Zs6 := Nat.le_trans Zs3 E6.1
  obtain ⟨_, _, ⟨T7, L7, k7, n7⟩, -, X7, ⟨Lc7, hQ7, l7, y7, z7⟩, st7⟩ := Jvm.LawKit.callS X6 hx (y := (⟨"com/example/prewrm/prewrm/model/ReplayConfig", "checkAtLeast", "(Ljava/lang/String;JJ)V"⟩ : MethodName)) hown (mvT hZ (hw _ (List.mem_of_getElem? (i := 28) rfl))) (mvT hZ (hw _ (List.mem_of_getElem? (i := 29) rfl))) (mvT hZ (hw _ (List.mem_of_getElem? (i := 7) rfl))) (mvT hZ (hw _ (List.mem_of_getElem? (i := 30) rfl))) (by decide) (backOf (W := 0) (rm5 l Z a0 hw [] cs6 (p7.toInt64) (1 : Int64) h6 n0 Zs6 hm) hZ (hw _ (List.mem_of_getElem? (i := 30) rfl)) (hw _ (List.mem_of_getElem? (i := 7) rfl)) (by decide) (by decide)) (g := (mkF m 18 #[.val (.ref a1), .val (.int p2), .val (.int p3), .val (.long q4), .second, .val (.long q5), .second, .val (.long q6), .second, .val (.int p7), .val (.int p8), .val (.long q9), .second, .val (.long q10), .second] [(.long (1 : Int64)), (.long (p7.toInt64)), (.ref cs6)])) rfl (by rw [hml]; rfl) (argsL := [(.ref cs6), (.long (p7.toInt64)), (.long (1 : Int64))]) (rest := []) (lenOf pd_0 rfl) rfl (by show 2 * 0 + _ ≤ _; exact Nat.le_of_eq rfl) (hb hby d3_18) (fun _ _ => ⟨rfl, e6, (by decide : 4 + 0 ≤ _), (by decide : 88 + 0 ≤ _)⟩)
  dsimp only [Pt.U, Pt.locs, Pt.cells, Pt.slots] at X7 l7 y7 z7 st7 hQ7
  subst l7 y7 z7
  obtain ⟨rfl, N7q, e7⟩ := hQ7
  have N7 := Fr.app N4 N7q
  have pre8 : ∀ t, Steps p.tables e below (T7.setTop (mkF m 21 #[.val (.ref a1), .val (.int p2), .val (.int p3), .val (.long q4), .second, .val (.long q5), .second, .val (.long q6), .second, .val (.int p7), .val (.int p8), .val (.long q9), .second, .val (.long q10), .second] [])) t → Steps p.tables e below (s₁.setTop (entryFrame m #[(.ref a1), (.int p2), (.int p3), (.long q4), (.long q5), (.long q6), (.int p7), (.int p8), (.long q9), (.long q10)] 15)) t := fun t k => pre5 t (by
    show Steps p.tables e below (T4.setTop (mkF m 12 #[.val (.ref a1), .val (.int p2), .val (.int p3), .val (.long q4), .second, .val (.long q5), .second, .val (.long q6), .second, .val (.int p7), .val (.int p8), .val (.long q9), .second, .val (.long q10), .second] [])) _
    refine st6 _ ?_
    show Steps p.tables e below (T6.setTop (mkF m 14 #[.val (.ref a1), .val (.int p2), .val (.int p3), .val (.long q4), .second, .val (.long q5), .second, .val (.long q6), .second, .val (.int p7), .val (.int p8), .val (.long q9), .second, .val (.long q10), .second] [(.ref cs6)])) _
    refine XS.iload X6.here hx rfl (hb hby d3_14) rfl ?_
    show Steps p.tables e below (T6.setTop (mkF m 16 #[.val (.ref a1), .val (.int p2), .val (.int p3), .val (.long q4), .second, .val (.long q5), .second, .val (.long q6), .second, .val (.int p7), .val (.int p8), .val (.long q9), .second, .val (.long q10), .second] [(.int p7), (.ref cs6)])) _
    refine XS.i2l X6.here hx rfl (hb hby d3_16) rfl ?_
    show Steps p.tables e below (T6.setTop (mkF m 17 #[.val (.ref a1), .val (.int p2), .val (.int p3), .val (.long q4), .second, .val (.long q5), .second, .val (.long q6), .second, .val (.int p7), .val (.int p8), .val (.long q9), .second, .val (.long q10), .second] [(.long (p7.toInt64)), (.ref cs6)])) _
    refine XS.lconst X6.here hx rfl (hb hby d3_17) ?_
    show Steps p.tables e below (T6.setTop (mkF m 18 #[.val (.ref a1), .val (.int p2), .val (.int p3), .val (.long q4), .second, .val (.long q5), .second, .val (.long q6), .second, .val (.int p7), .val (.int p8), .val (.long q9), .second, .val (.long q10), .second] [(.long (1 : Int64)), (.long (p7.toInt64)), (.ref cs6)])) _
    refine st7 _ ?_
    exact k)
  obtain ⟨cs9, T9, X9, Sq9, ⟨kr9, hk9, hr9⟩, hb9, -, st9⟩ := X7.ldcStringCold (s := s.setVm T6.vm) hx (own := "com/example/prewrm/prewrm/model/ReplayConfig") hown (mvS hZ (hw _ (List.mem_of_getElem? (i := 32) rfl))) (own_atoms hZ (fun d hd => hw d ((by decide +kernel : ∀ d ∈ Bundle.stringAtoms, d ∈ tables_1) d hd))) (g := (mkF m 21 #[.val (.ref a1), .val (.int p2), .val (.int p3), .val (.long q4), .second, .val (.long q5), .second, .val (.long q6), .second, .val (.int p7), .val (.int p8), .val (.long q9), .second, .val (.long q10), .second] [])) rfl (hb hby d3_21) (n := 32) (by decide) (by decide) (by decide) (by decide)
  obtain ⟨h9, e9⟩ : ∃ z, T9.heap = z := ⟨_, rfl⟩
  have E9 : Ext h6 h9 := by rw [← e7, ← e9]; exact ext_of hb9
  have X9 : Stand p l e ({ frames := 1, cells := 16, slots := 324, locals := 16 } : Room) (s.setVm T9.vm) m #[(.ref a1), (.int p2), (.int p3), (.long q4), (.long q5), (.long q6), (.int p7), (.int p8), (.long q9), (.long q10)] below meth c T9 _ _ _ := X9
  have Si9 : s.Since T9.vm T9.heap.size := foldS (T := T7) Si6 (Nat.le_trans Sk6 (Nat.le_of_eq (congrArg Array.size (Eq.symm e7)))) Sq9 (ext_of hb9).1
  have Sk9 : T9.heap.size ≤ h9.size := Nat.le_of_eq (by rw [e9])
  have hZ : Z.Warmed39 (s.setVm T9.vm).vm := State.Warmed39.trans (t := s.setVm T6.vm) hZ Sq9.1
  have hown : (s.setVm T9.vm).vm.findClass "com/example/prewrm/prewrm/model/ReplayConfig" = some m.cls := by rw [show (s.setVm T9.vm).vm = T9.vm from rfl, Sq9.1.alike.findClass]; exact hown
  have Lt19_9 := Lit.stays Lt19_6 Sq9.1
  have Lt25_9 := Lit.stays Lt25_6 Sq9.1
  have Lt27_9 : Lit (s.setVm T9.vm) "com/example/prewrm/prewrm/model/ReplayConfig" 27 cs9 := by
    have hf : T9.vm.findClass "com/example/prewrm/prewrm/model/ReplayConfig" = some m.cls := hown
    simp [Lit, State.resolvedAt?, hf, hk9, hr9]
  have E_a1_9 : Exa Z h9 a1 "com/example/prewrm/prewrm/model/ReplayConfig" := E_a1_6.ext E9
  have F_servers_a1_9 : Fld Z h9 a1 "com/example/prewrm/prewrm/model/ReplayConfig" "servers" "I" (.int (0 : Int32)) := F_servers_a1_6.ext E9
  have F_sharding_a1_9 : Fld Z h9 a1 "com/example/prewrm/prewrm/model/ReplayConfig" "sharding" "Z" (.int (0 : Int32)) := F_sharding_a1_6.ext E9
  have F_keepAliveMs_a1_9 : Fld Z h9 a1 "com/example/prewrm/prewrm/model/ReplayConfig" "keepAliveMs" "J" (.long (0 : Int64)) := F_keepAliveMs_a1_6.ext E9
  have F_coldStartMs_a1_9 : Fld Z h9 a1 "com/example/prewrm/prewrm/model/ReplayConfig" "coldStartMs" "J" (.long (0 : Int64)) := F_coldStartMs_a1_6.ext E9
  have F_durationMs_a1_9 : Fld Z h9 a1 "com/example/prewrm/prewrm/model/ReplayConfig" "durationMs" "J" (.long (0 : Int64)) := F_durationMs_a1_6.ext E9
  have F_maxConcurrent_a1_9 : Fld Z h9 a1 "com/example/prewrm/prewrm/model/ReplayConfig" "maxConcurrent" "I" (.int (0 : Int32)) := F_maxConcurrent_a1_6.ext E9
  have F_capacity_a1_9 : Fld Z h9 a1 "com/example/prewrm/prewrm/model/ReplayConfig" "capacity" "I" (.int (0 : Int32)) := F_capacity_a1_6.ext E9
  have F_warmUpMs_a1_9 : Fld Z h9 a1 "com/example/prewrm/prewrm/model/ReplayConfig" "warmUpMs" "J" (.long (0 : Int64)) := F_warmUpMs_a1_6.ext E9
  have F_hopMs_a1_9 : Fld Z h9 a1 "com/example/prewrm/prewrm/model/ReplayConfig" "hopMs" "J" (.long (0 : Int64)) := F_hopMs_a1_6.ext E9
  have K9 := K6.ext E9
  have Zs9 := Nat.le_trans Zs6 E9.1
  obtain ⟨_, _, ⟨T10, L10, k10, n10⟩, -, X10, ⟨Lc10, hQ10, l10, y10, z10⟩, st10⟩ := Jvm.LawKit.callS X9 hx (y := (⟨"com/example/prewrm/prewrm/model/ReplayConfig", "checkAtLeast", "(Ljava/lang/String;JJ)V"⟩ : MethodName)) hown (mvT hZ (hw _ (List.mem_of_getElem? (i := 28) rfl))) (mvT hZ (hw _ (List.mem_of_getElem? (i := 29) rfl))) (mvT hZ (hw _ (List.mem_of_getElem? (i := 7) rfl))) (mvT hZ (hw _ (List.mem_of_getElem? (i := 30) rfl))) (by decide) (backOf (W := 0) (rm5 l Z a0 hw [] cs9 (p8.toInt64) (1 : Int64) h9 n0 Zs9 hc) hZ (hw _ (List.mem_of_getElem? (i := 30) rfl)) (hw _ (List.mem_of_getElem? (i := 7) rfl)) (by decide) (by decide)) (g := (mkF m 27 #[.val (.ref a1), .val (.int p2), .val (.int p3), .val (.long q4), .second, .val (.long q5), .second, .val (.long q6), .second, .val (.int p7), .val (.int p8), .val (.long q9), .second, .val (.long q10), .second] [(.long (1 : Int64)), (.long (p8.toInt64)), (.ref cs9)])) rfl (by rw [hml]; rfl) (argsL := [(.ref cs9), (.long (p8.toInt64)), (.long (1 : Int64))]) (rest := []) (lenOf pd_0 rfl) rfl (by show 2 * 0 + _ ≤ _; exact Nat.le_of_eq rfl) (hb hby d3_27) (fun _ _ => ⟨rfl, e9, (by decide : 6 + 0 ≤ _), (by decide : 124 + 0 ≤ _)⟩)
  dsimp only [Pt.U, Pt.locs, Pt.cells, Pt.slots] at X10 l10 y10 z10 st10 hQ10
  subst l10 y10 z10
  obtain ⟨rfl, N10q, e10⟩ := hQ10
  have N10 := Fr.app N7 N10q
  have pre11 : ∀ t, Steps p.tables e below (T10.setTop (mkF m 30 #[.val (.ref a1), .val (.int p2), .val (.int p3), .val (.long q4), .second, .val (.long q5), .second, .val (.long q6), .second, .val (.int p7), .val (.int p8), .val (.long q9), .second, .val (.long q10), .second] [])) t → Steps p.tables e below (s₁.setTop (entryFrame m #[(.ref a1), (.int p2), (.int p3), (.long q4), (.long q5), (.long q6), (.int p7), (.int p8), (.long q9), (.long q10)] 15)) t := fun t k => pre8 t (by
    show Steps p.tables e below (T7.setTop (mkF m 21 #[.val (.ref a1), .val (.int p2), .val (.int p3), .val (.long q4), .second, .val (.long q5), .second, .val (.long q6), .second, .val (.int p7), .val (.int p8), .val (.long q9), .second, .val (.long q10), .second] [])) _
    refine st9 _ ?_
    show Steps p.tables e below (T9.setTop (mkF m 23 #[.val (.ref a1), .val (.int p2), .val (.int p3), .val (.long q4), .second, .val (.long q5), .second, .val (.long q6), .second, .val (.int p7), .val (.int p8), .val (.long q9), .second, .val (.long q10), .second] [(.ref cs9)])) _
    refine XS.iload X9.here hx rfl (hb hby d3_23) rfl ?_
    show Steps p.tables e below (T9.setTop (mkF m 25 #[.val (.ref a1), .val (.int p2), .val (.int p3), .val (.long q4), .second, .val (.long q5), .second, .val (.long q6), .second, .val (.int p7), .val (.int p8), .val (.long q9), .second, .val (.long q10), .second] [(.int p8), (.ref cs9)])) _
    refine XS.i2l X9.here hx rfl (hb hby d3_25) rfl ?_
    show Steps p.tables e below (T9.setTop (mkF m 26 #[.val (.ref a1), .val (.int p2), .val (.int p3), .val (.long q4), .second, .val (.long q5), .second, .val (.long q6), .second, .val (.int p7), .val (.int p8), .val (.long q9), .second, .val (.long q10), .second] [(.long (p8.toInt64)), (.ref cs9)])) _
    refine XS.lconst X9.here hx rfl (hb hby d3_26) ?_
    show Steps p.tables e below (T9.setTop (mkF m 27 #[.val (.ref a1), .val (.int p2), .val (.int p3), .val (.long q4), .second, .val (.long q5), .second, .val (.long q6), .second, .val (.int p7), .val (.int p8), .val (.long q9), .second, .val (.long q10), .second] [(.long (1 : Int64)), (.long (p8.toInt64)), (.ref cs9)])) _
    refine st10 _ ?_
    exact k)
  obtain ⟨cs12, T12, X12, Sq12, ⟨kr12, hk12, hr12⟩, hb12, -, st12⟩ := X10.ldcStringCold (s := s.setVm T9.vm) hx (own := "com/example/prewrm/prewrm/model/ReplayConfig") hown (mvS hZ (hw _ (List.mem_of_getElem? (i := 33) rfl))) (own_atoms hZ (fun d hd => hw d ((by decide +kernel : ∀ d ∈ Bundle.stringAtoms, d ∈ tables_1) d hd))) (g := (mkF m 30 #[.val (.ref a1), .val (.int p2), .val (.int p3), .val (.long q4), .second, .val (.long q5), .second, .val (.long q6), .second, .val (.int p7), .val (.int p8), .val (.long q9), .second, .val (.long q10), .second] [])) rfl (hb hby d3_30) (n := 44) (by decide) (by decide) (by decide) (by decide)
  obtain ⟨h12, e12⟩ : ∃ z, T12.heap = z := ⟨_, rfl⟩
  have E12 : Ext h9 h12 := by rw [← e10, ← e12]; exact ext_of hb12
  have X12 : Stand p l e ({ frames := 1, cells := 16, slots := 324, locals := 16 } : Room) (s.setVm T12.vm) m #[(.ref a1), (.int p2), (.int p3), (.long q4), (.long q5), (.long q6), (.int p7), (.int p8), (.long q9), (.long q10)] below meth c T12 _ _ _ := X12
  have Si12 : s.Since T12.vm T12.heap.size := foldS (T := T10) Si9 (Nat.le_trans Sk9 (Nat.le_of_eq (congrArg Array.size (Eq.symm e10)))) Sq12 (ext_of hb12).1
  have Sk12 : T12.heap.size ≤ h12.size := Nat.le_of_eq (by rw [e12])
  have hZ : Z.Warmed39 (s.setVm T12.vm).vm := State.Warmed39.trans (t := s.setVm T9.vm) hZ Sq12.1
  have hown : (s.setVm T12.vm).vm.findClass "com/example/prewrm/prewrm/model/ReplayConfig" = some m.cls := by rw [show (s.setVm T12.vm).vm = T12.vm from rfl, Sq12.1.alike.findClass]; exact hown
  have Lt19_12 := Lit.stays Lt19_9 Sq12.1
  have Lt25_12 := Lit.stays Lt25_9 Sq12.1
  have Lt27_12 := Lit.stays Lt27_9 Sq12.1
  have Lt29_12 : Lit (s.setVm T12.vm) "com/example/prewrm/prewrm/model/ReplayConfig" 29 cs12 := by
    have hf : T12.vm.findClass "com/example/prewrm/prewrm/model/ReplayConfig" = some m.cls := hown
    simp [Lit, State.resolvedAt?, hf, hk12, hr12]
  have E_a1_12 : Exa Z h12 a1 "com/example/prewrm/prewrm/model/ReplayConfig" := E_a1_9.ext E12
  have F_servers_a1_12 : Fld Z h12 a1 "com/example/prewrm/prewrm/model/ReplayConfig" "servers" "I" (.int (0 : Int32)) := F_servers_a1_9.ext E12
  have F_sharding_a1_12 : Fld Z h12 a1 "com/example/prewrm/prewrm/model/ReplayConfig" "sharding" "Z" (.int (0 : Int32)) := F_sharding_a1_9.ext E12
  have F_keepAliveMs_a1_12 : Fld Z h12 a1 "com/example/prewrm/prewrm/model/ReplayConfig" "keepAliveMs" "J" (.long (0 : Int64)) := F_keepAliveMs_a1_9.ext E12
  have F_coldStartMs_a1_12 : Fld Z h12 a1 "com/example/prewrm/prewrm/model/ReplayConfig" "coldStartMs" "J" (.long (0 : Int64)) := F_coldStartMs_a1_9.ext E12
  have F_durationMs_a1_12 : Fld Z h12 a1 "com/example/prewrm/prewrm/model/ReplayConfig" "durationMs" "J" (.long (0 : Int64)) := F_durationMs_a1_9.ext E12
  have F_maxConcurrent_a1_12 : Fld Z h12 a1 "com/example/prewrm/prewrm/model/ReplayConfig" "maxConcurrent" "I" (.int (0 : Int32)) := F_maxConcurrent_a1_9.ext E12
  have F_capacity_a1_12 : Fld Z h12 a1 "com/example/prewrm/prewrm/model/ReplayConfig" "capacity" "I" (.int (0 : Int32)) := F_capacity_a1_9.ext E12
  have F_warmUpMs_a1_12 : Fld Z h12 a1 "com/example/prewrm/prewrm/model/ReplayConfig" "warmUpMs" "J" (.long (0 : Int64)) := F_warmUpMs_a1_9.ext E12
  have F_hopMs_a1_12 : Fld Z h12 a1 "com/example/prewrm/prewrm/model/ReplayConfig" "hopMs" "J" (.long (0 : Int64)) := F_hopMs_a1_9.ext E12
  have K12 := K9.ext E12
  have Zs12 := Nat.le_trans Zs9 E12.1
  obtain ⟨_, _, ⟨T13, L13, k13, n13⟩, -, X13, ⟨Lc13, hQ13, l13, y13, z13⟩, st13⟩ := Jvm.LawKit.callS X12 hx (y := (⟨"com/example/prewrm/prewrm/model/ReplayConfig", "checkAtLeast", "(Ljava/lang/String;JJ)V"⟩ : MethodName)) hown (mvT hZ (hw _ (List.mem_of_getElem? (i := 28) rfl))) (mvT hZ (hw _ (List.mem_of_getElem? (i := 29) rfl))) (mvT hZ (hw _ (List.mem_of_getElem? (i := 7) rfl))) (mvT hZ (hw _ (List.mem_of_getElem? (i := 30) rfl))) (by decide) (backOf (W := 0) (rm5 l Z a0 hw [] cs12 q4 (0 : Int64) h12 n0 Zs12 hk) hZ (hw _ (List.mem_of_getElem? (i := 30) rfl)) (hw _ (List.mem_of_getElem? (i := 7) rfl)) (by decide) (by decide)) (g := (mkF m 34 #[.val (.ref a1), .val (.int p2), .val (.int p3), .val (.long q4), .second, .val (.long q5), .second, .val (.long q6), .second, .val (.int p7), .val (.int p8), .val (.long q9), .second, .val (.long q10), .second] [(.long (0 : Int64)), (.long q4), (.ref cs12)])) rfl (by rw [hml]; rfl) (argsL := [(.ref cs12), (.long q4), (.long (0 : Int64))]) (rest := []) (lenOf pd_0 rfl) rfl (by show 2 * 0 + _ ≤ _; exact Nat.le_of_eq rfl) (hb hby d3_34) (fun _ _ => ⟨rfl, e12, (by decide : 8 + 0 ≤ _), (by decide : 172 + 0 ≤ _)⟩)
  dsimp only [Pt.U, Pt.locs, Pt.cells, Pt.slots] at X13 l13 y13 z13 st13 hQ13
  subst l13 y13 z13
  obtain ⟨rfl, N13q, e13⟩ := hQ13
  have N13 := Fr.app N10 N13q
  have pre14 : ∀ t, Steps p.tables e below (T13.setTop (mkF m 37 #[.val (.ref a1), .val (.int p2), .val (.int p3), .val (.long q4), .second, .val (.long q5), .second, .val (.long q6), .second, .val (.int p7), .val (.int p8), .val (.long q9), .second, .val (.long q10), .second] [])) t → Steps p.tables e below (s₁.setTop (entryFrame m #[(.ref a1), (.int p2), (.int p3), (.long q4), (.long q5), (.long q6), (.int p7), (.int p8), (.long q9), (.long q10)] 15)) t := fun t k => pre11 t (by
    show Steps p.tables e below (T10.setTop (mkF m 30 #[.val (.ref a1), .val (.int p2), .val (.int p3), .val (.long q4), .second, .val (.long q5), .second, .val (.long q6), .second, .val (.int p7), .val (.int p8), .val (.long q9), .second, .val (.long q10), .second] [])) _
    refine st12 _ ?_
    show Steps p.tables e below (T12.setTop (mkF m 32 #[.val (.ref a1), .val (.int p2), .val (.int p3), .val (.long q4), .second, .val (.long q5), .second, .val (.long q6), .second, .val (.int p7), .val (.int p8), .val (.long q9), .second, .val (.long q10), .second] [(.ref cs12)])) _
    refine XS.lloadN X12.here hx rfl (hb hby d3_32) rfl ?_
    show Steps p.tables e below (T12.setTop (mkF m 33 #[.val (.ref a1), .val (.int p2), .val (.int p3), .val (.long q4), .second, .val (.long q5), .second, .val (.long q6), .second, .val (.int p7), .val (.int p8), .val (.long q9), .second, .val (.long q10), .second] [(.long q4), (.ref cs12)])) _
    refine XS.lconst X12.here hx rfl (hb hby d3_33) ?_
    show Steps p.tables e below (T12.setTop (mkF m 34 #[.val (.ref a1), .val (.int p2), .val (.int p3), .val (.long q4), .second, .val (.long q5), .second, .val (.long q6), .second, .val (.int p7), .val (.int p8), .val (.long q9), .second, .val (.long q10), .second] [(.long (0 : Int64)), (.long q4), (.ref cs12)])) _
    refine st13 _ ?_
    exact k)
  obtain ⟨cs15, T15, X15, Sq15, ⟨kr15, hk15, hr15⟩, hb15, -, st15⟩ := X13.ldcStringCold (s := s.setVm T12.vm) hx (own := "com/example/prewrm/prewrm/model/ReplayConfig") hown (mvS hZ (hw _ (List.mem_of_getElem? (i := 34) rfl))) (own_atoms hZ (fun d hd => hw d ((by decide +kernel : ∀ d ∈ Bundle.stringAtoms, d ∈ tables_1) d hd))) (g := (mkF m 37 #[.val (.ref a1), .val (.int p2), .val (.int p3), .val (.long q4), .second, .val (.long q5), .second, .val (.long q6), .second, .val (.int p7), .val (.int p8), .val (.long q9), .second, .val (.long q10), .second] [])) rfl (hb hby d3_37) (n := 44) (by decide) (by decide) (by decide) (by decide)
  obtain ⟨h15, e15⟩ : ∃ z, T15.heap = z := ⟨_, rfl⟩
  have E15 : Ext h12 h15 := by rw [← e13, ← e15]; exact ext_of hb15
  have X15 : Stand p l e ({ frames := 1, cells := 16, slots := 324, locals := 16 } : Room) (s.setVm T15.vm) m #[(.ref a1), (.int p2), (.int p3), (.long q4), (.long q5), (.long q6), (.int p7), (.int p8), (.long q9), (.long q10)] below meth c T15 _ _ _ := X15
  have Si15 : s.Since T15.vm T15.heap.size := foldS (T := T13) Si12 (Nat.le_trans Sk12 (Nat.le_of_eq (congrArg Array.size (Eq.symm e13)))) Sq15 (ext_of hb15).1
  have Sk15 : T15.heap.size ≤ h15.size := Nat.le_of_eq (by rw [e15])
  have hZ : Z.Warmed39 (s.setVm T15.vm).vm := State.Warmed39.trans (t := s.setVm T12.vm) hZ Sq15.1
  have hown : (s.setVm T15.vm).vm.findClass "com/example/prewrm/prewrm/model/ReplayConfig" = some m.cls := by rw [show (s.setVm T15.vm).vm = T15.vm from rfl, Sq15.1.alike.findClass]; exact hown
  have Lt19_15 := Lit.stays Lt19_12 Sq15.1
  have Lt25_15 := Lit.stays Lt25_12 Sq15.1
  have Lt27_15 := Lit.stays Lt27_12 Sq15.1
  have Lt29_15 := Lit.stays Lt29_12 Sq15.1
  have Lt31_15 : Lit (s.setVm T15.vm) "com/example/prewrm/prewrm/model/ReplayConfig" 31 cs15 := by
    have hf : T15.vm.findClass "com/example/prewrm/prewrm/model/ReplayConfig" = some m.cls := hown
    simp [Lit, State.resolvedAt?, hf, hk15, hr15]
  have E_a1_15 : Exa Z h15 a1 "com/example/prewrm/prewrm/model/ReplayConfig" := E_a1_12.ext E15
  have F_servers_a1_15 : Fld Z h15 a1 "com/example/prewrm/prewrm/model/ReplayConfig" "servers" "I" (.int (0 : Int32)) := F_servers_a1_12.ext E15
  have F_sharding_a1_15 : Fld Z h15 a1 "com/example/prewrm/prewrm/model/ReplayConfig" "sharding" "Z" (.int (0 : Int32)) := F_sharding_a1_12.ext E15
  have F_keepAliveMs_a1_15 : Fld Z h15 a1 "com/example/prewrm/prewrm/model/ReplayConfig" "keepAliveMs" "J" (.long (0 : Int64)) := F_keepAliveMs_a1_12.ext E15
  have F_coldStartMs_a1_15 : Fld Z h15 a1 "com/example/prewrm/prewrm/model/ReplayConfig" "coldStartMs" "J" (.long (0 : Int64)) := F_coldStartMs_a1_12.ext E15
  have F_durationMs_a1_15 : Fld Z h15 a1 "com/example/prewrm/prewrm/model/ReplayConfig" "durationMs" "J" (.long (0 : Int64)) := F_durationMs_a1_12.ext E15
  have F_maxConcurrent_a1_15 : Fld Z h15 a1 "com/example/prewrm/prewrm/model/ReplayConfig" "maxConcurrent" "I" (.int (0 : Int32)) := F_maxConcurrent_a1_12.ext E15
  have F_capacity_a1_15 : Fld Z h15 a1 "com/example/prewrm/prewrm/model/ReplayConfig" "capacity" "I" (.int (0 : Int32)) := F_capacity_a1_12.ext E15
  have F_warmUpMs_a1_15 : Fld Z h15 a1 "com/example/prewrm/prewrm/model/ReplayConfig" "warmUpMs" "J" (.long (0 : Int64)) := F_warmUpMs_a1_12.ext E15
  have F_hopMs_a1_15 : Fld Z h15 a1 "com/example/prewrm/prewrm/model/ReplayConfig" "hopMs" "J" (.long (0 : Int64)) := F_hopMs_a1_12.ext E15
  have K15 := K12.ext E15
  have Zs15 := Nat.le_trans Zs12 E15.1
  obtain ⟨_, _, ⟨T16, L16, k16, n16⟩, -, X16, ⟨Lc16, hQ16, l16, y16, z16⟩, st16⟩ := Jvm.LawKit.callS X15 hx (y := (⟨"com/example/prewrm/prewrm/model/ReplayConfig", "checkAtLeast", "(Ljava/lang/String;JJ)V"⟩ : MethodName)) hown (mvT hZ (hw _ (List.mem_of_getElem? (i := 28) rfl))) (mvT hZ (hw _ (List.mem_of_getElem? (i := 29) rfl))) (mvT hZ (hw _ (List.mem_of_getElem? (i := 7) rfl))) (mvT hZ (hw _ (List.mem_of_getElem? (i := 30) rfl))) (by decide) (backOf (W := 0) (rm5 l Z a0 hw [] cs15 q5 (0 : Int64) h15 n0 Zs15 hcs) hZ (hw _ (List.mem_of_getElem? (i := 30) rfl)) (hw _ (List.mem_of_getElem? (i := 7) rfl)) (by decide) (by decide)) (g := (mkF m 42 #[.val (.ref a1), .val (.int p2), .val (.int p3), .val (.long q4), .second, .val (.long q5), .second, .val (.long q6), .second, .val (.int p7), .val (.int p8), .val (.long q9), .second, .val (.long q10), .second] [(.long (0 : Int64)), (.long q5), (.ref cs15)])) rfl (by rw [hml]; rfl) (argsL := [(.ref cs15), (.long q5), (.long (0 : Int64))]) (rest := []) (lenOf pd_0 rfl) rfl (by show 2 * 0 + _ ≤ _; exact Nat.le_of_eq rfl) (hb hby d3_42) (fun _ _ => ⟨rfl, e15, (by decide : 10 + 0 ≤ _), (by decide : 220 + 0 ≤ _)⟩)
  dsimp only [Pt.U, Pt.locs, Pt.cells, Pt.slots] at X16 l16 y16 z16 st16 hQ16
  subst l16 y16 z16
  obtain ⟨rfl, N16q, e16⟩ := hQ16
  have N16 := Fr.app N13 N16q
  have pre17 : ∀ t, Steps p.tables e below (T16.setTop (mkF m 45 #[.val (.ref a1), .val (.int p2), .val (.int p3), .val (.long q4), .second, .val (.long q5), .second, .val (.long q6), .second, .val (.int p7), .val (.int p8), .val (.long q9), .second, .val (.long q10), .second] [])) t → Steps p.tables e below (s₁.setTop (entryFrame m #[(.ref a1), (.int p2), (.int p3), (.long q4), (.long q5), (.long q6), (.int p7), (.int p8), (.long q9), (.long q10)] 15)) t := fun t k => pre14 t (by
    show Steps p.tables e below (T13.setTop (mkF m 37 #[.val (.ref a1), .val (.int p2), .val (.int p3), .val (.long q4), .second, .val (.long q5), .second, .val (.long q6), .second, .val (.int p7), .val (.int p8), .val (.long q9), .second, .val (.long q10), .second] [])) _
    refine st15 _ ?_
    show Steps p.tables e below (T15.setTop (mkF m 39 #[.val (.ref a1), .val (.int p2), .val (.int p3), .val (.long q4), .second, .val (.long q5), .second, .val (.long q6), .second, .val (.int p7), .val (.int p8), .val (.long q9), .second, .val (.long q10), .second] [(.ref cs15)])) _
    refine XS.lload X15.here hx rfl (hb hby d3_39) rfl ?_
    show Steps p.tables e below (T15.setTop (mkF m 41 #[.val (.ref a1), .val (.int p2), .val (.int p3), .val (.long q4), .second, .val (.long q5), .second, .val (.long q6), .second, .val (.int p7), .val (.int p8), .val (.long q9), .second, .val (.long q10), .second] [(.long q5), (.ref cs15)])) _
    refine XS.lconst X15.here hx rfl (hb hby d3_41) ?_
    show Steps p.tables e below (T15.setTop (mkF m 42 #[.val (.ref a1), .val (.int p2), .val (.int p3), .val (.long q4), .second, .val (.long q5), .second, .val (.long q6), .second, .val (.int p7), .val (.int p8), .val (.long q9), .second, .val (.long q10), .second] [(.long (0 : Int64)), (.long q5), (.ref cs15)])) _
    refine st16 _ ?_
    exact k)
  obtain ⟨cs18, T18, X18, Sq18, ⟨kr18, hk18, hr18⟩, hb18, -, st18⟩ := X16.ldcStringCold (s := s.setVm T15.vm) hx (own := "com/example/prewrm/prewrm/model/ReplayConfig") hown (mvS hZ (hw _ (List.mem_of_getElem? (i := 35) rfl))) (own_atoms hZ (fun d hd => hw d ((by decide +kernel : ∀ d ∈ Bundle.stringAtoms, d ∈ tables_1) d hd))) (g := (mkF m 45 #[.val (.ref a1), .val (.int p2), .val (.int p3), .val (.long q4), .second, .val (.long q5), .second, .val (.long q6), .second, .val (.int p7), .val (.int p8), .val (.long q9), .second, .val (.long q10), .second] [])) rfl (hb hby d3_45) (n := 40) (by decide) (by decide) (by decide) (by decide)
  obtain ⟨h18, e18⟩ : ∃ z, T18.heap = z := ⟨_, rfl⟩
  have E18 : Ext h15 h18 := by rw [← e16, ← e18]; exact ext_of hb18
  have X18 : Stand p l e ({ frames := 1, cells := 16, slots := 324, locals := 16 } : Room) (s.setVm T18.vm) m #[(.ref a1), (.int p2), (.int p3), (.long q4), (.long q5), (.long q6), (.int p7), (.int p8), (.long q9), (.long q10)] below meth c T18 _ _ _ := X18
  have Si18 : s.Since T18.vm T18.heap.size := foldS (T := T16) Si15 (Nat.le_trans Sk15 (Nat.le_of_eq (congrArg Array.size (Eq.symm e16)))) Sq18 (ext_of hb18).1
  have Sk18 : T18.heap.size ≤ h18.size := Nat.le_of_eq (by rw [e18])
  have hZ : Z.Warmed39 (s.setVm T18.vm).vm := State.Warmed39.trans (t := s.setVm T15.vm) hZ Sq18.1
  have hown : (s.setVm T18.vm).vm.findClass "com/example/prewrm/prewrm/model/ReplayConfig" = some m.cls := by rw [show (s.setVm T18.vm).vm = T18.vm from rfl, Sq18.1.alike.findClass]; exact hown
  have Lt19_18 := Lit.stays Lt19_15 Sq18.1
  have Lt25_18 := Lit.stays Lt25_15 Sq18.1
  have Lt27_18 := Lit.stays Lt27_15 Sq18.1
  have Lt29_18 := Lit.stays Lt29_15 Sq18.1
  have Lt31_18 := Lit.stays Lt31_15 Sq18.1
  have Lt33_18 : Lit (s.setVm T18.vm) "com/example/prewrm/prewrm/model/ReplayConfig" 33 cs18 := by
    have hf : T18.vm.findClass "com/example/prewrm/prewrm/model/ReplayConfig" = some m.cls := hown
    simp [Lit, State.resolvedAt?, hf, hk18, hr18]
  have E_a1_18 : Exa Z h18 a1 "com/example/prewrm/prewrm/model/ReplayConfig" := E_a1_15.ext E18
  have F_servers_a1_18 : Fld Z h18 a1 "com/example/prewrm/prewrm/model/ReplayConfig" "servers" "I" (.int (0 : Int32)) := F_servers_a1_15.ext E18
  have F_sharding_a1_18 : Fld Z h18 a1 "com/example/prewrm/prewrm/model/ReplayConfig" "sharding" "Z" (.int (0 : Int32)) := F_sharding_a1_15.ext E18
  have F_keepAliveMs_a1_18 : Fld Z h18 a1 "com/example/prewrm/prewrm/model/ReplayConfig" "keepAliveMs" "J" (.long (0 : Int64)) := F_keepAliveMs_a1_15.ext E18
  have F_coldStartMs_a1_18 : Fld Z h18 a1 "com/example/prewrm/prewrm/model/ReplayConfig" "coldStartMs" "J" (.long (0 : Int64)) := F_coldStartMs_a1_15.ext E18
  have F_durationMs_a1_18 : Fld Z h18 a1 "com/example/prewrm/prewrm/model/ReplayConfig" "durationMs" "J" (.long (0 : Int64)) := F_durationMs_a1_15.ext E18
  have F_maxConcurrent_a1_18 : Fld Z h18 a1 "com/example/prewrm/prewrm/model/ReplayConfig" "maxConcurrent" "I" (.int (0 : Int32)) := F_maxConcurrent_a1_15.ext E18
  have F_capacity_a1_18 : Fld Z h18 a1 "com/example/prewrm/prewrm/model/ReplayConfig" "capacity" "I" (.int (0 : Int32)) := F_capacity_a1_15.ext E18
  have F_warmUpMs_a1_18 : Fld Z h18 a1 "com/example/prewrm/prewrm/model/ReplayConfig" "warmUpMs" "J" (.long (0 : Int64)) := F_warmUpMs_a1_15.ext E18
  have F_hopMs_a1_18 : Fld Z h18 a1 "com/example/prewrm/prewrm/model/ReplayConfig" "hopMs" "J" (.long (0 : Int64)) := F_hopMs_a1_15.ext E18
  have K18 := K15.ext E18
  have Zs18 := Nat.le_trans Zs15 E18.1
  obtain ⟨_, _, ⟨T19, L19, k19, n19⟩, -, X19, ⟨Lc19, hQ19, l19, y19, z19⟩, st19⟩ := Jvm.LawKit.callS X18 hx (y := (⟨"com/example/prewrm/prewrm/model/ReplayConfig", "checkAtLeast", "(Ljava/lang/String;JJ)V"⟩ : MethodName)) hown (mvT hZ (hw _ (List.mem_of_getElem? (i := 28) rfl))) (mvT hZ (hw _ (List.mem_of_getElem? (i := 29) rfl))) (mvT hZ (hw _ (List.mem_of_getElem? (i := 7) rfl))) (mvT hZ (hw _ (List.mem_of_getElem? (i := 30) rfl))) (by decide) (backOf (W := 0) (rm5 l Z a0 hw [] cs18 q6 (0 : Int64) h18 n0 Zs18 hd) hZ (hw _ (List.mem_of_getElem? (i := 30) rfl)) (hw _ (List.mem_of_getElem? (i := 7) rfl)) (by decide) (by decide)) (g := (mkF m 50 #[.val (.ref a1), .val (.int p2), .val (.int p3), .val (.long q4), .second, .val (.long q5), .second, .val (.long q6), .second, .val (.int p7), .val (.int p8), .val (.long q9), .second, .val (.long q10), .second] [(.long (0 : Int64)), (.long q6), (.ref cs18)])) rfl (by rw [hml]; rfl) (argsL := [(.ref cs18), (.long q6), (.long (0 : Int64))]) (rest := []) (lenOf pd_0 rfl) rfl (by show 2 * 0 + _ ≤ _; exact Nat.le_of_eq rfl) (hb hby d3_50) (fun _ _ => ⟨rfl, e18, (by decide : 12 + 0 ≤ _), (by decide : 264 + 0 ≤ _)⟩)
  dsimp only [Pt.U, Pt.locs, Pt.cells, Pt.slots] at X19 l19 y19 z19 st19 hQ19
  subst l19 y19 z19
  obtain ⟨rfl, N19q, e19⟩ := hQ19
  have N19 := Fr.app N16 N19q
  have pre20 : ∀ t, Steps p.tables e below (T19.setTop (mkF m 53 #[.val (.ref a1), .val (.int p2), .val (.int p3), .val (.long q4), .second, .val (.long q5), .second, .val (.long q6), .second, .val (.int p7), .val (.int p8), .val (.long q9), .second, .val (.long q10), .second] [])) t → Steps p.tables e below (s₁.setTop (entryFrame m #[(.ref a1), (.int p2), (.int p3), (.long q4), (.long q5), (.long q6), (.int p7), (.int p8), (.long q9), (.long q10)] 15)) t := fun t k => pre17 t (by
    show Steps p.tables e below (T16.setTop (mkF m 45 #[.val (.ref a1), .val (.int p2), .val (.int p3), .val (.long q4), .second, .val (.long q5), .second, .val (.long q6), .second, .val (.int p7), .val (.int p8), .val (.long q9), .second, .val (.long q10), .second] [])) _
    refine st18 _ ?_
    show Steps p.tables e below (T18.setTop (mkF m 47 #[.val (.ref a1), .val (.int p2), .val (.int p3), .val (.long q4), .second, .val (.long q5), .second, .val (.long q6), .second, .val (.int p7), .val (.int p8), .val (.long q9), .second, .val (.long q10), .second] [(.ref cs18)])) _
    refine XS.lload X18.here hx rfl (hb hby d3_47) rfl ?_
    show Steps p.tables e below (T18.setTop (mkF m 49 #[.val (.ref a1), .val (.int p2), .val (.int p3), .val (.long q4), .second, .val (.long q5), .second, .val (.long q6), .second, .val (.int p7), .val (.int p8), .val (.long q9), .second, .val (.long q10), .second] [(.long q6), (.ref cs18)])) _
    refine XS.lconst X18.here hx rfl (hb hby d3_49) ?_
    show Steps p.tables e below (T18.setTop (mkF m 50 #[.val (.ref a1), .val (.int p2), .val (.int p3), .val (.long q4), .second, .val (.long q5), .second, .val (.long q6), .second, .val (.int p7), .val (.int p8), .val (.long q9), .second, .val (.long q10), .second] [(.long (0 : Int64)), (.long q6), (.ref cs18)])) _
    refine st19 _ ?_
    exact k)
  obtain ⟨cs21, T21, X21, Sq21, ⟨kr21, hk21, hr21⟩, hb21, -, st21⟩ := X19.ldcStringCold (s := s.setVm T18.vm) hx (own := "com/example/prewrm/prewrm/model/ReplayConfig") hown (mvS hZ (hw _ (List.mem_of_getElem? (i := 36) rfl))) (own_atoms hZ (fun d hd => hw d ((by decide +kernel : ∀ d ∈ Bundle.stringAtoms, d ∈ tables_1) d hd))) (g := (mkF m 53 #[.val (.ref a1), .val (.int p2), .val (.int p3), .val (.long q4), .second, .val (.long q5), .second, .val (.long q6), .second, .val (.int p7), .val (.int p8), .val (.long q9), .second, .val (.long q10), .second] [])) rfl (hb hby d3_53) (n := 32) (by decide) (by decide) (by decide) (by decide)
  obtain ⟨h21, e21⟩ : ∃ z, T21.heap = z := ⟨_, rfl⟩
  have E21 : Ext h18 h21 := by rw [← e19, ← e21]; exact ext_of hb21
  have X21 : Stand p l e ({ frames := 1, cells := 16, slots := 324, locals := 16 } : Room) (s.setVm T21.vm) m #[(.ref a1), (.int p2), (.int p3), (.long q4), (.long q5), (.long q6), (.int p7), (.int p8), (.long q9), (.long q10)] below meth c T21 _ _ _ := X21
  have Si21 : s.Since T21.vm T21.heap.size := foldS (T := T19) Si18 (Nat.le_trans Sk18 (Nat.le_of_eq (congrArg Array.size (Eq.symm e19)))) Sq21 (ext_of hb21).1
  have Sk21 : T21.heap.size ≤ h21.size := Nat.le_of_eq (by rw [e21])
  have hZ : Z.Warmed39 (s.setVm T21.vm).vm := State.Warmed39.trans (t := s.setVm T18.vm) hZ Sq21.1
  have hown : (s.setVm T21.vm).vm.findClass "com/example/prewrm/prewrm/model/ReplayConfig" = some m.cls := by rw [show (s.setVm T21.vm).vm = T21.vm from rfl, Sq21.1.alike.findClass]; exact hown
  have Lt19_21 := Lit.stays Lt19_18 Sq21.1
  have Lt25_21 := Lit.stays Lt25_18 Sq21.1
  have Lt27_21 := Lit.stays Lt27_18 Sq21.1
  have Lt29_21 := Lit.stays Lt29_18 Sq21.1
  have Lt31_21 := Lit.stays Lt31_18 Sq21.1
  have Lt33_21 := Lit.stays Lt33_18 Sq21.1
  have Lt35_21 : Lit (s.setVm T21.vm) "com/example/prewrm/prewrm/model/ReplayConfig" 35 cs21 := by
    have hf : T21.vm.findClass "com/example/prewrm/prewrm/model/ReplayConfig" = some m.cls := hown
    simp [Lit, State.resolvedAt?, hf, hk21, hr21]
  have E_a1_21 : Exa Z h21 a1 "com/example/prewrm/prewrm/model/ReplayConfig" := E_a1_18.ext E21
  have F_servers_a1_21 : Fld Z h21 a1 "com/example/prewrm/prewrm/model/ReplayConfig" "servers" "I" (.int (0 : Int32)) := F_servers_a1_18.ext E21
  have F_sharding_a1_21 : Fld Z h21 a1 "com/example/prewrm/prewrm/model/ReplayConfig" "sharding" "Z" (.int (0 : Int32)) := F_sharding_a1_18.ext E21
  have F_keepAliveMs_a1_21 : Fld Z h21 a1 "com/example/prewrm/prewrm/model/ReplayConfig" "keepAliveMs" "J" (.long (0 : Int64)) := F_keepAliveMs_a1_18.ext E21
  have F_coldStartMs_a1_21 : Fld Z h21 a1 "com/example/prewrm/prewrm/model/ReplayConfig" "coldStartMs" "J" (.long (0 : Int64)) := F_coldStartMs_a1_18.ext E21
  have F_durationMs_a1_21 : Fld Z h21 a1 "com/example/prewrm/prewrm/model/ReplayConfig" "durationMs" "J" (.long (0 : Int64)) := F_durationMs_a1_18.ext E21
  have F_maxConcurrent_a1_21 : Fld Z h21 a1 "com/example/prewrm/prewrm/model/ReplayConfig" "maxConcurrent" "I" (.int (0 : Int32)) := F_maxConcurrent_a1_18.ext E21
  have F_capacity_a1_21 : Fld Z h21 a1 "com/example/prewrm/prewrm/model/ReplayConfig" "capacity" "I" (.int (0 : Int32)) := F_capacity_a1_18.ext E21
  have F_warmUpMs_a1_21 : Fld Z h21 a1 "com/example/prewrm/prewrm/model/ReplayConfig" "warmUpMs" "J" (.long (0 : Int64)) := F_warmUpMs_a1_18.ext E21
  have F_hopMs_a1_21 : Fld Z h21 a1 "com/example/prewrm/prewrm/model/ReplayConfig" "hopMs" "J" (.long (0 : Int64)) := F_hopMs_a1_18.ext E21
  have K21 := K18.ext E21
  have Zs21 := Nat.le_trans Zs18 E21.1
  obtain ⟨_, _, ⟨T22, L22, k22, n22⟩, -, X22, ⟨Lc22, hQ22, l22, y22, z22⟩, st22⟩ := Jvm.LawKit.callS X21 hx (y := (⟨"com/example/prewrm/prewrm/model/ReplayConfig", "checkAtLeast", "(Ljava/lang/String;JJ)V"⟩ : MethodName)) hown (mvT hZ (hw _ (List.mem_of_getElem? (i := 28) rfl))) (mvT hZ (hw _ (List.mem_of_getElem? (i := 29) rfl))) (mvT hZ (hw _ (List.mem_of_getElem? (i := 7) rfl))) (mvT hZ (hw _ (List.mem_of_getElem? (i := 30) rfl))) (by decide) (backOf (W := 0) (rm5 l Z a0 hw [] cs21 q9 (0 : Int64) h21 n0 Zs21 hw_) hZ (hw _ (List.mem_of_getElem? (i := 30) rfl)) (hw _ (List.mem_of_getElem? (i := 7) rfl)) (by decide) (by decide)) (g := (mkF m 58 #[.val (.ref a1), .val (.int p2), .val (.int p3), .val (.long q4), .second, .val (.long q5), .second, .val (.long q6), .second, .val (.int p7), .val (.int p8), .val (.long q9), .second, .val (.long q10), .second] [(.long (0 : Int64)), (.long q9), (.ref cs21)])) rfl (by rw [hml]; rfl) (argsL := [(.ref cs21), (.long q9), (.long (0 : Int64))]) (rest := []) (lenOf pd_0 rfl) rfl (by show 2 * 0 + _ ≤ _; exact Nat.le_of_eq rfl) (hb hby d3_58) (fun _ _ => ⟨rfl, e21, (by decide : 14 + 0 ≤ _), (by decide : 300 + 0 ≤ _)⟩)
  dsimp only [Pt.U, Pt.locs, Pt.cells, Pt.slots] at X22 l22 y22 z22 st22 hQ22
  subst l22 y22 z22
  obtain ⟨rfl, N22q, e22⟩ := hQ22
  have N22 := Fr.app N19 N22q
  have pre23 : ∀ t, Steps p.tables e below (T22.setTop (mkF m 61 #[.val (.ref a1), .val (.int p2), .val (.int p3), .val (.long q4), .second, .val (.long q5), .second, .val (.long q6), .second, .val (.int p7), .val (.int p8), .val (.long q9), .second, .val (.long q10), .second] [])) t → Steps p.tables e below (s₁.setTop (entryFrame m #[(.ref a1), (.int p2), (.int p3), (.long q4), (.long q5), (.long q6), (.int p7), (.int p8), (.long q9), (.long q10)] 15)) t := fun t k => pre20 t (by
    show Steps p.tables e below (T19.setTop (mkF m 53 #[.val (.ref a1), .val (.int p2), .val (.int p3), .val (.long q4), .second, .val (.long q5), .second, .val (.long q6), .second, .val (.int p7), .val (.int p8), .val (.long q9), .second, .val (.long q10), .second] [])) _
    refine st21 _ ?_
    show Steps p.tables e below (T21.setTop (mkF m 55 #[.val (.ref a1), .val (.int p2), .val (.int p3), .val (.long q4), .second, .val (.long q5), .second, .val (.long q6), .second, .val (.int p7), .val (.int p8), .val (.long q9), .second, .val (.long q10), .second] [(.ref cs21)])) _
    refine XS.lload X21.here hx rfl (hb hby d3_55) rfl ?_
    show Steps p.tables e below (T21.setTop (mkF m 57 #[.val (.ref a1), .val (.int p2), .val (.int p3), .val (.long q4), .second, .val (.long q5), .second, .val (.long q6), .second, .val (.int p7), .val (.int p8), .val (.long q9), .second, .val (.long q10), .second] [(.long q9), (.ref cs21)])) _
    refine XS.lconst X21.here hx rfl (hb hby d3_57) ?_
    show Steps p.tables e below (T21.setTop (mkF m 58 #[.val (.ref a1), .val (.int p2), .val (.int p3), .val (.long q4), .second, .val (.long q5), .second, .val (.long q6), .second, .val (.int p7), .val (.int p8), .val (.long q9), .second, .val (.long q10), .second] [(.long (0 : Int64)), (.long q9), (.ref cs21)])) _
    refine st22 _ ?_
    exact k)
  obtain ⟨cs24, T24, X24, Sq24, ⟨kr24, hk24, hr24⟩, hb24, -, st24⟩ := X22.ldcStringCold (s := s.setVm T21.vm) hx (own := "com/example/prewrm/prewrm/model/ReplayConfig") hown (mvS hZ (hw _ (List.mem_of_getElem? (i := 37) rfl))) (own_atoms hZ (fun d hd => hw d ((by decide +kernel : ∀ d ∈ Bundle.stringAtoms, d ∈ tables_1) d hd))) (g := (mkF m 61 #[.val (.ref a1), .val (.int p2), .val (.int p3), .val (.long q4), .second, .val (.long q5), .second, .val (.long q6), .second, .val (.int p7), .val (.int p8), .val (.long q9), .second, .val (.long q10), .second] [])) rfl (hb hby d3_61) (n := 20) (by decide) (by decide) (by decide) (by decide)
  obtain ⟨h24, e24⟩ : ∃ z, T24.heap = z := ⟨_, rfl⟩
  have E24 : Ext h21 h24 := by rw [← e22, ← e24]; exact ext_of hb24
  have X24 : Stand p l e ({ frames := 1, cells := 16, slots := 324, locals := 16 } : Room) (s.setVm T24.vm) m #[(.ref a1), (.int p2), (.int p3), (.long q4), (.long q5), (.long q6), (.int p7), (.int p8), (.long q9), (.long q10)] below meth c T24 _ _ _ := X24
  have Si24 : s.Since T24.vm T24.heap.size := foldS (T := T22) Si21 (Nat.le_trans Sk21 (Nat.le_of_eq (congrArg Array.size (Eq.symm e22)))) Sq24 (ext_of hb24).1
  have Sk24 : T24.heap.size ≤ h24.size := Nat.le_of_eq (by rw [e24])
  have hZ : Z.Warmed39 (s.setVm T24.vm).vm := State.Warmed39.trans (t := s.setVm T21.vm) hZ Sq24.1
  have hown : (s.setVm T24.vm).vm.findClass "com/example/prewrm/prewrm/model/ReplayConfig" = some m.cls := by rw [show (s.setVm T24.vm).vm = T24.vm from rfl, Sq24.1.alike.findClass]; exact hown
  have Lt19_24 := Lit.stays Lt19_21 Sq24.1
  have Lt25_24 := Lit.stays Lt25_21 Sq24.1
  have Lt27_24 := Lit.stays Lt27_21 Sq24.1
  have Lt29_24 := Lit.stays Lt29_21 Sq24.1
  have Lt31_24 := Lit.stays Lt31_21 Sq24.1
  have Lt33_24 := Lit.stays Lt33_21 Sq24.1
  have Lt35_24 := Lit.stays Lt35_21 Sq24.1
  have Lt37_24 : Lit (s.setVm T24.vm) "com/example/prewrm/prewrm/model/ReplayConfig" 37 cs24 := by
    have hf : T24.vm.findClass "com/example/prewrm/prewrm/model/ReplayConfig" = some m.cls := hown
    simp [Lit, State.resolvedAt?, hf, hk24, hr24]
  have E_a1_24 : Exa Z h24 a1 "com/example/prewrm/prewrm/model/ReplayConfig" := E_a1_21.ext E24
  have F_servers_a1_24 : Fld Z h24 a1 "com/example/prewrm/prewrm/model/ReplayConfig" "servers" "I" (.int (0 : Int32)) := F_servers_a1_21.ext E24
  have F_sharding_a1_24 : Fld Z h24 a1 "com/example/prewrm/prewrm/model/ReplayConfig" "sharding" "Z" (.int (0 : Int32)) := F_sharding_a1_21.ext E24
  have F_keepAliveMs_a1_24 : Fld Z h24 a1 "com/example/prewrm/prewrm/model/ReplayConfig" "keepAliveMs" "J" (.long (0 : Int64)) := F_keepAliveMs_a1_21.ext E24
  have F_coldStartMs_a1_24 : Fld Z h24 a1 "com/example/prewrm/prewrm/model/ReplayConfig" "coldStartMs" "J" (.long (0 : Int64)) := F_coldStartMs_a1_21.ext E24
  have F_durationMs_a1_24 : Fld Z h24 a1 "com/example/prewrm/prewrm/model/ReplayConfig" "durationMs" "J" (.long (0 : Int64)) := F_durationMs_a1_21.ext E24
  have F_maxConcurrent_a1_24 : Fld Z h24 a1 "com/example/prewrm/prewrm/model/ReplayConfig" "maxConcurrent" "I" (.int (0 : Int32)) := F_maxConcurrent_a1_21.ext E24
  have F_capacity_a1_24 : Fld Z h24 a1 "com/example/prewrm/prewrm/model/ReplayConfig" "capacity" "I" (.int (0 : Int32)) := F_capacity_a1_21.ext E24
  have F_warmUpMs_a1_24 : Fld Z h24 a1 "com/example/prewrm/prewrm/model/ReplayConfig" "warmUpMs" "J" (.long (0 : Int64)) := F_warmUpMs_a1_21.ext E24
  have F_hopMs_a1_24 : Fld Z h24 a1 "com/example/prewrm/prewrm/model/ReplayConfig" "hopMs" "J" (.long (0 : Int64)) := F_hopMs_a1_21.ext E24
  have K24 := K21.ext E24
  have Zs24 := Nat.le_trans Zs21 E24.1
  obtain ⟨_, _, ⟨T25, L25, k25, n25⟩, -, X25, ⟨Lc25, hQ25, l25, y25, z25⟩, st25⟩ := Jvm.LawKit.callS X24 hx (y := (⟨"com/example/prewrm/prewrm/model/ReplayConfig", "checkAtLeast", "(Ljava/lang/String;JJ)V"⟩ : MethodName)) hown (mvT hZ (hw _ (List.mem_of_getElem? (i := 28) rfl))) (mvT hZ (hw _ (List.mem_of_getElem? (i := 29) rfl))) (mvT hZ (hw _ (List.mem_of_getElem? (i := 7) rfl))) (mvT hZ (hw _ (List.mem_of_getElem? (i := 30) rfl))) (by decide) (backOf (W := 0) (rm5 l Z a0 hw [] cs24 q10 (0 : Int64) h24 n0 Zs24 hh_) hZ (hw _ (List.mem_of_getElem? (i := 30) rfl)) (hw _ (List.mem_of_getElem? (i := 7) rfl)) (by decide) (by decide)) (g := (mkF m 66 #[.val (.ref a1), .val (.int p2), .val (.int p3), .val (.long q4), .second, .val (.long q5), .second, .val (.long q6), .second, .val (.int p7), .val (.int p8), .val (.long q9), .second, .val (.long q10), .second] [(.long (0 : Int64)), (.long q10), (.ref cs24)])) rfl (by rw [hml]; rfl) (argsL := [(.ref cs24), (.long q10), (.long (0 : Int64))]) (rest := []) (lenOf pd_0 rfl) rfl (by show 2 * 0 + _ ≤ _; exact Nat.le_of_eq rfl) (hb hby d3_66) (fun _ _ => ⟨rfl, e24, (by decide : 16 + 0 ≤ _), (by decide : 324 + 0 ≤ _)⟩)
  dsimp only [Pt.U, Pt.locs, Pt.cells, Pt.slots] at X25 l25 y25 z25 st25 hQ25
  subst l25 y25 z25
  obtain ⟨rfl, N25q, e25⟩ := hQ25
  have N25 := Fr.app N22 N25q
  obtain ⟨T26, h26, X26, e26, W26, st26⟩ := putF X25 hx hZ hown (host := "") (Or.inl (hw _ (List.mem_of_getElem? (i := 38) rfl))) Via.refl e25 F_servers_a1_24 E_a1_24 (Or.inr ⟨(hw _ (List.mem_of_getElem? (i := 39) rfl)), rfl, hnm⟩) (hw _ (List.mem_of_getElem? (i := 6) rfl)) (ty := .int) (by decide) rfl rfl (g := (mkF m 71 #[.val (.ref a1), .val (.int p2), .val (.int p3), .val (.long q4), .second, .val (.long q5), .second, .val (.long q6), .second, .val (.int p7), .val (.int p8), .val (.long q9), .second, .val (.long q10), .second] [(.int p2), (.ref a1)])) rfl rfl (hb hby d3_71)
  have E_a1_26 : Exa Z h26 a1 "com/example/prewrm/prewrm/model/ReplayConfig" := E_a1_24.wr W26
  have F_sharding_a1_26 : Fld Z h26 a1 "com/example/prewrm/prewrm/model/ReplayConfig" "sharding" "Z" (.int (0 : Int32)) := F_sharding_a1_24.other W26 (Or.inr (slot_ne (Or.inr (hw _ (List.mem_of_getElem? (i := 41) rfl))) (Or.inr (hw _ (List.mem_of_getElem? (i := 39) rfl))) (by decide) (t := .boolean) (t' := .int) (by decide) (by decide)))
  have F_keepAliveMs_a1_26 : Fld Z h26 a1 "com/example/prewrm/prewrm/model/ReplayConfig" "keepAliveMs" "J" (.long (0 : Int64)) := F_keepAliveMs_a1_24.other W26 (Or.inr (slot_ne (Or.inr (hw _ (List.mem_of_getElem? (i := 43) rfl))) (Or.inr (hw _ (List.mem_of_getElem? (i := 39) rfl))) (by decide) (t := .long) (t' := .int) (by decide) (by decide)))
  have F_coldStartMs_a1_26 : Fld Z h26 a1 "com/example/prewrm/prewrm/model/ReplayConfig" "coldStartMs" "J" (.long (0 : Int64)) := F_coldStartMs_a1_24.other W26 (Or.inr (slot_ne (Or.inr (hw _ (List.mem_of_getElem? (i := 45) rfl))) (Or.inr (hw _ (List.mem_of_getElem? (i := 39) rfl))) (by decide) (t := .long) (t' := .int) (by decide) (by decide)))
  have F_durationMs_a1_26 : Fld Z h26 a1 "com/example/prewrm/prewrm/model/ReplayConfig" "durationMs" "J" (.long (0 : Int64)) := F_durationMs_a1_24.other W26 (Or.inr (slot_ne (Or.inr (hw _ (List.mem_of_getElem? (i := 47) rfl))) (Or.inr (hw _ (List.mem_of_getElem? (i := 39) rfl))) (by decide) (t := .long) (t' := .int) (by decide) (by decide)))
  have F_maxConcurrent_a1_26 : Fld Z h26 a1 "com/example/prewrm/prewrm/model/ReplayConfig" "maxConcurrent" "I" (.int (0 : Int32)) := F_maxConcurrent_a1_24.other W26 (Or.inr (slot_ne (Or.inr (hw _ (List.mem_of_getElem? (i := 49) rfl))) (Or.inr (hw _ (List.mem_of_getElem? (i := 39) rfl))) (by decide) (t := .int) (t' := .int) (by decide) (by decide)))
  have F_capacity_a1_26 : Fld Z h26 a1 "com/example/prewrm/prewrm/model/ReplayConfig" "capacity" "I" (.int (0 : Int32)) := F_capacity_a1_24.other W26 (Or.inr (slot_ne (Or.inr (hw _ (List.mem_of_getElem? (i := 51) rfl))) (Or.inr (hw _ (List.mem_of_getElem? (i := 39) rfl))) (by decide) (t := .int) (t' := .int) (by decide) (by decide)))
  have F_warmUpMs_a1_26 : Fld Z h26 a1 "com/example/prewrm/prewrm/model/ReplayConfig" "warmUpMs" "J" (.long (0 : Int64)) := F_warmUpMs_a1_24.other W26 (Or.inr (slot_ne (Or.inr (hw _ (List.mem_of_getElem? (i := 53) rfl))) (Or.inr (hw _ (List.mem_of_getElem? (i := 39) rfl))) (by decide) (t := .long) (t' := .int) (by decide) (by decide)))
  have F_hopMs_a1_26 : Fld Z h26 a1 "com/example/prewrm/prewrm/model/ReplayConfig" "hopMs" "J" (.long (0 : Int64)) := F_hopMs_a1_24.other W26 (Or.inr (slot_ne (Or.inr (hw _ (List.mem_of_getElem? (i := 55) rfl))) (Or.inr (hw _ (List.mem_of_getElem? (i := 39) rfl))) (by decide) (t := .long) (t' := .int) (by decide) (by decide)))
  have K26 := K24.wr W26 (Or.inl (List.mem_of_getElem? (i := 0) rfl))
  have Zs26 := Nat.le_trans Zs24 (Keep.of_wr W26).1
  have N26 := Fr.snoc X26 N25 g_a1
  have Sk26 := Nat.le_trans Sk24 (Keep.of_wr W26).1
  have F_servers_a1_26 : Fld Z h26 a1 "com/example/prewrm/prewrm/model/ReplayConfig" "servers" "I" (.int p2) := F_servers_a1_24.same W26
  obtain ⟨T27, h27, X27, e27, W27, st27⟩ := putFN X26 hx hZ hown (hw _ (List.mem_of_getElem? (i := 40) rfl)) Via.refl e26 F_sharding_a1_26 E_a1_26 (Or.inr ⟨(hw _ (List.mem_of_getElem? (i := 41) rfl)), rfl, hnm⟩) (hw _ (List.mem_of_getElem? (i := 6) rfl)) (ty := .boolean) (v' := (.int (nar .boolean p3))) (by decide) rfl (fits_nar_bool _) (g := (mkF m 76 #[.val (.ref a1), .val (.int p2), .val (.int p3), .val (.long q4), .second, .val (.long q5), .second, .val (.long q6), .second, .val (.int p7), .val (.int p8), .val (.long q9), .second, .val (.long q10), .second] [(.int p3), (.ref a1)])) rfl rfl (hb hby d3_76)
  have E_a1_27 : Exa Z h27 a1 "com/example/prewrm/prewrm/model/ReplayConfig" := E_a1_26.wr W27
  have F_keepAliveMs_a1_27 : Fld Z h27 a1 "com/example/prewrm/prewrm/model/ReplayConfig" "keepAliveMs" "J" (.long (0 : Int64)) := F_keepAliveMs_a1_26.other W27 (Or.inr (slot_ne (Or.inr (hw _ (List.mem_of_getElem? (i := 43) rfl))) (Or.inr (hw _ (List.mem_of_getElem? (i := 41) rfl))) (by decide) (t := .long) (t' := .boolean) (by decide) (by decide)))
  have F_coldStartMs_a1_27 : Fld Z h27 a1 "com/example/prewrm/prewrm/model/ReplayConfig" "coldStartMs" "J" (.long (0 : Int64)) := F_coldStartMs_a1_26.other W27 (Or.inr (slot_ne (Or.inr (hw _ (List.mem_of_getElem? (i := 45) rfl))) (Or.inr (hw _ (List.mem_of_getElem? (i := 41) rfl))) (by decide) (t := .long) (t' := .boolean) (by decide) (by decide)))
  have F_durationMs_a1_27 : Fld Z h27 a1 "com/example/prewrm/prewrm/model/ReplayConfig" "durationMs" "J" (.long (0 : Int64)) := F_durationMs_a1_26.other W27 (Or.inr (slot_ne (Or.inr (hw _ (List.mem_of_getElem? (i := 47) rfl))) (Or.inr (hw _ (List.mem_of_getElem? (i := 41) rfl))) (by decide) (t := .long) (t' := .boolean) (by decide) (by decide)))
  have F_maxConcurrent_a1_27 : Fld Z h27 a1 "com/example/prewrm/prewrm/model/ReplayConfig" "maxConcurrent" "I" (.int (0 : Int32)) := F_maxConcurrent_a1_26.other W27 (Or.inr (slot_ne (Or.inr (hw _ (List.mem_of_getElem? (i := 49) rfl))) (Or.inr (hw _ (List.mem_of_getElem? (i := 41) rfl))) (by decide) (t := .int) (t' := .boolean) (by decide) (by decide)))
  have F_capacity_a1_27 : Fld Z h27 a1 "com/example/prewrm/prewrm/model/ReplayConfig" "capacity" "I" (.int (0 : Int32)) := F_capacity_a1_26.other W27 (Or.inr (slot_ne (Or.inr (hw _ (List.mem_of_getElem? (i := 51) rfl))) (Or.inr (hw _ (List.mem_of_getElem? (i := 41) rfl))) (by decide) (t := .int) (t' := .boolean) (by decide) (by decide)))
  have F_warmUpMs_a1_27 : Fld Z h27 a1 "com/example/prewrm/prewrm/model/ReplayConfig" "warmUpMs" "J" (.long (0 : Int64)) := F_warmUpMs_a1_26.other W27 (Or.inr (slot_ne (Or.inr (hw _ (List.mem_of_getElem? (i := 53) rfl))) (Or.inr (hw _ (List.mem_of_getElem? (i := 41) rfl))) (by decide) (t := .long) (t' := .boolean) (by decide) (by decide)))
  have F_hopMs_a1_27 : Fld Z h27 a1 "com/example/prewrm/prewrm/model/ReplayConfig" "hopMs" "J" (.long (0 : Int64)) := F_hopMs_a1_26.other W27 (Or.inr (slot_ne (Or.inr (hw _ (List.mem_of_getElem? (i := 55) rfl))) (Or.inr (hw _ (List.mem_of_getElem? (i := 41) rfl))) (by decide) (t := .long) (t' := .boolean) (by decide) (by decide)))
  have F_servers_a1_27 : Fld Z h27 a1 "com/example/prewrm/prewrm/model/ReplayConfig" "servers" "I" (.int p2) := F_servers_a1_26.other W27 (Or.inr (slot_ne (Or.inr (hw _ (List.mem_of_getElem? (i := 39) rfl))) (Or.inr (hw _ (List.mem_of_getElem? (i := 41) rfl))) (by decide) (t := .int) (t' := .boolean) (by decide) (by decide)))
  have K27 := K26.wr W27 (Or.inl (List.mem_of_getElem? (i := 0) rfl))
  have Zs27 := Nat.le_trans Zs26 (Keep.of_wr W27).1
  have N27 := Fr.snoc X27 N26 g_a1
  have Sk27 := Nat.le_trans Sk26 (Keep.of_wr W27).1
  have F_sharding_a1_27 : Fld Z h27 a1 "com/example/prewrm/prewrm/model/ReplayConfig" "sharding" "Z" (.int (nar .boolean p3)) := F_sharding_a1_26.same W27
  obtain ⟨T28, h28, X28, e28, W28, st28⟩ := putF X27 hx hZ hown (host := "") (Or.inl (hw _ (List.mem_of_getElem? (i := 42) rfl))) Via.refl e27 F_keepAliveMs_a1_27 E_a1_27 (Or.inr ⟨(hw _ (List.mem_of_getElem? (i := 43) rfl)), rfl, hnm⟩) (hw _ (List.mem_of_getElem? (i := 6) rfl)) (ty := .long) (by decide) rfl rfl (g := (mkF m 81 #[.val (.ref a1), .val (.int p2), .val (.int p3), .val (.long q4), .second, .val (.long q5), .second, .val (.long q6), .second, .val (.int p7), .val (.int p8), .val (.long q9), .second, .val (.long q10), .second] [(.long q4), (.ref a1)])) rfl rfl (hb hby d3_81)
  have E_a1_28 : Exa Z h28 a1 "com/example/prewrm/prewrm/model/ReplayConfig" := E_a1_27.wr W28
  have F_coldStartMs_a1_28 : Fld Z h28 a1 "com/example/prewrm/prewrm/model/ReplayConfig" "coldStartMs" "J" (.long (0 : Int64)) := F_coldStartMs_a1_27.other W28 (Or.inr (slot_ne (Or.inr (hw _ (List.mem_of_getElem? (i := 45) rfl))) (Or.inr (hw _ (List.mem_of_getElem? (i := 43) rfl))) (by decide) (t := .long) (t' := .long) (by decide) (by decide)))
  have F_durationMs_a1_28 : Fld Z h28 a1 "com/example/prewrm/prewrm/model/ReplayConfig" "durationMs" "J" (.long (0 : Int64)) := F_durationMs_a1_27.other W28 (Or.inr (slot_ne (Or.inr (hw _ (List.mem_of_getElem? (i := 47) rfl))) (Or.inr (hw _ (List.mem_of_getElem? (i := 43) rfl))) (by decide) (t := .long) (t' := .long) (by decide) (by decide)))
  have F_maxConcurrent_a1_28 : Fld Z h28 a1 "com/example/prewrm/prewrm/model/ReplayConfig" "maxConcurrent" "I" (.int (0 : Int32)) := F_maxConcurrent_a1_27.other W28 (Or.inr (slot_ne (Or.inr (hw _ (List.mem_of_getElem? (i := 49) rfl))) (Or.inr (hw _ (List.mem_of_getElem? (i := 43) rfl))) (by decide) (t := .int) (t' := .long) (by decide) (by decide)))
  have F_capacity_a1_28 : Fld Z h28 a1 "com/example/prewrm/prewrm/model/ReplayConfig" "capacity" "I" (.int (0 : Int32)) := F_capacity_a1_27.other W28 (Or.inr (slot_ne (Or.inr (hw _ (List.mem_of_getElem? (i := 51) rfl))) (Or.inr (hw _ (List.mem_of_getElem? (i := 43) rfl))) (by decide) (t := .int) (t' := .long) (by decide) (by decide)))
  have F_warmUpMs_a1_28 : Fld Z h28 a1 "com/example/prewrm/prewrm/model/ReplayConfig" "warmUpMs" "J" (.long (0 : Int64)) := F_warmUpMs_a1_27.other W28 (Or.inr (slot_ne (Or.inr (hw _ (List.mem_of_getElem? (i := 53) rfl))) (Or.inr (hw _ (List.mem_of_getElem? (i := 43) rfl))) (by decide) (t := .long) (t' := .long) (by decide) (by decide)))
  have F_hopMs_a1_28 : Fld Z h28 a1 "com/example/prewrm/prewrm/model/ReplayConfig" "hopMs" "J" (.long (0 : Int64)) := F_hopMs_a1_27.other W28 (Or.inr (slot_ne (Or.inr (hw _ (List.mem_of_getElem? (i := 55) rfl))) (Or.inr (hw _ (List.mem_of_getElem? (i := 43) rfl))) (by decide) (t := .long) (t' := .long) (by decide) (by decide)))
  have F_servers_a1_28 : Fld Z h28 a1 "com/example/prewrm/prewrm/model/ReplayConfig" "servers" "I" (.int p2) := F_servers_a1_27.other W28 (Or.inr (slot_ne (Or.inr (hw _ (List.mem_of_getElem? (i := 39) rfl))) (Or.inr (hw _ (List.mem_of_getElem? (i := 43) rfl))) (by decide) (t := .int) (t' := .long) (by decide) (by decide)))
  have F_sharding_a1_28 : Fld Z h28 a1 "com/example/prewrm/prewrm/model/ReplayConfig" "sharding" "Z" (.int (nar .boolean p3)) := F_sharding_a1_27.other W28 (Or.inr (slot_ne (Or.inr (hw _ (List.mem_of_getElem? (i := 41) rfl))) (Or.inr (hw _ (List.mem_of_getElem? (i := 43) rfl))) (by decide) (t := .boolean) (t' := .long) (by decide) (by decide)))
  have K28 := K27.wr W28 (Or.inl (List.mem_of_getElem? (i := 0) rfl))
  have Zs28 := Nat.le_trans Zs27 (Keep.of_wr W28).1
  have N28 := Fr.snoc X28 N27 g_a1
  have Sk28 := Nat.le_trans Sk27 (Keep.of_wr W28).1
  have F_keepAliveMs_a1_28 : Fld Z h28 a1 "com/example/prewrm/prewrm/model/ReplayConfig" "keepAliveMs" "J" (.long q4) := F_keepAliveMs_a1_27.same W28
  obtain ⟨T29, h29, X29, e29, W29, st29⟩ := putF X28 hx hZ hown (host := "") (Or.inl (hw _ (List.mem_of_getElem? (i := 44) rfl))) Via.refl e28 F_coldStartMs_a1_28 E_a1_28 (Or.inr ⟨(hw _ (List.mem_of_getElem? (i := 45) rfl)), rfl, hnm⟩) (hw _ (List.mem_of_getElem? (i := 6) rfl)) (ty := .long) (by decide) rfl rfl (g := (mkF m 87 #[.val (.ref a1), .val (.int p2), .val (.int p3), .val (.long q4), .second, .val (.long q5), .second, .val (.long q6), .second, .val (.int p7), .val (.int p8), .val (.long q9), .second, .val (.long q10), .second] [(.long q5), (.ref a1)])) rfl rfl (hb hby d3_87)
  have E_a1_29 : Exa Z h29 a1 "com/example/prewrm/prewrm/model/ReplayConfig" := E_a1_28.wr W29
  have F_durationMs_a1_29 : Fld Z h29 a1 "com/example/prewrm/prewrm/model/ReplayConfig" "durationMs" "J" (.long (0 : Int64)) := F_durationMs_a1_28.other W29 (Or.inr (slot_ne (Or.inr (hw _ (List.mem_of_getElem? (i := 47) rfl))) (Or.inr (hw _ (List.mem_of_getElem? (i := 45) rfl))) (by decide) (t := .long) (t' := .long) (by decide) (by decide)))
  have F_maxConcurrent_a1_29 : Fld Z h29 a1 "com/example/prewrm/prewrm/model/ReplayConfig" "maxConcurrent" "I" (.int (0 : Int32)) := F_maxConcurrent_a1_28.other W29 (Or.inr (slot_ne (Or.inr (hw _ (List.mem_of_getElem? (i := 49) rfl))) (Or.inr (hw _ (List.mem_of_getElem? (i := 45) rfl))) (by decide) (t := .int) (t' := .long) (by decide) (by decide)))
  have F_capacity_a1_29 : Fld Z h29 a1 "com/example/prewrm/prewrm/model/ReplayConfig" "capacity" "I" (.int (0 : Int32)) := F_capacity_a1_28.other W29 (Or.inr (slot_ne (Or.inr (hw _ (List.mem_of_getElem? (i := 51) rfl))) (Or.inr (hw _ (List.mem_of_getElem? (i := 45) rfl))) (by decide) (t := .int) (t' := .long) (by decide) (by decide)))
  have F_warmUpMs_a1_29 : Fld Z h29 a1 "com/example/prewrm/prewrm/model/ReplayConfig" "warmUpMs" "J" (.long (0 : Int64)) := F_warmUpMs_a1_28.other W29 (Or.inr (slot_ne (Or.inr (hw _ (List.mem_of_getElem? (i := 53) rfl))) (Or.inr (hw _ (List.mem_of_getElem? (i := 45) rfl))) (by decide) (t := .long) (t' := .long) (by decide) (by decide)))
  have F_hopMs_a1_29 : Fld Z h29 a1 "com/example/prewrm/prewrm/model/ReplayConfig" "hopMs" "J" (.long (0 : Int64)) := F_hopMs_a1_28.other W29 (Or.inr (slot_ne (Or.inr (hw _ (List.mem_of_getElem? (i := 55) rfl))) (Or.inr (hw _ (List.mem_of_getElem? (i := 45) rfl))) (by decide) (t := .long) (t' := .long) (by decide) (by decide)))
  have F_servers_a1_29 : Fld Z h29 a1 "com/example/prewrm/prewrm/model/ReplayConfig" "servers" "I" (.int p2) := F_servers_a1_28.other W29 (Or.inr (slot_ne (Or.inr (hw _ (List.mem_of_getElem? (i := 39) rfl))) (Or.inr (hw _ (List.mem_of_getElem? (i := 45) rfl))) (by decide) (t := .int) (t' := .long) (by decide) (by decide)))
  have F_sharding_a1_29 : Fld Z h29 a1 "com/example/prewrm/prewrm/model/ReplayConfig" "sharding" "Z" (.int (nar .boolean p3)) := F_sharding_a1_28.other W29 (Or.inr (slot_ne (Or.inr (hw _ (List.mem_of_getElem? (i := 41) rfl))) (Or.inr (hw _ (List.mem_of_getElem? (i := 45) rfl))) (by decide) (t := .boolean) (t' := .long) (by decide) (by decide)))
  have F_keepAliveMs_a1_29 : Fld Z h29 a1 "com/example/prewrm/prewrm/model/ReplayConfig" "keepAliveMs" "J" (.long q4) := F_keepAliveMs_a1_28.other W29 (Or.inr (slot_ne (Or.inr (hw _ (List.mem_of_getElem? (i := 43) rfl))) (Or.inr (hw _ (List.mem_of_getElem? (i := 45) rfl))) (by decide) (t := .long) (t' := .long) (by decide) (by decide)))
  have K29 := K28.wr W29 (Or.inl (List.mem_of_getElem? (i := 0) rfl))
  have Zs29 := Nat.le_trans Zs28 (Keep.of_wr W29).1
  have N29 := Fr.snoc X29 N28 g_a1
  have Sk29 := Nat.le_trans Sk28 (Keep.of_wr W29).1
  have F_coldStartMs_a1_29 : Fld Z h29 a1 "com/example/prewrm/prewrm/model/ReplayConfig" "coldStartMs" "J" (.long q5) := F_coldStartMs_a1_28.same W29
  obtain ⟨T30, h30, X30, e30, W30, st30⟩ := putF X29 hx hZ hown (host := "") (Or.inl (hw _ (List.mem_of_getElem? (i := 46) rfl))) Via.refl e29 F_durationMs_a1_29 E_a1_29 (Or.inr ⟨(hw _ (List.mem_of_getElem? (i := 47) rfl)), rfl, hnm⟩) (hw _ (List.mem_of_getElem? (i := 6) rfl)) (ty := .long) (by decide) rfl rfl (g := (mkF m 93 #[.val (.ref a1), .val (.int p2), .val (.int p3), .val (.long q4), .second, .val (.long q5), .second, .val (.long q6), .second, .val (.int p7), .val (.int p8), .val (.long q9), .second, .val (.long q10), .second] [(.long q6), (.ref a1)])) rfl rfl (hb hby d3_93)
  have E_a1_30 : Exa Z h30 a1 "com/example/prewrm/prewrm/model/ReplayConfig" := E_a1_29.wr W30
  have F_maxConcurrent_a1_30 : Fld Z h30 a1 "com/example/prewrm/prewrm/model/ReplayConfig" "maxConcurrent" "I" (.int (0 : Int32)) := F_maxConcurrent_a1_29.other W30 (Or.inr (slot_ne (Or.inr (hw _ (List.mem_of_getElem? (i := 49) rfl))) (Or.inr (hw _ (List.mem_of_getElem? (i := 47) rfl))) (by decide) (t := .int) (t' := .long) (by decide) (by decide)))
  have F_capacity_a1_30 : Fld Z h30 a1 "com/example/prewrm/prewrm/model/ReplayConfig" "capacity" "I" (.int (0 : Int32)) := F_capacity_a1_29.other W30 (Or.inr (slot_ne (Or.inr (hw _ (List.mem_of_getElem? (i := 51) rfl))) (Or.inr (hw _ (List.mem_of_getElem? (i := 47) rfl))) (by decide) (t := .int) (t' := .long) (by decide) (by decide)))
  have F_warmUpMs_a1_30 : Fld Z h30 a1 "com/example/prewrm/prewrm/model/ReplayConfig" "warmUpMs" "J" (.long (0 : Int64)) := F_warmUpMs_a1_29.other W30 (Or.inr (slot_ne (Or.inr (hw _ (List.mem_of_getElem? (i := 53) rfl))) (Or.inr (hw _ (List.mem_of_getElem? (i := 47) rfl))) (by decide) (t := .long) (t' := .long) (by decide) (by decide)))
  have F_hopMs_a1_30 : Fld Z h30 a1 "com/example/prewrm/prewrm/model/ReplayConfig" "hopMs" "J" (.long (0 : Int64)) := F_hopMs_a1_29.other W30 (Or.inr (slot_ne (Or.inr (hw _ (List.mem_of_getElem? (i := 55) rfl))) (Or.inr (hw _ (List.mem_of_getElem? (i := 47) rfl))) (by decide) (t := .long) (t' := .long) (by decide) (by decide)))
  have F_servers_a1_30 : Fld Z h30 a1 "com/example/prewrm/prewrm/model/ReplayConfig" "servers" "I" (.int p2) := F_servers_a1_29.other W30 (Or.inr (slot_ne (Or.inr (hw _ (List.mem_of_getElem? (i := 39) rfl))) (Or.inr (hw _ (List.mem_of_getElem? (i := 47) rfl))) (by decide) (t := .int) (t' := .long) (by decide) (by decide)))
  have F_sharding_a1_30 : Fld Z h30 a1 "com/example/prewrm/prewrm/model/ReplayConfig" "sharding" "Z" (.int (nar .boolean p3)) := F_sharding_a1_29.other W30 (Or.inr (slot_ne (Or.inr (hw _ (List.mem_of_getElem? (i := 41) rfl))) (Or.inr (hw _ (List.mem_of_getElem? (i := 47) rfl))) (by decide) (t := .boolean) (t' := .long) (by decide) (by decide)))
  have F_keepAliveMs_a1_30 : Fld Z h30 a1 "com/example/prewrm/prewrm/model/ReplayConfig" "keepAliveMs" "J" (.long q4) := F_keepAliveMs_a1_29.other W30 (Or.inr (slot_ne (Or.inr (hw _ (List.mem_of_getElem? (i := 43) rfl))) (Or.inr (hw _ (List.mem_of_getElem? (i := 47) rfl))) (by decide) (t := .long) (t' := .long) (by decide) (by decide)))
  have F_coldStartMs_a1_30 : Fld Z h30 a1 "com/example/prewrm/prewrm/model/ReplayConfig" "coldStartMs" "J" (.long q5) := F_coldStartMs_a1_29.other W30 (Or.inr (slot_ne (Or.inr (hw _ (List.mem_of_getElem? (i := 45) rfl))) (Or.inr (hw _ (List.mem_of_getElem? (i := 47) rfl))) (by decide) (t := .long) (t' := .long) (by decide) (by decide)))
  have K30 := K29.wr W30 (Or.inl (List.mem_of_getElem? (i := 0) rfl))
  have Zs30 := Nat.le_trans Zs29 (Keep.of_wr W30).1
  have N30 := Fr.snoc X30 N29 g_a1
  have Sk30 := Nat.le_trans Sk29 (Keep.of_wr W30).1
  have F_durationMs_a1_30 : Fld Z h30 a1 "com/example/prewrm/prewrm/model/ReplayConfig" "durationMs" "J" (.long q6) := F_durationMs_a1_29.same W30
  obtain ⟨T31, h31, X31, e31, W31, st31⟩ := putF X30 hx hZ hown (host := "") (Or.inl (hw _ (List.mem_of_getElem? (i := 48) rfl))) Via.refl e30 F_maxConcurrent_a1_30 E_a1_30 (Or.inr ⟨(hw _ (List.mem_of_getElem? (i := 49) rfl)), rfl, hnm⟩) (hw _ (List.mem_of_getElem? (i := 6) rfl)) (ty := .int) (by decide) rfl rfl (g := (mkF m 99 #[.val (.ref a1), .val (.int p2), .val (.int p3), .val (.long q4), .second, .val (.long q5), .second, .val (.long q6), .second, .val (.int p7), .val (.int p8), .val (.long q9), .second, .val (.long q10), .second] [(.int p7), (.ref a1)])) rfl rfl (hb hby d3_99)
  have E_a1_31 : Exa Z h31 a1 "com/example/prewrm/prewrm/model/ReplayConfig" := E_a1_30.wr W31
  have F_capacity_a1_31 : Fld Z h31 a1 "com/example/prewrm/prewrm/model/ReplayConfig" "capacity" "I" (.int (0 : Int32)) := F_capacity_a1_30.other W31 (Or.inr (slot_ne (Or.inr (hw _ (List.mem_of_getElem? (i := 51) rfl))) (Or.inr (hw _ (List.mem_of_getElem? (i := 49) rfl))) (by decide) (t := .int) (t' := .int) (by decide) (by decide)))
  have F_warmUpMs_a1_31 : Fld Z h31 a1 "com/example/prewrm/prewrm/model/ReplayConfig" "warmUpMs" "J" (.long (0 : Int64)) := F_warmUpMs_a1_30.other W31 (Or.inr (slot_ne (Or.inr (hw _ (List.mem_of_getElem? (i := 53) rfl))) (Or.inr (hw _ (List.mem_of_getElem? (i := 49) rfl))) (by decide) (t := .long) (t' := .int) (by decide) (by decide)))
  have F_hopMs_a1_31 : Fld Z h31 a1 "com/example/prewrm/prewrm/model/ReplayConfig" "hopMs" "J" (.long (0 : Int64)) := F_hopMs_a1_30.other W31 (Or.inr (slot_ne (Or.inr (hw _ (List.mem_of_getElem? (i := 55) rfl))) (Or.inr (hw _ (List.mem_of_getElem? (i := 49) rfl))) (by decide) (t := .long) (t' := .int) (by decide) (by decide)))
  have F_servers_a1_31 : Fld Z h31 a1 "com/example/prewrm/prewrm/model/ReplayConfig" "servers" "I" (.int p2) := F_servers_a1_30.other W31 (Or.inr (slot_ne (Or.inr (hw _ (List.mem_of_getElem? (i := 39) rfl))) (Or.inr (hw _ (List.mem_of_getElem? (i := 49) rfl))) (by decide) (t := .int) (t' := .int) (by decide) (by decide)))
  have F_sharding_a1_31 : Fld Z h31 a1 "com/example/prewrm/prewrm/model/ReplayConfig" "sharding" "Z" (.int (nar .boolean p3)) := F_sharding_a1_30.other W31 (Or.inr (slot_ne (Or.inr (hw _ (List.mem_of_getElem? (i := 41) rfl))) (Or.inr (hw _ (List.mem_of_getElem? (i := 49) rfl))) (by decide) (t := .boolean) (t' := .int) (by decide) (by decide)))
  have F_keepAliveMs_a1_31 : Fld Z h31 a1 "com/example/prewrm/prewrm/model/ReplayConfig" "keepAliveMs" "J" (.long q4) := F_keepAliveMs_a1_30.other W31 (Or.inr (slot_ne (Or.inr (hw _ (List.mem_of_getElem? (i := 43) rfl))) (Or.inr (hw _ (List.mem_of_getElem? (i := 49) rfl))) (by decide) (t := .long) (t' := .int) (by decide) (by decide)))
  have F_coldStartMs_a1_31 : Fld Z h31 a1 "com/example/prewrm/prewrm/model/ReplayConfig" "coldStartMs" "J" (.long q5) := F_coldStartMs_a1_30.other W31 (Or.inr (slot_ne (Or.inr (hw _ (List.mem_of_getElem? (i := 45) rfl))) (Or.inr (hw _ (List.mem_of_getElem? (i := 49) rfl))) (by decide) (t := .long) (t' := .int) (by decide) (by decide)))
  have F_durationMs_a1_31 : Fld Z h31 a1 "com/example/prewrm/prewrm/model/ReplayConfig" "durationMs" "J" (.long q6) := F_durationMs_a1_30.other W31 (Or.inr (slot_ne (Or.inr (hw _ (List.mem_of_getElem? (i := 47) rfl))) (Or.inr (hw _ (List.mem_of_getElem? (i := 49) rfl))) (by decide) (t := .long) (t' := .int) (by decide) (by decide)))
  have K31 := K30.wr W31 (Or.inl (List.mem_of_getElem? (i := 0) rfl))
  have Zs31 := Nat.le_trans Zs30 (Keep.of_wr W31).1
  have N31 := Fr.snoc X31 N30 g_a1
  have Sk31 := Nat.le_trans Sk30 (Keep.of_wr W31).1
  have F_maxConcurrent_a1_31 : Fld Z h31 a1 "com/example/prewrm/prewrm/model/ReplayConfig" "maxConcurrent" "I" (.int p7) := F_maxConcurrent_a1_30.same W31
  obtain ⟨T32, h32, X32, e32, W32, st32⟩ := putF X31 hx hZ hown (host := "") (Or.inl (hw _ (List.mem_of_getElem? (i := 50) rfl))) Via.refl e31 F_capacity_a1_31 E_a1_31 (Or.inr ⟨(hw _ (List.mem_of_getElem? (i := 51) rfl)), rfl, hnm⟩) (hw _ (List.mem_of_getElem? (i := 6) rfl)) (ty := .int) (by decide) rfl rfl (g := (mkF m 105 #[.val (.ref a1), .val (.int p2), .val (.int p3), .val (.long q4), .second, .val (.long q5), .second, .val (.long q6), .second, .val (.int p7), .val (.int p8), .val (.long q9), .second, .val (.long q10), .second] [(.int p8), (.ref a1)])) rfl rfl (hb hby d3_105)
  have E_a1_32 : Exa Z h32 a1 "com/example/prewrm/prewrm/model/ReplayConfig" := E_a1_31.wr W32
  have F_warmUpMs_a1_32 : Fld Z h32 a1 "com/example/prewrm/prewrm/model/ReplayConfig" "warmUpMs" "J" (.long (0 : Int64)) := F_warmUpMs_a1_31.other W32 (Or.inr (slot_ne (Or.inr (hw _ (List.mem_of_getElem? (i := 53) rfl))) (Or.inr (hw _ (List.mem_of_getElem? (i := 51) rfl))) (by decide) (t := .long) (t' := .int) (by decide) (by decide)))
  have F_hopMs_a1_32 : Fld Z h32 a1 "com/example/prewrm/prewrm/model/ReplayConfig" "hopMs" "J" (.long (0 : Int64)) := F_hopMs_a1_31.other W32 (Or.inr (slot_ne (Or.inr (hw _ (List.mem_of_getElem? (i := 55) rfl))) (Or.inr (hw _ (List.mem_of_getElem? (i := 51) rfl))) (by decide) (t := .long) (t' := .int) (by decide) (by decide)))
  have F_servers_a1_32 : Fld Z h32 a1 "com/example/prewrm/prewrm/model/ReplayConfig" "servers" "I" (.int p2) := F_servers_a1_31.other W32 (Or.inr (slot_ne (Or.inr (hw _ (List.mem_of_getElem? (i := 39) rfl))) (Or.inr (hw _ (List.mem_of_getElem? (i := 51) rfl))) (by decide) (t := .int) (t' := .int) (by decide) (by decide)))
  have F_sharding_a1_32 : Fld Z h32 a1 "com/example/prewrm/prewrm/model/ReplayConfig" "sharding" "Z" (.int (nar .boolean p3)) := F_sharding_a1_31.other W32 (Or.inr (slot_ne (Or.inr (hw _ (List.mem_of_getElem? (i := 41) rfl))) (Or.inr (hw _ (List.mem_of_getElem? (i := 51) rfl))) (by decide) (t := .boolean) (t' := .int) (by decide) (by decide)))
  have F_keepAliveMs_a1_32 : Fld Z h32 a1 "com/example/prewrm/prewrm/model/ReplayConfig" "keepAliveMs" "J" (.long q4) := F_keepAliveMs_a1_31.other W32 (Or.inr (slot_ne (Or.inr (hw _ (List.mem_of_getElem? (i := 43) rfl))) (Or.inr (hw _ (List.mem_of_getElem? (i := 51) rfl))) (by decide) (t := .long) (t' := .int) (by decide) (by decide)))
  have F_coldStartMs_a1_32 : Fld Z h32 a1 "com/example/prewrm/prewrm/model/ReplayConfig" "coldStartMs" "J" (.long q5) := F_coldStartMs_a1_31.other W32 (Or.inr (slot_ne (Or.inr (hw _ (List.mem_of_getElem? (i := 45) rfl))) (Or.inr (hw _ (List.mem_of_getElem? (i := 51) rfl))) (by decide) (t := .long) (t' := .int) (by decide) (by decide)))
  have F_durationMs_a1_32 : Fld Z h32 a1 "com/example/prewrm/prewrm/model/ReplayConfig" "durationMs" "J" (.long q6) := F_durationMs_a1_31.other W32 (Or.inr (slot_ne (Or.inr (hw _ (List.mem_of_getElem? (i := 47) rfl))) (Or.inr (hw _ (List.mem_of_getElem? (i := 51) rfl))) (by decide) (t := .long) (t' := .int) (by decide) (by decide)))
  have F_maxConcurrent_a1_32 : Fld Z h32 a1 "com/example/prewrm/prewrm/model/ReplayConfig" "maxConcurrent" "I" (.int p7) := F_maxConcurrent_a1_31.other W32 (Or.inr (slot_ne (Or.inr (hw _ (List.mem_of_getElem? (i := 49) rfl))) (Or.inr (hw _ (List.mem_of_getElem? (i := 51) rfl))) (by decide) (t := .int) (t' := .int) (by decide) (by decide)))
  have K32 := K31.wr W32 (Or.inl (List.mem_of_getElem? (i := 0) rfl))
  have Zs32 := Nat.le_trans Zs31 (Keep.of_wr W32).1
  have N32 := Fr.snoc X32 N31 g_a1
  have Sk32 := Nat.le_trans Sk31 (Keep.of_wr W32).1
  have F_capacity_a1_32 : Fld Z h32 a1 "com/example/prewrm/prewrm/model/ReplayConfig" "capacity" "I" (.int p8) := F_capacity_a1_31.same W32
  obtain ⟨T33, h33, X33, e33, W33, st33⟩ := putF X32 hx hZ hown (host := "") (Or.inl (hw _ (List.mem_of_getElem? (i := 52) rfl))) Via.refl e32 F_warmUpMs_a1_32 E_a1_32 (Or.inr ⟨(hw _ (List.mem_of_getElem? (i := 53) rfl)), rfl, hnm⟩) (hw _ (List.mem_of_getElem? (i := 6) rfl)) (ty := .long) (by decide) rfl rfl (g := (mkF m 111 #[.val (.ref a1), .val (.int p2), .val (.int p3), .val (.long q4), .second, .val (.long q5), .second, .val (.long q6), .second, .val (.int p7), .val (.int p8), .val (.long q9), .second, .val (.long q10), .second] [(.long q9), (.ref a1)])) rfl rfl (hb hby d3_111)
  have E_a1_33 : Exa Z h33 a1 "com/example/prewrm/prewrm/model/ReplayConfig" := E_a1_32.wr W33
  have F_hopMs_a1_33 : Fld Z h33 a1 "com/example/prewrm/prewrm/model/ReplayConfig" "hopMs" "J" (.long (0 : Int64)) := F_hopMs_a1_32.other W33 (Or.inr (slot_ne (Or.inr (hw _ (List.mem_of_getElem? (i := 55) rfl))) (Or.inr (hw _ (List.mem_of_getElem? (i := 53) rfl))) (by decide) (t := .long) (t' := .long) (by decide) (by decide)))
  have F_servers_a1_33 : Fld Z h33 a1 "com/example/prewrm/prewrm/model/ReplayConfig" "servers" "I" (.int p2) := F_servers_a1_32.other W33 (Or.inr (slot_ne (Or.inr (hw _ (List.mem_of_getElem? (i := 39) rfl))) (Or.inr (hw _ (List.mem_of_getElem? (i := 53) rfl))) (by decide) (t := .int) (t' := .long) (by decide) (by decide)))
  have F_sharding_a1_33 : Fld Z h33 a1 "com/example/prewrm/prewrm/model/ReplayConfig" "sharding" "Z" (.int (nar .boolean p3)) := F_sharding_a1_32.other W33 (Or.inr (slot_ne (Or.inr (hw _ (List.mem_of_getElem? (i := 41) rfl))) (Or.inr (hw _ (List.mem_of_getElem? (i := 53) rfl))) (by decide) (t := .boolean) (t' := .long) (by decide) (by decide)))
  have F_keepAliveMs_a1_33 : Fld Z h33 a1 "com/example/prewrm/prewrm/model/ReplayConfig" "keepAliveMs" "J" (.long q4) := F_keepAliveMs_a1_32.other W33 (Or.inr (slot_ne (Or.inr (hw _ (List.mem_of_getElem? (i := 43) rfl))) (Or.inr (hw _ (List.mem_of_getElem? (i := 53) rfl))) (by decide) (t := .long) (t' := .long) (by decide) (by decide)))
  have F_coldStartMs_a1_33 : Fld Z h33 a1 "com/example/prewrm/prewrm/model/ReplayConfig" "coldStartMs" "J" (.long q5) := F_coldStartMs_a1_32.other W33 (Or.inr (slot_ne (Or.inr (hw _ (List.mem_of_getElem? (i := 45) rfl))) (Or.inr (hw _ (List.mem_of_getElem? (i := 53) rfl))) (by decide) (t := .long) (t' := .long) (by decide) (by decide)))
  have F_durationMs_a1_33 : Fld Z h33 a1 "com/example/prewrm/prewrm/model/ReplayConfig" "durationMs" "J" (.long q6) := F_durationMs_a1_32.other W33 (Or.inr (slot_ne (Or.inr (hw _ (List.mem_of_getElem? (i := 47) rfl))) (Or.inr (hw _ (List.mem_of_getElem? (i := 53) rfl))) (by decide) (t := .long) (t' := .long) (by decide) (by decide)))
  have F_maxConcurrent_a1_33 : Fld Z h33 a1 "com/example/prewrm/prewrm/model/ReplayConfig" "maxConcurrent" "I" (.int p7) := F_maxConcurrent_a1_32.other W33 (Or.inr (slot_ne (Or.inr (hw _ (List.mem_of_getElem? (i := 49) rfl))) (Or.inr (hw _ (List.mem_of_getElem? (i := 53) rfl))) (by decide) (t := .int) (t' := .long) (by decide) (by decide)))
  have F_capacity_a1_33 : Fld Z h33 a1 "com/example/prewrm/prewrm/model/ReplayConfig" "capacity" "I" (.int p8) := F_capacity_a1_32.other W33 (Or.inr (slot_ne (Or.inr (hw _ (List.mem_of_getElem? (i := 51) rfl))) (Or.inr (hw _ (List.mem_of_getElem? (i := 53) rfl))) (by decide) (t := .int) (t' := .long) (by decide) (by decide)))
  have K33 := K32.wr W33 (Or.inl (List.mem_of_getElem? (i := 0) rfl))
  have Zs33 := Nat.le_trans Zs32 (Keep.of_wr W33).1
  have N33 := Fr.snoc X33 N32 g_a1
  have Sk33 := Nat.le_trans Sk32 (Keep.of_wr W33).1
  have F_warmUpMs_a1_33 : Fld Z h33 a1 "com/example/prewrm/prewrm/model/ReplayConfig" "warmUpMs" "J" (.long q9) := F_warmUpMs_a1_32.same W33
  obtain ⟨T34, h34, X34, e34, W34, st34⟩ := putF X33 hx hZ hown (host := "") (Or.inl (hw _ (List.mem_of_getElem? (i := 54) rfl))) Via.refl e33 F_hopMs_a1_33 E_a1_33 (Or.inr ⟨(hw _ (List.mem_of_getElem? (i := 55) rfl)), rfl, hnm⟩) (hw _ (List.mem_of_getElem? (i := 6) rfl)) (ty := .long) (by decide) rfl rfl (g := (mkF m 117 #[.val (.ref a1), .val (.int p2), .val (.int p3), .val (.long q4), .second, .val (.long q5), .second, .val (.long q6), .second, .val (.int p7), .val (.int p8), .val (.long q9), .second, .val (.long q10), .second] [(.long q10), (.ref a1)])) rfl rfl (hb hby d3_117)
  have E_a1_34 : Exa Z h34 a1 "com/example/prewrm/prewrm/model/ReplayConfig" := E_a1_33.wr W34
  have F_servers_a1_34 : Fld Z h34 a1 "com/example/prewrm/prewrm/model/ReplayConfig" "servers" "I" (.int p2) := F_servers_a1_33.other W34 (Or.inr (slot_ne (Or.inr (hw _ (List.mem_of_getElem? (i := 39) rfl))) (Or.inr (hw _ (List.mem_of_getElem? (i := 55) rfl))) (by decide) (t := .int) (t' := .long) (by decide) (by decide)))
  have F_sharding_a1_34 : Fld Z h34 a1 "com/example/prewrm/prewrm/model/ReplayConfig" "sharding" "Z" (.int (nar .boolean p3)) := F_sharding_a1_33.other W34 (Or.inr (slot_ne (Or.inr (hw _ (List.mem_of_getElem? (i := 41) rfl))) (Or.inr (hw _ (List.mem_of_getElem? (i := 55) rfl))) (by decide) (t := .boolean) (t' := .long) (by decide) (by decide)))
  have F_keepAliveMs_a1_34 : Fld Z h34 a1 "com/example/prewrm/prewrm/model/ReplayConfig" "keepAliveMs" "J" (.long q4) := F_keepAliveMs_a1_33.other W34 (Or.inr (slot_ne (Or.inr (hw _ (List.mem_of_getElem? (i := 43) rfl))) (Or.inr (hw _ (List.mem_of_getElem? (i := 55) rfl))) (by decide) (t := .long) (t' := .long) (by decide) (by decide)))
  have F_coldStartMs_a1_34 : Fld Z h34 a1 "com/example/prewrm/prewrm/model/ReplayConfig" "coldStartMs" "J" (.long q5) := F_coldStartMs_a1_33.other W34 (Or.inr (slot_ne (Or.inr (hw _ (List.mem_of_getElem? (i := 45) rfl))) (Or.inr (hw _ (List.mem_of_getElem? (i := 55) rfl))) (by decide) (t := .long) (t' := .long) (by decide) (by decide)))
  have F_durationMs_a1_34 : Fld Z h34 a1 "com/example/prewrm/prewrm/model/ReplayConfig" "durationMs" "J" (.long q6) := F_durationMs_a1_33.other W34 (Or.inr (slot_ne (Or.inr (hw _ (List.mem_of_getElem? (i := 47) rfl))) (Or.inr (hw _ (List.mem_of_getElem? (i := 55) rfl))) (by decide) (t := .long) (t' := .long) (by decide) (by decide)))
  have F_maxConcurrent_a1_34 : Fld Z h34 a1 "com/example/prewrm/prewrm/model/ReplayConfig" "maxConcurrent" "I" (.int p7) := F_maxConcurrent_a1_33.other W34 (Or.inr (slot_ne (Or.inr (hw _ (List.mem_of_getElem? (i := 49) rfl))) (Or.inr (hw _ (List.mem_of_getElem? (i := 55) rfl))) (by decide) (t := .int) (t' := .long) (by decide) (by decide)))
  have F_capacity_a1_34 : Fld Z h34 a1 "com/example/prewrm/prewrm/model/ReplayConfig" "capacity" "I" (.int p8) := F_capacity_a1_33.other W34 (Or.inr (slot_ne (Or.inr (hw _ (List.mem_of_getElem? (i := 51) rfl))) (Or.inr (hw _ (List.mem_of_getElem? (i := 55) rfl))) (by decide) (t := .int) (t' := .long) (by decide) (by decide)))
  have F_warmUpMs_a1_34 : Fld Z h34 a1 "com/example/prewrm/prewrm/model/ReplayConfig" "warmUpMs" "J" (.long q9) := F_warmUpMs_a1_33.other W34 (Or.inr (slot_ne (Or.inr (hw _ (List.mem_of_getElem? (i := 53) rfl))) (Or.inr (hw _ (List.mem_of_getElem? (i := 55) rfl))) (by decide) (t := .long) (t' := .long) (by decide) (by decide)))
  have K34 := K33.wr W34 (Or.inl (List.mem_of_getElem? (i := 0) rfl))
  have Zs34 := Nat.le_trans Zs33 (Keep.of_wr W34).1
  have N34 := Fr.snoc X34 N33 g_a1
  have Sk34 := Nat.le_trans Sk33 (Keep.of_wr W34).1
  have F_hopMs_a1_34 : Fld Z h34 a1 "com/example/prewrm/prewrm/model/ReplayConfig" "hopMs" "J" (.long q10) := F_hopMs_a1_33.same W34
  obtain ⟨fs, hr, hrun, hended, hWe⟩ := X34.leaveW Si24 (Nat.le_trans Sk34 (Nat.le_of_eq (congrArg Array.size (Eq.symm e34)))) (v := none) (fun _ => rfl)
  refine ⟨_, _, pre23 _ ?_, hrun, hended, _, _, rfl, ?_, hWe.1, hWe.2.1, hWe.2.2.1, hWe.2.2.2.mono (by decide) (by decide)⟩
  · show Steps p.tables e below (T22.setTop (mkF m 61 #[.val (.ref a1), .val (.int p2), .val (.int p3), .val (.long q4), .second, .val (.long q5), .second, .val (.long q6), .second, .val (.int p7), .val (.int p8), .val (.long q9), .second, .val (.long q10), .second] [])) _
    refine st24 _ ?_
    show Steps p.tables e below (T24.setTop (mkF m 63 #[.val (.ref a1), .val (.int p2), .val (.int p3), .val (.long q4), .second, .val (.long q5), .second, .val (.long q6), .second, .val (.int p7), .val (.int p8), .val (.long q9), .second, .val (.long q10), .second] [(.ref cs24)])) _
    refine XS.lload X24.here hx rfl (hb hby d3_63) rfl ?_
    show Steps p.tables e below (T24.setTop (mkF m 65 #[.val (.ref a1), .val (.int p2), .val (.int p3), .val (.long q4), .second, .val (.long q5), .second, .val (.long q6), .second, .val (.int p7), .val (.int p8), .val (.long q9), .second, .val (.long q10), .second] [(.long q10), (.ref cs24)])) _
    refine XS.lconst X24.here hx rfl (hb hby d3_65) ?_
    show Steps p.tables e below (T24.setTop (mkF m 66 #[.val (.ref a1), .val (.int p2), .val (.int p3), .val (.long q4), .second, .val (.long q5), .second, .val (.long q6), .second, .val (.int p7), .val (.int p8), .val (.long q9), .second, .val (.long q10), .second] [(.long (0 : Int64)), (.long q10), (.ref cs24)])) _
    refine st25 _ ?_
    show Steps p.tables e below (T25.setTop (mkF m 69 #[.val (.ref a1), .val (.int p2), .val (.int p3), .val (.long q4), .second, .val (.long q5), .second, .val (.long q6), .second, .val (.int p7), .val (.int p8), .val (.long q9), .second, .val (.long q10), .second] [])) _
    refine XS.aloadN X25.here hx rfl (hb hby d3_69) rfl rfl ?_
    show Steps p.tables e below (T25.setTop (mkF m 70 #[.val (.ref a1), .val (.int p2), .val (.int p3), .val (.long q4), .second, .val (.long q5), .second, .val (.long q6), .second, .val (.int p7), .val (.int p8), .val (.long q9), .second, .val (.long q10), .second] [(.ref a1)])) _
    refine XS.iloadN X25.here hx rfl (hb hby d3_70) rfl ?_
    show Steps p.tables e below (T25.setTop (mkF m 71 #[.val (.ref a1), .val (.int p2), .val (.int p3), .val (.long q4), .second, .val (.long q5), .second, .val (.long q6), .second, .val (.int p7), .val (.int p8), .val (.long q9), .second, .val (.long q10), .second] [(.int p2), (.ref a1)])) _
    refine st26 _ ?_
    show Steps p.tables e below (T26.setTop (mkF m 74 #[.val (.ref a1), .val (.int p2), .val (.int p3), .val (.long q4), .second, .val (.long q5), .second, .val (.long q6), .second, .val (.int p7), .val (.int p8), .val (.long q9), .second, .val (.long q10), .second] [])) _
    refine XS.aloadN X26.here hx rfl (hb hby d3_74) rfl rfl ?_
    show Steps p.tables e below (T26.setTop (mkF m 75 #[.val (.ref a1), .val (.int p2), .val (.int p3), .val (.long q4), .second, .val (.long q5), .second, .val (.long q6), .second, .val (.int p7), .val (.int p8), .val (.long q9), .second, .val (.long q10), .second] [(.ref a1)])) _
    refine XS.iloadN X26.here hx rfl (hb hby d3_75) rfl ?_
    show Steps p.tables e below (T26.setTop (mkF m 76 #[.val (.ref a1), .val (.int p2), .val (.int p3), .val (.long q4), .second, .val (.long q5), .second, .val (.long q6), .second, .val (.int p7), .val (.int p8), .val (.long q9), .second, .val (.long q10), .second] [(.int p3), (.ref a1)])) _
    refine st27 _ ?_
    show Steps p.tables e below (T27.setTop (mkF m 79 #[.val (.ref a1), .val (.int p2), .val (.int p3), .val (.long q4), .second, .val (.long q5), .second, .val (.long q6), .second, .val (.int p7), .val (.int p8), .val (.long q9), .second, .val (.long q10), .second] [])) _
    refine XS.aloadN X27.here hx rfl (hb hby d3_79) rfl rfl ?_
    show Steps p.tables e below (T27.setTop (mkF m 80 #[.val (.ref a1), .val (.int p2), .val (.int p3), .val (.long q4), .second, .val (.long q5), .second, .val (.long q6), .second, .val (.int p7), .val (.int p8), .val (.long q9), .second, .val (.long q10), .second] [(.ref a1)])) _
    refine XS.lloadN X27.here hx rfl (hb hby d3_80) rfl ?_
    show Steps p.tables e below (T27.setTop (mkF m 81 #[.val (.ref a1), .val (.int p2), .val (.int p3), .val (.long q4), .second, .val (.long q5), .second, .val (.long q6), .second, .val (.int p7), .val (.int p8), .val (.long q9), .second, .val (.long q10), .second] [(.long q4), (.ref a1)])) _
    refine st28 _ ?_
    show Steps p.tables e below (T28.setTop (mkF m 84 #[.val (.ref a1), .val (.int p2), .val (.int p3), .val (.long q4), .second, .val (.long q5), .second, .val (.long q6), .second, .val (.int p7), .val (.int p8), .val (.long q9), .second, .val (.long q10), .second] [])) _
    refine XS.aloadN X28.here hx rfl (hb hby d3_84) rfl rfl ?_
    show Steps p.tables e below (T28.setTop (mkF m 85 #[.val (.ref a1), .val (.int p2), .val (.int p3), .val (.long q4), .second, .val (.long q5), .second, .val (.long q6), .second, .val (.int p7), .val (.int p8), .val (.long q9), .second, .val (.long q10), .second] [(.ref a1)])) _
    refine XS.lload X28.here hx rfl (hb hby d3_85) rfl ?_
    show Steps p.tables e below (T28.setTop (mkF m 87 #[.val (.ref a1), .val (.int p2), .val (.int p3), .val (.long q4), .second, .val (.long q5), .second, .val (.long q6), .second, .val (.int p7), .val (.int p8), .val (.long q9), .second, .val (.long q10), .second] [(.long q5), (.ref a1)])) _
    refine st29 _ ?_
    show Steps p.tables e below (T29.setTop (mkF m 90 #[.val (.ref a1), .val (.int p2), .val (.int p3), .val (.long q4), .second, .val (.long q5), .second, .val (.long q6), .second, .val (.int p7), .val (.int p8), .val (.long q9), .second, .val (.long q10), .second] [])) _
    refine XS.aloadN X29.here hx rfl (hb hby d3_90) rfl rfl ?_
    show Steps p.tables e below (T29.setTop (mkF m 91 #[.val (.ref a1), .val (.int p2), .val (.int p3), .val (.long q4), .second, .val (.long q5), .second, .val (.long q6), .second, .val (.int p7), .val (.int p8), .val (.long q9), .second, .val (.long q10), .second] [(.ref a1)])) _
    refine XS.lload X29.here hx rfl (hb hby d3_91) rfl ?_
    show Steps p.tables e below (T29.setTop (mkF m 93 #[.val (.ref a1), .val (.int p2), .val (.int p3), .val (.long q4), .second, .val (.long q5), .second, .val (.long q6), .second, .val (.int p7), .val (.int p8), .val (.long q9), .second, .val (.long q10), .second] [(.long q6), (.ref a1)])) _
    refine st30 _ ?_
    show Steps p.tables e below (T30.setTop (mkF m 96 #[.val (.ref a1), .val (.int p2), .val (.int p3), .val (.long q4), .second, .val (.long q5), .second, .val (.long q6), .second, .val (.int p7), .val (.int p8), .val (.long q9), .second, .val (.long q10), .second] [])) _
    refine XS.aloadN X30.here hx rfl (hb hby d3_96) rfl rfl ?_
    show Steps p.tables e below (T30.setTop (mkF m 97 #[.val (.ref a1), .val (.int p2), .val (.int p3), .val (.long q4), .second, .val (.long q5), .second, .val (.long q6), .second, .val (.int p7), .val (.int p8), .val (.long q9), .second, .val (.long q10), .second] [(.ref a1)])) _
    refine XS.iload X30.here hx rfl (hb hby d3_97) rfl ?_
    show Steps p.tables e below (T30.setTop (mkF m 99 #[.val (.ref a1), .val (.int p2), .val (.int p3), .val (.long q4), .second, .val (.long q5), .second, .val (.long q6), .second, .val (.int p7), .val (.int p8), .val (.long q9), .second, .val (.long q10), .second] [(.int p7), (.ref a1)])) _
    refine st31 _ ?_
    show Steps p.tables e below (T31.setTop (mkF m 102 #[.val (.ref a1), .val (.int p2), .val (.int p3), .val (.long q4), .second, .val (.long q5), .second, .val (.long q6), .second, .val (.int p7), .val (.int p8), .val (.long q9), .second, .val (.long q10), .second] [])) _
    refine XS.aloadN X31.here hx rfl (hb hby d3_102) rfl rfl ?_
    show Steps p.tables e below (T31.setTop (mkF m 103 #[.val (.ref a1), .val (.int p2), .val (.int p3), .val (.long q4), .second, .val (.long q5), .second, .val (.long q6), .second, .val (.int p7), .val (.int p8), .val (.long q9), .second, .val (.long q10), .second] [(.ref a1)])) _
    refine XS.iload X31.here hx rfl (hb hby d3_103) rfl ?_
    show Steps p.tables e below (T31.setTop (mkF m 105 #[.val (.ref a1), .val (.int p2), .val (.int p3), .val (.long q4), .second, .val (.long q5), .second, .val (.long q6), .second, .val (.int p7), .val (.int p8), .val (.long q9), .second, .val (.long q10), .second] [(.int p8), (.ref a1)])) _
    refine st32 _ ?_
    show Steps p.tables e below (T32.setTop (mkF m 108 #[.val (.ref a1), .val (.int p2), .val (.int p3), .val (.long q4), .second, .val (.long q5), .second, .val (.long q6), .second, .val (.int p7), .val (.int p8), .val (.long q9), .second, .val (.long q10), .second] [])) _
    refine XS.aloadN X32.here hx rfl (hb hby d3_108) rfl rfl ?_
    show Steps p.tables e below (T32.setTop (mkF m 109 #[.val (.ref a1), .val (.int p2), .val (.int p3), .val (.long q4), .second, .val (.long q5), .second, .val (.long q6), .second, .val (.int p7), .val (.int p8), .val (.long q9), .second, .val (.long q10), .second] [(.ref a1)])) _
    refine XS.lload X32.here hx rfl (hb hby d3_109) rfl ?_
    show Steps p.tables e below (T32.setTop (mkF m 111 #[.val (.ref a1), .val (.int p2), .val (.int p3), .val (.long q4), .second, .val (.long q5), .second, .val (.long q6), .second, .val (.int p7), .val (.int p8), .val (.long q9), .second, .val (.long q10), .second] [(.long q9), (.ref a1)])) _
    refine st33 _ ?_
    show Steps p.tables e below (T33.setTop (mkF m 114 #[.val (.ref a1), .val (.int p2), .val (.int p3), .val (.long q4), .second, .val (.long q5), .second, .val (.long q6), .second, .val (.int p7), .val (.int p8), .val (.long q9), .second, .val (.long q10), .second] [])) _
    refine XS.aloadN X33.here hx rfl (hb hby d3_114) rfl rfl ?_
    show Steps p.tables e below (T33.setTop (mkF m 115 #[.val (.ref a1), .val (.int p2), .val (.int p3), .val (.long q4), .second, .val (.long q5), .second, .val (.long q6), .second, .val (.int p7), .val (.int p8), .val (.long q9), .second, .val (.long q10), .second] [(.ref a1)])) _
    refine XS.lload X33.here hx rfl (hb hby d3_115) rfl ?_
    show Steps p.tables e below (T33.setTop (mkF m 117 #[.val (.ref a1), .val (.int p2), .val (.int p3), .val (.long q4), .second, .val (.long q5), .second, .val (.long q6), .second, .val (.int p7), .val (.int p8), .val (.long q9), .second, .val (.long q10), .second] [(.long q10), (.ref a1)])) _
    refine st34 _ ?_
    show Steps p.tables e below (T34.setTop (mkF m 120 #[.val (.ref a1), .val (.int p2), .val (.int p3), .val (.long q4), .second, .val (.long q5), .second, .val (.long q6), .second, .val (.int p7), .val (.int p8), .val (.long q9), .second, .val (.long q10), .second] [])) _
    exact X34.returnOut hx Bd.returns (hb hby d3_120) hr
  · refine ⟨?_, ?_⟩
    · show Q3 Z a1 p2 p3 q4 q5 q6 p7 p8 q9 q10 h0 n0 _ T34.heap _
      rw [e34]
      exact ⟨rfl, N34, K34, E_a1_34, F_servers_a1_34, F_sharding_a1_34, F_keepAliveMs_a1_34, F_coldStartMs_a1_34, F_durationMs_a1_34, F_maxConcurrent_a1_34, F_capacity_a1_34, F_warmUpMs_a1_34, F_hopMs_a1_34⟩
    · exact own_L_stays (s := s.setVm T24.vm) (⟨cs3, cs6, cs9, cs12, cs15, cs18, cs21, cs24, fun _ => ⟨Lt19_24, Lt25_24, Lt27_24, Lt29_24, Lt31_24, Lt33_24, Lt35_24, Lt37_24⟩⟩ : own_L T24.vm) X34.warmed
set_option maxRecDepth 65536 in
set_option maxHeartbeats 40000000 in
theorem rm3 (l : Launch) (Z : State) (a0 : Array Value) (hw : ∀ d ∈ tables_1, d.before a0 Z = true) (ws : List Jvm.Cond) (a1 : Addr) (p2 : Int32) (p3 : Int32) (q4 : Int64) (q5 : Int64) (q6 : Int64) (p7 : Int32) (p8 : Int32) (q9 : Int64) (q10 : Int64)  (h0 : Heap) (n0 : Nat) (Z0 : n0 ≤ h0.size) (E_a1 : Exa Z h0 a1 "com/example/prewrm/prewrm/model/ReplayConfig") (F_servers_a1 : Fld Z h0 a1 "com/example/prewrm/prewrm/model/ReplayConfig" "servers" "I" (.int (0 : Int32))) (F_sharding_a1 : Fld Z h0 a1 "com/example/prewrm/prewrm/model/ReplayConfig" "sharding" "Z" (.int (0 : Int32))) (F_keepAliveMs_a1 : Fld Z h0 a1 "com/example/prewrm/prewrm/model/ReplayConfig" "keepAliveMs" "J" (.long (0 : Int64))) (F_coldStartMs_a1 : Fld Z h0 a1 "com/example/prewrm/prewrm/model/ReplayConfig" "coldStartMs" "J" (.long (0 : Int64))) (F_durationMs_a1 : Fld Z h0 a1 "com/example/prewrm/prewrm/model/ReplayConfig" "durationMs" "J" (.long (0 : Int64))) (F_maxConcurrent_a1 : Fld Z h0 a1 "com/example/prewrm/prewrm/model/ReplayConfig" "maxConcurrent" "I" (.int (0 : Int32))) (F_capacity_a1 : Fld Z h0 a1 "com/example/prewrm/prewrm/model/ReplayConfig" "capacity" "I" (.int (0 : Int32))) (F_warmUpMs_a1 : Fld Z h0 a1 "com/example/prewrm/prewrm/model/ReplayConfig" "warmUpMs" "J" (.long (0 : Int64))) (F_hopMs_a1 : Fld Z h0 a1 "com/example/prewrm/prewrm/model/ReplayConfig" "hopMs" "J" (.long (0 : Int64))) (g_a1 : n0 ≤ a1) (hs : ¬ (p2.toInt64) < (1 : Int64)) (hm : ¬ (p7.toInt64) < (1 : Int64)) (hc : ¬ (p8.toInt64) < (1 : Int64)) (hk : ¬ q4 < (0 : Int64)) (hcs : ¬ q5 < (0 : Int64)) (hd : ¬ q6 < (0 : Int64)) (hw_ : ¬ q9 < (0 : Int64)) (hh_ : ¬ q10 < (0 : Int64)) :
    MetFree l (⟨"com/example/prewrm/prewrm/model/ReplayConfig", "<init>", "(IZJJJIIJJ)V"⟩ : MethodName) (head1 (Jvm.Cond.code (⟨"com/example/prewrm/prewrm/model/ReplayConfig", "<init>", "(IZJJJIIJJ)V"⟩ : MethodName) prog_18_method_2_code 15 none :: ws) ({ frames := 1, cells := 0, slots := 0, locals := 16 } : Room)) (fun a U => (a = #[(.ref a1), (.int p2), (.int p3), (.long q4), (.long q5), (.long q6), (.int p7), (.int p8), (.long q9), (.long q10)] ∧ Z.Warmed39 U.vm ∧ U.heap = h0) ∧ own_L U.vm) (fun _ _ _ _ _ => True) (fun _ U o U' => ∃ v L, o = .returned v ∧ Q3 Z a1 p2 p3 q4 q5 q6 p7 p8 q9 q10 h0 n0 v U'.heap L ∧ FrameEnd U o U' L ({ frames := 1, cells := 0, slots := 0, locals := 16 } : Room).cells ({ frames := 1, cells := 0, slots := 0, locals := 16 } : Room).slots) := by
  refine MetFree.of_bodySF (plainFor_of_name pn_3) hisR ?_
  intro p e s m args below meth c s₁ Bd hml0 hP hK
  obtain ⟨⟨rfl, hZ, hh⟩, hL⟩ := hP
  have hx := Bd.exec
  have hby := Bd.bytes
  have hml : c.maxLocals = 15 := hml0
  have hown : s.vm.findClass "com/example/prewrm/prewrm/model/ReplayConfig" = some m.cls := findClass_of_methodNamed Bd.named
  have hnm := (name_of_methodNamed Bd.named Bd.method).1
  have X0 : Stand p l e ({ frames := 1, cells := 0, slots := 0, locals := 16 } : Room) s m #[(.ref a1), (.int p2), (.int p3), (.long q4), (.long q5), (.long q6), (.int p7), (.int p8), (.long q9), (.long q10)] below meth c s₁ [] 0 0 := Stand.of_body Bd
  have e0 : s₁.heap = h0 := by rw [← hh, Bd.state]; rfl
  have N0 := Fr.nil n0
  have pre0 : ∀ t, Steps p.tables e below (s₁.setTop (mkF m 0 #[.val (.ref a1), .val (.int p2), .val (.int p3), .val (.long q4), .second, .val (.long q5), .second, .val (.long q6), .second, .val (.int p7), .val (.int p8), .val (.long q9), .second, .val (.long q10), .second] [])) t → Steps p.tables e below (s₁.setTop (entryFrame m #[(.ref a1), (.int p2), (.int p3), (.long q4), (.long q5), (.long q6), (.int p7), (.int p8), (.long q9), (.long q10)] 15)) t := fun t k => castTop (ef_3 m a1 p2 p3 q4 q5 q6 p7 p8 q9 q10) k
  have K0 := Keep.refl h0 ([a1] : List Addr)
  obtain ⟨ls19, ls25, ls27, ls29, ls31, ls33, ls35, ls37, hLs⟩ := hL
  obtain ⟨Ls19, Ls25, Ls27, Ls29, Ls31, Ls33, Ls35, Ls37⟩ := hLs s
  have hL : own_L s.vm := ⟨ls19, ls25, ls27, ls29, ls31, ls33, ls35, ls37, fun _ => ⟨Ls19, Ls25, Ls27, Ls29, Ls31, Ls33, Ls35, Ls37⟩⟩
  obtain ⟨T1, X1, e1, st1⟩ := initO X0 hx hZ hown (hw _ (List.mem_of_getElem? (i := 17) rfl)) (hw _ (List.mem_of_getElem? (i := 18) rfl)) (hw _ (List.mem_of_getElem? (i := 19) rfl)) e0 (g := (mkF m 1 #[.val (.ref a1), .val (.int p2), .val (.int p3), .val (.long q4), .second, .val (.long q5), .second, .val (.long q6), .second, .val (.int p7), .val (.int p8), .val (.long q9), .second, .val (.long q10), .second] [(.ref a1)])) rfl (by rw [hml]; rfl) rfl (hb hby d3_1) (by decide) (W := 0) (by show 2 * 0 + _ ≤ _; exact Nat.le_of_eq rfl) (by decide)
  obtain ⟨_, _, ⟨T2, L2, k2, n2⟩, -, X2, ⟨Lc2, hQ2, l2, y2, z2⟩, st2⟩ := Jvm.LawKit.callS X1 hx (y := (⟨"com/example/prewrm/prewrm/model/ReplayConfig", "checkAtLeast", "(Ljava/lang/String;JJ)V"⟩ : MethodName)) hown (mvT hZ (hw _ (List.mem_of_getElem? (i := 28) rfl))) (mvT hZ (hw _ (List.mem_of_getElem? (i := 29) rfl))) (mvT hZ (hw _ (List.mem_of_getElem? (i := 7) rfl))) (mvT hZ (hw _ (List.mem_of_getElem? (i := 30) rfl))) (by decide) (backOf (W := 0) (rm5 l Z a0 hw [] ls19 (p2.toInt64) (1 : Int64) h0 n0 Z0 hs) hZ (hw _ (List.mem_of_getElem? (i := 30) rfl)) (hw _ (List.mem_of_getElem? (i := 7) rfl)) (by decide) (by decide)) (g := (mkF m 9 #[.val (.ref a1), .val (.int p2), .val (.int p3), .val (.long q4), .second, .val (.long q5), .second, .val (.long q6), .second, .val (.int p7), .val (.int p8), .val (.long q9), .second, .val (.long q10), .second] [(.long (1 : Int64)), (.long (p2.toInt64)), (.ref ls19)])) rfl (by rw [hml]; rfl) (argsL := [(.ref ls19), (.long (p2.toInt64)), (.long (1 : Int64))]) (rest := []) (lenOf pd_0 rfl) rfl (by show 2 * 0 + _ ≤ _; exact Nat.le_of_eq rfl) (hb hby d3_9) (fun _ _ => ⟨rfl, e1, (by decide : 0 + 0 ≤ _), (by decide : 0 + 0 ≤ _)⟩)
  dsimp only [Pt.U, Pt.locs, Pt.cells, Pt.slots] at X2 l2 y2 z2 st2 hQ2
  subst l2 y2 z2
  obtain ⟨rfl, N2q, e2⟩ := hQ2
  have N2 := Fr.app N0 N2q
  obtain ⟨_, _, ⟨T3, L3, k3, n3⟩, -, X3, ⟨Lc3, hQ3, l3, y3, z3⟩, st3⟩ := Jvm.LawKit.callS X2 hx (y := (⟨"com/example/prewrm/prewrm/model/ReplayConfig", "checkAtLeast", "(Ljava/lang/String;JJ)V"⟩ : MethodName)) hown (mvT hZ (hw _ (List.mem_of_getElem? (i := 28) rfl))) (mvT hZ (hw _ (List.mem_of_getElem? (i := 29) rfl))) (mvT hZ (hw _ (List.mem_of_getElem? (i := 7) rfl))) (mvT hZ (hw _ (List.mem_of_getElem? (i := 30) rfl))) (by decide) (backOf (W := 0) (rm5 l Z a0 hw [] ls25 (p7.toInt64) (1 : Int64) h0 n0 Z0 hm) hZ (hw _ (List.mem_of_getElem? (i := 30) rfl)) (hw _ (List.mem_of_getElem? (i := 7) rfl)) (by decide) (by decide)) (g := (mkF m 18 #[.val (.ref a1), .val (.int p2), .val (.int p3), .val (.long q4), .second, .val (.long q5), .second, .val (.long q6), .second, .val (.int p7), .val (.int p8), .val (.long q9), .second, .val (.long q10), .second] [(.long (1 : Int64)), (.long (p7.toInt64)), (.ref ls25)])) rfl (by rw [hml]; rfl) (argsL := [(.ref ls25), (.long (p7.toInt64)), (.long (1 : Int64))]) (rest := []) (lenOf pd_0 rfl) rfl (by show 2 * 0 + _ ≤ _; exact Nat.le_of_eq rfl) (hb hby d3_18) (fun _ _ => ⟨rfl, e2, (by decide : 0 + 0 ≤ _), (by decide : 0 + 0 ≤ _)⟩)
  dsimp only [Pt.U, Pt.locs, Pt.cells, Pt.slots] at X3 l3 y3 z3 st3 hQ3
  subst l3 y3 z3
  obtain ⟨rfl, N3q, e3⟩ := hQ3
  have N3 := Fr.app N2 N3q
  obtain ⟨_, _, ⟨T4, L4, k4, n4⟩, -, X4, ⟨Lc4, hQ4, l4, y4, z4⟩, st4⟩ := Jvm.LawKit.callS X3 hx (y := (⟨"com/example/prewrm/prewrm/model/ReplayConfig", "checkAtLeast", "(Ljava/lang/String;JJ)V"⟩ : MethodName)) hown (mvT hZ (hw _ (List.mem_of_getElem? (i := 28) rfl))) (mvT hZ (hw _ (List.mem_of_getElem? (i := 29) rfl))) (mvT hZ (hw _ (List.mem_of_getElem? (i := 7) rfl))) (mvT hZ (hw _ (List.mem_of_getElem? (i := 30) rfl))) (by decide) (backOf (W := 0) (rm5 l Z a0 hw [] ls27 (p8.toInt64) (1 : Int64) h0 n0 Z0 hc) hZ (hw _ (List.mem_of_getElem? (i := 30) rfl)) (hw _ (List.mem_of_getElem? (i := 7) rfl)) (by decide) (by decide)) (g := (mkF m 27 #[.val (.ref a1), .val (.int p2), .val (.int p3), .val (.long q4), .second, .val (.long q5), .second, .val (.long q6), .second, .val (.int p7), .val (.int p8), .val (.long q9), .second, .val (.long q10), .second] [(.long (1 : Int64)), (.long (p8.toInt64)), (.ref ls27)])) rfl (by rw [hml]; rfl) (argsL := [(.ref ls27), (.long (p8.toInt64)), (.long (1 : Int64))]) (rest := []) (lenOf pd_0 rfl) rfl (by show 2 * 0 + _ ≤ _; exact Nat.le_of_eq rfl) (hb hby d3_27) (fun _ _ => ⟨rfl, e3, (by decide : 0 + 0 ≤ _), (by decide : 0 + 0 ≤ _)⟩)
  dsimp only [Pt.U, Pt.locs, Pt.cells, Pt.slots] at X4 l4 y4 z4 st4 hQ4
  subst l4 y4 z4
  obtain ⟨rfl, N4q, e4⟩ := hQ4
  have N4 := Fr.app N3 N4q
  obtain ⟨_, _, ⟨T5, L5, k5, n5⟩, -, X5, ⟨Lc5, hQ5, l5, y5, z5⟩, st5⟩ := Jvm.LawKit.callS X4 hx (y := (⟨"com/example/prewrm/prewrm/model/ReplayConfig", "checkAtLeast", "(Ljava/lang/String;JJ)V"⟩ : MethodName)) hown (mvT hZ (hw _ (List.mem_of_getElem? (i := 28) rfl))) (mvT hZ (hw _ (List.mem_of_getElem? (i := 29) rfl))) (mvT hZ (hw _ (List.mem_of_getElem? (i := 7) rfl))) (mvT hZ (hw _ (List.mem_of_getElem? (i := 30) rfl))) (by decide) (backOf (W := 0) (rm5 l Z a0 hw [] ls29 q4 (0 : Int64) h0 n0 Z0 hk) hZ (hw _ (List.mem_of_getElem? (i := 30) rfl)) (hw _ (List.mem_of_getElem? (i := 7) rfl)) (by decide) (by decide)) (g := (mkF m 34 #[.val (.ref a1), .val (.int p2), .val (.int p3), .val (.long q4), .second, .val (.long q5), .second, .val (.long q6), .second, .val (.int p7), .val (.int p8), .val (.long q9), .second, .val (.long q10), .second] [(.long (0 : Int64)), (.long q4), (.ref ls29)])) rfl (by rw [hml]; rfl) (argsL := [(.ref ls29), (.long q4), (.long (0 : Int64))]) (rest := []) (lenOf pd_0 rfl) rfl (by show 2 * 0 + _ ≤ _; exact Nat.le_of_eq rfl) (hb hby d3_34) (fun _ _ => ⟨rfl, e4, (by decide : 0 + 0 ≤ _), (by decide : 0 + 0 ≤ _)⟩)
  dsimp only [Pt.U, Pt.locs, Pt.cells, Pt.slots] at X5 l5 y5 z5 st5 hQ5
  subst l5 y5 z5
  obtain ⟨rfl, N5q, e5⟩ := hQ5
  have N5 := Fr.app N4 N5q
  obtain ⟨_, _, ⟨T6, L6, k6, n6⟩, -, X6, ⟨Lc6, hQ6, l6, y6, z6⟩, st6⟩ := Jvm.LawKit.callS X5 hx (y := (⟨"com/example/prewrm/prewrm/model/ReplayConfig", "checkAtLeast", "(Ljava/lang/String;JJ)V"⟩ : MethodName)) hown (mvT hZ (hw _ (List.mem_of_getElem? (i := 28) rfl))) (mvT hZ (hw _ (List.mem_of_getElem? (i := 29) rfl))) (mvT hZ (hw _ (List.mem_of_getElem? (i := 7) rfl))) (mvT hZ (hw _ (List.mem_of_getElem? (i := 30) rfl))) (by decide) (backOf (W := 0) (rm5 l Z a0 hw [] ls31 q5 (0 : Int64) h0 n0 Z0 hcs) hZ (hw _ (List.mem_of_getElem? (i := 30) rfl)) (hw _ (List.mem_of_getElem? (i := 7) rfl)) (by decide) (by decide)) (g := (mkF m 42 #[.val (.ref a1), .val (.int p2), .val (.int p3), .val (.long q4), .second, .val (.long q5), .second, .val (.long q6), .second, .val (.int p7), .val (.int p8), .val (.long q9), .second, .val (.long q10), .second] [(.long (0 : Int64)), (.long q5), (.ref ls31)])) rfl (by rw [hml]; rfl) (argsL := [(.ref ls31), (.long q5), (.long (0 : Int64))]) (rest := []) (lenOf pd_0 rfl) rfl (by show 2 * 0 + _ ≤ _; exact Nat.le_of_eq rfl) (hb hby d3_42) (fun _ _ => ⟨rfl, e5, (by decide : 0 + 0 ≤ _), (by decide : 0 + 0 ≤ _)⟩)
  dsimp only [Pt.U, Pt.locs, Pt.cells, Pt.slots] at X6 l6 y6 z6 st6 hQ6
  subst l6 y6 z6
  obtain ⟨rfl, N6q, e6⟩ := hQ6
  have N6 := Fr.app N5 N6q
  obtain ⟨_, _, ⟨T7, L7, k7, n7⟩, -, X7, ⟨Lc7, hQ7, l7, y7, z7⟩, st7⟩ := Jvm.LawKit.callS X6 hx (y := (⟨"com/example/prewrm/prewrm/model/ReplayConfig", "checkAtLeast", "(Ljava/lang/String;JJ)V"⟩ : MethodName)) hown (mvT hZ (hw _ (List.mem_of_getElem? (i := 28) rfl))) (mvT hZ (hw _ (List.mem_of_getElem? (i := 29) rfl))) (mvT hZ (hw _ (List.mem_of_getElem? (i := 7) rfl))) (mvT hZ (hw _ (List.mem_of_getElem? (i := 30) rfl))) (by decide) (backOf (W := 0) (rm5 l Z a0 hw [] ls33 q6 (0 : Int64) h0 n0 Z0 hd) hZ (hw _ (List.mem_of_getElem? (i := 30) rfl)) (hw _ (List.mem_of_getElem? (i := 7) rfl)) (by decide) (by decide)) (g := (mkF m 50 #[.val (.ref a1), .val (.int p2), .val (.int p3), .val (.long q4), .second, .val (.long q5), .second, .val (.long q6), .second, .val (.int p7), .val (.int p8), .val (.long q9), .second, .val (.long q10), .second] [(.long (0 : Int64)), (.long q6), (.ref ls33)])) rfl (by rw [hml]; rfl) (argsL := [(.ref ls33), (.long q6), (.long (0 : Int64))]) (rest := []) (lenOf pd_0 rfl) rfl (by show 2 * 0 + _ ≤ _; exact Nat.le_of_eq rfl) (hb hby d3_50) (fun _ _ => ⟨rfl, e6, (by decide : 0 + 0 ≤ _), (by decide : 0 + 0 ≤ _)⟩)
  dsimp only [Pt.U, Pt.locs, Pt.cells, Pt.slots] at X7 l7 y7 z7 st7 hQ7
  subst l7 y7 z7
  obtain ⟨rfl, N7q, e7⟩ := hQ7
  have N7 := Fr.app N6 N7q
  obtain ⟨_, _, ⟨T8, L8, k8, n8⟩, -, X8, ⟨Lc8, hQ8, l8, y8, z8⟩, st8⟩ := Jvm.LawKit.callS X7 hx (y := (⟨"com/example/prewrm/prewrm/model/ReplayConfig", "checkAtLeast", "(Ljava/lang/String;JJ)V"⟩ : MethodName)) hown (mvT hZ (hw _ (List.mem_of_getElem? (i := 28) rfl))) (mvT hZ (hw _ (List.mem_of_getElem? (i := 29) rfl))) (mvT hZ (hw _ (List.mem_of_getElem? (i := 7) rfl))) (mvT hZ (hw _ (List.mem_of_getElem? (i := 30) rfl))) (by decide) (backOf (W := 0) (rm5 l Z a0 hw [] ls35 q9 (0 : Int64) h0 n0 Z0 hw_) hZ (hw _ (List.mem_of_getElem? (i := 30) rfl)) (hw _ (List.mem_of_getElem? (i := 7) rfl)) (by decide) (by decide)) (g := (mkF m 58 #[.val (.ref a1), .val (.int p2), .val (.int p3), .val (.long q4), .second, .val (.long q5), .second, .val (.long q6), .second, .val (.int p7), .val (.int p8), .val (.long q9), .second, .val (.long q10), .second] [(.long (0 : Int64)), (.long q9), (.ref ls35)])) rfl (by rw [hml]; rfl) (argsL := [(.ref ls35), (.long q9), (.long (0 : Int64))]) (rest := []) (lenOf pd_0 rfl) rfl (by show 2 * 0 + _ ≤ _; exact Nat.le_of_eq rfl) (hb hby d3_58) (fun _ _ => ⟨rfl, e7, (by decide : 0 + 0 ≤ _), (by decide : 0 + 0 ≤ _)⟩)
  dsimp only [Pt.U, Pt.locs, Pt.cells, Pt.slots] at X8 l8 y8 z8 st8 hQ8
  subst l8 y8 z8
  obtain ⟨rfl, N8q, e8⟩ := hQ8
  have N8 := Fr.app N7 N8q
  obtain ⟨_, _, ⟨T9, L9, k9, n9⟩, -, X9, ⟨Lc9, hQ9, l9, y9, z9⟩, st9⟩ := Jvm.LawKit.callS X8 hx (y := (⟨"com/example/prewrm/prewrm/model/ReplayConfig", "checkAtLeast", "(Ljava/lang/String;JJ)V"⟩ : MethodName)) hown (mvT hZ (hw _ (List.mem_of_getElem? (i := 28) rfl))) (mvT hZ (hw _ (List.mem_of_getElem? (i := 29) rfl))) (mvT hZ (hw _ (List.mem_of_getElem? (i := 7) rfl))) (mvT hZ (hw _ (List.mem_of_getElem? (i := 30) rfl))) (by decide) (backOf (W := 0) (rm5 l Z a0 hw [] ls37 q10 (0 : Int64) h0 n0 Z0 hh_) hZ (hw _ (List.mem_of_getElem? (i := 30) rfl)) (hw _ (List.mem_of_getElem? (i := 7) rfl)) (by decide) (by decide)) (g := (mkF m 66 #[.val (.ref a1), .val (.int p2), .val (.int p3), .val (.long q4), .second, .val (.long q5), .second, .val (.long q6), .second, .val (.int p7), .val (.int p8), .val (.long q9), .second, .val (.long q10), .second] [(.long (0 : Int64)), (.long q10), (.ref ls37)])) rfl (by rw [hml]; rfl) (argsL := [(.ref ls37), (.long q10), (.long (0 : Int64))]) (rest := []) (lenOf pd_0 rfl) rfl (by show 2 * 0 + _ ≤ _; exact Nat.le_of_eq rfl) (hb hby d3_66) (fun _ _ => ⟨rfl, e8, (by decide : 0 + 0 ≤ _), (by decide : 0 + 0 ≤ _)⟩)
  dsimp only [Pt.U, Pt.locs, Pt.cells, Pt.slots] at X9 l9 y9 z9 st9 hQ9
  subst l9 y9 z9
  obtain ⟨rfl, N9q, e9⟩ := hQ9
  have N9 := Fr.app N8 N9q
  obtain ⟨T10, h10, X10, e10, W10, st10⟩ := putF X9 hx hZ hown (host := "") (Or.inl (hw _ (List.mem_of_getElem? (i := 38) rfl))) Via.refl e9 F_servers_a1 E_a1 (Or.inr ⟨(hw _ (List.mem_of_getElem? (i := 39) rfl)), rfl, hnm⟩) (hw _ (List.mem_of_getElem? (i := 6) rfl)) (ty := .int) (by decide) rfl rfl (g := (mkF m 71 #[.val (.ref a1), .val (.int p2), .val (.int p3), .val (.long q4), .second, .val (.long q5), .second, .val (.long q6), .second, .val (.int p7), .val (.int p8), .val (.long q9), .second, .val (.long q10), .second] [(.int p2), (.ref a1)])) rfl rfl (hb hby d3_71)
  have E_a1_10 : Exa Z h10 a1 "com/example/prewrm/prewrm/model/ReplayConfig" := E_a1.wr W10
  have F_sharding_a1_10 : Fld Z h10 a1 "com/example/prewrm/prewrm/model/ReplayConfig" "sharding" "Z" (.int (0 : Int32)) := F_sharding_a1.other W10 (Or.inr (slot_ne (Or.inr (hw _ (List.mem_of_getElem? (i := 41) rfl))) (Or.inr (hw _ (List.mem_of_getElem? (i := 39) rfl))) (by decide) (t := .boolean) (t' := .int) (by decide) (by decide)))
  have F_keepAliveMs_a1_10 : Fld Z h10 a1 "com/example/prewrm/prewrm/model/ReplayConfig" "keepAliveMs" "J" (.long (0 : Int64)) := F_keepAliveMs_a1.other W10 (Or.inr (slot_ne (Or.inr (hw _ (List.mem_of_getElem? (i := 43) rfl))) (Or.inr (hw _ (List.mem_of_getElem? (i := 39) rfl))) (by decide) (t := .long) (t' := .int) (by decide) (by decide)))
  have F_coldStartMs_a1_10 : Fld Z h10 a1 "com/example/prewrm/prewrm/model/ReplayConfig" "coldStartMs" "J" (.long (0 : Int64)) := F_coldStartMs_a1.other W10 (Or.inr (slot_ne (Or.inr (hw _ (List.mem_of_getElem? (i := 45) rfl))) (Or.inr (hw _ (List.mem_of_getElem? (i := 39) rfl))) (by decide) (t := .long) (t' := .int) (by decide) (by decide)))
  have F_durationMs_a1_10 : Fld Z h10 a1 "com/example/prewrm/prewrm/model/ReplayConfig" "durationMs" "J" (.long (0 : Int64)) := F_durationMs_a1.other W10 (Or.inr (slot_ne (Or.inr (hw _ (List.mem_of_getElem? (i := 47) rfl))) (Or.inr (hw _ (List.mem_of_getElem? (i := 39) rfl))) (by decide) (t := .long) (t' := .int) (by decide) (by decide)))
  have F_maxConcurrent_a1_10 : Fld Z h10 a1 "com/example/prewrm/prewrm/model/ReplayConfig" "maxConcurrent" "I" (.int (0 : Int32)) := F_maxConcurrent_a1.other W10 (Or.inr (slot_ne (Or.inr (hw _ (List.mem_of_getElem? (i := 49) rfl))) (Or.inr (hw _ (List.mem_of_getElem? (i := 39) rfl))) (by decide) (t := .int) (t' := .int) (by decide) (by decide)))
  have F_capacity_a1_10 : Fld Z h10 a1 "com/example/prewrm/prewrm/model/ReplayConfig" "capacity" "I" (.int (0 : Int32)) := F_capacity_a1.other W10 (Or.inr (slot_ne (Or.inr (hw _ (List.mem_of_getElem? (i := 51) rfl))) (Or.inr (hw _ (List.mem_of_getElem? (i := 39) rfl))) (by decide) (t := .int) (t' := .int) (by decide) (by decide)))
  have F_warmUpMs_a1_10 : Fld Z h10 a1 "com/example/prewrm/prewrm/model/ReplayConfig" "warmUpMs" "J" (.long (0 : Int64)) := F_warmUpMs_a1.other W10 (Or.inr (slot_ne (Or.inr (hw _ (List.mem_of_getElem? (i := 53) rfl))) (Or.inr (hw _ (List.mem_of_getElem? (i := 39) rfl))) (by decide) (t := .long) (t' := .int) (by decide) (by decide)))
  have F_hopMs_a1_10 : Fld Z h10 a1 "com/example/prewrm/prewrm/model/ReplayConfig" "hopMs" "J" (.long (0 : Int64)) := F_hopMs_a1.other W10 (Or.inr (slot_ne (Or.inr (hw _ (List.mem_of_getElem? (i := 55) rfl))) (Or.inr (hw _ (List.mem_of_getElem? (i := 39) rfl))) (by decide) (t := .long) (t' := .int) (by decide) (by decide)))
  have K10 := K0.wr W10 (Or.inl (List.mem_of_getElem? (i := 0) rfl))
  have Zs10 := Nat.le_trans Z0 (Keep.of_wr W10).1
  have N10 := Fr.snoc X10 N9 g_a1
  have F_servers_a1_10 : Fld Z h10 a1 "com/example/prewrm/prewrm/model/ReplayConfig" "servers" "I" (.int p2) := F_servers_a1.same W10
  obtain ⟨T11, h11, X11, e11, W11, st11⟩ := putFN X10 hx hZ hown (hw _ (List.mem_of_getElem? (i := 40) rfl)) Via.refl e10 F_sharding_a1_10 E_a1_10 (Or.inr ⟨(hw _ (List.mem_of_getElem? (i := 41) rfl)), rfl, hnm⟩) (hw _ (List.mem_of_getElem? (i := 6) rfl)) (ty := .boolean) (v' := (.int (nar .boolean p3))) (by decide) rfl (fits_nar_bool _) (g := (mkF m 76 #[.val (.ref a1), .val (.int p2), .val (.int p3), .val (.long q4), .second, .val (.long q5), .second, .val (.long q6), .second, .val (.int p7), .val (.int p8), .val (.long q9), .second, .val (.long q10), .second] [(.int p3), (.ref a1)])) rfl rfl (hb hby d3_76)
  have E_a1_11 : Exa Z h11 a1 "com/example/prewrm/prewrm/model/ReplayConfig" := E_a1_10.wr W11
  have F_keepAliveMs_a1_11 : Fld Z h11 a1 "com/example/prewrm/prewrm/model/ReplayConfig" "keepAliveMs" "J" (.long (0 : Int64)) := F_keepAliveMs_a1_10.other W11 (Or.inr (slot_ne (Or.inr (hw _ (List.mem_of_getElem? (i := 43) rfl))) (Or.inr (hw _ (List.mem_of_getElem? (i := 41) rfl))) (by decide) (t := .long) (t' := .boolean) (by decide) (by decide)))
  have F_coldStartMs_a1_11 : Fld Z h11 a1 "com/example/prewrm/prewrm/model/ReplayConfig" "coldStartMs" "J" (.long (0 : Int64)) := F_coldStartMs_a1_10.other W11 (Or.inr (slot_ne (Or.inr (hw _ (List.mem_of_getElem? (i := 45) rfl))) (Or.inr (hw _ (List.mem_of_getElem? (i := 41) rfl))) (by decide) (t := .long) (t' := .boolean) (by decide) (by decide)))
  have F_durationMs_a1_11 : Fld Z h11 a1 "com/example/prewrm/prewrm/model/ReplayConfig" "durationMs" "J" (.long (0 : Int64)) := F_durationMs_a1_10.other W11 (Or.inr (slot_ne (Or.inr (hw _ (List.mem_of_getElem? (i := 47) rfl))) (Or.inr (hw _ (List.mem_of_getElem? (i := 41) rfl))) (by decide) (t := .long) (t' := .boolean) (by decide) (by decide)))
  have F_maxConcurrent_a1_11 : Fld Z h11 a1 "com/example/prewrm/prewrm/model/ReplayConfig" "maxConcurrent" "I" (.int (0 : Int32)) := F_maxConcurrent_a1_10.other W11 (Or.inr (slot_ne (Or.inr (hw _ (List.mem_of_getElem? (i := 49) rfl))) (Or.inr (hw _ (List.mem_of_getElem? (i := 41) rfl))) (by decide) (t := .int) (t' := .boolean) (by decide) (by decide)))
  have F_capacity_a1_11 : Fld Z h11 a1 "com/example/prewrm/prewrm/model/ReplayConfig" "capacity" "I" (.int (0 : Int32)) := F_capacity_a1_10.other W11 (Or.inr (slot_ne (Or.inr (hw _ (List.mem_of_getElem? (i := 51) rfl))) (Or.inr (hw _ (List.mem_of_getElem? (i := 41) rfl))) (by decide) (t := .int) (t' := .boolean) (by decide) (by decide)))
  have F_warmUpMs_a1_11 : Fld Z h11 a1 "com/example/prewrm/prewrm/model/ReplayConfig" "warmUpMs" "J" (.long (0 : Int64)) := F_warmUpMs_a1_10.other W11 (Or.inr (slot_ne (Or.inr (hw _ (List.mem_of_getElem? (i := 53) rfl))) (Or.inr (hw _ (List.mem_of_getElem? (i := 41) rfl))) (by decide) (t := .long) (t' := .boolean) (by decide) (by decide)))
  have F_hopMs_a1_11 : Fld Z h11 a1 "com/example/prewrm/prewrm/model/ReplayConfig" "hopMs" "J" (.long (0 : Int64)) := F_hopMs_a1_10.other W11 (Or.inr (slot_ne (Or.inr (hw _ (List.mem_of_getElem? (i := 55) rfl))) (Or.inr (hw _ (List.mem_of_getElem? (i := 41) rfl))) (by decide) (t := .long) (t' := .boolean) (by decide) (by decide)))
  have F_servers_a1_11 : Fld Z h11 a1 "com/example/prewrm/prewrm/model/ReplayConfig" "servers" "I" (.int p2) := F_servers_a1_10.other W11 (Or.inr (slot_ne (Or.inr (hw _ (List.mem_of_getElem? (i := 39) rfl))) (Or.inr (hw _ (List.mem_of_getElem? (i := 41) rfl))) (by decide) (t := .int) (t' := .boolean) (by decide) (by decide)))
  have K11 := K10.wr W11 (Or.inl (List.mem_of_getElem? (i := 0) rfl))
  have Zs11 := Nat.le_trans Zs10 (Keep.of_wr W11).1
  have N11 := Fr.snoc X11 N10 g_a1
  have F_sharding_a1_11 : Fld Z h11 a1 "com/example/prewrm/prewrm/model/ReplayConfig" "sharding" "Z" (.int (nar .boolean p3)) := F_sharding_a1_10.same W11
  obtain ⟨T12, h12, X12, e12, W12, st12⟩ := putF X11 hx hZ hown (host := "") (Or.inl (hw _ (List.mem_of_getElem? (i := 42) rfl))) Via.refl e11 F_keepAliveMs_a1_11 E_a1_11 (Or.inr ⟨(hw _ (List.mem_of_getElem? (i := 43) rfl)), rfl, hnm⟩) (hw _ (List.mem_of_getElem? (i := 6) rfl)) (ty := .long) (by decide) rfl rfl (g := (mkF m 81 #[.val (.ref a1), .val (.int p2), .val (.int p3), .val (.long q4), .second, .val (.long q5), .second, .val (.long q6), .second, .val (.int p7), .val (.int p8), .val (.long q9), .second, .val (.long q10), .second] [(.long q4), (.ref a1)])) rfl rfl (hb hby d3_81)
  have E_a1_12 : Exa Z h12 a1 "com/example/prewrm/prewrm/model/ReplayConfig" := E_a1_11.wr W12
  have F_coldStartMs_a1_12 : Fld Z h12 a1 "com/example/prewrm/prewrm/model/ReplayConfig" "coldStartMs" "J" (.long (0 : Int64)) := F_coldStartMs_a1_11.other W12 (Or.inr (slot_ne (Or.inr (hw _ (List.mem_of_getElem? (i := 45) rfl))) (Or.inr (hw _ (List.mem_of_getElem? (i := 43) rfl))) (by decide) (t := .long) (t' := .long) (by decide) (by decide)))
  have F_durationMs_a1_12 : Fld Z h12 a1 "com/example/prewrm/prewrm/model/ReplayConfig" "durationMs" "J" (.long (0 : Int64)) := F_durationMs_a1_11.other W12 (Or.inr (slot_ne (Or.inr (hw _ (List.mem_of_getElem? (i := 47) rfl))) (Or.inr (hw _ (List.mem_of_getElem? (i := 43) rfl))) (by decide) (t := .long) (t' := .long) (by decide) (by decide)))
  have F_maxConcurrent_a1_12 : Fld Z h12 a1 "com/example/prewrm/prewrm/model/ReplayConfig" "maxConcurrent" "I" (.int (0 : Int32)) := F_maxConcurrent_a1_11.other W12 (Or.inr (slot_ne (Or.inr (hw _ (List.mem_of_getElem? (i := 49) rfl))) (Or.inr (hw _ (List.mem_of_getElem? (i := 43) rfl))) (by decide) (t := .int) (t' := .long) (by decide) (by decide)))
  have F_capacity_a1_12 : Fld Z h12 a1 "com/example/prewrm/prewrm/model/ReplayConfig" "capacity" "I" (.int (0 : Int32)) := F_capacity_a1_11.other W12 (Or.inr (slot_ne (Or.inr (hw _ (List.mem_of_getElem? (i := 51) rfl))) (Or.inr (hw _ (List.mem_of_getElem? (i := 43) rfl))) (by decide) (t := .int) (t' := .long) (by decide) (by decide)))
  have F_warmUpMs_a1_12 : Fld Z h12 a1 "com/example/prewrm/prewrm/model/ReplayConfig" "warmUpMs" "J" (.long (0 : Int64)) := F_warmUpMs_a1_11.other W12 (Or.inr (slot_ne (Or.inr (hw _ (List.mem_of_getElem? (i := 53) rfl))) (Or.inr (hw _ (List.mem_of_getElem? (i := 43) rfl))) (by decide) (t := .long) (t' := .long) (by decide) (by decide)))
  have F_hopMs_a1_12 : Fld Z h12 a1 "com/example/prewrm/prewrm/model/ReplayConfig" "hopMs" "J" (.long (0 : Int64)) := F_hopMs_a1_11.other W12 (Or.inr (slot_ne (Or.inr (hw _ (List.mem_of_getElem? (i := 55) rfl))) (Or.inr (hw _ (List.mem_of_getElem? (i := 43) rfl))) (by decide) (t := .long) (t' := .long) (by decide) (by decide)))
  have F_servers_a1_12 : Fld Z h12 a1 "com/example/prewrm/prewrm/model/ReplayConfig" "servers" "I" (.int p2) := F_servers_a1_11.other W12 (Or.inr (slot_ne (Or.inr (hw _ (List.mem_of_getElem? (i := 39) rfl))) (Or.inr (hw _ (List.mem_of_getElem? (i := 43) rfl))) (by decide) (t := .int) (t' := .long) (by decide) (by decide)))
  have F_sharding_a1_12 : Fld Z h12 a1 "com/example/prewrm/prewrm/model/ReplayConfig" "sharding" "Z" (.int (nar .boolean p3)) := F_sharding_a1_11.other W12 (Or.inr (slot_ne (Or.inr (hw _ (List.mem_of_getElem? (i := 41) rfl))) (Or.inr (hw _ (List.mem_of_getElem? (i := 43) rfl))) (by decide) (t := .boolean) (t' := .long) (by decide) (by decide)))
  have K12 := K11.wr W12 (Or.inl (List.mem_of_getElem? (i := 0) rfl))
  have Zs12 := Nat.le_trans Zs11 (Keep.of_wr W12).1
  have N12 := Fr.snoc X12 N11 g_a1
  have F_keepAliveMs_a1_12 : Fld Z h12 a1 "com/example/prewrm/prewrm/model/ReplayConfig" "keepAliveMs" "J" (.long q4) := F_keepAliveMs_a1_11.same W12
  obtain ⟨T13, h13, X13, e13, W13, st13⟩ := putF X12 hx hZ hown (host := "") (Or.inl (hw _ (List.mem_of_getElem? (i := 44) rfl))) Via.refl e12 F_coldStartMs_a1_12 E_a1_12 (Or.inr ⟨(hw _ (List.mem_of_getElem? (i := 45) rfl)), rfl, hnm⟩) (hw _ (List.mem_of_getElem? (i := 6) rfl)) (ty := .long) (by decide) rfl rfl (g := (mkF m 87 #[.val (.ref a1), .val (.int p2), .val (.int p3), .val (.long q4), .second, .val (.long q5), .second, .val (.long q6), .second, .val (.int p7), .val (.int p8), .val (.long q9), .second, .val (.long q10), .second] [(.long q5), (.ref a1)])) rfl rfl (hb hby d3_87)
  have E_a1_13 : Exa Z h13 a1 "com/example/prewrm/prewrm/model/ReplayConfig" := E_a1_12.wr W13
  have F_durationMs_a1_13 : Fld Z h13 a1 "com/example/prewrm/prewrm/model/ReplayConfig" "durationMs" "J" (.long (0 : Int64)) := F_durationMs_a1_12.other W13 (Or.inr (slot_ne (Or.inr (hw _ (List.mem_of_getElem? (i := 47) rfl))) (Or.inr (hw _ (List.mem_of_getElem? (i := 45) rfl))) (by decide) (t := .long) (t' := .long) (by decide) (by decide)))
  have F_maxConcurrent_a1_13 : Fld Z h13 a1 "com/example/prewrm/prewrm/model/ReplayConfig" "maxConcurrent" "I" (.int (0 : Int32)) := F_maxConcurrent_a1_12.other W13 (Or.inr (slot_ne (Or.inr (hw _ (List.mem_of_getElem? (i := 49) rfl))) (Or.inr (hw _ (List.mem_of_getElem? (i := 45) rfl))) (by decide) (t := .int) (t' := .long) (by decide) (by decide)))
  have F_capacity_a1_13 : Fld Z h13 a1 "com/example/prewrm/prewrm/model/ReplayConfig" "capacity" "I" (.int (0 : Int32)) := F_capacity_a1_12.other W13 (Or.inr (slot_ne (Or.inr (hw _ (List.mem_of_getElem? (i := 51) rfl))) (Or.inr (hw _ (List.mem_of_getElem? (i := 45) rfl))) (by decide) (t := .int) (t' := .long) (by decide) (by decide)))
  have F_warmUpMs_a1_13 : Fld Z h13 a1 "com/example/prewrm/prewrm/model/ReplayConfig" "warmUpMs" "J" (.long (0 : Int64)) := F_warmUpMs_a1_12.other W13 (Or.inr (slot_ne (Or.inr (hw _ (List.mem_of_getElem? (i := 53) rfl))) (Or.inr (hw _ (List.mem_of_getElem? (i := 45) rfl))) (by decide) (t := .long) (t' := .long) (by decide) (by decide)))
  have F_hopMs_a1_13 : Fld Z h13 a1 "com/example/prewrm/prewrm/model/ReplayConfig" "hopMs" "J" (.long (0 : Int64)) := F_hopMs_a1_12.other W13 (Or.inr (slot_ne (Or.inr (hw _ (List.mem_of_getElem? (i := 55) rfl))) (Or.inr (hw _ (List.mem_of_getElem? (i := 45) rfl))) (by decide) (t := .long) (t' := .long) (by decide) (by decide)))
  have F_servers_a1_13 : Fld Z h13 a1 "com/example/prewrm/prewrm/model/ReplayConfig" "servers" "I" (.int p2) := F_servers_a1_12.other W13 (Or.inr (slot_ne (Or.inr (hw _ (List.mem_of_getElem? (i := 39) rfl))) (Or.inr (hw _ (List.mem_of_getElem? (i := 45) rfl))) (by decide) (t := .int) (t' := .long) (by decide) (by decide)))
  have F_sharding_a1_13 : Fld Z h13 a1 "com/example/prewrm/prewrm/model/ReplayConfig" "sharding" "Z" (.int (nar .boolean p3)) := F_sharding_a1_12.other W13 (Or.inr (slot_ne (Or.inr (hw _ (List.mem_of_getElem? (i := 41) rfl))) (Or.inr (hw _ (List.mem_of_getElem? (i := 45) rfl))) (by decide) (t := .boolean) (t' := .long) (by decide) (by decide)))
  have F_keepAliveMs_a1_13 : Fld Z h13 a1 "com/example/prewrm/prewrm/model/ReplayConfig" "keepAliveMs" "J" (.long q4) := F_keepAliveMs_a1_12.other W13 (Or.inr (slot_ne (Or.inr (hw _ (List.mem_of_getElem? (i := 43) rfl))) (Or.inr (hw _ (List.mem_of_getElem? (i := 45) rfl))) (by decide) (t := .long) (t' := .long) (by decide) (by decide)))
  have K13 := K12.wr W13 (Or.inl (List.mem_of_getElem? (i := 0) rfl))
  have Zs13 := Nat.le_trans Zs12 (Keep.of_wr W13).1
  have N13 := Fr.snoc X13 N12 g_a1
  have F_coldStartMs_a1_13 : Fld Z h13 a1 "com/example/prewrm/prewrm/model/ReplayConfig" "coldStartMs" "J" (.long q5) := F_coldStartMs_a1_12.same W13
  obtain ⟨T14, h14, X14, e14, W14, st14⟩ := putF X13 hx hZ hown (host := "") (Or.inl (hw _ (List.mem_of_getElem? (i := 46) rfl))) Via.refl e13 F_durationMs_a1_13 E_a1_13 (Or.inr ⟨(hw _ (List.mem_of_getElem? (i := 47) rfl)), rfl, hnm⟩) (hw _ (List.mem_of_getElem? (i := 6) rfl)) (ty := .long) (by decide) rfl rfl (g := (mkF m 93 #[.val (.ref a1), .val (.int p2), .val (.int p3), .val (.long q4), .second, .val (.long q5), .second, .val (.long q6), .second, .val (.int p7), .val (.int p8), .val (.long q9), .second, .val (.long q10), .second] [(.long q6), (.ref a1)])) rfl rfl (hb hby d3_93)
  have E_a1_14 : Exa Z h14 a1 "com/example/prewrm/prewrm/model/ReplayConfig" := E_a1_13.wr W14
  have F_maxConcurrent_a1_14 : Fld Z h14 a1 "com/example/prewrm/prewrm/model/ReplayConfig" "maxConcurrent" "I" (.int (0 : Int32)) := F_maxConcurrent_a1_13.other W14 (Or.inr (slot_ne (Or.inr (hw _ (List.mem_of_getElem? (i := 49) rfl))) (Or.inr (hw _ (List.mem_of_getElem? (i := 47) rfl))) (by decide) (t := .int) (t' := .long) (by decide) (by decide)))
  have F_capacity_a1_14 : Fld Z h14 a1 "com/example/prewrm/prewrm/model/ReplayConfig" "capacity" "I" (.int (0 : Int32)) := F_capacity_a1_13.other W14 (Or.inr (slot_ne (Or.inr (hw _ (List.mem_of_getElem? (i := 51) rfl))) (Or.inr (hw _ (List.mem_of_getElem? (i := 47) rfl))) (by decide) (t := .int) (t' := .long) (by decide) (by decide)))
  have F_warmUpMs_a1_14 : Fld Z h14 a1 "com/example/prewrm/prewrm/model/ReplayConfig" "warmUpMs" "J" (.long (0 : Int64)) := F_warmUpMs_a1_13.other W14 (Or.inr (slot_ne (Or.inr (hw _ (List.mem_of_getElem? (i := 53) rfl))) (Or.inr (hw _ (List.mem_of_getElem? (i := 47) rfl))) (by decide) (t := .long) (t' := .long) (by decide) (by decide)))
  have F_hopMs_a1_14 : Fld Z h14 a1 "com/example/prewrm/prewrm/model/ReplayConfig" "hopMs" "J" (.long (0 : Int64)) := F_hopMs_a1_13.other W14 (Or.inr (slot_ne (Or.inr (hw _ (List.mem_of_getElem? (i := 55) rfl))) (Or.inr (hw _ (List.mem_of_getElem? (i := 47) rfl))) (by decide) (t := .long) (t' := .long) (by decide) (by decide)))
  have F_servers_a1_14 : Fld Z h14 a1 "com/example/prewrm/prewrm/model/ReplayConfig" "servers" "I" (.int p2) := F_servers_a1_13.other W14 (Or.inr (slot_ne (Or.inr (hw _ (List.mem_of_getElem? (i := 39) rfl))) (Or.inr (hw _ (List.mem_of_getElem? (i := 47) rfl))) (by decide) (t := .int) (t' := .long) (by decide) (by decide)))
  have F_sharding_a1_14 : Fld Z h14 a1 "com/example/prewrm/prewrm/model/ReplayConfig" "sharding" "Z" (.int (nar .boolean p3)) := F_sharding_a1_13.other W14 (Or.inr (slot_ne (Or.inr (hw _ (List.mem_of_getElem? (i := 41) rfl))) (Or.inr (hw _ (List.mem_of_getElem? (i := 47) rfl))) (by decide) (t := .boolean) (t' := .long) (by decide) (by decide)))
  have F_keepAliveMs_a1_14 : Fld Z h14 a1 "com/example/prewrm/prewrm/model/ReplayConfig" "keepAliveMs" "J" (.long q4) := F_keepAliveMs_a1_13.other W14 (Or.inr (slot_ne (Or.inr (hw _ (List.mem_of_getElem? (i := 43) rfl))) (Or.inr (hw _ (List.mem_of_getElem? (i := 47) rfl))) (by decide) (t := .long) (t' := .long) (by decide) (by decide)))
  have F_coldStartMs_a1_14 : Fld Z h14 a1 "com/example/prewrm/prewrm/model/ReplayConfig" "coldStartMs" "J" (.long q5) := F_coldStartMs_a1_13.other W14 (Or.inr (slot_ne (Or.inr (hw _ (List.mem_of_getElem? (i := 45) rfl))) (Or.inr (hw _ (List.mem_of_getElem? (i := 47) rfl))) (by decide) (t := .long) (t' := .long) (by decide) (by decide)))
  have K14 := K13.wr W14 (Or.inl (List.mem_of_getElem? (i := 0) rfl))
  have Zs14 := Nat.le_trans Zs13 (Keep.of_wr W14).1
  have N14 := Fr.snoc X14 N13 g_a1
  have F_durationMs_a1_14 : Fld Z h14 a1 "com/example/prewrm/prewrm/model/ReplayConfig" "durationMs" "J" (.long q6) := F_durationMs_a1_13.same W14
  obtain ⟨T15, h15, X15, e15, W15, st15⟩ := putF X14 hx hZ hown (host := "") (Or.inl (hw _ (List.mem_of_getElem? (i := 48) rfl))) Via.refl e14 F_maxConcurrent_a1_14 E_a1_14 (Or.inr ⟨(hw _ (List.mem_of_getElem? (i := 49) rfl)), rfl, hnm⟩) (hw _ (List.mem_of_getElem? (i := 6) rfl)) (ty := .int) (by decide) rfl rfl (g := (mkF m 99 #[.val (.ref a1), .val (.int p2), .val (.int p3), .val (.long q4), .second, .val (.long q5), .second, .val (.long q6), .second, .val (.int p7), .val (.int p8), .val (.long q9), .second, .val (.long q10), .second] [(.int p7), (.ref a1)])) rfl rfl (hb hby d3_99)
  have E_a1_15 : Exa Z h15 a1 "com/example/prewrm/prewrm/model/ReplayConfig" := E_a1_14.wr W15
  have F_capacity_a1_15 : Fld Z h15 a1 "com/example/prewrm/prewrm/model/ReplayConfig" "capacity" "I" (.int (0 : Int32)) := F_capacity_a1_14.other W15 (Or.inr (slot_ne (Or.inr (hw _ (List.mem_of_getElem? (i := 51) rfl))) (Or.inr (hw _ (List.mem_of_getElem? (i := 49) rfl))) (by decide) (t := .int) (t' := .int) (by decide) (by decide)))
  have F_warmUpMs_a1_15 : Fld Z h15 a1 "com/example/prewrm/prewrm/model/ReplayConfig" "warmUpMs" "J" (.long (0 : Int64)) := F_warmUpMs_a1_14.other W15 (Or.inr (slot_ne (Or.inr (hw _ (List.mem_of_getElem? (i := 53) rfl))) (Or.inr (hw _ (List.mem_of_getElem? (i := 49) rfl))) (by decide) (t := .long) (t' := .int) (by decide) (by decide)))
  have F_hopMs_a1_15 : Fld Z h15 a1 "com/example/prewrm/prewrm/model/ReplayConfig" "hopMs" "J" (.long (0 : Int64)) := F_hopMs_a1_14.other W15 (Or.inr (slot_ne (Or.inr (hw _ (List.mem_of_getElem? (i := 55) rfl))) (Or.inr (hw _ (List.mem_of_getElem? (i := 49) rfl))) (by decide) (t := .long) (t' := .int) (by decide) (by decide)))
  have F_servers_a1_15 : Fld Z h15 a1 "com/example/prewrm/prewrm/model/ReplayConfig" "servers" "I" (.int p2) := F_servers_a1_14.other W15 (Or.inr (slot_ne (Or.inr (hw _ (List.mem_of_getElem? (i := 39) rfl))) (Or.inr (hw _ (List.mem_of_getElem? (i := 49) rfl))) (by decide) (t := .int) (t' := .int) (by decide) (by decide)))
  have F_sharding_a1_15 : Fld Z h15 a1 "com/example/prewrm/prewrm/model/ReplayConfig" "sharding" "Z" (.int (nar .boolean p3)) := F_sharding_a1_14.other W15 (Or.inr (slot_ne (Or.inr (hw _ (List.mem_of_getElem? (i := 41) rfl))) (Or.inr (hw _ (List.mem_of_getElem? (i := 49) rfl))) (by decide) (t := .boolean) (t' := .int) (by decide) (by decide)))
  have F_keepAliveMs_a1_15 : Fld Z h15 a1 "com/example/prewrm/prewrm/model/ReplayConfig" "keepAliveMs" "J" (.long q4) := F_keepAliveMs_a1_14.other W15 (Or.inr (slot_ne (Or.inr (hw _ (List.mem_of_getElem? (i := 43) rfl))) (Or.inr (hw _ (List.mem_of_getElem? (i := 49) rfl))) (by decide) (t := .long) (t' := .int) (by decide) (by decide)))
  have F_coldStartMs_a1_15 : Fld Z h15 a1 "com/example/prewrm/prewrm/model/ReplayConfig" "coldStartMs" "J" (.long q5) := F_coldStartMs_a1_14.other W15 (Or.inr (slot_ne (Or.inr (hw _ (List.mem_of_getElem? (i := 45) rfl))) (Or.inr (hw _ (List.mem_of_getElem? (i := 49) rfl))) (by decide) (t := .long) (t' := .int) (by decide) (by decide)))
  have F_durationMs_a1_15 : Fld Z h15 a1 "com/example/prewrm/prewrm/model/ReplayConfig" "durationMs" "J" (.long q6) := F_durationMs_a1_14.other W15 (Or.inr (slot_ne (Or.inr (hw _ (List.mem_of_getElem? (i := 47) rfl))) (Or.inr (hw _ (List.mem_of_getElem? (i := 49) rfl))) (by decide) (t := .long) (t' := .int) (by decide) (by decide)))
  have K15 := K14.wr W15 (Or.inl (List.mem_of_getElem? (i := 0) rfl))
  have Zs15 := Nat.le_trans Zs14 (Keep.of_wr W15).1
  have N15 := Fr.snoc X15 N14 g_a1
  have F_maxConcurrent_a1_15 : Fld Z h15 a1 "com/example/prewrm/prewrm/model/ReplayConfig" "maxConcurrent" "I" (.int p7) := F_maxConcurrent_a1_14.same W15
  obtain ⟨T16, h16, X16, e16, W16, st16⟩ := putF X15 hx hZ hown (host := "") (Or.inl (hw _ (List.mem_of_getElem? (i := 50) rfl))) Via.refl e15 F_capacity_a1_15 E_a1_15 (Or.inr ⟨(hw _ (List.mem_of_getElem? (i := 51) rfl)), rfl, hnm⟩) (hw _ (List.mem_of_getElem? (i := 6) rfl)) (ty := .int) (by decide) rfl rfl (g := (mkF m 105 #[.val (.ref a1), .val (.int p2), .val (.int p3), .val (.long q4), .second, .val (.long q5), .second, .val (.long q6), .second, .val (.int p7), .val (.int p8), .val (.long q9), .second, .val (.long q10), .second] [(.int p8), (.ref a1)])) rfl rfl (hb hby d3_105)
  have E_a1_16 : Exa Z h16 a1 "com/example/prewrm/prewrm/model/ReplayConfig" := E_a1_15.wr W16
  have F_warmUpMs_a1_16 : Fld Z h16 a1 "com/example/prewrm/prewrm/model/ReplayConfig" "warmUpMs" "J" (.long (0 : Int64)) := F_warmUpMs_a1_15.other W16 (Or.inr (slot_ne (Or.inr (hw _ (List.mem_of_getElem? (i := 53) rfl))) (Or.inr (hw _ (List.mem_of_getElem? (i := 51) rfl))) (by decide) (t := .long) (t' := .int) (by decide) (by decide)))
  have F_hopMs_a1_16 : Fld Z h16 a1 "com/example/prewrm/prewrm/model/ReplayConfig" "hopMs" "J" (.long (0 : Int64)) := F_hopMs_a1_15.other W16 (Or.inr (slot_ne (Or.inr (hw _ (List.mem_of_getElem? (i := 55) rfl))) (Or.inr (hw _ (List.mem_of_getElem? (i := 51) rfl))) (by decide) (t := .long) (t' := .int) (by decide) (by decide)))
  have F_servers_a1_16 : Fld Z h16 a1 "com/example/prewrm/prewrm/model/ReplayConfig" "servers" "I" (.int p2) := F_servers_a1_15.other W16 (Or.inr (slot_ne (Or.inr (hw _ (List.mem_of_getElem? (i := 39) rfl))) (Or.inr (hw _ (List.mem_of_getElem? (i := 51) rfl))) (by decide) (t := .int) (t' := .int) (by decide) (by decide)))
  have F_sharding_a1_16 : Fld Z h16 a1 "com/example/prewrm/prewrm/model/ReplayConfig" "sharding" "Z" (.int (nar .boolean p3)) := F_sharding_a1_15.other W16 (Or.inr (slot_ne (Or.inr (hw _ (List.mem_of_getElem? (i := 41) rfl))) (Or.inr (hw _ (List.mem_of_getElem? (i := 51) rfl))) (by decide) (t := .boolean) (t' := .int) (by decide) (by decide)))
  have F_keepAliveMs_a1_16 : Fld Z h16 a1 "com/example/prewrm/prewrm/model/ReplayConfig" "keepAliveMs" "J" (.long q4) := F_keepAliveMs_a1_15.other W16 (Or.inr (slot_ne (Or.inr (hw _ (List.mem_of_getElem? (i := 43) rfl))) (Or.inr (hw _ (List.mem_of_getElem? (i := 51) rfl))) (by decide) (t := .long) (t' := .int) (by decide) (by decide)))
  have F_coldStartMs_a1_16 : Fld Z h16 a1 "com/example/prewrm/prewrm/model/ReplayConfig" "coldStartMs" "J" (.long q5) := F_coldStartMs_a1_15.other W16 (Or.inr (slot_ne (Or.inr (hw _ (List.mem_of_getElem? (i := 45) rfl))) (Or.inr (hw _ (List.mem_of_getElem? (i := 51) rfl))) (by decide) (t := .long) (t' := .int) (by decide) (by decide)))
  have F_durationMs_a1_16 : Fld Z h16 a1 "com/example/prewrm/prewrm/model/ReplayConfig" "durationMs" "J" (.long q6) := F_durationMs_a1_15.other W16 (Or.inr (slot_ne (Or.inr (hw _ (List.mem_of_getElem? (i := 47) rfl))) (Or.inr (hw _ (List.mem_of_getElem? (i := 51) rfl))) (by decide) (t := .long) (t' := .int) (by decide) (by decide)))
  have F_maxConcurrent_a1_16 : Fld Z h16 a1 "com/example/prewrm/prewrm/model/ReplayConfig" "maxConcurrent" "I" (.int p7) := F_maxConcurrent_a1_15.other W16 (Or.inr (slot_ne (Or.inr (hw _ (List.mem_of_getElem? (i := 49) rfl))) (Or.inr (hw _ (List.mem_of_getElem? (i := 51) rfl))) (by decide) (t := .int) (t' := .int) (by decide) (by decide)))
  have K16 := K15.wr W16 (Or.inl (List.mem_of_getElem? (i := 0) rfl))
  have Zs16 := Nat.le_trans Zs15 (Keep.of_wr W16).1
  have N16 := Fr.snoc X16 N15 g_a1
  have F_capacity_a1_16 : Fld Z h16 a1 "com/example/prewrm/prewrm/model/ReplayConfig" "capacity" "I" (.int p8) := F_capacity_a1_15.same W16
  obtain ⟨T17, h17, X17, e17, W17, st17⟩ := putF X16 hx hZ hown (host := "") (Or.inl (hw _ (List.mem_of_getElem? (i := 52) rfl))) Via.refl e16 F_warmUpMs_a1_16 E_a1_16 (Or.inr ⟨(hw _ (List.mem_of_getElem? (i := 53) rfl)), rfl, hnm⟩) (hw _ (List.mem_of_getElem? (i := 6) rfl)) (ty := .long) (by decide) rfl rfl (g := (mkF m 111 #[.val (.ref a1), .val (.int p2), .val (.int p3), .val (.long q4), .second, .val (.long q5), .second, .val (.long q6), .second, .val (.int p7), .val (.int p8), .val (.long q9), .second, .val (.long q10), .second] [(.long q9), (.ref a1)])) rfl rfl (hb hby d3_111)
  have E_a1_17 : Exa Z h17 a1 "com/example/prewrm/prewrm/model/ReplayConfig" := E_a1_16.wr W17
  have F_hopMs_a1_17 : Fld Z h17 a1 "com/example/prewrm/prewrm/model/ReplayConfig" "hopMs" "J" (.long (0 : Int64)) := F_hopMs_a1_16.other W17 (Or.inr (slot_ne (Or.inr (hw _ (List.mem_of_getElem? (i := 55) rfl))) (Or.inr (hw _ (List.mem_of_getElem? (i := 53) rfl))) (by decide) (t := .long) (t' := .long) (by decide) (by decide)))
  have F_servers_a1_17 : Fld Z h17 a1 "com/example/prewrm/prewrm/model/ReplayConfig" "servers" "I" (.int p2) := F_servers_a1_16.other W17 (Or.inr (slot_ne (Or.inr (hw _ (List.mem_of_getElem? (i := 39) rfl))) (Or.inr (hw _ (List.mem_of_getElem? (i := 53) rfl))) (by decide) (t := .int) (t' := .long) (by decide) (by decide)))
  have F_sharding_a1_17 : Fld Z h17 a1 "com/example/prewrm/prewrm/model/ReplayConfig" "sharding" "Z" (.int (nar .boolean p3)) := F_sharding_a1_16.other W17 (Or.inr (slot_ne (Or.inr (hw _ (List.mem_of_getElem? (i := 41) rfl))) (Or.inr (hw _ (List.mem_of_getElem? (i := 53) rfl))) (by decide) (t := .boolean) (t' := .long) (by decide) (by decide)))
  have F_keepAliveMs_a1_17 : Fld Z h17 a1 "com/example/prewrm/prewrm/model/ReplayConfig" "keepAliveMs" "J" (.long q4) := F_keepAliveMs_a1_16.other W17 (Or.inr (slot_ne (Or.inr (hw _ (List.mem_of_getElem? (i := 43) rfl))) (Or.inr (hw _ (List.mem_of_getElem? (i := 53) rfl))) (by decide) (t := .long) (t' := .long) (by decide) (by decide)))
  have F_coldStartMs_a1_17 : Fld Z h17 a1 "com/example/prewrm/prewrm/model/ReplayConfig" "coldStartMs" "J" (.long q5) := F_coldStartMs_a1_16.other W17 (Or.inr (slot_ne (Or.inr (hw _ (List.mem_of_getElem? (i := 45) rfl))) (Or.inr (hw _ (List.mem_of_getElem? (i := 53) rfl))) (by decide) (t := .long) (t' := .long) (by decide) (by decide)))
  have F_durationMs_a1_17 : Fld Z h17 a1 "com/example/prewrm/prewrm/model/ReplayConfig" "durationMs" "J" (.long q6) := F_durationMs_a1_16.other W17 (Or.inr (slot_ne (Or.inr (hw _ (List.mem_of_getElem? (i := 47) rfl))) (Or.inr (hw _ (List.mem_of_getElem? (i := 53) rfl))) (by decide) (t := .long) (t' := .long) (by decide) (by decide)))
  have F_maxConcurrent_a1_17 : Fld Z h17 a1 "com/example/prewrm/prewrm/model/ReplayConfig" "maxConcurrent" "I" (.int p7) := F_maxConcurrent_a1_16.other W17 (Or.inr (slot_ne (Or.inr (hw _ (List.mem_of_getElem? (i := 49) rfl))) (Or.inr (hw _ (List.mem_of_getElem? (i := 53) rfl))) (by decide) (t := .int) (t' := .long) (by decide) (by decide)))
  have F_capacity_a1_17 : Fld Z h17 a1 "com/example/prewrm/prewrm/model/ReplayConfig" "capacity" "I" (.int p8) := F_capacity_a1_16.other W17 (Or.inr (slot_ne (Or.inr (hw _ (List.mem_of_getElem? (i := 51) rfl))) (Or.inr (hw _ (List.mem_of_getElem? (i := 53) rfl))) (by decide) (t := .int) (t' := .long) (by decide) (by decide)))
  have K17 := K16.wr W17 (Or.inl (List.mem_of_getElem? (i := 0) rfl))
  have Zs17 := Nat.le_trans Zs16 (Keep.of_wr W17).1
  have N17 := Fr.snoc X17 N16 g_a1
  have F_warmUpMs_a1_17 : Fld Z h17 a1 "com/example/prewrm/prewrm/model/ReplayConfig" "warmUpMs" "J" (.long q9) := F_warmUpMs_a1_16.same W17
  obtain ⟨T18, h18, X18, e18, W18, st18⟩ := putF X17 hx hZ hown (host := "") (Or.inl (hw _ (List.mem_of_getElem? (i := 54) rfl))) Via.refl e17 F_hopMs_a1_17 E_a1_17 (Or.inr ⟨(hw _ (List.mem_of_getElem? (i := 55) rfl)), rfl, hnm⟩) (hw _ (List.mem_of_getElem? (i := 6) rfl)) (ty := .long) (by decide) rfl rfl (g := (mkF m 117 #[.val (.ref a1), .val (.int p2), .val (.int p3), .val (.long q4), .second, .val (.long q5), .second, .val (.long q6), .second, .val (.int p7), .val (.int p8), .val (.long q9), .second, .val (.long q10), .second] [(.long q10), (.ref a1)])) rfl rfl (hb hby d3_117)
  have E_a1_18 : Exa Z h18 a1 "com/example/prewrm/prewrm/model/ReplayConfig" := E_a1_17.wr W18
  have F_servers_a1_18 : Fld Z h18 a1 "com/example/prewrm/prewrm/model/ReplayConfig" "servers" "I" (.int p2) := F_servers_a1_17.other W18 (Or.inr (slot_ne (Or.inr (hw _ (List.mem_of_getElem? (i := 39) rfl))) (Or.inr (hw _ (List.mem_of_getElem? (i := 55) rfl))) (by decide) (t := .int) (t' := .long) (by decide) (by decide)))
  have F_sharding_a1_18 : Fld Z h18 a1 "com/example/prewrm/prewrm/model/ReplayConfig" "sharding" "Z" (.int (nar .boolean p3)) := F_sharding_a1_17.other W18 (Or.inr (slot_ne (Or.inr (hw _ (List.mem_of_getElem? (i := 41) rfl))) (Or.inr (hw _ (List.mem_of_getElem? (i := 55) rfl))) (by decide) (t := .boolean) (t' := .long) (by decide) (by decide)))
  have F_keepAliveMs_a1_18 : Fld Z h18 a1 "com/example/prewrm/prewrm/model/ReplayConfig" "keepAliveMs" "J" (.long q4) := F_keepAliveMs_a1_17.other W18 (Or.inr (slot_ne (Or.inr (hw _ (List.mem_of_getElem? (i := 43) rfl))) (Or.inr (hw _ (List.mem_of_getElem? (i := 55) rfl))) (by decide) (t := .long) (t' := .long) (by decide) (by decide)))
  have F_coldStartMs_a1_18 : Fld Z h18 a1 "com/example/prewrm/prewrm/model/ReplayConfig" "coldStartMs" "J" (.long q5) := F_coldStartMs_a1_17.other W18 (Or.inr (slot_ne (Or.inr (hw _ (List.mem_of_getElem? (i := 45) rfl))) (Or.inr (hw _ (List.mem_of_getElem? (i := 55) rfl))) (by decide) (t := .long) (t' := .long) (by decide) (by decide)))
  have F_durationMs_a1_18 : Fld Z h18 a1 "com/example/prewrm/prewrm/model/ReplayConfig" "durationMs" "J" (.long q6) := F_durationMs_a1_17.other W18 (Or.inr (slot_ne (Or.inr (hw _ (List.mem_of_getElem? (i := 47) rfl))) (Or.inr (hw _ (List.mem_of_getElem? (i := 55) rfl))) (by decide) (t := .long) (t' := .long) (by decide) (by decide)))
  have F_maxConcurrent_a1_18 : Fld Z h18 a1 "com/example/prewrm/prewrm/model/ReplayConfig" "maxConcurrent" "I" (.int p7) := F_maxConcurrent_a1_17.other W18 (Or.inr (slot_ne (Or.inr (hw _ (List.mem_of_getElem? (i := 49) rfl))) (Or.inr (hw _ (List.mem_of_getElem? (i := 55) rfl))) (by decide) (t := .int) (t' := .long) (by decide) (by decide)))
  have F_capacity_a1_18 : Fld Z h18 a1 "com/example/prewrm/prewrm/model/ReplayConfig" "capacity" "I" (.int p8) := F_capacity_a1_17.other W18 (Or.inr (slot_ne (Or.inr (hw _ (List.mem_of_getElem? (i := 51) rfl))) (Or.inr (hw _ (List.mem_of_getElem? (i := 55) rfl))) (by decide) (t := .int) (t' := .long) (by decide) (by decide)))
  have F_warmUpMs_a1_18 : Fld Z h18 a1 "com/example/prewrm/prewrm/model/ReplayConfig" "warmUpMs" "J" (.long q9) := F_warmUpMs_a1_17.other W18 (Or.inr (slot_ne (Or.inr (hw _ (List.mem_of_getElem? (i := 53) rfl))) (Or.inr (hw _ (List.mem_of_getElem? (i := 55) rfl))) (by decide) (t := .long) (t' := .long) (by decide) (by decide)))
  have K18 := K17.wr W18 (Or.inl (List.mem_of_getElem? (i := 0) rfl))
  have Zs18 := Nat.le_trans Zs17 (Keep.of_wr W18).1
  have N18 := Fr.snoc X18 N17 g_a1
  have F_hopMs_a1_18 : Fld Z h18 a1 "com/example/prewrm/prewrm/model/ReplayConfig" "hopMs" "J" (.long q10) := F_hopMs_a1_17.same W18
  obtain ⟨fs, hr, hrun, hended, hW, hsame⟩ := X18.leave (v := none) (fun _ => rfl)
  refine ⟨_, _, pre0 _ ?_, hrun, hended, _, _, rfl, ?_, ⟨_, rfl⟩, hW, hsame.mono (by decide) (by decide)⟩
  · show Steps p.tables e below (s₁.setTop (mkF m 0 #[.val (.ref a1), .val (.int p2), .val (.int p3), .val (.long q4), .second, .val (.long q5), .second, .val (.long q6), .second, .val (.int p7), .val (.int p8), .val (.long q9), .second, .val (.long q10), .second] [])) _
    refine XS.aloadN X0.here hx rfl (hb hby d3_0) rfl rfl ?_
    show Steps p.tables e below (s₁.setTop (mkF m 1 #[.val (.ref a1), .val (.int p2), .val (.int p3), .val (.long q4), .second, .val (.long q5), .second, .val (.long q6), .second, .val (.int p7), .val (.int p8), .val (.long q9), .second, .val (.long q10), .second] [(.ref a1)])) _
    refine st1 _ ?_
    show Steps p.tables e below (T1.setTop (mkF m 4 #[.val (.ref a1), .val (.int p2), .val (.int p3), .val (.long q4), .second, .val (.long q5), .second, .val (.long q6), .second, .val (.int p7), .val (.int p8), .val (.long q9), .second, .val (.long q10), .second] [])) _
    refine ldcAgain (s := s) (vm0 := s.vm) X1 hx hZ hown (hw _ (List.mem_of_getElem? (i := 20) rfl)) Ls19 (g := (mkF m 4 #[.val (.ref a1), .val (.int p2), .val (.int p3), .val (.long q4), .second, .val (.long q5), .second, .val (.long q6), .second, .val (.int p7), .val (.int p8), .val (.long q9), .second, .val (.long q10), .second] [])) rfl (hb hby d3_4) _ ?_
    show Steps p.tables e below (T1.setTop (mkF m 6 #[.val (.ref a1), .val (.int p2), .val (.int p3), .val (.long q4), .second, .val (.long q5), .second, .val (.long q6), .second, .val (.int p7), .val (.int p8), .val (.long q9), .second, .val (.long q10), .second] [(.ref ls19)])) _
    refine XS.iloadN X1.here hx rfl (hb hby d3_6) rfl ?_
    show Steps p.tables e below (T1.setTop (mkF m 7 #[.val (.ref a1), .val (.int p2), .val (.int p3), .val (.long q4), .second, .val (.long q5), .second, .val (.long q6), .second, .val (.int p7), .val (.int p8), .val (.long q9), .second, .val (.long q10), .second] [(.int p2), (.ref ls19)])) _
    refine XS.i2l X1.here hx rfl (hb hby d3_7) rfl ?_
    show Steps p.tables e below (T1.setTop (mkF m 8 #[.val (.ref a1), .val (.int p2), .val (.int p3), .val (.long q4), .second, .val (.long q5), .second, .val (.long q6), .second, .val (.int p7), .val (.int p8), .val (.long q9), .second, .val (.long q10), .second] [(.long (p2.toInt64)), (.ref ls19)])) _
    refine XS.lconst X1.here hx rfl (hb hby d3_8) ?_
    show Steps p.tables e below (T1.setTop (mkF m 9 #[.val (.ref a1), .val (.int p2), .val (.int p3), .val (.long q4), .second, .val (.long q5), .second, .val (.long q6), .second, .val (.int p7), .val (.int p8), .val (.long q9), .second, .val (.long q10), .second] [(.long (1 : Int64)), (.long (p2.toInt64)), (.ref ls19)])) _
    refine st2 _ ?_
    show Steps p.tables e below (T2.setTop (mkF m 12 #[.val (.ref a1), .val (.int p2), .val (.int p3), .val (.long q4), .second, .val (.long q5), .second, .val (.long q6), .second, .val (.int p7), .val (.int p8), .val (.long q9), .second, .val (.long q10), .second] [])) _
    refine ldcAgain (s := s) (vm0 := s.vm) X2 hx hZ hown (hw _ (List.mem_of_getElem? (i := 31) rfl)) Ls25 (g := (mkF m 12 #[.val (.ref a1), .val (.int p2), .val (.int p3), .val (.long q4), .second, .val (.long q5), .second, .val (.long q6), .second, .val (.int p7), .val (.int p8), .val (.long q9), .second, .val (.long q10), .second] [])) rfl (hb hby d3_12) _ ?_
    show Steps p.tables e below (T2.setTop (mkF m 14 #[.val (.ref a1), .val (.int p2), .val (.int p3), .val (.long q4), .second, .val (.long q5), .second, .val (.long q6), .second, .val (.int p7), .val (.int p8), .val (.long q9), .second, .val (.long q10), .second] [(.ref ls25)])) _
    refine XS.iload X2.here hx rfl (hb hby d3_14) rfl ?_
    show Steps p.tables e below (T2.setTop (mkF m 16 #[.val (.ref a1), .val (.int p2), .val (.int p3), .val (.long q4), .second, .val (.long q5), .second, .val (.long q6), .second, .val (.int p7), .val (.int p8), .val (.long q9), .second, .val (.long q10), .second] [(.int p7), (.ref ls25)])) _
    refine XS.i2l X2.here hx rfl (hb hby d3_16) rfl ?_
    show Steps p.tables e below (T2.setTop (mkF m 17 #[.val (.ref a1), .val (.int p2), .val (.int p3), .val (.long q4), .second, .val (.long q5), .second, .val (.long q6), .second, .val (.int p7), .val (.int p8), .val (.long q9), .second, .val (.long q10), .second] [(.long (p7.toInt64)), (.ref ls25)])) _
    refine XS.lconst X2.here hx rfl (hb hby d3_17) ?_
    show Steps p.tables e below (T2.setTop (mkF m 18 #[.val (.ref a1), .val (.int p2), .val (.int p3), .val (.long q4), .second, .val (.long q5), .second, .val (.long q6), .second, .val (.int p7), .val (.int p8), .val (.long q9), .second, .val (.long q10), .second] [(.long (1 : Int64)), (.long (p7.toInt64)), (.ref ls25)])) _
    refine st3 _ ?_
    show Steps p.tables e below (T3.setTop (mkF m 21 #[.val (.ref a1), .val (.int p2), .val (.int p3), .val (.long q4), .second, .val (.long q5), .second, .val (.long q6), .second, .val (.int p7), .val (.int p8), .val (.long q9), .second, .val (.long q10), .second] [])) _
    refine ldcAgain (s := s) (vm0 := s.vm) X3 hx hZ hown (hw _ (List.mem_of_getElem? (i := 32) rfl)) Ls27 (g := (mkF m 21 #[.val (.ref a1), .val (.int p2), .val (.int p3), .val (.long q4), .second, .val (.long q5), .second, .val (.long q6), .second, .val (.int p7), .val (.int p8), .val (.long q9), .second, .val (.long q10), .second] [])) rfl (hb hby d3_21) _ ?_
    show Steps p.tables e below (T3.setTop (mkF m 23 #[.val (.ref a1), .val (.int p2), .val (.int p3), .val (.long q4), .second, .val (.long q5), .second, .val (.long q6), .second, .val (.int p7), .val (.int p8), .val (.long q9), .second, .val (.long q10), .second] [(.ref ls27)])) _
    refine XS.iload X3.here hx rfl (hb hby d3_23) rfl ?_
    show Steps p.tables e below (T3.setTop (mkF m 25 #[.val (.ref a1), .val (.int p2), .val (.int p3), .val (.long q4), .second, .val (.long q5), .second, .val (.long q6), .second, .val (.int p7), .val (.int p8), .val (.long q9), .second, .val (.long q10), .second] [(.int p8), (.ref ls27)])) _
    refine XS.i2l X3.here hx rfl (hb hby d3_25) rfl ?_
    show Steps p.tables e below (T3.setTop (mkF m 26 #[.val (.ref a1), .val (.int p2), .val (.int p3), .val (.long q4), .second, .val (.long q5), .second, .val (.long q6), .second, .val (.int p7), .val (.int p8), .val (.long q9), .second, .val (.long q10), .second] [(.long (p8.toInt64)), (.ref ls27)])) _
    refine XS.lconst X3.here hx rfl (hb hby d3_26) ?_
    show Steps p.tables e below (T3.setTop (mkF m 27 #[.val (.ref a1), .val (.int p2), .val (.int p3), .val (.long q4), .second, .val (.long q5), .second, .val (.long q6), .second, .val (.int p7), .val (.int p8), .val (.long q9), .second, .val (.long q10), .second] [(.long (1 : Int64)), (.long (p8.toInt64)), (.ref ls27)])) _
    refine st4 _ ?_
    show Steps p.tables e below (T4.setTop (mkF m 30 #[.val (.ref a1), .val (.int p2), .val (.int p3), .val (.long q4), .second, .val (.long q5), .second, .val (.long q6), .second, .val (.int p7), .val (.int p8), .val (.long q9), .second, .val (.long q10), .second] [])) _
    refine ldcAgain (s := s) (vm0 := s.vm) X4 hx hZ hown (hw _ (List.mem_of_getElem? (i := 33) rfl)) Ls29 (g := (mkF m 30 #[.val (.ref a1), .val (.int p2), .val (.int p3), .val (.long q4), .second, .val (.long q5), .second, .val (.long q6), .second, .val (.int p7), .val (.int p8), .val (.long q9), .second, .val (.long q10), .second] [])) rfl (hb hby d3_30) _ ?_
    show Steps p.tables e below (T4.setTop (mkF m 32 #[.val (.ref a1), .val (.int p2), .val (.int p3), .val (.long q4), .second, .val (.long q5), .second, .val (.long q6), .second, .val (.int p7), .val (.int p8), .val (.long q9), .second, .val (.long q10), .second] [(.ref ls29)])) _
    refine XS.lloadN X4.here hx rfl (hb hby d3_32) rfl ?_
    show Steps p.tables e below (T4.setTop (mkF m 33 #[.val (.ref a1), .val (.int p2), .val (.int p3), .val (.long q4), .second, .val (.long q5), .second, .val (.long q6), .second, .val (.int p7), .val (.int p8), .val (.long q9), .second, .val (.long q10), .second] [(.long q4), (.ref ls29)])) _
    refine XS.lconst X4.here hx rfl (hb hby d3_33) ?_
    show Steps p.tables e below (T4.setTop (mkF m 34 #[.val (.ref a1), .val (.int p2), .val (.int p3), .val (.long q4), .second, .val (.long q5), .second, .val (.long q6), .second, .val (.int p7), .val (.int p8), .val (.long q9), .second, .val (.long q10), .second] [(.long (0 : Int64)), (.long q4), (.ref ls29)])) _
    refine st5 _ ?_
    show Steps p.tables e below (T5.setTop (mkF m 37 #[.val (.ref a1), .val (.int p2), .val (.int p3), .val (.long q4), .second, .val (.long q5), .second, .val (.long q6), .second, .val (.int p7), .val (.int p8), .val (.long q9), .second, .val (.long q10), .second] [])) _
    refine ldcAgain (s := s) (vm0 := s.vm) X5 hx hZ hown (hw _ (List.mem_of_getElem? (i := 34) rfl)) Ls31 (g := (mkF m 37 #[.val (.ref a1), .val (.int p2), .val (.int p3), .val (.long q4), .second, .val (.long q5), .second, .val (.long q6), .second, .val (.int p7), .val (.int p8), .val (.long q9), .second, .val (.long q10), .second] [])) rfl (hb hby d3_37) _ ?_
    show Steps p.tables e below (T5.setTop (mkF m 39 #[.val (.ref a1), .val (.int p2), .val (.int p3), .val (.long q4), .second, .val (.long q5), .second, .val (.long q6), .second, .val (.int p7), .val (.int p8), .val (.long q9), .second, .val (.long q10), .second] [(.ref ls31)])) _
    refine XS.lload X5.here hx rfl (hb hby d3_39) rfl ?_
    show Steps p.tables e below (T5.setTop (mkF m 41 #[.val (.ref a1), .val (.int p2), .val (.int p3), .val (.long q4), .second, .val (.long q5), .second, .val (.long q6), .second, .val (.int p7), .val (.int p8), .val (.long q9), .second, .val (.long q10), .second] [(.long q5), (.ref ls31)])) _
    refine XS.lconst X5.here hx rfl (hb hby d3_41) ?_
    show Steps p.tables e below (T5.setTop (mkF m 42 #[.val (.ref a1), .val (.int p2), .val (.int p3), .val (.long q4), .second, .val (.long q5), .second, .val (.long q6), .second, .val (.int p7), .val (.int p8), .val (.long q9), .second, .val (.long q10), .second] [(.long (0 : Int64)), (.long q5), (.ref ls31)])) _
    refine st6 _ ?_
    show Steps p.tables e below (T6.setTop (mkF m 45 #[.val (.ref a1), .val (.int p2), .val (.int p3), .val (.long q4), .second, .val (.long q5), .second, .val (.long q6), .second, .val (.int p7), .val (.int p8), .val (.long q9), .second, .val (.long q10), .second] [])) _
    refine ldcAgain (s := s) (vm0 := s.vm) X6 hx hZ hown (hw _ (List.mem_of_getElem? (i := 35) rfl)) Ls33 (g := (mkF m 45 #[.val (.ref a1), .val (.int p2), .val (.int p3), .val (.long q4), .second, .val (.long q5), .second, .val (.long q6), .second, .val (.int p7), .val (.int p8), .val (.long q9), .second, .val (.long q10), .second] [])) rfl (hb hby d3_45) _ ?_
    show Steps p.tables e below (T6.setTop (mkF m 47 #[.val (.ref a1), .val (.int p2), .val (.int p3), .val (.long q4), .second, .val (.long q5), .second, .val (.long q6), .second, .val (.int p7), .val (.int p8), .val (.long q9), .second, .val (.long q10), .second] [(.ref ls33)])) _
    refine XS.lload X6.here hx rfl (hb hby d3_47) rfl ?_
    show Steps p.tables e below (T6.setTop (mkF m 49 #[.val (.ref a1), .val (.int p2), .val (.int p3), .val (.long q4), .second, .val (.long q5), .second, .val (.long q6), .second, .val (.int p7), .val (.int p8), .val (.long q9), .second, .val (.long q10), .second] [(.long q6), (.ref ls33)])) _
    refine XS.lconst X6.here hx rfl (hb hby d3_49) ?_
    show Steps p.tables e below (T6.setTop (mkF m 50 #[.val (.ref a1), .val (.int p2), .val (.int p3), .val (.long q4), .second, .val (.long q5), .second, .val (.long q6), .second, .val (.int p7), .val (.int p8), .val (.long q9), .second, .val (.long q10), .second] [(.long (0 : Int64)), (.long q6), (.ref ls33)])) _
    refine st7 _ ?_
    show Steps p.tables e below (T7.setTop (mkF m 53 #[.val (.ref a1), .val (.int p2), .val (.int p3), .val (.long q4), .second, .val (.long q5), .second, .val (.long q6), .second, .val (.int p7), .val (.int p8), .val (.long q9), .second, .val (.long q10), .second] [])) _
    refine ldcAgain (s := s) (vm0 := s.vm) X7 hx hZ hown (hw _ (List.mem_of_getElem? (i := 36) rfl)) Ls35 (g := (mkF m 53 #[.val (.ref a1), .val (.int p2), .val (.int p3), .val (.long q4), .second, .val (.long q5), .second, .val (.long q6), .second, .val (.int p7), .val (.int p8), .val (.long q9), .second, .val (.long q10), .second] [])) rfl (hb hby d3_53) _ ?_
    show Steps p.tables e below (T7.setTop (mkF m 55 #[.val (.ref a1), .val (.int p2), .val (.int p3), .val (.long q4), .second, .val (.long q5), .second, .val (.long q6), .second, .val (.int p7), .val (.int p8), .val (.long q9), .second, .val (.long q10), .second] [(.ref ls35)])) _
    refine XS.lload X7.here hx rfl (hb hby d3_55) rfl ?_
    show Steps p.tables e below (T7.setTop (mkF m 57 #[.val (.ref a1), .val (.int p2), .val (.int p3), .val (.long q4), .second, .val (.long q5), .second, .val (.long q6), .second, .val (.int p7), .val (.int p8), .val (.long q9), .second, .val (.long q10), .second] [(.long q9), (.ref ls35)])) _
    refine XS.lconst X7.here hx rfl (hb hby d3_57) ?_
    show Steps p.tables e below (T7.setTop (mkF m 58 #[.val (.ref a1), .val (.int p2), .val (.int p3), .val (.long q4), .second, .val (.long q5), .second, .val (.long q6), .second, .val (.int p7), .val (.int p8), .val (.long q9), .second, .val (.long q10), .second] [(.long (0 : Int64)), (.long q9), (.ref ls35)])) _
    refine st8 _ ?_
    show Steps p.tables e below (T8.setTop (mkF m 61 #[.val (.ref a1), .val (.int p2), .val (.int p3), .val (.long q4), .second, .val (.long q5), .second, .val (.long q6), .second, .val (.int p7), .val (.int p8), .val (.long q9), .second, .val (.long q10), .second] [])) _
    refine ldcAgain (s := s) (vm0 := s.vm) X8 hx hZ hown (hw _ (List.mem_of_getElem? (i := 37) rfl)) Ls37 (g := (mkF m 61 #[.val (.ref a1), .val (.int p2), .val (.int p3), .val (.long q4), .second, .val (.long q5), .second, .val (.long q6), .second, .val (.int p7), .val (.int p8), .val (.long q9), .second, .val (.long q10), .second] [])) rfl (hb hby d3_61) _ ?_
    show Steps p.tables e below (T8.setTop (mkF m 63 #[.val (.ref a1), .val (.int p2), .val (.int p3), .val (.long q4), .second, .val (.long q5), .second, .val (.long q6), .second, .val (.int p7), .val (.int p8), .val (.long q9), .second, .val (.long q10), .second] [(.ref ls37)])) _
    refine XS.lload X8.here hx rfl (hb hby d3_63) rfl ?_
    show Steps p.tables e below (T8.setTop (mkF m 65 #[.val (.ref a1), .val (.int p2), .val (.int p3), .val (.long q4), .second, .val (.long q5), .second, .val (.long q6), .second, .val (.int p7), .val (.int p8), .val (.long q9), .second, .val (.long q10), .second] [(.long q10), (.ref ls37)])) _
    refine XS.lconst X8.here hx rfl (hb hby d3_65) ?_
    show Steps p.tables e below (T8.setTop (mkF m 66 #[.val (.ref a1), .val (.int p2), .val (.int p3), .val (.long q4), .second, .val (.long q5), .second, .val (.long q6), .second, .val (.int p7), .val (.int p8), .val (.long q9), .second, .val (.long q10), .second] [(.long (0 : Int64)), (.long q10), (.ref ls37)])) _
    refine st9 _ ?_
    show Steps p.tables e below (T9.setTop (mkF m 69 #[.val (.ref a1), .val (.int p2), .val (.int p3), .val (.long q4), .second, .val (.long q5), .second, .val (.long q6), .second, .val (.int p7), .val (.int p8), .val (.long q9), .second, .val (.long q10), .second] [])) _
    refine XS.aloadN X9.here hx rfl (hb hby d3_69) rfl rfl ?_
    show Steps p.tables e below (T9.setTop (mkF m 70 #[.val (.ref a1), .val (.int p2), .val (.int p3), .val (.long q4), .second, .val (.long q5), .second, .val (.long q6), .second, .val (.int p7), .val (.int p8), .val (.long q9), .second, .val (.long q10), .second] [(.ref a1)])) _
    refine XS.iloadN X9.here hx rfl (hb hby d3_70) rfl ?_
    show Steps p.tables e below (T9.setTop (mkF m 71 #[.val (.ref a1), .val (.int p2), .val (.int p3), .val (.long q4), .second, .val (.long q5), .second, .val (.long q6), .second, .val (.int p7), .val (.int p8), .val (.long q9), .second, .val (.long q10), .second] [(.int p2), (.ref a1)])) _
    refine st10 _ ?_
    show Steps p.tables e below (T10.setTop (mkF m 74 #[.val (.ref a1), .val (.int p2), .val (.int p3), .val (.long q4), .second, .val (.long q5), .second, .val (.long q6), .second, .val (.int p7), .val (.int p8), .val (.long q9), .second, .val (.long q10), .second] [])) _
    refine XS.aloadN X10.here hx rfl (hb hby d3_74) rfl rfl ?_
    show Steps p.tables e below (T10.setTop (mkF m 75 #[.val (.ref a1), .val (.int p2), .val (.int p3), .val (.long q4), .second, .val (.long q5), .second, .val (.long q6), .second, .val (.int p7), .val (.int p8), .val (.long q9), .second, .val (.long q10), .second] [(.ref a1)])) _
    refine XS.iloadN X10.here hx rfl (hb hby d3_75) rfl ?_
    show Steps p.tables e below (T10.setTop (mkF m 76 #[.val (.ref a1), .val (.int p2), .val (.int p3), .val (.long q4), .second, .val (.long q5), .second, .val (.long q6), .second, .val (.int p7), .val (.int p8), .val (.long q9), .second, .val (.long q10), .second] [(.int p3), (.ref a1)])) _
    refine st11 _ ?_
    show Steps p.tables e below (T11.setTop (mkF m 79 #[.val (.ref a1), .val (.int p2), .val (.int p3), .val (.long q4), .second, .val (.long q5), .second, .val (.long q6), .second, .val (.int p7), .val (.int p8), .val (.long q9), .second, .val (.long q10), .second] [])) _
    refine XS.aloadN X11.here hx rfl (hb hby d3_79) rfl rfl ?_
    show Steps p.tables e below (T11.setTop (mkF m 80 #[.val (.ref a1), .val (.int p2), .val (.int p3), .val (.long q4), .second, .val (.long q5), .second, .val (.long q6), .second, .val (.int p7), .val (.int p8), .val (.long q9), .second, .val (.long q10), .second] [(.ref a1)])) _
    refine XS.lloadN X11.here hx rfl (hb hby d3_80) rfl ?_
    show Steps p.tables e below (T11.setTop (mkF m 81 #[.val (.ref a1), .val (.int p2), .val (.int p3), .val (.long q4), .second, .val (.long q5), .second, .val (.long q6), .second, .val (.int p7), .val (.int p8), .val (.long q9), .second, .val (.long q10), .second] [(.long q4), (.ref a1)])) _
    refine st12 _ ?_
    show Steps p.tables e below (T12.setTop (mkF m 84 #[.val (.ref a1), .val (.int p2), .val (.int p3), .val (.long q4), .second, .val (.long q5), .second, .val (.long q6), .second, .val (.int p7), .val (.int p8), .val (.long q9), .second, .val (.long q10), .second] [])) _
    refine XS.aloadN X12.here hx rfl (hb hby d3_84) rfl rfl ?_
    show Steps p.tables e below (T12.setTop (mkF m 85 #[.val (.ref a1), .val (.int p2), .val (.int p3), .val (.long q4), .second, .val (.long q5), .second, .val (.long q6), .second, .val (.int p7), .val (.int p8), .val (.long q9), .second, .val (.long q10), .second] [(.ref a1)])) _
    refine XS.lload X12.here hx rfl (hb hby d3_85) rfl ?_
    show Steps p.tables e below (T12.setTop (mkF m 87 #[.val (.ref a1), .val (.int p2), .val (.int p3), .val (.long q4), .second, .val (.long q5), .second, .val (.long q6), .second, .val (.int p7), .val (.int p8), .val (.long q9), .second, .val (.long q10), .second] [(.long q5), (.ref a1)])) _
    refine st13 _ ?_
    show Steps p.tables e below (T13.setTop (mkF m 90 #[.val (.ref a1), .val (.int p2), .val (.int p3), .val (.long q4), .second, .val (.long q5), .second, .val (.long q6), .second, .val (.int p7), .val (.int p8), .val (.long q9), .second, .val (.long q10), .second] [])) _
    refine XS.aloadN X13.here hx rfl (hb hby d3_90) rfl rfl ?_
    show Steps p.tables e below (T13.setTop (mkF m 91 #[.val (.ref a1), .val (.int p2), .val (.int p3), .val (.long q4), .second, .val (.long q5), .second, .val (.long q6), .second, .val (.int p7), .val (.int p8), .val (.long q9), .second, .val (.long q10), .second] [(.ref a1)])) _
    refine XS.lload X13.here hx rfl (hb hby d3_91) rfl ?_
    show Steps p.tables e below (T13.setTop (mkF m 93 #[.val (.ref a1), .val (.int p2), .val (.int p3), .val (.long q4), .second, .val (.long q5), .second, .val (.long q6), .second, .val (.int p7), .val (.int p8), .val (.long q9), .second, .val (.long q10), .second] [(.long q6), (.ref a1)])) _
    refine st14 _ ?_
    show Steps p.tables e below (T14.setTop (mkF m 96 #[.val (.ref a1), .val (.int p2), .val (.int p3), .val (.long q4), .second, .val (.long q5), .second, .val (.long q6), .second, .val (.int p7), .val (.int p8), .val (.long q9), .second, .val (.long q10), .second] [])) _
    refine XS.aloadN X14.here hx rfl (hb hby d3_96) rfl rfl ?_
    show Steps p.tables e below (T14.setTop (mkF m 97 #[.val (.ref a1), .val (.int p2), .val (.int p3), .val (.long q4), .second, .val (.long q5), .second, .val (.long q6), .second, .val (.int p7), .val (.int p8), .val (.long q9), .second, .val (.long q10), .second] [(.ref a1)])) _
    refine XS.iload X14.here hx rfl (hb hby d3_97) rfl ?_
    show Steps p.tables e below (T14.setTop (mkF m 99 #[.val (.ref a1), .val (.int p2), .val (.int p3), .val (.long q4), .second, .val (.long q5), .second, .val (.long q6), .second, .val (.int p7), .val (.int p8), .val (.long q9), .second, .val (.long q10), .second] [(.int p7), (.ref a1)])) _
    refine st15 _ ?_
    show Steps p.tables e below (T15.setTop (mkF m 102 #[.val (.ref a1), .val (.int p2), .val (.int p3), .val (.long q4), .second, .val (.long q5), .second, .val (.long q6), .second, .val (.int p7), .val (.int p8), .val (.long q9), .second, .val (.long q10), .second] [])) _
    refine XS.aloadN X15.here hx rfl (hb hby d3_102) rfl rfl ?_
    show Steps p.tables e below (T15.setTop (mkF m 103 #[.val (.ref a1), .val (.int p2), .val (.int p3), .val (.long q4), .second, .val (.long q5), .second, .val (.long q6), .second, .val (.int p7), .val (.int p8), .val (.long q9), .second, .val (.long q10), .second] [(.ref a1)])) _
    refine XS.iload X15.here hx rfl (hb hby d3_103) rfl ?_
    show Steps p.tables e below (T15.setTop (mkF m 105 #[.val (.ref a1), .val (.int p2), .val (.int p3), .val (.long q4), .second, .val (.long q5), .second, .val (.long q6), .second, .val (.int p7), .val (.int p8), .val (.long q9), .second, .val (.long q10), .second] [(.int p8), (.ref a1)])) _
    refine st16 _ ?_
    show Steps p.tables e below (T16.setTop (mkF m 108 #[.val (.ref a1), .val (.int p2), .val (.int p3), .val (.long q4), .second, .val (.long q5), .second, .val (.long q6), .second, .val (.int p7), .val (.int p8), .val (.long q9), .second, .val (.long q10), .second] [])) _
    refine XS.aloadN X16.here hx rfl (hb hby d3_108) rfl rfl ?_
    show Steps p.tables e below (T16.setTop (mkF m 109 #[.val (.ref a1), .val (.int p2), .val (.int p3), .val (.long q4), .second, .val (.long q5), .second, .val (.long q6), .second, .val (.int p7), .val (.int p8), .val (.long q9), .second, .val (.long q10), .second] [(.ref a1)])) _
    refine XS.lload X16.here hx rfl (hb hby d3_109) rfl ?_
    show Steps p.tables e below (T16.setTop (mkF m 111 #[.val (.ref a1), .val (.int p2), .val (.int p3), .val (.long q4), .second, .val (.long q5), .second, .val (.long q6), .second, .val (.int p7), .val (.int p8), .val (.long q9), .second, .val (.long q10), .second] [(.long q9), (.ref a1)])) _
    refine st17 _ ?_
    show Steps p.tables e below (T17.setTop (mkF m 114 #[.val (.ref a1), .val (.int p2), .val (.int p3), .val (.long q4), .second, .val (.long q5), .second, .val (.long q6), .second, .val (.int p7), .val (.int p8), .val (.long q9), .second, .val (.long q10), .second] [])) _
    refine XS.aloadN X17.here hx rfl (hb hby d3_114) rfl rfl ?_
    show Steps p.tables e below (T17.setTop (mkF m 115 #[.val (.ref a1), .val (.int p2), .val (.int p3), .val (.long q4), .second, .val (.long q5), .second, .val (.long q6), .second, .val (.int p7), .val (.int p8), .val (.long q9), .second, .val (.long q10), .second] [(.ref a1)])) _
    refine XS.lload X17.here hx rfl (hb hby d3_115) rfl ?_
    show Steps p.tables e below (T17.setTop (mkF m 117 #[.val (.ref a1), .val (.int p2), .val (.int p3), .val (.long q4), .second, .val (.long q5), .second, .val (.long q6), .second, .val (.int p7), .val (.int p8), .val (.long q9), .second, .val (.long q10), .second] [(.long q10), (.ref a1)])) _
    refine st18 _ ?_
    show Steps p.tables e below (T18.setTop (mkF m 120 #[.val (.ref a1), .val (.int p2), .val (.int p3), .val (.long q4), .second, .val (.long q5), .second, .val (.long q6), .second, .val (.int p7), .val (.int p8), .val (.long q9), .second, .val (.long q10), .second] [])) _
    exact X18.returnOut hx Bd.returns (hb hby d3_120) hr
  · show Q3 Z a1 p2 p3 q4 q5 q6 p7 p8 q9 q10 h0 n0 _ T18.heap _
    rw [e18]
    exact ⟨rfl, N18, K18, E_a1_18, F_servers_a1_18, F_sharding_a1_18, F_keepAliveMs_a1_18, F_coldStartMs_a1_18, F_durationMs_a1_18, F_maxConcurrent_a1_18, F_capacity_a1_18, F_warmUpMs_a1_18, F_hopMs_a1_18⟩
theorem pd_1 : parseMethodDescriptor "(IZJJJIIJJ)V" = some ⟨[.int, .boolean, .long, .long, .long, .int, .int, .long, .long], none⟩ := by decide +kernel
theorem d2_0 : decode prog_18_method_1_code 0 = .ok (.aload_n 0, 1) := by decide +kernel
theorem d2_1 : decode prog_18_method_1_code 1 = .ok (.iload_n 1, 1) := by decide +kernel
theorem d2_2 : decode prog_18_method_1_code 2 = .ok (.iload_n 2, 1) := by decide +kernel
theorem d2_3 : decode prog_18_method_1_code 3 = .ok (.ldc2_w 3, 3) := by decide +kernel
theorem d2_6 : decode prog_18_method_1_code 6 = .ok (.ldc2_w 5, 3) := by decide +kernel
theorem d2_9 : decode prog_18_method_1_code 9 = .ok (.lconst 0, 1) := by decide +kernel
theorem d2_10 : decode prog_18_method_1_code 10 = .ok (.iconst 1, 1) := by decide +kernel
theorem d2_11 : decode prog_18_method_1_code 11 = .ok (.ldc 9, 2) := by decide +kernel
theorem d2_13 : decode prog_18_method_1_code 13 = .ok (.lconst 0, 1) := by decide +kernel
theorem d2_14 : decode prog_18_method_1_code 14 = .ok (.lconst 0, 1) := by decide +kernel
theorem d2_15 : decode prog_18_method_1_code 15 = .ok (.invokespecial 10, 3) := by decide +kernel
theorem d2_18 : decode prog_18_method_1_code 18 = .ok (.return_, 1) := by decide +kernel
theorem pn_2 : plainName "com/example/prewrm/prewrm/model/ReplayConfig" = true := by first | (simp [plainName, overriddenIn]; done) | decide +kernel
theorem ef_2 (m : MethodId) (a1 : Addr) (p2 : Int32) (p3 : Int32) : entryFrame m #[(.ref a1), (.int p2), (.int p3)] 3 = mkF m 0 #[.val (.ref a1), .val (.int p2), .val (.int p3)] [] := by first | (simp [entryFrame, mkF, argsToLocals, Value.category]; done) | rfl
def Q2 (Z : State) (a1 : Addr) (p2 : Int32) (p3 : Int32)  (h0 : Heap) (n0 : Nat) (v : Option Value) (h : Heap) (L : List Loc) : Prop := v = none ∧ Fr n0 L ∧ Keep h0 h ([a1] : List Addr) ∧ Exa Z h a1 "com/example/prewrm/prewrm/model/ReplayConfig" ∧ Fld Z h a1 "com/example/prewrm/prewrm/model/ReplayConfig" "servers" "I" (.int p2) ∧ Fld Z h a1 "com/example/prewrm/prewrm/model/ReplayConfig" "sharding" "Z" (.int (nar .boolean p3)) ∧ Fld Z h a1 "com/example/prewrm/prewrm/model/ReplayConfig" "keepAliveMs" "J" (.long (600000 : Int64)) ∧ Fld Z h a1 "com/example/prewrm/prewrm/model/ReplayConfig" "coldStartMs" "J" (.long (500 : Int64)) ∧ Fld Z h a1 "com/example/prewrm/prewrm/model/ReplayConfig" "durationMs" "J" (.long (0 : Int64)) ∧ Fld Z h a1 "com/example/prewrm/prewrm/model/ReplayConfig" "maxConcurrent" "I" (.int (1 : Int32)) ∧ Fld Z h a1 "com/example/prewrm/prewrm/model/ReplayConfig" "capacity" "I" (.int (2147483647 : Int32)) ∧ Fld Z h a1 "com/example/prewrm/prewrm/model/ReplayConfig" "warmUpMs" "J" (.long (0 : Int64)) ∧ Fld Z h a1 "com/example/prewrm/prewrm/model/ReplayConfig" "hopMs" "J" (.long (0 : Int64))
set_option maxRecDepth 65536 in
set_option maxHeartbeats 40000000 in
theorem rm2c (l : Launch) (Z : State) (a0 : Array Value) (hw : ∀ d ∈ tables_1, d.before a0 Z = true) (ws : List Jvm.Cond) (a1 : Addr) (p2 : Int32) (p3 : Int32)  (h0 : Heap) (n0 : Nat) (Z0 : n0 ≤ h0.size) (E_a1 : Exa Z h0 a1 "com/example/prewrm/prewrm/model/ReplayConfig") (F_servers_a1 : Fld Z h0 a1 "com/example/prewrm/prewrm/model/ReplayConfig" "servers" "I" (.int (0 : Int32))) (F_sharding_a1 : Fld Z h0 a1 "com/example/prewrm/prewrm/model/ReplayConfig" "sharding" "Z" (.int (0 : Int32))) (F_keepAliveMs_a1 : Fld Z h0 a1 "com/example/prewrm/prewrm/model/ReplayConfig" "keepAliveMs" "J" (.long (0 : Int64))) (F_coldStartMs_a1 : Fld Z h0 a1 "com/example/prewrm/prewrm/model/ReplayConfig" "coldStartMs" "J" (.long (0 : Int64))) (F_durationMs_a1 : Fld Z h0 a1 "com/example/prewrm/prewrm/model/ReplayConfig" "durationMs" "J" (.long (0 : Int64))) (F_maxConcurrent_a1 : Fld Z h0 a1 "com/example/prewrm/prewrm/model/ReplayConfig" "maxConcurrent" "I" (.int (0 : Int32))) (F_capacity_a1 : Fld Z h0 a1 "com/example/prewrm/prewrm/model/ReplayConfig" "capacity" "I" (.int (0 : Int32))) (F_warmUpMs_a1 : Fld Z h0 a1 "com/example/prewrm/prewrm/model/ReplayConfig" "warmUpMs" "J" (.long (0 : Int64))) (F_hopMs_a1 : Fld Z h0 a1 "com/example/prewrm/prewrm/model/ReplayConfig" "hopMs" "J" (.long (0 : Int64))) (g_a1 : n0 ≤ a1) (hs : ¬ (p2.toInt64) < (1 : Int64)) :
    MetFree l (⟨"com/example/prewrm/prewrm/model/ReplayConfig", "<init>", "(IZ)V"⟩ : MethodName) (head1 (Jvm.Cond.code (⟨"com/example/prewrm/prewrm/model/ReplayConfig", "<init>", "(IZ)V"⟩ : MethodName) prog_18_method_1_code 3 none :: ws) ({ frames := 2, cells := 16, slots := 324, locals := 42 } : Room)) (fun a U => a = #[(.ref a1), (.int p2), (.int p3)] ∧ Z.Warmed39 U.vm ∧ U.heap = h0) (fun _ _ _ _ _ => True) (fun _ U o U' => ∃ v L, o = .returned v ∧ (Q2 Z a1 p2 p3 h0 n0 v U'.heap L ∧ own_L U'.vm) ∧ ReturnedEndW U o U' L ({ frames := 2, cells := 16, slots := 324, locals := 42 } : Room).cells ({ frames := 2, cells := 16, slots := 324, locals := 42 } : Room).slots) := by
  refine MetFree.of_bodySF (plainFor_of_name pn_2) hisR ?_
  intro p e s m args below meth c s₁ Bd hml0 hP hK
  obtain ⟨rfl, hZ, hh⟩ := hP
  have hx := Bd.exec
  have hby := Bd.bytes
  have hml : c.maxLocals = 3 := hml0
  have hown : s.vm.findClass "com/example/prewrm/prewrm/model/ReplayConfig" = some m.cls := findClass_of_methodNamed Bd.named
  have hnm := (name_of_methodNamed Bd.named Bd.method).1
  have X0 : Stand p l e ({ frames := 2, cells := 16, slots := 324, locals := 42 } : Room) (s.setVm s.vm) m #[(.ref a1), (.int p2), (.int p3)] below meth c s₁ [] 0 0 := Stand.of_body Bd
  have e0 : s₁.heap = h0 := by rw [← hh, Bd.state]; rfl
  have N0 := Fr.nil n0
  have pre0 : ∀ t, Steps p.tables e below (s₁.setTop (mkF m 0 #[.val (.ref a1), .val (.int p2), .val (.int p3)] [])) t → Steps p.tables e below (s₁.setTop (entryFrame m #[(.ref a1), (.int p2), (.int p3)] 3)) t := fun t k => castTop (ef_2 m a1 p2 p3) k
  have K0 := Keep.refl h0 ([a1] : List Addr)
  have Si0 : s.Since s.vm h0.size := (State.WarmedH.refl s).since _
  have Sk0 : h0.size ≤ h0.size := Nat.le_refl _
  have pre2 : ∀ t, Steps p.tables e below (s₁.setTop (mkF m 15 #[.val (.ref a1), .val (.int p2), .val (.int p3)] [(.long (0 : Int64)), (.long (0 : Int64)), (.int (2147483647 : Int32)), (.int (1 : Int32)), (.long (0 : Int64)), (.long (500 : Int64)), (.long (600000 : Int64)), (.int p3), (.int p2), (.ref a1)])) t → Steps p.tables e below (s₁.setTop (entryFrame m #[(.ref a1), (.int p2), (.int p3)] 3)) t := fun t k => pre0 t (by
    show Steps p.tables e below (s₁.setTop (mkF m 0 #[.val (.ref a1), .val (.int p2), .val (.int p3)] [])) _
    refine XS.aloadN X0.here hx rfl (hb hby d2_0) rfl rfl ?_
    show Steps p.tables e below (s₁.setTop (mkF m 1 #[.val (.ref a1), .val (.int p2), .val (.int p3)] [(.ref a1)])) _
    refine XS.iloadN X0.here hx rfl (hb hby d2_1) rfl ?_
    show Steps p.tables e below (s₁.setTop (mkF m 2 #[.val (.ref a1), .val (.int p2), .val (.int p3)] [(.int p2), (.ref a1)])) _
    refine XS.iloadN X0.here hx rfl (hb hby d2_2) rfl ?_
    show Steps p.tables e below (s₁.setTop (mkF m 3 #[.val (.ref a1), .val (.int p2), .val (.int p3)] [(.int p3), (.int p2), (.ref a1)])) _
    refine X0.ldc2Long hx hown (mvT hZ (hw _ (List.mem_of_getElem? (i := 11) rfl))) (g := (mkF m 3 #[.val (.ref a1), .val (.int p2), .val (.int p3)] [(.int p3), (.int p2), (.ref a1)])) rfl (hb hby d2_3) _ ?_
    show Steps p.tables e below (s₁.setTop (mkF m 6 #[.val (.ref a1), .val (.int p2), .val (.int p3)] [(.long (600000 : Int64)), (.int p3), (.int p2), (.ref a1)])) _
    refine X0.ldc2Long hx hown (mvT hZ (hw _ (List.mem_of_getElem? (i := 12) rfl))) (g := (mkF m 6 #[.val (.ref a1), .val (.int p2), .val (.int p3)] [(.long (600000 : Int64)), (.int p3), (.int p2), (.ref a1)])) rfl (hb hby d2_6) _ ?_
    show Steps p.tables e below (s₁.setTop (mkF m 9 #[.val (.ref a1), .val (.int p2), .val (.int p3)] [(.long (500 : Int64)), (.long (600000 : Int64)), (.int p3), (.int p2), (.ref a1)])) _
    refine XS.lconst X0.here hx rfl (hb hby d2_9) ?_
    show Steps p.tables e below (s₁.setTop (mkF m 10 #[.val (.ref a1), .val (.int p2), .val (.int p3)] [(.long (0 : Int64)), (.long (500 : Int64)), (.long (600000 : Int64)), (.int p3), (.int p2), (.ref a1)])) _
    refine XS.iconst X0.here hx rfl (hb hby d2_10) ?_
    show Steps p.tables e below (s₁.setTop (mkF m 11 #[.val (.ref a1), .val (.int p2), .val (.int p3)] [(.int (1 : Int32)), (.long (0 : Int64)), (.long (500 : Int64)), (.long (600000 : Int64)), (.int p3), (.int p2), (.ref a1)])) _
    refine X0.ldcInt hx hown (mvT hZ (hw _ (List.mem_of_getElem? (i := 13) rfl))) (g := (mkF m 11 #[.val (.ref a1), .val (.int p2), .val (.int p3)] [(.int (1 : Int32)), (.long (0 : Int64)), (.long (500 : Int64)), (.long (600000 : Int64)), (.int p3), (.int p2), (.ref a1)])) rfl (hb hby d2_11) _ ?_
    show Steps p.tables e below (s₁.setTop (mkF m 13 #[.val (.ref a1), .val (.int p2), .val (.int p3)] [(.int (2147483647 : Int32)), (.int (1 : Int32)), (.long (0 : Int64)), (.long (500 : Int64)), (.long (600000 : Int64)), (.int p3), (.int p2), (.ref a1)])) _
    refine XS.lconst X0.here hx rfl (hb hby d2_13) ?_
    show Steps p.tables e below (s₁.setTop (mkF m 14 #[.val (.ref a1), .val (.int p2), .val (.int p3)] [(.long (0 : Int64)), (.int (2147483647 : Int32)), (.int (1 : Int32)), (.long (0 : Int64)), (.long (500 : Int64)), (.long (600000 : Int64)), (.int p3), (.int p2), (.ref a1)])) _
    refine XS.lconst X0.here hx rfl (hb hby d2_14) ?_
    exact k)
  obtain ⟨_, _, ⟨T1, L1, k1, n1⟩, -, X1, Sq1, gz1, ⟨Lc1, hQ1, l1, y1, z1⟩, st1⟩ := X0.specialBackS hx (y := (⟨"com/example/prewrm/prewrm/model/ReplayConfig", "<init>", "(IZJJJIIJJ)V"⟩ : MethodName)) rfl hown (mvT hZ (hw _ (List.mem_of_getElem? (i := 14) rfl))) (mvT hZ (hw _ (List.mem_of_getElem? (i := 15) rfl))) (mvT hZ (hw _ (List.mem_of_getElem? (i := 16) rfl))) (by decide) (own_backC (W := 0) (rm3c l Z a0 hw [] a1 p2 p3 (600000 : Int64) (500 : Int64) (0 : Int64) (1 : Int32) (2147483647 : Int32) (0 : Int64) (0 : Int64) h0 n0 Z0 E_a1 F_servers_a1 F_sharding_a1 F_keepAliveMs_a1 F_coldStartMs_a1 F_durationMs_a1 F_maxConcurrent_a1 F_capacity_a1 F_warmUpMs_a1 F_hopMs_a1 g_a1 hs (by decide) (by decide) (by decide) (by decide) (by decide) (by decide) (by decide)) hZ (hw _ (List.mem_of_getElem? (i := 16) rfl)) (hw _ (List.mem_of_getElem? (i := 7) rfl)) (by decide) (by decide)) (g := (mkF m 15 #[.val (.ref a1), .val (.int p2), .val (.int p3)] [(.long (0 : Int64)), (.long (0 : Int64)), (.int (2147483647 : Int32)), (.int (1 : Int32)), (.long (0 : Int64)), (.long (500 : Int64)), (.long (600000 : Int64)), (.int p3), (.int p2), (.ref a1)])) rfl (by rw [hml]; rfl) (Steps.refl _) (a := a1) (argsL := [(.int p2), (.int p3), (.long (600000 : Int64)), (.long (500 : Int64)), (.long (0 : Int64)), (.int (1 : Int32)), (.int (2147483647 : Int32)), (.long (0 : Int64)), (.long (0 : Int64))]) (rest := []) (lenOf pd_1 rfl) rfl (by show 2 * 0 + _ ≤ _; exact Nat.le_of_eq rfl) (hb hby d2_15) (fun _ _ => ⟨rfl, e0, (by decide : 0 + 16 ≤ _), (by decide : 0 + 324 ≤ _)⟩)
  dsimp only [Pt.U, Pt.locs, Pt.cells, Pt.slots] at X1 l1 y1 z1 st1 hQ1
  subst l1 y1 z1
  obtain ⟨h1, e1⟩ : ∃ z, T1.heap = z := ⟨_, rfl⟩
  rw [e1] at hQ1
  obtain ⟨hQ1, HL1⟩ := hQ1
  have X1 : Stand p l e ({ frames := 2, cells := 16, slots := 324, locals := 42 } : Room) (s.setVm T1.vm) m #[(.ref a1), (.int p2), (.int p3)] below meth c T1 _ _ _ := X1
  have Si1 : s.Since T1.vm T1.heap.size := foldS (T := s₁) Si0 (Nat.le_trans Sk0 (Nat.le_of_eq (congrArg Array.size (Eq.symm e0)))) Sq1 gz1
  have Sk1 : T1.heap.size ≤ h1.size := Nat.le_of_eq (by rw [e1])
  have hZ : Z.Warmed39 (s.setVm T1.vm).vm := State.Warmed39.trans (t := s.setVm s.vm) hZ Sq1.1
  have hown : (s.setVm T1.vm).vm.findClass "com/example/prewrm/prewrm/model/ReplayConfig" = some m.cls := by rw [show (s.setVm T1.vm).vm = T1.vm from rfl, Sq1.1.alike.findClass]; exact hown
  obtain ⟨rfl, N1q, Kc1, E_a1_1q, F_servers_a1_1q, F_sharding_a1_1q, F_keepAliveMs_a1_1q, F_coldStartMs_a1_1q, F_durationMs_a1_1q, F_maxConcurrent_a1_1q, F_capacity_a1_1q, F_warmUpMs_a1_1q, F_hopMs_a1_1q⟩ := hQ1
  have K1 := K0.trans Kc1 (allS (Or.inl (List.mem_of_getElem? (i := 0) rfl)) all0)
  have Zs1 := Nat.le_trans Z0 Kc1.1
  have E_a1_1 : Exa Z h1 a1 "com/example/prewrm/prewrm/model/ReplayConfig" := E_a1_1q
  have F_servers_a1_1 : Fld Z h1 a1 "com/example/prewrm/prewrm/model/ReplayConfig" "servers" "I" (.int p2) := F_servers_a1_1q
  have F_sharding_a1_1 : Fld Z h1 a1 "com/example/prewrm/prewrm/model/ReplayConfig" "sharding" "Z" (.int (nar .boolean p3)) := F_sharding_a1_1q
  have F_keepAliveMs_a1_1 : Fld Z h1 a1 "com/example/prewrm/prewrm/model/ReplayConfig" "keepAliveMs" "J" (.long (600000 : Int64)) := F_keepAliveMs_a1_1q
  have F_coldStartMs_a1_1 : Fld Z h1 a1 "com/example/prewrm/prewrm/model/ReplayConfig" "coldStartMs" "J" (.long (500 : Int64)) := F_coldStartMs_a1_1q
  have F_durationMs_a1_1 : Fld Z h1 a1 "com/example/prewrm/prewrm/model/ReplayConfig" "durationMs" "J" (.long (0 : Int64)) := F_durationMs_a1_1q
  have F_maxConcurrent_a1_1 : Fld Z h1 a1 "com/example/prewrm/prewrm/model/ReplayConfig" "maxConcurrent" "I" (.int (1 : Int32)) := F_maxConcurrent_a1_1q
  have F_capacity_a1_1 : Fld Z h1 a1 "com/example/prewrm/prewrm/model/ReplayConfig" "capacity" "I" (.int (2147483647 : Int32)) := F_capacity_a1_1q
  have F_warmUpMs_a1_1 : Fld Z h1 a1 "com/example/prewrm/prewrm/model/ReplayConfig" "warmUpMs" "J" (.long (0 : Int64)) := F_warmUpMs_a1_1q
  have F_hopMs_a1_1 : Fld Z h1 a1 "com/example/prewrm/prewrm/model/ReplayConfig" "hopMs" "J" (.long (0 : Int64)) := F_hopMs_a1_1q
  have N1 := Fr.app N0 N1q
  obtain ⟨fs, hr, hrun, hended, hWe⟩ := X1.leaveW Si1 (Nat.le_trans Sk1 (Nat.le_of_eq (congrArg Array.size (Eq.symm e1)))) (v := none) (fun _ => rfl)
  refine ⟨_, _, pre2 _ ?_, hrun, hended, _, _, rfl, ?_, hWe.1, hWe.2.1, hWe.2.2.1, hWe.2.2.2.mono (by decide) (by decide)⟩
  · show Steps p.tables e below (s₁.setTop (mkF m 15 #[.val (.ref a1), .val (.int p2), .val (.int p3)] [(.long (0 : Int64)), (.long (0 : Int64)), (.int (2147483647 : Int32)), (.int (1 : Int32)), (.long (0 : Int64)), (.long (500 : Int64)), (.long (600000 : Int64)), (.int p3), (.int p2), (.ref a1)])) _
    refine st1.trans ?_
    show Steps p.tables e below (T1.setTop (mkF m 18 #[.val (.ref a1), .val (.int p2), .val (.int p3)] [])) _
    exact X1.returnOut hx Bd.returns (hb hby d2_18) hr
  · refine ⟨?_, ?_⟩
    · show Q2 Z a1 p2 p3 h0 n0 _ T1.heap _
      rw [e1]
      exact ⟨rfl, N1, K1, E_a1_1, F_servers_a1_1, F_sharding_a1_1, F_keepAliveMs_a1_1, F_coldStartMs_a1_1, F_durationMs_a1_1, F_maxConcurrent_a1_1, F_capacity_a1_1, F_warmUpMs_a1_1, F_hopMs_a1_1⟩
    · exact own_L_stays (s := s.setVm T1.vm) (HL1 : own_L T1.vm) X1.warmed
theorem d6_0 : decode prog_18_method_3_code 0 = .ok (.new 1, 3) := by decide +kernel
theorem d6_3 : decode prog_18_method_3_code 3 = .ok (.dup, 1) := by decide +kernel
theorem d6_4 : decode prog_18_method_3_code 4 = .ok (.aload_n 0, 1) := by decide +kernel
theorem d6_5 : decode prog_18_method_3_code 5 = .ok (.getfield 39, 3) := by decide +kernel
theorem d6_8 : decode prog_18_method_3_code 8 = .ok (.aload_n 0, 1) := by decide +kernel
theorem d6_9 : decode prog_18_method_3_code 9 = .ok (.getfield 42, 3) := by decide +kernel
theorem d6_12 : decode prog_18_method_3_code 12 = .ok (.lload_n 1, 1) := by decide +kernel
theorem d6_13 : decode prog_18_method_3_code 13 = .ok (.aload_n 0, 1) := by decide +kernel
theorem d6_14 : decode prog_18_method_3_code 14 = .ok (.getfield 49, 3) := by decide +kernel
theorem d6_17 : decode prog_18_method_3_code 17 = .ok (.aload_n 0, 1) := by decide +kernel
theorem d6_18 : decode prog_18_method_3_code 18 = .ok (.getfield 51, 3) := by decide +kernel
theorem d6_21 : decode prog_18_method_3_code 21 = .ok (.aload_n 0, 1) := by decide +kernel
theorem d6_22 : decode prog_18_method_3_code 22 = .ok (.getfield 53, 3) := by decide +kernel
theorem d6_25 : decode prog_18_method_3_code 25 = .ok (.aload_n 0, 1) := by decide +kernel
theorem d6_26 : decode prog_18_method_3_code 26 = .ok (.getfield 55, 3) := by decide +kernel
theorem d6_29 : decode prog_18_method_3_code 29 = .ok (.aload_n 0, 1) := by decide +kernel
theorem d6_30 : decode prog_18_method_3_code 30 = .ok (.getfield 57, 3) := by decide +kernel
theorem d6_33 : decode prog_18_method_3_code 33 = .ok (.aload_n 0, 1) := by decide +kernel
theorem d6_34 : decode prog_18_method_3_code 34 = .ok (.getfield 59, 3) := by decide +kernel
theorem d6_37 : decode prog_18_method_3_code 37 = .ok (.invokespecial 10, 3) := by decide +kernel
theorem d6_40 : decode prog_18_method_3_code 40 = .ok (.areturn, 1) := by decide +kernel
theorem pn_6 : plainName "com/example/prewrm/prewrm/model/ReplayConfig" = true := by first | (simp [plainName, overriddenIn]; done) | decide +kernel
theorem ef_6 (m : MethodId) (a1 : Addr) (q2 : Int64) : entryFrame m #[(.ref a1), (.long q2)] 3 = mkF m 0 #[.val (.ref a1), .val (.long q2), .second] [] := by first | (simp [entryFrame, mkF, argsToLocals, Value.category]; done) | rfl
def Q6 (Z : State) (a1 : Addr) (q2 : Int64) (u0 : Int32) (u1 : Int32) (u2 : Int64) (u3 : Int64) (u4 : Int64) (u5 : Int32) (u6 : Int32) (u7 : Int64) (u8 : Int64) (h0 : Heap) (n0 : Nat) (v : Option Value) (h : Heap) (L : List Loc) : Prop := ∃ (b : Addr), v = some (.ref b) ∧ Fr n0 L ∧ Keep h0 h ([] : List Addr) ∧ h0.size ≤ b ∧ Exa Z h b "com/example/prewrm/prewrm/model/ReplayConfig" ∧ Fld Z h b "com/example/prewrm/prewrm/model/ReplayConfig" "servers" "I" (.int u0) ∧ Fld Z h b "com/example/prewrm/prewrm/model/ReplayConfig" "sharding" "Z" (.int (nar .boolean u1)) ∧ Fld Z h b "com/example/prewrm/prewrm/model/ReplayConfig" "keepAliveMs" "J" (.long q2) ∧ Fld Z h b "com/example/prewrm/prewrm/model/ReplayConfig" "coldStartMs" "J" (.long u3) ∧ Fld Z h b "com/example/prewrm/prewrm/model/ReplayConfig" "durationMs" "J" (.long u4) ∧ Fld Z h b "com/example/prewrm/prewrm/model/ReplayConfig" "maxConcurrent" "I" (.int u5) ∧ Fld Z h b "com/example/prewrm/prewrm/model/ReplayConfig" "capacity" "I" (.int u6) ∧ Fld Z h b "com/example/prewrm/prewrm/model/ReplayConfig" "warmUpMs" "J" (.long u7) ∧ Fld Z h b "com/example/prewrm/prewrm/model/ReplayConfig" "hopMs" "J" (.long u8)
set_option maxRecDepth 65536 in
set_option maxHeartbeats 40000000 in
theorem rm6 (l : Launch) (Z : State) (a0 : Array Value) (hw : ∀ d ∈ tables_1, d.before a0 Z = true) (ws : List Jvm.Cond) (a1 : Addr) (q2 : Int64) (u0 : Int32) (u1 : Int32) (u2 : Int64) (u3 : Int64) (u4 : Int64) (u5 : Int32) (u6 : Int32) (u7 : Int64) (u8 : Int64) (h0 : Heap) (n0 : Nat) (Z0 : n0 ≤ h0.size) (F_servers_a1 : Fld Z h0 a1 "com/example/prewrm/prewrm/model/ReplayConfig" "servers" "I" (.int u0)) (F_sharding_a1 : Fld Z h0 a1 "com/example/prewrm/prewrm/model/ReplayConfig" "sharding" "Z" (.int u1)) (F_keepAliveMs_a1 : Fld Z h0 a1 "com/example/prewrm/prewrm/model/ReplayConfig" "keepAliveMs" "J" (.long u2)) (F_coldStartMs_a1 : Fld Z h0 a1 "com/example/prewrm/prewrm/model/ReplayConfig" "coldStartMs" "J" (.long u3)) (F_durationMs_a1 : Fld Z h0 a1 "com/example/prewrm/prewrm/model/ReplayConfig" "durationMs" "J" (.long u4)) (F_maxConcurrent_a1 : Fld Z h0 a1 "com/example/prewrm/prewrm/model/ReplayConfig" "maxConcurrent" "I" (.int u5)) (F_capacity_a1 : Fld Z h0 a1 "com/example/prewrm/prewrm/model/ReplayConfig" "capacity" "I" (.int u6)) (F_warmUpMs_a1 : Fld Z h0 a1 "com/example/prewrm/prewrm/model/ReplayConfig" "warmUpMs" "J" (.long u7)) (F_hopMs_a1 : Fld Z h0 a1 "com/example/prewrm/prewrm/model/ReplayConfig" "hopMs" "J" (.long u8)) (hs : ¬ (u0.toInt64) < (1 : Int64)) (hm : ¬ (u5.toInt64) < (1 : Int64)) (hc : ¬ (u6.toInt64) < (1 : Int64)) (hk : ¬ q2 < (0 : Int64)) (hcs : ¬ u3 < (0 : Int64)) (hd : ¬ u4 < (0 : Int64)) (hw_ : ¬ u7 < (0 : Int64)) (hh_ : ¬ u8 < (0 : Int64)) :
    MetFree l (⟨"com/example/prewrm/prewrm/model/ReplayConfig", "withKeepAliveMs", "(J)Lcom/example/prewrm/prewrm/model/ReplayConfig;"⟩ : MethodName) (head1 (Jvm.Cond.code (⟨"com/example/prewrm/prewrm/model/ReplayConfig", "withKeepAliveMs", "(J)Lcom/example/prewrm/prewrm/model/ReplayConfig;"⟩ : MethodName) prog_18_method_3_code 3 (some (.object "com/example/prewrm/prewrm/model/ReplayConfig")) :: ws) ({ frames := 2, cells := 1, slots := 9, locals := 43 } : Room)) (fun a U => (a = #[(.ref a1), (.long q2)] ∧ Z.Warmed39 U.vm ∧ U.heap = h0) ∧ own_L U.vm) (fun _ _ _ _ _ => True) (fun _ U o U' => ∃ v L, o = .returned v ∧ Q6 Z a1 q2 u0 u1 u2 u3 u4 u5 u6 u7 u8 h0 n0 v U'.heap L ∧ FrameEnd U o U' L ({ frames := 2, cells := 1, slots := 9, locals := 43 } : Room).cells ({ frames := 2, cells := 1, slots := 9, locals := 43 } : Room).slots) := by
  refine MetFree.of_bodySF (plainFor_of_name pn_6) hisR ?_
  intro p e s m args below meth c s₁ Bd hml0 hP hK
  obtain ⟨⟨rfl, hZ, hh⟩, hL⟩ := hP
  have hx := Bd.exec
  have hby := Bd.bytes
  have hml : c.maxLocals = 3 := hml0
  have hown : s.vm.findClass "com/example/prewrm/prewrm/model/ReplayConfig" = some m.cls := findClass_of_methodNamed Bd.named
  have hnm := (name_of_methodNamed Bd.named Bd.method).1
  have X0 : Stand p l e ({ frames := 2, cells := 1, slots := 9, locals := 43 } : Room) s m #[(.ref a1), (.long q2)] below meth c s₁ [] 0 0 := Stand.of_body Bd
  have e0 : s₁.heap = h0 := by rw [← hh, Bd.state]; rfl
  have N0 := Fr.nil n0
  have pre0 : ∀ t, Steps p.tables e below (s₁.setTop (mkF m 0 #[.val (.ref a1), .val (.long q2), .second] [])) t → Steps p.tables e below (s₁.setTop (entryFrame m #[(.ref a1), (.long q2)] 3)) t := fun t k => castTop (ef_6 m a1 q2) k
  have K0 := Keep.refl h0 ([] : List Addr)
  obtain ⟨ls19, ls25, ls27, ls29, ls31, ls33, ls35, ls37, hLs⟩ := hL
  obtain ⟨Ls19, Ls25, Ls27, Ls29, Ls31, Ls33, Ls35, Ls37⟩ := hLs s
  have hL : own_L s.vm := ⟨ls19, ls25, ls27, ls29, ls31, ls33, ls35, ls37, fun _ => ⟨Ls19, Ls25, Ls27, Ls29, Ls31, Ls33, Ls35, Ls37⟩⟩
  obtain ⟨T1, h1, X1, e1, E1, Ax1, D1, -, st1⟩ := newO X0 hx hZ hown (hw _ (List.mem_of_getElem? (i := 61) rfl)) (hw _ (List.mem_of_getElem? (i := 6) rfl)) (hw _ (List.mem_of_getElem? (i := 7) rfl)) e0 (g := (mkF m 0 #[.val (.ref a1), .val (.long q2), .second] [])) rfl (hb hby d6_0) (by decide) (by decide)
  obtain ⟨b1, g1⟩ : ∃ z, z = h0.size := ⟨_, rfl⟩
  rw [← g1] at Ax1 D1 st1
  have ne_a1_b1 : a1 ≠ b1 := Nat.ne_of_lt (Nat.lt_of_lt_of_le F_servers_a1.lt (Nat.le_of_eq g1.symm))
  have g_b1 : n0 ≤ b1 := Nat.le_trans Z0 (Nat.le_of_eq g1.symm)
  have sz_b1 : h0.size ≤ b1 := Nat.le_trans K0.1 (Nat.le_of_eq g1.symm)
  have F_servers_a1_1 : Fld Z h1 a1 "com/example/prewrm/prewrm/model/ReplayConfig" "servers" "I" (.int u0) := F_servers_a1.ext E1
  have F_sharding_a1_1 : Fld Z h1 a1 "com/example/prewrm/prewrm/model/ReplayConfig" "sharding" "Z" (.int u1) := F_sharding_a1.ext E1
  have F_keepAliveMs_a1_1 : Fld Z h1 a1 "com/example/prewrm/prewrm/model/ReplayConfig" "keepAliveMs" "J" (.long u2) := F_keepAliveMs_a1.ext E1
  have F_coldStartMs_a1_1 : Fld Z h1 a1 "com/example/prewrm/prewrm/model/ReplayConfig" "coldStartMs" "J" (.long u3) := F_coldStartMs_a1.ext E1
  have F_durationMs_a1_1 : Fld Z h1 a1 "com/example/prewrm/prewrm/model/ReplayConfig" "durationMs" "J" (.long u4) := F_durationMs_a1.ext E1
  have F_maxConcurrent_a1_1 : Fld Z h1 a1 "com/example/prewrm/prewrm/model/ReplayConfig" "maxConcurrent" "I" (.int u5) := F_maxConcurrent_a1.ext E1
  have F_capacity_a1_1 : Fld Z h1 a1 "com/example/prewrm/prewrm/model/ReplayConfig" "capacity" "I" (.int u6) := F_capacity_a1.ext E1
  have F_warmUpMs_a1_1 : Fld Z h1 a1 "com/example/prewrm/prewrm/model/ReplayConfig" "warmUpMs" "J" (.long u7) := F_warmUpMs_a1.ext E1
  have F_hopMs_a1_1 : Fld Z h1 a1 "com/example/prewrm/prewrm/model/ReplayConfig" "hopMs" "J" (.long u8) := F_hopMs_a1.ext E1
  have K1 := K0.ext E1
  have Zs1 := Nat.le_trans Z0 E1.1
  have E_b1_1 : Exa Z h1 b1 "com/example/prewrm/prewrm/model/ReplayConfig" := Ax1
  have F_servers_b1_1 : Fld Z h1 b1 "com/example/prewrm/prewrm/model/ReplayConfig" "servers" "I" (.int (0 : Int32)) := D1 (Or.inr (hw _ (List.mem_of_getElem? (i := 39) rfl))) (ty := .int) (by decide)
  have F_sharding_b1_1 : Fld Z h1 b1 "com/example/prewrm/prewrm/model/ReplayConfig" "sharding" "Z" (.int (0 : Int32)) := D1 (Or.inr (hw _ (List.mem_of_getElem? (i := 41) rfl))) (ty := .boolean) (by decide)
  have F_keepAliveMs_b1_1 : Fld Z h1 b1 "com/example/prewrm/prewrm/model/ReplayConfig" "keepAliveMs" "J" (.long (0 : Int64)) := D1 (Or.inr (hw _ (List.mem_of_getElem? (i := 43) rfl))) (ty := .long) (by decide)
  have F_coldStartMs_b1_1 : Fld Z h1 b1 "com/example/prewrm/prewrm/model/ReplayConfig" "coldStartMs" "J" (.long (0 : Int64)) := D1 (Or.inr (hw _ (List.mem_of_getElem? (i := 45) rfl))) (ty := .long) (by decide)
  have F_durationMs_b1_1 : Fld Z h1 b1 "com/example/prewrm/prewrm/model/ReplayConfig" "durationMs" "J" (.long (0 : Int64)) := D1 (Or.inr (hw _ (List.mem_of_getElem? (i := 47) rfl))) (ty := .long) (by decide)
  have F_maxConcurrent_b1_1 : Fld Z h1 b1 "com/example/prewrm/prewrm/model/ReplayConfig" "maxConcurrent" "I" (.int (0 : Int32)) := D1 (Or.inr (hw _ (List.mem_of_getElem? (i := 49) rfl))) (ty := .int) (by decide)
  have F_capacity_b1_1 : Fld Z h1 b1 "com/example/prewrm/prewrm/model/ReplayConfig" "capacity" "I" (.int (0 : Int32)) := D1 (Or.inr (hw _ (List.mem_of_getElem? (i := 51) rfl))) (ty := .int) (by decide)
  have F_warmUpMs_b1_1 : Fld Z h1 b1 "com/example/prewrm/prewrm/model/ReplayConfig" "warmUpMs" "J" (.long (0 : Int64)) := D1 (Or.inr (hw _ (List.mem_of_getElem? (i := 53) rfl))) (ty := .long) (by decide)
  have F_hopMs_b1_1 : Fld Z h1 b1 "com/example/prewrm/prewrm/model/ReplayConfig" "hopMs" "J" (.long (0 : Int64)) := D1 (Or.inr (hw _ (List.mem_of_getElem? (i := 55) rfl))) (ty := .long) (by decide)
  obtain ⟨T2, X2, e2, st2⟩ := getF X1 hx hZ hown (host := "") (Or.inl (hw _ (List.mem_of_getElem? (i := 38) rfl))) Via.refl e1 F_servers_a1_1 (g := (mkF m 5 #[.val (.ref a1), .val (.long q2), .second] [(.ref a1), (.ref b1), (.ref b1)])) rfl rfl (hb hby d6_5)
  obtain ⟨T3, X3, e3, st3⟩ := getF X2 hx hZ hown (host := "") (Or.inl (hw _ (List.mem_of_getElem? (i := 40) rfl))) Via.refl e2 F_sharding_a1_1 (g := (mkF m 9 #[.val (.ref a1), .val (.long q2), .second] [(.ref a1), (.int u0), (.ref b1), (.ref b1)])) rfl rfl (hb hby d6_9)
  obtain ⟨T4, X4, e4, st4⟩ := getF X3 hx hZ hown (host := "") (Or.inl (hw _ (List.mem_of_getElem? (i := 44) rfl))) Via.refl e3 F_coldStartMs_a1_1 (g := (mkF m 14 #[.val (.ref a1), .val (.long q2), .second] [(.ref a1), (.long q2), (.int u1), (.int u0), (.ref b1), (.ref b1)])) rfl rfl (hb hby d6_14)
  obtain ⟨T5, X5, e5, st5⟩ := getF X4 hx hZ hown (host := "") (Or.inl (hw _ (List.mem_of_getElem? (i := 46) rfl))) Via.refl e4 F_durationMs_a1_1 (g := (mkF m 18 #[.val (.ref a1), .val (.long q2), .second] [(.ref a1), (.long u3), (.long q2), (.int u1), (.int u0), (.ref b1), (.ref b1)])) rfl rfl (hb hby d6_18)
  obtain ⟨T6, X6, e6, st6⟩ := getF X5 hx hZ hown (host := "") (Or.inl (hw _ (List.mem_of_getElem? (i := 48) rfl))) Via.refl e5 F_maxConcurrent_a1_1 (g := (mkF m 22 #[.val (.ref a1), .val (.long q2), .second] [(.ref a1), (.long u4), (.long u3), (.long q2), (.int u1), (.int u0), (.ref b1), (.ref b1)])) rfl rfl (hb hby d6_22)
  obtain ⟨T7, X7, e7, st7⟩ := getF X6 hx hZ hown (host := "") (Or.inl (hw _ (List.mem_of_getElem? (i := 50) rfl))) Via.refl e6 F_capacity_a1_1 (g := (mkF m 26 #[.val (.ref a1), .val (.long q2), .second] [(.ref a1), (.int u5), (.long u4), (.long u3), (.long q2), (.int u1), (.int u0), (.ref b1), (.ref b1)])) rfl rfl (hb hby d6_26)
  obtain ⟨T8, X8, e8, st8⟩ := getF X7 hx hZ hown (host := "") (Or.inl (hw _ (List.mem_of_getElem? (i := 52) rfl))) Via.refl e7 F_warmUpMs_a1_1 (g := (mkF m 30 #[.val (.ref a1), .val (.long q2), .second] [(.ref a1), (.int u6), (.int u5), (.long u4), (.long u3), (.long q2), (.int u1), (.int u0), (.ref b1), (.ref b1)])) rfl rfl (hb hby d6_30)
  obtain ⟨T9, X9, e9, st9⟩ := getF X8 hx hZ hown (host := "") (Or.inl (hw _ (List.mem_of_getElem? (i := 54) rfl))) Via.refl e8 F_hopMs_a1_1 (g := (mkF m 34 #[.val (.ref a1), .val (.long q2), .second] [(.ref a1), (.long u7), (.int u6), (.int u5), (.long u4), (.long u3), (.long q2), (.int u1), (.int u0), (.ref b1), (.ref b1)])) rfl rfl (hb hby d6_34)
  obtain ⟨_, _, ⟨T10, L10, k10, n10⟩, -, X10, ⟨Lc10, hQ10, l10, y10, z10⟩, st10⟩ := X9.specialBack hx (y := (⟨"com/example/prewrm/prewrm/model/ReplayConfig", "<init>", "(IZJJJIIJJ)V"⟩ : MethodName)) rfl hown (mvT hZ (hw _ (List.mem_of_getElem? (i := 14) rfl))) (mvT hZ (hw _ (List.mem_of_getElem? (i := 15) rfl))) (mvT hZ (hw _ (List.mem_of_getElem? (i := 16) rfl))) (by decide) (own_backL (W := 1) (rm3 l Z a0 hw [] b1 u0 u1 q2 u3 u4 u5 u6 u7 u8 h1 n0 Zs1 E_b1_1 F_servers_b1_1 F_sharding_b1_1 F_keepAliveMs_b1_1 F_coldStartMs_b1_1 F_durationMs_b1_1 F_maxConcurrent_b1_1 F_capacity_b1_1 F_warmUpMs_b1_1 F_hopMs_b1_1 g_b1 hs hm hc hk hcs hd hw_ hh_) hZ (hw _ (List.mem_of_getElem? (i := 16) rfl)) (hw _ (List.mem_of_getElem? (i := 7) rfl)) (by decide) (by decide)) (g := (mkF m 37 #[.val (.ref a1), .val (.long q2), .second] [(.long u8), (.long u7), (.int u6), (.int u5), (.long u4), (.long u3), (.long q2), (.int u1), (.int u0), (.ref b1), (.ref b1)])) rfl (by rw [hml]; rfl) (Steps.refl _) (a := b1) (argsL := [(.int u0), (.int u1), (.long q2), (.long u3), (.long u4), (.int u5), (.int u6), (.long u7), (.long u8)]) (rest := [(.ref b1)]) (lenOf pd_1 rfl) rfl (by show 2 * 0 + _ ≤ _; exact Nat.le_of_eq rfl) (hb hby d6_37) (fun _ w_ => ⟨⟨rfl, e9, (by decide : 1 + 0 ≤ _), (by decide : 9 + 0 ≤ _)⟩, own_L_stays hL w_⟩)
  dsimp only [Pt.U, Pt.locs, Pt.cells, Pt.slots] at X10 l10 y10 z10 st10 hQ10
  subst l10 y10 z10
  obtain ⟨h10, e10⟩ : ∃ z, T10.heap = z := ⟨_, rfl⟩
  rw [e10] at hQ10
  obtain ⟨rfl, N10q, Kc10, E_b1_10q, F_servers_b1_10q, F_sharding_b1_10q, F_keepAliveMs_b1_10q, F_coldStartMs_b1_10q, F_durationMs_b1_10q, F_maxConcurrent_b1_10q, F_capacity_b1_10q, F_warmUpMs_b1_10q, F_hopMs_b1_10q⟩ := hQ10
  have F_servers_a1_10 : Fld Z h10 a1 "com/example/prewrm/prewrm/model/ReplayConfig" "servers" "I" (.int u0) := F_servers_a1_1.keep Kc10 (ninS ne_a1_b1 nin0)
  have F_sharding_a1_10 : Fld Z h10 a1 "com/example/prewrm/prewrm/model/ReplayConfig" "sharding" "Z" (.int u1) := F_sharding_a1_1.keep Kc10 (ninS ne_a1_b1 nin0)
  have F_keepAliveMs_a1_10 : Fld Z h10 a1 "com/example/prewrm/prewrm/model/ReplayConfig" "keepAliveMs" "J" (.long u2) := F_keepAliveMs_a1_1.keep Kc10 (ninS ne_a1_b1 nin0)
  have F_coldStartMs_a1_10 : Fld Z h10 a1 "com/example/prewrm/prewrm/model/ReplayConfig" "coldStartMs" "J" (.long u3) := F_coldStartMs_a1_1.keep Kc10 (ninS ne_a1_b1 nin0)
  have F_durationMs_a1_10 : Fld Z h10 a1 "com/example/prewrm/prewrm/model/ReplayConfig" "durationMs" "J" (.long u4) := F_durationMs_a1_1.keep Kc10 (ninS ne_a1_b1 nin0)
  have F_maxConcurrent_a1_10 : Fld Z h10 a1 "com/example/prewrm/prewrm/model/ReplayConfig" "maxConcurrent" "I" (.int u5) := F_maxConcurrent_a1_1.keep Kc10 (ninS ne_a1_b1 nin0)
  have F_capacity_a1_10 : Fld Z h10 a1 "com/example/prewrm/prewrm/model/ReplayConfig" "capacity" "I" (.int u6) := F_capacity_a1_1.keep Kc10 (ninS ne_a1_b1 nin0)
  have F_warmUpMs_a1_10 : Fld Z h10 a1 "com/example/prewrm/prewrm/model/ReplayConfig" "warmUpMs" "J" (.long u7) := F_warmUpMs_a1_1.keep Kc10 (ninS ne_a1_b1 nin0)
  have F_hopMs_a1_10 : Fld Z h10 a1 "com/example/prewrm/prewrm/model/ReplayConfig" "hopMs" "J" (.long u8) := F_hopMs_a1_1.keep Kc10 (ninS ne_a1_b1 nin0)
  have K10 := K1.trans Kc10 (allS (Or.inr sz_b1) all0)
  have Zs10 := Nat.le_trans Zs1 Kc10.1
  have E_b1_10 : Exa Z h10 b1 "com/example/prewrm/prewrm/model/ReplayConfig" := E_b1_10q
  have F_servers_b1_10 : Fld Z h10 b1 "com/example/prewrm/prewrm/model/ReplayConfig" "servers" "I" (.int u0) := F_servers_b1_10q
  have F_sharding_b1_10 : Fld Z h10 b1 "com/example/prewrm/prewrm/model/ReplayConfig" "sharding" "Z" (.int (nar .boolean u1)) := F_sharding_b1_10q
  have F_keepAliveMs_b1_10 : Fld Z h10 b1 "com/example/prewrm/prewrm/model/ReplayConfig" "keepAliveMs" "J" (.long q2) := F_keepAliveMs_b1_10q
  have F_coldStartMs_b1_10 : Fld Z h10 b1 "com/example/prewrm/prewrm/model/ReplayConfig" "coldStartMs" "J" (.long u3) := F_coldStartMs_b1_10q
  have F_durationMs_b1_10 : Fld Z h10 b1 "com/example/prewrm/prewrm/model/ReplayConfig" "durationMs" "J" (.long u4) := F_durationMs_b1_10q
  have F_maxConcurrent_b1_10 : Fld Z h10 b1 "com/example/prewrm/prewrm/model/ReplayConfig" "maxConcurrent" "I" (.int u5) := F_maxConcurrent_b1_10q
  have F_capacity_b1_10 : Fld Z h10 b1 "com/example/prewrm/prewrm/model/ReplayConfig" "capacity" "I" (.int u6) := F_capacity_b1_10q
  have F_warmUpMs_b1_10 : Fld Z h10 b1 "com/example/prewrm/prewrm/model/ReplayConfig" "warmUpMs" "J" (.long u7) := F_warmUpMs_b1_10q
  have F_hopMs_b1_10 : Fld Z h10 b1 "com/example/prewrm/prewrm/model/ReplayConfig" "hopMs" "J" (.long u8) := F_hopMs_b1_10q
  have N10 := Fr.app N0 N10q
  obtain ⟨fs, hr, hrun, hended, hW, hsame⟩ := X10.leave (v := some (.ref b1)) (fun h => by rw [Bd.returns] at h; cases h)
  refine ⟨_, _, pre0 _ ?_, hrun, hended, _, _, rfl, ?_, ⟨_, rfl⟩, hW, hsame.mono (by decide) (by decide)⟩
  · show Steps p.tables e below (s₁.setTop (mkF m 0 #[.val (.ref a1), .val (.long q2), .second] [])) _
    refine st1 _ ?_
    show Steps p.tables e below (T1.setTop (mkF m 3 #[.val (.ref a1), .val (.long q2), .second] [(.ref b1)])) _
    refine XS.dup X1.here hx rfl (hb hby d6_3) rfl rfl ?_
    show Steps p.tables e below (T1.setTop (mkF m 4 #[.val (.ref a1), .val (.long q2), .second] [(.ref b1), (.ref b1)])) _
    refine XS.aloadN X1.here hx rfl (hb hby d6_4) rfl rfl ?_
    show Steps p.tables e below (T1.setTop (mkF m 5 #[.val (.ref a1), .val (.long q2), .second] [(.ref a1), (.ref b1), (.ref b1)])) _
    refine st2 _ ?_
    show Steps p.tables e below (T2.setTop (mkF m 8 #[.val (.ref a1), .val (.long q2), .second] [(.int u0), (.ref b1), (.ref b1)])) _
    refine XS.aloadN X2.here hx rfl (hb hby d6_8) rfl rfl ?_
    show Steps p.tables e below (T2.setTop (mkF m 9 #[.val (.ref a1), .val (.long q2), .second] [(.ref a1), (.int u0), (.ref b1), (.ref b1)])) _
    refine st3 _ ?_
    show Steps p.tables e below (T3.setTop (mkF m 12 #[.val (.ref a1), .val (.long q2), .second] [(.int u1), (.int u0), (.ref b1), (.ref b1)])) _
    refine XS.lloadN X3.here hx rfl (hb hby d6_12) rfl ?_
    show Steps p.tables e below (T3.setTop (mkF m 13 #[.val (.ref a1), .val (.long q2), .second] [(.long q2), (.int u1), (.int u0), (.ref b1), (.ref b1)])) _
    refine XS.aloadN X3.here hx rfl (hb hby d6_13) rfl rfl ?_
    show Steps p.tables e below (T3.setTop (mkF m 14 #[.val (.ref a1), .val (.long q2), .second] [(.ref a1), (.long q2), (.int u1), (.int u0), (.ref b1), (.ref b1)])) _
    refine st4 _ ?_
    show Steps p.tables e below (T4.setTop (mkF m 17 #[.val (.ref a1), .val (.long q2), .second] [(.long u3), (.long q2), (.int u1), (.int u0), (.ref b1), (.ref b1)])) _
    refine XS.aloadN X4.here hx rfl (hb hby d6_17) rfl rfl ?_
    show Steps p.tables e below (T4.setTop (mkF m 18 #[.val (.ref a1), .val (.long q2), .second] [(.ref a1), (.long u3), (.long q2), (.int u1), (.int u0), (.ref b1), (.ref b1)])) _
    refine st5 _ ?_
    show Steps p.tables e below (T5.setTop (mkF m 21 #[.val (.ref a1), .val (.long q2), .second] [(.long u4), (.long u3), (.long q2), (.int u1), (.int u0), (.ref b1), (.ref b1)])) _
    refine XS.aloadN X5.here hx rfl (hb hby d6_21) rfl rfl ?_
    show Steps p.tables e below (T5.setTop (mkF m 22 #[.val (.ref a1), .val (.long q2), .second] [(.ref a1), (.long u4), (.long u3), (.long q2), (.int u1), (.int u0), (.ref b1), (.ref b1)])) _
    refine st6 _ ?_
    show Steps p.tables e below (T6.setTop (mkF m 25 #[.val (.ref a1), .val (.long q2), .second] [(.int u5), (.long u4), (.long u3), (.long q2), (.int u1), (.int u0), (.ref b1), (.ref b1)])) _
    refine XS.aloadN X6.here hx rfl (hb hby d6_25) rfl rfl ?_
    show Steps p.tables e below (T6.setTop (mkF m 26 #[.val (.ref a1), .val (.long q2), .second] [(.ref a1), (.int u5), (.long u4), (.long u3), (.long q2), (.int u1), (.int u0), (.ref b1), (.ref b1)])) _
    refine st7 _ ?_
    show Steps p.tables e below (T7.setTop (mkF m 29 #[.val (.ref a1), .val (.long q2), .second] [(.int u6), (.int u5), (.long u4), (.long u3), (.long q2), (.int u1), (.int u0), (.ref b1), (.ref b1)])) _
    refine XS.aloadN X7.here hx rfl (hb hby d6_29) rfl rfl ?_
    show Steps p.tables e below (T7.setTop (mkF m 30 #[.val (.ref a1), .val (.long q2), .second] [(.ref a1), (.int u6), (.int u5), (.long u4), (.long u3), (.long q2), (.int u1), (.int u0), (.ref b1), (.ref b1)])) _
    refine st8 _ ?_
    show Steps p.tables e below (T8.setTop (mkF m 33 #[.val (.ref a1), .val (.long q2), .second] [(.long u7), (.int u6), (.int u5), (.long u4), (.long u3), (.long q2), (.int u1), (.int u0), (.ref b1), (.ref b1)])) _
    refine XS.aloadN X8.here hx rfl (hb hby d6_33) rfl rfl ?_
    show Steps p.tables e below (T8.setTop (mkF m 34 #[.val (.ref a1), .val (.long q2), .second] [(.ref a1), (.long u7), (.int u6), (.int u5), (.long u4), (.long u3), (.long q2), (.int u1), (.int u0), (.ref b1), (.ref b1)])) _
    refine st9 _ ?_
    show Steps p.tables e below (T9.setTop (mkF m 37 #[.val (.ref a1), .val (.long q2), .second] [(.long u8), (.long u7), (.int u6), (.int u5), (.long u4), (.long u3), (.long q2), (.int u1), (.int u0), (.ref b1), (.ref b1)])) _
    refine st10.trans ?_
    show Steps p.tables e below (T10.setTop (mkF m 40 #[.val (.ref a1), .val (.long q2), .second] [(.ref b1)])) _
    jvm_step X10.here [X10.here.top, hx, (hb hby d6_40), X10.method', Bd.returns, Value.isRef, FieldType.isReference]
    first | (intro acts; rw [hr _ acts rfl rfl rfl]) | rw [hr _ _ rfl rfl rfl]
    exact Steps.refl _
  · show Q6 Z a1 q2 u0 u1 u2 u3 u4 u5 u6 u7 u8 h0 n0 _ T10.heap _
    rw [e10]
    exact ⟨b1, rfl, N10, K10, sz_b1, E_b1_10, F_servers_b1_10, F_sharding_b1_10, F_keepAliveMs_b1_10, F_coldStartMs_b1_10, F_durationMs_b1_10, F_maxConcurrent_b1_10, F_capacity_b1_10, F_warmUpMs_b1_10, F_hopMs_b1_10⟩
theorem d7_0 : decode prog_18_method_5_code 0 = .ok (.new 1, 3) := by decide +kernel
theorem d7_3 : decode prog_18_method_5_code 3 = .ok (.dup, 1) := by decide +kernel
theorem d7_4 : decode prog_18_method_5_code 4 = .ok (.aload_n 0, 1) := by decide +kernel
theorem d7_5 : decode prog_18_method_5_code 5 = .ok (.getfield 39, 3) := by decide +kernel
theorem d7_8 : decode prog_18_method_5_code 8 = .ok (.aload_n 0, 1) := by decide +kernel
theorem d7_9 : decode prog_18_method_5_code 9 = .ok (.getfield 42, 3) := by decide +kernel
theorem d7_12 : decode prog_18_method_5_code 12 = .ok (.aload_n 0, 1) := by decide +kernel
theorem d7_13 : decode prog_18_method_5_code 13 = .ok (.getfield 46, 3) := by decide +kernel
theorem d7_16 : decode prog_18_method_5_code 16 = .ok (.aload_n 0, 1) := by decide +kernel
theorem d7_17 : decode prog_18_method_5_code 17 = .ok (.getfield 49, 3) := by decide +kernel
theorem d7_20 : decode prog_18_method_5_code 20 = .ok (.lload_n 1, 1) := by decide +kernel
theorem d7_21 : decode prog_18_method_5_code 21 = .ok (.aload_n 0, 1) := by decide +kernel
theorem d7_22 : decode prog_18_method_5_code 22 = .ok (.getfield 53, 3) := by decide +kernel
theorem d7_25 : decode prog_18_method_5_code 25 = .ok (.aload_n 0, 1) := by decide +kernel
theorem d7_26 : decode prog_18_method_5_code 26 = .ok (.getfield 55, 3) := by decide +kernel
theorem d7_29 : decode prog_18_method_5_code 29 = .ok (.aload_n 0, 1) := by decide +kernel
theorem d7_30 : decode prog_18_method_5_code 30 = .ok (.getfield 57, 3) := by decide +kernel
theorem d7_33 : decode prog_18_method_5_code 33 = .ok (.aload_n 0, 1) := by decide +kernel
theorem d7_34 : decode prog_18_method_5_code 34 = .ok (.getfield 59, 3) := by decide +kernel
theorem d7_37 : decode prog_18_method_5_code 37 = .ok (.invokespecial 10, 3) := by decide +kernel
theorem d7_40 : decode prog_18_method_5_code 40 = .ok (.areturn, 1) := by decide +kernel
theorem pn_7 : plainName "com/example/prewrm/prewrm/model/ReplayConfig" = true := by first | (simp [plainName, overriddenIn]; done) | decide +kernel
theorem ef_7 (m : MethodId) (a1 : Addr) (q2 : Int64) : entryFrame m #[(.ref a1), (.long q2)] 3 = mkF m 0 #[.val (.ref a1), .val (.long q2), .second] [] := by first | (simp [entryFrame, mkF, argsToLocals, Value.category]; done) | rfl
def Q7 (Z : State) (a1 : Addr) (q2 : Int64) (u0 : Int32) (u1 : Int32) (u2 : Int64) (u3 : Int64) (u4 : Int64) (u5 : Int32) (u6 : Int32) (u7 : Int64) (u8 : Int64) (h0 : Heap) (n0 : Nat) (v : Option Value) (h : Heap) (L : List Loc) : Prop := ∃ (b : Addr), v = some (.ref b) ∧ Fr n0 L ∧ Keep h0 h ([] : List Addr) ∧ h0.size ≤ b ∧ Exa Z h b "com/example/prewrm/prewrm/model/ReplayConfig" ∧ Fld Z h b "com/example/prewrm/prewrm/model/ReplayConfig" "servers" "I" (.int u0) ∧ Fld Z h b "com/example/prewrm/prewrm/model/ReplayConfig" "sharding" "Z" (.int (nar .boolean u1)) ∧ Fld Z h b "com/example/prewrm/prewrm/model/ReplayConfig" "keepAliveMs" "J" (.long u2) ∧ Fld Z h b "com/example/prewrm/prewrm/model/ReplayConfig" "coldStartMs" "J" (.long u3) ∧ Fld Z h b "com/example/prewrm/prewrm/model/ReplayConfig" "durationMs" "J" (.long q2) ∧ Fld Z h b "com/example/prewrm/prewrm/model/ReplayConfig" "maxConcurrent" "I" (.int u5) ∧ Fld Z h b "com/example/prewrm/prewrm/model/ReplayConfig" "capacity" "I" (.int u6) ∧ Fld Z h b "com/example/prewrm/prewrm/model/ReplayConfig" "warmUpMs" "J" (.long u7) ∧ Fld Z h b "com/example/prewrm/prewrm/model/ReplayConfig" "hopMs" "J" (.long u8)
set_option maxRecDepth 65536 in
set_option maxHeartbeats 40000000 in
theorem rm7 (l : Launch) (Z : State) (a0 : Array Value) (hw : ∀ d ∈ tables_1, d.before a0 Z = true) (ws : List Jvm.Cond) (a1 : Addr) (q2 : Int64) (u0 : Int32) (u1 : Int32) (u2 : Int64) (u3 : Int64) (u4 : Int64) (u5 : Int32) (u6 : Int32) (u7 : Int64) (u8 : Int64) (h0 : Heap) (n0 : Nat) (Z0 : n0 ≤ h0.size) (F_servers_a1 : Fld Z h0 a1 "com/example/prewrm/prewrm/model/ReplayConfig" "servers" "I" (.int u0)) (F_sharding_a1 : Fld Z h0 a1 "com/example/prewrm/prewrm/model/ReplayConfig" "sharding" "Z" (.int u1)) (F_keepAliveMs_a1 : Fld Z h0 a1 "com/example/prewrm/prewrm/model/ReplayConfig" "keepAliveMs" "J" (.long u2)) (F_coldStartMs_a1 : Fld Z h0 a1 "com/example/prewrm/prewrm/model/ReplayConfig" "coldStartMs" "J" (.long u3)) (F_durationMs_a1 : Fld Z h0 a1 "com/example/prewrm/prewrm/model/ReplayConfig" "durationMs" "J" (.long u4)) (F_maxConcurrent_a1 : Fld Z h0 a1 "com/example/prewrm/prewrm/model/ReplayConfig" "maxConcurrent" "I" (.int u5)) (F_capacity_a1 : Fld Z h0 a1 "com/example/prewrm/prewrm/model/ReplayConfig" "capacity" "I" (.int u6)) (F_warmUpMs_a1 : Fld Z h0 a1 "com/example/prewrm/prewrm/model/ReplayConfig" "warmUpMs" "J" (.long u7)) (F_hopMs_a1 : Fld Z h0 a1 "com/example/prewrm/prewrm/model/ReplayConfig" "hopMs" "J" (.long u8)) (hs : ¬ (u0.toInt64) < (1 : Int64)) (hm : ¬ (u5.toInt64) < (1 : Int64)) (hc : ¬ (u6.toInt64) < (1 : Int64)) (hk : ¬ u2 < (0 : Int64)) (hcs : ¬ u3 < (0 : Int64)) (hd : ¬ q2 < (0 : Int64)) (hw_ : ¬ u7 < (0 : Int64)) (hh_ : ¬ u8 < (0 : Int64)) :
    MetFree l (⟨"com/example/prewrm/prewrm/model/ReplayConfig", "withDurationMs", "(J)Lcom/example/prewrm/prewrm/model/ReplayConfig;"⟩ : MethodName) (head1 (Jvm.Cond.code (⟨"com/example/prewrm/prewrm/model/ReplayConfig", "withDurationMs", "(J)Lcom/example/prewrm/prewrm/model/ReplayConfig;"⟩ : MethodName) prog_18_method_5_code 3 (some (.object "com/example/prewrm/prewrm/model/ReplayConfig")) :: ws) ({ frames := 2, cells := 1, slots := 9, locals := 43 } : Room)) (fun a U => (a = #[(.ref a1), (.long q2)] ∧ Z.Warmed39 U.vm ∧ U.heap = h0) ∧ own_L U.vm) (fun _ _ _ _ _ => True) (fun _ U o U' => ∃ v L, o = .returned v ∧ Q7 Z a1 q2 u0 u1 u2 u3 u4 u5 u6 u7 u8 h0 n0 v U'.heap L ∧ FrameEnd U o U' L ({ frames := 2, cells := 1, slots := 9, locals := 43 } : Room).cells ({ frames := 2, cells := 1, slots := 9, locals := 43 } : Room).slots) := by
  refine MetFree.of_bodySF (plainFor_of_name pn_7) hisR ?_
  intro p e s m args below meth c s₁ Bd hml0 hP hK
  obtain ⟨⟨rfl, hZ, hh⟩, hL⟩ := hP
  have hx := Bd.exec
  have hby := Bd.bytes
  have hml : c.maxLocals = 3 := hml0
  have hown : s.vm.findClass "com/example/prewrm/prewrm/model/ReplayConfig" = some m.cls := findClass_of_methodNamed Bd.named
  have hnm := (name_of_methodNamed Bd.named Bd.method).1
  have X0 : Stand p l e ({ frames := 2, cells := 1, slots := 9, locals := 43 } : Room) s m #[(.ref a1), (.long q2)] below meth c s₁ [] 0 0 := Stand.of_body Bd
  have e0 : s₁.heap = h0 := by rw [← hh, Bd.state]; rfl
  have N0 := Fr.nil n0
  have pre0 : ∀ t, Steps p.tables e below (s₁.setTop (mkF m 0 #[.val (.ref a1), .val (.long q2), .second] [])) t → Steps p.tables e below (s₁.setTop (entryFrame m #[(.ref a1), (.long q2)] 3)) t := fun t k => castTop (ef_7 m a1 q2) k
  have K0 := Keep.refl h0 ([] : List Addr)
  obtain ⟨ls19, ls25, ls27, ls29, ls31, ls33, ls35, ls37, hLs⟩ := hL
  obtain ⟨Ls19, Ls25, Ls27, Ls29, Ls31, Ls33, Ls35, Ls37⟩ := hLs s
  have hL : own_L s.vm := ⟨ls19, ls25, ls27, ls29, ls31, ls33, ls35, ls37, fun _ => ⟨Ls19, Ls25, Ls27, Ls29, Ls31, Ls33, Ls35, Ls37⟩⟩
  obtain ⟨T1, h1, X1, e1, E1, Ax1, D1, -, st1⟩ := newO X0 hx hZ hown (hw _ (List.mem_of_getElem? (i := 61) rfl)) (hw _ (List.mem_of_getElem? (i := 6) rfl)) (hw _ (List.mem_of_getElem? (i := 7) rfl)) e0 (g := (mkF m 0 #[.val (.ref a1), .val (.long q2), .second] [])) rfl (hb hby d7_0) (by decide) (by decide)
  obtain ⟨b1, g1⟩ : ∃ z, z = h0.size := ⟨_, rfl⟩
  rw [← g1] at Ax1 D1 st1
  have ne_a1_b1 : a1 ≠ b1 := Nat.ne_of_lt (Nat.lt_of_lt_of_le F_servers_a1.lt (Nat.le_of_eq g1.symm))
  have g_b1 : n0 ≤ b1 := Nat.le_trans Z0 (Nat.le_of_eq g1.symm)
  have sz_b1 : h0.size ≤ b1 := Nat.le_trans K0.1 (Nat.le_of_eq g1.symm)
  have F_servers_a1_1 : Fld Z h1 a1 "com/example/prewrm/prewrm/model/ReplayConfig" "servers" "I" (.int u0) := F_servers_a1.ext E1
  have F_sharding_a1_1 : Fld Z h1 a1 "com/example/prewrm/prewrm/model/ReplayConfig" "sharding" "Z" (.int u1) := F_sharding_a1.ext E1
  have F_keepAliveMs_a1_1 : Fld Z h1 a1 "com/example/prewrm/prewrm/model/ReplayConfig" "keepAliveMs" "J" (.long u2) := F_keepAliveMs_a1.ext E1
  have F_coldStartMs_a1_1 : Fld Z h1 a1 "com/example/prewrm/prewrm/model/ReplayConfig" "coldStartMs" "J" (.long u3) := F_coldStartMs_a1.ext E1
  have F_durationMs_a1_1 : Fld Z h1 a1 "com/example/prewrm/prewrm/model/ReplayConfig" "durationMs" "J" (.long u4) := F_durationMs_a1.ext E1
  have F_maxConcurrent_a1_1 : Fld Z h1 a1 "com/example/prewrm/prewrm/model/ReplayConfig" "maxConcurrent" "I" (.int u5) := F_maxConcurrent_a1.ext E1
  have F_capacity_a1_1 : Fld Z h1 a1 "com/example/prewrm/prewrm/model/ReplayConfig" "capacity" "I" (.int u6) := F_capacity_a1.ext E1
  have F_warmUpMs_a1_1 : Fld Z h1 a1 "com/example/prewrm/prewrm/model/ReplayConfig" "warmUpMs" "J" (.long u7) := F_warmUpMs_a1.ext E1
  have F_hopMs_a1_1 : Fld Z h1 a1 "com/example/prewrm/prewrm/model/ReplayConfig" "hopMs" "J" (.long u8) := F_hopMs_a1.ext E1
  have K1 := K0.ext E1
  have Zs1 := Nat.le_trans Z0 E1.1
  have E_b1_1 : Exa Z h1 b1 "com/example/prewrm/prewrm/model/ReplayConfig" := Ax1
  have F_servers_b1_1 : Fld Z h1 b1 "com/example/prewrm/prewrm/model/ReplayConfig" "servers" "I" (.int (0 : Int32)) := D1 (Or.inr (hw _ (List.mem_of_getElem? (i := 39) rfl))) (ty := .int) (by decide)
  have F_sharding_b1_1 : Fld Z h1 b1 "com/example/prewrm/prewrm/model/ReplayConfig" "sharding" "Z" (.int (0 : Int32)) := D1 (Or.inr (hw _ (List.mem_of_getElem? (i := 41) rfl))) (ty := .boolean) (by decide)
  have F_keepAliveMs_b1_1 : Fld Z h1 b1 "com/example/prewrm/prewrm/model/ReplayConfig" "keepAliveMs" "J" (.long (0 : Int64)) := D1 (Or.inr (hw _ (List.mem_of_getElem? (i := 43) rfl))) (ty := .long) (by decide)
  have F_coldStartMs_b1_1 : Fld Z h1 b1 "com/example/prewrm/prewrm/model/ReplayConfig" "coldStartMs" "J" (.long (0 : Int64)) := D1 (Or.inr (hw _ (List.mem_of_getElem? (i := 45) rfl))) (ty := .long) (by decide)
  have F_durationMs_b1_1 : Fld Z h1 b1 "com/example/prewrm/prewrm/model/ReplayConfig" "durationMs" "J" (.long (0 : Int64)) := D1 (Or.inr (hw _ (List.mem_of_getElem? (i := 47) rfl))) (ty := .long) (by decide)
  have F_maxConcurrent_b1_1 : Fld Z h1 b1 "com/example/prewrm/prewrm/model/ReplayConfig" "maxConcurrent" "I" (.int (0 : Int32)) := D1 (Or.inr (hw _ (List.mem_of_getElem? (i := 49) rfl))) (ty := .int) (by decide)
  have F_capacity_b1_1 : Fld Z h1 b1 "com/example/prewrm/prewrm/model/ReplayConfig" "capacity" "I" (.int (0 : Int32)) := D1 (Or.inr (hw _ (List.mem_of_getElem? (i := 51) rfl))) (ty := .int) (by decide)
  have F_warmUpMs_b1_1 : Fld Z h1 b1 "com/example/prewrm/prewrm/model/ReplayConfig" "warmUpMs" "J" (.long (0 : Int64)) := D1 (Or.inr (hw _ (List.mem_of_getElem? (i := 53) rfl))) (ty := .long) (by decide)
  have F_hopMs_b1_1 : Fld Z h1 b1 "com/example/prewrm/prewrm/model/ReplayConfig" "hopMs" "J" (.long (0 : Int64)) := D1 (Or.inr (hw _ (List.mem_of_getElem? (i := 55) rfl))) (ty := .long) (by decide)
  obtain ⟨T2, X2, e2, st2⟩ := getF X1 hx hZ hown (host := "") (Or.inl (hw _ (List.mem_of_getElem? (i := 38) rfl))) Via.refl e1 F_servers_a1_1 (g := (mkF m 5 #[.val (.ref a1), .val (.long q2), .second] [(.ref a1), (.ref b1), (.ref b1)])) rfl rfl (hb hby d7_5)
  obtain ⟨T3, X3, e3, st3⟩ := getF X2 hx hZ hown (host := "") (Or.inl (hw _ (List.mem_of_getElem? (i := 40) rfl))) Via.refl e2 F_sharding_a1_1 (g := (mkF m 9 #[.val (.ref a1), .val (.long q2), .second] [(.ref a1), (.int u0), (.ref b1), (.ref b1)])) rfl rfl (hb hby d7_9)
  obtain ⟨T4, X4, e4, st4⟩ := getF X3 hx hZ hown (host := "") (Or.inl (hw _ (List.mem_of_getElem? (i := 42) rfl))) Via.refl e3 F_keepAliveMs_a1_1 (g := (mkF m 13 #[.val (.ref a1), .val (.long q2), .second] [(.ref a1), (.int u1), (.int u0), (.ref b1), (.ref b1)])) rfl rfl (hb hby d7_13)
  obtain ⟨T5, X5, e5, st5⟩ := getF X4 hx hZ hown (host := "") (Or.inl (hw _ (List.mem_of_getElem? (i := 44) rfl))) Via.refl e4 F_coldStartMs_a1_1 (g := (mkF m 17 #[.val (.ref a1), .val (.long q2), .second] [(.ref a1), (.long u2), (.int u1), (.int u0), (.ref b1), (.ref b1)])) rfl rfl (hb hby d7_17)
  obtain ⟨T6, X6, e6, st6⟩ := getF X5 hx hZ hown (host := "") (Or.inl (hw _ (List.mem_of_getElem? (i := 48) rfl))) Via.refl e5 F_maxConcurrent_a1_1 (g := (mkF m 22 #[.val (.ref a1), .val (.long q2), .second] [(.ref a1), (.long q2), (.long u3), (.long u2), (.int u1), (.int u0), (.ref b1), (.ref b1)])) rfl rfl (hb hby d7_22)
  obtain ⟨T7, X7, e7, st7⟩ := getF X6 hx hZ hown (host := "") (Or.inl (hw _ (List.mem_of_getElem? (i := 50) rfl))) Via.refl e6 F_capacity_a1_1 (g := (mkF m 26 #[.val (.ref a1), .val (.long q2), .second] [(.ref a1), (.int u5), (.long q2), (.long u3), (.long u2), (.int u1), (.int u0), (.ref b1), (.ref b1)])) rfl rfl (hb hby d7_26)
  obtain ⟨T8, X8, e8, st8⟩ := getF X7 hx hZ hown (host := "") (Or.inl (hw _ (List.mem_of_getElem? (i := 52) rfl))) Via.refl e7 F_warmUpMs_a1_1 (g := (mkF m 30 #[.val (.ref a1), .val (.long q2), .second] [(.ref a1), (.int u6), (.int u5), (.long q2), (.long u3), (.long u2), (.int u1), (.int u0), (.ref b1), (.ref b1)])) rfl rfl (hb hby d7_30)
  obtain ⟨T9, X9, e9, st9⟩ := getF X8 hx hZ hown (host := "") (Or.inl (hw _ (List.mem_of_getElem? (i := 54) rfl))) Via.refl e8 F_hopMs_a1_1 (g := (mkF m 34 #[.val (.ref a1), .val (.long q2), .second] [(.ref a1), (.long u7), (.int u6), (.int u5), (.long q2), (.long u3), (.long u2), (.int u1), (.int u0), (.ref b1), (.ref b1)])) rfl rfl (hb hby d7_34)
  obtain ⟨_, _, ⟨T10, L10, k10, n10⟩, -, X10, ⟨Lc10, hQ10, l10, y10, z10⟩, st10⟩ := X9.specialBack hx (y := (⟨"com/example/prewrm/prewrm/model/ReplayConfig", "<init>", "(IZJJJIIJJ)V"⟩ : MethodName)) rfl hown (mvT hZ (hw _ (List.mem_of_getElem? (i := 14) rfl))) (mvT hZ (hw _ (List.mem_of_getElem? (i := 15) rfl))) (mvT hZ (hw _ (List.mem_of_getElem? (i := 16) rfl))) (by decide) (own_backL (W := 1) (rm3 l Z a0 hw [] b1 u0 u1 u2 u3 q2 u5 u6 u7 u8 h1 n0 Zs1 E_b1_1 F_servers_b1_1 F_sharding_b1_1 F_keepAliveMs_b1_1 F_coldStartMs_b1_1 F_durationMs_b1_1 F_maxConcurrent_b1_1 F_capacity_b1_1 F_warmUpMs_b1_1 F_hopMs_b1_1 g_b1 hs hm hc hk hcs hd hw_ hh_) hZ (hw _ (List.mem_of_getElem? (i := 16) rfl)) (hw _ (List.mem_of_getElem? (i := 7) rfl)) (by decide) (by decide)) (g := (mkF m 37 #[.val (.ref a1), .val (.long q2), .second] [(.long u8), (.long u7), (.int u6), (.int u5), (.long q2), (.long u3), (.long u2), (.int u1), (.int u0), (.ref b1), (.ref b1)])) rfl (by rw [hml]; rfl) (Steps.refl _) (a := b1) (argsL := [(.int u0), (.int u1), (.long u2), (.long u3), (.long q2), (.int u5), (.int u6), (.long u7), (.long u8)]) (rest := [(.ref b1)]) (lenOf pd_1 rfl) rfl (by show 2 * 0 + _ ≤ _; exact Nat.le_of_eq rfl) (hb hby d7_37) (fun _ w_ => ⟨⟨rfl, e9, (by decide : 1 + 0 ≤ _), (by decide : 9 + 0 ≤ _)⟩, own_L_stays hL w_⟩)
  dsimp only [Pt.U, Pt.locs, Pt.cells, Pt.slots] at X10 l10 y10 z10 st10 hQ10
  subst l10 y10 z10
  obtain ⟨h10, e10⟩ : ∃ z, T10.heap = z := ⟨_, rfl⟩
  rw [e10] at hQ10
  obtain ⟨rfl, N10q, Kc10, E_b1_10q, F_servers_b1_10q, F_sharding_b1_10q, F_keepAliveMs_b1_10q, F_coldStartMs_b1_10q, F_durationMs_b1_10q, F_maxConcurrent_b1_10q, F_capacity_b1_10q, F_warmUpMs_b1_10q, F_hopMs_b1_10q⟩ := hQ10
  have F_servers_a1_10 : Fld Z h10 a1 "com/example/prewrm/prewrm/model/ReplayConfig" "servers" "I" (.int u0) := F_servers_a1_1.keep Kc10 (ninS ne_a1_b1 nin0)
  have F_sharding_a1_10 : Fld Z h10 a1 "com/example/prewrm/prewrm/model/ReplayConfig" "sharding" "Z" (.int u1) := F_sharding_a1_1.keep Kc10 (ninS ne_a1_b1 nin0)
  have F_keepAliveMs_a1_10 : Fld Z h10 a1 "com/example/prewrm/prewrm/model/ReplayConfig" "keepAliveMs" "J" (.long u2) := F_keepAliveMs_a1_1.keep Kc10 (ninS ne_a1_b1 nin0)
  have F_coldStartMs_a1_10 : Fld Z h10 a1 "com/example/prewrm/prewrm/model/ReplayConfig" "coldStartMs" "J" (.long u3) := F_coldStartMs_a1_1.keep Kc10 (ninS ne_a1_b1 nin0)
  have F_durationMs_a1_10 : Fld Z h10 a1 "com/example/prewrm/prewrm/model/ReplayConfig" "durationMs" "J" (.long u4) := F_durationMs_a1_1.keep Kc10 (ninS ne_a1_b1 nin0)
  have F_maxConcurrent_a1_10 : Fld Z h10 a1 "com/example/prewrm/prewrm/model/ReplayConfig" "maxConcurrent" "I" (.int u5) := F_maxConcurrent_a1_1.keep Kc10 (ninS ne_a1_b1 nin0)
  have F_capacity_a1_10 : Fld Z h10 a1 "com/example/prewrm/prewrm/model/ReplayConfig" "capacity" "I" (.int u6) := F_capacity_a1_1.keep Kc10 (ninS ne_a1_b1 nin0)
  have F_warmUpMs_a1_10 : Fld Z h10 a1 "com/example/prewrm/prewrm/model/ReplayConfig" "warmUpMs" "J" (.long u7) := F_warmUpMs_a1_1.keep Kc10 (ninS ne_a1_b1 nin0)
  have F_hopMs_a1_10 : Fld Z h10 a1 "com/example/prewrm/prewrm/model/ReplayConfig" "hopMs" "J" (.long u8) := F_hopMs_a1_1.keep Kc10 (ninS ne_a1_b1 nin0)
  have K10 := K1.trans Kc10 (allS (Or.inr sz_b1) all0)
  have Zs10 := Nat.le_trans Zs1 Kc10.1
  have E_b1_10 : Exa Z h10 b1 "com/example/prewrm/prewrm/model/ReplayConfig" := E_b1_10q
  have F_servers_b1_10 : Fld Z h10 b1 "com/example/prewrm/prewrm/model/ReplayConfig" "servers" "I" (.int u0) := F_servers_b1_10q
  have F_sharding_b1_10 : Fld Z h10 b1 "com/example/prewrm/prewrm/model/ReplayConfig" "sharding" "Z" (.int (nar .boolean u1)) := F_sharding_b1_10q
  have F_keepAliveMs_b1_10 : Fld Z h10 b1 "com/example/prewrm/prewrm/model/ReplayConfig" "keepAliveMs" "J" (.long u2) := F_keepAliveMs_b1_10q
  have F_coldStartMs_b1_10 : Fld Z h10 b1 "com/example/prewrm/prewrm/model/ReplayConfig" "coldStartMs" "J" (.long u3) := F_coldStartMs_b1_10q
  have F_durationMs_b1_10 : Fld Z h10 b1 "com/example/prewrm/prewrm/model/ReplayConfig" "durationMs" "J" (.long q2) := F_durationMs_b1_10q
  have F_maxConcurrent_b1_10 : Fld Z h10 b1 "com/example/prewrm/prewrm/model/ReplayConfig" "maxConcurrent" "I" (.int u5) := F_maxConcurrent_b1_10q
  have F_capacity_b1_10 : Fld Z h10 b1 "com/example/prewrm/prewrm/model/ReplayConfig" "capacity" "I" (.int u6) := F_capacity_b1_10q
  have F_warmUpMs_b1_10 : Fld Z h10 b1 "com/example/prewrm/prewrm/model/ReplayConfig" "warmUpMs" "J" (.long u7) := F_warmUpMs_b1_10q
  have F_hopMs_b1_10 : Fld Z h10 b1 "com/example/prewrm/prewrm/model/ReplayConfig" "hopMs" "J" (.long u8) := F_hopMs_b1_10q
  have N10 := Fr.app N0 N10q
  obtain ⟨fs, hr, hrun, hended, hW, hsame⟩ := X10.leave (v := some (.ref b1)) (fun h => by rw [Bd.returns] at h; cases h)
  refine ⟨_, _, pre0 _ ?_, hrun, hended, _, _, rfl, ?_, ⟨_, rfl⟩, hW, hsame.mono (by decide) (by decide)⟩
  · show Steps p.tables e below (s₁.setTop (mkF m 0 #[.val (.ref a1), .val (.long q2), .second] [])) _
    refine st1 _ ?_
    show Steps p.tables e below (T1.setTop (mkF m 3 #[.val (.ref a1), .val (.long q2), .second] [(.ref b1)])) _
    refine XS.dup X1.here hx rfl (hb hby d7_3) rfl rfl ?_
    show Steps p.tables e below (T1.setTop (mkF m 4 #[.val (.ref a1), .val (.long q2), .second] [(.ref b1), (.ref b1)])) _
    refine XS.aloadN X1.here hx rfl (hb hby d7_4) rfl rfl ?_
    show Steps p.tables e below (T1.setTop (mkF m 5 #[.val (.ref a1), .val (.long q2), .second] [(.ref a1), (.ref b1), (.ref b1)])) _
    refine st2 _ ?_
    show Steps p.tables e below (T2.setTop (mkF m 8 #[.val (.ref a1), .val (.long q2), .second] [(.int u0), (.ref b1), (.ref b1)])) _
    refine XS.aloadN X2.here hx rfl (hb hby d7_8) rfl rfl ?_
    show Steps p.tables e below (T2.setTop (mkF m 9 #[.val (.ref a1), .val (.long q2), .second] [(.ref a1), (.int u0), (.ref b1), (.ref b1)])) _
    refine st3 _ ?_
    show Steps p.tables e below (T3.setTop (mkF m 12 #[.val (.ref a1), .val (.long q2), .second] [(.int u1), (.int u0), (.ref b1), (.ref b1)])) _
    refine XS.aloadN X3.here hx rfl (hb hby d7_12) rfl rfl ?_
    show Steps p.tables e below (T3.setTop (mkF m 13 #[.val (.ref a1), .val (.long q2), .second] [(.ref a1), (.int u1), (.int u0), (.ref b1), (.ref b1)])) _
    refine st4 _ ?_
    show Steps p.tables e below (T4.setTop (mkF m 16 #[.val (.ref a1), .val (.long q2), .second] [(.long u2), (.int u1), (.int u0), (.ref b1), (.ref b1)])) _
    refine XS.aloadN X4.here hx rfl (hb hby d7_16) rfl rfl ?_
    show Steps p.tables e below (T4.setTop (mkF m 17 #[.val (.ref a1), .val (.long q2), .second] [(.ref a1), (.long u2), (.int u1), (.int u0), (.ref b1), (.ref b1)])) _
    refine st5 _ ?_
    show Steps p.tables e below (T5.setTop (mkF m 20 #[.val (.ref a1), .val (.long q2), .second] [(.long u3), (.long u2), (.int u1), (.int u0), (.ref b1), (.ref b1)])) _
    refine XS.lloadN X5.here hx rfl (hb hby d7_20) rfl ?_
    show Steps p.tables e below (T5.setTop (mkF m 21 #[.val (.ref a1), .val (.long q2), .second] [(.long q2), (.long u3), (.long u2), (.int u1), (.int u0), (.ref b1), (.ref b1)])) _
    refine XS.aloadN X5.here hx rfl (hb hby d7_21) rfl rfl ?_
    show Steps p.tables e below (T5.setTop (mkF m 22 #[.val (.ref a1), .val (.long q2), .second] [(.ref a1), (.long q2), (.long u3), (.long u2), (.int u1), (.int u0), (.ref b1), (.ref b1)])) _
    refine st6 _ ?_
    show Steps p.tables e below (T6.setTop (mkF m 25 #[.val (.ref a1), .val (.long q2), .second] [(.int u5), (.long q2), (.long u3), (.long u2), (.int u1), (.int u0), (.ref b1), (.ref b1)])) _
    refine XS.aloadN X6.here hx rfl (hb hby d7_25) rfl rfl ?_
    show Steps p.tables e below (T6.setTop (mkF m 26 #[.val (.ref a1), .val (.long q2), .second] [(.ref a1), (.int u5), (.long q2), (.long u3), (.long u2), (.int u1), (.int u0), (.ref b1), (.ref b1)])) _
    refine st7 _ ?_
    show Steps p.tables e below (T7.setTop (mkF m 29 #[.val (.ref a1), .val (.long q2), .second] [(.int u6), (.int u5), (.long q2), (.long u3), (.long u2), (.int u1), (.int u0), (.ref b1), (.ref b1)])) _
    refine XS.aloadN X7.here hx rfl (hb hby d7_29) rfl rfl ?_
    show Steps p.tables e below (T7.setTop (mkF m 30 #[.val (.ref a1), .val (.long q2), .second] [(.ref a1), (.int u6), (.int u5), (.long q2), (.long u3), (.long u2), (.int u1), (.int u0), (.ref b1), (.ref b1)])) _
    refine st8 _ ?_
    show Steps p.tables e below (T8.setTop (mkF m 33 #[.val (.ref a1), .val (.long q2), .second] [(.long u7), (.int u6), (.int u5), (.long q2), (.long u3), (.long u2), (.int u1), (.int u0), (.ref b1), (.ref b1)])) _
    refine XS.aloadN X8.here hx rfl (hb hby d7_33) rfl rfl ?_
    show Steps p.tables e below (T8.setTop (mkF m 34 #[.val (.ref a1), .val (.long q2), .second] [(.ref a1), (.long u7), (.int u6), (.int u5), (.long q2), (.long u3), (.long u2), (.int u1), (.int u0), (.ref b1), (.ref b1)])) _
    refine st9 _ ?_
    show Steps p.tables e below (T9.setTop (mkF m 37 #[.val (.ref a1), .val (.long q2), .second] [(.long u8), (.long u7), (.int u6), (.int u5), (.long q2), (.long u3), (.long u2), (.int u1), (.int u0), (.ref b1), (.ref b1)])) _
    refine st10.trans ?_
    show Steps p.tables e below (T10.setTop (mkF m 40 #[.val (.ref a1), .val (.long q2), .second] [(.ref b1)])) _
    jvm_step X10.here [X10.here.top, hx, (hb hby d7_40), X10.method', Bd.returns, Value.isRef, FieldType.isReference]
    first | (intro acts; rw [hr _ acts rfl rfl rfl]) | rw [hr _ _ rfl rfl rfl]
    exact Steps.refl _
  · show Q7 Z a1 q2 u0 u1 u2 u3 u4 u5 u6 u7 u8 h0 n0 _ T10.heap _
    rw [e10]
    exact ⟨b1, rfl, N10, K10, sz_b1, E_b1_10, F_servers_b1_10, F_sharding_b1_10, F_keepAliveMs_b1_10, F_coldStartMs_b1_10, F_durationMs_b1_10, F_maxConcurrent_b1_10, F_capacity_b1_10, F_warmUpMs_b1_10, F_hopMs_b1_10⟩
theorem d8_0 : decode prog_18_method_8_code 0 = .ok (.new 1, 3) := by decide +kernel
theorem d8_3 : decode prog_18_method_8_code 3 = .ok (.dup, 1) := by decide +kernel
theorem d8_4 : decode prog_18_method_8_code 4 = .ok (.aload_n 0, 1) := by decide +kernel
theorem d8_5 : decode prog_18_method_8_code 5 = .ok (.getfield 39, 3) := by decide +kernel
theorem d8_8 : decode prog_18_method_8_code 8 = .ok (.aload_n 0, 1) := by decide +kernel
theorem d8_9 : decode prog_18_method_8_code 9 = .ok (.getfield 42, 3) := by decide +kernel
theorem d8_12 : decode prog_18_method_8_code 12 = .ok (.aload_n 0, 1) := by decide +kernel
theorem d8_13 : decode prog_18_method_8_code 13 = .ok (.getfield 46, 3) := by decide +kernel
theorem d8_16 : decode prog_18_method_8_code 16 = .ok (.aload_n 0, 1) := by decide +kernel
theorem d8_17 : decode prog_18_method_8_code 17 = .ok (.getfield 49, 3) := by decide +kernel
theorem d8_20 : decode prog_18_method_8_code 20 = .ok (.aload_n 0, 1) := by decide +kernel
theorem d8_21 : decode prog_18_method_8_code 21 = .ok (.getfield 51, 3) := by decide +kernel
theorem d8_24 : decode prog_18_method_8_code 24 = .ok (.aload_n 0, 1) := by decide +kernel
theorem d8_25 : decode prog_18_method_8_code 25 = .ok (.getfield 53, 3) := by decide +kernel
theorem d8_28 : decode prog_18_method_8_code 28 = .ok (.aload_n 0, 1) := by decide +kernel
theorem d8_29 : decode prog_18_method_8_code 29 = .ok (.getfield 55, 3) := by decide +kernel
theorem d8_32 : decode prog_18_method_8_code 32 = .ok (.lload_n 1, 1) := by decide +kernel
theorem d8_33 : decode prog_18_method_8_code 33 = .ok (.aload_n 0, 1) := by decide +kernel
theorem d8_34 : decode prog_18_method_8_code 34 = .ok (.getfield 59, 3) := by decide +kernel
theorem d8_37 : decode prog_18_method_8_code 37 = .ok (.invokespecial 10, 3) := by decide +kernel
theorem d8_40 : decode prog_18_method_8_code 40 = .ok (.areturn, 1) := by decide +kernel
theorem pn_8 : plainName "com/example/prewrm/prewrm/model/ReplayConfig" = true := by first | (simp [plainName, overriddenIn]; done) | decide +kernel
theorem ef_8 (m : MethodId) (a1 : Addr) (q2 : Int64) : entryFrame m #[(.ref a1), (.long q2)] 3 = mkF m 0 #[.val (.ref a1), .val (.long q2), .second] [] := by first | (simp [entryFrame, mkF, argsToLocals, Value.category]; done) | rfl
def Q8 (Z : State) (a1 : Addr) (q2 : Int64) (u0 : Int32) (u1 : Int32) (u2 : Int64) (u3 : Int64) (u4 : Int64) (u5 : Int32) (u6 : Int32) (u7 : Int64) (u8 : Int64) (h0 : Heap) (n0 : Nat) (v : Option Value) (h : Heap) (L : List Loc) : Prop := ∃ (b : Addr), v = some (.ref b) ∧ Fr n0 L ∧ Keep h0 h ([] : List Addr) ∧ h0.size ≤ b ∧ Exa Z h b "com/example/prewrm/prewrm/model/ReplayConfig" ∧ Fld Z h b "com/example/prewrm/prewrm/model/ReplayConfig" "servers" "I" (.int u0) ∧ Fld Z h b "com/example/prewrm/prewrm/model/ReplayConfig" "sharding" "Z" (.int (nar .boolean u1)) ∧ Fld Z h b "com/example/prewrm/prewrm/model/ReplayConfig" "keepAliveMs" "J" (.long u2) ∧ Fld Z h b "com/example/prewrm/prewrm/model/ReplayConfig" "coldStartMs" "J" (.long u3) ∧ Fld Z h b "com/example/prewrm/prewrm/model/ReplayConfig" "durationMs" "J" (.long u4) ∧ Fld Z h b "com/example/prewrm/prewrm/model/ReplayConfig" "maxConcurrent" "I" (.int u5) ∧ Fld Z h b "com/example/prewrm/prewrm/model/ReplayConfig" "capacity" "I" (.int u6) ∧ Fld Z h b "com/example/prewrm/prewrm/model/ReplayConfig" "warmUpMs" "J" (.long q2) ∧ Fld Z h b "com/example/prewrm/prewrm/model/ReplayConfig" "hopMs" "J" (.long u8)
set_option maxRecDepth 65536 in
set_option maxHeartbeats 40000000 in
theorem rm8 (l : Launch) (Z : State) (a0 : Array Value) (hw : ∀ d ∈ tables_1, d.before a0 Z = true) (ws : List Jvm.Cond) (a1 : Addr) (q2 : Int64) (u0 : Int32) (u1 : Int32) (u2 : Int64) (u3 : Int64) (u4 : Int64) (u5 : Int32) (u6 : Int32) (u7 : Int64) (u8 : Int64) (h0 : Heap) (n0 : Nat) (Z0 : n0 ≤ h0.size) (F_servers_a1 : Fld Z h0 a1 "com/example/prewrm/prewrm/model/ReplayConfig" "servers" "I" (.int u0)) (F_sharding_a1 : Fld Z h0 a1 "com/example/prewrm/prewrm/model/ReplayConfig" "sharding" "Z" (.int u1)) (F_keepAliveMs_a1 : Fld Z h0 a1 "com/example/prewrm/prewrm/model/ReplayConfig" "keepAliveMs" "J" (.long u2)) (F_coldStartMs_a1 : Fld Z h0 a1 "com/example/prewrm/prewrm/model/ReplayConfig" "coldStartMs" "J" (.long u3)) (F_durationMs_a1 : Fld Z h0 a1 "com/example/prewrm/prewrm/model/ReplayConfig" "durationMs" "J" (.long u4)) (F_maxConcurrent_a1 : Fld Z h0 a1 "com/example/prewrm/prewrm/model/ReplayConfig" "maxConcurrent" "I" (.int u5)) (F_capacity_a1 : Fld Z h0 a1 "com/example/prewrm/prewrm/model/ReplayConfig" "capacity" "I" (.int u6)) (F_warmUpMs_a1 : Fld Z h0 a1 "com/example/prewrm/prewrm/model/ReplayConfig" "warmUpMs" "J" (.long u7)) (F_hopMs_a1 : Fld Z h0 a1 "com/example/prewrm/prewrm/model/ReplayConfig" "hopMs" "J" (.long u8)) (hs : ¬ (u0.toInt64) < (1 : Int64)) (hm : ¬ (u5.toInt64) < (1 : Int64)) (hc : ¬ (u6.toInt64) < (1 : Int64)) (hk : ¬ u2 < (0 : Int64)) (hcs : ¬ u3 < (0 : Int64)) (hd : ¬ u4 < (0 : Int64)) (hw_ : ¬ q2 < (0 : Int64)) (hh_ : ¬ u8 < (0 : Int64)) :
    MetFree l (⟨"com/example/prewrm/prewrm/model/ReplayConfig", "withWarmUpMs", "(J)Lcom/example/prewrm/prewrm/model/ReplayConfig;"⟩ : MethodName) (head1 (Jvm.Cond.code (⟨"com/example/prewrm/prewrm/model/ReplayConfig", "withWarmUpMs", "(J)Lcom/example/prewrm/prewrm/model/ReplayConfig;"⟩ : MethodName) prog_18_method_8_code 3 (some (.object "com/example/prewrm/prewrm/model/ReplayConfig")) :: ws) ({ frames := 2, cells := 1, slots := 9, locals := 43 } : Room)) (fun a U => (a = #[(.ref a1), (.long q2)] ∧ Z.Warmed39 U.vm ∧ U.heap = h0) ∧ own_L U.vm) (fun _ _ _ _ _ => True) (fun _ U o U' => ∃ v L, o = .returned v ∧ Q8 Z a1 q2 u0 u1 u2 u3 u4 u5 u6 u7 u8 h0 n0 v U'.heap L ∧ FrameEnd U o U' L ({ frames := 2, cells := 1, slots := 9, locals := 43 } : Room).cells ({ frames := 2, cells := 1, slots := 9, locals := 43 } : Room).slots) := by
  refine MetFree.of_bodySF (plainFor_of_name pn_8) hisR ?_
  intro p e s m args below meth c s₁ Bd hml0 hP hK
  obtain ⟨⟨rfl, hZ, hh⟩, hL⟩ := hP
  have hx := Bd.exec
  have hby := Bd.bytes
  have hml : c.maxLocals = 3 := hml0
  have hown : s.vm.findClass "com/example/prewrm/prewrm/model/ReplayConfig" = some m.cls := findClass_of_methodNamed Bd.named
  have hnm := (name_of_methodNamed Bd.named Bd.method).1
  have X0 : Stand p l e ({ frames := 2, cells := 1, slots := 9, locals := 43 } : Room) s m #[(.ref a1), (.long q2)] below meth c s₁ [] 0 0 := Stand.of_body Bd
  have e0 : s₁.heap = h0 := by rw [← hh, Bd.state]; rfl
  have N0 := Fr.nil n0
  have pre0 : ∀ t, Steps p.tables e below (s₁.setTop (mkF m 0 #[.val (.ref a1), .val (.long q2), .second] [])) t → Steps p.tables e below (s₁.setTop (entryFrame m #[(.ref a1), (.long q2)] 3)) t := fun t k => castTop (ef_8 m a1 q2) k
  have K0 := Keep.refl h0 ([] : List Addr)
  obtain ⟨ls19, ls25, ls27, ls29, ls31, ls33, ls35, ls37, hLs⟩ := hL
  obtain ⟨Ls19, Ls25, Ls27, Ls29, Ls31, Ls33, Ls35, Ls37⟩ := hLs s
  have hL : own_L s.vm := ⟨ls19, ls25, ls27, ls29, ls31, ls33, ls35, ls37, fun _ => ⟨Ls19, Ls25, Ls27, Ls29, Ls31, Ls33, Ls35, Ls37⟩⟩
  obtain ⟨T1, h1, X1, e1, E1, Ax1, D1, -, st1⟩ := newO X0 hx hZ hown (hw _ (List.mem_of_getElem? (i := 61) rfl)) (hw _ (List.mem_of_getElem? (i := 6) rfl)) (hw _ (List.mem_of_getElem? (i := 7) rfl)) e0 (g := (mkF m 0 #[.val (.ref a1), .val (.long q2), .second] [])) rfl (hb hby d8_0) (by decide) (by decide)
  obtain ⟨b1, g1⟩ : ∃ z, z = h0.size := ⟨_, rfl⟩
  rw [← g1] at Ax1 D1 st1
  have ne_a1_b1 : a1 ≠ b1 := Nat.ne_of_lt (Nat.lt_of_lt_of_le F_servers_a1.lt (Nat.le_of_eq g1.symm))
  have g_b1 : n0 ≤ b1 := Nat.le_trans Z0 (Nat.le_of_eq g1.symm)
  have sz_b1 : h0.size ≤ b1 := Nat.le_trans K0.1 (Nat.le_of_eq g1.symm)
  have F_servers_a1_1 : Fld Z h1 a1 "com/example/prewrm/prewrm/model/ReplayConfig" "servers" "I" (.int u0) := F_servers_a1.ext E1
  have F_sharding_a1_1 : Fld Z h1 a1 "com/example/prewrm/prewrm/model/ReplayConfig" "sharding" "Z" (.int u1) := F_sharding_a1.ext E1
  have F_keepAliveMs_a1_1 : Fld Z h1 a1 "com/example/prewrm/prewrm/model/ReplayConfig" "keepAliveMs" "J" (.long u2) := F_keepAliveMs_a1.ext E1
  have F_coldStartMs_a1_1 : Fld Z h1 a1 "com/example/prewrm/prewrm/model/ReplayConfig" "coldStartMs" "J" (.long u3) := F_coldStartMs_a1.ext E1
  have F_durationMs_a1_1 : Fld Z h1 a1 "com/example/prewrm/prewrm/model/ReplayConfig" "durationMs" "J" (.long u4) := F_durationMs_a1.ext E1
  have F_maxConcurrent_a1_1 : Fld Z h1 a1 "com/example/prewrm/prewrm/model/ReplayConfig" "maxConcurrent" "I" (.int u5) := F_maxConcurrent_a1.ext E1
  have F_capacity_a1_1 : Fld Z h1 a1 "com/example/prewrm/prewrm/model/ReplayConfig" "capacity" "I" (.int u6) := F_capacity_a1.ext E1
  have F_warmUpMs_a1_1 : Fld Z h1 a1 "com/example/prewrm/prewrm/model/ReplayConfig" "warmUpMs" "J" (.long u7) := F_warmUpMs_a1.ext E1
  have F_hopMs_a1_1 : Fld Z h1 a1 "com/example/prewrm/prewrm/model/ReplayConfig" "hopMs" "J" (.long u8) := F_hopMs_a1.ext E1
  have K1 := K0.ext E1
  have Zs1 := Nat.le_trans Z0 E1.1
  have E_b1_1 : Exa Z h1 b1 "com/example/prewrm/prewrm/model/ReplayConfig" := Ax1
  have F_servers_b1_1 : Fld Z h1 b1 "com/example/prewrm/prewrm/model/ReplayConfig" "servers" "I" (.int (0 : Int32)) := D1 (Or.inr (hw _ (List.mem_of_getElem? (i := 39) rfl))) (ty := .int) (by decide)
  have F_sharding_b1_1 : Fld Z h1 b1 "com/example/prewrm/prewrm/model/ReplayConfig" "sharding" "Z" (.int (0 : Int32)) := D1 (Or.inr (hw _ (List.mem_of_getElem? (i := 41) rfl))) (ty := .boolean) (by decide)
  have F_keepAliveMs_b1_1 : Fld Z h1 b1 "com/example/prewrm/prewrm/model/ReplayConfig" "keepAliveMs" "J" (.long (0 : Int64)) := D1 (Or.inr (hw _ (List.mem_of_getElem? (i := 43) rfl))) (ty := .long) (by decide)
  have F_coldStartMs_b1_1 : Fld Z h1 b1 "com/example/prewrm/prewrm/model/ReplayConfig" "coldStartMs" "J" (.long (0 : Int64)) := D1 (Or.inr (hw _ (List.mem_of_getElem? (i := 45) rfl))) (ty := .long) (by decide)
  have F_durationMs_b1_1 : Fld Z h1 b1 "com/example/prewrm/prewrm/model/ReplayConfig" "durationMs" "J" (.long (0 : Int64)) := D1 (Or.inr (hw _ (List.mem_of_getElem? (i := 47) rfl))) (ty := .long) (by decide)
  have F_maxConcurrent_b1_1 : Fld Z h1 b1 "com/example/prewrm/prewrm/model/ReplayConfig" "maxConcurrent" "I" (.int (0 : Int32)) := D1 (Or.inr (hw _ (List.mem_of_getElem? (i := 49) rfl))) (ty := .int) (by decide)
  have F_capacity_b1_1 : Fld Z h1 b1 "com/example/prewrm/prewrm/model/ReplayConfig" "capacity" "I" (.int (0 : Int32)) := D1 (Or.inr (hw _ (List.mem_of_getElem? (i := 51) rfl))) (ty := .int) (by decide)
  have F_warmUpMs_b1_1 : Fld Z h1 b1 "com/example/prewrm/prewrm/model/ReplayConfig" "warmUpMs" "J" (.long (0 : Int64)) := D1 (Or.inr (hw _ (List.mem_of_getElem? (i := 53) rfl))) (ty := .long) (by decide)
  have F_hopMs_b1_1 : Fld Z h1 b1 "com/example/prewrm/prewrm/model/ReplayConfig" "hopMs" "J" (.long (0 : Int64)) := D1 (Or.inr (hw _ (List.mem_of_getElem? (i := 55) rfl))) (ty := .long) (by decide)
  obtain ⟨T2, X2, e2, st2⟩ := getF X1 hx hZ hown (host := "") (Or.inl (hw _ (List.mem_of_getElem? (i := 38) rfl))) Via.refl e1 F_servers_a1_1 (g := (mkF m 5 #[.val (.ref a1), .val (.long q2), .second] [(.ref a1), (.ref b1), (.ref b1)])) rfl rfl (hb hby d8_5)
  obtain ⟨T3, X3, e3, st3⟩ := getF X2 hx hZ hown (host := "") (Or.inl (hw _ (List.mem_of_getElem? (i := 40) rfl))) Via.refl e2 F_sharding_a1_1 (g := (mkF m 9 #[.val (.ref a1), .val (.long q2), .second] [(.ref a1), (.int u0), (.ref b1), (.ref b1)])) rfl rfl (hb hby d8_9)
  obtain ⟨T4, X4, e4, st4⟩ := getF X3 hx hZ hown (host := "") (Or.inl (hw _ (List.mem_of_getElem? (i := 42) rfl))) Via.refl e3 F_keepAliveMs_a1_1 (g := (mkF m 13 #[.val (.ref a1), .val (.long q2), .second] [(.ref a1), (.int u1), (.int u0), (.ref b1), (.ref b1)])) rfl rfl (hb hby d8_13)
  obtain ⟨T5, X5, e5, st5⟩ := getF X4 hx hZ hown (host := "") (Or.inl (hw _ (List.mem_of_getElem? (i := 44) rfl))) Via.refl e4 F_coldStartMs_a1_1 (g := (mkF m 17 #[.val (.ref a1), .val (.long q2), .second] [(.ref a1), (.long u2), (.int u1), (.int u0), (.ref b1), (.ref b1)])) rfl rfl (hb hby d8_17)
  obtain ⟨T6, X6, e6, st6⟩ := getF X5 hx hZ hown (host := "") (Or.inl (hw _ (List.mem_of_getElem? (i := 46) rfl))) Via.refl e5 F_durationMs_a1_1 (g := (mkF m 21 #[.val (.ref a1), .val (.long q2), .second] [(.ref a1), (.long u3), (.long u2), (.int u1), (.int u0), (.ref b1), (.ref b1)])) rfl rfl (hb hby d8_21)
  obtain ⟨T7, X7, e7, st7⟩ := getF X6 hx hZ hown (host := "") (Or.inl (hw _ (List.mem_of_getElem? (i := 48) rfl))) Via.refl e6 F_maxConcurrent_a1_1 (g := (mkF m 25 #[.val (.ref a1), .val (.long q2), .second] [(.ref a1), (.long u4), (.long u3), (.long u2), (.int u1), (.int u0), (.ref b1), (.ref b1)])) rfl rfl (hb hby d8_25)
  obtain ⟨T8, X8, e8, st8⟩ := getF X7 hx hZ hown (host := "") (Or.inl (hw _ (List.mem_of_getElem? (i := 50) rfl))) Via.refl e7 F_capacity_a1_1 (g := (mkF m 29 #[.val (.ref a1), .val (.long q2), .second] [(.ref a1), (.int u5), (.long u4), (.long u3), (.long u2), (.int u1), (.int u0), (.ref b1), (.ref b1)])) rfl rfl (hb hby d8_29)
  obtain ⟨T9, X9, e9, st9⟩ := getF X8 hx hZ hown (host := "") (Or.inl (hw _ (List.mem_of_getElem? (i := 54) rfl))) Via.refl e8 F_hopMs_a1_1 (g := (mkF m 34 #[.val (.ref a1), .val (.long q2), .second] [(.ref a1), (.long q2), (.int u6), (.int u5), (.long u4), (.long u3), (.long u2), (.int u1), (.int u0), (.ref b1), (.ref b1)])) rfl rfl (hb hby d8_34)
  obtain ⟨_, _, ⟨T10, L10, k10, n10⟩, -, X10, ⟨Lc10, hQ10, l10, y10, z10⟩, st10⟩ := X9.specialBack hx (y := (⟨"com/example/prewrm/prewrm/model/ReplayConfig", "<init>", "(IZJJJIIJJ)V"⟩ : MethodName)) rfl hown (mvT hZ (hw _ (List.mem_of_getElem? (i := 14) rfl))) (mvT hZ (hw _ (List.mem_of_getElem? (i := 15) rfl))) (mvT hZ (hw _ (List.mem_of_getElem? (i := 16) rfl))) (by decide) (own_backL (W := 1) (rm3 l Z a0 hw [] b1 u0 u1 u2 u3 u4 u5 u6 q2 u8 h1 n0 Zs1 E_b1_1 F_servers_b1_1 F_sharding_b1_1 F_keepAliveMs_b1_1 F_coldStartMs_b1_1 F_durationMs_b1_1 F_maxConcurrent_b1_1 F_capacity_b1_1 F_warmUpMs_b1_1 F_hopMs_b1_1 g_b1 hs hm hc hk hcs hd hw_ hh_) hZ (hw _ (List.mem_of_getElem? (i := 16) rfl)) (hw _ (List.mem_of_getElem? (i := 7) rfl)) (by decide) (by decide)) (g := (mkF m 37 #[.val (.ref a1), .val (.long q2), .second] [(.long u8), (.long q2), (.int u6), (.int u5), (.long u4), (.long u3), (.long u2), (.int u1), (.int u0), (.ref b1), (.ref b1)])) rfl (by rw [hml]; rfl) (Steps.refl _) (a := b1) (argsL := [(.int u0), (.int u1), (.long u2), (.long u3), (.long u4), (.int u5), (.int u6), (.long q2), (.long u8)]) (rest := [(.ref b1)]) (lenOf pd_1 rfl) rfl (by show 2 * 0 + _ ≤ _; exact Nat.le_of_eq rfl) (hb hby d8_37) (fun _ w_ => ⟨⟨rfl, e9, (by decide : 1 + 0 ≤ _), (by decide : 9 + 0 ≤ _)⟩, own_L_stays hL w_⟩)
  dsimp only [Pt.U, Pt.locs, Pt.cells, Pt.slots] at X10 l10 y10 z10 st10 hQ10
  subst l10 y10 z10
  obtain ⟨h10, e10⟩ : ∃ z, T10.heap = z := ⟨_, rfl⟩
  rw [e10] at hQ10
  obtain ⟨rfl, N10q, Kc10, E_b1_10q, F_servers_b1_10q, F_sharding_b1_10q, F_keepAliveMs_b1_10q, F_coldStartMs_b1_10q, F_durationMs_b1_10q, F_maxConcurrent_b1_10q, F_capacity_b1_10q, F_warmUpMs_b1_10q, F_hopMs_b1_10q⟩ := hQ10
  have F_servers_a1_10 : Fld Z h10 a1 "com/example/prewrm/prewrm/model/ReplayConfig" "servers" "I" (.int u0) := F_servers_a1_1.keep Kc10 (ninS ne_a1_b1 nin0)
  have F_sharding_a1_10 : Fld Z h10 a1 "com/example/prewrm/prewrm/model/ReplayConfig" "sharding" "Z" (.int u1) := F_sharding_a1_1.keep Kc10 (ninS ne_a1_b1 nin0)
  have F_keepAliveMs_a1_10 : Fld Z h10 a1 "com/example/prewrm/prewrm/model/ReplayConfig" "keepAliveMs" "J" (.long u2) := F_keepAliveMs_a1_1.keep Kc10 (ninS ne_a1_b1 nin0)
  have F_coldStartMs_a1_10 : Fld Z h10 a1 "com/example/prewrm/prewrm/model/ReplayConfig" "coldStartMs" "J" (.long u3) := F_coldStartMs_a1_1.keep Kc10 (ninS ne_a1_b1 nin0)
  have F_durationMs_a1_10 : Fld Z h10 a1 "com/example/prewrm/prewrm/model/ReplayConfig" "durationMs" "J" (.long u4) := F_durationMs_a1_1.keep Kc10 (ninS ne_a1_b1 nin0)
  have F_maxConcurrent_a1_10 : Fld Z h10 a1 "com/example/prewrm/prewrm/model/ReplayConfig" "maxConcurrent" "I" (.int u5) := F_maxConcurrent_a1_1.keep Kc10 (ninS ne_a1_b1 nin0)
  have F_capacity_a1_10 : Fld Z h10 a1 "com/example/prewrm/prewrm/model/ReplayConfig" "capacity" "I" (.int u6) := F_capacity_a1_1.keep Kc10 (ninS ne_a1_b1 nin0)
  have F_warmUpMs_a1_10 : Fld Z h10 a1 "com/example/prewrm/prewrm/model/ReplayConfig" "warmUpMs" "J" (.long u7) := F_warmUpMs_a1_1.keep Kc10 (ninS ne_a1_b1 nin0)
  have F_hopMs_a1_10 : Fld Z h10 a1 "com/example/prewrm/prewrm/model/ReplayConfig" "hopMs" "J" (.long u8) := F_hopMs_a1_1.keep Kc10 (ninS ne_a1_b1 nin0)
  have K10 := K1.trans Kc10 (allS (Or.inr sz_b1) all0)
  have Zs10 := Nat.le_trans Zs1 Kc10.1
  have E_b1_10 : Exa Z h10 b1 "com/example/prewrm/prewrm/model/ReplayConfig" := E_b1_10q
  have F_servers_b1_10 : Fld Z h10 b1 "com/example/prewrm/prewrm/model/ReplayConfig" "servers" "I" (.int u0) := F_servers_b1_10q
  have F_sharding_b1_10 : Fld Z h10 b1 "com/example/prewrm/prewrm/model/ReplayConfig" "sharding" "Z" (.int (nar .boolean u1)) := F_sharding_b1_10q
  have F_keepAliveMs_b1_10 : Fld Z h10 b1 "com/example/prewrm/prewrm/model/ReplayConfig" "keepAliveMs" "J" (.long u2) := F_keepAliveMs_b1_10q
  have F_coldStartMs_b1_10 : Fld Z h10 b1 "com/example/prewrm/prewrm/model/ReplayConfig" "coldStartMs" "J" (.long u3) := F_coldStartMs_b1_10q
  have F_durationMs_b1_10 : Fld Z h10 b1 "com/example/prewrm/prewrm/model/ReplayConfig" "durationMs" "J" (.long u4) := F_durationMs_b1_10q
  have F_maxConcurrent_b1_10 : Fld Z h10 b1 "com/example/prewrm/prewrm/model/ReplayConfig" "maxConcurrent" "I" (.int u5) := F_maxConcurrent_b1_10q
  have F_capacity_b1_10 : Fld Z h10 b1 "com/example/prewrm/prewrm/model/ReplayConfig" "capacity" "I" (.int u6) := F_capacity_b1_10q
  have F_warmUpMs_b1_10 : Fld Z h10 b1 "com/example/prewrm/prewrm/model/ReplayConfig" "warmUpMs" "J" (.long q2) := F_warmUpMs_b1_10q
  have F_hopMs_b1_10 : Fld Z h10 b1 "com/example/prewrm/prewrm/model/ReplayConfig" "hopMs" "J" (.long u8) := F_hopMs_b1_10q
  have N10 := Fr.app N0 N10q
  obtain ⟨fs, hr, hrun, hended, hW, hsame⟩ := X10.leave (v := some (.ref b1)) (fun h => by rw [Bd.returns] at h; cases h)
  refine ⟨_, _, pre0 _ ?_, hrun, hended, _, _, rfl, ?_, ⟨_, rfl⟩, hW, hsame.mono (by decide) (by decide)⟩
  · show Steps p.tables e below (s₁.setTop (mkF m 0 #[.val (.ref a1), .val (.long q2), .second] [])) _
    refine st1 _ ?_
    show Steps p.tables e below (T1.setTop (mkF m 3 #[.val (.ref a1), .val (.long q2), .second] [(.ref b1)])) _
    refine XS.dup X1.here hx rfl (hb hby d8_3) rfl rfl ?_
    show Steps p.tables e below (T1.setTop (mkF m 4 #[.val (.ref a1), .val (.long q2), .second] [(.ref b1), (.ref b1)])) _
    refine XS.aloadN X1.here hx rfl (hb hby d8_4) rfl rfl ?_
    show Steps p.tables e below (T1.setTop (mkF m 5 #[.val (.ref a1), .val (.long q2), .second] [(.ref a1), (.ref b1), (.ref b1)])) _
    refine st2 _ ?_
    show Steps p.tables e below (T2.setTop (mkF m 8 #[.val (.ref a1), .val (.long q2), .second] [(.int u0), (.ref b1), (.ref b1)])) _
    refine XS.aloadN X2.here hx rfl (hb hby d8_8) rfl rfl ?_
    show Steps p.tables e below (T2.setTop (mkF m 9 #[.val (.ref a1), .val (.long q2), .second] [(.ref a1), (.int u0), (.ref b1), (.ref b1)])) _
    refine st3 _ ?_
    show Steps p.tables e below (T3.setTop (mkF m 12 #[.val (.ref a1), .val (.long q2), .second] [(.int u1), (.int u0), (.ref b1), (.ref b1)])) _
    refine XS.aloadN X3.here hx rfl (hb hby d8_12) rfl rfl ?_
    show Steps p.tables e below (T3.setTop (mkF m 13 #[.val (.ref a1), .val (.long q2), .second] [(.ref a1), (.int u1), (.int u0), (.ref b1), (.ref b1)])) _
    refine st4 _ ?_
    show Steps p.tables e below (T4.setTop (mkF m 16 #[.val (.ref a1), .val (.long q2), .second] [(.long u2), (.int u1), (.int u0), (.ref b1), (.ref b1)])) _
    refine XS.aloadN X4.here hx rfl (hb hby d8_16) rfl rfl ?_
    show Steps p.tables e below (T4.setTop (mkF m 17 #[.val (.ref a1), .val (.long q2), .second] [(.ref a1), (.long u2), (.int u1), (.int u0), (.ref b1), (.ref b1)])) _
    refine st5 _ ?_
    show Steps p.tables e below (T5.setTop (mkF m 20 #[.val (.ref a1), .val (.long q2), .second] [(.long u3), (.long u2), (.int u1), (.int u0), (.ref b1), (.ref b1)])) _
    refine XS.aloadN X5.here hx rfl (hb hby d8_20) rfl rfl ?_
    show Steps p.tables e below (T5.setTop (mkF m 21 #[.val (.ref a1), .val (.long q2), .second] [(.ref a1), (.long u3), (.long u2), (.int u1), (.int u0), (.ref b1), (.ref b1)])) _
    refine st6 _ ?_
    show Steps p.tables e below (T6.setTop (mkF m 24 #[.val (.ref a1), .val (.long q2), .second] [(.long u4), (.long u3), (.long u2), (.int u1), (.int u0), (.ref b1), (.ref b1)])) _
    refine XS.aloadN X6.here hx rfl (hb hby d8_24) rfl rfl ?_
    show Steps p.tables e below (T6.setTop (mkF m 25 #[.val (.ref a1), .val (.long q2), .second] [(.ref a1), (.long u4), (.long u3), (.long u2), (.int u1), (.int u0), (.ref b1), (.ref b1)])) _
    refine st7 _ ?_
    show Steps p.tables e below (T7.setTop (mkF m 28 #[.val (.ref a1), .val (.long q2), .second] [(.int u5), (.long u4), (.long u3), (.long u2), (.int u1), (.int u0), (.ref b1), (.ref b1)])) _
    refine XS.aloadN X7.here hx rfl (hb hby d8_28) rfl rfl ?_
    show Steps p.tables e below (T7.setTop (mkF m 29 #[.val (.ref a1), .val (.long q2), .second] [(.ref a1), (.int u5), (.long u4), (.long u3), (.long u2), (.int u1), (.int u0), (.ref b1), (.ref b1)])) _
    refine st8 _ ?_
    show Steps p.tables e below (T8.setTop (mkF m 32 #[.val (.ref a1), .val (.long q2), .second] [(.int u6), (.int u5), (.long u4), (.long u3), (.long u2), (.int u1), (.int u0), (.ref b1), (.ref b1)])) _
    refine XS.lloadN X8.here hx rfl (hb hby d8_32) rfl ?_
    show Steps p.tables e below (T8.setTop (mkF m 33 #[.val (.ref a1), .val (.long q2), .second] [(.long q2), (.int u6), (.int u5), (.long u4), (.long u3), (.long u2), (.int u1), (.int u0), (.ref b1), (.ref b1)])) _
    refine XS.aloadN X8.here hx rfl (hb hby d8_33) rfl rfl ?_
    show Steps p.tables e below (T8.setTop (mkF m 34 #[.val (.ref a1), .val (.long q2), .second] [(.ref a1), (.long q2), (.int u6), (.int u5), (.long u4), (.long u3), (.long u2), (.int u1), (.int u0), (.ref b1), (.ref b1)])) _
    refine st9 _ ?_
    show Steps p.tables e below (T9.setTop (mkF m 37 #[.val (.ref a1), .val (.long q2), .second] [(.long u8), (.long q2), (.int u6), (.int u5), (.long u4), (.long u3), (.long u2), (.int u1), (.int u0), (.ref b1), (.ref b1)])) _
    refine st10.trans ?_
    show Steps p.tables e below (T10.setTop (mkF m 40 #[.val (.ref a1), .val (.long q2), .second] [(.ref b1)])) _
    jvm_step X10.here [X10.here.top, hx, (hb hby d8_40), X10.method', Bd.returns, Value.isRef, FieldType.isReference]
    first | (intro acts; rw [hr _ acts rfl rfl rfl]) | rw [hr _ _ rfl rfl rfl]
    exact Steps.refl _
  · show Q8 Z a1 q2 u0 u1 u2 u3 u4 u5 u6 u7 u8 h0 n0 _ T10.heap _
    rw [e10]
    exact ⟨b1, rfl, N10, K10, sz_b1, E_b1_10, F_servers_b1_10, F_sharding_b1_10, F_keepAliveMs_b1_10, F_coldStartMs_b1_10, F_durationMs_b1_10, F_maxConcurrent_b1_10, F_capacity_b1_10, F_warmUpMs_b1_10, F_hopMs_b1_10⟩
theorem d9_0 : decode prog_18_method_9_code 0 = .ok (.new 1, 3) := by decide +kernel
theorem d9_3 : decode prog_18_method_9_code 3 = .ok (.dup, 1) := by decide +kernel
theorem d9_4 : decode prog_18_method_9_code 4 = .ok (.aload_n 0, 1) := by decide +kernel
theorem d9_5 : decode prog_18_method_9_code 5 = .ok (.getfield 39, 3) := by decide +kernel
theorem d9_8 : decode prog_18_method_9_code 8 = .ok (.aload_n 0, 1) := by decide +kernel
theorem d9_9 : decode prog_18_method_9_code 9 = .ok (.getfield 42, 3) := by decide +kernel
theorem d9_12 : decode prog_18_method_9_code 12 = .ok (.aload_n 0, 1) := by decide +kernel
theorem d9_13 : decode prog_18_method_9_code 13 = .ok (.getfield 46, 3) := by decide +kernel
theorem d9_16 : decode prog_18_method_9_code 16 = .ok (.aload_n 0, 1) := by decide +kernel
theorem d9_17 : decode prog_18_method_9_code 17 = .ok (.getfield 49, 3) := by decide +kernel
theorem d9_20 : decode prog_18_method_9_code 20 = .ok (.aload_n 0, 1) := by decide +kernel
theorem d9_21 : decode prog_18_method_9_code 21 = .ok (.getfield 51, 3) := by decide +kernel
theorem d9_24 : decode prog_18_method_9_code 24 = .ok (.aload_n 0, 1) := by decide +kernel
theorem d9_25 : decode prog_18_method_9_code 25 = .ok (.getfield 53, 3) := by decide +kernel
theorem d9_28 : decode prog_18_method_9_code 28 = .ok (.aload_n 0, 1) := by decide +kernel
theorem d9_29 : decode prog_18_method_9_code 29 = .ok (.getfield 55, 3) := by decide +kernel
theorem d9_32 : decode prog_18_method_9_code 32 = .ok (.aload_n 0, 1) := by decide +kernel
theorem d9_33 : decode prog_18_method_9_code 33 = .ok (.getfield 57, 3) := by decide +kernel
theorem d9_36 : decode prog_18_method_9_code 36 = .ok (.lload_n 1, 1) := by decide +kernel
theorem d9_37 : decode prog_18_method_9_code 37 = .ok (.invokespecial 10, 3) := by decide +kernel
theorem d9_40 : decode prog_18_method_9_code 40 = .ok (.areturn, 1) := by decide +kernel
theorem pn_9 : plainName "com/example/prewrm/prewrm/model/ReplayConfig" = true := by first | (simp [plainName, overriddenIn]; done) | decide +kernel
theorem ef_9 (m : MethodId) (a1 : Addr) (q2 : Int64) : entryFrame m #[(.ref a1), (.long q2)] 3 = mkF m 0 #[.val (.ref a1), .val (.long q2), .second] [] := by first | (simp [entryFrame, mkF, argsToLocals, Value.category]; done) | rfl
def Q9 (Z : State) (a1 : Addr) (q2 : Int64) (u0 : Int32) (u1 : Int32) (u2 : Int64) (u3 : Int64) (u4 : Int64) (u5 : Int32) (u6 : Int32) (u7 : Int64) (u8 : Int64) (h0 : Heap) (n0 : Nat) (v : Option Value) (h : Heap) (L : List Loc) : Prop := ∃ (b : Addr), v = some (.ref b) ∧ Fr n0 L ∧ Keep h0 h ([] : List Addr) ∧ h0.size ≤ b ∧ Exa Z h b "com/example/prewrm/prewrm/model/ReplayConfig" ∧ Fld Z h b "com/example/prewrm/prewrm/model/ReplayConfig" "servers" "I" (.int u0) ∧ Fld Z h b "com/example/prewrm/prewrm/model/ReplayConfig" "sharding" "Z" (.int (nar .boolean u1)) ∧ Fld Z h b "com/example/prewrm/prewrm/model/ReplayConfig" "keepAliveMs" "J" (.long u2) ∧ Fld Z h b "com/example/prewrm/prewrm/model/ReplayConfig" "coldStartMs" "J" (.long u3) ∧ Fld Z h b "com/example/prewrm/prewrm/model/ReplayConfig" "durationMs" "J" (.long u4) ∧ Fld Z h b "com/example/prewrm/prewrm/model/ReplayConfig" "maxConcurrent" "I" (.int u5) ∧ Fld Z h b "com/example/prewrm/prewrm/model/ReplayConfig" "capacity" "I" (.int u6) ∧ Fld Z h b "com/example/prewrm/prewrm/model/ReplayConfig" "warmUpMs" "J" (.long u7) ∧ Fld Z h b "com/example/prewrm/prewrm/model/ReplayConfig" "hopMs" "J" (.long q2)
set_option maxRecDepth 65536 in
set_option maxHeartbeats 40000000 in
theorem rm9 (l : Launch) (Z : State) (a0 : Array Value) (hw : ∀ d ∈ tables_1, d.before a0 Z = true) (ws : List Jvm.Cond) (a1 : Addr) (q2 : Int64) (u0 : Int32) (u1 : Int32) (u2 : Int64) (u3 : Int64) (u4 : Int64) (u5 : Int32) (u6 : Int32) (u7 : Int64) (u8 : Int64) (h0 : Heap) (n0 : Nat) (Z0 : n0 ≤ h0.size) (F_servers_a1 : Fld Z h0 a1 "com/example/prewrm/prewrm/model/ReplayConfig" "servers" "I" (.int u0)) (F_sharding_a1 : Fld Z h0 a1 "com/example/prewrm/prewrm/model/ReplayConfig" "sharding" "Z" (.int u1)) (F_keepAliveMs_a1 : Fld Z h0 a1 "com/example/prewrm/prewrm/model/ReplayConfig" "keepAliveMs" "J" (.long u2)) (F_coldStartMs_a1 : Fld Z h0 a1 "com/example/prewrm/prewrm/model/ReplayConfig" "coldStartMs" "J" (.long u3)) (F_durationMs_a1 : Fld Z h0 a1 "com/example/prewrm/prewrm/model/ReplayConfig" "durationMs" "J" (.long u4)) (F_maxConcurrent_a1 : Fld Z h0 a1 "com/example/prewrm/prewrm/model/ReplayConfig" "maxConcurrent" "I" (.int u5)) (F_capacity_a1 : Fld Z h0 a1 "com/example/prewrm/prewrm/model/ReplayConfig" "capacity" "I" (.int u6)) (F_warmUpMs_a1 : Fld Z h0 a1 "com/example/prewrm/prewrm/model/ReplayConfig" "warmUpMs" "J" (.long u7)) (F_hopMs_a1 : Fld Z h0 a1 "com/example/prewrm/prewrm/model/ReplayConfig" "hopMs" "J" (.long u8)) (hs : ¬ (u0.toInt64) < (1 : Int64)) (hm : ¬ (u5.toInt64) < (1 : Int64)) (hc : ¬ (u6.toInt64) < (1 : Int64)) (hk : ¬ u2 < (0 : Int64)) (hcs : ¬ u3 < (0 : Int64)) (hd : ¬ u4 < (0 : Int64)) (hw_ : ¬ u7 < (0 : Int64)) (hh_ : ¬ q2 < (0 : Int64)) :
    MetFree l (⟨"com/example/prewrm/prewrm/model/ReplayConfig", "withHopMs", "(J)Lcom/example/prewrm/prewrm/model/ReplayConfig;"⟩ : MethodName) (head1 (Jvm.Cond.code (⟨"com/example/prewrm/prewrm/model/ReplayConfig", "withHopMs", "(J)Lcom/example/prewrm/prewrm/model/ReplayConfig;"⟩ : MethodName) prog_18_method_9_code 3 (some (.object "com/example/prewrm/prewrm/model/ReplayConfig")) :: ws) ({ frames := 2, cells := 1, slots := 9, locals := 43 } : Room)) (fun a U => (a = #[(.ref a1), (.long q2)] ∧ Z.Warmed39 U.vm ∧ U.heap = h0) ∧ own_L U.vm) (fun _ _ _ _ _ => True) (fun _ U o U' => ∃ v L, o = .returned v ∧ Q9 Z a1 q2 u0 u1 u2 u3 u4 u5 u6 u7 u8 h0 n0 v U'.heap L ∧ FrameEnd U o U' L ({ frames := 2, cells := 1, slots := 9, locals := 43 } : Room).cells ({ frames := 2, cells := 1, slots := 9, locals := 43 } : Room).slots) := by
  refine MetFree.of_bodySF (plainFor_of_name pn_9) hisR ?_
  intro p e s m args below meth c s₁ Bd hml0 hP hK
  obtain ⟨⟨rfl, hZ, hh⟩, hL⟩ := hP
  have hx := Bd.exec
  have hby := Bd.bytes
  have hml : c.maxLocals = 3 := hml0
  have hown : s.vm.findClass "com/example/prewrm/prewrm/model/ReplayConfig" = some m.cls := findClass_of_methodNamed Bd.named
  have hnm := (name_of_methodNamed Bd.named Bd.method).1
  have X0 : Stand p l e ({ frames := 2, cells := 1, slots := 9, locals := 43 } : Room) s m #[(.ref a1), (.long q2)] below meth c s₁ [] 0 0 := Stand.of_body Bd
  have e0 : s₁.heap = h0 := by rw [← hh, Bd.state]; rfl
  have N0 := Fr.nil n0
  have pre0 : ∀ t, Steps p.tables e below (s₁.setTop (mkF m 0 #[.val (.ref a1), .val (.long q2), .second] [])) t → Steps p.tables e below (s₁.setTop (entryFrame m #[(.ref a1), (.long q2)] 3)) t := fun t k => castTop (ef_9 m a1 q2) k
  have K0 := Keep.refl h0 ([] : List Addr)
  obtain ⟨ls19, ls25, ls27, ls29, ls31, ls33, ls35, ls37, hLs⟩ := hL
  obtain ⟨Ls19, Ls25, Ls27, Ls29, Ls31, Ls33, Ls35, Ls37⟩ := hLs s
  have hL : own_L s.vm := ⟨ls19, ls25, ls27, ls29, ls31, ls33, ls35, ls37, fun _ => ⟨Ls19, Ls25, Ls27, Ls29, Ls31, Ls33, Ls35, Ls37⟩⟩
  obtain ⟨T1, h1, X1, e1, E1, Ax1, D1, -, st1⟩ := newO X0 hx hZ hown (hw _ (List.mem_of_getElem? (i := 61) rfl)) (hw _ (List.mem_of_getElem? (i := 6) rfl)) (hw _ (List.mem_of_getElem? (i := 7) rfl)) e0 (g := (mkF m 0 #[.val (.ref a1), .val (.long q2), .second] [])) rfl (hb hby d9_0) (by decide) (by decide)
  obtain ⟨b1, g1⟩ : ∃ z, z = h0.size := ⟨_, rfl⟩
  rw [← g1] at Ax1 D1 st1
  have ne_a1_b1 : a1 ≠ b1 := Nat.ne_of_lt (Nat.lt_of_lt_of_le F_servers_a1.lt (Nat.le_of_eq g1.symm))
  have g_b1 : n0 ≤ b1 := Nat.le_trans Z0 (Nat.le_of_eq g1.symm)
  have sz_b1 : h0.size ≤ b1 := Nat.le_trans K0.1 (Nat.le_of_eq g1.symm)
  have F_servers_a1_1 : Fld Z h1 a1 "com/example/prewrm/prewrm/model/ReplayConfig" "servers" "I" (.int u0) := F_servers_a1.ext E1
  have F_sharding_a1_1 : Fld Z h1 a1 "com/example/prewrm/prewrm/model/ReplayConfig" "sharding" "Z" (.int u1) := F_sharding_a1.ext E1
  have F_keepAliveMs_a1_1 : Fld Z h1 a1 "com/example/prewrm/prewrm/model/ReplayConfig" "keepAliveMs" "J" (.long u2) := F_keepAliveMs_a1.ext E1
  have F_coldStartMs_a1_1 : Fld Z h1 a1 "com/example/prewrm/prewrm/model/ReplayConfig" "coldStartMs" "J" (.long u3) := F_coldStartMs_a1.ext E1
  have F_durationMs_a1_1 : Fld Z h1 a1 "com/example/prewrm/prewrm/model/ReplayConfig" "durationMs" "J" (.long u4) := F_durationMs_a1.ext E1
  have F_maxConcurrent_a1_1 : Fld Z h1 a1 "com/example/prewrm/prewrm/model/ReplayConfig" "maxConcurrent" "I" (.int u5) := F_maxConcurrent_a1.ext E1
  have F_capacity_a1_1 : Fld Z h1 a1 "com/example/prewrm/prewrm/model/ReplayConfig" "capacity" "I" (.int u6) := F_capacity_a1.ext E1
  have F_warmUpMs_a1_1 : Fld Z h1 a1 "com/example/prewrm/prewrm/model/ReplayConfig" "warmUpMs" "J" (.long u7) := F_warmUpMs_a1.ext E1
  have F_hopMs_a1_1 : Fld Z h1 a1 "com/example/prewrm/prewrm/model/ReplayConfig" "hopMs" "J" (.long u8) := F_hopMs_a1.ext E1
  have K1 := K0.ext E1
  have Zs1 := Nat.le_trans Z0 E1.1
  have E_b1_1 : Exa Z h1 b1 "com/example/prewrm/prewrm/model/ReplayConfig" := Ax1
  have F_servers_b1_1 : Fld Z h1 b1 "com/example/prewrm/prewrm/model/ReplayConfig" "servers" "I" (.int (0 : Int32)) := D1 (Or.inr (hw _ (List.mem_of_getElem? (i := 39) rfl))) (ty := .int) (by decide)
  have F_sharding_b1_1 : Fld Z h1 b1 "com/example/prewrm/prewrm/model/ReplayConfig" "sharding" "Z" (.int (0 : Int32)) := D1 (Or.inr (hw _ (List.mem_of_getElem? (i := 41) rfl))) (ty := .boolean) (by decide)
  have F_keepAliveMs_b1_1 : Fld Z h1 b1 "com/example/prewrm/prewrm/model/ReplayConfig" "keepAliveMs" "J" (.long (0 : Int64)) := D1 (Or.inr (hw _ (List.mem_of_getElem? (i := 43) rfl))) (ty := .long) (by decide)
  have F_coldStartMs_b1_1 : Fld Z h1 b1 "com/example/prewrm/prewrm/model/ReplayConfig" "coldStartMs" "J" (.long (0 : Int64)) := D1 (Or.inr (hw _ (List.mem_of_getElem? (i := 45) rfl))) (ty := .long) (by decide)
  have F_durationMs_b1_1 : Fld Z h1 b1 "com/example/prewrm/prewrm/model/ReplayConfig" "durationMs" "J" (.long (0 : Int64)) := D1 (Or.inr (hw _ (List.mem_of_getElem? (i := 47) rfl))) (ty := .long) (by decide)
  have F_maxConcurrent_b1_1 : Fld Z h1 b1 "com/example/prewrm/prewrm/model/ReplayConfig" "maxConcurrent" "I" (.int (0 : Int32)) := D1 (Or.inr (hw _ (List.mem_of_getElem? (i := 49) rfl))) (ty := .int) (by decide)
  have F_capacity_b1_1 : Fld Z h1 b1 "com/example/prewrm/prewrm/model/ReplayConfig" "capacity" "I" (.int (0 : Int32)) := D1 (Or.inr (hw _ (List.mem_of_getElem? (i := 51) rfl))) (ty := .int) (by decide)
  have F_warmUpMs_b1_1 : Fld Z h1 b1 "com/example/prewrm/prewrm/model/ReplayConfig" "warmUpMs" "J" (.long (0 : Int64)) := D1 (Or.inr (hw _ (List.mem_of_getElem? (i := 53) rfl))) (ty := .long) (by decide)
  have F_hopMs_b1_1 : Fld Z h1 b1 "com/example/prewrm/prewrm/model/ReplayConfig" "hopMs" "J" (.long (0 : Int64)) := D1 (Or.inr (hw _ (List.mem_of_getElem? (i := 55) rfl))) (ty := .long) (by decide)
  obtain ⟨T2, X2, e2, st2⟩ := getF X1 hx hZ hown (host := "") (Or.inl (hw _ (List.mem_of_getElem? (i := 38) rfl))) Via.refl e1 F_servers_a1_1 (g := (mkF m 5 #[.val (.ref a1), .val (.long q2), .second] [(.ref a1), (.ref b1), (.ref b1)])) rfl rfl (hb hby d9_5)
  obtain ⟨T3, X3, e3, st3⟩ := getF X2 hx hZ hown (host := "") (Or.inl (hw _ (List.mem_of_getElem? (i := 40) rfl))) Via.refl e2 F_sharding_a1_1 (g := (mkF m 9 #[.val (.ref a1), .val (.long q2), .second] [(.ref a1), (.int u0), (.ref b1), (.ref b1)])) rfl rfl (hb hby d9_9)
  obtain ⟨T4, X4, e4, st4⟩ := getF X3 hx hZ hown (host := "") (Or.inl (hw _ (List.mem_of_getElem? (i := 42) rfl))) Via.refl e3 F_keepAliveMs_a1_1 (g := (mkF m 13 #[.val (.ref a1), .val (.long q2), .second] [(.ref a1), (.int u1), (.int u0), (.ref b1), (.ref b1)])) rfl rfl (hb hby d9_13)
  obtain ⟨T5, X5, e5, st5⟩ := getF X4 hx hZ hown (host := "") (Or.inl (hw _ (List.mem_of_getElem? (i := 44) rfl))) Via.refl e4 F_coldStartMs_a1_1 (g := (mkF m 17 #[.val (.ref a1), .val (.long q2), .second] [(.ref a1), (.long u2), (.int u1), (.int u0), (.ref b1), (.ref b1)])) rfl rfl (hb hby d9_17)
  obtain ⟨T6, X6, e6, st6⟩ := getF X5 hx hZ hown (host := "") (Or.inl (hw _ (List.mem_of_getElem? (i := 46) rfl))) Via.refl e5 F_durationMs_a1_1 (g := (mkF m 21 #[.val (.ref a1), .val (.long q2), .second] [(.ref a1), (.long u3), (.long u2), (.int u1), (.int u0), (.ref b1), (.ref b1)])) rfl rfl (hb hby d9_21)
  obtain ⟨T7, X7, e7, st7⟩ := getF X6 hx hZ hown (host := "") (Or.inl (hw _ (List.mem_of_getElem? (i := 48) rfl))) Via.refl e6 F_maxConcurrent_a1_1 (g := (mkF m 25 #[.val (.ref a1), .val (.long q2), .second] [(.ref a1), (.long u4), (.long u3), (.long u2), (.int u1), (.int u0), (.ref b1), (.ref b1)])) rfl rfl (hb hby d9_25)
  obtain ⟨T8, X8, e8, st8⟩ := getF X7 hx hZ hown (host := "") (Or.inl (hw _ (List.mem_of_getElem? (i := 50) rfl))) Via.refl e7 F_capacity_a1_1 (g := (mkF m 29 #[.val (.ref a1), .val (.long q2), .second] [(.ref a1), (.int u5), (.long u4), (.long u3), (.long u2), (.int u1), (.int u0), (.ref b1), (.ref b1)])) rfl rfl (hb hby d9_29)
  obtain ⟨T9, X9, e9, st9⟩ := getF X8 hx hZ hown (host := "") (Or.inl (hw _ (List.mem_of_getElem? (i := 52) rfl))) Via.refl e8 F_warmUpMs_a1_1 (g := (mkF m 33 #[.val (.ref a1), .val (.long q2), .second] [(.ref a1), (.int u6), (.int u5), (.long u4), (.long u3), (.long u2), (.int u1), (.int u0), (.ref b1), (.ref b1)])) rfl rfl (hb hby d9_33)
  obtain ⟨_, _, ⟨T10, L10, k10, n10⟩, -, X10, ⟨Lc10, hQ10, l10, y10, z10⟩, st10⟩ := X9.specialBack hx (y := (⟨"com/example/prewrm/prewrm/model/ReplayConfig", "<init>", "(IZJJJIIJJ)V"⟩ : MethodName)) rfl hown (mvT hZ (hw _ (List.mem_of_getElem? (i := 14) rfl))) (mvT hZ (hw _ (List.mem_of_getElem? (i := 15) rfl))) (mvT hZ (hw _ (List.mem_of_getElem? (i := 16) rfl))) (by decide) (own_backL (W := 1) (rm3 l Z a0 hw [] b1 u0 u1 u2 u3 u4 u5 u6 u7 q2 h1 n0 Zs1 E_b1_1 F_servers_b1_1 F_sharding_b1_1 F_keepAliveMs_b1_1 F_coldStartMs_b1_1 F_durationMs_b1_1 F_maxConcurrent_b1_1 F_capacity_b1_1 F_warmUpMs_b1_1 F_hopMs_b1_1 g_b1 hs hm hc hk hcs hd hw_ hh_) hZ (hw _ (List.mem_of_getElem? (i := 16) rfl)) (hw _ (List.mem_of_getElem? (i := 7) rfl)) (by decide) (by decide)) (g := (mkF m 37 #[.val (.ref a1), .val (.long q2), .second] [(.long q2), (.long u7), (.int u6), (.int u5), (.long u4), (.long u3), (.long u2), (.int u1), (.int u0), (.ref b1), (.ref b1)])) rfl (by rw [hml]; rfl) (Steps.refl _) (a := b1) (argsL := [(.int u0), (.int u1), (.long u2), (.long u3), (.long u4), (.int u5), (.int u6), (.long u7), (.long q2)]) (rest := [(.ref b1)]) (lenOf pd_1 rfl) rfl (by show 2 * 0 + _ ≤ _; exact Nat.le_of_eq rfl) (hb hby d9_37) (fun _ w_ => ⟨⟨rfl, e9, (by decide : 1 + 0 ≤ _), (by decide : 9 + 0 ≤ _)⟩, own_L_stays hL w_⟩)
  dsimp only [Pt.U, Pt.locs, Pt.cells, Pt.slots] at X10 l10 y10 z10 st10 hQ10
  subst l10 y10 z10
  obtain ⟨h10, e10⟩ : ∃ z, T10.heap = z := ⟨_, rfl⟩
  rw [e10] at hQ10
  obtain ⟨rfl, N10q, Kc10, E_b1_10q, F_servers_b1_10q, F_sharding_b1_10q, F_keepAliveMs_b1_10q, F_coldStartMs_b1_10q, F_durationMs_b1_10q, F_maxConcurrent_b1_10q, F_capacity_b1_10q, F_warmUpMs_b1_10q, F_hopMs_b1_10q⟩ := hQ10
  have F_servers_a1_10 : Fld Z h10 a1 "com/example/prewrm/prewrm/model/ReplayConfig" "servers" "I" (.int u0) := F_servers_a1_1.keep Kc10 (ninS ne_a1_b1 nin0)
  have F_sharding_a1_10 : Fld Z h10 a1 "com/example/prewrm/prewrm/model/ReplayConfig" "sharding" "Z" (.int u1) := F_sharding_a1_1.keep Kc10 (ninS ne_a1_b1 nin0)
  have F_keepAliveMs_a1_10 : Fld Z h10 a1 "com/example/prewrm/prewrm/model/ReplayConfig" "keepAliveMs" "J" (.long u2) := F_keepAliveMs_a1_1.keep Kc10 (ninS ne_a1_b1 nin0)
  have F_coldStartMs_a1_10 : Fld Z h10 a1 "com/example/prewrm/prewrm/model/ReplayConfig" "coldStartMs" "J" (.long u3) := F_coldStartMs_a1_1.keep Kc10 (ninS ne_a1_b1 nin0)
  have F_durationMs_a1_10 : Fld Z h10 a1 "com/example/prewrm/prewrm/model/ReplayConfig" "durationMs" "J" (.long u4) := F_durationMs_a1_1.keep Kc10 (ninS ne_a1_b1 nin0)
  have F_maxConcurrent_a1_10 : Fld Z h10 a1 "com/example/prewrm/prewrm/model/ReplayConfig" "maxConcurrent" "I" (.int u5) := F_maxConcurrent_a1_1.keep Kc10 (ninS ne_a1_b1 nin0)
  have F_capacity_a1_10 : Fld Z h10 a1 "com/example/prewrm/prewrm/model/ReplayConfig" "capacity" "I" (.int u6) := F_capacity_a1_1.keep Kc10 (ninS ne_a1_b1 nin0)
  have F_warmUpMs_a1_10 : Fld Z h10 a1 "com/example/prewrm/prewrm/model/ReplayConfig" "warmUpMs" "J" (.long u7) := F_warmUpMs_a1_1.keep Kc10 (ninS ne_a1_b1 nin0)
  have F_hopMs_a1_10 : Fld Z h10 a1 "com/example/prewrm/prewrm/model/ReplayConfig" "hopMs" "J" (.long u8) := F_hopMs_a1_1.keep Kc10 (ninS ne_a1_b1 nin0)
  have K10 := K1.trans Kc10 (allS (Or.inr sz_b1) all0)
  have Zs10 := Nat.le_trans Zs1 Kc10.1
  have E_b1_10 : Exa Z h10 b1 "com/example/prewrm/prewrm/model/ReplayConfig" := E_b1_10q
  have F_servers_b1_10 : Fld Z h10 b1 "com/example/prewrm/prewrm/model/ReplayConfig" "servers" "I" (.int u0) := F_servers_b1_10q
  have F_sharding_b1_10 : Fld Z h10 b1 "com/example/prewrm/prewrm/model/ReplayConfig" "sharding" "Z" (.int (nar .boolean u1)) := F_sharding_b1_10q
  have F_keepAliveMs_b1_10 : Fld Z h10 b1 "com/example/prewrm/prewrm/model/ReplayConfig" "keepAliveMs" "J" (.long u2) := F_keepAliveMs_b1_10q
  have F_coldStartMs_b1_10 : Fld Z h10 b1 "com/example/prewrm/prewrm/model/ReplayConfig" "coldStartMs" "J" (.long u3) := F_coldStartMs_b1_10q
  have F_durationMs_b1_10 : Fld Z h10 b1 "com/example/prewrm/prewrm/model/ReplayConfig" "durationMs" "J" (.long u4) := F_durationMs_b1_10q
  have F_maxConcurrent_b1_10 : Fld Z h10 b1 "com/example/prewrm/prewrm/model/ReplayConfig" "maxConcurrent" "I" (.int u5) := F_maxConcurrent_b1_10q
  have F_capacity_b1_10 : Fld Z h10 b1 "com/example/prewrm/prewrm/model/ReplayConfig" "capacity" "I" (.int u6) := F_capacity_b1_10q
  have F_warmUpMs_b1_10 : Fld Z h10 b1 "com/example/prewrm/prewrm/model/ReplayConfig" "warmUpMs" "J" (.long u7) := F_warmUpMs_b1_10q
  have F_hopMs_b1_10 : Fld Z h10 b1 "com/example/prewrm/prewrm/model/ReplayConfig" "hopMs" "J" (.long q2) := F_hopMs_b1_10q
  have N10 := Fr.app N0 N10q
  obtain ⟨fs, hr, hrun, hended, hW, hsame⟩ := X10.leave (v := some (.ref b1)) (fun h => by rw [Bd.returns] at h; cases h)
  refine ⟨_, _, pre0 _ ?_, hrun, hended, _, _, rfl, ?_, ⟨_, rfl⟩, hW, hsame.mono (by decide) (by decide)⟩
  · show Steps p.tables e below (s₁.setTop (mkF m 0 #[.val (.ref a1), .val (.long q2), .second] [])) _
    refine st1 _ ?_
    show Steps p.tables e below (T1.setTop (mkF m 3 #[.val (.ref a1), .val (.long q2), .second] [(.ref b1)])) _
    refine XS.dup X1.here hx rfl (hb hby d9_3) rfl rfl ?_
    show Steps p.tables e below (T1.setTop (mkF m 4 #[.val (.ref a1), .val (.long q2), .second] [(.ref b1), (.ref b1)])) _
    refine XS.aloadN X1.here hx rfl (hb hby d9_4) rfl rfl ?_
    show Steps p.tables e below (T1.setTop (mkF m 5 #[.val (.ref a1), .val (.long q2), .second] [(.ref a1), (.ref b1), (.ref b1)])) _
    refine st2 _ ?_
    show Steps p.tables e below (T2.setTop (mkF m 8 #[.val (.ref a1), .val (.long q2), .second] [(.int u0), (.ref b1), (.ref b1)])) _
    refine XS.aloadN X2.here hx rfl (hb hby d9_8) rfl rfl ?_
    show Steps p.tables e below (T2.setTop (mkF m 9 #[.val (.ref a1), .val (.long q2), .second] [(.ref a1), (.int u0), (.ref b1), (.ref b1)])) _
    refine st3 _ ?_
    show Steps p.tables e below (T3.setTop (mkF m 12 #[.val (.ref a1), .val (.long q2), .second] [(.int u1), (.int u0), (.ref b1), (.ref b1)])) _
    refine XS.aloadN X3.here hx rfl (hb hby d9_12) rfl rfl ?_
    show Steps p.tables e below (T3.setTop (mkF m 13 #[.val (.ref a1), .val (.long q2), .second] [(.ref a1), (.int u1), (.int u0), (.ref b1), (.ref b1)])) _
    refine st4 _ ?_
    show Steps p.tables e below (T4.setTop (mkF m 16 #[.val (.ref a1), .val (.long q2), .second] [(.long u2), (.int u1), (.int u0), (.ref b1), (.ref b1)])) _
    refine XS.aloadN X4.here hx rfl (hb hby d9_16) rfl rfl ?_
    show Steps p.tables e below (T4.setTop (mkF m 17 #[.val (.ref a1), .val (.long q2), .second] [(.ref a1), (.long u2), (.int u1), (.int u0), (.ref b1), (.ref b1)])) _
    refine st5 _ ?_
    show Steps p.tables e below (T5.setTop (mkF m 20 #[.val (.ref a1), .val (.long q2), .second] [(.long u3), (.long u2), (.int u1), (.int u0), (.ref b1), (.ref b1)])) _
    refine XS.aloadN X5.here hx rfl (hb hby d9_20) rfl rfl ?_
    show Steps p.tables e below (T5.setTop (mkF m 21 #[.val (.ref a1), .val (.long q2), .second] [(.ref a1), (.long u3), (.long u2), (.int u1), (.int u0), (.ref b1), (.ref b1)])) _
    refine st6 _ ?_
    show Steps p.tables e below (T6.setTop (mkF m 24 #[.val (.ref a1), .val (.long q2), .second] [(.long u4), (.long u3), (.long u2), (.int u1), (.int u0), (.ref b1), (.ref b1)])) _
    refine XS.aloadN X6.here hx rfl (hb hby d9_24) rfl rfl ?_
    show Steps p.tables e below (T6.setTop (mkF m 25 #[.val (.ref a1), .val (.long q2), .second] [(.ref a1), (.long u4), (.long u3), (.long u2), (.int u1), (.int u0), (.ref b1), (.ref b1)])) _
    refine st7 _ ?_
    show Steps p.tables e below (T7.setTop (mkF m 28 #[.val (.ref a1), .val (.long q2), .second] [(.int u5), (.long u4), (.long u3), (.long u2), (.int u1), (.int u0), (.ref b1), (.ref b1)])) _
    refine XS.aloadN X7.here hx rfl (hb hby d9_28) rfl rfl ?_
    show Steps p.tables e below (T7.setTop (mkF m 29 #[.val (.ref a1), .val (.long q2), .second] [(.ref a1), (.int u5), (.long u4), (.long u3), (.long u2), (.int u1), (.int u0), (.ref b1), (.ref b1)])) _
    refine st8 _ ?_
    show Steps p.tables e below (T8.setTop (mkF m 32 #[.val (.ref a1), .val (.long q2), .second] [(.int u6), (.int u5), (.long u4), (.long u3), (.long u2), (.int u1), (.int u0), (.ref b1), (.ref b1)])) _
    refine XS.aloadN X8.here hx rfl (hb hby d9_32) rfl rfl ?_
    show Steps p.tables e below (T8.setTop (mkF m 33 #[.val (.ref a1), .val (.long q2), .second] [(.ref a1), (.int u6), (.int u5), (.long u4), (.long u3), (.long u2), (.int u1), (.int u0), (.ref b1), (.ref b1)])) _
    refine st9 _ ?_
    show Steps p.tables e below (T9.setTop (mkF m 36 #[.val (.ref a1), .val (.long q2), .second] [(.long u7), (.int u6), (.int u5), (.long u4), (.long u3), (.long u2), (.int u1), (.int u0), (.ref b1), (.ref b1)])) _
    refine XS.lloadN X9.here hx rfl (hb hby d9_36) rfl ?_
    show Steps p.tables e below (T9.setTop (mkF m 37 #[.val (.ref a1), .val (.long q2), .second] [(.long q2), (.long u7), (.int u6), (.int u5), (.long u4), (.long u3), (.long u2), (.int u1), (.int u0), (.ref b1), (.ref b1)])) _
    refine st10.trans ?_
    show Steps p.tables e below (T10.setTop (mkF m 40 #[.val (.ref a1), .val (.long q2), .second] [(.ref b1)])) _
    jvm_step X10.here [X10.here.top, hx, (hb hby d9_40), X10.method', Bd.returns, Value.isRef, FieldType.isReference]
    first | (intro acts; rw [hr _ acts rfl rfl rfl]) | rw [hr _ _ rfl rfl rfl]
    exact Steps.refl _
  · show Q9 Z a1 q2 u0 u1 u2 u3 u4 u5 u6 u7 u8 h0 n0 _ T10.heap _
    rw [e10]
    exact ⟨b1, rfl, N10, K10, sz_b1, E_b1_10, F_servers_b1_10, F_sharding_b1_10, F_keepAliveMs_b1_10, F_coldStartMs_b1_10, F_durationMs_b1_10, F_maxConcurrent_b1_10, F_capacity_b1_10, F_warmUpMs_b1_10, F_hopMs_b1_10⟩
theorem d10_0 : decode prog_18_method_4_code 0 = .ok (.new 1, 3) := by decide +kernel
theorem d10_3 : decode prog_18_method_4_code 3 = .ok (.dup, 1) := by decide +kernel
theorem d10_4 : decode prog_18_method_4_code 4 = .ok (.aload_n 0, 1) := by decide +kernel
theorem d10_5 : decode prog_18_method_4_code 5 = .ok (.getfield 39, 3) := by decide +kernel
theorem d10_8 : decode prog_18_method_4_code 8 = .ok (.aload_n 0, 1) := by decide +kernel
theorem d10_9 : decode prog_18_method_4_code 9 = .ok (.getfield 42, 3) := by decide +kernel
theorem d10_12 : decode prog_18_method_4_code 12 = .ok (.aload_n 0, 1) := by decide +kernel
theorem d10_13 : decode prog_18_method_4_code 13 = .ok (.getfield 46, 3) := by decide +kernel
theorem d10_16 : decode prog_18_method_4_code 16 = .ok (.lload_n 1, 1) := by decide +kernel
theorem d10_17 : decode prog_18_method_4_code 17 = .ok (.aload_n 0, 1) := by decide +kernel
theorem d10_18 : decode prog_18_method_4_code 18 = .ok (.getfield 51, 3) := by decide +kernel
theorem d10_21 : decode prog_18_method_4_code 21 = .ok (.aload_n 0, 1) := by decide +kernel
theorem d10_22 : decode prog_18_method_4_code 22 = .ok (.getfield 53, 3) := by decide +kernel
theorem d10_25 : decode prog_18_method_4_code 25 = .ok (.aload_n 0, 1) := by decide +kernel
theorem d10_26 : decode prog_18_method_4_code 26 = .ok (.getfield 55, 3) := by decide +kernel
theorem d10_29 : decode prog_18_method_4_code 29 = .ok (.aload_n 0, 1) := by decide +kernel
theorem d10_30 : decode prog_18_method_4_code 30 = .ok (.getfield 57, 3) := by decide +kernel
theorem d10_33 : decode prog_18_method_4_code 33 = .ok (.aload_n 0, 1) := by decide +kernel
theorem d10_34 : decode prog_18_method_4_code 34 = .ok (.getfield 59, 3) := by decide +kernel
theorem d10_37 : decode prog_18_method_4_code 37 = .ok (.invokespecial 10, 3) := by decide +kernel
theorem d10_40 : decode prog_18_method_4_code 40 = .ok (.areturn, 1) := by decide +kernel
theorem pn_10 : plainName "com/example/prewrm/prewrm/model/ReplayConfig" = true := by first | (simp [plainName, overriddenIn]; done) | decide +kernel
theorem ef_10 (m : MethodId) (a1 : Addr) (q2 : Int64) : entryFrame m #[(.ref a1), (.long q2)] 3 = mkF m 0 #[.val (.ref a1), .val (.long q2), .second] [] := by first | (simp [entryFrame, mkF, argsToLocals, Value.category]; done) | rfl
def Q10 (Z : State) (a1 : Addr) (q2 : Int64) (u0 : Int32) (u1 : Int32) (u2 : Int64) (u3 : Int64) (u4 : Int64) (u5 : Int32) (u6 : Int32) (u7 : Int64) (u8 : Int64) (h0 : Heap) (n0 : Nat) (v : Option Value) (h : Heap) (L : List Loc) : Prop := ∃ (b : Addr), v = some (.ref b) ∧ Fr n0 L ∧ Keep h0 h ([] : List Addr) ∧ h0.size ≤ b ∧ Exa Z h b "com/example/prewrm/prewrm/model/ReplayConfig" ∧ Fld Z h b "com/example/prewrm/prewrm/model/ReplayConfig" "servers" "I" (.int u0) ∧ Fld Z h b "com/example/prewrm/prewrm/model/ReplayConfig" "sharding" "Z" (.int (nar .boolean u1)) ∧ Fld Z h b "com/example/prewrm/prewrm/model/ReplayConfig" "keepAliveMs" "J" (.long u2) ∧ Fld Z h b "com/example/prewrm/prewrm/model/ReplayConfig" "coldStartMs" "J" (.long q2) ∧ Fld Z h b "com/example/prewrm/prewrm/model/ReplayConfig" "durationMs" "J" (.long u4) ∧ Fld Z h b "com/example/prewrm/prewrm/model/ReplayConfig" "maxConcurrent" "I" (.int u5) ∧ Fld Z h b "com/example/prewrm/prewrm/model/ReplayConfig" "capacity" "I" (.int u6) ∧ Fld Z h b "com/example/prewrm/prewrm/model/ReplayConfig" "warmUpMs" "J" (.long u7) ∧ Fld Z h b "com/example/prewrm/prewrm/model/ReplayConfig" "hopMs" "J" (.long u8)
set_option maxRecDepth 65536 in
set_option maxHeartbeats 40000000 in
theorem rm10 (l : Launch) (Z : State) (a0 : Array Value) (hw : ∀ d ∈ tables_1, d.before a0 Z = true) (ws : List Jvm.Cond) (a1 : Addr) (q2 : Int64) (u0 : Int32) (u1 : Int32) (u2 : Int64) (u3 : Int64) (u4 : Int64) (u5 : Int32) (u6 : Int32) (u7 : Int64) (u8 : Int64) (h0 : Heap) (n0 : Nat) (Z0 : n0 ≤ h0.size) (F_servers_a1 : Fld Z h0 a1 "com/example/prewrm/prewrm/model/ReplayConfig" "servers" "I" (.int u0)) (F_sharding_a1 : Fld Z h0 a1 "com/example/prewrm/prewrm/model/ReplayConfig" "sharding" "Z" (.int u1)) (F_keepAliveMs_a1 : Fld Z h0 a1 "com/example/prewrm/prewrm/model/ReplayConfig" "keepAliveMs" "J" (.long u2)) (F_coldStartMs_a1 : Fld Z h0 a1 "com/example/prewrm/prewrm/model/ReplayConfig" "coldStartMs" "J" (.long u3)) (F_durationMs_a1 : Fld Z h0 a1 "com/example/prewrm/prewrm/model/ReplayConfig" "durationMs" "J" (.long u4)) (F_maxConcurrent_a1 : Fld Z h0 a1 "com/example/prewrm/prewrm/model/ReplayConfig" "maxConcurrent" "I" (.int u5)) (F_capacity_a1 : Fld Z h0 a1 "com/example/prewrm/prewrm/model/ReplayConfig" "capacity" "I" (.int u6)) (F_warmUpMs_a1 : Fld Z h0 a1 "com/example/prewrm/prewrm/model/ReplayConfig" "warmUpMs" "J" (.long u7)) (F_hopMs_a1 : Fld Z h0 a1 "com/example/prewrm/prewrm/model/ReplayConfig" "hopMs" "J" (.long u8)) (hs : ¬ (u0.toInt64) < (1 : Int64)) (hm : ¬ (u5.toInt64) < (1 : Int64)) (hc : ¬ (u6.toInt64) < (1 : Int64)) (hk : ¬ u2 < (0 : Int64)) (hcs : ¬ q2 < (0 : Int64)) (hd : ¬ u4 < (0 : Int64)) (hw_ : ¬ u7 < (0 : Int64)) (hh_ : ¬ u8 < (0 : Int64)) :
    MetFree l (⟨"com/example/prewrm/prewrm/model/ReplayConfig", "withColdStartMs", "(J)Lcom/example/prewrm/prewrm/model/ReplayConfig;"⟩ : MethodName) (head1 (Jvm.Cond.code (⟨"com/example/prewrm/prewrm/model/ReplayConfig", "withColdStartMs", "(J)Lcom/example/prewrm/prewrm/model/ReplayConfig;"⟩ : MethodName) prog_18_method_4_code 3 (some (.object "com/example/prewrm/prewrm/model/ReplayConfig")) :: ws) ({ frames := 2, cells := 1, slots := 9, locals := 43 } : Room)) (fun a U => (a = #[(.ref a1), (.long q2)] ∧ Z.Warmed39 U.vm ∧ U.heap = h0) ∧ own_L U.vm) (fun _ _ _ _ _ => True) (fun _ U o U' => ∃ v L, o = .returned v ∧ Q10 Z a1 q2 u0 u1 u2 u3 u4 u5 u6 u7 u8 h0 n0 v U'.heap L ∧ FrameEnd U o U' L ({ frames := 2, cells := 1, slots := 9, locals := 43 } : Room).cells ({ frames := 2, cells := 1, slots := 9, locals := 43 } : Room).slots) := by
  refine MetFree.of_bodySF (plainFor_of_name pn_10) hisR ?_
  intro p e s m args below meth c s₁ Bd hml0 hP hK
  obtain ⟨⟨rfl, hZ, hh⟩, hL⟩ := hP
  have hx := Bd.exec
  have hby := Bd.bytes
  have hml : c.maxLocals = 3 := hml0
  have hown : s.vm.findClass "com/example/prewrm/prewrm/model/ReplayConfig" = some m.cls := findClass_of_methodNamed Bd.named
  have hnm := (name_of_methodNamed Bd.named Bd.method).1
  have X0 : Stand p l e ({ frames := 2, cells := 1, slots := 9, locals := 43 } : Room) s m #[(.ref a1), (.long q2)] below meth c s₁ [] 0 0 := Stand.of_body Bd
  have e0 : s₁.heap = h0 := by rw [← hh, Bd.state]; rfl
  have N0 := Fr.nil n0
  have pre0 : ∀ t, Steps p.tables e below (s₁.setTop (mkF m 0 #[.val (.ref a1), .val (.long q2), .second] [])) t → Steps p.tables e below (s₁.setTop (entryFrame m #[(.ref a1), (.long q2)] 3)) t := fun t k => castTop (ef_10 m a1 q2) k
  have K0 := Keep.refl h0 ([] : List Addr)
  obtain ⟨ls19, ls25, ls27, ls29, ls31, ls33, ls35, ls37, hLs⟩ := hL
  obtain ⟨Ls19, Ls25, Ls27, Ls29, Ls31, Ls33, Ls35, Ls37⟩ := hLs s
  have hL : own_L s.vm := ⟨ls19, ls25, ls27, ls29, ls31, ls33, ls35, ls37, fun _ => ⟨Ls19, Ls25, Ls27, Ls29, Ls31, Ls33, Ls35, Ls37⟩⟩
  obtain ⟨T1, h1, X1, e1, E1, Ax1, D1, -, st1⟩ := newO X0 hx hZ hown (hw _ (List.mem_of_getElem? (i := 61) rfl)) (hw _ (List.mem_of_getElem? (i := 6) rfl)) (hw _ (List.mem_of_getElem? (i := 7) rfl)) e0 (g := (mkF m 0 #[.val (.ref a1), .val (.long q2), .second] [])) rfl (hb hby d10_0) (by decide) (by decide)
  obtain ⟨b1, g1⟩ : ∃ z, z = h0.size := ⟨_, rfl⟩
  rw [← g1] at Ax1 D1 st1
  have ne_a1_b1 : a1 ≠ b1 := Nat.ne_of_lt (Nat.lt_of_lt_of_le F_servers_a1.lt (Nat.le_of_eq g1.symm))
  have g_b1 : n0 ≤ b1 := Nat.le_trans Z0 (Nat.le_of_eq g1.symm)
  have sz_b1 : h0.size ≤ b1 := Nat.le_trans K0.1 (Nat.le_of_eq g1.symm)
  have F_servers_a1_1 : Fld Z h1 a1 "com/example/prewrm/prewrm/model/ReplayConfig" "servers" "I" (.int u0) := F_servers_a1.ext E1
  have F_sharding_a1_1 : Fld Z h1 a1 "com/example/prewrm/prewrm/model/ReplayConfig" "sharding" "Z" (.int u1) := F_sharding_a1.ext E1
  have F_keepAliveMs_a1_1 : Fld Z h1 a1 "com/example/prewrm/prewrm/model/ReplayConfig" "keepAliveMs" "J" (.long u2) := F_keepAliveMs_a1.ext E1
  have F_coldStartMs_a1_1 : Fld Z h1 a1 "com/example/prewrm/prewrm/model/ReplayConfig" "coldStartMs" "J" (.long u3) := F_coldStartMs_a1.ext E1
  have F_durationMs_a1_1 : Fld Z h1 a1 "com/example/prewrm/prewrm/model/ReplayConfig" "durationMs" "J" (.long u4) := F_durationMs_a1.ext E1
  have F_maxConcurrent_a1_1 : Fld Z h1 a1 "com/example/prewrm/prewrm/model/ReplayConfig" "maxConcurrent" "I" (.int u5) := F_maxConcurrent_a1.ext E1
  have F_capacity_a1_1 : Fld Z h1 a1 "com/example/prewrm/prewrm/model/ReplayConfig" "capacity" "I" (.int u6) := F_capacity_a1.ext E1
  have F_warmUpMs_a1_1 : Fld Z h1 a1 "com/example/prewrm/prewrm/model/ReplayConfig" "warmUpMs" "J" (.long u7) := F_warmUpMs_a1.ext E1
  have F_hopMs_a1_1 : Fld Z h1 a1 "com/example/prewrm/prewrm/model/ReplayConfig" "hopMs" "J" (.long u8) := F_hopMs_a1.ext E1
  have K1 := K0.ext E1
  have Zs1 := Nat.le_trans Z0 E1.1
  have E_b1_1 : Exa Z h1 b1 "com/example/prewrm/prewrm/model/ReplayConfig" := Ax1
  have F_servers_b1_1 : Fld Z h1 b1 "com/example/prewrm/prewrm/model/ReplayConfig" "servers" "I" (.int (0 : Int32)) := D1 (Or.inr (hw _ (List.mem_of_getElem? (i := 39) rfl))) (ty := .int) (by decide)
  have F_sharding_b1_1 : Fld Z h1 b1 "com/example/prewrm/prewrm/model/ReplayConfig" "sharding" "Z" (.int (0 : Int32)) := D1 (Or.inr (hw _ (List.mem_of_getElem? (i := 41) rfl))) (ty := .boolean) (by decide)
  have F_keepAliveMs_b1_1 : Fld Z h1 b1 "com/example/prewrm/prewrm/model/ReplayConfig" "keepAliveMs" "J" (.long (0 : Int64)) := D1 (Or.inr (hw _ (List.mem_of_getElem? (i := 43) rfl))) (ty := .long) (by decide)
  have F_coldStartMs_b1_1 : Fld Z h1 b1 "com/example/prewrm/prewrm/model/ReplayConfig" "coldStartMs" "J" (.long (0 : Int64)) := D1 (Or.inr (hw _ (List.mem_of_getElem? (i := 45) rfl))) (ty := .long) (by decide)
  have F_durationMs_b1_1 : Fld Z h1 b1 "com/example/prewrm/prewrm/model/ReplayConfig" "durationMs" "J" (.long (0 : Int64)) := D1 (Or.inr (hw _ (List.mem_of_getElem? (i := 47) rfl))) (ty := .long) (by decide)
  have F_maxConcurrent_b1_1 : Fld Z h1 b1 "com/example/prewrm/prewrm/model/ReplayConfig" "maxConcurrent" "I" (.int (0 : Int32)) := D1 (Or.inr (hw _ (List.mem_of_getElem? (i := 49) rfl))) (ty := .int) (by decide)
  have F_capacity_b1_1 : Fld Z h1 b1 "com/example/prewrm/prewrm/model/ReplayConfig" "capacity" "I" (.int (0 : Int32)) := D1 (Or.inr (hw _ (List.mem_of_getElem? (i := 51) rfl))) (ty := .int) (by decide)
  have F_warmUpMs_b1_1 : Fld Z h1 b1 "com/example/prewrm/prewrm/model/ReplayConfig" "warmUpMs" "J" (.long (0 : Int64)) := D1 (Or.inr (hw _ (List.mem_of_getElem? (i := 53) rfl))) (ty := .long) (by decide)
  have F_hopMs_b1_1 : Fld Z h1 b1 "com/example/prewrm/prewrm/model/ReplayConfig" "hopMs" "J" (.long (0 : Int64)) := D1 (Or.inr (hw _ (List.mem_of_getElem? (i := 55) rfl))) (ty := .long) (by decide)
  obtain ⟨T2, X2, e2, st2⟩ := getF X1 hx hZ hown (host := "") (Or.inl (hw _ (List.mem_of_getElem? (i := 38) rfl))) Via.refl e1 F_servers_a1_1 (g := (mkF m 5 #[.val (.ref a1), .val (.long q2), .second] [(.ref a1), (.ref b1), (.ref b1)])) rfl rfl (hb hby d10_5)
  obtain ⟨T3, X3, e3, st3⟩ := getF X2 hx hZ hown (host := "") (Or.inl (hw _ (List.mem_of_getElem? (i := 40) rfl))) Via.refl e2 F_sharding_a1_1 (g := (mkF m 9 #[.val (.ref a1), .val (.long q2), .second] [(.ref a1), (.int u0), (.ref b1), (.ref b1)])) rfl rfl (hb hby d10_9)
  obtain ⟨T4, X4, e4, st4⟩ := getF X3 hx hZ hown (host := "") (Or.inl (hw _ (List.mem_of_getElem? (i := 42) rfl))) Via.refl e3 F_keepAliveMs_a1_1 (g := (mkF m 13 #[.val (.ref a1), .val (.long q2), .second] [(.ref a1), (.int u1), (.int u0), (.ref b1), (.ref b1)])) rfl rfl (hb hby d10_13)
  obtain ⟨T5, X5, e5, st5⟩ := getF X4 hx hZ hown (host := "") (Or.inl (hw _ (List.mem_of_getElem? (i := 46) rfl))) Via.refl e4 F_durationMs_a1_1 (g := (mkF m 18 #[.val (.ref a1), .val (.long q2), .second] [(.ref a1), (.long q2), (.long u2), (.int u1), (.int u0), (.ref b1), (.ref b1)])) rfl rfl (hb hby d10_18)
  obtain ⟨T6, X6, e6, st6⟩ := getF X5 hx hZ hown (host := "") (Or.inl (hw _ (List.mem_of_getElem? (i := 48) rfl))) Via.refl e5 F_maxConcurrent_a1_1 (g := (mkF m 22 #[.val (.ref a1), .val (.long q2), .second] [(.ref a1), (.long u4), (.long q2), (.long u2), (.int u1), (.int u0), (.ref b1), (.ref b1)])) rfl rfl (hb hby d10_22)
  obtain ⟨T7, X7, e7, st7⟩ := getF X6 hx hZ hown (host := "") (Or.inl (hw _ (List.mem_of_getElem? (i := 50) rfl))) Via.refl e6 F_capacity_a1_1 (g := (mkF m 26 #[.val (.ref a1), .val (.long q2), .second] [(.ref a1), (.int u5), (.long u4), (.long q2), (.long u2), (.int u1), (.int u0), (.ref b1), (.ref b1)])) rfl rfl (hb hby d10_26)
  obtain ⟨T8, X8, e8, st8⟩ := getF X7 hx hZ hown (host := "") (Or.inl (hw _ (List.mem_of_getElem? (i := 52) rfl))) Via.refl e7 F_warmUpMs_a1_1 (g := (mkF m 30 #[.val (.ref a1), .val (.long q2), .second] [(.ref a1), (.int u6), (.int u5), (.long u4), (.long q2), (.long u2), (.int u1), (.int u0), (.ref b1), (.ref b1)])) rfl rfl (hb hby d10_30)
  obtain ⟨T9, X9, e9, st9⟩ := getF X8 hx hZ hown (host := "") (Or.inl (hw _ (List.mem_of_getElem? (i := 54) rfl))) Via.refl e8 F_hopMs_a1_1 (g := (mkF m 34 #[.val (.ref a1), .val (.long q2), .second] [(.ref a1), (.long u7), (.int u6), (.int u5), (.long u4), (.long q2), (.long u2), (.int u1), (.int u0), (.ref b1), (.ref b1)])) rfl rfl (hb hby d10_34)
  obtain ⟨_, _, ⟨T10, L10, k10, n10⟩, -, X10, ⟨Lc10, hQ10, l10, y10, z10⟩, st10⟩ := X9.specialBack hx (y := (⟨"com/example/prewrm/prewrm/model/ReplayConfig", "<init>", "(IZJJJIIJJ)V"⟩ : MethodName)) rfl hown (mvT hZ (hw _ (List.mem_of_getElem? (i := 14) rfl))) (mvT hZ (hw _ (List.mem_of_getElem? (i := 15) rfl))) (mvT hZ (hw _ (List.mem_of_getElem? (i := 16) rfl))) (by decide) (own_backL (W := 1) (rm3 l Z a0 hw [] b1 u0 u1 u2 q2 u4 u5 u6 u7 u8 h1 n0 Zs1 E_b1_1 F_servers_b1_1 F_sharding_b1_1 F_keepAliveMs_b1_1 F_coldStartMs_b1_1 F_durationMs_b1_1 F_maxConcurrent_b1_1 F_capacity_b1_1 F_warmUpMs_b1_1 F_hopMs_b1_1 g_b1 hs hm hc hk hcs hd hw_ hh_) hZ (hw _ (List.mem_of_getElem? (i := 16) rfl)) (hw _ (List.mem_of_getElem? (i := 7) rfl)) (by decide) (by decide)) (g := (mkF m 37 #[.val (.ref a1), .val (.long q2), .second] [(.long u8), (.long u7), (.int u6), (.int u5), (.long u4), (.long q2), (.long u2), (.int u1), (.int u0), (.ref b1), (.ref b1)])) rfl (by rw [hml]; rfl) (Steps.refl _) (a := b1) (argsL := [(.int u0), (.int u1), (.long u2), (.long q2), (.long u4), (.int u5), (.int u6), (.long u7), (.long u8)]) (rest := [(.ref b1)]) (lenOf pd_1 rfl) rfl (by show 2 * 0 + _ ≤ _; exact Nat.le_of_eq rfl) (hb hby d10_37) (fun _ w_ => ⟨⟨rfl, e9, (by decide : 1 + 0 ≤ _), (by decide : 9 + 0 ≤ _)⟩, own_L_stays hL w_⟩)
  dsimp only [Pt.U, Pt.locs, Pt.cells, Pt.slots] at X10 l10 y10 z10 st10 hQ10
  subst l10 y10 z10
  obtain ⟨h10, e10⟩ : ∃ z, T10.heap = z := ⟨_, rfl⟩
  rw [e10] at hQ10
  obtain ⟨rfl, N10q, Kc10, E_b1_10q, F_servers_b1_10q, F_sharding_b1_10q, F_keepAliveMs_b1_10q, F_coldStartMs_b1_10q, F_durationMs_b1_10q, F_maxConcurrent_b1_10q, F_capacity_b1_10q, F_warmUpMs_b1_10q, F_hopMs_b1_10q⟩ := hQ10
  have F_servers_a1_10 : Fld Z h10 a1 "com/example/prewrm/prewrm/model/ReplayConfig" "servers" "I" (.int u0) := F_servers_a1_1.keep Kc10 (ninS ne_a1_b1 nin0)
  have F_sharding_a1_10 : Fld Z h10 a1 "com/example/prewrm/prewrm/model/ReplayConfig" "sharding" "Z" (.int u1) := F_sharding_a1_1.keep Kc10 (ninS ne_a1_b1 nin0)
  have F_keepAliveMs_a1_10 : Fld Z h10 a1 "com/example/prewrm/prewrm/model/ReplayConfig" "keepAliveMs" "J" (.long u2) := F_keepAliveMs_a1_1.keep Kc10 (ninS ne_a1_b1 nin0)
  have F_coldStartMs_a1_10 : Fld Z h10 a1 "com/example/prewrm/prewrm/model/ReplayConfig" "coldStartMs" "J" (.long u3) := F_coldStartMs_a1_1.keep Kc10 (ninS ne_a1_b1 nin0)
  have F_durationMs_a1_10 : Fld Z h10 a1 "com/example/prewrm/prewrm/model/ReplayConfig" "durationMs" "J" (.long u4) := F_durationMs_a1_1.keep Kc10 (ninS ne_a1_b1 nin0)
  have F_maxConcurrent_a1_10 : Fld Z h10 a1 "com/example/prewrm/prewrm/model/ReplayConfig" "maxConcurrent" "I" (.int u5) := F_maxConcurrent_a1_1.keep Kc10 (ninS ne_a1_b1 nin0)
  have F_capacity_a1_10 : Fld Z h10 a1 "com/example/prewrm/prewrm/model/ReplayConfig" "capacity" "I" (.int u6) := F_capacity_a1_1.keep Kc10 (ninS ne_a1_b1 nin0)
  have F_warmUpMs_a1_10 : Fld Z h10 a1 "com/example/prewrm/prewrm/model/ReplayConfig" "warmUpMs" "J" (.long u7) := F_warmUpMs_a1_1.keep Kc10 (ninS ne_a1_b1 nin0)
  have F_hopMs_a1_10 : Fld Z h10 a1 "com/example/prewrm/prewrm/model/ReplayConfig" "hopMs" "J" (.long u8) := F_hopMs_a1_1.keep Kc10 (ninS ne_a1_b1 nin0)
  have K10 := K1.trans Kc10 (allS (Or.inr sz_b1) all0)
  have Zs10 := Nat.le_trans Zs1 Kc10.1
  have E_b1_10 : Exa Z h10 b1 "com/example/prewrm/prewrm/model/ReplayConfig" := E_b1_10q
  have F_servers_b1_10 : Fld Z h10 b1 "com/example/prewrm/prewrm/model/ReplayConfig" "servers" "I" (.int u0) := F_servers_b1_10q
  have F_sharding_b1_10 : Fld Z h10 b1 "com/example/prewrm/prewrm/model/ReplayConfig" "sharding" "Z" (.int (nar .boolean u1)) := F_sharding_b1_10q
  have F_keepAliveMs_b1_10 : Fld Z h10 b1 "com/example/prewrm/prewrm/model/ReplayConfig" "keepAliveMs" "J" (.long u2) := F_keepAliveMs_b1_10q
  have F_coldStartMs_b1_10 : Fld Z h10 b1 "com/example/prewrm/prewrm/model/ReplayConfig" "coldStartMs" "J" (.long q2) := F_coldStartMs_b1_10q
  have F_durationMs_b1_10 : Fld Z h10 b1 "com/example/prewrm/prewrm/model/ReplayConfig" "durationMs" "J" (.long u4) := F_durationMs_b1_10q
  have F_maxConcurrent_b1_10 : Fld Z h10 b1 "com/example/prewrm/prewrm/model/ReplayConfig" "maxConcurrent" "I" (.int u5) := F_maxConcurrent_b1_10q
  have F_capacity_b1_10 : Fld Z h10 b1 "com/example/prewrm/prewrm/model/ReplayConfig" "capacity" "I" (.int u6) := F_capacity_b1_10q
  have F_warmUpMs_b1_10 : Fld Z h10 b1 "com/example/prewrm/prewrm/model/ReplayConfig" "warmUpMs" "J" (.long u7) := F_warmUpMs_b1_10q
  have F_hopMs_b1_10 : Fld Z h10 b1 "com/example/prewrm/prewrm/model/ReplayConfig" "hopMs" "J" (.long u8) := F_hopMs_b1_10q
  have N10 := Fr.app N0 N10q
  obtain ⟨fs, hr, hrun, hended, hW, hsame⟩ := X10.leave (v := some (.ref b1)) (fun h => by rw [Bd.returns] at h; cases h)
  refine ⟨_, _, pre0 _ ?_, hrun, hended, _, _, rfl, ?_, ⟨_, rfl⟩, hW, hsame.mono (by decide) (by decide)⟩
  · show Steps p.tables e below (s₁.setTop (mkF m 0 #[.val (.ref a1), .val (.long q2), .second] [])) _
    refine st1 _ ?_
    show Steps p.tables e below (T1.setTop (mkF m 3 #[.val (.ref a1), .val (.long q2), .second] [(.ref b1)])) _
    refine XS.dup X1.here hx rfl (hb hby d10_3) rfl rfl ?_
    show Steps p.tables e below (T1.setTop (mkF m 4 #[.val (.ref a1), .val (.long q2), .second] [(.ref b1), (.ref b1)])) _
    refine XS.aloadN X1.here hx rfl (hb hby d10_4) rfl rfl ?_
    show Steps p.tables e below (T1.setTop (mkF m 5 #[.val (.ref a1), .val (.long q2), .second] [(.ref a1), (.ref b1), (.ref b1)])) _
    refine st2 _ ?_
    show Steps p.tables e below (T2.setTop (mkF m 8 #[.val (.ref a1), .val (.long q2), .second] [(.int u0), (.ref b1), (.ref b1)])) _
    refine XS.aloadN X2.here hx rfl (hb hby d10_8) rfl rfl ?_
    show Steps p.tables e below (T2.setTop (mkF m 9 #[.val (.ref a1), .val (.long q2), .second] [(.ref a1), (.int u0), (.ref b1), (.ref b1)])) _
    refine st3 _ ?_
    show Steps p.tables e below (T3.setTop (mkF m 12 #[.val (.ref a1), .val (.long q2), .second] [(.int u1), (.int u0), (.ref b1), (.ref b1)])) _
    refine XS.aloadN X3.here hx rfl (hb hby d10_12) rfl rfl ?_
    show Steps p.tables e below (T3.setTop (mkF m 13 #[.val (.ref a1), .val (.long q2), .second] [(.ref a1), (.int u1), (.int u0), (.ref b1), (.ref b1)])) _
    refine st4 _ ?_
    show Steps p.tables e below (T4.setTop (mkF m 16 #[.val (.ref a1), .val (.long q2), .second] [(.long u2), (.int u1), (.int u0), (.ref b1), (.ref b1)])) _
    refine XS.lloadN X4.here hx rfl (hb hby d10_16) rfl ?_
    show Steps p.tables e below (T4.setTop (mkF m 17 #[.val (.ref a1), .val (.long q2), .second] [(.long q2), (.long u2), (.int u1), (.int u0), (.ref b1), (.ref b1)])) _
    refine XS.aloadN X4.here hx rfl (hb hby d10_17) rfl rfl ?_
    show Steps p.tables e below (T4.setTop (mkF m 18 #[.val (.ref a1), .val (.long q2), .second] [(.ref a1), (.long q2), (.long u2), (.int u1), (.int u0), (.ref b1), (.ref b1)])) _
    refine st5 _ ?_
    show Steps p.tables e below (T5.setTop (mkF m 21 #[.val (.ref a1), .val (.long q2), .second] [(.long u4), (.long q2), (.long u2), (.int u1), (.int u0), (.ref b1), (.ref b1)])) _
    refine XS.aloadN X5.here hx rfl (hb hby d10_21) rfl rfl ?_
    show Steps p.tables e below (T5.setTop (mkF m 22 #[.val (.ref a1), .val (.long q2), .second] [(.ref a1), (.long u4), (.long q2), (.long u2), (.int u1), (.int u0), (.ref b1), (.ref b1)])) _
    refine st6 _ ?_
    show Steps p.tables e below (T6.setTop (mkF m 25 #[.val (.ref a1), .val (.long q2), .second] [(.int u5), (.long u4), (.long q2), (.long u2), (.int u1), (.int u0), (.ref b1), (.ref b1)])) _
    refine XS.aloadN X6.here hx rfl (hb hby d10_25) rfl rfl ?_
    show Steps p.tables e below (T6.setTop (mkF m 26 #[.val (.ref a1), .val (.long q2), .second] [(.ref a1), (.int u5), (.long u4), (.long q2), (.long u2), (.int u1), (.int u0), (.ref b1), (.ref b1)])) _
    refine st7 _ ?_
    show Steps p.tables e below (T7.setTop (mkF m 29 #[.val (.ref a1), .val (.long q2), .second] [(.int u6), (.int u5), (.long u4), (.long q2), (.long u2), (.int u1), (.int u0), (.ref b1), (.ref b1)])) _
    refine XS.aloadN X7.here hx rfl (hb hby d10_29) rfl rfl ?_
    show Steps p.tables e below (T7.setTop (mkF m 30 #[.val (.ref a1), .val (.long q2), .second] [(.ref a1), (.int u6), (.int u5), (.long u4), (.long q2), (.long u2), (.int u1), (.int u0), (.ref b1), (.ref b1)])) _
    refine st8 _ ?_
    show Steps p.tables e below (T8.setTop (mkF m 33 #[.val (.ref a1), .val (.long q2), .second] [(.long u7), (.int u6), (.int u5), (.long u4), (.long q2), (.long u2), (.int u1), (.int u0), (.ref b1), (.ref b1)])) _
    refine XS.aloadN X8.here hx rfl (hb hby d10_33) rfl rfl ?_
    show Steps p.tables e below (T8.setTop (mkF m 34 #[.val (.ref a1), .val (.long q2), .second] [(.ref a1), (.long u7), (.int u6), (.int u5), (.long u4), (.long q2), (.long u2), (.int u1), (.int u0), (.ref b1), (.ref b1)])) _
    refine st9 _ ?_
    show Steps p.tables e below (T9.setTop (mkF m 37 #[.val (.ref a1), .val (.long q2), .second] [(.long u8), (.long u7), (.int u6), (.int u5), (.long u4), (.long q2), (.long u2), (.int u1), (.int u0), (.ref b1), (.ref b1)])) _
    refine st10.trans ?_
    show Steps p.tables e below (T10.setTop (mkF m 40 #[.val (.ref a1), .val (.long q2), .second] [(.ref b1)])) _
    jvm_step X10.here [X10.here.top, hx, (hb hby d10_40), X10.method', Bd.returns, Value.isRef, FieldType.isReference]
    first | (intro acts; rw [hr _ acts rfl rfl rfl]) | rw [hr _ _ rfl rfl rfl]
    exact Steps.refl _
  · show Q10 Z a1 q2 u0 u1 u2 u3 u4 u5 u6 u7 u8 h0 n0 _ T10.heap _
    rw [e10]
    exact ⟨b1, rfl, N10, K10, sz_b1, E_b1_10, F_servers_b1_10, F_sharding_b1_10, F_keepAliveMs_b1_10, F_coldStartMs_b1_10, F_durationMs_b1_10, F_maxConcurrent_b1_10, F_capacity_b1_10, F_warmUpMs_b1_10, F_hopMs_b1_10⟩
theorem d12_0 : decode prog_18_method_10_code 0 = .ok (.aload_n 0, 1) := by decide +kernel
theorem d12_1 : decode prog_18_method_10_code 1 = .ok (.getfield 39, 3) := by decide +kernel
theorem d12_4 : decode prog_18_method_10_code 4 = .ok (.ireturn, 1) := by decide +kernel
theorem pn_12 : plainName "com/example/prewrm/prewrm/model/ReplayConfig" = true := by first | (simp [plainName, overriddenIn]; done) | decide +kernel
theorem ef_12 (m : MethodId) (a1 : Addr) : entryFrame m #[(.ref a1)] 1 = mkF m 0 #[.val (.ref a1)] [] := by first | (simp [entryFrame, mkF, argsToLocals, Value.category]; done) | rfl
def f12 (f_servers_a1 : Int32) : Int32 :=
  f_servers_a1
def Q12 (Z : State) (a1 : Addr) (f_servers_a1 : Int32) (h0 : Heap) (n0 : Nat) (v : Option Value) (h : Heap) (L : List Loc) : Prop := v = some (.int (f12 f_servers_a1)) ∧ Fr n0 L ∧ h = h0
set_option maxRecDepth 65536 in
set_option maxHeartbeats 40000000 in
theorem rm12 (l : Launch) (Z : State) (a0 : Array Value) (hw : ∀ d ∈ tables_1, d.before a0 Z = true) (ws : List Jvm.Cond) (a1 : Addr) (f_servers_a1 : Int32) (h0 : Heap) (n0 : Nat) (Z0 : n0 ≤ h0.size) (F_servers_a1 : Fld Z h0 a1 "com/example/prewrm/prewrm/model/ReplayConfig" "servers" "I" (.int f_servers_a1)) :
    MetFree l (⟨"com/example/prewrm/prewrm/model/ReplayConfig", "getServers", "()I"⟩ : MethodName) (head1 (Jvm.Cond.code (⟨"com/example/prewrm/prewrm/model/ReplayConfig", "getServers", "()I"⟩ : MethodName) prog_18_method_10_code 1 (some .int) :: ws) ({ frames := 0, cells := 0, slots := 0, locals := 0 } : Room)) (fun a U => a = #[(.ref a1)] ∧ Z.Warmed39 U.vm ∧ U.heap = h0) (fun _ _ _ _ _ => True) (fun _ U o U' => ∃ v L, o = .returned v ∧ Q12 Z a1 f_servers_a1 h0 n0 v U'.heap L ∧ FrameEnd U o U' L ({ frames := 0, cells := 0, slots := 0, locals := 0 } : Room).cells ({ frames := 0, cells := 0, slots := 0, locals := 0 } : Room).slots) := by
  refine MetFree.of_bodySF (plainFor_of_name pn_12) hisR ?_
  intro p e s m args below meth c s₁ Bd hml0 hP hK
  obtain ⟨rfl, hZ, hh⟩ := hP
  have hx := Bd.exec
  have hby := Bd.bytes
  have hml : c.maxLocals = 1 := hml0
  have hown : s.vm.findClass "com/example/prewrm/prewrm/model/ReplayConfig" = some m.cls := findClass_of_methodNamed Bd.named
  have hnm := (name_of_methodNamed Bd.named Bd.method).1
  have X0 : Stand p l e ({ frames := 0, cells := 0, slots := 0, locals := 0 } : Room) s m #[(.ref a1)] below meth c s₁ [] 0 0 := Stand.of_body Bd
  have e0 : s₁.heap = h0 := by rw [← hh, Bd.state]; rfl
  have N0 := Fr.nil n0
  have pre0 : ∀ t, Steps p.tables e below (s₁.setTop (mkF m 0 #[.val (.ref a1)] [])) t → Steps p.tables e below (s₁.setTop (entryFrame m #[(.ref a1)] 1)) t := fun t k => castTop (ef_12 m a1) k
  obtain ⟨T1, X1, e1, st1⟩ := getF X0 hx hZ hown (host := "") (Or.inl (hw _ (List.mem_of_getElem? (i := 38) rfl))) Via.refl e0 F_servers_a1 (g := (mkF m 1 #[.val (.ref a1)] [(.ref a1)])) rfl rfl (hb hby d12_1)
  have er : (f12 f_servers_a1) = f_servers_a1 := by exact rfl
  obtain ⟨fs, hr, hrun, hended, hW, hsame⟩ := X1.leave (v := some (.int f_servers_a1)) (fun h => by rw [Bd.returns] at h; cases h)
  refine ⟨_, _, pre0 _ ?_, hrun, hended, _, _, rfl, ?_, ⟨_, rfl⟩, hW, hsame.mono (by decide) (by decide)⟩
  · show Steps p.tables e below (s₁.setTop (mkF m 0 #[.val (.ref a1)] [])) _
    refine XS.aloadN X0.here hx rfl (hb hby d12_0) rfl rfl ?_
    show Steps p.tables e below (s₁.setTop (mkF m 1 #[.val (.ref a1)] [(.ref a1)])) _
    refine st1 _ ?_
    show Steps p.tables e below (T1.setTop (mkF m 4 #[.val (.ref a1)] [(.int f_servers_a1)])) _
    exact retI X1 hx Bd.returns (hb hby d12_4) hr
  · show Q12 Z a1 f_servers_a1 h0 n0 _ T1.heap _
    rw [e1]
    exact ⟨congrArg (fun z => some (Value.int z)) er.symm, N0, rfl⟩
theorem d13_0 : decode prog_18_method_11_code 0 = .ok (.aload_n 0, 1) := by decide +kernel
theorem d13_1 : decode prog_18_method_11_code 1 = .ok (.getfield 42, 3) := by decide +kernel
theorem d13_4 : decode prog_18_method_11_code 4 = .ok (.ireturn, 1) := by decide +kernel
theorem pn_13 : plainName "com/example/prewrm/prewrm/model/ReplayConfig" = true := by first | (simp [plainName, overriddenIn]; done) | decide +kernel
theorem ef_13 (m : MethodId) (a1 : Addr) : entryFrame m #[(.ref a1)] 1 = mkF m 0 #[.val (.ref a1)] [] := by first | (simp [entryFrame, mkF, argsToLocals, Value.category]; done) | rfl
def f13 (f_sharding_a1 : Int32) : Int32 :=
  (nar .boolean f_sharding_a1)
def Q13 (Z : State) (a1 : Addr) (f_sharding_a1 : Int32) (h0 : Heap) (n0 : Nat) (v : Option Value) (h : Heap) (L : List Loc) : Prop := v = some (.int (f13 f_sharding_a1)) ∧ Fr n0 L ∧ h = h0
set_option maxRecDepth 65536 in
set_option maxHeartbeats 40000000 in
theorem rm13 (l : Launch) (Z : State) (a0 : Array Value) (hw : ∀ d ∈ tables_1, d.before a0 Z = true) (ws : List Jvm.Cond) (a1 : Addr) (f_sharding_a1 : Int32) (h0 : Heap) (n0 : Nat) (Z0 : n0 ≤ h0.size) (F_sharding_a1 : Fld Z h0 a1 "com/example/prewrm/prewrm/model/ReplayConfig" "sharding" "Z" (.int f_sharding_a1)) :
    MetFree l (⟨"com/example/prewrm/prewrm/model/ReplayConfig", "isSharding", "()Z"⟩ : MethodName) (head1 (Jvm.Cond.code (⟨"com/example/prewrm/prewrm/model/ReplayConfig", "isSharding", "()Z"⟩ : MethodName) prog_18_method_11_code 1 (some .boolean) :: ws) ({ frames := 0, cells := 0, slots := 0, locals := 0 } : Room)) (fun a U => a = #[(.ref a1)] ∧ Z.Warmed39 U.vm ∧ U.heap = h0) (fun _ _ _ _ _ => True) (fun _ U o U' => ∃ v L, o = .returned v ∧ Q13 Z a1 f_sharding_a1 h0 n0 v U'.heap L ∧ FrameEnd U o U' L ({ frames := 0, cells := 0, slots := 0, locals := 0 } : Room).cells ({ frames := 0, cells := 0, slots := 0, locals := 0 } : Room).slots) := by
  refine MetFree.of_bodySF (plainFor_of_name pn_13) hisR ?_
  intro p e s m args below meth c s₁ Bd hml0 hP hK
  obtain ⟨rfl, hZ, hh⟩ := hP
  have hx := Bd.exec
  have hby := Bd.bytes
  have hml : c.maxLocals = 1 := hml0
  have hown : s.vm.findClass "com/example/prewrm/prewrm/model/ReplayConfig" = some m.cls := findClass_of_methodNamed Bd.named
  have hnm := (name_of_methodNamed Bd.named Bd.method).1
  have X0 : Stand p l e ({ frames := 0, cells := 0, slots := 0, locals := 0 } : Room) s m #[(.ref a1)] below meth c s₁ [] 0 0 := Stand.of_body Bd
  have e0 : s₁.heap = h0 := by rw [← hh, Bd.state]; rfl
  have N0 := Fr.nil n0
  have pre0 : ∀ t, Steps p.tables e below (s₁.setTop (mkF m 0 #[.val (.ref a1)] [])) t → Steps p.tables e below (s₁.setTop (entryFrame m #[(.ref a1)] 1)) t := fun t k => castTop (ef_13 m a1) k
  obtain ⟨T1, X1, e1, st1⟩ := getF X0 hx hZ hown (host := "") (Or.inl (hw _ (List.mem_of_getElem? (i := 40) rfl))) Via.refl e0 F_sharding_a1 (g := (mkF m 1 #[.val (.ref a1)] [(.ref a1)])) rfl rfl (hb hby d13_1)
  have er : (f13 f_sharding_a1) = (nar .boolean f_sharding_a1) := by exact rfl
  obtain ⟨fs, hr, hrun, hended, hW, hsame⟩ := X1.leave (v := some (.int (nar .boolean f_sharding_a1))) (fun h => by rw [Bd.returns] at h; cases h)
  refine ⟨_, _, pre0 _ ?_, hrun, hended, _, _, rfl, ?_, ⟨_, rfl⟩, hW, hsame.mono (by decide) (by decide)⟩
  · show Steps p.tables e below (s₁.setTop (mkF m 0 #[.val (.ref a1)] [])) _
    refine XS.aloadN X0.here hx rfl (hb hby d13_0) rfl rfl ?_
    show Steps p.tables e below (s₁.setTop (mkF m 1 #[.val (.ref a1)] [(.ref a1)])) _
    refine st1 _ ?_
    show Steps p.tables e below (T1.setTop (mkF m 4 #[.val (.ref a1)] [(.int f_sharding_a1)])) _
    exact retN X1 hx (t := .boolean) Bd.returns (by simp) (hb hby d13_4) hr
  · show Q13 Z a1 f_sharding_a1 h0 n0 _ T1.heap _
    rw [e1]
    exact ⟨congrArg (fun z => some (Value.int z)) er.symm, N0, rfl⟩
theorem d14_0 : decode prog_18_method_12_code 0 = .ok (.aload_n 0, 1) := by decide +kernel
theorem d14_1 : decode prog_18_method_12_code 1 = .ok (.getfield 46, 3) := by decide +kernel
theorem d14_4 : decode prog_18_method_12_code 4 = .ok (.lreturn, 1) := by decide +kernel
theorem pn_14 : plainName "com/example/prewrm/prewrm/model/ReplayConfig" = true := by first | (simp [plainName, overriddenIn]; done) | decide +kernel
theorem ef_14 (m : MethodId) (a1 : Addr) : entryFrame m #[(.ref a1)] 1 = mkF m 0 #[.val (.ref a1)] [] := by first | (simp [entryFrame, mkF, argsToLocals, Value.category]; done) | rfl
def f14 (f_keepAliveMs_a1 : Int64) : Int64 :=
  f_keepAliveMs_a1
def Q14 (Z : State) (a1 : Addr) (f_keepAliveMs_a1 : Int64) (h0 : Heap) (n0 : Nat) (v : Option Value) (h : Heap) (L : List Loc) : Prop := v = some (.long (f14 f_keepAliveMs_a1)) ∧ Fr n0 L ∧ h = h0
set_option maxRecDepth 65536 in
set_option maxHeartbeats 40000000 in
theorem rm14 (l : Launch) (Z : State) (a0 : Array Value) (hw : ∀ d ∈ tables_1, d.before a0 Z = true) (ws : List Jvm.Cond) (a1 : Addr) (f_keepAliveMs_a1 : Int64) (h0 : Heap) (n0 : Nat) (Z0 : n0 ≤ h0.size) (F_keepAliveMs_a1 : Fld Z h0 a1 "com/example/prewrm/prewrm/model/ReplayConfig" "keepAliveMs" "J" (.long f_keepAliveMs_a1)) :
    MetFree l (⟨"com/example/prewrm/prewrm/model/ReplayConfig", "getKeepAliveMs", "()J"⟩ : MethodName) (head1 (Jvm.Cond.code (⟨"com/example/prewrm/prewrm/model/ReplayConfig", "getKeepAliveMs", "()J"⟩ : MethodName) prog_18_method_12_code 1 (some .long) :: ws) ({ frames := 0, cells := 0, slots := 0, locals := 0 } : Room)) (fun a U => a = #[(.ref a1)] ∧ Z.Warmed39 U.vm ∧ U.heap = h0) (fun _ _ _ _ _ => True) (fun _ U o U' => ∃ v L, o = .returned v ∧ Q14 Z a1 f_keepAliveMs_a1 h0 n0 v U'.heap L ∧ FrameEnd U o U' L ({ frames := 0, cells := 0, slots := 0, locals := 0 } : Room).cells ({ frames := 0, cells := 0, slots := 0, locals := 0 } : Room).slots) := by
  refine MetFree.of_bodySF (plainFor_of_name pn_14) hisR ?_
  intro p e s m args below meth c s₁ Bd hml0 hP hK
  obtain ⟨rfl, hZ, hh⟩ := hP
  have hx := Bd.exec
  have hby := Bd.bytes
  have hml : c.maxLocals = 1 := hml0
  have hown : s.vm.findClass "com/example/prewrm/prewrm/model/ReplayConfig" = some m.cls := findClass_of_methodNamed Bd.named
  have hnm := (name_of_methodNamed Bd.named Bd.method).1
  have X0 : Stand p l e ({ frames := 0, cells := 0, slots := 0, locals := 0 } : Room) s m #[(.ref a1)] below meth c s₁ [] 0 0 := Stand.of_body Bd
  have e0 : s₁.heap = h0 := by rw [← hh, Bd.state]; rfl
  have N0 := Fr.nil n0
  have pre0 : ∀ t, Steps p.tables e below (s₁.setTop (mkF m 0 #[.val (.ref a1)] [])) t → Steps p.tables e below (s₁.setTop (entryFrame m #[(.ref a1)] 1)) t := fun t k => castTop (ef_14 m a1) k
  obtain ⟨T1, X1, e1, st1⟩ := getF X0 hx hZ hown (host := "") (Or.inl (hw _ (List.mem_of_getElem? (i := 42) rfl))) Via.refl e0 F_keepAliveMs_a1 (g := (mkF m 1 #[.val (.ref a1)] [(.ref a1)])) rfl rfl (hb hby d14_1)
  have er : (f14 f_keepAliveMs_a1) = f_keepAliveMs_a1 := by exact rfl
  obtain ⟨fs, hr, hrun, hended, hW, hsame⟩ := X1.leave (v := some (.long f_keepAliveMs_a1)) (fun h => by rw [Bd.returns] at h; cases h)
  refine ⟨_, _, pre0 _ ?_, hrun, hended, _, _, rfl, ?_, ⟨_, rfl⟩, hW, hsame.mono (by decide) (by decide)⟩
  · show Steps p.tables e below (s₁.setTop (mkF m 0 #[.val (.ref a1)] [])) _
    refine XS.aloadN X0.here hx rfl (hb hby d14_0) rfl rfl ?_
    show Steps p.tables e below (s₁.setTop (mkF m 1 #[.val (.ref a1)] [(.ref a1)])) _
    refine st1 _ ?_
    show Steps p.tables e below (T1.setTop (mkF m 4 #[.val (.ref a1)] [(.long f_keepAliveMs_a1)])) _
    jvm_step X1.here [X1.here.top, hx, (hb hby d14_4), X1.method', Bd.returns, narrow]
    first | (intro acts; rw [hr _ acts rfl rfl rfl]) | rw [hr _ _ rfl rfl rfl]
    exact Steps.refl _
  · show Q14 Z a1 f_keepAliveMs_a1 h0 n0 _ T1.heap _
    rw [e1]
    exact ⟨congrArg (fun z => some (Value.long z)) er.symm, N0, rfl⟩
theorem d11_0 : decode prog_18_method_13_code 0 = .ok (.aload_n 0, 1) := by decide +kernel
theorem d11_1 : decode prog_18_method_13_code 1 = .ok (.getfield 49, 3) := by decide +kernel
theorem d11_4 : decode prog_18_method_13_code 4 = .ok (.lreturn, 1) := by decide +kernel
theorem pn_11 : plainName "com/example/prewrm/prewrm/model/ReplayConfig" = true := by first | (simp [plainName, overriddenIn]; done) | decide +kernel
theorem ef_11 (m : MethodId) (a1 : Addr) : entryFrame m #[(.ref a1)] 1 = mkF m 0 #[.val (.ref a1)] [] := by first | (simp [entryFrame, mkF, argsToLocals, Value.category]; done) | rfl
def f11 (f_coldStartMs_a1 : Int64) : Int64 :=
  f_coldStartMs_a1
def Q11 (Z : State) (a1 : Addr) (f_coldStartMs_a1 : Int64) (h0 : Heap) (n0 : Nat) (v : Option Value) (h : Heap) (L : List Loc) : Prop := v = some (.long (f11 f_coldStartMs_a1)) ∧ Fr n0 L ∧ h = h0
set_option maxRecDepth 65536 in
set_option maxHeartbeats 40000000 in
theorem rm11 (l : Launch) (Z : State) (a0 : Array Value) (hw : ∀ d ∈ tables_1, d.before a0 Z = true) (ws : List Jvm.Cond) (a1 : Addr) (f_coldStartMs_a1 : Int64) (h0 : Heap) (n0 : Nat) (Z0 : n0 ≤ h0.size) (F_coldStartMs_a1 : Fld Z h0 a1 "com/example/prewrm/prewrm/model/ReplayConfig" "coldStartMs" "J" (.long f_coldStartMs_a1)) :
    MetFree l (⟨"com/example/prewrm/prewrm/model/ReplayConfig", "getColdStartMs", "()J"⟩ : MethodName) (head1 (Jvm.Cond.code (⟨"com/example/prewrm/prewrm/model/ReplayConfig", "getColdStartMs", "()J"⟩ : MethodName) prog_18_method_13_code 1 (some .long) :: ws) ({ frames := 0, cells := 0, slots := 0, locals := 0 } : Room)) (fun a U => a = #[(.ref a1)] ∧ Z.Warmed39 U.vm ∧ U.heap = h0) (fun _ _ _ _ _ => True) (fun _ U o U' => ∃ v L, o = .returned v ∧ Q11 Z a1 f_coldStartMs_a1 h0 n0 v U'.heap L ∧ FrameEnd U o U' L ({ frames := 0, cells := 0, slots := 0, locals := 0 } : Room).cells ({ frames := 0, cells := 0, slots := 0, locals := 0 } : Room).slots) := by
  refine MetFree.of_bodySF (plainFor_of_name pn_11) hisR ?_
  intro p e s m args below meth c s₁ Bd hml0 hP hK
  obtain ⟨rfl, hZ, hh⟩ := hP
  have hx := Bd.exec
  have hby := Bd.bytes
  have hml : c.maxLocals = 1 := hml0
  have hown : s.vm.findClass "com/example/prewrm/prewrm/model/ReplayConfig" = some m.cls := findClass_of_methodNamed Bd.named
  have hnm := (name_of_methodNamed Bd.named Bd.method).1
  have X0 : Stand p l e ({ frames := 0, cells := 0, slots := 0, locals := 0 } : Room) s m #[(.ref a1)] below meth c s₁ [] 0 0 := Stand.of_body Bd
  have e0 : s₁.heap = h0 := by rw [← hh, Bd.state]; rfl
  have N0 := Fr.nil n0
  have pre0 : ∀ t, Steps p.tables e below (s₁.setTop (mkF m 0 #[.val (.ref a1)] [])) t → Steps p.tables e below (s₁.setTop (entryFrame m #[(.ref a1)] 1)) t := fun t k => castTop (ef_11 m a1) k
  obtain ⟨T1, X1, e1, st1⟩ := getF X0 hx hZ hown (host := "") (Or.inl (hw _ (List.mem_of_getElem? (i := 44) rfl))) Via.refl e0 F_coldStartMs_a1 (g := (mkF m 1 #[.val (.ref a1)] [(.ref a1)])) rfl rfl (hb hby d11_1)
  have er : (f11 f_coldStartMs_a1) = f_coldStartMs_a1 := by exact rfl
  obtain ⟨fs, hr, hrun, hended, hW, hsame⟩ := X1.leave (v := some (.long f_coldStartMs_a1)) (fun h => by rw [Bd.returns] at h; cases h)
  refine ⟨_, _, pre0 _ ?_, hrun, hended, _, _, rfl, ?_, ⟨_, rfl⟩, hW, hsame.mono (by decide) (by decide)⟩
  · show Steps p.tables e below (s₁.setTop (mkF m 0 #[.val (.ref a1)] [])) _
    refine XS.aloadN X0.here hx rfl (hb hby d11_0) rfl rfl ?_
    show Steps p.tables e below (s₁.setTop (mkF m 1 #[.val (.ref a1)] [(.ref a1)])) _
    refine st1 _ ?_
    show Steps p.tables e below (T1.setTop (mkF m 4 #[.val (.ref a1)] [(.long f_coldStartMs_a1)])) _
    jvm_step X1.here [X1.here.top, hx, (hb hby d11_4), X1.method', Bd.returns, narrow]
    first | (intro acts; rw [hr _ acts rfl rfl rfl]) | rw [hr _ _ rfl rfl rfl]
    exact Steps.refl _
  · show Q11 Z a1 f_coldStartMs_a1 h0 n0 _ T1.heap _
    rw [e1]
    exact ⟨congrArg (fun z => some (Value.long z)) er.symm, N0, rfl⟩
theorem d15_0 : decode prog_18_method_14_code 0 = .ok (.aload_n 0, 1) := by decide +kernel
theorem d15_1 : decode prog_18_method_14_code 1 = .ok (.getfield 51, 3) := by decide +kernel
theorem d15_4 : decode prog_18_method_14_code 4 = .ok (.lreturn, 1) := by decide +kernel
theorem pn_15 : plainName "com/example/prewrm/prewrm/model/ReplayConfig" = true := by first | (simp [plainName, overriddenIn]; done) | decide +kernel
theorem ef_15 (m : MethodId) (a1 : Addr) : entryFrame m #[(.ref a1)] 1 = mkF m 0 #[.val (.ref a1)] [] := by first | (simp [entryFrame, mkF, argsToLocals, Value.category]; done) | rfl
def f15 (f_durationMs_a1 : Int64) : Int64 :=
  f_durationMs_a1
def Q15 (Z : State) (a1 : Addr) (f_durationMs_a1 : Int64) (h0 : Heap) (n0 : Nat) (v : Option Value) (h : Heap) (L : List Loc) : Prop := v = some (.long (f15 f_durationMs_a1)) ∧ Fr n0 L ∧ h = h0
set_option maxRecDepth 65536 in
set_option maxHeartbeats 40000000 in
theorem rm15 (l : Launch) (Z : State) (a0 : Array Value) (hw : ∀ d ∈ tables_1, d.before a0 Z = true) (ws : List Jvm.Cond) (a1 : Addr) (f_durationMs_a1 : Int64) (h0 : Heap) (n0 : Nat) (Z0 : n0 ≤ h0.size) (F_durationMs_a1 : Fld Z h0 a1 "com/example/prewrm/prewrm/model/ReplayConfig" "durationMs" "J" (.long f_durationMs_a1)) :
    MetFree l (⟨"com/example/prewrm/prewrm/model/ReplayConfig", "getDurationMs", "()J"⟩ : MethodName) (head1 (Jvm.Cond.code (⟨"com/example/prewrm/prewrm/model/ReplayConfig", "getDurationMs", "()J"⟩ : MethodName) prog_18_method_14_code 1 (some .long) :: ws) ({ frames := 0, cells := 0, slots := 0, locals := 0 } : Room)) (fun a U => a = #[(.ref a1)] ∧ Z.Warmed39 U.vm ∧ U.heap = h0) (fun _ _ _ _ _ => True) (fun _ U o U' => ∃ v L, o = .returned v ∧ Q15 Z a1 f_durationMs_a1 h0 n0 v U'.heap L ∧ FrameEnd U o U' L ({ frames := 0, cells := 0, slots := 0, locals := 0 } : Room).cells ({ frames := 0, cells := 0, slots := 0, locals := 0 } : Room).slots) := by
  refine MetFree.of_bodySF (plainFor_of_name pn_15) hisR ?_
  intro p e s m args below meth c s₁ Bd hml0 hP hK
  obtain ⟨rfl, hZ, hh⟩ := hP
  have hx := Bd.exec
  have hby := Bd.bytes
  have hml : c.maxLocals = 1 := hml0
  have hown : s.vm.findClass "com/example/prewrm/prewrm/model/ReplayConfig" = some m.cls := findClass_of_methodNamed Bd.named
  have hnm := (name_of_methodNamed Bd.named Bd.method).1
  have X0 : Stand p l e ({ frames := 0, cells := 0, slots := 0, locals := 0 } : Room) s m #[(.ref a1)] below meth c s₁ [] 0 0 := Stand.of_body Bd
  have e0 : s₁.heap = h0 := by rw [← hh, Bd.state]; rfl
  have N0 := Fr.nil n0
  have pre0 : ∀ t, Steps p.tables e below (s₁.setTop (mkF m 0 #[.val (.ref a1)] [])) t → Steps p.tables e below (s₁.setTop (entryFrame m #[(.ref a1)] 1)) t := fun t k => castTop (ef_15 m a1) k
  obtain ⟨T1, X1, e1, st1⟩ := getF X0 hx hZ hown (host := "") (Or.inl (hw _ (List.mem_of_getElem? (i := 46) rfl))) Via.refl e0 F_durationMs_a1 (g := (mkF m 1 #[.val (.ref a1)] [(.ref a1)])) rfl rfl (hb hby d15_1)
  have er : (f15 f_durationMs_a1) = f_durationMs_a1 := by exact rfl
  obtain ⟨fs, hr, hrun, hended, hW, hsame⟩ := X1.leave (v := some (.long f_durationMs_a1)) (fun h => by rw [Bd.returns] at h; cases h)
  refine ⟨_, _, pre0 _ ?_, hrun, hended, _, _, rfl, ?_, ⟨_, rfl⟩, hW, hsame.mono (by decide) (by decide)⟩
  · show Steps p.tables e below (s₁.setTop (mkF m 0 #[.val (.ref a1)] [])) _
    refine XS.aloadN X0.here hx rfl (hb hby d15_0) rfl rfl ?_
    show Steps p.tables e below (s₁.setTop (mkF m 1 #[.val (.ref a1)] [(.ref a1)])) _
    refine st1 _ ?_
    show Steps p.tables e below (T1.setTop (mkF m 4 #[.val (.ref a1)] [(.long f_durationMs_a1)])) _
    jvm_step X1.here [X1.here.top, hx, (hb hby d15_4), X1.method', Bd.returns, narrow]
    first | (intro acts; rw [hr _ acts rfl rfl rfl]) | rw [hr _ _ rfl rfl rfl]
    exact Steps.refl _
  · show Q15 Z a1 f_durationMs_a1 h0 n0 _ T1.heap _
    rw [e1]
    exact ⟨congrArg (fun z => some (Value.long z)) er.symm, N0, rfl⟩
theorem d16_0 : decode prog_18_method_15_code 0 = .ok (.aload_n 0, 1) := by decide +kernel
theorem d16_1 : decode prog_18_method_15_code 1 = .ok (.getfield 53, 3) := by decide +kernel
theorem d16_4 : decode prog_18_method_15_code 4 = .ok (.ireturn, 1) := by decide +kernel
theorem pn_16 : plainName "com/example/prewrm/prewrm/model/ReplayConfig" = true := by first | (simp [plainName, overriddenIn]; done) | decide +kernel
theorem ef_16 (m : MethodId) (a1 : Addr) : entryFrame m #[(.ref a1)] 1 = mkF m 0 #[.val (.ref a1)] [] := by first | (simp [entryFrame, mkF, argsToLocals, Value.category]; done) | rfl
def f16 (f_maxConcurrent_a1 : Int32) : Int32 :=
  f_maxConcurrent_a1
def Q16 (Z : State) (a1 : Addr) (f_maxConcurrent_a1 : Int32) (h0 : Heap) (n0 : Nat) (v : Option Value) (h : Heap) (L : List Loc) : Prop := v = some (.int (f16 f_maxConcurrent_a1)) ∧ Fr n0 L ∧ h = h0
set_option maxRecDepth 65536 in
set_option maxHeartbeats 40000000 in
theorem rm16 (l : Launch) (Z : State) (a0 : Array Value) (hw : ∀ d ∈ tables_1, d.before a0 Z = true) (ws : List Jvm.Cond) (a1 : Addr) (f_maxConcurrent_a1 : Int32) (h0 : Heap) (n0 : Nat) (Z0 : n0 ≤ h0.size) (F_maxConcurrent_a1 : Fld Z h0 a1 "com/example/prewrm/prewrm/model/ReplayConfig" "maxConcurrent" "I" (.int f_maxConcurrent_a1)) :
    MetFree l (⟨"com/example/prewrm/prewrm/model/ReplayConfig", "getMaxConcurrent", "()I"⟩ : MethodName) (head1 (Jvm.Cond.code (⟨"com/example/prewrm/prewrm/model/ReplayConfig", "getMaxConcurrent", "()I"⟩ : MethodName) prog_18_method_15_code 1 (some .int) :: ws) ({ frames := 0, cells := 0, slots := 0, locals := 0 } : Room)) (fun a U => a = #[(.ref a1)] ∧ Z.Warmed39 U.vm ∧ U.heap = h0) (fun _ _ _ _ _ => True) (fun _ U o U' => ∃ v L, o = .returned v ∧ Q16 Z a1 f_maxConcurrent_a1 h0 n0 v U'.heap L ∧ FrameEnd U o U' L ({ frames := 0, cells := 0, slots := 0, locals := 0 } : Room).cells ({ frames := 0, cells := 0, slots := 0, locals := 0 } : Room).slots) := by
  refine MetFree.of_bodySF (plainFor_of_name pn_16) hisR ?_
  intro p e s m args below meth c s₁ Bd hml0 hP hK
  obtain ⟨rfl, hZ, hh⟩ := hP
  have hx := Bd.exec
  have hby := Bd.bytes
  have hml : c.maxLocals = 1 := hml0
  have hown : s.vm.findClass "com/example/prewrm/prewrm/model/ReplayConfig" = some m.cls := findClass_of_methodNamed Bd.named
  have hnm := (name_of_methodNamed Bd.named Bd.method).1
  have X0 : Stand p l e ({ frames := 0, cells := 0, slots := 0, locals := 0 } : Room) s m #[(.ref a1)] below meth c s₁ [] 0 0 := Stand.of_body Bd
  have e0 : s₁.heap = h0 := by rw [← hh, Bd.state]; rfl
  have N0 := Fr.nil n0
  have pre0 : ∀ t, Steps p.tables e below (s₁.setTop (mkF m 0 #[.val (.ref a1)] [])) t → Steps p.tables e below (s₁.setTop (entryFrame m #[(.ref a1)] 1)) t := fun t k => castTop (ef_16 m a1) k
  obtain ⟨T1, X1, e1, st1⟩ := getF X0 hx hZ hown (host := "") (Or.inl (hw _ (List.mem_of_getElem? (i := 48) rfl))) Via.refl e0 F_maxConcurrent_a1 (g := (mkF m 1 #[.val (.ref a1)] [(.ref a1)])) rfl rfl (hb hby d16_1)
  have er : (f16 f_maxConcurrent_a1) = f_maxConcurrent_a1 := by exact rfl
  obtain ⟨fs, hr, hrun, hended, hW, hsame⟩ := X1.leave (v := some (.int f_maxConcurrent_a1)) (fun h => by rw [Bd.returns] at h; cases h)
  refine ⟨_, _, pre0 _ ?_, hrun, hended, _, _, rfl, ?_, ⟨_, rfl⟩, hW, hsame.mono (by decide) (by decide)⟩
  · show Steps p.tables e below (s₁.setTop (mkF m 0 #[.val (.ref a1)] [])) _
    refine XS.aloadN X0.here hx rfl (hb hby d16_0) rfl rfl ?_
    show Steps p.tables e below (s₁.setTop (mkF m 1 #[.val (.ref a1)] [(.ref a1)])) _
    refine st1 _ ?_
    show Steps p.tables e below (T1.setTop (mkF m 4 #[.val (.ref a1)] [(.int f_maxConcurrent_a1)])) _
    exact retI X1 hx Bd.returns (hb hby d16_4) hr
  · show Q16 Z a1 f_maxConcurrent_a1 h0 n0 _ T1.heap _
    rw [e1]
    exact ⟨congrArg (fun z => some (Value.int z)) er.symm, N0, rfl⟩
theorem d17_0 : decode prog_18_method_16_code 0 = .ok (.aload_n 0, 1) := by decide +kernel
theorem d17_1 : decode prog_18_method_16_code 1 = .ok (.getfield 55, 3) := by decide +kernel
theorem d17_4 : decode prog_18_method_16_code 4 = .ok (.ireturn, 1) := by decide +kernel
theorem pn_17 : plainName "com/example/prewrm/prewrm/model/ReplayConfig" = true := by first | (simp [plainName, overriddenIn]; done) | decide +kernel
theorem ef_17 (m : MethodId) (a1 : Addr) : entryFrame m #[(.ref a1)] 1 = mkF m 0 #[.val (.ref a1)] [] := by first | (simp [entryFrame, mkF, argsToLocals, Value.category]; done) | rfl
def f17 (f_capacity_a1 : Int32) : Int32 :=
  f_capacity_a1
def Q17 (Z : State) (a1 : Addr) (f_capacity_a1 : Int32) (h0 : Heap) (n0 : Nat) (v : Option Value) (h : Heap) (L : List Loc) : Prop := v = some (.int (f17 f_capacity_a1)) ∧ Fr n0 L ∧ h = h0
set_option maxRecDepth 65536 in
set_option maxHeartbeats 40000000 in
theorem rm17 (l : Launch) (Z : State) (a0 : Array Value) (hw : ∀ d ∈ tables_1, d.before a0 Z = true) (ws : List Jvm.Cond) (a1 : Addr) (f_capacity_a1 : Int32) (h0 : Heap) (n0 : Nat) (Z0 : n0 ≤ h0.size) (F_capacity_a1 : Fld Z h0 a1 "com/example/prewrm/prewrm/model/ReplayConfig" "capacity" "I" (.int f_capacity_a1)) :
    MetFree l (⟨"com/example/prewrm/prewrm/model/ReplayConfig", "getCapacity", "()I"⟩ : MethodName) (head1 (Jvm.Cond.code (⟨"com/example/prewrm/prewrm/model/ReplayConfig", "getCapacity", "()I"⟩ : MethodName) prog_18_method_16_code 1 (some .int) :: ws) ({ frames := 0, cells := 0, slots := 0, locals := 0 } : Room)) (fun a U => a = #[(.ref a1)] ∧ Z.Warmed39 U.vm ∧ U.heap = h0) (fun _ _ _ _ _ => True) (fun _ U o U' => ∃ v L, o = .returned v ∧ Q17 Z a1 f_capacity_a1 h0 n0 v U'.heap L ∧ FrameEnd U o U' L ({ frames := 0, cells := 0, slots := 0, locals := 0 } : Room).cells ({ frames := 0, cells := 0, slots := 0, locals := 0 } : Room).slots) := by
  refine MetFree.of_bodySF (plainFor_of_name pn_17) hisR ?_
  intro p e s m args below meth c s₁ Bd hml0 hP hK
  obtain ⟨rfl, hZ, hh⟩ := hP
  have hx := Bd.exec
  have hby := Bd.bytes
  have hml : c.maxLocals = 1 := hml0
  have hown : s.vm.findClass "com/example/prewrm/prewrm/model/ReplayConfig" = some m.cls := findClass_of_methodNamed Bd.named
  have hnm := (name_of_methodNamed Bd.named Bd.method).1
  have X0 : Stand p l e ({ frames := 0, cells := 0, slots := 0, locals := 0 } : Room) s m #[(.ref a1)] below meth c s₁ [] 0 0 := Stand.of_body Bd
  have e0 : s₁.heap = h0 := by rw [← hh, Bd.state]; rfl
  have N0 := Fr.nil n0
  have pre0 : ∀ t, Steps p.tables e below (s₁.setTop (mkF m 0 #[.val (.ref a1)] [])) t → Steps p.tables e below (s₁.setTop (entryFrame m #[(.ref a1)] 1)) t := fun t k => castTop (ef_17 m a1) k
  obtain ⟨T1, X1, e1, st1⟩ := getF X0 hx hZ hown (host := "") (Or.inl (hw _ (List.mem_of_getElem? (i := 50) rfl))) Via.refl e0 F_capacity_a1 (g := (mkF m 1 #[.val (.ref a1)] [(.ref a1)])) rfl rfl (hb hby d17_1)
  have er : (f17 f_capacity_a1) = f_capacity_a1 := by exact rfl
  obtain ⟨fs, hr, hrun, hended, hW, hsame⟩ := X1.leave (v := some (.int f_capacity_a1)) (fun h => by rw [Bd.returns] at h; cases h)
  refine ⟨_, _, pre0 _ ?_, hrun, hended, _, _, rfl, ?_, ⟨_, rfl⟩, hW, hsame.mono (by decide) (by decide)⟩
  · show Steps p.tables e below (s₁.setTop (mkF m 0 #[.val (.ref a1)] [])) _
    refine XS.aloadN X0.here hx rfl (hb hby d17_0) rfl rfl ?_
    show Steps p.tables e below (s₁.setTop (mkF m 1 #[.val (.ref a1)] [(.ref a1)])) _
    refine st1 _ ?_
    show Steps p.tables e below (T1.setTop (mkF m 4 #[.val (.ref a1)] [(.int f_capacity_a1)])) _
    exact retI X1 hx Bd.returns (hb hby d17_4) hr
  · show Q17 Z a1 f_capacity_a1 h0 n0 _ T1.heap _
    rw [e1]
    exact ⟨congrArg (fun z => some (Value.int z)) er.symm, N0, rfl⟩
theorem d18_0 : decode prog_18_method_17_code 0 = .ok (.aload_n 0, 1) := by decide +kernel
theorem d18_1 : decode prog_18_method_17_code 1 = .ok (.getfield 57, 3) := by decide +kernel
theorem d18_4 : decode prog_18_method_17_code 4 = .ok (.lreturn, 1) := by decide +kernel
theorem pn_18 : plainName "com/example/prewrm/prewrm/model/ReplayConfig" = true := by first | (simp [plainName, overriddenIn]; done) | decide +kernel
theorem ef_18 (m : MethodId) (a1 : Addr) : entryFrame m #[(.ref a1)] 1 = mkF m 0 #[.val (.ref a1)] [] := by first | (simp [entryFrame, mkF, argsToLocals, Value.category]; done) | rfl
def f18 (f_warmUpMs_a1 : Int64) : Int64 :=
  f_warmUpMs_a1
def Q18 (Z : State) (a1 : Addr) (f_warmUpMs_a1 : Int64) (h0 : Heap) (n0 : Nat) (v : Option Value) (h : Heap) (L : List Loc) : Prop := v = some (.long (f18 f_warmUpMs_a1)) ∧ Fr n0 L ∧ h = h0
set_option maxRecDepth 65536 in
set_option maxHeartbeats 40000000 in
theorem rm18 (l : Launch) (Z : State) (a0 : Array Value) (hw : ∀ d ∈ tables_1, d.before a0 Z = true) (ws : List Jvm.Cond) (a1 : Addr) (f_warmUpMs_a1 : Int64) (h0 : Heap) (n0 : Nat) (Z0 : n0 ≤ h0.size) (F_warmUpMs_a1 : Fld Z h0 a1 "com/example/prewrm/prewrm/model/ReplayConfig" "warmUpMs" "J" (.long f_warmUpMs_a1)) :
    MetFree l (⟨"com/example/prewrm/prewrm/model/ReplayConfig", "getWarmUpMs", "()J"⟩ : MethodName) (head1 (Jvm.Cond.code (⟨"com/example/prewrm/prewrm/model/ReplayConfig", "getWarmUpMs", "()J"⟩ : MethodName) prog_18_method_17_code 1 (some .long) :: ws) ({ frames := 0, cells := 0, slots := 0, locals := 0 } : Room)) (fun a U => a = #[(.ref a1)] ∧ Z.Warmed39 U.vm ∧ U.heap = h0) (fun _ _ _ _ _ => True) (fun _ U o U' => ∃ v L, o = .returned v ∧ Q18 Z a1 f_warmUpMs_a1 h0 n0 v U'.heap L ∧ FrameEnd U o U' L ({ frames := 0, cells := 0, slots := 0, locals := 0 } : Room).cells ({ frames := 0, cells := 0, slots := 0, locals := 0 } : Room).slots) := by
  refine MetFree.of_bodySF (plainFor_of_name pn_18) hisR ?_
  intro p e s m args below meth c s₁ Bd hml0 hP hK
  obtain ⟨rfl, hZ, hh⟩ := hP
  have hx := Bd.exec
  have hby := Bd.bytes
  have hml : c.maxLocals = 1 := hml0
  have hown : s.vm.findClass "com/example/prewrm/prewrm/model/ReplayConfig" = some m.cls := findClass_of_methodNamed Bd.named
  have hnm := (name_of_methodNamed Bd.named Bd.method).1
  have X0 : Stand p l e ({ frames := 0, cells := 0, slots := 0, locals := 0 } : Room) s m #[(.ref a1)] below meth c s₁ [] 0 0 := Stand.of_body Bd
  have e0 : s₁.heap = h0 := by rw [← hh, Bd.state]; rfl
  have N0 := Fr.nil n0
  have pre0 : ∀ t, Steps p.tables e below (s₁.setTop (mkF m 0 #[.val (.ref a1)] [])) t → Steps p.tables e below (s₁.setTop (entryFrame m #[(.ref a1)] 1)) t := fun t k => castTop (ef_18 m a1) k
  obtain ⟨T1, X1, e1, st1⟩ := getF X0 hx hZ hown (host := "") (Or.inl (hw _ (List.mem_of_getElem? (i := 52) rfl))) Via.refl e0 F_warmUpMs_a1 (g := (mkF m 1 #[.val (.ref a1)] [(.ref a1)])) rfl rfl (hb hby d18_1)
  have er : (f18 f_warmUpMs_a1) = f_warmUpMs_a1 := by exact rfl
  obtain ⟨fs, hr, hrun, hended, hW, hsame⟩ := X1.leave (v := some (.long f_warmUpMs_a1)) (fun h => by rw [Bd.returns] at h; cases h)
  refine ⟨_, _, pre0 _ ?_, hrun, hended, _, _, rfl, ?_, ⟨_, rfl⟩, hW, hsame.mono (by decide) (by decide)⟩
  · show Steps p.tables e below (s₁.setTop (mkF m 0 #[.val (.ref a1)] [])) _
    refine XS.aloadN X0.here hx rfl (hb hby d18_0) rfl rfl ?_
    show Steps p.tables e below (s₁.setTop (mkF m 1 #[.val (.ref a1)] [(.ref a1)])) _
    refine st1 _ ?_
    show Steps p.tables e below (T1.setTop (mkF m 4 #[.val (.ref a1)] [(.long f_warmUpMs_a1)])) _
    jvm_step X1.here [X1.here.top, hx, (hb hby d18_4), X1.method', Bd.returns, narrow]
    first | (intro acts; rw [hr _ acts rfl rfl rfl]) | rw [hr _ _ rfl rfl rfl]
    exact Steps.refl _
  · show Q18 Z a1 f_warmUpMs_a1 h0 n0 _ T1.heap _
    rw [e1]
    exact ⟨congrArg (fun z => some (Value.long z)) er.symm, N0, rfl⟩
theorem d19_0 : decode prog_18_method_18_code 0 = .ok (.aload_n 0, 1) := by decide +kernel
theorem d19_1 : decode prog_18_method_18_code 1 = .ok (.getfield 59, 3) := by decide +kernel
theorem d19_4 : decode prog_18_method_18_code 4 = .ok (.lreturn, 1) := by decide +kernel
theorem pn_19 : plainName "com/example/prewrm/prewrm/model/ReplayConfig" = true := by first | (simp [plainName, overriddenIn]; done) | decide +kernel
theorem ef_19 (m : MethodId) (a1 : Addr) : entryFrame m #[(.ref a1)] 1 = mkF m 0 #[.val (.ref a1)] [] := by first | (simp [entryFrame, mkF, argsToLocals, Value.category]; done) | rfl
def f19 (f_hopMs_a1 : Int64) : Int64 :=
  f_hopMs_a1
def Q19 (Z : State) (a1 : Addr) (f_hopMs_a1 : Int64) (h0 : Heap) (n0 : Nat) (v : Option Value) (h : Heap) (L : List Loc) : Prop := v = some (.long (f19 f_hopMs_a1)) ∧ Fr n0 L ∧ h = h0
set_option maxRecDepth 65536 in
set_option maxHeartbeats 40000000 in
theorem rm19 (l : Launch) (Z : State) (a0 : Array Value) (hw : ∀ d ∈ tables_1, d.before a0 Z = true) (ws : List Jvm.Cond) (a1 : Addr) (f_hopMs_a1 : Int64) (h0 : Heap) (n0 : Nat) (Z0 : n0 ≤ h0.size) (F_hopMs_a1 : Fld Z h0 a1 "com/example/prewrm/prewrm/model/ReplayConfig" "hopMs" "J" (.long f_hopMs_a1)) :
    MetFree l (⟨"com/example/prewrm/prewrm/model/ReplayConfig", "getHopMs", "()J"⟩ : MethodName) (head1 (Jvm.Cond.code (⟨"com/example/prewrm/prewrm/model/ReplayConfig", "getHopMs", "()J"⟩ : MethodName) prog_18_method_18_code 1 (some .long) :: ws) ({ frames := 0, cells := 0, slots := 0, locals := 0 } : Room)) (fun a U => a = #[(.ref a1)] ∧ Z.Warmed39 U.vm ∧ U.heap = h0) (fun _ _ _ _ _ => True) (fun _ U o U' => ∃ v L, o = .returned v ∧ Q19 Z a1 f_hopMs_a1 h0 n0 v U'.heap L ∧ FrameEnd U o U' L ({ frames := 0, cells := 0, slots := 0, locals := 0 } : Room).cells ({ frames := 0, cells := 0, slots := 0, locals := 0 } : Room).slots) := by
  refine MetFree.of_bodySF (plainFor_of_name pn_19) hisR ?_
  intro p e s m args below meth c s₁ Bd hml0 hP hK
  obtain ⟨rfl, hZ, hh⟩ := hP
  have hx := Bd.exec
  have hby := Bd.bytes
  have hml : c.maxLocals = 1 := hml0
  have hown : s.vm.findClass "com/example/prewrm/prewrm/model/ReplayConfig" = some m.cls := findClass_of_methodNamed Bd.named
  have hnm := (name_of_methodNamed Bd.named Bd.method).1
  have X0 : Stand p l e ({ frames := 0, cells := 0, slots := 0, locals := 0 } : Room) s m #[(.ref a1)] below meth c s₁ [] 0 0 := Stand.of_body Bd
  have e0 : s₁.heap = h0 := by rw [← hh, Bd.state]; rfl
  have N0 := Fr.nil n0
  have pre0 : ∀ t, Steps p.tables e below (s₁.setTop (mkF m 0 #[.val (.ref a1)] [])) t → Steps p.tables e below (s₁.setTop (entryFrame m #[(.ref a1)] 1)) t := fun t k => castTop (ef_19 m a1) k
  obtain ⟨T1, X1, e1, st1⟩ := getF X0 hx hZ hown (host := "") (Or.inl (hw _ (List.mem_of_getElem? (i := 54) rfl))) Via.refl e0 F_hopMs_a1 (g := (mkF m 1 #[.val (.ref a1)] [(.ref a1)])) rfl rfl (hb hby d19_1)
  have er : (f19 f_hopMs_a1) = f_hopMs_a1 := by exact rfl
  obtain ⟨fs, hr, hrun, hended, hW, hsame⟩ := X1.leave (v := some (.long f_hopMs_a1)) (fun h => by rw [Bd.returns] at h; cases h)
  refine ⟨_, _, pre0 _ ?_, hrun, hended, _, _, rfl, ?_, ⟨_, rfl⟩, hW, hsame.mono (by decide) (by decide)⟩
  · show Steps p.tables e below (s₁.setTop (mkF m 0 #[.val (.ref a1)] [])) _
    refine XS.aloadN X0.here hx rfl (hb hby d19_0) rfl rfl ?_
    show Steps p.tables e below (s₁.setTop (mkF m 1 #[.val (.ref a1)] [(.ref a1)])) _
    refine st1 _ ?_
    show Steps p.tables e below (T1.setTop (mkF m 4 #[.val (.ref a1)] [(.long f_hopMs_a1)])) _
    jvm_step X1.here [X1.here.top, hx, (hb hby d19_4), X1.method', Bd.returns, narrow]
    first | (intro acts; rw [hr _ acts rfl rfl rfl]) | rw [hr _ _ rfl rfl rfl]
    exact Steps.refl _
  · show Q19 Z a1 f_hopMs_a1 h0 n0 _ T1.heap _
    rw [e1]
    exact ⟨congrArg (fun z => some (Value.long z)) er.symm, N0, rfl⟩
theorem pd_2 : parseMethodDescriptor "(II)I" = some ⟨[.int, .int], some .int⟩ := by decide +kernel
theorem pd_3 : parseMethodDescriptor "(IZ)V" = some ⟨[.int, .boolean], none⟩ := by decide +kernel
theorem pd_4 : parseMethodDescriptor "(J)Lcom/example/prewrm/prewrm/model/ReplayConfig;" = some ⟨[.long], some (.object "com/example/prewrm/prewrm/model/ReplayConfig")⟩ := by decide +kernel
theorem pd_5 : parseMethodDescriptor "()J" = some ⟨[], some .long⟩ := by decide +kernel
theorem pd_6 : parseMethodDescriptor "()I" = some ⟨[], some .int⟩ := by decide +kernel
theorem pd_7 : parseMethodDescriptor "()Z" = some ⟨[], some .boolean⟩ := by decide +kernel
theorem pn_0 : plainName "com/example/prewrm/prewrm/model/ReplayConfigWithColdStartMsPinLaw" = true := by first | (simp [plainName, overriddenIn]; done) | decide +kernel
theorem ef_0 (m : MethodId) (p1 : Int32) (q2 : Int64) (q3 : Int64) (q4 : Int64) (q5 : Int64) (q6 : Int64) : entryFrame m #[(.int p1), (.long q2), (.long q3), (.long q4), (.long q5), (.long q6)] maxLocals = mkF m 0 #[.val (.int p1), .val (.long q2), .second, .val (.long q3), .second, .val (.long q4), .second, .val (.long q5), .second, .val (.long q6), .second, .unset, .unset, .unset, .unset, .unset, .unset, .unset, .unset, .unset, .unset, .unset, .unset, .unset, .unset] [] := by first | (simp [entryFrame, mkF, argsToLocals, Value.category, maxLocals]; done) | rfl
def f0  : Int32 :=
  (1 : Int32)
def Q0 (Z : State) (p1 : Int32) (q2 : Int64) (q3 : Int64) (q4 : Int64) (q5 : Int64) (q6 : Int64)  (h0 : Heap) (n0 : Nat) (v : Option Value) (h : Heap) (L : List Loc) : Prop := v = some (.int f0) ∧ Fr n0 L ∧ True
set_option maxRecDepth 65536 in
set_option maxHeartbeats 40000000 in
theorem rm0 (l : Launch) (Z : State) (a0 : Array Value) (hw : ∀ d ∈ tables_1, d.before a0 Z = true) (ws : List Jvm.Cond) (p1 : Int32) (q2 : Int64) (q3 : Int64) (q4 : Int64) (q5 : Int64) (q6 : Int64)  (h0 : Heap) (n0 : Nat) (Z0 : n0 ≤ h0.size) (O0 : Old Z n0 h0) :
    MetFree l x (head1 (Jvm.Cond.code x code maxLocals ret :: ws) room_1) (fun a U => a = #[(.int p1), (.long q2), (.long q3), (.long q4), (.long q5), (.long q6)] ∧ Z.Warmed39 U.vm ∧ U.heap = h0) (fun _ _ _ _ _ => True) (fun _ U o U' => ∃ v L, o = .returned v ∧ Q0 Z p1 q2 q3 q4 q5 q6 h0 n0 v U'.heap L ∧ ReturnedEndW U o U' L room_1.cells room_1.slots) := by
  refine MetFree.of_bodySF (plainFor_of_name pn_0) hisR ?_
  intro p e s m args below meth c s₁ Bd hml0 hP hK
  obtain ⟨rfl, hZ, hh⟩ := hP
  have hx := Bd.exec
  have hby := Bd.bytes
  have hml : c.maxLocals = 25 := hml0
  have hown : s.vm.findClass "com/example/prewrm/prewrm/model/ReplayConfigWithColdStartMsPinLaw" = some m.cls := findClass_of_methodNamed Bd.named
  have hnm := (name_of_methodNamed Bd.named Bd.method).1
  have X0 : Stand p l e room_1 (s.setVm s.vm) m #[(.int p1), (.long q2), (.long q3), (.long q4), (.long q5), (.long q6)] below meth c s₁ [] 0 0 := Stand.of_body Bd
  have e0 : s₁.heap = h0 := by rw [← hh, Bd.state]; rfl
  have N0 := Fr.nil n0
  have pre0 : ∀ t, Steps p.tables e below (s₁.setTop (mkF m 0 #[.val (.int p1), .val (.long q2), .second, .val (.long q3), .second, .val (.long q4), .second, .val (.long q5), .second, .val (.long q6), .second, .unset, .unset, .unset, .unset, .unset, .unset, .unset, .unset, .unset, .unset, .unset, .unset, .unset, .unset] [])) t → Steps p.tables e below (s₁.setTop (entryFrame m #[(.int p1), (.long q2), (.long q3), (.long q4), (.long q5), (.long q6)] maxLocals)) t := fun t k => castTop (ef_0 m p1 q2 q3 q4 q5 q6) k
  have K0 := Keep.refl h0 ([] : List Addr)
  have Si0 : s.Since s.vm h0.size := (State.WarmedH.refl s).since _
  have Sk0 : h0.size ≤ h0.size := Nat.le_refl _
  obtain ⟨v2, hv2⟩ : ∃ z : Int32, z = (if (p1 &&& (1 : Int32)) = (0 : Int32) then (0 : Int32) else (1 : Int32)) := ⟨_, rfl⟩
  have pre3 : ∀ t, Steps p.tables e below (s₁.setTop (mkF m 11 #[.val (.int p1), .val (.long q2), .second, .val (.long q3), .second, .val (.long q4), .second, .val (.long q5), .second, .val (.long q6), .second, .unset, .unset, .unset, .unset, .unset, .unset, .unset, .unset, .unset, .unset, .unset, .unset, .unset, .unset] [(.int v2)])) t → Steps p.tables e below (s₁.setTop (entryFrame m #[(.int p1), (.long q2), (.long q3), (.long q4), (.long q5), (.long q6)] maxLocals)) t := fun t k => pre0 t (by
    show Steps p.tables e below (s₁.setTop (mkF m 0 #[.val (.int p1), .val (.long q2), .second, .val (.long q3), .second, .val (.long q4), .second, .val (.long q5), .second, .val (.long q6), .second, .unset, .unset, .unset, .unset, .unset, .unset, .unset, .unset, .unset, .unset, .unset, .unset, .unset, .unset] [])) _
    refine XS.iloadN X0.here hx rfl (hb hby at_0) rfl ?_
    show Steps p.tables e below (s₁.setTop (mkF m 1 #[.val (.int p1), .val (.long q2), .second, .val (.long q3), .second, .val (.long q4), .second, .val (.long q5), .second, .val (.long q6), .second, .unset, .unset, .unset, .unset, .unset, .unset, .unset, .unset, .unset, .unset, .unset, .unset, .unset, .unset] [(.int p1)])) _
    refine XS.iconst X0.here hx rfl (hb hby at_1) ?_
    show Steps p.tables e below (s₁.setTop (mkF m 2 #[.val (.int p1), .val (.long q2), .second, .val (.long q3), .second, .val (.long q4), .second, .val (.long q5), .second, .val (.long q6), .second, .unset, .unset, .unset, .unset, .unset, .unset, .unset, .unset, .unset, .unset, .unset, .unset, .unset, .unset] [(.int (1 : Int32)), (.int p1)])) _
    refine XS.iand X0.here hx rfl (hb hby at_2) rfl ?_
    show Steps p.tables e below (s₁.setTop (mkF m 3 #[.val (.int p1), .val (.long q2), .second, .val (.long q3), .second, .val (.long q4), .second, .val (.long q5), .second, .val (.long q6), .second, .unset, .unset, .unset, .unset, .unset, .unset, .unset, .unset, .unset, .unset, .unset, .unset, .unset, .unset] [(.int (p1 &&& (1 : Int32)))])) _
    by_cases hc1 : (p1 &&& (1 : Int32)) = (0 : Int32)
    · refine XS.ifYes X0.here hx rfl (pc0 := 3) (pc' := 10) rfl (hb hby at_3) rfl ((if0 _ _).trans (teq hc1).1) (by decide) (by decide) ?_
      show Steps p.tables e below (s₁.setTop (mkF m 10 #[.val (.int p1), .val (.long q2), .second, .val (.long q3), .second, .val (.long q4), .second, .val (.long q5), .second, .val (.long q6), .second, .unset, .unset, .unset, .unset, .unset, .unset, .unset, .unset, .unset, .unset, .unset, .unset, .unset, .unset] [])) _
      refine XS.iconst X0.here hx rfl (hb hby at_10) ?_
      rw [show v2 = (0 : Int32) from hv2.trans (if_pos hc1)] at k
      exact k
    · refine XS.ifNo X0.here hx rfl (hb hby at_3) rfl ((if0 _ _).trans (feq hc1).1) ?_
      show Steps p.tables e below (s₁.setTop (mkF m 6 #[.val (.int p1), .val (.long q2), .second, .val (.long q3), .second, .val (.long q4), .second, .val (.long q5), .second, .val (.long q6), .second, .unset, .unset, .unset, .unset, .unset, .unset, .unset, .unset, .unset, .unset, .unset, .unset, .unset, .unset] [])) _
      refine XS.iconst X0.here hx rfl (hb hby at_6) ?_
      show Steps p.tables e below (s₁.setTop (mkF m 7 #[.val (.int p1), .val (.long q2), .second, .val (.long q3), .second, .val (.long q4), .second, .val (.long q5), .second, .val (.long q6), .second, .unset, .unset, .unset, .unset, .unset, .unset, .unset, .unset, .unset, .unset, .unset, .unset, .unset, .unset] [(.int (1 : Int32))])) _
      refine XS.goto X0.here hx rfl (pc0 := 7) (pc' := 11) rfl (hb hby at_7) (by decide) (by decide) ?_
      rw [show v2 = (1 : Int32) from hv2.trans (if_neg hc1)] at k
      exact k)
  obtain ⟨_, _, ⟨T4, L4, k4, n4⟩, -, X4, ⟨Lc4, hQ4, l4, y4, z4⟩, st4⟩ := Jvm.LawKit.callS X0 hx (y := (⟨"java/lang/Math", "max", "(II)I"⟩ : MethodName)) hown (mvT hZ (hw _ (List.mem_of_getElem? (i := 0) rfl))) (mvT hZ (hw _ (List.mem_of_getElem? (i := 1) rfl))) (mvT hZ (hw _ (List.mem_of_getElem? (i := 2) rfl))) (mvT hZ (hw _ (List.mem_of_getElem? (i := 3) rfl))) (by decide) (backOf (W := 0) (rm1 l Z a0 hw [] (1 : Int32) ((p1.toUInt32 >>> ((1 : Int32) &&& 31).toUInt32).toInt32) h0 n0 Z0) hZ (hw _ (List.mem_of_getElem? (i := 3) rfl)) (hw _ (List.mem_of_getElem? (i := 2) rfl)) (by decide) (by decide)) (g := (mkF m 17 #[.val (.int p1), .val (.long q2), .second, .val (.long q3), .second, .val (.long q4), .second, .val (.long q5), .second, .val (.long q6), .second, .val (.int v2), .unset, .unset, .unset, .unset, .unset, .unset, .unset, .unset, .unset, .unset, .unset, .unset, .unset] [(.int ((p1.toUInt32 >>> ((1 : Int32) &&& 31).toUInt32).toInt32)), (.int (1 : Int32))])) rfl (by rw [hml]; rfl) (argsL := [(.int (1 : Int32)), (.int ((p1.toUInt32 >>> ((1 : Int32) &&& 31).toUInt32).toInt32))]) (rest := []) (lenOf pd_2 rfl) rfl (by show 2 * 0 + _ ≤ _; exact Nat.le_of_eq rfl) (hb hby at_17) (fun _ _ => ⟨rfl, e0, (by decide : 0 + 0 ≤ _), (by decide : 0 + 0 ≤ _)⟩)
  dsimp only [Pt.U, Pt.locs, Pt.cells, Pt.slots] at X4 l4 y4 z4 st4 hQ4
  subst l4 y4 z4
  obtain ⟨rfl, N4q, e4⟩ := hQ4
  have N4 := Fr.app N0 N4q
  obtain ⟨SV, hSV⟩ : ∃ z : Int32, z = (f1 (1 : Int32) ((p1.toUInt32 >>> ((1 : Int32) &&& 31).toUInt32).toInt32)) := ⟨_, rfl⟩
  obtain ⟨CC, hCC⟩ : ∃ z : Int64, z = (q2 &&& (9223372036854775807 : Int64)) := ⟨_, rfl⟩
  obtain ⟨KK, hKK⟩ : ∃ z : Int64, z = (q3 &&& (9223372036854775807 : Int64)) := ⟨_, rfl⟩
  obtain ⟨DD, hDD⟩ : ∃ z : Int64, z = (q4 &&& (9223372036854775807 : Int64)) := ⟨_, rfl⟩
  obtain ⟨WW, hWW⟩ : ∃ z : Int64, z = (q5 &&& (9223372036854775807 : Int64)) := ⟨_, rfl⟩
  obtain ⟨HH, hHH⟩ : ∃ z : Int64, z = (q6 &&& (9223372036854775807 : Int64)) := ⟨_, rfl⟩
  obtain ⟨T5, h5, X5, e5, E5, Ax5, D5, -, st5⟩ := newO X4 hx hZ hown (hw _ (List.mem_of_getElem? (i := 5) rfl)) (hw _ (List.mem_of_getElem? (i := 6) rfl)) (hw _ (List.mem_of_getElem? (i := 7) rfl)) e4 (g := (mkF m 60 #[.val (.int p1), .val (.long q2), .second, .val (.long q3), .second, .val (.long q4), .second, .val (.long q5), .second, .val (.long q6), .second, .val (.int v2), .val (.int SV), .val (.long CC), .second, .val (.long KK), .second, .val (.long DD), .second, .val (.long WW), .second, .val (.long HH), .second, .unset, .unset] [])) rfl (hb hby at_60) (by decide) (by decide)
  obtain ⟨b5, g5⟩ : ∃ z, z = h0.size := ⟨_, rfl⟩
  rw [← g5] at Ax5 D5 st5
  have g_b5 : n0 ≤ b5 := Nat.le_trans Z0 (Nat.le_of_eq g5.symm)
  have sz_b5 : h0.size ≤ b5 := Nat.le_trans K0.1 (Nat.le_of_eq g5.symm)
  have K5 := K0.ext E5
  have Zs5 := Nat.le_trans Z0 E5.1
  have O5 := O0.ext E5
  have Sk5 := Nat.le_trans Sk0 E5.1
  have E_b5_5 : Exa Z h5 b5 "com/example/prewrm/prewrm/model/ReplayConfig" := Ax5
  have F_servers_b5_5 : Fld Z h5 b5 "com/example/prewrm/prewrm/model/ReplayConfig" "servers" "I" (.int (0 : Int32)) := D5 (Or.inr (hw _ (List.mem_of_getElem? (i := 39) rfl))) (ty := .int) (by decide)
  have F_sharding_b5_5 : Fld Z h5 b5 "com/example/prewrm/prewrm/model/ReplayConfig" "sharding" "Z" (.int (0 : Int32)) := D5 (Or.inr (hw _ (List.mem_of_getElem? (i := 41) rfl))) (ty := .boolean) (by decide)
  have F_keepAliveMs_b5_5 : Fld Z h5 b5 "com/example/prewrm/prewrm/model/ReplayConfig" "keepAliveMs" "J" (.long (0 : Int64)) := D5 (Or.inr (hw _ (List.mem_of_getElem? (i := 43) rfl))) (ty := .long) (by decide)
  have F_coldStartMs_b5_5 : Fld Z h5 b5 "com/example/prewrm/prewrm/model/ReplayConfig" "coldStartMs" "J" (.long (0 : Int64)) := D5 (Or.inr (hw _ (List.mem_of_getElem? (i := 45) rfl))) (ty := .long) (by decide)
  have F_durationMs_b5_5 : Fld Z h5 b5 "com/example/prewrm/prewrm/model/ReplayConfig" "durationMs" "J" (.long (0 : Int64)) := D5 (Or.inr (hw _ (List.mem_of_getElem? (i := 47) rfl))) (ty := .long) (by decide)
  have F_maxConcurrent_b5_5 : Fld Z h5 b5 "com/example/prewrm/prewrm/model/ReplayConfig" "maxConcurrent" "I" (.int (0 : Int32)) := D5 (Or.inr (hw _ (List.mem_of_getElem? (i := 49) rfl))) (ty := .int) (by decide)
  have F_capacity_b5_5 : Fld Z h5 b5 "com/example/prewrm/prewrm/model/ReplayConfig" "capacity" "I" (.int (0 : Int32)) := D5 (Or.inr (hw _ (List.mem_of_getElem? (i := 51) rfl))) (ty := .int) (by decide)
  have F_warmUpMs_b5_5 : Fld Z h5 b5 "com/example/prewrm/prewrm/model/ReplayConfig" "warmUpMs" "J" (.long (0 : Int64)) := D5 (Or.inr (hw _ (List.mem_of_getElem? (i := 53) rfl))) (ty := .long) (by decide)
  have F_hopMs_b5_5 : Fld Z h5 b5 "com/example/prewrm/prewrm/model/ReplayConfig" "hopMs" "J" (.long (0 : Int64)) := D5 (Or.inr (hw _ (List.mem_of_getElem? (i := 55) rfl))) (ty := .long) (by decide)
  have pre7 : ∀ t, Steps p.tables e below (T5.setTop (mkF m 68 #[.val (.int p1), .val (.long q2), .second, .val (.long q3), .second, .val (.long q4), .second, .val (.long q5), .second, .val (.long q6), .second, .val (.int v2), .val (.int SV), .val (.long CC), .second, .val (.long KK), .second, .val (.long DD), .second, .val (.long WW), .second, .val (.long HH), .second, .unset, .unset] [(.int v2), (.int SV), (.ref b5), (.ref b5)])) t → Steps p.tables e below (s₁.setTop (entryFrame m #[(.int p1), (.long q2), (.long q3), (.long q4), (.long q5), (.long q6)] maxLocals)) t := fun t k => pre3 t (by
    show Steps p.tables e below (s₁.setTop (mkF m 11 #[.val (.int p1), .val (.long q2), .second, .val (.long q3), .second, .val (.long q4), .second, .val (.long q5), .second, .val (.long q6), .second, .unset, .unset, .unset, .unset, .unset, .unset, .unset, .unset, .unset, .unset, .unset, .unset, .unset, .unset] [(.int v2)])) _
    refine XS.istore X0.here hx rfl (hb hby at_11) rfl (l' := #[.val (.int p1), .val (.long q2), .second, .val (.long q3), .second, .val (.long q4), .second, .val (.long q5), .second, .val (.long q6), .second, .val (.int v2), .unset, .unset, .unset, .unset, .unset, .unset, .unset, .unset, .unset, .unset, .unset, .unset, .unset]) rfl ?_
    show Steps p.tables e below (s₁.setTop (mkF m 13 #[.val (.int p1), .val (.long q2), .second, .val (.long q3), .second, .val (.long q4), .second, .val (.long q5), .second, .val (.long q6), .second, .val (.int v2), .unset, .unset, .unset, .unset, .unset, .unset, .unset, .unset, .unset, .unset, .unset, .unset, .unset] [])) _
    refine XS.iconst X0.here hx rfl (hb hby at_13) ?_
    show Steps p.tables e below (s₁.setTop (mkF m 14 #[.val (.int p1), .val (.long q2), .second, .val (.long q3), .second, .val (.long q4), .second, .val (.long q5), .second, .val (.long q6), .second, .val (.int v2), .unset, .unset, .unset, .unset, .unset, .unset, .unset, .unset, .unset, .unset, .unset, .unset, .unset] [(.int (1 : Int32))])) _
    refine XS.iloadN X0.here hx rfl (hb hby at_14) rfl ?_
    show Steps p.tables e below (s₁.setTop (mkF m 15 #[.val (.int p1), .val (.long q2), .second, .val (.long q3), .second, .val (.long q4), .second, .val (.long q5), .second, .val (.long q6), .second, .val (.int v2), .unset, .unset, .unset, .unset, .unset, .unset, .unset, .unset, .unset, .unset, .unset, .unset, .unset] [(.int p1), (.int (1 : Int32))])) _
    refine XS.iconst X0.here hx rfl (hb hby at_15) ?_
    show Steps p.tables e below (s₁.setTop (mkF m 16 #[.val (.int p1), .val (.long q2), .second, .val (.long q3), .second, .val (.long q4), .second, .val (.long q5), .second, .val (.long q6), .second, .val (.int v2), .unset, .unset, .unset, .unset, .unset, .unset, .unset, .unset, .unset, .unset, .unset, .unset, .unset] [(.int (1 : Int32)), (.int p1), (.int (1 : Int32))])) _
    refine XS.iushr X0.here hx rfl (hb hby at_16) rfl ?_
    show Steps p.tables e below (s₁.setTop (mkF m 17 #[.val (.int p1), .val (.long q2), .second, .val (.long q3), .second, .val (.long q4), .second, .val (.long q5), .second, .val (.long q6), .second, .val (.int v2), .unset, .unset, .unset, .unset, .unset, .unset, .unset, .unset, .unset, .unset, .unset, .unset, .unset] [(.int ((p1.toUInt32 >>> ((1 : Int32) &&& 31).toUInt32).toInt32)), (.int (1 : Int32))])) _
    refine st4 _ ?_
    show Steps p.tables e below (T4.setTop (mkF m 20 #[.val (.int p1), .val (.long q2), .second, .val (.long q3), .second, .val (.long q4), .second, .val (.long q5), .second, .val (.long q6), .second, .val (.int v2), .unset, .unset, .unset, .unset, .unset, .unset, .unset, .unset, .unset, .unset, .unset, .unset, .unset] [(.int (f1 (1 : Int32) ((p1.toUInt32 >>> ((1 : Int32) &&& 31).toUInt32).toInt32)))])) _
    rw [← hSV]
    show Steps p.tables e below (T4.setTop (mkF m 20 #[.val (.int p1), .val (.long q2), .second, .val (.long q3), .second, .val (.long q4), .second, .val (.long q5), .second, .val (.long q6), .second, .val (.int v2), .unset, .unset, .unset, .unset, .unset, .unset, .unset, .unset, .unset, .unset, .unset, .unset, .unset] [(.int SV)])) _
    refine XS.istore X4.here hx rfl (hb hby at_20) rfl (l' := #[.val (.int p1), .val (.long q2), .second, .val (.long q3), .second, .val (.long q4), .second, .val (.long q5), .second, .val (.long q6), .second, .val (.int v2), .val (.int SV), .unset, .unset, .unset, .unset, .unset, .unset, .unset, .unset, .unset, .unset, .unset, .unset]) rfl ?_
    show Steps p.tables e below (T4.setTop (mkF m 22 #[.val (.int p1), .val (.long q2), .second, .val (.long q3), .second, .val (.long q4), .second, .val (.long q5), .second, .val (.long q6), .second, .val (.int v2), .val (.int SV), .unset, .unset, .unset, .unset, .unset, .unset, .unset, .unset, .unset, .unset, .unset, .unset] [])) _
    refine XS.lloadN X4.here hx rfl (hb hby at_22) rfl ?_
    show Steps p.tables e below (T4.setTop (mkF m 23 #[.val (.int p1), .val (.long q2), .second, .val (.long q3), .second, .val (.long q4), .second, .val (.long q5), .second, .val (.long q6), .second, .val (.int v2), .val (.int SV), .unset, .unset, .unset, .unset, .unset, .unset, .unset, .unset, .unset, .unset, .unset, .unset] [(.long q2)])) _
    refine X4.ldc2Long hx hown (mvT hZ (hw _ (List.mem_of_getElem? (i := 4) rfl))) (g := (mkF m 23 #[.val (.int p1), .val (.long q2), .second, .val (.long q3), .second, .val (.long q4), .second, .val (.long q5), .second, .val (.long q6), .second, .val (.int v2), .val (.int SV), .unset, .unset, .unset, .unset, .unset, .unset, .unset, .unset, .unset, .unset, .unset, .unset] [(.long q2)])) rfl (hb hby at_23) _ ?_
    show Steps p.tables e below (T4.setTop (mkF m 26 #[.val (.int p1), .val (.long q2), .second, .val (.long q3), .second, .val (.long q4), .second, .val (.long q5), .second, .val (.long q6), .second, .val (.int v2), .val (.int SV), .unset, .unset, .unset, .unset, .unset, .unset, .unset, .unset, .unset, .unset, .unset, .unset] [(.long (9223372036854775807 : Int64)), (.long q2)])) _
    refine XS.land X4.here hx rfl (hb hby at_26) rfl ?_
    show Steps p.tables e below (T4.setTop (mkF m 27 #[.val (.int p1), .val (.long q2), .second, .val (.long q3), .second, .val (.long q4), .second, .val (.long q5), .second, .val (.long q6), .second, .val (.int v2), .val (.int SV), .unset, .unset, .unset, .unset, .unset, .unset, .unset, .unset, .unset, .unset, .unset, .unset] [(.long (q2 &&& (9223372036854775807 : Int64)))])) _
    rw [← hCC]
    show Steps p.tables e below (T4.setTop (mkF m 27 #[.val (.int p1), .val (.long q2), .second, .val (.long q3), .second, .val (.long q4), .second, .val (.long q5), .second, .val (.long q6), .second, .val (.int v2), .val (.int SV), .unset, .unset, .unset, .unset, .unset, .unset, .unset, .unset, .unset, .unset, .unset, .unset] [(.long CC)])) _
    refine XS.lstore X4.here hx rfl (hb hby at_27) rfl (l' := #[.val (.int p1), .val (.long q2), .second, .val (.long q3), .second, .val (.long q4), .second, .val (.long q5), .second, .val (.long q6), .second, .val (.int v2), .val (.int SV), .val (.long CC), .second, .unset, .unset, .unset, .unset, .unset, .unset, .unset, .unset, .unset, .unset]) rfl ?_
    show Steps p.tables e below (T4.setTop (mkF m 29 #[.val (.int p1), .val (.long q2), .second, .val (.long q3), .second, .val (.long q4), .second, .val (.long q5), .second, .val (.long q6), .second, .val (.int v2), .val (.int SV), .val (.long CC), .second, .unset, .unset, .unset, .unset, .unset, .unset, .unset, .unset, .unset, .unset] [])) _
    refine XS.lloadN X4.here hx rfl (hb hby at_29) rfl ?_
    show Steps p.tables e below (T4.setTop (mkF m 30 #[.val (.int p1), .val (.long q2), .second, .val (.long q3), .second, .val (.long q4), .second, .val (.long q5), .second, .val (.long q6), .second, .val (.int v2), .val (.int SV), .val (.long CC), .second, .unset, .unset, .unset, .unset, .unset, .unset, .unset, .unset, .unset, .unset] [(.long q3)])) _
    refine X4.ldc2Long hx hown (mvT hZ (hw _ (List.mem_of_getElem? (i := 4) rfl))) (g := (mkF m 30 #[.val (.int p1), .val (.long q2), .second, .val (.long q3), .second, .val (.long q4), .second, .val (.long q5), .second, .val (.long q6), .second, .val (.int v2), .val (.int SV), .val (.long CC), .second, .unset, .unset, .unset, .unset, .unset, .unset, .unset, .unset, .unset, .unset] [(.long q3)])) rfl (hb hby at_30) _ ?_
    show Steps p.tables e below (T4.setTop (mkF m 33 #[.val (.int p1), .val (.long q2), .second, .val (.long q3), .second, .val (.long q4), .second, .val (.long q5), .second, .val (.long q6), .second, .val (.int v2), .val (.int SV), .val (.long CC), .second, .unset, .unset, .unset, .unset, .unset, .unset, .unset, .unset, .unset, .unset] [(.long (9223372036854775807 : Int64)), (.long q3)])) _
    refine XS.land X4.here hx rfl (hb hby at_33) rfl ?_
    show Steps p.tables e below (T4.setTop (mkF m 34 #[.val (.int p1), .val (.long q2), .second, .val (.long q3), .second, .val (.long q4), .second, .val (.long q5), .second, .val (.long q6), .second, .val (.int v2), .val (.int SV), .val (.long CC), .second, .unset, .unset, .unset, .unset, .unset, .unset, .unset, .unset, .unset, .unset] [(.long (q3 &&& (9223372036854775807 : Int64)))])) _
    rw [← hKK]
    show Steps p.tables e below (T4.setTop (mkF m 34 #[.val (.int p1), .val (.long q2), .second, .val (.long q3), .second, .val (.long q4), .second, .val (.long q5), .second, .val (.long q6), .second, .val (.int v2), .val (.int SV), .val (.long CC), .second, .unset, .unset, .unset, .unset, .unset, .unset, .unset, .unset, .unset, .unset] [(.long KK)])) _
    refine XS.lstore X4.here hx rfl (hb hby at_34) rfl (l' := #[.val (.int p1), .val (.long q2), .second, .val (.long q3), .second, .val (.long q4), .second, .val (.long q5), .second, .val (.long q6), .second, .val (.int v2), .val (.int SV), .val (.long CC), .second, .val (.long KK), .second, .unset, .unset, .unset, .unset, .unset, .unset, .unset, .unset]) rfl ?_
    show Steps p.tables e below (T4.setTop (mkF m 36 #[.val (.int p1), .val (.long q2), .second, .val (.long q3), .second, .val (.long q4), .second, .val (.long q5), .second, .val (.long q6), .second, .val (.int v2), .val (.int SV), .val (.long CC), .second, .val (.long KK), .second, .unset, .unset, .unset, .unset, .unset, .unset, .unset, .unset] [])) _
    refine XS.lload X4.here hx rfl (hb hby at_36) rfl ?_
    show Steps p.tables e below (T4.setTop (mkF m 38 #[.val (.int p1), .val (.long q2), .second, .val (.long q3), .second, .val (.long q4), .second, .val (.long q5), .second, .val (.long q6), .second, .val (.int v2), .val (.int SV), .val (.long CC), .second, .val (.long KK), .second, .unset, .unset, .unset, .unset, .unset, .unset, .unset, .unset] [(.long q4)])) _
    refine X4.ldc2Long hx hown (mvT hZ (hw _ (List.mem_of_getElem? (i := 4) rfl))) (g := (mkF m 38 #[.val (.int p1), .val (.long q2), .second, .val (.long q3), .second, .val (.long q4), .second, .val (.long q5), .second, .val (.long q6), .second, .val (.int v2), .val (.int SV), .val (.long CC), .second, .val (.long KK), .second, .unset, .unset, .unset, .unset, .unset, .unset, .unset, .unset] [(.long q4)])) rfl (hb hby at_38) _ ?_
    show Steps p.tables e below (T4.setTop (mkF m 41 #[.val (.int p1), .val (.long q2), .second, .val (.long q3), .second, .val (.long q4), .second, .val (.long q5), .second, .val (.long q6), .second, .val (.int v2), .val (.int SV), .val (.long CC), .second, .val (.long KK), .second, .unset, .unset, .unset, .unset, .unset, .unset, .unset, .unset] [(.long (9223372036854775807 : Int64)), (.long q4)])) _
    refine XS.land X4.here hx rfl (hb hby at_41) rfl ?_
    show Steps p.tables e below (T4.setTop (mkF m 42 #[.val (.int p1), .val (.long q2), .second, .val (.long q3), .second, .val (.long q4), .second, .val (.long q5), .second, .val (.long q6), .second, .val (.int v2), .val (.int SV), .val (.long CC), .second, .val (.long KK), .second, .unset, .unset, .unset, .unset, .unset, .unset, .unset, .unset] [(.long (q4 &&& (9223372036854775807 : Int64)))])) _
    rw [← hDD]
    show Steps p.tables e below (T4.setTop (mkF m 42 #[.val (.int p1), .val (.long q2), .second, .val (.long q3), .second, .val (.long q4), .second, .val (.long q5), .second, .val (.long q6), .second, .val (.int v2), .val (.int SV), .val (.long CC), .second, .val (.long KK), .second, .unset, .unset, .unset, .unset, .unset, .unset, .unset, .unset] [(.long DD)])) _
    refine XS.lstore X4.here hx rfl (hb hby at_42) rfl (l' := #[.val (.int p1), .val (.long q2), .second, .val (.long q3), .second, .val (.long q4), .second, .val (.long q5), .second, .val (.long q6), .second, .val (.int v2), .val (.int SV), .val (.long CC), .second, .val (.long KK), .second, .val (.long DD), .second, .unset, .unset, .unset, .unset, .unset, .unset]) rfl ?_
    show Steps p.tables e below (T4.setTop (mkF m 44 #[.val (.int p1), .val (.long q2), .second, .val (.long q3), .second, .val (.long q4), .second, .val (.long q5), .second, .val (.long q6), .second, .val (.int v2), .val (.int SV), .val (.long CC), .second, .val (.long KK), .second, .val (.long DD), .second, .unset, .unset, .unset, .unset, .unset, .unset] [])) _
    refine XS.lload X4.here hx rfl (hb hby at_44) rfl ?_
    show Steps p.tables e below (T4.setTop (mkF m 46 #[.val (.int p1), .val (.long q2), .second, .val (.long q3), .second, .val (.long q4), .second, .val (.long q5), .second, .val (.long q6), .second, .val (.int v2), .val (.int SV), .val (.long CC), .second, .val (.long KK), .second, .val (.long DD), .second, .unset, .unset, .unset, .unset, .unset, .unset] [(.long q5)])) _
    refine X4.ldc2Long hx hown (mvT hZ (hw _ (List.mem_of_getElem? (i := 4) rfl))) (g := (mkF m 46 #[.val (.int p1), .val (.long q2), .second, .val (.long q3), .second, .val (.long q4), .second, .val (.long q5), .second, .val (.long q6), .second, .val (.int v2), .val (.int SV), .val (.long CC), .second, .val (.long KK), .second, .val (.long DD), .second, .unset, .unset, .unset, .unset, .unset, .unset] [(.long q5)])) rfl (hb hby at_46) _ ?_
    show Steps p.tables e below (T4.setTop (mkF m 49 #[.val (.int p1), .val (.long q2), .second, .val (.long q3), .second, .val (.long q4), .second, .val (.long q5), .second, .val (.long q6), .second, .val (.int v2), .val (.int SV), .val (.long CC), .second, .val (.long KK), .second, .val (.long DD), .second, .unset, .unset, .unset, .unset, .unset, .unset] [(.long (9223372036854775807 : Int64)), (.long q5)])) _
    refine XS.land X4.here hx rfl (hb hby at_49) rfl ?_
    show Steps p.tables e below (T4.setTop (mkF m 50 #[.val (.int p1), .val (.long q2), .second, .val (.long q3), .second, .val (.long q4), .second, .val (.long q5), .second, .val (.long q6), .second, .val (.int v2), .val (.int SV), .val (.long CC), .second, .val (.long KK), .second, .val (.long DD), .second, .unset, .unset, .unset, .unset, .unset, .unset] [(.long (q5 &&& (9223372036854775807 : Int64)))])) _
    rw [← hWW]
    show Steps p.tables e below (T4.setTop (mkF m 50 #[.val (.int p1), .val (.long q2), .second, .val (.long q3), .second, .val (.long q4), .second, .val (.long q5), .second, .val (.long q6), .second, .val (.int v2), .val (.int SV), .val (.long CC), .second, .val (.long KK), .second, .val (.long DD), .second, .unset, .unset, .unset, .unset, .unset, .unset] [(.long WW)])) _
    refine XS.lstore X4.here hx rfl (hb hby at_50) rfl (l' := #[.val (.int p1), .val (.long q2), .second, .val (.long q3), .second, .val (.long q4), .second, .val (.long q5), .second, .val (.long q6), .second, .val (.int v2), .val (.int SV), .val (.long CC), .second, .val (.long KK), .second, .val (.long DD), .second, .val (.long WW), .second, .unset, .unset, .unset, .unset]) rfl ?_
    show Steps p.tables e below (T4.setTop (mkF m 52 #[.val (.int p1), .val (.long q2), .second, .val (.long q3), .second, .val (.long q4), .second, .val (.long q5), .second, .val (.long q6), .second, .val (.int v2), .val (.int SV), .val (.long CC), .second, .val (.long KK), .second, .val (.long DD), .second, .val (.long WW), .second, .unset, .unset, .unset, .unset] [])) _
    refine XS.lload X4.here hx rfl (hb hby at_52) rfl ?_
    show Steps p.tables e below (T4.setTop (mkF m 54 #[.val (.int p1), .val (.long q2), .second, .val (.long q3), .second, .val (.long q4), .second, .val (.long q5), .second, .val (.long q6), .second, .val (.int v2), .val (.int SV), .val (.long CC), .second, .val (.long KK), .second, .val (.long DD), .second, .val (.long WW), .second, .unset, .unset, .unset, .unset] [(.long q6)])) _
    refine X4.ldc2Long hx hown (mvT hZ (hw _ (List.mem_of_getElem? (i := 4) rfl))) (g := (mkF m 54 #[.val (.int p1), .val (.long q2), .second, .val (.long q3), .second, .val (.long q4), .second, .val (.long q5), .second, .val (.long q6), .second, .val (.int v2), .val (.int SV), .val (.long CC), .second, .val (.long KK), .second, .val (.long DD), .second, .val (.long WW), .second, .unset, .unset, .unset, .unset] [(.long q6)])) rfl (hb hby at_54) _ ?_
    show Steps p.tables e below (T4.setTop (mkF m 57 #[.val (.int p1), .val (.long q2), .second, .val (.long q3), .second, .val (.long q4), .second, .val (.long q5), .second, .val (.long q6), .second, .val (.int v2), .val (.int SV), .val (.long CC), .second, .val (.long KK), .second, .val (.long DD), .second, .val (.long WW), .second, .unset, .unset, .unset, .unset] [(.long (9223372036854775807 : Int64)), (.long q6)])) _
    refine XS.land X4.here hx rfl (hb hby at_57) rfl ?_
    show Steps p.tables e below (T4.setTop (mkF m 58 #[.val (.int p1), .val (.long q2), .second, .val (.long q3), .second, .val (.long q4), .second, .val (.long q5), .second, .val (.long q6), .second, .val (.int v2), .val (.int SV), .val (.long CC), .second, .val (.long KK), .second, .val (.long DD), .second, .val (.long WW), .second, .unset, .unset, .unset, .unset] [(.long (q6 &&& (9223372036854775807 : Int64)))])) _
    rw [← hHH]
    show Steps p.tables e below (T4.setTop (mkF m 58 #[.val (.int p1), .val (.long q2), .second, .val (.long q3), .second, .val (.long q4), .second, .val (.long q5), .second, .val (.long q6), .second, .val (.int v2), .val (.int SV), .val (.long CC), .second, .val (.long KK), .second, .val (.long DD), .second, .val (.long WW), .second, .unset, .unset, .unset, .unset] [(.long HH)])) _
    refine XS.lstore X4.here hx rfl (hb hby at_58) rfl (l' := #[.val (.int p1), .val (.long q2), .second, .val (.long q3), .second, .val (.long q4), .second, .val (.long q5), .second, .val (.long q6), .second, .val (.int v2), .val (.int SV), .val (.long CC), .second, .val (.long KK), .second, .val (.long DD), .second, .val (.long WW), .second, .val (.long HH), .second, .unset, .unset]) rfl ?_
    show Steps p.tables e below (T4.setTop (mkF m 60 #[.val (.int p1), .val (.long q2), .second, .val (.long q3), .second, .val (.long q4), .second, .val (.long q5), .second, .val (.long q6), .second, .val (.int v2), .val (.int SV), .val (.long CC), .second, .val (.long KK), .second, .val (.long DD), .second, .val (.long WW), .second, .val (.long HH), .second, .unset, .unset] [])) _
    refine st5 _ ?_
    show Steps p.tables e below (T5.setTop (mkF m 63 #[.val (.int p1), .val (.long q2), .second, .val (.long q3), .second, .val (.long q4), .second, .val (.long q5), .second, .val (.long q6), .second, .val (.int v2), .val (.int SV), .val (.long CC), .second, .val (.long KK), .second, .val (.long DD), .second, .val (.long WW), .second, .val (.long HH), .second, .unset, .unset] [(.ref b5)])) _
    refine XS.dup X5.here hx rfl (hb hby at_63) rfl rfl ?_
    show Steps p.tables e below (T5.setTop (mkF m 64 #[.val (.int p1), .val (.long q2), .second, .val (.long q3), .second, .val (.long q4), .second, .val (.long q5), .second, .val (.long q6), .second, .val (.int v2), .val (.int SV), .val (.long CC), .second, .val (.long KK), .second, .val (.long DD), .second, .val (.long WW), .second, .val (.long HH), .second, .unset, .unset] [(.ref b5), (.ref b5)])) _
    refine XS.iload X5.here hx rfl (hb hby at_64) rfl ?_
    show Steps p.tables e below (T5.setTop (mkF m 66 #[.val (.int p1), .val (.long q2), .second, .val (.long q3), .second, .val (.long q4), .second, .val (.long q5), .second, .val (.long q6), .second, .val (.int v2), .val (.int SV), .val (.long CC), .second, .val (.long KK), .second, .val (.long DD), .second, .val (.long WW), .second, .val (.long HH), .second, .unset, .unset] [(.int SV), (.ref b5), (.ref b5)])) _
    refine XS.iload X5.here hx rfl (hb hby at_66) rfl ?_
    exact k)
  obtain ⟨_, _, ⟨T6, L6, k6, n6⟩, -, X6, Sq6, gz6, ⟨Lc6, hQ6, l6, y6, z6⟩, st6⟩ := X5.specialBackS hx (y := (⟨"com/example/prewrm/prewrm/model/ReplayConfig", "<init>", "(IZ)V"⟩ : MethodName)) rfl hown (mvT hZ (hw _ (List.mem_of_getElem? (i := 8) rfl))) (mvT hZ (hw _ (List.mem_of_getElem? (i := 9) rfl))) (mvT hZ (hw _ (List.mem_of_getElem? (i := 10) rfl))) (by decide) (own_backC (W := 1) (rm2c l Z a0 hw [] b5 SV v2 h5 n0 Zs5 E_b5_5 F_servers_b5_5 F_sharding_b5_5 F_keepAliveMs_b5_5 F_coldStartMs_b5_5 F_durationMs_b5_5 F_maxConcurrent_b5_5 F_capacity_b5_5 F_warmUpMs_b5_5 F_hopMs_b5_5 g_b5 (own_one hSV)) hZ (hw _ (List.mem_of_getElem? (i := 10) rfl)) (hw _ (List.mem_of_getElem? (i := 7) rfl)) (by decide) (by decide)) (g := (mkF m 68 #[.val (.int p1), .val (.long q2), .second, .val (.long q3), .second, .val (.long q4), .second, .val (.long q5), .second, .val (.long q6), .second, .val (.int v2), .val (.int SV), .val (.long CC), .second, .val (.long KK), .second, .val (.long DD), .second, .val (.long WW), .second, .val (.long HH), .second, .unset, .unset] [(.int v2), (.int SV), (.ref b5), (.ref b5)])) rfl (by rw [hml]; rfl) (Steps.refl _) (a := b5) (argsL := [(.int SV), (.int v2)]) (rest := [(.ref b5)]) (lenOf pd_3 rfl) rfl (by show 2 * 0 + _ ≤ _; exact Nat.le_of_eq rfl) (hb hby at_68) (fun _ _ => ⟨rfl, e5, (by decide : 1 + 16 ≤ _), (by decide : 9 + 324 ≤ _)⟩)
  dsimp only [Pt.U, Pt.locs, Pt.cells, Pt.slots] at X6 l6 y6 z6 st6 hQ6
  subst l6 y6 z6
  obtain ⟨h6, e6⟩ : ∃ z, T6.heap = z := ⟨_, rfl⟩
  rw [e6] at hQ6
  obtain ⟨hQ6, HL6⟩ := hQ6
  have X6 : Stand p l e room_1 (s.setVm T6.vm) m #[(.int p1), (.long q2), (.long q3), (.long q4), (.long q5), (.long q6)] below meth c T6 _ _ _ := X6
  have Si6 : s.Since T6.vm T6.heap.size := foldS (T := T5) Si0 (Nat.le_trans Sk5 (Nat.le_of_eq (congrArg Array.size (Eq.symm e5)))) Sq6 gz6
  have Sk6 : T6.heap.size ≤ h6.size := Nat.le_of_eq (by rw [e6])
  have hZ : Z.Warmed39 (s.setVm T6.vm).vm := State.Warmed39.trans (t := s.setVm s.vm) hZ Sq6.1
  have hown : (s.setVm T6.vm).vm.findClass "com/example/prewrm/prewrm/model/ReplayConfigWithColdStartMsPinLaw" = some m.cls := by rw [show (s.setVm T6.vm).vm = T6.vm from rfl, Sq6.1.alike.findClass]; exact hown
  obtain ⟨rfl, N6q, Kc6, E_b5_6q, F_servers_b5_6q, F_sharding_b5_6q, F_keepAliveMs_b5_6q, F_coldStartMs_b5_6q, F_durationMs_b5_6q, F_maxConcurrent_b5_6q, F_capacity_b5_6q, F_warmUpMs_b5_6q, F_hopMs_b5_6q⟩ := hQ6
  have K6 := K5.trans Kc6 (allS (Or.inr sz_b5) all0)
  have Zs6 := Nat.le_trans Zs5 Kc6.1
  have O6 := O5.keep Kc6 (allS g_b5 all0)
  have E_b5_6 : Exa Z h6 b5 "com/example/prewrm/prewrm/model/ReplayConfig" := E_b5_6q
  have F_servers_b5_6 : Fld Z h6 b5 "com/example/prewrm/prewrm/model/ReplayConfig" "servers" "I" (.int SV) := F_servers_b5_6q
  have F_sharding_b5_6 : Fld Z h6 b5 "com/example/prewrm/prewrm/model/ReplayConfig" "sharding" "Z" (.int (nar .boolean v2)) := F_sharding_b5_6q
  have F_keepAliveMs_b5_6 : Fld Z h6 b5 "com/example/prewrm/prewrm/model/ReplayConfig" "keepAliveMs" "J" (.long (600000 : Int64)) := F_keepAliveMs_b5_6q
  have F_coldStartMs_b5_6 : Fld Z h6 b5 "com/example/prewrm/prewrm/model/ReplayConfig" "coldStartMs" "J" (.long (500 : Int64)) := F_coldStartMs_b5_6q
  have F_durationMs_b5_6 : Fld Z h6 b5 "com/example/prewrm/prewrm/model/ReplayConfig" "durationMs" "J" (.long (0 : Int64)) := F_durationMs_b5_6q
  have F_maxConcurrent_b5_6 : Fld Z h6 b5 "com/example/prewrm/prewrm/model/ReplayConfig" "maxConcurrent" "I" (.int (1 : Int32)) := F_maxConcurrent_b5_6q
  have F_capacity_b5_6 : Fld Z h6 b5 "com/example/prewrm/prewrm/model/ReplayConfig" "capacity" "I" (.int (2147483647 : Int32)) := F_capacity_b5_6q
  have F_warmUpMs_b5_6 : Fld Z h6 b5 "com/example/prewrm/prewrm/model/ReplayConfig" "warmUpMs" "J" (.long (0 : Int64)) := F_warmUpMs_b5_6q
  have F_hopMs_b5_6 : Fld Z h6 b5 "com/example/prewrm/prewrm/model/ReplayConfig" "hopMs" "J" (.long (0 : Int64)) := F_hopMs_b5_6q
  have N6 := Fr.app N4 N6q
  obtain ⟨cq8, kq8, q8a, q8b, q8c⟩ := isOf hZ e6 E_b5_6
  obtain ⟨_, _, ⟨T8, L8, k8, n8⟩, -, X8, ⟨Lc8, hQ8, l8, y8, z8⟩, st8⟩ := X6.virtualBack hx (y := (⟨"com/example/prewrm/prewrm/model/ReplayConfig", "withKeepAliveMs", "(J)Lcom/example/prewrm/prewrm/model/ReplayConfig;"⟩ : MethodName)) (z := (⟨"com/example/prewrm/prewrm/model/ReplayConfig", "withKeepAliveMs", "(J)Lcom/example/prewrm/prewrm/model/ReplayConfig;"⟩ : MethodName)) hown (mvT hZ (hw _ (List.mem_of_getElem? (i := 56) rfl))) (mvT hZ (hw _ (List.mem_of_getElem? (i := 57) rfl))) (notFace_of_selects (args := #[]) (mvT hZ (hw _ (List.mem_of_getElem? (i := 59) rfl)))) (mvT hZ (hw _ (List.mem_of_getElem? (i := 59) rfl))) (mvT hZ (hw _ (List.mem_of_getElem? (i := 58) rfl))) (by decide) (own_backL (W := 0) (rm6 l Z a0 hw [] b5 KK SV (nar .boolean v2) (600000 : Int64) (500 : Int64) (0 : Int64) (1 : Int32) (2147483647 : Int32) (0 : Int64) (0 : Int64) h6 n0 Zs6 F_servers_b5_6 F_sharding_b5_6 F_keepAliveMs_b5_6 F_coldStartMs_b5_6 F_durationMs_b5_6 F_maxConcurrent_b5_6 F_capacity_b5_6 F_warmUpMs_b5_6 F_hopMs_b5_6 (own_one hSV) (by decide) (by decide) (own_pos hKK) (by decide) (by decide) (by decide) (by decide)) hZ (hw _ (List.mem_of_getElem? (i := 60) rfl)) (hw _ (List.mem_of_getElem? (i := 7) rfl)) (by decide) (by decide)) q8a q8c (g := (mkF m 73 #[.val (.int p1), .val (.long q2), .second, .val (.long q3), .second, .val (.long q4), .second, .val (.long q5), .second, .val (.long q6), .second, .val (.int v2), .val (.int SV), .val (.long CC), .second, .val (.long KK), .second, .val (.long DD), .second, .val (.long WW), .second, .val (.long HH), .second, .unset, .unset] [(.long KK), (.ref b5)])) rfl (by rw [hml]; rfl) (Steps.refl _) (argsL := [(.long KK)]) (rest := []) (lenOf pd_4 rfl) rfl (by show 2 * 0 + _ ≤ _; exact Nat.le_of_eq rfl) (hb hby at_73) (fun _ w_ => ⟨⟨rfl, e6, (by decide : 17 + 1 ≤ _), (by decide : 333 + 9 ≤ _)⟩, own_L_stays HL6 w_⟩)
  dsimp only [Pt.U, Pt.locs, Pt.cells, Pt.slots] at X8 l8 y8 z8 st8 hQ8
  subst l8 y8 z8
  obtain ⟨h8, e8⟩ : ∃ z, T8.heap = z := ⟨_, rfl⟩
  rw [e8] at hQ8
  obtain ⟨b8, rfl, N8q, Kc8, szc_b8, E_b8_8q, F_servers_b8_8q, F_sharding_b8_8q, F_keepAliveMs_b8_8q, F_coldStartMs_b8_8q, F_durationMs_b8_8q, F_maxConcurrent_b8_8q, F_capacity_b8_8q, F_warmUpMs_b8_8q, F_hopMs_b8_8q⟩ := hQ8
  have ne_b5_b8 : b5 ≠ b8 := Nat.ne_of_lt (Nat.lt_of_lt_of_le E_b5_6.lt szc_b8)
  have g_b8 : n0 ≤ b8 := Nat.le_trans Zs6 szc_b8
  have sz_b8 : h0.size ≤ b8 := Nat.le_trans K6.1 szc_b8
  have E_b5_8 : Exa Z h8 b5 "com/example/prewrm/prewrm/model/ReplayConfig" := E_b5_6.keep Kc8
  have F_servers_b5_8 : Fld Z h8 b5 "com/example/prewrm/prewrm/model/ReplayConfig" "servers" "I" (.int SV) := F_servers_b5_6.keep Kc8 nin0
  have F_sharding_b5_8 : Fld Z h8 b5 "com/example/prewrm/prewrm/model/ReplayConfig" "sharding" "Z" (.int (nar .boolean v2)) := F_sharding_b5_6.keep Kc8 nin0
  have F_keepAliveMs_b5_8 : Fld Z h8 b5 "com/example/prewrm/prewrm/model/ReplayConfig" "keepAliveMs" "J" (.long (600000 : Int64)) := F_keepAliveMs_b5_6.keep Kc8 nin0
  have F_coldStartMs_b5_8 : Fld Z h8 b5 "com/example/prewrm/prewrm/model/ReplayConfig" "coldStartMs" "J" (.long (500 : Int64)) := F_coldStartMs_b5_6.keep Kc8 nin0
  have F_durationMs_b5_8 : Fld Z h8 b5 "com/example/prewrm/prewrm/model/ReplayConfig" "durationMs" "J" (.long (0 : Int64)) := F_durationMs_b5_6.keep Kc8 nin0
  have F_maxConcurrent_b5_8 : Fld Z h8 b5 "com/example/prewrm/prewrm/model/ReplayConfig" "maxConcurrent" "I" (.int (1 : Int32)) := F_maxConcurrent_b5_6.keep Kc8 nin0
  have F_capacity_b5_8 : Fld Z h8 b5 "com/example/prewrm/prewrm/model/ReplayConfig" "capacity" "I" (.int (2147483647 : Int32)) := F_capacity_b5_6.keep Kc8 nin0
  have F_warmUpMs_b5_8 : Fld Z h8 b5 "com/example/prewrm/prewrm/model/ReplayConfig" "warmUpMs" "J" (.long (0 : Int64)) := F_warmUpMs_b5_6.keep Kc8 nin0
  have F_hopMs_b5_8 : Fld Z h8 b5 "com/example/prewrm/prewrm/model/ReplayConfig" "hopMs" "J" (.long (0 : Int64)) := F_hopMs_b5_6.keep Kc8 nin0
  have K8 := K6.trans Kc8 all0
  have Zs8 := Nat.le_trans Zs6 Kc8.1
  have O8 := O6.keep Kc8 all0
  have Sk8 := Nat.le_trans Sk6 Kc8.1
  have E_b8_8 : Exa Z h8 b8 "com/example/prewrm/prewrm/model/ReplayConfig" := E_b8_8q
  have F_servers_b8_8 : Fld Z h8 b8 "com/example/prewrm/prewrm/model/ReplayConfig" "servers" "I" (.int SV) := F_servers_b8_8q
  have F_sharding_b8_8 : Fld Z h8 b8 "com/example/prewrm/prewrm/model/ReplayConfig" "sharding" "Z" (.int (nar .boolean (nar .boolean v2))) := F_sharding_b8_8q
  have F_keepAliveMs_b8_8 : Fld Z h8 b8 "com/example/prewrm/prewrm/model/ReplayConfig" "keepAliveMs" "J" (.long KK) := F_keepAliveMs_b8_8q
  have F_coldStartMs_b8_8 : Fld Z h8 b8 "com/example/prewrm/prewrm/model/ReplayConfig" "coldStartMs" "J" (.long (500 : Int64)) := F_coldStartMs_b8_8q
  have F_durationMs_b8_8 : Fld Z h8 b8 "com/example/prewrm/prewrm/model/ReplayConfig" "durationMs" "J" (.long (0 : Int64)) := F_durationMs_b8_8q
  have F_maxConcurrent_b8_8 : Fld Z h8 b8 "com/example/prewrm/prewrm/model/ReplayConfig" "maxConcurrent" "I" (.int (1 : Int32)) := F_maxConcurrent_b8_8q
  have F_capacity_b8_8 : Fld Z h8 b8 "com/example/prewrm/prewrm/model/ReplayConfig" "capacity" "I" (.int (2147483647 : Int32)) := F_capacity_b8_8q
  have F_warmUpMs_b8_8 : Fld Z h8 b8 "com/example/prewrm/prewrm/model/ReplayConfig" "warmUpMs" "J" (.long (0 : Int64)) := F_warmUpMs_b8_8q
  have F_hopMs_b8_8 : Fld Z h8 b8 "com/example/prewrm/prewrm/model/ReplayConfig" "hopMs" "J" (.long (0 : Int64)) := F_hopMs_b8_8q
  have N8 := Fr.app N6 N8q
  obtain ⟨cq9, kq9, q9a, q9b, q9c⟩ := isOf hZ e8 E_b8_8
  obtain ⟨_, _, ⟨T9, L9, k9, n9⟩, -, X9, ⟨Lc9, hQ9, l9, y9, z9⟩, st9⟩ := X8.virtualBack hx (y := (⟨"com/example/prewrm/prewrm/model/ReplayConfig", "withDurationMs", "(J)Lcom/example/prewrm/prewrm/model/ReplayConfig;"⟩ : MethodName)) (z := (⟨"com/example/prewrm/prewrm/model/ReplayConfig", "withDurationMs", "(J)Lcom/example/prewrm/prewrm/model/ReplayConfig;"⟩ : MethodName)) hown (mvT hZ (hw _ (List.mem_of_getElem? (i := 62) rfl))) (mvT hZ (hw _ (List.mem_of_getElem? (i := 63) rfl))) (notFace_of_selects (args := #[]) (mvT hZ (hw _ (List.mem_of_getElem? (i := 65) rfl)))) (mvT hZ (hw _ (List.mem_of_getElem? (i := 65) rfl))) (mvT hZ (hw _ (List.mem_of_getElem? (i := 64) rfl))) (by decide) (own_backL (W := 0) (rm7 l Z a0 hw [] b8 DD SV (nar .boolean (nar .boolean v2)) KK (500 : Int64) (0 : Int64) (1 : Int32) (2147483647 : Int32) (0 : Int64) (0 : Int64) h8 n0 Zs8 F_servers_b8_8 F_sharding_b8_8 F_keepAliveMs_b8_8 F_coldStartMs_b8_8 F_durationMs_b8_8 F_maxConcurrent_b8_8 F_capacity_b8_8 F_warmUpMs_b8_8 F_hopMs_b8_8 (own_one hSV) (by decide) (by decide) (own_pos hKK) (by decide) (own_pos hDD) (by decide) (by decide)) hZ (hw _ (List.mem_of_getElem? (i := 66) rfl)) (hw _ (List.mem_of_getElem? (i := 7) rfl)) (by decide) (by decide)) q9a q9c (g := (mkF m 78 #[.val (.int p1), .val (.long q2), .second, .val (.long q3), .second, .val (.long q4), .second, .val (.long q5), .second, .val (.long q6), .second, .val (.int v2), .val (.int SV), .val (.long CC), .second, .val (.long KK), .second, .val (.long DD), .second, .val (.long WW), .second, .val (.long HH), .second, .unset, .unset] [(.long DD), (.ref b8)])) rfl (by rw [hml]; rfl) (Steps.refl _) (argsL := [(.long DD)]) (rest := []) (lenOf pd_4 rfl) rfl (by show 2 * 0 + _ ≤ _; exact Nat.le_of_eq rfl) (hb hby at_78) (fun _ w_ => ⟨⟨rfl, e8, (by decide : 18 + 1 ≤ _), (by decide : 342 + 9 ≤ _)⟩, own_L_stays HL6 w_⟩)
  dsimp only [Pt.U, Pt.locs, Pt.cells, Pt.slots] at X9 l9 y9 z9 st9 hQ9
  subst l9 y9 z9
  obtain ⟨h9, e9⟩ : ∃ z, T9.heap = z := ⟨_, rfl⟩
  rw [e9] at hQ9
  obtain ⟨b9, rfl, N9q, Kc9, szc_b9, E_b9_9q, F_servers_b9_9q, F_sharding_b9_9q, F_keepAliveMs_b9_9q, F_coldStartMs_b9_9q, F_durationMs_b9_9q, F_maxConcurrent_b9_9q, F_capacity_b9_9q, F_warmUpMs_b9_9q, F_hopMs_b9_9q⟩ := hQ9
  have ne_b5_b9 : b5 ≠ b9 := Nat.ne_of_lt (Nat.lt_of_lt_of_le E_b5_8.lt szc_b9)
  have ne_b8_b9 : b8 ≠ b9 := Nat.ne_of_lt (Nat.lt_of_lt_of_le E_b8_8.lt szc_b9)
  have g_b9 : n0 ≤ b9 := Nat.le_trans Zs8 szc_b9
  have sz_b9 : h0.size ≤ b9 := Nat.le_trans K8.1 szc_b9
  have E_b5_9 : Exa Z h9 b5 "com/example/prewrm/prewrm/model/ReplayConfig" := E_b5_8.keep Kc9
  have F_servers_b5_9 : Fld Z h9 b5 "com/example/prewrm/prewrm/model/ReplayConfig" "servers" "I" (.int SV) := F_servers_b5_8.keep Kc9 nin0
  have F_sharding_b5_9 : Fld Z h9 b5 "com/example/prewrm/prewrm/model/ReplayConfig" "sharding" "Z" (.int (nar .boolean v2)) := F_sharding_b5_8.keep Kc9 nin0
  have F_keepAliveMs_b5_9 : Fld Z h9 b5 "com/example/prewrm/prewrm/model/ReplayConfig" "keepAliveMs" "J" (.long (600000 : Int64)) := F_keepAliveMs_b5_8.keep Kc9 nin0
  have F_coldStartMs_b5_9 : Fld Z h9 b5 "com/example/prewrm/prewrm/model/ReplayConfig" "coldStartMs" "J" (.long (500 : Int64)) := F_coldStartMs_b5_8.keep Kc9 nin0
  have F_durationMs_b5_9 : Fld Z h9 b5 "com/example/prewrm/prewrm/model/ReplayConfig" "durationMs" "J" (.long (0 : Int64)) := F_durationMs_b5_8.keep Kc9 nin0
  have F_maxConcurrent_b5_9 : Fld Z h9 b5 "com/example/prewrm/prewrm/model/ReplayConfig" "maxConcurrent" "I" (.int (1 : Int32)) := F_maxConcurrent_b5_8.keep Kc9 nin0
  have F_capacity_b5_9 : Fld Z h9 b5 "com/example/prewrm/prewrm/model/ReplayConfig" "capacity" "I" (.int (2147483647 : Int32)) := F_capacity_b5_8.keep Kc9 nin0
  have F_warmUpMs_b5_9 : Fld Z h9 b5 "com/example/prewrm/prewrm/model/ReplayConfig" "warmUpMs" "J" (.long (0 : Int64)) := F_warmUpMs_b5_8.keep Kc9 nin0
  have F_hopMs_b5_9 : Fld Z h9 b5 "com/example/prewrm/prewrm/model/ReplayConfig" "hopMs" "J" (.long (0 : Int64)) := F_hopMs_b5_8.keep Kc9 nin0
  have E_b8_9 : Exa Z h9 b8 "com/example/prewrm/prewrm/model/ReplayConfig" := E_b8_8.keep Kc9
  have F_servers_b8_9 : Fld Z h9 b8 "com/example/prewrm/prewrm/model/ReplayConfig" "servers" "I" (.int SV) := F_servers_b8_8.keep Kc9 nin0
  have F_sharding_b8_9 : Fld Z h9 b8 "com/example/prewrm/prewrm/model/ReplayConfig" "sharding" "Z" (.int (nar .boolean (nar .boolean v2))) := F_sharding_b8_8.keep Kc9 nin0
  have F_keepAliveMs_b8_9 : Fld Z h9 b8 "com/example/prewrm/prewrm/model/ReplayConfig" "keepAliveMs" "J" (.long KK) := F_keepAliveMs_b8_8.keep Kc9 nin0
  have F_coldStartMs_b8_9 : Fld Z h9 b8 "com/example/prewrm/prewrm/model/ReplayConfig" "coldStartMs" "J" (.long (500 : Int64)) := F_coldStartMs_b8_8.keep Kc9 nin0
  have F_durationMs_b8_9 : Fld Z h9 b8 "com/example/prewrm/prewrm/model/ReplayConfig" "durationMs" "J" (.long (0 : Int64)) := F_durationMs_b8_8.keep Kc9 nin0
  have F_maxConcurrent_b8_9 : Fld Z h9 b8 "com/example/prewrm/prewrm/model/ReplayConfig" "maxConcurrent" "I" (.int (1 : Int32)) := F_maxConcurrent_b8_8.keep Kc9 nin0
  have F_capacity_b8_9 : Fld Z h9 b8 "com/example/prewrm/prewrm/model/ReplayConfig" "capacity" "I" (.int (2147483647 : Int32)) := F_capacity_b8_8.keep Kc9 nin0
  have F_warmUpMs_b8_9 : Fld Z h9 b8 "com/example/prewrm/prewrm/model/ReplayConfig" "warmUpMs" "J" (.long (0 : Int64)) := F_warmUpMs_b8_8.keep Kc9 nin0
  have F_hopMs_b8_9 : Fld Z h9 b8 "com/example/prewrm/prewrm/model/ReplayConfig" "hopMs" "J" (.long (0 : Int64)) := F_hopMs_b8_8.keep Kc9 nin0
  have K9 := K8.trans Kc9 all0
  have Zs9 := Nat.le_trans Zs8 Kc9.1
  have O9 := O8.keep Kc9 all0
  have Sk9 := Nat.le_trans Sk8 Kc9.1
  have E_b9_9 : Exa Z h9 b9 "com/example/prewrm/prewrm/model/ReplayConfig" := E_b9_9q
  have F_servers_b9_9 : Fld Z h9 b9 "com/example/prewrm/prewrm/model/ReplayConfig" "servers" "I" (.int SV) := F_servers_b9_9q
  have F_sharding_b9_9 : Fld Z h9 b9 "com/example/prewrm/prewrm/model/ReplayConfig" "sharding" "Z" (.int (nar .boolean (nar .boolean (nar .boolean v2)))) := F_sharding_b9_9q
  have F_keepAliveMs_b9_9 : Fld Z h9 b9 "com/example/prewrm/prewrm/model/ReplayConfig" "keepAliveMs" "J" (.long KK) := F_keepAliveMs_b9_9q
  have F_coldStartMs_b9_9 : Fld Z h9 b9 "com/example/prewrm/prewrm/model/ReplayConfig" "coldStartMs" "J" (.long (500 : Int64)) := F_coldStartMs_b9_9q
  have F_durationMs_b9_9 : Fld Z h9 b9 "com/example/prewrm/prewrm/model/ReplayConfig" "durationMs" "J" (.long DD) := F_durationMs_b9_9q
  have F_maxConcurrent_b9_9 : Fld Z h9 b9 "com/example/prewrm/prewrm/model/ReplayConfig" "maxConcurrent" "I" (.int (1 : Int32)) := F_maxConcurrent_b9_9q
  have F_capacity_b9_9 : Fld Z h9 b9 "com/example/prewrm/prewrm/model/ReplayConfig" "capacity" "I" (.int (2147483647 : Int32)) := F_capacity_b9_9q
  have F_warmUpMs_b9_9 : Fld Z h9 b9 "com/example/prewrm/prewrm/model/ReplayConfig" "warmUpMs" "J" (.long (0 : Int64)) := F_warmUpMs_b9_9q
  have F_hopMs_b9_9 : Fld Z h9 b9 "com/example/prewrm/prewrm/model/ReplayConfig" "hopMs" "J" (.long (0 : Int64)) := F_hopMs_b9_9q
  have N9 := Fr.app N8 N9q
  obtain ⟨cq10, kq10, q10a, q10b, q10c⟩ := isOf hZ e9 E_b9_9
  obtain ⟨_, _, ⟨T10, L10, k10, n10⟩, -, X10, ⟨Lc10, hQ10, l10, y10, z10⟩, st10⟩ := X9.virtualBack hx (y := (⟨"com/example/prewrm/prewrm/model/ReplayConfig", "withWarmUpMs", "(J)Lcom/example/prewrm/prewrm/model/ReplayConfig;"⟩ : MethodName)) (z := (⟨"com/example/prewrm/prewrm/model/ReplayConfig", "withWarmUpMs", "(J)Lcom/example/prewrm/prewrm/model/ReplayConfig;"⟩ : MethodName)) hown (mvT hZ (hw _ (List.mem_of_getElem? (i := 67) rfl))) (mvT hZ (hw _ (List.mem_of_getElem? (i := 68) rfl))) (notFace_of_selects (args := #[]) (mvT hZ (hw _ (List.mem_of_getElem? (i := 70) rfl)))) (mvT hZ (hw _ (List.mem_of_getElem? (i := 70) rfl))) (mvT hZ (hw _ (List.mem_of_getElem? (i := 69) rfl))) (by decide) (own_backL (W := 0) (rm8 l Z a0 hw [] b9 WW SV (nar .boolean (nar .boolean (nar .boolean v2))) KK (500 : Int64) DD (1 : Int32) (2147483647 : Int32) (0 : Int64) (0 : Int64) h9 n0 Zs9 F_servers_b9_9 F_sharding_b9_9 F_keepAliveMs_b9_9 F_coldStartMs_b9_9 F_durationMs_b9_9 F_maxConcurrent_b9_9 F_capacity_b9_9 F_warmUpMs_b9_9 F_hopMs_b9_9 (own_one hSV) (by decide) (by decide) (own_pos hKK) (by decide) (own_pos hDD) (own_pos hWW) (by decide)) hZ (hw _ (List.mem_of_getElem? (i := 71) rfl)) (hw _ (List.mem_of_getElem? (i := 7) rfl)) (by decide) (by decide)) q10a q10c (g := (mkF m 83 #[.val (.int p1), .val (.long q2), .second, .val (.long q3), .second, .val (.long q4), .second, .val (.long q5), .second, .val (.long q6), .second, .val (.int v2), .val (.int SV), .val (.long CC), .second, .val (.long KK), .second, .val (.long DD), .second, .val (.long WW), .second, .val (.long HH), .second, .unset, .unset] [(.long WW), (.ref b9)])) rfl (by rw [hml]; rfl) (Steps.refl _) (argsL := [(.long WW)]) (rest := []) (lenOf pd_4 rfl) rfl (by show 2 * 0 + _ ≤ _; exact Nat.le_of_eq rfl) (hb hby at_83) (fun _ w_ => ⟨⟨rfl, e9, (by decide : 19 + 1 ≤ _), (by decide : 351 + 9 ≤ _)⟩, own_L_stays HL6 w_⟩)
  dsimp only [Pt.U, Pt.locs, Pt.cells, Pt.slots] at X10 l10 y10 z10 st10 hQ10
  subst l10 y10 z10
  obtain ⟨h10, e10⟩ : ∃ z, T10.heap = z := ⟨_, rfl⟩
  rw [e10] at hQ10
  obtain ⟨b10, rfl, N10q, Kc10, szc_b10, E_b10_10q, F_servers_b10_10q, F_sharding_b10_10q, F_keepAliveMs_b10_10q, F_coldStartMs_b10_10q, F_durationMs_b10_10q, F_maxConcurrent_b10_10q, F_capacity_b10_10q, F_warmUpMs_b10_10q, F_hopMs_b10_10q⟩ := hQ10
  have ne_b5_b10 : b5 ≠ b10 := Nat.ne_of_lt (Nat.lt_of_lt_of_le E_b5_9.lt szc_b10)
  have ne_b8_b10 : b8 ≠ b10 := Nat.ne_of_lt (Nat.lt_of_lt_of_le E_b8_9.lt szc_b10)
  have ne_b9_b10 : b9 ≠ b10 := Nat.ne_of_lt (Nat.lt_of_lt_of_le E_b9_9.lt szc_b10)
  have g_b10 : n0 ≤ b10 := Nat.le_trans Zs9 szc_b10
  have sz_b10 : h0.size ≤ b10 := Nat.le_trans K9.1 szc_b10
  have E_b5_10 : Exa Z h10 b5 "com/example/prewrm/prewrm/model/ReplayConfig" := E_b5_9.keep Kc10
  have F_servers_b5_10 : Fld Z h10 b5 "com/example/prewrm/prewrm/model/ReplayConfig" "servers" "I" (.int SV) := F_servers_b5_9.keep Kc10 nin0
  have F_sharding_b5_10 : Fld Z h10 b5 "com/example/prewrm/prewrm/model/ReplayConfig" "sharding" "Z" (.int (nar .boolean v2)) := F_sharding_b5_9.keep Kc10 nin0
  have F_keepAliveMs_b5_10 : Fld Z h10 b5 "com/example/prewrm/prewrm/model/ReplayConfig" "keepAliveMs" "J" (.long (600000 : Int64)) := F_keepAliveMs_b5_9.keep Kc10 nin0
  have F_coldStartMs_b5_10 : Fld Z h10 b5 "com/example/prewrm/prewrm/model/ReplayConfig" "coldStartMs" "J" (.long (500 : Int64)) := F_coldStartMs_b5_9.keep Kc10 nin0
  have F_durationMs_b5_10 : Fld Z h10 b5 "com/example/prewrm/prewrm/model/ReplayConfig" "durationMs" "J" (.long (0 : Int64)) := F_durationMs_b5_9.keep Kc10 nin0
  have F_maxConcurrent_b5_10 : Fld Z h10 b5 "com/example/prewrm/prewrm/model/ReplayConfig" "maxConcurrent" "I" (.int (1 : Int32)) := F_maxConcurrent_b5_9.keep Kc10 nin0
  have F_capacity_b5_10 : Fld Z h10 b5 "com/example/prewrm/prewrm/model/ReplayConfig" "capacity" "I" (.int (2147483647 : Int32)) := F_capacity_b5_9.keep Kc10 nin0
  have F_warmUpMs_b5_10 : Fld Z h10 b5 "com/example/prewrm/prewrm/model/ReplayConfig" "warmUpMs" "J" (.long (0 : Int64)) := F_warmUpMs_b5_9.keep Kc10 nin0
  have F_hopMs_b5_10 : Fld Z h10 b5 "com/example/prewrm/prewrm/model/ReplayConfig" "hopMs" "J" (.long (0 : Int64)) := F_hopMs_b5_9.keep Kc10 nin0
  have E_b8_10 : Exa Z h10 b8 "com/example/prewrm/prewrm/model/ReplayConfig" := E_b8_9.keep Kc10
  have F_servers_b8_10 : Fld Z h10 b8 "com/example/prewrm/prewrm/model/ReplayConfig" "servers" "I" (.int SV) := F_servers_b8_9.keep Kc10 nin0
  have F_sharding_b8_10 : Fld Z h10 b8 "com/example/prewrm/prewrm/model/ReplayConfig" "sharding" "Z" (.int (nar .boolean (nar .boolean v2))) := F_sharding_b8_9.keep Kc10 nin0
  have F_keepAliveMs_b8_10 : Fld Z h10 b8 "com/example/prewrm/prewrm/model/ReplayConfig" "keepAliveMs" "J" (.long KK) := F_keepAliveMs_b8_9.keep Kc10 nin0
  have F_coldStartMs_b8_10 : Fld Z h10 b8 "com/example/prewrm/prewrm/model/ReplayConfig" "coldStartMs" "J" (.long (500 : Int64)) := F_coldStartMs_b8_9.keep Kc10 nin0
  have F_durationMs_b8_10 : Fld Z h10 b8 "com/example/prewrm/prewrm/model/ReplayConfig" "durationMs" "J" (.long (0 : Int64)) := F_durationMs_b8_9.keep Kc10 nin0
  have F_maxConcurrent_b8_10 : Fld Z h10 b8 "com/example/prewrm/prewrm/model/ReplayConfig" "maxConcurrent" "I" (.int (1 : Int32)) := F_maxConcurrent_b8_9.keep Kc10 nin0
  have F_capacity_b8_10 : Fld Z h10 b8 "com/example/prewrm/prewrm/model/ReplayConfig" "capacity" "I" (.int (2147483647 : Int32)) := F_capacity_b8_9.keep Kc10 nin0
  have F_warmUpMs_b8_10 : Fld Z h10 b8 "com/example/prewrm/prewrm/model/ReplayConfig" "warmUpMs" "J" (.long (0 : Int64)) := F_warmUpMs_b8_9.keep Kc10 nin0
  have F_hopMs_b8_10 : Fld Z h10 b8 "com/example/prewrm/prewrm/model/ReplayConfig" "hopMs" "J" (.long (0 : Int64)) := F_hopMs_b8_9.keep Kc10 nin0
  have E_b9_10 : Exa Z h10 b9 "com/example/prewrm/prewrm/model/ReplayConfig" := E_b9_9.keep Kc10
  have F_servers_b9_10 : Fld Z h10 b9 "com/example/prewrm/prewrm/model/ReplayConfig" "servers" "I" (.int SV) := F_servers_b9_9.keep Kc10 nin0
  have F_sharding_b9_10 : Fld Z h10 b9 "com/example/prewrm/prewrm/model/ReplayConfig" "sharding" "Z" (.int (nar .boolean (nar .boolean (nar .boolean v2)))) := F_sharding_b9_9.keep Kc10 nin0
  have F_keepAliveMs_b9_10 : Fld Z h10 b9 "com/example/prewrm/prewrm/model/ReplayConfig" "keepAliveMs" "J" (.long KK) := F_keepAliveMs_b9_9.keep Kc10 nin0
  have F_coldStartMs_b9_10 : Fld Z h10 b9 "com/example/prewrm/prewrm/model/ReplayConfig" "coldStartMs" "J" (.long (500 : Int64)) := F_coldStartMs_b9_9.keep Kc10 nin0
  have F_durationMs_b9_10 : Fld Z h10 b9 "com/example/prewrm/prewrm/model/ReplayConfig" "durationMs" "J" (.long DD) := F_durationMs_b9_9.keep Kc10 nin0
  have F_maxConcurrent_b9_10 : Fld Z h10 b9 "com/example/prewrm/prewrm/model/ReplayConfig" "maxConcurrent" "I" (.int (1 : Int32)) := F_maxConcurrent_b9_9.keep Kc10 nin0
  have F_capacity_b9_10 : Fld Z h10 b9 "com/example/prewrm/prewrm/model/ReplayConfig" "capacity" "I" (.int (2147483647 : Int32)) := F_capacity_b9_9.keep Kc10 nin0
  have F_warmUpMs_b9_10 : Fld Z h10 b9 "com/example/prewrm/prewrm/model/ReplayConfig" "warmUpMs" "J" (.long (0 : Int64)) := F_warmUpMs_b9_9.keep Kc10 nin0
  have F_hopMs_b9_10 : Fld Z h10 b9 "com/example/prewrm/prewrm/model/ReplayConfig" "hopMs" "J" (.long (0 : Int64)) := F_hopMs_b9_9.keep Kc10 nin0
  have K10 := K9.trans Kc10 all0
  have Zs10 := Nat.le_trans Zs9 Kc10.1
  have O10 := O9.keep Kc10 all0
  have Sk10 := Nat.le_trans Sk9 Kc10.1
  have E_b10_10 : Exa Z h10 b10 "com/example/prewrm/prewrm/model/ReplayConfig" := E_b10_10q
  have F_servers_b10_10 : Fld Z h10 b10 "com/example/prewrm/prewrm/model/ReplayConfig" "servers" "I" (.int SV) := F_servers_b10_10q
  have F_sharding_b10_10 : Fld Z h10 b10 "com/example/prewrm/prewrm/model/ReplayConfig" "sharding" "Z" (.int (nar .boolean (nar .boolean (nar .boolean (nar .boolean v2))))) := F_sharding_b10_10q
  have F_keepAliveMs_b10_10 : Fld Z h10 b10 "com/example/prewrm/prewrm/model/ReplayConfig" "keepAliveMs" "J" (.long KK) := F_keepAliveMs_b10_10q
  have F_coldStartMs_b10_10 : Fld Z h10 b10 "com/example/prewrm/prewrm/model/ReplayConfig" "coldStartMs" "J" (.long (500 : Int64)) := F_coldStartMs_b10_10q
  have F_durationMs_b10_10 : Fld Z h10 b10 "com/example/prewrm/prewrm/model/ReplayConfig" "durationMs" "J" (.long DD) := F_durationMs_b10_10q
  have F_maxConcurrent_b10_10 : Fld Z h10 b10 "com/example/prewrm/prewrm/model/ReplayConfig" "maxConcurrent" "I" (.int (1 : Int32)) := F_maxConcurrent_b10_10q
  have F_capacity_b10_10 : Fld Z h10 b10 "com/example/prewrm/prewrm/model/ReplayConfig" "capacity" "I" (.int (2147483647 : Int32)) := F_capacity_b10_10q
  have F_warmUpMs_b10_10 : Fld Z h10 b10 "com/example/prewrm/prewrm/model/ReplayConfig" "warmUpMs" "J" (.long WW) := F_warmUpMs_b10_10q
  have F_hopMs_b10_10 : Fld Z h10 b10 "com/example/prewrm/prewrm/model/ReplayConfig" "hopMs" "J" (.long (0 : Int64)) := F_hopMs_b10_10q
  have N10 := Fr.app N9 N10q
  obtain ⟨cq11, kq11, q11a, q11b, q11c⟩ := isOf hZ e10 E_b10_10
  obtain ⟨_, _, ⟨T11, L11, k11, n11⟩, -, X11, ⟨Lc11, hQ11, l11, y11, z11⟩, st11⟩ := X10.virtualBack hx (y := (⟨"com/example/prewrm/prewrm/model/ReplayConfig", "withHopMs", "(J)Lcom/example/prewrm/prewrm/model/ReplayConfig;"⟩ : MethodName)) (z := (⟨"com/example/prewrm/prewrm/model/ReplayConfig", "withHopMs", "(J)Lcom/example/prewrm/prewrm/model/ReplayConfig;"⟩ : MethodName)) hown (mvT hZ (hw _ (List.mem_of_getElem? (i := 72) rfl))) (mvT hZ (hw _ (List.mem_of_getElem? (i := 73) rfl))) (notFace_of_selects (args := #[]) (mvT hZ (hw _ (List.mem_of_getElem? (i := 75) rfl)))) (mvT hZ (hw _ (List.mem_of_getElem? (i := 75) rfl))) (mvT hZ (hw _ (List.mem_of_getElem? (i := 74) rfl))) (by decide) (own_backL (W := 0) (rm9 l Z a0 hw [] b10 HH SV (nar .boolean (nar .boolean (nar .boolean (nar .boolean v2)))) KK (500 : Int64) DD (1 : Int32) (2147483647 : Int32) WW (0 : Int64) h10 n0 Zs10 F_servers_b10_10 F_sharding_b10_10 F_keepAliveMs_b10_10 F_coldStartMs_b10_10 F_durationMs_b10_10 F_maxConcurrent_b10_10 F_capacity_b10_10 F_warmUpMs_b10_10 F_hopMs_b10_10 (own_one hSV) (by decide) (by decide) (own_pos hKK) (by decide) (own_pos hDD) (own_pos hWW) (own_pos hHH)) hZ (hw _ (List.mem_of_getElem? (i := 76) rfl)) (hw _ (List.mem_of_getElem? (i := 7) rfl)) (by decide) (by decide)) q11a q11c (g := (mkF m 88 #[.val (.int p1), .val (.long q2), .second, .val (.long q3), .second, .val (.long q4), .second, .val (.long q5), .second, .val (.long q6), .second, .val (.int v2), .val (.int SV), .val (.long CC), .second, .val (.long KK), .second, .val (.long DD), .second, .val (.long WW), .second, .val (.long HH), .second, .unset, .unset] [(.long HH), (.ref b10)])) rfl (by rw [hml]; rfl) (Steps.refl _) (argsL := [(.long HH)]) (rest := []) (lenOf pd_4 rfl) rfl (by show 2 * 0 + _ ≤ _; exact Nat.le_of_eq rfl) (hb hby at_88) (fun _ w_ => ⟨⟨rfl, e10, (by decide : 20 + 1 ≤ _), (by decide : 360 + 9 ≤ _)⟩, own_L_stays HL6 w_⟩)
  dsimp only [Pt.U, Pt.locs, Pt.cells, Pt.slots] at X11 l11 y11 z11 st11 hQ11
  subst l11 y11 z11
  obtain ⟨h11, e11⟩ : ∃ z, T11.heap = z := ⟨_, rfl⟩
  rw [e11] at hQ11
  obtain ⟨b11, rfl, N11q, Kc11, szc_b11, E_b11_11q, F_servers_b11_11q, F_sharding_b11_11q, F_keepAliveMs_b11_11q, F_coldStartMs_b11_11q, F_durationMs_b11_11q, F_maxConcurrent_b11_11q, F_capacity_b11_11q, F_warmUpMs_b11_11q, F_hopMs_b11_11q⟩ := hQ11
  have ne_b5_b11 : b5 ≠ b11 := Nat.ne_of_lt (Nat.lt_of_lt_of_le E_b5_10.lt szc_b11)
  have ne_b8_b11 : b8 ≠ b11 := Nat.ne_of_lt (Nat.lt_of_lt_of_le E_b8_10.lt szc_b11)
  have ne_b9_b11 : b9 ≠ b11 := Nat.ne_of_lt (Nat.lt_of_lt_of_le E_b9_10.lt szc_b11)
  have ne_b10_b11 : b10 ≠ b11 := Nat.ne_of_lt (Nat.lt_of_lt_of_le E_b10_10.lt szc_b11)
  have g_b11 : n0 ≤ b11 := Nat.le_trans Zs10 szc_b11
  have sz_b11 : h0.size ≤ b11 := Nat.le_trans K10.1 szc_b11
  have E_b5_11 : Exa Z h11 b5 "com/example/prewrm/prewrm/model/ReplayConfig" := E_b5_10.keep Kc11
  have F_servers_b5_11 : Fld Z h11 b5 "com/example/prewrm/prewrm/model/ReplayConfig" "servers" "I" (.int SV) := F_servers_b5_10.keep Kc11 nin0
  have F_sharding_b5_11 : Fld Z h11 b5 "com/example/prewrm/prewrm/model/ReplayConfig" "sharding" "Z" (.int (nar .boolean v2)) := F_sharding_b5_10.keep Kc11 nin0
  have F_keepAliveMs_b5_11 : Fld Z h11 b5 "com/example/prewrm/prewrm/model/ReplayConfig" "keepAliveMs" "J" (.long (600000 : Int64)) := F_keepAliveMs_b5_10.keep Kc11 nin0
  have F_coldStartMs_b5_11 : Fld Z h11 b5 "com/example/prewrm/prewrm/model/ReplayConfig" "coldStartMs" "J" (.long (500 : Int64)) := F_coldStartMs_b5_10.keep Kc11 nin0
  have F_durationMs_b5_11 : Fld Z h11 b5 "com/example/prewrm/prewrm/model/ReplayConfig" "durationMs" "J" (.long (0 : Int64)) := F_durationMs_b5_10.keep Kc11 nin0
  have F_maxConcurrent_b5_11 : Fld Z h11 b5 "com/example/prewrm/prewrm/model/ReplayConfig" "maxConcurrent" "I" (.int (1 : Int32)) := F_maxConcurrent_b5_10.keep Kc11 nin0
  have F_capacity_b5_11 : Fld Z h11 b5 "com/example/prewrm/prewrm/model/ReplayConfig" "capacity" "I" (.int (2147483647 : Int32)) := F_capacity_b5_10.keep Kc11 nin0
  have F_warmUpMs_b5_11 : Fld Z h11 b5 "com/example/prewrm/prewrm/model/ReplayConfig" "warmUpMs" "J" (.long (0 : Int64)) := F_warmUpMs_b5_10.keep Kc11 nin0
  have F_hopMs_b5_11 : Fld Z h11 b5 "com/example/prewrm/prewrm/model/ReplayConfig" "hopMs" "J" (.long (0 : Int64)) := F_hopMs_b5_10.keep Kc11 nin0
  have E_b8_11 : Exa Z h11 b8 "com/example/prewrm/prewrm/model/ReplayConfig" := E_b8_10.keep Kc11
  have F_servers_b8_11 : Fld Z h11 b8 "com/example/prewrm/prewrm/model/ReplayConfig" "servers" "I" (.int SV) := F_servers_b8_10.keep Kc11 nin0
  have F_sharding_b8_11 : Fld Z h11 b8 "com/example/prewrm/prewrm/model/ReplayConfig" "sharding" "Z" (.int (nar .boolean (nar .boolean v2))) := F_sharding_b8_10.keep Kc11 nin0
  have F_keepAliveMs_b8_11 : Fld Z h11 b8 "com/example/prewrm/prewrm/model/ReplayConfig" "keepAliveMs" "J" (.long KK) := F_keepAliveMs_b8_10.keep Kc11 nin0
  have F_coldStartMs_b8_11 : Fld Z h11 b8 "com/example/prewrm/prewrm/model/ReplayConfig" "coldStartMs" "J" (.long (500 : Int64)) := F_coldStartMs_b8_10.keep Kc11 nin0
  have F_durationMs_b8_11 : Fld Z h11 b8 "com/example/prewrm/prewrm/model/ReplayConfig" "durationMs" "J" (.long (0 : Int64)) := F_durationMs_b8_10.keep Kc11 nin0
  have F_maxConcurrent_b8_11 : Fld Z h11 b8 "com/example/prewrm/prewrm/model/ReplayConfig" "maxConcurrent" "I" (.int (1 : Int32)) := F_maxConcurrent_b8_10.keep Kc11 nin0
  have F_capacity_b8_11 : Fld Z h11 b8 "com/example/prewrm/prewrm/model/ReplayConfig" "capacity" "I" (.int (2147483647 : Int32)) := F_capacity_b8_10.keep Kc11 nin0
  have F_warmUpMs_b8_11 : Fld Z h11 b8 "com/example/prewrm/prewrm/model/ReplayConfig" "warmUpMs" "J" (.long (0 : Int64)) := F_warmUpMs_b8_10.keep Kc11 nin0
  have F_hopMs_b8_11 : Fld Z h11 b8 "com/example/prewrm/prewrm/model/ReplayConfig" "hopMs" "J" (.long (0 : Int64)) := F_hopMs_b8_10.keep Kc11 nin0
  have E_b9_11 : Exa Z h11 b9 "com/example/prewrm/prewrm/model/ReplayConfig" := E_b9_10.keep Kc11
  have F_servers_b9_11 : Fld Z h11 b9 "com/example/prewrm/prewrm/model/ReplayConfig" "servers" "I" (.int SV) := F_servers_b9_10.keep Kc11 nin0
  have F_sharding_b9_11 : Fld Z h11 b9 "com/example/prewrm/prewrm/model/ReplayConfig" "sharding" "Z" (.int (nar .boolean (nar .boolean (nar .boolean v2)))) := F_sharding_b9_10.keep Kc11 nin0
  have F_keepAliveMs_b9_11 : Fld Z h11 b9 "com/example/prewrm/prewrm/model/ReplayConfig" "keepAliveMs" "J" (.long KK) := F_keepAliveMs_b9_10.keep Kc11 nin0
  have F_coldStartMs_b9_11 : Fld Z h11 b9 "com/example/prewrm/prewrm/model/ReplayConfig" "coldStartMs" "J" (.long (500 : Int64)) := F_coldStartMs_b9_10.keep Kc11 nin0
  have F_durationMs_b9_11 : Fld Z h11 b9 "com/example/prewrm/prewrm/model/ReplayConfig" "durationMs" "J" (.long DD) := F_durationMs_b9_10.keep Kc11 nin0
  have F_maxConcurrent_b9_11 : Fld Z h11 b9 "com/example/prewrm/prewrm/model/ReplayConfig" "maxConcurrent" "I" (.int (1 : Int32)) := F_maxConcurrent_b9_10.keep Kc11 nin0
  have F_capacity_b9_11 : Fld Z h11 b9 "com/example/prewrm/prewrm/model/ReplayConfig" "capacity" "I" (.int (2147483647 : Int32)) := F_capacity_b9_10.keep Kc11 nin0
  have F_warmUpMs_b9_11 : Fld Z h11 b9 "com/example/prewrm/prewrm/model/ReplayConfig" "warmUpMs" "J" (.long (0 : Int64)) := F_warmUpMs_b9_10.keep Kc11 nin0
  have F_hopMs_b9_11 : Fld Z h11 b9 "com/example/prewrm/prewrm/model/ReplayConfig" "hopMs" "J" (.long (0 : Int64)) := F_hopMs_b9_10.keep Kc11 nin0
  have E_b10_11 : Exa Z h11 b10 "com/example/prewrm/prewrm/model/ReplayConfig" := E_b10_10.keep Kc11
  have F_servers_b10_11 : Fld Z h11 b10 "com/example/prewrm/prewrm/model/ReplayConfig" "servers" "I" (.int SV) := F_servers_b10_10.keep Kc11 nin0
  have F_sharding_b10_11 : Fld Z h11 b10 "com/example/prewrm/prewrm/model/ReplayConfig" "sharding" "Z" (.int (nar .boolean (nar .boolean (nar .boolean (nar .boolean v2))))) := F_sharding_b10_10.keep Kc11 nin0
  have F_keepAliveMs_b10_11 : Fld Z h11 b10 "com/example/prewrm/prewrm/model/ReplayConfig" "keepAliveMs" "J" (.long KK) := F_keepAliveMs_b10_10.keep Kc11 nin0
  have F_coldStartMs_b10_11 : Fld Z h11 b10 "com/example/prewrm/prewrm/model/ReplayConfig" "coldStartMs" "J" (.long (500 : Int64)) := F_coldStartMs_b10_10.keep Kc11 nin0
  have F_durationMs_b10_11 : Fld Z h11 b10 "com/example/prewrm/prewrm/model/ReplayConfig" "durationMs" "J" (.long DD) := F_durationMs_b10_10.keep Kc11 nin0
  have F_maxConcurrent_b10_11 : Fld Z h11 b10 "com/example/prewrm/prewrm/model/ReplayConfig" "maxConcurrent" "I" (.int (1 : Int32)) := F_maxConcurrent_b10_10.keep Kc11 nin0
  have F_capacity_b10_11 : Fld Z h11 b10 "com/example/prewrm/prewrm/model/ReplayConfig" "capacity" "I" (.int (2147483647 : Int32)) := F_capacity_b10_10.keep Kc11 nin0
  have F_warmUpMs_b10_11 : Fld Z h11 b10 "com/example/prewrm/prewrm/model/ReplayConfig" "warmUpMs" "J" (.long WW) := F_warmUpMs_b10_10.keep Kc11 nin0
  have F_hopMs_b10_11 : Fld Z h11 b10 "com/example/prewrm/prewrm/model/ReplayConfig" "hopMs" "J" (.long (0 : Int64)) := F_hopMs_b10_10.keep Kc11 nin0
  have K11 := K10.trans Kc11 all0
  have Zs11 := Nat.le_trans Zs10 Kc11.1
  have O11 := O10.keep Kc11 all0
  have Sk11 := Nat.le_trans Sk10 Kc11.1
  have E_b11_11 : Exa Z h11 b11 "com/example/prewrm/prewrm/model/ReplayConfig" := E_b11_11q
  have F_servers_b11_11 : Fld Z h11 b11 "com/example/prewrm/prewrm/model/ReplayConfig" "servers" "I" (.int SV) := F_servers_b11_11q
  have F_sharding_b11_11 : Fld Z h11 b11 "com/example/prewrm/prewrm/model/ReplayConfig" "sharding" "Z" (.int (nar .boolean (nar .boolean (nar .boolean (nar .boolean (nar .boolean v2)))))) := F_sharding_b11_11q
  have F_keepAliveMs_b11_11 : Fld Z h11 b11 "com/example/prewrm/prewrm/model/ReplayConfig" "keepAliveMs" "J" (.long KK) := F_keepAliveMs_b11_11q
  have F_coldStartMs_b11_11 : Fld Z h11 b11 "com/example/prewrm/prewrm/model/ReplayConfig" "coldStartMs" "J" (.long (500 : Int64)) := F_coldStartMs_b11_11q
  have F_durationMs_b11_11 : Fld Z h11 b11 "com/example/prewrm/prewrm/model/ReplayConfig" "durationMs" "J" (.long DD) := F_durationMs_b11_11q
  have F_maxConcurrent_b11_11 : Fld Z h11 b11 "com/example/prewrm/prewrm/model/ReplayConfig" "maxConcurrent" "I" (.int (1 : Int32)) := F_maxConcurrent_b11_11q
  have F_capacity_b11_11 : Fld Z h11 b11 "com/example/prewrm/prewrm/model/ReplayConfig" "capacity" "I" (.int (2147483647 : Int32)) := F_capacity_b11_11q
  have F_warmUpMs_b11_11 : Fld Z h11 b11 "com/example/prewrm/prewrm/model/ReplayConfig" "warmUpMs" "J" (.long WW) := F_warmUpMs_b11_11q
  have F_hopMs_b11_11 : Fld Z h11 b11 "com/example/prewrm/prewrm/model/ReplayConfig" "hopMs" "J" (.long HH) := F_hopMs_b11_11q
  have N11 := Fr.app N10 N11q
  obtain ⟨cq12, kq12, q12a, q12b, q12c⟩ := isOf hZ e11 E_b11_11
  obtain ⟨_, _, ⟨T12, L12, k12, n12⟩, -, X12, ⟨Lc12, hQ12, l12, y12, z12⟩, st12⟩ := X11.virtualBack hx (y := (⟨"com/example/prewrm/prewrm/model/ReplayConfig", "withColdStartMs", "(J)Lcom/example/prewrm/prewrm/model/ReplayConfig;"⟩ : MethodName)) (z := (⟨"com/example/prewrm/prewrm/model/ReplayConfig", "withColdStartMs", "(J)Lcom/example/prewrm/prewrm/model/ReplayConfig;"⟩ : MethodName)) hown (mvT hZ (hw _ (List.mem_of_getElem? (i := 77) rfl))) (mvT hZ (hw _ (List.mem_of_getElem? (i := 78) rfl))) (notFace_of_selects (args := #[]) (mvT hZ (hw _ (List.mem_of_getElem? (i := 80) rfl)))) (mvT hZ (hw _ (List.mem_of_getElem? (i := 80) rfl))) (mvT hZ (hw _ (List.mem_of_getElem? (i := 79) rfl))) (by decide) (own_backL (W := 0) (rm10 l Z a0 hw [] b11 CC SV (nar .boolean (nar .boolean (nar .boolean (nar .boolean (nar .boolean v2))))) KK (500 : Int64) DD (1 : Int32) (2147483647 : Int32) WW HH h11 n0 Zs11 F_servers_b11_11 F_sharding_b11_11 F_keepAliveMs_b11_11 F_coldStartMs_b11_11 F_durationMs_b11_11 F_maxConcurrent_b11_11 F_capacity_b11_11 F_warmUpMs_b11_11 F_hopMs_b11_11 (own_one hSV) (by decide) (by decide) (own_pos hKK) (own_pos hCC) (own_pos hDD) (own_pos hWW) (own_pos hHH)) hZ (hw _ (List.mem_of_getElem? (i := 81) rfl)) (hw _ (List.mem_of_getElem? (i := 7) rfl)) (by decide) (by decide)) q12a q12c (g := (mkF m 97 #[.val (.int p1), .val (.long q2), .second, .val (.long q3), .second, .val (.long q4), .second, .val (.long q5), .second, .val (.long q6), .second, .val (.int v2), .val (.int SV), .val (.long CC), .second, .val (.long KK), .second, .val (.long DD), .second, .val (.long WW), .second, .val (.long HH), .second, .val (.ref b11), .unset] [(.long CC), (.ref b11)])) rfl (by rw [hml]; rfl) (Steps.refl _) (argsL := [(.long CC)]) (rest := []) (lenOf pd_4 rfl) rfl (by show 2 * 0 + _ ≤ _; exact Nat.le_of_eq rfl) (hb hby at_97) (fun _ w_ => ⟨⟨rfl, e11, (by decide : 21 + 1 ≤ _), (by decide : 369 + 9 ≤ _)⟩, own_L_stays HL6 w_⟩)
  dsimp only [Pt.U, Pt.locs, Pt.cells, Pt.slots] at X12 l12 y12 z12 st12 hQ12
  subst l12 y12 z12
  obtain ⟨h12, e12⟩ : ∃ z, T12.heap = z := ⟨_, rfl⟩
  rw [e12] at hQ12
  obtain ⟨b12, rfl, N12q, Kc12, szc_b12, E_b12_12q, F_servers_b12_12q, F_sharding_b12_12q, F_keepAliveMs_b12_12q, F_coldStartMs_b12_12q, F_durationMs_b12_12q, F_maxConcurrent_b12_12q, F_capacity_b12_12q, F_warmUpMs_b12_12q, F_hopMs_b12_12q⟩ := hQ12
  have ne_b5_b12 : b5 ≠ b12 := Nat.ne_of_lt (Nat.lt_of_lt_of_le E_b5_11.lt szc_b12)
  have ne_b8_b12 : b8 ≠ b12 := Nat.ne_of_lt (Nat.lt_of_lt_of_le E_b8_11.lt szc_b12)
  have ne_b9_b12 : b9 ≠ b12 := Nat.ne_of_lt (Nat.lt_of_lt_of_le E_b9_11.lt szc_b12)
  have ne_b10_b12 : b10 ≠ b12 := Nat.ne_of_lt (Nat.lt_of_lt_of_le E_b10_11.lt szc_b12)
  have ne_b11_b12 : b11 ≠ b12 := Nat.ne_of_lt (Nat.lt_of_lt_of_le E_b11_11.lt szc_b12)
  have g_b12 : n0 ≤ b12 := Nat.le_trans Zs11 szc_b12
  have sz_b12 : h0.size ≤ b12 := Nat.le_trans K11.1 szc_b12
  have E_b5_12 : Exa Z h12 b5 "com/example/prewrm/prewrm/model/ReplayConfig" := E_b5_11.keep Kc12
  have F_servers_b5_12 : Fld Z h12 b5 "com/example/prewrm/prewrm/model/ReplayConfig" "servers" "I" (.int SV) := F_servers_b5_11.keep Kc12 nin0
  have F_sharding_b5_12 : Fld Z h12 b5 "com/example/prewrm/prewrm/model/ReplayConfig" "sharding" "Z" (.int (nar .boolean v2)) := F_sharding_b5_11.keep Kc12 nin0
  have F_keepAliveMs_b5_12 : Fld Z h12 b5 "com/example/prewrm/prewrm/model/ReplayConfig" "keepAliveMs" "J" (.long (600000 : Int64)) := F_keepAliveMs_b5_11.keep Kc12 nin0
  have F_coldStartMs_b5_12 : Fld Z h12 b5 "com/example/prewrm/prewrm/model/ReplayConfig" "coldStartMs" "J" (.long (500 : Int64)) := F_coldStartMs_b5_11.keep Kc12 nin0
  have F_durationMs_b5_12 : Fld Z h12 b5 "com/example/prewrm/prewrm/model/ReplayConfig" "durationMs" "J" (.long (0 : Int64)) := F_durationMs_b5_11.keep Kc12 nin0
  have F_maxConcurrent_b5_12 : Fld Z h12 b5 "com/example/prewrm/prewrm/model/ReplayConfig" "maxConcurrent" "I" (.int (1 : Int32)) := F_maxConcurrent_b5_11.keep Kc12 nin0
  have F_capacity_b5_12 : Fld Z h12 b5 "com/example/prewrm/prewrm/model/ReplayConfig" "capacity" "I" (.int (2147483647 : Int32)) := F_capacity_b5_11.keep Kc12 nin0
  have F_warmUpMs_b5_12 : Fld Z h12 b5 "com/example/prewrm/prewrm/model/ReplayConfig" "warmUpMs" "J" (.long (0 : Int64)) := F_warmUpMs_b5_11.keep Kc12 nin0
  have F_hopMs_b5_12 : Fld Z h12 b5 "com/example/prewrm/prewrm/model/ReplayConfig" "hopMs" "J" (.long (0 : Int64)) := F_hopMs_b5_11.keep Kc12 nin0
  have E_b8_12 : Exa Z h12 b8 "com/example/prewrm/prewrm/model/ReplayConfig" := E_b8_11.keep Kc12
  have F_servers_b8_12 : Fld Z h12 b8 "com/example/prewrm/prewrm/model/ReplayConfig" "servers" "I" (.int SV) := F_servers_b8_11.keep Kc12 nin0
  have F_sharding_b8_12 : Fld Z h12 b8 "com/example/prewrm/prewrm/model/ReplayConfig" "sharding" "Z" (.int (nar .boolean (nar .boolean v2))) := F_sharding_b8_11.keep Kc12 nin0
  have F_keepAliveMs_b8_12 : Fld Z h12 b8 "com/example/prewrm/prewrm/model/ReplayConfig" "keepAliveMs" "J" (.long KK) := F_keepAliveMs_b8_11.keep Kc12 nin0
  have F_coldStartMs_b8_12 : Fld Z h12 b8 "com/example/prewrm/prewrm/model/ReplayConfig" "coldStartMs" "J" (.long (500 : Int64)) := F_coldStartMs_b8_11.keep Kc12 nin0
  have F_durationMs_b8_12 : Fld Z h12 b8 "com/example/prewrm/prewrm/model/ReplayConfig" "durationMs" "J" (.long (0 : Int64)) := F_durationMs_b8_11.keep Kc12 nin0
  have F_maxConcurrent_b8_12 : Fld Z h12 b8 "com/example/prewrm/prewrm/model/ReplayConfig" "maxConcurrent" "I" (.int (1 : Int32)) := F_maxConcurrent_b8_11.keep Kc12 nin0
  have F_capacity_b8_12 : Fld Z h12 b8 "com/example/prewrm/prewrm/model/ReplayConfig" "capacity" "I" (.int (2147483647 : Int32)) := F_capacity_b8_11.keep Kc12 nin0
  have F_warmUpMs_b8_12 : Fld Z h12 b8 "com/example/prewrm/prewrm/model/ReplayConfig" "warmUpMs" "J" (.long (0 : Int64)) := F_warmUpMs_b8_11.keep Kc12 nin0
  have F_hopMs_b8_12 : Fld Z h12 b8 "com/example/prewrm/prewrm/model/ReplayConfig" "hopMs" "J" (.long (0 : Int64)) := F_hopMs_b8_11.keep Kc12 nin0
  have E_b9_12 : Exa Z h12 b9 "com/example/prewrm/prewrm/model/ReplayConfig" := E_b9_11.keep Kc12
  have F_servers_b9_12 : Fld Z h12 b9 "com/example/prewrm/prewrm/model/ReplayConfig" "servers" "I" (.int SV) := F_servers_b9_11.keep Kc12 nin0
  have F_sharding_b9_12 : Fld Z h12 b9 "com/example/prewrm/prewrm/model/ReplayConfig" "sharding" "Z" (.int (nar .boolean (nar .boolean (nar .boolean v2)))) := F_sharding_b9_11.keep Kc12 nin0
  have F_keepAliveMs_b9_12 : Fld Z h12 b9 "com/example/prewrm/prewrm/model/ReplayConfig" "keepAliveMs" "J" (.long KK) := F_keepAliveMs_b9_11.keep Kc12 nin0
  have F_coldStartMs_b9_12 : Fld Z h12 b9 "com/example/prewrm/prewrm/model/ReplayConfig" "coldStartMs" "J" (.long (500 : Int64)) := F_coldStartMs_b9_11.keep Kc12 nin0
  have F_durationMs_b9_12 : Fld Z h12 b9 "com/example/prewrm/prewrm/model/ReplayConfig" "durationMs" "J" (.long DD) := F_durationMs_b9_11.keep Kc12 nin0
  have F_maxConcurrent_b9_12 : Fld Z h12 b9 "com/example/prewrm/prewrm/model/ReplayConfig" "maxConcurrent" "I" (.int (1 : Int32)) := F_maxConcurrent_b9_11.keep Kc12 nin0
  have F_capacity_b9_12 : Fld Z h12 b9 "com/example/prewrm/prewrm/model/ReplayConfig" "capacity" "I" (.int (2147483647 : Int32)) := F_capacity_b9_11.keep Kc12 nin0
  have F_warmUpMs_b9_12 : Fld Z h12 b9 "com/example/prewrm/prewrm/model/ReplayConfig" "warmUpMs" "J" (.long (0 : Int64)) := F_warmUpMs_b9_11.keep Kc12 nin0
  have F_hopMs_b9_12 : Fld Z h12 b9 "com/example/prewrm/prewrm/model/ReplayConfig" "hopMs" "J" (.long (0 : Int64)) := F_hopMs_b9_11.keep Kc12 nin0
  have E_b10_12 : Exa Z h12 b10 "com/example/prewrm/prewrm/model/ReplayConfig" := E_b10_11.keep Kc12
  have F_servers_b10_12 : Fld Z h12 b10 "com/example/prewrm/prewrm/model/ReplayConfig" "servers" "I" (.int SV) := F_servers_b10_11.keep Kc12 nin0
  have F_sharding_b10_12 : Fld Z h12 b10 "com/example/prewrm/prewrm/model/ReplayConfig" "sharding" "Z" (.int (nar .boolean (nar .boolean (nar .boolean (nar .boolean v2))))) := F_sharding_b10_11.keep Kc12 nin0
  have F_keepAliveMs_b10_12 : Fld Z h12 b10 "com/example/prewrm/prewrm/model/ReplayConfig" "keepAliveMs" "J" (.long KK) := F_keepAliveMs_b10_11.keep Kc12 nin0
  have F_coldStartMs_b10_12 : Fld Z h12 b10 "com/example/prewrm/prewrm/model/ReplayConfig" "coldStartMs" "J" (.long (500 : Int64)) := F_coldStartMs_b10_11.keep Kc12 nin0
  have F_durationMs_b10_12 : Fld Z h12 b10 "com/example/prewrm/prewrm/model/ReplayConfig" "durationMs" "J" (.long DD) := F_durationMs_b10_11.keep Kc12 nin0
  have F_maxConcurrent_b10_12 : Fld Z h12 b10 "com/example/prewrm/prewrm/model/ReplayConfig" "maxConcurrent" "I" (.int (1 : Int32)) := F_maxConcurrent_b10_11.keep Kc12 nin0
  have F_capacity_b10_12 : Fld Z h12 b10 "com/example/prewrm/prewrm/model/ReplayConfig" "capacity" "I" (.int (2147483647 : Int32)) := F_capacity_b10_11.keep Kc12 nin0
  have F_warmUpMs_b10_12 : Fld Z h12 b10 "com/example/prewrm/prewrm/model/ReplayConfig" "warmUpMs" "J" (.long WW) := F_warmUpMs_b10_11.keep Kc12 nin0
  have F_hopMs_b10_12 : Fld Z h12 b10 "com/example/prewrm/prewrm/model/ReplayConfig" "hopMs" "J" (.long (0 : Int64)) := F_hopMs_b10_11.keep Kc12 nin0
  have E_b11_12 : Exa Z h12 b11 "com/example/prewrm/prewrm/model/ReplayConfig" := E_b11_11.keep Kc12
  have F_servers_b11_12 : Fld Z h12 b11 "com/example/prewrm/prewrm/model/ReplayConfig" "servers" "I" (.int SV) := F_servers_b11_11.keep Kc12 nin0
  have F_sharding_b11_12 : Fld Z h12 b11 "com/example/prewrm/prewrm/model/ReplayConfig" "sharding" "Z" (.int (nar .boolean (nar .boolean (nar .boolean (nar .boolean (nar .boolean v2)))))) := F_sharding_b11_11.keep Kc12 nin0
  have F_keepAliveMs_b11_12 : Fld Z h12 b11 "com/example/prewrm/prewrm/model/ReplayConfig" "keepAliveMs" "J" (.long KK) := F_keepAliveMs_b11_11.keep Kc12 nin0
  have F_coldStartMs_b11_12 : Fld Z h12 b11 "com/example/prewrm/prewrm/model/ReplayConfig" "coldStartMs" "J" (.long (500 : Int64)) := F_coldStartMs_b11_11.keep Kc12 nin0
  have F_durationMs_b11_12 : Fld Z h12 b11 "com/example/prewrm/prewrm/model/ReplayConfig" "durationMs" "J" (.long DD) := F_durationMs_b11_11.keep Kc12 nin0
  have F_maxConcurrent_b11_12 : Fld Z h12 b11 "com/example/prewrm/prewrm/model/ReplayConfig" "maxConcurrent" "I" (.int (1 : Int32)) := F_maxConcurrent_b11_11.keep Kc12 nin0
  have F_capacity_b11_12 : Fld Z h12 b11 "com/example/prewrm/prewrm/model/ReplayConfig" "capacity" "I" (.int (2147483647 : Int32)) := F_capacity_b11_11.keep Kc12 nin0
  have F_warmUpMs_b11_12 : Fld Z h12 b11 "com/example/prewrm/prewrm/model/ReplayConfig" "warmUpMs" "J" (.long WW) := F_warmUpMs_b11_11.keep Kc12 nin0
  have F_hopMs_b11_12 : Fld Z h12 b11 "com/example/prewrm/prewrm/model/ReplayConfig" "hopMs" "J" (.long HH) := F_hopMs_b11_11.keep Kc12 nin0
  have K12 := K11.trans Kc12 all0
  have Zs12 := Nat.le_trans Zs11 Kc12.1
  have O12 := O11.keep Kc12 all0
  have Sk12 := Nat.le_trans Sk11 Kc12.1
  have E_b12_12 : Exa Z h12 b12 "com/example/prewrm/prewrm/model/ReplayConfig" := E_b12_12q
  have F_servers_b12_12 : Fld Z h12 b12 "com/example/prewrm/prewrm/model/ReplayConfig" "servers" "I" (.int SV) := F_servers_b12_12q
  have F_sharding_b12_12 : Fld Z h12 b12 "com/example/prewrm/prewrm/model/ReplayConfig" "sharding" "Z" (.int (nar .boolean (nar .boolean (nar .boolean (nar .boolean (nar .boolean (nar .boolean v2))))))) := F_sharding_b12_12q
  have F_keepAliveMs_b12_12 : Fld Z h12 b12 "com/example/prewrm/prewrm/model/ReplayConfig" "keepAliveMs" "J" (.long KK) := F_keepAliveMs_b12_12q
  have F_coldStartMs_b12_12 : Fld Z h12 b12 "com/example/prewrm/prewrm/model/ReplayConfig" "coldStartMs" "J" (.long CC) := F_coldStartMs_b12_12q
  have F_durationMs_b12_12 : Fld Z h12 b12 "com/example/prewrm/prewrm/model/ReplayConfig" "durationMs" "J" (.long DD) := F_durationMs_b12_12q
  have F_maxConcurrent_b12_12 : Fld Z h12 b12 "com/example/prewrm/prewrm/model/ReplayConfig" "maxConcurrent" "I" (.int (1 : Int32)) := F_maxConcurrent_b12_12q
  have F_capacity_b12_12 : Fld Z h12 b12 "com/example/prewrm/prewrm/model/ReplayConfig" "capacity" "I" (.int (2147483647 : Int32)) := F_capacity_b12_12q
  have F_warmUpMs_b12_12 : Fld Z h12 b12 "com/example/prewrm/prewrm/model/ReplayConfig" "warmUpMs" "J" (.long WW) := F_warmUpMs_b12_12q
  have F_hopMs_b12_12 : Fld Z h12 b12 "com/example/prewrm/prewrm/model/ReplayConfig" "hopMs" "J" (.long HH) := F_hopMs_b12_12q
  have N12 := Fr.app N11 N12q
  obtain ⟨cq13, kq13, q13a, q13b, q13c⟩ := isOf hZ e12 E_b12_12
  obtain ⟨_, _, ⟨T13, L13, k13, n13⟩, -, X13, ⟨Lc13, hQ13, l13, y13, z13⟩, st13⟩ := X12.virtualBack hx (y := (⟨"com/example/prewrm/prewrm/model/ReplayConfig", "getColdStartMs", "()J"⟩ : MethodName)) (z := (⟨"com/example/prewrm/prewrm/model/ReplayConfig", "getColdStartMs", "()J"⟩ : MethodName)) hown (mvT hZ (hw _ (List.mem_of_getElem? (i := 82) rfl))) (mvT hZ (hw _ (List.mem_of_getElem? (i := 83) rfl))) (notFace_of_selects (args := #[]) (mvT hZ (hw _ (List.mem_of_getElem? (i := 85) rfl)))) (mvT hZ (hw _ (List.mem_of_getElem? (i := 85) rfl))) (mvT hZ (hw _ (List.mem_of_getElem? (i := 84) rfl))) (by decide) (backOf (W := 0) (rm11 l Z a0 hw [] b12 CC h12 n0 Zs12 F_coldStartMs_b12_12) hZ (hw _ (List.mem_of_getElem? (i := 86) rfl)) (hw _ (List.mem_of_getElem? (i := 7) rfl)) (by decide) (by decide)) q13a q13c (g := (mkF m 111 #[.val (.int p1), .val (.long q2), .second, .val (.long q3), .second, .val (.long q4), .second, .val (.long q5), .second, .val (.long q6), .second, .val (.int v2), .val (.int SV), .val (.long CC), .second, .val (.long KK), .second, .val (.long DD), .second, .val (.long WW), .second, .val (.long HH), .second, .val (.ref b11), .val (.ref b12)] [(.ref b12)])) rfl (by rw [hml]; rfl) (Steps.refl _) (argsL := []) (rest := []) (lenOf pd_5 rfl) rfl (by show 2 * 0 + _ ≤ _; exact Nat.le_of_eq rfl) (hb hby at_111) (fun _ _ => ⟨rfl, e12, (by decide : 22 + 0 ≤ _), (by decide : 378 + 0 ≤ _)⟩)
  dsimp only [Pt.U, Pt.locs, Pt.cells, Pt.slots] at X13 l13 y13 z13 st13 hQ13
  subst l13 y13 z13
  obtain ⟨rfl, N13q, e13⟩ := hQ13
  have N13 := Fr.app N12 N13q
  obtain ⟨cq14, kq14, q14a, q14b, q14c⟩ := isOf hZ e13 E_b12_12
  obtain ⟨_, _, ⟨T14, L14, k14, n14⟩, -, X14, ⟨Lc14, hQ14, l14, y14, z14⟩, st14⟩ := X13.virtualBack hx (y := (⟨"com/example/prewrm/prewrm/model/ReplayConfig", "getServers", "()I"⟩ : MethodName)) (z := (⟨"com/example/prewrm/prewrm/model/ReplayConfig", "getServers", "()I"⟩ : MethodName)) hown (mvT hZ (hw _ (List.mem_of_getElem? (i := 87) rfl))) (mvT hZ (hw _ (List.mem_of_getElem? (i := 88) rfl))) (notFace_of_selects (args := #[]) (mvT hZ (hw _ (List.mem_of_getElem? (i := 90) rfl)))) (mvT hZ (hw _ (List.mem_of_getElem? (i := 90) rfl))) (mvT hZ (hw _ (List.mem_of_getElem? (i := 89) rfl))) (by decide) (backOf (W := 0) (rm12 l Z a0 hw [] b12 SV h12 n0 Zs12 F_servers_b12_12) hZ (hw _ (List.mem_of_getElem? (i := 91) rfl)) (hw _ (List.mem_of_getElem? (i := 7) rfl)) (by decide) (by decide)) q14a q14c (g := (mkF m 122 #[.val (.int p1), .val (.long q2), .second, .val (.long q3), .second, .val (.long q4), .second, .val (.long q5), .second, .val (.long q6), .second, .val (.int v2), .val (.int SV), .val (.long CC), .second, .val (.long KK), .second, .val (.long DD), .second, .val (.long WW), .second, .val (.long HH), .second, .val (.ref b11), .val (.ref b12)] [(.ref b12)])) rfl (by rw [hml]; rfl) (Steps.refl _) (argsL := []) (rest := []) (lenOf pd_6 rfl) rfl (by show 2 * 0 + _ ≤ _; exact Nat.le_of_eq rfl) (hb hby at_122) (fun _ _ => ⟨rfl, e13, (by decide : 22 + 0 ≤ _), (by decide : 378 + 0 ≤ _)⟩)
  dsimp only [Pt.U, Pt.locs, Pt.cells, Pt.slots] at X14 l14 y14 z14 st14 hQ14
  subst l14 y14 z14
  obtain ⟨rfl, N14q, e14⟩ := hQ14
  have N14 := Fr.app N13 N14q
  obtain ⟨cq15, kq15, q15a, q15b, q15c⟩ := isOf hZ e14 E_b12_12
  obtain ⟨_, _, ⟨T15, L15, k15, n15⟩, -, X15, ⟨Lc15, hQ15, l15, y15, z15⟩, st15⟩ := X14.virtualBack hx (y := (⟨"com/example/prewrm/prewrm/model/ReplayConfig", "isSharding", "()Z"⟩ : MethodName)) (z := (⟨"com/example/prewrm/prewrm/model/ReplayConfig", "isSharding", "()Z"⟩ : MethodName)) hown (mvT hZ (hw _ (List.mem_of_getElem? (i := 92) rfl))) (mvT hZ (hw _ (List.mem_of_getElem? (i := 93) rfl))) (notFace_of_selects (args := #[]) (mvT hZ (hw _ (List.mem_of_getElem? (i := 95) rfl)))) (mvT hZ (hw _ (List.mem_of_getElem? (i := 95) rfl))) (mvT hZ (hw _ (List.mem_of_getElem? (i := 94) rfl))) (by decide) (backOf (W := 0) (rm13 l Z a0 hw [] b12 (nar .boolean (nar .boolean (nar .boolean (nar .boolean (nar .boolean (nar .boolean v2)))))) h12 n0 Zs12 F_sharding_b12_12) hZ (hw _ (List.mem_of_getElem? (i := 96) rfl)) (hw _ (List.mem_of_getElem? (i := 7) rfl)) (by decide) (by decide)) q15a q15c (g := (mkF m 132 #[.val (.int p1), .val (.long q2), .second, .val (.long q3), .second, .val (.long q4), .second, .val (.long q5), .second, .val (.long q6), .second, .val (.int v2), .val (.int SV), .val (.long CC), .second, .val (.long KK), .second, .val (.long DD), .second, .val (.long WW), .second, .val (.long HH), .second, .val (.ref b11), .val (.ref b12)] [(.ref b12)])) rfl (by rw [hml]; rfl) (Steps.refl _) (argsL := []) (rest := []) (lenOf pd_7 rfl) rfl (by show 2 * 0 + _ ≤ _; exact Nat.le_of_eq rfl) (hb hby at_132) (fun _ _ => ⟨rfl, e14, (by decide : 22 + 0 ≤ _), (by decide : 378 + 0 ≤ _)⟩)
  dsimp only [Pt.U, Pt.locs, Pt.cells, Pt.slots] at X15 l15 y15 z15 st15 hQ15
  subst l15 y15 z15
  obtain ⟨rfl, N15q, e15⟩ := hQ15
  have N15 := Fr.app N14 N15q
  obtain ⟨cq16, kq16, q16a, q16b, q16c⟩ := isOf hZ e15 E_b12_12
  obtain ⟨_, _, ⟨T16, L16, k16, n16⟩, -, X16, ⟨Lc16, hQ16, l16, y16, z16⟩, st16⟩ := X15.virtualBack hx (y := (⟨"com/example/prewrm/prewrm/model/ReplayConfig", "getKeepAliveMs", "()J"⟩ : MethodName)) (z := (⟨"com/example/prewrm/prewrm/model/ReplayConfig", "getKeepAliveMs", "()J"⟩ : MethodName)) hown (mvT hZ (hw _ (List.mem_of_getElem? (i := 97) rfl))) (mvT hZ (hw _ (List.mem_of_getElem? (i := 98) rfl))) (notFace_of_selects (args := #[]) (mvT hZ (hw _ (List.mem_of_getElem? (i := 100) rfl)))) (mvT hZ (hw _ (List.mem_of_getElem? (i := 100) rfl))) (mvT hZ (hw _ (List.mem_of_getElem? (i := 99) rfl))) (by decide) (backOf (W := 0) (rm14 l Z a0 hw [] b12 KK h12 n0 Zs12 F_keepAliveMs_b12_12) hZ (hw _ (List.mem_of_getElem? (i := 101) rfl)) (hw _ (List.mem_of_getElem? (i := 7) rfl)) (by decide) (by decide)) q16a q16c (g := (mkF m 142 #[.val (.int p1), .val (.long q2), .second, .val (.long q3), .second, .val (.long q4), .second, .val (.long q5), .second, .val (.long q6), .second, .val (.int v2), .val (.int SV), .val (.long CC), .second, .val (.long KK), .second, .val (.long DD), .second, .val (.long WW), .second, .val (.long HH), .second, .val (.ref b11), .val (.ref b12)] [(.ref b12)])) rfl (by rw [hml]; rfl) (Steps.refl _) (argsL := []) (rest := []) (lenOf pd_5 rfl) rfl (by show 2 * 0 + _ ≤ _; exact Nat.le_of_eq rfl) (hb hby at_142) (fun _ _ => ⟨rfl, e15, (by decide : 22 + 0 ≤ _), (by decide : 378 + 0 ≤ _)⟩)
  dsimp only [Pt.U, Pt.locs, Pt.cells, Pt.slots] at X16 l16 y16 z16 st16 hQ16
  subst l16 y16 z16
  obtain ⟨rfl, N16q, e16⟩ := hQ16
  have N16 := Fr.app N15 N16q
  obtain ⟨cq17, kq17, q17a, q17b, q17c⟩ := isOf hZ e16 E_b12_12
  obtain ⟨_, _, ⟨T17, L17, k17, n17⟩, -, X17, ⟨Lc17, hQ17, l17, y17, z17⟩, st17⟩ := X16.virtualBack hx (y := (⟨"com/example/prewrm/prewrm/model/ReplayConfig", "getDurationMs", "()J"⟩ : MethodName)) (z := (⟨"com/example/prewrm/prewrm/model/ReplayConfig", "getDurationMs", "()J"⟩ : MethodName)) hown (mvT hZ (hw _ (List.mem_of_getElem? (i := 102) rfl))) (mvT hZ (hw _ (List.mem_of_getElem? (i := 103) rfl))) (notFace_of_selects (args := #[]) (mvT hZ (hw _ (List.mem_of_getElem? (i := 105) rfl)))) (mvT hZ (hw _ (List.mem_of_getElem? (i := 105) rfl))) (mvT hZ (hw _ (List.mem_of_getElem? (i := 104) rfl))) (by decide) (backOf (W := 0) (rm15 l Z a0 hw [] b12 DD h12 n0 Zs12 F_durationMs_b12_12) hZ (hw _ (List.mem_of_getElem? (i := 106) rfl)) (hw _ (List.mem_of_getElem? (i := 7) rfl)) (by decide) (by decide)) q17a q17c (g := (mkF m 153 #[.val (.int p1), .val (.long q2), .second, .val (.long q3), .second, .val (.long q4), .second, .val (.long q5), .second, .val (.long q6), .second, .val (.int v2), .val (.int SV), .val (.long CC), .second, .val (.long KK), .second, .val (.long DD), .second, .val (.long WW), .second, .val (.long HH), .second, .val (.ref b11), .val (.ref b12)] [(.ref b12)])) rfl (by rw [hml]; rfl) (Steps.refl _) (argsL := []) (rest := []) (lenOf pd_5 rfl) rfl (by show 2 * 0 + _ ≤ _; exact Nat.le_of_eq rfl) (hb hby at_153) (fun _ _ => ⟨rfl, e16, (by decide : 22 + 0 ≤ _), (by decide : 378 + 0 ≤ _)⟩)
  dsimp only [Pt.U, Pt.locs, Pt.cells, Pt.slots] at X17 l17 y17 z17 st17 hQ17
  subst l17 y17 z17
  obtain ⟨rfl, N17q, e17⟩ := hQ17
  have N17 := Fr.app N16 N17q
  obtain ⟨cq18, kq18, q18a, q18b, q18c⟩ := isOf hZ e17 E_b12_12
  obtain ⟨_, _, ⟨T18, L18, k18, n18⟩, -, X18, ⟨Lc18, hQ18, l18, y18, z18⟩, st18⟩ := X17.virtualBack hx (y := (⟨"com/example/prewrm/prewrm/model/ReplayConfig", "getMaxConcurrent", "()I"⟩ : MethodName)) (z := (⟨"com/example/prewrm/prewrm/model/ReplayConfig", "getMaxConcurrent", "()I"⟩ : MethodName)) hown (mvT hZ (hw _ (List.mem_of_getElem? (i := 107) rfl))) (mvT hZ (hw _ (List.mem_of_getElem? (i := 108) rfl))) (notFace_of_selects (args := #[]) (mvT hZ (hw _ (List.mem_of_getElem? (i := 110) rfl)))) (mvT hZ (hw _ (List.mem_of_getElem? (i := 110) rfl))) (mvT hZ (hw _ (List.mem_of_getElem? (i := 109) rfl))) (by decide) (backOf (W := 0) (rm16 l Z a0 hw [] b12 (1 : Int32) h12 n0 Zs12 F_maxConcurrent_b12_12) hZ (hw _ (List.mem_of_getElem? (i := 111) rfl)) (hw _ (List.mem_of_getElem? (i := 7) rfl)) (by decide) (by decide)) q18a q18c (g := (mkF m 164 #[.val (.int p1), .val (.long q2), .second, .val (.long q3), .second, .val (.long q4), .second, .val (.long q5), .second, .val (.long q6), .second, .val (.int v2), .val (.int SV), .val (.long CC), .second, .val (.long KK), .second, .val (.long DD), .second, .val (.long WW), .second, .val (.long HH), .second, .val (.ref b11), .val (.ref b12)] [(.ref b12)])) rfl (by rw [hml]; rfl) (Steps.refl _) (argsL := []) (rest := []) (lenOf pd_6 rfl) rfl (by show 2 * 0 + _ ≤ _; exact Nat.le_of_eq rfl) (hb hby at_164) (fun _ _ => ⟨rfl, e17, (by decide : 22 + 0 ≤ _), (by decide : 378 + 0 ≤ _)⟩)
  dsimp only [Pt.U, Pt.locs, Pt.cells, Pt.slots] at X18 l18 y18 z18 st18 hQ18
  subst l18 y18 z18
  obtain ⟨rfl, N18q, e18⟩ := hQ18
  have N18 := Fr.app N17 N18q
  obtain ⟨cq19, kq19, q19a, q19b, q19c⟩ := isOf hZ e18 E_b12_12
  obtain ⟨_, _, ⟨T19, L19, k19, n19⟩, -, X19, ⟨Lc19, hQ19, l19, y19, z19⟩, st19⟩ := X18.virtualBack hx (y := (⟨"com/example/prewrm/prewrm/model/ReplayConfig", "getCapacity", "()I"⟩ : MethodName)) (z := (⟨"com/example/prewrm/prewrm/model/ReplayConfig", "getCapacity", "()I"⟩ : MethodName)) hown (mvT hZ (hw _ (List.mem_of_getElem? (i := 112) rfl))) (mvT hZ (hw _ (List.mem_of_getElem? (i := 113) rfl))) (notFace_of_selects (args := #[]) (mvT hZ (hw _ (List.mem_of_getElem? (i := 115) rfl)))) (mvT hZ (hw _ (List.mem_of_getElem? (i := 115) rfl))) (mvT hZ (hw _ (List.mem_of_getElem? (i := 114) rfl))) (by decide) (backOf (W := 0) (rm17 l Z a0 hw [] b12 (2147483647 : Int32) h12 n0 Zs12 F_capacity_b12_12) hZ (hw _ (List.mem_of_getElem? (i := 116) rfl)) (hw _ (List.mem_of_getElem? (i := 7) rfl)) (by decide) (by decide)) q19a q19c (g := (mkF m 173 #[.val (.int p1), .val (.long q2), .second, .val (.long q3), .second, .val (.long q4), .second, .val (.long q5), .second, .val (.long q6), .second, .val (.int v2), .val (.int SV), .val (.long CC), .second, .val (.long KK), .second, .val (.long DD), .second, .val (.long WW), .second, .val (.long HH), .second, .val (.ref b11), .val (.ref b12)] [(.ref b12)])) rfl (by rw [hml]; rfl) (Steps.refl _) (argsL := []) (rest := []) (lenOf pd_6 rfl) rfl (by show 2 * 0 + _ ≤ _; exact Nat.le_of_eq rfl) (hb hby at_173) (fun _ _ => ⟨rfl, e18, (by decide : 22 + 0 ≤ _), (by decide : 378 + 0 ≤ _)⟩)
  dsimp only [Pt.U, Pt.locs, Pt.cells, Pt.slots] at X19 l19 y19 z19 st19 hQ19
  subst l19 y19 z19
  obtain ⟨rfl, N19q, e19⟩ := hQ19
  have N19 := Fr.app N18 N19q
  obtain ⟨cq20, kq20, q20a, q20b, q20c⟩ := isOf hZ e19 E_b12_12
  obtain ⟨_, _, ⟨T20, L20, k20, n20⟩, -, X20, ⟨Lc20, hQ20, l20, y20, z20⟩, st20⟩ := X19.virtualBack hx (y := (⟨"com/example/prewrm/prewrm/model/ReplayConfig", "getWarmUpMs", "()J"⟩ : MethodName)) (z := (⟨"com/example/prewrm/prewrm/model/ReplayConfig", "getWarmUpMs", "()J"⟩ : MethodName)) hown (mvT hZ (hw _ (List.mem_of_getElem? (i := 118) rfl))) (mvT hZ (hw _ (List.mem_of_getElem? (i := 119) rfl))) (notFace_of_selects (args := #[]) (mvT hZ (hw _ (List.mem_of_getElem? (i := 121) rfl)))) (mvT hZ (hw _ (List.mem_of_getElem? (i := 121) rfl))) (mvT hZ (hw _ (List.mem_of_getElem? (i := 120) rfl))) (by decide) (backOf (W := 0) (rm18 l Z a0 hw [] b12 WW h12 n0 Zs12 F_warmUpMs_b12_12) hZ (hw _ (List.mem_of_getElem? (i := 122) rfl)) (hw _ (List.mem_of_getElem? (i := 7) rfl)) (by decide) (by decide)) q20a q20c (g := (mkF m 183 #[.val (.int p1), .val (.long q2), .second, .val (.long q3), .second, .val (.long q4), .second, .val (.long q5), .second, .val (.long q6), .second, .val (.int v2), .val (.int SV), .val (.long CC), .second, .val (.long KK), .second, .val (.long DD), .second, .val (.long WW), .second, .val (.long HH), .second, .val (.ref b11), .val (.ref b12)] [(.ref b12)])) rfl (by rw [hml]; rfl) (Steps.refl _) (argsL := []) (rest := []) (lenOf pd_5 rfl) rfl (by show 2 * 0 + _ ≤ _; exact Nat.le_of_eq rfl) (hb hby at_183) (fun _ _ => ⟨rfl, e19, (by decide : 22 + 0 ≤ _), (by decide : 378 + 0 ≤ _)⟩)
  dsimp only [Pt.U, Pt.locs, Pt.cells, Pt.slots] at X20 l20 y20 z20 st20 hQ20
  subst l20 y20 z20
  obtain ⟨rfl, N20q, e20⟩ := hQ20
  have N20 := Fr.app N19 N20q
  obtain ⟨cq21, kq21, q21a, q21b, q21c⟩ := isOf hZ e20 E_b12_12
  obtain ⟨_, _, ⟨T21, L21, k21, n21⟩, -, X21, ⟨Lc21, hQ21, l21, y21, z21⟩, st21⟩ := X20.virtualBack hx (y := (⟨"com/example/prewrm/prewrm/model/ReplayConfig", "getHopMs", "()J"⟩ : MethodName)) (z := (⟨"com/example/prewrm/prewrm/model/ReplayConfig", "getHopMs", "()J"⟩ : MethodName)) hown (mvT hZ (hw _ (List.mem_of_getElem? (i := 123) rfl))) (mvT hZ (hw _ (List.mem_of_getElem? (i := 124) rfl))) (notFace_of_selects (args := #[]) (mvT hZ (hw _ (List.mem_of_getElem? (i := 126) rfl)))) (mvT hZ (hw _ (List.mem_of_getElem? (i := 126) rfl))) (mvT hZ (hw _ (List.mem_of_getElem? (i := 125) rfl))) (by decide) (backOf (W := 0) (rm19 l Z a0 hw [] b12 HH h12 n0 Zs12 F_hopMs_b12_12) hZ (hw _ (List.mem_of_getElem? (i := 127) rfl)) (hw _ (List.mem_of_getElem? (i := 7) rfl)) (by decide) (by decide)) q21a q21c (g := (mkF m 194 #[.val (.int p1), .val (.long q2), .second, .val (.long q3), .second, .val (.long q4), .second, .val (.long q5), .second, .val (.long q6), .second, .val (.int v2), .val (.int SV), .val (.long CC), .second, .val (.long KK), .second, .val (.long DD), .second, .val (.long WW), .second, .val (.long HH), .second, .val (.ref b11), .val (.ref b12)] [(.ref b12)])) rfl (by rw [hml]; rfl) (Steps.refl _) (argsL := []) (rest := []) (lenOf pd_5 rfl) rfl (by show 2 * 0 + _ ≤ _; exact Nat.le_of_eq rfl) (hb hby at_194) (fun _ _ => ⟨rfl, e20, (by decide : 22 + 0 ≤ _), (by decide : 378 + 0 ≤ _)⟩)
  dsimp only [Pt.U, Pt.locs, Pt.cells, Pt.slots] at X21 l21 y21 z21 st21 hQ21
  subst l21 y21 z21
  obtain ⟨rfl, N21q, e21⟩ := hQ21
  have N21 := Fr.app N20 N21q
  obtain ⟨cq22, kq22, q22a, q22b, q22c⟩ := isOf hZ e21 E_b11_12
  obtain ⟨_, _, ⟨T22, L22, k22, n22⟩, -, X22, ⟨Lc22, hQ22, l22, y22, z22⟩, st22⟩ := X21.virtualBack hx (y := (⟨"com/example/prewrm/prewrm/model/ReplayConfig", "getColdStartMs", "()J"⟩ : MethodName)) (z := (⟨"com/example/prewrm/prewrm/model/ReplayConfig", "getColdStartMs", "()J"⟩ : MethodName)) hown (mvT hZ (hw _ (List.mem_of_getElem? (i := 82) rfl))) (mvT hZ (hw _ (List.mem_of_getElem? (i := 83) rfl))) (notFace_of_selects (args := #[]) (mvT hZ (hw _ (List.mem_of_getElem? (i := 85) rfl)))) (mvT hZ (hw _ (List.mem_of_getElem? (i := 85) rfl))) (mvT hZ (hw _ (List.mem_of_getElem? (i := 84) rfl))) (by decide) (backOf (W := 0) (rm11 l Z a0 hw [] b11 (500 : Int64) h12 n0 Zs12 F_coldStartMs_b11_12) hZ (hw _ (List.mem_of_getElem? (i := 86) rfl)) (hw _ (List.mem_of_getElem? (i := 7) rfl)) (by decide) (by decide)) q22a q22c (g := (mkF m 205 #[.val (.int p1), .val (.long q2), .second, .val (.long q3), .second, .val (.long q4), .second, .val (.long q5), .second, .val (.long q6), .second, .val (.int v2), .val (.int SV), .val (.long CC), .second, .val (.long KK), .second, .val (.long DD), .second, .val (.long WW), .second, .val (.long HH), .second, .val (.ref b11), .val (.ref b12)] [(.ref b11)])) rfl (by rw [hml]; rfl) (Steps.refl _) (argsL := []) (rest := []) (lenOf pd_5 rfl) rfl (by show 2 * 0 + _ ≤ _; exact Nat.le_of_eq rfl) (hb hby at_205) (fun _ _ => ⟨rfl, e21, (by decide : 22 + 0 ≤ _), (by decide : 378 + 0 ≤ _)⟩)
  dsimp only [Pt.U, Pt.locs, Pt.cells, Pt.slots] at X22 l22 y22 z22 st22 hQ22
  subst l22 y22 z22
  obtain ⟨rfl, N22q, e22⟩ := hQ22
  have N22 := Fr.app N21 N22q
  have er : f0 = (1 : Int32) := by subst hv2 hSV hCC hKK hDD hWW hHH; exact rfl
  obtain ⟨fs, hr, hrun, hended, hWe⟩ := X22.leaveW Si6 (Nat.le_trans Sk12 (Nat.le_of_eq (congrArg Array.size (Eq.symm e22)))) (v := some (.int (1 : Int32))) (fun h => by rw [Bd.returns] at h; cases h)
  refine ⟨_, _, pre7 _ ?_, hrun, hended, _, _, rfl, ?_, hWe.1, hWe.2.1, hWe.2.2.1, hWe.2.2.2.mono (by decide) (by decide)⟩
  · show Steps p.tables e below (T5.setTop (mkF m 68 #[.val (.int p1), .val (.long q2), .second, .val (.long q3), .second, .val (.long q4), .second, .val (.long q5), .second, .val (.long q6), .second, .val (.int v2), .val (.int SV), .val (.long CC), .second, .val (.long KK), .second, .val (.long DD), .second, .val (.long WW), .second, .val (.long HH), .second, .unset, .unset] [(.int v2), (.int SV), (.ref b5), (.ref b5)])) _
    refine st6.trans ?_
    show Steps p.tables e below (T6.setTop (mkF m 71 #[.val (.int p1), .val (.long q2), .second, .val (.long q3), .second, .val (.long q4), .second, .val (.long q5), .second, .val (.long q6), .second, .val (.int v2), .val (.int SV), .val (.long CC), .second, .val (.long KK), .second, .val (.long DD), .second, .val (.long WW), .second, .val (.long HH), .second, .unset, .unset] [(.ref b5)])) _
    refine XS.lload X6.here hx rfl (hb hby at_71) rfl ?_
    show Steps p.tables e below (T6.setTop (mkF m 73 #[.val (.int p1), .val (.long q2), .second, .val (.long q3), .second, .val (.long q4), .second, .val (.long q5), .second, .val (.long q6), .second, .val (.int v2), .val (.int SV), .val (.long CC), .second, .val (.long KK), .second, .val (.long DD), .second, .val (.long WW), .second, .val (.long HH), .second, .unset, .unset] [(.long KK), (.ref b5)])) _
    refine st8.trans ?_
    show Steps p.tables e below (T8.setTop (mkF m 76 #[.val (.int p1), .val (.long q2), .second, .val (.long q3), .second, .val (.long q4), .second, .val (.long q5), .second, .val (.long q6), .second, .val (.int v2), .val (.int SV), .val (.long CC), .second, .val (.long KK), .second, .val (.long DD), .second, .val (.long WW), .second, .val (.long HH), .second, .unset, .unset] [(.ref b8)])) _
    refine XS.lload X8.here hx rfl (hb hby at_76) rfl ?_
    show Steps p.tables e below (T8.setTop (mkF m 78 #[.val (.int p1), .val (.long q2), .second, .val (.long q3), .second, .val (.long q4), .second, .val (.long q5), .second, .val (.long q6), .second, .val (.int v2), .val (.int SV), .val (.long CC), .second, .val (.long KK), .second, .val (.long DD), .second, .val (.long WW), .second, .val (.long HH), .second, .unset, .unset] [(.long DD), (.ref b8)])) _
    refine st9.trans ?_
    show Steps p.tables e below (T9.setTop (mkF m 81 #[.val (.int p1), .val (.long q2), .second, .val (.long q3), .second, .val (.long q4), .second, .val (.long q5), .second, .val (.long q6), .second, .val (.int v2), .val (.int SV), .val (.long CC), .second, .val (.long KK), .second, .val (.long DD), .second, .val (.long WW), .second, .val (.long HH), .second, .unset, .unset] [(.ref b9)])) _
    refine XS.lload X9.here hx rfl (hb hby at_81) rfl ?_
    show Steps p.tables e below (T9.setTop (mkF m 83 #[.val (.int p1), .val (.long q2), .second, .val (.long q3), .second, .val (.long q4), .second, .val (.long q5), .second, .val (.long q6), .second, .val (.int v2), .val (.int SV), .val (.long CC), .second, .val (.long KK), .second, .val (.long DD), .second, .val (.long WW), .second, .val (.long HH), .second, .unset, .unset] [(.long WW), (.ref b9)])) _
    refine st10.trans ?_
    show Steps p.tables e below (T10.setTop (mkF m 86 #[.val (.int p1), .val (.long q2), .second, .val (.long q3), .second, .val (.long q4), .second, .val (.long q5), .second, .val (.long q6), .second, .val (.int v2), .val (.int SV), .val (.long CC), .second, .val (.long KK), .second, .val (.long DD), .second, .val (.long WW), .second, .val (.long HH), .second, .unset, .unset] [(.ref b10)])) _
    refine XS.lload X10.here hx rfl (hb hby at_86) rfl ?_
    show Steps p.tables e below (T10.setTop (mkF m 88 #[.val (.int p1), .val (.long q2), .second, .val (.long q3), .second, .val (.long q4), .second, .val (.long q5), .second, .val (.long q6), .second, .val (.int v2), .val (.int SV), .val (.long CC), .second, .val (.long KK), .second, .val (.long DD), .second, .val (.long WW), .second, .val (.long HH), .second, .unset, .unset] [(.long HH), (.ref b10)])) _
    refine st11.trans ?_
    show Steps p.tables e below (T11.setTop (mkF m 91 #[.val (.int p1), .val (.long q2), .second, .val (.long q3), .second, .val (.long q4), .second, .val (.long q5), .second, .val (.long q6), .second, .val (.int v2), .val (.int SV), .val (.long CC), .second, .val (.long KK), .second, .val (.long DD), .second, .val (.long WW), .second, .val (.long HH), .second, .unset, .unset] [(.ref b11)])) _
    refine XS.astore X11.here hx rfl (hb hby at_91) rfl rfl (l' := #[.val (.int p1), .val (.long q2), .second, .val (.long q3), .second, .val (.long q4), .second, .val (.long q5), .second, .val (.long q6), .second, .val (.int v2), .val (.int SV), .val (.long CC), .second, .val (.long KK), .second, .val (.long DD), .second, .val (.long WW), .second, .val (.long HH), .second, .val (.ref b11), .unset]) rfl ?_
    show Steps p.tables e below (T11.setTop (mkF m 93 #[.val (.int p1), .val (.long q2), .second, .val (.long q3), .second, .val (.long q4), .second, .val (.long q5), .second, .val (.long q6), .second, .val (.int v2), .val (.int SV), .val (.long CC), .second, .val (.long KK), .second, .val (.long DD), .second, .val (.long WW), .second, .val (.long HH), .second, .val (.ref b11), .unset] [])) _
    refine XS.aload X11.here hx rfl (hb hby at_93) rfl rfl ?_
    show Steps p.tables e below (T11.setTop (mkF m 95 #[.val (.int p1), .val (.long q2), .second, .val (.long q3), .second, .val (.long q4), .second, .val (.long q5), .second, .val (.long q6), .second, .val (.int v2), .val (.int SV), .val (.long CC), .second, .val (.long KK), .second, .val (.long DD), .second, .val (.long WW), .second, .val (.long HH), .second, .val (.ref b11), .unset] [(.ref b11)])) _
    refine XS.lload X11.here hx rfl (hb hby at_95) rfl ?_
    show Steps p.tables e below (T11.setTop (mkF m 97 #[.val (.int p1), .val (.long q2), .second, .val (.long q3), .second, .val (.long q4), .second, .val (.long q5), .second, .val (.long q6), .second, .val (.int v2), .val (.int SV), .val (.long CC), .second, .val (.long KK), .second, .val (.long DD), .second, .val (.long WW), .second, .val (.long HH), .second, .val (.ref b11), .unset] [(.long CC), (.ref b11)])) _
    refine st12.trans ?_
    show Steps p.tables e below (T12.setTop (mkF m 100 #[.val (.int p1), .val (.long q2), .second, .val (.long q3), .second, .val (.long q4), .second, .val (.long q5), .second, .val (.long q6), .second, .val (.int v2), .val (.int SV), .val (.long CC), .second, .val (.long KK), .second, .val (.long DD), .second, .val (.long WW), .second, .val (.long HH), .second, .val (.ref b11), .unset] [(.ref b12)])) _
    refine XS.astore X12.here hx rfl (hb hby at_100) rfl rfl (l' := #[.val (.int p1), .val (.long q2), .second, .val (.long q3), .second, .val (.long q4), .second, .val (.long q5), .second, .val (.long q6), .second, .val (.int v2), .val (.int SV), .val (.long CC), .second, .val (.long KK), .second, .val (.long DD), .second, .val (.long WW), .second, .val (.long HH), .second, .val (.ref b11), .val (.ref b12)]) rfl ?_
    show Steps p.tables e below (T12.setTop (mkF m 102 #[.val (.int p1), .val (.long q2), .second, .val (.long q3), .second, .val (.long q4), .second, .val (.long q5), .second, .val (.long q6), .second, .val (.int v2), .val (.int SV), .val (.long CC), .second, .val (.long KK), .second, .val (.long DD), .second, .val (.long WW), .second, .val (.long HH), .second, .val (.ref b11), .val (.ref b12)] [])) _
    refine XS.aload X12.here hx rfl (hb hby at_102) rfl rfl ?_
    show Steps p.tables e below (T12.setTop (mkF m 104 #[.val (.int p1), .val (.long q2), .second, .val (.long q3), .second, .val (.long q4), .second, .val (.long q5), .second, .val (.long q6), .second, .val (.int v2), .val (.int SV), .val (.long CC), .second, .val (.long KK), .second, .val (.long DD), .second, .val (.long WW), .second, .val (.long HH), .second, .val (.ref b11), .val (.ref b12)] [(.ref b12)])) _
    refine XS.aload X12.here hx rfl (hb hby at_104) rfl rfl ?_
    show Steps p.tables e below (T12.setTop (mkF m 106 #[.val (.int p1), .val (.long q2), .second, .val (.long q3), .second, .val (.long q4), .second, .val (.long q5), .second, .val (.long q6), .second, .val (.int v2), .val (.int SV), .val (.long CC), .second, .val (.long KK), .second, .val (.long DD), .second, .val (.long WW), .second, .val (.long HH), .second, .val (.ref b11), .val (.ref b12)] [(.ref b11), (.ref b12)])) _
    refine Jvm.RoadKit.acmp (g := (mkF m 106 #[.val (.int p1), .val (.long q2), .second, .val (.long q3), .second, .val (.long q4), .second, .val (.long q5), .second, .val (.long q6), .second, .val (.int v2), .val (.int SV), .val (.long CC), .second, .val (.long KK), .second, .val (.long DD), .second, .val (.long WW), .second, .val (.long HH), .second, .val (.ref b11), .val (.ref b12)] [(.ref b11), (.ref b12)])) X12 hx rfl rfl rfl (pc0 := 106) (pc' := 109) (same := false) rfl (hb hby at_106) rfl (decide_eq_false fun q => (ne_b11_b12) (Value.ref.inj q).symm) (by decide) (by decide) ?_
    show Steps p.tables e below (T12.setTop (mkF m 109 #[.val (.int p1), .val (.long q2), .second, .val (.long q3), .second, .val (.long q4), .second, .val (.long q5), .second, .val (.long q6), .second, .val (.int v2), .val (.int SV), .val (.long CC), .second, .val (.long KK), .second, .val (.long DD), .second, .val (.long WW), .second, .val (.long HH), .second, .val (.ref b11), .val (.ref b12)] [])) _
    refine XS.aload X12.here hx rfl (hb hby at_109) rfl rfl ?_
    show Steps p.tables e below (T12.setTop (mkF m 111 #[.val (.int p1), .val (.long q2), .second, .val (.long q3), .second, .val (.long q4), .second, .val (.long q5), .second, .val (.long q6), .second, .val (.int v2), .val (.int SV), .val (.long CC), .second, .val (.long KK), .second, .val (.long DD), .second, .val (.long WW), .second, .val (.long HH), .second, .val (.ref b11), .val (.ref b12)] [(.ref b12)])) _
    refine st13.trans ?_
    show Steps p.tables e below (T13.setTop (mkF m 114 #[.val (.int p1), .val (.long q2), .second, .val (.long q3), .second, .val (.long q4), .second, .val (.long q5), .second, .val (.long q6), .second, .val (.int v2), .val (.int SV), .val (.long CC), .second, .val (.long KK), .second, .val (.long DD), .second, .val (.long WW), .second, .val (.long HH), .second, .val (.ref b11), .val (.ref b12)] [(.long (f11 CC))])) _
    refine XS.lload X13.here hx rfl (hb hby at_114) rfl ?_
    show Steps p.tables e below (T13.setTop (mkF m 116 #[.val (.int p1), .val (.long q2), .second, .val (.long q3), .second, .val (.long q4), .second, .val (.long q5), .second, .val (.long q6), .second, .val (.int v2), .val (.int SV), .val (.long CC), .second, .val (.long KK), .second, .val (.long DD), .second, .val (.long WW), .second, .val (.long HH), .second, .val (.ref b11), .val (.ref b12)] [(.long CC), (.long (f11 CC))])) _
    refine XS.lcmp X13.here hx rfl (hb hby at_116) rfl ?_
    show Steps p.tables e below (T13.setTop (mkF m 117 #[.val (.int p1), .val (.long q2), .second, .val (.long q3), .second, .val (.long q4), .second, .val (.long q5), .second, .val (.long q6), .second, .val (.int v2), .val (.int SV), .val (.long CC), .second, .val (.long KK), .second, .val (.long DD), .second, .val (.long WW), .second, .val (.long HH), .second, .val (.ref b11), .val (.ref b12)] [(.int (lcmpW (f11 CC) CC))])) _
    refine XS.ifNo X13.here hx rfl (hb hby at_117) rfl ((if0 _ _).trans (teq (own_lc_teq (show (f11 CC) = CC from rfl))).2) ?_
    show Steps p.tables e below (T13.setTop (mkF m 120 #[.val (.int p1), .val (.long q2), .second, .val (.long q3), .second, .val (.long q4), .second, .val (.long q5), .second, .val (.long q6), .second, .val (.int v2), .val (.int SV), .val (.long CC), .second, .val (.long KK), .second, .val (.long DD), .second, .val (.long WW), .second, .val (.long HH), .second, .val (.ref b11), .val (.ref b12)] [])) _
    refine XS.aload X13.here hx rfl (hb hby at_120) rfl rfl ?_
    show Steps p.tables e below (T13.setTop (mkF m 122 #[.val (.int p1), .val (.long q2), .second, .val (.long q3), .second, .val (.long q4), .second, .val (.long q5), .second, .val (.long q6), .second, .val (.int v2), .val (.int SV), .val (.long CC), .second, .val (.long KK), .second, .val (.long DD), .second, .val (.long WW), .second, .val (.long HH), .second, .val (.ref b11), .val (.ref b12)] [(.ref b12)])) _
    refine st14.trans ?_
    show Steps p.tables e below (T14.setTop (mkF m 125 #[.val (.int p1), .val (.long q2), .second, .val (.long q3), .second, .val (.long q4), .second, .val (.long q5), .second, .val (.long q6), .second, .val (.int v2), .val (.int SV), .val (.long CC), .second, .val (.long KK), .second, .val (.long DD), .second, .val (.long WW), .second, .val (.long HH), .second, .val (.ref b11), .val (.ref b12)] [(.int (f12 SV))])) _
    refine XS.iload X14.here hx rfl (hb hby at_125) rfl ?_
    show Steps p.tables e below (T14.setTop (mkF m 127 #[.val (.int p1), .val (.long q2), .second, .val (.long q3), .second, .val (.long q4), .second, .val (.long q5), .second, .val (.long q6), .second, .val (.int v2), .val (.int SV), .val (.long CC), .second, .val (.long KK), .second, .val (.long DD), .second, .val (.long WW), .second, .val (.long HH), .second, .val (.ref b11), .val (.ref b12)] [(.int SV), (.int (f12 SV))])) _
    refine XS.icmpNo X14.here hx rfl (hb hby at_127) rfl (teq (show (f12 SV) = SV from rfl)).2 ?_
    show Steps p.tables e below (T14.setTop (mkF m 130 #[.val (.int p1), .val (.long q2), .second, .val (.long q3), .second, .val (.long q4), .second, .val (.long q5), .second, .val (.long q6), .second, .val (.int v2), .val (.int SV), .val (.long CC), .second, .val (.long KK), .second, .val (.long DD), .second, .val (.long WW), .second, .val (.long HH), .second, .val (.ref b11), .val (.ref b12)] [])) _
    refine XS.aload X14.here hx rfl (hb hby at_130) rfl rfl ?_
    show Steps p.tables e below (T14.setTop (mkF m 132 #[.val (.int p1), .val (.long q2), .second, .val (.long q3), .second, .val (.long q4), .second, .val (.long q5), .second, .val (.long q6), .second, .val (.int v2), .val (.int SV), .val (.long CC), .second, .val (.long KK), .second, .val (.long DD), .second, .val (.long WW), .second, .val (.long HH), .second, .val (.ref b11), .val (.ref b12)] [(.ref b12)])) _
    refine st15.trans ?_
    show Steps p.tables e below (T15.setTop (mkF m 135 #[.val (.int p1), .val (.long q2), .second, .val (.long q3), .second, .val (.long q4), .second, .val (.long q5), .second, .val (.long q6), .second, .val (.int v2), .val (.int SV), .val (.long CC), .second, .val (.long KK), .second, .val (.long DD), .second, .val (.long WW), .second, .val (.long HH), .second, .val (.ref b11), .val (.ref b12)] [(.int (f13 (nar .boolean (nar .boolean (nar .boolean (nar .boolean (nar .boolean (nar .boolean v2))))))))])) _
    refine XS.iload X15.here hx rfl (hb hby at_135) rfl ?_
    show Steps p.tables e below (T15.setTop (mkF m 137 #[.val (.int p1), .val (.long q2), .second, .val (.long q3), .second, .val (.long q4), .second, .val (.long q5), .second, .val (.long q6), .second, .val (.int v2), .val (.int SV), .val (.long CC), .second, .val (.long KK), .second, .val (.long DD), .second, .val (.long WW), .second, .val (.long HH), .second, .val (.ref b11), .val (.ref b12)] [(.int v2), (.int (f13 (nar .boolean (nar .boolean (nar .boolean (nar .boolean (nar .boolean (nar .boolean v2))))))))])) _
    refine XS.icmpNo X15.here hx rfl (hb hby at_137) rfl (teq (show (f13 (nar .boolean (nar .boolean (nar .boolean (nar .boolean (nar .boolean (nar .boolean v2))))))) = v2 by rcases own_bit hv2 with e | e <;> rw [e] <;> rfl)).2 ?_
    show Steps p.tables e below (T15.setTop (mkF m 140 #[.val (.int p1), .val (.long q2), .second, .val (.long q3), .second, .val (.long q4), .second, .val (.long q5), .second, .val (.long q6), .second, .val (.int v2), .val (.int SV), .val (.long CC), .second, .val (.long KK), .second, .val (.long DD), .second, .val (.long WW), .second, .val (.long HH), .second, .val (.ref b11), .val (.ref b12)] [])) _
    refine XS.aload X15.here hx rfl (hb hby at_140) rfl rfl ?_
    show Steps p.tables e below (T15.setTop (mkF m 142 #[.val (.int p1), .val (.long q2), .second, .val (.long q3), .second, .val (.long q4), .second, .val (.long q5), .second, .val (.long q6), .second, .val (.int v2), .val (.int SV), .val (.long CC), .second, .val (.long KK), .second, .val (.long DD), .second, .val (.long WW), .second, .val (.long HH), .second, .val (.ref b11), .val (.ref b12)] [(.ref b12)])) _
    refine st16.trans ?_
    show Steps p.tables e below (T16.setTop (mkF m 145 #[.val (.int p1), .val (.long q2), .second, .val (.long q3), .second, .val (.long q4), .second, .val (.long q5), .second, .val (.long q6), .second, .val (.int v2), .val (.int SV), .val (.long CC), .second, .val (.long KK), .second, .val (.long DD), .second, .val (.long WW), .second, .val (.long HH), .second, .val (.ref b11), .val (.ref b12)] [(.long (f14 KK))])) _
    refine XS.lload X16.here hx rfl (hb hby at_145) rfl ?_
    show Steps p.tables e below (T16.setTop (mkF m 147 #[.val (.int p1), .val (.long q2), .second, .val (.long q3), .second, .val (.long q4), .second, .val (.long q5), .second, .val (.long q6), .second, .val (.int v2), .val (.int SV), .val (.long CC), .second, .val (.long KK), .second, .val (.long DD), .second, .val (.long WW), .second, .val (.long HH), .second, .val (.ref b11), .val (.ref b12)] [(.long KK), (.long (f14 KK))])) _
    refine XS.lcmp X16.here hx rfl (hb hby at_147) rfl ?_
    show Steps p.tables e below (T16.setTop (mkF m 148 #[.val (.int p1), .val (.long q2), .second, .val (.long q3), .second, .val (.long q4), .second, .val (.long q5), .second, .val (.long q6), .second, .val (.int v2), .val (.int SV), .val (.long CC), .second, .val (.long KK), .second, .val (.long DD), .second, .val (.long WW), .second, .val (.long HH), .second, .val (.ref b11), .val (.ref b12)] [(.int (lcmpW (f14 KK) KK))])) _
    refine XS.ifNo X16.here hx rfl (hb hby at_148) rfl ((if0 _ _).trans (teq (own_lc_teq (show (f14 KK) = KK from rfl))).2) ?_
    show Steps p.tables e below (T16.setTop (mkF m 151 #[.val (.int p1), .val (.long q2), .second, .val (.long q3), .second, .val (.long q4), .second, .val (.long q5), .second, .val (.long q6), .second, .val (.int v2), .val (.int SV), .val (.long CC), .second, .val (.long KK), .second, .val (.long DD), .second, .val (.long WW), .second, .val (.long HH), .second, .val (.ref b11), .val (.ref b12)] [])) _
    refine XS.aload X16.here hx rfl (hb hby at_151) rfl rfl ?_
    show Steps p.tables e below (T16.setTop (mkF m 153 #[.val (.int p1), .val (.long q2), .second, .val (.long q3), .second, .val (.long q4), .second, .val (.long q5), .second, .val (.long q6), .second, .val (.int v2), .val (.int SV), .val (.long CC), .second, .val (.long KK), .second, .val (.long DD), .second, .val (.long WW), .second, .val (.long HH), .second, .val (.ref b11), .val (.ref b12)] [(.ref b12)])) _
    refine st17.trans ?_
    show Steps p.tables e below (T17.setTop (mkF m 156 #[.val (.int p1), .val (.long q2), .second, .val (.long q3), .second, .val (.long q4), .second, .val (.long q5), .second, .val (.long q6), .second, .val (.int v2), .val (.int SV), .val (.long CC), .second, .val (.long KK), .second, .val (.long DD), .second, .val (.long WW), .second, .val (.long HH), .second, .val (.ref b11), .val (.ref b12)] [(.long (f15 DD))])) _
    refine XS.lload X17.here hx rfl (hb hby at_156) rfl ?_
    show Steps p.tables e below (T17.setTop (mkF m 158 #[.val (.int p1), .val (.long q2), .second, .val (.long q3), .second, .val (.long q4), .second, .val (.long q5), .second, .val (.long q6), .second, .val (.int v2), .val (.int SV), .val (.long CC), .second, .val (.long KK), .second, .val (.long DD), .second, .val (.long WW), .second, .val (.long HH), .second, .val (.ref b11), .val (.ref b12)] [(.long DD), (.long (f15 DD))])) _
    refine XS.lcmp X17.here hx rfl (hb hby at_158) rfl ?_
    show Steps p.tables e below (T17.setTop (mkF m 159 #[.val (.int p1), .val (.long q2), .second, .val (.long q3), .second, .val (.long q4), .second, .val (.long q5), .second, .val (.long q6), .second, .val (.int v2), .val (.int SV), .val (.long CC), .second, .val (.long KK), .second, .val (.long DD), .second, .val (.long WW), .second, .val (.long HH), .second, .val (.ref b11), .val (.ref b12)] [(.int (lcmpW (f15 DD) DD))])) _
    refine XS.ifNo X17.here hx rfl (hb hby at_159) rfl ((if0 _ _).trans (teq (own_lc_teq (show (f15 DD) = DD from rfl))).2) ?_
    show Steps p.tables e below (T17.setTop (mkF m 162 #[.val (.int p1), .val (.long q2), .second, .val (.long q3), .second, .val (.long q4), .second, .val (.long q5), .second, .val (.long q6), .second, .val (.int v2), .val (.int SV), .val (.long CC), .second, .val (.long KK), .second, .val (.long DD), .second, .val (.long WW), .second, .val (.long HH), .second, .val (.ref b11), .val (.ref b12)] [])) _
    refine XS.aload X17.here hx rfl (hb hby at_162) rfl rfl ?_
    show Steps p.tables e below (T17.setTop (mkF m 164 #[.val (.int p1), .val (.long q2), .second, .val (.long q3), .second, .val (.long q4), .second, .val (.long q5), .second, .val (.long q6), .second, .val (.int v2), .val (.int SV), .val (.long CC), .second, .val (.long KK), .second, .val (.long DD), .second, .val (.long WW), .second, .val (.long HH), .second, .val (.ref b11), .val (.ref b12)] [(.ref b12)])) _
    refine st18.trans ?_
    show Steps p.tables e below (T18.setTop (mkF m 167 #[.val (.int p1), .val (.long q2), .second, .val (.long q3), .second, .val (.long q4), .second, .val (.long q5), .second, .val (.long q6), .second, .val (.int v2), .val (.int SV), .val (.long CC), .second, .val (.long KK), .second, .val (.long DD), .second, .val (.long WW), .second, .val (.long HH), .second, .val (.ref b11), .val (.ref b12)] [(.int (f16 (1 : Int32)))])) _
    refine XS.iconst X18.here hx rfl (hb hby at_167) ?_
    show Steps p.tables e below (T18.setTop (mkF m 168 #[.val (.int p1), .val (.long q2), .second, .val (.long q3), .second, .val (.long q4), .second, .val (.long q5), .second, .val (.long q6), .second, .val (.int v2), .val (.int SV), .val (.long CC), .second, .val (.long KK), .second, .val (.long DD), .second, .val (.long WW), .second, .val (.long HH), .second, .val (.ref b11), .val (.ref b12)] [(.int (1 : Int32)), (.int (f16 (1 : Int32)))])) _
    refine XS.icmpNo X18.here hx rfl (hb hby at_168) rfl (teq (show (f16 (1 : Int32)) = (1 : Int32) from rfl)).2 ?_
    show Steps p.tables e below (T18.setTop (mkF m 171 #[.val (.int p1), .val (.long q2), .second, .val (.long q3), .second, .val (.long q4), .second, .val (.long q5), .second, .val (.long q6), .second, .val (.int v2), .val (.int SV), .val (.long CC), .second, .val (.long KK), .second, .val (.long DD), .second, .val (.long WW), .second, .val (.long HH), .second, .val (.ref b11), .val (.ref b12)] [])) _
    refine XS.aload X18.here hx rfl (hb hby at_171) rfl rfl ?_
    show Steps p.tables e below (T18.setTop (mkF m 173 #[.val (.int p1), .val (.long q2), .second, .val (.long q3), .second, .val (.long q4), .second, .val (.long q5), .second, .val (.long q6), .second, .val (.int v2), .val (.int SV), .val (.long CC), .second, .val (.long KK), .second, .val (.long DD), .second, .val (.long WW), .second, .val (.long HH), .second, .val (.ref b11), .val (.ref b12)] [(.ref b12)])) _
    refine st19.trans ?_
    show Steps p.tables e below (T19.setTop (mkF m 176 #[.val (.int p1), .val (.long q2), .second, .val (.long q3), .second, .val (.long q4), .second, .val (.long q5), .second, .val (.long q6), .second, .val (.int v2), .val (.int SV), .val (.long CC), .second, .val (.long KK), .second, .val (.long DD), .second, .val (.long WW), .second, .val (.long HH), .second, .val (.ref b11), .val (.ref b12)] [(.int (f17 (2147483647 : Int32)))])) _
    refine X19.ldcInt hx hown (mvT hZ (hw _ (List.mem_of_getElem? (i := 117) rfl))) (g := (mkF m 176 #[.val (.int p1), .val (.long q2), .second, .val (.long q3), .second, .val (.long q4), .second, .val (.long q5), .second, .val (.long q6), .second, .val (.int v2), .val (.int SV), .val (.long CC), .second, .val (.long KK), .second, .val (.long DD), .second, .val (.long WW), .second, .val (.long HH), .second, .val (.ref b11), .val (.ref b12)] [(.int (f17 (2147483647 : Int32)))])) rfl (hb hby at_176) _ ?_
    show Steps p.tables e below (T19.setTop (mkF m 178 #[.val (.int p1), .val (.long q2), .second, .val (.long q3), .second, .val (.long q4), .second, .val (.long q5), .second, .val (.long q6), .second, .val (.int v2), .val (.int SV), .val (.long CC), .second, .val (.long KK), .second, .val (.long DD), .second, .val (.long WW), .second, .val (.long HH), .second, .val (.ref b11), .val (.ref b12)] [(.int (2147483647 : Int32)), (.int (f17 (2147483647 : Int32)))])) _
    refine XS.icmpNo X19.here hx rfl (hb hby at_178) rfl (teq (show (f17 (2147483647 : Int32)) = (2147483647 : Int32) from rfl)).2 ?_
    show Steps p.tables e below (T19.setTop (mkF m 181 #[.val (.int p1), .val (.long q2), .second, .val (.long q3), .second, .val (.long q4), .second, .val (.long q5), .second, .val (.long q6), .second, .val (.int v2), .val (.int SV), .val (.long CC), .second, .val (.long KK), .second, .val (.long DD), .second, .val (.long WW), .second, .val (.long HH), .second, .val (.ref b11), .val (.ref b12)] [])) _
    refine XS.aload X19.here hx rfl (hb hby at_181) rfl rfl ?_
    show Steps p.tables e below (T19.setTop (mkF m 183 #[.val (.int p1), .val (.long q2), .second, .val (.long q3), .second, .val (.long q4), .second, .val (.long q5), .second, .val (.long q6), .second, .val (.int v2), .val (.int SV), .val (.long CC), .second, .val (.long KK), .second, .val (.long DD), .second, .val (.long WW), .second, .val (.long HH), .second, .val (.ref b11), .val (.ref b12)] [(.ref b12)])) _
    refine st20.trans ?_
    show Steps p.tables e below (T20.setTop (mkF m 186 #[.val (.int p1), .val (.long q2), .second, .val (.long q3), .second, .val (.long q4), .second, .val (.long q5), .second, .val (.long q6), .second, .val (.int v2), .val (.int SV), .val (.long CC), .second, .val (.long KK), .second, .val (.long DD), .second, .val (.long WW), .second, .val (.long HH), .second, .val (.ref b11), .val (.ref b12)] [(.long (f18 WW))])) _
    refine XS.lload X20.here hx rfl (hb hby at_186) rfl ?_
    show Steps p.tables e below (T20.setTop (mkF m 188 #[.val (.int p1), .val (.long q2), .second, .val (.long q3), .second, .val (.long q4), .second, .val (.long q5), .second, .val (.long q6), .second, .val (.int v2), .val (.int SV), .val (.long CC), .second, .val (.long KK), .second, .val (.long DD), .second, .val (.long WW), .second, .val (.long HH), .second, .val (.ref b11), .val (.ref b12)] [(.long WW), (.long (f18 WW))])) _
    refine XS.lcmp X20.here hx rfl (hb hby at_188) rfl ?_
    show Steps p.tables e below (T20.setTop (mkF m 189 #[.val (.int p1), .val (.long q2), .second, .val (.long q3), .second, .val (.long q4), .second, .val (.long q5), .second, .val (.long q6), .second, .val (.int v2), .val (.int SV), .val (.long CC), .second, .val (.long KK), .second, .val (.long DD), .second, .val (.long WW), .second, .val (.long HH), .second, .val (.ref b11), .val (.ref b12)] [(.int (lcmpW (f18 WW) WW))])) _
    refine XS.ifNo X20.here hx rfl (hb hby at_189) rfl ((if0 _ _).trans (teq (own_lc_teq (show (f18 WW) = WW from rfl))).2) ?_
    show Steps p.tables e below (T20.setTop (mkF m 192 #[.val (.int p1), .val (.long q2), .second, .val (.long q3), .second, .val (.long q4), .second, .val (.long q5), .second, .val (.long q6), .second, .val (.int v2), .val (.int SV), .val (.long CC), .second, .val (.long KK), .second, .val (.long DD), .second, .val (.long WW), .second, .val (.long HH), .second, .val (.ref b11), .val (.ref b12)] [])) _
    refine XS.aload X20.here hx rfl (hb hby at_192) rfl rfl ?_
    show Steps p.tables e below (T20.setTop (mkF m 194 #[.val (.int p1), .val (.long q2), .second, .val (.long q3), .second, .val (.long q4), .second, .val (.long q5), .second, .val (.long q6), .second, .val (.int v2), .val (.int SV), .val (.long CC), .second, .val (.long KK), .second, .val (.long DD), .second, .val (.long WW), .second, .val (.long HH), .second, .val (.ref b11), .val (.ref b12)] [(.ref b12)])) _
    refine st21.trans ?_
    show Steps p.tables e below (T21.setTop (mkF m 197 #[.val (.int p1), .val (.long q2), .second, .val (.long q3), .second, .val (.long q4), .second, .val (.long q5), .second, .val (.long q6), .second, .val (.int v2), .val (.int SV), .val (.long CC), .second, .val (.long KK), .second, .val (.long DD), .second, .val (.long WW), .second, .val (.long HH), .second, .val (.ref b11), .val (.ref b12)] [(.long (f19 HH))])) _
    refine XS.lload X21.here hx rfl (hb hby at_197) rfl ?_
    show Steps p.tables e below (T21.setTop (mkF m 199 #[.val (.int p1), .val (.long q2), .second, .val (.long q3), .second, .val (.long q4), .second, .val (.long q5), .second, .val (.long q6), .second, .val (.int v2), .val (.int SV), .val (.long CC), .second, .val (.long KK), .second, .val (.long DD), .second, .val (.long WW), .second, .val (.long HH), .second, .val (.ref b11), .val (.ref b12)] [(.long HH), (.long (f19 HH))])) _
    refine XS.lcmp X21.here hx rfl (hb hby at_199) rfl ?_
    show Steps p.tables e below (T21.setTop (mkF m 200 #[.val (.int p1), .val (.long q2), .second, .val (.long q3), .second, .val (.long q4), .second, .val (.long q5), .second, .val (.long q6), .second, .val (.int v2), .val (.int SV), .val (.long CC), .second, .val (.long KK), .second, .val (.long DD), .second, .val (.long WW), .second, .val (.long HH), .second, .val (.ref b11), .val (.ref b12)] [(.int (lcmpW (f19 HH) HH))])) _
    refine XS.ifNo X21.here hx rfl (hb hby at_200) rfl ((if0 _ _).trans (teq (own_lc_teq (show (f19 HH) = HH from rfl))).2) ?_
    show Steps p.tables e below (T21.setTop (mkF m 203 #[.val (.int p1), .val (.long q2), .second, .val (.long q3), .second, .val (.long q4), .second, .val (.long q5), .second, .val (.long q6), .second, .val (.int v2), .val (.int SV), .val (.long CC), .second, .val (.long KK), .second, .val (.long DD), .second, .val (.long WW), .second, .val (.long HH), .second, .val (.ref b11), .val (.ref b12)] [])) _
    refine XS.aload X21.here hx rfl (hb hby at_203) rfl rfl ?_
    show Steps p.tables e below (T21.setTop (mkF m 205 #[.val (.int p1), .val (.long q2), .second, .val (.long q3), .second, .val (.long q4), .second, .val (.long q5), .second, .val (.long q6), .second, .val (.int v2), .val (.int SV), .val (.long CC), .second, .val (.long KK), .second, .val (.long DD), .second, .val (.long WW), .second, .val (.long HH), .second, .val (.ref b11), .val (.ref b12)] [(.ref b11)])) _
    refine st22.trans ?_
    show Steps p.tables e below (T22.setTop (mkF m 208 #[.val (.int p1), .val (.long q2), .second, .val (.long q3), .second, .val (.long q4), .second, .val (.long q5), .second, .val (.long q6), .second, .val (.int v2), .val (.int SV), .val (.long CC), .second, .val (.long KK), .second, .val (.long DD), .second, .val (.long WW), .second, .val (.long HH), .second, .val (.ref b11), .val (.ref b12)] [(.long (f11 (500 : Int64)))])) _
    refine X22.ldc2Long hx hown (mvT hZ (hw _ (List.mem_of_getElem? (i := 128) rfl))) (g := (mkF m 208 #[.val (.int p1), .val (.long q2), .second, .val (.long q3), .second, .val (.long q4), .second, .val (.long q5), .second, .val (.long q6), .second, .val (.int v2), .val (.int SV), .val (.long CC), .second, .val (.long KK), .second, .val (.long DD), .second, .val (.long WW), .second, .val (.long HH), .second, .val (.ref b11), .val (.ref b12)] [(.long (f11 (500 : Int64)))])) rfl (hb hby at_208) _ ?_
    show Steps p.tables e below (T22.setTop (mkF m 211 #[.val (.int p1), .val (.long q2), .second, .val (.long q3), .second, .val (.long q4), .second, .val (.long q5), .second, .val (.long q6), .second, .val (.int v2), .val (.int SV), .val (.long CC), .second, .val (.long KK), .second, .val (.long DD), .second, .val (.long WW), .second, .val (.long HH), .second, .val (.ref b11), .val (.ref b12)] [(.long (500 : Int64)), (.long (f11 (500 : Int64)))])) _
    refine XS.lcmp X22.here hx rfl (hb hby at_211) rfl ?_
    show Steps p.tables e below (T22.setTop (mkF m 212 #[.val (.int p1), .val (.long q2), .second, .val (.long q3), .second, .val (.long q4), .second, .val (.long q5), .second, .val (.long q6), .second, .val (.int v2), .val (.int SV), .val (.long CC), .second, .val (.long KK), .second, .val (.long DD), .second, .val (.long WW), .second, .val (.long HH), .second, .val (.ref b11), .val (.ref b12)] [(.int (lcmpW (f11 (500 : Int64)) (500 : Int64)))])) _
    refine XS.ifNo X22.here hx rfl (hb hby at_212) rfl ((if0 _ _).trans (teq (own_lc_teq (show (f11 (500 : Int64)) = (500 : Int64) from rfl))).2) ?_
    show Steps p.tables e below (T22.setTop (mkF m 215 #[.val (.int p1), .val (.long q2), .second, .val (.long q3), .second, .val (.long q4), .second, .val (.long q5), .second, .val (.long q6), .second, .val (.int v2), .val (.int SV), .val (.long CC), .second, .val (.long KK), .second, .val (.long DD), .second, .val (.long WW), .second, .val (.long HH), .second, .val (.ref b11), .val (.ref b12)] [])) _
    refine XS.iconst X22.here hx rfl (hb hby at_215) ?_
    show Steps p.tables e below (T22.setTop (mkF m 216 #[.val (.int p1), .val (.long q2), .second, .val (.long q3), .second, .val (.long q4), .second, .val (.long q5), .second, .val (.long q6), .second, .val (.int v2), .val (.int SV), .val (.long CC), .second, .val (.long KK), .second, .val (.long DD), .second, .val (.long WW), .second, .val (.long HH), .second, .val (.ref b11), .val (.ref b12)] [(.int (1 : Int32))])) _
    refine XS.goto X22.here hx rfl (pc0 := 216) (pc' := 220) rfl (hb hby at_216) (by decide) (by decide) ?_
    show Steps p.tables e below (T22.setTop (mkF m 220 #[.val (.int p1), .val (.long q2), .second, .val (.long q3), .second, .val (.long q4), .second, .val (.long q5), .second, .val (.long q6), .second, .val (.int v2), .val (.int SV), .val (.long CC), .second, .val (.long KK), .second, .val (.long DD), .second, .val (.long WW), .second, .val (.long HH), .second, .val (.ref b11), .val (.ref b12)] [(.int (1 : Int32))])) _
    exact retN X22 hx (t := .boolean) Bd.returns (by simp) (hb hby at_220) hr
  · show Q0 Z p1 q2 q3 q4 q5 q6 h0 n0 _ T22.heap _
    rw [e22]
    exact ⟨congrArg (fun z => some (Value.int z)) er.symm, N22, trivial⟩
set_option maxRecDepth 65536 in
set_option maxHeartbeats 40000000 in
theorem comes_1 {Post : Tables → Env → Array Value → State → Outcome → State → Prop} (hpost : ∀ tb e args s v u, (limb_1_1.after args s (.returned v) u = true ∧ limb_1_2.after args s (.returned v) u = true ∧ True) → ReturnedEndW s (.returned v) u (Jvm.fieldLocs frame_1_writes args s ++ Jvm.arrayLocs frame_1_arrays args s ++ Jvm.staticLocs frame_1_statics s) 40 8448 → Post tb e args s (.returned v) u) :
    ArmFor flags0 classFile x code maxLocals ret World_1 tables_1 room_1 Calls_1 rest_1 Pre_1 Post := by
  intro l hfl _ _ p e ha hc hk s m args below hf hA hF happ hP
  obtain ⟨hcalls, hrest, hpre⟩ := hP
  obtain ⟨-, -, -, hnamed, -, -, -, hat⟩ := (Spec.applies_iff hf).mp happ
  obtain ⟨hg, hn⟩ := and_e (Cond.before_iff.mp (show (Jvm.Cond.and given_1 narrow_1).before args s = true from hpre))
  obtain ⟨g1, g2⟩ := and_e hg
  obtain ⟨g3, g4⟩ := and_e g2
  obtain ⟨g5, g6⟩ := and_e g4
  obtain ⟨g7, g8⟩ := and_e g6
  obtain ⟨g9, g10⟩ := and_e g8
  obtain ⟨g11, g12⟩ := and_e g10
  obtain ⟨w0, w1, w2, w3, w4, w5, rfl⟩ : ∃ w0 w1 w2 w3 w4 w5 : Value, args = #[w0, w1, w2, w3, w4, w5] := by
    have hs : args.size = 6 := by simpa [Cond.value, given_1] using g1
    obtain ⟨L⟩ := args
    match L, hs with
    | [w0, w1, w2, w3, w4, w5], _ => exact ⟨w0, w1, w2, w3, w4, w5, rfl⟩
  have hw := fun d (hd : d ∈ tables_1) => atoms_spec (ws := Jvm.Cond.code x code maxLocals ret :: tables_1) hat d (List.mem_cons_of_mem _ hd)
  obtain ⟨i0, ei0⟩ := is_v g3
  obtain rfl : w0 = (.int i0) := Option.some.inj ei0
  obtain ⟨i1, ei1⟩ := isL_v g5
  obtain rfl : w1 = (.long i1) := Option.some.inj ei1
  obtain ⟨i2, ei2⟩ := isL_v g7
  obtain rfl : w2 = (.long i2) := Option.some.inj ei2
  obtain ⟨i3, ei3⟩ := isL_v g9
  obtain rfl : w3 = (.long i3) := Option.some.inj ei3
  obtain ⟨i4, ei4⟩ := isL_v g11
  obtain rfl : w4 = (.long i4) := Option.some.inj ei4
  obtain ⟨i5, ei5⟩ := isL_v g12
  obtain rfl : w5 = (.long i5) := Option.some.inj ei5
  obtain ⟨n, o, h1, h2, h3, _, L, rfl, ⟨rfl, N, -⟩, hq⟩ := rm0 l s _ hw tables_1 i0 i1 i2 i3 i4 i5 s.heap s.heap.size (Nat.le_refl _) (Old.start s) p e ha hc hk s m _ below hf ((Spec.applies_iff_loose hf).mp happ).1 ⟨rfl, State.Warmed39.refl s, rfl⟩ trivial
  refine ⟨n, _, h1, h2, h3, hpost _ _ _ _ _ _ ⟨Cond.after_iff.mpr rfl, Cond.after_iff.mpr (eq_i res_at (Term.int_eval (1)) (congrArg Value.int (rfl))), trivial⟩ ⟨hq.1, hq.2.1, hq.2.2.1, (hq.2.2.2.sift fun y hy => Or.inr (N y hy)).mono (by decide) (by decide)⟩⟩
theorem main_1_1 : Claimed_1_1 := comes_1 fun _ _ _ _ _ _ h hF => ⟨h.1, hF⟩
theorem main_1_2 : Claimed_1_2 := comes_1 fun _ _ _ _ _ _ h hF => ⟨h.2.1, hF⟩
end Jvm.Pilot.@@N@@
namespace Jvm.Pilot.@@N@@
open Jvm Jvm.ClassFile Sem Op Lib Jvm.Free Jvm.Stand Jvm.Pilot.@@N@@.Jvm.D
/-! MADE BY PROGRAM (witnessworld.py) out of the Statement's table words and the real class files: 15 classes; the members and pool entries that the words name. The judged class is class 1, her method 1. -/
namespace start1
open Jvm.ClassFile
def u (s : String) : CpInfo := .utf8 (stringToUtf16 s)
/-- a pool by its gaps: so many unusable entries, then the entry; so many at the end -/
def gap : Nat → List CpInfo → List CpInfo
  | 0, r => r
  | n + 1, r => .unusable :: gap n r
def poolList (es : List (Nat × CpInfo)) (last : Nat) : List CpInfo := es.foldr (fun e r => gap e.1 (e.2 :: r)) (gap last [])
def pool (es : List (Nat × CpInfo)) (last : Nat) : Array CpInfo := ⟨poolList es last⟩
def fileOf (pool : Array CpInfo) (this : Nat) (attrs : Array Attribute := #[]) (ms : Array MethodInfo := #[]) (fl : Nat := 33) (sup : Nat := 0) (ifs : Array Nat := #[]) (fds : Array FieldInfo := #[]) : ClassFile where
  minorVersion := 0
  majorVersion := 65
  constantPool := pool
  accessFlags := fl
  thisClass := this
  superClass := sup
  interfaces := ifs
  fields := fds
  methods := ms
  attributes := attrs
def plain (name : String) (sup : Option ClassId) : Class where
  name := name
  kind := .ordinary
  loader := none
  accessFlags := 33
  super := sup
  interfaces := #[]
  cf := none
  fields := #[]
  methods := #[]
  instanceTypes := #[]
  staticTypes := #[]
  resolved := #[]
  callSites := []
  init := .initialized
  statics := none
  mirror := none

def pool0 : Array CpInfo := pool [(5, u "<init>"), (0, u "()V"), (1, .class_ 10), (1, u "java/lang/Object")] 113

def k0c0 : Code := { maxStack := 0, maxLocals := 1, code := object_method_1_code, exceptionTable := #[], attributes := #[] }
def k0m0 : Method := { name := "<init>", desc := "()V", sig := { parameters := [], returnType := none }, accessFlags := 1, code := some k0c0 }
/-- java/lang/Object -/
def k0 : Class := { plain "java/lang/Object" none with
  accessFlags := 33
  interfaces := #[]
  cf := some (fileOf pool0 8 #[] #[{ accessFlags := 1, nameIndex := 5, descriptorIndex := 6, attributes := #[] }] 33 0 #[] #[])
  fields := #[]
  methods := #[k0m0]
  instanceTypes := #[]
  staticTypes := #[]
  resolved := Array.replicate 124 none
  statics := none }

def pool1 : Array CpInfo := pool [(2, .class_ 4), (1, u "java/lang/Object"), (0, u "<init>"), (0, u "()V"), (0, .methodref 8 9), (0, .class_ 10), (0, .nameAndType 11 12), (0, u "java/lang/Math"), (0, u "max"), (0, u "(II)I"), (2, .long 9223372036854775807), (1, .class_ 18), (0, u "com/example/prewrm/prewrm/model/ReplayConfig"), (0, .methodref 17 20), (0, .nameAndType 5 21), (0, u "(IZ)V"), (0, .methodref 17 23), (0, .nameAndType 24 25), (0, u "withKeepAliveMs"), (0, u "(J)Lcom/example/prewrm/prewrm/model/ReplayConfig;"), (0, .methodref 17 27), (0, .nameAndType 28 25), (0, u "withDurationMs"), (0, .methodref 17 30), (0, .nameAndType 31 25), (0, u "withWarmUpMs"), (0, .methodref 17 33), (0, .nameAndType 34 25), (0, u "withHopMs"), (0, .methodref 17 36), (0, .nameAndType 37 25), (0, u "withColdStartMs"), (0, .methodref 17 39), (0, .nameAndType 40 41), (0, u "getColdStartMs"), (0, u "()J"), (0, .methodref 17 43), (0, .nameAndType 44 45), (0, u "getServers"), (0, u "()I"), (0, .methodref 17 47), (0, .nameAndType 48 49), (0, u "isSharding"), (0, u "()Z"), (0, .methodref 17 51), (0, .nameAndType 52 41), (0, u "getKeepAliveMs"), (0, .methodref 17 54), (0, .nameAndType 55 41), (0, u "getDurationMs"), (0, .methodref 17 57), (0, .nameAndType 58 45), (0, u "getMaxConcurrent"), (0, .methodref 17 60), (0, .nameAndType 61 45), (0, u "getCapacity"), (2, .integer 2147483647), (0, .methodref 17 66), (0, .nameAndType 67 41), (0, u "getWarmUpMs"), (0, .methodref 17 69), (0, .nameAndType 70 41), (0, u "getHopMs"), (0, .long 500), (1, .class_ 74), (0, u "com/example/prewrm/prewrm/model/ReplayConfigWithColdStartMsPinLaw"), (2, u "law"), (0, u "(IJJJJJ)Z")] 3

def k1m0 : Method := { name := "<init>", desc := "()V", sig := { parameters := [], returnType := none }, accessFlags := 1, code := none }
def k1c1 : Code := { maxStack := 4, maxLocals := 25, code := code, exceptionTable := #[], attributes := #[] }
def k1m1 : Method := { name := "law", desc := "(IJJJJJ)Z", sig := { parameters := [.int, .long, .long, .long, .long, .long], returnType := some .boolean }, accessFlags := 9, code := some k1c1 }
/-- com/example/prewrm/prewrm/model/ReplayConfigWithColdStartMsPinLaw -/
def k1 : Class := { plain "com/example/prewrm/prewrm/model/ReplayConfigWithColdStartMsPinLaw" (some 0) with
  accessFlags := 49
  interfaces := #[]
  cf := some (fileOf pool1 73 #[] #[{ accessFlags := 1, nameIndex := 5, descriptorIndex := 6, attributes := #[] }, { accessFlags := 9, nameIndex := 77, descriptorIndex := 78, attributes := #[] }] 49 2 #[] #[])
  fields := #[]
  methods := #[k1m0, k1m1]
  instanceTypes := #[]
  staticTypes := #[]
  resolved := Array.replicate 82 none
  statics := none }

def pool2 : Array CpInfo := pool [(1, .class_ 2), (0, u "java/lang/Math"), (1, .class_ 6), (1, u "java/lang/Object"), (0, u "<init>"), (0, u "()V"), (89, .class_ 100), (1, u "java/lang/Math$RandomNumberGeneratorHolder"), (71, u "negativeZeroFloatBits"), (0, u "J"), (2, u "negativeZeroDoubleBits"), (21, u "max"), (46, u "$assertionsDisabled"), (0, u "Z"), (88, u "(II)I"), (2, u "twoToTheDoubleScaleDown"), (0, u "D"), (4, u "twoToTheDoubleScaleUp"), (9, u "E"), (3, u "PI"), (2, u "TAU"), (2, u "DEGREES_TO_RADIANS"), (0, u "RADIANS_TO_DEGREES")] 94

def k2m0 : Method := { name := "<init>", desc := "()V", sig := { parameters := [], returnType := none }, accessFlags := 2, code := none }
def k2c1 : Code := { maxStack := 2, maxLocals := 2, code := jdk_29_method_65_code, exceptionTable := #[], attributes := #[] }
def k2m1 : Method := { name := "max", desc := "(II)I", sig := { parameters := [.int, .int], returnType := some .int }, accessFlags := 9, code := some k2c1 }
/-- java/lang/Math -/
def k2 : Class := { plain "java/lang/Math" (some 0) with
  accessFlags := 49
  interfaces := #[]
  cf := some (fileOf pool2 1 #[.nestMembers #[98]] #[{ accessFlags := 2, nameIndex := 7, descriptorIndex := 8, attributes := #[] }, { accessFlags := 9, nameIndex := 198, descriptorIndex := 335, attributes := #[] }] 49 4 #[] #[{ accessFlags := 25, nameIndex := 354, descriptorIndex := 339, attributes := #[] }, { accessFlags := 25, nameIndex := 358, descriptorIndex := 339, attributes := #[] }, { accessFlags := 25, nameIndex := 361, descriptorIndex := 339, attributes := #[] }, { accessFlags := 26, nameIndex := 364, descriptorIndex := 339, attributes := #[] }, { accessFlags := 26, nameIndex := 365, descriptorIndex := 339, attributes := #[] }, { accessFlags := 26, nameIndex := 172, descriptorIndex := 173, attributes := #[] }, { accessFlags := 26, nameIndex := 176, descriptorIndex := 173, attributes := #[] }, { accessFlags := 8, nameIndex := 344, descriptorIndex := 339, attributes := #[] }, { accessFlags := 8, nameIndex := 338, descriptorIndex := 339, attributes := #[] }, { accessFlags := 4120, nameIndex := 245, descriptorIndex := 246, attributes := #[] }])
  fields := #[{ name := "E", type := .double, accessFlags := 25, slot := 0, constantValue := 0 }, { name := "PI", type := .double, accessFlags := 25, slot := 1, constantValue := 0 }, { name := "TAU", type := .double, accessFlags := 25, slot := 2, constantValue := 0 }, { name := "DEGREES_TO_RADIANS", type := .double, accessFlags := 26, slot := 3, constantValue := 0 }, { name := "RADIANS_TO_DEGREES", type := .double, accessFlags := 26, slot := 4, constantValue := 0 }, { name := "negativeZeroFloatBits", type := .long, accessFlags := 26, slot := 5, constantValue := 0 }, { name := "negativeZeroDoubleBits", type := .long, accessFlags := 26, slot := 6, constantValue := 0 }, { name := "twoToTheDoubleScaleUp", type := .double, accessFlags := 8, slot := 7, constantValue := 0 }, { name := "twoToTheDoubleScaleDown", type := .double, accessFlags := 8, slot := 8, constantValue := 0 }, { name := "$assertionsDisabled", type := .boolean, accessFlags := 4120, slot := 9, constantValue := 0 }]
  methods := #[k2m0, k2m1]
  instanceTypes := #[]
  staticTypes := #[.double, .double, .double, .double, .double, .long, .long, .double, .double, .boolean]
  resolved := Array.replicate 460 none
  statics := none }

def pool3 : Array CpInfo := pool [(1, .class_ 2), (0, u "com/example/prewrm/prewrm/model/ReplayConfig"), (0, .long 600000), (1, .long 500), (3, .integer 2147483647), (0, .methodref 1 11), (0, .nameAndType 12 13), (0, u "<init>"), (0, u "(IZJJJIIJJ)V"), (0, .methodref 15 16), (0, .class_ 17), (0, .nameAndType 12 18), (0, u "java/lang/Object"), (0, u "()V"), (0, .string 20), (0, u "servers"), (0, .methodref 1 22), (0, .nameAndType 23 24), (0, u "checkAtLeast"), (0, u "(Ljava/lang/String;JJ)V"), (0, .string 26), (0, u "maxConcurrent"), (0, .string 28), (0, u "capacity"), (0, .string 30), (0, u "keepAliveMs"), (0, .string 32), (0, u "coldStartMs"), (0, .string 34), (0, u "durationMs"), (0, .string 36), (0, u "warmUpMs"), (0, .string 38), (0, u "hopMs"), (0, .fieldref 1 40), (0, .nameAndType 20 41), (0, u "I"), (0, .fieldref 1 43), (0, .nameAndType 44 45), (0, u "sharding"), (0, u "Z"), (0, .fieldref 1 47), (0, .nameAndType 30 48), (0, u "J"), (0, .fieldref 1 50), (0, .nameAndType 32 48), (0, .fieldref 1 52), (0, .nameAndType 34 48), (0, .fieldref 1 54), (0, .nameAndType 26 41), (0, .fieldref 1 56), (0, .nameAndType 28 41), (0, .fieldref 1 58), (0, .nameAndType 36 48), (0, .fieldref 1 60), (0, .nameAndType 38 48), (9, u "DEFAULT_KEEP_ALIVE_MS"), (1, u "DEFAULT_COLD_START_MS"), (0, u "DEFAULT_DURATION_MS"), (2, u "DEFAULT_MAX_CONCURRENT"), (1, u "(IZ)V"), (2, u "withKeepAliveMs"), (0, u "(J)Lcom/example/prewrm/prewrm/model/ReplayConfig;"), (0, u "withColdStartMs"), (0, u "withDurationMs"), (3, u "withWarmUpMs"), (0, u "withHopMs"), (0, u "getServers"), (0, u "()I"), (0, u "isSharding"), (0, u "()Z"), (0, u "getKeepAliveMs"), (0, u "()J"), (0, u "getColdStartMs"), (0, u "getDurationMs"), (0, u "getMaxConcurrent"), (0, u "getCapacity"), (0, u "getWarmUpMs"), (0, u "getHopMs")] 18

def k3c0 : Code := { maxStack := 15, maxLocals := 3, code := prog_18_method_1_code, exceptionTable := #[], attributes := #[] }
def k3m0 : Method := { name := "<init>", desc := "(IZ)V", sig := { parameters := [.int, .boolean], returnType := none }, accessFlags := 1, code := some k3c0 }
def k3c1 : Code := { maxStack := 5, maxLocals := 15, code := prog_18_method_2_code, exceptionTable := #[], attributes := #[] }
def k3m1 : Method := { name := "<init>", desc := "(IZJJJIIJJ)V", sig := { parameters := [.int, .boolean, .long, .long, .long, .int, .int, .long, .long], returnType := none }, accessFlags := 2, code := some k3c1 }
def k3c2 : Code := { maxStack := 16, maxLocals := 3, code := prog_18_method_3_code, exceptionTable := #[], attributes := #[] }
def k3m2 : Method := { name := "withKeepAliveMs", desc := "(J)Lcom/example/prewrm/prewrm/model/ReplayConfig;", sig := { parameters := [.long], returnType := some (.object "com/example/prewrm/prewrm/model/ReplayConfig") }, accessFlags := 1, code := some k3c2 }
def k3c3 : Code := { maxStack := 16, maxLocals := 3, code := prog_18_method_4_code, exceptionTable := #[], attributes := #[] }
def k3m3 : Method := { name := "withColdStartMs", desc := "(J)Lcom/example/prewrm/prewrm/model/ReplayConfig;", sig := { parameters := [.long], returnType := some (.object "com/example/prewrm/prewrm/model/ReplayConfig") }, accessFlags := 1, code := some k3c3 }
def k3c4 : Code := { maxStack := 16, maxLocals := 3, code := prog_18_method_5_code, exceptionTable := #[], attributes := #[] }
def k3m4 : Method := { name := "withDurationMs", desc := "(J)Lcom/example/prewrm/prewrm/model/ReplayConfig;", sig := { parameters := [.long], returnType := some (.object "com/example/prewrm/prewrm/model/ReplayConfig") }, accessFlags := 1, code := some k3c4 }
def k3c5 : Code := { maxStack := 16, maxLocals := 3, code := prog_18_method_8_code, exceptionTable := #[], attributes := #[] }
def k3m5 : Method := { name := "withWarmUpMs", desc := "(J)Lcom/example/prewrm/prewrm/model/ReplayConfig;", sig := { parameters := [.long], returnType := some (.object "com/example/prewrm/prewrm/model/ReplayConfig") }, accessFlags := 1, code := some k3c5 }
def k3c6 : Code := { maxStack := 16, maxLocals := 3, code := prog_18_method_9_code, exceptionTable := #[], attributes := #[] }
def k3m6 : Method := { name := "withHopMs", desc := "(J)Lcom/example/prewrm/prewrm/model/ReplayConfig;", sig := { parameters := [.long], returnType := some (.object "com/example/prewrm/prewrm/model/ReplayConfig") }, accessFlags := 1, code := some k3c6 }
def k3c7 : Code := { maxStack := 1, maxLocals := 1, code := prog_18_method_10_code, exceptionTable := #[], attributes := #[] }
def k3m7 : Method := { name := "getServers", desc := "()I", sig := { parameters := [], returnType := some .int }, accessFlags := 1, code := some k3c7 }
def k3c8 : Code := { maxStack := 1, maxLocals := 1, code := prog_18_method_11_code, exceptionTable := #[], attributes := #[] }
def k3m8 : Method := { name := "isSharding", desc := "()Z", sig := { parameters := [], returnType := some .boolean }, accessFlags := 1, code := some k3c8 }
def k3c9 : Code := { maxStack := 2, maxLocals := 1, code := prog_18_method_12_code, exceptionTable := #[], attributes := #[] }
def k3m9 : Method := { name := "getKeepAliveMs", desc := "()J", sig := { parameters := [], returnType := some .long }, accessFlags := 1, code := some k3c9 }
def k3c10 : Code := { maxStack := 2, maxLocals := 1, code := prog_18_method_13_code, exceptionTable := #[], attributes := #[] }
def k3m10 : Method := { name := "getColdStartMs", desc := "()J", sig := { parameters := [], returnType := some .long }, accessFlags := 1, code := some k3c10 }
def k3c11 : Code := { maxStack := 2, maxLocals := 1, code := prog_18_method_14_code, exceptionTable := #[], attributes := #[] }
def k3m11 : Method := { name := "getDurationMs", desc := "()J", sig := { parameters := [], returnType := some .long }, accessFlags := 1, code := some k3c11 }
def k3c12 : Code := { maxStack := 1, maxLocals := 1, code := prog_18_method_15_code, exceptionTable := #[], attributes := #[] }
def k3m12 : Method := { name := "getMaxConcurrent", desc := "()I", sig := { parameters := [], returnType := some .int }, accessFlags := 1, code := some k3c12 }
def k3c13 : Code := { maxStack := 1, maxLocals := 1, code := prog_18_method_16_code, exceptionTable := #[], attributes := #[] }
def k3m13 : Method := { name := "getCapacity", desc := "()I", sig := { parameters := [], returnType := some .int }, accessFlags := 1, code := some k3c13 }
def k3c14 : Code := { maxStack := 2, maxLocals := 1, code := prog_18_method_17_code, exceptionTable := #[], attributes := #[] }
def k3m14 : Method := { name := "getWarmUpMs", desc := "()J", sig := { parameters := [], returnType := some .long }, accessFlags := 1, code := some k3c14 }
def k3c15 : Code := { maxStack := 2, maxLocals := 1, code := prog_18_method_18_code, exceptionTable := #[], attributes := #[] }
def k3m15 : Method := { name := "getHopMs", desc := "()J", sig := { parameters := [], returnType := some .long }, accessFlags := 1, code := some k3c15 }
def k3c16 : Code := { maxStack := 7, maxLocals := 5, code := prog_18_method_19_code, exceptionTable := #[], attributes := #[] }
def k3m16 : Method := { name := "checkAtLeast", desc := "(Ljava/lang/String;JJ)V", sig := { parameters := [(.object "java/lang/String"), .long, .long], returnType := none }, accessFlags := 10, code := some k3c16 }
/-- com/example/prewrm/prewrm/model/ReplayConfig -/
def k3 : Class := { plain "com/example/prewrm/prewrm/model/ReplayConfig" (some 0) with
  accessFlags := 33
  interfaces := #[]
  cf := some (fileOf pool3 1 #[] #[{ accessFlags := 1, nameIndex := 12, descriptorIndex := 78, attributes := #[] }, { accessFlags := 2, nameIndex := 12, descriptorIndex := 13, attributes := #[] }, { accessFlags := 1, nameIndex := 81, descriptorIndex := 82, attributes := #[] }, { accessFlags := 1, nameIndex := 83, descriptorIndex := 82, attributes := #[] }, { accessFlags := 1, nameIndex := 84, descriptorIndex := 82, attributes := #[] }, { accessFlags := 1, nameIndex := 88, descriptorIndex := 82, attributes := #[] }, { accessFlags := 1, nameIndex := 89, descriptorIndex := 82, attributes := #[] }, { accessFlags := 1, nameIndex := 90, descriptorIndex := 91, attributes := #[] }, { accessFlags := 1, nameIndex := 92, descriptorIndex := 93, attributes := #[] }, { accessFlags := 1, nameIndex := 94, descriptorIndex := 95, attributes := #[] }, { accessFlags := 1, nameIndex := 96, descriptorIndex := 95, attributes := #[] }, { accessFlags := 1, nameIndex := 97, descriptorIndex := 95, attributes := #[] }, { accessFlags := 1, nameIndex := 98, descriptorIndex := 91, attributes := #[] }, { accessFlags := 1, nameIndex := 99, descriptorIndex := 91, attributes := #[] }, { accessFlags := 1, nameIndex := 100, descriptorIndex := 95, attributes := #[] }, { accessFlags := 1, nameIndex := 101, descriptorIndex := 95, attributes := #[] }, { accessFlags := 10, nameIndex := 23, descriptorIndex := 24, attributes := #[] }] 33 15 #[] #[{ accessFlags := 25, nameIndex := 70, descriptorIndex := 48, attributes := #[] }, { accessFlags := 25, nameIndex := 72, descriptorIndex := 48, attributes := #[] }, { accessFlags := 25, nameIndex := 73, descriptorIndex := 48, attributes := #[] }, { accessFlags := 25, nameIndex := 76, descriptorIndex := 41, attributes := #[] }, { accessFlags := 18, nameIndex := 20, descriptorIndex := 41, attributes := #[] }, { accessFlags := 18, nameIndex := 44, descriptorIndex := 45, attributes := #[] }, { accessFlags := 18, nameIndex := 30, descriptorIndex := 48, attributes := #[] }, { accessFlags := 18, nameIndex := 32, descriptorIndex := 48, attributes := #[] }, { accessFlags := 18, nameIndex := 34, descriptorIndex := 48, attributes := #[] }, { accessFlags := 18, nameIndex := 26, descriptorIndex := 41, attributes := #[] }, { accessFlags := 18, nameIndex := 28, descriptorIndex := 41, attributes := #[] }, { accessFlags := 18, nameIndex := 36, descriptorIndex := 48, attributes := #[] }, { accessFlags := 18, nameIndex := 38, descriptorIndex := 48, attributes := #[] }])
  fields := #[{ name := "DEFAULT_KEEP_ALIVE_MS", type := .long, accessFlags := 25, slot := 0, constantValue := 0 }, { name := "DEFAULT_COLD_START_MS", type := .long, accessFlags := 25, slot := 1, constantValue := 0 }, { name := "DEFAULT_DURATION_MS", type := .long, accessFlags := 25, slot := 2, constantValue := 0 }, { name := "DEFAULT_MAX_CONCURRENT", type := .int, accessFlags := 25, slot := 3, constantValue := 0 }, { name := "servers", type := .int, accessFlags := 18, slot := 0, constantValue := 0 }, { name := "sharding", type := .boolean, accessFlags := 18, slot := 1, constantValue := 0 }, { name := "keepAliveMs", type := .long, accessFlags := 18, slot := 2, constantValue := 0 }, { name := "coldStartMs", type := .long, accessFlags := 18, slot := 3, constantValue := 0 }, { name := "durationMs", type := .long, accessFlags := 18, slot := 4, constantValue := 0 }, { name := "maxConcurrent", type := .int, accessFlags := 18, slot := 5, constantValue := 0 }, { name := "capacity", type := .int, accessFlags := 18, slot := 6, constantValue := 0 }, { name := "warmUpMs", type := .long, accessFlags := 18, slot := 7, constantValue := 0 }, { name := "hopMs", type := .long, accessFlags := 18, slot := 8, constantValue := 0 }]
  methods := #[k3m0, k3m1, k3m2, k3m3, k3m4, k3m5, k3m6, k3m7, k3m8, k3m9, k3m10, k3m11, k3m12, k3m13, k3m14, k3m15, k3m16]
  instanceTypes := #[.int, .boolean, .long, .long, .long, .int, .int, .long, .long]
  staticTypes := #[.long, .long, .long, .int]
  resolved := Array.replicate 120 none
  statics := none }

def pool4 : Array CpInfo := pool [(1, .class_ 2), (0, u "java/io/Serializable"), (0, .class_ 4), (0, u "java/lang/Object")] 2

/-- java/io/Serializable -/
def k4 : Class := { plain "java/io/Serializable" (some 0) with
  accessFlags := 1537
  interfaces := #[]
  cf := some (fileOf pool4 1 #[] #[] 1537 3 #[] #[])
  fields := #[]
  methods := #[]
  instanceTypes := #[]
  staticTypes := #[]
  resolved := Array.replicate 7 none
  statics := none }

def pool5 : Array CpInfo := pool [(1, .class_ 2), (0, u "java/lang/Comparable"), (0, .class_ 4), (0, u "java/lang/Object")] 7

/-- java/lang/Comparable -/
def k5 : Class := { plain "java/lang/Comparable" (some 0) with
  accessFlags := 1537
  interfaces := #[]
  cf := some (fileOf pool5 1 #[] #[] 1537 3 #[] #[])
  fields := #[]
  methods := #[]
  instanceTypes := #[]
  staticTypes := #[]
  resolved := Array.replicate 12 none
  statics := none }

def pool6 : Array CpInfo := pool [(2, .class_ 4), (1, u "java/lang/CharSequence"), (42, .class_ 48), (0, u "java/lang/CharSequence$1CodePointIterator"), (10, .class_ 60), (0, u "java/lang/CharSequence$1CharIterator"), (5, .class_ 67), (0, u "java/lang/Object")] 63

/-- java/lang/CharSequence -/
def k6 : Class := { plain "java/lang/CharSequence" (some 0) with
  accessFlags := 1537
  interfaces := #[]
  cf := some (fileOf pool6 2 #[.nestMembers #[47, 59]] #[] 1537 66 #[] #[])
  fields := #[]
  methods := #[]
  instanceTypes := #[]
  staticTypes := #[]
  resolved := Array.replicate 131 none
  statics := none }

def pool7 : Array CpInfo := pool [(1, .class_ 2), (0, u "java/lang/constant/Constable"), (0, .class_ 4), (0, u "java/lang/Object")] 6

/-- java/lang/constant/Constable -/
def k7 : Class := { plain "java/lang/constant/Constable" (some 0) with
  accessFlags := 1537
  interfaces := #[]
  cf := some (fileOf pool7 1 #[] #[] 1537 3 #[] #[])
  fields := #[]
  methods := #[]
  instanceTypes := #[]
  staticTypes := #[]
  resolved := Array.replicate 11 none
  statics := none }

def pool8 : Array CpInfo := pool [(1, .class_ 2), (0, u "java/lang/constant/ConstantDesc"), (0, .class_ 4), (0, u "java/lang/Object")] 32

/-- java/lang/constant/ConstantDesc -/
def k8 : Class := { plain "java/lang/constant/ConstantDesc" (some 0) with
  accessFlags := 1537
  interfaces := #[]
  cf := some (fileOf pool8 1 #[] #[] 1537 3 #[] #[])
  fields := #[]
  methods := #[]
  instanceTypes := #[]
  staticTypes := #[]
  resolved := Array.replicate 37 none
  statics := none }

def pool9 : Array CpInfo := pool [(2, .class_ 4), (1, u "java/lang/Object"), (0, u "<init>"), (0, u "()V"), (3, .class_ 12), (1, u "java/lang/String"), (0, u "value"), (0, u "[B"), (2, u "coder"), (0, u "B"), (2, u "hash"), (0, u "I"), (2, u "hashIsZero"), (0, u "Z"), (13, u "COMPACT_STRINGS"), (534, .class_ 576), (0, u "java/lang/CharSequence"), (22, u "CASE_INSENSITIVE_ORDER"), (0, u "Ljava/util/Comparator;"), (500, u "serialPersistentFields"), (0, u "[Ljava/io/ObjectStreamField;"), (0, .class_ 1104), (0, u "java/lang/String$CaseInsensitiveComparator"), (1, .class_ 1107), (0, u "java/io/Serializable"), (0, .class_ 1109), (0, u "java/lang/Comparable"), (0, .class_ 1111), (0, u "java/lang/constant/Constable"), (0, .class_ 1113), (0, u "java/lang/constant/ConstantDesc"), (2, u "serialVersionUID"), (0, u "J"), (3, u "REPL"), (0, u "C"), (2, u "LATIN1"), (1, u "UTF16")] 323

def k9m0 : Method := { name := "<init>", desc := "()V", sig := { parameters := [], returnType := none }, accessFlags := 1, code := none }
/-- java/lang/String -/
def k9 : Class := { plain "java/lang/String" (some 0) with
  accessFlags := 49
  interfaces := #[4, 5, 6, 7, 8]
  cf := some (fileOf pool9 10 #[.nestMembers #[1103]] #[{ accessFlags := 1, nameIndex := 5, descriptorIndex := 6, attributes := #[] }] 49 2 #[1106, 1108, 575, 1110, 1112] #[{ accessFlags := 18, nameIndex := 13, descriptorIndex := 14, attributes := #[] }, { accessFlags := 18, nameIndex := 17, descriptorIndex := 18, attributes := #[] }, { accessFlags := 2, nameIndex := 21, descriptorIndex := 22, attributes := #[] }, { accessFlags := 2, nameIndex := 25, descriptorIndex := 26, attributes := #[] }, { accessFlags := 26, nameIndex := 1116, descriptorIndex := 1117, attributes := #[] }, { accessFlags := 24, nameIndex := 40, descriptorIndex := 26, attributes := #[] }, { accessFlags := 26, nameIndex := 1101, descriptorIndex := 1102, attributes := #[] }, { accessFlags := 26, nameIndex := 1121, descriptorIndex := 1122, attributes := #[] }, { accessFlags := 25, nameIndex := 599, descriptorIndex := 600, attributes := #[] }, { accessFlags := 24, nameIndex := 1125, descriptorIndex := 18, attributes := #[] }, { accessFlags := 24, nameIndex := 1127, descriptorIndex := 18, attributes := #[] }])
  fields := #[{ name := "value", type := (.array .byte), accessFlags := 18, slot := 0, constantValue := 0 }, { name := "coder", type := .byte, accessFlags := 18, slot := 1, constantValue := 0 }, { name := "hash", type := .int, accessFlags := 2, slot := 2, constantValue := 0 }, { name := "hashIsZero", type := .boolean, accessFlags := 2, slot := 3, constantValue := 0 }, { name := "serialVersionUID", type := .long, accessFlags := 26, slot := 0, constantValue := 0 }, { name := "COMPACT_STRINGS", type := .boolean, accessFlags := 24, slot := 1, constantValue := 0 }, { name := "serialPersistentFields", type := (.array (.object "java/io/ObjectStreamField")), accessFlags := 26, slot := 2, constantValue := 0 }, { name := "REPL", type := .char, accessFlags := 26, slot := 3, constantValue := 0 }, { name := "CASE_INSENSITIVE_ORDER", type := (.object "java/util/Comparator"), accessFlags := 25, slot := 4, constantValue := 0 }, { name := "LATIN1", type := .byte, accessFlags := 24, slot := 5, constantValue := 0 }, { name := "UTF16", type := .byte, accessFlags := 24, slot := 6, constantValue := 0 }]
  methods := #[k9m0]
  instanceTypes := #[(.array .byte), .byte, .int, .boolean]
  staticTypes := #[.long, .boolean, (.array (.object "java/io/ObjectStreamField")), .char, (.object "java/util/Comparator"), .byte, .byte]
  resolved := Array.replicate 1451 none
  statics := none }

def pool10 : Array CpInfo := pool [(1, u "java/lang/Cloneable"), (0, .class_ 1), (0, u "java/lang/Object"), (0, .class_ 3)] 3

/-- java/lang/Cloneable -/
def k10 : Class := { plain "java/lang/Cloneable" (some 0) with
  accessFlags := 1537
  interfaces := #[]
  cf := some (fileOf pool10 2 #[] #[] 1537 4 #[] #[])
  fields := #[]
  methods := #[]
  instanceTypes := #[]
  staticTypes := #[]
  resolved := Array.replicate 8 none
  statics := none }

/-- the primitive byte -/
def k11 : Class := { plain "byte" none with kind := .primitive 'B', accessFlags := 0x411 }
/-- [B -/
def k12 : Class := { plain "[B" (some 0) with kind := .array 11 .byte, interfaces := #[10, 4], accessFlags := 1041 }

/-- the primitive int -/
def k13 : Class := { plain "int" none with kind := .primitive 'I', accessFlags := 0x411 }
/-- [I -/
def k14 : Class := { plain "[I" (some 0) with kind := .array 13 .int, interfaces := #[10, 4], accessFlags := 1041 }

def heap : Heap := #[]
def classes : Array Class := #[k0, k1, k2, k3, k4, k5, k6, k7, k8, k9, k10, k11, k12, k13, k14]
def interned : List (Array UInt16 × Addr) := []
def slotsUsed : Nat := 0
def theMethod : MethodId := ⟨1, 1⟩
def args0 : Array Value := #[.int 5, .long 1, .long 2, .long 3, .long 4, .long 5]
def aboutOver (below : List Frame) : State where
  vm := { classes := classes, interned := interned.toArray }
  heap := heap
  slotsUsed := slotsUsed
  threads := #[{ frames := .invoking theMethod args0 :: below }]
def below0 : List Frame := [.native { method := ⟨0, 0⟩, args := #[] }]
def about1 : State := aboutOver below0
def p0 : Program := .bare "" "" ""
def e0 : Env := launch0.env 0 0 0
theorem w_frames : about1.frames = Frame.invoking theMethod args0 :: below0 := rfl
set_option maxRecDepth 65536 in
theorem w_args : argsFit about1.vm theMethod args0 = true := by decide +kernel
set_option maxRecDepth 65536 in
theorem w_heap : heapFits about1 = true := by decide +kernel
set_option maxRecDepth 65536 in
theorem w_runnable : about1.curStatus? = some .runnable := by decide +kernel
set_option maxRecDepth 65536 in
theorem w_alone : about1.alone = true := by decide +kernel
set_option maxRecDepth 65536 in
theorem w_named : about1.methodNamed? x = some theMethod := by decide +kernel
set_option maxRecDepth 65536 in
theorem w_hears : about1.hears theMethod below0 = true := by decide +kernel
set_option maxRecDepth 65536 in
theorem w_ripe : about1.ripe theMethod args0 below0 = true := by decide +kernel
theorem w_running : about1.status = .running := rfl
set_option maxRecDepth 65536 in
theorem w_room : about1.hasRoom e0.platform room_1 = true :=
  launch0.hasRoom_least _ room_1 (by decide +kernel) (by decide +kernel) (by decide +kernel) (by decide +kernel) (by decide +kernel) (by decide +kernel)
theorem allAtoms_all (ts : List Jvm.Cond) (a : Array Jvm.Value) (st : Jvm.State) : (allAtoms ts).before a st = ts.all (fun c => c.before a st) := by
  induction ts with
  | nil => rfl
  | cons c t ih =>
    show (Jvm.Cond.and c (allAtoms t)).before a st = _
    rw [Jvm.Cond.before_and, ih, List.all_cons]
def words1 : List Jvm.Cond := Jvm.Cond.code x code maxLocals ret :: tables_1
/-- a 'code' word, met by the world's own term for the bytes: nothing is compared byte by byte -/
theorem code_word {y : MethodName} {bytes : ByteArray} {mx : Nat} {rt : Option FieldType} {a : Array Value} {s : State} {m : MethodId} {meth : Method} {c : Code} (h1 : s.methodNamed? y = some m) (h2 : s.vm.method? m = some meth) (h3 : meth.code = some c) (h4 : c.code = bytes)
    (h5 : (c.maxLocals == mx && c.exceptionTable.isEmpty && decide (c.maxStack ≤ mostOperands) && decide (meth.sig.returnType = rt) && !meth.locks && decide (parseMethodDescriptor y.desc = some meth.sig)) = true) : (Jvm.Cond.code y bytes mx rt).before a s = true := by
  simp only [Bool.and_eq_true, beq_iff_eq, Bool.not_eq_true', decide_eq_true_eq] at h5
  obtain ⟨⟨⟨⟨⟨g1, g2⟩, g3⟩, g4⟩, g5⟩, g6⟩ := h5
  simp [Cond.before, Cond.holds, Cond.value, h1, h2, h3, h4, g1, g2, g3, g4, g5, g6]
def isCode : Jvm.Cond → Bool
  | .code _ _ _ _ => true
  | _ => false
theorem all_split {L : List Jvm.Cond} {P : Jvm.Cond → Bool} (h1 : L.all (fun c => isCode c || P c) = true) (h2 : ∀ c ∈ L.filter isCode, P c = true) : L.all P = true := by
  refine List.all_eq_true.mpr fun c hc => ?_
  have h := List.all_eq_true.mp h1 c hc
  rcases Bool.eq_false_or_eq_true (isCode c) with hi | hi
  · exact h2 c (List.mem_filter.mpr ⟨hc, hi⟩)
  · simpa [hi] using h
set_option maxRecDepth 65536 in
theorem w_c0 : (Jvm.Cond.code x code maxLocals ret).before args0 about1 = true := code_word (m := ⟨1, 1⟩) (meth := k1m1) (c := k1c1) (by decide +kernel) rfl rfl rfl (by decide +kernel)
set_option maxRecDepth 65536 in
theorem w_c1 : (Jvm.Cond.code ({ cls := "java/lang/Math", name := "max", desc := "(II)I" } : Jvm.MethodName) jdk_29_method_65_code (2 : Nat) (Option.some Jvm.ClassFile.FieldType.int)).before args0 about1 = true := code_word (m := ⟨2, 1⟩) (meth := k2m1) (c := k2c1) (by decide +kernel) rfl rfl rfl (by decide +kernel)
set_option maxRecDepth 65536 in
theorem w_c2 : (Jvm.Cond.code ({ cls := "com/example/prewrm/prewrm/model/ReplayConfig", name := "<init>", desc := "(IZ)V" } : Jvm.MethodName) prog_18_method_1_code (3 : Nat) (Option.none : Option Jvm.ClassFile.FieldType)).before args0 about1 = true := code_word (m := ⟨3, 0⟩) (meth := k3m0) (c := k3c0) (by decide +kernel) rfl rfl rfl (by decide +kernel)
set_option maxRecDepth 65536 in
theorem w_c3 : (Jvm.Cond.code ({ cls := "com/example/prewrm/prewrm/model/ReplayConfig", name := "<init>", desc := "(IZJJJIIJJ)V" } : Jvm.MethodName) prog_18_method_2_code (15 : Nat) (Option.none : Option Jvm.ClassFile.FieldType)).before args0 about1 = true := code_word (m := ⟨3, 1⟩) (meth := k3m1) (c := k3c1) (by decide +kernel) rfl rfl rfl (by decide +kernel)
set_option maxRecDepth 65536 in
theorem w_c4 : (Jvm.Cond.code ({ cls := "java/lang/Object", name := "<init>", desc := "()V" } : Jvm.MethodName) object_method_1_code (1 : Nat) (Option.none : Option Jvm.ClassFile.FieldType)).before args0 about1 = true := code_word (m := ⟨0, 0⟩) (meth := k0m0) (c := k0c0) (by decide +kernel) rfl rfl rfl (by decide +kernel)
set_option maxRecDepth 65536 in
theorem w_c5 : (Jvm.Cond.code ({ cls := "com/example/prewrm/prewrm/model/ReplayConfig", name := "checkAtLeast", desc := "(Ljava/lang/String;JJ)V" } : Jvm.MethodName) prog_18_method_19_code (5 : Nat) (Option.none : Option Jvm.ClassFile.FieldType)).before args0 about1 = true := code_word (m := ⟨3, 16⟩) (meth := k3m16) (c := k3c16) (by decide +kernel) rfl rfl rfl (by decide +kernel)
set_option maxRecDepth 65536 in
theorem w_c6 : (Jvm.Cond.code ({ cls := "com/example/prewrm/prewrm/model/ReplayConfig", name := "withKeepAliveMs", desc := "(J)Lcom/example/prewrm/prewrm/model/ReplayConfig;" } : Jvm.MethodName) prog_18_method_3_code (3 : Nat) (Option.some (Jvm.ClassFile.FieldType.object "com/example/prewrm/prewrm/model/ReplayConfig"))).before args0 about1 = true := code_word (m := ⟨3, 2⟩) (meth := k3m2) (c := k3c2) (by decide +kernel) rfl rfl rfl (by decide +kernel)
set_option maxRecDepth 65536 in
theorem w_c7 : (Jvm.Cond.code ({ cls := "com/example/prewrm/prewrm/model/ReplayConfig", name := "withDurationMs", desc := "(J)Lcom/example/prewrm/prewrm/model/ReplayConfig;" } : Jvm.MethodName) prog_18_method_5_code (3 : Nat) (Option.some (Jvm.ClassFile.FieldType.object "com/example/prewrm/prewrm/model/ReplayConfig"))).before args0 about1 = true := code_word (m := ⟨3, 4⟩) (meth := k3m4) (c := k3c4) (by decide +kernel) rfl rfl rfl (by decide +kernel)
set_option maxRecDepth 65536 in
theorem w_c8 : (Jvm.Cond.code ({ cls := "com/example/prewrm/prewrm/model/ReplayConfig", name := "withWarmUpMs", desc := "(J)Lcom/example/prewrm/prewrm/model/ReplayConfig;" } : Jvm.MethodName) prog_18_method_8_code (3 : Nat) (Option.some (Jvm.ClassFile.FieldType.object "com/example/prewrm/prewrm/model/ReplayConfig"))).before args0 about1 = true := code_word (m := ⟨3, 5⟩) (meth := k3m5) (c := k3c5) (by decide +kernel) rfl rfl rfl (by decide +kernel)
set_option maxRecDepth 65536 in
theorem w_c9 : (Jvm.Cond.code ({ cls := "com/example/prewrm/prewrm/model/ReplayConfig", name := "withHopMs", desc := "(J)Lcom/example/prewrm/prewrm/model/ReplayConfig;" } : Jvm.MethodName) prog_18_method_9_code (3 : Nat) (Option.some (Jvm.ClassFile.FieldType.object "com/example/prewrm/prewrm/model/ReplayConfig"))).before args0 about1 = true := code_word (m := ⟨3, 6⟩) (meth := k3m6) (c := k3c6) (by decide +kernel) rfl rfl rfl (by decide +kernel)
set_option maxRecDepth 65536 in
theorem w_c10 : (Jvm.Cond.code ({ cls := "com/example/prewrm/prewrm/model/ReplayConfig", name := "withColdStartMs", desc := "(J)Lcom/example/prewrm/prewrm/model/ReplayConfig;" } : Jvm.MethodName) prog_18_method_4_code (3 : Nat) (Option.some (Jvm.ClassFile.FieldType.object "com/example/prewrm/prewrm/model/ReplayConfig"))).before args0 about1 = true := code_word (m := ⟨3, 3⟩) (meth := k3m3) (c := k3c3) (by decide +kernel) rfl rfl rfl (by decide +kernel)
set_option maxRecDepth 65536 in
theorem w_c11 : (Jvm.Cond.code ({ cls := "com/example/prewrm/prewrm/model/ReplayConfig", name := "getColdStartMs", desc := "()J" } : Jvm.MethodName) prog_18_method_13_code (1 : Nat) (Option.some Jvm.ClassFile.FieldType.long)).before args0 about1 = true := code_word (m := ⟨3, 10⟩) (meth := k3m10) (c := k3c10) (by decide +kernel) rfl rfl rfl (by decide +kernel)
set_option maxRecDepth 65536 in
theorem w_c12 : (Jvm.Cond.code ({ cls := "com/example/prewrm/prewrm/model/ReplayConfig", name := "getServers", desc := "()I" } : Jvm.MethodName) prog_18_method_10_code (1 : Nat) (Option.some Jvm.ClassFile.FieldType.int)).before args0 about1 = true := code_word (m := ⟨3, 7⟩) (meth := k3m7) (c := k3c7) (by decide +kernel) rfl rfl rfl (by decide +kernel)
set_option maxRecDepth 65536 in
theorem w_c13 : (Jvm.Cond.code ({ cls := "com/example/prewrm/prewrm/model/ReplayConfig", name := "isSharding", desc := "()Z" } : Jvm.MethodName) prog_18_method_11_code (1 : Nat) (Option.some Jvm.ClassFile.FieldType.boolean)).before args0 about1 = true := code_word (m := ⟨3, 8⟩) (meth := k3m8) (c := k3c8) (by decide +kernel) rfl rfl rfl (by decide +kernel)
set_option maxRecDepth 65536 in
theorem w_c14 : (Jvm.Cond.code ({ cls := "com/example/prewrm/prewrm/model/ReplayConfig", name := "getKeepAliveMs", desc := "()J" } : Jvm.MethodName) prog_18_method_12_code (1 : Nat) (Option.some Jvm.ClassFile.FieldType.long)).before args0 about1 = true := code_word (m := ⟨3, 9⟩) (meth := k3m9) (c := k3c9) (by decide +kernel) rfl rfl rfl (by decide +kernel)
set_option maxRecDepth 65536 in
theorem w_c15 : (Jvm.Cond.code ({ cls := "com/example/prewrm/prewrm/model/ReplayConfig", name := "getDurationMs", desc := "()J" } : Jvm.MethodName) prog_18_method_14_code (1 : Nat) (Option.some Jvm.ClassFile.FieldType.long)).before args0 about1 = true := code_word (m := ⟨3, 11⟩) (meth := k3m11) (c := k3c11) (by decide +kernel) rfl rfl rfl (by decide +kernel)
set_option maxRecDepth 65536 in
theorem w_c16 : (Jvm.Cond.code ({ cls := "com/example/prewrm/prewrm/model/ReplayConfig", name := "getMaxConcurrent", desc := "()I" } : Jvm.MethodName) prog_18_method_15_code (1 : Nat) (Option.some Jvm.ClassFile.FieldType.int)).before args0 about1 = true := code_word (m := ⟨3, 12⟩) (meth := k3m12) (c := k3c12) (by decide +kernel) rfl rfl rfl (by decide +kernel)
set_option maxRecDepth 65536 in
theorem w_c17 : (Jvm.Cond.code ({ cls := "com/example/prewrm/prewrm/model/ReplayConfig", name := "getCapacity", desc := "()I" } : Jvm.MethodName) prog_18_method_16_code (1 : Nat) (Option.some Jvm.ClassFile.FieldType.int)).before args0 about1 = true := code_word (m := ⟨3, 13⟩) (meth := k3m13) (c := k3c13) (by decide +kernel) rfl rfl rfl (by decide +kernel)
set_option maxRecDepth 65536 in
theorem w_c18 : (Jvm.Cond.code ({ cls := "com/example/prewrm/prewrm/model/ReplayConfig", name := "getWarmUpMs", desc := "()J" } : Jvm.MethodName) prog_18_method_17_code (1 : Nat) (Option.some Jvm.ClassFile.FieldType.long)).before args0 about1 = true := code_word (m := ⟨3, 14⟩) (meth := k3m14) (c := k3c14) (by decide +kernel) rfl rfl rfl (by decide +kernel)
set_option maxRecDepth 65536 in
theorem w_c19 : (Jvm.Cond.code ({ cls := "com/example/prewrm/prewrm/model/ReplayConfig", name := "getHopMs", desc := "()J" } : Jvm.MethodName) prog_18_method_18_code (1 : Nat) (Option.some Jvm.ClassFile.FieldType.long)).before args0 about1 = true := code_word (m := ⟨3, 15⟩) (meth := k3m15) (c := k3c15) (by decide +kernel) rfl rfl rfl (by decide +kernel)
def codes1 : List Jvm.Cond := [Jvm.Cond.code x code maxLocals ret, Jvm.Cond.code ({ cls := "java/lang/Math", name := "max", desc := "(II)I" } : Jvm.MethodName) jdk_29_method_65_code (2 : Nat) (Option.some Jvm.ClassFile.FieldType.int), Jvm.Cond.code ({ cls := "com/example/prewrm/prewrm/model/ReplayConfig", name := "<init>", desc := "(IZ)V" } : Jvm.MethodName) prog_18_method_1_code (3 : Nat) (Option.none : Option Jvm.ClassFile.FieldType), Jvm.Cond.code ({ cls := "com/example/prewrm/prewrm/model/ReplayConfig", name := "<init>", desc := "(IZJJJIIJJ)V" } : Jvm.MethodName) prog_18_method_2_code (15 : Nat) (Option.none : Option Jvm.ClassFile.FieldType), Jvm.Cond.code ({ cls := "java/lang/Object", name := "<init>", desc := "()V" } : Jvm.MethodName) object_method_1_code (1 : Nat) (Option.none : Option Jvm.ClassFile.FieldType), Jvm.Cond.code ({ cls := "com/example/prewrm/prewrm/model/ReplayConfig", name := "checkAtLeast", desc := "(Ljava/lang/String;JJ)V" } : Jvm.MethodName) prog_18_method_19_code (5 : Nat) (Option.none : Option Jvm.ClassFile.FieldType), Jvm.Cond.code ({ cls := "com/example/prewrm/prewrm/model/ReplayConfig", name := "withKeepAliveMs", desc := "(J)Lcom/example/prewrm/prewrm/model/ReplayConfig;" } : Jvm.MethodName) prog_18_method_3_code (3 : Nat) (Option.some (Jvm.ClassFile.FieldType.object "com/example/prewrm/prewrm/model/ReplayConfig")), Jvm.Cond.code ({ cls := "com/example/prewrm/prewrm/model/ReplayConfig", name := "withDurationMs", desc := "(J)Lcom/example/prewrm/prewrm/model/ReplayConfig;" } : Jvm.MethodName) prog_18_method_5_code (3 : Nat) (Option.some (Jvm.ClassFile.FieldType.object "com/example/prewrm/prewrm/model/ReplayConfig")), Jvm.Cond.code ({ cls := "com/example/prewrm/prewrm/model/ReplayConfig", name := "withWarmUpMs", desc := "(J)Lcom/example/prewrm/prewrm/model/ReplayConfig;" } : Jvm.MethodName) prog_18_method_8_code (3 : Nat) (Option.some (Jvm.ClassFile.FieldType.object "com/example/prewrm/prewrm/model/ReplayConfig")), Jvm.Cond.code ({ cls := "com/example/prewrm/prewrm/model/ReplayConfig", name := "withHopMs", desc := "(J)Lcom/example/prewrm/prewrm/model/ReplayConfig;" } : Jvm.MethodName) prog_18_method_9_code (3 : Nat) (Option.some (Jvm.ClassFile.FieldType.object "com/example/prewrm/prewrm/model/ReplayConfig")), Jvm.Cond.code ({ cls := "com/example/prewrm/prewrm/model/ReplayConfig", name := "withColdStartMs", desc := "(J)Lcom/example/prewrm/prewrm/model/ReplayConfig;" } : Jvm.MethodName) prog_18_method_4_code (3 : Nat) (Option.some (Jvm.ClassFile.FieldType.object "com/example/prewrm/prewrm/model/ReplayConfig")), Jvm.Cond.code ({ cls := "com/example/prewrm/prewrm/model/ReplayConfig", name := "getColdStartMs", desc := "()J" } : Jvm.MethodName) prog_18_method_13_code (1 : Nat) (Option.some Jvm.ClassFile.FieldType.long), Jvm.Cond.code ({ cls := "com/example/prewrm/prewrm/model/ReplayConfig", name := "getServers", desc := "()I" } : Jvm.MethodName) prog_18_method_10_code (1 : Nat) (Option.some Jvm.ClassFile.FieldType.int), Jvm.Cond.code ({ cls := "com/example/prewrm/prewrm/model/ReplayConfig", name := "isSharding", desc := "()Z" } : Jvm.MethodName) prog_18_method_11_code (1 : Nat) (Option.some Jvm.ClassFile.FieldType.boolean), Jvm.Cond.code ({ cls := "com/example/prewrm/prewrm/model/ReplayConfig", name := "getKeepAliveMs", desc := "()J" } : Jvm.MethodName) prog_18_method_12_code (1 : Nat) (Option.some Jvm.ClassFile.FieldType.long), Jvm.Cond.code ({ cls := "com/example/prewrm/prewrm/model/ReplayConfig", name := "getDurationMs", desc := "()J" } : Jvm.MethodName) prog_18_method_14_code (1 : Nat) (Option.some Jvm.ClassFile.FieldType.long), Jvm.Cond.code ({ cls := "com/example/prewrm/prewrm/model/ReplayConfig", name := "getMaxConcurrent", desc := "()I" } : Jvm.MethodName) prog_18_method_15_code (1 : Nat) (Option.some Jvm.ClassFile.FieldType.int), Jvm.Cond.code ({ cls := "com/example/prewrm/prewrm/model/ReplayConfig", name := "getCapacity", desc := "()I" } : Jvm.MethodName) prog_18_method_16_code (1 : Nat) (Option.some Jvm.ClassFile.FieldType.int), Jvm.Cond.code ({ cls := "com/example/prewrm/prewrm/model/ReplayConfig", name := "getWarmUpMs", desc := "()J" } : Jvm.MethodName) prog_18_method_17_code (1 : Nat) (Option.some Jvm.ClassFile.FieldType.long), Jvm.Cond.code ({ cls := "com/example/prewrm/prewrm/model/ReplayConfig", name := "getHopMs", desc := "()J" } : Jvm.MethodName) prog_18_method_18_code (1 : Nat) (Option.some Jvm.ClassFile.FieldType.long)]
set_option maxRecDepth 65536 in
theorem codes_eq : words1.filter isCode = codes1 := rfl
theorem w_codes : ∀ c ∈ words1.filter isCode, c.before args0 about1 = true := by
  rw [codes_eq]
  intro c hc
  simp only [codes1, List.mem_cons, List.not_mem_nil, or_false] at hc
  rcases hc with rfl | rfl | rfl | rfl | rfl | rfl | rfl | rfl | rfl | rfl | rfl | rfl | rfl | rfl | rfl | rfl | rfl | rfl | rfl | rfl
  · exact w_c0
  · exact w_c1
  · exact w_c2
  · exact w_c3
  · exact w_c4
  · exact w_c5
  · exact w_c6
  · exact w_c7
  · exact w_c8
  · exact w_c9
  · exact w_c10
  · exact w_c11
  · exact w_c12
  · exact w_c13
  · exact w_c14
  · exact w_c15
  · exact w_c16
  · exact w_c17
  · exact w_c18
  · exact w_c19
set_option maxRecDepth 65536 in
theorem w_t1 : (words1.take 24).all (fun c => isCode c || c.before args0 about1) = true := by decide +kernel
set_option maxRecDepth 65536 in
theorem w_t2 : ((words1.drop 24).take 24).all (fun c => isCode c || c.before args0 about1) = true := by decide +kernel
set_option maxRecDepth 65536 in
theorem w_t3 : (((words1.drop 24).drop 24).take 24).all (fun c => isCode c || c.before args0 about1) = true := by decide +kernel
set_option maxRecDepth 65536 in
theorem w_t4 : ((((words1.drop 24).drop 24).drop 24).take 24).all (fun c => isCode c || c.before args0 about1) = true := by decide +kernel
set_option maxRecDepth 65536 in
theorem w_t5 : (((((words1.drop 24).drop 24).drop 24).drop 24).take 24).all (fun c => isCode c || c.before args0 about1) = true := by decide +kernel
set_option maxRecDepth 65536 in
theorem w_t6 : (((((words1.drop 24).drop 24).drop 24).drop 24).drop 24).all (fun c => isCode c || c.before args0 about1) = true := by decide +kernel
theorem w_tables : (allAtoms (Jvm.Cond.code x code maxLocals ret :: tables_1)).before args0 about1 = true := by
  rw [allAtoms_all]
  show words1.all (fun c => c.before args0 about1) = true
  refine all_split ?_ w_codes
  rw [← List.take_append_drop 24 words1, List.all_append, w_t1, ← List.take_append_drop 24 (words1.drop 24), List.all_append, w_t2, ← List.take_append_drop 24 ((words1.drop 24).drop 24), List.all_append, w_t3, ← List.take_append_drop 24 (((words1.drop 24).drop 24).drop 24), List.all_append, w_t4, ← List.take_append_drop 24 ((((words1.drop 24).drop 24).drop 24).drop 24), List.all_append, w_t5, w_t6]
  rfl
set_option maxRecDepth 65536 in
theorem w_case : (Jvm.Cond.and given_1 narrow_1).before args0 about1 = true := by decide +kernel
theorem w_applies : (headSpec (Jvm.Cond.code x code maxLocals ret :: tables_1) room_1).applies x e0.platform about1 = true :=
  (Spec.applies_iff w_frames).mpr ⟨w_running, w_runnable, w_alone, w_named, w_hears, w_ripe, w_room, w_tables⟩
theorem atStart : AtStart classFile x code maxLocals ret World_1 tables_1 room_1 Calls_1 rest_1 Pre_1 launch0 p0 e0 about1 theMethod args0 below0 :=
  ⟨lists_1, trivial, launch0.admits_env _ _ _, launch0.least_env, fairChoices_fair.cas, fairChoices_fair.clock, w_frames, w_args, w_heap, w_applies, trivial, trivial, w_case⟩
end start1
theorem witness_1 : WitnessClaimed_1 := ⟨start1.p0, start1.e0, start1.about1, start1.theMethod, start1.args0, start1.below0, start1.atStart⟩
end Jvm.Pilot.@@N@@
