import JvmDerived
import JvmDerived.Pilot.@@N@@Statement
import JvmDerived.Pilot.@@N@@Code
set_option linter.unusedVariables false
set_option linter.unusedSimpArgs false
namespace Jvm.RoadKit
open Sem ClassFile Op Lib Jvm.Stand Jvm.Free Jvm.LawKit
section New
variable {p : Program} {l : Launch} {e : Env} {R : Room} {s : State} {m : MethodId} {args : Array Value} {below : List Frame} {meth : Method} {c : Code} {T : State} {locs : List Loc} {cells slots : Nat}
theorem retI (X : Stand p l e R s m args below meth c T locs cells slots) (hx : p.tables.exec = Jvm.exec) {pc : Nat} {Ls : Array Slot} {z : Int32} {rest : List Value} (hret : meth.sig.returnType = some .int) (hd : decode c.code pc = .ok (.ireturn, 1)) {fs : List Frame}
    (hl : ∀ (f : JFrame) (acts : List Action), f.method = m → f.locked = none → f.entered = [] → (doReturn e (T.setTop f) acts (some (.int z))).1 = T.setFrames fs) : Steps p.tables e below (T.setTop (mkF m pc Ls (.int z :: rest))) (T.setFrames fs) := by
  have hm' : T.vm.method? m = some meth := X.method'
  have hn : narrow .int (.int z) = .int z := rfl
  show Steps p.tables e below (T.setTop { method := m, pc := pc, locals := Ls, stack := _ :: rest, locked := none }) _
  jvm_step X.here [X.here.top, hx, hd, hm', hret, hn]
  first | (intro acts; rw [hl _ acts rfl rfl rfl]) | rw [hl _ _ rfl rfl rfl]
  exact Steps.refl _
end New
theorem own_lc_tlt {a b : Int64} (h : a < b) : lcmpW a b < 0 := by rw [lcW]; exact (lc_lt _ _).2 h
theorem own_lc_flt {a b : Int64} (h : ¬ a < b) : ¬ lcmpW a b < 0 := by rw [lcW]; exact fun q => h ((lc_lt _ _).1 q)
theorem own_lc_tgt {a b : Int64} (h : b < a) : 0 < lcmpW a b := by rw [lcW]; exact (lc_gt _ _).2 h
theorem own_lc_fgt {a b : Int64} (h : ¬ b < a) : ¬ 0 < lcmpW a b := by rw [lcW]; exact fun q => h ((lc_gt _ _).1 q)
theorem own_lc_teq {a b : Int64} (h : a = b) : lcmpW a b = 0 := by rw [lcW]; exact (lc_eq _ _).2 h
theorem own_lc_feq {a b : Int64} (h : ¬ a = b) : ¬ lcmpW a b = 0 := by rw [lcW]; exact fun q => h ((lc_eq _ _).1 q)
end Jvm.RoadKit
namespace Jvm.Pilot.@@N@@
open Jvm Jvm.ClassFile Sem Op Lib Jvm.Free Jvm.Stand Jvm.LawKit Jvm.RoadKit Bundle Jvm.Pilot.@@N@@.Jvm.D

def own_A (Z : State) (h : Heap) (a : Addr) (ty : FieldType) (n : Int32) (y : Int32 → Value) : Prop := ∃ c : Cell, Arr Z h a c ty ∧ c.slots.size = n.toNatClampNeg ∧ ¬ n < 0 ∧ ∀ j : Int32, ¬ (j < 0 ∨ c.slots.size ≤ j.toNatClampNeg) → c.slots[j.toNatClampNeg]? = some (y j)
theorem own_A_lt {Z : State} {h : Heap} {a : Addr} {ty : FieldType} {n : Int32} {y : Int32 → Value} (F : own_A Z h a ty n y) : a < h.size := by obtain ⟨c, A, -⟩ := F; exact A.lt
theorem own_A_ext {Z : State} {h h' : Heap} {a : Addr} {ty : FieldType} {n : Int32} {y : Int32 → Value} (F : own_A Z h a ty n y) (E : Ext h h') : own_A Z h' a ty n y := by obtain ⟨c, A, r⟩ := F; exact ⟨c, A.ext E, r⟩
theorem own_A_other {Z : State} {h h' : Heap} {a b : Addr} {ty : FieldType} {n : Int32} {y : Int32 → Value} {sl : Nat} {v : Value} (F : own_A Z h b ty n y) (W : Wr h h' a sl v) (q : b ≠ a) : own_A Z h' b ty n y := by obtain ⟨c, A, r⟩ := F; exact ⟨c, A.other W q, r⟩
theorem own_A_keep {Z : State} {h h' : Heap} {a : Addr} {ty : FieldType} {n : Int32} {y : Int32 → Value} {ws : List Addr} (F : own_A Z h a ty n y) (K : Keep h h' ws) (q : a ∉ ws) : own_A Z h' a ty n y := by obtain ⟨c, A, r⟩ := F; exact ⟨c, ⟨K.2.1 a c A.1 q, A.2⟩, r⟩
theorem own_A_new {Z : State} {h : Heap} {a : Addr} {k : ClassId} {ty : FieldType} {n : Int32} (A : Arr Z h a (newA k ty n) ty) (q : ¬ n < 0) : own_A Z h a ty n (fun _ => defaultValue ty) := by
  obtain ⟨c, A', -, S, M, H, -⟩ := Arv.new A q
  exact ⟨c, A', S, M, fun j hj => (H _ (Nat.lt_of_not_le fun y => hj (Or.inr y))).trans (by simp)⟩
theorem own_A_set {Z : State} {h h' : Heap} {a : Addr} {ty : FieldType} {n j : Int32} {y z : Int32 → Value} {v : Value} {c : Cell} (A : Arr Z h a c ty) (S : c.slots.size = n.toNatClampNeg) (M : ¬ n < 0) (H : ∀ j : Int32, ¬ (j < 0 ∨ c.slots.size ≤ j.toNatClampNeg) → c.slots[j.toNatClampNeg]? = some (y j)) (hj : ¬ (j < 0 ∨ c.slots.size ≤ j.toNatClampNeg)) (W : Wr h h' a j.toNatClampNeg v) (hz : z j = v) (hz' : ∀ i, ¬ i = j → z i = y i) : own_A Z h' a ty n z := by
  refine ⟨_, A.same W, by rw [sz_set]; exact S, M, fun i hi => ?_⟩
  rw [sz_set] at hi
  have hs : (c.setSlot j.toNatClampNeg v).slots = c.slots.setIfInBounds j.toNatClampNeg v := rfl
  rw [hs, Array.getElem?_setIfInBounds]
  by_cases e : i = j
  · subst e
    rw [if_pos rfl, if_pos (Nat.lt_of_not_le fun q => hj (Or.inr q)), hz]
  · have e' : ¬ j.toNatClampNeg = i.toNatClampNeg := fun q => e (Int32.toInt_inj.mp (by rw [nat_of (fun z => hi (Or.inl z)), nat_of (fun z => hj (Or.inl z)), q]))
    rw [if_neg e', hz' i e]
    exact H i hi
theorem own_setI {y : Int32 → Int32} {j x : Int32} : Value.int ((fun i => if i = j then x else y i) j) = .int x := congrArg Value.int (if_pos rfl)
theorem own_setI' {y : Int32 → Int32} {j x : Int32} : ∀ i, ¬ i = j → Value.int ((fun i => if i = j then x else y i) i) = .int (y i) := fun i h => congrArg Value.int (if_neg h)
theorem own_setJ {y : Int32 → Int64} {j : Int32} {x : Int64} : Value.long ((fun i => if i = j then x else y i) j) = .long x := congrArg Value.long (if_pos rfl)
theorem own_setJ' {y : Int32 → Int64} {j : Int32} {x : Int64} : ∀ i, ¬ i = j → Value.long ((fun i => if i = j then x else y i) i) = .long (y i) := fun i h => congrArg Value.long (if_neg h)

theorem own_A_congr {Z : State} {h : Heap} {a : Addr} {ty : FieldType} {n : Int32} {y y' : Int32 → Value} (F : own_A Z h a ty n y) (e : ∀ i, y i = y' i) : own_A Z h a ty n y' := by
  have : y = y' := funext e
  subst this; exact F

def own_dig (y : Int32 → Int32) (i : Int32) : Nat → Int32
  | 0 => 1
  | k + 1 => if y i < (48 : Int32) then 0 else if (57 : Int32) < y i then 0 else own_dig y (i + 1) k

theorem d3_2 : decode prog_46_method_5_code 2 = .ok (.iload_n 3, 1) := by decide +kernel
theorem d3_3 : decode prog_46_method_5_code 3 = .ok (.iload_n 1, 1) := by decide +kernel
theorem d3_4 : decode prog_46_method_5_code 4 = .ok (.iload_n 2, 1) := by decide +kernel
theorem d3_5 : decode prog_46_method_5_code 5 = .ok (.iadd, 1) := by decide +kernel
theorem d3_6 : decode prog_46_method_5_code 6 = .ok (.if_icmp .ge 27, 3) := by decide +kernel
theorem d3_9 : decode prog_46_method_5_code 9 = .ok (.aload_n 0, 1) := by decide +kernel
theorem d3_10 : decode prog_46_method_5_code 10 = .ok (.iload_n 3, 1) := by decide +kernel
theorem d3_11 : decode prog_46_method_5_code 11 = .ok (.baload, 1) := by decide +kernel
theorem d3_12 : decode prog_46_method_5_code 12 = .ok (.bipush 48, 2) := by decide +kernel
theorem d3_14 : decode prog_46_method_5_code 14 = .ok (.if_icmp .lt 11, 3) := by decide +kernel
theorem d3_17 : decode prog_46_method_5_code 17 = .ok (.aload_n 0, 1) := by decide +kernel
theorem d3_18 : decode prog_46_method_5_code 18 = .ok (.iload_n 3, 1) := by decide +kernel
theorem d3_19 : decode prog_46_method_5_code 19 = .ok (.baload, 1) := by decide +kernel
theorem d3_20 : decode prog_46_method_5_code 20 = .ok (.bipush 57, 2) := by decide +kernel
theorem d3_22 : decode prog_46_method_5_code 22 = .ok (.if_icmp .le 5, 3) := by decide +kernel
theorem d3_27 : decode prog_46_method_5_code 27 = .ok (.iinc 3 1, 3) := by decide +kernel
theorem d3_30 : decode prog_46_method_5_code 30 = .ok (.goto (-28), 3) := by decide +kernel
set_option maxRecDepth 65536 in
set_option maxHeartbeats 40000000 in
theorem loop3 {p : Program} {l : Launch} {e : Env} {R : Room} {s : State} {m : MethodId} {args : Array Value} {below : List Frame} {meth : Method} {c : Code} {T : State} {locs : List Loc} {cells slots : Nat} {Z : State} {h0 : Heap} (X : Stand p l e R s m args below meth c T locs cells slots) (hx : p.tables.exec = Jvm.exec) (hZ : Z.Warmed39 s.vm) (hby : c.code = prog_46_method_5_code) (eT : T.heap = h0) {a1 : Addr} {cl : Cell} {y : Int32 → Int32} (Ar : Arr Z h0 a1 cl .byte) (Sz : cl.slots.size = (4 : Int32).toNatClampNeg) (Hz : ∀ j : Int32, ¬ (j < 0 ∨ cl.slots.size ≤ j.toNatClampNeg) → cl.slots[j.toNatClampNeg]? = some (.int (y j))) {p2 p3 : Int32} (h4 : p2.toInt + p3.toInt ≤ 4) (h5 : 0 ≤ p2.toInt) (h6 : 0 ≤ p3.toInt) :
    ∀ (k : Nat) (i : Int32), i.toInt + k = p2.toInt + p3.toInt → 0 ≤ i.toInt → ∀ target, (∀ i', own_dig y i k = 0 → Steps p.tables e below (T.setTop (mkF m 25 #[.val (.ref a1), .val (.int p2), .val (.int p3), .val (.int i')] [])) target) → (∀ i', own_dig y i k = 1 → Steps p.tables e below (T.setTop (mkF m 33 #[.val (.ref a1), .val (.int p2), .val (.int p3), .val (.int i')] [])) target) → Steps p.tables e below (T.setTop (mkF m 2 #[.val (.ref a1), .val (.int p2), .val (.int p3), .val (.int i)] [])) target := by
  have e0 : (0 : Int32).toInt = 0 := by decide
  have e1 : (1 : Int32).toInt = 1 := by decide
  have e4 : (4 : Int32).toInt = 4 := by decide
  have s1 := c_iadd p2 p3
  have s2 := rng32 (p2 + p3)
  intro k
  induction k with
  | zero =>
    intro i hk h0i target k0 k1
    show Steps p.tables e below (T.setTop (mkF m 2 #[.val (.ref a1), .val (.int p2), .val (.int p3), .val (.int i)] [])) _
    refine XS.iloadN X.here hx rfl (hb hby d3_2) rfl ?_
    show Steps p.tables e below (T.setTop (mkF m 3 #[.val (.ref a1), .val (.int p2), .val (.int p3), .val (.int i)] [(.int i)])) _
    refine XS.iloadN X.here hx rfl (hb hby d3_3) rfl ?_
    show Steps p.tables e below (T.setTop (mkF m 4 #[.val (.ref a1), .val (.int p2), .val (.int p3), .val (.int i)] [(.int p2), (.int i)])) _
    refine XS.iloadN X.here hx rfl (hb hby d3_4) rfl ?_
    show Steps p.tables e below (T.setTop (mkF m 5 #[.val (.ref a1), .val (.int p2), .val (.int p3), .val (.int i)] [(.int p3), (.int p2), (.int i)])) _
    refine XS.iadd X.here hx rfl (hb hby d3_5) rfl ?_
    show Steps p.tables e below (T.setTop (mkF m 6 #[.val (.ref a1), .val (.int p2), .val (.int p3), .val (.int i)] [(.int (p2 + p3)), (.int i)])) _
    by_cases hc1 : i < (p2 + p3)
    · exact absurd ((Int32.lt_iff_toInt_lt).mp hc1) (by omega)
    · refine XS.icmpYes X.here hx rfl (pc0 := 6) (pc' := 33) rfl (hb hby d3_6) rfl (flt hc1).2.1 (by decide) (by decide) ?_
      exact k1 _ rfl
  | succ k ih =>
    intro i hk h0i target k0 k1
    have hi : ¬ i < 0 ∧ i < (4 : Int32) := by rw [Int32.lt_iff_toInt_lt, Int32.lt_iff_toInt_lt]; omega
    show Steps p.tables e below (T.setTop (mkF m 2 #[.val (.ref a1), .val (.int p2), .val (.int p3), .val (.int i)] [])) _
    refine XS.iloadN X.here hx rfl (hb hby d3_2) rfl ?_
    show Steps p.tables e below (T.setTop (mkF m 3 #[.val (.ref a1), .val (.int p2), .val (.int p3), .val (.int i)] [(.int i)])) _
    refine XS.iloadN X.here hx rfl (hb hby d3_3) rfl ?_
    show Steps p.tables e below (T.setTop (mkF m 4 #[.val (.ref a1), .val (.int p2), .val (.int p3), .val (.int i)] [(.int p2), (.int i)])) _
    refine XS.iloadN X.here hx rfl (hb hby d3_4) rfl ?_
    show Steps p.tables e below (T.setTop (mkF m 5 #[.val (.ref a1), .val (.int p2), .val (.int p3), .val (.int i)] [(.int p3), (.int p2), (.int i)])) _
    refine XS.iadd X.here hx rfl (hb hby d3_5) rfl ?_
    show Steps p.tables e below (T.setTop (mkF m 6 #[.val (.ref a1), .val (.int p2), .val (.int p3), .val (.int i)] [(.int (p2 + p3)), (.int i)])) _
    by_cases hc4 : i < (p2 + p3)
    · refine XS.icmpNo X.here hx rfl (hb hby d3_6) rfl (tlt hc4).2.1 ?_
      show Steps p.tables e below (T.setTop (mkF m 9 #[.val (.ref a1), .val (.int p2), .val (.int p3), .val (.int i)] [])) _
      refine XS.aloadN X.here hx rfl (hb hby d3_9) rfl rfl ?_
      show Steps p.tables e below (T.setTop (mkF m 10 #[.val (.ref a1), .val (.int p2), .val (.int p3), .val (.int i)] [(.ref a1)])) _
      refine XS.iloadN X.here hx rfl (hb hby d3_10) rfl ?_
      show Steps p.tables e below (T.setTop (mkF m 11 #[.val (.ref a1), .val (.int p2), .val (.int p3), .val (.int i)] [(.int i), (.ref a1)])) _
      refine X.baloadBytes hx (j := i) (v := (.int (y i))) (by rw [eT]; exact Ar.1) (State.isArrayOf_alike hZ.alike Ar.2.1) Ar.2.2 (inb_of Sz hi) (Hz _ (inb_of Sz hi)) (g := (mkF m 11 #[.val (.ref a1), .val (.int p2), .val (.int p3), .val (.int i)] [(.int i), (.ref a1)])) rfl rfl (hb hby d3_11) _ ?_
      show Steps p.tables e below (T.setTop (mkF m 12 #[.val (.ref a1), .val (.int p2), .val (.int p3), .val (.int i)] [(.int (y i))])) _
      refine XS.bipush X.here hx rfl (hb hby d3_12) ?_
      show Steps p.tables e below (T.setTop (mkF m 14 #[.val (.ref a1), .val (.int p2), .val (.int p3), .val (.int i)] [(.int (48 : Int32)), (.int (y i))])) _
      by_cases hc5 : (y i) < (48 : Int32)
      · refine XS.icmpYes X.here hx rfl (pc0 := 14) (pc' := 25) rfl (hb hby d3_14) rfl (tlt hc5).1 (by decide) (by decide) ?_
        exact k0 _ (if_pos hc5)
      · refine XS.icmpNo X.here hx rfl (hb hby d3_14) rfl (flt hc5).1 ?_
        show Steps p.tables e below (T.setTop (mkF m 17 #[.val (.ref a1), .val (.int p2), .val (.int p3), .val (.int i)] [])) _
        refine XS.aloadN X.here hx rfl (hb hby d3_17) rfl rfl ?_
        show Steps p.tables e below (T.setTop (mkF m 18 #[.val (.ref a1), .val (.int p2), .val (.int p3), .val (.int i)] [(.ref a1)])) _
        refine XS.iloadN X.here hx rfl (hb hby d3_18) rfl ?_
        show Steps p.tables e below (T.setTop (mkF m 19 #[.val (.ref a1), .val (.int p2), .val (.int p3), .val (.int i)] [(.int i), (.ref a1)])) _
        refine X.baloadBytes hx (j := i) (v := (.int (y i))) (by rw [eT]; exact Ar.1) (State.isArrayOf_alike hZ.alike Ar.2.1) Ar.2.2 (inb_of Sz hi) (Hz _ (inb_of Sz hi)) (g := (mkF m 19 #[.val (.ref a1), .val (.int p2), .val (.int p3), .val (.int i)] [(.int i), (.ref a1)])) rfl rfl (hb hby d3_19) _ ?_
        show Steps p.tables e below (T.setTop (mkF m 20 #[.val (.ref a1), .val (.int p2), .val (.int p3), .val (.int i)] [(.int (y i))])) _
        refine XS.bipush X.here hx rfl (hb hby d3_20) ?_
        show Steps p.tables e below (T.setTop (mkF m 22 #[.val (.ref a1), .val (.int p2), .val (.int p3), .val (.int i)] [(.int (57 : Int32)), (.int (y i))])) _
        by_cases hc6 : (57 : Int32) < (y i)
        · refine XS.icmpNo X.here hx rfl (hb hby d3_22) rfl (tlt hc6).2.2.2 ?_
          exact k0 _ ((if_neg hc5).trans (if_pos hc6))
        · refine XS.icmpYes X.here hx rfl (pc0 := 22) (pc' := 27) rfl (hb hby d3_22) rfl (flt hc6).2.2.2 (by decide) (by decide) ?_
          show Steps p.tables e below (T.setTop (mkF m 27 #[.val (.ref a1), .val (.int p2), .val (.int p3), .val (.int i)] [])) _
          refine XS.iinc X.here hx rfl (hb hby d3_27) rfl (l' := #[.val (.ref a1), .val (.int p2), .val (.int p3), .val (.int (i + (1 : Int32)))]) rfl ?_
          show Steps p.tables e below (T.setTop (mkF m 30 #[.val (.ref a1), .val (.int p2), .val (.int p3), .val (.int (i + (1 : Int32)))] [])) _
          refine XS.goto X.here hx rfl (pc0 := 30) (pc' := 2) rfl (hb hby d3_30) (by decide) (by decide) ?_
          have hi1 := c_iadd i 1
          have hi2 := rng32 (i + 1)
          exact ih (i + 1) (by omega) (by omega) target (fun i' q => k0 i' (((if_neg hc5).trans (if_neg hc6)).trans q)) (fun i' q => k1 i' (((if_neg hc5).trans (if_neg hc6)).trans q))
    · refine XS.icmpYes X.here hx rfl (pc0 := 6) (pc' := 33) rfl (hb hby d3_6) rfl (flt hc4).2.1 (by decide) (by decide) ?_
      exact absurd ((Int32.lt_iff_toInt_lt).mpr (by omega)) hc4
theorem d2_0 : decode method_2_code 0 = .ok (.iload_n 0, 1) := by decide +kernel
theorem d2_1 : decode method_2_code 1 = .ok (.bipush 48, 2) := by decide +kernel
theorem d2_3 : decode method_2_code 3 = .ok (.if_icmp .lt 13, 3) := by decide +kernel
theorem d2_6 : decode method_2_code 6 = .ok (.iload_n 0, 1) := by decide +kernel
theorem d2_7 : decode method_2_code 7 = .ok (.bipush 57, 2) := by decide +kernel
theorem d2_9 : decode method_2_code 9 = .ok (.if_icmp .gt 7, 3) := by decide +kernel
theorem d2_12 : decode method_2_code 12 = .ok (.iconst 1, 1) := by decide +kernel
theorem d2_13 : decode method_2_code 13 = .ok (.goto 4, 3) := by decide +kernel
theorem d2_16 : decode method_2_code 16 = .ok (.iconst 0, 1) := by decide +kernel
theorem d2_17 : decode method_2_code 17 = .ok (.ireturn, 1) := by decide +kernel
theorem pn_2 : plainName "com/example/sealwire/sealwire/procedure/keyfile/Rdh2RecordsIsDigitsPinLaw" = true := by first | (simp [plainName, overriddenIn]; done) | decide +kernel
theorem ef_2 (m : MethodId) (p1 : Int32) : entryFrame m #[(.int p1)] 1 = mkF m 0 #[.val (.int p1)] [] := by first | (simp [entryFrame, mkF, argsToLocals, Value.category]; done) | rfl
def f2 (p1 : Int32) : Int32 :=
  (nar .boolean (if p1 < (48 : Int32) then (0 : Int32) else (if (57 : Int32) < p1 then (0 : Int32) else (1 : Int32))))
def Q2 (Z : State) (p1 : Int32)  (h0 : Heap) (n0 : Nat) (v : Option Value) (h : Heap) (L : List Loc) : Prop := v = some (.int (f2 p1)) ∧ Fr n0 L ∧ h = h0
set_option maxRecDepth 65536 in
set_option maxHeartbeats 40000000 in
theorem rm2 (l : Launch) (Z : State) (a0 : Array Value) (hw : ∀ d ∈ tables_1, d.before a0 Z = true) (ws : List Jvm.Cond) (p1 : Int32)  (h0 : Heap) (n0 : Nat) (Z0 : n0 ≤ h0.size) :
    MetFree l (⟨"com/example/sealwire/sealwire/procedure/keyfile/Rdh2RecordsIsDigitsPinLaw", "digit", "(B)Z"⟩ : MethodName) (head1 (Jvm.Cond.code (⟨"com/example/sealwire/sealwire/procedure/keyfile/Rdh2RecordsIsDigitsPinLaw", "digit", "(B)Z"⟩ : MethodName) method_2_code 1 (some .boolean) :: ws) ({ frames := 0, cells := 0, slots := 0, locals := 0 } : Room)) (fun a U => a = #[(.int p1)] ∧ Z.Warmed39 U.vm ∧ U.heap = h0) (fun _ _ _ _ _ => True) (fun _ U o U' => ∃ v L, o = .returned v ∧ Q2 Z p1 h0 n0 v U'.heap L ∧ FrameEnd U o U' L ({ frames := 0, cells := 0, slots := 0, locals := 0 } : Room).cells ({ frames := 0, cells := 0, slots := 0, locals := 0 } : Room).slots) := by
  refine MetFree.of_bodySF (plainFor_of_name pn_2) hisR ?_
  intro p e s m args below meth c s₁ Bd hml0 hP hK
  obtain ⟨rfl, hZ, hh⟩ := hP
  have hx := Bd.exec
  have hby := Bd.bytes
  have hml : c.maxLocals = 1 := hml0
  have hown : s.vm.findClass "com/example/sealwire/sealwire/procedure/keyfile/Rdh2RecordsIsDigitsPinLaw" = some m.cls := findClass_of_methodNamed Bd.named
  have hnm := (name_of_methodNamed Bd.named Bd.method).1
  have X0 : Stand p l e ({ frames := 0, cells := 0, slots := 0, locals := 0 } : Room) s m #[(.int p1)] below meth c s₁ [] 0 0 := Stand.of_body Bd
  have e0 : s₁.heap = h0 := by rw [← hh, Bd.state]; rfl
  have N0 := Fr.nil n0
  have pre0 : ∀ t, Steps p.tables e below (s₁.setTop (mkF m 0 #[.val (.int p1)] [])) t → Steps p.tables e below (s₁.setTop (entryFrame m #[(.int p1)] 1)) t := fun t k => castTop (ef_2 m p1) k
  obtain ⟨v3, hv3⟩ : ∃ z : Int32, z = (if p1 < (48 : Int32) then (0 : Int32) else (if (57 : Int32) < p1 then (0 : Int32) else (1 : Int32))) := ⟨_, rfl⟩
  have pre4 : ∀ t, Steps p.tables e below (s₁.setTop (mkF m 17 #[.val (.int p1)] [(.int v3)])) t → Steps p.tables e below (s₁.setTop (entryFrame m #[(.int p1)] 1)) t := fun t k => pre0 t (by
    show Steps p.tables e below (s₁.setTop (mkF m 0 #[.val (.int p1)] [])) _
    refine XS.iloadN X0.here hx rfl (hb hby d2_0) rfl ?_
    show Steps p.tables e below (s₁.setTop (mkF m 1 #[.val (.int p1)] [(.int p1)])) _
    refine XS.bipush X0.here hx rfl (hb hby d2_1) ?_
    show Steps p.tables e below (s₁.setTop (mkF m 3 #[.val (.int p1)] [(.int (48 : Int32)), (.int p1)])) _
    by_cases hc1 : p1 < (48 : Int32)
    · refine XS.icmpYes X0.here hx rfl (pc0 := 3) (pc' := 16) rfl (hb hby d2_3) rfl (tlt hc1).1 (by decide) (by decide) ?_
      show Steps p.tables e below (s₁.setTop (mkF m 16 #[.val (.int p1)] [])) _
      refine XS.iconst X0.here hx rfl (hb hby d2_16) ?_
      rw [show v3 = (0 : Int32) from hv3.trans (if_pos hc1)] at k
      exact k
    · refine XS.icmpNo X0.here hx rfl (hb hby d2_3) rfl (flt hc1).1 ?_
      show Steps p.tables e below (s₁.setTop (mkF m 6 #[.val (.int p1)] [])) _
      refine XS.iloadN X0.here hx rfl (hb hby d2_6) rfl ?_
      show Steps p.tables e below (s₁.setTop (mkF m 7 #[.val (.int p1)] [(.int p1)])) _
      refine XS.bipush X0.here hx rfl (hb hby d2_7) ?_
      show Steps p.tables e below (s₁.setTop (mkF m 9 #[.val (.int p1)] [(.int (57 : Int32)), (.int p1)])) _
      by_cases hc2 : (57 : Int32) < p1
      · refine XS.icmpYes X0.here hx rfl (pc0 := 9) (pc' := 16) rfl (hb hby d2_9) rfl (tlt hc2).2.2.1 (by decide) (by decide) ?_
        show Steps p.tables e below (s₁.setTop (mkF m 16 #[.val (.int p1)] [])) _
        refine XS.iconst X0.here hx rfl (hb hby d2_16) ?_
        rw [show v3 = (0 : Int32) from hv3.trans ((if_neg hc1).trans (if_pos hc2))] at k
        exact k
      · refine XS.icmpNo X0.here hx rfl (hb hby d2_9) rfl (flt hc2).2.2.1 ?_
        show Steps p.tables e below (s₁.setTop (mkF m 12 #[.val (.int p1)] [])) _
        refine XS.iconst X0.here hx rfl (hb hby d2_12) ?_
        show Steps p.tables e below (s₁.setTop (mkF m 13 #[.val (.int p1)] [(.int (1 : Int32))])) _
        refine XS.goto X0.here hx rfl (pc0 := 13) (pc' := 17) rfl (hb hby d2_13) (by decide) (by decide) ?_
        rw [show v3 = (1 : Int32) from hv3.trans ((if_neg hc1).trans (if_neg hc2))] at k
        exact k)
  have er : (f2 p1) = (nar .boolean v3) := by subst hv3; exact rfl
  obtain ⟨fs, hr, hrun, hended, hW, hsame⟩ := X0.leave (v := some (.int (nar .boolean v3))) (fun h => by rw [Bd.returns] at h; cases h)
  refine ⟨_, _, pre4 _ ?_, hrun, hended, _, _, rfl, ?_, ⟨_, rfl⟩, hW, hsame.mono (by decide) (by decide)⟩
  · show Steps p.tables e below (s₁.setTop (mkF m 17 #[.val (.int p1)] [(.int v3)])) _
    exact retN X0 hx (t := .boolean) Bd.returns (by simp) (hb hby d2_17) hr
  · show Q2 Z p1 h0 n0 _ s₁.heap _
    rw [e0]
    exact ⟨congrArg (fun z => some (Value.int z)) er.symm, N0, rfl⟩
theorem pd_0 : parseMethodDescriptor "(B)Z" = some ⟨[.byte], some .boolean⟩ := by decide +kernel
theorem d1_0 : decode method_3_code 0 = .ok (.iload_n 1, 1) := by decide +kernel
theorem d1_1 : decode method_3_code 1 = .ok (.iload_n 2, 1) := by decide +kernel
theorem d1_2 : decode method_3_code 2 = .ok (.if_icmp .ge 5, 3) := by decide +kernel
theorem d1_5 : decode method_3_code 5 = .ok (.iconst 1, 1) := by decide +kernel
theorem d1_6 : decode method_3_code 6 = .ok (.ireturn, 1) := by decide +kernel
theorem d1_7 : decode method_3_code 7 = .ok (.iload_n 1, 1) := by decide +kernel
theorem d1_8 : decode method_3_code 8 = .ok (.iload_n 2, 1) := by decide +kernel
theorem d1_9 : decode method_3_code 9 = .ok (.iload_n 3, 1) := by decide +kernel
theorem d1_10 : decode method_3_code 10 = .ok (.iadd, 1) := by decide +kernel
theorem d1_11 : decode method_3_code 11 = .ok (.if_icmp .lt 5, 3) := by decide +kernel
theorem d1_14 : decode method_3_code 14 = .ok (.iconst 1, 1) := by decide +kernel
theorem d1_15 : decode method_3_code 15 = .ok (.ireturn, 1) := by decide +kernel
theorem d1_16 : decode method_3_code 16 = .ok (.aload_n 0, 1) := by decide +kernel
theorem d1_17 : decode method_3_code 17 = .ok (.iload_n 1, 1) := by decide +kernel
theorem d1_18 : decode method_3_code 18 = .ok (.baload, 1) := by decide +kernel
theorem d1_19 : decode method_3_code 19 = .ok (.invokestatic 7, 3) := by decide +kernel
theorem d1_22 : decode method_3_code 22 = .ok (.ireturn, 1) := by decide +kernel
theorem pn_1 : plainName "com/example/sealwire/sealwire/procedure/keyfile/Rdh2RecordsIsDigitsPinLaw" = true := by first | (simp [plainName, overriddenIn]; done) | decide +kernel
theorem ef_1 (m : MethodId) (a1 : Addr) (p2 : Int32) (p3 : Int32) (p4 : Int32) : entryFrame m #[(.ref a1), (.int p2), (.int p3), (.int p4)] 4 = mkF m 0 #[.val (.ref a1), .val (.int p2), .val (.int p3), .val (.int p4)] [] := by first | (simp [entryFrame, mkF, argsToLocals, Value.category]; done) | rfl
def f1 (p2 : Int32) (p3 : Int32) (p4 : Int32) (y_a1 : Int32 → Int32) : Int32 :=
  (if p2 < p3 then (1 : Int32) else (if p2 < (p3 + p4) then (nar .boolean (f2 (y_a1 p2))) else (1 : Int32)))
def Q1 (Z : State) (a1 : Addr) (p2 : Int32) (p3 : Int32) (p4 : Int32) (y_a1 : Int32 → Int32) (h0 : Heap) (n0 : Nat) (v : Option Value) (h : Heap) (L : List Loc) : Prop := v = some (.int (f1 p2 p3 p4 y_a1)) ∧ Fr n0 L ∧ h = h0
set_option maxRecDepth 65536 in
set_option maxHeartbeats 40000000 in
theorem rm1 (l : Launch) (Z : State) (a0 : Array Value) (hw : ∀ d ∈ tables_1, d.before a0 Z = true) (ws : List Jvm.Cond) (a1 : Addr) (p2 : Int32) (p3 : Int32) (p4 : Int32) (y_a1 : Int32 → Int32) (h0 : Heap) (n0 : Nat) (Z0 : n0 ≤ h0.size) (A_a1 : own_A Z h0 a1 .byte (4 : Int32) (fun i => .int (y_a1 i))) (hi : ¬ p2 < (0 : Int32) ∧ p2 < (4 : Int32)) :
    MetFree l (⟨"com/example/sealwire/sealwire/procedure/keyfile/Rdh2RecordsIsDigitsPinLaw", "ok", "([BIII)Z"⟩ : MethodName) (head1 (Jvm.Cond.code (⟨"com/example/sealwire/sealwire/procedure/keyfile/Rdh2RecordsIsDigitsPinLaw", "ok", "([BIII)Z"⟩ : MethodName) method_3_code 4 (some .boolean) :: ws) ({ frames := 1, cells := 0, slots := 0, locals := 12 } : Room)) (fun a U => a = #[(.ref a1), (.int p2), (.int p3), (.int p4)] ∧ Z.Warmed39 U.vm ∧ U.heap = h0) (fun _ _ _ _ _ => True) (fun _ U o U' => ∃ v L, o = .returned v ∧ Q1 Z a1 p2 p3 p4 y_a1 h0 n0 v U'.heap L ∧ FrameEnd U o U' L ({ frames := 1, cells := 0, slots := 0, locals := 12 } : Room).cells ({ frames := 1, cells := 0, slots := 0, locals := 12 } : Room).slots) := by
  refine MetFree.of_bodySF (plainFor_of_name pn_1) hisR ?_
  intro p e s m args below meth c s₁ Bd hml0 hP hK
  obtain ⟨rfl, hZ, hh⟩ := hP
  have hx := Bd.exec
  have hby := Bd.bytes
  have hml : c.maxLocals = 4 := hml0
  have hown : s.vm.findClass "com/example/sealwire/sealwire/procedure/keyfile/Rdh2RecordsIsDigitsPinLaw" = some m.cls := findClass_of_methodNamed Bd.named
  have hnm := (name_of_methodNamed Bd.named Bd.method).1
  have X0 : Stand p l e ({ frames := 1, cells := 0, slots := 0, locals := 12 } : Room) s m #[(.ref a1), (.int p2), (.int p3), (.int p4)] below meth c s₁ [] 0 0 := Stand.of_body Bd
  have e0 : s₁.heap = h0 := by rw [← hh, Bd.state]; rfl
  have N0 := Fr.nil n0
  have pre0 : ∀ t, Steps p.tables e below (s₁.setTop (mkF m 0 #[.val (.ref a1), .val (.int p2), .val (.int p3), .val (.int p4)] [])) t → Steps p.tables e below (s₁.setTop (entryFrame m #[(.ref a1), (.int p2), (.int p3), (.int p4)] 4)) t := fun t k => castTop (ef_1 m a1 p2 p3 p4) k
  obtain ⟨cl1, Ar1, Sz1, Mz1, Hz1⟩ := id A_a1
  have pre2 : ∀ t, Steps p.tables e below (s₁.setTop (mkF m 2 #[.val (.ref a1), .val (.int p2), .val (.int p3), .val (.int p4)] [(.int p3), (.int p2)])) t → Steps p.tables e below (s₁.setTop (entryFrame m #[(.ref a1), (.int p2), (.int p3), (.int p4)] 4)) t := fun t k => pre0 t (by
    show Steps p.tables e below (s₁.setTop (mkF m 0 #[.val (.ref a1), .val (.int p2), .val (.int p3), .val (.int p4)] [])) _
    refine XS.iloadN X0.here hx rfl (hb hby d1_0) rfl ?_
    show Steps p.tables e below (s₁.setTop (mkF m 1 #[.val (.ref a1), .val (.int p2), .val (.int p3), .val (.int p4)] [(.int p2)])) _
    refine XS.iloadN X0.here hx rfl (hb hby d1_1) rfl ?_
    exact k)
  by_cases hc3 : p2 < p3
  · have er : (f1 p2 p3 p4 y_a1) = (1 : Int32) := by exact (if_pos hc3)
    obtain ⟨fs, hr, hrun, hended, hW, hsame⟩ := X0.leave (v := some (.int (1 : Int32))) (fun h => by rw [Bd.returns] at h; cases h)
    refine ⟨_, _, pre2 _ ?_, hrun, hended, _, _, rfl, ?_, ⟨_, rfl⟩, hW, hsame.mono (by decide) (by decide)⟩
    · show Steps p.tables e below (s₁.setTop (mkF m 2 #[.val (.ref a1), .val (.int p2), .val (.int p3), .val (.int p4)] [(.int p3), (.int p2)])) _
      refine XS.icmpNo X0.here hx rfl (hb hby d1_2) rfl (tlt hc3).2.1 ?_
      show Steps p.tables e below (s₁.setTop (mkF m 5 #[.val (.ref a1), .val (.int p2), .val (.int p3), .val (.int p4)] [])) _
      refine XS.iconst X0.here hx rfl (hb hby d1_5) ?_
      show Steps p.tables e below (s₁.setTop (mkF m 6 #[.val (.ref a1), .val (.int p2), .val (.int p3), .val (.int p4)] [(.int (1 : Int32))])) _
      exact retN X0 hx (t := .boolean) Bd.returns (by simp) (hb hby d1_6) hr
    · show Q1 Z a1 p2 p3 p4 y_a1 h0 n0 _ s₁.heap _
      rw [e0]
      exact ⟨congrArg (fun z => some (Value.int z)) er.symm, N0, rfl⟩
  · have pre4 : ∀ t, Steps p.tables e below (s₁.setTop (mkF m 11 #[.val (.ref a1), .val (.int p2), .val (.int p3), .val (.int p4)] [(.int (p3 + p4)), (.int p2)])) t → Steps p.tables e below (s₁.setTop (entryFrame m #[(.ref a1), (.int p2), (.int p3), (.int p4)] 4)) t := fun t k => pre2 t (by
      show Steps p.tables e below (s₁.setTop (mkF m 2 #[.val (.ref a1), .val (.int p2), .val (.int p3), .val (.int p4)] [(.int p3), (.int p2)])) _
      refine XS.icmpYes X0.here hx rfl (pc0 := 2) (pc' := 7) rfl (hb hby d1_2) rfl (flt hc3).2.1 (by decide) (by decide) ?_
      show Steps p.tables e below (s₁.setTop (mkF m 7 #[.val (.ref a1), .val (.int p2), .val (.int p3), .val (.int p4)] [])) _
      refine XS.iloadN X0.here hx rfl (hb hby d1_7) rfl ?_
      show Steps p.tables e below (s₁.setTop (mkF m 8 #[.val (.ref a1), .val (.int p2), .val (.int p3), .val (.int p4)] [(.int p2)])) _
      refine XS.iloadN X0.here hx rfl (hb hby d1_8) rfl ?_
      show Steps p.tables e below (s₁.setTop (mkF m 9 #[.val (.ref a1), .val (.int p2), .val (.int p3), .val (.int p4)] [(.int p3), (.int p2)])) _
      refine XS.iloadN X0.here hx rfl (hb hby d1_9) rfl ?_
      show Steps p.tables e below (s₁.setTop (mkF m 10 #[.val (.ref a1), .val (.int p2), .val (.int p3), .val (.int p4)] [(.int p4), (.int p3), (.int p2)])) _
      refine XS.iadd X0.here hx rfl (hb hby d1_10) rfl ?_
      exact k)
    by_cases hc5 : p2 < (p3 + p4)
    · obtain ⟨_, _, ⟨T6, L6, k6, n6⟩, -, X6, ⟨Lc6, hQ6, l6, y6, z6⟩, st6⟩ := Jvm.LawKit.callS X0 hx (y := (⟨"com/example/sealwire/sealwire/procedure/keyfile/Rdh2RecordsIsDigitsPinLaw", "digit", "(B)Z"⟩ : MethodName)) hown (mvT hZ (hw _ (List.mem_of_getElem? (i := 6) rfl))) (mvT hZ (hw _ (List.mem_of_getElem? (i := 7) rfl))) (mvT hZ (hw _ (List.mem_of_getElem? (i := 4) rfl))) (mvT hZ (hw _ (List.mem_of_getElem? (i := 8) rfl))) (by decide) (backOf (W := 0) (rm2 l Z a0 hw [] (y_a1 p2) h0 n0 Z0) hZ (hw _ (List.mem_of_getElem? (i := 8) rfl)) (hw _ (List.mem_of_getElem? (i := 4) rfl)) (by decide) (by decide)) (g := (mkF m 19 #[.val (.ref a1), .val (.int p2), .val (.int p3), .val (.int p4)] [(.int (y_a1 p2))])) rfl (by rw [hml]; rfl) (argsL := [(.int (y_a1 p2))]) (rest := []) (lenOf pd_0 rfl) rfl (by show 2 * 0 + _ ≤ _; exact Nat.le_of_eq rfl) (hb hby d1_19) (fun _ _ => ⟨rfl, e0, (by decide : 0 + 0 ≤ _), (by decide : 0 + 0 ≤ _)⟩)
      dsimp only [Pt.U, Pt.locs, Pt.cells, Pt.slots] at X6 l6 y6 z6 st6 hQ6
      subst l6 y6 z6
      obtain ⟨rfl, N6q, e6⟩ := hQ6
      have N6 := Fr.app N0 N6q
      have er : (f1 p2 p3 p4 y_a1) = (nar .boolean (f2 (y_a1 p2))) := by exact ((if_neg hc3).trans (if_pos hc5))
      obtain ⟨fs, hr, hrun, hended, hW, hsame⟩ := X6.leave (v := some (.int (nar .boolean (f2 (y_a1 p2))))) (fun h => by rw [Bd.returns] at h; cases h)
      refine ⟨_, _, pre4 _ ?_, hrun, hended, _, _, rfl, ?_, ⟨_, rfl⟩, hW, hsame.mono (by decide) (by decide)⟩
      · show Steps p.tables e below (s₁.setTop (mkF m 11 #[.val (.ref a1), .val (.int p2), .val (.int p3), .val (.int p4)] [(.int (p3 + p4)), (.int p2)])) _
        refine XS.icmpYes X0.here hx rfl (pc0 := 11) (pc' := 16) rfl (hb hby d1_11) rfl (tlt hc5).1 (by decide) (by decide) ?_
        show Steps p.tables e below (s₁.setTop (mkF m 16 #[.val (.ref a1), .val (.int p2), .val (.int p3), .val (.int p4)] [])) _
        refine XS.aloadN X0.here hx rfl (hb hby d1_16) rfl rfl ?_
        show Steps p.tables e below (s₁.setTop (mkF m 17 #[.val (.ref a1), .val (.int p2), .val (.int p3), .val (.int p4)] [(.ref a1)])) _
        refine XS.iloadN X0.here hx rfl (hb hby d1_17) rfl ?_
        show Steps p.tables e below (s₁.setTop (mkF m 18 #[.val (.ref a1), .val (.int p2), .val (.int p3), .val (.int p4)] [(.int p2), (.ref a1)])) _
        refine X0.baloadBytes hx (j := p2) (v := (.int (y_a1 p2))) (by rw [e0]; exact Ar1.1) (State.isArrayOf_alike hZ.alike Ar1.2.1) Ar1.2.2 (inb_of Sz1 hi) (Hz1 _ (inb_of Sz1 hi)) (g := (mkF m 18 #[.val (.ref a1), .val (.int p2), .val (.int p3), .val (.int p4)] [(.int p2), (.ref a1)])) rfl rfl (hb hby d1_18) _ ?_
        show Steps p.tables e below (s₁.setTop (mkF m 19 #[.val (.ref a1), .val (.int p2), .val (.int p3), .val (.int p4)] [(.int (y_a1 p2))])) _
        refine st6 _ ?_
        show Steps p.tables e below (T6.setTop (mkF m 22 #[.val (.ref a1), .val (.int p2), .val (.int p3), .val (.int p4)] [(.int (f2 (y_a1 p2)))])) _
        exact retN X6 hx (t := .boolean) Bd.returns (by simp) (hb hby d1_22) hr
      · show Q1 Z a1 p2 p3 p4 y_a1 h0 n0 _ T6.heap _
        rw [e6]
        exact ⟨congrArg (fun z => some (Value.int z)) er.symm, N6, rfl⟩
    · have er : (f1 p2 p3 p4 y_a1) = (1 : Int32) := by exact ((if_neg hc3).trans (if_neg hc5))
      obtain ⟨fs, hr, hrun, hended, hW, hsame⟩ := X0.leave (v := some (.int (1 : Int32))) (fun h => by rw [Bd.returns] at h; cases h)
      refine ⟨_, _, pre4 _ ?_, hrun, hended, _, _, rfl, ?_, ⟨_, rfl⟩, hW, hsame.mono (by decide) (by decide)⟩
      · show Steps p.tables e below (s₁.setTop (mkF m 11 #[.val (.ref a1), .val (.int p2), .val (.int p3), .val (.int p4)] [(.int (p3 + p4)), (.int p2)])) _
        refine XS.icmpNo X0.here hx rfl (hb hby d1_11) rfl (flt hc5).1 ?_
        show Steps p.tables e below (s₁.setTop (mkF m 14 #[.val (.ref a1), .val (.int p2), .val (.int p3), .val (.int p4)] [])) _
        refine XS.iconst X0.here hx rfl (hb hby d1_14) ?_
        show Steps p.tables e below (s₁.setTop (mkF m 15 #[.val (.ref a1), .val (.int p2), .val (.int p3), .val (.int p4)] [(.int (1 : Int32))])) _
        exact retN X0 hx (t := .boolean) Bd.returns (by simp) (hb hby d1_15) hr
      · show Q1 Z a1 p2 p3 p4 y_a1 h0 n0 _ s₁.heap _
        rw [e0]
        exact ⟨congrArg (fun z => some (Value.int z)) er.symm, N0, rfl⟩
theorem d3_0 : decode prog_46_method_5_code 0 = .ok (.iload_n 1, 1) := by decide +kernel
theorem d3_1 : decode prog_46_method_5_code 1 = .ok (.istore_n 3, 1) := by decide +kernel
theorem d3_25 : decode prog_46_method_5_code 25 = .ok (.iconst 0, 1) := by decide +kernel
theorem d3_26 : decode prog_46_method_5_code 26 = .ok (.ireturn, 1) := by decide +kernel
theorem d3_33 : decode prog_46_method_5_code 33 = .ok (.iconst 1, 1) := by decide +kernel
theorem d3_34 : decode prog_46_method_5_code 34 = .ok (.ireturn, 1) := by decide +kernel
theorem pn_3 : plainName "com/example/sealwire/sealwire/procedure/keyfile/Rdh2Records" = true := by first | (simp [plainName, overriddenIn]; done) | decide +kernel
theorem ef_3 (m : MethodId) (a1 : Addr) (p2 : Int32) (p3 : Int32) : entryFrame m #[(.ref a1), (.int p2), (.int p3)] 4 = mkF m 0 #[.val (.ref a1), .val (.int p2), .val (.int p3), .unset] [] := by first | (simp [entryFrame, mkF, argsToLocals, Value.category]; done) | rfl
def f3 (p2 : Int32) (p3 : Int32) (y_a1 : Int32 → Int32) : Int32 :=
  (own_dig y_a1 p2 p3.toInt.toNat)
def Q3 (Z : State) (a1 : Addr) (p2 : Int32) (p3 : Int32) (y_a1 : Int32 → Int32) (h0 : Heap) (n0 : Nat) (v : Option Value) (h : Heap) (L : List Loc) : Prop := v = some (.int (f3 p2 p3 y_a1)) ∧ Fr n0 L ∧ h = h0
set_option maxRecDepth 65536 in
set_option maxHeartbeats 40000000 in
theorem rm3 (l : Launch) (Z : State) (a0 : Array Value) (hw : ∀ d ∈ tables_1, d.before a0 Z = true) (ws : List Jvm.Cond) (a1 : Addr) (p2 : Int32) (p3 : Int32) (y_a1 : Int32 → Int32) (h0 : Heap) (n0 : Nat) (Z0 : n0 ≤ h0.size) (A_a1 : own_A Z h0 a1 .byte (4 : Int32) (fun i => .int (y_a1 i))) (hr3 : p2.toInt + p3.toInt ≤ 4 ∧ 0 ≤ p2.toInt ∧ 0 ≤ p3.toInt) :
    MetFree l (⟨"com/example/sealwire/sealwire/procedure/keyfile/Rdh2Records", "isDigits", "([BII)Z"⟩ : MethodName) (head1 (Jvm.Cond.code (⟨"com/example/sealwire/sealwire/procedure/keyfile/Rdh2Records", "isDigits", "([BII)Z"⟩ : MethodName) prog_46_method_5_code 4 (some .boolean) :: ws) ({ frames := 0, cells := 0, slots := 0, locals := 0 } : Room)) (fun a U => a = #[(.ref a1), (.int p2), (.int p3)] ∧ Z.Warmed39 U.vm ∧ U.heap = h0) (fun _ _ _ _ _ => True) (fun _ U o U' => ∃ v L, o = .returned v ∧ Q3 Z a1 p2 p3 y_a1 h0 n0 v U'.heap L ∧ FrameEnd U o U' L ({ frames := 0, cells := 0, slots := 0, locals := 0 } : Room).cells ({ frames := 0, cells := 0, slots := 0, locals := 0 } : Room).slots) := by
  refine MetFree.of_bodySF (plainFor_of_name pn_3) hisR ?_
  intro p e s m args below meth c s₁ Bd hml0 hP hK
  obtain ⟨rfl, hZ, hh⟩ := hP
  have hx := Bd.exec
  have hby := Bd.bytes
  have hml : c.maxLocals = 4 := hml0
  have hown : s.vm.findClass "com/example/sealwire/sealwire/procedure/keyfile/Rdh2Records" = some m.cls := findClass_of_methodNamed Bd.named
  have hnm := (name_of_methodNamed Bd.named Bd.method).1
  have X0 : Stand p l e ({ frames := 0, cells := 0, slots := 0, locals := 0 } : Room) s m #[(.ref a1), (.int p2), (.int p3)] below meth c s₁ [] 0 0 := Stand.of_body Bd
  have e0 : s₁.heap = h0 := by rw [← hh, Bd.state]; rfl
  have N0 := Fr.nil n0
  have pre0 : ∀ t, Steps p.tables e below (s₁.setTop (mkF m 0 #[.val (.ref a1), .val (.int p2), .val (.int p3), .unset] [])) t → Steps p.tables e below (s₁.setTop (entryFrame m #[(.ref a1), (.int p2), (.int p3)] 4)) t := fun t k => castTop (ef_3 m a1 p2 p3) k
  obtain ⟨cl1, Ar1, Sz1, Mz1, Hz1⟩ := id A_a1
  have pre2 : ∀ t, Steps p.tables e below (s₁.setTop (mkF m 2 #[.val (.ref a1), .val (.int p2), .val (.int p3), .val (.int p2)] [])) t → Steps p.tables e below (s₁.setTop (entryFrame m #[(.ref a1), (.int p2), (.int p3)] 4)) t := fun t k => pre0 t (by
    show Steps p.tables e below (s₁.setTop (mkF m 0 #[.val (.ref a1), .val (.int p2), .val (.int p3), .unset] [])) _
    refine XS.iloadN X0.here hx rfl (hb hby d3_0) rfl ?_
    show Steps p.tables e below (s₁.setTop (mkF m 1 #[.val (.ref a1), .val (.int p2), .val (.int p3), .unset] [(.int p2)])) _
    refine XS.istoreN X0.here hx rfl (hb hby d3_1) rfl (l' := #[.val (.ref a1), .val (.int p2), .val (.int p3), .val (.int p2)]) rfl ?_
    exact k)
  obtain ⟨fs, hr, hrun, hended, hW, hsame⟩ := X0.leave (v := some (.int (own_dig y_a1 p2 p3.toInt.toNat))) (fun h => by rw [Bd.returns] at h; cases h)
  refine ⟨_, _, pre2 _ ?_, hrun, hended, _, _, rfl, ?_, ⟨_, rfl⟩, hW, hsame.mono (by decide) (by decide)⟩
  · refine loop3 X0 hx hZ hby e0 Ar1 Sz1 Hz1 hr3.1 hr3.2.1 hr3.2.2 p3.toInt.toNat p2 (by have := hr3.2.2; omega) hr3.2.1 _ (fun i' q => ?_) (fun i' q => ?_)
    · rw [q] at hr
      show Steps p.tables e below (s₁.setTop (mkF m 25 #[.val (.ref a1), .val (.int p2), .val (.int p3), .val (.int i')] [])) _
      refine XS.iconst X0.here hx rfl (hb hby d3_25) ?_
      show Steps p.tables e below (s₁.setTop (mkF m 26 #[.val (.ref a1), .val (.int p2), .val (.int p3), .val (.int i')] [(.int (0 : Int32))])) _
      exact retN X0 hx (t := .boolean) Bd.returns (by simp) (hb hby d3_26) hr
    · rw [q] at hr
      show Steps p.tables e below (s₁.setTop (mkF m 33 #[.val (.ref a1), .val (.int p2), .val (.int p3), .val (.int i')] [])) _
      refine XS.iconst X0.here hx rfl (hb hby d3_33) ?_
      show Steps p.tables e below (s₁.setTop (mkF m 34 #[.val (.ref a1), .val (.int p2), .val (.int p3), .val (.int i')] [(.int (1 : Int32))])) _
      exact retN X0 hx (t := .boolean) Bd.returns (by simp) (hb hby d3_34) hr
  · show Q3 Z a1 p2 p3 y_a1 h0 n0 _ s₁.heap _
    rw [e0]
    exact ⟨rfl, N0, rfl⟩

theorem own_nz {p5 OF : Int32} (h : OF = ((p5 &&& (2147483647 : Int32)) % (5 : Int32))) : ¬ ((5 : Int32) - OF) = (0 : Int32) := by
  have hm := c_mask p5 2147483647 31 (by decide) (by decide)
  have hr := (c_irem (p5 &&& (2147483647 : Int32)) 5 5 (by decide)).1 (by omega)
  rw [← h] at hr
  have s1 := c_isub 5 OF
  have s2 := rng32 (5 - OF)
  have e5 : (5 : Int32).toInt = 5 := by decide
  have e0 : (0 : Int32).toInt = 0 := by decide
  intro q
  rw [q] at s1; omega
theorem own_rng {p5 p6 OF LE : Int32} (h : OF = ((p5 &&& (2147483647 : Int32)) % (5 : Int32))) (h' : LE = ((p6 &&& (2147483647 : Int32)) % ((5 : Int32) - OF))) : OF.toInt + LE.toInt ≤ 4 ∧ 0 ≤ OF.toInt ∧ 0 ≤ LE.toInt := by
  have hm := c_mask p5 2147483647 31 (by decide) (by decide)
  have hr := (c_irem (p5 &&& (2147483647 : Int32)) 5 5 (by decide)).1 (by omega)
  rw [← h] at hr
  have s1 := c_isub 5 OF
  have s2 := rng32 (5 - OF)
  have e5 : (5 : Int32).toInt = 5 := by decide
  have hm2 := c_mask p6 2147483647 31 (by decide) (by decide)
  have hr2 := (c_iremV (p6 &&& (2147483647 : Int32)) (5 - OF)).1 (by omega) (by omega)
  rw [← h'] at hr2
  omega

theorem pd_1 : parseMethodDescriptor "([BIII)Z" = some ⟨[(.array .byte), .int, .int, .int], some .boolean⟩ := by decide +kernel
theorem pd_2 : parseMethodDescriptor "([BII)Z" = some ⟨[(.array .byte), .int, .int], some .boolean⟩ := by decide +kernel
theorem pn_0 : plainName "com/example/sealwire/sealwire/procedure/keyfile/Rdh2RecordsIsDigitsPinLaw" = true := by first | (simp [plainName, overriddenIn]; done) | decide +kernel
theorem ef_0 (m : MethodId) (p1 : Int32) (p2 : Int32) (p3 : Int32) (p4 : Int32) (p5 : Int32) (p6 : Int32) : entryFrame m #[(.int p1), (.int p2), (.int p3), (.int p4), (.int p5), (.int p6)] maxLocals = mkF m 0 #[.val (.int p1), .val (.int p2), .val (.int p3), .val (.int p4), .val (.int p5), .val (.int p6), .unset, .unset, .unset, .unset, .unset] [] := by first | (simp [entryFrame, mkF, argsToLocals, Value.category, maxLocals]; done) | rfl
def f0 (p1 : Int32) (p2 : Int32) (p3 : Int32) (p4 : Int32) (p5 : Int32) (p6 : Int32) : Int32 :=
  let y2 : Int32 → Int32 := (fun i => if i = (0 : Int32) then (nar .byte (p1.toInt8.toInt32)) else (fun _ => (0 : Int32)) i);
  let y4 : Int32 → Int32 := (fun i => if i = (1 : Int32) then (nar .byte (p2.toInt8.toInt32)) else y2 i);
  let y6 : Int32 → Int32 := (fun i => if i = (2 : Int32) then (nar .byte (p3.toInt8.toInt32)) else y4 i);
  let y8 : Int32 → Int32 := (fun i => if i = (3 : Int32) then (nar .byte (p4.toInt8.toInt32)) else y6 i);
  let OF : Int32 := ((p5 &&& (2147483647 : Int32)) % (5 : Int32));
  let LE : Int32 := ((p6 &&& (2147483647 : Int32)) % ((5 : Int32) - OF));
  let v30 : Int32 := (if (f1 (0 : Int32) OF LE y8) = (0 : Int32) then (0 : Int32) else (if (f1 (1 : Int32) OF LE y8) = (0 : Int32) then (0 : Int32) else (if (f1 (2 : Int32) OF LE y8) = (0 : Int32) then (0 : Int32) else (if (f1 (3 : Int32) OF LE y8) = (0 : Int32) then (0 : Int32) else (1 : Int32)))));
  let v34 : Int32 := (if (f3 OF LE y8) = v30 then (1 : Int32) else (0 : Int32));
  (nar .boolean v34)
def Q0 (Z : State) (p1 : Int32) (p2 : Int32) (p3 : Int32) (p4 : Int32) (p5 : Int32) (p6 : Int32)  (h0 : Heap) (n0 : Nat) (v : Option Value) (h : Heap) (L : List Loc) : Prop := v = some (.int (f0 p1 p2 p3 p4 p5 p6)) ∧ Fr n0 L ∧ True
set_option maxRecDepth 65536 in
set_option maxHeartbeats 40000000 in
theorem rm0 (l : Launch) (Z : State) (a0 : Array Value) (hw : ∀ d ∈ tables_1, d.before a0 Z = true) (ws : List Jvm.Cond) (p1 : Int32) (p2 : Int32) (p3 : Int32) (p4 : Int32) (p5 : Int32) (p6 : Int32)  (h0 : Heap) (n0 : Nat) (Z0 : n0 ≤ h0.size) (O0 : Old Z n0 h0) :
    MetFree l x (head1 (Jvm.Cond.code x code maxLocals ret :: ws) room_1) (fun a U => a = #[(.int p1), (.int p2), (.int p3), (.int p4), (.int p5), (.int p6)] ∧ Z.Warmed39 U.vm ∧ U.heap = h0) (fun _ _ _ _ _ => True) (fun _ U o U' => ∃ v L, o = .returned v ∧ Q0 Z p1 p2 p3 p4 p5 p6 h0 n0 v U'.heap L ∧ FrameEnd U o U' L room_1.cells room_1.slots) := by
  refine MetFree.of_bodySF (plainFor_of_name pn_0) hisR ?_
  intro p e s m args below meth c s₁ Bd hml0 hP hK
  obtain ⟨rfl, hZ, hh⟩ := hP
  have hx := Bd.exec
  have hby := Bd.bytes
  have hml : c.maxLocals = 11 := hml0
  have hown : s.vm.findClass "com/example/sealwire/sealwire/procedure/keyfile/Rdh2RecordsIsDigitsPinLaw" = some m.cls := findClass_of_methodNamed Bd.named
  have hnm := (name_of_methodNamed Bd.named Bd.method).1
  have X0 : Stand p l e room_1 s m #[(.int p1), (.int p2), (.int p3), (.int p4), (.int p5), (.int p6)] below meth c s₁ [] 0 0 := Stand.of_body Bd
  have e0 : s₁.heap = h0 := by rw [← hh, Bd.state]; rfl
  have N0 := Fr.nil n0
  have pre0 : ∀ t, Steps p.tables e below (s₁.setTop (mkF m 0 #[.val (.int p1), .val (.int p2), .val (.int p3), .val (.int p4), .val (.int p5), .val (.int p6), .unset, .unset, .unset, .unset, .unset] [])) t → Steps p.tables e below (s₁.setTop (entryFrame m #[(.int p1), (.int p2), (.int p3), (.int p4), (.int p5), (.int p6)] maxLocals)) t := fun t k => castTop (ef_0 m p1 p2 p3 p4 p5 p6) k
  have K0 := Keep.refl h0 ([] : List Addr)
  obtain ⟨T1, h1, k1, X1, e1, E1, Ax1, st1⟩ := newP X0 hx hZ (hw _ (List.mem_of_getElem? (i := 0) rfl)) e0 (g := (mkF m 1 #[.val (.int p1), .val (.int p2), .val (.int p3), .val (.int p4), .val (.int p5), .val (.int p6), .unset, .unset, .unset, .unset, .unset] [(.int (4 : Int32))])) rfl (hb hby at_1) rfl (by decide) (cap := 4) (by decide) (by decide) (by decide) (by decide)
  obtain ⟨b1, g1⟩ : ∃ z, z = h0.size := ⟨_, rfl⟩
  rw [← g1] at Ax1 st1
  have g_b1 : n0 ≤ b1 := Nat.le_trans Z0 (Nat.le_of_eq g1.symm)
  have sz_b1 : h0.size ≤ b1 := Nat.le_trans K0.1 (Nat.le_of_eq g1.symm)
  have K1 := K0.ext E1
  have Zs1 := Nat.le_trans Z0 E1.1
  have O1 := O0.ext E1
  have A_b1_1 : own_A Z h1 b1 .byte (4 : Int32) (fun i => .int ((fun _ => (0 : Int32)) i)) := own_A_new Ax1 (by decide)
  obtain ⟨cl3, Ar3, Sz3, Mz3, Hz3⟩ := id A_b1_1
  have hin2 := inb_of (j := (0 : Int32)) Sz3 ⟨by decide, by decide⟩
  obtain ⟨T2, h2, X2, e2, W2, st2⟩ := stB X1 hx hZ e1 Ar3 (j := (0 : Int32)) hin2 (g := (mkF m 10 #[.val (.int p1), .val (.int p2), .val (.int p3), .val (.int p4), .val (.int p5), .val (.int p6), .val (.ref b1), .unset, .unset, .unset, .unset] [(.int (p1.toInt8.toInt32)), (.int (0 : Int32)), (.ref b1)])) rfl rfl (hb hby at_10)
  obtain ⟨y2, hy2⟩ : ∃ y : Int32 → Int32, y = fun i => if i = (0 : Int32) then (nar .byte (p1.toInt8.toInt32)) else (fun _ => (0 : Int32)) i := ⟨_, rfl⟩
  have K2 := K1.wr W2 (Or.inr sz_b1)
  have Zs2 := Nat.le_trans Zs1 (Keep.of_wr W2).1
  have N2 := Fr.snoc X2 N0 g_b1
  have O2 := O1.wr W2 g_b1
  have A_b1_2 : own_A Z h2 b1 .byte (4 : Int32) (fun i => .int (y2 i)) := by subst hy2; exact own_A_set Ar3 Sz3 Mz3 Hz3 hin2 W2 (own_setI (y := (fun _ => (0 : Int32))) (j := (0 : Int32)) (x := (nar .byte (p1.toInt8.toInt32)))) (own_setI' (y := (fun _ => (0 : Int32))) (j := (0 : Int32)) (x := (nar .byte (p1.toInt8.toInt32))))
  obtain ⟨cl5, Ar5, Sz5, Mz5, Hz5⟩ := id A_b1_2
  have hin4 := inb_of (j := (1 : Int32)) Sz5 ⟨by decide, by decide⟩
  obtain ⟨T4, h4, X4, e4, W4, st4⟩ := stB X2 hx hZ e2 Ar5 (j := (1 : Int32)) hin4 (g := (mkF m 16 #[.val (.int p1), .val (.int p2), .val (.int p3), .val (.int p4), .val (.int p5), .val (.int p6), .val (.ref b1), .unset, .unset, .unset, .unset] [(.int (p2.toInt8.toInt32)), (.int (1 : Int32)), (.ref b1)])) rfl rfl (hb hby at_16)
  obtain ⟨y4, hy4⟩ : ∃ y : Int32 → Int32, y = fun i => if i = (1 : Int32) then (nar .byte (p2.toInt8.toInt32)) else y2 i := ⟨_, rfl⟩
  have K4 := K2.wr W4 (Or.inr sz_b1)
  have Zs4 := Nat.le_trans Zs2 (Keep.of_wr W4).1
  have N4 := Fr.snoc X4 N2 g_b1
  have O4 := O2.wr W4 g_b1
  have A_b1_4 : own_A Z h4 b1 .byte (4 : Int32) (fun i => .int (y4 i)) := by subst hy4; exact own_A_set Ar5 Sz5 Mz5 Hz5 hin4 W4 (own_setI (y := y2) (j := (1 : Int32)) (x := (nar .byte (p2.toInt8.toInt32)))) (own_setI' (y := y2) (j := (1 : Int32)) (x := (nar .byte (p2.toInt8.toInt32))))
  obtain ⟨cl7, Ar7, Sz7, Mz7, Hz7⟩ := id A_b1_4
  have hin6 := inb_of (j := (2 : Int32)) Sz7 ⟨by decide, by decide⟩
  obtain ⟨T6, h6, X6, e6, W6, st6⟩ := stB X4 hx hZ e4 Ar7 (j := (2 : Int32)) hin6 (g := (mkF m 22 #[.val (.int p1), .val (.int p2), .val (.int p3), .val (.int p4), .val (.int p5), .val (.int p6), .val (.ref b1), .unset, .unset, .unset, .unset] [(.int (p3.toInt8.toInt32)), (.int (2 : Int32)), (.ref b1)])) rfl rfl (hb hby at_22)
  obtain ⟨y6, hy6⟩ : ∃ y : Int32 → Int32, y = fun i => if i = (2 : Int32) then (nar .byte (p3.toInt8.toInt32)) else y4 i := ⟨_, rfl⟩
  have K6 := K4.wr W6 (Or.inr sz_b1)
  have Zs6 := Nat.le_trans Zs4 (Keep.of_wr W6).1
  have N6 := Fr.snoc X6 N4 g_b1
  have O6 := O4.wr W6 g_b1
  have A_b1_6 : own_A Z h6 b1 .byte (4 : Int32) (fun i => .int (y6 i)) := by subst hy6; exact own_A_set Ar7 Sz7 Mz7 Hz7 hin6 W6 (own_setI (y := y4) (j := (2 : Int32)) (x := (nar .byte (p3.toInt8.toInt32)))) (own_setI' (y := y4) (j := (2 : Int32)) (x := (nar .byte (p3.toInt8.toInt32))))
  obtain ⟨cl9, Ar9, Sz9, Mz9, Hz9⟩ := id A_b1_6
  have hin8 := inb_of (j := (3 : Int32)) Sz9 ⟨by decide, by decide⟩
  obtain ⟨T8, h8, X8, e8, W8, st8⟩ := stB X6 hx hZ e6 Ar9 (j := (3 : Int32)) hin8 (g := (mkF m 28 #[.val (.int p1), .val (.int p2), .val (.int p3), .val (.int p4), .val (.int p5), .val (.int p6), .val (.ref b1), .unset, .unset, .unset, .unset] [(.int (p4.toInt8.toInt32)), (.int (3 : Int32)), (.ref b1)])) rfl rfl (hb hby at_28)
  obtain ⟨y8, hy8⟩ : ∃ y : Int32 → Int32, y = fun i => if i = (3 : Int32) then (nar .byte (p4.toInt8.toInt32)) else y6 i := ⟨_, rfl⟩
  have K8 := K6.wr W8 (Or.inr sz_b1)
  have Zs8 := Nat.le_trans Zs6 (Keep.of_wr W8).1
  have N8 := Fr.snoc X8 N6 g_b1
  have O8 := O6.wr W8 g_b1
  have A_b1_8 : own_A Z h8 b1 .byte (4 : Int32) (fun i => .int (y8 i)) := by subst hy8; exact own_A_set Ar9 Sz9 Mz9 Hz9 hin8 W8 (own_setI (y := y6) (j := (3 : Int32)) (x := (nar .byte (p4.toInt8.toInt32)))) (own_setI' (y := y6) (j := (3 : Int32)) (x := (nar .byte (p4.toInt8.toInt32))))
  obtain ⟨OF, hOF⟩ : ∃ z : Int32, z = ((p5 &&& (2147483647 : Int32)) % (5 : Int32)) := ⟨_, rfl⟩
  obtain ⟨LE, hLE⟩ : ∃ z : Int32, z = ((p6 &&& (2147483647 : Int32)) % ((5 : Int32) - OF)) := ⟨_, rfl⟩
  obtain ⟨_, _, ⟨T10, L10, k10, n10⟩, -, X10, ⟨Lc10, hQ10, l10, y10, z10⟩, st10⟩ := Jvm.LawKit.callS X8 hx (y := (⟨"com/example/sealwire/sealwire/procedure/keyfile/Rdh2RecordsIsDigitsPinLaw", "ok", "([BIII)Z"⟩ : MethodName)) hown (mvT hZ (hw _ (List.mem_of_getElem? (i := 2) rfl))) (mvT hZ (hw _ (List.mem_of_getElem? (i := 3) rfl))) (mvT hZ (hw _ (List.mem_of_getElem? (i := 4) rfl))) (mvT hZ (hw _ (List.mem_of_getElem? (i := 5) rfl))) (by decide) (backOf (W := 0) (rm1 l Z a0 hw [] b1 (0 : Int32) OF LE y8 h8 n0 Zs8 A_b1_8 ⟨by decide, by decide⟩) hZ (hw _ (List.mem_of_getElem? (i := 5) rfl)) (hw _ (List.mem_of_getElem? (i := 4) rfl)) (by decide) (by decide)) (g := (mkF m 57 #[.val (.int p1), .val (.int p2), .val (.int p3), .val (.int p4), .val (.int p5), .val (.int p6), .val (.ref b1), .val (.int OF), .val (.int LE), .unset, .unset] [(.int LE), (.int OF), (.int (0 : Int32)), (.ref b1)])) rfl (by rw [hml]; rfl) (argsL := [(.ref b1), (.int (0 : Int32)), (.int OF), (.int LE)]) (rest := []) (lenOf pd_1 rfl) rfl (by show 2 * 0 + _ ≤ _; exact Nat.le_of_eq rfl) (hb hby at_57) (fun _ _ => ⟨rfl, e8, (by decide : 1 + 0 ≤ _), (by decide : 4 + 0 ≤ _)⟩)
  dsimp only [Pt.U, Pt.locs, Pt.cells, Pt.slots] at X10 l10 y10 z10 st10 hQ10
  subst l10 y10 z10
  obtain ⟨rfl, N10q, e10⟩ := hQ10
  have N10 := Fr.app N8 N10q
  obtain ⟨v30, hv30⟩ : ∃ z : Int32, z = (if (f1 (0 : Int32) OF LE y8) = (0 : Int32) then (0 : Int32) else (if (f1 (1 : Int32) OF LE y8) = (0 : Int32) then (0 : Int32) else (if (f1 (2 : Int32) OF LE y8) = (0 : Int32) then (0 : Int32) else (if (f1 (3 : Int32) OF LE y8) = (0 : Int32) then (0 : Int32) else (1 : Int32))))) := ⟨_, rfl⟩
  have pre11 : ∀ t, Steps p.tables e below (T10.setTop (mkF m 60 #[.val (.int p1), .val (.int p2), .val (.int p3), .val (.int p4), .val (.int p5), .val (.int p6), .val (.ref b1), .val (.int OF), .val (.int LE), .unset, .unset] [(.int (f1 (0 : Int32) OF LE y8))])) t → Steps p.tables e below (s₁.setTop (entryFrame m #[(.int p1), (.int p2), (.int p3), (.int p4), (.int p5), (.int p6)] maxLocals)) t := fun t k => pre0 t (by
    show Steps p.tables e below (s₁.setTop (mkF m 0 #[.val (.int p1), .val (.int p2), .val (.int p3), .val (.int p4), .val (.int p5), .val (.int p6), .unset, .unset, .unset, .unset, .unset] [])) _
    refine XS.iconst X0.here hx rfl (hb hby at_0) ?_
    show Steps p.tables e below (s₁.setTop (mkF m 1 #[.val (.int p1), .val (.int p2), .val (.int p3), .val (.int p4), .val (.int p5), .val (.int p6), .unset, .unset, .unset, .unset, .unset] [(.int (4 : Int32))])) _
    refine st1 _ ?_
    show Steps p.tables e below (T1.setTop (mkF m 3 #[.val (.int p1), .val (.int p2), .val (.int p3), .val (.int p4), .val (.int p5), .val (.int p6), .unset, .unset, .unset, .unset, .unset] [(.ref b1)])) _
    refine XS.astore X1.here hx rfl (hb hby at_3) rfl rfl (l' := #[.val (.int p1), .val (.int p2), .val (.int p3), .val (.int p4), .val (.int p5), .val (.int p6), .val (.ref b1), .unset, .unset, .unset, .unset]) rfl ?_
    show Steps p.tables e below (T1.setTop (mkF m 5 #[.val (.int p1), .val (.int p2), .val (.int p3), .val (.int p4), .val (.int p5), .val (.int p6), .val (.ref b1), .unset, .unset, .unset, .unset] [])) _
    refine XS.aload X1.here hx rfl (hb hby at_5) rfl rfl ?_
    show Steps p.tables e below (T1.setTop (mkF m 7 #[.val (.int p1), .val (.int p2), .val (.int p3), .val (.int p4), .val (.int p5), .val (.int p6), .val (.ref b1), .unset, .unset, .unset, .unset] [(.ref b1)])) _
    refine XS.iconst X1.here hx rfl (hb hby at_7) ?_
    show Steps p.tables e below (T1.setTop (mkF m 8 #[.val (.int p1), .val (.int p2), .val (.int p3), .val (.int p4), .val (.int p5), .val (.int p6), .val (.ref b1), .unset, .unset, .unset, .unset] [(.int (0 : Int32)), (.ref b1)])) _
    refine XS.iloadN X1.here hx rfl (hb hby at_8) rfl ?_
    show Steps p.tables e below (T1.setTop (mkF m 9 #[.val (.int p1), .val (.int p2), .val (.int p3), .val (.int p4), .val (.int p5), .val (.int p6), .val (.ref b1), .unset, .unset, .unset, .unset] [(.int p1), (.int (0 : Int32)), (.ref b1)])) _
    refine XS.i2b X1.here hx rfl (hb hby at_9) rfl ?_
    show Steps p.tables e below (T1.setTop (mkF m 10 #[.val (.int p1), .val (.int p2), .val (.int p3), .val (.int p4), .val (.int p5), .val (.int p6), .val (.ref b1), .unset, .unset, .unset, .unset] [(.int (p1.toInt8.toInt32)), (.int (0 : Int32)), (.ref b1)])) _
    refine st2 _ ?_
    show Steps p.tables e below (T2.setTop (mkF m 11 #[.val (.int p1), .val (.int p2), .val (.int p3), .val (.int p4), .val (.int p5), .val (.int p6), .val (.ref b1), .unset, .unset, .unset, .unset] [])) _
    refine XS.aload X2.here hx rfl (hb hby at_11) rfl rfl ?_
    show Steps p.tables e below (T2.setTop (mkF m 13 #[.val (.int p1), .val (.int p2), .val (.int p3), .val (.int p4), .val (.int p5), .val (.int p6), .val (.ref b1), .unset, .unset, .unset, .unset] [(.ref b1)])) _
    refine XS.iconst X2.here hx rfl (hb hby at_13) ?_
    show Steps p.tables e below (T2.setTop (mkF m 14 #[.val (.int p1), .val (.int p2), .val (.int p3), .val (.int p4), .val (.int p5), .val (.int p6), .val (.ref b1), .unset, .unset, .unset, .unset] [(.int (1 : Int32)), (.ref b1)])) _
    refine XS.iloadN X2.here hx rfl (hb hby at_14) rfl ?_
    show Steps p.tables e below (T2.setTop (mkF m 15 #[.val (.int p1), .val (.int p2), .val (.int p3), .val (.int p4), .val (.int p5), .val (.int p6), .val (.ref b1), .unset, .unset, .unset, .unset] [(.int p2), (.int (1 : Int32)), (.ref b1)])) _
    refine XS.i2b X2.here hx rfl (hb hby at_15) rfl ?_
    show Steps p.tables e below (T2.setTop (mkF m 16 #[.val (.int p1), .val (.int p2), .val (.int p3), .val (.int p4), .val (.int p5), .val (.int p6), .val (.ref b1), .unset, .unset, .unset, .unset] [(.int (p2.toInt8.toInt32)), (.int (1 : Int32)), (.ref b1)])) _
    refine st4 _ ?_
    show Steps p.tables e below (T4.setTop (mkF m 17 #[.val (.int p1), .val (.int p2), .val (.int p3), .val (.int p4), .val (.int p5), .val (.int p6), .val (.ref b1), .unset, .unset, .unset, .unset] [])) _
    refine XS.aload X4.here hx rfl (hb hby at_17) rfl rfl ?_
    show Steps p.tables e below (T4.setTop (mkF m 19 #[.val (.int p1), .val (.int p2), .val (.int p3), .val (.int p4), .val (.int p5), .val (.int p6), .val (.ref b1), .unset, .unset, .unset, .unset] [(.ref b1)])) _
    refine XS.iconst X4.here hx rfl (hb hby at_19) ?_
    show Steps p.tables e below (T4.setTop (mkF m 20 #[.val (.int p1), .val (.int p2), .val (.int p3), .val (.int p4), .val (.int p5), .val (.int p6), .val (.ref b1), .unset, .unset, .unset, .unset] [(.int (2 : Int32)), (.ref b1)])) _
    refine XS.iloadN X4.here hx rfl (hb hby at_20) rfl ?_
    show Steps p.tables e below (T4.setTop (mkF m 21 #[.val (.int p1), .val (.int p2), .val (.int p3), .val (.int p4), .val (.int p5), .val (.int p6), .val (.ref b1), .unset, .unset, .unset, .unset] [(.int p3), (.int (2 : Int32)), (.ref b1)])) _
    refine XS.i2b X4.here hx rfl (hb hby at_21) rfl ?_
    show Steps p.tables e below (T4.setTop (mkF m 22 #[.val (.int p1), .val (.int p2), .val (.int p3), .val (.int p4), .val (.int p5), .val (.int p6), .val (.ref b1), .unset, .unset, .unset, .unset] [(.int (p3.toInt8.toInt32)), (.int (2 : Int32)), (.ref b1)])) _
    refine st6 _ ?_
    show Steps p.tables e below (T6.setTop (mkF m 23 #[.val (.int p1), .val (.int p2), .val (.int p3), .val (.int p4), .val (.int p5), .val (.int p6), .val (.ref b1), .unset, .unset, .unset, .unset] [])) _
    refine XS.aload X6.here hx rfl (hb hby at_23) rfl rfl ?_
    show Steps p.tables e below (T6.setTop (mkF m 25 #[.val (.int p1), .val (.int p2), .val (.int p3), .val (.int p4), .val (.int p5), .val (.int p6), .val (.ref b1), .unset, .unset, .unset, .unset] [(.ref b1)])) _
    refine XS.iconst X6.here hx rfl (hb hby at_25) ?_
    show Steps p.tables e below (T6.setTop (mkF m 26 #[.val (.int p1), .val (.int p2), .val (.int p3), .val (.int p4), .val (.int p5), .val (.int p6), .val (.ref b1), .unset, .unset, .unset, .unset] [(.int (3 : Int32)), (.ref b1)])) _
    refine XS.iloadN X6.here hx rfl (hb hby at_26) rfl ?_
    show Steps p.tables e below (T6.setTop (mkF m 27 #[.val (.int p1), .val (.int p2), .val (.int p3), .val (.int p4), .val (.int p5), .val (.int p6), .val (.ref b1), .unset, .unset, .unset, .unset] [(.int p4), (.int (3 : Int32)), (.ref b1)])) _
    refine XS.i2b X6.here hx rfl (hb hby at_27) rfl ?_
    show Steps p.tables e below (T6.setTop (mkF m 28 #[.val (.int p1), .val (.int p2), .val (.int p3), .val (.int p4), .val (.int p5), .val (.int p6), .val (.ref b1), .unset, .unset, .unset, .unset] [(.int (p4.toInt8.toInt32)), (.int (3 : Int32)), (.ref b1)])) _
    refine st8 _ ?_
    show Steps p.tables e below (T8.setTop (mkF m 29 #[.val (.int p1), .val (.int p2), .val (.int p3), .val (.int p4), .val (.int p5), .val (.int p6), .val (.ref b1), .unset, .unset, .unset, .unset] [])) _
    refine XS.iload X8.here hx rfl (hb hby at_29) rfl ?_
    show Steps p.tables e below (T8.setTop (mkF m 31 #[.val (.int p1), .val (.int p2), .val (.int p3), .val (.int p4), .val (.int p5), .val (.int p6), .val (.ref b1), .unset, .unset, .unset, .unset] [(.int p5)])) _
    refine X8.ldcInt hx hown (mvT hZ (hw _ (List.mem_of_getElem? (i := 1) rfl))) (g := (mkF m 31 #[.val (.int p1), .val (.int p2), .val (.int p3), .val (.int p4), .val (.int p5), .val (.int p6), .val (.ref b1), .unset, .unset, .unset, .unset] [(.int p5)])) rfl (hb hby at_31) _ ?_
    show Steps p.tables e below (T8.setTop (mkF m 33 #[.val (.int p1), .val (.int p2), .val (.int p3), .val (.int p4), .val (.int p5), .val (.int p6), .val (.ref b1), .unset, .unset, .unset, .unset] [(.int (2147483647 : Int32)), (.int p5)])) _
    refine XS.iand X8.here hx rfl (hb hby at_33) rfl ?_
    show Steps p.tables e below (T8.setTop (mkF m 34 #[.val (.int p1), .val (.int p2), .val (.int p3), .val (.int p4), .val (.int p5), .val (.int p6), .val (.ref b1), .unset, .unset, .unset, .unset] [(.int (p5 &&& (2147483647 : Int32)))])) _
    refine XS.iconst X8.here hx rfl (hb hby at_34) ?_
    show Steps p.tables e below (T8.setTop (mkF m 35 #[.val (.int p1), .val (.int p2), .val (.int p3), .val (.int p4), .val (.int p5), .val (.int p6), .val (.ref b1), .unset, .unset, .unset, .unset] [(.int (5 : Int32)), (.int (p5 &&& (2147483647 : Int32)))])) _
    refine iremM X8 hx rfl (hb hby at_35) rfl (by decide) ?_
    show Steps p.tables e below (T8.setTop (mkF m 36 #[.val (.int p1), .val (.int p2), .val (.int p3), .val (.int p4), .val (.int p5), .val (.int p6), .val (.ref b1), .unset, .unset, .unset, .unset] [(.int ((p5 &&& (2147483647 : Int32)) % (5 : Int32)))])) _
    rw [← hOF]
    show Steps p.tables e below (T8.setTop (mkF m 36 #[.val (.int p1), .val (.int p2), .val (.int p3), .val (.int p4), .val (.int p5), .val (.int p6), .val (.ref b1), .unset, .unset, .unset, .unset] [(.int OF)])) _
    refine XS.istore X8.here hx rfl (hb hby at_36) rfl (l' := #[.val (.int p1), .val (.int p2), .val (.int p3), .val (.int p4), .val (.int p5), .val (.int p6), .val (.ref b1), .val (.int OF), .unset, .unset, .unset]) rfl ?_
    show Steps p.tables e below (T8.setTop (mkF m 38 #[.val (.int p1), .val (.int p2), .val (.int p3), .val (.int p4), .val (.int p5), .val (.int p6), .val (.ref b1), .val (.int OF), .unset, .unset, .unset] [])) _
    refine XS.iload X8.here hx rfl (hb hby at_38) rfl ?_
    show Steps p.tables e below (T8.setTop (mkF m 40 #[.val (.int p1), .val (.int p2), .val (.int p3), .val (.int p4), .val (.int p5), .val (.int p6), .val (.ref b1), .val (.int OF), .unset, .unset, .unset] [(.int p6)])) _
    refine X8.ldcInt hx hown (mvT hZ (hw _ (List.mem_of_getElem? (i := 1) rfl))) (g := (mkF m 40 #[.val (.int p1), .val (.int p2), .val (.int p3), .val (.int p4), .val (.int p5), .val (.int p6), .val (.ref b1), .val (.int OF), .unset, .unset, .unset] [(.int p6)])) rfl (hb hby at_40) _ ?_
    show Steps p.tables e below (T8.setTop (mkF m 42 #[.val (.int p1), .val (.int p2), .val (.int p3), .val (.int p4), .val (.int p5), .val (.int p6), .val (.ref b1), .val (.int OF), .unset, .unset, .unset] [(.int (2147483647 : Int32)), (.int p6)])) _
    refine XS.iand X8.here hx rfl (hb hby at_42) rfl ?_
    show Steps p.tables e below (T8.setTop (mkF m 43 #[.val (.int p1), .val (.int p2), .val (.int p3), .val (.int p4), .val (.int p5), .val (.int p6), .val (.ref b1), .val (.int OF), .unset, .unset, .unset] [(.int (p6 &&& (2147483647 : Int32)))])) _
    refine XS.iconst X8.here hx rfl (hb hby at_43) ?_
    show Steps p.tables e below (T8.setTop (mkF m 44 #[.val (.int p1), .val (.int p2), .val (.int p3), .val (.int p4), .val (.int p5), .val (.int p6), .val (.ref b1), .val (.int OF), .unset, .unset, .unset] [(.int (5 : Int32)), (.int (p6 &&& (2147483647 : Int32)))])) _
    refine XS.iload X8.here hx rfl (hb hby at_44) rfl ?_
    show Steps p.tables e below (T8.setTop (mkF m 46 #[.val (.int p1), .val (.int p2), .val (.int p3), .val (.int p4), .val (.int p5), .val (.int p6), .val (.ref b1), .val (.int OF), .unset, .unset, .unset] [(.int OF), (.int (5 : Int32)), (.int (p6 &&& (2147483647 : Int32)))])) _
    refine XS.isub X8.here hx rfl (hb hby at_46) rfl ?_
    show Steps p.tables e below (T8.setTop (mkF m 47 #[.val (.int p1), .val (.int p2), .val (.int p3), .val (.int p4), .val (.int p5), .val (.int p6), .val (.ref b1), .val (.int OF), .unset, .unset, .unset] [(.int ((5 : Int32) - OF)), (.int (p6 &&& (2147483647 : Int32)))])) _
    refine iremM X8 hx rfl (hb hby at_47) rfl (own_nz hOF) ?_
    show Steps p.tables e below (T8.setTop (mkF m 48 #[.val (.int p1), .val (.int p2), .val (.int p3), .val (.int p4), .val (.int p5), .val (.int p6), .val (.ref b1), .val (.int OF), .unset, .unset, .unset] [(.int ((p6 &&& (2147483647 : Int32)) % ((5 : Int32) - OF)))])) _
    rw [← hLE]
    show Steps p.tables e below (T8.setTop (mkF m 48 #[.val (.int p1), .val (.int p2), .val (.int p3), .val (.int p4), .val (.int p5), .val (.int p6), .val (.ref b1), .val (.int OF), .unset, .unset, .unset] [(.int LE)])) _
    refine XS.istore X8.here hx rfl (hb hby at_48) rfl (l' := #[.val (.int p1), .val (.int p2), .val (.int p3), .val (.int p4), .val (.int p5), .val (.int p6), .val (.ref b1), .val (.int OF), .val (.int LE), .unset, .unset]) rfl ?_
    show Steps p.tables e below (T8.setTop (mkF m 50 #[.val (.int p1), .val (.int p2), .val (.int p3), .val (.int p4), .val (.int p5), .val (.int p6), .val (.ref b1), .val (.int OF), .val (.int LE), .unset, .unset] [])) _
    refine XS.aload X8.here hx rfl (hb hby at_50) rfl rfl ?_
    show Steps p.tables e below (T8.setTop (mkF m 52 #[.val (.int p1), .val (.int p2), .val (.int p3), .val (.int p4), .val (.int p5), .val (.int p6), .val (.ref b1), .val (.int OF), .val (.int LE), .unset, .unset] [(.ref b1)])) _
    refine XS.iconst X8.here hx rfl (hb hby at_52) ?_
    show Steps p.tables e below (T8.setTop (mkF m 53 #[.val (.int p1), .val (.int p2), .val (.int p3), .val (.int p4), .val (.int p5), .val (.int p6), .val (.ref b1), .val (.int OF), .val (.int LE), .unset, .unset] [(.int (0 : Int32)), (.ref b1)])) _
    refine XS.iload X8.here hx rfl (hb hby at_53) rfl ?_
    show Steps p.tables e below (T8.setTop (mkF m 55 #[.val (.int p1), .val (.int p2), .val (.int p3), .val (.int p4), .val (.int p5), .val (.int p6), .val (.ref b1), .val (.int OF), .val (.int LE), .unset, .unset] [(.int OF), (.int (0 : Int32)), (.ref b1)])) _
    refine XS.iload X8.here hx rfl (hb hby at_55) rfl ?_
    show Steps p.tables e below (T8.setTop (mkF m 57 #[.val (.int p1), .val (.int p2), .val (.int p3), .val (.int p4), .val (.int p5), .val (.int p6), .val (.ref b1), .val (.int OF), .val (.int LE), .unset, .unset] [(.int LE), (.int OF), (.int (0 : Int32)), (.ref b1)])) _
    refine st10 _ ?_
    exact k)
  obtain ⟨T31, L31, X31, e31, N31, K31, Zs31, O31, A_b1_31, pre31⟩ : ∃ (T' : State) (L' : List Loc), Stand p l e room_1 s m #[(.int p1), (.int p2), (.int p3), (.int p4), (.int p5), (.int p6)] below meth c T' L' 1 4 ∧ T'.heap = h8 ∧ Fr n0 L' ∧ Keep h0 h8 ([] : List Addr) ∧ n0 ≤ h8.size ∧ Old Z n0 h8 ∧ own_A Z h8 b1 .byte (4 : Int32) (fun i => .int (y8 i)) ∧ ∀ t, Steps p.tables e below (T'.setTop (mkF m 107 #[.val (.int p1), .val (.int p2), .val (.int p3), .val (.int p4), .val (.int p5), .val (.int p6), .val (.ref b1), .val (.int OF), .val (.int LE), .unset, .unset] [(.int v30)])) t → Steps p.tables e below (s₁.setTop (entryFrame m #[(.int p1), (.int p2), (.int p3), (.int p4), (.int p5), (.int p6)] maxLocals)) t := by
    by_cases hc12 : (f1 (0 : Int32) OF LE y8) = (0 : Int32)
    · have pre13 : ∀ t, Steps p.tables e below (T10.setTop (mkF m 107 #[.val (.int p1), .val (.int p2), .val (.int p3), .val (.int p4), .val (.int p5), .val (.int p6), .val (.ref b1), .val (.int OF), .val (.int LE), .unset, .unset] [(.int (0 : Int32))])) t → Steps p.tables e below (s₁.setTop (entryFrame m #[(.int p1), (.int p2), (.int p3), (.int p4), (.int p5), (.int p6)] maxLocals)) t := fun t k => pre11 t (by
        show Steps p.tables e below (T10.setTop (mkF m 60 #[.val (.int p1), .val (.int p2), .val (.int p3), .val (.int p4), .val (.int p5), .val (.int p6), .val (.ref b1), .val (.int OF), .val (.int LE), .unset, .unset] [(.int (f1 (0 : Int32) OF LE y8))])) _
        refine XS.ifYes X10.here hx rfl (pc0 := 60) (pc' := 106) rfl (hb hby at_60) rfl ((if0 _ _).trans (teq hc12).1) (by decide) (by decide) ?_
        show Steps p.tables e below (T10.setTop (mkF m 106 #[.val (.int p1), .val (.int p2), .val (.int p3), .val (.int p4), .val (.int p5), .val (.int p6), .val (.ref b1), .val (.int OF), .val (.int LE), .unset, .unset] [])) _
        refine XS.iconst X10.here hx rfl (hb hby at_106) ?_
        exact k)
      have evv30 : v30 = (0 : Int32) := by exact hv30.trans (if_pos hc12)
      subst evv30
      exact ⟨T10, _, X10, e10, N10, K8, Zs8, O8, A_b1_8, pre13⟩
    · obtain ⟨_, _, ⟨T14, L14, k14, n14⟩, -, X14, ⟨Lc14, hQ14, l14, y14, z14⟩, st14⟩ := Jvm.LawKit.callS X10 hx (y := (⟨"com/example/sealwire/sealwire/procedure/keyfile/Rdh2RecordsIsDigitsPinLaw", "ok", "([BIII)Z"⟩ : MethodName)) hown (mvT hZ (hw _ (List.mem_of_getElem? (i := 2) rfl))) (mvT hZ (hw _ (List.mem_of_getElem? (i := 3) rfl))) (mvT hZ (hw _ (List.mem_of_getElem? (i := 4) rfl))) (mvT hZ (hw _ (List.mem_of_getElem? (i := 5) rfl))) (by decide) (backOf (W := 0) (rm1 l Z a0 hw [] b1 (1 : Int32) OF LE y8 h8 n0 Zs8 A_b1_8 ⟨by decide, by decide⟩) hZ (hw _ (List.mem_of_getElem? (i := 5) rfl)) (hw _ (List.mem_of_getElem? (i := 4) rfl)) (by decide) (by decide)) (g := (mkF m 70 #[.val (.int p1), .val (.int p2), .val (.int p3), .val (.int p4), .val (.int p5), .val (.int p6), .val (.ref b1), .val (.int OF), .val (.int LE), .unset, .unset] [(.int LE), (.int OF), (.int (1 : Int32)), (.ref b1)])) rfl (by rw [hml]; rfl) (argsL := [(.ref b1), (.int (1 : Int32)), (.int OF), (.int LE)]) (rest := []) (lenOf pd_1 rfl) rfl (by show 2 * 0 + _ ≤ _; exact Nat.le_of_eq rfl) (hb hby at_70) (fun _ _ => ⟨rfl, e10, (by decide : 1 + 0 ≤ _), (by decide : 4 + 0 ≤ _)⟩)
      dsimp only [Pt.U, Pt.locs, Pt.cells, Pt.slots] at X14 l14 y14 z14 st14 hQ14
      subst l14 y14 z14
      obtain ⟨rfl, N14q, e14⟩ := hQ14
      have N14 := Fr.app N10 N14q
      obtain ⟨v28, hv28⟩ : ∃ z : Int32, z = (if (f1 (1 : Int32) OF LE y8) = (0 : Int32) then (0 : Int32) else (if (f1 (2 : Int32) OF LE y8) = (0 : Int32) then (0 : Int32) else (if (f1 (3 : Int32) OF LE y8) = (0 : Int32) then (0 : Int32) else (1 : Int32)))) := ⟨_, rfl⟩
      have pre15 : ∀ t, Steps p.tables e below (T14.setTop (mkF m 73 #[.val (.int p1), .val (.int p2), .val (.int p3), .val (.int p4), .val (.int p5), .val (.int p6), .val (.ref b1), .val (.int OF), .val (.int LE), .unset, .unset] [(.int (f1 (1 : Int32) OF LE y8))])) t → Steps p.tables e below (s₁.setTop (entryFrame m #[(.int p1), (.int p2), (.int p3), (.int p4), (.int p5), (.int p6)] maxLocals)) t := fun t k => pre11 t (by
        show Steps p.tables e below (T10.setTop (mkF m 60 #[.val (.int p1), .val (.int p2), .val (.int p3), .val (.int p4), .val (.int p5), .val (.int p6), .val (.ref b1), .val (.int OF), .val (.int LE), .unset, .unset] [(.int (f1 (0 : Int32) OF LE y8))])) _
        refine XS.ifNo X10.here hx rfl (hb hby at_60) rfl ((if0 _ _).trans (feq hc12).1) ?_
        show Steps p.tables e below (T10.setTop (mkF m 63 #[.val (.int p1), .val (.int p2), .val (.int p3), .val (.int p4), .val (.int p5), .val (.int p6), .val (.ref b1), .val (.int OF), .val (.int LE), .unset, .unset] [])) _
        refine XS.aload X10.here hx rfl (hb hby at_63) rfl rfl ?_
        show Steps p.tables e below (T10.setTop (mkF m 65 #[.val (.int p1), .val (.int p2), .val (.int p3), .val (.int p4), .val (.int p5), .val (.int p6), .val (.ref b1), .val (.int OF), .val (.int LE), .unset, .unset] [(.ref b1)])) _
        refine XS.iconst X10.here hx rfl (hb hby at_65) ?_
        show Steps p.tables e below (T10.setTop (mkF m 66 #[.val (.int p1), .val (.int p2), .val (.int p3), .val (.int p4), .val (.int p5), .val (.int p6), .val (.ref b1), .val (.int OF), .val (.int LE), .unset, .unset] [(.int (1 : Int32)), (.ref b1)])) _
        refine XS.iload X10.here hx rfl (hb hby at_66) rfl ?_
        show Steps p.tables e below (T10.setTop (mkF m 68 #[.val (.int p1), .val (.int p2), .val (.int p3), .val (.int p4), .val (.int p5), .val (.int p6), .val (.ref b1), .val (.int OF), .val (.int LE), .unset, .unset] [(.int OF), (.int (1 : Int32)), (.ref b1)])) _
        refine XS.iload X10.here hx rfl (hb hby at_68) rfl ?_
        show Steps p.tables e below (T10.setTop (mkF m 70 #[.val (.int p1), .val (.int p2), .val (.int p3), .val (.int p4), .val (.int p5), .val (.int p6), .val (.ref b1), .val (.int OF), .val (.int LE), .unset, .unset] [(.int LE), (.int OF), (.int (1 : Int32)), (.ref b1)])) _
        refine st14 _ ?_
        exact k)
      obtain ⟨T29, L29, X29, e29, N29, K29, Zs29, O29, A_b1_29, pre29⟩ : ∃ (T' : State) (L' : List Loc), Stand p l e room_1 s m #[(.int p1), (.int p2), (.int p3), (.int p4), (.int p5), (.int p6)] below meth c T' L' 1 4 ∧ T'.heap = h8 ∧ Fr n0 L' ∧ Keep h0 h8 ([] : List Addr) ∧ n0 ≤ h8.size ∧ Old Z n0 h8 ∧ own_A Z h8 b1 .byte (4 : Int32) (fun i => .int (y8 i)) ∧ ∀ t, Steps p.tables e below (T'.setTop (mkF m 107 #[.val (.int p1), .val (.int p2), .val (.int p3), .val (.int p4), .val (.int p5), .val (.int p6), .val (.ref b1), .val (.int OF), .val (.int LE), .unset, .unset] [(.int v28)])) t → Steps p.tables e below (s₁.setTop (entryFrame m #[(.int p1), (.int p2), (.int p3), (.int p4), (.int p5), (.int p6)] maxLocals)) t := by
        by_cases hc16 : (f1 (1 : Int32) OF LE y8) = (0 : Int32)
        · have pre17 : ∀ t, Steps p.tables e below (T14.setTop (mkF m 107 #[.val (.int p1), .val (.int p2), .val (.int p3), .val (.int p4), .val (.int p5), .val (.int p6), .val (.ref b1), .val (.int OF), .val (.int LE), .unset, .unset] [(.int (0 : Int32))])) t → Steps p.tables e below (s₁.setTop (entryFrame m #[(.int p1), (.int p2), (.int p3), (.int p4), (.int p5), (.int p6)] maxLocals)) t := fun t k => pre15 t (by
            show Steps p.tables e below (T14.setTop (mkF m 73 #[.val (.int p1), .val (.int p2), .val (.int p3), .val (.int p4), .val (.int p5), .val (.int p6), .val (.ref b1), .val (.int OF), .val (.int LE), .unset, .unset] [(.int (f1 (1 : Int32) OF LE y8))])) _
            refine XS.ifYes X14.here hx rfl (pc0 := 73) (pc' := 106) rfl (hb hby at_73) rfl ((if0 _ _).trans (teq hc16).1) (by decide) (by decide) ?_
            show Steps p.tables e below (T14.setTop (mkF m 106 #[.val (.int p1), .val (.int p2), .val (.int p3), .val (.int p4), .val (.int p5), .val (.int p6), .val (.ref b1), .val (.int OF), .val (.int LE), .unset, .unset] [])) _
            refine XS.iconst X14.here hx rfl (hb hby at_106) ?_
            exact k)
          have evv28 : v28 = (0 : Int32) := by exact hv28.trans (if_pos hc16)
          subst evv28
          exact ⟨T14, _, X14, e14, N14, K8, Zs8, O8, A_b1_8, pre17⟩
        · obtain ⟨_, _, ⟨T18, L18, k18, n18⟩, -, X18, ⟨Lc18, hQ18, l18, y18, z18⟩, st18⟩ := Jvm.LawKit.callS X14 hx (y := (⟨"com/example/sealwire/sealwire/procedure/keyfile/Rdh2RecordsIsDigitsPinLaw", "ok", "([BIII)Z"⟩ : MethodName)) hown (mvT hZ (hw _ (List.mem_of_getElem? (i := 2) rfl))) (mvT hZ (hw _ (List.mem_of_getElem? (i := 3) rfl))) (mvT hZ (hw _ (List.mem_of_getElem? (i := 4) rfl))) (mvT hZ (hw _ (List.mem_of_getElem? (i := 5) rfl))) (by decide) (backOf (W := 0) (rm1 l Z a0 hw [] b1 (2 : Int32) OF LE y8 h8 n0 Zs8 A_b1_8 ⟨by decide, by decide⟩) hZ (hw _ (List.mem_of_getElem? (i := 5) rfl)) (hw _ (List.mem_of_getElem? (i := 4) rfl)) (by decide) (by decide)) (g := (mkF m 83 #[.val (.int p1), .val (.int p2), .val (.int p3), .val (.int p4), .val (.int p5), .val (.int p6), .val (.ref b1), .val (.int OF), .val (.int LE), .unset, .unset] [(.int LE), (.int OF), (.int (2 : Int32)), (.ref b1)])) rfl (by rw [hml]; rfl) (argsL := [(.ref b1), (.int (2 : Int32)), (.int OF), (.int LE)]) (rest := []) (lenOf pd_1 rfl) rfl (by show 2 * 0 + _ ≤ _; exact Nat.le_of_eq rfl) (hb hby at_83) (fun _ _ => ⟨rfl, e14, (by decide : 1 + 0 ≤ _), (by decide : 4 + 0 ≤ _)⟩)
          dsimp only [Pt.U, Pt.locs, Pt.cells, Pt.slots] at X18 l18 y18 z18 st18 hQ18
          subst l18 y18 z18
          obtain ⟨rfl, N18q, e18⟩ := hQ18
          have N18 := Fr.app N14 N18q
          obtain ⟨v26, hv26⟩ : ∃ z : Int32, z = (if (f1 (2 : Int32) OF LE y8) = (0 : Int32) then (0 : Int32) else (if (f1 (3 : Int32) OF LE y8) = (0 : Int32) then (0 : Int32) else (1 : Int32))) := ⟨_, rfl⟩
          have pre19 : ∀ t, Steps p.tables e below (T18.setTop (mkF m 86 #[.val (.int p1), .val (.int p2), .val (.int p3), .val (.int p4), .val (.int p5), .val (.int p6), .val (.ref b1), .val (.int OF), .val (.int LE), .unset, .unset] [(.int (f1 (2 : Int32) OF LE y8))])) t → Steps p.tables e below (s₁.setTop (entryFrame m #[(.int p1), (.int p2), (.int p3), (.int p4), (.int p5), (.int p6)] maxLocals)) t := fun t k => pre15 t (by
            show Steps p.tables e below (T14.setTop (mkF m 73 #[.val (.int p1), .val (.int p2), .val (.int p3), .val (.int p4), .val (.int p5), .val (.int p6), .val (.ref b1), .val (.int OF), .val (.int LE), .unset, .unset] [(.int (f1 (1 : Int32) OF LE y8))])) _
            refine XS.ifNo X14.here hx rfl (hb hby at_73) rfl ((if0 _ _).trans (feq hc16).1) ?_
            show Steps p.tables e below (T14.setTop (mkF m 76 #[.val (.int p1), .val (.int p2), .val (.int p3), .val (.int p4), .val (.int p5), .val (.int p6), .val (.ref b1), .val (.int OF), .val (.int LE), .unset, .unset] [])) _
            refine XS.aload X14.here hx rfl (hb hby at_76) rfl rfl ?_
            show Steps p.tables e below (T14.setTop (mkF m 78 #[.val (.int p1), .val (.int p2), .val (.int p3), .val (.int p4), .val (.int p5), .val (.int p6), .val (.ref b1), .val (.int OF), .val (.int LE), .unset, .unset] [(.ref b1)])) _
            refine XS.iconst X14.here hx rfl (hb hby at_78) ?_
            show Steps p.tables e below (T14.setTop (mkF m 79 #[.val (.int p1), .val (.int p2), .val (.int p3), .val (.int p4), .val (.int p5), .val (.int p6), .val (.ref b1), .val (.int OF), .val (.int LE), .unset, .unset] [(.int (2 : Int32)), (.ref b1)])) _
            refine XS.iload X14.here hx rfl (hb hby at_79) rfl ?_
            show Steps p.tables e below (T14.setTop (mkF m 81 #[.val (.int p1), .val (.int p2), .val (.int p3), .val (.int p4), .val (.int p5), .val (.int p6), .val (.ref b1), .val (.int OF), .val (.int LE), .unset, .unset] [(.int OF), (.int (2 : Int32)), (.ref b1)])) _
            refine XS.iload X14.here hx rfl (hb hby at_81) rfl ?_
            show Steps p.tables e below (T14.setTop (mkF m 83 #[.val (.int p1), .val (.int p2), .val (.int p3), .val (.int p4), .val (.int p5), .val (.int p6), .val (.ref b1), .val (.int OF), .val (.int LE), .unset, .unset] [(.int LE), (.int OF), (.int (2 : Int32)), (.ref b1)])) _
            refine st18 _ ?_
            exact k)
          obtain ⟨T27, L27, X27, e27, N27, K27, Zs27, O27, A_b1_27, pre27⟩ : ∃ (T' : State) (L' : List Loc), Stand p l e room_1 s m #[(.int p1), (.int p2), (.int p3), (.int p4), (.int p5), (.int p6)] below meth c T' L' 1 4 ∧ T'.heap = h8 ∧ Fr n0 L' ∧ Keep h0 h8 ([] : List Addr) ∧ n0 ≤ h8.size ∧ Old Z n0 h8 ∧ own_A Z h8 b1 .byte (4 : Int32) (fun i => .int (y8 i)) ∧ ∀ t, Steps p.tables e below (T'.setTop (mkF m 107 #[.val (.int p1), .val (.int p2), .val (.int p3), .val (.int p4), .val (.int p5), .val (.int p6), .val (.ref b1), .val (.int OF), .val (.int LE), .unset, .unset] [(.int v26)])) t → Steps p.tables e below (s₁.setTop (entryFrame m #[(.int p1), (.int p2), (.int p3), (.int p4), (.int p5), (.int p6)] maxLocals)) t := by
            by_cases hc20 : (f1 (2 : Int32) OF LE y8) = (0 : Int32)
            · have pre21 : ∀ t, Steps p.tables e below (T18.setTop (mkF m 107 #[.val (.int p1), .val (.int p2), .val (.int p3), .val (.int p4), .val (.int p5), .val (.int p6), .val (.ref b1), .val (.int OF), .val (.int LE), .unset, .unset] [(.int (0 : Int32))])) t → Steps p.tables e below (s₁.setTop (entryFrame m #[(.int p1), (.int p2), (.int p3), (.int p4), (.int p5), (.int p6)] maxLocals)) t := fun t k => pre19 t (by
                show Steps p.tables e below (T18.setTop (mkF m 86 #[.val (.int p1), .val (.int p2), .val (.int p3), .val (.int p4), .val (.int p5), .val (.int p6), .val (.ref b1), .val (.int OF), .val (.int LE), .unset, .unset] [(.int (f1 (2 : Int32) OF LE y8))])) _
                refine XS.ifYes X18.here hx rfl (pc0 := 86) (pc' := 106) rfl (hb hby at_86) rfl ((if0 _ _).trans (teq hc20).1) (by decide) (by decide) ?_
                show Steps p.tables e below (T18.setTop (mkF m 106 #[.val (.int p1), .val (.int p2), .val (.int p3), .val (.int p4), .val (.int p5), .val (.int p6), .val (.ref b1), .val (.int OF), .val (.int LE), .unset, .unset] [])) _
                refine XS.iconst X18.here hx rfl (hb hby at_106) ?_
                exact k)
              have evv26 : v26 = (0 : Int32) := by exact hv26.trans (if_pos hc20)
              subst evv26
              exact ⟨T18, _, X18, e18, N18, K8, Zs8, O8, A_b1_8, pre21⟩
            · obtain ⟨_, _, ⟨T22, L22, k22, n22⟩, -, X22, ⟨Lc22, hQ22, l22, y22, z22⟩, st22⟩ := Jvm.LawKit.callS X18 hx (y := (⟨"com/example/sealwire/sealwire/procedure/keyfile/Rdh2RecordsIsDigitsPinLaw", "ok", "([BIII)Z"⟩ : MethodName)) hown (mvT hZ (hw _ (List.mem_of_getElem? (i := 2) rfl))) (mvT hZ (hw _ (List.mem_of_getElem? (i := 3) rfl))) (mvT hZ (hw _ (List.mem_of_getElem? (i := 4) rfl))) (mvT hZ (hw _ (List.mem_of_getElem? (i := 5) rfl))) (by decide) (backOf (W := 0) (rm1 l Z a0 hw [] b1 (3 : Int32) OF LE y8 h8 n0 Zs8 A_b1_8 ⟨by decide, by decide⟩) hZ (hw _ (List.mem_of_getElem? (i := 5) rfl)) (hw _ (List.mem_of_getElem? (i := 4) rfl)) (by decide) (by decide)) (g := (mkF m 96 #[.val (.int p1), .val (.int p2), .val (.int p3), .val (.int p4), .val (.int p5), .val (.int p6), .val (.ref b1), .val (.int OF), .val (.int LE), .unset, .unset] [(.int LE), (.int OF), (.int (3 : Int32)), (.ref b1)])) rfl (by rw [hml]; rfl) (argsL := [(.ref b1), (.int (3 : Int32)), (.int OF), (.int LE)]) (rest := []) (lenOf pd_1 rfl) rfl (by show 2 * 0 + _ ≤ _; exact Nat.le_of_eq rfl) (hb hby at_96) (fun _ _ => ⟨rfl, e18, (by decide : 1 + 0 ≤ _), (by decide : 4 + 0 ≤ _)⟩)
              dsimp only [Pt.U, Pt.locs, Pt.cells, Pt.slots] at X22 l22 y22 z22 st22 hQ22
              subst l22 y22 z22
              obtain ⟨rfl, N22q, e22⟩ := hQ22
              have N22 := Fr.app N18 N22q
              obtain ⟨v24, hv24⟩ : ∃ z : Int32, z = (if (f1 (3 : Int32) OF LE y8) = (0 : Int32) then (0 : Int32) else (1 : Int32)) := ⟨_, rfl⟩
              have pre25 : ∀ t, Steps p.tables e below (T22.setTop (mkF m 107 #[.val (.int p1), .val (.int p2), .val (.int p3), .val (.int p4), .val (.int p5), .val (.int p6), .val (.ref b1), .val (.int OF), .val (.int LE), .unset, .unset] [(.int v24)])) t → Steps p.tables e below (s₁.setTop (entryFrame m #[(.int p1), (.int p2), (.int p3), (.int p4), (.int p5), (.int p6)] maxLocals)) t := fun t k => pre19 t (by
                show Steps p.tables e below (T18.setTop (mkF m 86 #[.val (.int p1), .val (.int p2), .val (.int p3), .val (.int p4), .val (.int p5), .val (.int p6), .val (.ref b1), .val (.int OF), .val (.int LE), .unset, .unset] [(.int (f1 (2 : Int32) OF LE y8))])) _
                refine XS.ifNo X18.here hx rfl (hb hby at_86) rfl ((if0 _ _).trans (feq hc20).1) ?_
                show Steps p.tables e below (T18.setTop (mkF m 89 #[.val (.int p1), .val (.int p2), .val (.int p3), .val (.int p4), .val (.int p5), .val (.int p6), .val (.ref b1), .val (.int OF), .val (.int LE), .unset, .unset] [])) _
                refine XS.aload X18.here hx rfl (hb hby at_89) rfl rfl ?_
                show Steps p.tables e below (T18.setTop (mkF m 91 #[.val (.int p1), .val (.int p2), .val (.int p3), .val (.int p4), .val (.int p5), .val (.int p6), .val (.ref b1), .val (.int OF), .val (.int LE), .unset, .unset] [(.ref b1)])) _
                refine XS.iconst X18.here hx rfl (hb hby at_91) ?_
                show Steps p.tables e below (T18.setTop (mkF m 92 #[.val (.int p1), .val (.int p2), .val (.int p3), .val (.int p4), .val (.int p5), .val (.int p6), .val (.ref b1), .val (.int OF), .val (.int LE), .unset, .unset] [(.int (3 : Int32)), (.ref b1)])) _
                refine XS.iload X18.here hx rfl (hb hby at_92) rfl ?_
                show Steps p.tables e below (T18.setTop (mkF m 94 #[.val (.int p1), .val (.int p2), .val (.int p3), .val (.int p4), .val (.int p5), .val (.int p6), .val (.ref b1), .val (.int OF), .val (.int LE), .unset, .unset] [(.int OF), (.int (3 : Int32)), (.ref b1)])) _
                refine XS.iload X18.here hx rfl (hb hby at_94) rfl ?_
                show Steps p.tables e below (T18.setTop (mkF m 96 #[.val (.int p1), .val (.int p2), .val (.int p3), .val (.int p4), .val (.int p5), .val (.int p6), .val (.ref b1), .val (.int OF), .val (.int LE), .unset, .unset] [(.int LE), (.int OF), (.int (3 : Int32)), (.ref b1)])) _
                refine st22 _ ?_
                show Steps p.tables e below (T22.setTop (mkF m 99 #[.val (.int p1), .val (.int p2), .val (.int p3), .val (.int p4), .val (.int p5), .val (.int p6), .val (.ref b1), .val (.int OF), .val (.int LE), .unset, .unset] [(.int (f1 (3 : Int32) OF LE y8))])) _
                by_cases hc23 : (f1 (3 : Int32) OF LE y8) = (0 : Int32)
                · refine XS.ifYes X22.here hx rfl (pc0 := 99) (pc' := 106) rfl (hb hby at_99) rfl ((if0 _ _).trans (teq hc23).1) (by decide) (by decide) ?_
                  show Steps p.tables e below (T22.setTop (mkF m 106 #[.val (.int p1), .val (.int p2), .val (.int p3), .val (.int p4), .val (.int p5), .val (.int p6), .val (.ref b1), .val (.int OF), .val (.int LE), .unset, .unset] [])) _
                  refine XS.iconst X22.here hx rfl (hb hby at_106) ?_
                  rw [show v24 = (0 : Int32) from hv24.trans (if_pos hc23)] at k
                  exact k
                · refine XS.ifNo X22.here hx rfl (hb hby at_99) rfl ((if0 _ _).trans (feq hc23).1) ?_
                  show Steps p.tables e below (T22.setTop (mkF m 102 #[.val (.int p1), .val (.int p2), .val (.int p3), .val (.int p4), .val (.int p5), .val (.int p6), .val (.ref b1), .val (.int OF), .val (.int LE), .unset, .unset] [])) _
                  refine XS.iconst X22.here hx rfl (hb hby at_102) ?_
                  show Steps p.tables e below (T22.setTop (mkF m 103 #[.val (.int p1), .val (.int p2), .val (.int p3), .val (.int p4), .val (.int p5), .val (.int p6), .val (.ref b1), .val (.int OF), .val (.int LE), .unset, .unset] [(.int (1 : Int32))])) _
                  refine XS.goto X22.here hx rfl (pc0 := 103) (pc' := 107) rfl (hb hby at_103) (by decide) (by decide) ?_
                  rw [show v24 = (1 : Int32) from hv24.trans (if_neg hc23)] at k
                  exact k)
              have evv26 : v26 = v24 := by subst hv24; exact hv26.trans (if_neg hc20)
              subst evv26
              exact ⟨T22, _, X22, e22, N22, K8, Zs8, O8, A_b1_8, pre25⟩
          have evv28 : v28 = v26 := by subst hv26; exact hv28.trans (if_neg hc16)
          subst evv28
          exact ⟨T27, _, X27, e27, N27, K27, Zs27, O27, A_b1_27, pre27⟩
      have evv30 : v30 = v28 := by subst hv28; exact hv30.trans (if_neg hc12)
      subst evv30
      exact ⟨T29, _, X29, e29, N29, K29, Zs29, O29, A_b1_29, pre29⟩
  obtain ⟨_, _, ⟨T32, L32, k32, n32⟩, -, X32, ⟨Lc32, hQ32, l32, y32, z32⟩, st32⟩ := Jvm.LawKit.callS X31 hx (y := (⟨"com/example/sealwire/sealwire/procedure/keyfile/Rdh2Records", "isDigits", "([BII)Z"⟩ : MethodName)) hown (mvT hZ (hw _ (List.mem_of_getElem? (i := 9) rfl))) (mvT hZ (hw _ (List.mem_of_getElem? (i := 10) rfl))) (mvT hZ (hw _ (List.mem_of_getElem? (i := 11) rfl))) (mvT hZ (hw _ (List.mem_of_getElem? (i := 12) rfl))) (by decide) (backOf (W := 0) (rm3 l Z a0 hw [] b1 OF LE y8 h8 n0 Zs31 A_b1_31 (own_rng hOF hLE)) hZ (hw _ (List.mem_of_getElem? (i := 12) rfl)) (hw _ (List.mem_of_getElem? (i := 11) rfl)) (by decide) (by decide)) (g := (mkF m 115 #[.val (.int p1), .val (.int p2), .val (.int p3), .val (.int p4), .val (.int p5), .val (.int p6), .val (.ref b1), .val (.int OF), .val (.int LE), .val (.int v30), .unset] [(.int LE), (.int OF), (.ref b1)])) rfl (by rw [hml]; rfl) (argsL := [(.ref b1), (.int OF), (.int LE)]) (rest := []) (lenOf pd_2 rfl) rfl (by show 2 * 0 + _ ≤ _; exact Nat.le_of_eq rfl) (hb hby at_115) (fun _ _ => ⟨rfl, e31, (by decide : 1 + 0 ≤ _), (by decide : 4 + 0 ≤ _)⟩)
  dsimp only [Pt.U, Pt.locs, Pt.cells, Pt.slots] at X32 l32 y32 z32 st32 hQ32
  subst l32 y32 z32
  obtain ⟨rfl, N32q, e32⟩ := hQ32
  have N32 := Fr.app N31 N32q
  obtain ⟨v34, hv34⟩ : ∃ z : Int32, z = (if (f3 OF LE y8) = v30 then (1 : Int32) else (0 : Int32)) := ⟨_, rfl⟩
  have pre35 : ∀ t, Steps p.tables e below (T32.setTop (mkF m 132 #[.val (.int p1), .val (.int p2), .val (.int p3), .val (.int p4), .val (.int p5), .val (.int p6), .val (.ref b1), .val (.int OF), .val (.int LE), .val (.int v30), .val (.int (f3 OF LE y8))] [(.int v34)])) t → Steps p.tables e below (s₁.setTop (entryFrame m #[(.int p1), (.int p2), (.int p3), (.int p4), (.int p5), (.int p6)] maxLocals)) t := fun t k => pre31 t (by
    show Steps p.tables e below (T31.setTop (mkF m 107 #[.val (.int p1), .val (.int p2), .val (.int p3), .val (.int p4), .val (.int p5), .val (.int p6), .val (.ref b1), .val (.int OF), .val (.int LE), .unset, .unset] [(.int v30)])) _
    refine XS.istore X31.here hx rfl (hb hby at_107) rfl (l' := #[.val (.int p1), .val (.int p2), .val (.int p3), .val (.int p4), .val (.int p5), .val (.int p6), .val (.ref b1), .val (.int OF), .val (.int LE), .val (.int v30), .unset]) rfl ?_
    show Steps p.tables e below (T31.setTop (mkF m 109 #[.val (.int p1), .val (.int p2), .val (.int p3), .val (.int p4), .val (.int p5), .val (.int p6), .val (.ref b1), .val (.int OF), .val (.int LE), .val (.int v30), .unset] [])) _
    refine XS.aload X31.here hx rfl (hb hby at_109) rfl rfl ?_
    show Steps p.tables e below (T31.setTop (mkF m 111 #[.val (.int p1), .val (.int p2), .val (.int p3), .val (.int p4), .val (.int p5), .val (.int p6), .val (.ref b1), .val (.int OF), .val (.int LE), .val (.int v30), .unset] [(.ref b1)])) _
    refine XS.iload X31.here hx rfl (hb hby at_111) rfl ?_
    show Steps p.tables e below (T31.setTop (mkF m 113 #[.val (.int p1), .val (.int p2), .val (.int p3), .val (.int p4), .val (.int p5), .val (.int p6), .val (.ref b1), .val (.int OF), .val (.int LE), .val (.int v30), .unset] [(.int OF), (.ref b1)])) _
    refine XS.iload X31.here hx rfl (hb hby at_113) rfl ?_
    show Steps p.tables e below (T31.setTop (mkF m 115 #[.val (.int p1), .val (.int p2), .val (.int p3), .val (.int p4), .val (.int p5), .val (.int p6), .val (.ref b1), .val (.int OF), .val (.int LE), .val (.int v30), .unset] [(.int LE), (.int OF), (.ref b1)])) _
    refine st32 _ ?_
    show Steps p.tables e below (T32.setTop (mkF m 118 #[.val (.int p1), .val (.int p2), .val (.int p3), .val (.int p4), .val (.int p5), .val (.int p6), .val (.ref b1), .val (.int OF), .val (.int LE), .val (.int v30), .unset] [(.int (f3 OF LE y8))])) _
    refine XS.istore X32.here hx rfl (hb hby at_118) rfl (l' := #[.val (.int p1), .val (.int p2), .val (.int p3), .val (.int p4), .val (.int p5), .val (.int p6), .val (.ref b1), .val (.int OF), .val (.int LE), .val (.int v30), .val (.int (f3 OF LE y8))]) rfl ?_
    show Steps p.tables e below (T32.setTop (mkF m 120 #[.val (.int p1), .val (.int p2), .val (.int p3), .val (.int p4), .val (.int p5), .val (.int p6), .val (.ref b1), .val (.int OF), .val (.int LE), .val (.int v30), .val (.int (f3 OF LE y8))] [])) _
    refine XS.iload X32.here hx rfl (hb hby at_120) rfl ?_
    show Steps p.tables e below (T32.setTop (mkF m 122 #[.val (.int p1), .val (.int p2), .val (.int p3), .val (.int p4), .val (.int p5), .val (.int p6), .val (.ref b1), .val (.int OF), .val (.int LE), .val (.int v30), .val (.int (f3 OF LE y8))] [(.int (f3 OF LE y8))])) _
    refine XS.iload X32.here hx rfl (hb hby at_122) rfl ?_
    show Steps p.tables e below (T32.setTop (mkF m 124 #[.val (.int p1), .val (.int p2), .val (.int p3), .val (.int p4), .val (.int p5), .val (.int p6), .val (.ref b1), .val (.int OF), .val (.int LE), .val (.int v30), .val (.int (f3 OF LE y8))] [(.int v30), (.int (f3 OF LE y8))])) _
    by_cases hc33 : (f3 OF LE y8) = v30
    · refine XS.icmpNo X32.here hx rfl (hb hby at_124) rfl (teq hc33).2 ?_
      show Steps p.tables e below (T32.setTop (mkF m 127 #[.val (.int p1), .val (.int p2), .val (.int p3), .val (.int p4), .val (.int p5), .val (.int p6), .val (.ref b1), .val (.int OF), .val (.int LE), .val (.int v30), .val (.int (f3 OF LE y8))] [])) _
      refine XS.iconst X32.here hx rfl (hb hby at_127) ?_
      show Steps p.tables e below (T32.setTop (mkF m 128 #[.val (.int p1), .val (.int p2), .val (.int p3), .val (.int p4), .val (.int p5), .val (.int p6), .val (.ref b1), .val (.int OF), .val (.int LE), .val (.int v30), .val (.int (f3 OF LE y8))] [(.int (1 : Int32))])) _
      refine XS.goto X32.here hx rfl (pc0 := 128) (pc' := 132) rfl (hb hby at_128) (by decide) (by decide) ?_
      rw [show v34 = (1 : Int32) from hv34.trans (if_pos hc33)] at k
      exact k
    · refine XS.icmpYes X32.here hx rfl (pc0 := 124) (pc' := 131) rfl (hb hby at_124) rfl (feq hc33).2 (by decide) (by decide) ?_
      show Steps p.tables e below (T32.setTop (mkF m 131 #[.val (.int p1), .val (.int p2), .val (.int p3), .val (.int p4), .val (.int p5), .val (.int p6), .val (.ref b1), .val (.int OF), .val (.int LE), .val (.int v30), .val (.int (f3 OF LE y8))] [])) _
      refine XS.iconst X32.here hx rfl (hb hby at_131) ?_
      rw [show v34 = (0 : Int32) from hv34.trans (if_neg hc33)] at k
      exact k)
  have er : (f0 p1 p2 p3 p4 p5 p6) = (nar .boolean v34) := by subst hy2 hy4 hy6 hy8 hOF hLE hv30 hv34; exact rfl
  obtain ⟨fs, hr, hrun, hended, hW, hsame⟩ := X32.leave (v := some (.int (nar .boolean v34))) (fun h => by rw [Bd.returns] at h; cases h)
  refine ⟨_, _, pre35 _ ?_, hrun, hended, _, _, rfl, ?_, ⟨_, rfl⟩, hW, hsame.mono (by decide) (by decide)⟩
  · show Steps p.tables e below (T32.setTop (mkF m 132 #[.val (.int p1), .val (.int p2), .val (.int p3), .val (.int p4), .val (.int p5), .val (.int p6), .val (.ref b1), .val (.int OF), .val (.int LE), .val (.int v30), .val (.int (f3 OF LE y8))] [(.int v34)])) _
    exact retN X32 hx (t := .boolean) Bd.returns (by simp) (hb hby at_132) hr
  · show Q0 Z p1 p2 p3 p4 p5 p6 h0 n0 _ T32.heap _
    rw [e32]
    exact ⟨congrArg (fun z => some (Value.int z)) er.symm, N32, trivial⟩
theorem own_nat {c : Int32} (n : Nat) (h0 : 0 ≤ c.toInt) (h1 : c.toInt < n) : ∃ k : Nat, k < n ∧ c = Int32.ofInt k :=
  ⟨c.toInt.toNat, by omega, by rw [Int.toNat_of_nonneg h0, Int32.ofInt_toInt]⟩
theorem own_i2c (x : Int32) : 0 ≤ (x.toUInt32.toUInt16.toUInt32.toInt32).toInt ∧ (x.toUInt32.toUInt16.toUInt32.toInt32).toInt < 65536 := by
  have h : (decide ((0 : Int32) ≤ x.toUInt32.toUInt16.toUInt32.toInt32) && decide (x.toUInt32.toUInt16.toUInt32.toInt32 ≤ (65535 : Int32))) = true := fits_nar_char x
  rw [Bool.and_eq_true, decide_eq_true_eq, decide_eq_true_eq, Int32.le_iff_toInt_le, Int32.le_iff_toInt_le] at h
  have e1 : (0 : Int32).toInt = 0 := by decide
  have e2 : (65535 : Int32).toInt = 65535 := by decide
  omega
theorem own_nb (c : Prop) [Decidable c] : nar .boolean (if c then (1 : Int32) else 0) = if c then 1 else 0 := by
  by_cases h : c
  · rw [if_pos h]; decide
  · rw [if_neg h]; decide

theorem own_f2 (x : Int32) : f2 x = 0 ∨ f2 x = 1 := by
  unfold f2
  by_cases h : x < (48 : Int32)
  · rw [if_pos h]; left; decide
  · rw [if_neg h]
    by_cases h' : (57 : Int32) < x
    · rw [if_pos h']; left; decide
    · rw [if_neg h']; right; decide
theorem own_dig_s (y : Int32 → Int32) (i : Int32) (k : Nat) : own_dig y i (k + 1) = if f2 (y i) = 0 then 0 else own_dig y (i + 1) k := by
  show (if y i < (48 : Int32) then 0 else if (57 : Int32) < y i then 0 else own_dig y (i + 1) k) = _
  unfold f2
  by_cases h : y i < (48 : Int32)
  · rw [if_pos h, if_pos h, if_pos (by decide)]
  · rw [if_neg h, if_neg h]
    by_cases h' : (57 : Int32) < y i
    · rw [if_pos h', if_pos h', if_pos (by decide)]
    · rw [if_neg h', if_neg h', if_neg (by decide)]

theorem own_nf2 (x : Int32) : nar .boolean (f2 x) = f2 x := by rcases own_f2 x with h | h <;> rw [h] <;> decide
theorem own_c_0_0 (y : Int32 → Int32) : f3 (0 : Int32) (0 : Int32) y = (if (f1 (0 : Int32) (0 : Int32) (0 : Int32) y) = (0 : Int32) then (0 : Int32) else (if (f1 (1 : Int32) (0 : Int32) (0 : Int32) y) = (0 : Int32) then (0 : Int32) else (if (f1 (2 : Int32) (0 : Int32) (0 : Int32) y) = (0 : Int32) then (0 : Int32) else (if (f1 (3 : Int32) (0 : Int32) (0 : Int32) y) = (0 : Int32) then (0 : Int32) else (1 : Int32))))) := by
  have hd : f3 (0 : Int32) (0 : Int32) y = own_dig y (0 : Int32) 0 := rfl
  have e0 : f1 (0 : Int32) (0 : Int32) (0 : Int32) y = 1 := by unfold f1; rw [if_neg (by decide), if_neg (by decide)]
  have e1 : f1 (1 : Int32) (0 : Int32) (0 : Int32) y = 1 := by unfold f1; rw [if_neg (by decide), if_neg (by decide)]
  have e2 : f1 (2 : Int32) (0 : Int32) (0 : Int32) y = 1 := by unfold f1; rw [if_neg (by decide), if_neg (by decide)]
  have e3 : f1 (3 : Int32) (0 : Int32) (0 : Int32) y = 1 := by unfold f1; rw [if_neg (by decide), if_neg (by decide)]
  rw [hd, e0, e1, e2, e3]
  rw [show own_dig y (0 : Int32) 0 = 1 from rfl]
  decide
theorem own_c_0_1 (y : Int32 → Int32) : f3 (0 : Int32) (1 : Int32) y = (if (f1 (0 : Int32) (0 : Int32) (1 : Int32) y) = (0 : Int32) then (0 : Int32) else (if (f1 (1 : Int32) (0 : Int32) (1 : Int32) y) = (0 : Int32) then (0 : Int32) else (if (f1 (2 : Int32) (0 : Int32) (1 : Int32) y) = (0 : Int32) then (0 : Int32) else (if (f1 (3 : Int32) (0 : Int32) (1 : Int32) y) = (0 : Int32) then (0 : Int32) else (1 : Int32))))) := by
  have hd : f3 (0 : Int32) (1 : Int32) y = own_dig y (0 : Int32) 1 := rfl
  have e0 : f1 (0 : Int32) (0 : Int32) (1 : Int32) y = f2 (y 0) := by unfold f1; rw [if_neg (by decide), if_pos (by decide)]; exact own_nf2 _
  have e1 : f1 (1 : Int32) (0 : Int32) (1 : Int32) y = 1 := by unfold f1; rw [if_neg (by decide), if_neg (by decide)]
  have e2 : f1 (2 : Int32) (0 : Int32) (1 : Int32) y = 1 := by unfold f1; rw [if_neg (by decide), if_neg (by decide)]
  have e3 : f1 (3 : Int32) (0 : Int32) (1 : Int32) y = 1 := by unfold f1; rw [if_neg (by decide), if_neg (by decide)]
  rw [hd, e0, e1, e2, e3]
  rw [own_dig_s, show ((0 : Int32) + 1) = (1 : Int32) from by decide]
  rw [show own_dig y (1 : Int32) 0 = 1 from rfl]
  all_goals rcases own_f2 (y 0) with h0 | h0 <;> simp only [h0] <;> decide
theorem own_c_0_2 (y : Int32 → Int32) : f3 (0 : Int32) (2 : Int32) y = (if (f1 (0 : Int32) (0 : Int32) (2 : Int32) y) = (0 : Int32) then (0 : Int32) else (if (f1 (1 : Int32) (0 : Int32) (2 : Int32) y) = (0 : Int32) then (0 : Int32) else (if (f1 (2 : Int32) (0 : Int32) (2 : Int32) y) = (0 : Int32) then (0 : Int32) else (if (f1 (3 : Int32) (0 : Int32) (2 : Int32) y) = (0 : Int32) then (0 : Int32) else (1 : Int32))))) := by
  have hd : f3 (0 : Int32) (2 : Int32) y = own_dig y (0 : Int32) 2 := rfl
  have e0 : f1 (0 : Int32) (0 : Int32) (2 : Int32) y = f2 (y 0) := by unfold f1; rw [if_neg (by decide), if_pos (by decide)]; exact own_nf2 _
  have e1 : f1 (1 : Int32) (0 : Int32) (2 : Int32) y = f2 (y 1) := by unfold f1; rw [if_neg (by decide), if_pos (by decide)]; exact own_nf2 _
  have e2 : f1 (2 : Int32) (0 : Int32) (2 : Int32) y = 1 := by unfold f1; rw [if_neg (by decide), if_neg (by decide)]
  have e3 : f1 (3 : Int32) (0 : Int32) (2 : Int32) y = 1 := by unfold f1; rw [if_neg (by decide), if_neg (by decide)]
  rw [hd, e0, e1, e2, e3]
  rw [own_dig_s, show ((0 : Int32) + 1) = (1 : Int32) from by decide]
  rw [own_dig_s, show ((1 : Int32) + 1) = (2 : Int32) from by decide]
  rw [show own_dig y (2 : Int32) 0 = 1 from rfl]
  all_goals rcases own_f2 (y 0) with h0 | h0 <;> rcases own_f2 (y 1) with h1 | h1 <;> simp only [h0, h1] <;> decide
theorem own_c_0_3 (y : Int32 → Int32) : f3 (0 : Int32) (3 : Int32) y = (if (f1 (0 : Int32) (0 : Int32) (3 : Int32) y) = (0 : Int32) then (0 : Int32) else (if (f1 (1 : Int32) (0 : Int32) (3 : Int32) y) = (0 : Int32) then (0 : Int32) else (if (f1 (2 : Int32) (0 : Int32) (3 : Int32) y) = (0 : Int32) then (0 : Int32) else (if (f1 (3 : Int32) (0 : Int32) (3 : Int32) y) = (0 : Int32) then (0 : Int32) else (1 : Int32))))) := by
  have hd : f3 (0 : Int32) (3 : Int32) y = own_dig y (0 : Int32) 3 := rfl
  have e0 : f1 (0 : Int32) (0 : Int32) (3 : Int32) y = f2 (y 0) := by unfold f1; rw [if_neg (by decide), if_pos (by decide)]; exact own_nf2 _
  have e1 : f1 (1 : Int32) (0 : Int32) (3 : Int32) y = f2 (y 1) := by unfold f1; rw [if_neg (by decide), if_pos (by decide)]; exact own_nf2 _
  have e2 : f1 (2 : Int32) (0 : Int32) (3 : Int32) y = f2 (y 2) := by unfold f1; rw [if_neg (by decide), if_pos (by decide)]; exact own_nf2 _
  have e3 : f1 (3 : Int32) (0 : Int32) (3 : Int32) y = 1 := by unfold f1; rw [if_neg (by decide), if_neg (by decide)]
  rw [hd, e0, e1, e2, e3]
  rw [own_dig_s, show ((0 : Int32) + 1) = (1 : Int32) from by decide]
  rw [own_dig_s, show ((1 : Int32) + 1) = (2 : Int32) from by decide]
  rw [own_dig_s, show ((2 : Int32) + 1) = (3 : Int32) from by decide]
  rw [show own_dig y (3 : Int32) 0 = 1 from rfl]
  all_goals rcases own_f2 (y 0) with h0 | h0 <;> rcases own_f2 (y 1) with h1 | h1 <;> rcases own_f2 (y 2) with h2 | h2 <;> simp only [h0, h1, h2] <;> decide
theorem own_c_0_4 (y : Int32 → Int32) : f3 (0 : Int32) (4 : Int32) y = (if (f1 (0 : Int32) (0 : Int32) (4 : Int32) y) = (0 : Int32) then (0 : Int32) else (if (f1 (1 : Int32) (0 : Int32) (4 : Int32) y) = (0 : Int32) then (0 : Int32) else (if (f1 (2 : Int32) (0 : Int32) (4 : Int32) y) = (0 : Int32) then (0 : Int32) else (if (f1 (3 : Int32) (0 : Int32) (4 : Int32) y) = (0 : Int32) then (0 : Int32) else (1 : Int32))))) := by
  have hd : f3 (0 : Int32) (4 : Int32) y = own_dig y (0 : Int32) 4 := rfl
  have e0 : f1 (0 : Int32) (0 : Int32) (4 : Int32) y = f2 (y 0) := by unfold f1; rw [if_neg (by decide), if_pos (by decide)]; exact own_nf2 _
  have e1 : f1 (1 : Int32) (0 : Int32) (4 : Int32) y = f2 (y 1) := by unfold f1; rw [if_neg (by decide), if_pos (by decide)]; exact own_nf2 _
  have e2 : f1 (2 : Int32) (0 : Int32) (4 : Int32) y = f2 (y 2) := by unfold f1; rw [if_neg (by decide), if_pos (by decide)]; exact own_nf2 _
  have e3 : f1 (3 : Int32) (0 : Int32) (4 : Int32) y = f2 (y 3) := by unfold f1; rw [if_neg (by decide), if_pos (by decide)]; exact own_nf2 _
  rw [hd, e0, e1, e2, e3]
  rw [own_dig_s, show ((0 : Int32) + 1) = (1 : Int32) from by decide]
  rw [own_dig_s, show ((1 : Int32) + 1) = (2 : Int32) from by decide]
  rw [own_dig_s, show ((2 : Int32) + 1) = (3 : Int32) from by decide]
  rw [own_dig_s, show ((3 : Int32) + 1) = (4 : Int32) from by decide]
  rw [show own_dig y (4 : Int32) 0 = 1 from rfl]
  all_goals rcases own_f2 (y 0) with h0 | h0 <;> rcases own_f2 (y 1) with h1 | h1 <;> rcases own_f2 (y 2) with h2 | h2 <;> rcases own_f2 (y 3) with h3 | h3 <;> simp only [h0, h1, h2, h3] <;> decide
theorem own_c_1_0 (y : Int32 → Int32) : f3 (1 : Int32) (0 : Int32) y = (if (f1 (0 : Int32) (1 : Int32) (0 : Int32) y) = (0 : Int32) then (0 : Int32) else (if (f1 (1 : Int32) (1 : Int32) (0 : Int32) y) = (0 : Int32) then (0 : Int32) else (if (f1 (2 : Int32) (1 : Int32) (0 : Int32) y) = (0 : Int32) then (0 : Int32) else (if (f1 (3 : Int32) (1 : Int32) (0 : Int32) y) = (0 : Int32) then (0 : Int32) else (1 : Int32))))) := by
  have hd : f3 (1 : Int32) (0 : Int32) y = own_dig y (1 : Int32) 0 := rfl
  have e0 : f1 (0 : Int32) (1 : Int32) (0 : Int32) y = 1 := by unfold f1; rw [if_pos (by decide)]
  have e1 : f1 (1 : Int32) (1 : Int32) (0 : Int32) y = 1 := by unfold f1; rw [if_neg (by decide), if_neg (by decide)]
  have e2 : f1 (2 : Int32) (1 : Int32) (0 : Int32) y = 1 := by unfold f1; rw [if_neg (by decide), if_neg (by decide)]
  have e3 : f1 (3 : Int32) (1 : Int32) (0 : Int32) y = 1 := by unfold f1; rw [if_neg (by decide), if_neg (by decide)]
  rw [hd, e0, e1, e2, e3]
  rw [show own_dig y (1 : Int32) 0 = 1 from rfl]
  decide
theorem own_c_1_1 (y : Int32 → Int32) : f3 (1 : Int32) (1 : Int32) y = (if (f1 (0 : Int32) (1 : Int32) (1 : Int32) y) = (0 : Int32) then (0 : Int32) else (if (f1 (1 : Int32) (1 : Int32) (1 : Int32) y) = (0 : Int32) then (0 : Int32) else (if (f1 (2 : Int32) (1 : Int32) (1 : Int32) y) = (0 : Int32) then (0 : Int32) else (if (f1 (3 : Int32) (1 : Int32) (1 : Int32) y) = (0 : Int32) then (0 : Int32) else (1 : Int32))))) := by
  have hd : f3 (1 : Int32) (1 : Int32) y = own_dig y (1 : Int32) 1 := rfl
  have e0 : f1 (0 : Int32) (1 : Int32) (1 : Int32) y = 1 := by unfold f1; rw [if_pos (by decide)]
  have e1 : f1 (1 : Int32) (1 : Int32) (1 : Int32) y = f2 (y 1) := by unfold f1; rw [if_neg (by decide), if_pos (by decide)]; exact own_nf2 _
  have e2 : f1 (2 : Int32) (1 : Int32) (1 : Int32) y = 1 := by unfold f1; rw [if_neg (by decide), if_neg (by decide)]
  have e3 : f1 (3 : Int32) (1 : Int32) (1 : Int32) y = 1 := by unfold f1; rw [if_neg (by decide), if_neg (by decide)]
  rw [hd, e0, e1, e2, e3]
  rw [own_dig_s, show ((1 : Int32) + 1) = (2 : Int32) from by decide]
  rw [show own_dig y (2 : Int32) 0 = 1 from rfl]
  all_goals rcases own_f2 (y 1) with h1 | h1 <;> simp only [h1] <;> decide
theorem own_c_1_2 (y : Int32 → Int32) : f3 (1 : Int32) (2 : Int32) y = (if (f1 (0 : Int32) (1 : Int32) (2 : Int32) y) = (0 : Int32) then (0 : Int32) else (if (f1 (1 : Int32) (1 : Int32) (2 : Int32) y) = (0 : Int32) then (0 : Int32) else (if (f1 (2 : Int32) (1 : Int32) (2 : Int32) y) = (0 : Int32) then (0 : Int32) else (if (f1 (3 : Int32) (1 : Int32) (2 : Int32) y) = (0 : Int32) then (0 : Int32) else (1 : Int32))))) := by
  have hd : f3 (1 : Int32) (2 : Int32) y = own_dig y (1 : Int32) 2 := rfl
  have e0 : f1 (0 : Int32) (1 : Int32) (2 : Int32) y = 1 := by unfold f1; rw [if_pos (by decide)]
  have e1 : f1 (1 : Int32) (1 : Int32) (2 : Int32) y = f2 (y 1) := by unfold f1; rw [if_neg (by decide), if_pos (by decide)]; exact own_nf2 _
  have e2 : f1 (2 : Int32) (1 : Int32) (2 : Int32) y = f2 (y 2) := by unfold f1; rw [if_neg (by decide), if_pos (by decide)]; exact own_nf2 _
  have e3 : f1 (3 : Int32) (1 : Int32) (2 : Int32) y = 1 := by unfold f1; rw [if_neg (by decide), if_neg (by decide)]
  rw [hd, e0, e1, e2, e3]
  rw [own_dig_s, show ((1 : Int32) + 1) = (2 : Int32) from by decide]
  rw [own_dig_s, show ((2 : Int32) + 1) = (3 : Int32) from by decide]
  rw [show own_dig y (3 : Int32) 0 = 1 from rfl]
  all_goals rcases own_f2 (y 1) with h1 | h1 <;> rcases own_f2 (y 2) with h2 | h2 <;> simp only [h1, h2] <;> decide
theorem own_c_1_3 (y : Int32 → Int32) : f3 (1 : Int32) (3 : Int32) y = (if (f1 (0 : Int32) (1 : Int32) (3 : Int32) y) = (0 : Int32) then (0 : Int32) else (if (f1 (1 : Int32) (1 : Int32) (3 : Int32) y) = (0 : Int32) then (0 : Int32) else (if (f1 (2 : Int32) (1 : Int32) (3 : Int32) y) = (0 : Int32) then (0 : Int32) else (if (f1 (3 : Int32) (1 : Int32) (3 : Int32) y) = (0 : Int32) then (0 : Int32) else (1 : Int32))))) := by
  have hd : f3 (1 : Int32) (3 : Int32) y = own_dig y (1 : Int32) 3 := rfl
  have e0 : f1 (0 : Int32) (1 : Int32) (3 : Int32) y = 1 := by unfold f1; rw [if_pos (by decide)]
  have e1 : f1 (1 : Int32) (1 : Int32) (3 : Int32) y = f2 (y 1) := by unfold f1; rw [if_neg (by decide), if_pos (by decide)]; exact own_nf2 _
  have e2 : f1 (2 : Int32) (1 : Int32) (3 : Int32) y = f2 (y 2) := by unfold f1; rw [if_neg (by decide), if_pos (by decide)]; exact own_nf2 _
  have e3 : f1 (3 : Int32) (1 : Int32) (3 : Int32) y = f2 (y 3) := by unfold f1; rw [if_neg (by decide), if_pos (by decide)]; exact own_nf2 _
  rw [hd, e0, e1, e2, e3]
  rw [own_dig_s, show ((1 : Int32) + 1) = (2 : Int32) from by decide]
  rw [own_dig_s, show ((2 : Int32) + 1) = (3 : Int32) from by decide]
  rw [own_dig_s, show ((3 : Int32) + 1) = (4 : Int32) from by decide]
  rw [show own_dig y (4 : Int32) 0 = 1 from rfl]
  all_goals rcases own_f2 (y 1) with h1 | h1 <;> rcases own_f2 (y 2) with h2 | h2 <;> rcases own_f2 (y 3) with h3 | h3 <;> simp only [h1, h2, h3] <;> decide
theorem own_c_2_0 (y : Int32 → Int32) : f3 (2 : Int32) (0 : Int32) y = (if (f1 (0 : Int32) (2 : Int32) (0 : Int32) y) = (0 : Int32) then (0 : Int32) else (if (f1 (1 : Int32) (2 : Int32) (0 : Int32) y) = (0 : Int32) then (0 : Int32) else (if (f1 (2 : Int32) (2 : Int32) (0 : Int32) y) = (0 : Int32) then (0 : Int32) else (if (f1 (3 : Int32) (2 : Int32) (0 : Int32) y) = (0 : Int32) then (0 : Int32) else (1 : Int32))))) := by
  have hd : f3 (2 : Int32) (0 : Int32) y = own_dig y (2 : Int32) 0 := rfl
  have e0 : f1 (0 : Int32) (2 : Int32) (0 : Int32) y = 1 := by unfold f1; rw [if_pos (by decide)]
  have e1 : f1 (1 : Int32) (2 : Int32) (0 : Int32) y = 1 := by unfold f1; rw [if_pos (by decide)]
  have e2 : f1 (2 : Int32) (2 : Int32) (0 : Int32) y = 1 := by unfold f1; rw [if_neg (by decide), if_neg (by decide)]
  have e3 : f1 (3 : Int32) (2 : Int32) (0 : Int32) y = 1 := by unfold f1; rw [if_neg (by decide), if_neg (by decide)]
  rw [hd, e0, e1, e2, e3]
  rw [show own_dig y (2 : Int32) 0 = 1 from rfl]
  decide
theorem own_c_2_1 (y : Int32 → Int32) : f3 (2 : Int32) (1 : Int32) y = (if (f1 (0 : Int32) (2 : Int32) (1 : Int32) y) = (0 : Int32) then (0 : Int32) else (if (f1 (1 : Int32) (2 : Int32) (1 : Int32) y) = (0 : Int32) then (0 : Int32) else (if (f1 (2 : Int32) (2 : Int32) (1 : Int32) y) = (0 : Int32) then (0 : Int32) else (if (f1 (3 : Int32) (2 : Int32) (1 : Int32) y) = (0 : Int32) then (0 : Int32) else (1 : Int32))))) := by
  have hd : f3 (2 : Int32) (1 : Int32) y = own_dig y (2 : Int32) 1 := rfl
  have e0 : f1 (0 : Int32) (2 : Int32) (1 : Int32) y = 1 := by unfold f1; rw [if_pos (by decide)]
  have e1 : f1 (1 : Int32) (2 : Int32) (1 : Int32) y = 1 := by unfold f1; rw [if_pos (by decide)]
  have e2 : f1 (2 : Int32) (2 : Int32) (1 : Int32) y = f2 (y 2) := by unfold f1; rw [if_neg (by decide), if_pos (by decide)]; exact own_nf2 _
  have e3 : f1 (3 : Int32) (2 : Int32) (1 : Int32) y = 1 := by unfold f1; rw [if_neg (by decide), if_neg (by decide)]
  rw [hd, e0, e1, e2, e3]
  rw [own_dig_s, show ((2 : Int32) + 1) = (3 : Int32) from by decide]
  rw [show own_dig y (3 : Int32) 0 = 1 from rfl]
  all_goals rcases own_f2 (y 2) with h2 | h2 <;> simp only [h2] <;> decide
theorem own_c_2_2 (y : Int32 → Int32) : f3 (2 : Int32) (2 : Int32) y = (if (f1 (0 : Int32) (2 : Int32) (2 : Int32) y) = (0 : Int32) then (0 : Int32) else (if (f1 (1 : Int32) (2 : Int32) (2 : Int32) y) = (0 : Int32) then (0 : Int32) else (if (f1 (2 : Int32) (2 : Int32) (2 : Int32) y) = (0 : Int32) then (0 : Int32) else (if (f1 (3 : Int32) (2 : Int32) (2 : Int32) y) = (0 : Int32) then (0 : Int32) else (1 : Int32))))) := by
  have hd : f3 (2 : Int32) (2 : Int32) y = own_dig y (2 : Int32) 2 := rfl
  have e0 : f1 (0 : Int32) (2 : Int32) (2 : Int32) y = 1 := by unfold f1; rw [if_pos (by decide)]
  have e1 : f1 (1 : Int32) (2 : Int32) (2 : Int32) y = 1 := by unfold f1; rw [if_pos (by decide)]
  have e2 : f1 (2 : Int32) (2 : Int32) (2 : Int32) y = f2 (y 2) := by unfold f1; rw [if_neg (by decide), if_pos (by decide)]; exact own_nf2 _
  have e3 : f1 (3 : Int32) (2 : Int32) (2 : Int32) y = f2 (y 3) := by unfold f1; rw [if_neg (by decide), if_pos (by decide)]; exact own_nf2 _
  rw [hd, e0, e1, e2, e3]
  rw [own_dig_s, show ((2 : Int32) + 1) = (3 : Int32) from by decide]
  rw [own_dig_s, show ((3 : Int32) + 1) = (4 : Int32) from by decide]
  rw [show own_dig y (4 : Int32) 0 = 1 from rfl]
  all_goals rcases own_f2 (y 2) with h2 | h2 <;> rcases own_f2 (y 3) with h3 | h3 <;> simp only [h2, h3] <;> decide
theorem own_c_3_0 (y : Int32 → Int32) : f3 (3 : Int32) (0 : Int32) y = (if (f1 (0 : Int32) (3 : Int32) (0 : Int32) y) = (0 : Int32) then (0 : Int32) else (if (f1 (1 : Int32) (3 : Int32) (0 : Int32) y) = (0 : Int32) then (0 : Int32) else (if (f1 (2 : Int32) (3 : Int32) (0 : Int32) y) = (0 : Int32) then (0 : Int32) else (if (f1 (3 : Int32) (3 : Int32) (0 : Int32) y) = (0 : Int32) then (0 : Int32) else (1 : Int32))))) := by
  have hd : f3 (3 : Int32) (0 : Int32) y = own_dig y (3 : Int32) 0 := rfl
  have e0 : f1 (0 : Int32) (3 : Int32) (0 : Int32) y = 1 := by unfold f1; rw [if_pos (by decide)]
  have e1 : f1 (1 : Int32) (3 : Int32) (0 : Int32) y = 1 := by unfold f1; rw [if_pos (by decide)]
  have e2 : f1 (2 : Int32) (3 : Int32) (0 : Int32) y = 1 := by unfold f1; rw [if_pos (by decide)]
  have e3 : f1 (3 : Int32) (3 : Int32) (0 : Int32) y = 1 := by unfold f1; rw [if_neg (by decide), if_neg (by decide)]
  rw [hd, e0, e1, e2, e3]
  rw [show own_dig y (3 : Int32) 0 = 1 from rfl]
  decide
theorem own_c_3_1 (y : Int32 → Int32) : f3 (3 : Int32) (1 : Int32) y = (if (f1 (0 : Int32) (3 : Int32) (1 : Int32) y) = (0 : Int32) then (0 : Int32) else (if (f1 (1 : Int32) (3 : Int32) (1 : Int32) y) = (0 : Int32) then (0 : Int32) else (if (f1 (2 : Int32) (3 : Int32) (1 : Int32) y) = (0 : Int32) then (0 : Int32) else (if (f1 (3 : Int32) (3 : Int32) (1 : Int32) y) = (0 : Int32) then (0 : Int32) else (1 : Int32))))) := by
  have hd : f3 (3 : Int32) (1 : Int32) y = own_dig y (3 : Int32) 1 := rfl
  have e0 : f1 (0 : Int32) (3 : Int32) (1 : Int32) y = 1 := by unfold f1; rw [if_pos (by decide)]
  have e1 : f1 (1 : Int32) (3 : Int32) (1 : Int32) y = 1 := by unfold f1; rw [if_pos (by decide)]
  have e2 : f1 (2 : Int32) (3 : Int32) (1 : Int32) y = 1 := by unfold f1; rw [if_pos (by decide)]
  have e3 : f1 (3 : Int32) (3 : Int32) (1 : Int32) y = f2 (y 3) := by unfold f1; rw [if_neg (by decide), if_pos (by decide)]; exact own_nf2 _
  rw [hd, e0, e1, e2, e3]
  rw [own_dig_s, show ((3 : Int32) + 1) = (4 : Int32) from by decide]
  rw [show own_dig y (4 : Int32) 0 = 1 from rfl]
  all_goals rcases own_f2 (y 3) with h3 | h3 <;> simp only [h3] <;> decide
theorem own_c_4_0 (y : Int32 → Int32) : f3 (4 : Int32) (0 : Int32) y = (if (f1 (0 : Int32) (4 : Int32) (0 : Int32) y) = (0 : Int32) then (0 : Int32) else (if (f1 (1 : Int32) (4 : Int32) (0 : Int32) y) = (0 : Int32) then (0 : Int32) else (if (f1 (2 : Int32) (4 : Int32) (0 : Int32) y) = (0 : Int32) then (0 : Int32) else (if (f1 (3 : Int32) (4 : Int32) (0 : Int32) y) = (0 : Int32) then (0 : Int32) else (1 : Int32))))) := by
  have hd : f3 (4 : Int32) (0 : Int32) y = own_dig y (4 : Int32) 0 := rfl
  have e0 : f1 (0 : Int32) (4 : Int32) (0 : Int32) y = 1 := by unfold f1; rw [if_pos (by decide)]
  have e1 : f1 (1 : Int32) (4 : Int32) (0 : Int32) y = 1 := by unfold f1; rw [if_pos (by decide)]
  have e2 : f1 (2 : Int32) (4 : Int32) (0 : Int32) y = 1 := by unfold f1; rw [if_pos (by decide)]
  have e3 : f1 (3 : Int32) (4 : Int32) (0 : Int32) y = 1 := by unfold f1; rw [if_pos (by decide)]
  rw [hd, e0, e1, e2, e3]
  rw [show own_dig y (4 : Int32) 0 = 1 from rfl]
  decide
theorem own_core (OF LE : Int32) (y : Int32 → Int32) (h : OF.toInt + LE.toInt ≤ 4 ∧ 0 ≤ OF.toInt ∧ 0 ≤ LE.toInt) : f3 OF LE y = (if (f1 (0 : Int32) OF LE y) = (0 : Int32) then (0 : Int32) else (if (f1 (1 : Int32) OF LE y) = (0 : Int32) then (0 : Int32) else (if (f1 (2 : Int32) OF LE y) = (0 : Int32) then (0 : Int32) else (if (f1 (3 : Int32) OF LE y) = (0 : Int32) then (0 : Int32) else (1 : Int32))))) := by
  obtain ⟨a, ha, rfl⟩ := own_nat (c := OF) 5 h.2.1 (by omega)
  obtain ⟨b, hb, rfl⟩ := own_nat (c := LE) 5 h.2.2 (by omega)
  match a, ha, b, hb with
  | 0, _, 0, _ => exact own_c_0_0 y
  | 0, _, 1, _ => exact own_c_0_1 y
  | 0, _, 2, _ => exact own_c_0_2 y
  | 0, _, 3, _ => exact own_c_0_3 y
  | 0, _, 4, _ => exact own_c_0_4 y
  | 1, _, 0, _ => exact own_c_1_0 y
  | 1, _, 1, _ => exact own_c_1_1 y
  | 1, _, 2, _ => exact own_c_1_2 y
  | 1, _, 3, _ => exact own_c_1_3 y
  | 1, _, 4, _ => exact absurd h.1 (by decide)
  | 2, _, 0, _ => exact own_c_2_0 y
  | 2, _, 1, _ => exact own_c_2_1 y
  | 2, _, 2, _ => exact own_c_2_2 y
  | 2, _, 3, _ => exact absurd h.1 (by decide)
  | 2, _, 4, _ => exact absurd h.1 (by decide)
  | 3, _, 0, _ => exact own_c_3_0 y
  | 3, _, 1, _ => exact own_c_3_1 y
  | 3, _, 2, _ => exact absurd h.1 (by decide)
  | 3, _, 3, _ => exact absurd h.1 (by decide)
  | 3, _, 4, _ => exact absurd h.1 (by decide)
  | 4, _, 0, _ => exact own_c_4_0 y
  | 4, _, 1, _ => exact absurd h.1 (by decide)
  | 4, _, 2, _ => exact absurd h.1 (by decide)
  | 4, _, 3, _ => exact absurd h.1 (by decide)
  | 4, _, 4, _ => exact absurd h.1 (by decide)

theorem own_law (p1 p2 p3 p4 p5 p6 : Int32) : f0 p1 p2 p3 p4 p5 p6 = 1 := by
  unfold f0
  exact (congrArg (nar .boolean) (if_pos (own_core _ _ _ (own_rng rfl rfl)))).trans (by decide)
set_option maxRecDepth 65536 in
set_option maxHeartbeats 40000000 in
theorem comes_1 {Post : Tables → Env → Array Value → State → Outcome → State → Prop} (hpost : ∀ tb e args s v u, (limb_1_1.after args s (.returned v) u = true ∧ limb_1_2.after args s (.returned v) u = true ∧ True) → FrameEnd s (.returned v) u (Jvm.fieldLocs frame_1_writes args s ++ Jvm.arrayLocs frame_1_arrays args s ++ Jvm.staticLocs frame_1_statics s) 16 128 → Post tb e args s (.returned v) u) :
    ArmFor flags0 classFile x code maxLocals ret World_1 tables_1 room_1 Calls_1 rest_1 Pre_1 Post := by
  intro l hfl _ _ p e ha hc hk s m args below hf hA hF happ hP
  obtain ⟨hcalls, hrest, hpre⟩ := hP
  obtain ⟨-, -, -, hnamed, -, -, -, hat⟩ := (Spec.applies_iff hf).mp happ
  obtain ⟨hg, hn⟩ := and_e (Cond.before_iff.mp (show (Jvm.Cond.and given_1 narrow_1).before args s = true from hpre))
  obtain ⟨g1, g2⟩ := and_e hg
  obtain ⟨g3, g4⟩ := and_e g2
  obtain ⟨g5, g6⟩ := and_e g4
  obtain ⟨g7, g8⟩ := and_e g6
  obtain ⟨g9, g10⟩ := and_e g8
  obtain ⟨g11, g12⟩ := and_e g10
  obtain ⟨w0, w1, w2, w3, w4, w5, rfl⟩ : ∃ w0 w1 w2 w3 w4 w5 : Value, args = #[w0, w1, w2, w3, w4, w5] := by
    have hs : args.size = 6 := by simpa [Cond.value, given_1] using g1
    obtain ⟨L⟩ := args
    match L, hs with
    | [w0, w1, w2, w3, w4, w5], _ => exact ⟨w0, w1, w2, w3, w4, w5, rfl⟩
  have hw := fun d (hd : d ∈ tables_1) => atoms_spec (ws := Jvm.Cond.code x code maxLocals ret :: tables_1) hat d (List.mem_cons_of_mem _ hd)
  obtain ⟨i0, ei0⟩ := is_v g3
  obtain rfl : w0 = (.int i0) := Option.some.inj ei0
  obtain ⟨i1, ei1⟩ := is_v g5
  obtain rfl : w1 = (.int i1) := Option.some.inj ei1
  obtain ⟨i2, ei2⟩ := is_v g7
  obtain rfl : w2 = (.int i2) := Option.some.inj ei2
  obtain ⟨i3, ei3⟩ := is_v g9
  obtain rfl : w3 = (.int i3) := Option.some.inj ei3
  obtain ⟨i4, ei4⟩ := is_v g11
  obtain rfl : w4 = (.int i4) := Option.some.inj ei4
  obtain ⟨i5, ei5⟩ := is_v g12
  obtain rfl : w5 = (.int i5) := Option.some.inj ei5
  obtain ⟨n, o, h1, h2, h3, _, L, rfl, ⟨rfl, N, -⟩, hq⟩ := rm0 l s _ hw tables_1 i0 i1 i2 i3 i4 i5 s.heap s.heap.size (Nat.le_refl _) (Old.start s) p e ha hc hk s m _ below hf ((Spec.applies_iff_loose hf).mp happ).1 ⟨rfl, State.Warmed39.refl s, rfl⟩ trivial
  refine ⟨n, _, h1, h2, h3, hpost _ _ _ _ _ _ ⟨Cond.after_iff.mpr rfl, Cond.after_iff.mpr (eq_i res_at (Term.int_eval (1)) (congrArg Value.int (own_law i0 i1 i2 i3 i4 i5))), trivial⟩ ⟨hq.1, hq.2.1, (hq.2.2.sift fun y hy => Or.inr (N y hy)).mono (by decide) (by decide)⟩⟩
theorem main_1_1 : Claimed_1_1 := comes_1 fun _ _ _ _ _ _ h hF => ⟨h.1, hF⟩
theorem main_1_2 : Claimed_1_2 := comes_1 fun _ _ _ _ _ _ h hF => ⟨h.2.1, hF⟩
end Jvm.Pilot.@@N@@
namespace Jvm.Pilot.@@N@@
open Jvm Jvm.ClassFile Sem Op Lib Jvm.Free Jvm.Stand Jvm.Pilot.@@N@@.Jvm.D
/-! MADE BY PROGRAM (witnessworld.py) out of the Statement's table words and the real class files: 9 classes; the members and pool entries that the words name. The judged class is class 1, her method 3. -/
namespace start1
open Jvm.ClassFile
def u (s : String) : CpInfo := .utf8 (stringToUtf16 s)
/-- a pool by its gaps: so many unusable entries, then the entry; so many at the end -/
def gap : Nat → List CpInfo → List CpInfo
  | 0, r => r
  | n + 1, r => .unusable :: gap n r
def poolList (es : List (Nat × CpInfo)) (last : Nat) : List CpInfo := es.foldr (fun e r => gap e.1 (e.2 :: r)) (gap last [])
def pool (es : List (Nat × CpInfo)) (last : Nat) : Array CpInfo := ⟨poolList es last⟩
def fileOf (pool : Array CpInfo) (this : Nat) (attrs : Array Attribute := #[]) (ms : Array MethodInfo := #[]) (fl : Nat := 33) (sup : Nat := 0) (ifs : Array Nat := #[]) (fds : Array FieldInfo := #[]) : ClassFile where
  minorVersion := 0
  majorVersion := 65
  constantPool := pool
  accessFlags := fl
  thisClass := this
  superClass := sup
  interfaces := ifs
  fields := fds
  methods := ms
  attributes := attrs
def plain (name : String) (sup : Option ClassId) : Class where
  name := name
  kind := .ordinary
  loader := none
  accessFlags := 33
  super := sup
  interfaces := #[]
  cf := none
  fields := #[]
  methods := #[]
  instanceTypes := #[]
  staticTypes := #[]
  resolved := #[]
  callSites := []
  init := .initialized
  statics := none
  mirror := none

def pool0 : Array CpInfo := pool [(5, u "<init>"), (0, u "()V"), (1, .class_ 10), (1, u "java/lang/Object")] 113

def k0m0 : Method := { name := "<init>", desc := "()V", sig := { parameters := [], returnType := none }, accessFlags := 1, code := none }
/-- java/lang/Object -/
def k0 : Class := { plain "java/lang/Object" none with
  accessFlags := 33
  interfaces := #[]
  cf := some (fileOf pool0 8 #[] #[{ accessFlags := 1, nameIndex := 5, descriptorIndex := 6, attributes := #[] }] 33 0 #[] #[])
  fields := #[]
  methods := #[k0m0]
  instanceTypes := #[]
  staticTypes := #[]
  resolved := Array.replicate 124 none
  statics := none }

def pool1 : Array CpInfo := pool [(2, .class_ 4), (1, u "java/lang/Object"), (0, u "<init>"), (0, u "()V"), (0, .methodref 8 9), (0, .class_ 10), (0, .nameAndType 11 12), (0, u "com/example/sealwire/sealwire/procedure/keyfile/Rdh2RecordsIsDigitsPinLaw"), (0, u "digit"), (0, u "(B)Z"), (0, .integer 2147483647), (0, .methodref 8 15), (0, .nameAndType 16 17), (0, u "ok"), (0, u "([BIII)Z"), (0, .methodref 19 20), (0, .class_ 21), (0, .nameAndType 22 23), (0, u "com/example/sealwire/sealwire/procedure/keyfile/Rdh2Records"), (0, u "isDigits"), (0, u "([BII)Z"), (3, u "law"), (0, u "(IIIIII)Z")] 4

def k1m0 : Method := { name := "<init>", desc := "()V", sig := { parameters := [], returnType := none }, accessFlags := 2, code := none }
def k1c1 : Code := { maxStack := 2, maxLocals := 1, code := method_2_code, exceptionTable := #[], attributes := #[] }
def k1m1 : Method := { name := "digit", desc := "(B)Z", sig := { parameters := [.byte], returnType := some .boolean }, accessFlags := 10, code := some k1c1 }
def k1c2 : Code := { maxStack := 3, maxLocals := 4, code := method_3_code, exceptionTable := #[], attributes := #[] }
def k1m2 : Method := { name := "ok", desc := "([BIII)Z", sig := { parameters := [(.array .byte), .int, .int, .int], returnType := some .boolean }, accessFlags := 10, code := some k1c2 }
def k1c3 : Code := { maxStack := 4, maxLocals := 11, code := code, exceptionTable := #[], attributes := #[] }
def k1m3 : Method := { name := "law", desc := "(IIIIII)Z", sig := { parameters := [.int, .int, .int, .int, .int, .int], returnType := some .boolean }, accessFlags := 9, code := some k1c3 }
/-- com/example/sealwire/sealwire/procedure/keyfile/Rdh2RecordsIsDigitsPinLaw -/
def k1 : Class := { plain "com/example/sealwire/sealwire/procedure/keyfile/Rdh2RecordsIsDigitsPinLaw" (some 0) with
  accessFlags := 49
  interfaces := #[]
  cf := some (fileOf pool1 8 #[] #[{ accessFlags := 2, nameIndex := 5, descriptorIndex := 6, attributes := #[] }, { accessFlags := 10, nameIndex := 11, descriptorIndex := 12, attributes := #[] }, { accessFlags := 10, nameIndex := 16, descriptorIndex := 17, attributes := #[] }, { accessFlags := 9, nameIndex := 27, descriptorIndex := 28, attributes := #[] }] 49 2 #[] #[])
  fields := #[]
  methods := #[k1m0, k1m1, k1m2, k1m3]
  instanceTypes := #[]
  staticTypes := #[]
  resolved := Array.replicate 33 none
  statics := none }

def pool2 : Array CpInfo := pool [(2, .class_ 4), (1, u "java/lang/Object"), (0, u "<init>"), (0, u "()V"), (3, .class_ 11), (0, u "com/example/sealwire/sealwire/procedure/keyfile/Rdh2Records"), (13, .class_ 26), (0, u "com/example/sealwire/sealwire/procedure/keyfile/Rdh2Records$RecordAt"), (66, u "HEADER_LENGTH"), (0, u "I"), (2, u "MAX_FIELD_VALUE"), (8, u "isDigits"), (0, u "([BII)Z"), (11, .class_ 120), (0, u "com/example/sealwire/sealwire/procedure/keyfile/Rdh2Records$ValueReader")] 19

def k2m0 : Method := { name := "<init>", desc := "()V", sig := { parameters := [], returnType := none }, accessFlags := 2, code := none }
def k2c1 : Code := { maxStack := 3, maxLocals := 4, code := prog_46_method_5_code, exceptionTable := #[], attributes := #[] }
def k2m1 : Method := { name := "isDigits", desc := "([BII)Z", sig := { parameters := [(.array .byte), .int, .int], returnType := some .boolean }, accessFlags := 8, code := some k2c1 }
/-- com/example/sealwire/sealwire/procedure/keyfile/Rdh2Records -/
def k2 : Class := { plain "com/example/sealwire/sealwire/procedure/keyfile/Rdh2Records" (some 0) with
  accessFlags := 48
  interfaces := #[]
  cf := some (fileOf pool2 10 #[.nestMembers #[119, 25]] #[{ accessFlags := 2, nameIndex := 5, descriptorIndex := 6, attributes := #[] }, { accessFlags := 8, nameIndex := 106, descriptorIndex := 107, attributes := #[] }] 48 2 #[] #[{ accessFlags := 24, nameIndex := 93, descriptorIndex := 94, attributes := #[] }, { accessFlags := 26, nameIndex := 97, descriptorIndex := 94, attributes := #[] }])
  fields := #[{ name := "HEADER_LENGTH", type := .int, accessFlags := 24, slot := 0, constantValue := 0 }, { name := "MAX_FIELD_VALUE", type := .int, accessFlags := 26, slot := 1, constantValue := 0 }]
  methods := #[k2m0, k2m1]
  instanceTypes := #[]
  staticTypes := #[.int, .int]
  resolved := Array.replicate 140 none
  statics := none }

def pool3 : Array CpInfo := pool [(1, u "java/lang/Cloneable"), (0, .class_ 1), (0, u "java/lang/Object"), (0, .class_ 3)] 3

/-- java/lang/Cloneable -/
def k3 : Class := { plain "java/lang/Cloneable" (some 0) with
  accessFlags := 1537
  interfaces := #[]
  cf := some (fileOf pool3 2 #[] #[] 1537 4 #[] #[])
  fields := #[]
  methods := #[]
  instanceTypes := #[]
  staticTypes := #[]
  resolved := Array.replicate 8 none
  statics := none }

def pool4 : Array CpInfo := pool [(1, u "java/io/Serializable"), (0, .class_ 1), (0, u "java/lang/Object"), (0, .class_ 3)] 3

/-- java/io/Serializable -/
def k4 : Class := { plain "java/io/Serializable" (some 0) with
  accessFlags := 1537
  interfaces := #[]
  cf := some (fileOf pool4 2 #[] #[] 1537 4 #[] #[])
  fields := #[]
  methods := #[]
  instanceTypes := #[]
  staticTypes := #[]
  resolved := Array.replicate 8 none
  statics := none }

/-- the primitive byte -/
def k5 : Class := { plain "byte" none with kind := .primitive 'B', accessFlags := 0x411 }
/-- [B -/
def k6 : Class := { plain "[B" (some 0) with kind := .array 5 .byte, interfaces := #[3, 4], accessFlags := 1041 }

/-- the primitive int -/
def k7 : Class := { plain "int" none with kind := .primitive 'I', accessFlags := 0x411 }
/-- [I -/
def k8 : Class := { plain "[I" (some 0) with kind := .array 7 .int, interfaces := #[3, 4], accessFlags := 1041 }

def heap : Heap := #[]
def classes : Array Class := #[k0, k1, k2, k3, k4, k5, k6, k7, k8]
def interned : List (Array UInt16 × Addr) := []
def slotsUsed : Nat := 0
def theMethod : MethodId := ⟨1, 3⟩
def args0 : Array Value := #[.int 48, .int 49, .int 65, .int 3, .int 1, .int 1]
def aboutOver (below : List Frame) : State where
  vm := { classes := classes, interned := interned.toArray }
  heap := heap
  slotsUsed := slotsUsed
  threads := #[{ frames := .invoking theMethod args0 :: below }]
def below0 : List Frame := [.native { method := ⟨0, 0⟩, args := #[] }]
def about1 : State := aboutOver below0
def p0 : Program := .bare "" "" ""
def e0 : Env := launch0.env 0 0 0
theorem w_frames : about1.frames = Frame.invoking theMethod args0 :: below0 := rfl
set_option maxRecDepth 65536 in
theorem w_args : argsFit about1.vm theMethod args0 = true := by decide +kernel
set_option maxRecDepth 65536 in
theorem w_heap : heapFits about1 = true := by decide +kernel
set_option maxRecDepth 65536 in
theorem w_runnable : about1.curStatus? = some .runnable := by decide +kernel
set_option maxRecDepth 65536 in
theorem w_alone : about1.alone = true := by decide +kernel
set_option maxRecDepth 65536 in
theorem w_named : about1.methodNamed? x = some theMethod := by decide +kernel
set_option maxRecDepth 65536 in
theorem w_hears : about1.hears theMethod below0 = true := by decide +kernel
set_option maxRecDepth 65536 in
theorem w_ripe : about1.ripe theMethod args0 below0 = true := by decide +kernel
theorem w_running : about1.status = .running := rfl
set_option maxRecDepth 65536 in
theorem w_room : about1.hasRoom e0.platform room_1 = true :=
  launch0.hasRoom_least _ room_1 (by decide +kernel) (by decide +kernel) (by decide +kernel) (by decide +kernel) (by decide +kernel) (by decide +kernel)
theorem allAtoms_all (ts : List Jvm.Cond) (a : Array Jvm.Value) (st : Jvm.State) : (allAtoms ts).before a st = ts.all (fun c => c.before a st) := by
  induction ts with
  | nil => rfl
  | cons c t ih =>
    show (Jvm.Cond.and c (allAtoms t)).before a st = _
    rw [Jvm.Cond.before_and, ih, List.all_cons]
def words1 : List Jvm.Cond := Jvm.Cond.code x code maxLocals ret :: tables_1
/-- a 'code' word, met by the world's own term for the bytes: nothing is compared byte by byte -/
theorem code_word {y : MethodName} {bytes : ByteArray} {mx : Nat} {rt : Option FieldType} {a : Array Value} {s : State} {m : MethodId} {meth : Method} {c : Code} (h1 : s.methodNamed? y = some m) (h2 : s.vm.method? m = some meth) (h3 : meth.code = some c) (h4 : c.code = bytes)
    (h5 : (c.maxLocals == mx && c.exceptionTable.isEmpty && decide (c.maxStack ≤ mostOperands) && decide (meth.sig.returnType = rt) && !meth.locks && decide (parseMethodDescriptor y.desc = some meth.sig)) = true) : (Jvm.Cond.code y bytes mx rt).before a s = true := by
  simp only [Bool.and_eq_true, beq_iff_eq, Bool.not_eq_true', decide_eq_true_eq] at h5
  obtain ⟨⟨⟨⟨⟨g1, g2⟩, g3⟩, g4⟩, g5⟩, g6⟩ := h5
  simp [Cond.before, Cond.holds, Cond.value, h1, h2, h3, h4, g1, g2, g3, g4, g5, g6]
def isCode : Jvm.Cond → Bool
  | .code _ _ _ _ => true
  | _ => false
theorem all_split {L : List Jvm.Cond} {P : Jvm.Cond → Bool} (h1 : L.all (fun c => isCode c || P c) = true) (h2 : ∀ c ∈ L.filter isCode, P c = true) : L.all P = true := by
  refine List.all_eq_true.mpr fun c hc => ?_
  have h := List.all_eq_true.mp h1 c hc
  rcases Bool.eq_false_or_eq_true (isCode c) with hi | hi
  · exact h2 c (List.mem_filter.mpr ⟨hc, hi⟩)
  · simpa [hi] using h
set_option maxRecDepth 65536 in
theorem w_c0 : (Jvm.Cond.code x code maxLocals ret).before args0 about1 = true := code_word (m := ⟨1, 3⟩) (meth := k1m3) (c := k1c3) (by decide +kernel) rfl rfl rfl (by decide +kernel)
set_option maxRecDepth 65536 in
theorem w_c1 : (Jvm.Cond.code ({ cls := "com/example/sealwire/sealwire/procedure/keyfile/Rdh2RecordsIsDigitsPinLaw", name := "ok", desc := "([BIII)Z" } : Jvm.MethodName) method_3_code (4 : Nat) (Option.some Jvm.ClassFile.FieldType.boolean)).before args0 about1 = true := code_word (m := ⟨1, 2⟩) (meth := k1m2) (c := k1c2) (by decide +kernel) rfl rfl rfl (by decide +kernel)
set_option maxRecDepth 65536 in
theorem w_c2 : (Jvm.Cond.code ({ cls := "com/example/sealwire/sealwire/procedure/keyfile/Rdh2RecordsIsDigitsPinLaw", name := "digit", desc := "(B)Z" } : Jvm.MethodName) method_2_code (1 : Nat) (Option.some Jvm.ClassFile.FieldType.boolean)).before args0 about1 = true := code_word (m := ⟨1, 1⟩) (meth := k1m1) (c := k1c1) (by decide +kernel) rfl rfl rfl (by decide +kernel)
set_option maxRecDepth 65536 in
theorem w_c3 : (Jvm.Cond.code ({ cls := "com/example/sealwire/sealwire/procedure/keyfile/Rdh2Records", name := "isDigits", desc := "([BII)Z" } : Jvm.MethodName) prog_46_method_5_code (4 : Nat) (Option.some Jvm.ClassFile.FieldType.boolean)).before args0 about1 = true := code_word (m := ⟨2, 1⟩) (meth := k2m1) (c := k2c1) (by decide +kernel) rfl rfl rfl (by decide +kernel)
def codes1 : List Jvm.Cond := [Jvm.Cond.code x code maxLocals ret, Jvm.Cond.code ({ cls := "com/example/sealwire/sealwire/procedure/keyfile/Rdh2RecordsIsDigitsPinLaw", name := "ok", desc := "([BIII)Z" } : Jvm.MethodName) method_3_code (4 : Nat) (Option.some Jvm.ClassFile.FieldType.boolean), Jvm.Cond.code ({ cls := "com/example/sealwire/sealwire/procedure/keyfile/Rdh2RecordsIsDigitsPinLaw", name := "digit", desc := "(B)Z" } : Jvm.MethodName) method_2_code (1 : Nat) (Option.some Jvm.ClassFile.FieldType.boolean), Jvm.Cond.code ({ cls := "com/example/sealwire/sealwire/procedure/keyfile/Rdh2Records", name := "isDigits", desc := "([BII)Z" } : Jvm.MethodName) prog_46_method_5_code (4 : Nat) (Option.some Jvm.ClassFile.FieldType.boolean)]
set_option maxRecDepth 65536 in
theorem codes_eq : words1.filter isCode = codes1 := rfl
theorem w_codes : ∀ c ∈ words1.filter isCode, c.before args0 about1 = true := by
  rw [codes_eq]
  intro c hc
  simp only [codes1, List.mem_cons, List.not_mem_nil, or_false] at hc
  rcases hc with rfl | rfl | rfl | rfl
  · exact w_c0
  · exact w_c1
  · exact w_c2
  · exact w_c3
set_option maxRecDepth 65536 in
theorem w_t1 : words1.all (fun c => isCode c || c.before args0 about1) = true := by decide +kernel
theorem w_tables : (allAtoms (Jvm.Cond.code x code maxLocals ret :: tables_1)).before args0 about1 = true := by
  rw [allAtoms_all]
  show words1.all (fun c => c.before args0 about1) = true
  refine all_split ?_ w_codes
  rw [w_t1]
set_option maxRecDepth 65536 in
theorem w_case : (Jvm.Cond.and given_1 narrow_1).before args0 about1 = true := by decide +kernel
theorem w_applies : (headSpec (Jvm.Cond.code x code maxLocals ret :: tables_1) room_1).applies x e0.platform about1 = true :=
  (Spec.applies_iff w_frames).mpr ⟨w_running, w_runnable, w_alone, w_named, w_hears, w_ripe, w_room, w_tables⟩
theorem atStart : AtStart classFile x code maxLocals ret World_1 tables_1 room_1 Calls_1 rest_1 Pre_1 launch0 p0 e0 about1 theMethod args0 below0 :=
  ⟨lists_1, trivial, launch0.admits_env _ _ _, launch0.least_env, fairChoices_fair.cas, fairChoices_fair.clock, w_frames, w_args, w_heap, w_applies, trivial, trivial, w_case⟩
end start1
theorem witness_1 : WitnessClaimed_1 := ⟨start1.p0, start1.e0, start1.about1, start1.theMethod, start1.args0, start1.below0, start1.atStart⟩
end Jvm.Pilot.@@N@@
