import JvmDerived
import JvmDerived.Pilot.@@N@@Statement
import JvmDerived.Pilot.@@N@@Code
set_option linter.unusedVariables false
set_option linter.unusedSimpArgs false
namespace Jvm.RoadKit
open Sem ClassFile Op Lib Jvm.Stand Jvm.Free Jvm.LawKit
section New
variable {p : Program} {l : Launch} {e : Env} {R : Room} {s : State} {m : MethodId} {args : Array Value} {below : List Frame} {meth : Method} {c : Code} {T : State} {locs : List Loc} {cells slots : Nat}
theorem retI (X : Stand p l e R s m args below meth c T locs cells slots) (hx : p.tables.exec = Jvm.exec) {pc : Nat} {Ls : Array Slot} {z : Int32} {rest : List Value} (hret : meth.sig.returnType = some .int) (hd : decode c.code pc = .ok (.ireturn, 1)) {fs : List Frame}
    (hl : ∀ (f : JFrame) (acts : List Action), f.method = m → f.locked = none → f.entered = [] → (doReturn e (T.setTop f) acts (some (.int z))).1 = T.setFrames fs) : Steps p.tables e below (T.setTop (mkF m pc Ls (.int z :: rest))) (T.setFrames fs) := by
  have hm' : T.vm.method? m = some meth := X.method'
  have hn : narrow .int (.int z) = .int z := rfl
  show Steps p.tables e below (T.setTop { method := m, pc := pc, locals := Ls, stack := _ :: rest, locked := none }) _
  jvm_step X.here [X.here.top, hx, hd, hm', hret, hn]
  first | (intro acts; rw [hl _ acts rfl rfl rfl]) | rw [hl _ _ rfl rfl rfl]
  exact Steps.refl _
end New
theorem own_lc_tlt {a b : Int64} (h : a < b) : lcmpW a b < 0 := by rw [lcW]; exact (lc_lt _ _).2 h
theorem own_lc_flt {a b : Int64} (h : ¬ a < b) : ¬ lcmpW a b < 0 := by rw [lcW]; exact fun q => h ((lc_lt _ _).1 q)
theorem own_lc_tgt {a b : Int64} (h : b < a) : 0 < lcmpW a b := by rw [lcW]; exact (lc_gt _ _).2 h
theorem own_lc_fgt {a b : Int64} (h : ¬ b < a) : ¬ 0 < lcmpW a b := by rw [lcW]; exact fun q => h ((lc_gt _ _).1 q)
theorem own_lc_teq {a b : Int64} (h : a = b) : lcmpW a b = 0 := by rw [lcW]; exact (lc_eq _ _).2 h
theorem own_lc_feq {a b : Int64} (h : ¬ a = b) : ¬ lcmpW a b = 0 := by rw [lcW]; exact fun q => h ((lc_eq _ _).1 q)
end Jvm.RoadKit
namespace Jvm.Pilot.@@N@@
open Jvm Jvm.ClassFile Sem Op Lib Jvm.Free Jvm.Stand Jvm.LawKit Jvm.RoadKit Bundle Jvm.Pilot.@@N@@.Jvm.D

def own_A (Z : State) (h : Heap) (a : Addr) (ty : FieldType) (n : Int32) (y : Int32 → Value) : Prop := ∃ c : Cell, Arr Z h a c ty ∧ c.slots.size = n.toNatClampNeg ∧ ¬ n < 0 ∧ ∀ j : Int32, ¬ (j < 0 ∨ c.slots.size ≤ j.toNatClampNeg) → c.slots[j.toNatClampNeg]? = some (y j)
theorem own_A_lt {Z : State} {h : Heap} {a : Addr} {ty : FieldType} {n : Int32} {y : Int32 → Value} (F : own_A Z h a ty n y) : a < h.size := by obtain ⟨c, A, -⟩ := F; exact A.lt
theorem own_A_ext {Z : State} {h h' : Heap} {a : Addr} {ty : FieldType} {n : Int32} {y : Int32 → Value} (F : own_A Z h a ty n y) (E : Ext h h') : own_A Z h' a ty n y := by obtain ⟨c, A, r⟩ := F; exact ⟨c, A.ext E, r⟩
theorem own_A_other {Z : State} {h h' : Heap} {a b : Addr} {ty : FieldType} {n : Int32} {y : Int32 → Value} {sl : Nat} {v : Value} (F : own_A Z h b ty n y) (W : Wr h h' a sl v) (q : b ≠ a) : own_A Z h' b ty n y := by obtain ⟨c, A, r⟩ := F; exact ⟨c, A.other W q, r⟩
theorem own_A_keep {Z : State} {h h' : Heap} {a : Addr} {ty : FieldType} {n : Int32} {y : Int32 → Value} {ws : List Addr} (F : own_A Z h a ty n y) (K : Keep h h' ws) (q : a ∉ ws) : own_A Z h' a ty n y := by obtain ⟨c, A, r⟩ := F; exact ⟨c, ⟨K.2.1 a c A.1 q, A.2⟩, r⟩
theorem own_A_new {Z : State} {h : Heap} {a : Addr} {k : ClassId} {ty : FieldType} {n : Int32} (A : Arr Z h a (newA k ty n) ty) (q : ¬ n < 0) : own_A Z h a ty n (fun _ => defaultValue ty) := by
  obtain ⟨c, A', -, S, M, H, -⟩ := Arv.new A q
  exact ⟨c, A', S, M, fun j hj => (H _ (Nat.lt_of_not_le fun y => hj (Or.inr y))).trans (by simp)⟩
theorem own_A_set {Z : State} {h h' : Heap} {a : Addr} {ty : FieldType} {n j : Int32} {y z : Int32 → Value} {v : Value} {c : Cell} (A : Arr Z h a c ty) (S : c.slots.size = n.toNatClampNeg) (M : ¬ n < 0) (H : ∀ j : Int32, ¬ (j < 0 ∨ c.slots.size ≤ j.toNatClampNeg) → c.slots[j.toNatClampNeg]? = some (y j)) (hj : ¬ (j < 0 ∨ c.slots.size ≤ j.toNatClampNeg)) (W : Wr h h' a j.toNatClampNeg v) (hz : z j = v) (hz' : ∀ i, ¬ i = j → z i = y i) : own_A Z h' a ty n z := by
  refine ⟨_, A.same W, by rw [sz_set]; exact S, M, fun i hi => ?_⟩
  rw [sz_set] at hi
  have hs : (c.setSlot j.toNatClampNeg v).slots = c.slots.setIfInBounds j.toNatClampNeg v := rfl
  rw [hs, Array.getElem?_setIfInBounds]
  by_cases e : i = j
  · subst e
    rw [if_pos rfl, if_pos (Nat.lt_of_not_le fun q => hj (Or.inr q)), hz]
  · have e' : ¬ j.toNatClampNeg = i.toNatClampNeg := fun q => e (Int32.toInt_inj.mp (by rw [nat_of (fun z => hi (Or.inl z)), nat_of (fun z => hj (Or.inl z)), q]))
    rw [if_neg e', hz' i e]
    exact H i hi
theorem own_setI {y : Int32 → Int32} {j x : Int32} : Value.int ((fun i => if i = j then x else y i) j) = .int x := congrArg Value.int (if_pos rfl)
theorem own_setI' {y : Int32 → Int32} {j x : Int32} : ∀ i, ¬ i = j → Value.int ((fun i => if i = j then x else y i) i) = .int (y i) := fun i h => congrArg Value.int (if_neg h)
theorem own_setJ {y : Int32 → Int64} {j : Int32} {x : Int64} : Value.long ((fun i => if i = j then x else y i) j) = .long x := congrArg Value.long (if_pos rfl)
theorem own_setJ' {y : Int32 → Int64} {j : Int32} {x : Int64} : ∀ i, ¬ i = j → Value.long ((fun i => if i = j then x else y i) i) = .long (y i) := fun i h => congrArg Value.long (if_neg h)

theorem own_A_congr {Z : State} {h : Heap} {a : Addr} {ty : FieldType} {n : Int32} {y y' : Int32 → Value} (F : own_A Z h a ty n y) (e : ∀ i, y i = y' i) : own_A Z h a ty n y' := by
  have : y = y' := funext e
  subst this; exact F

def own_uns (y : Int32 → Int32) (off : Int32) : Nat → Int32 → Int64 → Int64
  | 0, _, acc => acc
  | k + 1, i, acc => own_uns y off k (i + (Int32.ofInt (-1))) ((acc <<< ((8 : Int32) &&& 0x3f).toInt64) ||| (((y (off + i)) &&& (255 : Int32)).toInt64))
theorem own_dec (i m : Int32) (hm : m.toInt = -1) (h : 0 ≤ i.toInt) : (i + m).toInt = i.toInt - 1 := by
  have h1 := c_iadd i m
  have h2 := rng32 (i + m)
  have h3 := rng32 i
  omega
theorem own_uns_s (y : Int32 → Int32) (off : Int32) (k : Nat) (i : Int32) (acc : Int64) : own_uns y off (k + 1) i acc = own_uns y off k (i + (Int32.ofInt (-1))) ((acc <<< ((8 : Int32) &&& 0x3f).toInt64) ||| (((y (off + i)) &&& (255 : Int32)).toInt64)) := rfl

theorem d1_7 : decode prog_46_method_4_code 7 = .ok (.iload 5, 2) := by decide +kernel
theorem d1_9 : decode prog_46_method_4_code 9 = .ok (.ifCond .lt 26, 3) := by decide +kernel
theorem d1_12 : decode prog_46_method_4_code 12 = .ok (.lload_n 3, 1) := by decide +kernel
theorem d1_13 : decode prog_46_method_4_code 13 = .ok (.bipush 8, 2) := by decide +kernel
theorem d1_15 : decode prog_46_method_4_code 15 = .ok (.lshl, 1) := by decide +kernel
theorem d1_16 : decode prog_46_method_4_code 16 = .ok (.aload_n 0, 1) := by decide +kernel
theorem d1_17 : decode prog_46_method_4_code 17 = .ok (.iload_n 1, 1) := by decide +kernel
theorem d1_18 : decode prog_46_method_4_code 18 = .ok (.iload 5, 2) := by decide +kernel
theorem d1_20 : decode prog_46_method_4_code 20 = .ok (.iadd, 1) := by decide +kernel
theorem d1_21 : decode prog_46_method_4_code 21 = .ok (.baload, 1) := by decide +kernel
theorem d1_22 : decode prog_46_method_4_code 22 = .ok (.sipush 255, 3) := by decide +kernel
theorem d1_25 : decode prog_46_method_4_code 25 = .ok (.iand, 1) := by decide +kernel
theorem d1_26 : decode prog_46_method_4_code 26 = .ok (.i2l, 1) := by decide +kernel
theorem d1_27 : decode prog_46_method_4_code 27 = .ok (.lor, 1) := by decide +kernel
theorem d1_28 : decode prog_46_method_4_code 28 = .ok (.lstore_n 3, 1) := by decide +kernel
theorem d1_29 : decode prog_46_method_4_code 29 = .ok (.iinc 5 (-1), 3) := by decide +kernel
theorem d1_32 : decode prog_46_method_4_code 32 = .ok (.goto (-25), 3) := by decide +kernel
set_option maxRecDepth 65536 in
set_option maxHeartbeats 40000000 in
theorem loop1 {p : Program} {l : Launch} {e : Env} {R : Room} {s : State} {m : MethodId} {args : Array Value} {below : List Frame} {meth : Method} {c : Code} {T : State} {locs : List Loc} {cells slots : Nat} {Z : State} {h0 : Heap} (X : Stand p l e R s m args below meth c T locs cells slots) (hx : p.tables.exec = Jvm.exec) (hZ : Z.Warmed39 s.vm) (hby : c.code = prog_46_method_4_code) (eT : T.heap = h0) {a1 : Addr} {cl : Cell} {y : Int32 → Int32} (Ar : Arr Z h0 a1 cl .byte) (Sz : cl.slots.size = (12 : Int32).toNatClampNeg) (Hz : ∀ j : Int32, ¬ (j < 0 ∨ cl.slots.size ≤ j.toNatClampNeg) → cl.slots[j.toNatClampNeg]? = some (.int (y j))) {p2 p3 : Int32} (h5 : 0 ≤ p2.toInt) (h6 : p2.toInt < 4) :
    ∀ (k : Nat) (i : Int32) (acc : Int64), i.toInt + 1 = k → k ≤ 8 → ∀ target, (∀ i', Steps p.tables e below (T.setTop (mkF m 35 #[.val (.ref a1), .val (.int p2), .val (.int p3), .val (.long (own_uns y p2 k i acc)), .second, .val (.int i')] [])) target) → Steps p.tables e below (T.setTop (mkF m 7 #[.val (.ref a1), .val (.int p2), .val (.int p3), .val (.long acc), .second, .val (.int i)] [])) target := by
  have e0 : (0 : Int32).toInt = 0 := by decide
  have e4 : (12 : Int32).toInt = 12 := by decide
  intro k
  induction k with
  | zero =>
    intro i acc hk h8 target k1
    show Steps p.tables e below (T.setTop (mkF m 7 #[.val (.ref a1), .val (.int p2), .val (.int p3), .val (.long acc), .second, .val (.int i)] [])) _
    refine XS.iload X.here hx rfl (hb hby d1_7) rfl ?_
    show Steps p.tables e below (T.setTop (mkF m 9 #[.val (.ref a1), .val (.int p2), .val (.int p3), .val (.long acc), .second, .val (.int i)] [(.int i)])) _
    by_cases hc1 : i < (0 : Int32)
    · refine XS.ifYes X.here hx rfl (pc0 := 9) (pc' := 35) rfl (hb hby d1_9) rfl ((if0 _ _).trans (tlt hc1).1) (by decide) (by decide) ?_
      exact k1 _
    · exact absurd ((Int32.lt_iff_toInt_lt).mpr (by omega)) hc1
  | succ k ih =>
    intro i acc hk h8 target k1
    have s1 := c_iadd p2 i
    have s2 := rng32 (p2 + i)
    have hi : ¬ p2 + i < 0 ∧ p2 + i < (12 : Int32) := by rw [Int32.lt_iff_toInt_lt, Int32.lt_iff_toInt_lt]; omega
    show Steps p.tables e below (T.setTop (mkF m 7 #[.val (.ref a1), .val (.int p2), .val (.int p3), .val (.long acc), .second, .val (.int i)] [])) _
    refine XS.iload X.here hx rfl (hb hby d1_7) rfl ?_
    show Steps p.tables e below (T.setTop (mkF m 9 #[.val (.ref a1), .val (.int p2), .val (.int p3), .val (.long acc), .second, .val (.int i)] [(.int i)])) _
    by_cases hc2 : i < (0 : Int32)
    · refine XS.ifYes X.here hx rfl (pc0 := 9) (pc' := 35) rfl (hb hby d1_9) rfl ((if0 _ _).trans (tlt hc2).1) (by decide) (by decide) ?_
      exact absurd ((Int32.lt_iff_toInt_lt).mp hc2) (by omega)
    · refine XS.ifNo X.here hx rfl (hb hby d1_9) rfl ((if0 _ _).trans (flt hc2).1) ?_
      show Steps p.tables e below (T.setTop (mkF m 12 #[.val (.ref a1), .val (.int p2), .val (.int p3), .val (.long acc), .second, .val (.int i)] [])) _
      refine XS.lloadN X.here hx rfl (hb hby d1_12) rfl ?_
      show Steps p.tables e below (T.setTop (mkF m 13 #[.val (.ref a1), .val (.int p2), .val (.int p3), .val (.long acc), .second, .val (.int i)] [(.long acc)])) _
      refine XS.bipush X.here hx rfl (hb hby d1_13) ?_
      show Steps p.tables e below (T.setTop (mkF m 15 #[.val (.ref a1), .val (.int p2), .val (.int p3), .val (.long acc), .second, .val (.int i)] [(.int (8 : Int32)), (.long acc)])) _
      refine XS.lshl X.here hx rfl (hb hby d1_15) rfl ?_
      show Steps p.tables e below (T.setTop (mkF m 16 #[.val (.ref a1), .val (.int p2), .val (.int p3), .val (.long acc), .second, .val (.int i)] [(.long (acc <<< ((8 : Int32) &&& 0x3f).toInt64))])) _
      refine XS.aloadN X.here hx rfl (hb hby d1_16) rfl rfl ?_
      show Steps p.tables e below (T.setTop (mkF m 17 #[.val (.ref a1), .val (.int p2), .val (.int p3), .val (.long acc), .second, .val (.int i)] [(.ref a1), (.long (acc <<< ((8 : Int32) &&& 0x3f).toInt64))])) _
      refine XS.iloadN X.here hx rfl (hb hby d1_17) rfl ?_
      show Steps p.tables e below (T.setTop (mkF m 18 #[.val (.ref a1), .val (.int p2), .val (.int p3), .val (.long acc), .second, .val (.int i)] [(.int p2), (.ref a1), (.long (acc <<< ((8 : Int32) &&& 0x3f).toInt64))])) _
      refine XS.iload X.here hx rfl (hb hby d1_18) rfl ?_
      show Steps p.tables e below (T.setTop (mkF m 20 #[.val (.ref a1), .val (.int p2), .val (.int p3), .val (.long acc), .second, .val (.int i)] [(.int i), (.int p2), (.ref a1), (.long (acc <<< ((8 : Int32) &&& 0x3f).toInt64))])) _
      refine XS.iadd X.here hx rfl (hb hby d1_20) rfl ?_
      show Steps p.tables e below (T.setTop (mkF m 21 #[.val (.ref a1), .val (.int p2), .val (.int p3), .val (.long acc), .second, .val (.int i)] [(.int (p2 + i)), (.ref a1), (.long (acc <<< ((8 : Int32) &&& 0x3f).toInt64))])) _
      refine X.baloadBytes hx (j := (p2 + i)) (v := (.int (y (p2 + i)))) (by rw [eT]; exact Ar.1) (State.isArrayOf_alike hZ.alike Ar.2.1) Ar.2.2 (inb_of Sz hi) (Hz _ (inb_of Sz hi)) (g := (mkF m 21 #[.val (.ref a1), .val (.int p2), .val (.int p3), .val (.long acc), .second, .val (.int i)] [(.int (p2 + i)), (.ref a1), (.long (acc <<< ((8 : Int32) &&& 0x3f).toInt64))])) rfl rfl (hb hby d1_21) _ ?_
      show Steps p.tables e below (T.setTop (mkF m 22 #[.val (.ref a1), .val (.int p2), .val (.int p3), .val (.long acc), .second, .val (.int i)] [(.int (y (p2 + i))), (.long (acc <<< ((8 : Int32) &&& 0x3f).toInt64))])) _
      refine XS.sipush X.here hx rfl (hb hby d1_22) ?_
      show Steps p.tables e below (T.setTop (mkF m 25 #[.val (.ref a1), .val (.int p2), .val (.int p3), .val (.long acc), .second, .val (.int i)] [(.int (255 : Int32)), (.int (y (p2 + i))), (.long (acc <<< ((8 : Int32) &&& 0x3f).toInt64))])) _
      refine XS.iand X.here hx rfl (hb hby d1_25) rfl ?_
      show Steps p.tables e below (T.setTop (mkF m 26 #[.val (.ref a1), .val (.int p2), .val (.int p3), .val (.long acc), .second, .val (.int i)] [(.int ((y (p2 + i)) &&& (255 : Int32))), (.long (acc <<< ((8 : Int32) &&& 0x3f).toInt64))])) _
      refine XS.i2l X.here hx rfl (hb hby d1_26) rfl ?_
      show Steps p.tables e below (T.setTop (mkF m 27 #[.val (.ref a1), .val (.int p2), .val (.int p3), .val (.long acc), .second, .val (.int i)] [(.long (((y (p2 + i)) &&& (255 : Int32)).toInt64)), (.long (acc <<< ((8 : Int32) &&& 0x3f).toInt64))])) _
      refine XS.lor X.here hx rfl (hb hby d1_27) rfl ?_
      show Steps p.tables e below (T.setTop (mkF m 28 #[.val (.ref a1), .val (.int p2), .val (.int p3), .val (.long acc), .second, .val (.int i)] [(.long ((acc <<< ((8 : Int32) &&& 0x3f).toInt64) ||| (((y (p2 + i)) &&& (255 : Int32)).toInt64)))])) _
      refine XS.lstoreN X.here hx rfl (hb hby d1_28) rfl (l' := #[.val (.ref a1), .val (.int p2), .val (.int p3), .val (.long ((acc <<< ((8 : Int32) &&& 0x3f).toInt64) ||| (((y (p2 + i)) &&& (255 : Int32)).toInt64))), .second, .val (.int i)]) rfl ?_
      show Steps p.tables e below (T.setTop (mkF m 29 #[.val (.ref a1), .val (.int p2), .val (.int p3), .val (.long ((acc <<< ((8 : Int32) &&& 0x3f).toInt64) ||| (((y (p2 + i)) &&& (255 : Int32)).toInt64))), .second, .val (.int i)] [])) _
      refine XS.iinc X.here hx rfl (hb hby d1_29) rfl (l' := #[.val (.ref a1), .val (.int p2), .val (.int p3), .val (.long ((acc <<< ((8 : Int32) &&& 0x3f).toInt64) ||| (((y (p2 + i)) &&& (255 : Int32)).toInt64))), .second, .val (.int (i + (Int32.ofInt (-1))))]) rfl ?_
      show Steps p.tables e below (T.setTop (mkF m 32 #[.val (.ref a1), .val (.int p2), .val (.int p3), .val (.long ((acc <<< ((8 : Int32) &&& 0x3f).toInt64) ||| (((y (p2 + i)) &&& (255 : Int32)).toInt64))), .second, .val (.int (i + (Int32.ofInt (-1))))] [])) _
      refine XS.goto X.here hx rfl (pc0 := 32) (pc' := 7) rfl (hb hby d1_32) (by decide) (by decide) ?_
      rw [own_uns_s] at k1
      exact ih (i + (Int32.ofInt (-1))) _ (by rw [own_dec i _ (by decide) (by omega)]; omega) (by omega) target k1

theorem own_cnt {p3 : Int32} (h : 0 ≤ p3.toInt) : (p3 - (1 : Int32)).toInt + 1 = (p3.toInt.toNat : Int) := by
  have e1 : (1 : Int32).toInt = 1 := by decide
  have s1 := c_isub p3 1
  have s2 := rng32 (p3 - 1)
  have s3 := rng32 p3
  omega
theorem own_off (p : Int32) : 0 ≤ (p &&& (3 : Int32)).toInt ∧ (p &&& (3 : Int32)).toInt < 4 := by
  have hm := c_mask p 3 2 (by decide) (by decide)
  omega
theorem own_len (p : Int32) : 0 ≤ ((p &&& (2147483647 : Int32)) % (9 : Int32)).toInt ∧ ((p &&& (2147483647 : Int32)) % (9 : Int32)).toInt ≤ 8 := by
  have hm := c_mask p 2147483647 31 (by decide) (by decide)
  have hr := (c_irem (p &&& (2147483647 : Int32)) 9 9 (by decide)).1 (by omega)
  omega
theorem own_in (p k : Int32) (h0 : 0 ≤ k.toInt) (h1 : k.toInt ≤ 8) : ¬ (p &&& (3 : Int32)) + k < 0 ∧ (p &&& (3 : Int32)) + k < (12 : Int32) := by
  have e0 : (0 : Int32).toInt = 0 := by decide
  have e4 : (12 : Int32).toInt = 12 := by decide
  have h := own_off p
  have s1 := c_iadd (p &&& (3 : Int32)) k
  have s2 := rng32 ((p &&& (3 : Int32)) + k)
  rw [Int32.lt_iff_toInt_lt, Int32.lt_iff_toInt_lt]; omega
theorem own_in0 (p : Int32) : ¬ (p &&& (3 : Int32)) < 0 ∧ (p &&& (3 : Int32)) < (12 : Int32) := by
  have e0 : (0 : Int32).toInt = 0 := by decide
  have e4 : (12 : Int32).toInt = 12 := by decide
  have h := own_off p
  rw [Int32.lt_iff_toInt_lt, Int32.lt_iff_toInt_lt]; omega

theorem d1_0 : decode prog_46_method_4_code 0 = .ok (.lconst 0, 1) := by decide +kernel
theorem d1_1 : decode prog_46_method_4_code 1 = .ok (.lstore_n 3, 1) := by decide +kernel
theorem d1_2 : decode prog_46_method_4_code 2 = .ok (.iload_n 2, 1) := by decide +kernel
theorem d1_3 : decode prog_46_method_4_code 3 = .ok (.iconst 1, 1) := by decide +kernel
theorem d1_4 : decode prog_46_method_4_code 4 = .ok (.isub, 1) := by decide +kernel
theorem d1_5 : decode prog_46_method_4_code 5 = .ok (.istore 5, 2) := by decide +kernel
theorem d1_35 : decode prog_46_method_4_code 35 = .ok (.lload_n 3, 1) := by decide +kernel
theorem d1_36 : decode prog_46_method_4_code 36 = .ok (.lreturn, 1) := by decide +kernel
theorem pn_1 : plainName "com/example/sealwire/sealwire/procedure/keyfile/Rdh2Records" = true := by first | (simp [plainName, overriddenIn]; done) | decide +kernel
theorem ef_1 (m : MethodId) (a1 : Addr) (p2 : Int32) (p3 : Int32) : entryFrame m #[(.ref a1), (.int p2), (.int p3)] 6 = mkF m 0 #[.val (.ref a1), .val (.int p2), .val (.int p3), .unset, .unset, .unset] [] := by first | (simp [entryFrame, mkF, argsToLocals, Value.category]; done) | rfl
def f1 (p2 : Int32) (p3 : Int32) (y_a1 : Int32 → Int32) : Int64 :=
  (own_uns y_a1 p2 p3.toInt.toNat (p3 - (1 : Int32)) (0 : Int64))
def Q1 (Z : State) (a1 : Addr) (p2 : Int32) (p3 : Int32) (y_a1 : Int32 → Int32) (h0 : Heap) (n0 : Nat) (v : Option Value) (h : Heap) (L : List Loc) : Prop := v = some (.long (f1 p2 p3 y_a1)) ∧ Fr n0 L ∧ h = h0
set_option maxRecDepth 65536 in
set_option maxHeartbeats 40000000 in
theorem rm1 (l : Launch) (Z : State) (a0 : Array Value) (hw : ∀ d ∈ tables_1, d.before a0 Z = true) (ws : List Jvm.Cond) (a1 : Addr) (p2 : Int32) (p3 : Int32) (y_a1 : Int32 → Int32) (h0 : Heap) (n0 : Nat) (Z0 : n0 ≤ h0.size) (A_a1 : own_A Z h0 a1 .byte (12 : Int32) (fun i => .int (y_a1 i))) (hr1 : 0 ≤ p2.toInt ∧ p2.toInt < 4 ∧ 0 ≤ p3.toInt ∧ p3.toInt ≤ 8) :
    MetFree l (⟨"com/example/sealwire/sealwire/procedure/keyfile/Rdh2Records", "unsigned", "([BII)J"⟩ : MethodName) (head1 (Jvm.Cond.code (⟨"com/example/sealwire/sealwire/procedure/keyfile/Rdh2Records", "unsigned", "([BII)J"⟩ : MethodName) prog_46_method_4_code 6 (some .long) :: ws) ({ frames := 0, cells := 0, slots := 0, locals := 0 } : Room)) (fun a U => a = #[(.ref a1), (.int p2), (.int p3)] ∧ Z.Warmed39 U.vm ∧ U.heap = h0) (fun _ _ _ _ _ => True) (fun _ U o U' => ∃ v L, o = .returned v ∧ Q1 Z a1 p2 p3 y_a1 h0 n0 v U'.heap L ∧ FrameEnd U o U' L ({ frames := 0, cells := 0, slots := 0, locals := 0 } : Room).cells ({ frames := 0, cells := 0, slots := 0, locals := 0 } : Room).slots) := by
  refine MetFree.of_bodySF (plainFor_of_name pn_1) hisR ?_
  intro p e s m args below meth c s₁ Bd hml0 hP hK
  obtain ⟨rfl, hZ, hh⟩ := hP
  have hx := Bd.exec
  have hby := Bd.bytes
  have hml : c.maxLocals = 6 := hml0
  have hown : s.vm.findClass "com/example/sealwire/sealwire/procedure/keyfile/Rdh2Records" = some m.cls := findClass_of_methodNamed Bd.named
  have hnm := (name_of_methodNamed Bd.named Bd.method).1
  have X0 : Stand p l e ({ frames := 0, cells := 0, slots := 0, locals := 0 } : Room) s m #[(.ref a1), (.int p2), (.int p3)] below meth c s₁ [] 0 0 := Stand.of_body Bd
  have e0 : s₁.heap = h0 := by rw [← hh, Bd.state]; rfl
  have N0 := Fr.nil n0
  have pre0 : ∀ t, Steps p.tables e below (s₁.setTop (mkF m 0 #[.val (.ref a1), .val (.int p2), .val (.int p3), .unset, .unset, .unset] [])) t → Steps p.tables e below (s₁.setTop (entryFrame m #[(.ref a1), (.int p2), (.int p3)] 6)) t := fun t k => castTop (ef_1 m a1 p2 p3) k
  obtain ⟨cl1, Ar1, Sz1, Mz1, Hz1⟩ := id A_a1
  have pre2 : ∀ t, Steps p.tables e below (s₁.setTop (mkF m 7 #[.val (.ref a1), .val (.int p2), .val (.int p3), .val (.long (0 : Int64)), .second, .val (.int (p3 - (1 : Int32)))] [])) t → Steps p.tables e below (s₁.setTop (entryFrame m #[(.ref a1), (.int p2), (.int p3)] 6)) t := fun t k => pre0 t (by
    show Steps p.tables e below (s₁.setTop (mkF m 0 #[.val (.ref a1), .val (.int p2), .val (.int p3), .unset, .unset, .unset] [])) _
    refine XS.lconst X0.here hx rfl (hb hby d1_0) ?_
    show Steps p.tables e below (s₁.setTop (mkF m 1 #[.val (.ref a1), .val (.int p2), .val (.int p3), .unset, .unset, .unset] [(.long (0 : Int64))])) _
    refine XS.lstoreN X0.here hx rfl (hb hby d1_1) rfl (l' := #[.val (.ref a1), .val (.int p2), .val (.int p3), .val (.long (0 : Int64)), .second, .unset]) rfl ?_
    show Steps p.tables e below (s₁.setTop (mkF m 2 #[.val (.ref a1), .val (.int p2), .val (.int p3), .val (.long (0 : Int64)), .second, .unset] [])) _
    refine XS.iloadN X0.here hx rfl (hb hby d1_2) rfl ?_
    show Steps p.tables e below (s₁.setTop (mkF m 3 #[.val (.ref a1), .val (.int p2), .val (.int p3), .val (.long (0 : Int64)), .second, .unset] [(.int p3)])) _
    refine XS.iconst X0.here hx rfl (hb hby d1_3) ?_
    show Steps p.tables e below (s₁.setTop (mkF m 4 #[.val (.ref a1), .val (.int p2), .val (.int p3), .val (.long (0 : Int64)), .second, .unset] [(.int (1 : Int32)), (.int p3)])) _
    refine XS.isub X0.here hx rfl (hb hby d1_4) rfl ?_
    show Steps p.tables e below (s₁.setTop (mkF m 5 #[.val (.ref a1), .val (.int p2), .val (.int p3), .val (.long (0 : Int64)), .second, .unset] [(.int (p3 - (1 : Int32)))])) _
    refine XS.istore X0.here hx rfl (hb hby d1_5) rfl (l' := #[.val (.ref a1), .val (.int p2), .val (.int p3), .val (.long (0 : Int64)), .second, .val (.int (p3 - (1 : Int32)))]) rfl ?_
    exact k)
  obtain ⟨fs, hr, hrun, hended, hW, hsame⟩ := X0.leave (v := some (.long (own_uns y_a1 p2 p3.toInt.toNat (p3 - (1 : Int32)) (0 : Int64)))) (fun h => by rw [Bd.returns] at h; cases h)
  refine ⟨_, _, pre2 _ ?_, hrun, hended, _, _, rfl, ?_, ⟨_, rfl⟩, hW, hsame.mono (by decide) (by decide)⟩
  · refine loop1 X0 hx hZ hby e0 Ar1 Sz1 Hz1 hr1.1 hr1.2.1 p3.toInt.toNat (p3 - (1 : Int32)) (0 : Int64) (own_cnt hr1.2.2.1) (by have := hr1.2.2; omega) _ (fun i' => ?_)
    show Steps p.tables e below (s₁.setTop (mkF m 35 #[.val (.ref a1), .val (.int p2), .val (.int p3), .val (.long (own_uns y_a1 p2 p3.toInt.toNat (p3 - (1 : Int32)) (0 : Int64))), .second, .val (.int i')] [])) _
    refine XS.lloadN X0.here hx rfl (hb hby d1_35) rfl ?_
    show Steps p.tables e below (s₁.setTop (mkF m 36 #[.val (.ref a1), .val (.int p2), .val (.int p3), .val (.long (own_uns y_a1 p2 p3.toInt.toNat (p3 - (1 : Int32)) (0 : Int64))), .second, .val (.int i')] [(.long (own_uns y_a1 p2 p3.toInt.toNat (p3 - (1 : Int32)) (0 : Int64)))])) _
    exact X0.lreturnOut hx Bd.returns (hb hby d1_36) hr
  · show Q1 Z a1 p2 p3 y_a1 h0 n0 _ s₁.heap _
    rw [e0]
    exact ⟨rfl, N0, rfl⟩
theorem own_r1 {p3 p4 OF LE : Int32} (h : OF = (p3 &&& (3 : Int32))) (h' : LE = ((p4 &&& (2147483647 : Int32)) % (9 : Int32))) : 0 ≤ OF.toInt ∧ OF.toInt < 4 ∧ 0 ≤ LE.toInt ∧ LE.toInt ≤ 8 := by
  subst h h'; exact ⟨(own_off p3).1, (own_off p3).2, (own_len p4).1, (own_len p4).2⟩
theorem own_i0 {p3 OF : Int32} (h : OF = (p3 &&& (3 : Int32))) : ¬ OF < 0 ∧ OF < (12 : Int32) := by
  subst h; exact own_in0 p3
theorem own_i1 {p3 OF : Int32} (h : OF = (p3 &&& (3 : Int32))) (k : Int32) (h0 : 0 ≤ k.toInt) (h1 : k.toInt ≤ 8) : ¬ OF + k < 0 ∧ OF + k < (12 : Int32) := by
  subst h; exact own_in p3 k h0 h1
theorem pd_0 : parseMethodDescriptor "([BII)J" = some ⟨[(.array .byte), .int, .int], some .long⟩ := by decide +kernel
theorem pn_0 : plainName "com/example/sealwire/sealwire/procedure/keyfile/Rdh2RecordsUnsignedPinLaw" = true := by first | (simp [plainName, overriddenIn]; done) | decide +kernel
theorem ef_0 (m : MethodId) (q1 : Int64) (q2 : Int64) (p3 : Int32) (p4 : Int32) : entryFrame m #[(.long q1), (.long q2), (.int p3), (.int p4)] maxLocals = mkF m 0 #[.val (.long q1), .second, .val (.long q2), .second, .val (.int p3), .val (.int p4), .unset, .unset, .unset, .unset, .unset] [] := by first | (simp [entryFrame, mkF, argsToLocals, Value.category, maxLocals]; done) | rfl
def f0 (q1 : Int64) (q2 : Int64) (p3 : Int32) (p4 : Int32) : Int32 :=
  let OF : Int32 := (p3 &&& (3 : Int32));
  let LE : Int32 := ((p4 &&& (2147483647 : Int32)) % (9 : Int32));
  let y2 : Int32 → Int32 := (fun i => if i = (0 : Int32) then (nar .byte ((q2.toInt32).toInt8.toInt32)) else (fun _ => (0 : Int32)) i);
  let y4 : Int32 → Int32 := (fun i => if i = (1 : Int32) then (nar .byte ((((q2.toUInt64 >>> ((8 : Int32) &&& 0x3f).toInt64.toUInt64).toInt64).toInt32).toInt8.toInt32)) else y2 i);
  let y6 : Int32 → Int32 := (fun i => if i = (2 : Int32) then (nar .byte ((((q2.toUInt64 >>> ((16 : Int32) &&& 0x3f).toInt64.toUInt64).toInt64).toInt32).toInt8.toInt32)) else y4 i);
  let y8 : Int32 → Int32 := (fun i => if i = (3 : Int32) then (nar .byte ((((q2.toUInt64 >>> ((24 : Int32) &&& 0x3f).toInt64.toUInt64).toInt64).toInt32).toInt8.toInt32)) else y6 i);
  let y10 : Int32 → Int32 := (fun i => if i = (4 : Int32) then (nar .byte ((((q2.toUInt64 >>> ((32 : Int32) &&& 0x3f).toInt64.toUInt64).toInt64).toInt32).toInt8.toInt32)) else y8 i);
  let y12 : Int32 → Int32 := (fun i => if i = (5 : Int32) then (nar .byte ((((q2.toUInt64 >>> ((40 : Int32) &&& 0x3f).toInt64.toUInt64).toInt64).toInt32).toInt8.toInt32)) else y10 i);
  let y14 : Int32 → Int32 := (fun i => if i = (6 : Int32) then (nar .byte ((((q2.toUInt64 >>> ((48 : Int32) &&& 0x3f).toInt64.toUInt64).toInt64).toInt32).toInt8.toInt32)) else y12 i);
  let y16 : Int32 → Int32 := (fun i => if i = (7 : Int32) then (nar .byte ((((q2.toUInt64 >>> ((56 : Int32) &&& 0x3f).toInt64.toUInt64).toInt64).toInt32).toInt8.toInt32)) else y14 i);
  let y18 : Int32 → Int32 := (fun i => if i = (8 : Int32) then (nar .byte ((((q2.toUInt64 >>> ((4 : Int32) &&& 0x3f).toInt64.toUInt64).toInt64).toInt32).toInt8.toInt32)) else y16 i);
  let y20 : Int32 → Int32 := (fun i => if i = (9 : Int32) then (nar .byte ((((q2.toUInt64 >>> ((12 : Int32) &&& 0x3f).toInt64.toUInt64).toInt64).toInt32).toInt8.toInt32)) else y18 i);
  let y22 : Int32 → Int32 := (fun i => if i = (10 : Int32) then (nar .byte ((((q2.toUInt64 >>> ((20 : Int32) &&& 0x3f).toInt64.toUInt64).toInt64).toInt32).toInt8.toInt32)) else y20 i);
  let y24 : Int32 → Int32 := (fun i => if i = (11 : Int32) then (nar .byte ((((q2.toUInt64 >>> ((28 : Int32) &&& 0x3f).toInt64.toUInt64).toInt64).toInt32).toInt8.toInt32)) else y22 i);
  let y26 : Int32 → Int32 := (fun i => if i = OF then (nar .byte ((q1.toInt32).toInt8.toInt32)) else y24 i);
  let y28 : Int32 → Int32 := (fun i => if i = (OF + (1 : Int32)) then (nar .byte ((((q1.toUInt64 >>> ((8 : Int32) &&& 0x3f).toInt64.toUInt64).toInt64).toInt32).toInt8.toInt32)) else y26 i);
  let y30 : Int32 → Int32 := (fun i => if i = (OF + (2 : Int32)) then (nar .byte ((((q1.toUInt64 >>> ((16 : Int32) &&& 0x3f).toInt64.toUInt64).toInt64).toInt32).toInt8.toInt32)) else y28 i);
  let y32 : Int32 → Int32 := (fun i => if i = (OF + (3 : Int32)) then (nar .byte ((((q1.toUInt64 >>> ((24 : Int32) &&& 0x3f).toInt64.toUInt64).toInt64).toInt32).toInt8.toInt32)) else y30 i);
  let y34 : Int32 → Int32 := (fun i => if i = (OF + (4 : Int32)) then (nar .byte ((((q1.toUInt64 >>> ((32 : Int32) &&& 0x3f).toInt64.toUInt64).toInt64).toInt32).toInt8.toInt32)) else y32 i);
  let y36 : Int32 → Int32 := (fun i => if i = (OF + (5 : Int32)) then (nar .byte ((((q1.toUInt64 >>> ((40 : Int32) &&& 0x3f).toInt64.toUInt64).toInt64).toInt32).toInt8.toInt32)) else y34 i);
  let y38 : Int32 → Int32 := (fun i => if i = (OF + (6 : Int32)) then (nar .byte ((((q1.toUInt64 >>> ((48 : Int32) &&& 0x3f).toInt64.toUInt64).toInt64).toInt32).toInt8.toInt32)) else y36 i);
  let y40 : Int32 → Int32 := (fun i => if i = (OF + (7 : Int32)) then (nar .byte ((((q1.toUInt64 >>> ((56 : Int32) &&& 0x3f).toInt64.toUInt64).toInt64).toInt32).toInt8.toInt32)) else y38 i);
  let v44 : Int64 := (if LE = (0 : Int32) then (0 : Int64) else (if LE = (8 : Int32) then q1 else (q1 &&& (((1 : Int64) <<< (((8 : Int32) * LE) &&& 0x3f).toInt64) - (1 : Int64)))));
  let v48 : Int32 := (if (f1 OF LE y40) = v44 then (1 : Int32) else (0 : Int32));
  (nar .boolean v48)
def Q0 (Z : State) (q1 : Int64) (q2 : Int64) (p3 : Int32) (p4 : Int32)  (h0 : Heap) (n0 : Nat) (v : Option Value) (h : Heap) (L : List Loc) : Prop := v = some (.int (f0 q1 q2 p3 p4)) ∧ Fr n0 L ∧ True
set_option maxRecDepth 65536 in
set_option maxHeartbeats 40000000 in
theorem rm0 (l : Launch) (Z : State) (a0 : Array Value) (hw : ∀ d ∈ tables_1, d.before a0 Z = true) (ws : List Jvm.Cond) (q1 : Int64) (q2 : Int64) (p3 : Int32) (p4 : Int32)  (h0 : Heap) (n0 : Nat) (Z0 : n0 ≤ h0.size) (O0 : Old Z n0 h0) :
    MetFree l x (head1 (Jvm.Cond.code x code maxLocals ret :: ws) room_1) (fun a U => a = #[(.long q1), (.long q2), (.int p3), (.int p4)] ∧ Z.Warmed39 U.vm ∧ U.heap = h0) (fun _ _ _ _ _ => True) (fun _ U o U' => ∃ v L, o = .returned v ∧ Q0 Z q1 q2 p3 p4 h0 n0 v U'.heap L ∧ FrameEnd U o U' L room_1.cells room_1.slots) := by
  refine MetFree.of_bodySF (plainFor_of_name pn_0) hisR ?_
  intro p e s m args below meth c s₁ Bd hml0 hP hK
  obtain ⟨rfl, hZ, hh⟩ := hP
  have hx := Bd.exec
  have hby := Bd.bytes
  have hml : c.maxLocals = 11 := hml0
  have hown : s.vm.findClass "com/example/sealwire/sealwire/procedure/keyfile/Rdh2RecordsUnsignedPinLaw" = some m.cls := findClass_of_methodNamed Bd.named
  have hnm := (name_of_methodNamed Bd.named Bd.method).1
  have X0 : Stand p l e room_1 s m #[(.long q1), (.long q2), (.int p3), (.int p4)] below meth c s₁ [] 0 0 := Stand.of_body Bd
  have e0 : s₁.heap = h0 := by rw [← hh, Bd.state]; rfl
  have N0 := Fr.nil n0
  have pre0 : ∀ t, Steps p.tables e below (s₁.setTop (mkF m 0 #[.val (.long q1), .second, .val (.long q2), .second, .val (.int p3), .val (.int p4), .unset, .unset, .unset, .unset, .unset] [])) t → Steps p.tables e below (s₁.setTop (entryFrame m #[(.long q1), (.long q2), (.int p3), (.int p4)] maxLocals)) t := fun t k => castTop (ef_0 m q1 q2 p3 p4) k
  have K0 := Keep.refl h0 ([] : List Addr)
  obtain ⟨OF, hOF⟩ : ∃ z : Int32, z = (p3 &&& (3 : Int32)) := ⟨_, rfl⟩
  obtain ⟨LE, hLE⟩ : ∃ z : Int32, z = ((p4 &&& (2147483647 : Int32)) % (9 : Int32)) := ⟨_, rfl⟩
  obtain ⟨T1, h1, k1, X1, e1, E1, Ax1, st1⟩ := newP X0 hx hZ (hw _ (List.mem_of_getElem? (i := 1) rfl)) e0 (g := (mkF m 18 #[.val (.long q1), .second, .val (.long q2), .second, .val (.int p3), .val (.int p4), .val (.int OF), .val (.int LE), .unset, .unset, .unset] [(.int (12 : Int32))])) rfl (hb hby at_18) rfl (by decide) (cap := 12) (by decide) (by decide) (by decide) (by decide)
  obtain ⟨b1, g1⟩ : ∃ z, z = h0.size := ⟨_, rfl⟩
  rw [← g1] at Ax1 st1
  have g_b1 : n0 ≤ b1 := Nat.le_trans Z0 (Nat.le_of_eq g1.symm)
  have sz_b1 : h0.size ≤ b1 := Nat.le_trans K0.1 (Nat.le_of_eq g1.symm)
  have K1 := K0.ext E1
  have Zs1 := Nat.le_trans Z0 E1.1
  have O1 := O0.ext E1
  have A_b1_1 : own_A Z h1 b1 .byte (12 : Int32) (fun i => .int ((fun _ => (0 : Int32)) i)) := own_A_new Ax1 (by decide)
  obtain ⟨cl3, Ar3, Sz3, Mz3, Hz3⟩ := id A_b1_1
  have hin2 := inb_of (j := (0 : Int32)) Sz3 ⟨by decide, by decide⟩
  obtain ⟨T2, h2, X2, e2, W2, st2⟩ := stB X1 hx hZ e1 Ar3 (j := (0 : Int32)) hin2 (g := (mkF m 28 #[.val (.long q1), .second, .val (.long q2), .second, .val (.int p3), .val (.int p4), .val (.int OF), .val (.int LE), .val (.ref b1), .unset, .unset] [(.int ((q2.toInt32).toInt8.toInt32)), (.int (0 : Int32)), (.ref b1)])) rfl rfl (hb hby at_28)
  obtain ⟨y2, hy2⟩ : ∃ y : Int32 → Int32, y = fun i => if i = (0 : Int32) then (nar .byte ((q2.toInt32).toInt8.toInt32)) else (fun _ => (0 : Int32)) i := ⟨_, rfl⟩
  have K2 := K1.wr W2 (Or.inr sz_b1)
  have Zs2 := Nat.le_trans Zs1 (Keep.of_wr W2).1
  have N2 := Fr.snoc X2 N0 g_b1
  have O2 := O1.wr W2 g_b1
  have A_b1_2 : own_A Z h2 b1 .byte (12 : Int32) (fun i => .int (y2 i)) := by subst hy2; exact own_A_set Ar3 Sz3 Mz3 Hz3 hin2 W2 (own_setI (y := (fun _ => (0 : Int32))) (j := (0 : Int32)) (x := (nar .byte ((q2.toInt32).toInt8.toInt32)))) (own_setI' (y := (fun _ => (0 : Int32))) (j := (0 : Int32)) (x := (nar .byte ((q2.toInt32).toInt8.toInt32))))
  obtain ⟨cl5, Ar5, Sz5, Mz5, Hz5⟩ := id A_b1_2
  have hin4 := inb_of (j := (1 : Int32)) Sz5 ⟨by decide, by decide⟩
  obtain ⟨T4, h4, X4, e4, W4, st4⟩ := stB X2 hx hZ e2 Ar5 (j := (1 : Int32)) hin4 (g := (mkF m 38 #[.val (.long q1), .second, .val (.long q2), .second, .val (.int p3), .val (.int p4), .val (.int OF), .val (.int LE), .val (.ref b1), .unset, .unset] [(.int ((((q2.toUInt64 >>> ((8 : Int32) &&& 0x3f).toInt64.toUInt64).toInt64).toInt32).toInt8.toInt32)), (.int (1 : Int32)), (.ref b1)])) rfl rfl (hb hby at_38)
  obtain ⟨y4, hy4⟩ : ∃ y : Int32 → Int32, y = fun i => if i = (1 : Int32) then (nar .byte ((((q2.toUInt64 >>> ((8 : Int32) &&& 0x3f).toInt64.toUInt64).toInt64).toInt32).toInt8.toInt32)) else y2 i := ⟨_, rfl⟩
  have K4 := K2.wr W4 (Or.inr sz_b1)
  have Zs4 := Nat.le_trans Zs2 (Keep.of_wr W4).1
  have N4 := Fr.snoc X4 N2 g_b1
  have O4 := O2.wr W4 g_b1
  have A_b1_4 : own_A Z h4 b1 .byte (12 : Int32) (fun i => .int (y4 i)) := by subst hy4; exact own_A_set Ar5 Sz5 Mz5 Hz5 hin4 W4 (own_setI (y := y2) (j := (1 : Int32)) (x := (nar .byte ((((q2.toUInt64 >>> ((8 : Int32) &&& 0x3f).toInt64.toUInt64).toInt64).toInt32).toInt8.toInt32)))) (own_setI' (y := y2) (j := (1 : Int32)) (x := (nar .byte ((((q2.toUInt64 >>> ((8 : Int32) &&& 0x3f).toInt64.toUInt64).toInt64).toInt32).toInt8.toInt32))))
  obtain ⟨cl7, Ar7, Sz7, Mz7, Hz7⟩ := id A_b1_4
  have hin6 := inb_of (j := (2 : Int32)) Sz7 ⟨by decide, by decide⟩
  obtain ⟨T6, h6, X6, e6, W6, st6⟩ := stB X4 hx hZ e4 Ar7 (j := (2 : Int32)) hin6 (g := (mkF m 48 #[.val (.long q1), .second, .val (.long q2), .second, .val (.int p3), .val (.int p4), .val (.int OF), .val (.int LE), .val (.ref b1), .unset, .unset] [(.int ((((q2.toUInt64 >>> ((16 : Int32) &&& 0x3f).toInt64.toUInt64).toInt64).toInt32).toInt8.toInt32)), (.int (2 : Int32)), (.ref b1)])) rfl rfl (hb hby at_48)
  obtain ⟨y6, hy6⟩ : ∃ y : Int32 → Int32, y = fun i => if i = (2 : Int32) then (nar .byte ((((q2.toUInt64 >>> ((16 : Int32) &&& 0x3f).toInt64.toUInt64).toInt64).toInt32).toInt8.toInt32)) else y4 i := ⟨_, rfl⟩
  have K6 := K4.wr W6 (Or.inr sz_b1)
  have Zs6 := Nat.le_trans Zs4 (Keep.of_wr W6).1
  have N6 := Fr.snoc X6 N4 g_b1
  have O6 := O4.wr W6 g_b1
  have A_b1_6 : own_A Z h6 b1 .byte (12 : Int32) (fun i => .int (y6 i)) := by subst hy6; exact own_A_set Ar7 Sz7 Mz7 Hz7 hin6 W6 (own_setI (y := y4) (j := (2 : Int32)) (x := (nar .byte ((((q2.toUInt64 >>> ((16 : Int32) &&& 0x3f).toInt64.toUInt64).toInt64).toInt32).toInt8.toInt32)))) (own_setI' (y := y4) (j := (2 : Int32)) (x := (nar .byte ((((q2.toUInt64 >>> ((16 : Int32) &&& 0x3f).toInt64.toUInt64).toInt64).toInt32).toInt8.toInt32))))
  obtain ⟨cl9, Ar9, Sz9, Mz9, Hz9⟩ := id A_b1_6
  have hin8 := inb_of (j := (3 : Int32)) Sz9 ⟨by decide, by decide⟩
  obtain ⟨T8, h8, X8, e8, W8, st8⟩ := stB X6 hx hZ e6 Ar9 (j := (3 : Int32)) hin8 (g := (mkF m 58 #[.val (.long q1), .second, .val (.long q2), .second, .val (.int p3), .val (.int p4), .val (.int OF), .val (.int LE), .val (.ref b1), .unset, .unset] [(.int ((((q2.toUInt64 >>> ((24 : Int32) &&& 0x3f).toInt64.toUInt64).toInt64).toInt32).toInt8.toInt32)), (.int (3 : Int32)), (.ref b1)])) rfl rfl (hb hby at_58)
  obtain ⟨y8, hy8⟩ : ∃ y : Int32 → Int32, y = fun i => if i = (3 : Int32) then (nar .byte ((((q2.toUInt64 >>> ((24 : Int32) &&& 0x3f).toInt64.toUInt64).toInt64).toInt32).toInt8.toInt32)) else y6 i := ⟨_, rfl⟩
  have K8 := K6.wr W8 (Or.inr sz_b1)
  have Zs8 := Nat.le_trans Zs6 (Keep.of_wr W8).1
  have N8 := Fr.snoc X8 N6 g_b1
  have O8 := O6.wr W8 g_b1
  have A_b1_8 : own_A Z h8 b1 .byte (12 : Int32) (fun i => .int (y8 i)) := by subst hy8; exact own_A_set Ar9 Sz9 Mz9 Hz9 hin8 W8 (own_setI (y := y6) (j := (3 : Int32)) (x := (nar .byte ((((q2.toUInt64 >>> ((24 : Int32) &&& 0x3f).toInt64.toUInt64).toInt64).toInt32).toInt8.toInt32)))) (own_setI' (y := y6) (j := (3 : Int32)) (x := (nar .byte ((((q2.toUInt64 >>> ((24 : Int32) &&& 0x3f).toInt64.toUInt64).toInt64).toInt32).toInt8.toInt32))))
  obtain ⟨cl11, Ar11, Sz11, Mz11, Hz11⟩ := id A_b1_8
  have hin10 := inb_of (j := (4 : Int32)) Sz11 ⟨by decide, by decide⟩
  obtain ⟨T10, h10, X10, e10, W10, st10⟩ := stB X8 hx hZ e8 Ar11 (j := (4 : Int32)) hin10 (g := (mkF m 68 #[.val (.long q1), .second, .val (.long q2), .second, .val (.int p3), .val (.int p4), .val (.int OF), .val (.int LE), .val (.ref b1), .unset, .unset] [(.int ((((q2.toUInt64 >>> ((32 : Int32) &&& 0x3f).toInt64.toUInt64).toInt64).toInt32).toInt8.toInt32)), (.int (4 : Int32)), (.ref b1)])) rfl rfl (hb hby at_68)
  obtain ⟨y10, hy10⟩ : ∃ y : Int32 → Int32, y = fun i => if i = (4 : Int32) then (nar .byte ((((q2.toUInt64 >>> ((32 : Int32) &&& 0x3f).toInt64.toUInt64).toInt64).toInt32).toInt8.toInt32)) else y8 i := ⟨_, rfl⟩
  have K10 := K8.wr W10 (Or.inr sz_b1)
  have Zs10 := Nat.le_trans Zs8 (Keep.of_wr W10).1
  have N10 := Fr.snoc X10 N8 g_b1
  have O10 := O8.wr W10 g_b1
  have A_b1_10 : own_A Z h10 b1 .byte (12 : Int32) (fun i => .int (y10 i)) := by subst hy10; exact own_A_set Ar11 Sz11 Mz11 Hz11 hin10 W10 (own_setI (y := y8) (j := (4 : Int32)) (x := (nar .byte ((((q2.toUInt64 >>> ((32 : Int32) &&& 0x3f).toInt64.toUInt64).toInt64).toInt32).toInt8.toInt32)))) (own_setI' (y := y8) (j := (4 : Int32)) (x := (nar .byte ((((q2.toUInt64 >>> ((32 : Int32) &&& 0x3f).toInt64.toUInt64).toInt64).toInt32).toInt8.toInt32))))
  obtain ⟨cl13, Ar13, Sz13, Mz13, Hz13⟩ := id A_b1_10
  have hin12 := inb_of (j := (5 : Int32)) Sz13 ⟨by decide, by decide⟩
  obtain ⟨T12, h12, X12, e12, W12, st12⟩ := stB X10 hx hZ e10 Ar13 (j := (5 : Int32)) hin12 (g := (mkF m 78 #[.val (.long q1), .second, .val (.long q2), .second, .val (.int p3), .val (.int p4), .val (.int OF), .val (.int LE), .val (.ref b1), .unset, .unset] [(.int ((((q2.toUInt64 >>> ((40 : Int32) &&& 0x3f).toInt64.toUInt64).toInt64).toInt32).toInt8.toInt32)), (.int (5 : Int32)), (.ref b1)])) rfl rfl (hb hby at_78)
  obtain ⟨y12, hy12⟩ : ∃ y : Int32 → Int32, y = fun i => if i = (5 : Int32) then (nar .byte ((((q2.toUInt64 >>> ((40 : Int32) &&& 0x3f).toInt64.toUInt64).toInt64).toInt32).toInt8.toInt32)) else y10 i := ⟨_, rfl⟩
  have K12 := K10.wr W12 (Or.inr sz_b1)
  have Zs12 := Nat.le_trans Zs10 (Keep.of_wr W12).1
  have N12 := Fr.snoc X12 N10 g_b1
  have O12 := O10.wr W12 g_b1
  have A_b1_12 : own_A Z h12 b1 .byte (12 : Int32) (fun i => .int (y12 i)) := by subst hy12; exact own_A_set Ar13 Sz13 Mz13 Hz13 hin12 W12 (own_setI (y := y10) (j := (5 : Int32)) (x := (nar .byte ((((q2.toUInt64 >>> ((40 : Int32) &&& 0x3f).toInt64.toUInt64).toInt64).toInt32).toInt8.toInt32)))) (own_setI' (y := y10) (j := (5 : Int32)) (x := (nar .byte ((((q2.toUInt64 >>> ((40 : Int32) &&& 0x3f).toInt64.toUInt64).toInt64).toInt32).toInt8.toInt32))))
  obtain ⟨cl15, Ar15, Sz15, Mz15, Hz15⟩ := id A_b1_12
  have hin14 := inb_of (j := (6 : Int32)) Sz15 ⟨by decide, by decide⟩
  obtain ⟨T14, h14, X14, e14, W14, st14⟩ := stB X12 hx hZ e12 Ar15 (j := (6 : Int32)) hin14 (g := (mkF m 89 #[.val (.long q1), .second, .val (.long q2), .second, .val (.int p3), .val (.int p4), .val (.int OF), .val (.int LE), .val (.ref b1), .unset, .unset] [(.int ((((q2.toUInt64 >>> ((48 : Int32) &&& 0x3f).toInt64.toUInt64).toInt64).toInt32).toInt8.toInt32)), (.int (6 : Int32)), (.ref b1)])) rfl rfl (hb hby at_89)
  obtain ⟨y14, hy14⟩ : ∃ y : Int32 → Int32, y = fun i => if i = (6 : Int32) then (nar .byte ((((q2.toUInt64 >>> ((48 : Int32) &&& 0x3f).toInt64.toUInt64).toInt64).toInt32).toInt8.toInt32)) else y12 i := ⟨_, rfl⟩
  have K14 := K12.wr W14 (Or.inr sz_b1)
  have Zs14 := Nat.le_trans Zs12 (Keep.of_wr W14).1
  have N14 := Fr.snoc X14 N12 g_b1
  have O14 := O12.wr W14 g_b1
  have A_b1_14 : own_A Z h14 b1 .byte (12 : Int32) (fun i => .int (y14 i)) := by subst hy14; exact own_A_set Ar15 Sz15 Mz15 Hz15 hin14 W14 (own_setI (y := y12) (j := (6 : Int32)) (x := (nar .byte ((((q2.toUInt64 >>> ((48 : Int32) &&& 0x3f).toInt64.toUInt64).toInt64).toInt32).toInt8.toInt32)))) (own_setI' (y := y12) (j := (6 : Int32)) (x := (nar .byte ((((q2.toUInt64 >>> ((48 : Int32) &&& 0x3f).toInt64.toUInt64).toInt64).toInt32).toInt8.toInt32))))
  obtain ⟨cl17, Ar17, Sz17, Mz17, Hz17⟩ := id A_b1_14
  have hin16 := inb_of (j := (7 : Int32)) Sz17 ⟨by decide, by decide⟩
  obtain ⟨T16, h16, X16, e16, W16, st16⟩ := stB X14 hx hZ e14 Ar17 (j := (7 : Int32)) hin16 (g := (mkF m 100 #[.val (.long q1), .second, .val (.long q2), .second, .val (.int p3), .val (.int p4), .val (.int OF), .val (.int LE), .val (.ref b1), .unset, .unset] [(.int ((((q2.toUInt64 >>> ((56 : Int32) &&& 0x3f).toInt64.toUInt64).toInt64).toInt32).toInt8.toInt32)), (.int (7 : Int32)), (.ref b1)])) rfl rfl (hb hby at_100)
  obtain ⟨y16, hy16⟩ : ∃ y : Int32 → Int32, y = fun i => if i = (7 : Int32) then (nar .byte ((((q2.toUInt64 >>> ((56 : Int32) &&& 0x3f).toInt64.toUInt64).toInt64).toInt32).toInt8.toInt32)) else y14 i := ⟨_, rfl⟩
  have K16 := K14.wr W16 (Or.inr sz_b1)
  have Zs16 := Nat.le_trans Zs14 (Keep.of_wr W16).1
  have N16 := Fr.snoc X16 N14 g_b1
  have O16 := O14.wr W16 g_b1
  have A_b1_16 : own_A Z h16 b1 .byte (12 : Int32) (fun i => .int (y16 i)) := by subst hy16; exact own_A_set Ar17 Sz17 Mz17 Hz17 hin16 W16 (own_setI (y := y14) (j := (7 : Int32)) (x := (nar .byte ((((q2.toUInt64 >>> ((56 : Int32) &&& 0x3f).toInt64.toUInt64).toInt64).toInt32).toInt8.toInt32)))) (own_setI' (y := y14) (j := (7 : Int32)) (x := (nar .byte ((((q2.toUInt64 >>> ((56 : Int32) &&& 0x3f).toInt64.toUInt64).toInt64).toInt32).toInt8.toInt32))))
  obtain ⟨cl19, Ar19, Sz19, Mz19, Hz19⟩ := id A_b1_16
  have hin18 := inb_of (j := (8 : Int32)) Sz19 ⟨by decide, by decide⟩
  obtain ⟨T18, h18, X18, e18, W18, st18⟩ := stB X16 hx hZ e16 Ar19 (j := (8 : Int32)) hin18 (g := (mkF m 110 #[.val (.long q1), .second, .val (.long q2), .second, .val (.int p3), .val (.int p4), .val (.int OF), .val (.int LE), .val (.ref b1), .unset, .unset] [(.int ((((q2.toUInt64 >>> ((4 : Int32) &&& 0x3f).toInt64.toUInt64).toInt64).toInt32).toInt8.toInt32)), (.int (8 : Int32)), (.ref b1)])) rfl rfl (hb hby at_110)
  obtain ⟨y18, hy18⟩ : ∃ y : Int32 → Int32, y = fun i => if i = (8 : Int32) then (nar .byte ((((q2.toUInt64 >>> ((4 : Int32) &&& 0x3f).toInt64.toUInt64).toInt64).toInt32).toInt8.toInt32)) else y16 i := ⟨_, rfl⟩
  have K18 := K16.wr W18 (Or.inr sz_b1)
  have Zs18 := Nat.le_trans Zs16 (Keep.of_wr W18).1
  have N18 := Fr.snoc X18 N16 g_b1
  have O18 := O16.wr W18 g_b1
  have A_b1_18 : own_A Z h18 b1 .byte (12 : Int32) (fun i => .int (y18 i)) := by subst hy18; exact own_A_set Ar19 Sz19 Mz19 Hz19 hin18 W18 (own_setI (y := y16) (j := (8 : Int32)) (x := (nar .byte ((((q2.toUInt64 >>> ((4 : Int32) &&& 0x3f).toInt64.toUInt64).toInt64).toInt32).toInt8.toInt32)))) (own_setI' (y := y16) (j := (8 : Int32)) (x := (nar .byte ((((q2.toUInt64 >>> ((4 : Int32) &&& 0x3f).toInt64.toUInt64).toInt64).toInt32).toInt8.toInt32))))
  obtain ⟨cl21, Ar21, Sz21, Mz21, Hz21⟩ := id A_b1_18
  have hin20 := inb_of (j := (9 : Int32)) Sz21 ⟨by decide, by decide⟩
  obtain ⟨T20, h20, X20, e20, W20, st20⟩ := stB X18 hx hZ e18 Ar21 (j := (9 : Int32)) hin20 (g := (mkF m 121 #[.val (.long q1), .second, .val (.long q2), .second, .val (.int p3), .val (.int p4), .val (.int OF), .val (.int LE), .val (.ref b1), .unset, .unset] [(.int ((((q2.toUInt64 >>> ((12 : Int32) &&& 0x3f).toInt64.toUInt64).toInt64).toInt32).toInt8.toInt32)), (.int (9 : Int32)), (.ref b1)])) rfl rfl (hb hby at_121)
  obtain ⟨y20, hy20⟩ : ∃ y : Int32 → Int32, y = fun i => if i = (9 : Int32) then (nar .byte ((((q2.toUInt64 >>> ((12 : Int32) &&& 0x3f).toInt64.toUInt64).toInt64).toInt32).toInt8.toInt32)) else y18 i := ⟨_, rfl⟩
  have K20 := K18.wr W20 (Or.inr sz_b1)
  have Zs20 := Nat.le_trans Zs18 (Keep.of_wr W20).1
  have N20 := Fr.snoc X20 N18 g_b1
  have O20 := O18.wr W20 g_b1
  have A_b1_20 : own_A Z h20 b1 .byte (12 : Int32) (fun i => .int (y20 i)) := by subst hy20; exact own_A_set Ar21 Sz21 Mz21 Hz21 hin20 W20 (own_setI (y := y18) (j := (9 : Int32)) (x := (nar .byte ((((q2.toUInt64 >>> ((12 : Int32) &&& 0x3f).toInt64.toUInt64).toInt64).toInt32).toInt8.toInt32)))) (own_setI' (y := y18) (j := (9 : Int32)) (x := (nar .byte ((((q2.toUInt64 >>> ((12 : Int32) &&& 0x3f).toInt64.toUInt64).toInt64).toInt32).toInt8.toInt32))))
  obtain ⟨cl23, Ar23, Sz23, Mz23, Hz23⟩ := id A_b1_20
  have hin22 := inb_of (j := (10 : Int32)) Sz23 ⟨by decide, by decide⟩
  obtain ⟨T22, h22, X22, e22, W22, st22⟩ := stB X20 hx hZ e20 Ar23 (j := (10 : Int32)) hin22 (g := (mkF m 132 #[.val (.long q1), .second, .val (.long q2), .second, .val (.int p3), .val (.int p4), .val (.int OF), .val (.int LE), .val (.ref b1), .unset, .unset] [(.int ((((q2.toUInt64 >>> ((20 : Int32) &&& 0x3f).toInt64.toUInt64).toInt64).toInt32).toInt8.toInt32)), (.int (10 : Int32)), (.ref b1)])) rfl rfl (hb hby at_132)
  obtain ⟨y22, hy22⟩ : ∃ y : Int32 → Int32, y = fun i => if i = (10 : Int32) then (nar .byte ((((q2.toUInt64 >>> ((20 : Int32) &&& 0x3f).toInt64.toUInt64).toInt64).toInt32).toInt8.toInt32)) else y20 i := ⟨_, rfl⟩
  have K22 := K20.wr W22 (Or.inr sz_b1)
  have Zs22 := Nat.le_trans Zs20 (Keep.of_wr W22).1
  have N22 := Fr.snoc X22 N20 g_b1
  have O22 := O20.wr W22 g_b1
  have A_b1_22 : own_A Z h22 b1 .byte (12 : Int32) (fun i => .int (y22 i)) := by subst hy22; exact own_A_set Ar23 Sz23 Mz23 Hz23 hin22 W22 (own_setI (y := y20) (j := (10 : Int32)) (x := (nar .byte ((((q2.toUInt64 >>> ((20 : Int32) &&& 0x3f).toInt64.toUInt64).toInt64).toInt32).toInt8.toInt32)))) (own_setI' (y := y20) (j := (10 : Int32)) (x := (nar .byte ((((q2.toUInt64 >>> ((20 : Int32) &&& 0x3f).toInt64.toUInt64).toInt64).toInt32).toInt8.toInt32))))
  obtain ⟨cl25, Ar25, Sz25, Mz25, Hz25⟩ := id A_b1_22
  have hin24 := inb_of (j := (11 : Int32)) Sz25 ⟨by decide, by decide⟩
  obtain ⟨T24, h24, X24, e24, W24, st24⟩ := stB X22 hx hZ e22 Ar25 (j := (11 : Int32)) hin24 (g := (mkF m 143 #[.val (.long q1), .second, .val (.long q2), .second, .val (.int p3), .val (.int p4), .val (.int OF), .val (.int LE), .val (.ref b1), .unset, .unset] [(.int ((((q2.toUInt64 >>> ((28 : Int32) &&& 0x3f).toInt64.toUInt64).toInt64).toInt32).toInt8.toInt32)), (.int (11 : Int32)), (.ref b1)])) rfl rfl (hb hby at_143)
  obtain ⟨y24, hy24⟩ : ∃ y : Int32 → Int32, y = fun i => if i = (11 : Int32) then (nar .byte ((((q2.toUInt64 >>> ((28 : Int32) &&& 0x3f).toInt64.toUInt64).toInt64).toInt32).toInt8.toInt32)) else y22 i := ⟨_, rfl⟩
  have K24 := K22.wr W24 (Or.inr sz_b1)
  have Zs24 := Nat.le_trans Zs22 (Keep.of_wr W24).1
  have N24 := Fr.snoc X24 N22 g_b1
  have O24 := O22.wr W24 g_b1
  have A_b1_24 : own_A Z h24 b1 .byte (12 : Int32) (fun i => .int (y24 i)) := by subst hy24; exact own_A_set Ar25 Sz25 Mz25 Hz25 hin24 W24 (own_setI (y := y22) (j := (11 : Int32)) (x := (nar .byte ((((q2.toUInt64 >>> ((28 : Int32) &&& 0x3f).toInt64.toUInt64).toInt64).toInt32).toInt8.toInt32)))) (own_setI' (y := y22) (j := (11 : Int32)) (x := (nar .byte ((((q2.toUInt64 >>> ((28 : Int32) &&& 0x3f).toInt64.toUInt64).toInt64).toInt32).toInt8.toInt32))))
  obtain ⟨cl27, Ar27, Sz27, Mz27, Hz27⟩ := id A_b1_24
  have hin26 := inb_of (j := OF) Sz27 (own_i0 hOF)
  obtain ⟨T26, h26, X26, e26, W26, st26⟩ := stB X24 hx hZ e24 Ar27 (j := OF) hin26 (g := (mkF m 151 #[.val (.long q1), .second, .val (.long q2), .second, .val (.int p3), .val (.int p4), .val (.int OF), .val (.int LE), .val (.ref b1), .unset, .unset] [(.int ((q1.toInt32).toInt8.toInt32)), (.int OF), (.ref b1)])) rfl rfl (hb hby at_151)
  obtain ⟨y26, hy26⟩ : ∃ y : Int32 → Int32, y = fun i => if i = OF then (nar .byte ((q1.toInt32).toInt8.toInt32)) else y24 i := ⟨_, rfl⟩
  have K26 := K24.wr W26 (Or.inr sz_b1)
  have Zs26 := Nat.le_trans Zs24 (Keep.of_wr W26).1
  have N26 := Fr.snoc X26 N24 g_b1
  have O26 := O24.wr W26 g_b1
  have A_b1_26 : own_A Z h26 b1 .byte (12 : Int32) (fun i => .int (y26 i)) := by subst hy26; exact own_A_set Ar27 Sz27 Mz27 Hz27 hin26 W26 (own_setI (y := y24) (j := OF) (x := (nar .byte ((q1.toInt32).toInt8.toInt32)))) (own_setI' (y := y24) (j := OF) (x := (nar .byte ((q1.toInt32).toInt8.toInt32))))
  obtain ⟨cl29, Ar29, Sz29, Mz29, Hz29⟩ := id A_b1_26
  have hin28 := inb_of (j := (OF + (1 : Int32))) Sz29 (own_i1 hOF 1 (by decide) (by decide))
  obtain ⟨T28, h28, X28, e28, W28, st28⟩ := stB X26 hx hZ e26 Ar29 (j := (OF + (1 : Int32))) hin28 (g := (mkF m 164 #[.val (.long q1), .second, .val (.long q2), .second, .val (.int p3), .val (.int p4), .val (.int OF), .val (.int LE), .val (.ref b1), .unset, .unset] [(.int ((((q1.toUInt64 >>> ((8 : Int32) &&& 0x3f).toInt64.toUInt64).toInt64).toInt32).toInt8.toInt32)), (.int (OF + (1 : Int32))), (.ref b1)])) rfl rfl (hb hby at_164)
  obtain ⟨y28, hy28⟩ : ∃ y : Int32 → Int32, y = fun i => if i = (OF + (1 : Int32)) then (nar .byte ((((q1.toUInt64 >>> ((8 : Int32) &&& 0x3f).toInt64.toUInt64).toInt64).toInt32).toInt8.toInt32)) else y26 i := ⟨_, rfl⟩
  have K28 := K26.wr W28 (Or.inr sz_b1)
  have Zs28 := Nat.le_trans Zs26 (Keep.of_wr W28).1
  have N28 := Fr.snoc X28 N26 g_b1
  have O28 := O26.wr W28 g_b1
  have A_b1_28 : own_A Z h28 b1 .byte (12 : Int32) (fun i => .int (y28 i)) := by subst hy28; exact own_A_set Ar29 Sz29 Mz29 Hz29 hin28 W28 (own_setI (y := y26) (j := (OF + (1 : Int32))) (x := (nar .byte ((((q1.toUInt64 >>> ((8 : Int32) &&& 0x3f).toInt64.toUInt64).toInt64).toInt32).toInt8.toInt32)))) (own_setI' (y := y26) (j := (OF + (1 : Int32))) (x := (nar .byte ((((q1.toUInt64 >>> ((8 : Int32) &&& 0x3f).toInt64.toUInt64).toInt64).toInt32).toInt8.toInt32))))
  obtain ⟨cl31, Ar31, Sz31, Mz31, Hz31⟩ := id A_b1_28
  have hin30 := inb_of (j := (OF + (2 : Int32))) Sz31 (own_i1 hOF 2 (by decide) (by decide))
  obtain ⟨T30, h30, X30, e30, W30, st30⟩ := stB X28 hx hZ e28 Ar31 (j := (OF + (2 : Int32))) hin30 (g := (mkF m 177 #[.val (.long q1), .second, .val (.long q2), .second, .val (.int p3), .val (.int p4), .val (.int OF), .val (.int LE), .val (.ref b1), .unset, .unset] [(.int ((((q1.toUInt64 >>> ((16 : Int32) &&& 0x3f).toInt64.toUInt64).toInt64).toInt32).toInt8.toInt32)), (.int (OF + (2 : Int32))), (.ref b1)])) rfl rfl (hb hby at_177)
  obtain ⟨y30, hy30⟩ : ∃ y : Int32 → Int32, y = fun i => if i = (OF + (2 : Int32)) then (nar .byte ((((q1.toUInt64 >>> ((16 : Int32) &&& 0x3f).toInt64.toUInt64).toInt64).toInt32).toInt8.toInt32)) else y28 i := ⟨_, rfl⟩
  have K30 := K28.wr W30 (Or.inr sz_b1)
  have Zs30 := Nat.le_trans Zs28 (Keep.of_wr W30).1
  have N30 := Fr.snoc X30 N28 g_b1
  have O30 := O28.wr W30 g_b1
  have A_b1_30 : own_A Z h30 b1 .byte (12 : Int32) (fun i => .int (y30 i)) := by subst hy30; exact own_A_set Ar31 Sz31 Mz31 Hz31 hin30 W30 (own_setI (y := y28) (j := (OF + (2 : Int32))) (x := (nar .byte ((((q1.toUInt64 >>> ((16 : Int32) &&& 0x3f).toInt64.toUInt64).toInt64).toInt32).toInt8.toInt32)))) (own_setI' (y := y28) (j := (OF + (2 : Int32))) (x := (nar .byte ((((q1.toUInt64 >>> ((16 : Int32) &&& 0x3f).toInt64.toUInt64).toInt64).toInt32).toInt8.toInt32))))
  obtain ⟨cl33, Ar33, Sz33, Mz33, Hz33⟩ := id A_b1_30
  have hin32 := inb_of (j := (OF + (3 : Int32))) Sz33 (own_i1 hOF 3 (by decide) (by decide))
  obtain ⟨T32, h32, X32, e32, W32, st32⟩ := stB X30 hx hZ e30 Ar33 (j := (OF + (3 : Int32))) hin32 (g := (mkF m 190 #[.val (.long q1), .second, .val (.long q2), .second, .val (.int p3), .val (.int p4), .val (.int OF), .val (.int LE), .val (.ref b1), .unset, .unset] [(.int ((((q1.toUInt64 >>> ((24 : Int32) &&& 0x3f).toInt64.toUInt64).toInt64).toInt32).toInt8.toInt32)), (.int (OF + (3 : Int32))), (.ref b1)])) rfl rfl (hb hby at_190)
  obtain ⟨y32, hy32⟩ : ∃ y : Int32 → Int32, y = fun i => if i = (OF + (3 : Int32)) then (nar .byte ((((q1.toUInt64 >>> ((24 : Int32) &&& 0x3f).toInt64.toUInt64).toInt64).toInt32).toInt8.toInt32)) else y30 i := ⟨_, rfl⟩
  have K32 := K30.wr W32 (Or.inr sz_b1)
  have Zs32 := Nat.le_trans Zs30 (Keep.of_wr W32).1
  have N32 := Fr.snoc X32 N30 g_b1
  have O32 := O30.wr W32 g_b1
  have A_b1_32 : own_A Z h32 b1 .byte (12 : Int32) (fun i => .int (y32 i)) := by subst hy32; exact own_A_set Ar33 Sz33 Mz33 Hz33 hin32 W32 (own_setI (y := y30) (j := (OF + (3 : Int32))) (x := (nar .byte ((((q1.toUInt64 >>> ((24 : Int32) &&& 0x3f).toInt64.toUInt64).toInt64).toInt32).toInt8.toInt32)))) (own_setI' (y := y30) (j := (OF + (3 : Int32))) (x := (nar .byte ((((q1.toUInt64 >>> ((24 : Int32) &&& 0x3f).toInt64.toUInt64).toInt64).toInt32).toInt8.toInt32))))
  obtain ⟨cl35, Ar35, Sz35, Mz35, Hz35⟩ := id A_b1_32
  have hin34 := inb_of (j := (OF + (4 : Int32))) Sz35 (own_i1 hOF 4 (by decide) (by decide))
  obtain ⟨T34, h34, X34, e34, W34, st34⟩ := stB X32 hx hZ e32 Ar35 (j := (OF + (4 : Int32))) hin34 (g := (mkF m 203 #[.val (.long q1), .second, .val (.long q2), .second, .val (.int p3), .val (.int p4), .val (.int OF), .val (.int LE), .val (.ref b1), .unset, .unset] [(.int ((((q1.toUInt64 >>> ((32 : Int32) &&& 0x3f).toInt64.toUInt64).toInt64).toInt32).toInt8.toInt32)), (.int (OF + (4 : Int32))), (.ref b1)])) rfl rfl (hb hby at_203)
  obtain ⟨y34, hy34⟩ : ∃ y : Int32 → Int32, y = fun i => if i = (OF + (4 : Int32)) then (nar .byte ((((q1.toUInt64 >>> ((32 : Int32) &&& 0x3f).toInt64.toUInt64).toInt64).toInt32).toInt8.toInt32)) else y32 i := ⟨_, rfl⟩
  have K34 := K32.wr W34 (Or.inr sz_b1)
  have Zs34 := Nat.le_trans Zs32 (Keep.of_wr W34).1
  have N34 := Fr.snoc X34 N32 g_b1
  have O34 := O32.wr W34 g_b1
  have A_b1_34 : own_A Z h34 b1 .byte (12 : Int32) (fun i => .int (y34 i)) := by subst hy34; exact own_A_set Ar35 Sz35 Mz35 Hz35 hin34 W34 (own_setI (y := y32) (j := (OF + (4 : Int32))) (x := (nar .byte ((((q1.toUInt64 >>> ((32 : Int32) &&& 0x3f).toInt64.toUInt64).toInt64).toInt32).toInt8.toInt32)))) (own_setI' (y := y32) (j := (OF + (4 : Int32))) (x := (nar .byte ((((q1.toUInt64 >>> ((32 : Int32) &&& 0x3f).toInt64.toUInt64).toInt64).toInt32).toInt8.toInt32))))
  obtain ⟨cl37, Ar37, Sz37, Mz37, Hz37⟩ := id A_b1_34
  have hin36 := inb_of (j := (OF + (5 : Int32))) Sz37 (own_i1 hOF 5 (by decide) (by decide))
  obtain ⟨T36, h36, X36, e36, W36, st36⟩ := stB X34 hx hZ e34 Ar37 (j := (OF + (5 : Int32))) hin36 (g := (mkF m 216 #[.val (.long q1), .second, .val (.long q2), .second, .val (.int p3), .val (.int p4), .val (.int OF), .val (.int LE), .val (.ref b1), .unset, .unset] [(.int ((((q1.toUInt64 >>> ((40 : Int32) &&& 0x3f).toInt64.toUInt64).toInt64).toInt32).toInt8.toInt32)), (.int (OF + (5 : Int32))), (.ref b1)])) rfl rfl (hb hby at_216)
  obtain ⟨y36, hy36⟩ : ∃ y : Int32 → Int32, y = fun i => if i = (OF + (5 : Int32)) then (nar .byte ((((q1.toUInt64 >>> ((40 : Int32) &&& 0x3f).toInt64.toUInt64).toInt64).toInt32).toInt8.toInt32)) else y34 i := ⟨_, rfl⟩
  have K36 := K34.wr W36 (Or.inr sz_b1)
  have Zs36 := Nat.le_trans Zs34 (Keep.of_wr W36).1
  have N36 := Fr.snoc X36 N34 g_b1
  have O36 := O34.wr W36 g_b1
  have A_b1_36 : own_A Z h36 b1 .byte (12 : Int32) (fun i => .int (y36 i)) := by subst hy36; exact own_A_set Ar37 Sz37 Mz37 Hz37 hin36 W36 (own_setI (y := y34) (j := (OF + (5 : Int32))) (x := (nar .byte ((((q1.toUInt64 >>> ((40 : Int32) &&& 0x3f).toInt64.toUInt64).toInt64).toInt32).toInt8.toInt32)))) (own_setI' (y := y34) (j := (OF + (5 : Int32))) (x := (nar .byte ((((q1.toUInt64 >>> ((40 : Int32) &&& 0x3f).toInt64.toUInt64).toInt64).toInt32).toInt8.toInt32))))
  obtain ⟨cl39, Ar39, Sz39, Mz39, Hz39⟩ := id A_b1_36
  have hin38 := inb_of (j := (OF + (6 : Int32))) Sz39 (own_i1 hOF 6 (by decide) (by decide))
  obtain ⟨T38, h38, X38, e38, W38, st38⟩ := stB X36 hx hZ e36 Ar39 (j := (OF + (6 : Int32))) hin38 (g := (mkF m 230 #[.val (.long q1), .second, .val (.long q2), .second, .val (.int p3), .val (.int p4), .val (.int OF), .val (.int LE), .val (.ref b1), .unset, .unset] [(.int ((((q1.toUInt64 >>> ((48 : Int32) &&& 0x3f).toInt64.toUInt64).toInt64).toInt32).toInt8.toInt32)), (.int (OF + (6 : Int32))), (.ref b1)])) rfl rfl (hb hby at_230)
  obtain ⟨y38, hy38⟩ : ∃ y : Int32 → Int32, y = fun i => if i = (OF + (6 : Int32)) then (nar .byte ((((q1.toUInt64 >>> ((48 : Int32) &&& 0x3f).toInt64.toUInt64).toInt64).toInt32).toInt8.toInt32)) else y36 i := ⟨_, rfl⟩
  have K38 := K36.wr W38 (Or.inr sz_b1)
  have Zs38 := Nat.le_trans Zs36 (Keep.of_wr W38).1
  have N38 := Fr.snoc X38 N36 g_b1
  have O38 := O36.wr W38 g_b1
  have A_b1_38 : own_A Z h38 b1 .byte (12 : Int32) (fun i => .int (y38 i)) := by subst hy38; exact own_A_set Ar39 Sz39 Mz39 Hz39 hin38 W38 (own_setI (y := y36) (j := (OF + (6 : Int32))) (x := (nar .byte ((((q1.toUInt64 >>> ((48 : Int32) &&& 0x3f).toInt64.toUInt64).toInt64).toInt32).toInt8.toInt32)))) (own_setI' (y := y36) (j := (OF + (6 : Int32))) (x := (nar .byte ((((q1.toUInt64 >>> ((48 : Int32) &&& 0x3f).toInt64.toUInt64).toInt64).toInt32).toInt8.toInt32))))
  obtain ⟨cl41, Ar41, Sz41, Mz41, Hz41⟩ := id A_b1_38
  have hin40 := inb_of (j := (OF + (7 : Int32))) Sz41 (own_i1 hOF 7 (by decide) (by decide))
  obtain ⟨T40, h40, X40, e40, W40, st40⟩ := stB X38 hx hZ e38 Ar41 (j := (OF + (7 : Int32))) hin40 (g := (mkF m 244 #[.val (.long q1), .second, .val (.long q2), .second, .val (.int p3), .val (.int p4), .val (.int OF), .val (.int LE), .val (.ref b1), .unset, .unset] [(.int ((((q1.toUInt64 >>> ((56 : Int32) &&& 0x3f).toInt64.toUInt64).toInt64).toInt32).toInt8.toInt32)), (.int (OF + (7 : Int32))), (.ref b1)])) rfl rfl (hb hby at_244)
  obtain ⟨y40, hy40⟩ : ∃ y : Int32 → Int32, y = fun i => if i = (OF + (7 : Int32)) then (nar .byte ((((q1.toUInt64 >>> ((56 : Int32) &&& 0x3f).toInt64.toUInt64).toInt64).toInt32).toInt8.toInt32)) else y38 i := ⟨_, rfl⟩
  have K40 := K38.wr W40 (Or.inr sz_b1)
  have Zs40 := Nat.le_trans Zs38 (Keep.of_wr W40).1
  have N40 := Fr.snoc X40 N38 g_b1
  have O40 := O38.wr W40 g_b1
  have A_b1_40 : own_A Z h40 b1 .byte (12 : Int32) (fun i => .int (y40 i)) := by subst hy40; exact own_A_set Ar41 Sz41 Mz41 Hz41 hin40 W40 (own_setI (y := y38) (j := (OF + (7 : Int32))) (x := (nar .byte ((((q1.toUInt64 >>> ((56 : Int32) &&& 0x3f).toInt64.toUInt64).toInt64).toInt32).toInt8.toInt32)))) (own_setI' (y := y38) (j := (OF + (7 : Int32))) (x := (nar .byte ((((q1.toUInt64 >>> ((56 : Int32) &&& 0x3f).toInt64.toUInt64).toInt64).toInt32).toInt8.toInt32))))
  obtain ⟨v44, hv44⟩ : ∃ z : Int64, z = (if LE = (0 : Int32) then (0 : Int64) else (if LE = (8 : Int32) then q1 else (q1 &&& (((1 : Int64) <<< (((8 : Int32) * LE) &&& 0x3f).toInt64) - (1 : Int64))))) := ⟨_, rfl⟩
  have pre45 : ∀ t, Steps p.tables e below (T40.setTop (mkF m 282 #[.val (.long q1), .second, .val (.long q2), .second, .val (.int p3), .val (.int p4), .val (.int OF), .val (.int LE), .val (.ref b1), .val (.long v44), .second] [])) t → Steps p.tables e below (s₁.setTop (entryFrame m #[(.long q1), (.long q2), (.int p3), (.int p4)] maxLocals)) t := fun t k => pre0 t (by
    show Steps p.tables e below (s₁.setTop (mkF m 0 #[.val (.long q1), .second, .val (.long q2), .second, .val (.int p3), .val (.int p4), .unset, .unset, .unset, .unset, .unset] [])) _
    refine XS.iload X0.here hx rfl (hb hby at_0) rfl ?_
    show Steps p.tables e below (s₁.setTop (mkF m 2 #[.val (.long q1), .second, .val (.long q2), .second, .val (.int p3), .val (.int p4), .unset, .unset, .unset, .unset, .unset] [(.int p3)])) _
    refine XS.iconst X0.here hx rfl (hb hby at_2) ?_
    show Steps p.tables e below (s₁.setTop (mkF m 3 #[.val (.long q1), .second, .val (.long q2), .second, .val (.int p3), .val (.int p4), .unset, .unset, .unset, .unset, .unset] [(.int (3 : Int32)), (.int p3)])) _
    refine XS.iand X0.here hx rfl (hb hby at_3) rfl ?_
    show Steps p.tables e below (s₁.setTop (mkF m 4 #[.val (.long q1), .second, .val (.long q2), .second, .val (.int p3), .val (.int p4), .unset, .unset, .unset, .unset, .unset] [(.int (p3 &&& (3 : Int32)))])) _
    rw [← hOF]
    show Steps p.tables e below (s₁.setTop (mkF m 4 #[.val (.long q1), .second, .val (.long q2), .second, .val (.int p3), .val (.int p4), .unset, .unset, .unset, .unset, .unset] [(.int OF)])) _
    refine XS.istore X0.here hx rfl (hb hby at_4) rfl (l' := #[.val (.long q1), .second, .val (.long q2), .second, .val (.int p3), .val (.int p4), .val (.int OF), .unset, .unset, .unset, .unset]) rfl ?_
    show Steps p.tables e below (s₁.setTop (mkF m 6 #[.val (.long q1), .second, .val (.long q2), .second, .val (.int p3), .val (.int p4), .val (.int OF), .unset, .unset, .unset, .unset] [])) _
    refine XS.iload X0.here hx rfl (hb hby at_6) rfl ?_
    show Steps p.tables e below (s₁.setTop (mkF m 8 #[.val (.long q1), .second, .val (.long q2), .second, .val (.int p3), .val (.int p4), .val (.int OF), .unset, .unset, .unset, .unset] [(.int p4)])) _
    refine X0.ldcInt hx hown (mvT hZ (hw _ (List.mem_of_getElem? (i := 0) rfl))) (g := (mkF m 8 #[.val (.long q1), .second, .val (.long q2), .second, .val (.int p3), .val (.int p4), .val (.int OF), .unset, .unset, .unset, .unset] [(.int p4)])) rfl (hb hby at_8) _ ?_
    show Steps p.tables e below (s₁.setTop (mkF m 10 #[.val (.long q1), .second, .val (.long q2), .second, .val (.int p3), .val (.int p4), .val (.int OF), .unset, .unset, .unset, .unset] [(.int (2147483647 : Int32)), (.int p4)])) _
    refine XS.iand X0.here hx rfl (hb hby at_10) rfl ?_
    show Steps p.tables e below (s₁.setTop (mkF m 11 #[.val (.long q1), .second, .val (.long q2), .second, .val (.int p3), .val (.int p4), .val (.int OF), .unset, .unset, .unset, .unset] [(.int (p4 &&& (2147483647 : Int32)))])) _
    refine XS.bipush X0.here hx rfl (hb hby at_11) ?_
    show Steps p.tables e below (s₁.setTop (mkF m 13 #[.val (.long q1), .second, .val (.long q2), .second, .val (.int p3), .val (.int p4), .val (.int OF), .unset, .unset, .unset, .unset] [(.int (9 : Int32)), (.int (p4 &&& (2147483647 : Int32)))])) _
    refine iremM X0 hx rfl (hb hby at_13) rfl (by decide) ?_
    show Steps p.tables e below (s₁.setTop (mkF m 14 #[.val (.long q1), .second, .val (.long q2), .second, .val (.int p3), .val (.int p4), .val (.int OF), .unset, .unset, .unset, .unset] [(.int ((p4 &&& (2147483647 : Int32)) % (9 : Int32)))])) _
    rw [← hLE]
    show Steps p.tables e below (s₁.setTop (mkF m 14 #[.val (.long q1), .second, .val (.long q2), .second, .val (.int p3), .val (.int p4), .val (.int OF), .unset, .unset, .unset, .unset] [(.int LE)])) _
    refine XS.istore X0.here hx rfl (hb hby at_14) rfl (l' := #[.val (.long q1), .second, .val (.long q2), .second, .val (.int p3), .val (.int p4), .val (.int OF), .val (.int LE), .unset, .unset, .unset]) rfl ?_
    show Steps p.tables e below (s₁.setTop (mkF m 16 #[.val (.long q1), .second, .val (.long q2), .second, .val (.int p3), .val (.int p4), .val (.int OF), .val (.int LE), .unset, .unset, .unset] [])) _
    refine XS.bipush X0.here hx rfl (hb hby at_16) ?_
    show Steps p.tables e below (s₁.setTop (mkF m 18 #[.val (.long q1), .second, .val (.long q2), .second, .val (.int p3), .val (.int p4), .val (.int OF), .val (.int LE), .unset, .unset, .unset] [(.int (12 : Int32))])) _
    refine st1 _ ?_
    show Steps p.tables e below (T1.setTop (mkF m 20 #[.val (.long q1), .second, .val (.long q2), .second, .val (.int p3), .val (.int p4), .val (.int OF), .val (.int LE), .unset, .unset, .unset] [(.ref b1)])) _
    refine XS.astore X1.here hx rfl (hb hby at_20) rfl rfl (l' := #[.val (.long q1), .second, .val (.long q2), .second, .val (.int p3), .val (.int p4), .val (.int OF), .val (.int LE), .val (.ref b1), .unset, .unset]) rfl ?_
    show Steps p.tables e below (T1.setTop (mkF m 22 #[.val (.long q1), .second, .val (.long q2), .second, .val (.int p3), .val (.int p4), .val (.int OF), .val (.int LE), .val (.ref b1), .unset, .unset] [])) _
    refine XS.aload X1.here hx rfl (hb hby at_22) rfl rfl ?_
    show Steps p.tables e below (T1.setTop (mkF m 24 #[.val (.long q1), .second, .val (.long q2), .second, .val (.int p3), .val (.int p4), .val (.int OF), .val (.int LE), .val (.ref b1), .unset, .unset] [(.ref b1)])) _
    refine XS.iconst X1.here hx rfl (hb hby at_24) ?_
    show Steps p.tables e below (T1.setTop (mkF m 25 #[.val (.long q1), .second, .val (.long q2), .second, .val (.int p3), .val (.int p4), .val (.int OF), .val (.int LE), .val (.ref b1), .unset, .unset] [(.int (0 : Int32)), (.ref b1)])) _
    refine XS.lloadN X1.here hx rfl (hb hby at_25) rfl ?_
    show Steps p.tables e below (T1.setTop (mkF m 26 #[.val (.long q1), .second, .val (.long q2), .second, .val (.int p3), .val (.int p4), .val (.int OF), .val (.int LE), .val (.ref b1), .unset, .unset] [(.long q2), (.int (0 : Int32)), (.ref b1)])) _
    refine XS.l2i X1.here hx rfl (hb hby at_26) rfl ?_
    show Steps p.tables e below (T1.setTop (mkF m 27 #[.val (.long q1), .second, .val (.long q2), .second, .val (.int p3), .val (.int p4), .val (.int OF), .val (.int LE), .val (.ref b1), .unset, .unset] [(.int (q2.toInt32)), (.int (0 : Int32)), (.ref b1)])) _
    refine XS.i2b X1.here hx rfl (hb hby at_27) rfl ?_
    show Steps p.tables e below (T1.setTop (mkF m 28 #[.val (.long q1), .second, .val (.long q2), .second, .val (.int p3), .val (.int p4), .val (.int OF), .val (.int LE), .val (.ref b1), .unset, .unset] [(.int ((q2.toInt32).toInt8.toInt32)), (.int (0 : Int32)), (.ref b1)])) _
    refine st2 _ ?_
    show Steps p.tables e below (T2.setTop (mkF m 29 #[.val (.long q1), .second, .val (.long q2), .second, .val (.int p3), .val (.int p4), .val (.int OF), .val (.int LE), .val (.ref b1), .unset, .unset] [])) _
    refine XS.aload X2.here hx rfl (hb hby at_29) rfl rfl ?_
    show Steps p.tables e below (T2.setTop (mkF m 31 #[.val (.long q1), .second, .val (.long q2), .second, .val (.int p3), .val (.int p4), .val (.int OF), .val (.int LE), .val (.ref b1), .unset, .unset] [(.ref b1)])) _
    refine XS.iconst X2.here hx rfl (hb hby at_31) ?_
    show Steps p.tables e below (T2.setTop (mkF m 32 #[.val (.long q1), .second, .val (.long q2), .second, .val (.int p3), .val (.int p4), .val (.int OF), .val (.int LE), .val (.ref b1), .unset, .unset] [(.int (1 : Int32)), (.ref b1)])) _
    refine XS.lloadN X2.here hx rfl (hb hby at_32) rfl ?_
    show Steps p.tables e below (T2.setTop (mkF m 33 #[.val (.long q1), .second, .val (.long q2), .second, .val (.int p3), .val (.int p4), .val (.int OF), .val (.int LE), .val (.ref b1), .unset, .unset] [(.long q2), (.int (1 : Int32)), (.ref b1)])) _
    refine XS.bipush X2.here hx rfl (hb hby at_33) ?_
    show Steps p.tables e below (T2.setTop (mkF m 35 #[.val (.long q1), .second, .val (.long q2), .second, .val (.int p3), .val (.int p4), .val (.int OF), .val (.int LE), .val (.ref b1), .unset, .unset] [(.int (8 : Int32)), (.long q2), (.int (1 : Int32)), (.ref b1)])) _
    refine XS.lushr X2.here hx rfl (hb hby at_35) rfl ?_
    show Steps p.tables e below (T2.setTop (mkF m 36 #[.val (.long q1), .second, .val (.long q2), .second, .val (.int p3), .val (.int p4), .val (.int OF), .val (.int LE), .val (.ref b1), .unset, .unset] [(.long ((q2.toUInt64 >>> ((8 : Int32) &&& 0x3f).toInt64.toUInt64).toInt64)), (.int (1 : Int32)), (.ref b1)])) _
    refine XS.l2i X2.here hx rfl (hb hby at_36) rfl ?_
    show Steps p.tables e below (T2.setTop (mkF m 37 #[.val (.long q1), .second, .val (.long q2), .second, .val (.int p3), .val (.int p4), .val (.int OF), .val (.int LE), .val (.ref b1), .unset, .unset] [(.int (((q2.toUInt64 >>> ((8 : Int32) &&& 0x3f).toInt64.toUInt64).toInt64).toInt32)), (.int (1 : Int32)), (.ref b1)])) _
    refine XS.i2b X2.here hx rfl (hb hby at_37) rfl ?_
    show Steps p.tables e below (T2.setTop (mkF m 38 #[.val (.long q1), .second, .val (.long q2), .second, .val (.int p3), .val (.int p4), .val (.int OF), .val (.int LE), .val (.ref b1), .unset, .unset] [(.int ((((q2.toUInt64 >>> ((8 : Int32) &&& 0x3f).toInt64.toUInt64).toInt64).toInt32).toInt8.toInt32)), (.int (1 : Int32)), (.ref b1)])) _
    refine st4 _ ?_
    show Steps p.tables e below (T4.setTop (mkF m 39 #[.val (.long q1), .second, .val (.long q2), .second, .val (.int p3), .val (.int p4), .val (.int OF), .val (.int LE), .val (.ref b1), .unset, .unset] [])) _
    refine XS.aload X4.here hx rfl (hb hby at_39) rfl rfl ?_
    show Steps p.tables e below (T4.setTop (mkF m 41 #[.val (.long q1), .second, .val (.long q2), .second, .val (.int p3), .val (.int p4), .val (.int OF), .val (.int LE), .val (.ref b1), .unset, .unset] [(.ref b1)])) _
    refine XS.iconst X4.here hx rfl (hb hby at_41) ?_
    show Steps p.tables e below (T4.setTop (mkF m 42 #[.val (.long q1), .second, .val (.long q2), .second, .val (.int p3), .val (.int p4), .val (.int OF), .val (.int LE), .val (.ref b1), .unset, .unset] [(.int (2 : Int32)), (.ref b1)])) _
    refine XS.lloadN X4.here hx rfl (hb hby at_42) rfl ?_
    show Steps p.tables e below (T4.setTop (mkF m 43 #[.val (.long q1), .second, .val (.long q2), .second, .val (.int p3), .val (.int p4), .val (.int OF), .val (.int LE), .val (.ref b1), .unset, .unset] [(.long q2), (.int (2 : Int32)), (.ref b1)])) _
    refine XS.bipush X4.here hx rfl (hb hby at_43) ?_
    show Steps p.tables e below (T4.setTop (mkF m 45 #[.val (.long q1), .second, .val (.long q2), .second, .val (.int p3), .val (.int p4), .val (.int OF), .val (.int LE), .val (.ref b1), .unset, .unset] [(.int (16 : Int32)), (.long q2), (.int (2 : Int32)), (.ref b1)])) _
    refine XS.lushr X4.here hx rfl (hb hby at_45) rfl ?_
    show Steps p.tables e below (T4.setTop (mkF m 46 #[.val (.long q1), .second, .val (.long q2), .second, .val (.int p3), .val (.int p4), .val (.int OF), .val (.int LE), .val (.ref b1), .unset, .unset] [(.long ((q2.toUInt64 >>> ((16 : Int32) &&& 0x3f).toInt64.toUInt64).toInt64)), (.int (2 : Int32)), (.ref b1)])) _
    refine XS.l2i X4.here hx rfl (hb hby at_46) rfl ?_
    show Steps p.tables e below (T4.setTop (mkF m 47 #[.val (.long q1), .second, .val (.long q2), .second, .val (.int p3), .val (.int p4), .val (.int OF), .val (.int LE), .val (.ref b1), .unset, .unset] [(.int (((q2.toUInt64 >>> ((16 : Int32) &&& 0x3f).toInt64.toUInt64).toInt64).toInt32)), (.int (2 : Int32)), (.ref b1)])) _
    refine XS.i2b X4.here hx rfl (hb hby at_47) rfl ?_
    show Steps p.tables e below (T4.setTop (mkF m 48 #[.val (.long q1), .second, .val (.long q2), .second, .val (.int p3), .val (.int p4), .val (.int OF), .val (.int LE), .val (.ref b1), .unset, .unset] [(.int ((((q2.toUInt64 >>> ((16 : Int32) &&& 0x3f).toInt64.toUInt64).toInt64).toInt32).toInt8.toInt32)), (.int (2 : Int32)), (.ref b1)])) _
    refine st6 _ ?_
    show Steps p.tables e below (T6.setTop (mkF m 49 #[.val (.long q1), .second, .val (.long q2), .second, .val (.int p3), .val (.int p4), .val (.int OF), .val (.int LE), .val (.ref b1), .unset, .unset] [])) _
    refine XS.aload X6.here hx rfl (hb hby at_49) rfl rfl ?_
    show Steps p.tables e below (T6.setTop (mkF m 51 #[.val (.long q1), .second, .val (.long q2), .second, .val (.int p3), .val (.int p4), .val (.int OF), .val (.int LE), .val (.ref b1), .unset, .unset] [(.ref b1)])) _
    refine XS.iconst X6.here hx rfl (hb hby at_51) ?_
    show Steps p.tables e below (T6.setTop (mkF m 52 #[.val (.long q1), .second, .val (.long q2), .second, .val (.int p3), .val (.int p4), .val (.int OF), .val (.int LE), .val (.ref b1), .unset, .unset] [(.int (3 : Int32)), (.ref b1)])) _
    refine XS.lloadN X6.here hx rfl (hb hby at_52) rfl ?_
    show Steps p.tables e below (T6.setTop (mkF m 53 #[.val (.long q1), .second, .val (.long q2), .second, .val (.int p3), .val (.int p4), .val (.int OF), .val (.int LE), .val (.ref b1), .unset, .unset] [(.long q2), (.int (3 : Int32)), (.ref b1)])) _
    refine XS.bipush X6.here hx rfl (hb hby at_53) ?_
    show Steps p.tables e below (T6.setTop (mkF m 55 #[.val (.long q1), .second, .val (.long q2), .second, .val (.int p3), .val (.int p4), .val (.int OF), .val (.int LE), .val (.ref b1), .unset, .unset] [(.int (24 : Int32)), (.long q2), (.int (3 : Int32)), (.ref b1)])) _
    refine XS.lushr X6.here hx rfl (hb hby at_55) rfl ?_
    show Steps p.tables e below (T6.setTop (mkF m 56 #[.val (.long q1), .second, .val (.long q2), .second, .val (.int p3), .val (.int p4), .val (.int OF), .val (.int LE), .val (.ref b1), .unset, .unset] [(.long ((q2.toUInt64 >>> ((24 : Int32) &&& 0x3f).toInt64.toUInt64).toInt64)), (.int (3 : Int32)), (.ref b1)])) _
    refine XS.l2i X6.here hx rfl (hb hby at_56) rfl ?_
    show Steps p.tables e below (T6.setTop (mkF m 57 #[.val (.long q1), .second, .val (.long q2), .second, .val (.int p3), .val (.int p4), .val (.int OF), .val (.int LE), .val (.ref b1), .unset, .unset] [(.int (((q2.toUInt64 >>> ((24 : Int32) &&& 0x3f).toInt64.toUInt64).toInt64).toInt32)), (.int (3 : Int32)), (.ref b1)])) _
    refine XS.i2b X6.here hx rfl (hb hby at_57) rfl ?_
    show Steps p.tables e below (T6.setTop (mkF m 58 #[.val (.long q1), .second, .val (.long q2), .second, .val (.int p3), .val (.int p4), .val (.int OF), .val (.int LE), .val (.ref b1), .unset, .unset] [(.int ((((q2.toUInt64 >>> ((24 : Int32) &&& 0x3f).toInt64.toUInt64).toInt64).toInt32).toInt8.toInt32)), (.int (3 : Int32)), (.ref b1)])) _
    refine st8 _ ?_
    show Steps p.tables e below (T8.setTop (mkF m 59 #[.val (.long q1), .second, .val (.long q2), .second, .val (.int p3), .val (.int p4), .val (.int OF), .val (.int LE), .val (.ref b1), .unset, .unset] [])) _
    refine XS.aload X8.here hx rfl (hb hby at_59) rfl rfl ?_
    show Steps p.tables e below (T8.setTop (mkF m 61 #[.val (.long q1), .second, .val (.long q2), .second, .val (.int p3), .val (.int p4), .val (.int OF), .val (.int LE), .val (.ref b1), .unset, .unset] [(.ref b1)])) _
    refine XS.iconst X8.here hx rfl (hb hby at_61) ?_
    show Steps p.tables e below (T8.setTop (mkF m 62 #[.val (.long q1), .second, .val (.long q2), .second, .val (.int p3), .val (.int p4), .val (.int OF), .val (.int LE), .val (.ref b1), .unset, .unset] [(.int (4 : Int32)), (.ref b1)])) _
    refine XS.lloadN X8.here hx rfl (hb hby at_62) rfl ?_
    show Steps p.tables e below (T8.setTop (mkF m 63 #[.val (.long q1), .second, .val (.long q2), .second, .val (.int p3), .val (.int p4), .val (.int OF), .val (.int LE), .val (.ref b1), .unset, .unset] [(.long q2), (.int (4 : Int32)), (.ref b1)])) _
    refine XS.bipush X8.here hx rfl (hb hby at_63) ?_
    show Steps p.tables e below (T8.setTop (mkF m 65 #[.val (.long q1), .second, .val (.long q2), .second, .val (.int p3), .val (.int p4), .val (.int OF), .val (.int LE), .val (.ref b1), .unset, .unset] [(.int (32 : Int32)), (.long q2), (.int (4 : Int32)), (.ref b1)])) _
    refine XS.lushr X8.here hx rfl (hb hby at_65) rfl ?_
    show Steps p.tables e below (T8.setTop (mkF m 66 #[.val (.long q1), .second, .val (.long q2), .second, .val (.int p3), .val (.int p4), .val (.int OF), .val (.int LE), .val (.ref b1), .unset, .unset] [(.long ((q2.toUInt64 >>> ((32 : Int32) &&& 0x3f).toInt64.toUInt64).toInt64)), (.int (4 : Int32)), (.ref b1)])) _
    refine XS.l2i X8.here hx rfl (hb hby at_66) rfl ?_
    show Steps p.tables e below (T8.setTop (mkF m 67 #[.val (.long q1), .second, .val (.long q2), .second, .val (.int p3), .val (.int p4), .val (.int OF), .val (.int LE), .val (.ref b1), .unset, .unset] [(.int (((q2.toUInt64 >>> ((32 : Int32) &&& 0x3f).toInt64.toUInt64).toInt64).toInt32)), (.int (4 : Int32)), (.ref b1)])) _
    refine XS.i2b X8.here hx rfl (hb hby at_67) rfl ?_
    show Steps p.tables e below (T8.setTop (mkF m 68 #[.val (.long q1), .second, .val (.long q2), .second, .val (.int p3), .val (.int p4), .val (.int OF), .val (.int LE), .val (.ref b1), .unset, .unset] [(.int ((((q2.toUInt64 >>> ((32 : Int32) &&& 0x3f).toInt64.toUInt64).toInt64).toInt32).toInt8.toInt32)), (.int (4 : Int32)), (.ref b1)])) _
    refine st10 _ ?_
    show Steps p.tables e below (T10.setTop (mkF m 69 #[.val (.long q1), .second, .val (.long q2), .second, .val (.int p3), .val (.int p4), .val (.int OF), .val (.int LE), .val (.ref b1), .unset, .unset] [])) _
    refine XS.aload X10.here hx rfl (hb hby at_69) rfl rfl ?_
    show Steps p.tables e below (T10.setTop (mkF m 71 #[.val (.long q1), .second, .val (.long q2), .second, .val (.int p3), .val (.int p4), .val (.int OF), .val (.int LE), .val (.ref b1), .unset, .unset] [(.ref b1)])) _
    refine XS.iconst X10.here hx rfl (hb hby at_71) ?_
    show Steps p.tables e below (T10.setTop (mkF m 72 #[.val (.long q1), .second, .val (.long q2), .second, .val (.int p3), .val (.int p4), .val (.int OF), .val (.int LE), .val (.ref b1), .unset, .unset] [(.int (5 : Int32)), (.ref b1)])) _
    refine XS.lloadN X10.here hx rfl (hb hby at_72) rfl ?_
    show Steps p.tables e below (T10.setTop (mkF m 73 #[.val (.long q1), .second, .val (.long q2), .second, .val (.int p3), .val (.int p4), .val (.int OF), .val (.int LE), .val (.ref b1), .unset, .unset] [(.long q2), (.int (5 : Int32)), (.ref b1)])) _
    refine XS.bipush X10.here hx rfl (hb hby at_73) ?_
    show Steps p.tables e below (T10.setTop (mkF m 75 #[.val (.long q1), .second, .val (.long q2), .second, .val (.int p3), .val (.int p4), .val (.int OF), .val (.int LE), .val (.ref b1), .unset, .unset] [(.int (40 : Int32)), (.long q2), (.int (5 : Int32)), (.ref b1)])) _
    refine XS.lushr X10.here hx rfl (hb hby at_75) rfl ?_
    show Steps p.tables e below (T10.setTop (mkF m 76 #[.val (.long q1), .second, .val (.long q2), .second, .val (.int p3), .val (.int p4), .val (.int OF), .val (.int LE), .val (.ref b1), .unset, .unset] [(.long ((q2.toUInt64 >>> ((40 : Int32) &&& 0x3f).toInt64.toUInt64).toInt64)), (.int (5 : Int32)), (.ref b1)])) _
    refine XS.l2i X10.here hx rfl (hb hby at_76) rfl ?_
    show Steps p.tables e below (T10.setTop (mkF m 77 #[.val (.long q1), .second, .val (.long q2), .second, .val (.int p3), .val (.int p4), .val (.int OF), .val (.int LE), .val (.ref b1), .unset, .unset] [(.int (((q2.toUInt64 >>> ((40 : Int32) &&& 0x3f).toInt64.toUInt64).toInt64).toInt32)), (.int (5 : Int32)), (.ref b1)])) _
    refine XS.i2b X10.here hx rfl (hb hby at_77) rfl ?_
    show Steps p.tables e below (T10.setTop (mkF m 78 #[.val (.long q1), .second, .val (.long q2), .second, .val (.int p3), .val (.int p4), .val (.int OF), .val (.int LE), .val (.ref b1), .unset, .unset] [(.int ((((q2.toUInt64 >>> ((40 : Int32) &&& 0x3f).toInt64.toUInt64).toInt64).toInt32).toInt8.toInt32)), (.int (5 : Int32)), (.ref b1)])) _
    refine st12 _ ?_
    show Steps p.tables e below (T12.setTop (mkF m 79 #[.val (.long q1), .second, .val (.long q2), .second, .val (.int p3), .val (.int p4), .val (.int OF), .val (.int LE), .val (.ref b1), .unset, .unset] [])) _
    refine XS.aload X12.here hx rfl (hb hby at_79) rfl rfl ?_
    show Steps p.tables e below (T12.setTop (mkF m 81 #[.val (.long q1), .second, .val (.long q2), .second, .val (.int p3), .val (.int p4), .val (.int OF), .val (.int LE), .val (.ref b1), .unset, .unset] [(.ref b1)])) _
    refine XS.bipush X12.here hx rfl (hb hby at_81) ?_
    show Steps p.tables e below (T12.setTop (mkF m 83 #[.val (.long q1), .second, .val (.long q2), .second, .val (.int p3), .val (.int p4), .val (.int OF), .val (.int LE), .val (.ref b1), .unset, .unset] [(.int (6 : Int32)), (.ref b1)])) _
    refine XS.lloadN X12.here hx rfl (hb hby at_83) rfl ?_
    show Steps p.tables e below (T12.setTop (mkF m 84 #[.val (.long q1), .second, .val (.long q2), .second, .val (.int p3), .val (.int p4), .val (.int OF), .val (.int LE), .val (.ref b1), .unset, .unset] [(.long q2), (.int (6 : Int32)), (.ref b1)])) _
    refine XS.bipush X12.here hx rfl (hb hby at_84) ?_
    show Steps p.tables e below (T12.setTop (mkF m 86 #[.val (.long q1), .second, .val (.long q2), .second, .val (.int p3), .val (.int p4), .val (.int OF), .val (.int LE), .val (.ref b1), .unset, .unset] [(.int (48 : Int32)), (.long q2), (.int (6 : Int32)), (.ref b1)])) _
    refine XS.lushr X12.here hx rfl (hb hby at_86) rfl ?_
    show Steps p.tables e below (T12.setTop (mkF m 87 #[.val (.long q1), .second, .val (.long q2), .second, .val (.int p3), .val (.int p4), .val (.int OF), .val (.int LE), .val (.ref b1), .unset, .unset] [(.long ((q2.toUInt64 >>> ((48 : Int32) &&& 0x3f).toInt64.toUInt64).toInt64)), (.int (6 : Int32)), (.ref b1)])) _
    refine XS.l2i X12.here hx rfl (hb hby at_87) rfl ?_
    show Steps p.tables e below (T12.setTop (mkF m 88 #[.val (.long q1), .second, .val (.long q2), .second, .val (.int p3), .val (.int p4), .val (.int OF), .val (.int LE), .val (.ref b1), .unset, .unset] [(.int (((q2.toUInt64 >>> ((48 : Int32) &&& 0x3f).toInt64.toUInt64).toInt64).toInt32)), (.int (6 : Int32)), (.ref b1)])) _
    refine XS.i2b X12.here hx rfl (hb hby at_88) rfl ?_
    show Steps p.tables e below (T12.setTop (mkF m 89 #[.val (.long q1), .second, .val (.long q2), .second, .val (.int p3), .val (.int p4), .val (.int OF), .val (.int LE), .val (.ref b1), .unset, .unset] [(.int ((((q2.toUInt64 >>> ((48 : Int32) &&& 0x3f).toInt64.toUInt64).toInt64).toInt32).toInt8.toInt32)), (.int (6 : Int32)), (.ref b1)])) _
    refine st14 _ ?_
    show Steps p.tables e below (T14.setTop (mkF m 90 #[.val (.long q1), .second, .val (.long q2), .second, .val (.int p3), .val (.int p4), .val (.int OF), .val (.int LE), .val (.ref b1), .unset, .unset] [])) _
    refine XS.aload X14.here hx rfl (hb hby at_90) rfl rfl ?_
    show Steps p.tables e below (T14.setTop (mkF m 92 #[.val (.long q1), .second, .val (.long q2), .second, .val (.int p3), .val (.int p4), .val (.int OF), .val (.int LE), .val (.ref b1), .unset, .unset] [(.ref b1)])) _
    refine XS.bipush X14.here hx rfl (hb hby at_92) ?_
    show Steps p.tables e below (T14.setTop (mkF m 94 #[.val (.long q1), .second, .val (.long q2), .second, .val (.int p3), .val (.int p4), .val (.int OF), .val (.int LE), .val (.ref b1), .unset, .unset] [(.int (7 : Int32)), (.ref b1)])) _
    refine XS.lloadN X14.here hx rfl (hb hby at_94) rfl ?_
    show Steps p.tables e below (T14.setTop (mkF m 95 #[.val (.long q1), .second, .val (.long q2), .second, .val (.int p3), .val (.int p4), .val (.int OF), .val (.int LE), .val (.ref b1), .unset, .unset] [(.long q2), (.int (7 : Int32)), (.ref b1)])) _
    refine XS.bipush X14.here hx rfl (hb hby at_95) ?_
    show Steps p.tables e below (T14.setTop (mkF m 97 #[.val (.long q1), .second, .val (.long q2), .second, .val (.int p3), .val (.int p4), .val (.int OF), .val (.int LE), .val (.ref b1), .unset, .unset] [(.int (56 : Int32)), (.long q2), (.int (7 : Int32)), (.ref b1)])) _
    refine XS.lushr X14.here hx rfl (hb hby at_97) rfl ?_
    show Steps p.tables e below (T14.setTop (mkF m 98 #[.val (.long q1), .second, .val (.long q2), .second, .val (.int p3), .val (.int p4), .val (.int OF), .val (.int LE), .val (.ref b1), .unset, .unset] [(.long ((q2.toUInt64 >>> ((56 : Int32) &&& 0x3f).toInt64.toUInt64).toInt64)), (.int (7 : Int32)), (.ref b1)])) _
    refine XS.l2i X14.here hx rfl (hb hby at_98) rfl ?_
    show Steps p.tables e below (T14.setTop (mkF m 99 #[.val (.long q1), .second, .val (.long q2), .second, .val (.int p3), .val (.int p4), .val (.int OF), .val (.int LE), .val (.ref b1), .unset, .unset] [(.int (((q2.toUInt64 >>> ((56 : Int32) &&& 0x3f).toInt64.toUInt64).toInt64).toInt32)), (.int (7 : Int32)), (.ref b1)])) _
    refine XS.i2b X14.here hx rfl (hb hby at_99) rfl ?_
    show Steps p.tables e below (T14.setTop (mkF m 100 #[.val (.long q1), .second, .val (.long q2), .second, .val (.int p3), .val (.int p4), .val (.int OF), .val (.int LE), .val (.ref b1), .unset, .unset] [(.int ((((q2.toUInt64 >>> ((56 : Int32) &&& 0x3f).toInt64.toUInt64).toInt64).toInt32).toInt8.toInt32)), (.int (7 : Int32)), (.ref b1)])) _
    refine st16 _ ?_
    show Steps p.tables e below (T16.setTop (mkF m 101 #[.val (.long q1), .second, .val (.long q2), .second, .val (.int p3), .val (.int p4), .val (.int OF), .val (.int LE), .val (.ref b1), .unset, .unset] [])) _
    refine XS.aload X16.here hx rfl (hb hby at_101) rfl rfl ?_
    show Steps p.tables e below (T16.setTop (mkF m 103 #[.val (.long q1), .second, .val (.long q2), .second, .val (.int p3), .val (.int p4), .val (.int OF), .val (.int LE), .val (.ref b1), .unset, .unset] [(.ref b1)])) _
    refine XS.bipush X16.here hx rfl (hb hby at_103) ?_
    show Steps p.tables e below (T16.setTop (mkF m 105 #[.val (.long q1), .second, .val (.long q2), .second, .val (.int p3), .val (.int p4), .val (.int OF), .val (.int LE), .val (.ref b1), .unset, .unset] [(.int (8 : Int32)), (.ref b1)])) _
    refine XS.lloadN X16.here hx rfl (hb hby at_105) rfl ?_
    show Steps p.tables e below (T16.setTop (mkF m 106 #[.val (.long q1), .second, .val (.long q2), .second, .val (.int p3), .val (.int p4), .val (.int OF), .val (.int LE), .val (.ref b1), .unset, .unset] [(.long q2), (.int (8 : Int32)), (.ref b1)])) _
    refine XS.iconst X16.here hx rfl (hb hby at_106) ?_
    show Steps p.tables e below (T16.setTop (mkF m 107 #[.val (.long q1), .second, .val (.long q2), .second, .val (.int p3), .val (.int p4), .val (.int OF), .val (.int LE), .val (.ref b1), .unset, .unset] [(.int (4 : Int32)), (.long q2), (.int (8 : Int32)), (.ref b1)])) _
    refine XS.lushr X16.here hx rfl (hb hby at_107) rfl ?_
    show Steps p.tables e below (T16.setTop (mkF m 108 #[.val (.long q1), .second, .val (.long q2), .second, .val (.int p3), .val (.int p4), .val (.int OF), .val (.int LE), .val (.ref b1), .unset, .unset] [(.long ((q2.toUInt64 >>> ((4 : Int32) &&& 0x3f).toInt64.toUInt64).toInt64)), (.int (8 : Int32)), (.ref b1)])) _
    refine XS.l2i X16.here hx rfl (hb hby at_108) rfl ?_
    show Steps p.tables e below (T16.setTop (mkF m 109 #[.val (.long q1), .second, .val (.long q2), .second, .val (.int p3), .val (.int p4), .val (.int OF), .val (.int LE), .val (.ref b1), .unset, .unset] [(.int (((q2.toUInt64 >>> ((4 : Int32) &&& 0x3f).toInt64.toUInt64).toInt64).toInt32)), (.int (8 : Int32)), (.ref b1)])) _
    refine XS.i2b X16.here hx rfl (hb hby at_109) rfl ?_
    show Steps p.tables e below (T16.setTop (mkF m 110 #[.val (.long q1), .second, .val (.long q2), .second, .val (.int p3), .val (.int p4), .val (.int OF), .val (.int LE), .val (.ref b1), .unset, .unset] [(.int ((((q2.toUInt64 >>> ((4 : Int32) &&& 0x3f).toInt64.toUInt64).toInt64).toInt32).toInt8.toInt32)), (.int (8 : Int32)), (.ref b1)])) _
    refine st18 _ ?_
    show Steps p.tables e below (T18.setTop (mkF m 111 #[.val (.long q1), .second, .val (.long q2), .second, .val (.int p3), .val (.int p4), .val (.int OF), .val (.int LE), .val (.ref b1), .unset, .unset] [])) _
    refine XS.aload X18.here hx rfl (hb hby at_111) rfl rfl ?_
    show Steps p.tables e below (T18.setTop (mkF m 113 #[.val (.long q1), .second, .val (.long q2), .second, .val (.int p3), .val (.int p4), .val (.int OF), .val (.int LE), .val (.ref b1), .unset, .unset] [(.ref b1)])) _
    refine XS.bipush X18.here hx rfl (hb hby at_113) ?_
    show Steps p.tables e below (T18.setTop (mkF m 115 #[.val (.long q1), .second, .val (.long q2), .second, .val (.int p3), .val (.int p4), .val (.int OF), .val (.int LE), .val (.ref b1), .unset, .unset] [(.int (9 : Int32)), (.ref b1)])) _
    refine XS.lloadN X18.here hx rfl (hb hby at_115) rfl ?_
    show Steps p.tables e below (T18.setTop (mkF m 116 #[.val (.long q1), .second, .val (.long q2), .second, .val (.int p3), .val (.int p4), .val (.int OF), .val (.int LE), .val (.ref b1), .unset, .unset] [(.long q2), (.int (9 : Int32)), (.ref b1)])) _
    refine XS.bipush X18.here hx rfl (hb hby at_116) ?_
    show Steps p.tables e below (T18.setTop (mkF m 118 #[.val (.long q1), .second, .val (.long q2), .second, .val (.int p3), .val (.int p4), .val (.int OF), .val (.int LE), .val (.ref b1), .unset, .unset] [(.int (12 : Int32)), (.long q2), (.int (9 : Int32)), (.ref b1)])) _
    refine XS.lushr X18.here hx rfl (hb hby at_118) rfl ?_
    show Steps p.tables e below (T18.setTop (mkF m 119 #[.val (.long q1), .second, .val (.long q2), .second, .val (.int p3), .val (.int p4), .val (.int OF), .val (.int LE), .val (.ref b1), .unset, .unset] [(.long ((q2.toUInt64 >>> ((12 : Int32) &&& 0x3f).toInt64.toUInt64).toInt64)), (.int (9 : Int32)), (.ref b1)])) _
    refine XS.l2i X18.here hx rfl (hb hby at_119) rfl ?_
    show Steps p.tables e below (T18.setTop (mkF m 120 #[.val (.long q1), .second, .val (.long q2), .second, .val (.int p3), .val (.int p4), .val (.int OF), .val (.int LE), .val (.ref b1), .unset, .unset] [(.int (((q2.toUInt64 >>> ((12 : Int32) &&& 0x3f).toInt64.toUInt64).toInt64).toInt32)), (.int (9 : Int32)), (.ref b1)])) _
    refine XS.i2b X18.here hx rfl (hb hby at_120) rfl ?_
    show Steps p.tables e below (T18.setTop (mkF m 121 #[.val (.long q1), .second, .val (.long q2), .second, .val (.int p3), .val (.int p4), .val (.int OF), .val (.int LE), .val (.ref b1), .unset, .unset] [(.int ((((q2.toUInt64 >>> ((12 : Int32) &&& 0x3f).toInt64.toUInt64).toInt64).toInt32).toInt8.toInt32)), (.int (9 : Int32)), (.ref b1)])) _
    refine st20 _ ?_
    show Steps p.tables e below (T20.setTop (mkF m 122 #[.val (.long q1), .second, .val (.long q2), .second, .val (.int p3), .val (.int p4), .val (.int OF), .val (.int LE), .val (.ref b1), .unset, .unset] [])) _
    refine XS.aload X20.here hx rfl (hb hby at_122) rfl rfl ?_
    show Steps p.tables e below (T20.setTop (mkF m 124 #[.val (.long q1), .second, .val (.long q2), .second, .val (.int p3), .val (.int p4), .val (.int OF), .val (.int LE), .val (.ref b1), .unset, .unset] [(.ref b1)])) _
    refine XS.bipush X20.here hx rfl (hb hby at_124) ?_
    show Steps p.tables e below (T20.setTop (mkF m 126 #[.val (.long q1), .second, .val (.long q2), .second, .val (.int p3), .val (.int p4), .val (.int OF), .val (.int LE), .val (.ref b1), .unset, .unset] [(.int (10 : Int32)), (.ref b1)])) _
    refine XS.lloadN X20.here hx rfl (hb hby at_126) rfl ?_
    show Steps p.tables e below (T20.setTop (mkF m 127 #[.val (.long q1), .second, .val (.long q2), .second, .val (.int p3), .val (.int p4), .val (.int OF), .val (.int LE), .val (.ref b1), .unset, .unset] [(.long q2), (.int (10 : Int32)), (.ref b1)])) _
    refine XS.bipush X20.here hx rfl (hb hby at_127) ?_
    show Steps p.tables e below (T20.setTop (mkF m 129 #[.val (.long q1), .second, .val (.long q2), .second, .val (.int p3), .val (.int p4), .val (.int OF), .val (.int LE), .val (.ref b1), .unset, .unset] [(.int (20 : Int32)), (.long q2), (.int (10 : Int32)), (.ref b1)])) _
    refine XS.lushr X20.here hx rfl (hb hby at_129) rfl ?_
    show Steps p.tables e below (T20.setTop (mkF m 130 #[.val (.long q1), .second, .val (.long q2), .second, .val (.int p3), .val (.int p4), .val (.int OF), .val (.int LE), .val (.ref b1), .unset, .unset] [(.long ((q2.toUInt64 >>> ((20 : Int32) &&& 0x3f).toInt64.toUInt64).toInt64)), (.int (10 : Int32)), (.ref b1)])) _
    refine XS.l2i X20.here hx rfl (hb hby at_130) rfl ?_
    show Steps p.tables e below (T20.setTop (mkF m 131 #[.val (.long q1), .second, .val (.long q2), .second, .val (.int p3), .val (.int p4), .val (.int OF), .val (.int LE), .val (.ref b1), .unset, .unset] [(.int (((q2.toUInt64 >>> ((20 : Int32) &&& 0x3f).toInt64.toUInt64).toInt64).toInt32)), (.int (10 : Int32)), (.ref b1)])) _
    refine XS.i2b X20.here hx rfl (hb hby at_131) rfl ?_
    show Steps p.tables e below (T20.setTop (mkF m 132 #[.val (.long q1), .second, .val (.long q2), .second, .val (.int p3), .val (.int p4), .val (.int OF), .val (.int LE), .val (.ref b1), .unset, .unset] [(.int ((((q2.toUInt64 >>> ((20 : Int32) &&& 0x3f).toInt64.toUInt64).toInt64).toInt32).toInt8.toInt32)), (.int (10 : Int32)), (.ref b1)])) _
    refine st22 _ ?_
    show Steps p.tables e below (T22.setTop (mkF m 133 #[.val (.long q1), .second, .val (.long q2), .second, .val (.int p3), .val (.int p4), .val (.int OF), .val (.int LE), .val (.ref b1), .unset, .unset] [])) _
    refine XS.aload X22.here hx rfl (hb hby at_133) rfl rfl ?_
    show Steps p.tables e below (T22.setTop (mkF m 135 #[.val (.long q1), .second, .val (.long q2), .second, .val (.int p3), .val (.int p4), .val (.int OF), .val (.int LE), .val (.ref b1), .unset, .unset] [(.ref b1)])) _
    refine XS.bipush X22.here hx rfl (hb hby at_135) ?_
    show Steps p.tables e below (T22.setTop (mkF m 137 #[.val (.long q1), .second, .val (.long q2), .second, .val (.int p3), .val (.int p4), .val (.int OF), .val (.int LE), .val (.ref b1), .unset, .unset] [(.int (11 : Int32)), (.ref b1)])) _
    refine XS.lloadN X22.here hx rfl (hb hby at_137) rfl ?_
    show Steps p.tables e below (T22.setTop (mkF m 138 #[.val (.long q1), .second, .val (.long q2), .second, .val (.int p3), .val (.int p4), .val (.int OF), .val (.int LE), .val (.ref b1), .unset, .unset] [(.long q2), (.int (11 : Int32)), (.ref b1)])) _
    refine XS.bipush X22.here hx rfl (hb hby at_138) ?_
    show Steps p.tables e below (T22.setTop (mkF m 140 #[.val (.long q1), .second, .val (.long q2), .second, .val (.int p3), .val (.int p4), .val (.int OF), .val (.int LE), .val (.ref b1), .unset, .unset] [(.int (28 : Int32)), (.long q2), (.int (11 : Int32)), (.ref b1)])) _
    refine XS.lushr X22.here hx rfl (hb hby at_140) rfl ?_
    show Steps p.tables e below (T22.setTop (mkF m 141 #[.val (.long q1), .second, .val (.long q2), .second, .val (.int p3), .val (.int p4), .val (.int OF), .val (.int LE), .val (.ref b1), .unset, .unset] [(.long ((q2.toUInt64 >>> ((28 : Int32) &&& 0x3f).toInt64.toUInt64).toInt64)), (.int (11 : Int32)), (.ref b1)])) _
    refine XS.l2i X22.here hx rfl (hb hby at_141) rfl ?_
    show Steps p.tables e below (T22.setTop (mkF m 142 #[.val (.long q1), .second, .val (.long q2), .second, .val (.int p3), .val (.int p4), .val (.int OF), .val (.int LE), .val (.ref b1), .unset, .unset] [(.int (((q2.toUInt64 >>> ((28 : Int32) &&& 0x3f).toInt64.toUInt64).toInt64).toInt32)), (.int (11 : Int32)), (.ref b1)])) _
    refine XS.i2b X22.here hx rfl (hb hby at_142) rfl ?_
    show Steps p.tables e below (T22.setTop (mkF m 143 #[.val (.long q1), .second, .val (.long q2), .second, .val (.int p3), .val (.int p4), .val (.int OF), .val (.int LE), .val (.ref b1), .unset, .unset] [(.int ((((q2.toUInt64 >>> ((28 : Int32) &&& 0x3f).toInt64.toUInt64).toInt64).toInt32).toInt8.toInt32)), (.int (11 : Int32)), (.ref b1)])) _
    refine st24 _ ?_
    show Steps p.tables e below (T24.setTop (mkF m 144 #[.val (.long q1), .second, .val (.long q2), .second, .val (.int p3), .val (.int p4), .val (.int OF), .val (.int LE), .val (.ref b1), .unset, .unset] [])) _
    refine XS.aload X24.here hx rfl (hb hby at_144) rfl rfl ?_
    show Steps p.tables e below (T24.setTop (mkF m 146 #[.val (.long q1), .second, .val (.long q2), .second, .val (.int p3), .val (.int p4), .val (.int OF), .val (.int LE), .val (.ref b1), .unset, .unset] [(.ref b1)])) _
    refine XS.iload X24.here hx rfl (hb hby at_146) rfl ?_
    show Steps p.tables e below (T24.setTop (mkF m 148 #[.val (.long q1), .second, .val (.long q2), .second, .val (.int p3), .val (.int p4), .val (.int OF), .val (.int LE), .val (.ref b1), .unset, .unset] [(.int OF), (.ref b1)])) _
    refine XS.lloadN X24.here hx rfl (hb hby at_148) rfl ?_
    show Steps p.tables e below (T24.setTop (mkF m 149 #[.val (.long q1), .second, .val (.long q2), .second, .val (.int p3), .val (.int p4), .val (.int OF), .val (.int LE), .val (.ref b1), .unset, .unset] [(.long q1), (.int OF), (.ref b1)])) _
    refine XS.l2i X24.here hx rfl (hb hby at_149) rfl ?_
    show Steps p.tables e below (T24.setTop (mkF m 150 #[.val (.long q1), .second, .val (.long q2), .second, .val (.int p3), .val (.int p4), .val (.int OF), .val (.int LE), .val (.ref b1), .unset, .unset] [(.int (q1.toInt32)), (.int OF), (.ref b1)])) _
    refine XS.i2b X24.here hx rfl (hb hby at_150) rfl ?_
    show Steps p.tables e below (T24.setTop (mkF m 151 #[.val (.long q1), .second, .val (.long q2), .second, .val (.int p3), .val (.int p4), .val (.int OF), .val (.int LE), .val (.ref b1), .unset, .unset] [(.int ((q1.toInt32).toInt8.toInt32)), (.int OF), (.ref b1)])) _
    refine st26 _ ?_
    show Steps p.tables e below (T26.setTop (mkF m 152 #[.val (.long q1), .second, .val (.long q2), .second, .val (.int p3), .val (.int p4), .val (.int OF), .val (.int LE), .val (.ref b1), .unset, .unset] [])) _
    refine XS.aload X26.here hx rfl (hb hby at_152) rfl rfl ?_
    show Steps p.tables e below (T26.setTop (mkF m 154 #[.val (.long q1), .second, .val (.long q2), .second, .val (.int p3), .val (.int p4), .val (.int OF), .val (.int LE), .val (.ref b1), .unset, .unset] [(.ref b1)])) _
    refine XS.iload X26.here hx rfl (hb hby at_154) rfl ?_
    show Steps p.tables e below (T26.setTop (mkF m 156 #[.val (.long q1), .second, .val (.long q2), .second, .val (.int p3), .val (.int p4), .val (.int OF), .val (.int LE), .val (.ref b1), .unset, .unset] [(.int OF), (.ref b1)])) _
    refine XS.iconst X26.here hx rfl (hb hby at_156) ?_
    show Steps p.tables e below (T26.setTop (mkF m 157 #[.val (.long q1), .second, .val (.long q2), .second, .val (.int p3), .val (.int p4), .val (.int OF), .val (.int LE), .val (.ref b1), .unset, .unset] [(.int (1 : Int32)), (.int OF), (.ref b1)])) _
    refine XS.iadd X26.here hx rfl (hb hby at_157) rfl ?_
    show Steps p.tables e below (T26.setTop (mkF m 158 #[.val (.long q1), .second, .val (.long q2), .second, .val (.int p3), .val (.int p4), .val (.int OF), .val (.int LE), .val (.ref b1), .unset, .unset] [(.int (OF + (1 : Int32))), (.ref b1)])) _
    refine XS.lloadN X26.here hx rfl (hb hby at_158) rfl ?_
    show Steps p.tables e below (T26.setTop (mkF m 159 #[.val (.long q1), .second, .val (.long q2), .second, .val (.int p3), .val (.int p4), .val (.int OF), .val (.int LE), .val (.ref b1), .unset, .unset] [(.long q1), (.int (OF + (1 : Int32))), (.ref b1)])) _
    refine XS.bipush X26.here hx rfl (hb hby at_159) ?_
    show Steps p.tables e below (T26.setTop (mkF m 161 #[.val (.long q1), .second, .val (.long q2), .second, .val (.int p3), .val (.int p4), .val (.int OF), .val (.int LE), .val (.ref b1), .unset, .unset] [(.int (8 : Int32)), (.long q1), (.int (OF + (1 : Int32))), (.ref b1)])) _
    refine XS.lushr X26.here hx rfl (hb hby at_161) rfl ?_
    show Steps p.tables e below (T26.setTop (mkF m 162 #[.val (.long q1), .second, .val (.long q2), .second, .val (.int p3), .val (.int p4), .val (.int OF), .val (.int LE), .val (.ref b1), .unset, .unset] [(.long ((q1.toUInt64 >>> ((8 : Int32) &&& 0x3f).toInt64.toUInt64).toInt64)), (.int (OF + (1 : Int32))), (.ref b1)])) _
    refine XS.l2i X26.here hx rfl (hb hby at_162) rfl ?_
    show Steps p.tables e below (T26.setTop (mkF m 163 #[.val (.long q1), .second, .val (.long q2), .second, .val (.int p3), .val (.int p4), .val (.int OF), .val (.int LE), .val (.ref b1), .unset, .unset] [(.int (((q1.toUInt64 >>> ((8 : Int32) &&& 0x3f).toInt64.toUInt64).toInt64).toInt32)), (.int (OF + (1 : Int32))), (.ref b1)])) _
    refine XS.i2b X26.here hx rfl (hb hby at_163) rfl ?_
    show Steps p.tables e below (T26.setTop (mkF m 164 #[.val (.long q1), .second, .val (.long q2), .second, .val (.int p3), .val (.int p4), .val (.int OF), .val (.int LE), .val (.ref b1), .unset, .unset] [(.int ((((q1.toUInt64 >>> ((8 : Int32) &&& 0x3f).toInt64.toUInt64).toInt64).toInt32).toInt8.toInt32)), (.int (OF + (1 : Int32))), (.ref b1)])) _
    refine st28 _ ?_
    show Steps p.tables e below (T28.setTop (mkF m 165 #[.val (.long q1), .second, .val (.long q2), .second, .val (.int p3), .val (.int p4), .val (.int OF), .val (.int LE), .val (.ref b1), .unset, .unset] [])) _
    refine XS.aload X28.here hx rfl (hb hby at_165) rfl rfl ?_
    show Steps p.tables e below (T28.setTop (mkF m 167 #[.val (.long q1), .second, .val (.long q2), .second, .val (.int p3), .val (.int p4), .val (.int OF), .val (.int LE), .val (.ref b1), .unset, .unset] [(.ref b1)])) _
    refine XS.iload X28.here hx rfl (hb hby at_167) rfl ?_
    show Steps p.tables e below (T28.setTop (mkF m 169 #[.val (.long q1), .second, .val (.long q2), .second, .val (.int p3), .val (.int p4), .val (.int OF), .val (.int LE), .val (.ref b1), .unset, .unset] [(.int OF), (.ref b1)])) _
    refine XS.iconst X28.here hx rfl (hb hby at_169) ?_
    show Steps p.tables e below (T28.setTop (mkF m 170 #[.val (.long q1), .second, .val (.long q2), .second, .val (.int p3), .val (.int p4), .val (.int OF), .val (.int LE), .val (.ref b1), .unset, .unset] [(.int (2 : Int32)), (.int OF), (.ref b1)])) _
    refine XS.iadd X28.here hx rfl (hb hby at_170) rfl ?_
    show Steps p.tables e below (T28.setTop (mkF m 171 #[.val (.long q1), .second, .val (.long q2), .second, .val (.int p3), .val (.int p4), .val (.int OF), .val (.int LE), .val (.ref b1), .unset, .unset] [(.int (OF + (2 : Int32))), (.ref b1)])) _
    refine XS.lloadN X28.here hx rfl (hb hby at_171) rfl ?_
    show Steps p.tables e below (T28.setTop (mkF m 172 #[.val (.long q1), .second, .val (.long q2), .second, .val (.int p3), .val (.int p4), .val (.int OF), .val (.int LE), .val (.ref b1), .unset, .unset] [(.long q1), (.int (OF + (2 : Int32))), (.ref b1)])) _
    refine XS.bipush X28.here hx rfl (hb hby at_172) ?_
    show Steps p.tables e below (T28.setTop (mkF m 174 #[.val (.long q1), .second, .val (.long q2), .second, .val (.int p3), .val (.int p4), .val (.int OF), .val (.int LE), .val (.ref b1), .unset, .unset] [(.int (16 : Int32)), (.long q1), (.int (OF + (2 : Int32))), (.ref b1)])) _
    refine XS.lushr X28.here hx rfl (hb hby at_174) rfl ?_
    show Steps p.tables e below (T28.setTop (mkF m 175 #[.val (.long q1), .second, .val (.long q2), .second, .val (.int p3), .val (.int p4), .val (.int OF), .val (.int LE), .val (.ref b1), .unset, .unset] [(.long ((q1.toUInt64 >>> ((16 : Int32) &&& 0x3f).toInt64.toUInt64).toInt64)), (.int (OF + (2 : Int32))), (.ref b1)])) _
    refine XS.l2i X28.here hx rfl (hb hby at_175) rfl ?_
    show Steps p.tables e below (T28.setTop (mkF m 176 #[.val (.long q1), .second, .val (.long q2), .second, .val (.int p3), .val (.int p4), .val (.int OF), .val (.int LE), .val (.ref b1), .unset, .unset] [(.int (((q1.toUInt64 >>> ((16 : Int32) &&& 0x3f).toInt64.toUInt64).toInt64).toInt32)), (.int (OF + (2 : Int32))), (.ref b1)])) _
    refine XS.i2b X28.here hx rfl (hb hby at_176) rfl ?_
    show Steps p.tables e below (T28.setTop (mkF m 177 #[.val (.long q1), .second, .val (.long q2), .second, .val (.int p3), .val (.int p4), .val (.int OF), .val (.int LE), .val (.ref b1), .unset, .unset] [(.int ((((q1.toUInt64 >>> ((16 : Int32) &&& 0x3f).toInt64.toUInt64).toInt64).toInt32).toInt8.toInt32)), (.int (OF + (2 : Int32))), (.ref b1)])) _
    refine st30 _ ?_
    show Steps p.tables e below (T30.setTop (mkF m 178 #[.val (.long q1), .second, .val (.long q2), .second, .val (.int p3), .val (.int p4), .val (.int OF), .val (.int LE), .val (.ref b1), .unset, .unset] [])) _
    refine XS.aload X30.here hx rfl (hb hby at_178) rfl rfl ?_
    show Steps p.tables e below (T30.setTop (mkF m 180 #[.val (.long q1), .second, .val (.long q2), .second, .val (.int p3), .val (.int p4), .val (.int OF), .val (.int LE), .val (.ref b1), .unset, .unset] [(.ref b1)])) _
    refine XS.iload X30.here hx rfl (hb hby at_180) rfl ?_
    show Steps p.tables e below (T30.setTop (mkF m 182 #[.val (.long q1), .second, .val (.long q2), .second, .val (.int p3), .val (.int p4), .val (.int OF), .val (.int LE), .val (.ref b1), .unset, .unset] [(.int OF), (.ref b1)])) _
    refine XS.iconst X30.here hx rfl (hb hby at_182) ?_
    show Steps p.tables e below (T30.setTop (mkF m 183 #[.val (.long q1), .second, .val (.long q2), .second, .val (.int p3), .val (.int p4), .val (.int OF), .val (.int LE), .val (.ref b1), .unset, .unset] [(.int (3 : Int32)), (.int OF), (.ref b1)])) _
    refine XS.iadd X30.here hx rfl (hb hby at_183) rfl ?_
    show Steps p.tables e below (T30.setTop (mkF m 184 #[.val (.long q1), .second, .val (.long q2), .second, .val (.int p3), .val (.int p4), .val (.int OF), .val (.int LE), .val (.ref b1), .unset, .unset] [(.int (OF + (3 : Int32))), (.ref b1)])) _
    refine XS.lloadN X30.here hx rfl (hb hby at_184) rfl ?_
    show Steps p.tables e below (T30.setTop (mkF m 185 #[.val (.long q1), .second, .val (.long q2), .second, .val (.int p3), .val (.int p4), .val (.int OF), .val (.int LE), .val (.ref b1), .unset, .unset] [(.long q1), (.int (OF + (3 : Int32))), (.ref b1)])) _
    refine XS.bipush X30.here hx rfl (hb hby at_185) ?_
    show Steps p.tables e below (T30.setTop (mkF m 187 #[.val (.long q1), .second, .val (.long q2), .second, .val (.int p3), .val (.int p4), .val (.int OF), .val (.int LE), .val (.ref b1), .unset, .unset] [(.int (24 : Int32)), (.long q1), (.int (OF + (3 : Int32))), (.ref b1)])) _
    refine XS.lushr X30.here hx rfl (hb hby at_187) rfl ?_
    show Steps p.tables e below (T30.setTop (mkF m 188 #[.val (.long q1), .second, .val (.long q2), .second, .val (.int p3), .val (.int p4), .val (.int OF), .val (.int LE), .val (.ref b1), .unset, .unset] [(.long ((q1.toUInt64 >>> ((24 : Int32) &&& 0x3f).toInt64.toUInt64).toInt64)), (.int (OF + (3 : Int32))), (.ref b1)])) _
    refine XS.l2i X30.here hx rfl (hb hby at_188) rfl ?_
    show Steps p.tables e below (T30.setTop (mkF m 189 #[.val (.long q1), .second, .val (.long q2), .second, .val (.int p3), .val (.int p4), .val (.int OF), .val (.int LE), .val (.ref b1), .unset, .unset] [(.int (((q1.toUInt64 >>> ((24 : Int32) &&& 0x3f).toInt64.toUInt64).toInt64).toInt32)), (.int (OF + (3 : Int32))), (.ref b1)])) _
    refine XS.i2b X30.here hx rfl (hb hby at_189) rfl ?_
    show Steps p.tables e below (T30.setTop (mkF m 190 #[.val (.long q1), .second, .val (.long q2), .second, .val (.int p3), .val (.int p4), .val (.int OF), .val (.int LE), .val (.ref b1), .unset, .unset] [(.int ((((q1.toUInt64 >>> ((24 : Int32) &&& 0x3f).toInt64.toUInt64).toInt64).toInt32).toInt8.toInt32)), (.int (OF + (3 : Int32))), (.ref b1)])) _
    refine st32 _ ?_
    show Steps p.tables e below (T32.setTop (mkF m 191 #[.val (.long q1), .second, .val (.long q2), .second, .val (.int p3), .val (.int p4), .val (.int OF), .val (.int LE), .val (.ref b1), .unset, .unset] [])) _
    refine XS.aload X32.here hx rfl (hb hby at_191) rfl rfl ?_
    show Steps p.tables e below (T32.setTop (mkF m 193 #[.val (.long q1), .second, .val (.long q2), .second, .val (.int p3), .val (.int p4), .val (.int OF), .val (.int LE), .val (.ref b1), .unset, .unset] [(.ref b1)])) _
    refine XS.iload X32.here hx rfl (hb hby at_193) rfl ?_
    show Steps p.tables e below (T32.setTop (mkF m 195 #[.val (.long q1), .second, .val (.long q2), .second, .val (.int p3), .val (.int p4), .val (.int OF), .val (.int LE), .val (.ref b1), .unset, .unset] [(.int OF), (.ref b1)])) _
    refine XS.iconst X32.here hx rfl (hb hby at_195) ?_
    show Steps p.tables e below (T32.setTop (mkF m 196 #[.val (.long q1), .second, .val (.long q2), .second, .val (.int p3), .val (.int p4), .val (.int OF), .val (.int LE), .val (.ref b1), .unset, .unset] [(.int (4 : Int32)), (.int OF), (.ref b1)])) _
    refine XS.iadd X32.here hx rfl (hb hby at_196) rfl ?_
    show Steps p.tables e below (T32.setTop (mkF m 197 #[.val (.long q1), .second, .val (.long q2), .second, .val (.int p3), .val (.int p4), .val (.int OF), .val (.int LE), .val (.ref b1), .unset, .unset] [(.int (OF + (4 : Int32))), (.ref b1)])) _
    refine XS.lloadN X32.here hx rfl (hb hby at_197) rfl ?_
    show Steps p.tables e below (T32.setTop (mkF m 198 #[.val (.long q1), .second, .val (.long q2), .second, .val (.int p3), .val (.int p4), .val (.int OF), .val (.int LE), .val (.ref b1), .unset, .unset] [(.long q1), (.int (OF + (4 : Int32))), (.ref b1)])) _
    refine XS.bipush X32.here hx rfl (hb hby at_198) ?_
    show Steps p.tables e below (T32.setTop (mkF m 200 #[.val (.long q1), .second, .val (.long q2), .second, .val (.int p3), .val (.int p4), .val (.int OF), .val (.int LE), .val (.ref b1), .unset, .unset] [(.int (32 : Int32)), (.long q1), (.int (OF + (4 : Int32))), (.ref b1)])) _
    refine XS.lushr X32.here hx rfl (hb hby at_200) rfl ?_
    show Steps p.tables e below (T32.setTop (mkF m 201 #[.val (.long q1), .second, .val (.long q2), .second, .val (.int p3), .val (.int p4), .val (.int OF), .val (.int LE), .val (.ref b1), .unset, .unset] [(.long ((q1.toUInt64 >>> ((32 : Int32) &&& 0x3f).toInt64.toUInt64).toInt64)), (.int (OF + (4 : Int32))), (.ref b1)])) _
    refine XS.l2i X32.here hx rfl (hb hby at_201) rfl ?_
    show Steps p.tables e below (T32.setTop (mkF m 202 #[.val (.long q1), .second, .val (.long q2), .second, .val (.int p3), .val (.int p4), .val (.int OF), .val (.int LE), .val (.ref b1), .unset, .unset] [(.int (((q1.toUInt64 >>> ((32 : Int32) &&& 0x3f).toInt64.toUInt64).toInt64).toInt32)), (.int (OF + (4 : Int32))), (.ref b1)])) _
    refine XS.i2b X32.here hx rfl (hb hby at_202) rfl ?_
    show Steps p.tables e below (T32.setTop (mkF m 203 #[.val (.long q1), .second, .val (.long q2), .second, .val (.int p3), .val (.int p4), .val (.int OF), .val (.int LE), .val (.ref b1), .unset, .unset] [(.int ((((q1.toUInt64 >>> ((32 : Int32) &&& 0x3f).toInt64.toUInt64).toInt64).toInt32).toInt8.toInt32)), (.int (OF + (4 : Int32))), (.ref b1)])) _
    refine st34 _ ?_
    show Steps p.tables e below (T34.setTop (mkF m 204 #[.val (.long q1), .second, .val (.long q2), .second, .val (.int p3), .val (.int p4), .val (.int OF), .val (.int LE), .val (.ref b1), .unset, .unset] [])) _
    refine XS.aload X34.here hx rfl (hb hby at_204) rfl rfl ?_
    show Steps p.tables e below (T34.setTop (mkF m 206 #[.val (.long q1), .second, .val (.long q2), .second, .val (.int p3), .val (.int p4), .val (.int OF), .val (.int LE), .val (.ref b1), .unset, .unset] [(.ref b1)])) _
    refine XS.iload X34.here hx rfl (hb hby at_206) rfl ?_
    show Steps p.tables e below (T34.setTop (mkF m 208 #[.val (.long q1), .second, .val (.long q2), .second, .val (.int p3), .val (.int p4), .val (.int OF), .val (.int LE), .val (.ref b1), .unset, .unset] [(.int OF), (.ref b1)])) _
    refine XS.iconst X34.here hx rfl (hb hby at_208) ?_
    show Steps p.tables e below (T34.setTop (mkF m 209 #[.val (.long q1), .second, .val (.long q2), .second, .val (.int p3), .val (.int p4), .val (.int OF), .val (.int LE), .val (.ref b1), .unset, .unset] [(.int (5 : Int32)), (.int OF), (.ref b1)])) _
    refine XS.iadd X34.here hx rfl (hb hby at_209) rfl ?_
    show Steps p.tables e below (T34.setTop (mkF m 210 #[.val (.long q1), .second, .val (.long q2), .second, .val (.int p3), .val (.int p4), .val (.int OF), .val (.int LE), .val (.ref b1), .unset, .unset] [(.int (OF + (5 : Int32))), (.ref b1)])) _
    refine XS.lloadN X34.here hx rfl (hb hby at_210) rfl ?_
    show Steps p.tables e below (T34.setTop (mkF m 211 #[.val (.long q1), .second, .val (.long q2), .second, .val (.int p3), .val (.int p4), .val (.int OF), .val (.int LE), .val (.ref b1), .unset, .unset] [(.long q1), (.int (OF + (5 : Int32))), (.ref b1)])) _
    refine XS.bipush X34.here hx rfl (hb hby at_211) ?_
    show Steps p.tables e below (T34.setTop (mkF m 213 #[.val (.long q1), .second, .val (.long q2), .second, .val (.int p3), .val (.int p4), .val (.int OF), .val (.int LE), .val (.ref b1), .unset, .unset] [(.int (40 : Int32)), (.long q1), (.int (OF + (5 : Int32))), (.ref b1)])) _
    refine XS.lushr X34.here hx rfl (hb hby at_213) rfl ?_
    show Steps p.tables e below (T34.setTop (mkF m 214 #[.val (.long q1), .second, .val (.long q2), .second, .val (.int p3), .val (.int p4), .val (.int OF), .val (.int LE), .val (.ref b1), .unset, .unset] [(.long ((q1.toUInt64 >>> ((40 : Int32) &&& 0x3f).toInt64.toUInt64).toInt64)), (.int (OF + (5 : Int32))), (.ref b1)])) _
    refine XS.l2i X34.here hx rfl (hb hby at_214) rfl ?_
    show Steps p.tables e below (T34.setTop (mkF m 215 #[.val (.long q1), .second, .val (.long q2), .second, .val (.int p3), .val (.int p4), .val (.int OF), .val (.int LE), .val (.ref b1), .unset, .unset] [(.int (((q1.toUInt64 >>> ((40 : Int32) &&& 0x3f).toInt64.toUInt64).toInt64).toInt32)), (.int (OF + (5 : Int32))), (.ref b1)])) _
    refine XS.i2b X34.here hx rfl (hb hby at_215) rfl ?_
    show Steps p.tables e below (T34.setTop (mkF m 216 #[.val (.long q1), .second, .val (.long q2), .second, .val (.int p3), .val (.int p4), .val (.int OF), .val (.int LE), .val (.ref b1), .unset, .unset] [(.int ((((q1.toUInt64 >>> ((40 : Int32) &&& 0x3f).toInt64.toUInt64).toInt64).toInt32).toInt8.toInt32)), (.int (OF + (5 : Int32))), (.ref b1)])) _
    refine st36 _ ?_
    show Steps p.tables e below (T36.setTop (mkF m 217 #[.val (.long q1), .second, .val (.long q2), .second, .val (.int p3), .val (.int p4), .val (.int OF), .val (.int LE), .val (.ref b1), .unset, .unset] [])) _
    refine XS.aload X36.here hx rfl (hb hby at_217) rfl rfl ?_
    show Steps p.tables e below (T36.setTop (mkF m 219 #[.val (.long q1), .second, .val (.long q2), .second, .val (.int p3), .val (.int p4), .val (.int OF), .val (.int LE), .val (.ref b1), .unset, .unset] [(.ref b1)])) _
    refine XS.iload X36.here hx rfl (hb hby at_219) rfl ?_
    show Steps p.tables e below (T36.setTop (mkF m 221 #[.val (.long q1), .second, .val (.long q2), .second, .val (.int p3), .val (.int p4), .val (.int OF), .val (.int LE), .val (.ref b1), .unset, .unset] [(.int OF), (.ref b1)])) _
    refine XS.bipush X36.here hx rfl (hb hby at_221) ?_
    show Steps p.tables e below (T36.setTop (mkF m 223 #[.val (.long q1), .second, .val (.long q2), .second, .val (.int p3), .val (.int p4), .val (.int OF), .val (.int LE), .val (.ref b1), .unset, .unset] [(.int (6 : Int32)), (.int OF), (.ref b1)])) _
    refine XS.iadd X36.here hx rfl (hb hby at_223) rfl ?_
    show Steps p.tables e below (T36.setTop (mkF m 224 #[.val (.long q1), .second, .val (.long q2), .second, .val (.int p3), .val (.int p4), .val (.int OF), .val (.int LE), .val (.ref b1), .unset, .unset] [(.int (OF + (6 : Int32))), (.ref b1)])) _
    refine XS.lloadN X36.here hx rfl (hb hby at_224) rfl ?_
    show Steps p.tables e below (T36.setTop (mkF m 225 #[.val (.long q1), .second, .val (.long q2), .second, .val (.int p3), .val (.int p4), .val (.int OF), .val (.int LE), .val (.ref b1), .unset, .unset] [(.long q1), (.int (OF + (6 : Int32))), (.ref b1)])) _
    refine XS.bipush X36.here hx rfl (hb hby at_225) ?_
    show Steps p.tables e below (T36.setTop (mkF m 227 #[.val (.long q1), .second, .val (.long q2), .second, .val (.int p3), .val (.int p4), .val (.int OF), .val (.int LE), .val (.ref b1), .unset, .unset] [(.int (48 : Int32)), (.long q1), (.int (OF + (6 : Int32))), (.ref b1)])) _
    refine XS.lushr X36.here hx rfl (hb hby at_227) rfl ?_
    show Steps p.tables e below (T36.setTop (mkF m 228 #[.val (.long q1), .second, .val (.long q2), .second, .val (.int p3), .val (.int p4), .val (.int OF), .val (.int LE), .val (.ref b1), .unset, .unset] [(.long ((q1.toUInt64 >>> ((48 : Int32) &&& 0x3f).toInt64.toUInt64).toInt64)), (.int (OF + (6 : Int32))), (.ref b1)])) _
    refine XS.l2i X36.here hx rfl (hb hby at_228) rfl ?_
    show Steps p.tables e below (T36.setTop (mkF m 229 #[.val (.long q1), .second, .val (.long q2), .second, .val (.int p3), .val (.int p4), .val (.int OF), .val (.int LE), .val (.ref b1), .unset, .unset] [(.int (((q1.toUInt64 >>> ((48 : Int32) &&& 0x3f).toInt64.toUInt64).toInt64).toInt32)), (.int (OF + (6 : Int32))), (.ref b1)])) _
    refine XS.i2b X36.here hx rfl (hb hby at_229) rfl ?_
    show Steps p.tables e below (T36.setTop (mkF m 230 #[.val (.long q1), .second, .val (.long q2), .second, .val (.int p3), .val (.int p4), .val (.int OF), .val (.int LE), .val (.ref b1), .unset, .unset] [(.int ((((q1.toUInt64 >>> ((48 : Int32) &&& 0x3f).toInt64.toUInt64).toInt64).toInt32).toInt8.toInt32)), (.int (OF + (6 : Int32))), (.ref b1)])) _
    refine st38 _ ?_
    show Steps p.tables e below (T38.setTop (mkF m 231 #[.val (.long q1), .second, .val (.long q2), .second, .val (.int p3), .val (.int p4), .val (.int OF), .val (.int LE), .val (.ref b1), .unset, .unset] [])) _
    refine XS.aload X38.here hx rfl (hb hby at_231) rfl rfl ?_
    show Steps p.tables e below (T38.setTop (mkF m 233 #[.val (.long q1), .second, .val (.long q2), .second, .val (.int p3), .val (.int p4), .val (.int OF), .val (.int LE), .val (.ref b1), .unset, .unset] [(.ref b1)])) _
    refine XS.iload X38.here hx rfl (hb hby at_233) rfl ?_
    show Steps p.tables e below (T38.setTop (mkF m 235 #[.val (.long q1), .second, .val (.long q2), .second, .val (.int p3), .val (.int p4), .val (.int OF), .val (.int LE), .val (.ref b1), .unset, .unset] [(.int OF), (.ref b1)])) _
    refine XS.bipush X38.here hx rfl (hb hby at_235) ?_
    show Steps p.tables e below (T38.setTop (mkF m 237 #[.val (.long q1), .second, .val (.long q2), .second, .val (.int p3), .val (.int p4), .val (.int OF), .val (.int LE), .val (.ref b1), .unset, .unset] [(.int (7 : Int32)), (.int OF), (.ref b1)])) _
    refine XS.iadd X38.here hx rfl (hb hby at_237) rfl ?_
    show Steps p.tables e below (T38.setTop (mkF m 238 #[.val (.long q1), .second, .val (.long q2), .second, .val (.int p3), .val (.int p4), .val (.int OF), .val (.int LE), .val (.ref b1), .unset, .unset] [(.int (OF + (7 : Int32))), (.ref b1)])) _
    refine XS.lloadN X38.here hx rfl (hb hby at_238) rfl ?_
    show Steps p.tables e below (T38.setTop (mkF m 239 #[.val (.long q1), .second, .val (.long q2), .second, .val (.int p3), .val (.int p4), .val (.int OF), .val (.int LE), .val (.ref b1), .unset, .unset] [(.long q1), (.int (OF + (7 : Int32))), (.ref b1)])) _
    refine XS.bipush X38.here hx rfl (hb hby at_239) ?_
    show Steps p.tables e below (T38.setTop (mkF m 241 #[.val (.long q1), .second, .val (.long q2), .second, .val (.int p3), .val (.int p4), .val (.int OF), .val (.int LE), .val (.ref b1), .unset, .unset] [(.int (56 : Int32)), (.long q1), (.int (OF + (7 : Int32))), (.ref b1)])) _
    refine XS.lushr X38.here hx rfl (hb hby at_241) rfl ?_
    show Steps p.tables e below (T38.setTop (mkF m 242 #[.val (.long q1), .second, .val (.long q2), .second, .val (.int p3), .val (.int p4), .val (.int OF), .val (.int LE), .val (.ref b1), .unset, .unset] [(.long ((q1.toUInt64 >>> ((56 : Int32) &&& 0x3f).toInt64.toUInt64).toInt64)), (.int (OF + (7 : Int32))), (.ref b1)])) _
    refine XS.l2i X38.here hx rfl (hb hby at_242) rfl ?_
    show Steps p.tables e below (T38.setTop (mkF m 243 #[.val (.long q1), .second, .val (.long q2), .second, .val (.int p3), .val (.int p4), .val (.int OF), .val (.int LE), .val (.ref b1), .unset, .unset] [(.int (((q1.toUInt64 >>> ((56 : Int32) &&& 0x3f).toInt64.toUInt64).toInt64).toInt32)), (.int (OF + (7 : Int32))), (.ref b1)])) _
    refine XS.i2b X38.here hx rfl (hb hby at_243) rfl ?_
    show Steps p.tables e below (T38.setTop (mkF m 244 #[.val (.long q1), .second, .val (.long q2), .second, .val (.int p3), .val (.int p4), .val (.int OF), .val (.int LE), .val (.ref b1), .unset, .unset] [(.int ((((q1.toUInt64 >>> ((56 : Int32) &&& 0x3f).toInt64.toUInt64).toInt64).toInt32).toInt8.toInt32)), (.int (OF + (7 : Int32))), (.ref b1)])) _
    refine st40 _ ?_
    show Steps p.tables e below (T40.setTop (mkF m 245 #[.val (.long q1), .second, .val (.long q2), .second, .val (.int p3), .val (.int p4), .val (.int OF), .val (.int LE), .val (.ref b1), .unset, .unset] [])) _
    refine XS.iload X40.here hx rfl (hb hby at_245) rfl ?_
    show Steps p.tables e below (T40.setTop (mkF m 247 #[.val (.long q1), .second, .val (.long q2), .second, .val (.int p3), .val (.int p4), .val (.int OF), .val (.int LE), .val (.ref b1), .unset, .unset] [(.int LE)])) _
    by_cases hc42 : LE = (0 : Int32)
    · refine XS.ifNo X40.here hx rfl (hb hby at_247) rfl ((if0 _ _).trans (teq hc42).2) ?_
      show Steps p.tables e below (T40.setTop (mkF m 250 #[.val (.long q1), .second, .val (.long q2), .second, .val (.int p3), .val (.int p4), .val (.int OF), .val (.int LE), .val (.ref b1), .unset, .unset] [])) _
      refine XS.lconst X40.here hx rfl (hb hby at_250) ?_
      show Steps p.tables e below (T40.setTop (mkF m 251 #[.val (.long q1), .second, .val (.long q2), .second, .val (.int p3), .val (.int p4), .val (.int OF), .val (.int LE), .val (.ref b1), .unset, .unset] [(.long (0 : Int64))])) _
      refine XS.lstore X40.here hx rfl (hb hby at_251) rfl (l' := #[.val (.long q1), .second, .val (.long q2), .second, .val (.int p3), .val (.int p4), .val (.int OF), .val (.int LE), .val (.ref b1), .val (.long (0 : Int64)), .second]) rfl ?_
      show Steps p.tables e below (T40.setTop (mkF m 253 #[.val (.long q1), .second, .val (.long q2), .second, .val (.int p3), .val (.int p4), .val (.int OF), .val (.int LE), .val (.ref b1), .val (.long (0 : Int64)), .second] [])) _
      refine XS.goto X40.here hx rfl (pc0 := 253) (pc' := 282) rfl (hb hby at_253) (by decide) (by decide) ?_
      rw [show v44 = (0 : Int64) from hv44.trans (if_pos hc42)] at k
      exact k
    · refine XS.ifYes X40.here hx rfl (pc0 := 247) (pc' := 256) rfl (hb hby at_247) rfl ((if0 _ _).trans (feq hc42).2) (by decide) (by decide) ?_
      show Steps p.tables e below (T40.setTop (mkF m 256 #[.val (.long q1), .second, .val (.long q2), .second, .val (.int p3), .val (.int p4), .val (.int OF), .val (.int LE), .val (.ref b1), .unset, .unset] [])) _
      refine XS.iload X40.here hx rfl (hb hby at_256) rfl ?_
      show Steps p.tables e below (T40.setTop (mkF m 258 #[.val (.long q1), .second, .val (.long q2), .second, .val (.int p3), .val (.int p4), .val (.int OF), .val (.int LE), .val (.ref b1), .unset, .unset] [(.int LE)])) _
      refine XS.bipush X40.here hx rfl (hb hby at_258) ?_
      show Steps p.tables e below (T40.setTop (mkF m 260 #[.val (.long q1), .second, .val (.long q2), .second, .val (.int p3), .val (.int p4), .val (.int OF), .val (.int LE), .val (.ref b1), .unset, .unset] [(.int (8 : Int32)), (.int LE)])) _
      by_cases hc43 : LE = (8 : Int32)
      · refine XS.icmpNo X40.here hx rfl (hb hby at_260) rfl (teq hc43).2 ?_
        show Steps p.tables e below (T40.setTop (mkF m 263 #[.val (.long q1), .second, .val (.long q2), .second, .val (.int p3), .val (.int p4), .val (.int OF), .val (.int LE), .val (.ref b1), .unset, .unset] [])) _
        refine XS.lloadN X40.here hx rfl (hb hby at_263) rfl ?_
        show Steps p.tables e below (T40.setTop (mkF m 264 #[.val (.long q1), .second, .val (.long q2), .second, .val (.int p3), .val (.int p4), .val (.int OF), .val (.int LE), .val (.ref b1), .unset, .unset] [(.long q1)])) _
        refine XS.lstore X40.here hx rfl (hb hby at_264) rfl (l' := #[.val (.long q1), .second, .val (.long q2), .second, .val (.int p3), .val (.int p4), .val (.int OF), .val (.int LE), .val (.ref b1), .val (.long q1), .second]) rfl ?_
        show Steps p.tables e below (T40.setTop (mkF m 266 #[.val (.long q1), .second, .val (.long q2), .second, .val (.int p3), .val (.int p4), .val (.int OF), .val (.int LE), .val (.ref b1), .val (.long q1), .second] [])) _
        refine XS.goto X40.here hx rfl (pc0 := 266) (pc' := 282) rfl (hb hby at_266) (by decide) (by decide) ?_
        rw [show v44 = q1 from hv44.trans ((if_neg hc42).trans (if_pos hc43))] at k
        exact k
      · refine XS.icmpYes X40.here hx rfl (pc0 := 260) (pc' := 269) rfl (hb hby at_260) rfl (feq hc43).2 (by decide) (by decide) ?_
        show Steps p.tables e below (T40.setTop (mkF m 269 #[.val (.long q1), .second, .val (.long q2), .second, .val (.int p3), .val (.int p4), .val (.int OF), .val (.int LE), .val (.ref b1), .unset, .unset] [])) _
        refine XS.lloadN X40.here hx rfl (hb hby at_269) rfl ?_
        show Steps p.tables e below (T40.setTop (mkF m 270 #[.val (.long q1), .second, .val (.long q2), .second, .val (.int p3), .val (.int p4), .val (.int OF), .val (.int LE), .val (.ref b1), .unset, .unset] [(.long q1)])) _
        refine XS.lconst X40.here hx rfl (hb hby at_270) ?_
        show Steps p.tables e below (T40.setTop (mkF m 271 #[.val (.long q1), .second, .val (.long q2), .second, .val (.int p3), .val (.int p4), .val (.int OF), .val (.int LE), .val (.ref b1), .unset, .unset] [(.long (1 : Int64)), (.long q1)])) _
        refine XS.bipush X40.here hx rfl (hb hby at_271) ?_
        show Steps p.tables e below (T40.setTop (mkF m 273 #[.val (.long q1), .second, .val (.long q2), .second, .val (.int p3), .val (.int p4), .val (.int OF), .val (.int LE), .val (.ref b1), .unset, .unset] [(.int (8 : Int32)), (.long (1 : Int64)), (.long q1)])) _
        refine XS.iload X40.here hx rfl (hb hby at_273) rfl ?_
        show Steps p.tables e below (T40.setTop (mkF m 275 #[.val (.long q1), .second, .val (.long q2), .second, .val (.int p3), .val (.int p4), .val (.int OF), .val (.int LE), .val (.ref b1), .unset, .unset] [(.int LE), (.int (8 : Int32)), (.long (1 : Int64)), (.long q1)])) _
        refine XS.imul X40.here hx rfl (hb hby at_275) rfl ?_
        show Steps p.tables e below (T40.setTop (mkF m 276 #[.val (.long q1), .second, .val (.long q2), .second, .val (.int p3), .val (.int p4), .val (.int OF), .val (.int LE), .val (.ref b1), .unset, .unset] [(.int ((8 : Int32) * LE)), (.long (1 : Int64)), (.long q1)])) _
        refine XS.lshl X40.here hx rfl (hb hby at_276) rfl ?_
        show Steps p.tables e below (T40.setTop (mkF m 277 #[.val (.long q1), .second, .val (.long q2), .second, .val (.int p3), .val (.int p4), .val (.int OF), .val (.int LE), .val (.ref b1), .unset, .unset] [(.long ((1 : Int64) <<< (((8 : Int32) * LE) &&& 0x3f).toInt64)), (.long q1)])) _
        refine XS.lconst X40.here hx rfl (hb hby at_277) ?_
        show Steps p.tables e below (T40.setTop (mkF m 278 #[.val (.long q1), .second, .val (.long q2), .second, .val (.int p3), .val (.int p4), .val (.int OF), .val (.int LE), .val (.ref b1), .unset, .unset] [(.long (1 : Int64)), (.long ((1 : Int64) <<< (((8 : Int32) * LE) &&& 0x3f).toInt64)), (.long q1)])) _
        refine XS.lsub X40.here hx rfl (hb hby at_278) rfl ?_
        show Steps p.tables e below (T40.setTop (mkF m 279 #[.val (.long q1), .second, .val (.long q2), .second, .val (.int p3), .val (.int p4), .val (.int OF), .val (.int LE), .val (.ref b1), .unset, .unset] [(.long (((1 : Int64) <<< (((8 : Int32) * LE) &&& 0x3f).toInt64) - (1 : Int64))), (.long q1)])) _
        refine XS.land X40.here hx rfl (hb hby at_279) rfl ?_
        show Steps p.tables e below (T40.setTop (mkF m 280 #[.val (.long q1), .second, .val (.long q2), .second, .val (.int p3), .val (.int p4), .val (.int OF), .val (.int LE), .val (.ref b1), .unset, .unset] [(.long (q1 &&& (((1 : Int64) <<< (((8 : Int32) * LE) &&& 0x3f).toInt64) - (1 : Int64))))])) _
        refine XS.lstore X40.here hx rfl (hb hby at_280) rfl (l' := #[.val (.long q1), .second, .val (.long q2), .second, .val (.int p3), .val (.int p4), .val (.int OF), .val (.int LE), .val (.ref b1), .val (.long (q1 &&& (((1 : Int64) <<< (((8 : Int32) * LE) &&& 0x3f).toInt64) - (1 : Int64)))), .second]) rfl ?_
        rw [show v44 = (q1 &&& (((1 : Int64) <<< (((8 : Int32) * LE) &&& 0x3f).toInt64) - (1 : Int64))) from hv44.trans ((if_neg hc42).trans (if_neg hc43))] at k
        exact k)
  obtain ⟨_, _, ⟨T46, L46, k46, n46⟩, -, X46, ⟨Lc46, hQ46, l46, y46, z46⟩, st46⟩ := Jvm.LawKit.callS X40 hx (y := (⟨"com/example/sealwire/sealwire/procedure/keyfile/Rdh2Records", "unsigned", "([BII)J"⟩ : MethodName)) hown (mvT hZ (hw _ (List.mem_of_getElem? (i := 2) rfl))) (mvT hZ (hw _ (List.mem_of_getElem? (i := 3) rfl))) (mvT hZ (hw _ (List.mem_of_getElem? (i := 4) rfl))) (mvT hZ (hw _ (List.mem_of_getElem? (i := 5) rfl))) (by decide) (backOf (W := 0) (rm1 l Z a0 hw [] b1 OF LE y40 h40 n0 Zs40 A_b1_40 (own_r1 hOF hLE)) hZ (hw _ (List.mem_of_getElem? (i := 5) rfl)) (hw _ (List.mem_of_getElem? (i := 4) rfl)) (by decide) (by decide)) (g := (mkF m 288 #[.val (.long q1), .second, .val (.long q2), .second, .val (.int p3), .val (.int p4), .val (.int OF), .val (.int LE), .val (.ref b1), .val (.long v44), .second] [(.int LE), (.int OF), (.ref b1)])) rfl (by rw [hml]; rfl) (argsL := [(.ref b1), (.int OF), (.int LE)]) (rest := []) (lenOf pd_0 rfl) rfl (by show 2 * 0 + _ ≤ _; exact Nat.le_of_eq rfl) (hb hby at_288) (fun _ _ => ⟨rfl, e40, (by decide : 1 + 0 ≤ _), (by decide : 12 + 0 ≤ _)⟩)
  dsimp only [Pt.U, Pt.locs, Pt.cells, Pt.slots] at X46 l46 y46 z46 st46 hQ46
  subst l46 y46 z46
  obtain ⟨rfl, N46q, e46⟩ := hQ46
  have N46 := Fr.app N40 N46q
  obtain ⟨v48, hv48⟩ : ∃ z : Int32, z = (if (f1 OF LE y40) = v44 then (1 : Int32) else (0 : Int32)) := ⟨_, rfl⟩
  have pre49 : ∀ t, Steps p.tables e below (T46.setTop (mkF m 302 #[.val (.long q1), .second, .val (.long q2), .second, .val (.int p3), .val (.int p4), .val (.int OF), .val (.int LE), .val (.ref b1), .val (.long v44), .second] [(.int v48)])) t → Steps p.tables e below (s₁.setTop (entryFrame m #[(.long q1), (.long q2), (.int p3), (.int p4)] maxLocals)) t := fun t k => pre45 t (by
    show Steps p.tables e below (T40.setTop (mkF m 282 #[.val (.long q1), .second, .val (.long q2), .second, .val (.int p3), .val (.int p4), .val (.int OF), .val (.int LE), .val (.ref b1), .val (.long v44), .second] [])) _
    refine XS.aload X40.here hx rfl (hb hby at_282) rfl rfl ?_
    show Steps p.tables e below (T40.setTop (mkF m 284 #[.val (.long q1), .second, .val (.long q2), .second, .val (.int p3), .val (.int p4), .val (.int OF), .val (.int LE), .val (.ref b1), .val (.long v44), .second] [(.ref b1)])) _
    refine XS.iload X40.here hx rfl (hb hby at_284) rfl ?_
    show Steps p.tables e below (T40.setTop (mkF m 286 #[.val (.long q1), .second, .val (.long q2), .second, .val (.int p3), .val (.int p4), .val (.int OF), .val (.int LE), .val (.ref b1), .val (.long v44), .second] [(.int OF), (.ref b1)])) _
    refine XS.iload X40.here hx rfl (hb hby at_286) rfl ?_
    show Steps p.tables e below (T40.setTop (mkF m 288 #[.val (.long q1), .second, .val (.long q2), .second, .val (.int p3), .val (.int p4), .val (.int OF), .val (.int LE), .val (.ref b1), .val (.long v44), .second] [(.int LE), (.int OF), (.ref b1)])) _
    refine st46 _ ?_
    show Steps p.tables e below (T46.setTop (mkF m 291 #[.val (.long q1), .second, .val (.long q2), .second, .val (.int p3), .val (.int p4), .val (.int OF), .val (.int LE), .val (.ref b1), .val (.long v44), .second] [(.long (f1 OF LE y40))])) _
    refine XS.lload X46.here hx rfl (hb hby at_291) rfl ?_
    show Steps p.tables e below (T46.setTop (mkF m 293 #[.val (.long q1), .second, .val (.long q2), .second, .val (.int p3), .val (.int p4), .val (.int OF), .val (.int LE), .val (.ref b1), .val (.long v44), .second] [(.long v44), (.long (f1 OF LE y40))])) _
    refine XS.lcmp X46.here hx rfl (hb hby at_293) rfl ?_
    show Steps p.tables e below (T46.setTop (mkF m 294 #[.val (.long q1), .second, .val (.long q2), .second, .val (.int p3), .val (.int p4), .val (.int OF), .val (.int LE), .val (.ref b1), .val (.long v44), .second] [(.int (lcmpW (f1 OF LE y40) v44))])) _
    by_cases hc47 : (f1 OF LE y40) = v44
    · refine XS.ifNo X46.here hx rfl (hb hby at_294) rfl ((if0 _ _).trans (teq (own_lc_teq hc47)).2) ?_
      show Steps p.tables e below (T46.setTop (mkF m 297 #[.val (.long q1), .second, .val (.long q2), .second, .val (.int p3), .val (.int p4), .val (.int OF), .val (.int LE), .val (.ref b1), .val (.long v44), .second] [])) _
      refine XS.iconst X46.here hx rfl (hb hby at_297) ?_
      show Steps p.tables e below (T46.setTop (mkF m 298 #[.val (.long q1), .second, .val (.long q2), .second, .val (.int p3), .val (.int p4), .val (.int OF), .val (.int LE), .val (.ref b1), .val (.long v44), .second] [(.int (1 : Int32))])) _
      refine XS.goto X46.here hx rfl (pc0 := 298) (pc' := 302) rfl (hb hby at_298) (by decide) (by decide) ?_
      rw [show v48 = (1 : Int32) from hv48.trans (if_pos hc47)] at k
      exact k
    · refine XS.ifYes X46.here hx rfl (pc0 := 294) (pc' := 301) rfl (hb hby at_294) rfl ((if0 _ _).trans (feq (own_lc_feq hc47)).2) (by decide) (by decide) ?_
      show Steps p.tables e below (T46.setTop (mkF m 301 #[.val (.long q1), .second, .val (.long q2), .second, .val (.int p3), .val (.int p4), .val (.int OF), .val (.int LE), .val (.ref b1), .val (.long v44), .second] [])) _
      refine XS.iconst X46.here hx rfl (hb hby at_301) ?_
      rw [show v48 = (0 : Int32) from hv48.trans (if_neg hc47)] at k
      exact k)
  have er : (f0 q1 q2 p3 p4) = (nar .boolean v48) := by subst hOF hLE hy2 hy4 hy6 hy8 hy10 hy12 hy14 hy16 hy18 hy20 hy22 hy24 hy26 hy28 hy30 hy32 hy34 hy36 hy38 hy40 hv44 hv48; exact rfl
  obtain ⟨fs, hr, hrun, hended, hW, hsame⟩ := X46.leave (v := some (.int (nar .boolean v48))) (fun h => by rw [Bd.returns] at h; cases h)
  refine ⟨_, _, pre49 _ ?_, hrun, hended, _, _, rfl, ?_, ⟨_, rfl⟩, hW, hsame.mono (by decide) (by decide)⟩
  · show Steps p.tables e below (T46.setTop (mkF m 302 #[.val (.long q1), .second, .val (.long q2), .second, .val (.int p3), .val (.int p4), .val (.int OF), .val (.int LE), .val (.ref b1), .val (.long v44), .second] [(.int v48)])) _
    exact retN X46 hx (t := .boolean) Bd.returns (by simp) (hb hby at_302) hr
  · show Q0 Z q1 q2 p3 p4 h0 n0 _ T46.heap _
    rw [e46]
    exact ⟨congrArg (fun z => some (Value.int z)) er.symm, N46, trivial⟩
theorem own_nat {c : Int32} (n : Nat) (h0 : 0 ≤ c.toInt) (h1 : c.toInt < n) : ∃ k : Nat, k < n ∧ c = Int32.ofInt k :=
  ⟨c.toInt.toNat, by omega, by rw [Int.toNat_of_nonneg h0, Int32.ofInt_toInt]⟩
theorem own_i2c (x : Int32) : 0 ≤ (x.toUInt32.toUInt16.toUInt32.toInt32).toInt ∧ (x.toUInt32.toUInt16.toUInt32.toInt32).toInt < 65536 := by
  have h : (decide ((0 : Int32) ≤ x.toUInt32.toUInt16.toUInt32.toInt32) && decide (x.toUInt32.toUInt16.toUInt32.toInt32 ≤ (65535 : Int32))) = true := fits_nar_char x
  rw [Bool.and_eq_true, decide_eq_true_eq, decide_eq_true_eq, Int32.le_iff_toInt_le, Int32.le_iff_toInt_le] at h
  have e1 : (0 : Int32).toInt = 0 := by decide
  have e2 : (65535 : Int32).toInt = 65535 := by decide
  omega
theorem own_nb (c : Prop) [Decidable c] : nar .boolean (if c then (1 : Int32) else 0) = if c then 1 else 0 := by
  by_cases h : c
  · rw [if_pos h]; decide
  · rw [if_neg h]; decide
def own_Y (OF : Int32) (q1 q2 : Int64) : Int32 → Int32 :=
  let y2 : Int32 → Int32 := (fun i => if i = (0 : Int32) then (nar .byte ((q2.toInt32).toInt8.toInt32)) else (fun _ => (0 : Int32)) i);
  let y4 : Int32 → Int32 := (fun i => if i = (1 : Int32) then (nar .byte ((((q2.toUInt64 >>> ((8 : Int32) &&& 0x3f).toInt64.toUInt64).toInt64).toInt32).toInt8.toInt32)) else y2 i);
  let y6 : Int32 → Int32 := (fun i => if i = (2 : Int32) then (nar .byte ((((q2.toUInt64 >>> ((16 : Int32) &&& 0x3f).toInt64.toUInt64).toInt64).toInt32).toInt8.toInt32)) else y4 i);
  let y8 : Int32 → Int32 := (fun i => if i = (3 : Int32) then (nar .byte ((((q2.toUInt64 >>> ((24 : Int32) &&& 0x3f).toInt64.toUInt64).toInt64).toInt32).toInt8.toInt32)) else y6 i);
  let y10 : Int32 → Int32 := (fun i => if i = (4 : Int32) then (nar .byte ((((q2.toUInt64 >>> ((32 : Int32) &&& 0x3f).toInt64.toUInt64).toInt64).toInt32).toInt8.toInt32)) else y8 i);
  let y12 : Int32 → Int32 := (fun i => if i = (5 : Int32) then (nar .byte ((((q2.toUInt64 >>> ((40 : Int32) &&& 0x3f).toInt64.toUInt64).toInt64).toInt32).toInt8.toInt32)) else y10 i);
  let y14 : Int32 → Int32 := (fun i => if i = (6 : Int32) then (nar .byte ((((q2.toUInt64 >>> ((48 : Int32) &&& 0x3f).toInt64.toUInt64).toInt64).toInt32).toInt8.toInt32)) else y12 i);
  let y16 : Int32 → Int32 := (fun i => if i = (7 : Int32) then (nar .byte ((((q2.toUInt64 >>> ((56 : Int32) &&& 0x3f).toInt64.toUInt64).toInt64).toInt32).toInt8.toInt32)) else y14 i);
  let y18 : Int32 → Int32 := (fun i => if i = (8 : Int32) then (nar .byte ((((q2.toUInt64 >>> ((4 : Int32) &&& 0x3f).toInt64.toUInt64).toInt64).toInt32).toInt8.toInt32)) else y16 i);
  let y20 : Int32 → Int32 := (fun i => if i = (9 : Int32) then (nar .byte ((((q2.toUInt64 >>> ((12 : Int32) &&& 0x3f).toInt64.toUInt64).toInt64).toInt32).toInt8.toInt32)) else y18 i);
  let y22 : Int32 → Int32 := (fun i => if i = (10 : Int32) then (nar .byte ((((q2.toUInt64 >>> ((20 : Int32) &&& 0x3f).toInt64.toUInt64).toInt64).toInt32).toInt8.toInt32)) else y20 i);
  let y24 : Int32 → Int32 := (fun i => if i = (11 : Int32) then (nar .byte ((((q2.toUInt64 >>> ((28 : Int32) &&& 0x3f).toInt64.toUInt64).toInt64).toInt32).toInt8.toInt32)) else y22 i);
  let y26 : Int32 → Int32 := (fun i => if i = OF then (nar .byte ((q1.toInt32).toInt8.toInt32)) else y24 i);
  let y28 : Int32 → Int32 := (fun i => if i = (OF + (1 : Int32)) then (nar .byte ((((q1.toUInt64 >>> ((8 : Int32) &&& 0x3f).toInt64.toUInt64).toInt64).toInt32).toInt8.toInt32)) else y26 i);
  let y30 : Int32 → Int32 := (fun i => if i = (OF + (2 : Int32)) then (nar .byte ((((q1.toUInt64 >>> ((16 : Int32) &&& 0x3f).toInt64.toUInt64).toInt64).toInt32).toInt8.toInt32)) else y28 i);
  let y32 : Int32 → Int32 := (fun i => if i = (OF + (3 : Int32)) then (nar .byte ((((q1.toUInt64 >>> ((24 : Int32) &&& 0x3f).toInt64.toUInt64).toInt64).toInt32).toInt8.toInt32)) else y30 i);
  let y34 : Int32 → Int32 := (fun i => if i = (OF + (4 : Int32)) then (nar .byte ((((q1.toUInt64 >>> ((32 : Int32) &&& 0x3f).toInt64.toUInt64).toInt64).toInt32).toInt8.toInt32)) else y32 i);
  let y36 : Int32 → Int32 := (fun i => if i = (OF + (5 : Int32)) then (nar .byte ((((q1.toUInt64 >>> ((40 : Int32) &&& 0x3f).toInt64.toUInt64).toInt64).toInt32).toInt8.toInt32)) else y34 i);
  let y38 : Int32 → Int32 := (fun i => if i = (OF + (6 : Int32)) then (nar .byte ((((q1.toUInt64 >>> ((48 : Int32) &&& 0x3f).toInt64.toUInt64).toInt64).toInt32).toInt8.toInt32)) else y36 i);
  let y40 : Int32 → Int32 := (fun i => if i = (OF + (7 : Int32)) then (nar .byte ((((q1.toUInt64 >>> ((56 : Int32) &&& 0x3f).toInt64.toUInt64).toInt64).toInt32).toInt8.toInt32)) else y38 i);
  y40
theorem own_b0 (q1 : Int64) : (nar .byte ((q1.toInt32).toInt8.toInt32)).toInt % 256 = ((q1.toInt % 18446744073709551616) / 1) % 256 := by
  have h2 := c_l2i q1
  have h3 := c_i2b q1.toInt32
  have h4 := c_i2b (q1.toInt32.toInt8.toInt32)
  show (q1.toInt32.toInt8.toInt32.toInt8.toInt32).toInt % 256 = _
  omega
theorem own_b1 (q1 : Int64) : (nar .byte ((((q1.toUInt64 >>> ((8 : Int32) &&& 0x3f).toInt64.toUInt64).toInt64).toInt32).toInt8.toInt32)).toInt % 256 = ((q1.toInt % 18446744073709551616) / 256) % 256 := by
  have h1 := c_lushr q1 8 8 (by decide) (by decide)
  generalize (q1.toUInt64 >>> ((8 : Int32) &&& 0x3f).toInt64.toUInt64).toInt64 = r at *
  have h2 := c_l2i r
  have h3 := c_i2b r.toInt32
  have h4 := c_i2b (r.toInt32.toInt8.toInt32)
  show (r.toInt32.toInt8.toInt32.toInt8.toInt32).toInt % 256 = _
  have e : ((2 ^ 8 : Nat) : Int) = 256 := by decide
  rw [e] at h1
  omega
theorem own_b2 (q1 : Int64) : (nar .byte ((((q1.toUInt64 >>> ((16 : Int32) &&& 0x3f).toInt64.toUInt64).toInt64).toInt32).toInt8.toInt32)).toInt % 256 = ((q1.toInt % 18446744073709551616) / 65536) % 256 := by
  have h1 := c_lushr q1 16 16 (by decide) (by decide)
  generalize (q1.toUInt64 >>> ((16 : Int32) &&& 0x3f).toInt64.toUInt64).toInt64 = r at *
  have h2 := c_l2i r
  have h3 := c_i2b r.toInt32
  have h4 := c_i2b (r.toInt32.toInt8.toInt32)
  show (r.toInt32.toInt8.toInt32.toInt8.toInt32).toInt % 256 = _
  have e : ((2 ^ 16 : Nat) : Int) = 65536 := by decide
  rw [e] at h1
  omega
theorem own_b3 (q1 : Int64) : (nar .byte ((((q1.toUInt64 >>> ((24 : Int32) &&& 0x3f).toInt64.toUInt64).toInt64).toInt32).toInt8.toInt32)).toInt % 256 = ((q1.toInt % 18446744073709551616) / 16777216) % 256 := by
  have h1 := c_lushr q1 24 24 (by decide) (by decide)
  generalize (q1.toUInt64 >>> ((24 : Int32) &&& 0x3f).toInt64.toUInt64).toInt64 = r at *
  have h2 := c_l2i r
  have h3 := c_i2b r.toInt32
  have h4 := c_i2b (r.toInt32.toInt8.toInt32)
  show (r.toInt32.toInt8.toInt32.toInt8.toInt32).toInt % 256 = _
  have e : ((2 ^ 24 : Nat) : Int) = 16777216 := by decide
  rw [e] at h1
  omega
theorem own_b4 (q1 : Int64) : (nar .byte ((((q1.toUInt64 >>> ((32 : Int32) &&& 0x3f).toInt64.toUInt64).toInt64).toInt32).toInt8.toInt32)).toInt % 256 = ((q1.toInt % 18446744073709551616) / 4294967296) % 256 := by
  have h1 := c_lushr q1 32 32 (by decide) (by decide)
  generalize (q1.toUInt64 >>> ((32 : Int32) &&& 0x3f).toInt64.toUInt64).toInt64 = r at *
  have h2 := c_l2i r
  have h3 := c_i2b r.toInt32
  have h4 := c_i2b (r.toInt32.toInt8.toInt32)
  show (r.toInt32.toInt8.toInt32.toInt8.toInt32).toInt % 256 = _
  have e : ((2 ^ 32 : Nat) : Int) = 4294967296 := by decide
  rw [e] at h1
  omega
theorem own_b5 (q1 : Int64) : (nar .byte ((((q1.toUInt64 >>> ((40 : Int32) &&& 0x3f).toInt64.toUInt64).toInt64).toInt32).toInt8.toInt32)).toInt % 256 = ((q1.toInt % 18446744073709551616) / 1099511627776) % 256 := by
  have h1 := c_lushr q1 40 40 (by decide) (by decide)
  generalize (q1.toUInt64 >>> ((40 : Int32) &&& 0x3f).toInt64.toUInt64).toInt64 = r at *
  have h2 := c_l2i r
  have h3 := c_i2b r.toInt32
  have h4 := c_i2b (r.toInt32.toInt8.toInt32)
  show (r.toInt32.toInt8.toInt32.toInt8.toInt32).toInt % 256 = _
  have e : ((2 ^ 40 : Nat) : Int) = 1099511627776 := by decide
  rw [e] at h1
  omega
theorem own_b6 (q1 : Int64) : (nar .byte ((((q1.toUInt64 >>> ((48 : Int32) &&& 0x3f).toInt64.toUInt64).toInt64).toInt32).toInt8.toInt32)).toInt % 256 = ((q1.toInt % 18446744073709551616) / 281474976710656) % 256 := by
  have h1 := c_lushr q1 48 48 (by decide) (by decide)
  generalize (q1.toUInt64 >>> ((48 : Int32) &&& 0x3f).toInt64.toUInt64).toInt64 = r at *
  have h2 := c_l2i r
  have h3 := c_i2b r.toInt32
  have h4 := c_i2b (r.toInt32.toInt8.toInt32)
  show (r.toInt32.toInt8.toInt32.toInt8.toInt32).toInt % 256 = _
  have e : ((2 ^ 48 : Nat) : Int) = 281474976710656 := by decide
  rw [e] at h1
  omega
theorem own_b7 (q1 : Int64) : (nar .byte ((((q1.toUInt64 >>> ((56 : Int32) &&& 0x3f).toInt64.toUInt64).toInt64).toInt32).toInt8.toInt32)).toInt % 256 = ((q1.toInt % 18446744073709551616) / 72057594037927936) % 256 := by
  have h1 := c_lushr q1 56 56 (by decide) (by decide)
  generalize (q1.toUInt64 >>> ((56 : Int32) &&& 0x3f).toInt64.toUInt64).toInt64 = r at *
  have h2 := c_l2i r
  have h3 := c_i2b r.toInt32
  have h4 := c_i2b (r.toInt32.toInt8.toInt32)
  show (r.toInt32.toInt8.toInt32.toInt8.toInt32).toInt % 256 = _
  have e : ((2 ^ 56 : Nat) : Int) = 72057594037927936 := by decide
  rw [e] at h1
  omega
theorem own_y0_0 (q1 q2 : Int64) : own_Y 0 q1 q2 ((0 : Int32) + (0 : Int32)) = nar .byte ((q1.toInt32).toInt8.toInt32) := rfl
theorem own_y0_1 (q1 q2 : Int64) : own_Y 0 q1 q2 ((0 : Int32) + (1 : Int32)) = nar .byte ((((q1.toUInt64 >>> ((8 : Int32) &&& 0x3f).toInt64.toUInt64).toInt64).toInt32).toInt8.toInt32) := rfl
theorem own_y0_2 (q1 q2 : Int64) : own_Y 0 q1 q2 ((0 : Int32) + (2 : Int32)) = nar .byte ((((q1.toUInt64 >>> ((16 : Int32) &&& 0x3f).toInt64.toUInt64).toInt64).toInt32).toInt8.toInt32) := rfl
theorem own_y0_3 (q1 q2 : Int64) : own_Y 0 q1 q2 ((0 : Int32) + (3 : Int32)) = nar .byte ((((q1.toUInt64 >>> ((24 : Int32) &&& 0x3f).toInt64.toUInt64).toInt64).toInt32).toInt8.toInt32) := rfl
theorem own_y0_4 (q1 q2 : Int64) : own_Y 0 q1 q2 ((0 : Int32) + (4 : Int32)) = nar .byte ((((q1.toUInt64 >>> ((32 : Int32) &&& 0x3f).toInt64.toUInt64).toInt64).toInt32).toInt8.toInt32) := rfl
theorem own_y0_5 (q1 q2 : Int64) : own_Y 0 q1 q2 ((0 : Int32) + (5 : Int32)) = nar .byte ((((q1.toUInt64 >>> ((40 : Int32) &&& 0x3f).toInt64.toUInt64).toInt64).toInt32).toInt8.toInt32) := rfl
theorem own_y0_6 (q1 q2 : Int64) : own_Y 0 q1 q2 ((0 : Int32) + (6 : Int32)) = nar .byte ((((q1.toUInt64 >>> ((48 : Int32) &&& 0x3f).toInt64.toUInt64).toInt64).toInt32).toInt8.toInt32) := rfl
theorem own_y0_7 (q1 q2 : Int64) : own_Y 0 q1 q2 ((0 : Int32) + (7 : Int32)) = nar .byte ((((q1.toUInt64 >>> ((56 : Int32) &&& 0x3f).toInt64.toUInt64).toInt64).toInt32).toInt8.toInt32) := rfl
theorem own_y1_0 (q1 q2 : Int64) : own_Y 1 q1 q2 ((1 : Int32) + (0 : Int32)) = nar .byte ((q1.toInt32).toInt8.toInt32) := rfl
theorem own_y1_1 (q1 q2 : Int64) : own_Y 1 q1 q2 ((1 : Int32) + (1 : Int32)) = nar .byte ((((q1.toUInt64 >>> ((8 : Int32) &&& 0x3f).toInt64.toUInt64).toInt64).toInt32).toInt8.toInt32) := rfl
theorem own_y1_2 (q1 q2 : Int64) : own_Y 1 q1 q2 ((1 : Int32) + (2 : Int32)) = nar .byte ((((q1.toUInt64 >>> ((16 : Int32) &&& 0x3f).toInt64.toUInt64).toInt64).toInt32).toInt8.toInt32) := rfl
theorem own_y1_3 (q1 q2 : Int64) : own_Y 1 q1 q2 ((1 : Int32) + (3 : Int32)) = nar .byte ((((q1.toUInt64 >>> ((24 : Int32) &&& 0x3f).toInt64.toUInt64).toInt64).toInt32).toInt8.toInt32) := rfl
theorem own_y1_4 (q1 q2 : Int64) : own_Y 1 q1 q2 ((1 : Int32) + (4 : Int32)) = nar .byte ((((q1.toUInt64 >>> ((32 : Int32) &&& 0x3f).toInt64.toUInt64).toInt64).toInt32).toInt8.toInt32) := rfl
theorem own_y1_5 (q1 q2 : Int64) : own_Y 1 q1 q2 ((1 : Int32) + (5 : Int32)) = nar .byte ((((q1.toUInt64 >>> ((40 : Int32) &&& 0x3f).toInt64.toUInt64).toInt64).toInt32).toInt8.toInt32) := rfl
theorem own_y1_6 (q1 q2 : Int64) : own_Y 1 q1 q2 ((1 : Int32) + (6 : Int32)) = nar .byte ((((q1.toUInt64 >>> ((48 : Int32) &&& 0x3f).toInt64.toUInt64).toInt64).toInt32).toInt8.toInt32) := rfl
theorem own_y1_7 (q1 q2 : Int64) : own_Y 1 q1 q2 ((1 : Int32) + (7 : Int32)) = nar .byte ((((q1.toUInt64 >>> ((56 : Int32) &&& 0x3f).toInt64.toUInt64).toInt64).toInt32).toInt8.toInt32) := rfl
theorem own_y2_0 (q1 q2 : Int64) : own_Y 2 q1 q2 ((2 : Int32) + (0 : Int32)) = nar .byte ((q1.toInt32).toInt8.toInt32) := rfl
theorem own_y2_1 (q1 q2 : Int64) : own_Y 2 q1 q2 ((2 : Int32) + (1 : Int32)) = nar .byte ((((q1.toUInt64 >>> ((8 : Int32) &&& 0x3f).toInt64.toUInt64).toInt64).toInt32).toInt8.toInt32) := rfl
theorem own_y2_2 (q1 q2 : Int64) : own_Y 2 q1 q2 ((2 : Int32) + (2 : Int32)) = nar .byte ((((q1.toUInt64 >>> ((16 : Int32) &&& 0x3f).toInt64.toUInt64).toInt64).toInt32).toInt8.toInt32) := rfl
theorem own_y2_3 (q1 q2 : Int64) : own_Y 2 q1 q2 ((2 : Int32) + (3 : Int32)) = nar .byte ((((q1.toUInt64 >>> ((24 : Int32) &&& 0x3f).toInt64.toUInt64).toInt64).toInt32).toInt8.toInt32) := rfl
theorem own_y2_4 (q1 q2 : Int64) : own_Y 2 q1 q2 ((2 : Int32) + (4 : Int32)) = nar .byte ((((q1.toUInt64 >>> ((32 : Int32) &&& 0x3f).toInt64.toUInt64).toInt64).toInt32).toInt8.toInt32) := rfl
theorem own_y2_5 (q1 q2 : Int64) : own_Y 2 q1 q2 ((2 : Int32) + (5 : Int32)) = nar .byte ((((q1.toUInt64 >>> ((40 : Int32) &&& 0x3f).toInt64.toUInt64).toInt64).toInt32).toInt8.toInt32) := rfl
theorem own_y2_6 (q1 q2 : Int64) : own_Y 2 q1 q2 ((2 : Int32) + (6 : Int32)) = nar .byte ((((q1.toUInt64 >>> ((48 : Int32) &&& 0x3f).toInt64.toUInt64).toInt64).toInt32).toInt8.toInt32) := rfl
theorem own_y2_7 (q1 q2 : Int64) : own_Y 2 q1 q2 ((2 : Int32) + (7 : Int32)) = nar .byte ((((q1.toUInt64 >>> ((56 : Int32) &&& 0x3f).toInt64.toUInt64).toInt64).toInt32).toInt8.toInt32) := rfl
theorem own_y3_0 (q1 q2 : Int64) : own_Y 3 q1 q2 ((3 : Int32) + (0 : Int32)) = nar .byte ((q1.toInt32).toInt8.toInt32) := rfl
theorem own_y3_1 (q1 q2 : Int64) : own_Y 3 q1 q2 ((3 : Int32) + (1 : Int32)) = nar .byte ((((q1.toUInt64 >>> ((8 : Int32) &&& 0x3f).toInt64.toUInt64).toInt64).toInt32).toInt8.toInt32) := rfl
theorem own_y3_2 (q1 q2 : Int64) : own_Y 3 q1 q2 ((3 : Int32) + (2 : Int32)) = nar .byte ((((q1.toUInt64 >>> ((16 : Int32) &&& 0x3f).toInt64.toUInt64).toInt64).toInt32).toInt8.toInt32) := rfl
theorem own_y3_3 (q1 q2 : Int64) : own_Y 3 q1 q2 ((3 : Int32) + (3 : Int32)) = nar .byte ((((q1.toUInt64 >>> ((24 : Int32) &&& 0x3f).toInt64.toUInt64).toInt64).toInt32).toInt8.toInt32) := rfl
theorem own_y3_4 (q1 q2 : Int64) : own_Y 3 q1 q2 ((3 : Int32) + (4 : Int32)) = nar .byte ((((q1.toUInt64 >>> ((32 : Int32) &&& 0x3f).toInt64.toUInt64).toInt64).toInt32).toInt8.toInt32) := rfl
theorem own_y3_5 (q1 q2 : Int64) : own_Y 3 q1 q2 ((3 : Int32) + (5 : Int32)) = nar .byte ((((q1.toUInt64 >>> ((40 : Int32) &&& 0x3f).toInt64.toUInt64).toInt64).toInt32).toInt8.toInt32) := rfl
theorem own_y3_6 (q1 q2 : Int64) : own_Y 3 q1 q2 ((3 : Int32) + (6 : Int32)) = nar .byte ((((q1.toUInt64 >>> ((48 : Int32) &&& 0x3f).toInt64.toUInt64).toInt64).toInt32).toInt8.toInt32) := rfl
theorem own_y3_7 (q1 q2 : Int64) : own_Y 3 q1 q2 ((3 : Int32) + (7 : Int32)) = nar .byte ((((q1.toUInt64 >>> ((56 : Int32) &&& 0x3f).toInt64.toUInt64).toInt64).toInt32).toInt8.toInt32) := rfl

def own_By (y : Int32 → Int32) (off : Int32) (X : Int) : Prop := (y (off + 0)).toInt % 256 = (X / 1) % 256 ∧ (y (off + 1)).toInt % 256 = (X / 256) % 256 ∧ (y (off + 2)).toInt % 256 = (X / 65536) % 256 ∧ (y (off + 3)).toInt % 256 = (X / 16777216) % 256 ∧ (y (off + 4)).toInt % 256 = (X / 4294967296) % 256 ∧ (y (off + 5)).toInt % 256 = (X / 1099511627776) % 256 ∧ (y (off + 6)).toInt % 256 = (X / 281474976710656) % 256 ∧ (y (off + 7)).toInt % 256 = (X / 72057594037927936) % 256
theorem own_step (acc : Int64) (b : Int32) : (((acc <<< ((8 : Int32) &&& 0x3f).toInt64) ||| ((b &&& (255 : Int32)).toInt64)).toInt - (acc.toInt * 256 + b.toInt % 256)) % 18446744073709551616 = 0 := by
  have h1 := c_lshl acc 8 8 (by decide)
  have e : ((2 ^ 8 : Nat) : Int) = 256 := by decide
  rw [e] at h1
  have h2 := c_mask b 255 8 (by decide) (by decide)
  rw [e] at h2
  have h3 := c_i2l (b &&& (255 : Int32))
  have h4 := c_orL (acc <<< ((8 : Int32) &&& 0x3f).toInt64) ((b &&& (255 : Int32)).toInt64) 8 (by decide) 256 (by decide) (by omega) (by omega) (by omega)
  omega
theorem own_u0 (y : Int32 → Int32) (off : Int32) (X : Int) (i : Int32) (acc : Int64) : ((own_uns y off 0 i acc).toInt - (acc.toInt * 1 + X % 1)) % 18446744073709551616 = 0 := by
  show (acc.toInt - (acc.toInt * 1 + X % 1)) % 18446744073709551616 = 0
  omega
theorem own_u1 (y : Int32 → Int32) (off : Int32) (X : Int) (hX : 0 ≤ X) (B : own_By y off X) (acc : Int64) : ((own_uns y off 1 (0 : Int32) acc).toInt - (acc.toInt * 256 + X % 256)) % 18446744073709551616 = 0 := by
  have s := own_step acc (y (off + (0 : Int32)))
  have e : own_uns y off 1 (0 : Int32) acc = own_uns y off 0 (-1 : Int32) ((acc <<< ((8 : Int32) &&& 0x3f).toInt64) ||| (((y (off + (0 : Int32))) &&& (255 : Int32)).toInt64)) := rfl
  rw [e]
  have u := own_u0 y off X (-1) ((acc <<< ((8 : Int32) &&& 0x3f).toInt64) ||| (((y (off + (0 : Int32))) &&& (255 : Int32)).toInt64))
  generalize (acc <<< ((8 : Int32) &&& 0x3f).toInt64) ||| (((y (off + (0 : Int32))) &&& (255 : Int32)).toInt64) = acc' at *
  have b := B.1
  generalize (y (off + (0 : Int32))).toInt = bb at *
  omega
theorem own_u2 (y : Int32 → Int32) (off : Int32) (X : Int) (hX : 0 ≤ X) (B : own_By y off X) (acc : Int64) : ((own_uns y off 2 (1 : Int32) acc).toInt - (acc.toInt * 65536 + X % 65536)) % 18446744073709551616 = 0 := by
  have s := own_step acc (y (off + (1 : Int32)))
  have e : own_uns y off 2 (1 : Int32) acc = own_uns y off 1 (0 : Int32) ((acc <<< ((8 : Int32) &&& 0x3f).toInt64) ||| (((y (off + (1 : Int32))) &&& (255 : Int32)).toInt64)) := rfl
  rw [e]
  have u := own_u1 y off X hX B ((acc <<< ((8 : Int32) &&& 0x3f).toInt64) ||| (((y (off + (1 : Int32))) &&& (255 : Int32)).toInt64))
  generalize (acc <<< ((8 : Int32) &&& 0x3f).toInt64) ||| (((y (off + (1 : Int32))) &&& (255 : Int32)).toInt64) = acc' at *
  have b := B.2.1
  generalize (y (off + (1 : Int32))).toInt = bb at *
  omega
theorem own_u3 (y : Int32 → Int32) (off : Int32) (X : Int) (hX : 0 ≤ X) (B : own_By y off X) (acc : Int64) : ((own_uns y off 3 (2 : Int32) acc).toInt - (acc.toInt * 16777216 + X % 16777216)) % 18446744073709551616 = 0 := by
  have s := own_step acc (y (off + (2 : Int32)))
  have e : own_uns y off 3 (2 : Int32) acc = own_uns y off 2 (1 : Int32) ((acc <<< ((8 : Int32) &&& 0x3f).toInt64) ||| (((y (off + (2 : Int32))) &&& (255 : Int32)).toInt64)) := rfl
  rw [e]
  have u := own_u2 y off X hX B ((acc <<< ((8 : Int32) &&& 0x3f).toInt64) ||| (((y (off + (2 : Int32))) &&& (255 : Int32)).toInt64))
  generalize (acc <<< ((8 : Int32) &&& 0x3f).toInt64) ||| (((y (off + (2 : Int32))) &&& (255 : Int32)).toInt64) = acc' at *
  have b := B.2.2.1
  generalize (y (off + (2 : Int32))).toInt = bb at *
  omega
theorem own_u4 (y : Int32 → Int32) (off : Int32) (X : Int) (hX : 0 ≤ X) (B : own_By y off X) (acc : Int64) : ((own_uns y off 4 (3 : Int32) acc).toInt - (acc.toInt * 4294967296 + X % 4294967296)) % 18446744073709551616 = 0 := by
  have s := own_step acc (y (off + (3 : Int32)))
  have e : own_uns y off 4 (3 : Int32) acc = own_uns y off 3 (2 : Int32) ((acc <<< ((8 : Int32) &&& 0x3f).toInt64) ||| (((y (off + (3 : Int32))) &&& (255 : Int32)).toInt64)) := rfl
  rw [e]
  have u := own_u3 y off X hX B ((acc <<< ((8 : Int32) &&& 0x3f).toInt64) ||| (((y (off + (3 : Int32))) &&& (255 : Int32)).toInt64))
  generalize (acc <<< ((8 : Int32) &&& 0x3f).toInt64) ||| (((y (off + (3 : Int32))) &&& (255 : Int32)).toInt64) = acc' at *
  have b := B.2.2.2.1
  generalize (y (off + (3 : Int32))).toInt = bb at *
  omega
theorem own_u5 (y : Int32 → Int32) (off : Int32) (X : Int) (hX : 0 ≤ X) (B : own_By y off X) (acc : Int64) : ((own_uns y off 5 (4 : Int32) acc).toInt - (acc.toInt * 1099511627776 + X % 1099511627776)) % 18446744073709551616 = 0 := by
  have s := own_step acc (y (off + (4 : Int32)))
  have e : own_uns y off 5 (4 : Int32) acc = own_uns y off 4 (3 : Int32) ((acc <<< ((8 : Int32) &&& 0x3f).toInt64) ||| (((y (off + (4 : Int32))) &&& (255 : Int32)).toInt64)) := rfl
  rw [e]
  have u := own_u4 y off X hX B ((acc <<< ((8 : Int32) &&& 0x3f).toInt64) ||| (((y (off + (4 : Int32))) &&& (255 : Int32)).toInt64))
  generalize (acc <<< ((8 : Int32) &&& 0x3f).toInt64) ||| (((y (off + (4 : Int32))) &&& (255 : Int32)).toInt64) = acc' at *
  have b := B.2.2.2.2.1
  generalize (y (off + (4 : Int32))).toInt = bb at *
  omega
theorem own_u6 (y : Int32 → Int32) (off : Int32) (X : Int) (hX : 0 ≤ X) (B : own_By y off X) (acc : Int64) : ((own_uns y off 6 (5 : Int32) acc).toInt - (acc.toInt * 281474976710656 + X % 281474976710656)) % 18446744073709551616 = 0 := by
  have s := own_step acc (y (off + (5 : Int32)))
  have e : own_uns y off 6 (5 : Int32) acc = own_uns y off 5 (4 : Int32) ((acc <<< ((8 : Int32) &&& 0x3f).toInt64) ||| (((y (off + (5 : Int32))) &&& (255 : Int32)).toInt64)) := rfl
  rw [e]
  have u := own_u5 y off X hX B ((acc <<< ((8 : Int32) &&& 0x3f).toInt64) ||| (((y (off + (5 : Int32))) &&& (255 : Int32)).toInt64))
  generalize (acc <<< ((8 : Int32) &&& 0x3f).toInt64) ||| (((y (off + (5 : Int32))) &&& (255 : Int32)).toInt64) = acc' at *
  have b := B.2.2.2.2.2.1
  generalize (y (off + (5 : Int32))).toInt = bb at *
  omega
theorem own_u7 (y : Int32 → Int32) (off : Int32) (X : Int) (hX : 0 ≤ X) (B : own_By y off X) (acc : Int64) : ((own_uns y off 7 (6 : Int32) acc).toInt - (acc.toInt * 72057594037927936 + X % 72057594037927936)) % 18446744073709551616 = 0 := by
  have s := own_step acc (y (off + (6 : Int32)))
  have e : own_uns y off 7 (6 : Int32) acc = own_uns y off 6 (5 : Int32) ((acc <<< ((8 : Int32) &&& 0x3f).toInt64) ||| (((y (off + (6 : Int32))) &&& (255 : Int32)).toInt64)) := rfl
  rw [e]
  have u := own_u6 y off X hX B ((acc <<< ((8 : Int32) &&& 0x3f).toInt64) ||| (((y (off + (6 : Int32))) &&& (255 : Int32)).toInt64))
  generalize (acc <<< ((8 : Int32) &&& 0x3f).toInt64) ||| (((y (off + (6 : Int32))) &&& (255 : Int32)).toInt64) = acc' at *
  have b := B.2.2.2.2.2.2.1
  generalize (y (off + (6 : Int32))).toInt = bb at *
  omega
theorem own_u8 (y : Int32 → Int32) (off : Int32) (X : Int) (hX : 0 ≤ X) (B : own_By y off X) (acc : Int64) : ((own_uns y off 8 (7 : Int32) acc).toInt - (acc.toInt * 18446744073709551616 + X % 18446744073709551616)) % 18446744073709551616 = 0 := by
  have s := own_step acc (y (off + (7 : Int32)))
  have e : own_uns y off 8 (7 : Int32) acc = own_uns y off 7 (6 : Int32) ((acc <<< ((8 : Int32) &&& 0x3f).toInt64) ||| (((y (off + (7 : Int32))) &&& (255 : Int32)).toInt64)) := rfl
  rw [e]
  have u := own_u7 y off X hX B ((acc <<< ((8 : Int32) &&& 0x3f).toInt64) ||| (((y (off + (7 : Int32))) &&& (255 : Int32)).toInt64))
  generalize (acc <<< ((8 : Int32) &&& 0x3f).toInt64) ||| (((y (off + (7 : Int32))) &&& (255 : Int32)).toInt64) = acc' at *
  have b := B.2.2.2.2.2.2.2
  generalize (y (off + (7 : Int32))).toInt = bb at *
  omega

theorem own_eq64 {a b : Int64} (h : (a.toInt - b.toInt) % 18446744073709551616 = 0) : a = b := by
  have r1 := rng64 a
  have r2 := rng64 b
  apply Int64.toInt_inj.mp; omega
theorem own_fin (LE : Int32) (off : Int32) (y : Int32 → Int32) (q1 : Int64) (h0 : 0 ≤ LE.toInt) (h8 : LE.toInt ≤ 8) (B : own_By y off (q1.toInt % 18446744073709551616)) : f1 off LE y = (if LE = (0 : Int32) then (0 : Int64) else (if LE = (8 : Int32) then q1 else (q1 &&& (((1 : Int64) <<< (((8 : Int32) * LE) &&& 0x3f).toInt64) - (1 : Int64))))) := by
  have z0 : (0 : Int64).toInt = 0 := by decide
  obtain ⟨k, hk, rfl⟩ := own_nat (c := LE) 9 h0 (by omega)
  match k, hk with
  | 0, _ =>
    have e : f1 off (Int32.ofInt (0 : Nat)) y = 0 := rfl
    rw [e, if_pos (by decide)]
  | 1, _ =>
    have e : f1 off (Int32.ofInt (1 : Nat)) y = own_uns y off 1 (0 : Int32) (0 : Int64) := rfl
    have u := own_u1 y off (q1.toInt % 18446744073709551616) (by omega) B (0 : Int64)
    rw [e, if_neg (by decide), if_neg (by decide)]
    apply own_eq64
    have hm : ((1 : Int64) <<< (((8 : Int32) * (Int32.ofInt (1 : Nat))) &&& 0x3f).toInt64) - (1 : Int64) = (255 : Int64) := by decide +kernel
    rw [hm]
    have m := c_maskL q1 255 8 (by decide) (by decide)
    have e2 : ((2 ^ 8 : Nat) : Int) = 256 := by decide
    rw [e2] at m
    omega
  | 2, _ =>
    have e : f1 off (Int32.ofInt (2 : Nat)) y = own_uns y off 2 (1 : Int32) (0 : Int64) := rfl
    have u := own_u2 y off (q1.toInt % 18446744073709551616) (by omega) B (0 : Int64)
    rw [e, if_neg (by decide), if_neg (by decide)]
    apply own_eq64
    have hm : ((1 : Int64) <<< (((8 : Int32) * (Int32.ofInt (2 : Nat))) &&& 0x3f).toInt64) - (1 : Int64) = (65535 : Int64) := by decide +kernel
    rw [hm]
    have m := c_maskL q1 65535 16 (by decide) (by decide)
    have e2 : ((2 ^ 16 : Nat) : Int) = 65536 := by decide
    rw [e2] at m
    omega
  | 3, _ =>
    have e : f1 off (Int32.ofInt (3 : Nat)) y = own_uns y off 3 (2 : Int32) (0 : Int64) := rfl
    have u := own_u3 y off (q1.toInt % 18446744073709551616) (by omega) B (0 : Int64)
    rw [e, if_neg (by decide), if_neg (by decide)]
    apply own_eq64
    have hm : ((1 : Int64) <<< (((8 : Int32) * (Int32.ofInt (3 : Nat))) &&& 0x3f).toInt64) - (1 : Int64) = (16777215 : Int64) := by decide +kernel
    rw [hm]
    have m := c_maskL q1 16777215 24 (by decide) (by decide)
    have e2 : ((2 ^ 24 : Nat) : Int) = 16777216 := by decide
    rw [e2] at m
    omega
  | 4, _ =>
    have e : f1 off (Int32.ofInt (4 : Nat)) y = own_uns y off 4 (3 : Int32) (0 : Int64) := rfl
    have u := own_u4 y off (q1.toInt % 18446744073709551616) (by omega) B (0 : Int64)
    rw [e, if_neg (by decide), if_neg (by decide)]
    apply own_eq64
    have hm : ((1 : Int64) <<< (((8 : Int32) * (Int32.ofInt (4 : Nat))) &&& 0x3f).toInt64) - (1 : Int64) = (4294967295 : Int64) := by decide +kernel
    rw [hm]
    have m := c_maskL q1 4294967295 32 (by decide) (by decide)
    have e2 : ((2 ^ 32 : Nat) : Int) = 4294967296 := by decide
    rw [e2] at m
    omega
  | 5, _ =>
    have e : f1 off (Int32.ofInt (5 : Nat)) y = own_uns y off 5 (4 : Int32) (0 : Int64) := rfl
    have u := own_u5 y off (q1.toInt % 18446744073709551616) (by omega) B (0 : Int64)
    rw [e, if_neg (by decide), if_neg (by decide)]
    apply own_eq64
    have hm : ((1 : Int64) <<< (((8 : Int32) * (Int32.ofInt (5 : Nat))) &&& 0x3f).toInt64) - (1 : Int64) = (1099511627775 : Int64) := by decide +kernel
    rw [hm]
    have m := c_maskL q1 1099511627775 40 (by decide) (by decide)
    have e2 : ((2 ^ 40 : Nat) : Int) = 1099511627776 := by decide
    rw [e2] at m
    omega
  | 6, _ =>
    have e : f1 off (Int32.ofInt (6 : Nat)) y = own_uns y off 6 (5 : Int32) (0 : Int64) := rfl
    have u := own_u6 y off (q1.toInt % 18446744073709551616) (by omega) B (0 : Int64)
    rw [e, if_neg (by decide), if_neg (by decide)]
    apply own_eq64
    have hm : ((1 : Int64) <<< (((8 : Int32) * (Int32.ofInt (6 : Nat))) &&& 0x3f).toInt64) - (1 : Int64) = (281474976710655 : Int64) := by decide +kernel
    rw [hm]
    have m := c_maskL q1 281474976710655 48 (by decide) (by decide)
    have e2 : ((2 ^ 48 : Nat) : Int) = 281474976710656 := by decide
    rw [e2] at m
    omega
  | 7, _ =>
    have e : f1 off (Int32.ofInt (7 : Nat)) y = own_uns y off 7 (6 : Int32) (0 : Int64) := rfl
    have u := own_u7 y off (q1.toInt % 18446744073709551616) (by omega) B (0 : Int64)
    rw [e, if_neg (by decide), if_neg (by decide)]
    apply own_eq64
    have hm : ((1 : Int64) <<< (((8 : Int32) * (Int32.ofInt (7 : Nat))) &&& 0x3f).toInt64) - (1 : Int64) = (72057594037927935 : Int64) := by decide +kernel
    rw [hm]
    have m := c_maskL q1 72057594037927935 56 (by decide) (by decide)
    have e2 : ((2 ^ 56 : Nat) : Int) = 72057594037927936 := by decide
    rw [e2] at m
    omega
  | 8, _ =>
    have e : f1 off (Int32.ofInt (8 : Nat)) y = own_uns y off 8 (7 : Int32) (0 : Int64) := rfl
    have u := own_u8 y off (q1.toInt % 18446744073709551616) (by omega) B (0 : Int64)
    rw [e, if_neg (by decide), if_pos (by decide)]
    apply own_eq64
    omega
theorem own_B (OF : Int32) (q1 q2 : Int64) (h0 : 0 ≤ OF.toInt) (h4 : OF.toInt < 4) : own_By (own_Y OF q1 q2) OF (q1.toInt % 18446744073709551616) := by
  obtain ⟨a, ha, rfl⟩ := own_nat (c := OF) 4 h0 (by omega)
  match a, ha with
  | 0, _ => exact ⟨(congrArg (fun z : Int32 => z.toInt % 256) (own_y0_0 q1 q2)).trans (own_b0 q1), (congrArg (fun z : Int32 => z.toInt % 256) (own_y0_1 q1 q2)).trans (own_b1 q1), (congrArg (fun z : Int32 => z.toInt % 256) (own_y0_2 q1 q2)).trans (own_b2 q1), (congrArg (fun z : Int32 => z.toInt % 256) (own_y0_3 q1 q2)).trans (own_b3 q1), (congrArg (fun z : Int32 => z.toInt % 256) (own_y0_4 q1 q2)).trans (own_b4 q1), (congrArg (fun z : Int32 => z.toInt % 256) (own_y0_5 q1 q2)).trans (own_b5 q1), (congrArg (fun z : Int32 => z.toInt % 256) (own_y0_6 q1 q2)).trans (own_b6 q1), (congrArg (fun z : Int32 => z.toInt % 256) (own_y0_7 q1 q2)).trans (own_b7 q1)⟩
  | 1, _ => exact ⟨(congrArg (fun z : Int32 => z.toInt % 256) (own_y1_0 q1 q2)).trans (own_b0 q1), (congrArg (fun z : Int32 => z.toInt % 256) (own_y1_1 q1 q2)).trans (own_b1 q1), (congrArg (fun z : Int32 => z.toInt % 256) (own_y1_2 q1 q2)).trans (own_b2 q1), (congrArg (fun z : Int32 => z.toInt % 256) (own_y1_3 q1 q2)).trans (own_b3 q1), (congrArg (fun z : Int32 => z.toInt % 256) (own_y1_4 q1 q2)).trans (own_b4 q1), (congrArg (fun z : Int32 => z.toInt % 256) (own_y1_5 q1 q2)).trans (own_b5 q1), (congrArg (fun z : Int32 => z.toInt % 256) (own_y1_6 q1 q2)).trans (own_b6 q1), (congrArg (fun z : Int32 => z.toInt % 256) (own_y1_7 q1 q2)).trans (own_b7 q1)⟩
  | 2, _ => exact ⟨(congrArg (fun z : Int32 => z.toInt % 256) (own_y2_0 q1 q2)).trans (own_b0 q1), (congrArg (fun z : Int32 => z.toInt % 256) (own_y2_1 q1 q2)).trans (own_b1 q1), (congrArg (fun z : Int32 => z.toInt % 256) (own_y2_2 q1 q2)).trans (own_b2 q1), (congrArg (fun z : Int32 => z.toInt % 256) (own_y2_3 q1 q2)).trans (own_b3 q1), (congrArg (fun z : Int32 => z.toInt % 256) (own_y2_4 q1 q2)).trans (own_b4 q1), (congrArg (fun z : Int32 => z.toInt % 256) (own_y2_5 q1 q2)).trans (own_b5 q1), (congrArg (fun z : Int32 => z.toInt % 256) (own_y2_6 q1 q2)).trans (own_b6 q1), (congrArg (fun z : Int32 => z.toInt % 256) (own_y2_7 q1 q2)).trans (own_b7 q1)⟩
  | 3, _ => exact ⟨(congrArg (fun z : Int32 => z.toInt % 256) (own_y3_0 q1 q2)).trans (own_b0 q1), (congrArg (fun z : Int32 => z.toInt % 256) (own_y3_1 q1 q2)).trans (own_b1 q1), (congrArg (fun z : Int32 => z.toInt % 256) (own_y3_2 q1 q2)).trans (own_b2 q1), (congrArg (fun z : Int32 => z.toInt % 256) (own_y3_3 q1 q2)).trans (own_b3 q1), (congrArg (fun z : Int32 => z.toInt % 256) (own_y3_4 q1 q2)).trans (own_b4 q1), (congrArg (fun z : Int32 => z.toInt % 256) (own_y3_5 q1 q2)).trans (own_b5 q1), (congrArg (fun z : Int32 => z.toInt % 256) (own_y3_6 q1 q2)).trans (own_b6 q1), (congrArg (fun z : Int32 => z.toInt % 256) (own_y3_7 q1 q2)).trans (own_b7 q1)⟩
theorem own_law (q1 q2 : Int64) (p3 p4 : Int32) : f0 q1 q2 p3 p4 = 1 := by
  unfold f0
  exact (congrArg (nar .boolean) (if_pos (own_fin ((p4 &&& (2147483647 : Int32)) % (9 : Int32)) (p3 &&& (3 : Int32)) (own_Y (p3 &&& (3 : Int32)) q1 q2) q1 (own_len p4).1 (own_len p4).2 (own_B _ q1 q2 (own_off p3).1 (own_off p3).2)))).trans (by decide)
set_option maxRecDepth 65536 in
set_option maxHeartbeats 40000000 in
theorem comes_1 {Post : Tables → Env → Array Value → State → Outcome → State → Prop} (hpost : ∀ tb e args s v u, (limb_1_1.after args s (.returned v) u = true ∧ limb_1_2.after args s (.returned v) u = true ∧ True) → FrameEnd s (.returned v) u (Jvm.fieldLocs frame_1_writes args s ++ Jvm.arrayLocs frame_1_arrays args s ++ Jvm.staticLocs frame_1_statics s) 16 128 → Post tb e args s (.returned v) u) :
    ArmFor flags0 classFile x code maxLocals ret World_1 tables_1 room_1 Calls_1 rest_1 Pre_1 Post := by
  intro l hfl _ _ p e ha hc hk s m args below hf hA hF happ hP
  obtain ⟨hcalls, hrest, hpre⟩ := hP
  obtain ⟨-, -, -, hnamed, -, -, -, hat⟩ := (Spec.applies_iff hf).mp happ
  obtain ⟨hg, hn⟩ := and_e (Cond.before_iff.mp (show (Jvm.Cond.and given_1 narrow_1).before args s = true from hpre))
  obtain ⟨g1, g2⟩ := and_e hg
  obtain ⟨g3, g4⟩ := and_e g2
  obtain ⟨g5, g6⟩ := and_e g4
  obtain ⟨g7, g8⟩ := and_e g6
  obtain ⟨w0, w1, w2, w3, rfl⟩ : ∃ w0 w1 w2 w3 : Value, args = #[w0, w1, w2, w3] := by
    have hs : args.size = 4 := by simpa [Cond.value, given_1] using g1
    obtain ⟨L⟩ := args
    match L, hs with
    | [w0, w1, w2, w3], _ => exact ⟨w0, w1, w2, w3, rfl⟩
  have hw := fun d (hd : d ∈ tables_1) => atoms_spec (ws := Jvm.Cond.code x code maxLocals ret :: tables_1) hat d (List.mem_cons_of_mem _ hd)
  obtain ⟨i0, ei0⟩ := isL_v g3
  obtain rfl : w0 = (.long i0) := Option.some.inj ei0
  obtain ⟨i1, ei1⟩ := isL_v g5
  obtain rfl : w1 = (.long i1) := Option.some.inj ei1
  obtain ⟨i2, ei2⟩ := is_v g7
  obtain rfl : w2 = (.int i2) := Option.some.inj ei2
  obtain ⟨i3, ei3⟩ := is_v g8
  obtain rfl : w3 = (.int i3) := Option.some.inj ei3
  obtain ⟨n, o, h1, h2, h3, _, L, rfl, ⟨rfl, N, -⟩, hq⟩ := rm0 l s _ hw tables_1 i0 i1 i2 i3 s.heap s.heap.size (Nat.le_refl _) (Old.start s) p e ha hc hk s m _ below hf ((Spec.applies_iff_loose hf).mp happ).1 ⟨rfl, State.Warmed39.refl s, rfl⟩ trivial
  refine ⟨n, _, h1, h2, h3, hpost _ _ _ _ _ _ ⟨Cond.after_iff.mpr rfl, Cond.after_iff.mpr (eq_i res_at (Term.int_eval (1)) (congrArg Value.int (own_law i0 i1 i2 i3))), trivial⟩ ⟨hq.1, hq.2.1, (hq.2.2.sift fun y hy => Or.inr (N y hy)).mono (by decide) (by decide)⟩⟩
theorem main_1_1 : Claimed_1_1 := comes_1 fun _ _ _ _ _ _ h hF => ⟨h.1, hF⟩
theorem main_1_2 : Claimed_1_2 := comes_1 fun _ _ _ _ _ _ h hF => ⟨h.2.1, hF⟩
end Jvm.Pilot.@@N@@
namespace Jvm.Pilot.@@N@@
open Jvm Jvm.ClassFile Sem Op Lib Jvm.Free Jvm.Stand Jvm.Pilot.@@N@@.Jvm.D
/-! MADE BY PROGRAM (witnessworld.py) out of the Statement's table words and the real class files: 9 classes; the members and pool entries that the words name. The judged class is class 1, her method 1. -/
namespace start1
open Jvm.ClassFile
def u (s : String) : CpInfo := .utf8 (stringToUtf16 s)
/-- a pool by its gaps: so many unusable entries, then the entry; so many at the end -/
def gap : Nat → List CpInfo → List CpInfo
  | 0, r => r
  | n + 1, r => .unusable :: gap n r
def poolList (es : List (Nat × CpInfo)) (last : Nat) : List CpInfo := es.foldr (fun e r => gap e.1 (e.2 :: r)) (gap last [])
def pool (es : List (Nat × CpInfo)) (last : Nat) : Array CpInfo := ⟨poolList es last⟩
def fileOf (pool : Array CpInfo) (this : Nat) (attrs : Array Attribute := #[]) (ms : Array MethodInfo := #[]) (fl : Nat := 33) (sup : Nat := 0) (ifs : Array Nat := #[]) (fds : Array FieldInfo := #[]) : ClassFile where
  minorVersion := 0
  majorVersion := 65
  constantPool := pool
  accessFlags := fl
  thisClass := this
  superClass := sup
  interfaces := ifs
  fields := fds
  methods := ms
  attributes := attrs
def plain (name : String) (sup : Option ClassId) : Class where
  name := name
  kind := .ordinary
  loader := none
  accessFlags := 33
  super := sup
  interfaces := #[]
  cf := none
  fields := #[]
  methods := #[]
  instanceTypes := #[]
  staticTypes := #[]
  resolved := #[]
  callSites := []
  init := .initialized
  statics := none
  mirror := none

def pool0 : Array CpInfo := pool [(5, u "<init>"), (0, u "()V"), (1, .class_ 10), (1, u "java/lang/Object")] 113

def k0m0 : Method := { name := "<init>", desc := "()V", sig := { parameters := [], returnType := none }, accessFlags := 1, code := none }
/-- java/lang/Object -/
def k0 : Class := { plain "java/lang/Object" none with
  accessFlags := 33
  interfaces := #[]
  cf := some (fileOf pool0 8 #[] #[{ accessFlags := 1, nameIndex := 5, descriptorIndex := 6, attributes := #[] }] 33 0 #[] #[])
  fields := #[]
  methods := #[k0m0]
  instanceTypes := #[]
  staticTypes := #[]
  resolved := Array.replicate 124 none
  statics := none }

def pool1 : Array CpInfo := pool [(2, .class_ 4), (1, u "java/lang/Object"), (0, u "<init>"), (0, u "()V"), (0, .integer 2147483647), (0, .methodref 9 10), (0, .class_ 11), (0, .nameAndType 12 13), (0, u "com/example/sealwire/sealwire/procedure/keyfile/Rdh2Records"), (0, u "unsigned"), (0, u "([BII)J"), (0, .class_ 15), (0, u "com/example/sealwire/sealwire/procedure/keyfile/Rdh2RecordsUnsignedPinLaw"), (2, u "law"), (0, u "(JJII)Z")] 5

def k1m0 : Method := { name := "<init>", desc := "()V", sig := { parameters := [], returnType := none }, accessFlags := 2, code := none }
def k1c1 : Code := { maxStack := 6, maxLocals := 11, code := code, exceptionTable := #[], attributes := #[] }
def k1m1 : Method := { name := "law", desc := "(JJII)Z", sig := { parameters := [.long, .long, .int, .int], returnType := some .boolean }, accessFlags := 9, code := some k1c1 }
/-- com/example/sealwire/sealwire/procedure/keyfile/Rdh2RecordsUnsignedPinLaw -/
def k1 : Class := { plain "com/example/sealwire/sealwire/procedure/keyfile/Rdh2RecordsUnsignedPinLaw" (some 0) with
  accessFlags := 49
  interfaces := #[]
  cf := some (fileOf pool1 14 #[] #[{ accessFlags := 2, nameIndex := 5, descriptorIndex := 6, attributes := #[] }, { accessFlags := 9, nameIndex := 18, descriptorIndex := 19, attributes := #[] }] 49 2 #[] #[])
  fields := #[]
  methods := #[k1m0, k1m1]
  instanceTypes := #[]
  staticTypes := #[]
  resolved := Array.replicate 25 none
  statics := none }

def pool2 : Array CpInfo := pool [(2, .class_ 4), (1, u "java/lang/Object"), (0, u "<init>"), (0, u "()V"), (3, .class_ 11), (0, u "com/example/sealwire/sealwire/procedure/keyfile/Rdh2Records"), (10, u "unsigned"), (0, u "([BII)J"), (1, .class_ 26), (0, u "com/example/sealwire/sealwire/procedure/keyfile/Rdh2Records$RecordAt"), (66, u "HEADER_LENGTH"), (0, u "I"), (2, u "MAX_FIELD_VALUE"), (21, .class_ 120), (0, u "com/example/sealwire/sealwire/procedure/keyfile/Rdh2Records$ValueReader")] 19

def k2m0 : Method := { name := "<init>", desc := "()V", sig := { parameters := [], returnType := none }, accessFlags := 2, code := none }
def k2c1 : Code := { maxStack := 5, maxLocals := 6, code := prog_46_method_4_code, exceptionTable := #[], attributes := #[] }
def k2m1 : Method := { name := "unsigned", desc := "([BII)J", sig := { parameters := [(.array .byte), .int, .int], returnType := some .long }, accessFlags := 8, code := some k2c1 }
/-- com/example/sealwire/sealwire/procedure/keyfile/Rdh2Records -/
def k2 : Class := { plain "com/example/sealwire/sealwire/procedure/keyfile/Rdh2Records" (some 0) with
  accessFlags := 48
  interfaces := #[]
  cf := some (fileOf pool2 10 #[.nestMembers #[119, 25]] #[{ accessFlags := 2, nameIndex := 5, descriptorIndex := 6, attributes := #[] }, { accessFlags := 8, nameIndex := 22, descriptorIndex := 23, attributes := #[] }] 48 2 #[] #[{ accessFlags := 24, nameIndex := 93, descriptorIndex := 94, attributes := #[] }, { accessFlags := 26, nameIndex := 97, descriptorIndex := 94, attributes := #[] }])
  fields := #[{ name := "HEADER_LENGTH", type := .int, accessFlags := 24, slot := 0, constantValue := 0 }, { name := "MAX_FIELD_VALUE", type := .int, accessFlags := 26, slot := 1, constantValue := 0 }]
  methods := #[k2m0, k2m1]
  instanceTypes := #[]
  staticTypes := #[.int, .int]
  resolved := Array.replicate 140 none
  statics := none }

def pool3 : Array CpInfo := pool [(1, u "java/lang/Cloneable"), (0, .class_ 1), (0, u "java/lang/Object"), (0, .class_ 3)] 3

/-- java/lang/Cloneable -/
def k3 : Class := { plain "java/lang/Cloneable" (some 0) with
  accessFlags := 1537
  interfaces := #[]
  cf := some (fileOf pool3 2 #[] #[] 1537 4 #[] #[])
  fields := #[]
  methods := #[]
  instanceTypes := #[]
  staticTypes := #[]
  resolved := Array.replicate 8 none
  statics := none }

def pool4 : Array CpInfo := pool [(1, u "java/io/Serializable"), (0, .class_ 1), (0, u "java/lang/Object"), (0, .class_ 3)] 3

/-- java/io/Serializable -/
def k4 : Class := { plain "java/io/Serializable" (some 0) with
  accessFlags := 1537
  interfaces := #[]
  cf := some (fileOf pool4 2 #[] #[] 1537 4 #[] #[])
  fields := #[]
  methods := #[]
  instanceTypes := #[]
  staticTypes := #[]
  resolved := Array.replicate 8 none
  statics := none }

/-- the primitive byte -/
def k5 : Class := { plain "byte" none with kind := .primitive 'B', accessFlags := 0x411 }
/-- [B -/
def k6 : Class := { plain "[B" (some 0) with kind := .array 5 .byte, interfaces := #[3, 4], accessFlags := 1041 }

/-- the primitive int -/
def k7 : Class := { plain "int" none with kind := .primitive 'I', accessFlags := 0x411 }
/-- [I -/
def k8 : Class := { plain "[I" (some 0) with kind := .array 7 .int, interfaces := #[3, 4], accessFlags := 1041 }

def heap : Heap := #[]
def classes : Array Class := #[k0, k1, k2, k3, k4, k5, k6, k7, k8]
def interned : List (Array UInt16 × Addr) := []
def slotsUsed : Nat := 0
def theMethod : MethodId := ⟨1, 1⟩
def args0 : Array Value := #[.long 300, .long 70000, .int 1, .int 3]
def aboutOver (below : List Frame) : State where
  vm := { classes := classes, interned := interned.toArray }
  heap := heap
  slotsUsed := slotsUsed
  threads := #[{ frames := .invoking theMethod args0 :: below }]
def below0 : List Frame := [.native { method := ⟨0, 0⟩, args := #[] }]
def about1 : State := aboutOver below0
def p0 : Program := .bare "" "" ""
def e0 : Env := launch0.env 0 0 0
theorem w_frames : about1.frames = Frame.invoking theMethod args0 :: below0 := rfl
set_option maxRecDepth 65536 in
theorem w_args : argsFit about1.vm theMethod args0 = true := by decide +kernel
set_option maxRecDepth 65536 in
theorem w_heap : heapFits about1 = true := by decide +kernel
set_option maxRecDepth 65536 in
theorem w_runnable : about1.curStatus? = some .runnable := by decide +kernel
set_option maxRecDepth 65536 in
theorem w_alone : about1.alone = true := by decide +kernel
set_option maxRecDepth 65536 in
theorem w_named : about1.methodNamed? x = some theMethod := by decide +kernel
set_option maxRecDepth 65536 in
theorem w_hears : about1.hears theMethod below0 = true := by decide +kernel
set_option maxRecDepth 65536 in
theorem w_ripe : about1.ripe theMethod args0 below0 = true := by decide +kernel
theorem w_running : about1.status = .running := rfl
set_option maxRecDepth 65536 in
theorem w_room : about1.hasRoom e0.platform room_1 = true :=
  launch0.hasRoom_least _ room_1 (by decide +kernel) (by decide +kernel) (by decide +kernel) (by decide +kernel) (by decide +kernel) (by decide +kernel)
theorem allAtoms_all (ts : List Jvm.Cond) (a : Array Jvm.Value) (st : Jvm.State) : (allAtoms ts).before a st = ts.all (fun c => c.before a st) := by
  induction ts with
  | nil => rfl
  | cons c t ih =>
    show (Jvm.Cond.and c (allAtoms t)).before a st = _
    rw [Jvm.Cond.before_and, ih, List.all_cons]
def words1 : List Jvm.Cond := Jvm.Cond.code x code maxLocals ret :: tables_1
/-- a 'code' word, met by the world's own term for the bytes: nothing is compared byte by byte -/
theorem code_word {y : MethodName} {bytes : ByteArray} {mx : Nat} {rt : Option FieldType} {a : Array Value} {s : State} {m : MethodId} {meth : Method} {c : Code} (h1 : s.methodNamed? y = some m) (h2 : s.vm.method? m = some meth) (h3 : meth.code = some c) (h4 : c.code = bytes)
    (h5 : (c.maxLocals == mx && c.exceptionTable.isEmpty && decide (c.maxStack ≤ mostOperands) && decide (meth.sig.returnType = rt) && !meth.locks && decide (parseMethodDescriptor y.desc = some meth.sig)) = true) : (Jvm.Cond.code y bytes mx rt).before a s = true := by
  simp only [Bool.and_eq_true, beq_iff_eq, Bool.not_eq_true', decide_eq_true_eq] at h5
  obtain ⟨⟨⟨⟨⟨g1, g2⟩, g3⟩, g4⟩, g5⟩, g6⟩ := h5
  simp [Cond.before, Cond.holds, Cond.value, h1, h2, h3, h4, g1, g2, g3, g4, g5, g6]
def isCode : Jvm.Cond → Bool
  | .code _ _ _ _ => true
  | _ => false
theorem all_split {L : List Jvm.Cond} {P : Jvm.Cond → Bool} (h1 : L.all (fun c => isCode c || P c) = true) (h2 : ∀ c ∈ L.filter isCode, P c = true) : L.all P = true := by
  refine List.all_eq_true.mpr fun c hc => ?_
  have h := List.all_eq_true.mp h1 c hc
  rcases Bool.eq_false_or_eq_true (isCode c) with hi | hi
  · exact h2 c (List.mem_filter.mpr ⟨hc, hi⟩)
  · simpa [hi] using h
set_option maxRecDepth 65536 in
theorem w_c0 : (Jvm.Cond.code x code maxLocals ret).before args0 about1 = true := code_word (m := ⟨1, 1⟩) (meth := k1m1) (c := k1c1) (by decide +kernel) rfl rfl rfl (by decide +kernel)
set_option maxRecDepth 65536 in
theorem w_c1 : (Jvm.Cond.code ({ cls := "com/example/sealwire/sealwire/procedure/keyfile/Rdh2Records", name := "unsigned", desc := "([BII)J" } : Jvm.MethodName) prog_46_method_4_code (6 : Nat) (Option.some Jvm.ClassFile.FieldType.long)).before args0 about1 = true := code_word (m := ⟨2, 1⟩) (meth := k2m1) (c := k2c1) (by decide +kernel) rfl rfl rfl (by decide +kernel)
def codes1 : List Jvm.Cond := [Jvm.Cond.code x code maxLocals ret, Jvm.Cond.code ({ cls := "com/example/sealwire/sealwire/procedure/keyfile/Rdh2Records", name := "unsigned", desc := "([BII)J" } : Jvm.MethodName) prog_46_method_4_code (6 : Nat) (Option.some Jvm.ClassFile.FieldType.long)]
set_option maxRecDepth 65536 in
theorem codes_eq : words1.filter isCode = codes1 := rfl
theorem w_codes : ∀ c ∈ words1.filter isCode, c.before args0 about1 = true := by
  rw [codes_eq]
  intro c hc
  simp only [codes1, List.mem_cons, List.not_mem_nil, or_false] at hc
  rcases hc with rfl | rfl
  · exact w_c0
  · exact w_c1
set_option maxRecDepth 65536 in
theorem w_t1 : words1.all (fun c => isCode c || c.before args0 about1) = true := by decide +kernel
theorem w_tables : (allAtoms (Jvm.Cond.code x code maxLocals ret :: tables_1)).before args0 about1 = true := by
  rw [allAtoms_all]
  show words1.all (fun c => c.before args0 about1) = true
  refine all_split ?_ w_codes
  rw [w_t1]
set_option maxRecDepth 65536 in
theorem w_case : (Jvm.Cond.and given_1 narrow_1).before args0 about1 = true := by decide +kernel
theorem w_applies : (headSpec (Jvm.Cond.code x code maxLocals ret :: tables_1) room_1).applies x e0.platform about1 = true :=
  (Spec.applies_iff w_frames).mpr ⟨w_running, w_runnable, w_alone, w_named, w_hears, w_ripe, w_room, w_tables⟩
theorem atStart : AtStart classFile x code maxLocals ret World_1 tables_1 room_1 Calls_1 rest_1 Pre_1 launch0 p0 e0 about1 theMethod args0 below0 :=
  ⟨lists_1, trivial, launch0.admits_env _ _ _, launch0.least_env, fairChoices_fair.cas, fairChoices_fair.clock, w_frames, w_args, w_heap, w_applies, trivial, trivial, w_case⟩
end start1
theorem witness_1 : WitnessClaimed_1 := ⟨start1.p0, start1.e0, start1.about1, start1.theMethod, start1.args0, start1.below0, start1.atStart⟩
end Jvm.Pilot.@@N@@
